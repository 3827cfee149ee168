import PyProof.Rows.All
import Wide.All
import OpenK.AllK
import Wide.FinOn
import PySem.Challenge.RW_yj0026_01
open PySem PySem.W PyProof.Rows PySem.Spec PySem.Calls PySem.W.X
set_option Elab.async false
set_option linter.unusedVariables false
set_option maxRecDepth 100000
set_option maxHeartbeats 8000000
set_option compiler.extract_closed false
set_option genInjectivity false
set_option genSizeOf false
namespace Mine
abbrev VP := Value → Shared → Prop
theorem mS {α : Type} {a b : α} (h : a ∈ [b]) : a = b := List.mem_singleton.mp h
theorem mC {α : Type} {a b : α} {l : List α} (h : a ∈ b :: l) : a = b ∨ a ∈ l := List.mem_cons.mp h
theorem nM {α : Type} {a : α} : a ∉ [] := List.not_mem_nil
theorem nN {α : Type} {a : α} {P : Prop} (h : a ∈ []) : P := absurd h List.not_mem_nil
theorem exE1 {A:Type} {P:A→Prop} {G:Prop} (h:∃ a0,P a0) (k:∀ a0,P a0→G):G:=h.elim k
theorem exI1 {A:Type} {P:A→Prop} (a0:A) (h:P a0):∃ a0,P a0:=⟨a0,h⟩
theorem exE2 {A B:Type} {P:A→B→Prop} {G:Prop} (h:∃ a0 a1,P a0 a1) (k:∀ a0 a1,P a0 a1→G):G:=exE1 h fun a0 h=>exE1 h (k a0)
theorem exI2 {A B:Type} {P:A→B→Prop} (a0:A) (a1:B) (h:P a0 a1):∃ a0 a1,P a0 a1:=exI1 a0 (exI1 a1 h)
theorem exE3 {A B C:Type} {P:A→B→C→Prop} {G:Prop} (h:∃ a0 a1 a2,P a0 a1 a2) (k:∀ a0 a1 a2,P a0 a1 a2→G):G:=exE1 h fun a0 h=>exE2 h (k a0)
theorem exI3 {A B C:Type} {P:A→B→C→Prop} (a0:A) (a1:B) (a2:C) (h:P a0 a1 a2):∃ a0 a1 a2,P a0 a1 a2:=exI1 a0 (exI2 a1 a2 h)
theorem exE4 {A B C D:Type} {P:A→B→C→D→Prop} {G:Prop} (h:∃ a0 a1 a2 a3,P a0 a1 a2 a3) (k:∀ a0 a1 a2 a3,P a0 a1 a2 a3→G):G:=exE1 h fun a0 h=>exE3 h (k a0)
theorem exI4 {A B C D:Type} {P:A→B→C→D→Prop} (a0:A) (a1:B) (a2:C) (a3:D) (h:P a0 a1 a2 a3):∃ a0 a1 a2 a3,P a0 a1 a2 a3:=exI1 a0 (exI3 a1 a2 a3 h)
theorem exE5 {A B C D E:Type} {P:A→B→C→D→E→Prop} {G:Prop} (h:∃ a0 a1 a2 a3 a4,P a0 a1 a2 a3 a4) (k:∀ a0 a1 a2 a3 a4,P a0 a1 a2 a3 a4→G):G:=exE1 h fun a0 h=>exE4 h (k a0)
theorem exI5 {A B C D E:Type} {P:A→B→C→D→E→Prop} (a0:A) (a1:B) (a2:C) (a3:D) (a4:E) (h:P a0 a1 a2 a3 a4):∃ a0 a1 a2 a3 a4,P a0 a1 a2 a3 a4:=exI1 a0 (exI4 a1 a2 a3 a4 h)
theorem exE6 {A B C D E F:Type} {P:A→B→C→D→E→F→Prop} {G:Prop} (h:∃ a0 a1 a2 a3 a4 a5,P a0 a1 a2 a3 a4 a5) (k:∀ a0 a1 a2 a3 a4 a5,P a0 a1 a2 a3 a4 a5→G):G:=exE1 h fun a0 h=>exE5 h (k a0)
theorem exI6 {A B C D E F:Type} {P:A→B→C→D→E→F→Prop} (a0:A) (a1:B) (a2:C) (a3:D) (a4:E) (a5:F) (h:P a0 a1 a2 a3 a4 a5):∃ a0 a1 a2 a3 a4 a5,P a0 a1 a2 a3 a4 a5:=exI1 a0 (exI5 a1 a2 a3 a4 a5 h)
theorem exE7 {A B C D E F I:Type} {P:A→B→C→D→E→F→I→Prop} {G:Prop} (h:∃ a0 a1 a2 a3 a4 a5 a6,P a0 a1 a2 a3 a4 a5 a6) (k:∀ a0 a1 a2 a3 a4 a5 a6,P a0 a1 a2 a3 a4 a5 a6→G):G:=exE1 h fun a0 h=>exE6 h (k a0)
theorem exI7 {A B C D E F I:Type} {P:A→B→C→D→E→F→I→Prop} (a0:A) (a1:B) (a2:C) (a3:D) (a4:E) (a5:F) (a6:I) (h:P a0 a1 a2 a3 a4 a5 a6):∃ a0 a1 a2 a3 a4 a5 a6,P a0 a1 a2 a3 a4 a5 a6:=exI1 a0 (exI6 a1 a2 a3 a4 a5 a6 h)
theorem exE8 {A B C D E F I J:Type} {P:A→B→C→D→E→F→I→J→Prop} {G:Prop} (h:∃ a0 a1 a2 a3 a4 a5 a6 a7,P a0 a1 a2 a3 a4 a5 a6 a7) (k:∀ a0 a1 a2 a3 a4 a5 a6 a7,P a0 a1 a2 a3 a4 a5 a6 a7→G):G:=exE1 h fun a0 h=>exE7 h (k a0)
theorem exI8 {A B C D E F I J:Type} {P:A→B→C→D→E→F→I→J→Prop} (a0:A) (a1:B) (a2:C) (a3:D) (a4:E) (a5:F) (a6:I) (a7:J) (h:P a0 a1 a2 a3 a4 a5 a6 a7):∃ a0 a1 a2 a3 a4 a5 a6 a7,P a0 a1 a2 a3 a4 a5 a6 a7:=exI1 a0 (exI7 a1 a2 a3 a4 a5 a6 a7 h)
theorem exE9 {A B C D E F I J K:Type} {P:A→B→C→D→E→F→I→J→K→Prop} {G:Prop} (h:∃ a0 a1 a2 a3 a4 a5 a6 a7 a8,P a0 a1 a2 a3 a4 a5 a6 a7 a8) (k:∀ a0 a1 a2 a3 a4 a5 a6 a7 a8,P a0 a1 a2 a3 a4 a5 a6 a7 a8→G):G:=exE1 h fun a0 h=>exE8 h (k a0)
theorem exI9 {A B C D E F I J K:Type} {P:A→B→C→D→E→F→I→J→K→Prop} (a0:A) (a1:B) (a2:C) (a3:D) (a4:E) (a5:F) (a6:I) (a7:J) (a8:K) (h:P a0 a1 a2 a3 a4 a5 a6 a7 a8):∃ a0 a1 a2 a3 a4 a5 a6 a7 a8,P a0 a1 a2 a3 a4 a5 a6 a7 a8:=exI1 a0 (exI8 a1 a2 a3 a4 a5 a6 a7 a8 h)
theorem anE2 {A B G:Prop} (h:A∧B) (k:A→B→G):G:=k h.1 h.2
theorem anI2 {A B:Prop} (a0:A) (a1:B):A∧B:=⟨a0,a1⟩
theorem anE3 {A B C G:Prop} (h:A∧B∧C) (k:A→B→C→G):G:=anE2 h.2 (k h.1)
theorem anI3 {A B C:Prop} (a0:A) (a1:B) (a2:C):A∧B∧C:=⟨a0,anI2 a1 a2⟩
theorem anE4 {A B C D G:Prop} (h:A∧B∧C∧D) (k:A→B→C→D→G):G:=anE3 h.2 (k h.1)
theorem anI4 {A B C D:Prop} (a0:A) (a1:B) (a2:C) (a3:D):A∧B∧C∧D:=⟨a0,anI3 a1 a2 a3⟩
theorem anE5 {A B C D E G:Prop} (h:A∧B∧C∧D∧E) (k:A→B→C→D→E→G):G:=anE4 h.2 (k h.1)
theorem anI5 {A B C D E:Prop} (a0:A) (a1:B) (a2:C) (a3:D) (a4:E):A∧B∧C∧D∧E:=⟨a0,anI4 a1 a2 a3 a4⟩
theorem anE6 {A B C D E F G:Prop} (h:A∧B∧C∧D∧E∧F) (k:A→B→C→D→E→F→G):G:=anE5 h.2 (k h.1)
theorem anI6 {A B C D E F:Prop} (a0:A) (a1:B) (a2:C) (a3:D) (a4:E) (a5:F):A∧B∧C∧D∧E∧F:=⟨a0,anI5 a1 a2 a3 a4 a5⟩
theorem anE7 {A B C D E F I G:Prop} (h:A∧B∧C∧D∧E∧F∧I) (k:A→B→C→D→E→F→I→G):G:=anE6 h.2 (k h.1)
theorem anI7 {A B C D E F I:Prop} (a0:A) (a1:B) (a2:C) (a3:D) (a4:E) (a5:F) (a6:I):A∧B∧C∧D∧E∧F∧I:=⟨a0,anI6 a1 a2 a3 a4 a5 a6⟩
theorem anE8 {A B C D E F I J G:Prop} (h:A∧B∧C∧D∧E∧F∧I∧J) (k:A→B→C→D→E→F→I→J→G):G:=anE7 h.2 (k h.1)
theorem anI8 {A B C D E F I J:Prop} (a0:A) (a1:B) (a2:C) (a3:D) (a4:E) (a5:F) (a6:I) (a7:J):A∧B∧C∧D∧E∧F∧I∧J:=⟨a0,anI7 a1 a2 a3 a4 a5 a6 a7⟩
theorem anE9 {A B C D E F I J K G:Prop} (h:A∧B∧C∧D∧E∧F∧I∧J∧K) (k:A→B→C→D→E→F→I→J→K→G):G:=anE8 h.2 (k h.1)
theorem anI9 {A B C D E F I J K:Prop} (a0:A) (a1:B) (a2:C) (a3:D) (a4:E) (a5:F) (a6:I) (a7:J) (a8:K):A∧B∧C∧D∧E∧F∧I∧J∧K:=⟨a0,anI8 a1 a2 a3 a4 a5 a6 a7 a8⟩
theorem anE10 {A B C D E F I J K L G:Prop} (h:A∧B∧C∧D∧E∧F∧I∧J∧K∧L) (k:A→B→C→D→E→F→I→J→K→L→G):G:=anE9 h.2 (k h.1)
theorem anI10 {A B C D E F I J K L:Prop} (a0:A) (a1:B) (a2:C) (a3:D) (a4:E) (a5:F) (a6:I) (a7:J) (a8:K) (a9:L):A∧B∧C∧D∧E∧F∧I∧J∧K∧L:=⟨a0,anI9 a1 a2 a3 a4 a5 a6 a7 a8 a9⟩
theorem anE11 {A B C D E F I J K L M G:Prop} (h:A∧B∧C∧D∧E∧F∧I∧J∧K∧L∧M) (k:A→B→C→D→E→F→I→J→K→L→M→G):G:=anE10 h.2 (k h.1)
theorem anI11 {A B C D E F I J K L M:Prop} (a0:A) (a1:B) (a2:C) (a3:D) (a4:E) (a5:F) (a6:I) (a7:J) (a8:K) (a9:L) (a10:M):A∧B∧C∧D∧E∧F∧I∧J∧K∧L∧M:=⟨a0,anI10 a1 a2 a3 a4 a5 a6 a7 a8 a9 a10⟩
theorem anE12 {A B C D E F I J K L M N G:Prop} (h:A∧B∧C∧D∧E∧F∧I∧J∧K∧L∧M∧N) (k:A→B→C→D→E→F→I→J→K→L→M→N→G):G:=anE11 h.2 (k h.1)
theorem anI12 {A B C D E F I J K L M N:Prop} (a0:A) (a1:B) (a2:C) (a3:D) (a4:E) (a5:F) (a6:I) (a7:J) (a8:K) (a9:L) (a10:M) (a11:N):A∧B∧C∧D∧E∧F∧I∧J∧K∧L∧M∧N:=⟨a0,anI11 a1 a2 a3 a4 a5 a6 a7 a8 a9 a10 a11⟩
theorem holds:∃ H:Nat→Prop→Prop,(∀ n p,H n p→p)∧∀ n p,p→H n p:=⟨fun _ p=>p,fun _ _ h=>h,fun _ _ h=>h⟩
theorem fm1 {α:Type} {P:α→Prop} {a0:α} {l:List α} (x0:P a0) (t:∀ p∈l,P p):∀ p∈a0::l,P p:=List.forall_mem_cons.mpr ⟨x0,t⟩
theorem fm2 {α:Type} {P:α→Prop} {a0 a1:α} {l:List α} (x0:P a0) (x1:P a1) (t:∀ p∈l,P p):∀ p∈a0::a1::l,P p:=fm1 x0 (fm1 x1 t)
theorem fm3 {α:Type} {P:α→Prop} {a0 a1 a2:α} {l:List α} (x0:P a0) (x1:P a1) (x2:P a2) (t:∀ p∈l,P p):∀ p∈a0::a1::a2::l,P p:=fm1 x0 (fm2 x1 x2 t)
theorem fm4 {α:Type} {P:α→Prop} {a0 a1 a2 a3:α} {l:List α} (x0:P a0) (x1:P a1) (x2:P a2) (x3:P a3) (t:∀ p∈l,P p):∀ p∈a0::a1::a2::a3::l,P p:=fm1 x0 (fm3 x1 x2 x3 t)
theorem fm5 {α:Type} {P:α→Prop} {a0 a1 a2 a3 a4:α} {l:List α} (x0:P a0) (x1:P a1) (x2:P a2) (x3:P a3) (x4:P a4) (t:∀ p∈l,P p):∀ p∈a0::a1::a2::a3::a4::l,P p:=fm1 x0 (fm4 x1 x2 x3 x4 t)
theorem fm6 {α:Type} {P:α→Prop} {a0 a1 a2 a3 a4 a5:α} {l:List α} (x0:P a0) (x1:P a1) (x2:P a2) (x3:P a3) (x4:P a4) (x5:P a5) (t:∀ p∈l,P p):∀ p∈a0::a1::a2::a3::a4::a5::l,P p:=fm1 x0 (fm5 x1 x2 x3 x4 x5 t)
theorem fm7 {α:Type} {P:α→Prop} {a0 a1 a2 a3 a4 a5 a6:α} {l:List α} (x0:P a0) (x1:P a1) (x2:P a2) (x3:P a3) (x4:P a4) (x5:P a5) (x6:P a6) (t:∀ p∈l,P p):∀ p∈a0::a1::a2::a3::a4::a5::a6::l,P p:=fm1 x0 (fm6 x1 x2 x3 x4 x5 x6 t)
theorem fm8 {α:Type} {P:α→Prop} {a0 a1 a2 a3 a4 a5 a6 a7:α} {l:List α} (x0:P a0) (x1:P a1) (x2:P a2) (x3:P a3) (x4:P a4) (x5:P a5) (x6:P a6) (x7:P a7) (t:∀ p∈l,P p):∀ p∈a0::a1::a2::a3::a4::a5::a6::a7::l,P p:=fm1 x0 (fm7 x1 x2 x3 x4 x5 x6 x7 t)
theorem iN {M:PySem.Model} {A:PySem.Around} {E:PySem.Value→PySem.Shared→Prop} {s:PySem.Shared} {α:Type} {c:Prop} [Decidable c] {a b:PySem.Sem α} {Q:α→PySem.Shared→Prop} (hc:¬c) (h:PySem.wpAny M A b Q E s):PySem.wpAny M A (if c then a else b) Q E s:=by rw [if_neg hc]; exact h
theorem iP {M:PySem.Model} {A:PySem.Around} {E:PySem.Value→PySem.Shared→Prop} {s:PySem.Shared} {α:Type} {c:Prop} [Decidable c] {a b:PySem.Sem α} {Q:α→PySem.Shared→Prop} (hc:c) (h:PySem.wpAny M A a Q E s):PySem.wpAny M A (if c then a else b) Q E s:=by rw [if_pos hc]; exact h
theorem me1 {α:Type} {x0 x1:α} {l:List α}:x1∈x0::x1::l:=.tail _ (.head _)
theorem me2 {α:Type} {x0 x1 x2:α} {l:List α}:x2∈x0::x1::x2::l:=.tail _ (.tail _ (.head _))
theorem me3 {α:Type} {x0 x1 x2 x3:α} {l:List α}:x3∈x0::x1::x2::x3::l:=.tail _ (.tail _ (.tail _ (.head _)))
theorem me4 {α:Type} {x0 x1 x2 x3 x4:α} {l:List α}:x4∈x0::x1::x2::x3::x4::l:=.tail _ (.tail _ (.tail _ (.tail _ (.head _))))
theorem me5 {α:Type} {x0 x1 x2 x3 x4 x5:α} {l:List α}:x5∈x0::x1::x2::x3::x4::x5::l:=.tail _ (.tail _ (.tail _ (.tail _ (.tail _ (.head _)))))
theorem me6 {α:Type} {x0 x1 x2 x3 x4 x5 x6:α} {l:List α}:x6∈x0::x1::x2::x3::x4::x5::x6::l:=.tail _ (.tail _ (.tail _ (.tail _ (.tail _ (.tail _ (.head _))))))
theorem me7 {α:Type} {x0 x1 x2 x3 x4 x5 x6 x7:α} {l:List α}:x7∈x0::x1::x2::x3::x4::x5::x6::x7::l:=.tail _ (.tail _ (.tail _ (.tail _ (.tail _ (.tail _ (.tail _ (.head _)))))))
theorem lbd {a n m:Nat} (h:a≤n) (k:Nat.ble n m=true):a≤m:=Nat.le_trans h (Nat.le_of_ble_eq_true k)
theorem lbm {a n m:Nat} (h:a≤n) (k:Nat.ble (n+1) m=true):a<m:=Nat.lt_of_le_of_lt h (Nat.le_of_ble_eq_true k)
theorem lbe {a b n m:Nat} (e:a=b) (h:b≤n) (k:Nat.ble n m=true):a≤m:=e▸lbd h k
theorem lbi {a n:Nat} (h:a≤n) (k:Nat.ble n 1000000=true):(a:Int)<2^63:=Int.lt_of_le_of_lt (Int.ofNat_le.mpr (Nat.le_trans h (Nat.le_of_ble_eq_true k))) (by decide)
theorem lbk {a n:Nat} (h:a≤n) (k:Nat.ble n 1000000=true):(a:Int)<9223372036854775808:=lbi h k
theorem lte {a b c:Nat} (h:a<b) (e:c=b):a<c:=e▸h
theorem lpe {a b c:Nat} (h:a<b) (e:b=c):a<c:=e▸h
theorem npz {a:Nat} (h:0<a):((a:Nat):Int)≠0:=fun e=>Nat.ne_of_gt h (Int.ofNat_eq_zero.mp e)
theorem wsu {i n:Nat} (h:i<n):n+1-(i+1)<n+1-i:=by rw [Nat.add_sub_add_right,Nat.succ_sub (Nat.le_of_lt h)]; exact Nat.lt_succ_self _
theorem sb1 {i n k:Nat} (h:n-i=k+1):n-(i+1)=k:=(Nat.sub_sub n i 1).symm.trans (congrArg (fun z=>z-1) h)
theorem sb2 {i n k:Nat} (h:n-i=k+1):i<n:=Nat.lt_of_not_le fun q=>by rw [Nat.sub_eq_zero_of_le q] at h; cases h
theorem sb3 {i n:Nat} (h:n-i=0):n≤i:=Nat.le_of_sub_eq_zero h
theorem lss {n:Nat}:n<n+1:=Nat.lt_succ_self n
theorem ls2 {n:Nat}:n<n+1+1:=Nat.lt_succ_of_lt lss
theorem ls3 {n:Nat}:n<n+1+1+1:=Nat.lt_succ_of_lt ls2
theorem ls4 {n:Nat}:n<n+1+1+1+1:=Nat.lt_succ_of_lt ls3
theorem ls5 {n:Nat}:n<n+1+1+1+1+1:=Nat.lt_succ_of_lt ls4
theorem ls6 {n:Nat}:n<n+1+1+1+1+1+1:=Nat.lt_succ_of_lt ls5
local macro_rules | `(tactic| omega) => `(tactic| first | assumption | decide | (with_reducible first | exact Int.natCast_nonneg _ | exact lbd (by assumption) (by decide) | exact lbm (by assumption) (by decide) | exact lbe (by assumption) (by assumption) (by decide) | exact lbk (by assumption) (by decide) | exact lte (by assumption) (by assumption) | exact lpe (by assumption) (by assumption) | exact Nat.ne_of_gt (by assumption) | exact Nat.ne_of_gt (And.right (by assumption)) | exact npz (by assumption) | exact wsu (by assumption) | exact sb1 (by assumption) | exact sb2 (by assumption) | exact sb3 (by assumption) | exact lss | exact ls2 | exact ls3 | exact ls4 | exact ls5 | exact ls6) | lia)
local macro_rules | `(tactic| k_mem) => `(tactic| first | exact List.Mem.head _ | exact me1 | exact me2 | exact me3 | exact me4 | exact me5 | exact me6 | exact me7)
set_option hygiene false in
local macro_rules | `(tactic| k_ne) => `(tactic| (refine neN ?_; (try dsimp only); first | assumption | exact Ne.symm (by assumption) | exact allNe_find (by assumption) (by k_mem) | exact Ne.symm (allNe_find (by assumption) (by k_mem)) | omega))
set_option hygiene false in
local macro_rules | `(tactic| k_all) => `(tactic| first | assumption | exact allLt_ne (by assumption) | exact exNe lx (by k_mem))
set_option hygiene false in
local macro_rules | `(tactic| walk_at "wpAt") => `(tactic| ((try dsimp only); first | (ks_step "eval Call"; k_dflt (refine ks_wpAt_MethodCall ?_)) | (ks_step "exec Expr"; k_dflt (refine ks_wpAt_Expr_any ?_)) | (ks_step "execs cons"; refine ks_wpAt_execs_cons ?_) | (ks_step "exec Return"; refine ks_wpAt_Return_some ?_) | (ks_step "attributeBase Call"; refine hold 9 _ ?_)))
set_option hygiene false in
local macro_rules | `(tactic| walk_at "eval Name") => `(tactic| (k_here; rename Fr _ _ _ _ => F; k_dflt (first | refine nameX_L F nm1 ?_ | refine nameX_L F nm2 ?_ | refine nameX_L F nm3 ?_ | refine nameX_L F nm4 ?_ | refine nameX_L F nm5 ?_ | refine nameX_L F nm6 ?_)))
set_option hygiene false in
local macro_rules | `(tactic| walk_at $_) => `(tactic| (with_reducible first | refine qA ?_ | refine qB ?_ | refine qC ?_ | refine qD ?_ | refine qE ?_ | refine qF ?_ | refine qG ?_ | refine qH ?_ | refine qI ?_ | refine qJ ?_ | refine qK ?_ | refine qL ?_))
section
local macro_rules | `(tactic| o_head $H) => `(tactic| assumption)
theorem frag (h : PySem.Challenge.rw_yj0026_01.row.Holds) : PySem.Challenge.rw_yj0026_01.row.Holds := by
  k_head
end
section
noncomputable abbrev prog:Program:=PySem.Challenge.rw_yj0026_01.row.prog
noncomputable def TabOk (P:Addr) (q:Str) (ln cl:Int) (h:Heap):Prop :=
 h.get? P=some (tabObj #[])∨∃ c',250≤c'∧h.get? P=some (tabObj #[rawInt ln,rawInt cl,.ref c'])∧h.CodeRec (.ref c') q
structure TabsOk (h:Heap):Prop where
 t86:TabOk 86 (Str.ofString "_int2digits.<locals>.inner") 91 4 h
 t93:TabOk 93 (Str.ofString "_digits2int.<locals>.inner") 106 4 h
 t162:TabOk 162 (Str.ofString "_Accumulator.__len__.<locals>.<genexpr>") 158 19 h
 t169:TabOk 169 (Str.ofString "_Accumulator.__str__.<locals>.<genexpr>") 161 32 h
 t234:TabOk 234 (Str.ofString "_law_rule.<locals>.reach") 202 4 h
noncomputable def TB:List Addr:=[86,93,162,169,234]
noncomputable def TopOk (h:Heap):Prop:=∃ loose mean mg mb,Top topProg loose mean mg mb h
structure Inv (w:World) (h:Heap):Prop where
 K:(frag.heap_1 w.params).In h
 T:TopOk h
 tabs:TabsOk h
 low:∀ b,b < 250→∃ o,h.get? b=some o
noncomputable def Keeps (T:List Addr) (h h':Heap):Prop:=∀ b o,h.get? b=some o→b∉T→h'.get? b=some o
theorem Keeps.refl {T:List Addr} {h:Heap}:Keeps T h h:=fun _ _ e _=>e
structure Step (w:World) (T:List Addr) (s s':Shared):Prop where
 keep:Keeps T s.heap s'.heap
 os:s'.os=s.os
 gens:AllBare s.gens→AllBare s'.gens
 inv:Inv w s'.heap
theorem Step.refl {w:World} {T:List Addr} {s:Shared} (I:Inv w s.heap):Step w T s s:=⟨Keeps.refl,rfl,id,I⟩
theorem Step.trans {w:World} {T T':List Addr} {s s' s'':Shared} (x:Step w T s s') (y:Step w T' s' s'') (h:∀ a∈T',a∈T∨s.heap.get? a=none):Step w T s s'' :=
 ⟨fun b o e hb=>y.keep b o (x.keep b o e hb) fun hm=>(h b hm).elim hb fun q=>(by rw [q] at e;cases e),
   y.os.trans x.os,fun g=>y.gens (x.gens g),y.inv⟩
theorem Step.toks {w:World} {T:List Addr} {s s':Shared} (x:Step w T s s') (n:Nat):Step w T s { s' with toks:=n }:=⟨x.keep,x.os,x.gens,x.inv⟩
noncomputable def At (h:Heap) (a:Addr) (o:Obj):Prop:=h.get? a=some o∧250≤a
theorem At.keep {w:World} {T:List Addr} {s s':Shared} {a:Addr} {o:Obj} (x:At s.heap a o) (y:Step w T s s') (h:a∉T):At s'.heap a o:=⟨y.keep a o x.1 h,x.2⟩
theorem At.lt {h:Heap} {a:Addr} {o:Obj} (x:At h a o):a < h.objs.size:=Heap.lt_size x.1
theorem At.uniq {h:Heap} {a:Addr} {o o':Obj} (x:At h a o) (y:At h a o'):o=o':=Option.some.inj (x.1.symm.trans y.1)
structure Lvl (A:Around) (d:Nat):Prop where
 handled:A.handled=none
 depth:A.depth≤d
 units:A.units≤10*d
noncomputable abbrev AL (d:Nat) (fr:Option (List Env)) (gd:Option (List Code)):Around:={ handled:=none,depth:=d,frames:=fr,guards:=gd,units:=10*d }
theorem weaken {α:Type} {M:Model} {A:Around} {d:Nat} {t:Sem α} {Q:α→Shared→Prop} {E:VP} {s:Shared} (l:Lvl A d)
 (h:∀ fr gd,wpAny M (AL d fr gd) t Q E s):wpAny M A t Q E s:=fun Γ p hΓ =>
 h A.frames A.guards Γ p ⟨hΓ.1.trans l.handled,Nat.le_trans hΓ.2.1 l.depth,hΓ.2.2.1,hΓ.2.2.2.1,Nat.le_trans hΓ.2.2.2.2 l.units⟩
theorem weakenC {M:Model} {A:Around} {d:Nat} {c:Code} {R:Result→Shared→Prop} {s:Shared} (l:Lvl A d)
 (h:∀ fr gd,codeAny M (AL d fr gd) c R s):codeAny M A c R s:=fun Γ p hc hΓ =>
 h A.frames A.guards Γ p hc ⟨hΓ.1.trans l.handled,Nat.le_trans hΓ.2.1 l.depth,hΓ.2.2.1,hΓ.2.2.2.1,Nat.le_trans hΓ.2.2.2.2 l.units⟩
theorem lvl_AL {d d':Nat} {fr:Option (List Env)} {gd:Option (List Code)} (h:d≤d'):Lvl (AL d fr gd) d':=⟨rfl,h,Nat.mul_le_mul_left 10 h⟩
theorem lvl_deeper {d d':Nat} {fr:Option (List Env)} {gd:Option (List Code)} {env:Env} (h:d < d'):Lvl ((AL d fr gd).deeper env) d' :=
 ⟨rfl,h,by show 10*d+3≤10*d';omega⟩
theorem kf_low:∀ P,((frag.heap_1 P).all fun p=>Nat.blt p.1 250)=true:=fun P=>by kernel_rfl
theorem kf_lt {P:Params} {a:Addr} {o:Obj} (e:(frag.heap_1 P).lookup a=some o):a < 250:=by
 have h:=List.all_eq_true.mp (kf_low P) (a,o) (mem_of_lookupK e)
 exact Nat.le_of_ble_eq_true h
theorem kf_noTB:∀ P,((frag.heap_1 P).all fun p=>!(TB.contains p.1))=true:=fun P=>by kernel_rfl
noncomputable def isCode (o:Obj):Bool:=match o.data with
 | .fields vs=>(match vs[1]? with | some (Value.str _ _)=>true | _=>false)
 | _=>false
theorem TabOk.keeps {P:Addr} {q:Str} {ln cl:Int} {h h':Heap} (x:TabOk P q ln cl h) (hk:∀ b o,h.get? b=some o→(b < 250∨isCode o=true)→h'.get? b=some o) (hP:P < 250):TabOk P q ln cl h':=by
 rcases x with e | ⟨c',h1,h2,c,o,vs,t,e,g,d,r⟩
 · exact .inl (hk _ _ e (.inl hP))
 · exact .inr ⟨c',h1,hk _ _ h2 (.inl hP),c,o,vs,t,e,hk _ _ g (.inr (by unfold isCode;rw [d];dsimp only;rw [r])),d,r⟩
theorem TabsOk.keeps {h h':Heap} (x:TabsOk h) (hk:∀ b o,h.get? b=some o→(b < 250∨isCode o=true)→h'.get? b=some o):TabsOk h' :=
 ⟨x.t86.keeps hk (by decide),x.t93.keeps hk (by decide),x.t162.keeps hk (by decide),x.t169.keeps hk (by decide),x.t234.keeps hk (by decide)⟩
theorem TopOk.keeps {h h':Heap} (x:TopOk h) (low:∀ b,b < 250→∃ o,h.get? b=some o) (hb:∃ P,(frag.heap_1 P).In h) (hk:∀ b o,h.get? b=some o→b < 250→h'.get? b=some o):TopOk h':=by
 refine exE4 x fun loose mean mg mb T=>?_;try clear x
 obtain ⟨P,X⟩:=hb
 have ns:∀ {a:Addr} {m:Str→Option Value},a < 250→h.Ns a m→h'.Ns a m:=fun ha ⟨o,es,ep,e,r⟩=>⟨o,es,ep,hk _ _ e ha,r⟩
 refine ⟨loose,mean,mg,mb,ns (by decide) T.g,ns (by decide) T.b,let ⟨mc,a,r⟩:=T.nolimit;⟨mc,ns (by decide) a,r⟩,let ⟨mc,a,r⟩:=T.nodigits;⟨mc,ns (by decide) a,r⟩,
  fun d hd=>absurd (show d∈([]:List DefRec) from hd) nM,fun o ho=>absurd (show o∈([]:List OwnSpec) from ho) nM,T.const,T.free,T.builtins,
  fun d hd=>absurd (show d∈([]:List DefRec) from hd) nM,?_,fun e=>absurd (show false=true from e) Bool.false_ne_true⟩
 refine exE2 T.bmain fun bm ob hh=>anE4 hh fun a1 a2 a3 a4=>?_;clear hh
 have e4:=mg_of X T.g (n:="__builtins__") (v:=.ref 4) (by kernel_rfl)
 rw [a1] at e4
 cases e4
 exact exI2 4 ob (anI4 a1 a2 (hk _ _ a3 (by decide)) a4)
theorem Inv.keeps {w:World} {h h':Heap} (x:Inv w h) (hk:∀ b o,h.get? b=some o→(b < 250∨isCode o=true)→h'.get? b=some o):Inv w h' :=
 ⟨fun a o e=>hk _ _ (x.K a o e) (.inl (kf_lt e)),x.T.keeps x.low ⟨_,x.K⟩ fun b o e hb=>hk b o e (.inl hb),x.tabs.keeps hk,fun b hb=>let ⟨o,e⟩:=x.low b hb;⟨o,hk b o e (.inl hb)⟩⟩
theorem Inv.keepAll {w:World} {h h':Heap} (x:Inv w h) (hk:∀ b o,h.get? b=some o→h'.get? b=some o):Inv w h':=x.keeps fun b o e _=>hk b o e
theorem Inv.size {w:World} {h:Heap} (x:Inv w h):250≤h.objs.size:=by
 obtain ⟨o,e⟩:=x.low 249 (by decide)
 exact Heap.lt_size e
noncomputable abbrev isMut (o:Obj):Bool:=!isCode o
structure Base (w:World) (s:Shared) (led:List (Addr×Obj)) (g:Heap):Prop where
 inv:Inv w s.heap
 ats:∀ p∈led,At s.heap p.1 p.2∧isMut p.2=true
 eq:g=hideAll s.heap (led.map (·.1))
theorem Base.size {w:World} {s:Shared} {led:List (Addr×Obj)} {g:Heap} (B:Base w s led g):g.objs.size=s.heap.objs.size:=by rw [B.eq];exact hideAll_size _ _
theorem Base.of {w:World} {s:Shared} {led:List (Addr×Obj)} {g:Heap} (B:Base w s led g) {b:Addr} {o:Obj} (e:g.get? b=some o):s.heap.get? b=some o:=by rw [B.eq] at e;exact of_hideAll _ e
theorem Base.to {w:World} {s:Shared} {led:List (Addr×Obj)} {g:Heap} (B:Base w s led g) {b:Addr} {o:Obj} (e:s.heap.get? b=some o) (h:b∉led.map (·.1)):g.get? b=some o:=by rw [B.eq];exact hideAll_get _ e h
theorem Base.none {w:World} {s:Shared} {led:List (Addr×Obj)} {g:Heap} (B:Base w s led g) {p:Addr×Obj} (h:p∈led):g.get? p.1=none:=by rw [B.eq];exact hideAll_none _ (List.mem_map_of_mem h)
theorem Base.inv' {w:World} {s:Shared} {led:List (Addr×Obj)} {g:Heap} (B:Base w s led g):Inv w g:=by
 refine B.inv.keeps fun b o e h=>B.to e fun hm=>?_
 obtain ⟨p,hp,rfl⟩:=List.mem_map.mp hm
 obtain ⟨h1,h2⟩:=B.ats p hp
 rcases h with h | h
 · exact absurd h1.2 (Nat.not_le.mpr h)
 · have:=Option.some.inj (e.symm.trans h1.1)
   subst this
   rw [show isMut p.2=false by rw [isMut,h];rfl] at h2
   cases h2
theorem Base.step {w:World} {s:Shared} {led news:List (Addr×Obj)} {g h':Heap} {L:Addr} {m:Str→Option Value} (B:Base w s led g) (T:List Addr)
 (F:Fr g L h' m) (N:News g L h' news) (hT:∀ p∈led,p.1∈T∨p∈news) (tk:Nat):Step w T s { s with heap:=h',toks:=tk } where
 keep:=fun b o e hb=>by
  by_cases hm:b∈led.map (·.1)
  · obtain ⟨p,hp,rfl⟩:=List.mem_map.mp hm
    rcases hT p hp with q | q
    · exact absurd q hb
    · have:=Option.some.inj (e.symm.trans (B.ats p hp).1.1)
      rw [this]
      exact (N p q).1
  · exact F.keep b o (B.to e hm)
 os:=rfl
 gens:=id
 inv:=B.inv'.keepAll F.keep
theorem Base.at {w:World} {s:Shared} {led news:List (Addr×Obj)} {g h':Heap} {L:Addr} {p:Addr×Obj} (B:Base w s led g) (N:News g L h' news) (h:p∈news):At h' p.1 p.2:=by
 refine ⟨(N p h).1,Nat.le_of_not_lt fun q=>?_⟩
 obtain ⟨o,e⟩:=B.inv'.low p.1 q
 have:=(N p h).2.2
 rw [e] at this
 cases this
theorem Fr.step {w:World} {g:Heap} {L:Addr} {m:Str→Option Value} {T:List Addr} {s s':Shared} {news:List (Addr×Obj)} (F:Fr g L s.heap m) (N:News g L s.heap news) (y:Step w T s s')
 (hT:∀ a∈T,∃ p∈news,p.1=a):Fr g L s'.heap m:=by
 have hn:∀ a∈T,a≠L∧g.get? a=none:=fun a ha=>let ⟨p,hp,e⟩:=hT a ha;e▸(N p hp).2
 refine exE3 F.ns fun o es ep hh=>anE2 hh fun e r=>?_;clear hh
 exact ⟨⟨o,es,ep,y.keep _ _ e fun hm=>(hn _ hm).1 rfl,r⟩,fun b o e=>y.keep b o (F.keep b o e) fun hm=>(by rw [(hn _ hm).2] at e;cases e),F.above⟩
theorem Fr.step0 {w:World} {g:Heap} {L:Addr} {m:Str→Option Value} {s s':Shared} (F:Fr g L s.heap m) (y:Step w [] s s'):Fr g L s'.heap m:=by
 refine exE3 F.ns fun o es ep hh=>anE2 hh fun e r=>?_;clear hh
 exact ⟨⟨o,es,ep,y.keep _ _ e nM,r⟩,fun b o e=>y.keep b o (F.keep b o e) nM,F.above⟩
theorem News.step {w:World} {g:Heap} {L:Addr} {T:List Addr} {s s':Shared} {news news':List (Addr×Obj)} (N:News g L s.heap news) (y:Step w T s s') (h:∀ p∈news',p∈news∧p.1∉T):News g L s'.heap news' :=
 fun p hp=>⟨y.keep _ _ (N p (h p hp).1).1 (h p hp).2,(N p (h p hp).1).2⟩
theorem News.step0 {w:World} {g:Heap} {L:Addr} {s s':Shared} {news:List (Addr×Obj)} (N:News g L s.heap news) (y:Step w [] s s'):News g L s'.heap news :=
 fun p hp=>⟨y.keep _ _ (N p hp).1 nM,(N p hp).2⟩
theorem News.fresh {g:Heap} {L a:Addr} {m:Str→Option Value} {s s':Shared} {news:List (Addr×Obj)} {o:Obj} (N:News g L s'.heap news) (F:Fr g L s.heap m) (x:At s'.heap a o) (f:s.heap.get? a=none):News g L s'.heap ((a,o) :: news):=fun p hp=>by
 rcases mC hp with rfl | hp
 · refine ⟨x.1,fun q=>?_,?_⟩
   · refine exE3 F.ns fun o' _ _ hh=>anE2 hh fun e _=>?_;clear hh
     rw [← q,f] at e
     cases e
   · cases q:g.get? a with
     | none=>rfl
     | some o'=>rw [F.keep _ _ q] at f;cases f
 · exact N p hp
theorem x_fin {Q:VP} {v:Value} {h₀ h:Heap} {chg news:List (Addr×Obj)} {g:Array GenState} {d:Drawn} {t:Nat} {os:OsState} (D:Mem h₀ h chg news) (k:Mem h₀ h chg news→Q v ⟨h,g,d,t,os⟩):Q v ⟨h,g,d,t,os⟩:=k D
theorem mem_at {h₀ h:Heap} {chg news:List (Addr×Obj)} (D:Mem h₀ h chg news) (i:Nat) {a:Addr} {o o':Obj} (hi:news[i]? = some (a,o)) (e:o=o'):h.get? a=some o':=e▸(D.nw _ (List.mem_of_getElem? hi)).1
theorem mem_fresh {h₀ h:Heap} {chg news:List (Addr×Obj)} (D:Mem h₀ h chg news) (i:Nat) {a:Addr} {o:Obj} (hi:news[i]? = some (a,o)):h₀.get? a=none:=(D.nw _ (List.mem_of_getElem? hi)).2
theorem mem_step {w:World} {s:Shared} {h':Heap} {news:List (Addr×Obj)} (I:Inv w s.heap) (D:Mem s.heap h' [] news) (tk:Nat):Step w [] s { s with heap:=h',toks:=tk } :=
 ⟨fun b o e _=>D.keep b o e (by rw [show away [] b=true from rfl,Bool.or_true]),rfl,id,I.keepAll fun b o e=>D.keep b o e (by rw [show away [] b=true from rfl,Bool.or_true])⟩
theorem Inv.above {w:World} {h:Heap} (I:Inv w h) {a:Addr} (f:h.get? a=none):250≤a:=Nat.le_of_not_lt fun q=>by
 obtain ⟨o,e⟩:=I.low a q
 rw [f] at e
 cases e
theorem mem_At {w:World} {h₀ h:Heap} {chg news:List (Addr×Obj)} (I:Inv w h₀) (D:Mem h₀ h chg news) (i:Nat) {a:Addr} {o o':Obj} (hi:news[i]? = some (a,o)) (e:o=o'):At h a o':=⟨mem_at D i hi e,I.above (mem_fresh D i hi)⟩
theorem mem_lt {h₀ h:Heap} {chg news:List (Addr×Obj)} (D:Mem h₀ h chg news) (i j:Nat) {a b:Addr} {oa ob:Obj} (hi:news[i]? = some (a,oa)) (hj:news[j]? = some (b,ob)) (ij:Nat.blt i j=true):@LT.lt Nat _ b a:=by
 have lt:i < j:=Nat.le_of_ble_eq_true ij
 obtain ⟨li,ei⟩:=List.getElem?_eq_some_iff.mp hi
 obtain ⟨lj,ej⟩:=List.getElem?_eq_some_iff.mp hj
 have q:=(List.pairwise_iff_getElem.mp D.ord) i j (by rw [List.length_map];exact li) (by rw [List.length_map];exact lj) lt
 rw [List.getElem_map,List.getElem_map,ei,ej] at q
 exact q
theorem inv_now {w:World} {s:Shared} {led:List (Addr×Obj)} {g h:Heap} {L:Addr} {m:Str→Option Value} (B:Base w s led g) (F:Fr g L h m):Inv w h:=B.inv'.keepAll F.keep
noncomputable def AllNe (a:Addr):List (Addr×Obj)→Prop
 | []=>True
 | p :: r=>@Ne Nat a p.1∧AllNe a r
theorem allNe_fresh {g:Heap} {L a:Addr} {s:Shared} (f:s.heap.get? a=none):∀ {news:List (Addr×Obj)},News g L s.heap news→AllNe a news
 | [],_=>trivial
 | p :: r,N=>⟨fun q=>(by have h:=(N p (.head _)).1;rw [← q,f] at h;cases h),allNe_fresh f fun q hq=>N q (.tail _ hq)⟩
theorem enter {w:World} {A:Around} {s:Shared} {Q E:VP} {name qual:Str} {params:Arguments} {body:List Stmt} {scope:Scope} {dV kV doc pm cdv ct oc:Value} {an od:Option Addr} {osl:Array (Option Value)} {f:Addr}
 {args:Args} {binds:List (Str×Value)} (led:List (Addr×Obj)) (I:Inv w s.heap) (hled:∀ p∈led,At s.heap p.1 p.2∧isMut p.2=true)
 (ho:(frag.heap_1 w.params).lookup f=some ⟨oc,od,.func (fnOf name qual params body scope dV kV doc pm an cdv ct),osl⟩) (hcd:codeIn (frag.heap_1 w.params) cdv qual=true) (hroom:A.depth < recursionLimit)
 (hbind:BindsTo s (fnOf name qual params body scope dV kV doc pm an cdv ct) args binds) (hloc:∀ y∈binds,scope.names.lookup y.1=some .local)
 (h:∀ g L' h₁ loose mean mg mb,Base w s led g→Fr g L' h₁ (fun y=>binds.reverse.lookup y)→News g L' h₁ led→(frag.heap_1 w.params).In g→Top topProg loose mean mg mb g →
   wpAny (model prog w) (A.deeper (envOf qual scope L' f cdv)) (execs body (envOf qual scope L' f cdv)) (fun fl s'=>Q (match fl with | .ret v=>v | _=>.none) s') (fun _ _=>False)
    { s with heap:=h₁,toks:=s.toks+binds.length })
 (hcell:∀ x∈scope.names,x.2≠.cell) (hco:scope.isCoroutine=false:=by rfl) (hgen:scope.isGenerator=false:=by rfl) (hk:scope.kind=.function:=by rfl) :
 wpAny (model prog w) A (call (.ref f) args.pos args.kw) Q E s:=by
 refine wpAny_call ?_
 refine exE4 I.T fun loose mean mg mb T=>?_
 have B:Base w s led (hideAll s.heap (led.map (·.1))):=⟨I,hled,rfl⟩
 refine exE4 B.inv'.T fun loose' mean' mg' mb' T'=>?_
 refine codeAny_call_def (fd:=fnOf name qual params body scope dV kV doc pm an cdv ct) (body:=body) (binds:=binds) hroom (I.K _ _ ho) rfl T.nolimit (codeRec_of I.K hcd) rfl hbind hcell hloc (fun h₁ hns hk₁=>?_) hco hgen hk
 refine wpAny_mono (h _ s.heap.objs.size h₁ loose' mean' mg' mb' B ⟨hns,fun b o e=>hk₁ b o (B.of e),Nat.le_of_eq B.size⟩ (fun p hp=>⟨hk₁ _ _ (hled p hp).1.1,Nat.ne_of_lt (hled p hp).1.lt,B.none hp⟩) B.inv'.K T') (fun fl s' hl=>?_) fun _ _ x=>x.elim
 cases fl <;> exact hl
theorem allNe_mem {a:Addr} {l:List (Addr×Obj)} (h:AllNe a l) (p:Addr×Obj) (m:p∈l):@Ne Nat a p.1:=by
 induction l with
 | nil=>cases m
 | cons q r ih =>
   rcases mC m with e | m
   · rw [e];exact h.1
   · exact ih h.2 m
theorem news_drop {w:World} {g:Heap} {L:Addr} {p:Addr×Obj} {s s':Shared} {news:List (Addr×Obj)} (N:News g L s.heap (p :: news)) (y:Step w [p.1] s s') (ne:AllNe p.1 news):News g L s'.heap news :=
 News.step N y fun q hq=>⟨.tail _ hq,fun h=>allNe_mem ne q hq (mS h).symm⟩
theorem fr_head {w:World} {g:Heap} {L:Addr} {m:Str→Option Value} {p:Addr×Obj} {s s':Shared} {news:List (Addr×Obj)} (F:Fr g L s.heap m) (N:News g L s.heap (p :: news)) (y:Step w [p.1] s s'):Fr g L s'.heap m :=
 Fr.step F N y fun a ha=>⟨p,.head _,(mS ha).symm⟩
noncomputable def Oth (s s':Shared):Prop:=s'.os=s.os∧(AllBare s.gens→AllBare s'.gens)
theorem Oth.refl {s:Shared}:Oth s s:=⟨rfl,id⟩
theorem Oth.step {w:World} {T:List Addr} {s s' s'':Shared} (x:Oth s s') (y:Step w T s' s''):Oth s s'':=⟨y.os.trans x.1,fun g=>y.gens (x.2 g)⟩
theorem Oth.next {w:World} {T:List Addr} {s s' s'':Shared} (y:Step w T s' s'') (x:Oth s s'):Oth s s'':=x.step y
theorem Base.fin {w:World} {s s':Shared} {led news:List (Addr×Obj)} {g:Heap} {L:Addr} {m:Str→Option Value} (B:Base w s led g) (T:List Addr)
 (F:Fr g L s'.heap m) (N:News g L s'.heap news) (O:Oth s s') (hT:∀ p∈led,p.1∈T∨p∈news):Step w T s s' :=
 ⟨(B.step T F N hT 0).keep,O.1,O.2,(B.step T F N hT 0).inv⟩
theorem news0 {w:World} {g:Heap} {L:Addr} {s s':Shared} {news:List (Addr×Obj)} (y:Step w [] s s') (N:News g L s.heap news):News g L s'.heap news:=News.step0 N y
theorem fr0 {w:World} {g:Heap} {L:Addr} {m:Str→Option Value} {s s':Shared} (y:Step w [] s s') (F:Fr g L s.heap m):Fr g L s'.heap m:=Fr.step0 F y
theorem newsF {w:World} {T:List Addr} {g:Heap} {L a:Addr} {m:Str→Option Value} {s s':Shared} {news:List (Addr×Obj)} {o:Obj} (y:Step w T s s') (f:s.heap.get? a=none) (x:At s'.heap a o) (F:Fr g L s.heap m) (N:News g L s'.heap news):News g L s'.heap ((a,o) :: news):=News.fresh N F x f
theorem newsD {w:World} {g:Heap} {L:Addr} {p:Addr×Obj} {s s':Shared} {news:List (Addr×Obj)} (y:Step w [p.1] s s') (ne:AllNe p.1 news) (N:News g L s.heap (p :: news)):News g L s'.heap news:=news_drop N y ne
theorem frD {w:World} {g:Heap} {L a:Addr} {o:Obj} {m:Str→Option Value} {s s':Shared} {news:List (Addr×Obj)} (y:Step w [a] s s') (N:News g L s.heap ((a,o) :: news)) (F:Fr g L s.heap m):Fr g L s'.heap m:=fr_head F N y
theorem allNe_find {a b:Addr} {o:Obj} {l:List (Addr×Obj)} (h:AllNe a l) (m:(b,o)∈l):@Ne Nat a b:=allNe_mem h _ m
theorem base_fresh {w:World} {s:Shared} {led:List (Addr×Obj)} {g:Heap} (B:Base w s led g) {x:Addr} (h:g.get? x=none) (ne:AllNe x led):s.heap.get? x=none:=by
 cases q:s.heap.get? x with
 | none=>rfl
 | some o =>
   have:=Base.to B q fun hm=>by
    obtain ⟨p,hp,e⟩:=List.mem_map.mp hm
    exact allNe_mem ne p hp e.symm
   rw [h] at this
   cases this
theorem allNe_lt {a:Addr}:∀ {l:List (Addr×Obj)},(∀ p∈l,@LT.lt Nat _ p.1 a)→AllNe a l
 | [],_=>trivial
 | p :: r,h=>⟨Nat.ne_of_gt (h p (.head _)),allNe_lt fun q hq=>h q (.tail _ hq)⟩
theorem add_two {prog:Program} {w:World} {A:Around} {E:VP} {s:Shared} {h₀:Heap} {L a b:Addr} {m:Str→Option Value} {news:List (Addr×Obj)} {vs ws:List Value} {n k:Nat} {Q:VP} (F:Fr h₀ L s.heap m) (N:News h₀ L s.heap news)
 (ha:(a,listOf vs.toArray n)∈news) (hb:(b,listOf ws.toArray k)∈news) (hz:vs.length+ws.length≤sizeLine)
 (h:∀ D h',Fr h₀ L h' m→News h₀ L h' ((D,listOf (vs ++ ws).toArray 0) :: news)→AllNe D news→Q (.ref D) { s with heap:=h' }):wpAny (model prog w) A (binaryOp .Add (.ref a) (.ref b)) Q E s :=
 add_lists F N ⟨_,(N _ ha).1,rfl,_,rfl⟩ ⟨_,(N _ hb).1,rfl,_,rfl⟩ (fun h' F' N'=>h _ h' F' N' (allNe_lt fun p hp=>Heap.lt_size (N p hp).1)) hz
end
section
noncomputable abbrev sUA:PySem.Str:=⟨#[117,115,101,114,97,103,101,110,116,115]⟩
noncomputable abbrev sRL:PySem.Str:=⟨#[114,117,108,101,108,105,110,101,115]⟩
noncomputable abbrev sDL:PySem.Str:=⟨#[100,101,108,97,121]⟩
noncomputable abbrev sRR:PySem.Str:=⟨#[114,101,113,95,114,97,116,101]⟩
noncomputable abbrev ent (h1 h2 h3 h4:Int) (t1 t2 t3 t4:Tok) (v1 v2 v3 v4:Value):List DictEntry :=
 [⟨h1,.str sUA t1,v1⟩,⟨h2,.str sRL t2,v2⟩,⟨h3,.str sDL t3,v3⟩,⟨h4,.str sRR t4,v4⟩]
theorem enterE {w:World} {A:Around} {s:Shared} {R:Result→Shared→Prop} {name qual:Str} {params:Arguments} {body:List Stmt} {scope:Scope} {dV kV doc pm cdv ct oc:Value} {an od:Option Addr} {osl:Array (Option Value)} {f:Addr}
 {args:Args} {binds:List (Str×Value)} (led:List (Addr×Obj)) (I:Inv w s.heap) (hled:∀ p∈led,At s.heap p.1 p.2∧isMut p.2=true)
 (ho:(frag.heap_1 w.params).lookup f=some ⟨oc,od,.func (fnOf name qual params body scope dV kV doc pm an cdv ct),osl⟩) (hcd:codeIn (frag.heap_1 w.params) cdv qual=true) (hroom:A.depth < recursionLimit)
 (hbind:BindsTo s (fnOf name qual params body scope dV kV doc pm an cdv ct) args binds) (hloc:∀ y∈binds,scope.names.lookup y.1=some .local)
 (h:∀ g L' h₁ loose mean mg mb,Base w s led g→Fr g L' h₁ (fun y=>binds.reverse.lookup y)→News g L' h₁ led→(frag.heap_1 w.params).In g→Top topProg loose mean mg mb g →
   wpAny (model prog w) (A.deeper (envOf qual scope L' f cdv)) (execs body (envOf qual scope L' f cdv)) (fun fl s'=>R (.ok (.ret (match fl with | .ret v=>v | _=>.none))) s') (fun _ _=>False)
    { s with heap:=h₁,toks:=s.toks+binds.length })
 (hcell:∀ x∈scope.names,x.2≠.cell) (hco:scope.isCoroutine=false:=by rfl) (hgen:scope.isGenerator=false:=by rfl) (hk:scope.kind=.function:=by rfl) :
 codeAny (model prog w) A (.call (.ref f) args) R s:=by
 obtain ⟨loose,mean,mg,mb,T⟩:=I.T
 have B:Base w s led (hideAll s.heap (led.map (·.1))):=⟨I,hled,rfl⟩
 obtain ⟨loose',mean',mg',mb',T'⟩:=B.inv'.T
 refine codeAny_call_def (fd:=fnOf name qual params body scope dV kV doc pm an cdv ct) (body:=body) (binds:=binds) hroom (I.K _ _ ho) rfl T.nolimit (codeRec_of I.K hcd) rfl hbind hcell hloc (fun h₁ hns hk₁=>?_) hco hgen hk
 exact wpAny_mono (h _ s.heap.objs.size h₁ loose' mean' mg' mb' B ⟨hns,fun b o e=>hk₁ b o (B.of e),Nat.le_of_eq B.size⟩ (fun p hp=>⟨hk₁ _ _ (hled p hp).1.1,Nat.ne_of_lt (hled p hp).1.lt,B.none hp⟩) B.inv'.K T') (fun fl s' hl=>hl) fun _ _ x=>x.elim
theorem eUA:Str.ofString "useragents"=sUA:=by kernel_rfl
theorem eRL:Str.ofString "rulelines"=sRL:=by kernel_rfl
theorem eDL:Str.ofString "delay"=sDL:=by kernel_rfl
theorem eRR:Str.ofString "req_rate"=sRR:=by kernel_rfl
theorem entry_init {w:World} {A:Around} {s:Shared} {R:Result→Shared→Prop} (l:Lvl A 820) (I:Inv w s.heap) {x d:Addr} (hx:At s.heap x (instObj 59 d)) (hd':At s.heap d emptyDict) (ne:@Ne Nat d x)
 (k:∀ u r h1 h2 h3 h4 t1 t2 t3 t4 s',Step w [x,d] s s'→At s'.heap x (instObj 59 d)→At s'.heap d (dictOf (ent h1 h2 h3 h4 t1 t2 t3 t4 (.ref u) (.ref r) .none .none) 4)→At s'.heap u (listOf #[] 0)→At s'.heap r (listOf #[] 0) →
   s.heap.get? u=none→s.heap.get? r=none→@Ne Nat u r→R (.ok (.ret .none)) s') :
 codeAny (model prog w) A (.call (.ref 35) ⟨[.ref x],[]⟩) R s:=by
 refine weakenC l fun fr gd=>?_
 refine enterE (args:=⟨[.ref x],[]⟩) [(x,instObj 59 d),(d,dictOf [] 0)] I ?_ (by k_is) (by k_is) (by show (820:Nat) < 1000;decide) (BindsTo.of_eq rfl) (locs rfl) ?_ (by decide)
 · exact fm2 ⟨hx,rfl⟩ ⟨hd',rfl⟩ (fun _ h=>nN h)
 intro g L h₁ loose mean mg mb B F N X T
 dsimp only
 k_fold
 have O:Oth s s:=Oth.refl
 k_steps
 rename Fr _ _ _ _=>F
 rename News _ _ _ _=>N
 rename (_∧@LT.lt Nat _ x _∧@LT.lt Nat _ d _)=>l2
 rename (@LT.lt Nat _ x _∧@LT.lt Nat _ d _)=>l1
 have hd2:=Base.at B N (p:=(d,_)) (by k_mem)
 rw [eUA,eRL,eDL,eRR] at hd2
 refine k _ _ _ _ _ _ _ _ _ _ _ (Base.fin B [x,d] F N O ?_) (Base.at B N (p:=(x,_)) (by k_mem)) hd2 (Base.at B N (.tail _ (.head _))) (Base.at B N (.head _)) (base_fresh B (N _ (.tail _ (.head _))).2.2 ⟨Nat.ne_of_gt l1.1,Nat.ne_of_gt l1.2,trivial⟩)
  (base_fresh B (N _ (.head _)).2.2 ⟨Nat.ne_of_gt l2.2.1,Nat.ne_of_gt l2.2.2,trivial⟩) (Nat.ne_of_lt l2.1)
 exact fm2 (.inl (.head _)) (.inl (.tail _ (.head _))) (fun _ h=>nN h)
theorem entry_new {w:World} {A:Around} {s:Shared} {Q E:VP} (l:Lvl A 800) (I:Inv w s.heap)
 (k:∀ x d u r h1 h2 h3 h4 t1 t2 t3 t4 s',Step w [] s s'→At s'.heap x (instObj 59 d)→At s'.heap d (dictOf (ent h1 h2 h3 h4 t1 t2 t3 t4 (.ref u) (.ref r) .none .none) 4)→At s'.heap u (listOf #[] 0)→At s'.heap r (listOf #[] 0) →
   s.heap.get? x=none→s.heap.get? d=none→s.heap.get? u=none→s.heap.get? r=none→@Ne Nat d x→@Ne Nat d u→@Ne Nat d r→@Ne Nat x u→@Ne Nat x r→@Ne Nat u r→Q (.ref x) s') :
   wpAny (model prog w) A (call (.ref 59) []) Q E s:=by
 obtain ⟨h,g,d,t,os⟩:=s
 have X:=I.K
 have In:Inv w ((h.push emptyDict).push (instObj 59 h.objs.size)):=I.keepAll fun b o e=>Heap.get?_push_of_some _ (Heap.get?_push_of_some _ e)
 have gx:((h.push emptyDict).push (instObj 59 h.objs.size)).get? (h.objs.size+1)=some (instObj 59 h.objs.size):=by heap_get
 have gd:((h.push emptyDict).push (instObj 59 h.objs.size)).get? h.objs.size=some emptyDict:=by heap_get
 have fd:h.get? h.objs.size=none:=by
  cases e:h.get? h.objs.size with
  | none=>rfl
  | some o=>exact absurd (Heap.lt_size e) (Nat.lt_irrefl _)
 have fx:h.get? (h.objs.size+1)=none:=by
  cases e:h.get? (h.objs.size+1) with
  | none=>rfl
  | some o=>exact absurd (Heap.lt_size e) (Nat.not_lt_of_le (Nat.le_succ _))
 have hi:findIn (frag.heap_1 w.params) (.ref 59) "__init__"=some (some (.ref 35)):=by k_is
 have hf:typeIn (frag.heap_1 w.params) (.ref 35)=some (.type "function"):=by k_is
 have hm:makesIn (frag.heap_1 w.params) 59=true:=by k_is
 have up:∀ {a:Addr},((h.push emptyDict).push (instObj 59 h.objs.size)).get? a=none→h.get? a=none:=fun {a} q=>by
  cases e:h.get? a with
  | none=>rfl
  | some o=>rw [Heap.get?_push_of_some _ (Heap.get?_push_of_some _ e)] at q;cases q
 have ap:∀ {a b:Addr} {o:Obj},((h.push emptyDict).push (instObj 59 h.objs.size)).get? a=some o→((h.push emptyDict).push (instObj 59 h.objs.size)).get? b=none→@Ne Nat a b:=fun p q e=>by cases e;rw [p] at q;cases q
 refine wpAny_call (make_core (makes_of X hm) (looks_findIn X hi) (fun self=>bind_fn X self hf) (.inl rfl) ?_)
 have lu:Lvl (A.under (.builtin "type.__call__" ⟨.ref 59 :: [],[]⟩)) 820:=by
  have w1:(Code.builtin "type.__call__" ⟨.ref 59 :: [],[]⟩).weight≤10:=Nat.le_of_ble_eq_true rfl
  have w2:(Code.builtin "type.__call__" ⟨.ref 59 :: [],[]⟩).cUnits≤10:=Nat.le_of_ble_eq_true rfl
  exact ⟨l.handled,Nat.le_trans (Nat.add_le_add l.depth w1) (by decide),Nat.le_trans (Nat.add_le_add l.units w2) (by decide)⟩
 refine entry_init lu In ⟨gx,I.above fx⟩ ⟨gd,I.above fd⟩ (Nat.ne_of_lt (Nat.lt_succ_self _)) ?_
 intro u r h1 h2 h3 h4 t1 t2 t3 t4 s' st ax ad au ar fu fr nur
 refine ⟨rfl,k _ _ u r h1 h2 h3 h4 t1 t2 t3 t4 s' (Step.trans (s':=⟨(h.push emptyDict).push (instObj 59 h.objs.size),g,d,t,os⟩) ⟨fun b o e _=>Heap.get?_push_of_some _ (Heap.get?_push_of_some _ e),rfl,id,In⟩ st fun a ha=>.inr ?_) ax ad au ar fx fd (up fu) (up fr) (Nat.ne_of_lt (Nat.lt_succ_self _)) (ap gd fu) (ap gd fr) (ap gx fu) (ap gx fr) nur⟩
 rcases mC ha with rfl | ha
 · exact fx
 · rw [mS ha];exact fd
inductive EntryAt (h:Heap) (x:Addr) (us rs:List Value) (dl rt:Value):Prop
 | mk (d u r:Addr) (h1 h2 h3 h4:Int) (t1 t2 t3 t4:Tok) (m n k:Nat) (e1:At h x (instObj 59 d)) (e2:At h d (dictOf (ent h1 h2 h3 h4 t1 t2 t3 t4 (.ref u) (.ref r) dl rt) m)) (e3:At h u (listOf us.toArray n)) (e4:At h r (listOf rs.toArray k)):EntryAt h x us rs dl rt
theorem EntryAt.step {w:World} {s s':Shared} {x:Addr} {us rs:List Value} {dl rt:Value} (e:EntryAt s.heap x us rs dl rt) (y:Step w [] s s'):EntryAt s'.heap x us rs dl rt:=by
 obtain ⟨d,u,r,h1,h2,h3,h4,t1,t2,t3,t4,m,n,k,a,b,c,e⟩:=e
 exact ⟨d,u,r,h1,h2,h3,h4,t1,t2,t3,t4,m,n,k,a.keep y nM,b.keep y nM,c.keep y nM,e.keep y nM⟩
noncomputable def Told (dl rt:Value):Prop:=(dl=.none∧rt=.none)∨∃ d t x t',dl=.int d t∧rt=.str x t'
noncomputable def orElse (a b:Value):Value:=match a with
 | .none=>b
 | v=>v
end
section
theorem hd238 {P:Params} {h:Heap} (X:(frag.heap_1 P).In h):CodeHd h 238 234:=by
 refine exI9 _ _ _ _ _ _ _ _ _ (anI10 (X _ _ (by k_is)) rfl rfl rfl rfl rfl rfl rfl rfl (by decide))
theorem hd90 {P:Params} {h:Heap} (X:(frag.heap_1 P).In h):CodeHd h 90 86:=by
 refine exI9 _ _ _ _ _ _ _ _ _ (anI10 (X _ _ (by k_is)) rfl rfl rfl rfl rfl rfl rfl rfl (by decide))
theorem hd97 {P:Params} {h:Heap} (X:(frag.heap_1 P).In h):CodeHd h 97 93:=by
 refine exI9 _ _ _ _ _ _ _ _ _ (anI10 (X _ _ (by k_is)) rfl rfl rfl rfl rfl rfl rfl rfl (by decide))
theorem hd166 {P:Params} {h:Heap} (X:(frag.heap_1 P).In h):CodeHd h 166 162:=by
 refine exI9 _ _ _ _ _ _ _ _ _ (anI10 (X _ _ (by k_is)) rfl rfl rfl rfl rfl rfl rfl rfl (by decide))
theorem hd173 {P:Params} {h:Heap} (X:(frag.heap_1 P).In h):CodeHd h 173 169:=by
 refine exI9 _ _ _ _ _ _ _ _ _ (anI10 (X _ _ (by k_is)) rfl rfl rfl rfl rfl rfl rfl rfl (by decide))
structure Inv0 (w:World) (h:Heap):Prop where
 K:(frag.heap_1 w.params).In h
 T:TopOk h
 low:∀ b,b < 250→b∉TB→∃ o,h.get? b=some o
theorem TopOk.keeps' {h h':Heap} (x:TopOk h) (hb:∃ P,(frag.heap_1 P).In h) (hk:∀ b o,h.get? b=some o→b < 250→b∉TB→h'.get? b=some o):TopOk h':=by
 refine exE4 x fun loose mean mg mb T=>?_;try clear x
 obtain ⟨P,X⟩:=hb
 have ns:∀ {a:Addr} {m:Str→Option Value},a < 250→a∉TB→h.Ns a m→h'.Ns a m:=fun ha hn ⟨o,es,ep,e,r⟩=>⟨o,es,ep,hk _ _ e ha hn,r⟩
 refine ⟨loose,mean,mg,mb,ns (by decide) (by decide) T.g,ns (by decide) (by decide) T.b,let ⟨mc,a,r⟩:=T.nolimit;⟨mc,ns (by decide) (by decide) a,r⟩,let ⟨mc,a,r⟩:=T.nodigits;⟨mc,ns (by decide) (by decide) a,r⟩,
  fun d hd=>absurd (show d∈([]:List DefRec) from hd) nM,fun o ho=>absurd (show o∈([]:List OwnSpec) from ho) nM,T.const,T.free,T.builtins,
  fun d hd=>absurd (show d∈([]:List DefRec) from hd) nM,?_,fun e=>absurd (show false=true from e) Bool.false_ne_true⟩
 refine exE2 T.bmain fun bm ob hh=>anE4 hh fun a1 a2 a3 a4=>?_;clear hh
 have e4:=mg_of X T.g (n:="__builtins__") (v:=.ref 4) (by kernel_rfl)
 rw [a1] at e4
 cases e4
 exact exI2 4 ob (anI4 a1 a2 (hk _ _ a3 (by decide) (by decide)) a4)
theorem Inv0.keeps {w:World} {h h':Heap} (x:Inv0 w h) (hk:∀ b o,h.get? b=some o→b < 250→b∉TB→h'.get? b=some o):Inv0 w h' :=
 ⟨fun a o e=>hk _ _ (x.K a o e) (kf_lt e) (fun hm=>by
   have:=List.all_eq_true.mp (kf_noTB w.params) (a,o) (mem_of_lookupK e)
   simp only [Bool.not_eq_true'] at this
   rw [List.contains_iff_mem.mpr hm] at this;cases this),
  x.T.keeps' ⟨_,x.K⟩ hk,fun b hb hn=>let ⟨o,e⟩:=x.low b hb hn;⟨o,hk b o e hb hn⟩⟩
theorem Inv.zero {w:World} {h:Heap} (x:Inv w h):Inv0 w h:=⟨x.K,x.T,fun b hb _=>x.low b hb⟩
theorem TabOk.get {P:Addr} {q:Str} {ln cl:Int} {h:Heap} (x:TabOk P q ln cl h):∃ o,h.get? P=some o:=by
 rcases x with e | ⟨c,_,e,_⟩ <;> exact ⟨_,e⟩
theorem Inv0.inv {w:World} {h:Heap} (x:Inv0 w h) (t:TabsOk h):Inv w h:=by
 refine ⟨x.K,x.T,t,fun b hb=>?_⟩
 by_cases hm:b∈TB
 · simp only [TB,List.mem_cons,nM,or_false] at hm
   rcases hm with rfl | rfl | rfl | rfl | rfl
   · exact t.t86.get
   · exact t.t93.get
   · exact t.t162.get
   · exact t.t169.get
   · exact t.t234.get
 · exact x.low b hb hm
structure BaseT (w:World) (s:Shared) (led:List (Addr×Obj)) (g:Heap):Prop where
 inv:Inv w s.heap
 ats:∀ p∈led,s.heap.get? p.1=some p.2∧((250≤p.1∧isMut p.2=true)∨p.1∈TB)
 eq:g=hideAll s.heap (led.map (·.1))
section
variable {w:World} {s:Shared} {led:List (Addr×Obj)} {g:Heap}
theorem baseT_of (B:BaseT w s led g) {b:Addr} {o:Obj} (e:g.get? b=some o):s.heap.get? b=some o:=by rw [B.eq] at e;exact of_hideAll _ e
theorem baseT_to (B:BaseT w s led g) {b:Addr} {o:Obj} (e:s.heap.get? b=some o) (h:b∉led.map (·.1)):g.get? b=some o:=by rw [B.eq];exact hideAll_get _ e h
theorem baseT_none (B:BaseT w s led g) {p:Addr×Obj} (h:p∈led):g.get? p.1=none:=by rw [B.eq];exact hideAll_none _ (List.mem_map_of_mem h)
theorem baseT_inv (B:BaseT w s led g):Inv0 w g:=by
 refine B.inv.zero.keeps fun b o e h hn=>baseT_to B e fun hm=>?_
 obtain ⟨p,hp,rfl⟩:=List.mem_map.mp hm
 rcases (B.ats p hp).2 with h1 | h1
 · exact absurd h1.1 (Nat.not_le.mpr h)
 · exact hn h1
theorem tab_old {L:Addr} {h:Heap} {m:Str→Option Value} {P:Addr} {q:Str} {ln cl:Int} (B:BaseT w s led g) (F:Fr g L h m) (hP:∀ p∈led,p.1≠P) (t:TabOk P q ln cl s.heap):TabOk P q ln cl h:=by
 have kp:∀ b o,s.heap.get? b=some o→(b=P∨isCode o=true)→(∀ p∈led,p.1=b→isMut p.2=true∨p.1∈TB)→True:=fun _ _ _ _ _=>trivial
 have hPn:P∉led.map (·.1):=fun hm=>by
  obtain ⟨p,hp,e⟩:=List.mem_map.mp hm
  exact hP p hp e
 rcases t with e | ⟨c',h1,h2,c,o,vs,t,e,g1,d,r⟩
 · exact .inl (F.keep _ _ (baseT_to B e hPn))
 · cases e
   refine .inr ⟨c',h1,F.keep _ _ (baseT_to B h2 hPn),c',o,vs,t,rfl,F.keep _ _ (baseT_to B g1 fun hm=>?_),d,r⟩
   obtain ⟨p,hp,e⟩:=List.mem_map.mp hm
   obtain ⟨a1,a2⟩:=B.ats p hp
   have hc:isCode o=true:=by unfold isCode;rw [d];dsimp only;rw [r]
   rcases a2 with a2 | a2
   · rw [e,g1] at a1
     rw [← Option.some.inj a1] at a2
     have:=a2.2
     rw [isMut,hc] at this
     cases this
   · have:c' < 250:=by
      rw [← e]
      simp only [TB,List.mem_cons,nM,or_false] at a2
      rcases a2 with q | q | q | q | q <;> (rw [q];decide)
     exact absurd h1 (Nat.not_le.mpr this)
theorem baseT_fin {s':Shared} {news:List (Addr×Obj)} {L:Addr} {m:Str→Option Value} (B:BaseT w s led g) (T:List Addr)
 (F:Fr g L s'.heap m) (N:News g L s'.heap news) (O:Oth s s') (hT:∀ p∈led,p.1∈T∨p∈news) (t:TabsOk s'.heap):Step w T s s' where
 keep:=fun b o e hb=>by
  by_cases hm:b∈led.map (·.1)
  · obtain ⟨p,hp,rfl⟩:=List.mem_map.mp hm
    rcases hT p hp with q | q
    · exact absurd q hb
    · have:=Option.some.inj (e.symm.trans (B.ats p hp).1)
      rw [this]
      exact (N p q).1
  · exact F.keep b o (baseT_to B e hm)
 os:=O.1
 gens:=O.2
 inv:=((baseT_inv B).keeps fun b o e _ _=>F.keep b o e).inv t
theorem baseT_at {h':Heap} {L:Addr} {news:List (Addr×Obj)} {p:Addr×Obj} (B:BaseT w s led g) (N:News g L h' news) (h:p∈news) (hn:p.1∉TB):At h' p.1 p.2:=by
 refine ⟨(N p h).1,Nat.le_of_not_lt fun q=>?_⟩
 obtain ⟨o,e⟩:=(baseT_inv B).low p.1 q hn
 have:=(N p h).2.2
 rw [e] at this
 cases this
end
theorem enterC {w:World} {A:Around} {s:Shared} {Q E:VP} {name qual:Str} {params:Arguments} {body:List Stmt} {scope:Scope} {dV kV doc pm cdv ct oc:Value} {an od:Option Addr} {osl:Array (Option Value)} {f:Addr}
 {args:Args} {binds:List (Str×Value)} (led:List (Addr×Obj)) (I:Inv w s.heap) (hled:∀ p∈led,s.heap.get? p.1=some p.2∧((250≤p.1∧isMut p.2=true)∨p.1∈TB))
 (ho:(frag.heap_1 w.params).lookup f=some ⟨oc,od,.func (fnX name qual params body scope [] dV kV doc pm an cdv ct),osl⟩) (hcd:codeIn (frag.heap_1 w.params) cdv qual=true) (hroom:A.depth < recursionLimit)
 (hbind:BindsTo s (fnX name qual params body scope [] dV kV doc pm an cdv ct) args binds)
 (hkind:∀ n,∀ x∈binds,scope.names.lookup x.1=some .local∨(scope.names.lookup x.1=some .cell∧((cellsFrom n scope.names []).lookup x.1).isSome=true))
 (hnd:((cellsFrom 0 scope.names []).map (·.1)).Nodup)
 (h:∀ g L' h₁ tk cells loose mean mg mb,BaseT w s led g→Fr g L' h₁ (bindL (envOfC qual scope L' f cdv).kindOf binds fun _=>none)→News g L' h₁ (cells ++ led) →
   CellsAre (bindC (envOfC qual scope L' f cdv).kindOf binds fun _=>none) (cellsFrom (L'+1) scope.names []) cells→AllNe L' led→(∀ p∈led,p.1 < L')→(frag.heap_1 w.params).In g→Top topProg loose mean mg mb g →
   wpAny (model prog w) (A.deeper (envOfC qual scope L' f cdv)) (execs body (envOfC qual scope L' f cdv)) (fun fl s'=>Q (match fl with | .ret v=>v | _=>.none) s') (fun _ _=>False)
    { s with heap:=h₁,toks:=tk })
 (hco:scope.isCoroutine=false:=by rfl) (hgen:scope.isGenerator=false:=by rfl) (hk:scope.kind=.function:=by rfl) :
 wpAny (model prog w) A (call (.ref f) args.pos args.kw) Q E s:=by
 refine wpAny_call ?_
 refine exE4 I.T fun loose mean mg mb T=>?_
 have B:BaseT w s led (hideAll s.heap (led.map (·.1))):=⟨I,hled,rfl⟩
 refine exE4 (baseT_inv B).T fun loose' mean' mg' mb' T'=>?_
 refine codeAny_call_function hroom (I.K _ _ ho) rfl hco hgen rfl (codeRec_of I.K hcd) (hbind _ _ _ _ ?_)
 refine wpAny_newFunctionEnv_cells hk (hkind _) fun env' he s' x=>?_
 subst he
 refine ⟨T.nolimit.keeps x.toInCall.keep,codeAny_func ?_⟩
 refine exE2 x.done fun h₁ tk hh=>anE2 hh fun z2 _=>?_;clear hh;rcases z2 with rfl
 have hk₁:=x.toInCall.keep
 obtain ⟨cells,NC,Y⟩:=Cl.news (h₀:=s.heap) (Nat.le_refl _) fun n c hm=>⟨x.cell n c (lookup_of_mem_nodup (cellsFrom_names scope.names 0 (s.heap.objs.size+1) [] [] rfl▸hnd) hm),x.above n c hm⟩
 have lt:∀ p∈led,p.1 < s.heap.objs.size:=fun p hp=>Heap.lt_size (hled p hp).1
 refine wpAny_mono (h _ s.heap.objs.size h₁ tk cells loose' mean' mg' mb' B ⟨x.toInCall.ns,fun b o e=>hk₁ b o (baseT_of B e),Nat.le_of_eq (hideAll_size _ _)⟩ (fun p hp=>?_) Y (allNe_lt lt) lt (baseT_inv B).K T') (fun fl s' hl=>?_) fun _ _ y=>y.elim
 · rcases List.mem_append.mp hp with hp | hp
   · refine ⟨(NC p hp).1,(NC p hp).2.1,?_⟩
     cases q:(hideAll s.heap (led.map (·.1))).get? p.1 with
     | none=>rfl
     | some o=>have:=of_hideAll _ q;rw [(NC p hp).2.2] at this;cases this
   · exact ⟨hk₁ _ _ (hled p hp).1,Nat.ne_of_lt (Heap.lt_size (hled p hp).1),baseT_none B hp⟩
 · cases fl <;> exact hl
theorem code_old {w:World} {s:Shared} {led:List (Addr×Obj)} {g h:Heap} {L:Addr} {m:Str→Option Value} {c':Addr} {q:Str} (B:BaseT w s led g) (F:Fr g L h m) (h1:250≤c') (x:s.heap.CodeRec (.ref c') q):h.CodeRec (.ref c') q:=by
 refine exE4 x fun c o vs t hh=>anE4 hh fun e g1 d r=>?_;clear hh;try clear x
 cases e
 refine exI4 c' o vs t (anI4 rfl (F.keep _ _ (baseT_to B g1 fun hm=>?_)) d r)
 obtain ⟨p,hp,e⟩:=List.mem_map.mp hm
 obtain ⟨a1,a2⟩:=B.ats p hp
 have hc:isCode o=true:=by unfold isCode;rw [d];dsimp only;rw [r]
 rcases a2 with a2 | a2
 · rw [e,g1] at a1
   rw [← Option.some.inj a1] at a2
   have:=a2.2
   rw [isMut,hc] at this
   cases this
 · have:c' < 250:=by
    rw [← e]
    simp only [TB,List.mem_cons,nM,or_false] at a2
    rcases a2 with q | q | q | q | q <;> (rw [q];decide)
   exact absurd h1 (Nat.not_le.mpr this)
theorem notTB {a:Nat} (h:234 < a):a∉TB:=fun hm=>by
 have hm':a=86∨a=93∨a=162∨a=169∨a=234:=by simpa [TB] using hm
 rcases hm' with q | q | q | q | q <;> (rw [q] at h;exact absurd h (by decide))
theorem inv_nowT {w:World} {s:Shared} {led:List (Addr×Obj)} {g h:Heap} {L:Addr} {m:Str→Option Value} (B:BaseT w s led g) (F:Fr g L h m) (t:TabsOk h):Inv w h:=((baseT_inv B).keeps fun b o e _ _=>F.keep b o e).inv t
theorem one_ne {P P':Addr} {o:Obj} (h:@Ne Nat P P'):∀ p∈[(P,o)],p.1≠P':=fun p hp=>by rw [mS hp];exact h
theorem enterF {w:World} {A:Around} {s:Shared} {Q E:VP} {name qual:Str} {params:Arguments} {body:List Stmt} {scope:Scope} {cl:List (Str×Addr)} {dV kV doc pm cdv ct:Value} {an:Option Addr} {fo:Obj} {f:Addr}
 {args:Args} {binds:List (Str×Value)} (led:List (Addr×Obj)) (I:Inv w s.heap) (hled:∀ p∈led,s.heap.get? p.1=some p.2∧((250≤p.1∧isMut p.2=true)∨p.1∈TB))
 (ho:s.heap.get? f=some fo) (hfo:fo.data=.func (fnX name qual params body scope cl dV kV doc pm an cdv ct)) (hcd:s.heap.CodeRec cdv qual) (hroom:A.depth < recursionLimit)
 (hbind:BindsTo s (fnX name qual params body scope cl dV kV doc pm an cdv ct) args binds) (hloc:∀ y∈binds,scope.names.lookup y.1=some .local)
 (h:∀ g L' h₁ loose mean mg mb,BaseT w s led g→Fr g L' h₁ (fun y=>binds.reverse.lookup y)→News g L' h₁ led→(∀ p∈led,p.1 < L')→(frag.heap_1 w.params).In g→Top topProg loose mean mg mb g →
   wpAny (model prog w) (A.deeper (envX qual scope L' f cdv cl)) (execs body (envX qual scope L' f cdv cl)) (fun fl s'=>Q (match fl with | .ret v=>v | _=>.none) s') (fun _ _=>False)
    { s with heap:=h₁,toks:=s.toks+binds.length })
 (hcell:∀ x∈scope.names,x.2≠.cell) (hco:scope.isCoroutine=false:=by rfl) (hgen:scope.isGenerator=false:=by rfl) (hk:scope.kind=.function:=by rfl) :
 wpAny (model prog w) A (call (.ref f) args.pos args.kw) Q E s:=by
 refine wpAny_call ?_
 refine exE4 I.T fun loose mean mg mb T=>?_
 have B:BaseT w s led (hideAll s.heap (led.map (·.1))):=⟨I,hled,rfl⟩
 refine exE4 (baseT_inv B).T fun loose' mean' mg' mb' T'=>?_
 refine codeAny_call_def (fd:=fnX name qual params body scope cl dV kV doc pm an cdv ct) (body:=body) (binds:=binds) hroom ho hfo T.nolimit hcd rfl hbind hcell hloc (fun h₁ hns hk₁=>?_) hco hgen hk
 refine wpAny_mono (h _ s.heap.objs.size h₁ loose' mean' mg' mb' B ⟨hns,fun b o e=>hk₁ b o (baseT_of B e),Nat.le_of_eq (hideAll_size _ _)⟩ (fun p hp=>⟨hk₁ _ _ (hled p hp).1,Nat.ne_of_lt (Heap.lt_size (hled p hp).1),baseT_none B hp⟩) (fun p hp=>Heap.lt_size (hled p hp).1) (baseT_inv B).K T') (fun fl s' hl=>?_) fun _ _ x=>x.elim
 cases fl <;> exact hl
theorem tabs_plain {w:World} {s:Shared} {led:List (Addr×Obj)} {g h:Heap} {L:Addr} {m:Str→Option Value} (B:BaseT w s led g) (F:Fr g L h m) (hi:∀ p∈led,250≤p.1):TabsOk h :=
 have ne:∀ {P:Nat},P < 250→∀ p∈led,p.1≠P:=fun hP p hp e=>absurd (hi p hp) (Nat.not_le.mpr (e▸hP))
 ⟨tab_old B F (ne (by decide)) B.inv.tabs.t86,tab_old B F (ne (by decide)) B.inv.tabs.t93,tab_old B F (ne (by decide)) B.inv.tabs.t162,tab_old B F (ne (by decide)) B.inv.tabs.t169,tab_old B F (ne (by decide)) B.inv.tabs.t234⟩
noncomputable def Reaches (w:World) (f:Addr) (far:Int) (objs:List (Addr×Obj)):Prop :=
 ∀ (A:Around) (s:Shared) (Q E:VP) (v:Value),Lvl A 800→Inv w s.heap→(∀ p∈objs,At s.heap p.1 p.2)→(∀ t s',Step w [] s s'→Q (.int far t) s')→wpAny (model prog w) A (call (.ref f) [v]) Q E s
noncomputable abbrev rent (h1 h2 h3 h4 h5 h6:Int) (t1 t2 t3 t4 t5 t6:Tok) (u r f:Addr) (v:Value):List DictEntry :=
 [⟨h1,.str sUA t1,.ref u⟩,⟨h2,.str sRL t2,.ref r⟩,⟨h3,.str sDL t3,.none⟩,⟨h4,.str sRR t4,.none⟩,⟨h5,.str (Str.ofString "applies_to") t5,.ref f⟩,⟨h6,.str (Str.ofString "allowance") t6,v⟩]
noncomputable def Solid (o:Obj):Prop:=(∃ fd,o.data=.func fd)∨isCode o=true∨∃ v,o.data=.cell v
noncomputable def Mild (o:Obj):Prop:=¬ Solid o∧(∀ d,o≠instObj 59 d)∧∀ (h1 h2 h3 h4 h5 h6:Int) (t1 t2 t3 t4 t5 t6:Tok) (u r f:Addr) (v:Value) (m:Nat),o≠dictOf (rent h1 h2 h3 h4 h5 h6 t1 t2 t3 t4 t5 t6 u r f v) m
inductive RuleAt (w:World) (h:Heap) (x:Addr) (far:Int) (v:Str):Prop
 | mk (d u r f:Addr) (h1 h2 h3 h4 h5 h6:Int) (t1 t2 t3 t4 t5 t6 tv:Tok) (m:Nat) (fd:FuncData) (objs:List (Addr×Obj))
   (e1:At h x (instObj 59 d)) (e2:At h d (dictOf (rent h1 h2 h3 h4 h5 h6 t1 t2 t3 t4 t5 t6 u r f (.str v tv)) m)) (e3:At h f ⟨.type "function",none,.func fd,#[]⟩) (e4:(∀ p∈objs,At h p.1 p.2∧Solid p.2)) (e5:Reaches w f far objs):RuleAt w h x far v
theorem RuleAt.step {w:World} {T:List Addr} {s s':Shared} {x:Addr} {far:Int} {v:Str} (a:RuleAt w s.heap x far v) (y:Step w T s s') (hT:∀ a∈T,a < 250∨∃ o,s.heap.get? a=some o∧Mild o):RuleAt w s'.heap x far v:=by
 obtain ⟨d,u,r,f,h1,h2,h3,h4,h5,h6,t1,t2,t3,t4,t5,t6,tv,m,fd,objs,a1,a2,a3,a4,a5⟩:=a
 have nl:∀ {a:Addr} {o:Obj},At s.heap a o→¬ Mild o→a∉T:=fun {a o} q hn hm=>by
  rcases hT a hm with h | ⟨o',e,h'⟩
  · exact absurd q.2 (Nat.not_le.mpr h)
  · exact hn (Option.some.inj (q.1.symm.trans e)▸h')
 refine ⟨d,u,r,f,h1,h2,h3,h4,h5,h6,t1,t2,t3,t4,t5,t6,tv,m,fd,objs,a1.keep y (nl a1 fun h=>h.2.1 _ rfl),a2.keep y (nl a2 fun h=>h.2.2 _ _ _ _ _ _ _ _ _ _ _ _ _ _ _ _ _ rfl),a3.keep y (nl a3 fun h=>h.1 (.inl ⟨_,rfl⟩)),fun p hp=>⟨(a4 p hp).1.keep y (nl (a4 p hp).1 fun h=>h.1 (a4 p hp).2),(a4 p hp).2⟩,a5⟩
theorem ruleAt_mk {w:World} {h:Heap} {x d u r f c' cc:Addr} {far:Int} {v:Str} {h1 h2 h3 h4 h5 h6:Int} {t1 t2 t3 t4 t5 t6 tv:Tok} {m:Nat} {fd:FuncData} {oc oo:Obj} (Ax:At h x (instObj 59 d)) (Ad:At h d (dictOf (rent h1 h2 h3 h4 h5 h6 t1 t2 t3 t4 t5 t6 u r f (.str v tv)) m))
 (Af:At h f ⟨.type "function",none,.func fd,#[]⟩) (Ac:At h c' oc) (Al:At h cc oo) (n1:isCode oc=true) (n2:∃ v,oo.data=.cell v)
 (R:Reaches w f far [(f,⟨.type "function",none,.func fd,#[]⟩),(c',oc),(cc,oo)]):RuleAt w h x far v:=by
 refine ⟨d,u,r,f,h1,h2,h3,h4,h5,h6,t1,t2,t3,t4,t5,t6,tv,m,fd,_,Ax,Ad,Af,?_,R⟩
 exact fm3 ⟨Af,.inl ⟨_,rfl⟩⟩ ⟨Ac,.inr (.inl n1)⟩ ⟨Al,.inr (.inr n2)⟩ (fun _ h=>nN h)
theorem baseT_fresh {w:World} {s:Shared} {led:List (Addr×Obj)} {g:Heap} (B:BaseT w s led g) {x:Addr} (h:g.get? x=none) (ne:∀ p∈led,p.1≠x):s.heap.get? x=none:=by
 cases q:s.heap.get? x with
 | none=>rfl
 | some o =>
   have:=baseT_to B q fun hm=>by
    obtain ⟨p,hp,e⟩:=List.mem_map.mp hm
    exact ne p hp e
   rw [h] at this
   cases this
theorem enterR {w:World} {A:Around} {s:Shared} {Q E:VP} {name qual:Str} {params:Arguments} {body:List Stmt} {scope:Scope} {cl:List (Str×Addr)} {dV kV doc pm ct:Value} {an:Option Addr} {fo oc oo:Obj} {f c' cc:Addr} {vs:Array Value} {t:Tok}
 {args:Args} {binds:List (Str×Value)} (I:Inv w s.heap) (ho:∀ p∈[(f,fo),(c',oc),(cc,oo)],At s.heap p.1 p.2) (hm:isMut fo=true) (hn:isMut oo=true)
 (hfo:fo.data=.func (fnX name qual params body scope cl dV kV doc pm an (.ref c') ct)) (d1:oc.data=.fields vs) (d2:vs[1]? = some (.str qual t)) (hroom:A.depth < recursionLimit)
 (hbind:BindsTo s (fnX name qual params body scope cl dV kV doc pm an (.ref c') ct) args binds) (hloc:∀ y∈binds,scope.names.lookup y.1=some .local)
 (h:∀ g L' h₁ loose mean mg mb,BaseT w s [(f,fo),(cc,oo)] g→Fr g L' h₁ (fun y=>binds.reverse.lookup y)→News g L' h₁ [(f,fo),(cc,oo)]→(frag.heap_1 w.params).In g→Top topProg loose mean mg mb g →
   wpAny (model prog w) (A.deeper (envX qual scope L' f (.ref c') cl)) (execs body (envX qual scope L' f (.ref c') cl)) (fun fl s'=>Q (match fl with | .ret v=>v | _=>.none) s') (fun _ _=>False)
    { s with heap:=h₁,toks:=s.toks+binds.length })
 (hcell:∀ x∈scope.names,x.2≠.cell) (hco:scope.isCoroutine=false:=by rfl) (hgen:scope.isGenerator=false:=by rfl) (hk:scope.kind=.function:=by rfl) :
 wpAny (model prog w) A (call (.ref f) args.pos args.kw) Q E s:=by
 have H1:=ho _ (.head _)
 have H3:=ho (cc,oo) (.tail _ (.tail _ (.head _)))
 refine enterF [(f,fo),(cc,oo)] I ?_ H1.1 hfo ⟨c',oc,vs,t,rfl,(ho (c',oc) (.tail _ (.head _))).1,d1,d2⟩ hroom hbind hloc (fun g L' h₁ a b c d B F N _ X T=>h g L' h₁ a b c d B F N X T) hcell hco hgen hk
 exact fm2 ⟨H1.1,.inl ⟨H1.2,hm⟩⟩ ⟨H3.1,.inl ⟨H3.2,hn⟩⟩ (fun _ h=>nN h)
end
section
noncomputable def cut (h:Heap):Heap:=⟨h.objs.extract 0 250,h.life⟩
theorem cut_lt {h:Heap} {a:Addr} (ha:a < 250):(cut h).get? a=h.get? a:=by
 unfold Heap.get? cut
 have:(h.objs.extract 0 250)[a]? = h.objs[a]?:=by
  rw [Array.getElem?_extract]
  simp only [Nat.sub_zero,Nat.zero_add]
  split
  · rfl
  · rename_i hn
    have:h.objs.size≤a:=by
     rcases Nat.lt_or_ge a h.objs.size with q | q
     · exact absurd (Nat.lt_min.mpr ⟨ha,q⟩) hn
     · exact q
    rw [Array.getElem?_eq_none this]
 rw [this]
theorem cut_size (h:Heap):(cut h).objs.size≤250:=by
 unfold cut
 rw [Array.size_extract]
 omega
theorem cut_ge {h:Heap} {a:Addr} (ha:250≤a):(cut h).get? a=none:=Heap.get?_none_of_le (Nat.le_trans (cut_size h) ha)
structure Snap (w:World) (g:Heap) (L:Addr) (s:Shared) (led R:List (Addr×Obj)):Prop where
 inv:Inv w s.heap
 hi:250≤L
 inv0:Inv0 w g
 ats:∀ p∈led,s.heap.get? p.1=some p.2
 cover:∀ b o,s.heap.get? b=some o→b=L∨g.get? b=some o∨b∈led.map (·.1)∨(b,o)∈R
 notCode:∀ o,s.heap.get? L=some o→isCode o=false
 small:g.objs.size≤250
theorem ns_notCode {h:Heap} {L:Addr} {m:Str→Option Value} (hn:h.Ns L m):∀ o,h.get? L=some o→isCode o=false:=by
 intro o e
 refine exE3 hn fun o' es ep hh=>anE3 hh fun e' hd r=>?_;clear hh;try clear hn
 rw [e] at e'
 cases e'
 unfold isCode
 rw [hd]
inductive SnapX (w:World) (s:Shared) (L:Addr) (m:Str→Option Value) (led:List (Addr×Obj)):Prop
 | mk (g:Heap) (R:List (Addr×Obj)) (loose:List Str) (mean:ExcName→Option Value) (mg mb:Str→Option Value) (B:Snap w g L s led R) (F:Fr g L s.heap m) (N:News g L s.heap (led ++ R)) (X:(frag.heap_1 w.params).In g) (T:Top topProg loose mean mg mb g) (sep:∀ q∈led,∀ p∈R,@Ne Nat p.1 q.1)
theorem snap {w:World} {s:Shared} {L:Addr} {m:Str→Option Value} (I:Inv w s.heap) (hn:s.heap.Ns L m) (hL:250≤L) (led:List (Addr×Obj))
 (hled:∀ p∈led,s.heap.get? p.1=some p.2∧p.1≠L∧(250≤p.1∨p.1∈TB)) :
 SnapX w s L m led:=by
 let g:Heap:=hideAll (cut s.heap) TB
 have gof:∀ b o,g.get? b=some o→s.heap.get? b=some o:=fun b o e=>by
  have e':=of_hideAll _ e
  rcases Nat.lt_or_ge b 250 with q | q
  · rwa [cut_lt q] at e'
  · rw [cut_ge q] at e';cases e'
 have gto:∀ b o,s.heap.get? b=some o→b < 250→b∉TB→g.get? b=some o:=fun b o e q hb=>hideAll_get _ ((cut_lt q).trans e) hb
 have ghi:∀ b,250≤b→g.get? b=none:=fun b hb=>by
  cases q:g.get? b with
  | none=>rfl
  | some o=>have:=of_hideAll _ q;rw [cut_ge hb] at this;cases this
 have gtb:∀ b,b∈TB→g.get? b=none:=fun b hb=>hideAll_none _ hb
 have I0:Inv0 w g:=I.zero.keeps gto
 refine exE4 I0.T fun loose mean mg mb T=>?_
 let R:List (Addr×Obj):=(List.range s.heap.objs.size).filterMap fun a=>if a=L∨a∈led.map (·.1)∨(g.get? a).isSome=true then none else (s.heap.get? a).map fun o=>(a,o)
 have hR:∀ p,p∈R ↔ s.heap.get? p.1=some p.2∧p.1≠L∧p.1∉led.map (·.1)∧(g.get? p.1).isSome≠true:=by
  intro p
  simp only [R,List.mem_filterMap,List.mem_range]
  constructor
  · rintro ⟨a,ha,e⟩
    split at e
    · cases e
    · rename_i hna
      obtain ⟨o,ho,rfl⟩:=Option.map_eq_some_iff.mp e
      simp only [not_or] at hna
      exact ⟨ho,hna⟩
  · rintro ⟨e,h1,h2,h3⟩
    refine ⟨p.1,Heap.lt_size e,?_⟩
    rw [if_neg (by simp only [not_or];exact ⟨h1,h2,h3⟩),e]
    rfl
 refine .mk g R loose mean mg mb ⟨I,hL,I0,fun p hp=>(hled p hp).1,fun b o e=>?_,ns_notCode hn,?_⟩ ⟨hn,gof,?_⟩ (fun p hp=>?_) I0.K T (fun q hq p hp=>?_)
 · by_cases h1:b=L
   · exact .inl h1
   · by_cases h2:b∈led.map (·.1)
     · exact .inr (.inr (.inl h2))
     · by_cases h3:(g.get? b).isSome=true
       · obtain ⟨o',e'⟩:=Option.isSome_iff_exists.mp h3
         have:=gof b o' e'
         rw [e] at this
         cases this
         exact .inr (.inl e')
       · exact .inr (.inr (.inr ((hR (b,o)).mpr ⟨e,h1,h2,h3⟩)))
 · show (hideAll (cut s.heap) TB).objs.size≤250
   rw [hideAll_size]
   exact cut_size _
 · show (hideAll (cut s.heap) TB).objs.size≤L
   rw [hideAll_size]
   exact Nat.le_trans (cut_size _) hL
 · rcases List.mem_append.mp hp with hp | hp
   · obtain ⟨h1,h2,h3⟩:=hled p hp
     refine ⟨h1,h2,?_⟩
     rcases h3 with h3 | h3
     · exact ghi _ h3
     · exact gtb _ h3
   · refine anE4 ((hR p).mp hp) fun h1 h2 h3 h4=>?_
     refine ⟨h1,h2,?_⟩
     cases q:g.get? p.1 with
     | none=>rfl
     | some o=>rw [q] at h4;exact absurd rfl h4
 · refine anE4 ((hR p).mp hp) fun h1 h2 h3 h4=>?_
   exact fun e=>h3 (e▸List.mem_map_of_mem hq)
theorem Snap.fin {w:World} {g:Heap} {L:Addr} {s s':Shared} {led R news:List (Addr×Obj)} {m:Str→Option Value} (B:Snap w g L s led R) (T:List Addr) (F:Fr g L s'.heap m) (N:News g L s'.heap news) (O:Oth s s') (hR:∀ p∈R,p∈news)
 (hT:∀ p∈led,(p.1∈T∧250≤p.1∧isMut p.2=true)∨p∈news):Step w (L :: T) s s':=by
 have key:∀ b o,s.heap.get? b=some o→b=L∨(b∈T∧250≤b∧isMut o=true)∨s'.heap.get? b=some o:=fun b o e=>by
  rcases B.cover b o e with h | h | h | h
  · exact .inl h
  · exact .inr (.inr (F.keep _ _ h))
  · obtain ⟨p,hp,rfl⟩:=List.mem_map.mp h
    have e':=B.ats p hp
    rw [e] at e'
    cases e'
    rcases hT p hp with q | q
    · exact .inr (.inl q)
    · exact .inr (.inr (N p q).1)
  · exact .inr (.inr (N _ (hR _ h)).1)
 refine ⟨fun b o e hb=>?_,O.1,O.2,B.inv.keeps fun b o e hb=>?_⟩
 · rcases key b o e with h | h | h
   · exact absurd (h▸List.mem_cons_self) hb
   · exact absurd (List.mem_cons_of_mem _ h.1) hb
   · exact h
 · rcases key b o e with h | h | h
   · subst h
     rcases hb with hb | hb
     · exact absurd B.hi (Nat.not_le.mpr hb)
     · rw [B.notCode o e] at hb;cases hb
   · rcases hb with hb | hb
     · exact absurd h.2.1 (Nat.not_le.mpr hb)
     · have:=h.2.2
       rw [isMut,hb] at this
       cases this
   · exact h
theorem Snap.hi_of {w:World} {g:Heap} {L:Addr} {s:Shared} {led R:List (Addr×Obj)} (B:Snap w g L s led R) {a:Addr} (h:g.get? a=none) (hn:a∉TB):250≤a:=Nat.le_of_not_lt fun q=>by
 obtain ⟨o,e⟩:=B.inv0.low a q hn
 rw [h] at e
 cases e
end
section
theorem enterS {w:World} {A:Around} {s:Shared} {Q E:VP} {name qual:Str} {params:Arguments} {body:List Stmt} {scope:Scope} {dV kV doc pm cdv ct oc:Value} {an od:Option Addr} {osl:Array (Option Value)} {f:Addr}
 {args:Args} {binds:List (Str×Value)} (I:Inv w s.heap)
 (ho:(frag.heap_1 w.params).lookup f=some ⟨oc,od,.func (fnOf name qual params body scope dV kV doc pm an cdv ct),osl⟩) (hcd:codeIn (frag.heap_1 w.params) cdv qual=true) (hroom:A.depth < recursionLimit)
 (hbind:BindsTo s (fnOf name qual params body scope dV kV doc pm an cdv ct) args binds) (hloc:∀ y∈binds,scope.names.lookup y.1=some .local)
 (h:∀ L h₁,Step w [] s { s with heap:=h₁,toks:=s.toks+binds.length }→s.heap.get? L=none→250≤L→h₁.Ns L (fun y=>binds.reverse.lookup y)→(∀ b o,s.heap.get? b=some o→@LT.lt Nat _ b L) →
   wpAny (model prog w) (A.deeper (envOf qual scope L f cdv)) (execs body (envOf qual scope L f cdv)) (fun fl s'=>Q (match fl with | .ret v=>v | _=>.none) s') (fun _ _=>False)
    { s with heap:=h₁,toks:=s.toks+binds.length })
 (hcell:∀ x∈scope.names,x.2≠.cell) (hco:scope.isCoroutine=false:=by rfl) (hgen:scope.isGenerator=false:=by rfl) (hk:scope.kind=.function:=by rfl) :
 wpAny (model prog w) A (call (.ref f) args.pos args.kw) Q E s:=by
 refine wpAny_call ?_
 refine exE4 I.T fun loose mean mg mb T=>?_
 refine codeAny_call_def (fd:=fnOf name qual params body scope dV kV doc pm an cdv ct) (body:=body) (binds:=binds) hroom (I.K _ _ ho) rfl T.nolimit (codeRec_of I.K hcd) rfl hbind hcell hloc (fun h₁ hns hk₁=>?_) hco hgen hk
 refine wpAny_mono (h s.heap.objs.size h₁ ⟨fun b o e _=>hk₁ b o e,rfl,id,I.keepAll hk₁⟩ (Heap.get?_none_of_le (Nat.le_refl _)) I.size hns fun b o e=>Heap.lt_size e) (fun fl s' hl=>?_) fun _ _ x=>x.elim
 cases fl <;> exact hl
theorem enterSC {w:World} {A:Around} {s:Shared} {Q E:VP} {name qual:Str} {params:Arguments} {body:List Stmt} {scope:Scope} {dV kV doc pm cdv ct oc:Value} {an od:Option Addr} {osl:Array (Option Value)} {f:Addr}
 {args:Args} {binds:List (Str×Value)} (I:Inv w s.heap)
 (ho:(frag.heap_1 w.params).lookup f=some ⟨oc,od,.func (fnX name qual params body scope [] dV kV doc pm an cdv ct),osl⟩) (hcd:codeIn (frag.heap_1 w.params) cdv qual=true) (hroom:A.depth < recursionLimit)
 (hbind:BindsTo s (fnX name qual params body scope [] dV kV doc pm an cdv ct) args binds)
 (hkind:∀ n,∀ x∈binds,scope.names.lookup x.1=some .local∨(scope.names.lookup x.1=some .cell∧((cellsFrom n scope.names []).lookup x.1).isSome=true))
 (hnd:((cellsFrom 0 scope.names []).map (·.1)).Nodup)
 (h:∀ L h₁ tk cells,Step w [] s { s with heap:=h₁,toks:=tk }→s.heap.get? L=none→250≤L→h₁.Ns L (bindL (envOfC qual scope L f cdv).kindOf binds fun _=>none)→(∀ b o,s.heap.get? b=some o→@LT.lt Nat _ b L) →
   CellsAre (bindC (envOfC qual scope L f cdv).kindOf binds fun _=>none) (cellsFrom (L+1) scope.names []) cells→(∀ p∈cells,h₁.get? p.1=some p.2∧@Ne Nat p.1 L∧s.heap.get? p.1=none) →
   wpAny (model prog w) (A.deeper (envOfC qual scope L f cdv)) (execs body (envOfC qual scope L f cdv)) (fun fl s'=>Q (match fl with | .ret v=>v | _=>.none) s') (fun _ _=>False)
    { s with heap:=h₁,toks:=tk })
 (hco:scope.isCoroutine=false:=by rfl) (hgen:scope.isGenerator=false:=by rfl) (hk:scope.kind=.function:=by rfl) :
 wpAny (model prog w) A (call (.ref f) args.pos args.kw) Q E s:=by
 refine wpAny_call ?_
 refine exE4 I.T fun loose mean mg mb T=>?_
 refine codeAny_call_function hroom (I.K _ _ ho) rfl hco hgen rfl (codeRec_of I.K hcd) (hbind _ _ _ _ ?_)
 refine wpAny_newFunctionEnv_cells hk (hkind _) fun env' he s' x=>?_
 subst he
 refine ⟨T.nolimit.keeps x.toInCall.keep,codeAny_func ?_⟩
 refine exE2 x.done fun h₁ tk hh=>anE2 hh fun z2 _=>?_;clear hh;rcases z2 with rfl
 have hk₁:=x.toInCall.keep
 obtain ⟨cells,NC,Y⟩:=Cl.news (h₀:=s.heap) (Nat.le_refl _) fun n c hm=>⟨x.cell n c (lookup_of_mem_nodup (cellsFrom_names scope.names 0 (s.heap.objs.size+1) [] [] rfl▸hnd) hm),x.above n c hm⟩
 refine wpAny_mono (h s.heap.objs.size h₁ tk cells ⟨fun b o e _=>hk₁ b o e,rfl,id,I.keepAll hk₁⟩ (Heap.get?_none_of_le (Nat.le_refl _)) I.size x.toInCall.ns (fun b o e=>Heap.lt_size e) Y (fun p hp=>⟨(NC p hp).1,(NC p hp).2.1,(NC p hp).2.2⟩)) (fun fl s' hl=>?_) fun _ _ y=>y.elim
 cases fl <;> exact hl
theorem allLt_ne {d:Nat}:∀ {l:List (Addr×Obj)},AllLt d l→∀ p∈l,p.1≠d
 | [],_,_,h=>nN h
 | q :: r,x,p,h=>by
   rcases mC h with rfl | h
   · exact Nat.ne_of_lt x.1
   · exact allLt_ne x.2 p h
section
variable {w:World} {g:Heap} {L:Addr} {s₀ s s₂:Shared} {led R news:List (Addr×Obj)} {m:Str→Option Value} {T₀ T':List Addr}
theorem Snap.own (B:Snap w g L s led R) {h:Heap} (N:News g L h news) {p:Addr×Obj} (hp:p∈news):250≤p.1∨p.1∈TB:=by
 by_cases h1:p.1∈TB
 · exact .inr h1
 · exact .inl (B.hi_of (N p hp).2.2 h1)
theorem Snap.out (T:List Addr) {h':Heap} (tk:Nat) (S:Step w T₀ s₀ s) (B:Snap w g L s led R) (F:Fr g L h' m) (N:News g L h' news) (hR:∀ p∈R,p∈news) (hT:∀ p∈led,(p.1∈T∧250≤p.1∧isMut p.2=true)∨p∈news)
 (hTS:∀ a∈L :: T,a∈T₀∨s₀.heap.get? a=none):Step w T₀ s₀ { s with heap:=h',toks:=tk }:=S.trans (B.fin (s':={ s with heap:=h',toks:=tk }) T F N ⟨rfl,id⟩ hR hT) hTS
theorem Snap.now (T:List Addr) {h':Heap} (S:Step w T₀ s₀ s) (B:Snap w g L s led R) (F:Fr g L h' m) (N:News g L h' news) (hR:∀ p∈R,p∈news) (hT:∀ p∈led,(p.1∈T∧250≤p.1∧isMut p.2=true)∨p∈news)
 (hTS:∀ a∈L :: T,a∈T₀∨s₀.heap.get? a=none):Inv w h':=(Snap.out T 0 S B F N hR hT hTS).inv
theorem Snap.re (T:List Addr) {h':Heap} {tk:Nat} (S:Step w T₀ s₀ s) (B:Snap w g L s led R) (F:Fr g L h' m) (N:News g L h' news) (hR:∀ p∈R,p∈news) (hT:∀ p∈led,(p.1∈T∧250≤p.1∧isMut p.2=true)∨p∈news)
 (hTS:∀ a∈L :: T,a∈T₀∨s₀.heap.get? a=none) (y:Step w T' { s with heap:=h',toks:=tk } s₂) (hT':∀ a∈T',a∈T₀∨s₀.heap.get? a=none) (hLT:L∉T') (led':List (Addr×Obj))
 (hled:∀ p∈led',(p∈news∧p.1∉T')∨(At s₂.heap p.1 p.2∧h'.get? p.1=none)) :
 SnapX w s₂ L m led'∧Step w T₀ s₀ s₂:=by
 have st:=Snap.out T tk S B F N hR hT hTS
 have S2:Step w T₀ s₀ s₂:=st.trans y hT'
 have hn:s₂.heap.Ns L m:=by
  refine exE3 F.ns fun o es ep hh=>anE2 hh fun e r=>?_;clear hh
  exact exI3 o es ep (anI2 (y.keep _ _ e hLT) r)
 refine ⟨snap y.inv hn B.hi led' (fun p hp=>by
  rcases hled p hp with ⟨h1,h2⟩ | ⟨h1,h2⟩
  · exact ⟨y.keep _ _ (N p h1).1 h2,(N p h1).2.1,B.own N h1⟩
  · refine ⟨h1.1,fun e=>?_,.inl h1.2⟩
    obtain ⟨o,_,_,e',_⟩:=F.ns
    rw [e,e'] at h2
    cases h2),S2⟩
end
noncomputable def TurnOk (J:Shared→Prop) (St:Heap→Prop) (s:Shared):Prop:=J s∧St s.heap
section
variable {w:World} {A:Around} {s:Shared} {R:Result→Shared→Prop} {tgt:PySem.Expr} {body:List Stmt} {env:Env} {I:Addr} {fp:List Addr} {n:Nat} {P:Nat→Value→Prop} {St:Nat→Heap→Prop}
theorem for_S (W:Walks prog w A I fp [I] n P St) (hlet:∀ v s' (Q:Unit→Shared→Prop) E,Q () s'→wpAny (model prog w) A (letOwnedTupleGo tgt (.ref I) v) Q E s')
 (J:Nat→Shared→Prop) (hst:St 0 s.heap) (h0:J 0 s)
 (turn:∀ i v s h' tk,i < n→P i v→J i s→St i s.heap→St (i+1) h'→(∀ b o,b≠I→s.heap.get? b=some o→h'.get? b=some o) →
   wpAny (model prog w) A (assign tgt env v) (fun _ s₂=>wpAny (model prog w) A (execs body env) (fun f s₃=>match f with
    | .brk=>R (.ok .next) s₃
    | .ret v=>R (.ok (.ret v)) s₃
    | _=>TurnOk (J (i+1)) (St (i+1)) s₃) (fun _ _=>False) s₂) (fun _ _=>False) { s with heap:=h',toks:=tk })
 (done:∀ s h' tk,J n s→St n s.heap→(∀ b o,b≠I→s.heap.get? b=some o→h'.get? b=some o)→R (.ok .next) { s with heap:=h',toks:=tk }) :
 codeAny (model prog w) A (.forLoop tgt (.ref I) body [] env) R s:=by
 refine codeAny_forLoop_any (fun k s'=>∃ i,i≤n∧k=n+1 - i∧St i s'.heap∧J i s') ?_ (n+1) ⟨0,Nat.zero_le _,rfl,hst,h0⟩
 intro k s' q0
 refine exE1 q0 fun i hh=>anE4 hh fun hi e9 st hJ=>?_
 clear hh q0
 subst e9
 by_cases hlt:i < n
 · refine W.item i s' _ _ hlt st fun v h' tk hP st' hk=>?_
   refine hlet v _ _ _ ?_
   refine wpAny_mono (turn i v s' h' tk hlt hP hJ st st' fun b o hb e=>hk b o (by simpa using hb) e) (fun _ s₂ h₂=>?_) fun _ _ x=>x.elim
   refine wpAny_mono h₂ (fun f s₃ h₃=>?_) fun _ _ x=>x.elim
   cases f with
   | next=>exact exI1 (n+1 - (i+1)) (anI2 (by omega) (exI1 (i+1) (anI4 hlt rfl h₃.2 h₃.1)))
   | cont=>exact exI1 (n+1 - (i+1)) (anI2 (by omega) (exI1 (i+1) (anI4 hlt rfl h₃.2 h₃.1)))
   | brk=>exact h₃
   | ret v=>exact h₃
 · have:i=n:=by omega
   subst this
   refine W.done s' _ _ st fun h' tk hk=>?_
   exact wpAny_pure (done s' h' tk hJ st fun b o hb e=>hk b o (by simpa using hb) e)
end
end
section
noncomputable def Made (p:Nat→Bool) (F:Nat→Value→Prop) (n:Nat) (ys:List Value):Prop:=Paired F ((List.range n).filter p) ys
theorem Made.zero {p:Nat→Bool} {F:Nat→Value→Prop}:Made p F 0 []:=.nil
theorem paired_snoc {α β:Type} {F:α→β→Prop} {a:α} {b:β}:∀ {l:List α} {r:List β},Paired F l r→F a b→Paired F (l ++ [a]) (r ++ [b])
 | _,_,.nil,h=>.cons h .nil
 | _,_,.cons x y,h=>.cons x (paired_snoc y h)
theorem Made.skip {p:Nat→Bool} {F:Nat→Value→Prop} {n:Nat} {ys:List Value} (h:Made p F n ys) (e:p n=false):Made p F (n+1) ys:=by
 unfold Made at *
 rw [List.range_succ,List.filter_append,List.filter_cons_of_neg (by simp [e]),List.filter_nil,List.append_nil]
 exact h
theorem Made.take {p:Nat→Bool} {F:Nat→Value→Prop} {n:Nat} {ys:List Value} {y:Value} (h:Made p F n ys) (e:p n=true) (hy:F n y):Made p F (n+1) (ys ++ [y]):=by
 unfold Made at *
 rw [List.range_succ,List.filter_append,List.filter_cons_of_pos (by simp [e]),List.filter_nil]
 exact paired_snoc h hy
theorem paired_len {α β:Type} {F:α→β→Prop}:∀ {l:List α} {r:List β},Paired F l r→l.length=r.length
 | _,_,.nil=>rfl
 | _,_,.cons _ y=>by simp [paired_len y]
theorem Made.le {p:Nat→Bool} {F:Nat→Value→Prop} {n:Nat} {ys:List Value} (h:Made p F n ys):ys.length≤n:=by
 have:=paired_len h
 have h2:((List.range n).filter p).length≤(List.range n).length:=List.length_filter_le ..
 rw [List.length_range] at h2
 omega
theorem paired_strs {α:Type} {F:α→Value→Prop} {g:α→Str} (hF:∀ i y,F i y→∃ t,y=.str (g i) t):∀ {l:List α} {ys:List Value},Paired F l ys→StrsAre ys (l.map g)
 | _,_,.nil=>.nil
 | _,_,.cons h t=>by
   obtain ⟨u,rfl⟩:=hF _ _ h
   exact .cons _ _ (paired_strs hF t)
theorem Made.strs {p:Nat→Bool} {F:Nat→Value→Prop} {n:Nat} {ys:List Value} {g:Nat→Str} (h:Made p F n ys) (hF:∀ i y,F i y→∃ t,y=.str (g i) t):StrsAre ys (((List.range n).filter p).map g):=paired_strs hF h
theorem paired_ints' {α:Type} {F:α→Value→Prop} {g:α→Int} (hF:∀ i y,F i y→∃ t,y=.int (g i) t):∀ {l:List α} {ys:List Value},Paired F l ys→IntsAre ys (l.map g)
 | _,_,.nil=>.nil
 | _,_,.cons h t=>by
   obtain ⟨u,rfl⟩:=hF _ _ h
   exact .cons _ _ (paired_ints' hF t)
theorem Made.ints {p:Nat→Bool} {F:Nat→Value→Prop} {n:Nat} {ys:List Value} {g:Nat→Int} (h:Made p F n ys) (hF:∀ i y,F i y→∃ t,y=.int (g i) t):IntsAre ys (((List.range n).filter p).map g):=paired_ints' hF h
theorem step_of {w:World} {T:List Addr} {s:Shared} {h':Heap} {tk:Nat} (In:Inv w s.heap) (hk:∀ b o,b∉T→s.heap.get? b=some o→h'.get? b=some o) (hT:∀ a∈T,250≤a∧∀ o,s.heap.get? a=some o→isCode o=false):Step w T s { s with heap:=h',toks:=tk }:=by
 refine ⟨fun b o e hb=>hk b o hb e,rfl,id,In.keeps fun b o e hb=>hk b o (fun hm=>?_) e⟩
 obtain ⟨h1,h2⟩:=hT b hm
 rcases hb with hb | hb
 · exact absurd h1 (Nat.not_le.mpr hb)
 · rw [h2 o e] at hb;cases hb
theorem Step.wide {w:World} {T T':List Addr} {s s':Shared} (x:Step w T s s') (h:∀ a∈T,a∈T'∨s.heap.get? a=none):Step w T' s s' :=
 ⟨fun b o e hb=>x.keep b o e fun hm=>(h b hm).elim hb fun q=>(by rw [q] at e;cases e),x.os,x.gens,x.inv⟩
section
variable {w:World} {A:Around} {s:Shared} {R:Result→Shared→Prop} {elt iter:PySem.Expr} {ifs:List PySem.Expr} {x:Str} {px:Pos} {scope:Scope} {pos:Pos} {I D:Addr} {fp T Cs:List Addr} {n:Nat} {P:Nat→Value→Prop} {St:Nat→Heap→Prop} {cenv:Env}
theorem comp_loop (W:Walks prog w A I fp [I] n P St) (p:Nat→Bool) (F:Nat→Value→Prop) (Bd:Heap→Prop) (Bv:Value→Heap→Prop)
 (hBd:∀ h h',Bd h→(∀ b∈Cs,∀ o,h.get? b=some o→h'.get? b=some o)→Bd h')
 (hBc:∀ h,Bd h→∀ a∈Cs,∀ o,h.get? a=some o→isCode o=false)
 (hBv:∀ v h,Bv v h→Bd h)
 (hset:∀ v (s:Shared) (Q:Unit→Shared→Prop) E,Bd s.heap→(∀ h' tk,Bv v h'→(∀ b o,b∉Cs→s.heap.get? b=some o→h'.get? b=some o)→Q () { s with heap:=h',toks:=tk })→wpAny (model prog w) A (assign (.Name x px) cenv v) Q E s)
 (hIc:∀ i h,St i h→∀ o,h.get? I=some o→isCode o=false)
 (hI:250≤I) (hD:250≤D) (hCs:∀ a∈Cs,250≤a) (hT:∀ a∈T,a < 250) (hID:I≠D) (hIC:I∉Cs) (hDC:D∉Cs) (hfp:∀ b∈fp,b≠D∧b∉Cs∧b∉T)
 (In:Inv w s.heap) (hst:St 0 s.heap) (hacc:s.heap.PlainList D #[]) (hb:Bd s.heap)
 (tests:∀ i v (s₃:Shared),i < n→P i v→Step w (I :: D :: Cs ++ T) s s₃→Bv v s₃.heap →
   wpAny (model prog w) A (forIn ifs true fun c r=>if r=true then do let ok ← isTrue c cenv (eval c cenv);pure (ForInStep.yield ok) else pure (ForInStep.yield r)) (fun ok s₄=>ok=p i∧Step w (Cs ++ T) s₃ s₄∧Bv v s₄.heap) (fun _ _=>False) s₃)
 (helt:∀ i v (s₃:Shared),i < n→P i v→p i=true→Step w (I :: D :: Cs ++ T) s s₃→Bv v s₃.heap →
   wpAny (model prog w) A (eval elt cenv) (fun y s₄=>F i y∧Step w (Cs ++ T) s₃ s₄∧Bd s₄.heap) (fun _ _=>False) s₃)
 (hR:∀ (s':Shared) ys,Step w (I :: D :: Cs ++ T) s s'→Bd s'.heap→s'.heap.PlainList D ys→Made p F n ys.toList→R (.ok .next) s')
 (hsz:n≤sizeLine) :
 codeAny (model prog w) A (.compLoop (.ListComp elt [⟨.Name x px,iter,ifs,0⟩] scope pos) 0 (.ref I) (.ref D) cenv) R s:=by
 have nI:I∉Cs ++ T:=fun hm=>(List.mem_append.mp hm).elim hIC fun h=>absurd hI (Nat.not_le.mpr (hT _ h))
 have nD:D∉Cs ++ T:=fun hm=>(List.mem_append.mp hm).elim hDC fun h=>absurd hD (Nat.not_le.mpr (hT _ h))
 have sub:∀ a∈Cs ++ T,a∈I :: D :: Cs ++ T:=fun a h=>.tail _ (.tail _ h)
 have notCodeD:∀ {h:Heap} {ys:Array Value},h.PlainList D ys→∀ o,h.get? D=some o→isCode o=false:=fun ⟨k,e⟩ o e'=>by
  rw [e] at e';cases e';rfl
 refine codeAny_compLoop_tests
  (fun k s'=>∃ i ys,i≤n∧k=n+1 - i∧Step w (I :: D :: Cs ++ T) s s'∧St i s'.heap∧s'.heap.PlainList D ys∧Bd s'.heap∧Made p F i ys.toList) ?_ (n+1)
  ⟨0,#[],Nat.zero_le _,rfl,Step.refl In,hst,hacc,hb,.zero⟩
 intro k s' q0
 refine exE2 q0 fun i ys hh=>anE7 hh fun hi e9 S st acc bd M=>?_
 clear hh q0
 subst e9
 by_cases hlt:i < n
 · refine W.item i s' _ _ hlt st fun v h₁ tk₁ hPv st₁ k₁=>?_
   have k₁':∀ b o,b∉[I]→s'.heap.get? b=some o→h₁.get? b=some o:=k₁
   have S₁:Step w [I] s' { s' with heap:=h₁,toks:=tk₁ }:=step_of S.inv k₁' fun a ha=>by
    rw [mS ha];exact ⟨hI,hIc i _ st⟩
   have bd₁:Bd h₁:=hBd _ _ bd fun b hb o e=>k₁' b o (fun hm=>hIC (mS hm▸hb)) e
   have acc₁:h₁.PlainList D ys:=acc.at fun o e=>k₁' D o (fun hm=>hID (mS hm).symm) e
   refine hset v _ _ _ bd₁ fun h₂ tk₂ bv₂ k₂=>?_
   have S₂:Step w Cs { s' with heap:=h₁,toks:=tk₁ } { s' with heap:=h₂,toks:=tk₂ }:=step_of S₁.inv k₂ fun a ha=>⟨hCs a ha,hBc _ bd₁ a ha⟩
   have S':Step w (I :: D :: Cs ++ T) s { s' with heap:=h₂,toks:=tk₂ } :=
    (S.trans S₁ fun a ha=>.inl (mS ha▸.head _)).trans S₂ fun a ha=>.inl (.tail _ (.tail _ (List.mem_append.mpr (.inl ha))))
   have st₂:St (i+1) h₂:=W.frame _ _ _ st₁ fun b hb o e=>k₂ b o (hfp b hb).2.1 e
   have acc₂:h₂.PlainList D ys:=acc₁.at fun o e=>k₂ D o hDC e
   refine wpAny_mono (tests i v _ hlt hPv S' bv₂) (fun ok s₃ h₃=>?_) fun _ _ e=>e.elim
   obtain ⟨rfl,S₃,bv₃⟩:=h₃
   have S'₃:=S'.trans S₃ fun a ha=>.inl (sub a ha)
   have st₃:St (i+1) s₃.heap:=W.frame _ _ _ st₂ fun b hb o e=>S₃.keep b o e fun hm=>(List.mem_append.mp hm).elim (hfp b hb).2.1 (hfp b hb).2.2
   have acc₃:s₃.heap.PlainList D ys:=acc₂.at fun o e=>S₃.keep D o e nD
   cases hp:p i with
   | false =>
     simp only [Bool.false_eq_true,if_false]
     exact exI1 (n+1 - (i+1)) (anI2 (by omega) (exI2 (i+1) ys (anI7 hlt rfl S'₃ st₃ acc₃ (hBv _ _ bv₃) (M.skip hp))))
   | true =>
     simp only [if_true]
     refine wpAny_mono (helt i v s₃ hlt hPv hp S'₃ bv₃) (fun y s₄ h₄=>?_) fun _ _ e=>e.elim
     obtain ⟨hF,S₄,bd₄⟩:=h₄
     have S'₄:=S'₃.trans S₄ fun a ha=>.inl (sub a ha)
     have st₄:St (i+1) s₄.heap:=W.frame _ _ _ st₃ fun b hb o e=>S₄.keep b o e fun hm=>(List.mem_append.mp hm).elim (hfp b hb).2.1 (hfp b hb).2.2
     have acc₄:s₄.heap.PlainList D ys:=acc₃.at fun o e=>S₄.keep D o e nD
     have hys:ys.size≤sizeLine:=by
      have:=M.le
      simp only [Array.length_toList] at this
      omega
     refine wpAny_list_append_plain (hsz:=hys) acc₄ fun h₅ acc₅ sb=>?_
     have k₅:∀ b o,b∉[D]→s₄.heap.get? b=some o→h₅.get? b=some o:=fun b o hb e=>sb.extBut b o (fun q=>hb (List.mem_singleton.mpr q)) e
     have S₅:Step w [D] s₄ { s₄ with heap:=h₅,toks:=s₄.toks }:=step_of S₄.inv k₅ fun a ha=>by
      rw [mS ha];exact ⟨hD,notCodeD acc₄⟩
     refine exI1 (n+1 - (i+1)) (anI2 (by omega) (exI2 (i+1) (ys.push y) (anI7 hlt rfl (S'₄.trans S₅ fun a ha=>.inl (mS ha▸.tail _ (.head _))) ?_ acc₅ ?_ ?_)))
     · exact W.frame _ _ _ st₄ fun b hb o e=>k₅ b o (fun hm=>(hfp b hb).1 (mS hm)) e
     · exact hBd _ _ bd₄ fun b hb o e=>k₅ b o (fun hm=>hDC (mS hm▸hb)) e
     · rw [Array.toList_push];exact M.take hp hF
 · have hin:i=n:=by omega
   subst hin
   refine W.done s' _ _ st fun h₁ tk₁ k₁=>?_
   have S₁:Step w [I] s' { s' with heap:=h₁,toks:=tk₁ }:=step_of S.inv k₁ fun a ha=>by
    rw [mS ha];exact ⟨hI,hIc i _ st⟩
   refine hR _ ys (S.trans S₁ fun a ha=>.inl (mS ha▸.head _)) ?_ ?_ M
   · exact hBd _ _ bd fun b hb o e=>k₁ b o (fun hm=>hIC (mS hm▸hb)) e
   · exact acc.at fun o e=>k₁ D o (fun hm=>hID (mS hm).symm) e
end
end
section
section
variable {w:World} {A:Around} {E:VP} {s₁:Shared} {elt iter:PySem.Expr} {ifs:List PySem.Expr} {x:Str} {px:Pos} {scope:Scope} {pos:Pos} {cl:List (Str×Addr)} {fp T:List Addr} {n:Nat} {P:Nat→Value→Prop} {St:Nat→Heap→Prop} {env:Env} {p:Nat→Bool} {F:Nat→Value→Prop}
theorem fresh_le {h:Heap} {a:Nat} (ha:h.objs.size≤a):h.get? a=none:=Heap.get?_none_of_le ha
theorem n_lt2 {k:Nat} (h:@LT.lt Nat _ (k+2) k):False:=by omega
theorem n_lt1 {k:Nat} (h:@LT.lt Nat _ (k+2) (k+1)):False:=by omega
theorem n_ne {k:Nat} (h:k+1=k+2):False:=by omega
theorem n_ne0 {k:Nat} (h:k=k+2):False:=by omega
structure CompElt (w:World) (A:Around) (env:Env) (scope:Scope) (cl:List (Str×Addr)) (x:Str) (ifs:List PySem.Expr) (elt:PySem.Expr) (T:List Addr) (n:Nat) (P:Nat→Value→Prop) (p:Nat→Bool) (F:Nat→Value→Prop) (s₁:Shared):Prop where
 tests:∀ C i v (s₃:Shared) m,i < n→P i v→Step w T s₁ s₃→s₁.heap.get? C=none→250≤C→s₃.heap.Ns C m→m x=some v →
  wpAny (model prog w) A (forIn ifs true fun c r=>if r=true then do let ok ← isTrue c (compEnvC scope cl C env) (eval c (compEnvC scope cl C env));pure (ForInStep.yield ok) else pure (ForInStep.yield r)) (fun ok s₄=>ok=p i∧Step w (C :: T) s₃ s₄∧∃ m',s₄.heap.Ns C m'∧m' x=some v) (fun _ _=>False) s₃
 elt:∀ C i v (s₃:Shared) m,i < n→P i v→p i=true→Step w T s₁ s₃→s₁.heap.get? C=none→250≤C→s₃.heap.Ns C m→m x=some v →
  wpAny (model prog w) A (eval elt (compEnvC scope cl C env)) (fun y s₄=>F i y∧Step w (C :: T) s₃ s₄∧∃ m',s₄.heap.Ns C m') (fun _ _=>False) s₃
theorem comp_push {o:Obj} {RR:Value→Addr→Result→Shared→Prop} (In:Inv w s₁.heap) (hoc:isCode o=false) (W:Walks prog w A s₁.heap.objs.size fp [s₁.heap.objs.size] n P St) (hIc:∀ i h,St i h→∀ o,h.get? s₁.heap.objs.size=some o→isCode o=false)
 (hst:St 0 (s₁.heap.push o)) (hof:o.isFreed=false) (hfp:∀ b∈fp,b=s₁.heap.objs.size∨(b < s₁.heap.objs.size∧b∉T)) (hT:∀ a∈T,a < 250) (hsz:n≤sizeLine)
 (hcell:∀ y∈scope.names,y.2≠.cell) (hkind:scope.kind=.function) (hx:scope.names.lookup x=some .local) (H:CompElt w A env scope cl x ifs elt T n P p F s₁)
 (hRR:∀ D C k ys (s':Shared) m',Step w T s₁ s'→s₁.heap.get? D=none→s₁.heap.get? C=none→@Ne Nat D C→250≤D→250≤C→s'.heap.Ns C m'→s'.heap.get? D=some (listOf ys.toArray k)→Made p F n ys→RR (.ref D) C (.ok .next) s') :
 wpAny (model prog w) A (newList []) (fun acc s₃=>wpAny (model prog w) A (newFunctionEnv scope env.globals cl [] env.qual none .none (some env)) (fun cenv s₄ =>
  codeAny (model prog w) A (.compStart (.ListComp elt [⟨.Name x px,iter,ifs,0⟩] scope pos) 0 (.ref s₁.heap.objs.size) acc { cenv with scope:=relabel scope env }) (RR acc cenv.locals) s₄) E s₃) E { s₁ with heap:=s₁.heap.push o }:=by
 refine wpAny_newObj_type (wpAny_newFunctionEnv hcell (by intro y hy;simp at hy) (fun h₁ hns₁ hsb₁=>?_) hkind)
 dsimp only at hns₁ hsb₁ ⊢
 have e1:(s₁.heap.push o).objs.size=s₁.heap.objs.size+1:=Heap.size_push ..
 generalize hH2:(s₁.heap.push o).push { cls:=.type "list",dict:=none,data:=.seq ([]:List Value).toArray }=H2 at hns₁ hsb₁ ⊢
 have e2:H2.objs.size=s₁.heap.objs.size+2:=by rw [← hH2,Heap.size_push,e1]
 have old:∀ b o',s₁.heap.get? b=some o'→h₁.get? b=some o':=fun b o' e=>hsb₁.extBut b o' (fun q=>by have:=Heap.lt_size e;rw [q,e2] at this;exact n_lt2 this) (Heap.get?_push_of_some _ (hH2▸Heap.get?_push_of_some _ (Heap.get?_push_of_some _ e)))
 have hI1:(s₁.heap.push o).get? s₁.heap.objs.size=some o:=Heap.get?_push_size _ hof
 have oldI:∀ b o',(s₁.heap.push o).get? b=some o'→h₁.get? b=some o':=fun b o' e=>hsb₁.extBut b o' (fun q=>by have:=Heap.lt_size e;rw [q,e2,e1] at this;exact n_lt1 this) (Heap.get?_push_of_some _ (hH2▸Heap.get?_push_of_some _ e))
 have acc₀:h₁.PlainList (s₁.heap.objs.size+1) #[]:=by
  refine ⟨0,hsb₁.extBut _ _ (fun q=>by rw [e2] at q;exact n_ne q) (Heap.get?_push_of_some _ ?_)⟩
  rw [← hH2,← e1]
  exact Heap.get?_push_size _ rfl
 have sz:250≤s₁.heap.objs.size:=In.size
 have In₁:Inv w h₁:=In.keepAll old
 have hst₁:St 0 h₁:=W.frame _ _ _ hst fun b _ o' e=>oldI b o' e
 have frI:s₁.heap.get? s₁.heap.objs.size=none:=fresh_le (Nat.le_refl _)
 have frD:s₁.heap.get? (s₁.heap.objs.size+1)=none:=fresh_le (Nat.le_succ _)
 have frC:s₁.heap.get? H2.objs.size=none:=fresh_le (by rw [e2];exact Nat.le_add_right _ 2)
 have S₀:∀ tk,Step w T s₁ { s₁ with heap:=h₁,toks:=tk }:=fun tk=>⟨fun b o' e _=>old b o' e,rfl,id,In₁⟩
 have loop:codeAny (model prog w) A (.compLoop (.ListComp elt [⟨.Name x px,iter,ifs,0⟩] scope pos) 0 (.ref s₁.heap.objs.size) (.ref (s₁.heap.objs.size+1)) (compEnvC scope cl H2.objs.size env)) (RR (.ref (s₁.heap.objs.size+1)) H2.objs.size) { s₁ with heap:=h₁,toks:=s₁.toks+([]:List (Str×Value)).length }:=by
  have nTw:∀ a∈s₁.heap.objs.size :: (s₁.heap.objs.size+1) :: [H2.objs.size] ++ T,a∈T∨s₁.heap.get? a=none:=fun a ha=>by
   rcases List.mem_append.mp ha with ha | ha
   · right
     rcases mC ha with rfl | ha
     · exact frI
     · rcases mC ha with rfl | ha
       · exact frD
       · rw [mS ha];exact frC
   · exact .inl ha
  refine comp_loop (Cs:=[H2.objs.size]) (T:=T) W p F (fun h=>∃ m,h.Ns H2.objs.size m) (fun v h=>∃ m,h.Ns H2.objs.size m∧m x=some v) ?_ ?_ ?_ ?_ hIc sz (Nat.le_succ_of_le sz) ?_ hT ?_ ?_ ?_ ?_ In₁ hst₁ acc₀ ⟨_,hns₁⟩ ?_ ?_ ?_ hsz
  · rintro h h' ⟨m,hn⟩ hk
    exact ⟨m,hn.at' fun o e=>hk _ (.head _) o e⟩
  · rintro h ⟨m,hn⟩ a ha
    rw [mS ha]
    exact ns_notCode hn
  · rintro v h ⟨m,hn,-⟩;exact ⟨m,hn⟩
  · rintro v s Q E ⟨m,hn⟩ k
    refine wpAny_assign_Name (wpAny_storeName_local (env:=compEnvC scope cl H2.objs.size env) (lookup_relabel_local hx) hn (fun h' hn' hs'=>?_) (by simp [compEnvC,relabel,hkind]))
    exact k h' _ ⟨_,hn',by simp⟩ fun b o hb e=>hs'.extBut b o (fun q=>hb (List.mem_singleton.mpr q)) e
  · intro a ha
    rw [mS ha,e2];exact Nat.le_trans sz (Nat.le_add_right _ 2)
  · exact Nat.ne_of_lt (Nat.lt_succ_self _)
  · rw [List.mem_singleton,e2];exact n_ne0
  · rw [List.mem_singleton,e2];exact n_ne
  · intro b hb
    rcases hfp b hb with rfl | ⟨h1,h2⟩
    · refine ⟨Nat.ne_of_lt (Nat.lt_succ_self _),?_,fun hm=>absurd sz (Nat.not_le.mpr (hT _ hm))⟩
      rw [List.mem_singleton,e2];exact n_ne0
    · refine ⟨Nat.ne_of_lt (Nat.lt_succ_of_lt h1),?_,h2⟩
      rw [List.mem_singleton,e2]
      intro h
      rw [h] at h1
      exact n_lt2 h1
  · rintro i v s₃ hi hP S ⟨m,hn,hm⟩
    refine wpAny_mono (H.tests H2.objs.size i v s₃ m hi hP (((S₀ _).trans S fun a ha=>(nTw a ha)).wide fun a ha=>.inl ha) frC (by rw [e2];exact Nat.le_trans sz (Nat.le_add_right _ 2)) hn hm) (fun ok s₄ h₄=>h₄) fun _ _ e=>e
  · rintro i v s₃ hi hP hp S ⟨m,hn,hm⟩
    exact wpAny_mono (H.elt H2.objs.size i v s₃ m hi hP hp (((S₀ _).trans S fun a ha=>(nTw a ha)).wide fun a ha=>.inl ha) frC (by rw [e2];exact Nat.le_trans sz (Nat.le_add_right _ 2)) hn hm) (fun ok s₄ h₄=>h₄) fun _ _ e=>e
  · rintro s' ys S ⟨m,hn⟩ ⟨k,hl⟩ M
    refine hRR _ _ k ys.toList s' m ((S₀ _).trans S nTw) frD frC (by rw [e2];exact Nat.ne_of_lt (Nat.lt_succ_self _)) (Nat.le_succ_of_le sz) (by rw [e2];exact Nat.le_trans sz (Nat.le_add_right _ 2)) hn ?_ M
    rw [hl]
 show codeAny _ _ _ (RR (.ref (s₁.heap.push o).objs.size) H2.objs.size) _
 rw [e1]
 exact codeAny_compStart_list loop (W.self 0 _ _ _ hst₁ loop)
end
end
section
section
variable {w:World} {A:Around} {E:VP} {s s₁:Shared} {elt iter:PySem.Expr} {ifs:List PySem.Expr} {x:Str} {px:Pos} {scope:Scope} {pos:Pos} {cl:List (Str×Addr)} {fp T:List Addr} {n:Nat} {P:Nat→Value→Prop} {St:Nat→Heap→Prop} {env:Env} {p:Nat→Bool} {F:Nat→Value→Prop}
noncomputable def Src (prog:Program) (w:World) (T:List Addr) (xv:Value) (n:Nat) (P:Nat→Value→Prop) (s₁:Shared):Prop :=
 ∀ (A:Around) (Q E:VP),A.handled=none →
   (∀ o fp St tk,isCode o=false→o.isFreed=false→Walks prog w A s₁.heap.objs.size fp [s₁.heap.objs.size] n P St→(∀ i h,St i h→∀ o,h.get? s₁.heap.objs.size=some o→isCode o=false)→St 0 (s₁.heap.push o) →
     (∀ b∈fp,b=s₁.heap.objs.size∨(b < s₁.heap.objs.size∧b∉T))→Q (.ref s₁.heap.objs.size) { s₁ with heap:=s₁.heap.push o,toks:=tk })→wpAny (model prog w) A (pyIter xv) Q E s₁
theorem comp_S {Q:VP} (hh:A.handled=none) (hclos:closureFor scope env=pure cl) (hcell:∀ y∈scope.names,y.2≠.cell) (hkind:scope.kind=.function) (hnames:∀ y∈scope.names,y.2=.local→scope.names.lookup y.1=some .local) (hx:scope.names.lookup x=some .local) (hT:∀ a∈T,a < 250)
 (h:wpAny (model prog w) A (eval iter env) (fun xv s₁=>∃ n P p F,Inv w s₁.heap∧n≤sizeLine∧Src prog w T xv n P s₁∧(∀ tk,CompElt w A env scope cl x ifs elt T n P p F { s₁ with toks:=tk }) ∧
   (∀ D k ys (s':Shared),Step w T s₁ s'→s₁.heap.get? D=none→At s'.heap D (listOf ys.toArray k)→Made p F n ys→Q (.ref D) s')) E s)
 (hs:∀ x,foldedSetIterable iter env x=pure x:=by intro _;rfl) :
 wpAny (model prog w) A (eval (.ListComp elt [⟨.Name x px,iter,ifs,0⟩] scope pos) env) Q E s:=by
 rw [eval_ListComp]
 refine wpAny_comprehension_free (use:=none) rfl hs hclos hkind hnames (wpAny_mono h (fun xv s₁ h₁=>?_) fun _ _ e=>e)
 refine exE4 h₁ fun n P p F hh=>anE5 hh fun In hsz src H k=>?_;clear hh;try clear h₁
 refine src A _ _ hh fun o fp St tk hoc hof W hIc hst hfp=>?_
 refine comp_push (s₁:={ s₁ with toks:=tk }) (RR:=fun acc C=>compPost (model prog w) A E none Q acc C) In hoc W hIc hst hof hfp hT hsz hcell hkind hx (H tk) ?_
 intro D C kk ys s' m' S fD fC nDC hD hC hn hl M
 refine ⟨m',hn,fun h'' hs''=>?_⟩
 have S2:Step w [C] s' { s' with heap:=h'',toks:=s'.toks }:=step_of S.inv (fun b o hb e=>hs''.extBut b o (fun q=>hb (List.mem_singleton.mpr q)) e) fun a ha=>by
  rw [mS ha];exact ⟨hC,ns_notCode hn⟩
 have S0:Step w T s₁ { s₁ with toks:=tk }:=(Step.refl In).toks tk
 exact k D kk ys _ ((S0.trans S fun a h=>.inl h).trans S2 fun a ha=>by rw [mS ha];exact .inr fC) fD ⟨hs''.extBut D _ nDC hl,hD⟩ M
theorem comp_A {y:Str} {py:Pos} {spos:Pos} {Q:Flow→Shared→Prop} (hh:A.handled=none)
 (hsw:swapsWith (.ListComp elt [⟨.Name x px,iter,ifs,0⟩] scope pos) (some (.Name y py)) spos.line env=pure true)
 (hclos:closureFor scope env=pure cl) (hcell:∀ y∈scope.names,y.2≠.cell) (hkind:scope.kind=.function) (hnames:∀ y∈scope.names,y.2=.local→scope.names.lookup y.1=some .local) (hx:scope.names.lookup x=some .local) (hT:∀ a∈T,a < 250)
 (hy:env.kindOf y=some .local) (hp:(env.scope.kind == .class || (env.scope.kind == .module && env.locals != env.globals))=false)
 (h:wpAny (model prog w) A (eval iter env) (fun xv s₁=>∃ n P p F m,Inv w s₁.heap∧250≤env.locals∧s₁.heap.Ns env.locals m∧n≤sizeLine∧Src prog w T xv n P s₁∧(∀ tk,CompElt w A env scope cl x ifs elt T n P p F { s₁ with toks:=tk }) ∧
   (∀ D k ys (s':Shared),Step w (env.locals :: T) s₁ s'→s₁.heap.get? D=none→At s'.heap D (listOf ys.toArray k)→Made p F n ys→s'.heap.Ns env.locals (fun z=>if z=y then some (.ref D) else m z)→Q .next s')) E s)
 (hs:∀ x,foldedSetIterable iter env x=pure x:=by intro _;rfl) :
 wpAny (model prog w) A (exec (.Assign [.Name y py] (.ListComp elt [⟨.Name x px,iter,ifs,0⟩] scope pos) spos) env) Q E s:=by
 rw [exec_Assign_Name_used _ _ _ _ hsw]
 refine wpAny_bind (wpAny_standAt (wpAny_bind ?_))
 show wpAny _ A (do let _ ← comprehension (.ListComp elt [⟨.Name x px,iter,ifs,0⟩] scope pos) scope env _ (newList []) false (eval iter env) (some (assign (.Name y py) env))) _ _ s
 refine wpAny_bind (wpAny_mono (wpAny_comprehension_free (use:=some (assign (.Name y py) env)) (Q:=fun _ s'=>Q .next s') rfl hs hclos hkind hnames
  (wpAny_mono h (fun xv s₁ h₁=>?_) fun _ _ e=>e)) (fun _ s' hq=>wpAny_pure (wpAny_pure hq)) fun _ _ e=>e)
 refine exE5 h₁ fun n P p F m hh=>anE7 hh fun In hL hnL hsz src H k=>?_;clear hh;try clear h₁
 refine src A _ _ hh fun o fp St tk hoc hof W hIc hst hfp=>?_
 refine comp_push (s₁:={ s₁ with toks:=tk }) (RR:=fun acc C=>compPost (model prog w) A E (some (assign (.Name y py) env)) (fun _ s'=>Q .next s') acc C) In hoc W hIc hst hof hfp hT hsz hcell hkind hx (H tk) ?_
 intro D C kk ys s' m' S fD fC nDC hD hC hn hl M
 have S0:Step w T s₁ { s₁ with toks:=tk }:=(Step.refl In).toks tk
 have S':Step w T s₁ s':=S0.trans S fun a h=>.inl h
 have nLT:env.locals∉T:=fun hm=>absurd hL (Nat.not_le.mpr (hT _ hm))
 have hLC:env.locals≠C:=by rintro rfl;refine exE3 hnL fun o _ _ hh=>anE2 hh fun ho _=>?_;clear hh;try clear hnL;have:=fC;dsimp only at this;rw [ho] at this;cases this
 have hLD:env.locals≠D:=by rintro rfl;refine exE3 hnL fun o _ _ hh=>anE2 hh fun ho _=>?_;clear hh;try clear hnL;have:=fD;dsimp only at this;rw [ho] at this;cases this
 have hnL':s'.heap.Ns env.locals m:=hnL.at' fun o e=>S'.keep _ o e nLT
 show wpAny _ A (assign (.Name y py) env (.ref D)) _ _ _
 refine wpAny_assign_Name (wpAny_storeName_local hy hnL' (fun h₂ hn₂ hs₂=>?_) hp)
 refine ⟨m',hn.sameBut hs₂ (Ne.symm hLC),fun h₃ hs₃=>?_⟩
 have S2:Step w [env.locals] s' { s' with heap:=h₂,toks:=s'.toks+1 }:=step_of S'.inv (fun b o hb e=>hs₂.extBut b o (fun q=>hb (List.mem_singleton.mpr q)) e) fun a ha=>by
  rw [mS ha];exact ⟨hL,ns_notCode hnL'⟩
 have S3:Step w [C] { s' with heap:=h₂,toks:=s'.toks+1 } { s' with heap:=h₃,toks:=s'.toks+1 }:=step_of S2.inv (fun b o hb e=>hs₃.extBut b o (fun q=>hb (List.mem_singleton.mpr q)) e) fun a ha=>by
  rw [mS ha];exact ⟨hC,ns_notCode (hn.sameBut hs₂ (Ne.symm hLC))⟩
 refine k D kk ys _ (((S'.wide fun a ha=>.inl (.tail _ ha)).trans S2 fun a ha=>.inl (by rw [mS ha];exact .head _)).trans S3 fun a ha=>by rw [mS ha];exact .inr fC) fD ⟨hs₃.extBut D _ nDC (hs₂.extBut D _ (Ne.symm hLD) hl),hD⟩ M (hn₂.sameBut hs₃ hLC)
theorem src_str {y:Str} {t:Tok}:Src prog w T (.str y t) y.cps.size (SignAt y) s₁:=by
 intro A Q E hh k
 refine wpAny_pyIter_strU (k _ [s₁.heap.objs.size] (fun i h=>h.IsStrIter s₁.heap.objs.size (strIterType y) y t i) s₁.toks rfl rfl ?_ ?_ ?_ ?_)
 · unfold strIterType
   split
   · exact Walks.strAscii hh _ y t
   · exact Walks.strWide hh _ y t
 · rintro i h ⟨o,ho,_,hd⟩ o' e
   rw [ho] at e
   cases e
   unfold isCode
   rw [hd];rfl
 · exact exI1 _ (anI3 (Heap.get?_push_size _ rfl) rfl rfl)
 · intro b hb;exact .inl (mS hb)
theorem src_list {l nl:Nat} {vs:List Value} (hT:∀ a∈T,a < 250) (hl:At s₁.heap l (listOf vs.toArray nl)):Src prog w T (.ref l) vs.length (fun i v=>vs[i]? = some v) s₁:=by
 intro A Q E hh k
 have il:s₁.heap.IsList l vs.toArray:=⟨_,hl.1,rfl,_,rfl⟩
 have lt:l < s₁.heap.objs.size:=hl.lt
 refine wpAny_pyIter_list il (k _ [s₁.heap.objs.size,l] (fun i h=>h.IsListIter s₁.heap.objs.size l i∧h.IsList l vs.toArray) s₁.toks rfl rfl ?_ ?_ ?_ ?_)
 · have W:=Walks.list (prog:=prog) (w:=w) hh s₁.heap.objs.size l (Nat.ne_of_lt lt) vs.toArray
   simpa using W
 · rintro i h ⟨⟨o,ho,_,hd⟩,_⟩ o' e
   rw [ho] at e
   cases e
   unfold isCode
   rw [hd];rfl
 · exact ⟨⟨_,Heap.get?_push_size _ rfl,rfl,rfl⟩,il.push _⟩
 · intro b hb
   rcases mC hb with rfl | hb
   · exact .inl rfl
   · rw [mS hb]
     exact .inr ⟨lt,fun hm=>absurd hl.2 (Nat.not_le.mpr (hT _ hm))⟩
end
end
section
noncomputable def TabPs (ps:Array Value) (q:Str) (ln cl:Int) (h:Heap):Prop:=ps=#[]∨∃ c0,250≤c0∧ps=#[rawInt ln,rawInt cl,.ref c0]∧h.CodeRec (.ref c0) q
theorem tabPs_of {P:Addr} {q:Str} {ln cl:Int} {h:Heap} (x:TabOk P q ln cl h):∃ ps,h.get? P=some (tabObj ps)∧TabPs ps q ln cl h:=by
 rcases x with e | ⟨c,h1,e,hc⟩
 · exact ⟨_,e,.inl rfl⟩
 · exact ⟨_,e,.inr ⟨c,h1,rfl,hc⟩⟩
noncomputable def CodeIn (h₀:Heap) (ex:List (Addr×Obj)) (c':Addr) (q:Str):Prop:=h₀.CodeRec (.ref c') q∨∃ oc vs t,(c',oc)∈ex∧oc.data=.fields vs∧vs[1]? = some (.str q t)
theorem CodeIn.rec {h₀ h:Heap} {L:Addr} {m:Str→Option Value} {ex news:List (Addr×Obj)} {c':Addr} {q:Str} (x:CodeIn h₀ ex c' q) (F:Fr h₀ L h m) (N:News h₀ L h news) (hx:∀ p∈ex,p∈news):h.CodeRec (.ref c') q:=by
 rcases x with x | ⟨oc,vs,t,hm,d,e⟩
 · refine exE4 x fun c o vs t hh=>anE3 hh fun e g r=>?_;clear hh;try clear x
   exact exI4 c o vs t (anI3 e (F.keep _ _ g) r)
 · exact exI4 c' oc vs t (anI4 rfl (N _ (hx _ hm)).1 d e)
section
variable {w:World} {A:Around} {E:VP} {s s₀:Shared} {h₀:Heap} {L P c a:Addr} {m:Str→Option Value} {led news:List (Addr×Obj)} {g:Obj→List (Addr×Obj)}
theorem def_both {loose:List Str} {mean:ExcName→Option Value} {mg mb:Str→Option Value} {cn name qual:Str} {cs scope:Scope} {params:Arguments} {body:List Stmt} {cl clos:List (Str×Addr)} {pos:Pos} {ps:Array Value} {ln col:Int} {Q:Flow→Shared→Prop}
 (B:BaseT w s₀ led h₀) (F:Fr h₀ L s.heap m) (N:News h₀ L s.heap news) (T:Top topProg loose mean mg mb h₀) (C:CodeHd h₀ c P) (U:UpdF P (tabObj ps) news g) (big:∃ q∈news,250≤q.1)
 (hps:TabPs ps qual ln col s₀.heap) (hln:rawInt pos.line=rawInt ln) (hcol:rawInt pos.col=rawInt col) (hhit:∀ c0:Addr,codeAmong pos [rawInt ln,rawInt col,.ref c0]=some (.ref c0)) (hd0:params.defaults=[]) (hk0:params.kw_defaults=[]) (ha:annTrees params none (envX cn cs L a (.ref c) cl)=[]) (hq:qualnameIn (envX cn cs L a (.ref c) cl) name name=qual)
 (hcl:closureFor scope (envX cn cs L a (.ref c) cl)=pure clos)
 (h:∀ f c' ct dc h' tk ps' ex,Fr h₀ L h' m→News h₀ L h' ((f,fnMade name qual params body scope clos dc ((mg "__name__").getD .none) c' ct) :: (g (tabObj ps') ++ ex))→(∀ q∈news,@LT.lt Nat _ q.1 f)→(∀ p∈ex,(∀ q∈news,@LT.lt Nat _ q.1 p.1)∧@LT.lt Nat _ p.1 f∧isCode p.2=true)→CodeIn h₀ ex c' qual→ps'=#[rawInt ln,rawInt col,.ref c']→250≤c' →
   wpAny (model prog w) A (storeName (envX cn cs L a (.ref c) cl) name (.ref f)) (fun _ s''=>Q .next s'') E { s with heap:=h',toks:=tk }) :
 wpAny (model prog w) A (exec (.FunctionDef name params body [] none [] scope none name pos) (envX cn cs L a (.ref c) cl)) Q E s:=by
 refine nestDef_K hd0 hk0 ha ?_
 rw [hq]
 rcases hps with rfl | ⟨c0,h250,rfl,hc0⟩
 · refine nest_K F N T C rfl U True.intro rfl hcl ?_
   intro f c' oc vs t ct dc h' tk F' N' d1 d2 l1 l2
   obtain ⟨q,hq,hq2⟩:=big
   have h250:250≤c':=Nat.le_trans hq2 (Nat.le_of_lt (l1 q hq))
   refine h f c' ct dc h' tk (#[] ++ #[rawInt pos.line,rawInt pos.col,.ref c']) [(c',oc)] F' (fun p hp=>?_) (fun q hq=>Nat.lt_trans (l1 q hq) l2) (fun p hp=>?_) (.inr ⟨oc,vs,t,.head _,d1,d2⟩) ?_ h250
   · rcases mC hp with rfl | hp
     · exact N' _ (.head _)
     · rcases List.mem_append.mp hp with hp | hp
       · exact N' _ (.tail _ (.tail _ hp))
       · rw [mS hp];exact N' _ (.tail _ (.head _))
   · rw [mS hp]
     exact ⟨l1,l2,by unfold isCode;rw [d1];dsimp only;rw [d2]⟩
   · rw [hln,hcol];rfl
 · refine exE2 U.split fun pre post hh=>anE4 hh fun e1 e2 _ _=>?_;clear hh
   have hm:(P,tabObj #[rawInt ln,rawInt col,.ref c0])∈news:=by rw [e1];exact List.mem_append_right _ (.head _)
   refine nestHit_K (c':=c0) F N T C rfl hm (by simp [TriplesOk,rawInt]) (hhit c0) hcl ?_
   intro f ct dc h' tk F' N' l1
   have hcr:CodeIn h₀ [] c0 qual:=by
    refine exE4 hc0 fun c1 o vs t hh=>anE4 hh fun e g1 d r=>?_;clear hh;try clear hc0
    cases e
    refine .inl ⟨c0,o,vs,t,rfl,baseT_to B g1 fun hm=>?_,d,r⟩
    obtain ⟨p,hp,e⟩:=List.mem_map.mp hm
    obtain ⟨a1,a2⟩:=B.ats p hp
    have hc:isCode o=true:=by unfold isCode;rw [d];dsimp only;rw [r]
    rcases a2 with a2 | a2
    · rw [e,g1] at a1
      rw [← Option.some.inj a1] at a2
      have:=a2.2
      rw [isMut,hc] at this
      cases this
    · have:c0 < 250:=by
       rw [← e]
       simp only [TB,List.mem_cons,nM,or_false] at a2
       rcases a2 with q | q | q | q | q <;> (rw [q];decide)
      exact absurd h250 (Nat.not_le.mpr this)
   refine h f c0 ct dc h' tk #[rawInt ln,rawInt col,.ref c0] [] F' (fun p hp=>?_) l1 (fun _ hp=>absurd hp nM) hcr rfl h250
   rw [List.append_nil,e2,← e1] at hp
   exact N' _ hp
end
end
section
noncomputable abbrev Own:=Nat→Nat
noncomputable def frees (o:Own) (x:List Nat):Nat:=(x.filter fun c=>o c == 0).length
noncomputable def taken (o:Own) (x:List Nat):Bool:=x.any fun c=>o c == 2
noncomputable def wt (o:Own) (x:List Nat):Nat:=if taken o x then 0 else 2 ^ (4 - frees o x)
noncomputable def pot (o:Own) (ns:List (List Nat)):Nat:=(ns.map (wt o)).sum
noncomputable def cw (o:Own) (ns:List (List Nat)) (c:Nat):Nat:=(ns.map fun x=>if x.contains c then wt o x else 0).sum
noncomputable def setO (o:Own) (c k:Nat):Own:=fun d=>if d=c then k else o d
noncomputable def NameOk (x:List Nat):Prop:=x.Nodup∧(∀ c∈x,c < 7)∧(x.length=3∨x.length=4)
theorem sum_le {α:Type} (f g:α→Nat):∀ l:List α,(∀ x∈l,f x≤g x)→(l.map f).sum≤(l.map g).sum
 | [],_=>Nat.le_refl _
 | a :: r,h=>by
   rw [List.map_cons,List.map_cons,List.sum_cons,List.sum_cons]
   have:=sum_le f g r fun x hx=>h x (.tail _ hx)
   have:=h a (.head _)
   omega
theorem sum_eq {α:Type} (f g:α→Nat):∀ l:List α,(∀ x∈l,f x=g x)→(l.map f).sum=(l.map g).sum
 | [],_=>rfl
 | a :: r,h=>by
   rw [List.map_cons,List.map_cons,List.sum_cons,List.sum_cons,sum_eq f g r fun x hx=>h x (.tail _ hx),h a (.head _)]
theorem sum_add {α:Type} (f g:α→Nat):∀ l:List α,(l.map fun x=>f x+g x).sum=(l.map f).sum+(l.map g).sum
 | []=>rfl
 | a :: r=>by
   rw [List.map_cons,List.map_cons,List.map_cons,List.sum_cons,List.sum_cons,List.sum_cons,sum_add f g r]
   omega
theorem cw_le (o:Own) (ns:List (List Nat)) (c:Nat):cw o ns c≤pot o ns :=
 sum_le _ _ ns fun x _=>by split <;> omega
theorem set_self (o:Own) (c k:Nat):setO o c k c=k:=if_pos rfl
theorem set_ne (o:Own) {c d:Nat} (k:Nat) (h:d≠c):setO o c k d=o d:=if_neg h
theorem any_set_not {o:Own} {c k:Nat} {x:List Nat} (h:c∉x):taken (setO o c k) x=taken o x:=by
 induction x with
 | nil=>rfl
 | cons a r ih =>
   have ha:a≠c:=fun e=>h (e▸.head _)
   have hr:=ih fun m=>h (.tail _ m)
   unfold taken at hr ⊢
   rw [List.any_cons,List.any_cons,hr,set_ne o k ha]
theorem frees_set_not {o:Own} {c k:Nat} {x:List Nat} (h:c∉x):frees (setO o c k) x=frees o x:=by
 induction x with
 | nil=>rfl
 | cons a r ih =>
   have ha:a≠c:=fun e=>h (e▸.head _)
   have hr:=ih fun m=>h (.tail _ m)
   unfold frees at hr ⊢
   rw [List.filter_cons,List.filter_cons,set_ne o k ha]
   split <;> simp [hr]
theorem wt_set_not {o:Own} {c k:Nat} {x:List Nat} (h:c∉x):wt (setO o c k) x=wt o x:=by
 unfold wt;rw [any_set_not h,frees_set_not h]
theorem frees_set {o:Own} {c k:Nat} {x:List Nat} (hn:x.Nodup) (h:c∈x) (h0:o c=0) (hk:k≠0):frees o x=frees (setO o c k) x+1:=by
 induction x with
 | nil=>cases h
 | cons a r ih =>
   have hn':=List.nodup_cons.mp hn
   rcases mC h with e | m
   · subst e
     have h1:=frees_set_not (o:=o) (k:=k) hn'.1
     unfold frees at h1 ⊢
     rw [List.filter_cons,List.filter_cons,set_self,h0]
     simp [hk,h1]
   · have ha:a≠c:=fun e=>hn'.1 (e▸m)
     have h1:=ih hn'.2 m
     unfold frees at h1 ⊢
     rw [List.filter_cons,List.filter_cons,set_ne o k ha]
     split
     · simp only [List.length_cons];omega
     · exact h1
theorem taken_set1 {o:Own} {c:Nat} {x:List Nat} (h0:o c=0):taken (setO o c 1) x=taken o x:=by
 unfold taken
 induction x with
 | nil=>rfl
 | cons a r ih =>
   rw [List.any_cons,List.any_cons,ih]
   by_cases ha:a=c
   · subst ha;rw [set_self,h0];rfl
   · rw [set_ne o 1 ha]
theorem taken_set2 {o:Own} {c:Nat} {x:List Nat} (h:c∈x):taken (setO o c 2) x=true:=by
 unfold taken
 rw [List.any_eq_true]
 exact ⟨c,h,by rw [set_self];rfl⟩
theorem frees_le (o:Own) (x:List Nat):frees o x≤x.length:=List.length_filter_le ..
theorem wt_one {o:Own} {c:Nat} {x:List Nat} (hx:NameOk x) (h0:o c=0):wt (setO o c 1) x=wt o x+if x.contains c then wt o x else 0:=by
 by_cases hc:c∈x
 · rw [if_pos (List.contains_iff_mem.mpr hc)]
   unfold wt
   rw [taken_set1 h0]
   split
   · rfl
   · have h1:=frees_set hx.1 hc h0 (k:=1) (by decide)
     have h2:=frees_le o x
     have h3:x.length≤4:=by rcases hx.2.2 with e | e <;> omega
     rw [show 4 - frees (setO o c 1) x=(4 - frees o x) + 1 by omega,Nat.pow_succ]
     omega
 · rw [if_neg (fun e=>hc (List.contains_iff_mem.mp e)),wt_set_not hc];rfl
theorem pot_one {o:Own} {c:Nat} {ns:List (List Nat)} (hn:∀ x∈ns,NameOk x) (h0:o c=0):pot (setO o c 1) ns=pot o ns+cw o ns c:=by
 unfold pot cw
 rw [← sum_add]
 exact sum_eq _ _ ns fun x hx=>wt_one (hn x hx) h0
theorem wt_two {o:Own} {c:Nat} {x:List Nat}:wt o x=wt (setO o c 2) x+if x.contains c then wt o x else 0:=by
 by_cases hc:c∈x
 · rw [if_pos (List.contains_iff_mem.mpr hc)]
   have:wt (setO o c 2) x=0:=by unfold wt;rw [taken_set2 hc];rfl
   omega
 · rw [if_neg (fun e=>hc (List.contains_iff_mem.mp e)),wt_set_not hc];rfl
theorem pot_two {o:Own} {c:Nat} {ns:List (List Nat)}:pot o ns=pot (setO o c 2) ns+cw o ns c:=by
 unfold pot cw
 rw [← sum_add]
 exact sum_eq _ _ ns fun x _=>wt_two
theorem cw_two {o:Own} {c:Nat} {ns:List (List Nat)} (d:Nat):cw (setO o c 2) ns d≤cw o ns d:=by
 unfold cw
 refine sum_le _ _ ns fun x _=>?_
 have:=wt_two (o:=o) (c:=c) (x:=x)
 split <;> omega
noncomputable def Even (o:Own) (ns:List (List Nat)):Prop:=∀ c,o c=0→c < 7→pot o ns+cw o ns c≤14
noncomputable def Odd (o:Own) (ns:List (List Nat)):Prop:=pot o ns≤14
theorem odd_of {o:Own} {ns:List (List Nat)} (hn:∀ x∈ns,NameOk x) (h:Even o ns) {c:Nat} (h0:o c=0) (h7:c < 7):Odd (setO o c 1) ns:=by
 unfold Odd
 rw [pot_one hn h0]
 exact h c h0 h7
theorem even_of {o:Own} {ns:List (List Nat)} (h:Odd o ns) {c:Nat} (hmax:∀ d,o d=0→d < 7→cw o ns d≤cw o ns c):Even (setO o c 2) ns:=by
 intro d hd h7
 have hd0:o d=0:=by
  by_cases e:d=c
  · subst e;rw [set_self] at hd;cases hd
  · rwa [set_ne o 2 e] at hd
 have h1:=pot_two (o:=o) (c:=c) (ns:=ns)
 have h2:=cw_two (o:=o) (c:=c) (ns:=ns) d
 have h3:=hmax d hd0 h7
 unfold Odd at h
 omega
theorem le_sum {α:Type} (f:α→Nat):∀ {l:List α} {x:α},x∈l→f x≤(l.map f).sum
 | a :: r,x,h=>by
   rw [List.map_cons,List.sum_cons]
   rcases mC h with e | m
   · subst e;omega
   · have:=le_sum f m;omega
theorem end_of {o:Own} {ns:List (List Nat)} (hn:∀ x∈ns,NameOk x) (h:Odd o ns) (hall:∀ c,c < 7→o c≠0):∀ x∈ns,taken o x=true:=by
 intro x hx
 cases e:taken o x with
 | true=>rfl
 | false =>
   exfalso
   have h0:frees o x=0:=by
    unfold frees
    rw [List.length_eq_zero_iff,List.filter_eq_nil_iff]
    intro c hc
    have:=hall c ((hn x hx).2.1 c hc)
    simpa using this
   have hw:wt o x=16:=by unfold wt;rw [e,h0];rfl
   have:=le_sum (wt o) hx
   unfold Odd pot at h
   omega
theorem even_start {ns:List (List Nat)} (h:(ns.map fun x=>2 ^ (4 - x.length)).sum≤7):Even (fun _=>0) ns:=by
 intro c _ _
 have e:∀ x:List Nat,wt (fun _=>0) x=2 ^ (4 - x.length):=fun x=>by
  unfold wt taken frees
  rw [if_neg (by simp)]
  rw [show (x.filter fun c=>(0:Nat) == 0)=x from List.filter_eq_self.mpr fun _ _=>rfl]
 have h1:pot (fun _=>0) ns=(ns.map fun x=>2 ^ (4 - x.length)).sum:=sum_eq _ _ ns fun x _=>e x
 have h2:=cw_le (fun _=>0) ns c
 omega
end
section
noncomputable def val (b:Nat):List Nat→Nat
 | []=>0
 | x :: r=>x+2 ^ b*val b r
theorem val_lt (b:Nat):∀ w:List Nat,(∀ x∈w,x < 2 ^ b)→val b w < 2 ^ (b*w.length)
 | [],_=>by simp [val]
 | x :: r,h=>by
   have h1:=val_lt b r fun y hy=>h y (.tail _ hy)
   have h2:=h x (.head _)
   rw [val,List.length_cons,Nat.mul_add,Nat.mul_one,Nat.pow_add,Nat.mul_comm (2 ^ (b*r.length))]
   have:2 ^ b*(val b r+1)≤2 ^ b*2 ^ (b*r.length):=Nat.mul_le_mul_left _ h1
   rw [Nat.mul_add] at this
   omega
theorem val_digit (b:Nat):∀ (w:List Nat) (i:Nat),(∀ x∈w,x < 2 ^ b)→val b w / 2 ^ (b*i) % 2 ^ b=w.getD i 0
 | [],i,_=>by simp [val]
 | x :: r,0,h=>by
   have h2:=h x (.head _)
   rw [val,Nat.mul_zero,Nat.pow_zero,Nat.div_one,Nat.add_mul_mod_self_left,Nat.mod_eq_of_lt h2];rfl
 | x :: r,i+1,h=>by
   have h1:=val_digit b r i fun y hy=>h y (.tail _ hy)
   have h2:=h x (.head _)
   rw [val,Nat.mul_add,Nat.mul_one,Nat.add_comm,Nat.pow_add,Nat.mul_comm (2 ^ (b*i)),← Nat.div_div_eq_div_mul,Nat.add_comm,Nat.add_mul_div_left _ _ (Nat.two_pow_pos b),Nat.div_eq_of_lt h2,Nat.zero_add,h1]
   rfl
noncomputable def digs (a b m:Nat):List Nat:=(List.range m).map fun i=>a / 2 ^ (b*i) % 2 ^ b
noncomputable def Figs (a b m:Nat):Prop:=a < 2 ^ (b*m)∧(m=0∨2 ^ (b*(m - 1))≤a)
theorem figs_le {b m:Nat} {w:List Nat} (hb:0 < b) (h:∀ x∈w,x < 2 ^ b) (f:Figs (val b w) b m):m≤w.length:=by
 rcases f.2 with e | e
 · omega
 · have h1:=Nat.lt_of_le_of_lt e (val_lt b w h)
   have h2:=(Nat.pow_lt_pow_iff_right (by decide:1 < 2)).mp h1
   have h3:m - 1 < w.length:=Nat.lt_of_mul_lt_mul_left h2
   omega
theorem figs_eq {b m:Nat} {w:List Nat} (hb:0 < b) (h:∀ x∈w,x < 2 ^ b) (f:Figs (val b w) b m):digs (val b w) b m ++ List.replicate (w.length - m) 0=w:=by
 have hm:=figs_le hb h f
 apply List.ext_getElem
 · simp [digs];omega
 · intro i h1 h2
   rw [List.getElem_append]
   split
   · rename_i hi
     simp only [digs,List.getElem_map,List.getElem_range]
     rw [val_digit b w i h,List.getD_eq_getElem?_getD,List.getElem?_eq_getElem h2];rfl
   · rename_i hi
     rw [List.getElem_replicate]
     have hi':m≤i:=by simpa [digs] using hi
     have h3:=val_digit b w i h
     rw [List.getD_eq_getElem?_getD,List.getElem?_eq_getElem h2] at h3
     have h4:val b w / 2 ^ (b*i)=0:=Nat.div_eq_of_lt (Nat.lt_of_lt_of_le f.1 (Nat.pow_le_pow_right (by decide) (Nat.mul_le_mul_left b hi')))
     rw [h4] at h3
     simpa using h3
theorem figs_top {a b m:Nat} (hb:0 < b) (f:Figs a b m):(digs a b m).getLast?≠some 0:=by
 cases m with
 | zero=>simp [digs]
 | succ m =>
   rw [digs,List.range_succ,List.map_append,List.map_singleton,List.getLast?_concat]
   intro e
   have e:=Option.some.inj e
   rcases f.2 with q | q
   · cases q
   · rw [Nat.add_sub_cancel] at q
     have h1:a / 2 ^ (b*m) < 2 ^ b:=by
      rw [Nat.div_lt_iff_lt_mul (Nat.two_pow_pos _),← Nat.pow_add]
      have:=f.1
      rw [Nat.mul_add,Nat.mul_one,Nat.add_comm] at this
      exact this
     rw [Nat.mod_eq_of_lt h1] at e
     have h2:=(Nat.div_eq_zero_iff_lt (Nat.two_pow_pos _)).mp e
     omega
theorem sum_zero {α:Type}:∀ l:List α,(l.map fun _=>0).sum=0
 | []=>rfl
 | _ :: r=>by rw [List.map_cons,List.sum_cons,sum_zero r]
theorem sum_mul {α:Type} (k:Nat) (f:α→Nat):∀ l:List α,(l.map fun x=>k*f x).sum=k*(l.map f).sum
 | []=>rfl
 | a :: r=>by rw [List.map_cons,List.map_cons,List.sum_cons,List.sum_cons,sum_mul k f r,Nat.mul_add]
theorem sum_swap {α β:Type} (f:α→β→Nat):∀ (l:List α) (r:List β),(l.map fun x=>(r.map (f x)).sum).sum=(r.map fun y=>(l.map fun x=>f x y).sum).sum
 | [],r=>by simp [sum_zero]
 | a :: l,r=>by
   rw [List.map_cons,List.sum_cons,sum_swap f l r,← sum_add]
   exact sum_eq _ _ r fun y _=>by rw [List.map_cons,List.sum_cons]
theorem val_range (b:Nat) (g:Nat→Nat):∀ n s:Nat,((List.range' s n).map fun k=>2 ^ (b*k) * g k).sum=2 ^ (b*s) * val b ((List.range' s n).map g)
 | 0,s=>by simp [val]
 | n+1,s=>by
   rw [List.range'_succ,List.map_cons,List.sum_cons,val_range b g n (s+1),List.map_cons,val,Nat.mul_add,Nat.mul_add,Nat.mul_one,Nat.pow_add,Nat.mul_assoc]
noncomputable def worth (b:Nat) (x:List Nat):Nat:=((List.range 7).map fun k=>if x.contains k then 2 ^ (b*k) else 0).sum
noncomputable def weights (o:Own) (ns:List (List Nat)):List Nat:=(List.range 7).map (cw o ns)
theorem total_val (o:Own) (ns:List (List Nat)) (b:Nat):(ns.map fun x=>worth b x*wt o x).sum=val b (weights o ns):=by
 have h1:(ns.map fun x=>worth b x*wt o x).sum=(ns.map fun x=>((List.range 7).map fun k=>if x.contains k then 2 ^ (b*k) * wt o x else 0).sum).sum :=
  sum_eq _ _ ns fun x _=>by
   rw [worth,Nat.mul_comm,← sum_mul]
   exact sum_eq _ _ _ fun k _=>by split <;> simp [Nat.mul_comm]
 rw [h1,sum_swap]
 have h2:=val_range b (cw o ns) 7 0
 rw [Nat.mul_zero,Nat.pow_zero,Nat.one_mul,← List.range_eq_range'] at h2
 rw [weights,← h2]
 refine sum_eq _ _ _ fun k _=>?_
 rw [cw,← sum_mul]
 exact sum_eq _ _ ns fun x _=>by split <;> simp
theorem weights_lt {o:Own} {ns:List (List Nat)} (h:Odd o ns) {b:Nat} (hb:4≤b):∀ x∈weights o ns,x < 2 ^ b:=by
 intro x hx
 obtain ⟨c,_,rfl⟩:=List.mem_map.mp hx
 have h1:=cw_le o ns c
 have h2:2 ^ 4≤2 ^ b:=Nat.pow_le_pow_right (by decide) hb
 unfold Odd at h
 omega
end
section
theorem digs_split (x b k j:Nat):digs x b (k+j)=digs x b k ++ digs (x / 2 ^ (b*k)) b j:=by
 unfold digs
 rw [List.range_add,List.map_append,List.map_map]
 congr 1
 apply List.map_congr_left
 intro i _
 show x / 2 ^ (b*(k+i)) % 2 ^ b=x / 2 ^ (b*k) / 2 ^ (b*i) % 2 ^ b
 rw [Nat.mul_add,Nat.pow_add,Nat.div_div_eq_div_mul]
theorem digs_mod (x b k:Nat):digs (x % 2 ^ (b*k)) b k=digs x b k:=by
 unfold digs
 apply List.map_congr_left
 intro i hi
 have hi':=List.mem_range.mp hi
 have e:b*k=b*i+(b*(k - i - 1) + b):=by
  have:k=i+((k - i - 1) + 1):=by omega
  conv=>lhs;rw [this]
  rw [Nat.mul_add,Nat.mul_add,Nat.mul_one]
 rw [e,Nat.pow_add,Nat.mod_mul_right_div_self,Nat.pow_add,Nat.mod_mul_left_mod]
theorem digs_one {x b:Nat} (h:x < 2 ^ b):digs x b 1=[x]:=by
 simp [digs,Nat.mod_eq_of_lt h]
theorem digs_len (x b k:Nat):(digs x b k).length=k:=by simp [digs]
noncomputable def toI (ds:List Nat):List Int:=ds.map Int.ofNat
noncomputable def putD (ns:List Int) (l r x b:Nat):List Int:=ns.take l ++ toI (digs x b (r - l)) ++ ns.drop r
theorem putD_len {ns:List Int} {l r x b:Nat} (h1:l≤r) (h2:r≤ns.length):(putD ns l r x b).length=ns.length:=by
 simp [putD,toI,digs_len];omega
theorem putD_one {ns:List Int} {l x b:Nat} (h:x < 2 ^ b) (hl:l < ns.length):putD ns l (l+1) x b=ns.set l (x:Int):=by
 unfold putD
 rw [show l+1 - l=1 by omega,digs_one h,List.set_eq_take_append_cons_drop,if_pos hl]
 simp [toI]
theorem putD_two {ns:List Int} {l m r x b:Nat} (h1:l≤m) (h2:m≤r) (h3:r≤ns.length):putD (putD ns l m (x % 2 ^ (b*(m - l))) b) m r (x / 2 ^ (b*(m - l))) b=putD ns l r x b:=by
 have e:digs x b (r - l)=digs x b (m - l) ++ digs (x / 2 ^ (b*(m - l))) b (r - m):=by
  rw [show r - l=(m - l) + (r - m) by omega,digs_split]
 unfold putD
 rw [digs_mod,e]
 have hl:(ns.take l ++ toI (digs x b (m - l))).length=m:=by simp [toI,digs_len];omega
 rw [show ns.take l ++ toI (digs x b (m - l)) ++ ns.drop m=(ns.take l ++ toI (digs x b (m - l))) ++ ns.drop m from rfl]
 rw [List.take_left' hl]
 have h4:((ns.take l ++ toI (digs x b (m - l))) ++ ns.drop m).drop r=ns.drop r:=by
  rw [List.drop_append,hl,List.drop_of_length_le (by omega),List.nil_append,List.drop_drop]
  congr 1;omega
 rw [h4]
 simp [toI,List.append_assoc]
theorem putD_all {k x b:Nat}:putD (List.replicate k (0:Int)) 0 k x b=toI (digs x b k):=by
 unfold putD
 simp
end
section
section
variable {w:World} {A:Around} {E:VP} {s:Shared} {Q:VP} {t u:Tok}
theorem pow_cast (k:Nat):((2:Int) ^ k)=((2 ^ k:Nat):Int):=by rw [Int.natCast_pow];rfl
theorem bits_lt {x n:Nat} (h:x < 2 ^ n):Builtin.Int.intBits (x:Int)≤n:=by
 unfold Builtin.Int.intBits
 split
 · exact Nat.zero_le _
 · rename_i h0
   have h0:x≠0:=fun e=>h0 (by rw [e];rfl)
   rw [Int.natAbs_natCast]
   exact (Nat.log2_lt h0).mpr h
theorem rsh_mid {l r:Nat} (h:Q (.int (((l+r) / 2:Nat):Int) s.toks) { s with toks:=s.toks+1 }):wpAny (model prog w) A (binaryOp .RShift (.int ((l:Int) + (r:Int)) t) (.int 1 u)) Q E s:=by
 with_reducible refine rshift_int (by decide) ?_
 have e:((l:Int) + (r:Int)).fdiv (2 ^ (1:Int).toNat)=(((l+r) / 2:Nat):Int):=by
  rw [← Int.natCast_add,show ((2:Int) ^ (1:Int).toNat)=((2:Nat):Int) from rfl,Int.fdiv_eq_ediv_of_nonneg _ (by decide)];rfl
 rw [e];exact h
theorem rsh_nat {x k:Nat} (h:Q (.int ((x / 2 ^ k:Nat):Int) s.toks) { s with toks:=s.toks+1 }):wpAny (model prog w) A (binaryOp .RShift (.int (x:Int) t) (.int (k:Int) u)) Q E s:=by
 with_reducible refine rshift_int (Int.natCast_nonneg _) ?_
 have e:(x:Int).fdiv (2 ^ (k:Int).toNat)=((x / 2 ^ k:Nat):Int):=by
  rw [Int.toNat_natCast,pow_cast,Int.fdiv_eq_ediv_of_nonneg _ (Int.natCast_nonneg _)];rfl
 rw [e];exact h
theorem lsh_nat {x k n:Nat} (hx:x < 2 ^ n) (hn:n≤1000) (hk:k≤1000) (h:Q (.int ((x*2 ^ k:Nat):Int) s.toks) { s with toks:=s.toks+1 }):wpAny (model prog w) A (binaryOp .LShift (.int (x:Int) t) (.int (k:Int) u)) Q E s:=by
 have hb:=bits_lt hx
 with_reducible refine lshift_int (Int.natCast_nonneg _) ?_ ?_
 · have:(2:Int) ^ 27=134217728:=by decide
   rw [this];omega
 · have e:(x:Int) * 2 ^ (k:Int).toNat=((x*2 ^ k:Nat):Int):=by rw [Int.toNat_natCast,pow_cast,Int.natCast_mul]
   rw [e];exact h
theorem mul_sub {m l b:Nat} (hlm:l≤m) (hm:m≤1000) (hb:b≤1000) (h:Q (.int (((m - l) * b:Nat):Int) s.toks) { s with toks:=s.toks+1 }):wpAny (model prog w) A (binaryOp .Mult (.int ((m:Int) - (l:Int)) t) (.int (b:Int) u)) Q E s:=by
 have e:((m:Int) - (l:Int))=((m - l:Nat):Int):=(Int.natCast_sub hlm).symm
 rw [e]
 with_reducible refine mul_int ?_ ?_
 · rw [← Int.natCast_mul];exact h
 · exact IntMulOk.of_right (Nat.le_trans (bits_lt (n:=10) (Nat.lt_of_le_of_lt hb (by decide))) (by decide))
theorem and_hi (x k:Nat):x &&& (x / 2 ^ k*2 ^ k)=x / 2 ^ k*2 ^ k:=by
 apply Nat.eq_of_testBit_eq
 intro i
 rw [Nat.testBit_and,Nat.mul_comm,Nat.testBit_two_pow_mul]
 by_cases h:k≤i
 · rw [Nat.testBit_div_two_pow]
   have:i - k+k=i:=by omega
   simp [h,this]
 · simp [h]
theorem xor_nat {x k:Nat} (h:Q (.int ((x % 2 ^ k:Nat):Int) s.toks) { s with toks:=s.toks+1 }):wpAny (model prog w) A (binaryOp .BitXor (.int (x:Int) t) (.int ((x / 2 ^ k*2 ^ k:Nat):Int) u)) Q E s:=by
 with_reducible refine xor_int ?_
 have e:Builtin.bitXor (x:Int) ((x / 2 ^ k*2 ^ k:Nat):Int)=((x % 2 ^ k:Nat):Int):=by
  have ha:Builtin.bitAnd (x:Int) ((x / 2 ^ k*2 ^ k:Nat):Int)=((x / 2 ^ k*2 ^ k:Nat):Int):=by
   have h1:Builtin.bitAnd (x:Int) ((x / 2 ^ k*2 ^ k:Nat):Int)=((x &&& (x / 2 ^ k*2 ^ k):Nat):Int):=by
    generalize x / 2 ^ k*2 ^ k=y
    unfold Builtin.bitAnd
    rw [decide_eq_true (Int.natCast_nonneg x),decide_eq_true (Int.natCast_nonneg y)]
    rfl
   rw [h1,and_hi]
  rw [PyProof.Rows.bitXor_and,ha]
  have:=Nat.div_add_mod x (2 ^ k)
  rw [Nat.mul_comm] at this
  omega
 rw [e];exact h
end
end
section
noncomputable abbrev i1B (p1 p2 p3 p4 p5 p6 p7 p8 p9 p10 p11 p12 p13 p14 p15 p16 p17 p18 p19 p20 p21 p22 p23 p24 p25 p26 p27 p28 p29 p30 p31 p32 p33 p34 p35 p36 p37 p38 p39 p40 p41 p42 p43 p44 p45 p46 p47 p48 p49 p50:Pos):List Stmt:=[.If (.Compare (.BinOp (.Name "L" p1) .Add (.Constant (.int 1) 0 p2) p3) [.Eq] [(.Name "R" p4)] p5) [.Assign [(.Subscript (.Name "a_digits" p6) (.Name "L" p7) p8)] (.Name "x" p9) p10,.Return none p11] [] p12,
 .Assign [(.Name "mid" p13)] (.BinOp (.BinOp (.Name "L" p14) .Add (.Name "R" p15) p16) .RShift (.Constant (.int 1) 0 p17) p18) p19,
 .Assign [(.Name "shift" p20)] (.BinOp (.BinOp (.Name "mid" p21) .Sub (.Name "L" p22) p23) .Mult (.Name "n" p24) p25) p26,
 .Assign [(.Name "upper" p27)] (.BinOp (.Name "x" p28) .RShift (.Name "shift" p29) p30) p31,
 .Assign [(.Name "lower" p32)] (.BinOp (.Name "x" p33) .BitXor (.BinOp (.Name "upper" p34) .LShift (.Name "shift" p35) p36) p37) p38,
 .Expr (.Call (.Name "inner" p39) [(.Name "lower" p40),(.Name "L" p41),(.Name "mid" p42)] [] p43) p44,
 .Expr (.Call (.Name "inner" p45) [(.Name "upper" p46),(.Name "mid" p47),(.Name "R" p48)] [] p49) p50]
noncomputable abbrev i1S:Scope:={ kind:=.function,names:=[("x",.local),("L",.local),("R",.local),("mid",.local),("shift",.local),("upper",.local),("lower",.local),("a_digits",.free),("inner",.free),("n",.free)],isGenerator:=false,isCoroutine:=false }
noncomputable abbrev i1P (q1 q2 q3:Pos):Arguments:=⟨[],[⟨"x",none,q1⟩,⟨"L",none,q2⟩,⟨"R",none,q3⟩],none,[],[],none,[]⟩
noncomputable abbrev i1Cl (L:Nat):List (Str×Addr):=[(Str.ofString "n",L+1),(Str.ofString "inner",L+1+1+1),(Str.ofString "a_digits",L+1+1)]
structure InnerAt (h:Heap) (f c' K D b:Nat) (fo o1 o2 o3:Obj):Prop where
 hf:At h f fo
 hc:h.CodeRec (.ref c') "_int2digits.<locals>.inner"
 h250:250≤c'
 h1:At h (K+1:Nat) o1
 h2:At h (K+1+1:Nat) o2
 h3:At h (K+1+1+1:Nat) o3
theorem newsU {w:World} {g:Heap} {L D:Addr} {o o':Obj} {s s':Shared} {rest:List (Addr×Obj)} (N:News g L s.heap ((D,o) :: rest)) (y:Step w [D] s s') (hD:s'.heap.get? D=some o') (ne:∀ p∈rest,p.1≠D):News g L s'.heap ((D,o') :: rest):=fun p hp=>by
 rcases mC hp with rfl | hp
 · exact ⟨hD,(N (D,o) (.head _)).2⟩
 · exact ⟨y.keep _ _ (N p (.tail _ hp)).1 (by simpa using ne p hp),(N p (.tail _ hp)).2⟩
noncomputable abbrev i1Bc:List Stmt:=i1B ⟨92,11,92,12⟩ ⟨92,15,92,16⟩ ⟨92,11,92,16⟩ ⟨92,20,92,21⟩ ⟨92,11,92,21⟩ ⟨93,12,93,20⟩ ⟨93,21,93,22⟩ ⟨93,12,93,23⟩ ⟨93,26,93,27⟩ ⟨93,12,93,27⟩ ⟨94,12,94,18⟩ ⟨92,8,94,18⟩ ⟨95,8,95,11⟩ ⟨95,14,95,15⟩ ⟨95,18,95,19⟩ ⟨95,14,95,19⟩ ⟨95,23,95,24⟩ ⟨95,14,95,24⟩ ⟨95,8,95,24⟩ ⟨96,8,96,13⟩ ⟨96,17,96,20⟩ ⟨96,23,96,24⟩ ⟨96,17,96,24⟩ ⟨96,28,96,29⟩ ⟨96,16,96,29⟩ ⟨96,8,96,29⟩ ⟨97,8,97,13⟩ ⟨97,16,97,17⟩ ⟨97,21,97,26⟩ ⟨97,16,97,26⟩ ⟨97,8,97,26⟩ ⟨98,8,98,13⟩ ⟨98,16,98,17⟩ ⟨98,20,98,25⟩ ⟨98,29,98,34⟩ ⟨98,20,98,34⟩ ⟨98,16,98,34⟩ ⟨98,8,98,34⟩ ⟨99,8,99,13⟩ ⟨99,14,99,19⟩ ⟨99,21,99,22⟩ ⟨99,24,99,27⟩ ⟨99,8,99,28⟩ ⟨99,8,99,28⟩ ⟨100,8,100,13⟩ ⟨100,14,100,19⟩ ⟨100,21,100,24⟩ ⟨100,26,100,27⟩ ⟨100,8,100,28⟩ ⟨100,8,100,28⟩
noncomputable abbrev i1Pc:Arguments:=i1P ⟨91,14,91,15⟩ ⟨91,17,91,18⟩ ⟨91,20,91,21⟩
section
variable {w:World} {E:VP} {Q:VP}
theorem inner_spec {b:Nat} (hb:0 < b) (hb2:b≤12) {f c' K D:Nat} {fo o1 o2 o3:Obj} {doc pm ct:Value} {tb:Tok}
 (hfo:fo=⟨.type "function",none,.func (fnX "inner" "_int2digits.<locals>.inner" i1Pc i1Bc i1S (i1Cl K) .none .none doc pm none (.ref c') ct),#[]⟩) (d1:o1.data=.cell (some (.int b tb))) (d2:o2.data=.cell (some (.ref D))) (d3:o3.data=.cell (some (.ref f)))
 (nD:@Ne Nat D f∧@Ne Nat D (K+1)∧@Ne Nat D (K+1+1)∧@Ne Nat D (K+1+1+1)) :
 ∀ (j:Nat) (A:Around) (s:Shared) (x l r n:Nat) (tx tl tr:Tok) (vs:List Value) (ns:List Int) (Q E:VP),r - l≤j→j≤7→l < r→r≤ns.length→ns.length≤7→x < 2 ^ (b*(r - l))→Lvl A (790 - j)→Inv w s.heap →
   InnerAt s.heap f c' K D b fo o1 o2 o3→At s.heap D (listOf vs.toArray n)→IntsAre vs ns →
   (∀ vs' s',Step w [D] s s'→At s'.heap D (listOf vs'.toArray n)→IntsAre vs' (putD ns l r x b)→Q .none s') →
   wpAny (model prog w) A (call (.ref f) [.int x tx,.int l tl,.int r tr]) Q E s:=by
 intro j
 induction j with
 | zero=>intro A s x l r n tx tl tr vs ns Q E h1 h2 h3;omega
 | succ j ih =>
   intro A s x l r n tx tl tr vs ns Q E h1 h2 h3 h4 h5 hx hA I H hD hI k
   refine weaken hA fun fr gd=>?_
   refine enterF (args:=⟨[.int x tx,.int l tl,.int r tr],[]⟩) [(D,listOf vs.toArray n),(f,fo),(K+1,o1),(K+1+1,o2),(K+1+1+1,o3)] I ?_ H.hf.1 (by rw [hfo]) H.hc ?_ (BindsTo.of_eq rfl) (locs rfl) ?_ (by decide)
   · exact fm5 ⟨hD.1,.inl ⟨hD.2,rfl⟩⟩ ⟨H.hf.1,.inl ⟨H.hf.2,by rw [hfo];rfl⟩⟩ ⟨H.h1.1,.inl ⟨H.h1.2,by unfold isMut isCode;rw [d1];rfl⟩⟩ ⟨H.h2.1,.inl ⟨H.h2.2,by unfold isMut isCode;rw [d2];rfl⟩⟩ ⟨H.h3.1,.inl ⟨H.h3.2,by unfold isMut isCode;rw [d3];rfl⟩⟩ (fun _ h=>nN h)
   · show 790 - (j+1) < 1000
     omega
   intro g L' h₁ loose mean mg mb B F N ltL X T
   have O:Oth s s:=Oth.refl
   have hhi:∀ p∈[(D,listOf vs.toArray n),(f,fo),(K+1,o1),(K+1+1,o2),(K+1+1+1,o3)],250≤p.1:=by
    exact fm5 hD.2 H.hf.2 H.h1.2 H.h2.2 H.h3.2 (fun _ h=>nN h)
   have hne:∀ p∈[(f,fo),(K+1,o1),(K+1+1,o2),(K+1+1+1,o3)],p.1≠D:=by
    exact fm4 (Ne.symm nD.1) (Ne.symm nD.2.1) (Ne.symm nD.2.2.1) (Ne.symm nD.2.2.2) (fun _ h=>nN h)
   have q9:∀ (m:Str→Option Value) (h':Heap),Fr g L' h' m→News g L' h' [(D,listOf vs.toArray n),(f,fo),(K+1,o1),(K+1+1,o2),(K+1+1+1,o3)]→InnerAt h' f c' K D b fo o1 o2 o3:=fun m h' F N =>
    ⟨⟨(N (f,fo) (by k_mem)).1,H.hf.2⟩,code_old B F H.h250 H.hc,H.h250,⟨(N (_,o1) (by k_mem)).1,H.h1.2⟩,⟨(N (_,o2) (by k_mem)).1,H.h2.2⟩,⟨(N (_,o3) (by k_mem)).1,H.h3.2⟩⟩
   have q9b:∀ {vs1:List Value} (m:Str→Option Value) (h':Heap),Fr g L' h' m→News g L' h' [(D,listOf vs1.toArray n),(f,fo),(K+1,o1),(K+1+1,o2),(K+1+1+1,o3)]→InnerAt h' f c' K D b fo o1 o2 o3:=fun m h' F N =>
    ⟨⟨(N (f,fo) (by k_mem)).1,H.hf.2⟩,code_old B F H.h250 H.hc,H.h250,⟨(N (_,o1) (by k_mem)).1,H.h1.2⟩,⟨(N (_,o2) (by k_mem)).1,H.h2.2⟩,⟨(N (_,o3) (by k_mem)).1,H.h3.2⟩⟩
   have hlm:l≤(l+r) / 2:=by omega
   have hm1000:(l+r) / 2≤1000:=by omega
   have hb1000:b≤1000:=by omega
   have hbr:b*(r - l)≤84:=by
    have:=Nat.mul_le_mul hb2 (show r - l≤7 by omega)
    omega
   have hn1000:b*(r - l)≤1000:=by omega
   have hkl:((l+r) / 2 - l) * b≤b*(r - l):=by
    rw [Nat.mul_comm]
    exact Nat.mul_le_mul_left _ (by omega)
   have hk1000:((l+r) / 2 - l) * b≤1000:=by omega
   have hxu:x / 2 ^ (((l+r) / 2 - l) * b) < 2 ^ (b*(r - l)):=Nat.lt_of_le_of_lt (Nat.div_le_self _ _) hx
   have ha6:Lvl ((AL (790 - (j+1)) fr gd).deeper (envX "_int2digits.<locals>.inner" i1S L' f (.ref c') (i1Cl K))) (790 - j):=lvl_deeper (by omega)
   have ha2:j≤7:=by omega
   (try dsimp only)
   k_unmd
   k_fold
   obtain ⟨HH,hold,held⟩:=holds
   have qD {x1 x2 x3 x4 x5 x6 x7 x8 x9}:=hold 30 (wpAny x1 x2 (binaryOp Operator.RShift (Value.int x3 x4) (Value.int x5 x6)) x7 x8 x9)
   have qE {x1 x2 x3 x4 x5 x6 x7 x8 x9}:=hold 31 (wpAny x1 x2 (binaryOp Operator.Mult (Value.int x3 x4) (Value.int x5 x6)) x7 x8 x9)
   have qF {x1 x2 x3 x4 x5 x6 x7 x8 x9}:=hold 32 (wpAny x1 x2 (binaryOp Operator.LShift (Value.int x3 x4) (Value.int x5 x6)) x7 x8 x9)
   have qG {x1 x2 x3 x4 x5 x6 x7 x8 x9}:=hold 33 (wpAny x1 x2 (binaryOp Operator.BitXor (Value.int x3 x4) (Value.int x5 x6)) x7 x8 x9)
   have qH {x1 x2 x3 x4 x5 x6 x7}:=hold 25 (wpAny x1 x2 (eval (Expr.Name (Str.ofString "n") x3) x4) x5 x6 x7)
   have qI {x1 x2 x3 x4 x5 x6 x7}:=hold 25 (wpAny x1 x2 (eval (Expr.Name (Str.ofString "inner") x3) x4) x5 x6 x7)
   have qJ {x1 x2 x3 x4 x5 x6 x7}:=hold 25 (wpAny x1 x2 (eval (Expr.Name (Str.ofString "a_digits") x3) x4) x5 x6 x7)
   have qK {x1 x2}:=hold 26 (FnAt x1 x2)
   have qA {x1 x2 x3 x4 x5 x6 x7 x8 x9}:=hold 3 (wpAny x1 x2 (callWith x3 (Value.ref f) x4 x5 x6) x7 x8 x9)
   have qB {x1 x2 x3 x4 x5 x6 x7 x8 x9}:=hold 2 (wpAny x1 x2 (call (Value.ref f) [Value.int (((x / x3:Nat)):Int) x4,x5,x6]) x7 x8 x9)
   have qC {x1 x2 x3 x4 x5 x6 x7 x8 x9}:=hold 1 (wpAny x1 x2 (call (Value.ref f) [Value.int (((x % x3:Nat)):Int) x4,x5,x6]) x7 x8 x9)
   k_steps
   repeat' ((first
    | (refine held 30 _ ?_
       (with_reducible first | refine rsh_mid ?_ | refine rsh_nat ?_))
    | (refine held 31 _ ?_
       (with_reducible refine mul_sub hlm hm1000 hb1000 ?_))
    | (refine held 32 _ ?_
       (with_reducible refine lsh_nat hxu hn1000 hk1000 ?_))
    | (refine held 33 _ ?_
       (with_reducible refine xor_nat ?_))
    | (refine held 25 _ ?_
       rename Fr _ _ _ _=>F
       rename News _ _ _ _=>N
       k_dflt (first | refine nameX_F N rfl (show (K+1,o1)∈_ by k_mem) d1 ?_ | refine nameX_F N rfl (show (K+1+1,o2)∈_ by k_mem) d2 ?_ | refine nameX_F N rfl (show (K+1+1+1,o3)∈_ by k_mem) d3 ?_))
    | (refine held 26 _ ?_
       rename News _ _ _ _=>N
       exact ⟨_,_,_,_,(N (f,fo) (by k_mem)).1.trans (congrArg some hfo)⟩)
    | (refine held 3 _ ?_
       rename Fr _ _ _ _=>F
       rename News _ _ _ _=>N
       k_dflt (refine' callWith_F ?mu1 ?_;(case mu1=>exact ⟨_,_,_,_,(N (f,fo) (by k_mem)).1.trans (congrArg some hfo)⟩)))
    | (refine held 2 _ ?_
       have hlen1:(putD ns l ((l+r) / 2) (x % 2 ^ (((l+r) / 2 - l) * b)) b).length=ns.length:=putD_len hlm ha4
       have hc1:r - (l+r) / 2≤j:=(by omega)
       have hc3:(l+r) / 2 < r:=(by omega)
       have hc4:r≤(putD ns l ((l+r) / 2) (x % 2 ^ (((l+r) / 2 - l) * b)) b).length:=(by rw [hlen1];exact h4)
       have hc5:(putD ns l ((l+r) / 2) (x % 2 ^ (((l+r) / 2 - l) * b)) b).length≤7:=(by rw [hlen1];exact h5)
       have hc6:x / 2 ^ (((l+r) / 2 - l) * b) < 2 ^ (b*(r - (l+r) / 2)):=(by
        rw [Nat.div_lt_iff_lt_mul (Nat.two_pow_pos _),← Nat.pow_add,Nat.mul_comm (((l+r) / 2 - l)),← Nat.mul_add,show r - (l+r) / 2+((l+r) / 2 - l)=r - l by omega]
        exact hx)
       rename Fr _ _ _ _=>F
       rename News _ _ _ _=>N
       have q1:=inv_nowT B F (tabs_plain B F hhi)
       have q2:=q9b _ _ F N
       have q3:At _ D (listOf vs1.toArray n):=⟨(N (D,_) (.head _)).1,hD.2⟩
       (with_reducible refine ih _ _ _ _ _ n _ _ _ vs1 _ _ _ hc1 ha2 hc3 hc4 hc5 hc6 ha6 q1 q2 q3 hI1 ?_)
       intro vs2 s2 st2 hD2 hI2
       have F1:=Fr.step F N st2 (fun a ha=>⟨_,.head _,(mS ha).symm⟩)
       have N:=newsU N st2 hD2.1 hne
       have F:=F1
       have O:=Oth.next st2 O
       clear q1 q2 q3 F1 hD2 st2)
    | (refine held 1 _ ?_
       have hlr:l+1 < r:=(by
        have q8:¬ ((l:Int) + 1=(r:Int)):=(by assumption)
        omega)
       have ha1:(l+r) / 2 - l≤j:=(by omega)
       have ha3:l < (l+r) / 2:=(by omega)
       have ha4:(l+r) / 2≤ns.length:=(by omega)
       have ha5:x % 2 ^ (((l+r) / 2 - l) * b) < 2 ^ (b*((l+r) / 2 - l)):=(by rw [Nat.mul_comm b];exact Nat.mod_lt _ (Nat.two_pow_pos _))
       rename Fr _ _ _ _=>F
       rename News _ _ _ _=>N
       have q1:=inv_nowT B F (tabs_plain B F hhi)
       have q2:=q9 _ _ F N
       have q3:At _ D (listOf vs.toArray n):=⟨(N (D,_) (.head _)).1,hD.2⟩
       (with_reducible refine ih _ _ _ _ _ n _ _ _ vs ns _ _ ha1 ha2 ha3 ha4 h5 ha5 ha6 q1 q2 q3 hI ?_)
       intro vs1 s1 st1 hD1 hI1
       have F1:=Fr.step F N st1 (fun a ha=>⟨_,.head _,(mS ha).symm⟩)
       have N:=newsU N st1 hD1.1 hne
       have F:=F1
       have O:=Oth.next st1 O
       clear q1 q2 q3 F1 hD1 st1)) <;> k_steps)
   · rename Fr _ _ _ _=>F
     rename News _ _ _ _=>N
     rename IntsAre (List.set _ _ _) _=>hI2
     have e:r=l+1:=by
      have q8:(l:Int) + 1=(r:Int):=by assumption
      omega
     subst e
     rw [show l+1 - l=1 by omega,Nat.mul_one] at hx
     show Q Value.none _
     refine k _ _ (baseT_fin B [D] F N O (fun p hp=>?_) (tabs_plain B F hhi)) ⟨(N (D,_) (.head _)).1,hD.2⟩ ?_
     · rcases mC hp with rfl | hp
       · exact .inl (.head _)
       · exact .inr (.tail _ hp)
     · rw [putD_one hx (by omega)]
       exact hI2
   · rename Fr _ _ _ _=>F
     rename News _ _ _ _=>N
     refine k _ _ (baseT_fin B [D] F N O (fun p hp=>?_) (tabs_plain B F hhi)) ⟨(N (D,_) (.head _)).1,hD.2⟩ ?_
     · rcases mC hp with rfl | hp
       · exact .inl (.head _)
       · exact .inr (.tail _ hp)
     · rw [Nat.mul_comm _ b] at hI2
       rw [putD_two hlm (by omega) h4] at hI2
       exact hI2
end
end
section
noncomputable def nDigs (a b:Nat):Nat:=(Builtin.Int.intBits (a:Int) + b - 1) / b
theorem mul_one_K {w:World} {A:Around} {E:VP} {s:Shared} {h₀:Heap} {L l:Addr} {m:Str→Option Value} {news:List (Addr×Obj)} {v:Value} {n k:Nat} {u:Tok} {Q:VP}
 (F:Fr h₀ L s.heap m) (N:News h₀ L s.heap news) (hl:(l,listOf [v].toArray n)∈news) (hk:k≤1000)
 (h:∀ D h',Fr h₀ L h' m→News h₀ L h' ((D,listOf (List.replicate k v).toArray 0) :: news)→(∀ p∈news,@LT.lt Nat _ p.1 D)→Q (.ref D) { s with heap:=h' }) :
 wpAny (model prog w) A (binaryOp .Mult (.ref l) (.int (k:Int) u)) Q E s:=by
 refine mul_list F N (N _ hl).1 (by omega) (by omega) (by simp;omega) fun h' F' N'=>?_
 refine h s.heap.objs.size h' F' ?_ fun p hp=>Heap.lt_size (N p hp).1
 have e:(List.foldl (fun x1 x2=>x1 ++ x2) #[] (List.replicate (if ([v].toArray).isEmpty=true then 0 else ((k:Int)).toNat) [v].toArray))=(List.replicate k v).toArray:=by
  rw [if_neg (by simp),listMul_foldl,Int.toNat_natCast]
  simp [lm_rep_flat_one]
 rw [e] at N'
 exact N'
theorem len_rep {w:World} {A:Around} {E:VP} {s:Shared} {g:Heap} {L D:Addr} {news:List (Addr×Obj)} {v:Value} {k n:Nat} {Q:VP} (N:News g L s.heap news) (hm:(D,listOf (List.replicate k v).toArray n)∈news) (hk:k≤1000)
 (h:Q (.int (k:Int) (s.toks+1)) { s with toks:=s.toks+1+1 }):wpAny (model prog w) A (call (.builtin "len") [.ref D]) Q E s:=by
 refine len_list (items:=(List.replicate k v).toArray) ⟨_,(N _ hm).1,rfl,_,rfl⟩ (by simp;omega) ?_
 simpa using h
theorem bits_pos {a:Nat} (h:a≠0):0 < Builtin.Int.intBits (a:Int):=by
 unfold Builtin.Int.intBits
 rw [if_neg (by simpa using h)]
 exact Nat.succ_pos _
theorem lt_bits (a:Nat):a < 2 ^ Builtin.Int.intBits (a:Int):=by
 unfold Builtin.Int.intBits
 by_cases h:a=0
 · subst h;decide
 · rw [if_neg (by simpa using h),Int.natAbs_natCast]
   exact Nat.lt_log2_self
theorem bits_le {a:Nat} (h:a≠0):2 ^ (Builtin.Int.intBits (a:Int) - 1)≤a:=by
 unfold Builtin.Int.intBits
 rw [if_neg (by simpa using h),Int.natAbs_natCast,Nat.add_sub_cancel]
 exact Nat.log2_self_le h
theorem nDigs_pos {a b:Nat} (hb:0 < b) (h:a≠0):0 < nDigs a b:=by
 have:=bits_pos h
 unfold nDigs
 exact Nat.div_pos (by omega) hb
theorem nDigs_zero {b:Nat} (hb:0 < b):nDigs 0 b=0:=by
 unfold nDigs
 rw [show Builtin.Int.intBits ((0:Nat):Int)=0 from rfl]
 exact Nat.div_eq_of_lt (by omega)
theorem figs_nDigs (a:Nat) {b:Nat} (hb:0 < b):Figs a b (nDigs a b):=by
 have h1:Builtin.Int.intBits (a:Int)≤b*nDigs a b:=by
  unfold nDigs
  have q:=Nat.lt_mul_div_succ (Builtin.Int.intBits (a:Int) + b - 1) hb
  exact Nat.le_of_add_le_add_right (b:=b) (Nat.le_trans (Nat.le_of_eq (Nat.sub_add_cancel (Nat.le_trans hb (Nat.le_add_left b _))).symm) q)
 refine ⟨Nat.lt_of_lt_of_le (lt_bits a) (Nat.pow_le_pow_right (by decide) h1),?_⟩
 by_cases h:a=0
 · subst h;exact .inl (nDigs_zero hb)
 · refine .inr (Nat.le_trans (Nat.pow_le_pow_right (by decide) ?_) (bits_le h))
   have h2:=bits_pos h
   have h3:b*nDigs a b≤Builtin.Int.intBits (a:Int) + b - 1:=Nat.mul_div_le _ _
   rw [Nat.mul_sub,Nat.mul_one]
   exact Nat.le_trans (Nat.sub_le_sub_right h3 b) (Nat.le_of_eq (by rw [Nat.sub_right_comm,Nat.add_sub_cancel]))
theorem nDigs_le {a b:Nat} (hb:0 < b) (h:a < 2 ^ (b*7)):nDigs a b≤7:=by
 have h1:=bits_lt h
 unfold nDigs
 have:(Builtin.Int.intBits (a:Int) + b - 1) / b≤(b*7+(b - 1)) / b:=Nat.div_le_div_right (Nat.le_trans (Nat.le_of_eq (Nat.add_sub_assoc hb _)) (Nat.add_le_add_right h1 _))
 rw [Nat.mul_add_div hb,Nat.div_eq_of_lt (Nat.sub_lt hb Nat.zero_lt_one)] at this
 exact this
theorem ints_rep {t:Tok}:∀ k:Nat,IntsAre (List.replicate k (.int 0 t)) (List.replicate k (0:Int))
 | 0=>.nil
 | k+1=>.cons 0 t (ints_rep k)
theorem int2d_tabs {w:World} {s:Shared} {o:Obj} {g h:Heap} {L c':Addr} {m:Str→Option Value} {news ex:List (Addr×Obj)} {p86:Array Value} (B:BaseT w s [(86,o)] g) (F:Fr g L h m) (N:News g L h news) (h86:(86,tabObj p86)∈news) (hex:∀ p∈ex,p∈news) (hc:CodeIn g ex c' "_int2digits.<locals>.inner") (h250:250≤c') (hp:p86=#[rawInt 91,rawInt 4,.ref c']):TabsOk h :=
 ⟨.inr ⟨c',h250,hp▸(N _ h86).1,hc.rec F N hex⟩,tab_old B F (one_ne (by decide)) B.inv.tabs.t93,tab_old B F (one_ne (by decide)) B.inv.tabs.t162,tab_old B F (one_ne (by decide)) B.inv.tabs.t169,tab_old B F (one_ne (by decide)) B.inv.tabs.t234⟩
theorem news_swap {g h:Heap} {L:Addr} {a b:Addr×Obj} {r:List (Addr×Obj)} (N:News g L h (a :: b :: r)):News g L h (b :: a :: r):=fun p hp=>by
 rcases mC hp with rfl | hp
 · exact N _ (.tail _ (.head _))
 · rcases mC hp with rfl | hp
   · exact N _ (.head _)
   · exact N _ (.tail _ (.tail _ hp))
theorem fd_digs {w:World} {A:Around} {E:VP} {s:Shared} {Q:VP} {a b:Nat} {t u:Tok} (hb:0 < b) (hsm:Builtin.Int.intBits (a:Int)≤100) (hb2:b≤100) (h:Q (.int (nDigs a b:Nat) s.toks) { s with toks:=s.toks+1 }) :
 wpAny (model prog w) A (binaryOp .FloorDiv (.int ((Builtin.Int.intBits (a:Int):Int) + (b:Int) - 1) t) (.int (b:Int) u)) Q E s:=by
 have e:((Builtin.Int.intBits (a:Int):Int) + (b:Int) - 1).fdiv (b:Int)=((nDigs a b:Nat):Int):=by
  have e1:((Builtin.Int.intBits (a:Int):Int) + (b:Int) - 1)=((Builtin.Int.intBits (a:Int) + b - 1:Nat):Int):=by omega
  rw [e1,Int.fdiv_eq_ediv_of_nonneg _ (Int.natCast_nonneg _)];rfl
 with_reducible refine floordiv_int (by omega) ?_ (Or.inl (PyProof.noPylong_small ?_))
 · rw [e];exact h
 · omega
theorem exNe {ex news:List (Addr×Obj)} {f d:Addr} {o:Obj} (lx:∀ p∈ex,(∀ q∈news,@LT.lt Nat _ q.1 p.1)∧@LT.lt Nat _ p.1 f∧isCode p.2=true) (h:(d,o)∈news):∀ p∈ex,p.1≠d:=fun p hp=>Nat.ne_of_gt ((lx p hp).1 _ h)
section
variable {w:World} {A:Around} {E:VP} {s:Shared} {Q:VP}
theorem int2d (l:Lvl A 700) (I:Inv w s.heap) {a b:Nat} {ta tb:Tok} (hb:0 < b) (hb2:b≤12) (ha:a < 2 ^ (b*7))
 (k:∀ D ds n s',Step w [86] s s'→At s'.heap D (listOf ds n)→s.heap.get? D=none→IntsAre ds.toList (toI (digs a b (nDigs a b)))→Q (.ref D) s'):wpAny (model prog w) A (call (.ref 91) [.int a ta,.int b tb]) Q E s:=by
 have hbits:=bits_lt ha
 have hbits:Builtin.Int.intBits (a:Int)≤100:=by omega
 have hb100:b≤100:=by omega
 have hm1:nDigs a b≤1000:=by
  unfold nDigs
  refine Nat.le_trans (Nat.div_le_self _ _) ?_
  omega
 obtain ⟨ps,hP,hps⟩:=tabPs_of I.tabs.t86
 refine weaken l fun fr gd=>?_
 refine enterC (args:=⟨[.int a ta,.int b tb],[]⟩) [(86,tabObj ps)] I ?_ (by k_is) (by k_is) (by show (700:Nat) < 1000;decide) (BindsTo.of_eq rfl) ?_ ?_ ?_
 · exact fm1 ⟨hP,.inr (show (86:Nat)∈TB by decide)⟩ (fun _ h=>nN h)
 · exact kindsX rfl
 · decide
 intro g L h₁ tk0 cells loose mean mg mb B F N Y nL ltL X T
 (try dsimp only)
 k_fold
 have O:Oth s s:=Oth.refl
 k_cells Y
 dsimp only [List.cons_append,List.nil_append] at N
 have hL250:@LE.le Nat _ 250 L:=by
  have h1:=I.size
  have h2:=F.above
  rw [B.eq,hideAll_size] at h2
  exact Nat.le_trans h1 h2
 have nc:@LT.lt Nat _ 86 L:=ltL (86,_) (.head _)
 obtain ⟨HH,hold,held⟩:=holds
 have qE {x1 x2 x3 x4 x5 x6}:=hold 27 (wpAny x1 x2 (call (Value.builtin "len") [Value.ref x6]) x3 x4 x5)
 have qF {x1 x2 x3 x4 x5 x6 x7 x8 x9}:=hold 28 (wpAny x1 x2 (binaryOp Operator.FloorDiv (Value.int x3 x4) (Value.int x5 x6)) x7 x8 x9)
 have qC {x1 x2 x3 x4 x5 x6 x7 x8 x9}:=hold 2 (wpAny x1 x2 (binaryOp x3 (Value.ref x4) (Value.int x5 x6)) x7 x8 x9)
 have qD {x1 x2 x3 x4 x5 x6 x7 x8 x9 x10 x11 x12 x13 x14 x15 x16}:=hold 1 (wpAny x1 x2 (exec (Stmt.FunctionDef x3 x4 x5 x6 x7 x8 x9 x10 x11 x12) x13) x14 x15 x16)
 k_steps
 repeat' ((first
  | (refine held 27 _ ?_
     rename News _ _ _ _=>N
     (with_reducible refine' len_rep N ?lm hm1 ?_)
     case lm=>k_mem)
  | (refine held 28 _ ?_
     (with_reducible refine fd_digs hb hbits hb100 ?_))
  | (refine held 4 _ ?_
     rename Fr _ _ _ _=>F
     rename News _ _ _ _=>N
     k_dflt (refine' callWith_F ?mu1 ?_;(case mu1=>exact FnAt.of N (by k_mem))))
  | (refine held 3 _ ?_
     rename Fr _ _ _ _=>F
     rename News _ _ _ _=>N
     have ha0:a≠0:=(by
      have q8:¬ ((a:Int)=0):=(by assumption)
      omega)
     have hm0:=nDigs_pos hb ha0
     have tb9:=int2d_tabs B F N (p86:=ps') (by k_mem) (fun p hp=>by repeat first | exact hp | apply List.Mem.tail) hcode h250 hps'
     have i9:=inv_nowT B F tb9
     have h7:=nDigs_le hb ha
     have dcn:CodeIn g ex c' "_int2digits.<locals>.inner":=hcode
     (show wpAny _ _ (call (Value.ref f) [Value.int ((a:Nat):Int) _,Value.int ((0:Nat):Int) _,Value.int ((nDigs a b:Nat):Int) _]) _ _ _)
     have nD:@Ne Nat D f∧@Ne Nat D (L+1)∧@Ne Nat D (L+1+1)∧@Ne Nat D (L+1+1+1):=⟨(by omega),(by omega),(by omega),(by omega)⟩
     have D250:@LE.le Nat _ 250 D:=(by omega)
     have l1250:@LE.le Nat _ 250 (L+1):=Nat.le_succ_of_le hL250
     have l2250:@LE.le Nat _ 250 (L+1+1):=Nat.le_succ_of_le l1250
     have l3250:@LE.le Nat _ 250 (L+1+1+1):=Nat.le_succ_of_le l2250
     have f250:@LE.le Nat _ 250 f:=Nat.le_trans l3250 (Nat.le_of_lt (lf.2.2.1))
     have hax:a < 2 ^ (b*(nDigs a b - 0)):=(figs_nDigs a hb).1
     k_dflt (refine' inner_spec hb hb2 (K:=L) rfl (by assumption) (by assumption) (by assumption) nD 7 _ _ _ _ _ 0 _ _ _ (List.replicate (nDigs a b) (.int 0 tk0)) (List.replicate (nDigs a b) 0) _ _ ?c1 ?c2 hm0 ?c3 ?c4 hax ?c5 i9 ⟨⟨(N (f,_) ?m1).1,f250⟩,hcode.rec F N (fun p hp=>by repeat first | exact hp | apply List.Mem.tail),h250,⟨(N (L+1,_) ?m2).1,l1250⟩,⟨(N (L+1+1,_) ?m3).1,l2250⟩,⟨(N (L+1+1+1,_) ?m4).1,l3250⟩⟩ ⟨(N (D,_) ?m5).1,D250⟩ (ints_rep _) ?_)
     case m1=>k_mem
     case m2=>k_mem
     case m3=>k_mem
     case m4=>k_mem
     case m5=>k_mem
     case c1=>exact h7
     case c2=>exact Nat.le_refl _
     case c3=>rw [List.length_replicate];exact Nat.le_refl _
     case c4=>rw [List.length_replicate];exact h7
     case c5=>exact lvl_deeper (by decide)
     intro vs1 s1 st1 hD1 hI1
     rw [putD_all] at hI1
     have N2:=news_swap N
     have F1:=Fr.step F N2 st1 (fun a ha=>⟨_,.head _,(mS ha).symm⟩)
     have exD:∀ p∈ex,p.1≠D:=exNe lx (by k_mem)
     have N:=newsU N2 st1 hD1.1 (by
      repeat' (first | exact exD | (refine List.forall_mem_cons.mpr ⟨?_,?_⟩) | (refine neN ?_;dsimp only;omega)))
     have F:=F1
     have O:=Oth.next st1 O
     clear F1 N2 st1
     (try dsimp only))
  | (refine held 2 _ ?_
     rename Fr _ _ _ _=>F
     rename News _ _ _ _=>N
     (with_reducible refine mul_one_K F N (k:=nDigs a b) (List.Mem.head _) hm1 ?_)
     intro D h' F N lD
     k_lt lD)
  | (refine held 1 _ ?_
     rename Fr _ _ _ _=>F
     rename News _ _ _ _=>N
     (try dsimp only [List.cons_append,List.nil_append] at N)
     k_dflt (refine' def_both B F N T (hd90 X) ?U ?big hps ?h1 ?h2 ?h3 ?h4 ?h5 ?h6 ?h7 ?h8 ?_;(case U=>k_updF);(case big=>exact ⟨(L+1,_),by k_mem,Nat.le_succ_of_le hL250⟩);(case h1=>rfl);(case h2=>rfl);(case h3=>intro _;rfl);(case h4=>rfl);(case h5=>rfl);(case h6=>rfl);(case h7=>rfl);(case h8=>rfl))
     intro f c' ct dc h' tk ps' ex F N lf lx hcode hps' h250
     have qA {x1 x2 x3 x4 x5 x6 x7 x8 x9}:=hold 4 (wpAny x1 x2 (callWith x3 (Value.ref f) x4 x5 x6) x7 x8 x9)
     have qB {x1 x2 x3 x4 x5 x6}:=hold 3 (wpAny x1 x2 (call (Value.ref f) x3) x4 x5 x6)
     k_lt lf
     (try dsimp only [List.cons_append,List.nil_append] at N))) <;> k_steps)
 · rename Fr _ _ _ _=>F
   rename News _ _ _ _=>N
   have tb9:=int2d_tabs B F N (p86:=ps') (by k_mem) (fun p hp=>by repeat first | exact hp | apply List.Mem.tail) hcode h250 hps'
   show Q (.ref D) _
   refine k D vs1.toArray 0 _ (baseT_fin B [86] F N O (fun p hp=>.inl ?_) tb9) ⟨(N (D,_) (by k_mem)).1,D250⟩ (baseT_fresh B (N (D,listOf vs1.toArray 0) (by k_mem)).2.2 (one_ne ?_)) hI1
   · rw [mS hp];exact .head _
   · omega
 · rename Fr _ _ _ _=>F
   rename News _ _ _ _=>N
   have tb9:=int2d_tabs B F N (p86:=ps') (by k_mem) (fun p hp=>by repeat first | exact hp | apply List.Mem.tail) hcode h250 hps'
   show Q (.ref D) _
   have ha0:a=0:=by
    have q8:(a:Int)=0:=by assumption
    omega
   have D250:@LE.le Nat _ 250 D:=by omega
   refine k D (List.replicate (nDigs a b) (.int 0 tk0)).toArray 0 _ (baseT_fin B [86] F N O (fun p hp=>.inl ?_) tb9) ⟨(N (D,_) (by k_mem)).1,D250⟩ (baseT_fresh B (N (D,listOf (List.replicate (nDigs a b) (.int 0 tk0)).toArray 0) (by k_mem)).2.2 (one_ne ?_)) ?_
   · rw [mS hp];exact .head _
   · omega
   · subst ha0
     rw [nDigs_zero hb];exact .nil
end
end
section
theorem val_app (b:Nat):∀ xs ys:List Nat,val b (xs ++ ys)=val b xs+2 ^ (b*xs.length) * val b ys
 | [],ys=>by simp [val]
 | x :: r,ys=>by
   rw [List.cons_append,val,val_app b r ys,val,List.length_cons,Nat.mul_add,Nat.mul_add,Nat.mul_one,Nat.pow_add,← Nat.mul_assoc,Nat.mul_comm (2 ^ (b*r.length)) (2 ^ b),Nat.add_assoc]
noncomputable def sg (ds:List Nat) (l r:Nat):List Nat:=(ds.drop l).take (r - l)
theorem sg_len {ds:List Nat} {l r:Nat} (h1:l≤r) (h2:r≤ds.length):(sg ds l r).length=r - l:=by
 simp [sg];omega
theorem sg_split {ds:List Nat} {l m r:Nat} (h1:l≤m) (h2:m≤r):sg ds l r=sg ds l m ++ sg ds m r:=by
 unfold sg
 rw [show r - l=(m - l) + (r - m) by omega,List.take_add,List.drop_drop,show l+(m - l)=m by omega]
theorem sg_one {ds:List Nat} {l:Nat} (h:l < ds.length) (b:Nat):val b (sg ds l (l+1))=ds.getD l 0:=by
 unfold sg
 rw [show l+1 - l=1 by omega,List.drop_eq_getElem_cons h,List.take_succ_cons,List.take_zero,val,val,Nat.mul_zero,Nat.add_zero,List.getD_eq_getElem?_getD,List.getElem?_eq_getElem h]
 rfl
theorem sg_lt {ds:List Nat} {b:Nat} (h:∀ x∈ds,x < 2 ^ b) (l r:Nat):val b (sg ds l r) < 2 ^ (b*(r - l)):=by
 refine Nat.lt_of_lt_of_le (val_lt b _ fun x hx=>h x (List.mem_of_mem_drop (List.mem_of_mem_take hx))) (Nat.pow_le_pow_right (by decide) (Nat.mul_le_mul_left _ ?_))
 unfold sg
 rw [List.length_take]
 exact Nat.min_le_left _ _
theorem sg_two {ds:List Nat} {b l m r:Nat} (h1:l≤m) (h2:m≤r) (h3:r≤ds.length):val b (sg ds m r) * 2 ^ ((m - l) * b) + val b (sg ds l m)=val b (sg ds l r):=by
 rw [sg_split h1 h2,val_app,sg_len h1 (by omega),Nat.mul_comm (m - l),Nat.add_comm,Nat.mul_comm (val b (sg ds m r))]
theorem sg_all (ds:List Nat):sg ds 0 ds.length=ds:=by simp [sg]
end
section
noncomputable abbrev in2B (p1 p2 p3 p4 p5 p6 p7 p8 p9 p10 p11 p12 p13 p14 p15 p16 p17 p18 p19 p20 p21 p22 p23 p24 p25 p26 p27 p28 p29 p30 p31 p32 p33 p34 p35 p36:Pos):List Stmt:=[.If (.Compare (.BinOp (.Name "L" p1) .Add (.Constant (.int 1) 0 p2) p3) [.Eq] [(.Name "R" p4)] p5) [.Return (some (.Subscript (.Name "digits" p6) (.Name "L" p7) p8)) p9] [] p10,
 .Assign [(.Name "mid" p11)] (.BinOp (.BinOp (.Name "L" p12) .Add (.Name "R" p13) p14) .RShift (.Constant (.int 1) 0 p15) p16) p17,
 .Assign [(.Name "shift" p18)] (.BinOp (.BinOp (.Name "mid" p19) .Sub (.Name "L" p20) p21) .Mult (.Name "n" p22) p23) p24,
 .Return (some (.BinOp (.BinOp (.Call (.Name "inner" p25) [(.Name "mid" p26),(.Name "R" p27)] [] p28) .LShift (.Name "shift" p29) p30) .Add (.Call (.Name "inner" p31) [(.Name "L" p32),(.Name "mid" p33)] [] p34) p35)) p36]
noncomputable abbrev in2S:Scope:={ kind:=.function,names:=[("L",.local),("R",.local),("mid",.local),("shift",.local),("digits",.free),("inner",.free),("n",.free)],isGenerator:=false,isCoroutine:=false }
noncomputable abbrev in2P (q1 q2:Pos):Arguments:=⟨[],[⟨"L",none,q1⟩,⟨"R",none,q2⟩],none,[],[],none,[]⟩
noncomputable abbrev in2Cl (L:Nat):List (Str×Addr):=[(Str.ofString "n",L+1+1),(Str.ofString "inner",L+1+1+1),(Str.ofString "digits",L+1)]
structure Inner2At (h:Heap) (f c' K:Nat) (fo o1 o2 o3:Obj):Prop where
 hf:At h f fo
 hc:h.CodeRec (.ref c') "_digits2int.<locals>.inner"
 h250:250≤c'
 h1:At h (K+1:Nat) o1
 h2:At h (K+1+1:Nat) o2
 h3:At h (K+1+1+1:Nat) o3
theorem ints_toI {vs:List Value} {ds:List Nat} (h:IntsAre vs (toI ds)) {l:Nat} (hl:l < ds.length):(toI ds).getD l 0=((ds.getD l 0:Nat):Int):=by
 simp [toI,List.getD_eq_getElem?_getD,hl]
noncomputable abbrev in2Bc:List Stmt:=in2B ⟨107,11,107,12⟩ ⟨107,15,107,16⟩ ⟨107,11,107,16⟩ ⟨107,20,107,21⟩ ⟨107,11,107,21⟩ ⟨108,19,108,25⟩ ⟨108,26,108,27⟩ ⟨108,19,108,28⟩ ⟨108,12,108,28⟩ ⟨107,8,108,28⟩ ⟨109,8,109,11⟩ ⟨109,14,109,15⟩ ⟨109,18,109,19⟩ ⟨109,14,109,19⟩ ⟨109,23,109,24⟩ ⟨109,14,109,24⟩ ⟨109,8,109,24⟩ ⟨110,8,110,13⟩ ⟨110,17,110,20⟩ ⟨110,23,110,24⟩ ⟨110,17,110,24⟩ ⟨110,28,110,29⟩ ⟨110,16,110,29⟩ ⟨110,8,110,29⟩ ⟨111,16,111,21⟩ ⟨111,22,111,25⟩ ⟨111,27,111,28⟩ ⟨111,16,111,29⟩ ⟨111,33,111,38⟩ ⟨111,16,111,38⟩ ⟨111,42,111,47⟩ ⟨111,48,111,49⟩ ⟨111,51,111,54⟩ ⟨111,42,111,55⟩ ⟨111,15,111,55⟩ ⟨111,8,111,55⟩
noncomputable abbrev in2Pc:Arguments:=in2P ⟨106,14,106,15⟩ ⟨106,17,106,18⟩
section
variable {w:World} {E:VP} {Q:VP}
theorem inner2_spec {b:Nat} (hb:0 < b) (hb2:b≤12) {f c' K D n:Nat} {fo o1 o2 o3:Obj} {doc pm ct:Value} {tb:Tok} {vs:List Value} {ds:List Nat}
 (hfo:fo=⟨.type "function",none,.func (fnX "inner" "_digits2int.<locals>.inner" in2Pc in2Bc in2S (in2Cl K) .none .none doc pm none (.ref c') ct),#[]⟩) (d1:o1.data=.cell (some (.ref D))) (d2:o2.data=.cell (some (.int b tb))) (d3:o3.data=.cell (some (.ref f)))
 (hI:IntsAre vs (toI ds)) (h5:ds.length≤7) (hds:∀ x∈ds,x < 2 ^ b) :
 ∀ (j:Nat) (A:Around) (s:Shared) (l r:Nat) (tl tr:Tok) (Q E:VP),r - l≤j→j≤7→l < r→r≤ds.length→Lvl A (790 - j)→Inv w s.heap →
   Inner2At s.heap f c' K fo o1 o2 o3→At s.heap D (listOf vs.toArray n) →
   (∀ t s',Step w [] s s'→Q (.int (val b (sg ds l r):Nat) t) s') →
   wpAny (model prog w) A (call (.ref f) [.int l tl,.int r tr]) Q E s:=by
 intro j
 induction j with
 | zero=>intro A s l r tl tr Q E h1 h2 h3;omega
 | succ j ih =>
   intro A s l r tl tr Q E h1 h2 h3 h4 hA I H hD k
   refine weaken hA fun fr gd=>?_
   refine enterF (args:=⟨[.int l tl,.int r tr],[]⟩) [(D,listOf vs.toArray n),(f,fo),(K+1,o1),(K+1+1,o2),(K+1+1+1,o3)] I ?_ H.hf.1 (by rw [hfo]) H.hc ?_ (BindsTo.of_eq rfl) (locs rfl) ?_ (by decide)
   · exact fm5 ⟨hD.1,.inl ⟨hD.2,rfl⟩⟩ ⟨H.hf.1,.inl ⟨H.hf.2,by rw [hfo];rfl⟩⟩ ⟨H.h1.1,.inl ⟨H.h1.2,by unfold isMut isCode;rw [d1];rfl⟩⟩ ⟨H.h2.1,.inl ⟨H.h2.2,by unfold isMut isCode;rw [d2];rfl⟩⟩ ⟨H.h3.1,.inl ⟨H.h3.2,by unfold isMut isCode;rw [d3];rfl⟩⟩ (fun _ h=>nN h)
   · show 790 - (j+1) < 1000
     omega
   intro g L' h₁ loose mean mg mb B F N ltL X T
   have O:Oth s s:=Oth.refl
   have hhi:∀ p∈[(D,listOf vs.toArray n),(f,fo),(K+1,o1),(K+1+1,o2),(K+1+1+1,o3)],250≤p.1:=by
    exact fm5 hD.2 H.hf.2 H.h1.2 H.h2.2 H.h3.2 (fun _ h=>nN h)
   have q9:∀ (m:Str→Option Value) (h':Heap),Fr g L' h' m→News g L' h' [(D,listOf vs.toArray n),(f,fo),(K+1,o1),(K+1+1,o2),(K+1+1+1,o3)]→Inner2At h' f c' K fo o1 o2 o3:=fun m h' F N =>
    ⟨⟨(N (f,fo) (by k_mem)).1,H.hf.2⟩,code_old B F H.h250 H.hc,H.h250,⟨(N (_,o1) (by k_mem)).1,H.h1.2⟩,⟨(N (_,o2) (by k_mem)).1,H.h2.2⟩,⟨(N (_,o3) (by k_mem)).1,H.h3.2⟩⟩
   have hlm:l≤(l+r) / 2:=by omega
   have hm1000:(l+r) / 2≤1000:=by omega
   have hb1000:b≤1000:=by omega
   have hbr:b*(r - (l+r) / 2)≤84:=by
    have:=Nat.mul_le_mul hb2 (show r - (l+r) / 2≤7 by omega)
    omega
   have hn1000:b*(r - (l+r) / 2)≤1000:=by omega
   have hkl:((l+r) / 2 - l) * b≤84:=by
    have:=Nat.mul_le_mul (show (l+r) / 2 - l≤7 by omega) hb2
    omega
   have hk1000:((l+r) / 2 - l) * b≤1000:=by omega
   have hxu:=sg_lt hds ((l+r) / 2) r
   have ha6:Lvl ((AL (790 - (j+1)) fr gd).deeper (envX "_digits2int.<locals>.inner" in2S L' f (.ref c') (in2Cl K))) (790 - j):=lvl_deeper (by omega)
   have ha2:j≤7:=by omega
   (try dsimp only)
   k_unmd
   k_fold
   obtain ⟨HH,hold,held⟩:=holds
   have qE {x1 x2 x3 x4 x5 x6 x7 x8 x9}:=hold 30 (wpAny x1 x2 (binaryOp Operator.RShift (Value.int x3 x4) (Value.int x5 x6)) x7 x8 x9)
   have qF {x1 x2 x3 x4 x5 x6 x7 x8 x9}:=hold 31 (wpAny x1 x2 (binaryOp Operator.Mult (Value.int x3 x4) (Value.int x5 x6)) x7 x8 x9)
   have qG {x1 x2 x3 x4 x5 x6 x7 x8 x9}:=hold 32 (wpAny x1 x2 (binaryOp Operator.LShift (Value.int x3 x4) (Value.int x5 x6)) x7 x8 x9)
   have qH {x1 x2 x3 x4 x5 x6 x7}:=hold 25 (wpAny x1 x2 (eval (Expr.Name (Str.ofString "n") x3) x4) x5 x6 x7)
   have qI {x1 x2 x3 x4 x5 x6 x7}:=hold 25 (wpAny x1 x2 (eval (Expr.Name (Str.ofString "inner") x3) x4) x5 x6 x7)
   have qJ {x1 x2 x3 x4 x5 x6 x7}:=hold 25 (wpAny x1 x2 (eval (Expr.Name (Str.ofString "digits") x3) x4) x5 x6 x7)
   have qK {x1 x2}:=hold 26 (FnAt x1 x2)
   have qA {x1 x2 x3 x4 x5 x6 x7 x8 x9}:=hold 4 (wpAny x1 x2 (callWith x3 (Value.ref f) x4 x5 x6) x7 x8 x9)
   have qB {x1 x2 x3 x4 x5 x6 x7}:=hold 3 (wpAny x1 x2 (call (Value.ref f) [Value.int (l:Int) x3,Value.int ((((l+r) / 2:Nat)):Int) x4]) x5 x6 x7)
   have qC {x1 x2 x3 x4 x5 x6 x7}:=hold 2 (wpAny x1 x2 (call (Value.ref f) [Value.int ((((l+r) / 2:Nat)):Int) x3,Value.int (r:Int) x4]) x5 x6 x7)
   have qD {x1 x2 x3 x4 x5 x6 x7 x8 x9}:=hold 1 (wpAny x1 x2 (subscriptTail x3 x4 (Value.ref D) (Value.int x5 x6)) x7 x8 x9)
   k_steps
   repeat' ((first
    | (refine held 30 _ ?_
       (with_reducible refine rsh_mid ?_))
    | (refine held 31 _ ?_
       (with_reducible refine mul_sub hlm hm1000 hb1000 ?_))
    | (refine held 32 _ ?_
       (with_reducible refine lsh_nat hxu hn1000 hk1000 ?_))
    | (refine held 25 _ ?_
       rename Fr _ _ _ _=>F
       rename News _ _ _ _=>N
       k_dflt (first | refine nameX_F N rfl (show (K+1,o1)∈_ by k_mem) d1 ?_ | refine nameX_F N rfl (show (K+1+1,o2)∈_ by k_mem) d2 ?_ | refine nameX_F N rfl (show (K+1+1+1,o3)∈_ by k_mem) d3 ?_))
    | (refine held 26 _ ?_
       rename News _ _ _ _=>N
       exact ⟨_,_,_,_,(N (f,fo) (by k_mem)).1.trans (congrArg some hfo)⟩)
    | (refine held 4 _ ?_
       rename Fr _ _ _ _=>F
       rename News _ _ _ _=>N
       k_dflt (refine' callWith_F ?mu1 ?_;(case mu1=>exact ⟨_,_,_,_,(N (f,fo) (by k_mem)).1.trans (congrArg some hfo)⟩)))
    | (refine held 3 _ ?_
       have ha1:(l+r) / 2 - l≤j:=(by omega)
       have ha3:l < (l+r) / 2:=(by omega)
       have ha4:(l+r) / 2≤ds.length:=(by omega)
       rename Fr _ _ _ _=>F
       rename News _ _ _ _=>N
       have q1:=inv_nowT B F (tabs_plain B F hhi)
       have q2:=q9 _ _ F N
       have q3:At _ D (listOf vs.toArray n):=⟨(N (D,_) (.head _)).1,hD.2⟩
       (with_reducible refine ih _ _ _ _ _ _ _ _ ha1 ha2 ha3 ha4 ha6 q1 q2 q3 ?_)
       intro t2 s2 st2
       have N:=news0 st2 N
       have F:=fr0 st2 F
       have O:=Oth.next st2 O
       clear q1 q2 q3 st2)
    | (refine held 2 _ ?_
       have hlr:l+1 < r:=(by
        have q8:¬ ((l:Int) + 1=(r:Int)):=(by assumption)
        omega)
       have hc1:r - (l+r) / 2≤j:=(by omega)
       have hc3:(l+r) / 2 < r:=(by omega)
       rename Fr _ _ _ _=>F
       rename News _ _ _ _=>N
       have q1:=inv_nowT B F (tabs_plain B F hhi)
       have q2:=q9 _ _ F N
       have q3:At _ D (listOf vs.toArray n):=⟨(N (D,_) (.head _)).1,hD.2⟩
       (with_reducible refine ih _ _ _ _ _ _ _ _ hc1 ha2 hc3 h4 ha6 q1 q2 q3 ?_)
       intro t1 s1 st1
       have N:=news0 st1 N
       have F:=fr0 st1 F
       have O:=Oth.next st1 O
       clear q1 q2 q3 st1)
    | (refine held 1 _ ?_
       rename News _ _ _ _=>N
       k_dflt (refine' ksa_sub (vs:=vs) (ns:=toI ds) (n:=n) N ?k1 hI ?k2 ?k3 ?k4 ?_;(case k1=>k_mem);(case k2=>omega);(case k3=>(rw [show (toI ds).length=ds.length from List.length_map _];omega));(case k4=>omega))
       intro t9)) <;> k_steps)
   · rename Fr _ _ _ _=>F
     rename News _ _ _ _=>N
     have e:r=l+1:=by
      have q8:(l:Int) + 1=(r:Int):=by assumption
      omega
     subst e
     show Q (.int ((toI ds).getD ((l:Int)).toNat 0) t9) _
     have e1:(toI ds).getD ((l:Int)).toNat 0=((val b (sg ds l (l+1)):Nat):Int):=by
      rw [Int.toNat_natCast,ints_toI hI (by omega),sg_one (by omega)]
     rw [e1]
     exact k _ _ (baseT_fin B [] F N O (fun p hp=>.inr hp) (tabs_plain B F hhi))
   · rename Fr _ _ _ _=>F
     rename News _ _ _ _=>N
     rw [← Int.natCast_add,sg_two hlm (by omega) h4]
     exact k _ _ (baseT_fin B [] F N O (fun p hp=>.inr hp) (tabs_plain B F hhi))
end
end
section
theorem d2i_tabs {w:World} {s:Shared} {o oD:Obj} {g h:Heap} {L c' D:Addr} {m:Str→Option Value} {news ex:List (Addr×Obj)} {p93:Array Value} (B:BaseT w s [(D,oD),(93,o)] g) (hD:250≤D) (F:Fr g L h m) (N:News g L h news) (h93:(93,tabObj p93)∈news) (hex:∀ p∈ex,p∈news) (hc:CodeIn g ex c' "_digits2int.<locals>.inner") (h250:250≤c') (hp:p93=#[rawInt 106,rawInt 4,.ref c']):TabsOk h:=by
 have ne:∀ P:Nat,P < 250→P≠93→∀ p∈[(D,oD),(93,o)],p.1≠P:=fun P hP h93 p hp=>by
  rcases mC hp with rfl | hp
  · intro e
    dsimp only at e
    subst e
    exact absurd hD (Nat.not_le.mpr hP)
  · rw [mS hp];exact fun e=>h93 e.symm
 exact ⟨tab_old B F (ne _ (by decide) (by decide)) B.inv.tabs.t86,.inr ⟨c',h250,hp▸(N _ h93).1,hc.rec F N hex⟩,tab_old B F (ne _ (by decide) (by decide)) B.inv.tabs.t162,tab_old B F (ne _ (by decide) (by decide)) B.inv.tabs.t169,tab_old B F (ne _ (by decide) (by decide)) B.inv.tabs.t234⟩
theorem len_any {w:World} {A:Around} {E:VP} {s:Shared} {g:Heap} {L D:Addr} {news:List (Addr×Obj)} {vs:List Value} {k n:Nat} {Q:VP} (N:News g L s.heap news) (hm:(D,listOf vs.toArray n)∈news) (hl:vs.length=k) (hk:k≤1000)
 (h:Q (.int (k:Int) (s.toks+1)) { s with toks:=s.toks+1+1 }):wpAny (model prog w) A (call (.builtin "len") [.ref D]) Q E s:=by
 refine len_list (items:=vs.toArray) ⟨_,(N _ hm).1,rfl,_,rfl⟩ (by simp;omega) ?_
 simpa [hl] using h
section
variable {w:World} {A:Around} {E:VP} {s:Shared} {Q:VP}
theorem dig2i (l:Lvl A 700) (I:Inv w s.heap) {D b n:Nat} {tb:Tok} {vs:List Value} {ds:List Nat} (hb:0 < b) (hb2:b≤12) (hD:At s.heap D (listOf vs.toArray n)) (hI:IntsAre vs (toI ds)) (h5:ds.length≤7) (hds:∀ x∈ds,x < 2 ^ b)
 (k:∀ t s',Step w [93] s s'→Q (.int (val b ds:Nat) t) s'):wpAny (model prog w) A (call (.ref 98) [.ref D,.int b tb]) Q E s:=by
 have hlen:vs.length=ds.length:=by rw [hI.length];simp [toI]
 have h1000:ds.length≤1000:=by omega
 obtain ⟨ps,hP,hps⟩:=tabPs_of I.tabs.t93
 refine weaken l fun fr gd=>?_
 refine enterC (args:=⟨[.ref D,.int b tb],[]⟩) [(D,listOf vs.toArray n),(93,tabObj ps)] I ?_ (by k_is) (by k_is) (by show (700:Nat) < 1000;decide) (BindsTo.of_eq rfl) ?_ ?_ ?_
 · exact fm2 ⟨hD.1,.inl ⟨hD.2,rfl⟩⟩ ⟨hP,.inr (show (93:Nat)∈TB by decide)⟩ (fun _ h=>nN h)
 · exact kindsX rfl
 · decide
 intro g L h₁ tk0 cells loose mean mg mb B F N Y nL ltL X T
 (try dsimp only)
 k_fold
 have O:Oth s s:=Oth.refl
 k_cells Y
 (try dsimp only [List.cons_append,List.nil_append] at N)
 have hL250:@LE.le Nat _ 250 L:=by
  have h1:=I.size
  have h2:=F.above
  rw [B.eq,hideAll_size] at h2
  exact Nat.le_trans h1 h2
 have nc:@LT.lt Nat _ 93 L:=ltL (93,_) (.tail _ (.head _))
 have nD:@LT.lt Nat _ D L:=ltL (D,_) (.head _)
 have D250:@LE.le Nat _ 250 D:=hD.2
 have hall:ds=[]∨0 < ds.length:=by cases ds;exact .inl rfl;exact .inr (Nat.succ_pos _)
 obtain ⟨HH,hold,held⟩:=holds
 have qC {x1 x2 x3 x4 x5}:=hold 2 (wpAny x1 x2 (call (Value.builtin "len") [Value.ref D]) x3 x4 x5)
 have qD {x1 x2 x3 x4 x5 x6 x7 x8 x9 x10 x11 x12 x13 x14 x15 x16}:=hold 1 (wpAny x1 x2 (exec (Stmt.FunctionDef x3 x4 x5 x6 x7 x8 x9 x10 x11 x12) x13) x14 x15 x16)
 k_steps
 repeat' ((first
  | (refine held 4 _ ?_
     rename Fr _ _ _ _=>F
     rename News _ _ _ _=>N
     k_dflt (refine' callWith_F ?mu1 ?_;(case mu1=>exact FnAt.of N (by k_mem))))
  | (refine held 3 _ ?_
     rename Fr _ _ _ _=>F
     rename News _ _ _ _=>N
     have hpos:0 < ds.length:=(by
      have q8:vs.isEmpty=false:=(by assumption)
      cases vs with
      | nil=>cases q8
      | cons _ _=>rw [← hlen];exact Nat.succ_pos _)
     have tb9:=d2i_tabs B D250 F N (p93:=ps') (by k_mem) (fun p hp=>by repeat first | exact hp | apply List.Mem.tail) hcode h250 hps'
     have i9:=inv_nowT B F tb9
     (show wpAny _ _ (call (Value.ref f) [Value.int ((0:Nat):Int) _,Value.int ((ds.length:Nat):Int) _]) _ _ _)
     have l1250:@LE.le Nat _ 250 (L+1):=Nat.le_succ_of_le hL250
     have l2250:@LE.le Nat _ 250 (L+1+1):=Nat.le_succ_of_le l1250
     have l3250:@LE.le Nat _ 250 (L+1+1+1):=Nat.le_succ_of_le l2250
     have f250:@LE.le Nat _ 250 f:=Nat.le_trans l3250 (Nat.le_of_lt (lf.1))
     k_dflt (refine' inner2_spec hb hb2 (K:=L) (D:=D) rfl (by assumption) (by assumption) (by assumption) hI h5 hds 7 _ _ _ _ _ _ _ _ h5 (Nat.le_refl _) hpos (Nat.le_refl _) ?c5 i9 ⟨⟨(N (f,_) ?m1).1,f250⟩,hcode.rec F N (fun p hp=>by repeat first | exact hp | apply List.Mem.tail),h250,⟨(N (L+1,_) ?m2).1,l1250⟩,⟨(N (L+1+1,_) ?m3).1,l2250⟩,⟨(N (L+1+1+1,_) ?m4).1,l3250⟩⟩ ⟨(N (D,listOf vs.toArray n) ?m5).1,D250⟩ ?_)
     case m1=>k_mem
     case m2=>k_mem
     case m3=>k_mem
     case m4=>k_mem
     case m5=>k_mem
     case c5=>exact lvl_deeper (by decide)
     intro t1 s1 st1
     have N:=news0 st1 N
     have F:=fr0 st1 F
     have O:=Oth.next st1 O
     clear tb9 i9 st1
     (try dsimp only))
  | (refine held 2 _ ?_
     rename News _ _ _ _=>N
     (with_reducible refine' len_any N ?lm hlen h1000 ?_)
     case lm=>k_mem)
  | (refine held 1 _ ?_
     rename Fr _ _ _ _=>F
     rename News _ _ _ _=>N
     (try dsimp only [List.cons_append,List.nil_append] at N)
     k_dflt (refine' def_both B F N T (hd97 X) ?U ?big hps ?h1 ?h2 ?h3 ?h4 ?h5 ?h6 ?h7 ?h8 ?_;(case U=>k_updF);(case big=>exact ⟨(L+1,_),by k_mem,Nat.le_succ_of_le hL250⟩);(case h1=>rfl);(case h2=>rfl);(case h3=>intro _;rfl);(case h4=>rfl);(case h5=>rfl);(case h6=>rfl);(case h7=>rfl);(case h8=>rfl))
     intro f c' ct dc h' tk ps' ex F N lf lx hcode hps' h250
     have qA {x1 x2 x3 x4 x5 x6 x7 x8 x9}:=hold 4 (wpAny x1 x2 (callWith x3 (Value.ref f) x4 x5 x6) x7 x8 x9)
     have qB {x1 x2 x3 x4 x5 x6}:=hold 3 (wpAny x1 x2 (call (Value.ref f) x3) x4 x5 x6)
     k_lt lf
     (try dsimp only [List.cons_append,List.nil_append] at N))) <;> k_steps)
 · rename Fr _ _ _ _=>F
   rename News _ _ _ _=>N
   have tb9:=d2i_tabs B D250 F N (p93:=ps') (by k_mem) (fun p hp=>by repeat first | exact hp | apply List.Mem.tail) hcode h250 hps'
   have q8:vs.isEmpty=true:=by assumption
   have e:ds=[]:=by
    cases vs with
    | nil=>exact List.length_eq_zero_iff.mp hlen.symm
    | cons _ _=>cases q8
   have e2:((val b ds:Nat):Int)=0:=by rw [e];rfl
   rw [← e2]
   refine k _ _ (baseT_fin B [93] F N O (fun p hp=>?_) tb9)
   rcases mC hp with rfl | hp
   · exact .inr (by k_mem)
   · rw [mS hp];exact .inl (.head _)
 · rename Fr _ _ _ _=>F
   rename News _ _ _ _=>N
   have tb9:=d2i_tabs B D250 F N (p93:=ps') (by k_mem) (fun p hp=>by repeat first | exact hp | apply List.Mem.tail) hcode h250 hps'
   show Q (.int ((val b (sg ds 0 ds.length):Nat):Int) t1) s1
   rw [sg_all]
   refine k _ _ (baseT_fin B [93] F N O (fun p hp=>?_) tb9)
   rcases mC hp with rfl | hp
   · exact .inr (by k_mem)
   · rw [mS hp];exact .inl (.head _)
end
end
section
noncomputable def SetIs (w:World) (h:Heap) (a:Addr) (xs:List Str):Prop:=∃ c,c≤xs.length∧h.SetOf (PySem.strKind prog w) a (fun y=>xs.contains y) c
theorem contains_snoc (l:List Str) (x y:Str):(l ++ [x]).contains y=(l.contains y || decide (y=x)):=by
 rw [Bool.eq_iff_iff]
 simp [List.contains_iff_mem]
section
variable {w:World} {A:Around} {R:Result→Shared→Prop} {I:Addr} {fp wr:List Addr} {G:Array GenState→Array GenState→Prop} {P:Nat→Value→Prop} {St:Nat→Shared→Prop}
theorem set_loop {xs:List Str} (W:WalksS prog w A.in1 I fp wr G xs.length P St) (S:Addr) (hSf:S∉fp) (hval:∀ i v,P i v→∃ (h:i < xs.length) (t:Tok),v=.str xs[i] t) (hb:xs.length+1 < scanBound) :
 ∀ (k i:Nat) (s:Shared),xs.length - i=k→i≤xs.length→St i s→SetIs w s.heap S (xs.take i) →
   (∀ s',Moved (S :: wr) G s s'→SetIs w s'.heap S xs→R (.ok (.ret .none)) s')→codeAny (model prog w) A (.builtin "set.update.loop" ⟨[.ref S,.ref I],[]⟩) R s:=by
 have hSw:S∉wr:=fun h=>hSf (W.sub _ h)
 have moved:∀ {s s':Shared} {l:List Str},Moved wr G s s'→SetIs w s.heap S l→SetIs w s'.heap S l:=fun hm ⟨c,hc,o,es,ep,t,ho,r⟩=>⟨c,hc,o,es,ep,t,hm.heap S _ hSw ho,r⟩
 intro k
 induction k with
 | zero =>
   intro i s hk hi hst hS hR
   obtain rfl:i=xs.length:=by omega
   rw [List.take_length] at hS
   refine codeAny_builtin PyProof.Rows.F.entry_set_update_loop ?_
   rw [Around.under_plainId PyProof.Rows.F.plain_set_update_loop _]
   show wpAny _ A.in1 (pyNext (.ref I) >>= _) _ _ s
   refine wpAny_bind (W.done s _ _ hst fun s' hm=>?_)
   exact wpAny_pure (hR s' (hm.mono fun b hb=>.tail _ hb) (moved hm hS))
 | succ k ih =>
   intro i s hk hi hst hS hR
   have hlt:i < xs.length:=by omega
   refine codeAny_builtin PyProof.Rows.F.entry_set_update_loop ?_
   rw [Around.under_plainId PyProof.Rows.F.plain_set_update_loop _]
   show wpAny _ A.in1 (pyNext (.ref I) >>= _) _ _ s
   refine wpAny_bind (W.item i s _ _ hlt hst fun v s' hP hst' hm=>?_)
   obtain ⟨_,t,rfl⟩:=hval i v hP
   obtain ⟨c,hc,hS'⟩:=moved hm hS
   rw [List.length_take,Nat.min_eq_left hi] at hc
   show wpAny _ A.in1 (holding [Value.str xs[i] t] (setAdd S (.str xs[i] t)) >>= _) _ _ s'
   refine wpAny_bind (wpAny_holding ?_)
   unfold setAdd
   refine wpAny_holding (wpAny_bind ((PySem.strKind prog w).pyHash (k:=xs[i]) (strKind_is _ _ _ _) ?_))
   refine wpAny_setAddHashed_of (knd:=PySem.strKind prog w) (s:={ s' with toks:=s'.toks+1 }) (strKind_is _ _ _ _) rfl hS' (by omega) fun h' hsb hS2=>?_
   have hSi:SetIs w h' S (xs.take (i+1)):=by
    rw [List.take_succ_eq_append_getElem hlt]
    refine ⟨_,?_,SetOf_congr hS2 (fun y=>(contains_snoc _ _ _).symm) rfl⟩
    rw [List.length_append,List.length_take,Nat.min_eq_left hi,List.length_singleton]
    split <;> omega
   refine wpAny_pure ⟨plainId_quiet PyProof.Rows.F.plain_set_update_loop _,ih (i+1) _ (by omega) hlt (W.frame _ s' _ _ hst' (Nat.le_succ _) fun b hb o e=>?_) hSi fun s'' hm'' hS''=>?_⟩
   · rw [hsb.2 b fun q=>hSf (by rw [← q];exact hb)];exact e
   · refine hR s'' (Moved.trans W.gtrans ((hm.mono fun b hb=>.tail _ hb).then_heap (Nat.le_succ _) fun b o hb e=>?_) hm'') hS''
     rw [hsb.2 b fun q=>hb (by rw [q];exact .head _)];exact e
end
section
variable {w:World} {A:Around} {E:VP} {s:Shared}
theorem strs_at {vs:List Value} {xs:List Str} (h:StrsAre vs xs):∀ (i:Nat) (v:Value),vs.toArray[i]? = some v→∃ (h:i < xs.length) (t:Tok),v=.str xs[i] t:=by
 intro i v e
 have e':vs[i]? = some v:=by simpa using e
 refine exE2 (StrsAre.item h i v e') fun y t hh=>anE2 hh fun z2 hy=>?_;clear hh;rcases z2 with rfl
 have hl:i < xs.length:=by rw [← StrsAre.len_eq h];exact (List.getElem?_eq_some_iff.mp e').1
 refine ⟨hl,t,?_⟩
 obtain ⟨t',q⟩:=StrsAre.at h (List.getElem?_eq_getElem hl)
 rw [e'] at q
 cases q
 rfl
theorem set_new {l:Addr} {vs:List Value} {xs:List Str} {Q:VP} (hh:A.handled=none) (I:Inv w s.heap) (hl:s.heap.IsList l vs.toArray) (hs:StrsAre vs xs) (hb:xs.length+1 < scanBound)
 (k:∀ a s',Step w [] s s'→s.heap.get? a=none→SetIs w s'.heap a xs→Q (.ref a) s'):wpAny (model prog w) A (call (.type "set") [.ref l]) Q E s:=by
 obtain ⟨c,tl,hmro⟩:=PySem.F.called_set.mro
 refine wpAny_call (codeAny_of_tree ?_)
 show wpAny _ _ (callAny (.type "set") _) _ _ _
 refine wpAny_pure ⟨Code.quiet_builtin _ (by decide +kernel),codeAny_builtin PySem.F.entry_type_call ?_⟩
 rw [Around.under_plain (weight_type_call_type "set" [.ref l] []) rfl]
 unfold Builtin.«type.__call__»
 dsimp only
 rw [if_neg (by decide),if_neg (by decide +kernel)]
 refine wpAny_bind (wpAny_of_eq (PySem.F.typeCall_set_1 _) ?_)
 refine wpAny_bind (wpAny_of_eq hmro ?_)
 rw [if_neg (show ¬ (c :: tl).isEmpty=true from Bool.false_ne_true)]
 refine wpAny_bind (wpAny_of_eq PySem.F.called_set.made ?_)
 dsimp only
 refine wpAny_bind (wpAny_pure ?_)
 refine wpAny_bind (wpAny_holding (wpAny_call (code_set_new_1 (.ref l) fun led=>?_)))
 generalize hz:s.heap.objs.size=z
 have hS:(s.heap.push { cls:=.type "set",dict:=none,data:=.set #[] 0 (.fresh 0 0 led) }).get? z=some { cls:=.type "set",dict:=none,data:=.set #[] 0 (.fresh 0 0 led) }:=hz▸Heap.get?_push_size _ rfl
 have hT:Shared.TypeIs { s with heap:=s.heap.push { cls:=.type "set",dict:=none,data:=.set #[] 0 (.fresh 0 0 led) } } (.ref z) "set":=⟨_,hS,rfl⟩
 refine wpAny_bind (wpAny_isInstance hT PySem.F.called_set.sub ?_)
 rw [if_neg (by decide)]
 refine wpAny_bind (wpAny_holding ?_)
 unfold callSpecial?
 refine wpAny_bind (wpAny_specialOf hT PySem.F.called_set.init.lookup (wpAny_holding ?_))
 rw [PySem.F.called_set.init.bind]
 refine wpAny_bind (wpAny_pure (wpAny_bind (wpAny_call ?_)))
 refine codeAny_call_builtin PySem.F.called_set.init.plain PySem.F.entry_set_init (check_set_init_1 hT ?_)
 obtain ⟨⟨ocls,odict,odata,oslots⟩,hol,hcl,nl,hdl⟩:=hl
 dsimp only at hcl hdl
 subst hcl hdl
 have hlz:l < z:=hz▸Heap.lt_size hol
 have hol':=Heap.get?_push_of_some { cls:=.type "set",dict:=none,data:=.set #[] 0 (.fresh 0 0 led) } hol
 have hsls:=PySem.F.sub_list_set
 have hslf:=PySem.F.sub_list_frozenset
 have hne:(Value.type "list" == Value.type "dict")=false:=by decide
 unfold Builtin.«set.__init__» noKeywords Builtin.Frozenset.updateFrom
 generalize hPI:pyIter=PI
 wp_walk
 subst hPI
 refine wpAny_pyIter_list ⟨_,hol',rfl,nl,rfl⟩ ?_
 refine wpAny_bind (wpAny_runValue ?_)
 have hzs:(s.heap.push { cls:=.type "set",dict:=none,data:=.set #[] 0 (.fresh 0 0 led) }).objs.size=z+1:=by rw [Heap.size_push,hz]
 have hh3:A.in1.in1.in1.handled=none:=by simp [hh]
 have hneI:l≠(s.heap.push { cls:=.type "set",dict:=none,data:=.set #[] 0 (.fresh 0 0 led) }).objs.size:=by rw [hzs];exact Nat.ne_of_lt (Nat.lt_succ_of_lt hlz)
 have W:=(Walks.list (prog:=prog) (w:=w) hh3 (s.heap.push { cls:=.type "set",dict:=none,data:=.set #[] 0 (.fresh 0 0 led) }).objs.size l hneI vs.toArray).toS
 rw [show vs.toArray.size=xs.length by simp [StrsAre.len_eq hs]] at W
 have nin:∀ b:Nat,b < z+1→b≠l→b∉[(s.heap.push { cls:=.type "set",dict:=none,data:=.set #[] 0 (.fresh 0 0 led) }).objs.size,l]:=fun b h1 h2 h3=>by
  rw [hzs] at h3
  cases h3 with
  | head=>exact Nat.lt_irrefl _ h1
  | tail _ h3=>exact h2 (mS h3)
 refine set_loop W z (nin z (Nat.lt_succ_self _) (Nat.ne_of_gt hlz)) (fun i v q=>strs_at hs i v q) hb xs.length 0 _ (Nat.sub_zero _) (Nat.zero_le _) ⟨⟨_,Heap.get?_push_size _ rfl,rfl,rfl⟩,⟨_,Heap.get?_push_of_some _ hol',rfl,nl,rfl⟩⟩ ?_ fun s' hm hS'=>?_
 · exact ⟨0,Nat.zero_le _,SetOf_congr ((setObjOf_fresh (knd:=PySem.strKind prog w) led).setOf (Heap.get?_push_of_some _ hS) (by unfold scanBound;omega)) (fun y=>by simp) rfl⟩
 · have e3:∀ b o,s.heap.get? b=some o→s'.heap.get? b=some o:=fun b o e=>by
    have hb':b < z:=hz▸Heap.lt_size e
    refine hm.heap b o ?_ (Heap.get?_push_of_some _ (Heap.get?_push_of_some _ e))
    rw [hzs]
    simp only [List.mem_cons,nM,or_false,not_or]
    exact ⟨Nat.ne_of_lt hb',Nat.ne_of_lt (Nat.lt_succ_of_lt hb')⟩
   exact wpAny_pure (wpAny_pure (wpAny_pure (wpAny_pure (k z s' ⟨fun b o e _=>e3 b o e,hm.os,fun g=>by rw [hm.gens];exact g,I.keepAll e3⟩ (Heap.get?_none_of_le (Nat.le_of_eq hz)) hS'))))
end
end
section
noncomputable abbrev bfm (id:String) (a:Addr):Obj:=⟨.type "builtin_function_or_method",none,.fields #[.builtin id,.ref a],#[]⟩
section
variable {w:World} {A:Around} {E:VP} {s:Shared}
theorem SetIs.objOf {h:Heap} {a:Addr} {xs:List Str} (S:SetIs w h a xs):∃ es ep t,h.get? a=some ⟨.type "set",none,.set es ep t,#[]⟩:=by
 obtain ⟨c,hc,⟨oc,od,odt,osl⟩,es,ep,t,ho,⟨e1,e2,e3⟩,e4,r⟩:=S
 dsimp only at e1 e2 e3 e4
 subst e1 e2 e3 e4
 exact exI3 es ep t ho
theorem SetIs.step {a:Addr} {xs:List Str} {T:List Addr} {s s':Shared} (S:SetIs w s.heap a xs) (y:Step w T s s') (h:a∉T):SetIs w s'.heap a xs:=by
 obtain ⟨c,hc,o,es,ep,t,ho,r⟩:=S
 exact ⟨c,hc,o,es,ep,t,y.keep _ _ ho h,r⟩
theorem SetIs.keep {a:Addr} {xs:List Str} {h h':Heap} (S:SetIs w h a xs) (k:∀ o,h.get? a=some o→h'.get? a=some o):SetIs w h' a xs:=by
 obtain ⟨c,hc,o,es,ep,t,ho,r⟩:=S
 exact ⟨c,hc,o,es,ep,t,k _ ho,r⟩
theorem sub_set_module:isSubtype (.type "set") (.type "module")=pure false:=by rw [isSubtype_type];kernel_rfl
theorem sig_contains:Manifest.signature? "set.__contains__"=some ⟨.oneArg,"set.__contains__","__contains__",.self,[⟨"object",.posOnly,true⟩]⟩:=by kernel_rfl
theorem kind_contains:builtinKind "set.__contains__"=some .method:=by kernel_rfl
theorem args_contains (a b:Value):Bind.checkArgs "set.__contains__" ⟨.oneArg,s!"{Bind.lastOf "set"}.{Bind.lastOf "set.__contains__"}","__contains__",.self,[⟨"object",.posOnly,true⟩]⟩ ⟨[a,b],[]⟩=pure ():=by kernel_rfl
theorem check_contains {S:Addr} {b:Value} {es:Array (Int×Value)} {ep:Nat} {t:SetTable} {Q:Unit→Shared→Prop} (ho:s.heap.get? S=some ⟨.type "set",none,.set es ep t,#[]⟩) (h:Q () s) :
 wpAny (model prog w) A (checkBoundCall "set.__contains__" ⟨[.ref S,b],[]⟩) Q E s:=by
 unfold checkBoundCall
 rw [sig_contains,kind_contains]
 dsimp only
 first | with_reducible refine iN (by decide) ?_ | rw [if_neg (by decide)]
 refine wpAny_bind (wpAny_isInstance ⟨_,ho,rfl⟩ sub_set_module ?_)
 rw [if_neg (by decide +kernel)]
 refine wpAny_bind (m:=isType (.ref S)) (wpAny_bind (wpAny_loadPart ho (wpAny_pure ?_)))
 dsimp only
 first | with_reducible refine iN (by decide) ?_ | rw [if_neg (by decide)]
 refine wpAny_bind (wpAny_typeOf_ref ho ?_)
 dsimp only
 rw [args_contains]
 exact wpAny_pure h
theorem call_contains {q S:Addr} {ys:List Str} {x:Str} {t:Tok} {Q:VP} (hq:s.heap.get? q=some (bfm "set.__contains__" S)) (hS:SetIs w s.heap S ys)
 (h:Q (.bool (ys.contains x)) { s with toks:=s.toks+1 }):wpAny (model prog w) A (call (.ref q) [.str x t]) Q E s:=by
 refine exE3 hS.objOf fun es ep tb ho=>?_
 obtain ⟨c,hc,hS'⟩:=hS
 refine wpAny_call (codeAny_of_tree ?_)
 show wpAny _ _ (callAny (.ref q) _) _ _ _
 unfold callAny
 refine wpAny_bind (wpAny_load hq ?_)
 dsimp only
 first | with_reducible refine iP (by decide) ?_ | rw [if_pos (by decide)]
 show wpAny _ _ (if (Value.type "builtin_function_or_method" != Value.type "method")=true then _ else _) _ _ _
 first | with_reducible refine iP (by decide) ?_ | rw [if_pos (by decide)]
 refine wpAny_bind (check_contains ho ?_)
 refine wpAny_pure ⟨plainId_quiet PySem.F.slot_set_contains.plain _,codeAny_builtin entry_set_contains ?_⟩
 rw [Around.under_plainId PySem.F.slot_set_contains.plain _]
 unfold Builtin.«frozenset.__contains__» Builtin.Frozenset.oneOther
 simp only [List.isEmpty_nil,bind_assoc]
 unfold Builtin.Frozenset.addrOf Builtin.Frozenset.withSetAsKey setContains
 refine wpAny_bind (wpAny_pure ?_)
 dsimp only
 refine wpAny_bind (wpAny_pure ?_)
 dsimp only
 refine wpAny_bind (wpAny_tryCatch ?_)
 refine wpAny_holding (wpAny_bind ((PySem.strKind prog w).pyHash (k:=x) (strKind_is _ _ _ _) ?_))
 refine wpAny_bind (wpAny_setFind_of (knd:=PySem.strKind prog w) (s:={ s with toks:=s.toks+1 }) (strKind_is _ _ _ _) rfl hS' fun r hr=>?_)
 refine wpAny_pure ?_
 show wpAny _ _ (ret (Value.bool r.isSome)) _ _ _
 rw [hr]
 exact wpAny_pure h
noncomputable abbrev filtObj (q it:Addr):Obj:=⟨.type "filter",none,.fields #[.ref q,.ref it],#[]⟩
noncomputable def inS (ys:List Str):Value→Bool
 | .str x _=>ys.contains x
 | _=>false
structure FiltSt (w:World) (fa q it u S:Addr) (vs:List Value) (ys:List Str) (i:Nat) (h:Heap):Prop where
 f:h.get? fa=some (filtObj q it)
 q:h.get? q=some (bfm "set.__contains__" S)
 s:SetIs w h S ys
 it:h.IsListIter it u i
 u:h.IsList u vs.toArray
 le:i≤vs.length
structure FiltNe (fa q it u S:Addr):Prop where
 f:fa≠it
 q:q≠it
 u:u≠it
 s:S≠it
structure Chg (it:Addr) (s s':Shared):Prop where
 heap:∀ b o,b≠it→s.heap.get? b=some o→s'.heap.get? b=some o
 os:s'.os=s.os
 gens:s'.gens=s.gens
 drawn:s'.drawn=s.drawn
 toks:s.toks≤s'.toks
theorem Chg.trans {it:Addr} {s s' s'':Shared} (x:Chg it s s') (y:Chg it s' s''):Chg it s s'' :=
 ⟨fun b o h e=>y.heap b o h (x.heap b o h e),y.os.trans x.os,y.gens.trans x.gens,y.drawn.trans x.drawn,Nat.le_trans x.toks y.toks⟩
theorem FiltSt.chg {fa q it u S:Addr} {vs:List Value} {ys:List Str} {i j:Nat} {s s':Shared} (x:FiltSt w fa q it u S vs ys i s.heap) (n:FiltNe fa q it u S) (y:Chg it s s') (hi:s'.heap.IsListIter it u j) (hj:j≤vs.length):FiltSt w fa q it u S vs ys j s'.heap :=
 ⟨y.heap _ _ n.f x.f,y.heap _ _ n.q x.q,x.s.keep fun o e=>y.heap _ _ n.s e,hi,let ⟨o,e,r⟩:=x.u;⟨o,y.heap _ _ n.u e,r⟩,hj⟩
theorem slot_filter_next:Slot "filter" "__next__" "filter.__next__" :=
 .of (owner:="filter") (n:="__next__") (by rw [typeLookup_type,builtinLookup_eq_fast];kernel_rfl) (by decide +kernel) (by decide +kernel) (by decide +kernel) (by first | exact .inl (by decide +kernel) | exact .inr (by decide +kernel)) (by rw [isSubtype_type];kernel_rfl)
theorem entry_filter_next:entryFor table "filter.__next__"=some Builtin.«filter.__next__»:=entryFor_of_fast (by kernel_rfl)
theorem args_filter_next (a:Value):argsOk "filter.__next__" ⟨[a],[]⟩:=by unfold argsOk;kernel_rfl
theorem special_list_item {it l:Addr} {i:Nat} {items:Array Value} {x:Value} {Q:Option Value→Shared→Prop} (hit:s.heap.IsListIter it l i) (hl:s.heap.IsList l items) (hx:items[i]? = some x)
 (hQ:∀ h',h'.IsListIter it l (i+1)→Heap.SameBut it s.heap h'→Q (some x) { s with heap:=h' }):wpAny (model prog w) A (callSpecial? (.ref it) "__next__") Q E s:=by
 refine exE1 (id hit) fun o hh=>anE3 hh fun ho hc hd=>?_;clear hh
 obtain ⟨ol,hol,_,nl,hdl⟩:=hl
 refine wpAny_callSpecial?_slot (name:=Str.ofString "__next__") hit.typeIs slot_listiter_next (wpAny_call_entry slot_listiter_next hit.typeIs entry_listiter_next ?_ (args_listiter_next _))
 show wpAny _ _ (field (.ref it) 0 >>= _) _ _ s
 refine wpAny_bind (wpAny_field ho hd (x:=.ref l) rfl ?_)
 show wpAny _ _ (if (Value.ref l == Value.none)=true then _ else _) _ _ s
 rw [if_neg (show ¬ ((Value.ref l == Value.none)=true) from Bool.false_ne_true)]
 show wpAny _ _ (field (.ref it) 1 >>= _) _ _ s
 refine wpAny_bind (wpAny_field ho hd (x:=.int i 0) rfl ?_)
 show wpAny _ _ (seqItems? (.ref l) >>= _) _ _ s
 refine wpAny_bind (wpAny_seqItems hol hdl ?_)
 simp only [Int.toNat_natCast,hx]
 refine wpAny_bind (wpAny_setField ho hd (by simp) (wpAny_pure ⟨x,rfl,hQ _ ?_ (Heap.SameBut.update ..)⟩))
 exact ⟨_,Heap.get?_update_self _ ho (Obj.isFreed_of_fields (Obj.data_mapFields hd _)),(Obj.cls_mapFields ..).trans hc,by
  rw [Obj.data_mapFields hd];simp [rawInt]⟩
theorem special_list_end {it l:Addr} {i:Nat} {items:Array Value} {Q:Option Value→Shared→Prop} (hh:A.handled=none) (hit:s.heap.IsListIter it l i) (hl:s.heap.IsList l items) (hx:items[i]? = none)
 (hE:∀ h' e,Heap.ExtBut it s.heap h'→(∃ o,h'.get? e=some o∧o.cls=.type "StopIteration")→E (.ref e) { s with heap:=h' }):wpAny (model prog w) A (callSpecial? (.ref it) "__next__") Q E s:=by
 refine exE1 (id hit) fun o hh=>anE3 hh fun ho hc hd=>?_;clear hh
 obtain ⟨ol,hol,_,nl,hdl⟩:=hl
 refine wpAny_callSpecial?_slot (name:=Str.ofString "__next__") hit.typeIs slot_listiter_next (wpAny_call_entry slot_listiter_next hit.typeIs entry_listiter_next ?_ (args_listiter_next _))
 show wpAny _ _ (field (.ref it) 0 >>= _) _ _ s
 refine wpAny_bind (wpAny_field ho hd (x:=.ref l) rfl ?_)
 show wpAny _ _ (if (Value.ref l == Value.none)=true then _ else _) _ _ s
 rw [if_neg (show ¬ ((Value.ref l == Value.none)=true) from Bool.false_ne_true)]
 show wpAny _ _ (field (.ref it) 1 >>= _) _ _ s
 refine wpAny_bind (wpAny_field ho hd (x:=.int i 0) rfl ?_)
 show wpAny _ _ (seqItems? (.ref l) >>= _) _ _ s
 refine wpAny_bind (wpAny_seqItems hol hdl ?_)
 simp only [Int.toNat_natCast,hx]
 refine wpAny_bind (wpAny_rule (wpAny_bind (wpAny_setField ho hd (by simp) ?_)))
 show wpAny _ _ (newExc (.type "StopIteration") [] >>= _) _ _ _
 refine wpAny_bind ?_
 simp only [newExc,newTuple]
 refine wpAny_bind (wpAny_newObj_type ?_ (by size_fits))
 refine wpAny_bind (m:=firstArgMember _ _) (wpAny_of_eq (a:=Value.none) (by first | rfl | (simp only [firstArgMember];rfl)) ?_)
 refine wpAny_newObj_type ?_ (by size_fits)
 simp only [raiseNew]
 refine wpAny_bind (wpAny_handled ?_)
 rw [show A.in1.handled=none from hh]
 refine wpAny_bind (wpAny_pure (wpAny_throw ?_))
 exact hE _ _ (((Heap.SameBut.update ..).extBut.push _).push _) ⟨_,Heap.get?_push_size _ rfl,rfl⟩
theorem filter_next {R:Result→Shared→Prop} (hh:A.handled=none) {fa q it u S:Addr} {vs:List Value} {ys:List Str} (hv:∀ v∈vs,∃ x t,v=.str x t) (n:FiltNe fa q it u S):∀ (k i:Nat) (s:Shared),vs.length - i=k→FiltSt w fa q it u S vs ys i s.heap →
 (∀ j v s',i≤j→vs[j]? = some v→(vs.drop i).filter (inS ys)=v :: (vs.drop (j+1)).filter (inS ys)→FiltSt w fa q it u S vs ys (j+1) s'.heap→Chg it s s'→R (.ok (.ret v)) s') →
 (∀ e s',(vs.drop i).filter (inS ys)=[]→Chg it s s'→(∃ o,s'.heap.get? e=some o∧o.cls=.type "StopIteration")→R (.error (.ref e)) s') →
 wpAny (model prog w) A.in1 (Builtin.«filter.__next__» ⟨[.ref fa],[]⟩)
  (fun fin s'=>match fin with | .done f=>R (.ok f) s' | .again c'=>c'.quiet=true∧codeAny (model prog w) A c' R s') (fun e s'=>R (.error e) s') s:=by
 intro k
 induction k with
 | zero =>
   intro i s hk x hR hE
   show wpAny _ _ (field (.ref fa) 0 >>= _) _ _ s
   refine wpAny_bind (wpAny_field x.f rfl (x:=.ref q) rfl ?_)
   show wpAny _ _ (field (.ref fa) 1 >>= _) _ _ s
   refine wpAny_bind (wpAny_field x.f rfl (x:=.ref it) rfl ?_)
   refine wpAny_bind (special_list_end hh x.it x.u ?_ fun h' e hx ho=>?_)
   · simp;omega
   · refine hE e _ ?_ ⟨fun b o hb e=>hx b o hb e,rfl,rfl,rfl,Nat.le_refl _⟩ ho
     rw [List.drop_of_length_le (by omega)]
     rfl
 | succ k ih =>
   intro i s hk x hR hE
   have hlt:i < vs.length:=by omega
   have hd:vs.drop i=vs[i] :: vs.drop (i+1):=List.drop_eq_getElem_cons hlt
   show wpAny _ _ (field (.ref fa) 0 >>= _) _ _ s
   refine wpAny_bind (wpAny_field x.f rfl (x:=.ref q) rfl ?_)
   show wpAny _ _ (field (.ref fa) 1 >>= _) _ _ s
   refine wpAny_bind (wpAny_field x.f rfl (x:=.ref it) rfl ?_)
   refine wpAny_bind (special_list_item x.it x.u (x:=vs[i]) (by simp [hlt]) fun h' hit hs=>?_)
   have c1:Chg it s { s with heap:=h' }:=⟨fun b o hb e=>(hs.2 b hb).trans e,rfl,rfl,rfl,Nat.le_refl _⟩
   have x1:=x.chg n c1 hit hlt
   obtain ⟨y,t,hy⟩:=hv vs[i] (List.getElem_mem hlt)
   rw [hy]
   dsimp only
   refine wpAny_bind (wpAny_holding ?_)
   rw [if_neg (show ¬ ((Value.ref q == Value.none || Value.ref q == Value.type "bool")=true) from Bool.false_ne_true)]
   refine wpAny_bind (call_contains (s:={ s with heap:=h' }) x1.q x1.s ?_)
   refine wpAny_holding (wpAny_truthy_bool ?_)
   have c2:Chg it s { s with heap:=h',toks:=s.toks+1 }:=⟨c1.heap,rfl,rfl,rfl,Nat.le_succ _⟩
   have hin:inS ys vs[i]=ys.contains y:=by rw [hy];rfl
   cases hc:ys.contains y with
   | true =>
     rw [if_pos rfl]
     refine wpAny_pure (hR i _ _ (Nat.le_refl _) (by rw [← hy];simp [hlt]) ?_ (x.chg n c2 hit hlt) c2)
     rw [hd,List.filter_cons,hin,hc,if_pos rfl,hy]
   | false =>
     rw [if_neg Bool.false_ne_true]
     have hf:(vs.drop i).filter (inS ys)=(vs.drop (i+1)).filter (inS ys):=by rw [hd,List.filter_cons,hin,hc,if_neg Bool.false_ne_true]
     refine wpAny_pure ⟨plainId_quiet slot_filter_next.plain _,codeAny_builtin entry_filter_next ?_⟩
     rw [Around.under_plainId slot_filter_next.plain _]
     refine ih (i+1) _ (by omega) (x.chg n c2 hit hlt) (fun j v s' hj e1 e2 x' c'=>?_) fun e s' e1 c' ho=>?_
     · exact hR j v s' (by omega) e1 (hf.trans e2) x' (c2.trans c')
     · exact hE e s' (hf.trans e1) (c2.trans c') ho
end
end
section
structure NoLen (T:String):Prop where
 list:(Value.type T == Value.type "list")=false
 tup:(Value.type T == Value.type "tuple")=false
 len:typeLookup (.type T) "__len__"=pure none
 hint:typeLookup (.type T) "__length_hint__"=pure none
theorem noLen_filter:NoLen "filter":=⟨by decide,by decide,by rw [typeLookup_type,builtinLookup_eq_fast];kernel_rfl,by rw [typeLookup_type,builtinLookup_eq_fast];kernel_rfl⟩
theorem noLen_gen:NoLen "generator":=⟨by decide,by decide,F.gen_no_len,F.gen_no_hint⟩
section
variable {w:World} {A:Around} {s:Shared} {I:Addr} {fp wr:List Addr} {G:Array GenState→Array GenState→Prop} {n:Nat} {P:Nat→Value→Prop} {St:Nat→Shared→Prop}
theorem oth_upd {h:Heap} {S:Addr} {f g:Obj→Obj}:∀ b o,b≠S→h.get? b=some o→((h.update S f).update S g).get? b=some o :=
 fun b o hb e=>(Heap.get?_update_other _ _ (Ne.symm hb)).trans ((Heap.get?_update_other _ _ (Ne.symm hb)).trans e)
theorem extend_iter {T:String} {R:Result→Shared→Prop} (W:WalksS prog w A.in1 I fp wr G n P St) (nl:NoLen T) (hT:∀ i s,St i s→s.TypeIs (.ref I) T) (S:Addr) (res:Value) (c₀:Nat) (hst:St 0 s) (hSf:S∉fp) (hI:I∈fp)
 (hS:s.heap.get? S=some { cls:=.type "list",data:=.seq #[] c₀ })
 (hR:∀ s' acc' c',Moved (S :: wr) G s s'→s'.heap.get? S=some { cls:=.type "list",dict:=none,data:=.seq acc' c',slots:=#[] }→ItemsOf P acc' n→R (.ok (.ret res)) s') (hn:n≤sizeLine) :
 wpAny (model prog w) A.in1 (Builtin.List.listExtendWith (.ref S) (.ref I) res)
  (fun fin s'=>match fin with | .done f=>R (.ok f) s' | .again c'=>c'.quiet=true∧codeAny (model prog w) A c' R s') (fun e s'=>R (.error e) s') s:=by
 unfold Builtin.List.listExtendWith
 refine wpAny_bind (wpAny_typeOf (hT 0 _ hst) ?_)
 have same:Builtin.List.listSameRef (.ref S) (.ref I)=false:=by
  have:S≠I:=fun e=>hSf (e▸hI)
  simp [Builtin.List.listSameRef,this]
 simp only [same,nl.list,nl.tup,Bool.or_false,Bool.false_eq_true,if_false]
 refine wpAny_bind (W.self 0 _ _ _ hst (wpAny_bind (wpAny_holding ?_)))
 unfold Builtin.List.listLengthHint
 refine wpAny_bind (wpAny_specialOf (hT 0 _ hst) nl.len ?_)
 refine wpAny_bind (m:=specialOf (Value.ref I) (Str.ofString "__length_hint__")) (wpAny_specialOf (hT 0 _ hst) nl.hint (wpAny_pure ?_))
 refine wpAny_bind (m:=rule "list.extend.makes-room") (wpAny_rule ?_)
 refine wpAny_bind (m:=Builtin.List.listTouch (.ref S)) ?_
 show wpAny _ A.in1 (updateSeq S (·.push .none) >>= fun _=>updateSeq S (·.pop)) _ _ _
 refine wpAny_bind (wpAny_updateSeq hS rfl ?_)
 have e1:=Heap.get?_update_self (Obj.mapSeq (·.push Value.none)) hS rfl
 refine wpAny_updateSeq (hz:=by seq_fits) e1 rfl ?_
 have e2:=Heap.get?_update_self (Obj.mapSeq (·.pop)) e1 rfl
 refine wpAny_pure ⟨plainId_quiet F.plain_extend_loop _,codeAny_extend_loopS W hn _ hSf _ n 0 _ _ _ rfl (Nat.zero_le _)
  (W.frame 0 s _ s.toks hst (Nat.le_refl _) fun b hb o e=>oth_upd b o (fun h=>hSf (h▸hb)) e) e2 (ItemsOf.nil P) fun s' acc' c' hm h1 h2=>?_⟩
 exact hR s' acc' c' (Moved.trans W.gtrans ((Moved.refl W.grefl).then_heap (Nat.le_refl _) fun b o hb e=>oth_upd b o (fun h=>hb (h▸List.mem_cons_self)) e) hm) h1 h2
theorem list_iter {T:String} {E:VP} {Q:VP} (W:WalksS prog w A.in1.in1 I fp wr G n P St) (nl:NoLen T) (hT:∀ i s,St i s→s.TypeIs (.ref I) T) (hst:St 0 s) (hfp:∀ b∈fp,b < s.heap.objs.size) (hI:I∈fp)
 (hQ:∀ s' acc' c',Moved (s.heap.objs.size :: wr) G { s with heap:=s.heap.push { cls:=.type "list",data:=.seq #[] } } s' →
   s'.heap.get? s.heap.objs.size=some { cls:=.type "list",dict:=none,data:=.seq acc' c',slots:=#[] }→ItemsOf P acc' n→Q (.ref s.heap.objs.size) s') (hn:n≤sizeLine) :
 wpAny (model prog w) A (call (.type "list") [.ref I]) Q E s:=by
 have hSf:s.heap.objs.size∉fp:=fun hm=>Nat.lt_irrefl _ (hfp _ hm)
 refine callType_codes (Q₁:=fun obj s₁=>obj=.ref s.heap.objs.size∧s₁={ s with heap:=s.heap.push { cls:=.type "list",data:=.seq #[] } }) F.called_list (F.typeCall_list_1 _) F.entry_list_init
  (code_list_new _ ⟨rfl,rfl⟩) fun obj s₁ h₁=>?_
 obtain ⟨rfl,rfl⟩:=h₁
 have hS:(s.heap.push { cls:=.type "list",data:=.seq #[] }).get? s.heap.objs.size=some { cls:=.type "list",data:=.seq #[] }:=Heap.get?_push_size _ rfl
 refine ⟨⟨_,hS,rfl⟩,F.args_list_init_2 _ _,?_⟩
 show wpAny _ A.in1.in1 (do let old ← Builtin.List.listItems (.ref s.heap.objs.size);Builtin.List.listUpdate (.ref s.heap.objs.size) (fun _=>#[]);letGo old.toList.reverse;Builtin.List.listExtendWith (.ref s.heap.objs.size) (.ref I) .none) _ _ _
 unfold Builtin.List.listItems
 refine wpAny_bind (wpAny_bind (wpAny_seqItems hS rfl (wpAny_pure ?_)))
 refine wpAny_bind (m:=updateSeq s.heap.objs.size (fun _=>#[])) (wpAny_updateSeq hS rfl ?_)
 have e1:=Heap.get?_update_self (Obj.mapSeq (fun _=>(#[]:Array Value))) hS rfl
 have oth:∀ b o,b≠s.heap.objs.size→(s.heap.push { cls:=.type "list",data:=.seq #[] }).get? b=some o→((s.heap.push { cls:=.type "list",data:=.seq #[] }).update s.heap.objs.size (Obj.mapSeq (fun _=>(#[]:Array Value)))).get? b=some o :=
  fun b o hb e=>(Heap.get?_update_other _ _ (Ne.symm hb)).trans e
 refine wpAny_bind (wpAny_letGo ?_)
 refine extend_iter W nl hT _ .none _ (W.frame 0 s _ s.toks hst (Nat.le_refl _) fun b hb o e=>oth b o (fun h=>hSf (h▸hb)) (Heap.get?_push_of_some _ e)) hSf hI e1 (fun s' acc' c' hm h1 h2=>?_) hn
 exact ⟨rfl,hQ s' acc' c' (Moved.trans W.gtrans ((Moved.refl W.grefl).then_heap (Nat.le_refl _) fun b o hb e=>oth b o (fun h=>hb (h▸List.mem_cons_self)) e) hm) h1 h2⟩
theorem slot_filter_iter:Slot "filter" "__iter__" "filter.__iter__" :=
 .of (owner:="filter") (n:="__iter__") (by rw [typeLookup_type,builtinLookup_eq_fast];kernel_rfl) (by decide +kernel) (by decide +kernel) (by decide +kernel) (by first | exact .inl (by decide +kernel) | exact .inr (by decide +kernel)) (by rw [isSubtype_type];kernel_rfl)
theorem entry_filter_iter:entryFor table "filter.__iter__"=some Builtin.«dict_keyiterator.__iter__» :=
 entryFor_alias (id':="dict_keyiterator.__iter__") (by kernel_rfl) (by first | rfl | decide +kernel | (unfold String.splitOn;simp +decide [String.splitOnAux])) (by decide +kernel) (by kernel_rfl)
theorem args_filter_iter (a:Value):argsOk "filter.__iter__" ⟨[a],[]⟩:=by unfold argsOk;kernel_rfl
theorem filter_iter {fa:Addr} {E:VP} {Q:VP} (hT:s.TypeIs (.ref fa) "filter") (hQ:Q (.ref fa) s):wpAny (model prog w) A (pyIter (.ref fa)) Q E s:=by
 refine wpAny_pyIter_slot hT slot_filter_iter (wpAny_call_entry slot_filter_iter hT entry_filter_iter ?_ (args_filter_iter _))
 show wpAny _ _ (ret (.ref fa)) _ _ s
 exact wpAny_pure ⟨_,rfl,"filter",_,hT,slot_filter_next.lookup,hQ⟩
theorem call_filter_next {fa:Addr} {E:VP} {Q:VP} (hT:s.TypeIs (.ref fa) "filter")
 (h:wpAny (model prog w) A.in1 (Builtin.«filter.__next__» ⟨[.ref fa],[]⟩)
   (fun fin s'=>match fin with | .done f=>wants Q E (.ok f) s' | .again c'=>c'.quiet=true∧codeAny (model prog w) A c' (wants Q E) s') (fun e s'=>wants Q E (.error e) s') s) :
 wpAny (model prog w) A (call (.builtin "filter.__next__") [.ref fa]) Q E s:=by
 refine wpAny_call (codeAny_mono (codeAny_call_builtin slot_filter_next.plain entry_filter_next (slot_filter_next.check _ _ _ _ _ _ _ _ hT (args_filter_next _) h)) fun r s' hr=>?_)
 cases r with
 | error e=>exact hr
 | ok f=>cases f <;> exact hr
noncomputable def FP (vs:List Value) (ys:List Str) (k:Nat) (v:Value):Prop:=(vs.filter (inS ys))[k]? = some v
noncomputable def FSt (w:World) (fa q it u S:Addr) (vs:List Value) (ys:List Str) (k:Nat) (s:Shared):Prop :=
 ∃ i,((vs.take i).filter (inS ys)).length=k∧FiltSt w fa q it u S vs ys i s.heap
theorem filter_at (vs:List Value) (ys:List Str) (i:Nat):vs.filter (inS ys)=(vs.take i).filter (inS ys) ++ (vs.drop i).filter (inS ys):=by
 rw [← List.filter_append,List.take_append_drop]
theorem filter_walk (hh:A.handled=none) {fa q it u S:Addr} {vs:List Value} {ys:List Str} (hv:∀ v∈vs,∃ x t,v=.str x t) (n:FiltNe fa q it u S) :
 WalksS prog w A fa [fa,q,it,u,S] [it] (fun a b=>b=a) (vs.filter (inS ys)).length (FP vs ys) (FSt w fa q it u S vs ys) where
 sub:=fun b hb=>by simp at hb;simp [hb]
 grefl:=fun _=>rfl
 gtrans:=fun _ _ _ h1 h2=>h2.trans h1
 frame:=fun k s h' tk ⟨i,e,x⟩ _ hk=>⟨i,e,hk _ (by simp) _ x.f,hk _ (by simp) _ x.q,x.s.keep fun o e=>hk _ (by simp) _ e,
  let ⟨o,e,r⟩:=x.it;⟨o,hk _ (by simp) _ e,r⟩,let ⟨o,e,r⟩:=x.u;⟨o,hk _ (by simp) _ e,r⟩,x.le⟩
 item:=fun k s Q E hk st hQ=>by
  obtain ⟨i,e,x⟩:=st
  have hT:s.TypeIs (.ref fa) "filter":=⟨_,x.f,rfl⟩
  unfold pyNext
  refine wpAny_bind (wpAny_attempt (wpAny_callSpecial?_slot (name:=Str.ofString "__next__") hT slot_filter_next (call_filter_next hT ?_)))
  refine filter_next (A:=A) hh hv n _ i s rfl x (fun j v s' hj e1 e2 x' c=>?_) fun ee s' e1 c ho=>?_
  · refine wpAny_pure (hQ v s' ?_ ⟨j+1,?_,x'⟩ ⟨fun b o hb e=>c.heap b o (by simpa using hb) e,c.gens,c.drawn,c.os,c.toks⟩)
    · show (vs.filter (inS ys))[k]? = some v
      rw [filter_at vs ys i,e2,← e]
      simp
    · have h1:=filter_at vs ys i
      have h2:=filter_at vs ys (j+1)
      rw [e2] at h1
      have h3:=congrArg List.length (h1.symm.trans h2)
      simp only [List.length_append,List.length_cons] at h3
      omega
  · exfalso
    have h1:=filter_at vs ys i
    rw [e1,List.append_nil] at h1
    rw [h1] at hk
    omega
 done:=fun s Q E st hQ=>by
  obtain ⟨i,e,x⟩:=st
  have hT:s.TypeIs (.ref fa) "filter":=⟨_,x.f,rfl⟩
  unfold pyNext
  refine wpAny_bind (wpAny_attempt (wpAny_callSpecial?_slot (name:=Str.ofString "__next__") hT slot_filter_next (call_filter_next hT ?_)))
  refine filter_next (A:=A) hh hv n _ i s rfl x (fun j v s' hj e1 e2 x' c=>?_) fun ee s' e1 c ho=>?_
  · exfalso
    have h1:=congrArg List.length (filter_at vs ys i)
    rw [e2] at h1
    simp only [List.length_append,List.length_cons] at h1
    omega
  · obtain ⟨o,ho,hc⟩:=ho
    refine wpAny_bind (wpAny_isInstance (T:="StopIteration") (b:=true) ⟨o,ho,hc⟩ isSubtype_stop ?_)
    exact wpAny_pure (hQ s' ⟨fun b o hb e=>c.heap b o (by simpa using hb) e,c.gens,c.drawn,c.os,c.toks⟩)
 self:=fun k s Q E st hQ=>by
  obtain ⟨i,e,x⟩:=st
  exact filter_iter ⟨_,x.f,rfl⟩ hQ
end
end
section
section
variable {M:Model} {A:Around} {R:GenEnd} {Y:Protocol} {n:Nat} {s₀:Shared} {c:Code} {fs:List Frame} {s:Shared} {env:Env}
 {K:Flow→Sem Fin} {H:Value→Sem Fin} {gd:Bool→Bool} {lv:List Value→List Value}
theorem seg_If {test:Expr} {body orelse:List Stmt} {pos:Pos}
 (h:wpAny M (A.over c fs) (isTrue test env (eval test env)) (fun b s'=>if b=true then Seg M A R Y n s₀ c ((execs body env).wrap K H gd lv) fs s' else Seg M A R Y n s₀ c ((execs orelse env).wrap K H gd lv) fs s') (fun x s'=>Seg M A R Y n s₀ c (H x) fs s') s) :
 Seg M A R Y n s₀ c ((exec (.If test body orelse pos) env).wrap K H gd lv) fs s:=by
 rw [exec_If]
 refine seg_bind_wrap (wpAny_standAt ?_)
 refine seg_bind_wrap (wpAny_mono h (fun b s' hb=>?_) fun _ _ e=>e)
 cases b <;> simpa using hb
noncomputable abbrev backK (K:Flow→Sem Fin) (H:Value→Sem Fin) (gd:Bool→Bool) (lv:List Value→List Value) (env:Env):Result→Sem Fin:=fun r=>((match r with | .ok f=>(.pure f:Sem Flow) | .error e=>.raise e).onRaise fun (x:Value)=>do
 if (← field x 1) == Value.none then unsupported "frame.own-activation:exception-without-traceback"
 setFlight x env.frame).wrap K H gd lv
theorem seg_For {target iter:Expr} {body orelse:List Stmt} {pos:Pos}
 (h:wpAny M (A.over c fs) (eval iter env) (fun x s₁=>wpAny M (A.over c fs) (pyIter x) (fun it s₂=>∀ p,Seg M A R Y n s₀ (.forLoop target it body orelse env) (M.den (.forLoop target it body orelse env)) (.ret (backK K H gd lv env) none (gd false) (lv []) c p [] :: fs) s₂)
   (fun x s'=>Seg M A R Y n s₀ c (H x) fs s') s₁) (fun x s'=>Seg M A R Y n s₀ c (H x) fs s') s) (hs:∀ x,foldedSetIterable iter env x=pure x:=by intro _;rfl) :
 Seg M A R Y n s₀ c ((exec (.For target iter body orelse pos) env).wrap K H gd lv) fs s:=by
 rw [exec_For]
 refine seg_bind_wrap (wpAny_standAt ?_)
 refine seg_bind_wrap (wpAny_mono h (fun x s₁ h₁=>?_) fun _ _ e=>e)
 refine seg_bind_wrap (wpAny_of_eq (hs x) ?_)
 refine seg_bind_wrap (wpAny_standAt ?_)
 refine seg_bind_wrap (wpAny_holding (wpAny_mono h₁ (fun it s₂ h₂=>?_) fun _ _ e=>e))
 exact seg_call h₂
end
section
variable {prog:Program} {w:World} {A:Around} {R:GenEnd} {Y:Protocol} {n:Nat} {s₀:Shared} {fs:List Frame} {s:Shared} {env:Env}
theorem seg_forLoop {x:Str} {px:Pos} {it:Value} {body:List Stmt}
 (h:wpAny (model prog w) (A.over (.forLoop (.Name x px) it body [] env) fs) (pyNext it) (fun r s₁=>match r with
   | none=>Seg (model prog w) A R Y n s₀ (.block [] env) (leafOf (.ok .next)) fs s₁
   | some v=>wpAny (model prog w) (A.over (.forLoop (.Name x px) it body [] env) fs) (assign (.Name x px) env v) (fun _ s₂=>∀ H:Value→Sem Fin,
      Seg (model prog w) A R Y n s₀ (.forLoop (.Name x px) it body [] env) ((execs body env).wrap (fun f=>match f with
       | .next | .cont=>.pure (.again (.forLoop (.Name x px) it body [] env))
       | .brk=>.pure (.done .next)
       | .ret v=>.pure (.done (.ret v))) H id id) fs s₂) (fun _ _=>False) s₁) (fun _ _=>False) s) :
 Seg (model prog w) A R Y n s₀ (.forLoop (.Name x px) it body [] env) ((model prog w).den (.forLoop (.Name x px) it body [] env)) fs s:=by
 show Seg _ A R Y n s₀ _ ((forTurn (.Name x px) it body [] env).onRaise (fun x=>do noteFrame x env;theTreesLotGoes x)) fs s
 unfold forTurn
 rw [Sem.onRaise_eq_wrap]
 refine seg_bind_wrap (wpAny_standAt ?_)
 refine seg_bind_wrap (wpAny_onRaise (wpAny_mono h (fun r s₁ h₁=>?_) fun _ _ e=>e.elim))
 cases r with
 | none =>
   refine seg_again rfl ?_
   exact h₁
 | some v =>
   refine seg_bind_wrap (wpAny_of_eq (rfl:letOwnedTupleGo (.Name x px) it v=pure ()) ?_)
   refine seg_bind_wrap (wpAny_mono h₁ (fun _ s₂ h₂=>?_) fun _ _ e=>e.elim)
   rw [Sem.bind_eq_wrap',Sem.wrap_wrap]
   rw [Sem.wrap_congr (execs body env) _ _ (K':=fun f=>match f with
        | .next | .cont=>.pure (.again (.forLoop (.Name x px) it body [] env))
        | .brk=>.pure (.done .next)
        | .ret v=>.pure (.done (.ret v)))
       (fun f=>by cases f <;> rfl) (fun _=>rfl)]
   exact h₂ _
end
noncomputable def KeepC (C:Addr) (m:Str→Option Value) (s s':Shared):Prop:=∃ h' tk,s'={ s with heap:=h',toks:=tk }∧h'.Ns C m∧∀ b o,b≠C→s.heap.get? b=some o→h'.get? b=some o
structure QuietR (prog:Program) (w:World) (env:Env) (test elt:Expr) (x:Str) (vs:Array Value) (pz:Nat→Bool) (F:Nat→Value→Prop) (Pre:(Str→Option Value)→Heap→Prop):Prop where
 test:∀ (A':Around) i v (s₂:Shared) m₂,A'.handled=none→vs[i]? = some v→s₂.heap.Ns env.locals m₂→m₂ x=some v→Pre m₂ s₂.heap →
  wpAny (model prog w) A' (isTrue test env (eval test env)) (fun ok s₃=>ok=pz i∧KeepC env.locals m₂ s₂ s₃) (fun _ _=>False) s₂
 elt:∀ (A':Around) i v (s₂:Shared) m₂,A'.handled=none→vs[i]? = some v→pz i=true→s₂.heap.Ns env.locals m₂→m₂ x=some v→Pre m₂ s₂.heap →
  wpAny (model prog w) A' (eval elt env) (fun y s₃=>F i y∧KeepC env.locals m₂ s₂ s₃) (fun _ _=>False) s₂
noncomputable def SinceN (N C:Addr) (s₀ s:Shared):Prop:=∃ h' tk,s={ s₀ with heap:=h',toks:=tk }∧∀ b o,b < N→b≠C→s₀.heap.get? b=some o→h'.get? b=some o
theorem SinceN.refl (N C:Addr) (s:Shared):SinceN N C s s:=⟨s.heap,s.toks,rfl,fun _ _ _ _ e=>e⟩
theorem SinceN.step {N C:Addr} {s₀ s:Shared} (x:SinceN N C s₀ s) {h':Heap} {tk:Nat} (hk:∀ b o,b < N→b≠C→s.heap.get? b=some o→h'.get? b=some o):SinceN N C s₀ { s with heap:=h',toks:=tk }:=by
 refine exE2 x fun h₁ tk₁ hh=>anE2 hh fun z2 hk₁=>?_;clear hh;try clear x;rcases z2 with rfl
 exact exI2 h' tk (anI2 rfl (fun b o hb hC e=>hk b o hb hC (hk₁ b o hb hC e)))
noncomputable def rProto (N C l:Addr) (pz:Nat→Bool) (n₀:Nat) (F:Nat→Value→Prop):Protocol:=fun m s₀ v s kap =>
 (∃ i,(passing pz n₀ 0)[(passing pz n₀ 0).length - 1 - m]? = some i∧F i v)∧SinceN N C s₀ s ∧
   ∀ s'':Shared,(∀ b o,b=C∨N≤b∨b=l→s.heap.get? b=some o→s''.heap.get? b=some o)→kap (.send .none) s''
noncomputable abbrev rEnd (N C:Addr):GenEnd:=fun n s₀ r s₁=>r=.ok (.ret .none)∧(n=0∧SinceN N C s₀ s₁)
section
variable {prog:Program} {w:World} {A:Around} {env:Env}
theorem seg_rLoop {test elt:Expr} {x:Str} {px ypos epos ipos:Pos} {I l N:Addr} {vs:Array Value} {pz:Nat→Bool} {F:Nat→Value→Prop} {Pre:(Str→Option Value)→Heap→Prop} {fs:List Frame}
 (hh:A.handled=none) (hfh:(A.over (.forLoop (.Name x px) (.ref I) [.If test [.Expr (.Yield (some elt) ypos) epos] [] ipos] [] env) fs).handled=none)
 (q:QuietR prog w env test elt x vs pz F Pre)
 (hPre:∀ m m' h h',Pre m h→(∀ y,y≠x→m' y=m y)→(∀ b o,N≤b→b≠I→h.get? b=some o→h'.get? b=some o)→Pre m' h')
 (hx:env.kindOf x=some .local) (hp:(env.scope.kind == .class || (env.scope.kind == .module && env.locals != env.globals))=false)
 (hco:env.scope.isCoroutine=false) (hi:interactive env=false) (hIC:I≠env.locals) (hIl:I≠l) (hlC:l≠env.locals) (hNI:N≤I) (hCN:env.locals < N)
 (hfs:splitAtGen fs=none) (hfg:fs.any Frame.guarded=false)
 (hend:∀ s₀ s,SinceN N env.locals s₀ s→Seg (model prog w) A (rEnd N env.locals) (rProto N env.locals l pz vs.size F) 0 s₀ (.block [] env) (leafOf (.ok .next)) fs s) :
 ∀ (k i:Nat) (s₀ s:Shared) (m:Str→Option Value),vs.size - i=k→i≤vs.size→s.heap.IsListIter I l i→s.heap.IsList l vs→s.heap.Ns env.locals m→Pre m s.heap→SinceN N env.locals s₀ s →
   Seg (model prog w) A (rEnd N env.locals) (rProto N env.locals l pz vs.size F) (passing pz vs.size i).length s₀ (.forLoop (.Name x px) (.ref I) [.If test [.Expr (.Yield (some elt) ypos) epos] [] ipos] [] env)
    ((model prog w).den (.forLoop (.Name x px) (.ref I) [.If test [.Expr (.Yield (some elt) ypos) epos] [] ipos] [] env)) fs s:=by
 have W:=Walks.list (prog:=prog) (w:=w) hfh I l (Ne.symm hIl) vs
 have below:∀ {b:Addr},b < N→b≠I:=fun hb e=>Nat.lt_irrefl _ (Nat.lt_of_lt_of_le (e▸hb) hNI)
 intro k
 induction k with
 | zero =>
   intro i s₀ s m hk hi' hit hl hn hpre hs
   have hin:i=vs.size:=by omega
   subst hin
   refine seg_forLoop (W.done s _ _ ⟨hit,hl⟩ fun h' tk hk'=>?_)
   have:=hend s₀ { s with heap:=h',toks:=tk } (hs.step fun b o hb hC e=>hk' b o (by simpa using below hb) e)
   rw [passing_end]
   exact this
 | succ k ih =>
   intro i s₀ s m hk hi' hit hl hn hpre hs
   have hlt:i < vs.size:=by omega
   refine seg_forLoop (W.item i s _ _ hlt ⟨hit,hl⟩ fun v h₁ tk₁ hPv hst₁ hk₁=>?_)
   have k₁:∀ b o,b≠I→s.heap.get? b=some o→h₁.get? b=some o:=fun b o hb e=>hk₁ b o (by simpa using hb) e
   refine wpAny_assign_Name (wpAny_storeName_local hx (hn.at' fun o e=>k₁ _ o (Ne.symm hIC) e) (fun h₂ hn₂ hs₂=>?_) hp)
   intro H
   have k₂:∀ b o,b≠I→b≠env.locals→s.heap.get? b=some o→h₂.get? b=some o:=fun b o hb hC e=>hs₂.extBut b o hC (k₁ b o hb e)
   have hit₂:h₂.IsListIter I l (i+1):=hst₁.1.at fun o e=>hs₂.extBut _ o hIC e
   have hl₂:h₂.IsList l vs:=hst₁.2.at fun o e=>hs₂.extBut _ o hlC e
   have hpre₂:Pre (fun y=>if y=x then some v else m y) h₂:=hPre _ _ _ _ hpre (fun y hy=>if_neg hy) fun b o hb hbI e=>k₂ b o hbI (fun e'=>Nat.lt_irrefl _ (Nat.lt_of_lt_of_le (e'▸hCN) hb)) e
   have hs₂':SinceN N env.locals s₀ { s with heap:=h₂,toks:=tk₁+1 }:=hs.step fun b o hb hC e=>k₂ b o (below hb) hC e
   refine seg_execs_cons (seg_If (wpAny_mono (q.test _ i v _ _ hfh hPv hn₂ (by simp) hpre₂) (fun ok s₃ h₃=>?_) fun _ _ e=>e.elim))
   obtain ⟨rfl,h₃,tk₃,rfl,hn₃,hk₃⟩:=h₃
   have hit₃:h₃.IsListIter I l (i+1):=hit₂.at fun o e=>hk₃ _ o hIC e
   have hl₃:h₃.IsList l vs:=hl₂.at fun o e=>hk₃ _ o hlC e
   have hpre₃:Pre (fun y=>if y=x then some v else m y) h₃:=hPre _ _ _ _ hpre₂ (fun _ _=>rfl) fun b o hb _ e=>hk₃ b o (fun e'=>Nat.lt_irrefl _ (Nat.lt_of_lt_of_le (e'▸hCN) hb)) e
   have hs₃:SinceN N env.locals s₀ { s with heap:=h₃,toks:=tk₃ }:=hs₂'.step fun b o hb hC e=>hk₃ b o hC e
   cases hpz:pz i with
   | false =>
     rw [passing_false hlt hpz,if_neg Bool.false_ne_true]
     exact seg_again rfl (ih (i+1) s₀ _ _ (by omega) hlt hit₃ hl₃ hn₃ hpre₃ hs₃)
   | true =>
     rw [passing_true hlt hpz,List.length_cons,if_pos rfl]
     refine seg_execs_cons (seg_Expr_Yield hfs rfl hfg (wpAny_mono (q.elt _ i v _ _ hfh hPv hpz hn₃ (by simp) hpre₃) (fun y s₄ h₄=>?_) fun _ _ e=>e.elim) hco hi)
     intro kap hkap
     obtain ⟨hF,h₄,tk₄,rfl,hn₄,hk₄⟩:=h₄
     refine ⟨⟨i,passing_here hlt hpz,hF⟩,hs₃.step fun b o hb hC e=>hk₄ b o hC e,fun s'' hal=>hkap .none s'' ?_⟩
     have hit₄:s''.heap.IsListIter I l (i+1):=hit₃.at fun o e=>hal _ o (.inr (.inl hNI)) (hk₄ _ o hIC e)
     have hl₄:s''.heap.IsList l vs:=hl₃.at fun o e=>hal _ o (.inr (.inr rfl)) (hk₄ _ o hlC e)
     have hpre₄:Pre (fun y=>if y=x then some v else m y) s''.heap:=hPre _ _ _ _ hpre₃ (fun _ _=>rfl) fun b o hb _ e=>hal b o (.inr (.inl hb)) (hk₄ b o (fun e'=>Nat.lt_irrefl _ (Nat.lt_of_lt_of_le (e'▸hCN) hb)) e)
     exact seg_again rfl (ih (i+1) s'' s'' _ (by omega) hlt hit₄ hl₄ (hn₄.at' fun o e=>hal _ o (.inl rfl) e) hpre₄ (SinceN.refl _ _ _))
end
end
section
noncomputable abbrev heap0:Heap:=⟨#[],{}⟩
theorem snap0 {s:Shared} {L:Addr} {m:Str→Option Value} (hn:s.heap.Ns L m) (led:List (Addr×Obj)) (hled:∀ p∈led,s.heap.get? p.1=some p.2∧p.1≠L) :
 ∃ R,Fr heap0 L s.heap m∧News heap0 L s.heap (led ++ R)∧(∀ b o,s.heap.get? b=some o→b≠L→(b,o)∈led ++ R)∧∀ q∈led,∀ p∈R,@Ne Nat p.1 q.1:=by
 have none0:∀ b,heap0.get? b=none:=fun b=>Heap.get?_none_of_le (Nat.zero_le b)
 let R:List (Addr×Obj):=(List.range s.heap.objs.size).filterMap fun a=>if a=L∨a∈led.map (·.1) then none else (s.heap.get? a).map fun o=>(a,o)
 have hR:∀ p,p∈R ↔ s.heap.get? p.1=some p.2∧p.1≠L∧p.1∉led.map (·.1):=by
  intro p
  simp only [R,List.mem_filterMap,List.mem_range]
  constructor
  · rintro ⟨a,ha,e⟩
    split at e
    · cases e
    · rename_i hna
      obtain ⟨o,ho,rfl⟩:=Option.map_eq_some_iff.mp e
      simp only [not_or] at hna
      exact ⟨ho,hna⟩
  · rintro ⟨e,h1,h2⟩
    refine ⟨p.1,Heap.lt_size e,?_⟩
    rw [if_neg (by simp only [not_or];exact ⟨h1,h2⟩),e]
    rfl
 refine exI1 R (anI4 ⟨hn,fun b o e=>(by rw [none0] at e;cases e),Nat.zero_le _⟩ (fun p hp=>?_) (fun b o e hb=>?_) (fun q hq p hp=>?_))
 · rcases List.mem_append.mp hp with hp | hp
   · exact ⟨(hled p hp).1,(hled p hp).2,none0 _⟩
   · exact ⟨((hR p).mp hp).1,((hR p).mp hp).2.1,none0 _⟩
 · by_cases h:b∈led.map (·.1)
   · obtain ⟨p,hp,rfl⟩:=List.mem_map.mp h
     have:=(hled p hp).1
     rw [e] at this
     cases this
     exact List.mem_append.mpr (.inl hp)
   · exact List.mem_append.mpr (.inr ((hR (b,o)).mpr ⟨e,hb,h⟩))
 · exact fun e=>((hR p).mp hp).2.2 (e▸List.mem_map_of_mem hq)
theorem keepC_of {s:Shared} {C:Addr} {m':Str→Option Value} {l news:List (Addr×Obj)} {g h':Heap} {tk:Nat} (F:Fr g C h' m') (N:News g C h' news) (hc:∀ b o,s.heap.get? b=some o→b≠C→(b,o)∈l) (hs:∀ p∈l,p∈news):KeepC C m' s { s with heap:=h',toks:=tk } :=
 ⟨h',tk,rfl,F.ns,fun b o hb e=>(N _ (hs _ (hc b o e hb))).1⟩
theorem Snap.keepC {w:World} {g:Heap} {L:Addr} {s:Shared} {led R news:List (Addr×Obj)} {m:Str→Option Value} {h':Heap} {tk:Nat} (B:Snap w g L s led R) (F:Fr g L h' m) (N:News g L h' news) (hR:∀ p∈R,p∈news)
 (hT:∀ p∈led,p∈news):KeepC L m s { s with heap:=h',toks:=tk }:=by
 refine exI2 h' tk (anI3 rfl F.ns (fun b o hb e=>?_))
 rcases B.cover b o e with h | h | h | h
 · exact absurd h hb
 · exact F.keep _ _ h
 · obtain ⟨p,hp,rfl⟩:=List.mem_map.mp h
   have e':=B.ats p hp
   rw [e] at e'
   cases e'
   exact (N p (hT p hp)).1
 · exact (N _ (hR _ h)).1
noncomputable abbrev tupO (xs:Array Value) (n:Nat):Obj:=⟨.type "tuple",none,.seq xs n,#[]⟩
noncomputable def rPre (p:Addr) (tag:Str) (m:Str→Option Value) (h:Heap):Prop:=m "prefixes"=some (.ref p)∧∃ t1 t2 n,h.get? p=some (tupO #[.str "  " t1,.str tag t2] n)
noncomputable def pass (tag x:Str):Bool:=[Str.ofString "  ",tag].any fun y=>y == Txt.slice x none (some 2)
noncomputable abbrev rEnv (scope:Scope) (C:Addr) (f:Addr) (cd:Value):Env:=envOf "restore" scope C f cd
noncomputable abbrev rScope:Scope:={ kind:=.function,names:=[("delta",.local),("which",.local),("tag",.local),("prefixes",.local),("line",.local),("int",.globalImplicit),("KeyError",.globalImplicit),("ValueError",.globalImplicit)],isGenerator:=true,isCoroutine:=false }
section
theorem restore_quiet {prog:Program} {w:World} {C f p:Addr} {cd:Value} {p1 p2 p3 p4 p5 p6 p7 p8 p9 q1:Pos} {vs:Array Value} {xs:List Str} {tag:Str} (hC:C≠p) (hs:StrsAre vs.toList xs) (hlen:∀ x∈xs,x.length≤sizeLine) :
 QuietR prog w (rEnv rScope C f cd) (.Compare (.Subscript (.Name "line" p1) (.Slice none (some (.Constant (.int 2) 0 p2)) none p3) p4) [.In] [.Name "prefixes" p5] p6) (.Subscript (.Name "line" p7) (.Slice (some (.Constant (.int 2) 0 p8)) none none p9) q1) "line" vs
  (fun i=>pass tag (xs.getD i Str.empty)) (fun i v=>∃ t,v=.str (Txt.slice (xs.getD i Str.empty) (some 2) none) t) (rPre p tag) where
 test:=fun A' i v s₂ m₂ hA hv hn nm1 hpre=>by
  obtain ⟨nm2,t1,t2,n,hp⟩:=hpre
  have hv':vs.toList[i]? = some v:=by simpa using hv
  refine exE2 (StrsAre.item hs i v hv') fun x t hh=>anE2 hh fun z2 ex=>?_;clear hh;rcases z2 with rfl
  have hlx:=hlen x (List.mem_of_getElem? ex)
  refine exE1 (snap0 hn [(p,tupO #[.str "  " t1,.str tag t2] n)] (by simpa using ⟨hp,Ne.symm hC⟩)) fun R hh=>anE4 hh fun F N hc hsep=>?_;clear hh
  have rp:∀ q∈R,@Ne Nat q.1 p:=hsep _ (.head _)
  rw [List.singleton_append] at N hc
  have F':Fr heap0 C s₂.heap m₂:=F
  clear F
  have N':News heap0 C s₂.heap _:=N
  clear N
  have X:Frag.In [] heap0:=fun a o e=>by cases e
  have ex':xs.getD i Str.empty=x:=by rw [List.getD_eq_getElem?_getD,ex];rfl
  rw [ex']
  k_unmd
  k_fold
  obtain ⟨HH,hold,held⟩:=holds
  have qA {x1 x2 x3 x4 x5 x6 x7 x8 x9 y1}:=hold 33 (wpAny x1 x2 (subscriptTail x3 (Expr.Slice none x4 none x5) x6 x7) x8 x9 y1)
  k_steps
  repeat' ((first
   | (refine held 33 _ ?_
      rename Fr _ _ _ _=>F
      rename News _ _ _ _=>N
      (refine slice_strN_ns (hsz:=hlx) (s:=⟨_,_,_,_,_⟩) F N ?_)
      intro h' t' tk' F N)) <;> k_steps)
  rename Fr _ _ _ _=>F
  rename News _ _ _ _=>N
  exact keepC_of F N hc fun p hp=>hp
 elt:=fun A' i v s₂ m₂ hA hv hpz hn nm1 hpre=>by
  have hv':vs.toList[i]? = some v:=by simpa using hv
  refine exE2 (StrsAre.item hs i v hv') fun x t hh=>anE2 hh fun z2 ex=>?_;clear hh;rcases z2 with rfl
  have hlx:=hlen x (List.mem_of_getElem? ex)
  refine exE1 (snap0 hn [] (fun _ h=>nN h)) fun R hh=>anE4 hh fun F N hc hsep=>?_;clear hh
  have F':Fr heap0 C s₂.heap m₂:=F
  clear F
  have N':News heap0 C s₂.heap R:=N
  clear N
  have X:Frag.In [] heap0:=fun a o e=>by cases e
  have ex':xs.getD i Str.empty=x:=by rw [List.getD_eq_getElem?_getD,ex];rfl
  rw [ex']
  k_unmd
  k_fold
  obtain ⟨HH,hold,held⟩:=holds
  have qA {x1 x2 x3 x4 x5 x6 x7 x8 x9 y1}:=hold 33 (wpAny x1 x2 (subscriptTail x3 (Expr.Slice x4 none none x5) x6 x7) x8 x9 y1)
  k_steps
  repeat' ((first
   | (refine held 33 _ ?_
      rename Fr _ _ _ _=>F
      rename News _ _ _ _=>N
      (refine slice_strN_sn (hsz:=hlx) (s:=⟨_,_,_,_,_⟩) F N ?_)
      intro h' t' tk' F N)) <;> k_steps)
  rename Fr _ _ _ _=>F
  rename News _ _ _ _=>N
  exact keepC_of F N hc fun p hp=>by simpa using hp
end
end
section
theorem divmod_nat {w:World} {A:Around} {E:VP} {s:Shared} {h₀:Heap} {L:Addr} {m:Str→Option Value} {news:List (Addr×Obj)} {a b:Nat} {ta tb:Tok} {Q:VP} (F:Fr h₀ L s.heap m) (N:News h₀ L s.heap news) (hb:0 < b) (ha:a < 2 ^ 100) (hbs:b < 1000)
 (h:∀ p t1 t2 h' tk,Fr h₀ L h' m→News h₀ L h' ((p,tupO #[.int ((a / b:Nat):Int) t1,.int ((a % b:Nat):Int) t2] 0) :: news)→(∀ q∈news,@LT.lt Nat _ q.1 p)→Q (.ref p) { s with heap:=h',toks:=tk }) :
 wpAny (model prog w) A (call (.builtin "divmod") [.int a ta,.int b tb]) Q E s:=by
 have e1:((a:Nat):Int).fdiv (b:Int)=((a / b:Nat):Int):=by rw [Int.fdiv_eq_ediv_of_nonneg _ (Int.natCast_nonneg _)];rfl
 have e2:((a:Nat):Int).fmod (b:Int)=((a % b:Nat):Int):=by rw [Int.fmod_eq_emod_of_nonneg _ (Int.natCast_nonneg _)];rfl
 refine divmod_N F N (by omega) (fun h' F' N'=>?_) (Or.inl ?_)
 · rw [e1,e2] at N'
   exact h _ _ _ _ _ F' N' fun q hq=>Heap.lt_size (N q hq).1
 · exact PyProof.noPylong_small (by omega)
section
variable {w:World} {A:Around} {E:VP} {s:Shared} {Q:VP}
theorem div_spec (l:Lvl A 800) (I:Inv w s.heap) {a b n:Nat} {ta tb tn:Tok} (hb:0 < b) (ha:a < 2 ^ 100) (hbs:b < 1000)
 (k:∀ p t1 t2 s',Step w [] s s'→At s'.heap p (tupO #[.int (a / b:Nat) t1,.int (a % b:Nat) t2] 0)→s.heap.get? p=none→Q (.ref p) s'):wpAny (model prog w) A (call (.ref 77) [.int a ta,.int b tb,.int n tn]) Q E s:=by
 refine weaken l fun fr gd=>?_
 refine enter (args:=⟨[.int a ta,.int b tb,.int n tn],[]⟩) [] I (fun _ h=>nN h) (by k_is) (by k_is) (by show (800:Nat) < 1000;decide) (BindsTo.of_eq rfl) (locs rfl) ?_ (by decide)
 intro g L h₁ loose mean mg mb B F N X T
 dsimp only
 k_fold
 have O:Oth s s:=Oth.refl
 have hbits:=bits_lt ha
 have hb0:((b:Nat):Int)≠0:=by omega
 obtain ⟨HH,hold,held⟩:=holds
 have qA {x1 x2 x3 x4 x5 x6}:=hold 23 (wpAny x1 x2 (call (Value.builtin "divmod") x3) x4 x5 x6)
 k_steps
 repeat' ((first
  | (refine held 23 _ ?_
     rename Fr _ _ _ _=>F
     rename News _ _ _ _=>N
     (with_reducible refine divmod_nat F N hb ha hbs ?_)
     intro p t1 t2 h' tk F N lp)) <;> k_steps)
 exact k p t1 t2 _ (Base.fin B [] F N O fun _ h=>nN h) (Base.at B N (.head _)) (base_fresh B (N _ (.head _)).2.2 trivial)
end
end
section
structure DivInv (a b n m i rv:Nat) (qs:List Nat):Prop where
 len:qs.length=i
 lt:∀ x∈qs,x < 2 ^ n
 r:rv=a / 2 ^ (n*(m - i)) % b
 q:val n qs.reverse=a / 2 ^ (n*(m - i)) / b
theorem divInv_start {a b n m:Nat} (h:a < 2 ^ (n*m)):DivInv a b n m 0 0 []:=by
 have:a / 2 ^ (n*(m - 0))=0:=Nat.div_eq_of_lt h
 exact ⟨rfl,fun _ h=>nN h,by rw [this];simp,by rw [this];simp [val]⟩
theorem divInv_step {a b n m i rv:Nat} {qs:List Nat} (hb:0 < b) (hbn:b < 2 ^ n) (hi:i < m) (h:DivInv a b n m i rv qs) :
 DivInv a b n m (i+1) ((rv*2 ^ n+a / 2 ^ (n*(m - 1 - i)) % 2 ^ n) % b) (qs ++ [(rv*2 ^ n+a / 2 ^ (n*(m - 1 - i)) % 2 ^ n) / b]):=by
 have hr:rv < b:=by rw [h.r];exact Nat.mod_lt _ hb
 have hd:a / 2 ^ (n*(m - 1 - i)) % 2 ^ n < 2 ^ n:=Nat.mod_lt _ (Nat.two_pow_pos _)
 have e1:m - (i+1)=m - 1 - i:=by omega
 have e2:a / 2 ^ (n*(m - i))=a / 2 ^ (n*(m - 1 - i)) / 2 ^ n:=by
  rw [Nat.div_div_eq_div_mul,← Nat.pow_add]
  congr 2
  have:m - i=(m - 1 - i) + 1:=by omega
  rw [this,Nat.mul_add,Nat.mul_one]
 have h1:=h.r
 have h2:=h.q
 rw [e2] at h1 h2
 generalize hT:a / 2 ^ (n*(m - 1 - i))=T at *
 have e3:T=b*(T / 2 ^ n / b*2 ^ n) + (rv*2 ^ n+T % 2 ^ n):=by
  have h3:=Nat.div_add_mod T (2 ^ n)
  have h4:=Nat.div_add_mod (T / 2 ^ n) b
  rw [← h1] at h4
  rw [← Nat.mul_assoc,← Nat.add_assoc,← Nat.add_mul,h4,Nat.mul_comm]
  exact h3.symm
 have e4:T / b=T / 2 ^ n / b*2 ^ n+(rv*2 ^ n+T % 2 ^ n) / b:=by
  conv=>lhs;rw [e3]
  rw [Nat.mul_add_div hb]
 have e5:T % b=(rv*2 ^ n+T % 2 ^ n) % b:=by
  conv=>lhs;rw [e3]
  rw [Nat.mul_add_mod]
 have hq:(rv*2 ^ n+T % 2 ^ n) / b < 2 ^ n:=by
  rw [Nat.div_lt_iff_lt_mul hb]
  have:(rv+1) * 2 ^ n≤b*2 ^ n:=Nat.mul_le_mul_right _ hr
  rw [Nat.add_mul,Nat.one_mul] at this
  rw [Nat.mul_comm (2 ^ n) b]
  omega
 refine ⟨by rw [List.length_append,h.len];rfl,fun x hx=>?_,?_,?_⟩
 · rcases List.mem_append.mp hx with hx | hx
   · exact h.lt x hx
   · rw [mS hx];exact hq
 · rw [e1,hT,e5]
 · rw [e1,hT,e4,List.reverse_append,List.reverse_singleton,List.singleton_append,val,h2,Nat.mul_comm (2 ^ n),Nat.add_comm]
theorem divInv_end {a b n m rv:Nat} {qs:List Nat} (h:DivInv a b n m m rv qs):rv=a % b∧val n qs.reverse=a / b:=by
 have h1:=h.r
 have h2:=h.q
 rw [Nat.sub_self,Nat.mul_zero,Nat.pow_zero,Nat.div_one] at h1 h2
 exact ⟨h1,h2⟩
end
section
theorem isLx {g h:Heap} {L D:Addr} {news:List (Addr×Obj)} {ds:Array Value} {n:Nat} (N:News g L h news) (hm:(D,listOf ds n)∈news):h.IsList D ds.toList.toArray:=⟨_,(N _ hm).1,rfl,_,rfl⟩
theorem isRx {g h:Heap} {L J D:Addr} {news:List (Addr×Obj)} {i:Int} (N:News g L h news) (hm:(J,revObj D i)∈news):h.IsRevIter J D i:=⟨_,(N _ hm).1,rfl,rfl⟩
theorem Snap.fresh {w:World} {g h':Heap} {L a:Nat} {s₀ s:Shared} {led R news:List (Addr×Obj)} {T₀:List Addr} {o:Obj} (S:Step w T₀ s₀ s) (B:Snap w g L s led R) (N:News g L h' news) (hm:(a,o)∈news) (hT:a∉T₀) (hl:∀ q∈led,@Ne Nat q.1 a) (hR:AllLt a R):s₀.heap.get? a=none:=by
 cases q:s₀.heap.get? a with
 | none=>rfl
 | some o' =>
   exfalso
   rcases B.cover a o' (S.keep _ _ q hT) with h | h | h | h
   · exact (N _ hm).2.1 h
   · have:=(N _ hm).2.2
     dsimp only at this
     rw [h] at this;cases this
   · obtain ⟨p,hp,e⟩:=List.mem_map.mp h
     exact hl p hp e
   · exact allLt_ne hR _ h rfl
theorem kf_ge {w:World} {g:Heap} {L a:Nat} {s:Shared} {led R:List (Addr×Obj)} {o:Obj} (B:Snap w g L s led R) (h:g.get? a=some o) (ha:250≤a):False:=Nat.lt_irrefl _ (Nat.lt_of_lt_of_le (Heap.lt_size h) (Nat.le_trans B.small ha))
theorem step_it {w:World} {s:Shared} {h':Heap} {tk I:Nat} {o:Obj} (In:Inv w s.heap) (h250:250≤I) (ho:s.heap.get? I=some o) (hc:isCode o=false) (hk:∀ b o,b≠I→s.heap.get? b=some o→h'.get? b=some o):Step w [I] s { s with heap:=h',toks:=tk }:=by
 refine ⟨fun b o e hb=>hk b o (fun q=>hb (q▸List.mem_singleton.mpr rfl)) e,rfl,id,In.keeps fun b o' e hb=>hk b o' (fun q=>?_) e⟩
 subst q
 rcases hb with hb | hb
 · exact absurd h250 (Nat.not_le.mpr hb)
 · rw [ho] at e
   rw [Option.some.inj e] at hc
   rw [hb] at hc;cases hc
inductive DpX (s':Shared) (L QD a b n m:Nat) (tb:Tok) (i:Nat):Prop
 | mk (m':Str→Option Value) (tn:Tok) (rv:Nat) (tr:Tok) (qs:List Nat) (ql:List Value) (qn:Nat) (f0:s'.heap.Ns L m') (f1:m' "n"=some (.int n tn)) (f2:m' "b"=some (.int b tb)) (f3:m' "r"=some (.int rv tr)) (f4:m' "q_digits"=some (.ref QD)) (f5:At s'.heap QD (listOf ql.toArray qn)) (f6:IntsAre ql (toI qs)) (f7:DivInv a b n m i rv qs):DpX s' L QD a b n m tb i
structure DpJ (w:World) (s:Shared) (L QD D a b n m:Nat) (tb:Tok) (ds:Array Value) (nD:Nat) (i:Nat) (s':Shared):Prop where
 st:Step w [86,93] s s'
 D:s'.heap.get? D=some (listOf ds nD)
 ex:DpX s' L QD a b n m tb i
section
variable {w:World} {A:Around} {E:VP} {s:Shared} {Q:VP}
theorem divpos (l:Lvl A 600) (I:Inv w s.heap) {a b:Nat} {ta tb:Tok} (hb:0 < b) (hbs:b < 16) (ha:a < 2 ^ (Builtin.Int.intBits (b:Int) * 7))
 (k:∀ p t1 t2 s',Step w [86,93] s s'→At s'.heap p (tupO #[.int (a / b:Nat) t1,.int (a % b:Nat) t2] 0)→s.heap.get? p=none→Q (.ref p) s'):wpAny (model prog w) A (call (.ref 105) [.int a ta,.int b tb]) Q E s:=by
 have hn0:=bits_pos (a:=b) (by omega)
 have hn12:Builtin.Int.intBits (b:Int)≤12:=Nat.le_trans (bits_lt (n:=4) hbs) (by decide)
 have ha7:=ha
 have hbl:=lt_bits b
 refine weaken l fun fr gd=>?_
 refine enterS (args:=⟨[.int a ta,.int b tb],[]⟩) I (by k_is) (by k_is) (by show (600:Nat) < 1000;decide) (BindsTo.of_eq rfl) (locs rfl) ?_ (by decide)
 intro L h₁ S₀ fL hL hnL ltL
 have S:Step w [86,93] s { s with heap:=h₁,toks:=s.toks+2 }:=⟨fun b o e _=>S₀.keep b o e nM,S₀.os,S₀.gens,S₀.inv⟩
 have hTS:∀ a∈[L],a∈[86,93]∨s.heap.get? a=none:=fun a ha=>.inr (by rw [mS ha];exact fL)
 have hL86:L∉[86]:=fun h=>absurd hL (Nat.not_le.mpr (by rw [mS h];decide))
 clear S₀ I
 obtain ⟨g,R,loose,mean,mg,mb,B,F,N,X,T,sep⟩:=(snap (s:={ s with heap:=h₁,toks:=s.toks+2 }) S.inv hnL hL [] (fun _ h=>nN h))
 rw [List.nil_append] at N
 have O:Oth { s with heap:=h₁,toks:=s.toks+2 } { s with heap:=h₁,toks:=s.toks+2 }:=Oth.refl
 (try dsimp only)
 k_unmd
 k_fold
 obtain ⟨HH,hold,held⟩:=holds
 have qC {x1 x2 x3 x4 x5 x6 x7 x8 x9 y1 y2 y3}:=hold 20 (wpAny x1 x2 (exec (Stmt.For (Expr.Name x3 x4) x5 (x6 :: x7) [] x8) x9) y1 y2 y3)
 have qA {x1 x2 x3 x4 x5 x6}:=hold 6 (wpAny x1 x2 (pyIter (Value.ref x3)) x4 x5 x6)
 have qB {x1 x2 x3 x4 x5 x6}:=hold 1 (wpAny x1 x2 (call (Value.ref 91) x3) x4 x5 x6)
 k_steps
 repeat' ((first
  | (refine held 20 _ ?_
     k_dflt (refine wpAny_For ?_ (by intro _;rfl)))
  | (refine held 6 _ ?_
     rename Fr _ _ _ _=>F
     rename News _ _ _ _=>N
     (with_reducible refine' wpAny_pyIter_revIter (isRx (D:=D) (i:=(ds.toList.length:Int) - 1) N ?rx) ?_)
     case rx=>exact .head _)
  | (refine held 1 _ ?_
     rename Fr _ _ _ _=>F
     rename News _ _ _ _=>N
     have hR9:∀ p∈R,p∈R:=fun p hp=>hp
     have hT9:∀ p∈([]:List (Addr×Obj)),(p.1∈([]:List Addr)∧250≤p.1∧isMut p.2=true)∨p∈R:=fun p hp=>absurd hp nM
     have st9:=Snap.now [] S B F N hR9 hT9 hTS
     have lv9:∀ env,Lvl ((AL 600 fr gd).deeper env) 700:=fun env=>lvl_deeper (by decide)
     (with_reducible refine int2d (lv9 _) st9 hn0 hn12 ha7 ?_)
     intro D ds nD s2 y hD fD hI
     have Z:=Snap.re [] S B F N hR9 hT9 hTS y (fun a ha=>.inl (by rw [mS ha];exact .head _)) hL86 [(D,listOf ds nD)] (fun p hp=>.inr (by rw [mS hp];exact ⟨hD,fD⟩))
     clear sep X T B F N hR9 hT9 st9 S O
     obtain ⟨⟨g,R,loose,mean,mg,mb,B,F,N,X,T,sep⟩,S⟩:=Z
     have O:Oth s2 s2:=Oth.refl
     have sD:∀ p∈R,p.1≠D:=sep _ (.head _)
     (rw [List.singleton_append] at N)
     (try dsimp only))) <;> k_steps)
 rename Fr _ _ _ _=>F
 rename News _ _ _ _=>N
 rename_i tk9 hx3 QD hx2 lQD hx1 IT h0 lIT
 have hlen:ds.size=nDigs a (Builtin.Int.intBits (b:Int)):=by
  have:=hI.length
  simpa [toI,digs_len] using this
 have hQ250:250≤QD:=by
  have h9:@LE.le Nat _ 250 D:=hD.2
  have h8:=lQD.1
  exact Nat.le_trans h9 (Nat.le_of_lt h8)
 have nT:∀ x:Nat,250≤x→x∉[86,93]:=fun x hx hm=>by
  rcases mC hm with rfl | hm
  · exact absurd hx (by decide)
  · rw [mS hm] at hx;exact absurd hx (by decide)
 have fQ:s.heap.get? QD=none:=Snap.fresh S B N (.tail _ (.head _)) (nT _ hQ250) (fun q hq=>by rw [mS hq];exact Nat.ne_of_lt lQD.1) lQD.2
 have hIT250:250≤IT:=Nat.le_trans hQ250 (Nat.le_of_lt lIT.1)
 have fIT:s.heap.get? IT=none:=Snap.fresh S B N (.head _) (nT _ hIT250) (fun q hq=>by rw [mS hq];exact Nat.ne_of_lt lIT.2.1) lIT.2.2
 have hLI:L≠IT:=Ne.symm (N _ (.head _)).2.1
 have hLQ:L≠QD:=Ne.symm (N _ (.tail _ (.head _))).2.1
 have hLD:L≠D:=Ne.symm (N _ (.tail _ (.tail _ (.head _)))).2.1
 have hds7:ds.size≤7:=by rw [hlen];exact nDigs_le hn0 ha7
 have hTS3:∀ a∈[L,QD],a∈[86,93]∨s.heap.get? a=none:=fun a ha=>by
  rcases mC ha with rfl | ha
  · exact .inr fL
  · exact .inr (by rw [mS ha];exact fQ)
 have hn4:Builtin.Int.intBits (b:Int)≤4:=bits_lt (n:=4) hbs
 have FN:∀ (hh:Heap) tk,Step w [86,93] s { s2 with heap:=h0,toks:=tk }:=fun _ tk=>Snap.out [] tk S B F N (fun p hp=>by repeat first | exact hp | apply List.Mem.tail) (fun p hp=>.inr (by rw [mS hp];k_mem)) hTS
 have hrx:h0.IsRevIter IT D ((ds.size:Int) - 1 - ((0:Nat):Int)):=by
  have:=isRx N (.head _)
  simpa using this
 refine for_S (Walks.listRev rfl IT D (Nat.ne_of_lt lIT.2.1) ds) (fun v s' Q E h=>wpAny_pure h) (DpJ w s L QD D a b (Builtin.Int.intBits (b:Int)) ds.size tb ds nD) ⟨Nat.zero_le _,hrx,isLx N (.tail _ (.tail _ (.head _)))⟩ ?_ ?_ ?_
 · refine ⟨FN h0 _,(N _ (.tail _ (.tail _ (.head _)))).1,_,_,0,_,[],[],0,F.ns,rfl,rfl,rfl,rfl,⟨(N _ (.tail _ (.head _))).1,hQ250⟩,.nil,?_⟩
   rw [hlen]
   exact divInv_start (figs_nDigs a hn0).1
 · intro i v s3 h' tk hi hP J hSt hSt' hk
   obtain ⟨m',tn,rv,tr,qs,ql,qn,hn,nm1,nm2,nm3,nm4,hQ,hql,inv⟩:=J.ex
   have hv:ds.toList[ds.size - 1 - i]? = some v:=by simpa using hP
   obtain ⟨dv,td,rfl,ed⟩:∃ (dv:Nat) (td:Tok),v=.int dv td∧dv=a / 2 ^ (Builtin.Int.intBits (b:Int) * (ds.size - 1 - i)) % 2 ^ Builtin.Int.intBits (b:Int):=by
    refine exE2 (hI.at _ _ hv) fun nv td hh=>anE2 hh fun z2 e9=>?_;clear hh;rcases z2 with rfl
    have hj:ds.size - 1 - i < nDigs a (Builtin.Int.intBits (b:Int)):=by omega
    rw [toI,List.getElem?_map] at e9
    simp only [digs,List.getElem?_map,List.getElem?_range hj,Option.map_some] at e9
    cases e9
    exact exI2 _ td (anI2 rfl rfl)
   have oIT:∃ o,s3.heap.get? IT=some o∧isCode o=false:=by
    obtain ⟨_,⟨o,ho,_,hd⟩,_⟩:=hSt
    exact ⟨o,ho,by unfold isCode;rw [hd];rfl⟩
   obtain ⟨oI,hoI,hcI⟩:=oIT
   have y3:=step_it (tk:=tk) J.st.inv hIT250 hoI hcI hk
   have S3:Step w [86,93] s { s3 with heap:=h',toks:=tk }:=J.st.trans y3 fun x hx=>.inr (by rw [mS hx];exact fIT)
   have hn3:h'.Ns L m':=hn.at' fun o e=>hk _ o hLI e
   have hQ3:At h' QD (listOf ql.toArray qn):=⟨hk _ _ (Nat.ne_of_lt lIT.1) hQ.1,hQ.2⟩
   clear F N B X T S sep
   obtain ⟨g,R,loose,mean,mg,mb,B,F,N,X,T,sep⟩:=(snap (s:={ s3 with heap:=h',toks:=tk }) S3.inv hn3 hL [(QD,listOf ql.toArray qn)] (fun p hp=>by rw [mS hp];exact ⟨hQ3.1,Ne.symm hLQ,.inl hQ3.2⟩))
   have sQ:∀ p∈R,p.1≠QD:=sep _ (.head _)
   rw [List.singleton_append] at N
   have hR3:∀ p∈R,p∈(QD,listOf ql.toArray qn) :: R:=fun p hp=>.tail _ hp
   have hT3:∀ p∈[(QD,listOf ql.toArray qn)],(p.1∈[QD]∧250≤p.1∧isMut p.2=true)∨p∈(QD,listOf ql.toArray qn) :: R:=fun p hp=>.inr (by rw [mS hp];exact .head _)
   have hrb:rv < b:=by rw [inv.r];exact Nat.mod_lt _ hb
   have hrv12:rv < 2 ^ Builtin.Int.intBits (b:Int):=Nat.lt_trans hrb hbl
   have hn1000:Builtin.Int.intBits (b:Int)≤1000:=by omega
   have hx100:rv*2 ^ Builtin.Int.intBits (b:Int) + dv < 2 ^ 100:=by
    have h9:dv < 2 ^ Builtin.Int.intBits (b:Int):=by rw [ed];exact Nat.mod_lt _ (Nat.two_pow_pos _)
    have h10:2 ^ Builtin.Int.intBits (b:Int)≤2 ^ 4:=Nat.pow_le_pow_right (by decide) hn4
    have h11:rv*2 ^ Builtin.Int.intBits (b:Int)≤16*2 ^ 4:=Nat.mul_le_mul (by omega) h10
    have h12:(2:Nat) ^ 100=1267650600228229401496703205376:=by decide
    omega
   have hb1000:b < 1000:=by omega
   have hqz:ql.length≤sizeLine:=by
    have:=hql.length
    have h9:(toI qs).length=i:=by rw [toI,List.length_map];exact inv.len
    rw [sizeLine_eq];omega
   (try dsimp only)
   k_unmd
   k_fold
   obtain ⟨HH,hold,held⟩:=holds
   have qC {x1 x2 x3 x4 x5 x6 x7 x8 x9}:=hold 24 (wpAny x1 x2 (binaryOp Operator.LShift (Value.int x3 x4) (Value.int x5 x6)) x7 x8 x9)
   have qA {x1 x2 x3 x4 x5 x6 x7}:=hold 3 (wpAny x1 x2 (call (Value.builtin x3) [Value.ref QD,x4]) x5 x6 x7)
   have qB {x1 x2 x3 x4 x5 x6}:=hold 2 (wpAny x1 x2 (call (Value.ref 77) x3) x4 x5 x6)
   k_steps
   repeat' ((first
    | (refine held 24 _ ?_
       (with_reducible refine lsh_nat hrv12 hn1000 hn1000 ?_))
    | (refine held 3 _ ?_
       rename Fr _ _ _ _=>F
       rename News _ _ _ _=>N
       k_dflt (refine' append_K F N ?k3 ?_ ?z;(case k3=>k_upd);(case z=>exact hqz))
       intro h' F N)
    | (refine held 2 _ ?_
       rename Fr _ _ _ _=>F
       rename News _ _ _ _=>N
       have i9:=Snap.now [QD] S3 B F N hR3 hT3 hTS3
       have lv9:∀ env,Lvl ((AL 600 fr gd).deeper env) 800:=fun env=>lvl_deeper (by decide)
       (show wpAny _ _ (call (Value.ref 77) [Value.int ((rv*2 ^ Builtin.Int.intBits (b:Int) + dv:Nat):Int) _,_,_]) _ _ _)
       (with_reducible refine div_spec (lv9 _) i9 hb hx100 hb1000 ?_)
       intro p t1 t2 s4 st4 hp fp
       have np:=allNe_fresh fp N
       have N:=newsF st4 fp hp F (news0 st4 N)
       have F:=fr0 st4 F
       have Y4:=st4
       clear i9 lv9 st4 hp fp
       (try dsimp only))) <;> k_steps)
   rename Fr _ _ _ _=>F
   rename News _ _ _ _=>N
   show TurnOk _ _ _
   have E9:=B.fin (s':=⟨_,s4.gens,s4.drawn,0,s4.os⟩) [QD] F N ⟨Y4.os,Y4.gens⟩ (fun p hp=>by repeat first | exact hp | apply List.Mem.tail) (fun p hp=>.inl (by rw [mS hp];exact ⟨.head _,hQ3.2,rfl⟩))
   have Se:=S3.trans E9 hTS3
   have hIQ:IT∉[L,QD]:=fun hm=>by
    rcases mC hm with h9 | hm
    · exact hLI h9.symm
    · exact absurd (mS hm) (Nat.ne_of_gt lIT.1)
   have hDQ:D∉[L,QD]:=fun hm=>by
    rcases mC hm with h9 | hm
    · exact hLD h9.symm
    · exact absurd (mS hm) (Nat.ne_of_lt lQD.1)
   refine anI4 ⟨Se.toks _,E9.keep _ _ (hk _ _ (Nat.ne_of_lt lIT.2.1) J.D) hDQ,_,tn,(rv*2 ^ Builtin.Int.intBits (b:Int) + dv) % b,t2,qs ++ [(rv*2 ^ Builtin.Int.intBits (b:Int) + dv) / b],ql ++ [.int (((rv*2 ^ Builtin.Int.intBits (b:Int) + dv) / b:Nat):Int) t1],qn+1,F.ns,nm1,nm2,rfl,nm4,⟨?_,hQ3.2⟩,?_,?_⟩ hSt'.1 ?_ ?_
   · have:=(N _ (.tail _ (.head _))).1
     simpa using this
   · rw [toI,List.map_append]
     exact hql.append (.cons _ _ .nil)
   · rw [ed]
     exact divInv_step hb hbl hi inv
   · exact hSt'.2.1.at fun o e=>E9.keep _ _ e hIQ
   · exact hSt'.2.2.at fun o e=>E9.keep _ _ e hDQ
 · intro s3 h' tk J hSt hk
   obtain ⟨m',tn,rv,tr,qs,ql,qn,hn,nm1,nm2,nm3,nm4,hQ,hql,inv⟩:=J.ex
   obtain ⟨er,eq⟩:=divInv_end inv
   have oIT:∃ o,s3.heap.get? IT=some o∧isCode o=false:=by
    obtain ⟨_,⟨o,ho,_,hd⟩,_⟩:=hSt
    exact ⟨o,ho,by unfold isCode;rw [hd];rfl⟩
   obtain ⟨oI,hoI,hcI⟩:=oIT
   have y3:=step_it (tk:=tk) J.st.inv hIT250 hoI hcI hk
   have S3:Step w [86,93] s { s3 with heap:=h',toks:=tk }:=J.st.trans y3 fun x hx=>.inr (by rw [mS hx];exact fIT)
   have hn3:h'.Ns L m':=hn.at' fun o e=>hk _ o hLI e
   have hQ3:At h' QD (listOf ql.toArray qn):=⟨hk _ _ (Nat.ne_of_lt lIT.1) hQ.1,hQ.2⟩
   clear F N B X T S sep
   obtain ⟨g,R,loose,mean,mg,mb,B,F,N,X,T,sep⟩:=(snap (s:={ s3 with heap:=h',toks:=tk }) S3.inv hn3 hL [(QD,listOf ql.toArray qn)] (fun p hp=>by rw [mS hp];exact ⟨hQ3.1,Ne.symm hLQ,.inl hQ3.2⟩))
   have sQ:∀ p∈R,p.1≠QD:=sep _ (.head _)
   rw [List.singleton_append] at N
   have hqz:ql.toArray.toList.length≤sizeLine:=by
    have:=hql.length
    have h9:(toI qs).length=ds.size:=by rw [toI,List.length_map];exact inv.len
    show ql.length≤sizeLine
    rw [sizeLine_eq];omega
   have hq7:qs.reverse.length≤7:=by rw [List.length_reverse,inv.len];exact hds7
   have hqlt:∀ x∈qs.reverse,x < 2 ^ Builtin.Int.intBits (b:Int):=fun x hx=>inv.lt x (List.mem_reverse.mp hx)
   have hQ93:QD∉[93]:=fun h=>absurd hQ250 (Nat.not_le.mpr (by rw [mS h];decide))
   have hL93:L∉[93]:=fun h=>absurd hL (Nat.not_le.mpr (by rw [mS h];decide))
   have hT3:∀ {news:List (Addr×Obj)},∀ p∈[(QD,listOf ql.toArray qn)],(p.1∈[QD]∧250≤p.1∧isMut p.2=true)∨p∈news:=fun p hp=>.inl (by rw [mS hp];exact ⟨.head _,hQ3.2,rfl⟩)
   (try dsimp only)
   obtain ⟨HH,hold,held⟩:=holds
   have qA {x1 x2 x3 x4 x5 x6}:=hold 5 (wpAny x1 x2 (call (Value.builtin x3) [Value.ref QD]) x4 x5 x6)
   have qB {x1 x2 x3 x4 x5 x6}:=hold 4 (wpAny x1 x2 (call (Value.ref 98) x3) x4 x5 x6)
   k_steps
   repeat' ((first
    | (refine held 5 _ ?_
       (try dsimp only)
       rename Fr _ _ _ _=>F
       rename News _ _ _ _=>N
       have q1:ql.toArray.toList.reverse=ql.reverse:=rfl
       k_dflt (refine' kl_reverse (n:=qn) F N q1 ?k3 hqz ?_;(case k3=>k_upd))
       intro h' F N
       have hqr:=hql.reverse)
    | (refine held 4 _ ?_
       rename Fr _ _ _ _=>F
       rename News _ _ _ _=>N
       have hR9:∀ p∈R,p∈(QD,listOf ql.reverse.toArray qn) :: R:=fun p hp=>.tail _ hp
       have i9:=Snap.now [QD] S3 B F N hR9 hT3 hTS3
       have lv9:∀ env,Lvl ((AL 600 fr gd).deeper env) 700:=fun env=>lvl_deeper (by decide)
       have q1:At _ QD (listOf ql.reverse.toArray qn):=⟨(N (QD,listOf ql.reverse.toArray qn) (.head _)).1,hQ3.2⟩
       have q2:IntsAre ql.reverse (toI qs.reverse):=(by rw [toI,List.map_reverse];exact hqr)
       (with_reducible refine dig2i (lv9 _) i9 hn0 hn12 q1 q2 hq7 hqlt ?_)
       intro t5 s5 y5
       have hQ5:=y5.keep _ _ q1.1 hQ93
       have Z:=Snap.re [QD] S3 B F N hR9 hT3 hTS3 y5 (fun a ha=>.inl (by rw [mS ha];exact .tail _ (.head _))) hL93 [] (fun p hp=>absurd hp nM)
       clear sep X T B F N hR9 i9 lv9 S3 q1 q2
       obtain ⟨⟨g,R,loose,mean,mg,mb,B,F,N,X,T,sep⟩,S5⟩:=Z
       (rw [List.nil_append] at N)
       (try dsimp only))) <;> k_steps)
   rename Fr _ _ _ _=>F
   rename News _ _ _ _=>N
   rename (∀ p∈R,p.1 < _)=>lt
   rw [eq,er] at N
   have hQR:=B.cover _ _ hQ5
   have hD250:250≤_:=Nat.le_trans hQ250 (Nat.le_of_lt (lt (QD,listOf ql.reverse.toArray qn) (by
    rcases hQR with h | h | h | h
    · exact absurd h.symm hLQ
    · have:=kf_ge B h hQ250
      exact this.elim
    · cases h
    · exact h)))
   have fD:=Snap.fresh (T₀:=[86,93]) S5 B N (.head _) (nT _ hD250) (fun q hq=>absurd hq nM) (allLt_of lt)
   have So:=Snap.out [] 0 S5 B F N (fun p hp=>.tail _ hp) (fun p hp=>absurd hp nM) hTS
   exact k _ t5 tr _ (So.toks _) ⟨(N _ (.head _)).1,hD250⟩ fD
end
end
section
theorem attr_of {w:World} {A:Around} {E:VP} {s:Shared} {T:String} {a:Addr} {o:Obj} {name:Str} {b:Bool} {ga:Value} {Q:VP} (ho:s.heap.get? a=some o) (hc:o.cls=.type T)
 (h1:typeLookup (.type T) "__getattribute__"=pure (some ga)) (h2:bindSpecial ga (.ref a)=pure (ga,[.ref a])) (h3:onTheHeap ga=false)
 (h:wpAny (model prog w) A (call ga [.ref a,.str name s.toks]) (fun v s'=>wpAny (model prog w) A (handedOut v) Q E s') (fun _ _=>False) { s with toks:=s.toks+1 }) :
 wpAny (model prog w) A (getAttr (.ref a) name b) Q E s:=by
 unfold getAttr
 refine wpAny_bind (wpAny_mkText ?_)
 unfold getAttrBy
 refine wpAny_holding (wpAny_bind (wpAny_typeOf_ref (o:=o) ho ?_))
 rw [hc,h1]
 refine wpAny_bind (wpAny_pure ?_)
 show wpAny _ _ (getAttrByItsOwn _ _ _ _ _ _) _ _ _
 unfold getAttrByItsOwn
 refine wpAny_bind (m:=hookBefore (.type T)) (wpAny_pure ?_)
 refine wpAny_bind (wpAny_attempt ?_)
 refine wpAny_holding ?_
 unfold callGetattribute
 rw [h3,Bool.and_false]
 unfold boundAndCalled
 rw [h2]
 refine wpAny_bind (wpAny_pure ?_)
 exact wpAny_mono h (fun _ _ x=>x) fun _ _ x=>x.elim
section
variable {w:World} {A:Around} {E:VP} {s:Shared}
theorem handed_ref {q:Addr} {Q:VP} (h:Q (.ref q) s):wpAny (model prog w) A (handedOut (.ref q)) Q E s:=wpAny_pure h
end
theorem ty_sc:typeOf (.builtin "set.__contains__")=pure (.type "method_descriptor"):=by show builtinType _=_;rw [builtinType_eq_fast];kernel_rfl
theorem slot_mdget:Slot "method_descriptor" "__get__" "method_descriptor.__get__" :=
 .of (owner:="method_descriptor") (n:="__get__") (by rw [typeLookup_type,builtinLookup_eq_fast];kernel_rfl) (by decide +kernel) (by decide +kernel) (by decide +kernel) (by first | exact .inl (by decide +kernel) | exact .inr (by decide +kernel)) (by rw [isSubtype_type];kernel_rfl)
theorem entry_mdget:entryFor table "method_descriptor.__get__"=some Builtin.«method_descriptor.__get__»:=entryFor_of_fast (by kernel_rfl)
theorem md_set:typeLookup (.type "method_descriptor") "__set__"=pure none:=by rw [typeLookup_type,builtinLookup_eq_fast];kernel_rfl
theorem md_del:typeLookup (.type "method_descriptor") "__delete__"=pure none:=by rw [typeLookup_type,builtinLookup_eq_fast];kernel_rfl
theorem sub_set_set:isSubtype (.type "set") (.type "set")=pure true:=by rw [isSubtype_type];kernel_rfl
theorem found_sc {M:Model} {A:Around} {E:VP} {s:Shared} {a:Addr} {es:Array (Int×Value)} {ep:Nat} {t:SetTable} {Q:Builtin.ObjectAttr.Found→Shared→Prop} (ho:s.heap.get? a=some ⟨.type "set",none,.set es ep t,#[]⟩)
 (h:Q (.bind (.builtin "method_descriptor.__get__") (.builtin "set.__contains__")) s):wpAny M A (Builtin.ObjectAttr.find (.ref a) (.type "set") "__contains__") Q E s:=by
 unfold Builtin.ObjectAttr.find
 refine wpAny_bind (wpAny_of_eq PySem.F.slot_set_contains.lookup ?_)
 refine wpAny_bind (m:=specialOf _ _) (wpAny_bind (wpAny_of_eq ty_sc (wpAny_of_eq slot_mdget.lookup ?_)))
 refine wpAny_bind (m:=Builtin.ObjectAttr.takesStores _ >>= _) (wpAny_bind (wpAny_bind (m:=specialOf _ _) (wpAny_bind (wpAny_of_eq ty_sc (wpAny_of_eq md_set ?_)))))
 rw [if_neg (by decide)]
 refine wpAny_bind (m:=specialOf _ _) (wpAny_bind (wpAny_of_eq ty_sc (wpAny_of_eq md_del (wpAny_pure ?_))))
 rw [if_neg (by decide)]
 refine wpAny_pure ?_
 refine wpAny_bind (m:=Builtin.ObjectAttr.ownDict a >>= _) (wpAny_bind (wpAny_bind (m:=loadHead a) (wpAny_loadPart ho (wpAny_bind (m:=loadPart _ _) (wpAny_loadPart ho (wpAny_pure ?_))))))
 refine wpAny_pure ?_
 refine wpAny_bind (m:=Builtin.ObjectAttr.copiedAttributeGuard _ _) ?_
 unfold Builtin.ObjectAttr.copiedAttributeGuard
 dsimp only
 rw [if_neg (by decide)]
 exact wpAny_pure (wpAny_bind (wpAny_rule (wpAny_pure h)))
theorem get_sc {w:World} {A:Around} {E:VP} {s:Shared} {a:Addr} {es:Array (Int×Value)} {ep:Nat} {t:SetTable} {Q:VP} (ho:s.heap.get? a=some ⟨.type "set",none,.set es ep t,#[]⟩)
 (h:Q (.ref s.heap.objs.size) { s with heap:=s.heap.push (bfm "set.__contains__" a) }):wpAny (model prog w) A (call (.builtin "method_descriptor.__get__") [.builtin "set.__contains__",.ref a,.type "set"]) Q E s:=by
 refine wpAny_call (codeAny_call_builtin slot_mdget.plain entry_mdget (slot_mdget.check _ _ _ _ _ _ _ _ ty_sc (by unfold argsOk;kernel_rfl) ?_))
 unfold Builtin.«method_descriptor.__get__»
 refine wpAny_bind (wpAny_of_eq (a:=(.builtin "set.__contains__",some (.ref a),some (.type "set"))) (by first | rfl | kernel_rfl) ?_)
 dsimp only
 rw [if_neg (by decide +kernel)]
 refine wpAny_bind (m:=_ >>= _) (wpAny_bind (wpAny_of_eq (a:=((Str.ofString "__contains__"),Value.type "set")) (by kernel_rfl) ?_))
 have hT:s.TypeIs (.ref a) "set":=⟨_,ho,rfl⟩
 refine wpAny_bind (wpAny_isInstance hT sub_set_set ?_)
 rw [if_neg (by decide)]
 exact wpAny_pure (wpAny_bind (wpAny_newObj_type (data:=.fields #[.builtin "set.__contains__",.ref a]) (wpAny_pure h)))
section
variable {w:World} {A:Around} {E:VP} {s:Shared}
theorem set_contains {b:Bool} (l:Lvl A 800) (I:Inv w s.heap) {a:Addr} {xs:List Str} {Q:VP} (S:SetIs w s.heap a xs)
 (k:∀ q s',Step w [] s s'→At s'.heap q (bfm "set.__contains__" a)→s.heap.get? q=none→Q (.ref q) s'):wpAny (model prog w) A (getAttr (.ref a) "__contains__" b) Q E s:=by
 refine exE3 S.objOf fun es ep t ho=>?_
 refine attr_of ho rfl (ga:=.builtin "set.__getattribute__") PySem.F.slot_set_getattribute.lookup (PySem.F.slot_set_getattribute.bind _) (by rfl) ?_
 have hT:(Shared.mk s.heap s.gens s.drawn (s.toks+1) s.os).TypeIs (.ref a) "set":=⟨_,ho,rfl⟩
 refine wpAny_call (codeAny_call_builtin PySem.F.slot_set_getattribute.plain PySem.F.entry_set_ga (PySem.F.slot_set_getattribute.check _ _ _ _ _ _ _ _ hT (PySem.F.args_set_getattribute_2 _ _) ?_))
 unfold Builtin.«object.__getattribute__»
 refine wpAny_bind (m:=slotArgs _ _ _) (wpAny_pure ?_)
 refine wpAny_bind (m:=Builtin.ObjectAttr.attrName _) (wpAny_pure ?_)
 refine wpAny_bind (wpAny_typeOf hT ?_)
 refine wpAny_bind (found_sc ho ?_)
 refine wpAny_bind (wpAny_holding (get_sc ho (wpAny_pure (handed_ref ?_))))
 have K:∀ b o,s.heap.get? b=some o→(s.heap.push (bfm "set.__contains__" a)).get? b=some o:=fun b o e=>Heap.get?_push_of_some _ e
 exact k _ _ ⟨fun b o e _=>K b o e,rfl,id,I.keepAll K⟩ ⟨Heap.get?_push_size _ rfl,I.size⟩ (Heap.get?_none_of_le (Nat.le_refl _))
end
theorem slot_filter_init:Slot "filter" "__init__" "object.__init__" :=
 .of (owner:="object") (n:="__init__") (by rw [typeLookup_type,builtinLookup_eq_fast];kernel_rfl) (by decide +kernel) (by decide +kernel) (by decide +kernel) (.inl (by decide +kernel)) (by rw [isSubtype_type];kernel_rfl)
theorem mro_filter:mroOf (.type "filter")=pure [.type "filter",.type "object"]:=by rw [mroOf_type];kernel_rfl
theorem lookup_filter_new:typeLookup (.type "filter") "__new__"=pure (some (.builtin "filter.__new__")):=by rw [typeLookup_type,builtinLookup_eq_fast];kernel_rfl
theorem sub_filter:isSubtype (.type "filter") (.type "filter")=pure true:=by rw [isSubtype_type];kernel_rfl
theorem called_filter:TypeCalled "filter" "filter.__new__" "object.__init__" :=
 ⟨by decide +kernel,by decide +kernel,⟨_,_,mro_filter⟩,madeBy_type mro_filter lookup_filter_new (by decide +kernel),by decide +kernel,sub_filter,slot_filter_init⟩
theorem filter_made (q u:Addr) (ys:Array Value):Meets (Builtin.«filter.__new__» ⟨[.type "filter",.ref q,.ref u],[]⟩) (fun _ R s=>s.heap.IsList u ys ∧
 R (.ok (.ret (.ref (s.heap.push ⟨.type "list_iterator",none,.fields #[.ref u,.int 0 0],#[]⟩).objs.size))) { s with heap:=(s.heap.push ⟨.type "list_iterator",none,.fields #[.ref u,.int 0 0],#[]⟩).push (filtObj q s.heap.objs.size) }):=fun prog w A R s h=>by
 show wpAny _ _ ((isType (.type "filter") >>= _) >>= _) _ _ _
 refine wpAny_bind (wpAny_bind (wpAny_pure ?_))
 rw [if_neg (by decide)]
 refine wpAny_bind (wpAny_of_eq sub_filter ?_)
 rw [if_neg (by decide)]
 refine wpAny_pure ?_
 refine wpAny_bind (m:=Builtin.SmallTypes.refuseKeywords _ _ _) (wpAny_pure ?_)
 refine wpAny_bind (m:=checkCount _ _ _ _) (wpAny_pure ?_)
 refine wpAny_bind (wpAny_pyIter_list h.1 ?_)
 exact wpAny_bind (wpAny_newObj_type (data:=.fields #[.ref q,.ref s.heap.objs.size]) (wpAny_pure h.2))
section
variable {w:World} {A:Around} {E:VP} {s:Shared}
theorem filter_new (l:Lvl A 800) (I:Inv w s.heap) {q u S:Addr} {vs:List Value} {ys:List Str} {n:Nat} {Q:VP} (hq:s.heap.get? q=some (bfm "set.__contains__" S)) (hS:SetIs w s.heap S ys) (hu:s.heap.get? u=some (listOf vs.toArray n))
 (k:∀ fa it s',Step w [] s s'→s.heap.get? fa=none→s.heap.get? it=none→fa < s'.heap.objs.size→it < s'.heap.objs.size→FiltSt w fa q it u S vs ys 0 s'.heap→FiltNe fa q it u S→Q (.ref fa) s') :
 wpAny (model prog w) A (call (.type "filter") [.ref q,.ref u]) Q E s:=by
 refine callType_new called_filter (by decide) (by kernel_rfl) (by kernel_rfl) (fun obj=>F.args_object_init_3 obj _ _) (entryFor_of_fast (by kernel_rfl)) (filter_made q u vs.toArray) ⟨⟨_,hu,rfl,n,rfl⟩,⟨_,Heap.get?_push_size _ rfl,rfl⟩,?_⟩
 refine exE3 hS.objOf fun es ep t ho=>?_
 have K:∀ b o,s.heap.get? b=some o→((s.heap.push ⟨.type "list_iterator",none,.fields #[.ref u,.int 0 0],#[]⟩).push (filtObj q s.heap.objs.size)).get? b=some o:=fun b o e=>Heap.get?_push_of_some _ (Heap.get?_push_of_some _ e)
 have gi:=Heap.get?_push_of_some (filtObj q s.heap.objs.size) (Heap.get?_push_size s.heap (o:=⟨.type "list_iterator",none,.fields #[.ref u,.int 0 0],#[]⟩) rfl)
 have ne:∀ {b:Addr} {o:Obj},s.heap.get? b=some o→b≠s.heap.objs.size:=fun h=>Nat.ne_of_lt (Heap.lt_size h)
 have st:Step w [] s { s with heap:=(s.heap.push ⟨.type "list_iterator",none,.fields #[.ref u,.int 0 0],#[]⟩).push (filtObj q s.heap.objs.size) }:=⟨fun b o e _=>K b o e,rfl,id,I.keepAll K⟩
 have g0:=Heap.get?_push_size (s.heap.push ⟨.type "list_iterator",none,.fields #[.ref u,.int 0 0],#[]⟩) (o:=filtObj q s.heap.objs.size) rfl
 exact k _ _ _ st (Heap.get?_none_of_le (by rw [Heap.size_push];exact Nat.le_succ _)) (Heap.get?_none_of_le (Nat.le_refl _)) (Heap.lt_size g0) (Heap.lt_size gi) ⟨g0,K _ _ hq,hS.step st nM,⟨_,gi,rfl,rfl⟩,⟨_,K _ _ hu,rfl,_,rfl⟩,Nat.zero_le _⟩ ⟨by rw [Heap.size_push];exact Nat.succ_ne_self _,ne hq,ne hu,ne ho⟩
end
section
variable {w:World} {A:Around} {E:VP} {s:Shared}
theorem list_filter (l:Lvl A 800) (I:Inv w s.heap) {fa q it u S:Addr} {vs:List Value} {ys:List Str} (hv:∀ v∈vs,∃ x t,v=.str x t) (hf:FiltSt w fa q it u S vs ys 0 s.heap) (ne:FiltNe fa q it u S) (hn:vs.length≤sizeLine) (hit:250≤it) {Q:VP}
 (k:∀ a s' n,Step w [it] s s'→At s'.heap a (listOf (vs.filter (inS ys)).toArray n)→s.heap.get? a=none→Q (.ref a) s') :
 wpAny (model prog w) A (call (.type "list") [.ref fa]) Q E s:=by
 refine exE3 hf.s.objOf fun es ep t ho=>?_
 obtain ⟨oi,hoi,ri⟩:=hf.it
 obtain ⟨ou,hou,ru⟩:=hf.u
 refine list_iter (filter_walk (A:=A.in1.in1) l.handled hv ne) noLen_filter (fun i s ⟨j,e,x⟩=>⟨_,x.f,rfl⟩) ⟨0,rfl,hf⟩ ?_ (by simp) (fun s' acc' c' M hg hit'=>?_) ?_
 · intro b hb
   simp only [List.mem_cons,nM,or_false] at hb
   rcases hb with rfl | rfl | rfl | rfl | rfl
   · exact Heap.lt_size hf.f
   · exact Heap.lt_size hf.q
   · exact Heap.lt_size hoi
   · exact Heap.lt_size hou
   · exact Heap.lt_size ho
 · have e:acc'=(vs.filter (inS ys)).toArray:=by
    obtain ⟨h1,h2⟩:=hit'
    apply Array.ext_getElem?
    intro i
    by_cases hi:i < acc'.size
    · have:=h2 i acc'[i] (by simp [hi])
      rw [Array.getElem?_eq_getElem hi,List.getElem?_toArray]
      exact this.symm
    · rw [Array.getElem?_eq_none (by omega),List.getElem?_toArray,List.getElem?_eq_none (by omega)]
   subst e
   have above:250≤s.heap.objs.size:=I.size
   have st:Step w [it] s s':=by
    have K:∀ b o,s.heap.get? b=some o→b≠it→s'.heap.get? b=some o:=fun b o e hb =>
     M.heap b o (by simp only [List.mem_cons,nM,or_false,not_or];exact ⟨fun q=>Nat.lt_irrefl b (by have:=Heap.lt_size e;rw [← q] at this;exact this),hb⟩) (Heap.get?_push_of_some _ e)
    refine ⟨fun b o e hb=>K b o e fun q=>hb (by rw [q];exact .head _),M.os,fun g=>by rw [M.gens];exact g,?_⟩
    refine I.keeps fun b o e hb=>K b o e fun q=>?_
    subst q
    rcases hb with hb | hb
    · exact absurd hit (Nat.not_le.mpr hb)
    · obtain rfl:=Option.some.inj (e.symm.trans hoi)
      unfold isCode at hb
      rw [ri.2] at hb
      exact Bool.false_ne_true hb
   refine k _ s' _ st ⟨hg,I.size⟩ ?_
   cases q:s.heap.get? s.heap.objs.size with
   | none=>rfl
   | some o=>exact absurd (Heap.lt_size q) (Nat.lt_irrefl _)
 · exact Nat.le_trans (List.length_filter_le ..) hn
end
end
section
theorem extend_any {prog:Program} {w:World} {A:Around} {E:VP} {s:Shared} {h₀:Heap} {L D b:Addr} {m:Str→Option Value} {news:List (Addr×Obj)} {news':Nat→List (Addr×Obj)} {vs ws:List Value} {n n2:Nat} {Q:VP} (F:Fr h₀ L s.heap m) (N:News h₀ L s.heap news)
 (hb:(b,listOf ws.toArray n2)∈news) (U:∀ n',Upd D (listOf vs.toArray n) (listOf (vs ++ ws).toArray n') news (news' n')) (hz:vs.length+ws.length≤sizeLine)
 (h:∀ n' h',Fr h₀ L h' m→News h₀ L h' (news' n')→Q .none { s with heap:=h' }):wpAny (model prog w) A (call (.builtin "list.extend") [.ref D,.ref b]) Q E s:=by
 refine exE2 (U 0).split fun pre post hh=>anE4 hh fun z2 e0 a c=>?_;clear hh;rcases z2 with rfl
 have un:∀ n',news' n'=pre ++ (D,listOf (vs ++ ws).toArray n') :: post:=fun n'=>by
  refine exE2 (U n').split fun pre' post' hh=>anE4 hh fun e1 e2 a' c'=>?_;clear hh
  have hp:∀ {p p':List (Addr×Obj)} {q q':List (Addr×Obj)} {o:Obj},(∀ x∈p,x.1≠D)→(∀ x∈p',x.1≠D)→p ++ (D,o) :: q=p' ++ (D,o) :: q'→p=p'∧q=q':=by
   intro p
   induction p with
   | nil =>
     intro p' q q' o h1 h2 e
     cases p' with
     | nil=>exact ⟨rfl,(List.cons.inj e).2⟩
     | cons y t=>exact absurd ((List.cons.inj e).1▸rfl) (h2 y (.head _))
   | cons x t ih =>
     intro p' q q' o h1 h2 e
     cases p' with
     | nil=>exact absurd ((List.cons.inj e).1▸rfl) (h1 x (.head _))
     | cons y t' =>
       obtain ⟨r1,r2⟩:=ih (fun z hz=>h1 z (.tail _ hz)) (fun z hz=>h2 z (.tail _ hz)) (List.cons.inj e).2
       exact ⟨by rw [(List.cons.inj e).1,r1],r2⟩
  obtain ⟨rfl,rfl⟩:=hp a a' e1
  exact e2
 have z:=N (D,listOf vs.toArray n) (List.mem_append.mpr (.inr (.head _)))
 have hd:¬(!vs.toArray.isEmpty && Builtin.List.listTooLong (vs.toArray.size+ws.toArray.size))=true:=by
  have:Builtin.List.listTooLong (vs.toArray.size+ws.toArray.size)=false:=by
   unfold Builtin.List.listTooLong
   simp only [List.size_toArray,decide_eq_false_iff_not,Nat.not_lt]
   exact hz
  rw [this,Bool.and_false];exact Bool.false_ne_true
 have e:vs.toArray ++ ws.toArray=(vs ++ ws).toArray:=by simp
 refine call_meets PySem.F.slot_list_extend ⟨_,z.1,rfl⟩ PySem.F.entry_list_extend (PySem.F.args_list_extend_2 _ _) (PySem.AutoSeq1.list_extend_list_list_0 D vs.toArray n b ws.toArray n2 hd (by simp;omega) (by simp;omega)) ⟨z.1,(N _ hb).1,?_⟩
 cases ws with
 | nil =>
   refine h n _ (F.change (Heap.SameBut.update ..) z.2.1 z.2.2) ?_
   rw [un]
   exact kl_turn0 _ N a c e (by simp)
 | cons y t =>
   refine h (n+1) _ (F.change (Heap.SameBut.update ..) z.2.1 z.2.2) ?_
   rw [un]
   exact kl_turn _ N a c e (by simp)
section
variable {w:World} {A:Around} {E:VP} {s:Shared} {Q:VP}
structure EntNew (h₀ h:Heap) (x d u r:Addr) (us rs:List Value) (dl rt:Value):Prop where
 ax:At h x (instObj 59 d)
 ad:∃ (h1 h2 h3 h4:Int) (t1 t2 t3 t4:Tok),At h d (dictOf (ent h1 h2 h3 h4 t1 t2 t3 t4 (.ref u) (.ref r) dl rt) 4)
 au:∃ n,At h u (listOf us.toArray n)
 ar:∃ n,At h r (listOf rs.toArray n)
 fx:h₀.get? x=none
 fd:h₀.get? d=none
 fu:h₀.get? u=none
 fr:h₀.get? r=none
 ndx:@Ne Nat d x
 ndu:@Ne Nat d u
 ndr:@Ne Nat d r
 nxu:@Ne Nat x u
 nxr:@Ne Nat x r
 nur:@Ne Nat u r
theorem EntNew.at {h₀ h:Heap} {x d u r:Addr} {us rs:List Value} {dl rt:Value} (e:EntNew h₀ h x d u r us rs dl rt):EntryAt h x us rs dl rt:=by
 refine exE8 e.ad fun h1 h2 h3 h4 t1 t2 t3 t4 ad=>?_
 obtain ⟨n,au⟩:=e.au
 obtain ⟨k,ar⟩:=e.ar
 exact ⟨d,u,r,h1,h2,h3,h4,t1,t2,t3,t4,4,n,k,e.ax,ad,au,ar⟩
theorem record_new (l:Lvl A 700) (I:Inv w s.heap) {a:Addr} {n:Nat} {vs:List Value} (ha:At s.heap a (listOf vs.toArray n))
 (hz:vs.length≤sizeLine)
 (k:∀ x d u r s',Step w [] s s'→EntNew s.heap s'.heap x d u r vs [] .none .none→Q (.ref x) s'):wpAny (model prog w) A (call (.ref 218) [.ref a]) Q E s:=by
 refine weaken l fun fr gd=>?_
 refine enter (args:=⟨[.ref a],[]⟩) [(a,listOf vs.toArray n)] I ?_ (by k_is) (by k_is) (by show (700:Nat) < 1000;decide) (BindsTo.of_eq rfl) (locs rfl) ?_ (by decide)
 · exact fm1 ⟨ha,rfl⟩ (fun _ h=>nN h)
 intro g L h₁ loose mean mg mb B F N X T
 dsimp only
 k_fold
 have O:Oth s s:=Oth.refl
 obtain ⟨HH,hold,held⟩:=holds
 have qA {x1 x2 x3 x4 x5 x6}:=hold 2 (wpAny x1 x2 (call (Value.builtin "list.extend") [Value.ref x6,Value.ref a]) x3 x4 x5)
 have qB {x1 x2 x3 x4 x5 x6}:=hold 1 (wpAny x1 x2 (call (Value.ref 59) x3) x4 x5 x6)
 k_steps
 repeat' ((first
  | (refine held 2 _ ?_
     rename Fr _ _ _ _=>F
     rename News _ _ _ _=>N
     k_dflt (refine' extend_any (vs:=[]) (ws:=vs) F N (n2:=n) ?k1 ?k2 ?k3 ?_;(case k1=>k_mem);(case k2=>intro n';k_upd);(case k3=>(rw [List.length_nil,Nat.zero_add];exact hz)))
     intro n5 h' F N
     (try dsimp only at N))
  | (refine held 1 _ ?_
     (with_unfolding_all refine entry_new (lvl_deeper (by decide)) (inv_now B (by k_asm)) ?_)
     rename Fr _ _ _ _=>F
     rename News _ _ _ _=>N
     intro x d u r h1 h2 h3 h4 t1 t2 t3 t4 s' st ax ad au ar fx fd fu fr ndx ndu ndr nxu nxr nur
     have nx:=allNe_fresh fx N
     have nd:=allNe_fresh fd N
     have nu:=allNe_fresh fu N
     have nr:=allNe_fresh fr N
     have N:=newsF st fx ax F (newsF st fd ad F (newsF st fu au F (newsF st fr ar F (news0 st N))))
     have F:=fr0 st F
     have O:=Oth.next st O
     clear st ax ad au ar fx fd fu fr)) <;> k_steps)
 rename Fr _ _ _ _=>F
 rename News _ _ _ _=>N
 have qx:=allNe_find nx (show (a,listOf vs.toArray n)∈_ by k_mem)
 have qd:=allNe_find nd (show (a,listOf vs.toArray n)∈_ by k_mem)
 have qu:=allNe_find nu (show (a,listOf vs.toArray n)∈_ by k_mem)
 have qr:=allNe_find nr (show (a,listOf vs.toArray n)∈_ by k_mem)
 refine k x d u r _ (Base.fin B [] F N O ?_) ⟨Base.at B N (p:=(x,_)) (by k_mem),⟨_,_,_,_,_,_,_,_,Base.at B N (p:=(d,_)) (by k_mem)⟩,⟨_,Base.at B N (p:=(u,_)) (by k_mem)⟩,⟨_,Base.at B N (p:=(r,_)) (by k_mem)⟩,
  base_fresh B (N (x,instObj 59 d) (by k_mem)).2.2 ⟨qx,trivial⟩,base_fresh B (N (d,_) (by k_mem)).2.2 ⟨qd,trivial⟩,base_fresh B (N (u,_) (by k_mem)).2.2 ⟨qu,trivial⟩,base_fresh B (N (r,_) (by k_mem)).2.2 ⟨qr,trivial⟩,ndx,ndu,ndr,nxu,nxr,nur⟩
 exact fm1 (.inr (by k_mem)) (fun _ h=>nN h)
theorem record_list (l:Lvl A 700) (I:Inv w s.heap) {a:Addr} {n:Nat} {vs:List Value} (ha:At s.heap a (listOf vs.toArray n))
 (hz:vs.length≤sizeLine)
 (k:∀ x s',Step w [] s s'→EntryAt s'.heap x vs [] .none .none→s.heap.get? x=none→Q (.ref x) s'):wpAny (model prog w) A (call (.ref 218) [.ref a]) Q E s:=by
 with_reducible refine record_new l I ha hz ?_
 intro x d u r s' st e
 exact k x s' st e.at e.fx
end
end
section
noncomputable def ForEnd (g:Heap) (L:Addr) (s₀:Shared) (I:Addr) (o:Obj) (kp:List (Addr×Obj)) (Jn:(Str→Option Value)→List (Addr×Obj)→Prop) (R:Result→Shared→Prop) (f:Flow) (s₃:Shared):Prop :=
 match f with
 | .brk=>R (.ok .next) s₃
 | .ret v=>R (.ok (.ret v)) s₃
 | _=>∃ m' news',Fr g L s₃.heap m'∧News g L s₃.heap ((I,o) :: news')∧AllNe I news'∧(∀ p∈kp,p∈news')∧Oth s₀ s₃∧Jn m' news'
section
variable {w:World} {A:Around} {s s₀:Shared} {R:Result→Shared→Prop} {tgt:Expr} {body:List Stmt} {env:Env} {g:Heap} {L I:Addr} {fp:List Addr} {n:Nat} {P:Nat→Value→Prop} {St:Nat→Heap→Prop} {m:Str→Option Value} {news kp:List (Addr×Obj)}
theorem fr_but {h h':Heap} (F:Fr g L h m) (hIL:I≠L) (hIg:g.get? I=none) (k:∀ b o,b∉[I]→h.get? b=some o→h'.get? b=some o):Fr g L h' m:=by
 refine exE3 F.ns fun o es ep hh=>anE2 hh fun e r=>?_;clear hh
 exact ⟨⟨o,es,ep,k _ _ (by simp [Ne.symm hIL]) e,r⟩,fun b o e=>k b o (by simp;rintro rfl;rw [hIg] at e;cases e) (F.keep b o e),F.above⟩
theorem news_but {h h':Heap} (N:News g L h news) (ne:AllNe I news) (k:∀ b o,b∉[I]→h.get? b=some o→h'.get? b=some o):News g L h' news :=
 fun p hp=>⟨k _ _ (by simp;exact Ne.symm (allNe_mem ne p hp)) (N p hp).1,(N p hp).2⟩
theorem for_K (W:Walks prog w A I fp [I] n P St) (hob:∀ i h,St i h→∃ o,h.get? I=some o) (hlet:∀ v s' (Q:Unit→Shared→Prop) E,Q () s'→wpAny (model prog w) A (letOwnedTupleGo tgt (.ref I) v) Q E s')
 (kp:List (Addr×Obj)) (hfp:∀ b∈fp,b=I∨(∃ q,g.get? b=some q)∨∃ o,(b,o)∈kp) (J:Nat→(Str→Option Value)→List (Addr×Obj)→Prop)
 (hst:St 0 s.heap) (F:Fr g L s.heap m) (N:News g L s.heap news) (hI:AllNe I news) (hIL:I≠L) (hIg:g.get? I=none) (hkp:∀ p∈kp,p∈news) (O:Oth s₀ s) (h0:J 0 m news)
 (turn:∀ i v s m news o,i < n→P i v→Fr g L s.heap m→News g L s.heap ((I,o) :: news)→AllNe I news→(∀ p∈kp,p∈news)→Oth s₀ s→J i m news →
   wpAny (model prog w) A (assign tgt env v) (fun _ s₂=>wpAny (model prog w) A (execs body env) (ForEnd g L s₀ I o kp (J (i+1)) R) (fun _ _=>False) s₂) (fun _ _=>False) s)
 (done:∀ s m news,Fr g L s.heap m→News g L s.heap news→(∀ p∈kp,p∈news)→Oth s₀ s→J n m news→R (.ok .next) s) :
 codeAny (model prog w) A (.forLoop tgt (.ref I) body [] env) R s:=by
 refine codeAny_forLoop_any (fun k s'=>∃ i m' news',i≤n∧k=n+1 - i∧St i s'.heap∧Fr g L s'.heap m'∧News g L s'.heap news'∧AllNe I news'∧(∀ p∈kp,p∈news')∧Oth s₀ s'∧J i m' news') ?_ (n+1)
  ⟨0,m,news,Nat.zero_le _,rfl,hst,F,N,hI,hkp,O,h0⟩
 intro k s' q0
 refine exE3 q0 fun i m' news' hh=>anE9 hh fun hi e9 st F' N' hI' hkp' O' hJ=>?_
 clear hh q0
 subst e9
 by_cases hlt:i < n
 · refine W.item i s' _ _ hlt st fun v h' tk hP st' hk=>?_
   refine hlet v _ _ _ ?_
   obtain ⟨o,ho⟩:=hob _ _ st'
   have F1:Fr g L h' m':=fr_but F' hIL hIg hk
   have N1:News g L h' ((I,o) :: news'):=fun p hp=>by
    rcases mC hp with rfl | hp
    · exact ⟨ho,hIL,hIg⟩
    · exact news_but N' hI' hk p hp
   refine wpAny_mono (turn i v { s' with heap:=h',toks:=tk } m' news' o hlt hP F1 N1 hI' hkp' O' hJ) (fun _ s₂ h₂=>?_) fun _ _ x=>x.elim
   refine wpAny_mono h₂ (fun f s₃ h₃=>?_) fun _ _ x=>x.elim
   have fin:(∃ m' news',Fr g L s₃.heap m'∧News g L s₃.heap ((I,o) :: news')∧AllNe I news'∧(∀ p∈kp,p∈news')∧Oth s₀ s₃∧J (i+1) m' news') →
    ∃ k,k < n+1 - i∧∃ i m' news',i≤n∧k=n+1 - i∧St i s₃.heap∧Fr g L s₃.heap m'∧News g L s₃.heap news'∧AllNe I news'∧(∀ p∈kp,p∈news')∧Oth s₀ s₃∧J i m' news':=by
    intro q1
    refine exE2 q1 fun m3 n3 hh=>anE6 hh fun F3 N3 a3 k3 O3 J3=>?_
    clear hh q1
    refine exI1 (n+1 - (i+1)) (anI2 (by omega) (exI3 (i+1) m3 n3 (anI9 hlt rfl ?_ F3 (fun p hp=>N3 p (.tail _ hp)) a3 k3 O3 J3)))
    refine W.frame _ _ _ st' fun b hb ob e=>?_
    rcases hfp b hb with rfl | ⟨q,hq⟩ | ⟨ob',hm⟩
    · rw [ho] at e
      cases e
      exact (N3 _ (.head _)).1
    · rw [F1.keep _ _ hq] at e
      cases e
      exact F3.keep _ _ hq
    · have:=(N1 _ (.tail _ (hkp' _ hm))).1
      rw [this] at e
      cases e
      exact (N3 _ (.tail _ (k3 _ hm))).1
   cases f with
   | next=>exact fin h₃
   | cont=>exact fin h₃
   | brk=>exact h₃
   | ret v=>exact h₃
 · have:i=n:=by omega
   subst this
   refine W.done s' _ _ st fun h' tk hk=>?_
   exact wpAny_pure (done _ m' news' (fr_but F' hIL hIg hk) (news_but N' hI' hk) hkp' O' hJ)
theorem iter_list_K {l:Addr} {vs:List Value} {nl:Nat} {E:VP} {Q:VP} (F:Fr g L s.heap m) (N:News g L s.heap news) (hl:(l,listOf vs.toArray nl)∈news)
 (k:∀ I h',Fr g L h' m→News g L h' news→AllNe I news→I≠L→g.get? I=none→h'.IsListIter I l 0∧h'.IsList l vs.toArray→Q (.ref I) { s with heap:=h' }):wpAny (model prog w) A (pyIter (.ref l)) Q E s:=by
 have il:s.heap.IsList l vs.toArray:=⟨_,(N _ hl).1,rfl,_,rfl⟩
 refine wpAny_pyIter_list il ?_
 have kp:∀ b o,s.heap.get? b=some o→(s.heap.push { cls:=.type "list_iterator",data:=.fields #[.ref l,.int 0 0] }).get? b=some o:=fun b o e=>Heap.get?_push_of_some _ e
 refine k _ _ (F.keeps kp) (N.grown kp) (allNe_lt fun p hp=>Heap.lt_size (N p hp).1) (fun e=>?_) ?_ ⟨⟨_,Heap.get?_push_size _ rfl,rfl,rfl⟩,il.at fun o e=>kp _ _ e⟩
 · refine exE3 F.ns fun o _ _ hh=>anE2 hh fun e' _=>?_;clear hh
   exact Nat.lt_irrefl _ (e▸Heap.lt_size e')
 · cases q:g.get? s.heap.objs.size with
   | none=>rfl
   | some o=>exact absurd (Heap.lt_size (F.keep _ _ q)) (Nat.lt_irrefl _)
theorem for_list_K {x:Str} {px:Pos} {l:Addr} {vs:List Value} {nl:Nat} (hh:A.handled=none) (hne:l≠I) (kp:List (Addr×Obj)) (J:Nat→(Str→Option Value)→List (Addr×Obj)→Prop)
 (hst:s.heap.IsListIter I l 0∧s.heap.IsList l vs.toArray) (F:Fr g L s.heap m) (N:News g L s.heap news) (hI:AllNe I news) (hIL:I≠L) (hIg:g.get? I=none) (hkp:∀ p∈(l,listOf vs.toArray nl) :: kp,p∈news) (O:Oth s₀ s) (h0:J 0 m news)
 (turn:∀ i v s m news o,vs[i]? = some v→Fr g L s.heap m→News g L s.heap ((I,o) :: news)→AllNe I news→(∀ p∈(l,listOf vs.toArray nl) :: kp,p∈news)→Oth s₀ s→J i m news →
   wpAny (model prog w) A (assign (.Name x px) env v) (fun _ s₂=>wpAny (model prog w) A (execs body env) (ForEnd g L s₀ I o ((l,listOf vs.toArray nl) :: kp) (J (i+1)) R) (fun _ _=>False) s₂) (fun _ _=>False) s)
 (done:∀ s m news,Fr g L s.heap m→News g L s.heap news→(∀ p∈(l,listOf vs.toArray nl) :: kp,p∈news)→Oth s₀ s→J vs.length m news→R (.ok .next) s) :
 codeAny (model prog w) A (.forLoop (.Name x px) (.ref I) body [] env) R s:=by
 refine for_K (Walks.list hh I l hne vs.toArray) (fun i h st=>let ⟨o,e,_⟩:=st.1;⟨o,e⟩) (fun v s' Q E h=>wpAny_pure h) ((l,listOf vs.toArray nl) :: kp) ?_ J hst F N hI hIL hIg hkp O h0 (fun i v s m news o hi hP F N a b O hJ=>turn i v s m news o (by simpa using hP) F N a b O hJ) (by simpa using done)
 intro b hb
 simp only [List.mem_cons,nM,or_false] at hb
 rcases hb with rfl | rfl
 · exact .inl rfl
 · exact .inr (.inr ⟨_,.head _⟩)
end
end
section
noncomputable def letters (x:Str):List Str:=x.cps.toList.map fun c=>⟨#[c]⟩
theorem strs_of {xs:List Str}:∀ {vs:List Value},vs.length=xs.length→(∀ (i:Nat) (v:Value),vs[i]? = some v→∃ x t,xs[i]? = some x∧v=Value.str x t)→StrsAre vs xs:=by
 induction xs with
 | nil=>intro vs h _;cases vs with
   | nil=>exact .nil
   | cons _ _=>simp at h
 | cons x r ih =>
   intro vs h k
   cases vs with
   | nil=>simp at h
   | cons v vs =>
     refine exE2 (k 0 v rfl) fun y t hh=>anE2 hh fun e1 e2=>?_;clear hh
     cases e1
     subst e2
     exact .cons _ _ (ih (by simpa using h) fun i v e=>k (i+1) v (by simpa using e))
theorem strs_letters {x:Str} {acc:Array Value} (h:ItemsOf (SignAt x) acc x.cps.size):StrsAre acc.toList (letters x):=by
 refine strs_of (by simp [letters,h.1]) fun i v e=>?_
 have e':acc[i]? = some v:=by simpa using e
 refine exE2 (h.2 i v e') fun c u hh=>anE2 hh fun h1 z3=>?_;clear hh;rcases z3 with rfl
 refine exI2 _ u (anI2 ?_ rfl)
 have:x.cps.toList[i]? = some c:=by simpa using h1
 rw [letters,List.getElem?_map,this];rfl
section
variable {w:World} {A:Around} {E:VP} {s:Shared} {Q:VP}
theorem get_size {s:Shared}:s.heap.get? s.heap.objs.size=none:=by
 cases q:s.heap.get? s.heap.objs.size with
 | none=>rfl
 | some o=>exact absurd (Heap.lt_size q) (Nat.lt_irrefl _)
theorem list_str (hh:A.handled=none) (I:Inv w s.heap) {x:Str} {t:Tok} (hn:x.cps.size≤sizeLine)
 (k:∀ a vs n s',Step w [] s s'→StrsAre vs (letters x)→At s'.heap a (listOf vs.toArray n)→s.heap.get? a=none→Q (.ref a) s'):wpAny (model prog w) A (call (.type "list") [.str x t]) Q E s:=by
 refine call_list_str hh x t (fun h' tk acc' c' hk hS hi=>?_) hn
 refine k _ acc'.toList c' _ ⟨fun b o e _=>hk b o e,rfl,id,I.keepAll hk⟩ (strs_letters hi) ⟨?_,I.size⟩ get_size
 rw [hS]
theorem extend_letters {g:Heap} {L u:Addr} {m:Str→Option Value} {news:List (Addr×Obj)} {c₀:Nat} {x:Str} {t:Tok} (hh:A.handled=none) (F:Fr g L s.heap m) (N:News g L s.heap ((u,listOf #[] c₀) :: news)) (ne:AllNe u news) (hn:x.cps.size≤sizeLine)
 (k:∀ vs n h' tk,StrsAre vs (letters x)→Fr g L h' m→News g L h' ((u,listOf vs.toArray n) :: news)→Q .none { s with heap:=h',toks:=tk }) :
 wpAny (model prog w) A (call (.builtin "list.extend") [.ref u,.str x t]) Q E s:=by
 have z:=N _ (.head _)
 refine wpAny_call (codeAny_mono (codeAny_call_builtin (R:=wants Q E) PySem.F.slot_list_extend.plain PySem.F.entry_list_extend (PySem.F.slot_list_extend.check _ _ _ _ _ _ _ _ ⟨_,z.1,rfl⟩ (PySem.F.args_list_extend_2 _ _)
  (wpAny_extend_str (A:=A) hh x t u .none c₀ z.1 (fun h' tk acc' c' hk hS hi=>?_) hn))) fun r s' hr=>?_)
 · refine k acc'.toList c' h' tk (strs_letters hi) (fr_but F z.2.1 z.2.2 fun b o hb e=>hk b o (by simpa using hb) e) fun p hp=>?_
   rcases mC hp with rfl | hp
   · exact ⟨by rw [hS],z.2⟩
   · exact ⟨hk _ _ (Ne.symm (allNe_mem ne p hp)) (N p (.tail _ hp)).1,(N p (.tail _ hp)).2⟩
 · cases r with
   | error e=>exact hr
   | ok f=>cases f <;> exact hr
end
theorem news_sub {g h:Heap} {L:Addr} {l l':List (Addr×Obj)} (N:News g L h l) (k:∀ p∈l',p∈l):News g L h l':=fun p hp=>N p (k p hp)
section
variable {w:World} {A:Around} {E:VP} {s:Shared} {Q:VP}
theorem record_str (l:Lvl A 700) (I:Inv w s.heap) {y:Str} {t:Tok} (hn:y.cps.size≤sizeLine)
 (k:∀ x vs s',Step w [] s s'→StrsAre vs (letters y)→EntryAt s'.heap x vs [] .none .none→s.heap.get? x=none→Q (.ref x) s'):wpAny (model prog w) A (call (.ref 218) [.str y t]) Q E s:=by
 refine weaken l fun fr gd=>?_
 refine enter (args:=⟨[.str y t],[]⟩) [] I (fun _ h=>nN h) (by k_is) (by k_is) (by show (700:Nat) < 1000;decide) (BindsTo.of_eq rfl) (locs rfl) ?_ (by decide)
 intro g L h₁ loose mean mg mb B F N X T
 dsimp only
 k_fold
 have O:Oth s s:=Oth.refl
 obtain ⟨HH,hold,held⟩:=holds
 have qA {x1 x2 x3 x4 x5 x6}:=hold 2 (wpAny x1 x2 (call (Value.builtin "list.extend") [Value.ref x6,Value.str y t]) x3 x4 x5)
 have qB {x1 x2 x3 x4 x5 x6}:=hold 1 (wpAny x1 x2 (call (Value.ref 59) x3) x4 x5 x6)
 k_steps
 repeat' ((first
  | (refine held 2 _ ?_
     rename Fr _ _ _ _=>F
     rename News _ _ _ _=>N
     have N:=news_sub (l':=[(u,listOf #[] 0),(x,instObj 59 d),(d,dictOf (ent h1 h2 h3 h4 t1 t2 t3 t4 (.ref u) (.ref r) .none .none) 4),(r,listOf #[] 0)]) N (by
      exact fm4 (by k_mem) (by k_mem) (by k_mem) (by k_mem) (fun _ h=>nN h))
     refine extend_letters rfl F N ⟨Ne.symm nxu,Ne.symm ndu,nur,trivial⟩ hn ?_
     intro vs n5 h' tk hvs F N)
  | (refine held 1 _ ?_
     (with_unfolding_all refine entry_new (lvl_deeper (by decide)) (inv_now B (by k_asm)) ?_)
     rename Fr _ _ _ _=>F
     rename News _ _ _ _=>N
     intro x d u r h1 h2 h3 h4 t1 t2 t3 t4 s' st ax ad au ar fx fd fu fr ndx ndu ndr nxu nxr nur
     have nx:=allNe_fresh fx N
     have nd:=allNe_fresh fd N
     have nu:=allNe_fresh fu N
     have nr:=allNe_fresh fr N
     have N:=newsF st fx ax F (newsF st fd ad F (newsF st fu au F (newsF st fr ar F (news0 st N))))
     have F:=fr0 st F
     have O:=Oth.next st O
     clear st ax ad au ar fx fd fu fr)) <;> k_steps)
 rename Fr _ _ _ _=>F
 rename News _ _ _ _=>N
 refine k x vs _ (Base.fin B [] F N O fun _ h=>nN h) hvs ⟨d,u,r,_,_,_,_,_,_,_,_,_,_,_,Base.at B N (p:=(x,_)) (by k_mem),Base.at B N (p:=(d,_)) (by k_mem),Base.at B N (p:=(u,_)) (by k_mem),Base.at B N (p:=(r,_)) (by k_mem)⟩ (base_fresh B (N (x,instObj 59 d) (by k_mem)).2.2 nx)
end
end
section
noncomputable def letter (i:Nat):Str:=⟨#[97+i]⟩
noncomputable def nstr (l:List Nat):Str:=⟨(l.map (97+·)).toArray⟩
theorem nstr_snoc (l:List Nat) (c:Nat):nstr l ++ letter c=nstr (l ++ [c]):=by
 show (⟨(l.map (97+·)).toArray ++ #[97+c]⟩:Str)=_
 unfold nstr
 simp
structure NmInv (rem nm:List Nat):Prop where
 nodup:(rem ++ nm).Nodup
 lt:∀ c∈rem ++ nm,c < 7
 len:rem.length+nm.length=7
theorem nmInv_start:NmInv (List.range 7) []:=⟨by decide,by decide,rfl⟩
theorem NmInv.step {p q nm:List Nat} {c:Nat} (h:NmInv (p ++ c :: q) nm):NmInv (p ++ q) (nm ++ [c]):=by
 have pm:(p ++ c :: q ++ nm).Perm (p ++ q ++ (nm ++ [c])):=by
  have h1:(p ++ c :: q).Perm (c :: (p ++ q)):=List.perm_middle
  have h2:(c :: (p ++ q) ++ nm).Perm (p ++ q ++ (nm ++ [c])):=by
   have:(c :: (p ++ q ++ nm)).Perm (p ++ q ++ nm ++ [c]):=(List.perm_append_singleton c (p ++ q ++ nm)).symm
   simpa using this
  exact (h1.append_right nm).trans h2
 refine ⟨pm.nodup_iff.mp h.nodup,fun d hd=>h.lt d (pm.mem_iff.mpr hd),?_⟩
 have:=h.len
 simp only [List.length_append,List.length_cons,List.length_nil] at *
 omega
theorem NmInv.ok {rem nm:List Nat} (h:NmInv rem nm) (hl:nm.length=3∨nm.length=4):NameOk nm :=
 ⟨(List.nodup_append.mp h.nodup).2.1,fun c hc=>h.lt c (List.mem_append.mpr (.inr hc)),hl⟩
structure NmsInv (t i:Nat) (ns:List (List Nat)):Prop where
 len:ns.length=i
 ok:∀ x∈ns,NameOk x
 sum:(ns.map fun x=>2 ^ (4 - x.length)).sum=min i t*2+(i - t)
theorem nmsInv_start {t:Nat}:NmsInv t 0 []:=⟨rfl,fun _ h=>nN h,by simp⟩
theorem NmsInv.step {t i:Nat} {ns:List (List Nat)} {rem nm:List Nat} (h:NmsInv t i ns) (hn:NmInv rem nm) (hl:nm.length=if i < t then 3 else 4):NmsInv t (i+1) (ns ++ [nm]):=by
 refine ⟨by rw [List.length_append,h.len];rfl,fun x hx=>?_,?_⟩
 · rcases List.mem_append.mp hx with hx | hx
   · exact h.ok x hx
   · rw [mS hx]
     refine hn.ok ?_
     by_cases q:i < t
     · rw [if_pos q] at hl;exact .inl hl
     · rw [if_neg q] at hl;exact .inr hl
 · rw [List.map_append,List.sum_append,h.sum,List.map_singleton,List.sum_singleton,hl]
   by_cases q:i < t
   · rw [if_pos q,Nat.min_eq_left (Nat.le_of_lt q),Nat.min_eq_left q,Nat.sub_eq_zero_of_le (Nat.le_of_lt q),Nat.sub_eq_zero_of_le q]
     exact (Nat.succ_mul i 2).symm
   · have q2:=Nat.le_of_not_lt q
     rw [if_neg q,Nat.min_eq_right q2,Nat.min_eq_right (Nat.le_succ_of_le q2),Nat.succ_sub q2];rfl
theorem NmsInv.fin {t:Nat} {ns:List (List Nat)} (ht:t≤3) (h:NmsInv t (7 - t) ns):(ns.map fun x=>2 ^ (4 - x.length)).sum≤7:=by
 rw [h.sum];exact (by decide:∀ t:Fin 4,min (7 - t.1) t.1*2+(7 - t.1 - t.1)≤7) ⟨t,Nat.lt_succ_of_le ht⟩
end
section
theorem cut_strs:∀ {us:List Value} {rem:List Nat} {k:Nat},StrsAre us (rem.map letter)→k < us.length→∃ p q y c t pr qr,kl_cut us k=some (p,y,q)∧y=Value.str (letter c) t∧rem=pr ++ c :: qr∧StrsAre (p ++ q) ((pr ++ qr).map letter)
 | [],_,_,_,h=>absurd h (Nat.not_lt_zero _)
 | v :: us,[],_,h,_=>by cases h
 | v :: us,c :: rem,0,h,_=>by
   cases h with
   | cons _ t h=>exact exI7 [] us _ c t [] rem (anI4 rfl rfl rfl h)
 | v :: us,c :: rem,k+1,h,hk=>by
   cases h with
   | cons _ t h =>
     refine exE7 (cut_strs h (Nat.lt_of_succ_lt_succ hk)) fun p q y d u pr qr hh=>anE4 hh fun e1 e2 e3 e4=>?_;clear hh
     refine exI7 (Value.str (letter c) t :: p) q y d u (c :: pr) qr (anI4 ?_ e2 (by rw [e3];rfl) (.cons _ t e4))
     unfold kl_cut
     rw [e1]
theorem ifexp_ints {M:Model} {A:Around} {E:VP} {s:Shared} {env:Env} {test:PySem.Expr} {m n:Int} {k1 k2:Nat} {p1 p2 pos:Pos} {Q:VP}
 (h:wpAny M A (isTrue test env (eval test env)) (fun b s₁=>Q (.int (if b=true then m else n) s₁.toks) { s₁ with toks:=s₁.toks+1 }) E s) :
 wpAny M A (eval (.IfExp test (.Constant (.int m) k1 p1) (.Constant (.int n) k2 p2) pos) env) Q E s:=by
 refine wpAny_IfExp (wpAny_mono h (fun b s₁ h₁=>?_) fun _ _ x=>x)
 cases b
 · exact wpAny_Constant_int h₁
 · exact wpAny_Constant_int h₁
theorem rangeIter_nc {h:Heap} {I:Addr} {a b c:Int} (x:IsRangeIter h I a b c):∃ o,h.get? I=some o∧isCode o=false:=⟨_,x,rfl⟩
theorem Snap.newHi {w:World} {g:Heap} {L a:Addr} {s:Shared} {led R:List (Addr×Obj)} (B:Snap w g L s led R) (hL:a≠L) (hg:g.get? a=none) (hl:∀ p∈led,p.1≠a) (lt:∀ p∈R,@LT.lt Nat _ p.1 a):s.heap.get? a=none∧250≤a:=by
 have h:s.heap.get? a=none:=by
  cases q:s.heap.get? a with
  | none=>rfl
  | some o =>
    exfalso
    rcases B.cover a o q with h | h | h | h
    · exact hL h
    · rw [hg] at h;cases h
    · obtain ⟨p,hp,e⟩:=List.mem_map.mp h
      exact hl p hp e
    · exact Nat.lt_irrefl _ (lt _ h)
 exact ⟨h,B.inv.above h⟩
theorem Step.fresh {w:World} {T:List Addr} {s s':Shared} {a:Addr} (S:Step w T s s') (h:s'.heap.get? a=none) (ha:a∉T):s.heap.get? a=none:=by
 cases q:s.heap.get? a with
 | none=>rfl
 | some o=>have:=S.keep a o q ha;rw [h] at this;cases this
theorem strsApp:∀ {a b:List Value} {xs ys:List Str},StrsAre a xs→StrsAre b ys→StrsAre (a ++ b) (xs ++ ys)
 | _,_,_,_,.nil,h=>h
 | _,_,_,_,.cons _ t r,h=>.cons _ t (strsApp r h)
inductive NmX (s':Shared) (L NM:Nat) (t:Nat) (i:Nat):Prop
 | mk (m:Str→Option Value) (x:Int) (tt tx:Tok) (us:List Value) (n:Nat) (ns:List (List Nat)) (f0:s'.heap.Ns L m) (f1:m "threes"=some (.int t tt)) (f2:m "number"=some (.int x tx)) (f3:m "names"=some (.ref NM)) (f4:At s'.heap NM (listOf us.toArray n)) (f5:StrsAre us (ns.map nstr)) (f6:NmsInv t i ns):NmX s' L NM t i
structure NmJ (w:World) (s:Shared) (L NM:Nat) (t:Nat) (i:Nat) (s':Shared):Prop where
 st:Step w [] s s'
 ex:NmX s' L NM t i
inductive CeX (s':Shared) (L NM CL:Nat) (t:Nat) (tt:Tok) (nv:Value) (us:List Value) (n:Nat) (j:Nat):Prop
 | mk (m:Str→Option Value) (x:Int) (tx:Tok) (cs:List Value) (k:Nat) (rem nm:List Nat) (tn:Tok) (f0:s'.heap.Ns L m) (f1:m "threes"=some (.int t tt)) (f2:m "number"=some (.int x tx)) (f3:m "names"=some (.ref NM)) (f4:m "cells"=some (.ref CL)) (f5:m "name"=some (.str (nstr nm) tn)) (f6:m "n"=some nv) (f7:At s'.heap CL (listOf cs.toArray k)) (f8:StrsAre cs (rem.map letter)) (f9:NmInv rem nm) (f10:nm.length=j) (f11:At s'.heap NM (listOf us.toArray n)):CeX s' L NM CL t tt nv us n j
structure CeJ (w:World) (s:Shared) (L NM CL IT:Nat) (oIT:Obj) (t i:Nat) (tt:Tok) (nv:Value) (us:List Value) (n:Nat) (j:Nat) (s':Shared):Prop where
 st:Step w [] s s'
 it:s'.heap.get? IT=some oIT
 ex:CeX s' L NM CL t tt nv us n j
section
variable {w:World} {A:Around} {E:VP} {s:Shared} {Q:VP}
theorem names_spec (l:Lvl A 700) (I:Inv w s.heap) {x:Int} {tx:Tok}
 (k:∀ (D:Addr) (us:List Value) (n:Nat) (ns:List (List Nat)) (s':Shared),Step w [] s s'→At s'.heap D (listOf us.toArray n)→s.heap.get? D=none→StrsAre us (ns.map nstr)→(∀ x∈ns,NameOk x)→(ns.map fun x=>2 ^ (4 - x.length)).sum≤7→Q (.ref D) s'):wpAny (model prog w) A (call (.ref 211) [.int x tx]) Q E s:=by
 refine weaken l fun fr gd=>?_
 refine enterS (args:=⟨[.int x tx],[]⟩) I (by k_is) (by k_is) (by show (700:Nat) < 1000;decide) (BindsTo.of_eq rfl) (locs rfl) ?_ (by decide)
 intro L h₁ S₀ fL hL hnL ltL
 have hTS:∀ a∈[L],a∈([]:List Addr)∨s.heap.get? a=none:=fun a ha=>.inr (by rw [mS ha];exact fL)
 have S:Step w [] s { s with heap:=h₁,toks:=s.toks+1 }:=⟨S₀.keep,S₀.os,S₀.gens,S₀.inv⟩
 obtain ⟨g,R,loose,mean,mg,mb,B,F,N,X,T,sep⟩:=(snap (s:={ s with heap:=h₁,toks:=s.toks+1 }) S.inv hnL hL [] (fun _ h=>nN h))
 rw [List.nil_append] at N
 have O:Oth { s with heap:=h₁,toks:=s.toks+1 } { s with heap:=h₁,toks:=s.toks+1 }:=Oth.refl
 have ht0:0≤x.fmod 4:=Int.fmod_nonneg_of_pos _ (by decide)
 have ht4:x.fmod 4 < 4:=Int.fmod_lt_of_pos _ (by decide)
 obtain ⟨t,et⟩:∃ t:Nat,x.fmod 4=(t:Int):=⟨(x.fmod 4).toNat,by omega⟩
 have ht3:t≤3:=by omega
 have hsm:Builtin.Range.small 0 (7 - x.fmod 4) 1=true:=small_one (by decide) (by decide) (by omega) (by omega)
 (try dsimp only)
 k_unmd
 k_fold
 obtain ⟨HH,hold,held⟩:=holds
 have qB {x1 x2 x3 x4 x5 x6 x7 x8 x9 y1 y2 y3}:=hold 20 (wpAny x1 x2 (exec (Stmt.For (Expr.Name x3 x4) x5 (x6 :: x7) [] x8) x9) y1 y2 y3)
 have qA {x1 x2 x3 x4 x5 x6}:=hold 1 (wpAny x1 x2 (pyIter (Value.ref x3)) x4 x5 x6)
 k_steps
 repeat' ((first
  | (refine held 20 _ ?_
     k_dflt (refine wpAny_For ?_ (by intro _;rfl)))
  | (refine held 1 _ ?_
     rename IsRange _ _ _ _ _ _ _ _=>hr
     rename Fr _ _ _ _=>F
     rename News _ _ _ _=>N
     (with_reducible refine wpAny_pyIter_range hr ?hsm ?_)
     case hsm=>first | exact hsm | (refine small_one (by decide) (by decide) ?_ ?_ <;> split <;> decide))) <;> k_steps)
 clear qB qA hold held HH
 rename Fr _ _ _ _=>F
 rename News _ _ _ _=>N
 rename_i h1a h1b NM h1c lNM h1d F0 N0 H1 tk1 t1 u1 v1 kp
 rw [et] at F
 have NMm:(NM,listOf #[] 0)∈(NM,listOf #[] 0) :: R:=.head _
 obtain ⟨fNM',hNM250⟩:=B.newHi (N _ NMm).2.1 (N _ NMm).2.2 (fun _ h=>nN h) lNM
 have fNM:s.heap.get? NM=none:=S.fresh fNM' nM
 have hLNM:L≠NM:=Ne.symm (N _ NMm).2.1
 have F1:=F.push (o:={ cls:=.type "range_iterator",data:=.fields #[rawInt 0,rawInt (Builtin.Range.rangeSize 0 (7 - x.fmod 4) 1),rawInt 1] })
 have N1:News g L _ _:=N.grown fun _ _ e=>Heap.get?_push_of_some { cls:=.type "range_iterator",data:=.fields #[rawInt 0,rawInt (Builtin.Range.rangeSize 0 (7 - x.fmod 4) 1),rawInt 1] } e
 have hsz:Builtin.Range.rangeSize 0 (7 - x.fmod 4) 1=((7 - t:Nat):Int):=by rw [rangeSize_one];split <;> omega
 have hIT250:250≤H1.objs.size:=Nat.le_trans hL (Nat.le_of_lt F.ns.lt)
 have fIT:s.heap.get? H1.objs.size=none:=(Snap.out [] 0 S B F N (fun p hp=>.tail _ hp) (fun _ h=>nN h) hTS).fresh (Heap.get?_none_of_le (Nat.le_refl _)) nM
 refine for_S (Walks.range rfl _ 0 1 (7 - t)) (fun v s' Q E h=>wpAny_pure h) (NmJ w s L NM t) ?_ ?_ ?_ ?_
 · show IsRangeIter _ _ _ _ _
   rw [← hsz]
   simpa using Heap.get?_push_size _ rfl
 · refine ⟨?_,_,_,_,_,[],0,[],F1.ns,rfl,rfl,rfl,?_,.nil,nmsInv_start⟩
   · have FN:=Snap.out [] 0 S B F1 N1 (fun p hp=>.tail _ hp) (fun _ h=>nN h) hTS
     exact ⟨FN.keep,FN.os,FN.gens,FN.inv⟩
   · exact ⟨(N1 (NM,listOf #[] 0) (.head _)).1,hNM250⟩
 · intro i v s3 h' tk hi hP J hSt hSt' hk
   obtain ⟨m',x',tt,tx',us,nn,ns,hn,nm1,nm2,nm3,hM,hus,inv⟩:=J.ex
   obtain ⟨u,rfl⟩:=hP
   obtain ⟨oI,hoI,hcI⟩:=rangeIter_nc hSt
   have y3:=step_it (tk:=tk) J.st.inv hIT250 hoI hcI hk
   have hLI:L≠H1.objs.size:=Nat.ne_of_lt F.ns.lt
   have hMI:NM≠H1.objs.size:=Nat.ne_of_lt (Heap.lt_size (N _ NMm).1)
   have S3:Step w [] s { s3 with heap:=h',toks:=tk }:=J.st.trans y3 fun x hx=>.inr (by rw [mS hx];exact fIT)
   have hn3:h'.Ns L m':=hn.at' fun o e=>hk _ o hLI e
   have hM3:At h' NM (listOf us.toArray nn):=⟨hk _ _ hMI hM.1,hM.2⟩
   clear F N B X T sep F1 N1
   obtain ⟨g,R,loose,mean,mg,mb,B,F,N,X,T,sep⟩:=(snap (s:={ s3 with heap:=h',toks:=tk }) S3.inv hn3 hL [(NM,listOf us.toArray nn)] (fun p hp=>by rw [mS hp];exact ⟨hM3.1,Ne.symm hLNM,.inl hM3.2⟩))
   have sNM:∀ p∈R,p.1≠NM:=sep _ (.head _)
   rw [List.singleton_append] at N
   have hR3:∀ p∈R,p∈(NM,listOf us.toArray nn) :: R:=fun p hp=>.tail _ hp
   have hT3:∀ p∈[(NM,listOf us.toArray nn)],(p.1∈([]:List Addr)∧250≤p.1∧isMut p.2=true)∨p∈(NM,listOf us.toArray nn) :: R:=fun p hp=>.inr (by rw [mS hp];exact .head _)
   have hTS3:=hTS
   have hn7:(Str.ofString "abcdefg").cps.size≤sizeLine:=by rw [sizeLine_eq];exact Nat.le_of_ble_eq_true rfl
   (try dsimp only)
   k_unmd
   k_fold
   obtain ⟨HH,hold,held⟩:=holds
   have qC {x1 x2 x3 x4 x5 x6 x7 x8 x9 y1 y2 y3}:=hold 20 (wpAny x1 x2 (exec (Stmt.For (Expr.Name x3 x4) x5 (x6 :: x7) [] x8) x9) y1 y2 y3)
   have qD {x1 x2 x3 x4 x5 x6 x7 x8 x9 y1}:=hold 29 (wpAny x1 x2 (eval (Expr.IfExp x3 x4 x5 x6) x7) x8 x9 y1)
   have qA {x1 x2 x3 x4 x5 x6 x7}:=hold 4 (wpAny x1 x2 (call (Value.type "list") [Value.str x3 x4]) x5 x6 x7)
   have qB {x1 x2 x3 x4 x5 x6}:=hold 1 (wpAny x1 x2 (pyIter (Value.ref x3)) x4 x5 x6)
   k_steps
   repeat' ((first
    | (refine held 20 _ ?_
       k_dflt (refine wpAny_For ?_ (by intro _;rfl)))
    | (refine held 29 _ ?_
       (with_reducible refine ifexp_ints ?_))
    | (refine held 4 _ ?_
       rename Fr _ _ _ _=>F
       rename News _ _ _ _=>N
       have i9:=Snap.now [] S3 B F N hR3 hT3 hTS3
       have st8:=Snap.out [] 0 S3 B F N hR3 hT3 hTS3
       (with_reducible refine list_str rfl i9 hn7 ?_)
       intro CL cs k0 s4 st4 hcs hp fp
       k_dflt (have fCL:=st8.fresh fp nM)
       k_dflt (have hCL250:=hp.2)
       have np:=allNe_fresh fp N
       have N:=newsF st4 fp hp F (news0 st4 N)
       have F:=fr0 st4 F
       have Y4:=st4
       clear i9 st4 fp
       (try dsimp only))
    | (refine held 1 _ ?_
       rename IsRange _ _ _ _ _ _ _ _=>hr
       rename Fr _ _ _ _=>F
       rename News _ _ _ _=>N
       (with_reducible refine wpAny_pyIter_range hr ?hsm ?_)
       case hsm=>first | exact hsm | (refine small_one (by decide) (by decide) ?_ ?_ <;> split <;> decide))) <;> k_steps)
   clear qC qD qA qB hold held HH
   rename Fr _ _ _ _=>F
   rename News _ _ _ _=>N
   have hc:(if decide ((0:Int) + (i:Int) * 1 < (t:Int))=true then (3:Int) else 4)=((if i < t then 3 else 4:Nat):Int):=by
    by_cases q:i < t
    · rw [if_pos (by simp;omega),if_pos q];rfl
    · rw [if_neg (by simp;omega),if_neg q];rfl
   rename_i H2 tk2 t2 u2 v2 kp2
   have hsz2:Builtin.Range.rangeSize 0 (if decide ((0:Int) + (i:Int) * 1 < (t:Int))=true then (3:Int) else 4) 1=((if i < t then 3 else 4:Nat):Int):=by
    rw [hc,rangeSize_one];split <;> split <;> simp_all
   have F2:=F.push (o:={ cls:=.type "range_iterator",data:=.fields #[rawInt 0,rawInt (Builtin.Range.rangeSize 0 (if decide ((0:Int) + (i:Int) * 1 < (t:Int))=true then (3:Int) else 4) 1),rawInt 1] })
   have N2:News g L _ _:=N.grown fun _ _ e=>Heap.get?_push_of_some { cls:=.type "range_iterator",data:=.fields #[rawInt 0,rawInt (Builtin.Range.rangeSize 0 (if decide ((0:Int) + (i:Int) * 1 < (t:Int))=true then (3:Int) else 4) 1),rawInt 1] } e
   have hI2:250≤H2.objs.size:=Nat.le_trans hL (Nat.le_of_lt F.ns.lt)
   have hLC:L≠CL:=Ne.symm (N (CL,listOf cs.toArray k0) (.head _)).2.1
   have hLI2:L≠H2.objs.size:=Nat.ne_of_lt F.ns.lt
   have hMI2:NM≠H2.objs.size:=Nat.ne_of_lt (Heap.lt_size (N (NM,listOf us.toArray nn) (.tail _ (.head _))).1)
   have hCI2:CL≠H2.objs.size:=Nat.ne_of_lt (Heap.lt_size (N (CL,listOf cs.toArray k0) (.head _)).1)
   have hCM:@Ne Nat CL NM:=np.1
   have E8:=B.fin (s':=⟨_,s4.gens,s4.drawn,0,s4.os⟩) [] F N ⟨Y4.os,Y4.gens⟩ (fun p hp=>.tail _ (.tail _ hp)) (fun p hp=>.inr (by rw [mS hp];exact .tail _ (.head _)))
   have it8:=E8.keep _ _ hSt' (fun hm=>hLI (mS hm).symm)
   have hI12:H1.objs.size≠H2.objs.size:=Nat.ne_of_lt (Heap.lt_size it8)
   have hCI1:CL≠H1.objs.size:=fun e=>by
    have b:=(N (CL,listOf cs.toArray k0) (.head _)).1
    dsimp only at b it8
    rw [e,it8] at b
    have b2:=congrArg Obj.cls (Option.some.inj b)
    exact absurd (show Value.type "range_iterator"=Value.type "list" from b2) (by decide)
   have E9:=B.fin (s':=⟨_,s4.gens,s4.drawn,0,s4.os⟩) [] F2 N2 ⟨Y4.os,Y4.gens⟩ (fun p hp=>.tail _ (.tail _ hp)) (fun p hp=>.inr (by rw [mS hp];exact .tail _ (.head _)))
   have S4:=S3.trans E9 hTS
   have fI2:s.heap.get? H2.objs.size=none:=(S3.trans E8 hTS).fresh (Heap.get?_none_of_le (Nat.le_refl _)) nM
   obtain ⟨oIT,ho1,ho2⟩:∃ oIT,h'.get? H1.objs.size=some oIT∧∀ hh:Heap,hh.get? H1.objs.size=some oIT→IsRangeIter hh H1.objs.size (0+((i+1:Nat):Int) * 1) (((7 - t:Nat):Int) - ((i+1:Nat):Int)) 1:=⟨_,hSt',fun _ e=>e⟩
   refine for_S (Walks.range rfl _ 0 1 (if i < t then 3 else 4)) (fun v s' Q E h=>wpAny_pure h) (CeJ w s L NM CL H1.objs.size oIT t i tt (.int (0+(i:Int) * 1) u) us nn) ?_ ?_ ?_ ?_
   · show IsRangeIter _ _ _ _ _
     rw [← hsz2,show ((0:Int) + ((0:Nat):Int) * 1)=0 from rfl,Int.ofNat_zero,Int.sub_zero]
     exact Heap.get?_push_size _ rfl
   · refine ⟨⟨S4.keep,S4.os,S4.gens,S4.inv⟩,E9.keep _ _ ho1 (fun hm=>hLI (mS hm).symm),_,_,_,cs,k0,List.range 7,[],_,F2.ns,nm1,nm2,nm3,rfl,rfl,rfl,⟨(N2 (CL,listOf cs.toArray k0) (.head _)).1,hCL250⟩,hcs,nmInv_start,rfl,⟨(N2 (NM,listOf us.toArray nn) (.tail _ (.head _))).1,hM.2⟩⟩
   · clear nm1 nm2 nm3
     intro j v s5 nm5' tk5 hj hP2 J2 hSt2 hSt2' hk5
     obtain ⟨m2,x2,tx2,cs2,k2,rem,nm,tn,hn2,nm1,nm2,nm3,nm4,nm5,nm6,hC2,hcs2,hinv,hnl,hM2⟩:=J2.ex
     obtain ⟨u2',rfl⟩:=hP2
     obtain ⟨oI2,hoI2,hcI2⟩:=rangeIter_nc hSt2
     have y5:=step_it (tk:=tk5) J2.st.inv hI2 hoI2 hcI2 hk5
     have S5:Step w [] s { s5 with heap:=nm5',toks:=tk5 }:=J2.st.trans y5 fun x hx=>.inr (by rw [mS hx];exact fI2)
     have hn5:nm5'.Ns L m2:=hn2.at' fun o e=>hk5 _ o hLI2 e
     have hM5:At nm5' NM (listOf us.toArray nn):=⟨hk5 _ _ hMI2 hM2.1,hM2.2⟩
     have hC5:At nm5' CL (listOf cs2.toArray k2):=⟨hk5 _ _ hCI2 hC2.1,hC2.2⟩
     have hlen:cs2.length=7 - j:=by
      have e1:=StrsAre.len_eq hcs2
      rw [List.length_map] at e1
      have e2:=hinv.len
      omega
     have hj4:j < 4:=by
      by_cases q:i < t
      · rw [if_pos q] at hj;omega
      · rw [if_neg q] at hj;omega
     have hsz5:cs2.toArray.size=7 - j:=by rw [List.size_toArray,hlen]
     have hfit5:7 - j < 2 ^ 62:=by omega
     have hp7:0 < ((7 - j:Nat):Int):=by omega
     have hx0:0≤x2.fmod ((7 - j:Nat):Int):=Int.fmod_nonneg_of_pos _ hp7
     have hx7:x2.fmod ((7 - j:Nat):Int) < ((7 - j:Nat):Int):=Int.fmod_lt_of_pos _ hp7
     have hf5:Builtin.List.listFitsIndex (x2.fmod ((7 - j:Nat):Int))=true:=by
      unfold Builtin.List.listFitsIndex
      simp only [Bool.and_eq_true,decide_eq_true_eq]
      omega
     have hk5s:seqIndex? (x2.fmod ((7 - j:Nat):Int)) cs2.toArray.size=some (x2.fmod ((7 - j:Nat):Int)).toNat:=seqIndex_of hx0 (by rw [hsz5];exact hx7)
     refine exE7 (cut_strs (k:=(x2.fmod ((7 - j:Nat):Int)).toNat) hcs2 (by rw [hlen];omega)) fun pp qq yy c tc pr qr hh=>anE4 hh fun ec z8 hrem hpq=>?_;clear hh;rcases z8 with rfl
     have hadd5:(nstr nm).length+(letter c).length≤sizeLine:=by
      have e1:(nstr nm).length=nm.length:=by unfold nstr;simp [Str.length]
      rw [e1,hnl,sizeLine_eq]
      show j+1≤_
      omega
     have hz5:cs2.toArray.toList.length≤sizeLine:=by rw [sizeLine_eq];simp;omega
     clear F N B X T sep F2 N2
     obtain ⟨g,R,loose,mean,mg,mb,B,F,N,X,T,sep⟩:=(snap (s:={ s5 with heap:=nm5',toks:=tk5 }) S5.inv hn5 hL [(CL,listOf cs2.toArray k2),(NM,listOf us.toArray nn)] (fun p hp=>by
      rcases mC hp with rfl | hp
      · exact ⟨hC5.1,Ne.symm hLC,.inl hC5.2⟩
      · rw [mS hp];exact ⟨hM5.1,Ne.symm hLNM,.inl hM5.2⟩))
     have N:News g L nm5' ((CL,listOf cs2.toArray k2) :: (NM,listOf us.toArray nn) :: R):=N
     have sNM:∀ p∈R,p.1≠NM:=sep _ (.tail _ (.head _))
     have sCL:∀ p∈R,p.1≠CL:=sep _ (.head _)
     (try dsimp only)
     k_unmd
     k_fold
     obtain ⟨HH,hold,held⟩:=holds
     have qB {x1 x2 x3 x4 x5 x6 x7}:=hold 30 (wpAny x1 x2 (loadName x3 x4) x5 x6 x7)
     have qC {x1 x2 x3 x4 x5}:=hold 31 (wpAny x1 x2 (call (Value.builtin "len") [Value.ref CL]) x3 x4 x5)
     have qD {x1 x2 x3 x4 x5 x6 x7 x8 x9}:=hold 32 (wpAny x1 x2 (inplaceOp Operator.Add (Value.str x3 x4) (Value.str x5 x6)) x7 x8 x9)
     have qA {x1 x2 x3 x4 x5 x6}:=hold 2 (wpAny x1 x2 (call (Value.builtin "list.pop") [Value.ref CL,x3]) x4 x5 x6)
     k_steps
     repeat' ((first
      | (refine held 30 _ ?_
         rename Fr _ _ _ _=>F
         k_dflt (first | refine wpAny_loadName_local rfl rfl F.ns nm2 ?_ | refine wpAny_loadName_local rfl rfl F.ns nm5 ?_))
      | (refine held 31 _ ?_
         rename News _ _ _ _=>N
         k_dflt (refine KM.len_K (n:=7 - j) N (.head _) hsz5 hfit5 ?_))
      | (refine held 32 _ ?_
         k_dflt (refine SB.iadd ?_ hadd5)
         intro tn' tk8
         (rw [nstr_snoc]))
      | (refine held 2 _ ?_
         rename Fr _ _ _ _=>F
         rename News _ _ _ _=>N
         k_dflt (refine' kl_popAt F N hf5 hk5s ec ?k3 hz5 ?_;(case k3=>k_upd))
         intro h' F N)) <;> k_steps)
     clear qB qC qD qA hold held HH
     rename Fr _ _ _ _=>F
     rename News _ _ _ _=>N
     show TurnOk _ _ _
     have E9:=B.fin (s':=⟨_,s5.gens,s5.drawn,0,s5.os⟩) [CL] F N ⟨rfl,id⟩ (fun p hp=>.tail _ (.tail _ hp)) (fun p hp=>by
      rcases mC hp with rfl | hp
      · exact .inl ⟨.head _,hC5.2,rfl⟩
      · exact .inr (by rw [mS hp];exact .tail _ (.head _)))
     have Se:=S5.trans E9 (fun a ha=>by
      rcases mC ha with rfl | ha
      · exact .inr fL
      · rw [mS ha];exact .inr fCL)
     have nI1:H1.objs.size∉[L,CL]:=fun hm=>by
      rcases mC hm with h9 | hm
      · exact hLI h9.symm
      · exact hCI1 (mS hm).symm
     have nI2:H2.objs.size∉[L,CL]:=fun hm=>by
      rcases mC hm with h9 | hm
      · exact hLI2 h9.symm
      · exact hCI2 (mS hm).symm
     subst hrem
     refine ⟨⟨Se.toks _,E9.keep _ _ (hk5 _ _ hI12 J2.it) nI1,_,_,_,pp ++ qq,k2+1,pr ++ qr,nm ++ [c],_,F.ns,nm1,rfl,nm3,nm4,rfl,nm6,⟨(N (CL,_) (.head _)).1,hC5.2⟩,hpq,hinv.step,by rw [List.length_append,hnl];rfl,⟨(N (NM,_) (.tail _ (.head _))).1,hM5.2⟩⟩,?_⟩
     exact E9.keep _ _ hSt2' nI2
   · clear nm1 nm2 nm3
     intro s5 nm5' tk5 J2 hSt2 hk5
     obtain ⟨m2,x2,tx2,cs2,k2,rem,nm,tn,hn2,nm1,nm2,nm3,nm4,nm5,nm6,hC2,hcs2,hinv,hnl,hM2⟩:=J2.ex
     obtain ⟨oI2,hoI2,hcI2⟩:=rangeIter_nc hSt2
     have y5:=step_it (tk:=tk5) J2.st.inv hI2 hoI2 hcI2 hk5
     have S5:Step w [] s { s5 with heap:=nm5',toks:=tk5 }:=J2.st.trans y5 fun x hx=>.inr (by rw [mS hx];exact fI2)
     have hn5:nm5'.Ns L m2:=hn2.at' fun o e=>hk5 _ o hLI2 e
     have hM5:At nm5' NM (listOf us.toArray nn):=⟨hk5 _ _ hMI2 hM2.1,hM2.2⟩
     have hqz:us.toArray.size≤sizeLine:=by
      have e1:=StrsAre.len_eq hus
      rw [List.length_map,inv.len] at e1
      rw [sizeLine_eq,List.size_toArray];omega
     clear F N B X T sep F2 N2
     obtain ⟨g,R,loose,mean,mg,mb,B,F,N,X,T,sep⟩:=(snap (s:={ s5 with heap:=nm5',toks:=tk5 }) S5.inv hn5 hL [(NM,listOf us.toArray nn)] (fun p hp=>by rw [mS hp];exact ⟨hM5.1,Ne.symm hLNM,.inl hM5.2⟩))
     have N:News g L nm5' ((NM,listOf us.toArray nn) :: R):=N
     have sNM:∀ p∈R,p.1≠NM:=sep _ (.head _)
     (try dsimp only)
     k_unmd
     k_fold
     obtain ⟨HH,hold,held⟩:=holds
     have qA {x1 x2 x3 x4 x5 x6 x7}:=hold 3 (wpAny x1 x2 (call (Value.builtin x3) [Value.ref NM,x4]) x5 x6 x7)
     k_steps
     repeat' ((first
      | (refine held 3 _ ?_
         rename Fr _ _ _ _=>F
         rename News _ _ _ _=>N
         k_dflt (refine' append_K F N ?k3 ?_ ?z;(case k3=>k_upd);(case z=>exact hqz))
         intro h' F N)) <;> k_steps)
     clear qA hold held HH
     rename Fr _ _ _ _=>F
     rename News _ _ _ _=>N
     show TurnOk _ _ _
     have E9:=B.fin (s':=⟨_,s5.gens,s5.drawn,0,s5.os⟩) [NM] F N ⟨rfl,id⟩ (fun p hp=>.tail _ hp) (fun p hp=>.inl (by rw [mS hp];exact ⟨.head _,hM5.2,rfl⟩))
     have Se:=S5.trans E9 (fun a ha=>by
      rcases mC ha with rfl | ha
      · exact .inr fL
      · rw [mS ha];exact .inr fNM)
     have nI1:H1.objs.size∉[L,NM]:=fun hm=>by
      rcases mC hm with h9 | hm
      · exact hLI h9.symm
      · exact hMI (mS hm).symm
     refine ⟨⟨Se.toks _,_,_,_,_,us ++ [.str (nstr nm) tn],nn+1,ns ++ [nm],F.ns,nm1,nm2,nm3,⟨?_,hM5.2⟩,?_,inv.step hinv hnl⟩,ho2 _ (E9.keep _ _ (hk5 _ _ hI12 J2.it) nI1)⟩
     · have:=(N (NM,_) (.head _)).1
       simpa using this
     · rw [List.map_append]
       exact strsApp hus (.cons _ _ .nil)
 · intro s3 h' tk J hSt hk
   obtain ⟨m',x',tt,tx',us,nn,ns,hn,nm1,nm2,nm3,hM,hus,inv⟩:=J.ex
   obtain ⟨oI,hoI,hcI⟩:=rangeIter_nc hSt
   have y3:=step_it (tk:=tk) J.st.inv hIT250 hoI hcI hk
   have hLI:L≠H1.objs.size:=Nat.ne_of_lt F.ns.lt
   have hMI:NM≠H1.objs.size:=Nat.ne_of_lt (Heap.lt_size (N _ NMm).1)
   have S3:Step w [] s { s3 with heap:=h',toks:=tk }:=J.st.trans y3 fun x hx=>.inr (by rw [mS hx];exact fIT)
   have hn3:h'.Ns L m':=hn.at' fun o e=>hk _ o hLI e
   have hM3:At h' NM (listOf us.toArray nn):=⟨hk _ _ hMI hM.1,hM.2⟩
   clear F N B X T sep F1 N1
   obtain ⟨g,R,loose,mean,mg,mb,B,F,N,X,T,sep⟩:=(snap (s:={ s3 with heap:=h',toks:=tk }) S3.inv hn3 hL [] (fun _ h=>nN h))
   rw [List.nil_append] at N
   (try dsimp only)
   k_steps
   exact k NM us nn ns _ (S3.toks _) hM3 fNM hus inv.ok (inv.fin ht3)
end
end
section
noncomputable def tagOf:Nat→Str
 | 0=>"  "
 | 1=>"- "
 | _=>"+ "
theorem letter_inj {i j:Nat} (h:letter i=letter j):i=j:=by
 unfold letter at h
 have:=congrArg (fun x:Str=>x.cps[0]?) h
 simp at this
 omega
noncomputable def OwnAt (w:World) (h:Heap) (o:Addr) (own:Nat→Nat):Prop :=
 250≤o∧∃ kvs,h.DictOf (PySem.strKind prog w) o kvs∧kvs.length≤7∧∀ i,i < 7→∃ t,valueAt kvs (letter i)=some (.str (tagOf (own i)) t)
section
variable {w:World} {A:Around} {E:VP} {s:Shared}
theorem OwnAt.at {h h':Heap} {o:Addr} {own:Nat→Nat} (x:OwnAt w h o own) (k:∀ ob,h.get? o=some ob→h'.get? o=some ob):OwnAt w h' o own:=by
 obtain ⟨h1,kvs,h2,r⟩:=x
 exact ⟨h1,kvs,h2.at k,r⟩
theorem OwnAt.keep {T:List Addr} {s s':Shared} {o:Addr} {own:Nat→Nat} (x:OwnAt w s.heap o own) (y:Step w T s s') (h:o∉T):OwnAt w s'.heap o own:=x.at fun ob e=>y.keep o ob e h
theorem OwnAt.notCode {h:Heap} {o:Addr} {own:Nat→Nat} (x:OwnAt w h o own):∀ ob,h.get? o=some ob→isCode ob=false:=by
 obtain ⟨h1,kvs,⟨ob,es,ep,e,-,hd,-⟩,-⟩:=x
 intro ob' e'
 rw [e] at e';cases e'
 unfold isCode
 rw [hd]
theorem stored_at {K:Type} [DecidableEq K] (kvs:List (K×Value)) (k k':K) (v:Value):valueAt (stored kvs k v) k'=if k=k' then some v else valueAt kvs k':=by
 have hf:∀ l:List (K×Value),((l.map fun kv=>if kv.1=k then (kv.1,v) else kv).find? fun kv=>kv.1=k').map (·.2)=if k=k'∧l.any (fun kv=>kv.1=k) then some v else if k=k' then none else (l.find? fun kv=>kv.1=k').map (·.2):=by
  intro l
  induction l with
  | nil=>by_cases q:k=k' <;> simp [q]
  | cons x r ih =>
    rw [List.map_cons,List.find?_cons,List.find?_cons,List.any_cons]
    by_cases q:k=k'
    · subst q
      by_cases q2:x.1=k
      · simp [q2]
      · simp only [q2,if_false,decide_false,Bool.false_or]
        rw [ih];simp only [eq_self_iff_true,true_and,if_true]
    · by_cases q2:x.1=k
      · have q3:x.1≠k':=fun e=>q (q2.symm.trans e)
        simp only [q2,if_true,q,decide_false,false_and,if_false] at ih ⊢
        exact ih
      · by_cases q3:x.1=k'
        · have q4:¬ k'=k:=fun e=>q e.symm
          simp [q3,q4,q]
        · simp only [q2,q3,if_false,decide_false,q,false_and] at ih ⊢
          exact ih
 unfold stored valueAt
 by_cases q:(kvs.any fun kv=>kv.1=k)=true
 · rw [if_pos q,hf]
   by_cases q2:k=k'
   · rw [if_pos ⟨q2,q⟩,if_pos q2]
   · rw [if_neg (fun h=>q2 h.1),if_neg q2,if_neg q2]
 · rw [if_neg q,List.find?_append]
   by_cases q2:k=k'
   · subst q2
     have:(kvs.find? fun kv=>kv.1=k)=none:=by
      rw [List.find?_eq_none]
      intro x hx hq
      exact q (List.any_eq_true.mpr ⟨x,hx,hq⟩)
     rw [this];simp
   · simp [q2]
theorem stored_len {K:Type} [DecidableEq K] {kvs:List (K×Value)} {k:K} {v u:Value} (h:valueAt kvs k=some u):(stored kvs k v).length=kvs.length:=by
 unfold stored
 have:(kvs.any fun kv=>kv.1=k)=true:=by
  unfold valueAt at h
  obtain ⟨x,hx,-⟩:=Option.map_eq_some_iff.mp h
  exact List.any_eq_true.mpr ⟨x,List.mem_of_find?_eq_some hx,List.find?_some (p:=fun kv:K×Value=>decide (kv.1=k)) hx⟩
 rw [if_pos this,List.length_map]
theorem own_set {o:Addr} {own:Nat→Nat} {i k:Nat} {t tv:Tok} {Q:Unit→Shared→Prop} (I:Inv w s.heap) (x:OwnAt w s.heap o own) (hi:i < 7)
 (h:∀ s',Step w [o] s s'→OwnAt w s'.heap o (setO own i k)→Q () s'):wpAny (model prog w) A (setItem (.ref o) (.str (letter i) t) (.str (tagOf k) tv)) Q E s:=by
 have nc:=x.notCode
 obtain ⟨h1,kvs,hd,hl,hv⟩:=x
 refine wpAny_setItem_pairs (knd:=PySem.strKind prog w) (strKind_is prog w (letter i) t) hd (fun h' hd' hs'=>?_) (by rw [sizeLine_eq];omega)
 have ku:∀ b ob,b∉[o]→s.heap.get? b=some ob→h'.get? b=some ob:=fun b ob hb e=>hs'.extBut b ob (fun q=>hb (List.mem_singleton.mpr q)) e
 refine h _ (step_of I ku fun a ha=>by rw [mS ha];exact ⟨h1,nc⟩) ⟨h1,_,hd',?_,fun j hj=>?_⟩
 · obtain ⟨t,e⟩:=hv i hi
   rw [stored_len e];exact hl
 · rw [stored_at]
   by_cases q:i=j
   · subst q
     rw [if_pos rfl,set_self];exact ⟨_,rfl⟩
   · rw [if_neg (fun e=>q (letter_inj e)),set_ne own k (fun e=>q e.symm)]
     exact hv j hj
theorem letters7:("abcdefg":Str).cps=#[97,98,99,100,101,102,103]:=by decide
theorem sign7 {i:Nat} {v:Value} (h:SignAt "abcdefg" i v):i < 7∧∃ t,v=.str (letter i) t:=by
 refine exE2 h fun c u hh=>anE2 hh fun e z3=>?_;clear hh;try clear h;rcases z3 with rfl
 rw [letters7] at e
 have hi:i < 7:=by
  rcases Nat.lt_or_ge i 7 with q | q
  · exact q
  · rw [Array.getElem?_eq_none (by simpa using q)] at e;cases e
 refine ⟨hi,u,?_⟩
 have:c=97+i:=Option.some.inj (e.symm.trans ((by decide:∀ i:Fin 7,(#[97,98,99,100,101,102,103]:Array Nat)[i.1]? = some (97+i.1)) ⟨i,hi⟩))
 subst this;rfl
theorem storedAll_at {FK:Value→Str→Prop} {FV:Value→Value→Prop} (hK:∀ v k,FK v k→∃ t,v=.str k t):∀ {l:List Value} {kvs:List (Str×Value)},StoredAll FK FV l kvs →
 ∀ v∈l,∀ k t,v=Value.str k t→∃ y u,valueAt kvs k=some y∧FV u y:=by
 intro l kvs h
 induction h with
 | nil=>intro v hv;exact absurd hv nM
 | @snoc l kvs v k y _ hk hv ih =>
   intro v' hv' k' t' e
   by_cases q:k=k'
   · exact exI2 y v (anI2 (by rw [stored_at,if_pos q]) hv)
   · rcases List.mem_append.mp hv' with h1 | h1
     · refine exE2 (ih v' h1 k' t' e) fun y' u' hh=>anE2 hh fun h2 h3=>?_;clear hh
       exact exI2 y' u' (anI2 (by rw [stored_at,if_neg q];exact h2) h3)
     · rw [mS h1] at e
       obtain ⟨t,e2⟩:=hK v k hk
       rw [e] at e2;cases e2
       exact absurd rfl q
theorem own_new {env:Env} {iter:PySem.Expr} {px pk pv:Pos} {kc:Nat} {scope:Scope} {pos:Pos} {cl:List (Str×Addr)} {t:Tok} {Q:VP} (hh:A.handled=none) (I:Inv w s.heap)
 (hclos:closureFor scope env=pure cl) (hcell:∀ y∈scope.names,y.2≠.cell) (hkind:scope.kind=.function)
 (hnames:∀ y∈scope.names,y.2=.local→scope.names.lookup y.1=some .local) (hx:scope.names.lookup ("cell":Str)=some .local) (hs:∀ x,foldedSetIterable iter env x=pure x)
 (hit:∀ Q':VP,Q' (.str "abcdefg" t) s→wpAny (model prog w) A (eval iter env) Q' E s)
 (k:∀ D s',Step w [] s s'→s.heap.get? D=none→OwnAt w s'.heap D (fun _=>0)→Q (.ref D) s') :
 wpAny (model prog w) A (eval (.DictComp (.Name "cell" pk) (.Constant (.str "  ") kc pv) [⟨.Name "cell" px,iter,[],0⟩] scope pos) env) Q E s:=by
 refine wpAny_DictComp_free (PySem.strKind prog w) (fun _=>true) (fun v k=>∃ t,v=.str k t) (fun _ y=>∃ t,y=.str "  " t) hclos hcell hkind hnames hx (hit _ ?_) hs
 refine src_str (s₁:=s) (T:=[]) A _ _ hh fun o fp St tk hoc hof W hIc hst hfp=>?_
 have hz:("abcdefg":Str).cps.size=7:=by rw [letters7];rfl
 refine exI6 _ fp _ _ _ St (anI7 rfl W (by rw [sizeLine_eq,hz];exact Nat.le_of_ble_eq_true rfl) hst (fun b hb=>?_) ⟨?_,?_,?_⟩ (fun D h' tk' kvs vs hD hd hvl hP hS hk=>?_))
 · show b < (s.heap.push o).objs.size
   rw [Heap.size_push]
   rcases hfp b hb with rfl | ⟨h,-⟩
   · exact Nat.lt_succ_self _
   · exact Nat.lt_succ_of_lt h
 · intro C i v s3 m3 E' _ _ _ _
   exact wpAny_pure ⟨rfl,_,_,rfl,fun _ _ e=>e⟩
 · intro C i v s3 m3 E' hPv _ hn hm _
   obtain ⟨-,u,rfl⟩:=sign7 hPv
   exact wpAny_Name (wpAny_loadName_local (env:=compEnvC scope cl C env) (by simp [compEnvC,relabel,hkind]) (lookup_relabel_local hx) hn hm ⟨⟨_,strKind_is prog w _ _,_,rfl⟩,_,_,rfl,fun _ _ e=>e⟩) (by decide)
 · intro C i v s3 m3 E' hPv _ hn hm _
   exact Constant_str ⟨⟨_,rfl⟩,_,_,rfl,fun _ _ e=>e⟩
 · have k0:∀ b ob,s.heap.get? b=some ob→h'.get? b=some ob:=fun b ob e=>hk b ob (fun hm=>by
    have:=Heap.lt_size e
    rw [mS hm] at this
    exact Nat.lt_irrefl _ this) (Heap.get?_push_of_some _ e)
   have fD:s.heap.get? D=none:=by
    cases q:s.heap.get? D with
    | none=>rfl
    | some ob=>have:=Heap.get?_push_of_some o q;rw [hD] at this;cases this
   refine k D _ ⟨fun b ob e _=>k0 b ob e,rfl,id,I.keepAll k0⟩ fD ⟨I.above fD,kvs,hd,?_,fun i hi=>?_⟩
   · have h1:=hS.length_le
     have h2:(vs.filter fun _=>true).length≤vs.length:=List.length_filter_le ..
     omega
   · have hv:i < vs.length:=by omega
     obtain ⟨-,u,e⟩:=sign7 (hP i vs[i] (List.getElem?_eq_getElem hv))
     obtain ⟨y,u',h1,t',rfl⟩:=storedAll_at (fun v k h=>h) hS vs[i] (by rw [List.filter_eq_self.mpr fun _ _=>rfl];exact List.getElem_mem hv) (letter i) u e
     exact ⟨t',h1⟩
end
end
section
theorem range_getD (x:List Nat):(List.range x.length).map (fun i=>x.getD i 0)=x:=by
 apply List.ext_getElem
 · simp
 · intro i h1 h2
   simp [List.getD_eq_getElem?_getD,List.getElem?_eq_getElem h2]
theorem range_filter (x:List Nat) (q:Nat→Bool):((List.range x.length).filter fun i=>q (x.getD i 0)).map (fun i=>x.getD i 0)=x.filter q:=by
 conv=>rhs;rw [← range_getD x]
 rw [List.filter_map];rfl
theorem sign_at {x:List Nat} {i:Nat} {v:Value} (h:SignAt (nstr x) i v):i < x.length∧∃ t,v=.str (letter (x.getD i 0)) t:=by
 refine exE2 h fun c u hh=>anE2 hh fun e z3=>?_;clear hh;try clear h;rcases z3 with rfl
 have e':((x.map (97+·)).toArray)[i]? = some c:=e
 rw [List.getElem?_toArray,List.getElem?_map] at e'
 obtain ⟨d,hd,rfl⟩:=Option.map_eq_some_iff.mp e'
 obtain ⟨hi,rfl⟩:=List.getElem?_eq_some_iff.mp hd
 refine ⟨hi,u,?_⟩
 rw [List.getD_eq_getElem?_getD,hd];rfl
theorem nstr_size (x:List Nat):(nstr x).cps.size=x.length:=by unfold nstr;simp
theorem tag_eq {a b:Nat} (ha:a≤2) (hb:b≤2):((tagOf a).cps.toList == (tagOf b).cps.toList)=(a == b):=(by decide:∀ a b:Fin 3,((tagOf a.1).cps.toList == (tagOf b.1).cps.toList)=(a.1 == b.1)) ⟨a,Nat.lt_succ_of_le ha⟩ ⟨b,Nat.lt_succ_of_le hb⟩
section
variable {w:World} {A:Around} {E:VP} {s:Shared}
noncomputable def OwnName (w:World) (env:Env) (scope:Scope) (cl:List (Str×Addr)) (x:Str) (V:Value) (s:Shared):Prop :=
 ∀ (A:Around) (C:Addr) (s':Shared) (p:Pos) (Q E:VP),Step w [] s s'→Q V s'→wpAny (model prog w) A (eval (.Name x p) (compEnvC scope cl C env)) Q E s'
theorem ownName_of {env:Env} {scope:Scope} {cl:List (Str×Addr)} {x:Str} {c:Addr} {V:Value} (hd:(x == ("__debug__":Str))=false) (hk:scope.kind=.function) (hx:(relabel scope env).names.lookup x=some .cell) (hc:cl.lookup x=some c) (hv:s.heap.IsCell c (some V)):OwnName w env scope cl x V s:=fun A C s' p Q E y q=>by
 obtain ⟨o,e,r⟩:=hv
 exact wpAny_Name (wpAny_loadName_cell (env:=compEnvC scope cl C env) (by simp [compEnvC,relabel,hk]) hx hc ⟨o,y.keep _ _ e nM,r⟩ q) hd
theorem own_comp {env:Env} {iter:PySem.Expr} {px pe po ps p1 p2 p3:Pos} {kc:Nat} {scope:Scope} {pos:Pos} {cl:List (Str×Addr)} {x:List Nat} {t:Tok} {O:Addr} {own:Nat→Nat} {k:Nat} {tag:Str} {Q:VP} (hh:A.handled=none) (I:Inv w s.heap)
 (hclos:closureFor scope env=pure cl) (hcell:∀ y∈scope.names,y.2≠.cell) (hkind:scope.kind=.function)
 (hnames:∀ y∈scope.names,y.2=.local→scope.names.lookup y.1=some .local) (hx:scope.names.lookup ("cell":Str)=some .local) (hs:∀ x,foldedSetIterable iter env x=pure x)
 (hit:∀ Q':VP,Q' (.str (nstr x) t) s→wpAny (model prog w) A (eval iter env) Q' E s)
 (hO:OwnAt w s.heap O own) (ho:OwnName w env scope cl "owners" (.ref O) s) (htag:tag=tagOf k) (hk2:k≤2) (hown:∀ i,own i≤2) (hx7:∀ c∈x,c < 7) (hxl:x.length≤7)
 (kk:∀ D n ys s',Step w [] s s'→s.heap.get? D=none→At s'.heap D (listOf ys.toArray n)→StrsAre ys ((x.filter fun c=>own c == k).map letter)→Q (.ref D) s') :
 wpAny (model prog w) A (eval (.ListComp (.Name "cell" pe) [⟨.Name "cell" px,iter,[.Compare (.Subscript (.Name "owners" po) (.Name "cell" ps) p1) [.Eq] [.Constant (.str tag) kc p2] p3],0⟩] scope pos) env) Q E s:=by
 have hgd:∀ i,i < x.length→x.getD i 0 < 7:=fun i hi=>by
  rw [List.getD_eq_getElem?_getD,List.getElem?_eq_getElem hi]
  exact hx7 _ (List.getElem_mem hi)
 refine comp_S (T:=[]) hh hclos hcell hkind hnames hx (fun _ h=>nN h) (hit _ ?_) hs
 refine exI4 x.length (SignAt (nstr x)) (fun i=>own (x.getD i 0) == k) (fun i y=>∃ t,y=.str (letter (x.getD i 0)) t) (anI5 I (by rw [sizeLine_eq];omega) ?_ (fun tk=>⟨?_,?_⟩) (fun D n ys s' y fD hD M=>kk D n ys s' y fD hD ?_))
 · rw [← nstr_size x];exact src_str
 · intro C i v s3 m hi hP S3 fC hC hn hm
   obtain ⟨-,u,rfl⟩:=sign_at hP
   have S3':Step w [] s s3:=((Step.refl I).toks tk).trans S3 fun a ha=>.inl ha
   refine wpAny_tests_one (wpAny_isTrue_Compare1 ?_)
   have hO3:=hO.keep S3' nM
   have nm:∀ (s4:Shared) (p:Pos) (Q' E':VP),s4.heap=s3.heap→Q' (.str (letter (x.getD i 0)) u) s4→wpAny (model prog w) A (eval (.Name "cell" p) (compEnvC scope cl C env)) Q' E' s4:=fun s4 p Q' E' e q =>
    wpAny_Name (wpAny_loadName_local (env:=compEnvC scope cl C env) (by simp [compEnvC,relabel,hkind]) (lookup_relabel_local hx) (e▸hn) hm q) (by decide)
   refine wpAny_Subscript_Name slot_dict_getitem.lookup (ho _ _ _ _ _ _ S3' (nm _ _ _ _ rfl ?_))
   obtain ⟨h1,kvs,hd,hl,hv⟩:=hO3
   obtain ⟨tv,hv⟩:=hv _ (hgd i hi)
   refine ⟨hd.mapOf.typeIs,wpAny_getItem_of (strKind_is prog w _ u) hd.mapOf hv ?_⟩
   refine Constant_str (P.eq_str ?_)
   rw [htag,tag_eq (hown _) hk2]
   refine wpAny_truthy_bool ⟨rfl,⟨fun b o e _=>e,rfl,id,S3'.inv⟩,m,hn,hm⟩
 · intro C i v s3 m hi hP hp S3 fC hC hn hm
   obtain ⟨-,u,rfl⟩:=sign_at hP
   exact wpAny_Name (wpAny_loadName_local (env:=compEnvC scope cl C env) (by simp [compEnvC,relabel,hkind]) (lookup_relabel_local hx) hn hm ⟨⟨_,rfl⟩,(Step.refl S3.inv).wide fun _ h=>nN h,m,hn⟩) (by decide)
 · have:=M.strs (g:=fun i=>letter (x.getD i 0)) (fun i y h=>h)
   have e:((List.range x.length).filter fun i=>own (x.getD i 0) == k).map (fun i=>letter (x.getD i 0))=(x.filter fun c=>own c == k).map letter:=by
    rw [← range_filter x (fun c=>own c == k),List.map_map];rfl
   rw [e] at this
   exact this
end
end
section
noncomputable abbrev accObj (d:Addr) (vs:List Value) (n:Nat):Obj:={ cls:=.ref 200,dict:=some d,data:=.seq vs.toArray n }
noncomputable abbrev sIS:Str:="_initial_size"
noncomputable abbrev accD (h1:Int) (t1 t2:Tok) (n:Nat):Obj:=dictOf [⟨h1,.str sIS t1,.int 3 t2⟩] n
variable {w:World} {A:Around} {E:VP} {s:Shared}
theorem typeOf_acc {M:Model} {h:Heap} {x:Addr} {o:Obj} (hx:h.get? x=some o) (hc:o.cls=.ref 200):Looks M h (typeOf (.ref x)) (.ref 200):=by
 have:Looks M h (typeOf (.ref x)) o.cls:=(Looks.ld hx).andThen .now
 rwa [hc] at this
theorem acc_is {M:Model} {P:Params} {h:Heap} (X:(frag.heap_1 P).In h) {x:Addr} {o:Obj} (hx:h.get? x=some o) (hc:o.cls=.ref 200):Looks M h (isInstance (.ref x) (.type "list")) true :=
 (typeOf_acc hx hc).andThen (looks_subIn X (by k_is))
theorem sub_check {M:Model} {i n:String} {self:Value} {rest:List Value} {Q:Unit→Shared→Prop} (hk:builtinKind i=some .slot∨builtinKind i=some .method) (hs:splitId i=some ("list",n)) (hi:Looks M s.heap (isInstance self (.type "list")) true) (ha:argsOk i ⟨self :: rest,[]⟩) (q:Q () s) :
 wpAny M A (checkBuiltinCall i ⟨self :: rest,[]⟩) Q E s:=by
 rcases hk with hk | hk <;>
 · simp only [checkBuiltinCall,hk,hs]
   refine wpAny_bind (hi.here ?_)
   simp only [Bool.not_true,Bool.false_eq_true,if_false]
   cases hsig:Manifest.signature? i with
   | none=>exact wpAny_pure q
   | some sig =>
     simp only [argsOk,hsig] at ha
     have h2:Bind.checkArgs i sig ⟨self :: rest,[]⟩=pure ():=ha
     show wpAny M A (Bind.checkArgs i sig ⟨self :: rest,[]⟩) Q E s
     rw [h2];exact wpAny_pure q
theorem acc_call {P:Params} {id n:String} {b:Builtin} {x:Addr} {o:Obj} {rest:List Value} {Q:VP} (X:(frag.heap_1 P).In s.heap) (hx:s.heap.get? x=some o) (hc:o.cls=.ref 200)
 (hk:builtinKind id=some .slot∨builtinKind id=some .method) (hs:splitId id=some ("list",n)) (hp:plainId id=true) (hb:entryFor table id=some b) (ha:argsOk id ⟨.ref x :: rest,[]⟩)
 (h:wpAny (model prog w) A.in1 (b ⟨.ref x :: rest,[]⟩) (fun fin s'=>∃ v,fin=.done (.ret v)∧Q v s') E s):wpAny (model prog w) A (call (.builtin id) (.ref x :: rest)) Q E s:=by
 refine wpAny_call (codeAny_call_builtin hp hb (sub_check hk hs (acc_is X hx hc) ha (wpAny_mono h (fun fin s' h'=>?_) fun _ _ h'=>h')))
 obtain ⟨v,rfl,hv⟩:=h';exact hv
theorem acc_push (d:Addr) (vs:List Value) (n:Nat) (v:Value):Obj.mapSeq (·.push v) (accObj d vs n)=accObj d (vs ++ [v]) (n+1):=by
 simp [Obj.mapSeq]
theorem acc_append {P:Params} {x d:Addr} {vs:List Value} {n:Nat} {v:Value} {Q:VP} (X:(frag.heap_1 P).In s.heap) (hx:s.heap.get? x=some (accObj d vs n)) (hz:vs.length≤sizeLine)
 (h:∀ h',Heap.SameBut x s.heap h'→h'.get? x=some (accObj d (vs ++ [v]) (n+1))→Q .none { s with heap:=h' }):wpAny (model prog w) A (call (.builtin "list.append") [.ref x,v]) Q E s:=by
 refine acc_call X hx rfl (.inr (by decide +kernel)) (n:="append") (by decide +kernel) PySem.F.slot_list_append.plain entry_list_append (args_list_append _ _) ?_
 show wpAny _ _ (updateSeq x (·.push v) >>= fun _=>ret .none) _ _ s
 refine wpAny_bind (wpAny_updateSeq hx rfl (wpAny_pure ⟨_,rfl,h _ (Heap.SameBut.update ..) ?_⟩) (by simpa using hz) ?_)
 · rw [Heap.get?_update_self _ hx (by rw [acc_push];rfl),acc_push]
 · simp;omega
theorem tree_len {M:Model} {x d:Addr} {vs:List Value} {n:Nat} {Q:VP} (hx:s.heap.get? x=some (accObj d vs n))
 (h:∀ t k,Q (.int vs.length t) { s with toks:=k }):wpAny M A (Builtin.«list.__len__» ⟨[.ref x],[]⟩) (fun fin s'=>∃ v,fin=.done (.ret v)∧Q v s') E s:=by
 show wpAny _ _ (seqSize x >>= fun k=>retInt (k:Int)) _ _ s
 refine wpAny_bind ?_
 unfold seqSize
 refine wpAny_bind (wpAny_loadPart hx (wpAny_pure ?_))
 refine wpAny_bind (m:=mkInt _) (wpAny_mkInt (wpAny_pure ⟨_,rfl,?_⟩))
 simpa using h s.toks (s.toks+1)
theorem acc_drop (d:Addr) (vs:List Value) (v:Value) (n:Nat):Obj.mapSeq (·.eraseIdxIfInBounds vs.length) (accObj d (vs ++ [v]) n)=accObj d vs (n+1):=by
 have e:(vs ++ [v]).toArray.eraseIdxIfInBounds vs.length=vs.toArray:=by
  have:=kl_erase (p:=vs) (y:=v) (q:=[])
  simpa using this
 simp [Obj.mapSeq,e]
theorem tree_pop {M:Model} {x d:Addr} {vs:List Value} {n:Nat} {v:Value} {Q:VP} (hx:s.heap.get? x=some (accObj d (vs ++ [v]) n)) (hz:vs.length+1≤sizeLine)
 (h:∀ h',Heap.SameBut x s.heap h'→h'.get? x=some (accObj d vs (n+1))→Q v { s with heap:=h' }):wpAny M A (Builtin.«list.pop» ⟨[.ref x],[]⟩) (fun fin s'=>∃ v,fin=.done (.ret v)∧Q v s') E s:=by
 show wpAny _ _ (Builtin.List.listItems (.ref x) >>= _) _ _ s
 refine wpAny_bind ?_
 unfold Builtin.List.listItems
 refine wpAny_bind (wpAny_seqItems hx rfl (wpAny_pure ?_))
 rw [if_neg (by simp)]
 have hk:seqIndex? (-1) (vs ++ [v]).toArray.size=some vs.length:=by
  rw [PySem.seqIndex_neg (by decide) (by simp;omega)]
  simp;omega
 rw [hk]
 have hy:(vs ++ [v]).toArray[vs.length]? = some v:=by simp
 simp only [Option.bind_some,hy,Option.map_some]
 refine wpAny_bind (m:=updateSeq x _) (wpAny_updateSeq hx rfl (wpAny_pure ⟨_,rfl,h _ (Heap.SameBut.update ..) ?_⟩) (by simpa using hz) ?_)
 · rw [Heap.get?_update_self _ hx (by rw [acc_drop];rfl),acc_drop]
 · have:=kl_erase (p:=vs) (y:=v) (q:=[])
   simp only [List.append_nil] at this
   rw [show (vs ++ [v]).toArray.eraseIdxIfInBounds vs.length=vs.toArray from by simpa using this]
   simp;omega
theorem tree_init {M:Model} {x d:Addr} {n:Nat} {Q:VP} (hx:s.heap.get? x=some (accObj d [] n))
 (h:∀ h' n',Heap.SameBut x s.heap h'→h'.get? x=some (accObj d [] n')→Q .none { s with heap:=h' }):wpAny M A (Builtin.«list.__init__» ⟨[.ref x],[]⟩) (fun fin s'=>∃ v,fin=.done (.ret v)∧Q v s') E s:=by
 show wpAny _ _ (Builtin.List.listItems (.ref x) >>= _) _ _ s
 refine wpAny_bind ?_
 unfold Builtin.List.listItems
 refine wpAny_bind (wpAny_seqItems hx rfl (wpAny_pure ?_))
 refine wpAny_bind (m:=updateSeq x (fun _=>#[])) (wpAny_updateSeq hx rfl ?_ (by simp) (by simp))
 refine wpAny_bind (wpAny_letGo ?_)
 refine wpAny_pure ⟨_,rfl,h _ n (Heap.SameBut.update ..) ?_⟩
 have e:Obj.mapSeq (fun _=>(#[]:Array Value)) (accObj d [] n)=accObj d [] n:=by simp [Obj.mapSeq]
 rw [Heap.get?_update_self _ hx (by rw [e];rfl),e]
noncomputable def IsSub (h:Heap) (l:Addr) (items:Array Value):Prop:=∃ o,h.get? l=some o∧∃ n,o.data=.seq items n
theorem IsSub.at {h h':Heap} {l:Addr} {items:Array Value} (x:IsSub h l items) (k:∀ o,h.get? l=some o→h'.get? l=some o):IsSub h' l items:=let ⟨o,e,r⟩:=x;⟨o,k _ e,r⟩
theorem sub_item {it l:Addr} {i:Nat} {items:Array Value} {x:Value} {Q:Option Value→Shared→Prop} (hit:s.heap.IsListIter it l i) (hl:IsSub s.heap l items) (hx:items[i]? = some x)
 (hQ:∀ h',h'.IsListIter it l (i+1)→Heap.SameBut it s.heap h'→Q (some x) { s with heap:=h' }):wpAny (model prog w) A (pyNext (.ref it)) Q E s:=by
 refine exE1 (id hit) fun o hh=>anE3 hh fun ho hc hd=>?_;clear hh
 obtain ⟨ol,hol,nl,hdl⟩:=hl
 unfold pyNext
 refine wpAny_bind (wpAny_attempt (wpAny_callSpecial?_slot (name:=Str.ofString "__next__") hit.typeIs slot_listiter_next (wpAny_call_entry slot_listiter_next hit.typeIs entry_listiter_next ?_ (args_listiter_next _))))
 show wpAny _ _ (field (.ref it) 0 >>= _) _ _ s
 refine wpAny_bind (wpAny_field ho hd (x:=.ref l) rfl ?_)
 rw [if_neg (show ¬ ((Value.ref l == Value.none)=true) from Bool.false_ne_true)]
 show wpAny _ _ (field (.ref it) 1 >>= _) _ _ s
 refine wpAny_bind (wpAny_field ho hd (x:=.int i 0) rfl ?_)
 show wpAny _ _ (seqItems? (.ref l) >>= _) _ _ s
 refine wpAny_bind (wpAny_seqItems hol hdl ?_)
 simp only [Int.toNat_natCast,hx]
 refine wpAny_bind (wpAny_setField ho hd (by simp) (wpAny_pure ⟨x,rfl,wpAny_pure (hQ _ ?_ (Heap.SameBut.update ..))⟩))
 exact exI1 _ (anI3 (Heap.get?_update_self _ ho (Obj.isFreed_of_fields (Obj.data_mapFields hd _))) ((Obj.cls_mapFields ..).trans hc) (by rw [Obj.data_mapFields hd];simp [rawInt]))
theorem sub_end {it l:Addr} {i:Nat} {items:Array Value} {Q:Option Value→Shared→Prop} (hh:A.handled=none) (hit:s.heap.IsListIter it l i) (hl:IsSub s.heap l items) (hx:items[i]? = none)
 (hQ:∀ h',Heap.ExtBut it s.heap h'→Q none { s with heap:=h' }):wpAny (model prog w) A (pyNext (.ref it)) Q E s:=by
 refine exE1 (id hit) fun o hh=>anE3 hh fun ho hc hd=>?_;clear hh
 obtain ⟨ol,hol,nl,hdl⟩:=hl
 unfold pyNext
 refine wpAny_bind (wpAny_attempt (wpAny_callSpecial?_slot (name:=Str.ofString "__next__") hit.typeIs slot_listiter_next (wpAny_call_entry slot_listiter_next hit.typeIs entry_listiter_next ?_ (args_listiter_next _))))
 show wpAny _ _ (field (.ref it) 0 >>= _) _ _ s
 refine wpAny_bind (wpAny_field ho hd (x:=.ref l) rfl ?_)
 rw [if_neg (show ¬ ((Value.ref l == Value.none)=true) from Bool.false_ne_true)]
 show wpAny _ _ (field (.ref it) 1 >>= _) _ _ s
 refine wpAny_bind (wpAny_field ho hd (x:=.int i 0) rfl ?_)
 show wpAny _ _ (seqItems? (.ref l) >>= _) _ _ s
 refine wpAny_bind (wpAny_seqItems hol hdl ?_)
 simp only [Int.toNat_natCast,hx]
 refine wpAny_bind (wpAny_rule (wpAny_bind (wpAny_setField ho hd (by simp) ?_)))
 show wpAny _ _ (newExc (.type "StopIteration") [] >>= _) _ _ _
 refine wpAny_bind ?_
 simp only [newExc,newTuple]
 refine wpAny_bind (wpAny_newObj_type ?_ (by size_fits))
 refine wpAny_bind (m:=firstArgMember _ _) (wpAny_of_eq (a:=Value.none) (by first | rfl | (simp only [firstArgMember];rfl)) ?_)
 refine wpAny_newObj_type ?_ (by size_fits)
 simp only [raiseNew]
 refine wpAny_bind (wpAny_handled ?_)
 rw [show A.in1.handled=none from hh]
 refine wpAny_bind (wpAny_pure (wpAny_throw ?_))
 refine wpAny_bind (wpAny_isInstance (T:="StopIteration") (b:=true) ⟨_,Heap.get?_push_size _ rfl,rfl⟩ isSubtype_stop ?_)
 exact wpAny_pure (hQ _ (((Heap.SameBut.update ..).extBut.push _).push _))
theorem acc_special {M:Model} {P:Params} {h:Heap} {x:Addr} {o:Obj} {name:Str} {r:Option Value} (X:(frag.heap_1 P).In h) (hx:h.get? x=some o) (hc:o.cls=.ref 200) (e:findIn (frag.heap_1 P) (.ref 200) name=some r):Looks M h (specialOf (.ref x) name) r :=
 (typeOf_acc hx hc).andThen (looks_findIn X e)
theorem bind_iter (v:Value):bindSpecial (.builtin "list.__iter__") v=pure (.builtin "list.__iter__",[v]):=slot_list_iter.bind v
theorem acc_iter {P:Params} {x:Addr} {o:Obj} {Q:VP} (X:(frag.heap_1 P).In s.heap) (hx:s.heap.get? x=some o) (hc:o.cls=.ref 200)
 (hQ:Q (.ref s.heap.objs.size) { s with heap:=s.heap.push { cls:=.type "list_iterator",data:=.fields #[.ref x,.int 0 0] } }):wpAny (model prog w) A (pyIter (.ref x)) Q E s:=by
 have sp:Looks (model prog w) s.heap (specialOf (.ref x) "__iter__") (some (.builtin "list.__iter__")):=acc_special X hx hc (by k_is)
 have ca:wpAny (model prog w) A (call (.builtin "list.__iter__") [.ref x]) (fun it s'=>∃ T' r,s'.TypeIs it T'∧typeLookup (.type T') "__next__"=pure (some r)∧Q it s') E s:=by
  refine acc_call X hx hc (.inl (by decide +kernel)) (n:="__iter__") (by decide +kernel) slot_list_iter.plain entry_list_iter (args_list_iter _) ?_
  show wpAny _ _ (do ret (← newFields "list_iterator" [.ref x,rawInt 0])) _ _ s
  exact wpAny_bind (wpAny_newObj_type (wpAny_pure ⟨_,rfl,"list_iterator",_,⟨_,Heap.get?_push_size _ rfl,rfl⟩,slot_listiter_next.lookup,hQ⟩))
 unfold pyIter
 refine wpAny_bind (sp.here ?_)
 show wpAny _ A (callSpecialIfBoundUnlessNone? (.ref x) "__iter__" _ >>= _) Q E s
 refine wpAny_bind ?_
 simp only [callSpecialIfBoundUnlessNone?,bindSpecialIfBound?]
 refine wpAny_holding (wpAny_bind (wpAny_bind (sp.here ?_)))
 simp only [bind_iter]
 refine wpAny_bind (wpAny_askSetting (wpAny_ite ?_))
 have fin:∀ refuse:Sem Value,wpAny (model prog w) A (if (Value.builtin "list.__iter__" == Value.none)=true then (refuse >>= fun v=>pure (some v)) else (call (.builtin "list.__iter__") [.ref x] >>= fun v=>pure (some v)))
  (fun r s'=>wpAny (model prog w) A (match r with
    | some it=>specialOf it "__next__" >>= fun o=>match o with
      | none=>rule "iter.non-iterator" >>= fun _=>typeNameOf it >>= fun nm=>raiseError "TypeError" s!"iter() returned non-iterator of type '{nm}'"
      | some _=>pure it
    | none=>bindSpecialIfBound? (.ref x) "__getitem__" >>= fun o=>match o with
      | none=>rule "iter.not-iterable" >>= fun _=>typeNameOf (.ref x) >>= fun nm=>raiseError "TypeError" s!"'{nm}' object is not iterable"
      | some _=>rule "iter.getitem-fallback" >>= fun _=>mkInt 0 >>= fun k=>newFields "iterator" [.ref x,k]) Q E s') E s:=fun refuse=>by
  simp only [builtin_beq_none,Bool.false_eq_true,if_false]
  refine wpAny_bind (wpAny_mono ca (fun v s' h'=>wpAny_pure ?_) fun _ _ h'=>h')
  refine exE2 h' fun T' r hh=>anE3 hh fun hT' hl hQ'=>?_;clear hh;try clear h'
  exact wpAny_bind (wpAny_specialOf hT' hl (wpAny_pure hQ'))
 split
 · exact wpAny_bind (wpAny_pure (wpAny_pure (fin _)))
 · exact wpAny_tryCatch (wpAny_bind (wpAny_pure (wpAny_pure (fin _))))
theorem acc_key {M:Model} {P:Params} {x:Addr} {o:Obj} {k:Value} {name:Str} {Q:VP} (X:(frag.heap_1 P).In s.heap) (hx:s.heap.get? x=some o) (hc:o.cls=.ref 200) (h:Q k s):wpAny M A (sequenceKey (.ref x) k name) Q E s:=by
 unfold sequenceKey
 refine wpAny_bind ((typeOf_acc hx hc).here ?_)
 have nd:Looks M s.heap (isSubtype (.ref 200) (.type "collections.deque")) false:=looks_subIn X (by k_is)
 have na:Looks M s.heap (seqItemTypes.anyM fun n=>isSubtype (.ref 200) (.type n)) false:=by
  unfold seqItemTypes
  exact nd.andThen .now
 dsimp only
 refine wpAny_bind (na.here ?_)
 first | with_reducible refine iP (by decide) ?_ | rw [if_pos (by decide)]
 exact wpAny_pure h
theorem acc_slice {P:Params} {x d sl:Addr} {vs:List Value} {n:Nat} {k:Int} {tk:Tok} {Q:VP} (X:(frag.heap_1 P).In s.heap) (hx:s.heap.get? x=some (accObj d vs n)) (hs:s.heap.IsSliceOf sl (.int k tk) .none .none) (hz:vs.length≤sizeLine)
 (h:Q (.ref s.heap.objs.size) { s with heap:=s.heap.push { cls:=.type "list",data:=.seq (slicePick vs.toArray (some k) none none) } }):wpAny (model prog w) A (getItem (.ref x) (.ref sl)) Q E s:=by
 refine exE1 (id hs) fun os hh=>anE3 hh fun hos hcs hds=>?_;clear hh
 have hTs:s.TypeIs (.ref sl) "slice":=⟨os,hos,hcs⟩
 have sp:Looks (model prog w) s.heap (specialOf (.ref x) "__getitem__") (some (.builtin "list.__getitem__")):=acc_special X hx rfl (by k_is)
 unfold getItem
 refine wpAny_holding ?_
 refine wpAny_bind (acc_key X hx rfl ?_)
 refine wpAny_bind ?_
 simp only [callSpecial?]
 refine wpAny_bind (sp.here ?_)
 simp only [slot_list_getitem.bind]
 refine wpAny_holding (wpAny_bind (wpAny_pure (wpAny_bind ?_)))
 show wpAny _ _ (call (.builtin "list.__getitem__") [.ref x,.ref sl]) _ _ _
 refine acc_call X hx rfl (.inr (by decide +kernel)) (n:="__getitem__") (by decide +kernel) slot_list_getitem.plain entry_list_getitem (args_list_getitem _ _) ?_
 show wpAny _ _ (Builtin.List.listSubscript? (.ref sl) >>= _) _ _ s
 refine wpAny_bind ?_
 unfold Builtin.List.listSubscript?
 refine wpAny_bind (wpAny_specialOf hTs slice_no_index ?_)
 simp only [Option.isNone_none,if_true]
 refine wpAny_pure ?_
 show wpAny _ _ (typeOf (.ref sl) >>= _) _ _ s
 refine wpAny_bind (wpAny_typeOf hTs ?_)
 first | with_reducible refine iN (by decide) ?_ | rw [if_neg (by decide)]
 rw [listSliceParts_eq]
 refine wpAny_bind (wpAny_bind (wpAny_field hos hds (x:=.none) rfl (wpAny_bind (wpAny_listPart .none ?_))))
 rw [if_neg (show ¬ ((rawPart none == rawInt 0)=true) from Bool.false_ne_true)]
 refine wpAny_bind (wpAny_field hos hds (x:=.int k tk) rfl (wpAny_bind (wpAny_listPart (.int k tk) ?_)))
 refine wpAny_bind (wpAny_field hos hds (x:=.none) rfl (wpAny_bind (wpAny_listPart .none (wpAny_pure ?_))))
 refine wpAny_bind (m:=Builtin.List.listItems (.ref x)) ?_
 unfold Builtin.List.listItems
 refine wpAny_bind (wpAny_seqItems hx rfl (wpAny_pure ?_))
 refine wpAny_bind (wpAny_of_eq (sliceIndices_raw (some k) none none vs.toArray.size (by simp)) ?_)
 refine wpAny_bind (wpAny_newObj_type (wpAny_pure ⟨_,rfl,wpAny_pure (wpAny_pure h)⟩) (Nat.le_trans (slicePick_size_le _ _ _ _) (by simpa using hz)))
theorem pick_from (vs:List Value) (k:Nat) (hk:k≤vs.length):slicePick vs.toArray (some (k:Int)) none none=(vs.drop k).toArray:=by
 rw [slicePick_from vs.toArray k (by simpa using hk)]
theorem acc_take (d:Addr) (vs:List Value) (n k:Nat) (hk:k < vs.length) (f:Array Value→Array Value) (hf:f vs.toArray=(vs.take k).toArray):Obj.mapSeq f (accObj d vs n)=accObj d (vs.take k) (n+1):=by
 have h1:(vs.take k).length≠vs.length:=by rw [List.length_take];omega
 simp only [Obj.mapSeq,hf]
 rw [if_neg (by simpa using h1)]
theorem acc_cut {P:Params} {x d sl e:Addr} {vs:List Value} {n ne k:Nat} {tk:Tok} {Q:Unit→Shared→Prop} (X:(frag.heap_1 P).In s.heap) (hx:s.heap.get? x=some (accObj d vs n)) (hs:s.heap.IsSliceOf sl (.int k tk) .none .none) (he:s.heap.get? e=some (listOf #[] ne)) (hk:k < vs.length) (hz:vs.length≤sizeLine)
 (h:∀ h',Heap.SameBut x s.heap h'→h'.get? x=some (accObj d (vs.take k) (n+1))→Q () { s with heap:=h' }):wpAny (model prog w) A (setItem (.ref x) (.ref sl) (.ref e)) Q E s:=by
 refine exE1 (id hs) fun os hh=>anE3 hh fun hos hcs hds=>?_;clear hh
 have hTs:s.TypeIs (.ref sl) "slice":=⟨os,hos,hcs⟩
 have hTe:s.TypeIs (.ref e) "list":=⟨_,he,rfl⟩
 have sp:Looks (model prog w) s.heap (specialOf (.ref x) "__setitem__") (some (.builtin "list.__setitem__")):=acc_special X hx rfl (by k_is)
 have nxe:(Builtin.List.listSameRef (.ref x) (.ref e))=false:=by
  have:x≠e:=fun q=>by rw [q,he] at hx;have:=congrArg Obj.cls (Option.some.inj hx);cases this
  simp [Builtin.List.listSameRef,this]
 unfold setItem
 refine wpAny_holding ?_
 refine wpAny_bind (acc_key X hx rfl ?_)
 refine wpAny_bind ?_
 simp only [callSpecial?]
 refine wpAny_bind (sp.here ?_)
 simp only [slot_list_setitem.bind]
 refine wpAny_holding (wpAny_bind (wpAny_pure (wpAny_bind ?_)))
 show wpAny _ _ (call (.builtin "list.__setitem__") [.ref x,.ref sl,.ref e]) _ _ _
 refine acc_call X hx rfl (.inl (by decide +kernel)) (n:="__setitem__") (by decide +kernel) slot_list_setitem.plain entry_list_setitem (args_list_setitem _ _ _) ?_
 show wpAny _ _ (Builtin.List.listSubscript? (.ref sl) >>= _) _ _ s
 refine wpAny_bind ?_
 unfold Builtin.List.listSubscript?
 refine wpAny_bind (wpAny_specialOf hTs slice_no_index ?_)
 simp only [Option.isNone_none,if_true]
 refine wpAny_pure ?_
 show wpAny _ _ (typeOf (.ref sl) >>= _) _ _ s
 refine wpAny_bind (wpAny_typeOf hTs ?_)
 first | with_reducible refine iN (by decide) ?_ | rw [if_neg (by decide)]
 rw [listSliceParts_eq]
 refine wpAny_bind (wpAny_bind (wpAny_field hos hds (x:=.none) rfl (wpAny_bind (wpAny_listPart .none ?_))))
 rw [if_neg (show ¬ ((rawPart none == rawInt 0)=true) from Bool.false_ne_true)]
 refine wpAny_bind (wpAny_field hos hds (x:=.int k tk) rfl (wpAny_bind (wpAny_listPart (.int k tk) ?_)))
 refine wpAny_bind (wpAny_field hos hds (x:=.none) rfl (wpAny_bind (wpAny_listPart .none (wpAny_pure ?_))))
 dsimp only
 rw [nxe]
 simp only [Bool.false_eq_true,if_false]
 refine wpAny_bind (m:=Builtin.List.listAllItems (.ref e) _) ?_
 unfold Builtin.List.listAllItems
 refine wpAny_bind (wpAny_typeOf hTe ?_)
 first | with_reducible refine iP (by decide) ?_ | rw [if_pos (by decide)]
 unfold Builtin.List.listItems
 refine wpAny_bind (wpAny_seqItems he rfl (wpAny_pure ?_))
 refine wpAny_bind (wpAny_bind (wpAny_seqItems hx rfl (wpAny_pure ?_)))
 refine wpAny_bind (wpAny_of_eq (sliceIndices_raw (some (k:Int)) none none vs.toArray.size (by simp)) ?_)
 have hb:sliceBounds (some (k:Int)) none none vs.toArray.size=((k:Int),(vs.length:Int),1):=by
  simp only [sliceBounds,List.size_toArray]
  simp
  omega
 rw [hb]
 dsimp only
 first | with_reducible refine iP (by decide) ?_ | rw [if_pos (by decide)]
 refine wpAny_bind (m:=rule _) (wpAny_rule ?_)
 have tl:Builtin.List.listTooLong (vs.toArray.size+(#[]:Array Value).size)=false:=by
  unfold Builtin.List.listTooLong
  simpa using hz
 rw [tl]
 simp only [Bool.false_eq_true,if_false]
 have hf:(fun xs:Array Value=>xs.extract 0 (k:Int).toNat ++ #[] ++ xs.extract (max (k:Int) (vs.length:Int)).toNat xs.size) vs.toArray=(vs.take k).toArray:=by
  have e1:(max (k:Int) (vs.length:Int)).toNat=vs.length:=by omega
  simp [e1]
 refine wpAny_bind (m:=updateSeq x _) (wpAny_updateSeq hx rfl ?_ (by simpa using hz) ?_)
 · refine wpAny_bind (wpAny_letGo ?_)
   refine wpAny_pure ⟨_,rfl,wpAny_pure (wpAny_pure (h _ (Heap.SameBut.update ..) ?_))⟩
   rw [Heap.get?_update_self _ hx (by rw [acc_take d vs n k hk _ hf];rfl),acc_take d vs n k hk _ hf]
 · have hf2:=congrArg Array.size hf
   have h9:(vs.take k).toArray.size≤sizeLine+1:=by simp;omega
   exact Nat.le_trans (Nat.le_of_eq hf2) h9
end
section
noncomputable abbrev pairO (a b:Str) (ta tb:Tok):Obj:=⟨.type "tuple",none,.seq #[.str a ta,.str b tb] 0,#[]⟩
noncomputable def Piece (h:Heap) (v:Value) (p:Str×Str):Prop:=∃ T ta tb,v=.ref T∧At h T (pairO p.1 p.2 ta tb)
inductive Pieces (h:Heap):List Value→List (Str×Str)→Prop
 | nil:Pieces h [] []
 | cons {v vs p ps}:Piece h v p→Pieces h vs ps→Pieces h (v :: vs) (p :: ps)
theorem Pieces.len {h:Heap} {vs:List Value} {ps:List (Str×Str)} (x:Pieces h vs ps):vs.length=ps.length:=by
 induction x with
 | nil=>rfl
 | cons _ _ ih=>simp [ih]
theorem Pieces.get {h:Heap} {vs:List Value} {ps:List (Str×Str)} (x:Pieces h vs ps):∀ i,i < vs.length→∃ (T:Addr) (p:Str×Str) (ta tb:Tok),vs[i]? = some (.ref T)∧ps[i]? = some p∧At h T (pairO p.1 p.2 ta tb):=by
 induction x with
 | nil=>intro i hi;simp at hi
 | cons hp _ ih =>
   intro i hi
   cases i with
   | zero =>
     refine exE3 hp fun T ta tb hh=>anE2 hh fun z3 h=>?_;clear hh;try clear hp;rcases z3 with rfl
     exact exI4 T _ ta tb (anI3 (by simp) (by simp) h)
   | succ i =>
     refine exE4 (ih i (by simpa using hi)) fun T p ta tb hh=>anE3 hh fun h1 h2 h3=>?_;clear hh
     exact exI4 T p ta tb (anI3 (by simpa using h1) (by simpa using h2) h3)
section
variable {w:World} {A:Around} {E:VP} {s:Shared}
theorem walksU_acc (hh:A.handled=none) (I ax:Addr) (hne:ax≠I) (items:Array Value) (Ts:Nat→Addr) (vals:Nat→Array Value)
 (hit:∀ j,j < items.size→items[j]? = some (.ref (Ts j))) (hTI:∀ j,j < items.size→Ts j≠I) :
 WalksU prog w A I (I :: ax :: (List.range items.size).map Ts) [I] items.size (fun j v=>v=vals j∧j < items.size)
  (fun j h=>h.IsListIter I ax j∧IsSub h ax items∧∀ k,k < items.size→h.IsTuple (Ts k) (vals k))
  (fun j T h=>(j < items.size∧T=Ts j)∧h.IsListIter I ax (j+1)∧IsSub h ax items∧∀ k,k < items.size→h.IsTuple (Ts k) (vals k)) where
 sub:=fun b hb=>by simp at hb;simp [hb]
 frame:=fun _ _ _ st hk=>⟨st.1.at fun o e=>hk I (by simp) o e,st.2.1.at fun o e=>hk ax (by simp) o e,
  fun k hk'=>(st.2.2 k hk').at fun o e=>hk (Ts k) (List.mem_cons_of_mem _ (List.mem_cons_of_mem _ (List.mem_map.mpr ⟨k,List.mem_range.mpr hk',rfl⟩))) o e⟩
 item:=fun i s Q E hi st hQ=>by
  refine sub_item st.1 st.2.1 (x:=.ref (Ts i)) (hit i hi) fun h' hit' hs'=>?_
  have tup:∀ k,k < items.size→h'.IsTuple (Ts k) (vals k):=fun k hk'=>(st.2.2 k hk').extBut hs'.extBut (hTI k hk')
  exact hQ (Ts i) (vals i) h' s.toks ⟨rfl,hi⟩ (tup i hi) ⟨⟨hi,rfl⟩,hit',st.2.1.at (fun o e=>hs'.extBut ax o hne e),tup⟩ fun b o hb e=>hs'.extBut b o (fun h=>hb (by simp [h])) e
 go:=fun _ _ _ _ _ s Q _ hm hQ=>wpAny_letOwnedTupleGo_listiter hm.2.1 (hQ s.heap hm.2 fun _ _ _ e=>e)
 apart:=fun j T _ hm hmem=>by
  rcases mC hmem with e | e
  · exact hTI j hm.1.1 (hm.1.2▸e)
  · cases e
 done:=fun s Q E st hQ=>sub_end hh st.1 st.2.1 (by simp) fun h' he'=>hQ h' s.toks fun b o hb e=>he' b o (fun h=>hb (by simp [h])) e
 self:=fun _ _ _ _ st hQ=>wpAny_pyIter_listiter st.1 hQ
theorem gen_code {env:Env} {c P:Addr} {pos:Pos} {q:Str} {scope:Scope} {ln cl:Int} {Q:VP} (hc:env.code=.ref c) (C:CodeHd s.heap c P) (t:TabOk P q ln cl s.heap) (hsz:250≤s.heap.objs.size)
 (hln:rawInt pos.line=rawInt ln) (hcol:rawInt pos.col=rawInt cl) (hhit:∀ c0:Addr,codeAmong pos [rawInt ln,rawInt cl,.ref c0]=some (.ref c0))
 (h:∀ c' h' tk,(∀ b o,b≠P→s.heap.get? b=some o→h'.get? b=some o)→TabOk P q ln cl h'→s.heap.objs.size≤h'.objs.size→Q (.ref c') { s with heap:=h',toks:=tk }) :
 wpAny (model prog w) A (genexprCode env pos q scope) Q E s:=by
 rcases t with e | ⟨c0,h250,e,hcr⟩
 · refine wpAny_genexprCodeX hc (C.code e True.intro) (C.tab e) rfl fun c' h' tk hx hge hlt hcode hrec htab _=>?_
   refine h c' h' tk hx (.inr ⟨c',Nat.le_trans hsz hge,?_,hrec⟩) (Nat.le_trans hge (Nat.le_of_lt hlt))
   have:=htab.2
   rw [hln,hcol] at this
   exact this
 · refine wpAny_genexprCode_hit hc (C.code e (by simp [TriplesOk,rawInt])) (hhit c0) ?_
   exact h c0 s.heap s.toks (fun _ _ _ e=>e) (.inr ⟨c0,h250,e,hcr⟩) (Nat.le_refl _)
noncomputable def GenOf (w:World) (A:Around) (a N:Addr) (n:Nat) (F:Nat→Value→Prop) (s:Shared):Prop :=
 ∃ fp wr g St,WalksS prog w A.in4 a fp wr (GenOnlyQ g) n F St∧St 0 s∧(∀ i s',St i s'→s'.TypeIs (.ref a) "generator")∧a∈fp∧(∀ b∈fp,b < s.heap.objs.size)∧(∀ b∈wr,N≤b)∧∀ h':Heap,(∀ b o,b∉wr→s.heap.get? b=some o→h'.get? b=some o)→Inv w h'
theorem GenOf.toks {a N:Addr} {n:Nat} {F:Nat→Value→Prop} (x:GenOf w A a N n F s) {k:Nat} (h:s.toks≤k):GenOf w A a N n F { s with toks:=k }:=by
 refine exE4 x fun fp wr g St hh=>anE3 hh fun W hst r=>?_;clear hh;try clear x
 exact exI4 fp wr g St (anI3 W (W.frame 0 s s.heap k hst h fun _ _ _ e=>e) r)
theorem tabsBut {h h':Heap} {P:Addr} {q:Str} {ln cl:Int} (x:TabOk P q ln cl h) {P':Addr} (ne:P≠P') (k:∀ b o,b≠P'→h.get? b=some o→h'.get? b=some o) (lt:P' < 250):TabOk P q ln cl h':=by
 rcases x with e | ⟨c',h1,e,c,o,vs,t,ec,g,r⟩
 · exact .inl (k _ _ ne e)
 · cases ec
   exact .inr ⟨c',h1,k _ _ ne e,c',o,vs,t,rfl,k _ _ (fun q=>absurd h1 (Nat.not_le.mpr (q▸lt))) g,r⟩
theorem Inv.tabTurn {h h':Heap} {P:Addr} (I:Inv w h) (hP:P∈TB) (k:∀ b o,b≠P→h.get? b=some o→h'.get? b=some o) (t:TabsOk h'):Inv w h' :=
 Inv0.inv (I.zero.keeps fun b o e _ hb=>k b o (fun q=>hb (q▸hP)) e) t
theorem passing_all (n:Nat):passing (fun _=>true) n 0=List.range n:=by
 unfold passing
 rw [List.drop_zero]
 exact List.filter_eq_self.mpr fun _ _=>rfl
theorem inv_but {h h':Heap} {I:Addr} {o:Obj} (x:Inv w h) (ho:h.get? I=some o) (hc:isCode o=false) (hI:250≤I) (k:∀ b o,b≠I→h.get? b=some o→h'.get? b=some o):Inv w h':=by
 refine x.keeps fun b o' e hb=>k b o' (fun q=>?_) e
 subst q
 rcases hb with hb | hb
 · exact absurd hI (Nat.not_le.mpr hb)
 · rw [ho] at e;cases e;rw [hc] at hb;cases hb
noncomputable abbrev genAcc (elt:PySem.Expr) (pa pb pt ps:Pos) (kt:Nat) (scope:Scope) (pos:Pos):PySem.Expr:=.GeneratorExp elt [⟨.Tuple [.Name "fws" pa,.Name "part" pb] kt pt,.Name "self" ps,[],0⟩] scope pos
theorem gen_acc {env:Env} {elt:PySem.Expr} {pa pb pt pself:Pos} {kt:Nat} {scope:Scope} {pos:Pos} {c P x d:Addr} {q:Str} {ln cl:Int} {vs:List Value} {ps:List (Str×Str)} {n:Nat} {G:Str×Str→Value→Prop} {Q:VP}
 (hh:A.handled=none) (hroom:A.depth < recursionLimit) (I:Inv w s.heap) (hgl:env.globals=mainGlobals) (hq:env.qual ++ "<genexpr>"=q)
 (hc:env.code=.ref c) (C:CodeHd s.heap c P) (hP:P∈TB) (t:TabOk P q ln cl s.heap) (htabs:∀ h h',TabsOk h→(∀ b o,b≠P→h.get? b=some o→h'.get? b=some o)→TabOk P q ln cl h'→TabsOk h')
 (hln:rawInt pos.line=rawInt ln) (hcol:rawInt pos.col=rawInt cl) (hhit:∀ c0:Addr,codeAmong pos [rawInt ln,rawInt cl,.ref c0]=some (.ref c0))
 (hco:scope.isCoroutine=false) (hclos:closureFor scope env=pure []) (hcell:∀ y∈scope.names,y.2≠.cell) (h0:scope.names.lookup (".0":Str)=some NameKind.local)
 (hxa:scope.names.lookup ("fws":Str)=some .local) (hxb:scope.names.lookup ("part":Str)=some .local) (hkind:scope.kind=.function)
 (hit:∀ Q':VP,Q' (.ref x) s→wpAny (model prog w) A (eval (.Name "self" pself) env) Q' E s)
 (hx:At s.heap x (accObj d vs n)) (hps:Pieces s.heap vs ps)
 (helt:∀ (A':Around) (E':VP) (C:Addr) (code:Value) (t:Shared) m₂ p ta tb,A'.handled=none→p∈ps→Inv w t.heap→250≤C→t.heap.Ns C m₂→m₂ "fws"=some (.str p.1 ta)→m₂ "part"=some (.str p.2 tb) →
   wpAny (model prog w) A' (eval elt (genEnv scope [] C code builtinsNs env)) (fun y s₃=>G p y∧_root_.PySem.Keeps t s₃) E' t)
 (k:∀ a s',Step w [P] s s'→GenOf w A a s.heap.objs.size vs.length (fun j y=>∃ p,ps[j]? = some p∧G p y) s'→Q (.ref a) s') :
 wpAny (model prog w) A (eval (genAcc elt pa pb pt pself kt scope pos) env) Q E s:=by
 have hP250:P < 250:=by
  simp only [TB,List.mem_cons,nM,or_false] at hP
  rcases hP with rfl | rfl | rfl | rfl | rfl <;> decide
 have hsk:∀ i,∃ r:Addr×(Str×Str)×Tok×Tok,i < vs.length→vs[i]? = some (.ref r.1)∧ps[i]? = some r.2.1∧At s.heap r.1 (pairO r.2.1.1 r.2.1.2 r.2.2.1 r.2.2.2):=fun i=>by
  by_cases hi:i < vs.length
  · refine exE4 (hps.get i hi) fun T p ta tb h=>?_
    exact ⟨(T,p,ta,tb),fun _=>h⟩
  · exact ⟨(0,("",""),0,0),fun h=>absurd h hi⟩
 obtain ⟨f,hf⟩:=Classical.skolem.mp hsk
 let It:Addr:=s.heap.objs.size
 let s₁:Shared:={ s with heap:=s.heap.push { cls:=.type "list_iterator",data:=.fields #[.ref x,.int 0 0] } }
 have hs1:s₁.heap.objs.size=s.heap.objs.size+1:=Heap.size_push ..
 have k1:∀ b o,s.heap.get? b=some o→s₁.heap.get? b=some o:=fun b o e=>Heap.get?_push_of_some _ e
 have I1:Inv w s₁.heap:=I.keepAll k1
 have hIt:s₁.heap.get? It=some { cls:=.type "list_iterator",data:=.fields #[.ref x,.int 0 0] }:=Heap.get?_push_size _ rfl
 refine wpAny_GeneratorExp_walksQT hh hco hclos hcell h0 hxa hxb (by decide) hkind hroom (hit _ ?_) (by intro _;rfl)
 have hx1:=hx.1
 with_reducible refine acc_iter I.K hx1 rfl ?_
 refine exE4 I1.T fun loose mean mg mb T=>?_
 refine ⟨T.nolimit,?_⟩
 rw [hq]
 refine gen_code hc (C.keeps k1) ?_ I1.size hln hcol hhit fun c' h₃ tk₃ hk₃ ht₃ hsz₃=>?_
 · rcases t with e | ⟨c',h1,e,c,o,vs,t,ec,g,r⟩
   · exact .inl (k1 _ _ e)
   · exact .inr ⟨c',h1,k1 _ _ e,c,o,vs,t,ec,k1 _ _ g,r⟩
 have I3:Inv w h₃:=Inv.tabTurn I1 hP hk₃ (htabs _ _ I1.tabs hk₃ ht₃)
 refine exE4 I3.T fun loose3 mean3 mg3 mb3 T3=>?_
 refine exE2 T3.bmain fun bm ob hh=>anE6 hh fun b1 b2 b3 b4 b5 b6=>?_;clear hh
 have neP:∀ {b:Addr},250≤b→b≠P:=fun hb e=>absurd hb (Nat.not_le.mpr (e▸hP250))
 have hIt250:250≤It:=I.size
 have hIt3:h₃.get? It=some { cls:=.type "list_iterator",data:=.fields #[.ref x,.int 0 0] }:=hk₃ _ _ (neP hIt250) hIt
 refine wpAny_builtinsFor (hgl▸T3.g) b1 b2 b3 b4 b5 b6 ?_
 have hTsz:∀ j,j < vs.toArray.size→(f j).1 < s.heap.objs.size:=fun j hj=>((hf j (by simpa using hj)).2.2).lt
 have hxlt:x < s.heap.objs.size:=hx.lt
 have hlt3:∀ {b:Addr},b < s.heap.objs.size→b < h₃.objs.size:=fun hb=>Nat.lt_of_lt_of_le hb (Nat.le_trans (Nat.le_of_lt (by rw [hs1];exact Nat.lt_succ_self _)) hsz₃)
 refine exI9 It (It :: x :: (List.range vs.toArray.size).map (fun j=>(f j).1)) [It] vs.toArray.size _ _ _ (fun _=>true) (fun j y=>∃ p,ps[j]? = some p∧G p y) (anI9 rfl
  (fun A' hA'=>walksU_acc hA' It x (Nat.ne_of_lt hxlt) vs.toArray (fun j=>(f j).1) (fun j=>#[.str (f j).2.1.1 (f j).2.2.1,.str (f j).2.1.2 (f j).2.2.2]) (fun j hj=>by have:=(hf j (by simpa using hj)).1;simpa using this) (fun j hj=>Nat.ne_of_lt (hTsz j hj)))
  (fun i vals h=>⟨_,_,h.1⟩) ?_ ?_ T3.nolimit ?_ ?_ ?_)
 · refine ⟨⟨_,hIt3,rfl,rfl⟩,⟨_,hk₃ _ _ (neP hx.2) (k1 _ _ hx.1),_,rfl⟩,fun j hj=>?_⟩
   have h9:=(hf j (by simpa using hj)).2.2
   exact ⟨_,hk₃ _ _ (neP h9.2) (k1 _ _ h9.1),rfl,_,rfl⟩
 · intro b hb
   rcases mC hb with rfl | hb
   · exact Heap.lt_size hIt3
   · rcases mC hb with rfl | hb
     · exact hlt3 hxlt
     · obtain ⟨j,hj,rfl⟩:=List.mem_map.mp hb
       exact hlt3 (hTsz j (List.mem_range.mp hj))
 · intro hm
   have:cStatics=It:=mS hm
   rw [← this] at hIt250
   exact absurd hIt250 (by decide)
 · intro href hhref
   refine ⟨fun A' E' i va vb s₂ m₂ hA hPt hn _ _ _=>wpAny_pure ⟨rfl,s₂.heap,s₂.toks,rfl,fun _ _ e=>e⟩,fun A' E' i va vb s₂ m₂ hA hPt _ hn ha hb hkp=>?_⟩
   obtain ⟨e,hi⟩:=hPt
   obtain ⟨-,hp,-⟩:=hf i (by simpa using hi)
   have ea:va=.str (f i).2.1.1 (f i).2.2.1:=by have:=congrArg (fun z:Array Value=>z[0]?) e;simpa using this
   have eb:vb=.str (f i).2.1.2 (f i).2.2.2:=by have:=congrArg (fun z:Array Value=>z[1]?) e;simpa using this
   subst ea eb
   have I2:Inv w s₂.heap:=inv_but I3 hIt3 rfl hIt250 fun b o hb e=>hkp b (List.mem_range.mpr (Heap.lt_size e)) (fun h=>hb (mS h)) o (hhref b o e)
   refine wpAny_mono (helt A' E' h₃.objs.size _ s₂ m₂ (f i).2.1 _ _ hA (List.mem_of_getElem? hp) I2 I3.size hn ha hb) (fun y s₃ h=>⟨⟨_,hp,h.1⟩,h.2⟩) fun _ _ e=>e
 · intro a h₅ tk gs hgb hag hsz₅ hk₅ W hat
   have I5:Inv w h₅:=I3.keepAll hk₅
   refine k a _ ⟨fun b o e hb=>hk₅ b o (hk₃ b o (fun q=>hb (List.mem_singleton.mpr q)) (k1 b o e)),rfl,fun g=>g.push hgb,I5⟩ ?_
   rw [passing_all,List.length_range,List.size_toArray] at W
   refine exI4 (a :: h₃.objs.size :: List.range h₃.objs.size) [h₃.objs.size,It] s.gens.size _ (anI7 ?W3 hat (fun i s' st=>st.1.typeIs) List.mem_cons_self ?_ ?_ ?_)
   rotate_left
   · intro b hb
     show b < h₅.objs.size
     rw [hsz₅]
     rcases mC hb with rfl | hb
     · exact Nat.lt_succ_self _
     · rcases mC hb with rfl | hb
       · exact Nat.lt_succ_of_lt hag
       · exact Nat.lt_succ_of_lt (Nat.lt_trans (List.mem_range.mp hb) hag)
   · intro b hb
     rcases mC hb with rfl | hb
     · exact Nat.le_trans (Nat.le_of_lt (by rw [hs1];exact Nat.lt_succ_self _)) hsz₃
     · rw [mS hb];exact Nat.le_refl _
   · intro h' hk'
     refine inv_but I3 hIt3 rfl hIt250 fun b o hb e=>hk' b o (fun hm=>?_) (hk₅ b o e)
     rcases mC hm with rfl | hm
     · exact absurd (Heap.lt_size e) (Nat.lt_irrefl _)
     · exact hb (mS hm)
   · exact { W with item:=fun i s Q E hi st hQ=>W.item i s Q E hi st fun v s' hP st' hm=>hQ v s' (by
      obtain ⟨j,hj,hF⟩:=hP
      have e9:j=i:=by
       have h9:=hj
       try rw [passing_all] at h9
       have hl:i < (List.range vs.length).length:=by rw [List.length_range];exact hi
       simp [hi] at h9
       exact h9.symm
      subst e9;exact hF) st' hm }
end
end
section
noncomputable abbrev supO (x:Addr):Obj:=⟨.type "super",none,.fields #[.ref 200,.ref x,.ref 200],#[]⟩
noncomputable abbrev bob (W id:String) (a:Addr):Obj:=⟨.type W,none,.fields #[.builtin id,.ref a],#[]⟩
section
variable {w:World} {A:Around} {E:VP} {s:Shared}
structure Gets (id n T W:String) (b:Builtin):Prop where
 own:(kfb_private% "ownerAndName") id=("list",n)
 ty:typeOf (.builtin id)=pure (.type T)
 slot:Slot T "__get__" (T ++ ".__get__")
 run:∀ (M:Model) (A:Around) (P:Fin→Shared→Prop) (E:VP) (s:Shared) (x:Addr),Looks M s.heap (isInstance (.ref x) (.type "list")) true →
  P (.done (.ret (.ref s.heap.objs.size))) { s with heap:=s.heap.push (bob W id x) }→wpAny M A (b ⟨[.builtin id,.ref x,.ref 200],[]⟩) P E s
 entry:entryFor table (T ++ ".__get__")=some b
 args:∀ a c d,argsOk (T ++ ".__get__") ⟨[a,c,d],[]⟩
theorem nac {id n:String} (h:(kfb_private% "ownerAndName") id=("list",n)):(kfb_private% "nameAndClass") (.builtin id)=pure (Str.ofString n,.type "list"):=by
 show pure (Str.ofString ((kfb_private% "ownerAndName") id).2,Value.type ((kfb_private% "ownerAndName") id).1)=_
 rw [h]
theorem run_wd {id n:String} (h:(kfb_private% "ownerAndName") id=("list",n)) (M:Model) (A:Around) (P:Fin→Shared→Prop) (E:VP) (s:Shared) (x:Addr) (hi:Looks M s.heap (isInstance (.ref x) (.type "list")) true)
 (k:P (.done (.ret (.ref s.heap.objs.size))) { s with heap:=s.heap.push (bob "method-wrapper" id x) }):wpAny M A (Builtin.«wrapper_descriptor.__get__» ⟨[.builtin id,.ref x,.ref 200],[]⟩) P E s:=by
 unfold Builtin.«wrapper_descriptor.__get__»
 refine wpAny_bind (wpAny_of_eq (a:=(.builtin id,some (.ref x),some (.ref 200))) rfl ?_)
 show wpAny _ _ ((kfb_private% "checkInstance") (.builtin id) (.ref x) >>= fun _=>newFields "method-wrapper" [.builtin id,.ref x] >>= fun v=>ret v) _ _ _
 refine wpAny_bind ?_
 show wpAny _ _ ((kfb_private% "nameAndClass") (.builtin id) >>= _) _ _ _
 rw [nac h]
 refine wpAny_bind (wpAny_pure ?_)
 refine wpAny_bind (hi.here ?_)
 first | with_reducible refine iN (by decide) ?_ | rw [if_neg (by decide)]
 exact wpAny_pure (wpAny_bind (wpAny_newObj_type (wpAny_pure k)))
theorem run_md {id n:String} (h:(kfb_private% "ownerAndName") id=("list",n)) (ht:Manifest.toldItsClass.contains id=false) (M:Model) (A:Around) (P:Fin→Shared→Prop) (E:VP) (s:Shared) (x:Addr) (hi:Looks M s.heap (isInstance (.ref x) (.type "list")) true)
 (k:P (.done (.ret (.ref s.heap.objs.size))) { s with heap:=s.heap.push (bob "builtin_function_or_method" id x) }):wpAny M A (Builtin.«method_descriptor.__get__» ⟨[.builtin id,.ref x,.ref 200],[]⟩) P E s:=by
 unfold Builtin.«method_descriptor.__get__»
 refine wpAny_bind (wpAny_of_eq (a:=(.builtin id,some (.ref x),some (.ref 200))) rfl ?_)
 dsimp only
 rw [ht]
 simp only [Bool.false_eq_true,if_false]
 show wpAny _ _ ((kfb_private% "checkInstance") (.builtin id) (.ref x) >>= fun _=>newFields "builtin_function_or_method" [.builtin id,.ref x] >>= fun v=>ret v) _ _ _
 refine wpAny_bind ?_
 show wpAny _ _ ((kfb_private% "nameAndClass") (.builtin id) >>= _) _ _ _
 rw [nac h]
 refine wpAny_bind (wpAny_pure ?_)
 refine wpAny_bind (hi.here ?_)
 first | with_reducible refine iN (by decide) ?_ | rw [if_neg (by decide)]
 exact wpAny_pure (wpAny_bind (wpAny_newObj_type (wpAny_pure k)))
theorem slot_wd:Slot "wrapper_descriptor" "__get__" "wrapper_descriptor.__get__" :=
 .of (owner:="wrapper_descriptor") (n:="__get__") (by rw [typeLookup_type,builtinLookup_eq_fast];kernel_rfl) (by decide +kernel) (by decide +kernel) (by decide +kernel)
  (by first | exact .inl (by decide +kernel) | exact .inr (by decide +kernel)) (by rw [isSubtype_type];kernel_rfl)
theorem slot_md:Slot "method_descriptor" "__get__" "method_descriptor.__get__" :=
 .of (owner:="method_descriptor") (n:="__get__") (by rw [typeLookup_type,builtinLookup_eq_fast];kernel_rfl) (by decide +kernel) (by decide +kernel) (by decide +kernel)
  (by first | exact .inl (by decide +kernel) | exact .inr (by decide +kernel)) (by rw [isSubtype_type];kernel_rfl)
theorem gets_len:Gets "list.__len__" "__len__" "wrapper_descriptor" "method-wrapper" Builtin.«wrapper_descriptor.__get__» :=
 have o:(kfb_private% "ownerAndName") "list.__len__"=("list","__len__"):=by decide +kernel
 ⟨o,by show builtinType _=_;rw [builtinType_eq_fast];kernel_rfl,slot_wd,run_wd o,entryFor_of_tree (by kernel_rfl),fun a c d=>by unfold argsOk;kernel_rfl⟩
theorem gets_init:Gets "list.__init__" "__init__" "wrapper_descriptor" "method-wrapper" Builtin.«wrapper_descriptor.__get__» :=
 have o:(kfb_private% "ownerAndName") "list.__init__"=("list","__init__"):=by decide +kernel
 ⟨o,by show builtinType _=_;rw [builtinType_eq_fast];kernel_rfl,slot_wd,run_wd o,entryFor_of_tree (by kernel_rfl),fun a c d=>by unfold argsOk;kernel_rfl⟩
theorem gets_pop:Gets "list.pop" "pop" "method_descriptor" "builtin_function_or_method" Builtin.«method_descriptor.__get__» :=
 have o:(kfb_private% "ownerAndName") "list.pop"=("list","pop"):=by decide +kernel
 ⟨o,by show builtinType _=_;rw [builtinType_eq_fast];kernel_rfl,slot_md,run_md o (by decide +kernel),entryFor_of_tree (by kernel_rfl),fun a c d=>by unfold argsOk;kernel_rfl⟩
theorem sup_ga {h:Heap} {g:Array GenState} {d:Drawn} {t:Nat} {os:OsState} {so x:Addr} {ox:Obj} {id n T W:String} {b:Builtin} {P:Params} {name:Str} {tk:Tok} {Q:Fin→Shared→Prop} (G:Gets id n T W b) (X:(frag.heap_1 P).In h)
 (hso:h.get? so=some (supO x)) (hx:h.get? x=some ox) (hc:ox.cls=.ref 200) (hno:Looks (model prog w) h (opaqueClassAbove (.ref 200)) none) (hm:mroOf (.ref 200)=mroOf (.ref 200)) (hC:Looks (model prog w) h (mroOf (.ref 200)) [.ref 200,.type "list",.type "object"])
 (hf:alongIn (frag.heap_1 P) name [.type "list",.type "object"]=some (some (.builtin id))) (hx2:x≠200) (hn:(name == ("__class__":Str))=false)
 (hq:Q (.done (.ret (.ref h.objs.size))) ⟨h.push (bob W id x),g,d,t,os⟩) :
 wpAny (model prog w) A (Builtin.«super.__getattribute__» ⟨[.ref so,.str name tk],[]⟩) Q E ⟨h,g,d,t,os⟩:=by
 have hl:(([.ref 200,.type "list",.type "object"]:List Value).dropWhile (· != .ref 200)).drop 1=[.type "list",.type "object"]:=rfl
 have hne:(Value.ref x == Value.ref 200)=false:=by simp [hx2]
 have hlk:=G.slot.lookup
 have hTy:=G.ty
 have hdt:(supO x).data=.fields #[.ref 200,.ref x,.ref 200]:=rfl
 have f0:(#[.ref 200,.ref x,.ref 200]:Array Value)[0]? = some (.ref 200):=rfl
 have f1:(#[.ref 200,.ref x,.ref 200]:Array Value)[1]? = some (.ref x):=rfl
 have f2:(#[.ref 200,.ref x,.ref 200]:Array Value)[2]? = some (.ref 200):=rfl
 have hcall:∀ (A':Around) (Q':VP) (E':VP),Q' (.ref h.objs.size) ⟨h.push (bob W id x),g,d,t,os⟩→wpAny (model prog w) A' (call (.builtin (T ++ ".__get__")) [.builtin id,.ref x,.ref 200]) Q' E' ⟨h,g,d,t,os⟩:=fun A' Q' E' hq' =>
  wpAny_call_entry G.slot G.ty G.entry (G.run _ _ _ _ ⟨h,g,d,t,os⟩ x (acc_is X hx hc) ⟨_,rfl,hq'⟩) (G.args _ _ _)
 unfold Builtin.«super.__getattribute__»
 repeat (first
  | (with_reducible refine wpAny_field hso hdt f0 ?_) | (with_reducible refine wpAny_field hso hdt f1 ?_) | (with_reducible refine wpAny_field hso hdt f2 ?_)
  | (with_reducible refine ks_wpAny_notOpaque hno ?_)
  | (with_reducible refine Looks.at hC ?_;rw [hl])
  | (refine ks_forIn_along X (fun _ _=>rfl) rfl ?_ hf)
  | (with_reducible refine hcall _ _ _ ?_)
  | (simp only [hn,hne,hTy,hlk,pure_bind,Bool.or_false,Bool.false_eq_true,if_false])
  | wp_step
  | dsimp only)
 all_goals exact hq
theorem cls200 {P:Params}:∃ cd,clsIn (frag.heap_1 P) 200=some cd∧cd.mro=[.ref 200,.type "list",.type "object"]∧cd.qualname=Str.ofString "_Accumulator":=⟨_,by k_is,rfl,rfl⟩
theorem sup_method {so x:Addr} {ox:Obj} {id n T W:String} {b:Builtin} {P:Params} {name:Str} {pl:Sem Bool} {Q:Value×List Value→Shared→Prop} (G:Gets id n T W b) (X:(frag.heap_1 P).In s.heap)
 (hso:s.heap.get? so=some (supO x)) (hx:s.heap.get? x=some ox) (hc:ox.cls=.ref 200)
 (hf:ks_superIn (frag.heap_1 P) 200 200 name=some (some (.builtin id))) (hx2:x≠200) (hn:(name == ("__class__":Str))=false)
 (hq:Q (.ref s.heap.objs.size,[]) { s with heap:=s.heap.push (bob W id x),toks:=s.toks+1 }):wpAny (model prog w) A (getMethod (.ref so) name pl) Q E s:=by
 refine exE1 (cls200 (P:=P)) fun cd hh=>anE3 hh fun hcd hmro z3=>?_;clear hh;clear z3
 have hno:Looks (model prog w) s.heap (opaqueClassAbove (.ref 200)) none:=looks_opaque X (by k_is)
 have hC:Looks (model prog w) s.heap (mroOf (.ref 200)) [.ref 200,.type "list",.type "object"]:=hmro▸fun A Q E s k q=>wpAny_bind ((looks_clsIn X hcd) A _ E s k (wpAny_pure q))
 have hal:alongIn (frag.heap_1 P) name [.type "list",.type "object"]=some (some (.builtin id)):=by
  unfold ks_superIn at hf
  rw [hcd,Option.bind_some,hmro] at hf
  exact hf
 obtain ⟨h,g,d,t,os⟩:=s
 have hlk:=PySem.F.ks_slot_super_ga.lookup
 have hcan:=PySem.F.ks_canon_super_ga
 have hT:∀ t',(⟨h,g,d,t',os⟩:Shared).TypeIs (.ref so) "super":=fun _=>⟨_,hso,rfl⟩
 unfold getMethod
 refine wpAny_bind (wpAny_specialOf (hT _) hlk ?_)
 show wpAny _ _ (if (Manifest.canonical "super.__getattribute__" != "object.__getattribute__")=true then _ else _) _ _ _
 rw [if_pos hcan]
 unfold getAttr getAttrBy
 refine wpAny_bind (wpAny_bind (wpAny_mkText (wpAny_holding (wpAny_bind (wpAny_typeOf (hT _) (wpAny_bind (wpAny_of_eq hlk ?_)))))))
 show wpAny _ _ (getAttrByItsOwn (.ref so) (.str name t) (.type "super") (.builtin "super.__getattribute__") true false) _ _ _
 unfold getAttrByItsOwn hookBefore callGetattribute boundAndCalled
 refine wpAny_bind (wpAny_of_eq (show (if onTheHeap (.type "super") then typeLookup (.type "super") "__getattr__" else pure none)=pure none from rfl) ?_)
 refine wpAny_bind (wpAny_attempt (wpAny_holding ?_))
 show wpAny _ _ (bindSpecial (.builtin "super.__getattribute__") (.ref so) >>= _) _ _ _
 refine wpAny_bind (wpAny_of_eq (PySem.F.ks_slot_super_ga.bind _) ?_)
 refine wpAny_mono (Q:=fun v s'=>v=.ref h.objs.size∧s'=⟨h.push (bob W id x),g,d,t+1,os⟩) (E:=fun _ _=>False)
  (wpAny_call_entry PySem.F.ks_slot_super_ga (hT _) PySem.F.ks_entry_super_ga (sup_ga G X hso hx hc hno rfl hC hal hx2 hn ⟨_,rfl,rfl,rfl⟩) (PySem.F.ks_gaArgs_super _ _)) (fun v s' hv=>?_) fun _ _ z=>z.elim
 obtain ⟨rfl,rfl⟩:=hv
 exact wpAny_pure (wpAny_pure hq)
theorem bob_call {q x:Addr} {W id:String} {b:Builtin} {Q:VP} (hq:s.heap.get? q=some (bob W id x)) (hW:W="method-wrapper"∨W="builtin_function_or_method")
 (hch:∀ (A':Around) (Q':Unit→Shared→Prop) (E':VP),Q' () s→wpAny (model prog w) A' (checkBoundCall id ⟨[.ref x],[]⟩) Q' E' s) (hp:plainId id=true) (hb:entryFor table id=some b)
 (h:wpAny (model prog w) A.in1 (b ⟨[.ref x],[]⟩) (fun fin s'=>∃ v,fin=.done (.ret v)∧Q v s') E s):wpAny (model prog w) A (call (.ref q) []) Q E s:=by
 refine wpAny_call (codeAny_of_tree ?_)
 show wpAny _ _ (callAny (.ref q) _) _ _ _
 unfold callAny
 refine wpAny_bind (wpAny_load hq ?_)
 have e1:(Value.type W == Value.type "method" || Value.type W == Value.type "builtin_function_or_method" || Value.type W == Value.type "method-wrapper")=true:=by rcases hW with rfl | rfl <;> decide
 have e2:(Value.type W != Value.type "method")=true:=by rcases hW with rfl | rfl <;> decide
 dsimp only
 rw [if_pos e1]
 show wpAny _ _ (if (Value.type W != Value.type "method")=true then _ else _) _ _ _
 rw [if_pos e2]
 refine wpAny_bind (hch _ _ _ ?_)
 refine wpAny_pure ⟨plainId_quiet hp _,codeAny_builtin hb ?_⟩
 rw [Around.under_plainId hp _]
 refine wpAny_mono h (fun fin s' hv=>?_) fun _ _ e=>e
 obtain ⟨v,rfl,hv⟩:=hv
 exact hv
theorem bound_slot {M:Model} {A:Around} {id:String} {x:Addr} {Q:Unit→Shared→Prop} (hk:builtinKind id=some .slot) (ha:argsOk id ⟨[.ref x],[]⟩) (q:Q () s) :
 wpAny M A (checkBoundCall id ⟨[.ref x],[]⟩) Q E s:=by
 unfold checkBoundCall
 cases hs:Manifest.signature? id with
 | none=>exact wpAny_pure q
 | some sig =>
   rw [hk]
   dsimp only
   first | with_reducible refine iP (by decide) ?_ | rw [if_pos (by decide)]
   simp only [argsOk,hs] at ha
   have h2:Bind.checkArgs id sig ⟨[.ref x],[]⟩=pure ():=ha
   rw [h2]
   exact wpAny_pure q
theorem bound_pop {M:Model} {A:Around} {P:Params} {x d:Addr} {vs:List Value} {n:Nat} {Q:Unit→Shared→Prop} (X:(frag.heap_1 P).In s.heap) (hx:s.heap.get? x=some (accObj d vs n)) (q:Q () s) :
 wpAny M A (checkBoundCall "list.pop" ⟨[.ref x],[]⟩) Q E s:=by
 refine exE1 (cls200 (P:=P)) fun cd hh=>anE3 hh fun hcd hmro hqn=>?_;clear hh
 have ha:(match Manifest.signature? "list.pop" with | some sig=>Bind.checkArgs "list.pop" { sig with full:=s!"{(Str.ofString "_Accumulator").toString}.{Bind.lastOf "list.pop"}" } ⟨[.ref x],[]⟩ | none=>pure ())=pure ():=by kernel_rfl
 have hk:builtinKind "list.pop"=some .method:=by decide +kernel
 have hv:Manifest.varargsMethods.contains "list.pop"=false:=by decide +kernel
 have hmod:Looks M s.heap (isInstance (.ref x) (.type "module")) false:=(typeOf_acc hx rfl).andThen (looks_subIn X (by k_is))
 unfold checkBoundCall
 cases hs:Manifest.signature? "list.pop" with
 | none=>exact wpAny_pure q
 | some sig =>
   rw [hs] at ha
   rw [hk]
   dsimp only at ha ⊢
   first | with_reducible refine iN (by decide) ?_ | rw [if_neg (by decide)]
   refine wpAny_bind (hmod.here ?_)
   rw [hv]
   simp only [Bool.or_self,Bool.false_eq_true,if_false]
   refine wpAny_bind (m:=isType (.ref x)) (wpAny_bind (wpAny_loadPart hx (wpAny_pure ?_)))
   dsimp only
   first | with_reducible refine iN (by decide) ?_ | rw [if_neg (by decide)]
   refine wpAny_bind ((typeOf_acc hx rfl).here ?_)
   dsimp only
   refine wpAny_bind (looks_clsIn X hcd _ _ _ _ (fun _ _ e=>e) ?_)
   have ht:Looks M s.heap (typeOf (.ref 200)) (.type "type"):=looks_typeIn X (by k_is)
   refine wpAny_bind (ht.here ?_)
   rw [if_pos (by decide),hqn,ha]
   exact wpAny_pure q
variable {x d:Addr} {vs:List Value} {n:Nat} {q:Addr} {Q:VP}
theorem sup_len (hq:s.heap.get? q=some (bob "method-wrapper" "list.__len__" x)) (hx:s.heap.get? x=some (accObj d vs n)) (h:∀ t k,Q (.int vs.length t) { s with toks:=k }):wpAny (model prog w) A (call (.ref q) []) Q E s :=
 bob_call hq (.inl rfl) (fun A' Q' E' h=>bound_slot (by decide +kernel) (by unfold argsOk;kernel_rfl) h) (by decide +kernel) (b:=Builtin.«list.__len__») (entryFor_of_tree (by kernel_rfl)) (tree_len hx h)
theorem sup_init (hq:s.heap.get? q=some (bob "method-wrapper" "list.__init__" x)) (hx:s.heap.get? x=some (accObj d [] n)) (h:∀ h' n',Heap.SameBut x s.heap h'→h'.get? x=some (accObj d [] n')→Q .none { s with heap:=h' }):wpAny (model prog w) A (call (.ref q) []) Q E s :=
 bob_call hq (.inl rfl) (fun A' Q' E' h=>bound_slot (by decide +kernel) (by unfold argsOk;kernel_rfl) h) (by decide +kernel) (b:=Builtin.«list.__init__») (entryFor_of_tree (by kernel_rfl)) (tree_init hx h)
theorem sup_pop {P:Params} {v:Value} (X:(frag.heap_1 P).In s.heap) (hq:s.heap.get? q=some (bob "builtin_function_or_method" "list.pop" x)) (hx:s.heap.get? x=some (accObj d (vs ++ [v]) n)) (hz:vs.length+1≤sizeLine)
 (h:∀ h',Heap.SameBut x s.heap h'→h'.get? x=some (accObj d vs (n+1))→Q v { s with heap:=h' }):wpAny (model prog w) A (call (.ref q) []) Q E s :=
 bob_call hq (.inr rfl) (fun A' Q' E' h=>bound_pop X hx h) (by decide +kernel) (b:=Builtin.«list.pop») (entryFor_of_tree (by kernel_rfl)) (tree_pop hx hz h)
end
end
section
section
variable {w:World} {A:Around} {E:VP} {s:Shared} {h₀:Heap} {L x d so:Addr} {m:Str→Option Value} {news:List (Addr×Obj)} {vs:List Value} {n nd:Nat} {h1:Int} {t1 t2:Tok} {P:Params}
theorem acc_ne {h:Heap} (a:h.get? x=some (accObj d vs n)) (b:h.get? d=some (accD h1 t1 t2 nd)):@Ne Nat d x:=fun e=>by rw [e,a] at b;have:=congrArg Obj.cls (Option.some.inj b);cases this
theorem acc_inst {h:Heap} (N:News h₀ L h news) (hx:(x,accObj d vs n)∈news) (hd':(d,accD h1 t1 t2 nd)∈news):InstAt h x (accObj d vs n) 200 (some (accD h1 t1 t2 nd)):=⟨(N _ hx).1,rfl,rfl,(N _ hd').1⟩
theorem ga200 {P:Params}:findIn (frag.heap_1 P) (.ref 200) "__getattribute__"=some (some (.builtin "list.__getattribute__")):=by k_is
theorem ga_no {P:Params}:findIn (frag.heap_1 P) (.ref 200) "__getattr__"=some none:=by k_is
theorem ga_can:(Manifest.canonical "list.__getattribute__" != "object.__getattribute__")=false:=by decide +kernel
theorem acc_meth {name:Str} {pl:Sem Bool} {v:Value} {t:String} {Q:Value×List Value→Shared→Prop} (X:(frag.heap_1 P).In s.heap) (I:InstAt s.heap x (accObj d vs n) 200 (some (accD h1 t1 t2 nd)))
 (hf:findIn (frag.heap_1 P) (.ref 200) name=some (some v)) (ht:Looks (model prog w) s.heap (typeOf v) (.type t)) (htt:t="function"∨t="method_descriptor") (hl:getL name [⟨h1,.str sIS t1,.int 3 t2⟩]=some none) (h:Q (v,[.ref x]) s):wpAny (model prog w) A (getMethod (.ref x) name pl) Q E s:=by
 have hs:(lookIn name (accD h1 t1 t2 nd)).map (·.isSome)=some false:=by rw [lookIn_dict,hl];rfl
 have e:(Value.type t != .type "function" && Value.type t != .type "method_descriptor" && Value.type t != .type "wrapper_descriptor")=false:=by rcases htt with rfl | rfl <;> decide
 unfold getMethod specialOf
 refine wpAny_bind (wpAny_bind (I.type.here ((looks_findIn X ga200).here ?_)))
 dsimp only
 rw [ga_can,if_neg (by decide)]
 refine wpAny_bind (wpAny_bind (I.type.here ((looks_findIn X ga_no).here ?_)))
 refine wpAny_bind (wpAny_bind (I.type.here ((looks_findIn X hf).here (wpAny_bind (ht.here ?_)))))
 rw [e,if_neg (by decide)]
 refine wpAny_bind (wpAny_loadPart I.at_ ?_)
 obtain ⟨r,a,b⟩:=Option.map_eq_some_iff.mp hs
 dsimp only
 refine wpAny_bind (wpAny_bind (wpAny_loadPart I.dict ?_))
 rw [nsLook_of a]
 refine wpAny_pure ?_
 rw [b]
 exact wpAny_bind (wpAny_rule (wpAny_pure h))
theorem ty_append {M:Model} {h:Heap}:Looks M h (typeOf (.builtin "list.append")) (.type "method_descriptor"):=Looks.of_pure PySem.F.type_list_append
theorem append_acc {news':List (Addr×Obj)} {v:Value} {Q:VP} (X₀:(frag.heap_1 P).In h₀) (F:Fr h₀ L s.heap m) (N:News h₀ L s.heap news) (U:Upd x (accObj d vs n) (accObj d (vs ++ [v]) (n+1)) news news') (hz:vs.length≤sizeLine)
 (h:∀ h',Fr h₀ L h' m→News h₀ L h' news'→Q .none { s with heap:=h' }):wpAny (model prog w) A (call (.builtin "list.append") [.ref x,v]) Q E s:=by
 refine exE2 U.split fun pre post hh=>anE4 hh fun z2 z3 a b=>?_;clear hh;rcases z2 with rfl;rcases z3 with rfl
 have z:=N (x,accObj d vs n) (List.mem_append.mpr (.inr (.head _)))
 with_reducible refine acc_append (X₀.keeps F.keep) z.1 hz fun h' hs ho'=>?_
 exact h h' (F.change hs z.2.1 z.2.2) (news_set N a b hs ho')
theorem superm {id n' T W:String} {b:Builtin} {name:Str} {pl:Sem Bool} {Q:Value×List Value→Shared→Prop} (G:Gets id n' T W b) (F:Fr h₀ L s.heap m) (X₀:(frag.heap_1 P).In h₀) (N:News h₀ L s.heap news) (hso:(so,supO x)∈news) (hx:(x,accObj d vs n)∈news)
 (hf:ks_superIn (frag.heap_1 P) 200 200 name=some (some (.builtin id))) (h250:250≤x) (hn:(name == ("__class__":Str))=false)
 (h:∀ q h',Fr h₀ L h' m→News h₀ L h' ((q,bob W id x) :: news)→(∀ p∈news,p.1 < q)→Q (.ref q,[]) { s with heap:=h',toks:=s.toks+1 }):wpAny (model prog w) A (getMethod (.ref so) name pl) Q E s:=by
 have ne:x≠200:=fun e=>absurd h250 (by rw [e];decide)
 have a1:=(N _ hso).1
 have a2:=(N _ hx).1
 with_reducible refine sup_method G (X₀.keeps F.keep) a1 a2 rfl hf ne hn ?_
 obtain ⟨F',N',l'⟩:=ks_newsPush (o:=bob W id x) F N rfl (Heap.get?_push_at rfl rfl) (fun b o e=>Heap.get?_push_of_some _ e)
 exact h _ _ F' N' l'
theorem pop_acc {news':List (Addr×Obj)} {q:Addr} {v:Value} {Q:VP} (X₀:(frag.heap_1 P).In h₀) (F:Fr h₀ L s.heap m) (N:News h₀ L s.heap news) (hq:(q,bob "builtin_function_or_method" "list.pop" x)∈news) (U:Upd x (accObj d (vs ++ [v]) n) (accObj d vs (n+1)) news news') (hz:vs.length+1≤sizeLine)
 (h:∀ h',Fr h₀ L h' m→News h₀ L h' news'→Q v { s with heap:=h' }):wpAny (model prog w) A (call (.ref q) []) Q E s:=by
 have hq':=(N (q,bob "builtin_function_or_method" "list.pop" x) hq).1
 refine exE2 U.split fun pre post hh=>anE4 hh fun z2 z3 a b=>?_;clear hh;rcases z2 with rfl;rcases z3 with rfl
 have z:=N (x,accObj d (vs ++ [v]) n) (List.mem_append.mpr (.inr (.head _)))
 with_reducible refine sup_pop (X₀.keeps F.keep) hq' z.1 hz fun h' hs ho'=>?_
 exact h h' (F.change hs z.2.1 z.2.2) (news_set N a b hs ho')
theorem init_acc {q:Addr} {news':Nat→List (Addr×Obj)} {Q:VP} (F:Fr h₀ L s.heap m) (N:News h₀ L s.heap news) (hq:(q,bob "method-wrapper" "list.__init__" x)∈news) (U:∀ n',Upd x (accObj d [] n) (accObj d [] n') news (news' n'))
 (h:∀ h' n',Fr h₀ L h' m→News h₀ L h' (news' n')→Q .none { s with heap:=h' }):wpAny (model prog w) A (call (.ref q) []) Q E s:=by
 have hq':=(N _ hq).1
 have hx:(x,accObj d [] n)∈news:=by
  refine exE2 (U 0).split fun pre post hh=>anE2 hh fun e _=>?_;clear hh
  rw [e];exact List.mem_append.mpr (.inr (.head _))
 have hx':=(N _ hx).1
 with_reducible refine sup_init hq' hx' fun h' n' hs ho'=>?_
 refine exE2 (U n').split fun pre post hh=>anE4 hh fun z2 e2 a b=>?_;clear hh;rcases z2 with rfl
 have z:=N (x,accObj d [] n) (List.mem_append.mpr (.inr (.head _)))
 refine h h' n' (F.change hs z.2.1 z.2.2) ?_
 rw [e2]
 exact news_set N a b hs ho'
theorem callWith_bob {pos:Pos} {u:Addr} {W id:String} {env:Env} {Q:VP} (hu:s.heap.get? u=some (bob W id x)) (hW:W="method-wrapper"∨W="builtin_function_or_method") (h:wpAny (model prog w) A (call (.ref u) []) Q E s) :
 wpAny (model prog w) A (callWith pos (.ref u) [] (backTo pos (starEach [] env)) []) Q E s:=by
 show wpAny _ _ (callWith pos (.ref u) [] [] []) _ _ _
 have e1:(Value.type W != Value.type "method")=true:=by rcases hW with rfl | rfl <;> decide
 have e2:(Value.type W == Value.type "builtin_function_or_method" || Value.type W == Value.type "method-wrapper")=true:=by rcases hW with rfl | rfl <;> decide
 unfold callWith
 refine wpAny_bind (wpAny_holding (wpAny_of_eq (a:=⟨[],[]⟩) rfl ?_))
 refine wpAny_bind (wpAny_standAt ?_)
 simp only [List.any_nil,Bool.or_false]
 refine wpAny_bind (m:=keeperOf (.ref u)) ?_
 unfold keeperOf
 refine wpAny_bind (wpAny_load hu ?_)
 dsimp only
 rw [e1,e2]
 simp only [if_true]
 refine wpAny_pure ?_
 exact wpAny_bind (wpAny_mono h (fun r s₂ hr=>wpAny_bind (wpAny_holding (wpAny_point (wpAny_pure hr)))) fun _ _ x=>x)
end
theorem enterAt {w:World} {A:Around} {s:Shared} {Q E:VP} {name qual:Str} {params:Arguments} {body:List Stmt} {scope:Scope} {dV kV doc pm cdv ct oc:Value} {an od:Option Addr} {osl:Array (Option Value)} {f cc:Addr}
 {args:Args} {binds:List (Str×Value)} (led:List (Addr×Obj)) (I:Inv w s.heap) (hled:∀ p∈led,At s.heap p.1 p.2∧isMut p.2=true)
 (ho:(frag.heap_1 w.params).lookup f=some ⟨oc,od,.func (ksFn name qual params body scope dV kV doc pm an cdv ct cc),osl⟩) (hcd:codeIn (frag.heap_1 w.params) cdv qual=true) (hroom:A.depth < recursionLimit)
 (hbind:BindsTo s (ksFn name qual params body scope dV kV doc pm an cdv ct cc) args binds) (hloc:∀ y∈binds,scope.names.lookup y.1=some .local)
 (h:∀ g L' h₁ loose mean mg mb,Base w s led g→Fr g L' h₁ (fun y=>binds.reverse.lookup y)→News g L' h₁ led→(frag.heap_1 w.params).In g→Top topProg loose mean mg mb g →
   _root_.PySem.wpAt (model prog w) (A.deeper (ksEnv qual scope L' f cdv cc)) (.func body (ksEnv qual scope L' f cdv cc)) (execs body (ksEnv qual scope L' f cdv cc)) (fun fl s'=>Q (match fl with | .ret v=>v | _=>.none) s') (fun _ _=>False)
    { s with heap:=h₁,toks:=s.toks+binds.length })
 (hcell:∀ x∈scope.names,x.2≠.cell) (hco:scope.isCoroutine=false:=by rfl) (hgen:scope.isGenerator=false:=by rfl) (hk:scope.kind=.function:=by rfl) :
 wpAny (model prog w) A (call (.ref f) args.pos args.kw) Q E s:=by
 refine wpAny_call ?_
 refine exE4 I.T fun loose mean mg mb T=>?_
 have B:Base w s led (hideAll s.heap (led.map (·.1))):=⟨I,hled,rfl⟩
 refine exE4 B.inv'.T fun loose' mean' mg' mb' T'=>?_
 refine ks_codeAny_call_defAt (fd:=ksFn name qual params body scope dV kV doc pm an cdv ct cc) (body:=body) (binds:=binds) hroom (I.K _ _ ho) rfl T.nolimit (codeRec_of I.K hcd) rfl hbind hcell hloc (fun h₁ hns hk₁=>?_) hco hgen hk
 refine ks_wpAt_mono (h _ s.heap.objs.size h₁ loose' mean' mg' mb' B ⟨hns,fun b o e=>hk₁ b o (B.of e),Nat.le_of_eq B.size⟩ (fun p hp=>⟨hk₁ _ _ (hled p hp).1.1,Nat.ne_of_lt (hled p hp).1.lt,B.none hp⟩) B.inv'.K T') (fun fl s' hl=>?_) fun _ _ x=>x.elim
 cases fl <;> exact hl
section
variable {w:World} {A:Around} {E:VP} {s:Shared} {Q:VP}
theorem push_spec (l:Lvl A 800) (I:Inv w s.heap) {x d:Addr} {vs:List Value} {n nd:Nat} {h1:Int} {t1 t2 ta tb:Tok} {a b:Str} (hx:At s.heap x (accObj d vs n)) (hd':At s.heap d (accD h1 t1 t2 nd)) (hz:vs.length≤sizeLine)
 (k:∀ p s',Step w [x] s s'→At s'.heap x (accObj d (vs ++ [.ref p]) (n+1))→At s'.heap p (⟨.type "tuple",none,.seq #[.str a ta,.str b tb] 0,#[]⟩)→s.heap.get? p=none→Q .none s'):wpAny (model prog w) A (call (.ref 144) [.ref x,.str a ta,.str b tb]) Q E s:=by
 have hxd:=acc_ne hx.1 hd'.1
 refine weaken l fun fr gd=>?_
 refine enter (args:=⟨[.ref x,.str a ta,.str b tb],[]⟩) [(x,accObj d vs n),(d,accD h1 t1 t2 nd)] I ?_ (by k_is) (by k_is) (by show (800:Nat) < 1000;decide) (BindsTo.of_eq rfl) (locs rfl) ?_ (by decide)
 · exact fm2 ⟨hx,rfl⟩ ⟨hd',rfl⟩ (fun _ h=>nN h)
 intro g L h₁ loose mean mg mb B F N X T
 dsimp only
 k_fold
 have O:Oth s s:=Oth.refl
 obtain ⟨HH,hold,held⟩:=holds
 have qA {x1 x2 x3 x4 x5 x6}:=hold 2 (wpAny x1 x2 (call (Value.builtin "list.append") [Value.ref x,x3]) x4 x5 x6)
 have qB {x1 x2 x3 x4 x5 x6 x7}:=hold 1 (wpAny x1 x2 (getMethod (Value.ref x) x3 x4) x5 x6 x7)
 k_steps
 repeat' ((first
  | (refine held 2 _ ?_
     rename Fr _ _ _ _=>F
     rename News _ _ _ _=>N
     k_dflt (refine' append_acc (d:=d) (n:=n) X F N ?k3 hz ?_;(case k3=>k_upd))
     intro h' F N)
  | (refine held 1 _ ?_
     rename Fr _ _ _ _=>F
     rename News _ _ _ _=>N
     have q1:=acc_inst N (show (x,accObj d vs n)∈_ by k_mem) (show (d,accD h1 t1 t2 nd)∈_ by k_mem)
     (with_reducible refine acc_meth (v:=.builtin "list.append") (X.keeps F.keep) q1 ?k1 ty_append ?k2 ?k3 ?_)
     case k1=>k_is
     case k2=>exact .inr rfl
     case k3=>rfl
     clear q1)) <;> k_steps)
 rename Fr _ _ _ _=>F
 rename News _ _ _ _=>N
 refine k _ _ (Base.fin B [x] F N O ?_) (Base.at B N (p:=(x,_)) (by k_mem)) (Base.at B N (p:=(_,⟨.type "tuple",none,.seq #[.str a ta,.str b tb] 0,#[]⟩)) (by k_mem)) (base_fresh B (N (_,⟨.type "tuple",none,.seq #[.str a ta,.str b tb] 0,#[]⟩) (by k_mem)).2.2 ?_)
 · exact fm2 (.inl (List.mem_singleton.mpr rfl)) (.inr (by k_mem)) (fun _ h=>nN h)
 · rename (x < _∧d < _)=>l1
   exact ⟨Nat.ne_of_gt l1.1,Nat.ne_of_gt l1.2,trivial⟩
end
section
variable {w:World} {A:Around} {E:VP} {s:Shared} {Q:VP}
theorem count_spec (l:Lvl A 900) (I:Inv w s.heap) {x d:Addr} {vs:List Value} {n nd:Nat} {h1:Int} {t1 t2:Tok} (hx:At s.heap x (accObj d vs n)) (hd':At s.heap d (accD h1 t1 t2 nd))
 (k:∀ t s',Step w [] s s'→Q (.int vs.length t) s'):wpAny (model prog w) A (call (.ref 197) [.ref x]) Q E s:=by
 have hxd:=acc_ne hx.1 hd'.1
 have h250:=hx.2
 refine weaken l fun fr gd=>?_
 refine enterAt (args:=⟨[.ref x],[]⟩) [(x,accObj d vs n),(d,accD h1 t1 t2 nd)] I ?_ (by k_is) (by k_is) (by show (900:Nat) < 1000;decide) (BindsTo.of_eq rfl) (locs rfl) ?_ (by decide)
 · exact fm2 ⟨hx,rfl⟩ ⟨hd',rfl⟩ (fun _ h=>nN h)
 intro g L h₁ loose mean mg mb B F N X T
 dsimp only
 have O:Oth s s:=Oth.refl
 obtain ⟨HH,hold,held⟩:=holds
 have qC {x1 x2 x3 x4 x5 x6 x7 x8}:=hold 4 (wpAny x1 x2 (getMethod (Value.ref x3) x4 x5) x6 x7 x8)
 k_steps
 repeat' ((first
  | (refine held 6 _ ?_
     rename Fr _ _ _ _=>F
     rename News _ _ _ _=>N
     have q1:=(N (q,_) (.head _)).1
     have q2:=(N (x,accObj d vs n) (by k_mem)).1
     (with_reducible refine sup_len q1 q2 ?_)
     intro tq kq)
  | (refine held 5 _ ?_
     rename News _ _ _ _=>N
     have q1:=(N (q,_) (.head _)).1
     (with_reducible refine callWith_bob q1 ?k1 ?_)
     case k1=>first | exact .inl rfl | exact .inr rfl
     clear q1)
  | (refine held 4 _ ?_
     rename Fr _ _ _ _=>F
     rename News _ _ _ _=>N
     (with_reducible refine superm (so:=so') (x:=x) (d:=d) (vs:=vs) (n:=n) gets_len F X N ?k1 ?k2 ?k3 h250 ?k4 ?_)
     case k1=>k_mem
     case k2=>exact (show (x,accObj d vs n)∈_ by k_mem)
     case k3=>ks_is
     case k4=>decide
     intro q h' F N lq
     have qA {x1 x2 x3 x4 x5}:=hold 6 (wpAny x1 x2 (call (Value.ref q) []) x3 x4 x5)
     have qB {x1 x2 x3 x4 x5 x6 x7 x8 x9}:=hold 5 (wpAny x1 x2 (callWith x3 (Value.ref q) x4 x5 x6) x7 x8 x9)
     (try dsimp only))
  | (refine held 9 _ ?_
     rename Fr _ _ _ _=>F
     rename News _ _ _ _=>N
     have q1:=acc_inst N (show (x,accObj d vs n)∈_ by k_mem) (show (d,accD h1 t1 t2 nd)∈_ by k_mem)
     k_dflt (refine ks_node F X N T (by k_is) (by rfl) (by rfl) q1 (by k_is) (by rfl) (by first | rfl | decide +kernel) (by k_is) (by k_is) (by k_is) (by k_is) (by decide) (by rfl) (by rfl) (by rfl) (by rfl) (by decide +kernel) (by first | boot_by_name | rfl | kernel_rfl) ?_)
     clear q1
     intro so' h' F N lso)) <;> k_steps)
 rename Fr _ _ _ _=>F
 rename News _ _ _ _=>N
 refine k _ _ (Base.fin B [] F N O ?_)
 exact fm2 (.inr (by k_mem)) (.inr (by k_mem)) (fun _ h=>nN h)
end
end
section
noncomputable abbrev lenScope:Scope:={ kind:=.function,names:=[(Str.ofString ".0",.local),(Str.ofString "fws",.local),(Str.ofString "part",.local),(Str.ofString "len",.globalImplicit)],isGenerator:=true,isCoroutine:=false,more:=[] }
noncomputable abbrev lenElt (p1 p2 p3 p4 p5 p6 p7:Pos):PySem.Expr:=.BinOp (.Call (.Name "len" p1) [.Name "fws" p2] [] p3) .Add (.Call (.Name "len" p4) [.Name "part" p5] [] p6) p7
noncomputable abbrev strScope:Scope:={ kind:=.function,names:=[(Str.ofString ".0",.local),(Str.ofString "fws",.local),(Str.ofString "part",.local),(Str.ofString "EMPTYSTRING",.globalImplicit)],isGenerator:=true,isCoroutine:=false,more:=[] }
noncomputable abbrev strElt (p1 p2 p3 p4 p5 p6:Pos) (k:Nat):PySem.Expr:=.Call (.Attribute (.Name "EMPTYSTRING" p1) "join" p2) [.Tuple [.Name "fws" p3,.Name "part" p4] k p5] [] p6
section
variable {w:World} {A:Around} {E:VP} {s:Shared}
theorem name_builtin {env:Env} {x:Str} {p:Pos} {v:Value} {Q:VP} (I:Inv w s.heap) (hk:env.scope.kind=.function) (hx:env.kindOf x=some .globalImplicit) (hg:env.globals=mainGlobals) (hb:env.builtins=builtinsNs)
 (e1:nsIn (frag.heap_1 w.params) mainGlobals x=some none) (e2:x≠"__name__") (e3:bootBuiltins x=some v) (e4:(x == ("__debug__":Str))=false) (h:Q v s):wpAny (model prog w) A (eval (.Name x p) env) Q E s:=by
 refine exE4 I.T fun loose mean mg mb T=>?_
 exact Name_function_global hk hx (loadGlobal_builtin (hg▸T.g) (mg_none_of I.K T.g e1) (hb▸T.b) ((T.builtins x e2).trans e3) h) e4
theorem name_global {env:Env} {x:Str} {p:Pos} {v:Value} {Q:VP} (I:Inv w s.heap) (hk:env.scope.kind=.function) (hx:env.kindOf x=some .globalImplicit) (hg:env.globals=mainGlobals)
 (e1:nsIn (frag.heap_1 w.params) mainGlobals x=some (some v)) (e4:(x == ("__debug__":Str))=false) (h:Q v s):wpAny (model prog w) A (eval (.Name x p) env) Q E s:=by
 refine exE4 I.T fun loose mean mg mb T=>?_
 exact Name_function_global hk hx (loadGlobal_global (hg▸T.g) (mg_of I.K T.g e1) h) e4
theorem len_call {env:Env} {x:Str} {p p' p3:Pos} {a:Str} {ta:Tok} {m:Str→Option Value} {Q:VP} (I:Inv w s.heap) (hk:env.scope.kind=.function) (hx:env.kindOf "len"=some .globalImplicit) (hg:env.globals=mainGlobals) (hb:env.builtins=builtinsNs)
 (hl:env.kindOf x=some .local) (hn:s.heap.Ns env.locals m) (hm:m x=some (.str a ta)) (ha:a.length≤16) (hd:(x == ("__debug__":Str))=false)
 (hse:backTo p3 (starEach [.Name x p'] env)=[(false,eval (.Name x p') env)]) (h:∀ t k,Q (.int a.length t) { s with toks:=k }) :
 wpAny (model prog w) A (eval (.Call (.Name "len" p) [.Name x p'] [] p3) env) Q E s:=by
 refine wpAny_Call_NameR (name_builtin I hk hx hg hb (by k_is) (by decide) (by rfl) (by decide) ?_)
 rw [hse]
 refine callWith_builtin rfl (evalArgs_plain (spliced_cons (wpAny_Name (wpAny_loadName_local hk hl hn hm (spliced_nil ?_)) hd)))
 exact P.len_str (by omega) (h _ _)
theorem len_elt {p1 p2 p3 p4 p5 p6 p7:Pos} {env:Env} {C:Addr} {code:Value} {m:Str→Option Value} {a b:Str} {ta tb:Tok} (hg:env.globals=mainGlobals) (hh:A.handled=none) (I:Inv w s.heap) (hn:s.heap.Ns C m)
 (h1:m "fws"=some (.str a ta)) (h2:m "part"=some (.str b tb)) (ha:a.length≤16) (hb:b.length≤16) :
 wpAny (model prog w) A (eval (lenElt p1 p2 p3 p4 p5 p6 p7) (genEnv lenScope [] C code builtinsNs env)) (fun y s₃=>(∃ t,y=.int ((a.length:Int) + b.length) t)∧_root_.PySem.Keeps s s₃) E s:=by
 unfold lenElt
 rw [arm_eval_BinOp]
 refine wpAny_bind (len_call I rfl rfl hg rfl rfl hn h1 ha (by decide) rfl fun t k=>?_)
 refine wpAny_bind (wpAny_holding (len_call (s:={ s with toks:=k }) I rfl rfl hg rfl rfl hn h2 hb (by decide) rfl fun t' k'=>?_))
 refine wpAny_bind (wpAny_standAt (wpAny_operating (AutoIntOps.add_0 ?_)))
 exact ⟨⟨_,rfl⟩,s.heap,_,rfl,fun _ _ e=>e⟩
theorem str_elt {p1 p2 p3 p4 p5 p6:Pos} {kt:Nat} {env:Env} {C:Addr} {code:Value} {m:Str→Option Value} {a b:Str} {ta tb:Tok} (hg:env.globals=mainGlobals) (hh:A.handled=none) (I:Inv w s.heap) (hn:s.heap.Ns C m) (hline:(p2.endLine == p6.line)=true)
 (h1:m "fws"=some (.str a ta)) (h2:m "part"=some (.str b tb)) (ha:a.length≤16) (hb:b.length≤16) :
 wpAny (model prog w) A (eval (strElt p1 p2 p3 p4 p5 p6 kt) (genEnv strScope [] C code builtinsNs env)) (fun y s₃=>(∃ t,y=.str (Txt.join "" [a,b]) t)∧_root_.PySem.Keeps s s₃) E s:=by
 have he:∃ t0,nsIn (frag.heap_1 w.params) mainGlobals "EMPTYSTRING"=some (some (.str "" t0)):=⟨_,by k_is⟩
 obtain ⟨t0,he⟩:=he
 unfold strElt
 refine wpAny_Call_method rfl rfl hline F.plainAttrs_str F.slot_str_join F.type_str_join ?_
 refine name_global I rfl rfl hg he (by decide) ⟨typeIs_str _ _ _,(fun _ e=>nomatch e),?_⟩
 show wpAny _ _ (callWith _ _ _ [(false,eval (.Tuple [.Name "fws" p3,.Name "part" p4] kt p5) (genEnv strScope [] C code builtinsNs env))] []) _ _ _
 refine callWith_builtin rfl (evalArgs_plain (spliced_cons ?_))
 refine wpAny_Tuple ?_
 show wpAny _ _ (spliced [(false,eval (.Name "fws" p3) _),(false,eval (.Name "part" p4) _)]) _ _ _
 refine spliced_cons (wpAny_Name (wpAny_loadName_local rfl rfl hn h1 ?_) (by decide))
 refine spliced_cons (wpAny_Name (wpAny_loadName_local rfl rfl hn h2 ?_) (by decide))
 refine spliced_nil ⟨by rw [sizeLine_eq];exact Nat.le_of_ble_eq_true rfl,spliced_nil ?_⟩
 refine join_tupleW (ys:=[a,b]) ⟨_,Heap.get?_push_size _ rfl,rfl,_,rfl⟩ (.cons _ _ (.cons _ _ .nil)) (by decide) ?_ ?_
 · simp only [List.map_cons,List.map_nil,List.sum_cons,List.sum_nil,List.length_cons,List.length_nil];omega
 · intro t' k
   exact ⟨⟨_,rfl⟩,_,_,rfl,fun _ _ e=>Heap.get?_push_of_some _ e⟩
theorem sum_start {a N:Addr} {n:Nat} {Fv:Nat→Value→Prop} {v0:Int} {t0:Tok} {Q:VP} (X:GenOf w A a N n Fv s) (val:Nat→Int) (hval:∀ j v,Fv j v→∃ t,v=.int (val j) t) (h0:InLong v0) (hfit:∀ j,j < n→InLong (val j)∧InLong (v0+preSum val (j+1)))
 (hQ:∀ s' t' g,(∀ b o,b < N→b < s.heap.objs.size→s.heap.get? b=some o→s'.heap.get? b=some o)→Inv w s'.heap→s'.os=s.os→GenOnlyQ g s.gens s'.gens→Q (.int (v0+preSum val n) t') s'):wpAny (model prog w) A (call (.builtin "sum") [.ref a,.int v0 t0]) Q E s:=by
 refine exE4 X fun fp wr g St hh=>anE7 hh fun W hst _ _ hfp hwr hinv=>?_;clear hh;try clear X
 have W:=W.in4_1
 let val':Nat→Int:=fun i=>match i with | 0=>v0 | i+1=>val i
 have hpre:∀ i,preSum val' (i+1)=v0+preSum val i:=fun i=>by
  induction i with
  | zero=>simp [preSum,val']
  | succ i ih=>rw [preSum,ih];simp only [preSum,val'];omega
 have W':WalksS prog w A.in1 a fp wr (GenOnlyQ g) (n+1) (fun i v=>match i with | 0=>False | i+1=>Fv i v) (fun i s=>match i with | 0=>False | i+1=>St i s) :=
  { sub:=W.sub,grefl:=W.grefl,gtrans:=W.gtrans
    frame:=fun i s h' tk st ht hk=>by cases i with | zero=>exact st.elim | succ i=>exact W.frame i s h' tk st ht hk
    item:=fun i s Q E hi st hQ=>by cases i with | zero=>exact st.elim | succ i=>exact W.item i s Q E (by omega) st fun v s' hP st' hm=>hQ v s' hP st' hm
    done:=fun s Q E st hQ=>W.done s Q E st hQ
    self:=fun i s Q E st hQ=>by cases i with | zero=>exact st.elim | succ i=>exact W.self i s Q E st hQ }
 refine call_function_tree F.kind_sum F.plain_sum F.entry_sum (by unfold argsOk;kernel_rfl) ?_
 unfold Builtin.«sum»
 simp only [List.length_cons,List.length_nil]
 first | with_reducible refine iN (by decide) ?_ | rw [if_neg (by decide)]
 refine wpAny_bind (wpAny_of_eq (show Builtin.Builtins.bindParams "sum" ["start"] 0 ⟨[.int v0 t0],[]⟩=pure [some (.int v0 t0)] from rfl) ?_)
 refine wpAny_bind (W.self 0 s _ _ hst ?_)
 have hfl:(decide (-(2 ^ 63)≤v0) && decide (v0 < 2 ^ 63))=true:=by
  unfold InLong at h0
  simp only [Bool.and_eq_true,decide_eq_true_eq]
  exact h0
 show wpAny _ _ (if (_:Bool)=true then _ else _) _ _ _
 split
 rotate_left
 · rename_i hneg
   exact absurd hfl hneg
 refine wpAny_bind (wpAny_rule (wpAny_bind (wpAny_mkInt (wpAny_bind (wpAny_pure ?_)))))
 simp only [List.forIn_cons,List.forIn_nil]
 refine wpAny_bind (wpAny_bind (wpAny_bind (wpAny_isInstance (T:="int") (b:=false) (typeIs_int _ _ _) PySem.sub_int_str ?_)))
 simp only [Bool.false_eq_true,if_false]
 refine wpAny_pure (wpAny_bind (wpAny_bind (wpAny_isInstance (T:="int") (b:=false) (typeIs_int _ _ _) PySem.sub_int_bytes ?_)))
 simp only [Bool.false_eq_true,if_false]
 refine wpAny_pure (wpAny_bind (wpAny_bind (wpAny_isInstance (T:="int") (b:=false) (typeIs_int _ _ _) PySem.sub_int_bytearray ?_)))
 simp only [Bool.false_eq_true,if_false]
 refine wpAny_pure (wpAny_pure ?_)
 refine wpAny_bind (wpAny_newObj_type ?_)
 have hSf:s.heap.objs.size∉fp:=fun hm=>Nat.lt_irrefl _ (hfp _ hm)
 have hst':St 0 { s with heap:=s.heap.push { cls:=.type "list",data:=.seq #[.int v0 s.toks] },toks:=s.toks+1 }:=W.frame 0 s _ _ hst (Nat.le_succ _) fun b _ o e=>Heap.get?_push_of_some _ e
 refine wpAny_pure ⟨plainId_quiet F.plain_sum_loop _,codeAny_sum_loopS W' val' (fun i v h=>by cases i with | zero=>exact h.elim | succ i=>exact hval i v h) (fun j hj=>by
  cases j with
  | zero=>exact ⟨h0,by rw [show preSum val' (0+1)=v0 by simp [preSum,val']];exact h0⟩
  | succ j=>rw [hpre];exact hfit j (by omega)) s.heap.objs.size hSf n 1 _ s.toks 0 (by omega) (by omega) hst' ?_ fun s' t' hm=>?_⟩
 · rw [show preSum val' 1=v0 by simp [preSum,val']]
   exact Heap.get?_push_size _ rfl
 · rw [hpre]
   refine hQ s' t' g (fun b o hb hl e=>hm.heap b o (fun h=>?_) (Heap.get?_push_of_some _ e)) (hinv _ fun b o hb e=>hm.heap b o (fun h=>?_) (Heap.get?_push_of_some _ e)) hm.os hm.gens
   rotate_left
   · rcases mC h with rfl | h
     · exact absurd (Heap.lt_size e) (Nat.lt_irrefl _)
     · exact hb h
   rcases mC h with rfl | h
   · exact absurd hl (Nat.lt_irrefl _)
   · exact absurd (hwr b h) (Nat.not_le.mpr hb)
end
section
variable {w:World} {A:Around} {E:VP} {s:Shared}
theorem read_is {P:Params} {x d:Addr} {vs:List Value} {n nd:Nat} {h1:Int} {t1 t2:Tok} {Q:VP} (X:(frag.heap_1 P).In s.heap) (I:InstAt s.heap x (accObj d vs n) 200 (some (accD h1 t1 t2 nd)))
 (h:∀ k,s.toks≤k→Q (.int 3 t2) { s with toks:=k }):wpAny (model prog w) A (getAttr (.ref x) "_initial_size" true) Q E s:=by
 have hf:findObj (frag.heap_1 P) 200 (some (accD h1 t1 t2 nd)) "_initial_size"=some (.value (.int 3 t2)):=by
  obtain ⟨cd,hc,hasd⟩:∃ cd,clsIn (frag.heap_1 P) 200=some cd∧cd.hasDict=true:=⟨_,by k_is,rfl⟩
  have ha:findIn (frag.heap_1 P) (.ref 200) "_initial_size"=some none:=by k_is
  have ho:PySem.W.ownOf cd (some (accD h1 t1 t2 nd)) "_initial_size"=some (some (.int 3 t2)):=by
   unfold PySem.W.ownOf
   rw [if_pos hasd]
   dsimp only
   rw [lookIn_dict];rfl
  unfold findObj
  rw [hc,Option.bind_some,ha,Option.bind_some]
  dsimp only
  rw [Option.bind_some,Option.bind_some]
  dsimp only
  rw [ho];rfl
 have L1:∀ k,Looks (model prog w) ({ s with toks:=k }:Shared).heap (Builtin.ObjectAttr.find (.ref x) (.ref 200) "_initial_size") (.value (.int 3 t2)):=fun k=>looks_find (M:=model prog w) X I hf
 have L0:=I.type (M:=model prog w)
 unfold getAttr getAttrBy
 refine wpAny_bind (wpAny_mkText (wpAny_holding (wpAny_bind (L0.at (wpAny_bind ((looks_findIn X ga200).at ?_))))))
 show wpAny _ _ (getAttrByItsOwn _ _ _ _ _ _) _ _ _
 unfold getAttrByItsOwn
 refine wpAny_bind ((looks_findIn X ga_no).at ?_)
 refine wpAny_bind (wpAny_attempt (wpAny_holding ?_))
 show wpAny _ _ (boundAndCalled _ _ _) _ _ _
 unfold boundAndCalled
 refine wpAny_bind (wpAny_of_eq (PySem.F.slot_list_getattribute.bind _) ?_)
 refine wpAny_mono (Q:=fun v s'=>v=.int 3 t2∧∃ k,s.toks≤k∧s'={ s with toks:=k }) (E:=fun _ _=>False) ?_ (fun v s' hv=>?_) fun _ _ z=>z.elim
 · refine acc_call (n:="__getattribute__") X I.at_ rfl (.inl (by decide +kernel)) (by decide +kernel) PySem.F.slot_list_getattribute.plain am_entry_list_getattribute (PySem.F.args_list_getattribute_2 _ _) ?_
   unfold Builtin.«object.__getattribute__»
   refine wpAny_bind (wpAny_pure (wpAny_bind (wpAny_pure (wpAny_bind (L0.at (wpAny_bind ((L1 _).at ?_)))))))
   exact wpAny_pure ⟨_,rfl,rfl,_,Nat.le_succ _,rfl⟩
 · obtain ⟨rfl,k,hk,rfl⟩:=hv
   exact wpAny_pure (h k hk)
noncomputable def Ones (ps:List (Str×Str)):Prop:=∀ p∈ps,p.1.length=1∧p.2.length=1
theorem pre_two (n:Nat):preSum (fun _=>2) n=2*n:=by
 induction n with
 | zero=>rfl
 | succ n ih=>rw [preSum,ih];omega
theorem tabs162 {q:Str} (hq:q=Str.ofString "_Accumulator.__len__.<locals>.<genexpr>") (h h':Heap) (t:TabsOk h) (k:∀ b o,b≠162→h.get? b=some o→h'.get? b=some o) (x:TabOk 162 q 158 19 h'):TabsOk h':=by
 subst hq
 exact ⟨tabsBut t.t86 (by decide) k (by decide),tabsBut t.t93 (by decide) k (by decide),x,tabsBut t.t169 (by decide) k (by decide),tabsBut t.t234 (by decide) k (by decide)⟩
theorem tabs169 {q:Str} (hq:q=Str.ofString "_Accumulator.__str__.<locals>.<genexpr>") (h h':Heap) (t:TabsOk h) (k:∀ b o,b≠169→h.get? b=some o→h'.get? b=some o) (x:TabOk 169 q 161 32 h'):TabsOk h':=by
 subst hq
 exact ⟨tabsBut t.t86 (by decide) k (by decide),tabsBut t.t93 (by decide) k (by decide),tabsBut t.t162 (by decide) k (by decide),x,tabsBut t.t234 (by decide) k (by decide)⟩
theorem Piece.keep {T:List Addr} {s s':Shared} {v:Value} {p:Str×Str} (x:Piece s.heap v p) (y:Step w T s s') (hT:∀ a∈T,a < 250∨∃ o,s.heap.get? a=some o∧o.cls≠.type "tuple"):Piece s'.heap v p:=by
 refine exE3 x fun a ta tb hh=>anE2 hh fun z3 h=>?_;clear hh;try clear x;rcases z3 with rfl
 refine exI3 a ta tb (anI2 rfl (h.keep y fun hm=>?_))
 rcases hT a hm with h1 | ⟨o,e,hc⟩
 · exact absurd h.2 (Nat.not_le.mpr h1)
 · rw [h.1] at e;cases e;exact hc rfl
theorem Pieces.keep {T:List Addr} {s s':Shared} {vs:List Value} {ps:List (Str×Str)} (x:Pieces s.heap vs ps) (y:Step w T s s') (hT:∀ a∈T,a < 250∨∃ o,s.heap.get? a=some o∧o.cls≠.type "tuple"):Pieces s'.heap vs ps:=by
 induction x with
 | nil=>exact .nil
 | cons h _ ih=>exact .cons (h.keep y hT) ih
theorem acc_len (l:Lvl A 800) (I:Inv w s.heap) {x d:Addr} {vs:List Value} {ps:List (Str×Str)} {n nd:Nat} {h1:Int} {t1 t2:Tok} {Q:VP} (hx:At s.heap x (accObj d vs n)) (hd':At s.heap d (accD h1 t1 t2 nd)) (hps:Pieces s.heap vs ps) (ho:Ones ps) (hz:vs.length≤1000)
 (k:∀ t s',Step w [162] s s'→Q (.int (3+2*vs.length) t) s'):wpAny (model prog w) A (call (.ref 167) [.ref x]) Q E s:=by
 refine weaken l fun fr gd=>?_
 refine enterS (args:=⟨[.ref x],[]⟩) I (by k_is) (by k_is) (by show (800:Nat) < 1000;decide) (BindsTo.of_eq rfl) (locs rfl) ?_ (by decide)
 intro L h₁ S₀ fL hL hnL ltL
 have hx1:=hx.keep S₀ nM
 have hd1:=hd'.keep S₀ nM
 have hp1:=hps.keep S₀ fun _ h=>nN h
 have I1:=S₀.inv
 refine wpAny_execs_cons (wpAny_Return_some ?_)
 refine wpAny_Call_NameR (name_builtin (v:=.builtin "sum") I1 rfl rfl rfl rfl (by k_is) (by decide) (by rfl) (by decide) ?_)
 show wpAny _ _ (callWith _ (.builtin "sum") [] [(false,eval (genAcc (lenElt _ _ _ _ _ _ _) _ _ _ _ _ lenScope _) _),(false,eval (.Attribute (.Name "self" _) "_initial_size" _) _)] []) _ _ _
 refine callWith_builtin rfl (evalArgs_plain (spliced_cons ?_))
 refine gen_acc (q:=Str.ofString "_Accumulator.__len__.<locals>.<genexpr>") (P:=162) (ln:=158) (cl:=19) (G:=fun p y=>∃ t,y=.int 2 t) rfl (by show (800+1:Nat) < 1000;decide) I1 rfl (by rfl) rfl (hd166 I1.K) (by decide) I1.tabs.t162 (tabs162 rfl) (by rfl) (by rfl) (by intro _;rfl) rfl rfl (by decide) (by rfl) (by rfl) (by rfl) rfl
  (fun Q' q=>wpAny_Name (wpAny_loadName_local rfl rfl hnL rfl q) (by decide)) hx1 hp1 (fun A' E' C code t m₂ p ta tb hA hp It hC hn h1 h2=>?_) fun a s2 y X=>?_
 · have e:=ho p hp
   refine wpAny_mono (len_elt rfl hA It hn h1 h2 (by omega) (by omega)) (fun y s3 h=>⟨?_,h.2⟩) fun _ _ e=>e
   obtain ⟨t,rfl⟩:=h.1
   exact ⟨t,by rw [e.1,e.2];rfl⟩
 have n162:∀ {b:Addr},250≤b→b∉[162]:=fun hb hm=>absurd (mS hm) (Nat.ne_of_gt (Nat.lt_of_lt_of_le (by decide) hb))
 have hx2:=hx1.keep y (n162 hx1.2)
 have hd2:=hd1.keep y (n162 hd1.2)
 have hn2:=hnL.at' fun o e=>y.keep _ o e (n162 hL)
 refine spliced_cons ?_
 rw [arm_eval_Attribute]
 show wpAny _ _ (eval (.Name "self" _) _ >>= _) _ _ _
 refine wpAny_bind (wpAny_Name (wpAny_loadName_local rfl rfl hn2 rfl ?_) (by decide))
 refine wpAny_bind (wpAny_standAt (wpAny_bind (wpAny_holding (read_is (s:=s2) (x:=x) (d:=d) (vs:=vs) y.inv.K ⟨hx2.1,rfl,rfl,hd2.1⟩ fun k0 hk0=>?_))))
 refine wpAny_bind (wpAny_pure (wpAny_pure (spliced_nil ?_)))
 show wpAny _ _ (call (.builtin "sum") [.ref a,.int 3 t2]) _ _ _
 refine sum_start (X.toks hk0) (fun _=>2) (fun j v h=>let ⟨p,_,h⟩:=h;h) (by unfold InLong;omega) (fun j hj=>⟨by unfold InLong;omega,?_⟩) fun s3 t' g hk iv hos hg=>?_
 · rw [pre_two];unfold InLong;omega
 rw [pre_two]
 refine k t' s3 ⟨fun b o e hb=>?_,hos.trans (y.os.trans S₀.os),fun G=>hg.bare (y.gens (S₀.gens G)),iv⟩
 have e1:=S₀.keep b o e nM
 have e2:=y.keep b o e1 hb
 exact hk b o (Heap.lt_size e1) (Heap.lt_size e2) e2
theorem join_gen {a N:Addr} {n:Nat} {Fv:Nat→Value→Prop} {sep:Str} {t:Tok} {Q:VP} (X:GenOf w A a N n Fv s) (tx:Nat→Str) (htx:∀ j v,Fv j v→∃ u,v=.str (tx j) u) (hok:JoinOk sep ((List.range n).map tx)=true) (hsz:n≤sizeLine)
 (hQ:∀ s' t' g,(∀ b o,b < N→s.heap.get? b=some o→s'.heap.get? b=some o)→Inv w s'.heap→s'.os=s.os→GenOnlyQ g s.gens s'.gens→Q (.str (Txt.join sep ((List.range n).map tx)) t') s'):wpAny (model prog w) A (call (.builtin "str.join") [.str sep t,.ref a]) Q E s:=by
 refine exE4 X fun fp wr g St hh=>anE7 hh fun W hst hT ha hfp hwr hinv=>?_;clear hh;try clear X
 have W:=W.in4_2
 refine SC.joinGen W hT hst hfp ha (fun j v hv=>let ⟨u,e⟩:=htx j v hv;⟨_,u,e⟩) (fun s' lt hm hacc=>?_) hsz
 have hl:lt.map (·.1)=(List.range n).map tx:=by
  apply List.ext_getElem?
  intro j
  have hsz:lt.length=n:=by simpa [strValues] using hacc.1
  by_cases hj:j < n
  · have hj':j < lt.length:=hsz▸hj
    obtain ⟨u,hv⟩:=htx j _ (hacc.2 j (.str lt[j].1 lt[j].2) (by simp [strValues,List.getElem?_eq_getElem hj']))
    injection hv with h1 _
    simp [List.getElem?_eq_getElem hj',hj,h1]
  · rw [List.getElem?_eq_none (by simpa [hsz] using Nat.le_of_not_lt hj),List.getElem?_eq_none (by simpa using Nat.le_of_not_lt hj)]
 rw [hl]
 refine ⟨hok,fun t' k=>hQ { s' with toks:=k } t' g (fun b o hb e=>hm.heap b o (fun hmem=>absurd (hwr b hmem) (Nat.not_le.mpr hb)) e) (hinv _ fun b o hb e=>hm.heap b o hb e) hm.os hm.gens⟩
noncomputable def rowText (ps:List (Str×Str)):Str:=Txt.join "" (ps.map fun p=>Txt.join "" [p.1,p.2])
noncomputable def txAt (ps:List (Str×Str)) (j:Nat):Str:=match ps[j]? with
 | some p=>Txt.join "" [p.1,p.2]
 | none=>""
theorem txAt_all (ps:List (Str×Str)):(List.range ps.length).map (txAt ps)=ps.map fun p=>Txt.join "" [p.1,p.2]:=by
 apply List.ext_getElem?
 intro j
 by_cases hj:j < ps.length
 · simp [hj,txAt]
 · rw [List.getElem?_eq_none (by simpa using Nat.le_of_not_lt hj),List.getElem?_eq_none (by simpa using Nat.le_of_not_lt hj)]
theorem len_pair {a b:Str} (ha:a.length=1) (hb:b.length=1):(Txt.join "" [a,b]).length≤2:=by
 have:=StrLaws.join_length_le "" [a,b]
 have e:(Txt.join "" [a,b])=Str.join "" [a,b]:=by
  have:=join_plain_closes "" [a,b]
  exact (beq_iff_eq.mp this)
 rw [e]
 simp only [List.map_cons,List.map_nil,List.sum_cons,List.sum_nil,List.length_cons,List.length_nil] at this
 have z:(Str.ofString "").length=0:=by decide
 rw [z] at this
 omega
theorem acc_str (l:Lvl A 800) (I:Inv w s.heap) {x d:Addr} {vs:List Value} {ps:List (Str×Str)} {n nd:Nat} {h1:Int} {t1 t2:Tok} {Q:VP} (hx:At s.heap x (accObj d vs n)) (hps:Pieces s.heap vs ps) (ho:Ones ps) (hz:vs.length≤1000)
 (k:∀ t s',Step w [169] s s'→Q (.str (rowText ps) t) s'):wpAny (model prog w) A (call (.ref 174) [.ref x]) Q E s:=by
 have he:∃ t0,nsIn (frag.heap_1 w.params) mainGlobals "EMPTYSTRING"=some (some (.str "" t0)):=⟨_,by k_is⟩
 obtain ⟨t0,he⟩:=he
 refine weaken l fun fr gd=>?_
 refine enterS (args:=⟨[.ref x],[]⟩) I (by k_is) (by k_is) (by show (800:Nat) < 1000;decide) (BindsTo.of_eq rfl) (locs rfl) ?_ (by decide)
 intro L h₁ S₀ fL hL hnL ltL
 have hx1:=hx.keep S₀ nM
 have hp1:=hps.keep S₀ fun _ h=>nN h
 have I1:=S₀.inv
 refine wpAny_execs_cons (wpAny_Return_some ?_)
 refine wpAny_Call_method (T:="str") (id:="str.join") rfl rfl rfl F.plainAttrs_str F.slot_str_join F.type_str_join ?_
 refine name_global I1 rfl rfl rfl he (by decide) ⟨typeIs_str _ _ _,(fun _ e=>nomatch e),?_⟩
 show wpAny _ _ (callWith _ (.builtin "str.join") [.str "" t0] [(false,eval (genAcc (strElt _ _ _ _ _ _ _) _ _ _ _ _ strScope _) _)] []) _ _ _
 refine callWith_builtin rfl (evalArgs_plain (spliced_cons ?_))
 refine gen_acc (q:=Str.ofString "_Accumulator.__str__.<locals>.<genexpr>") (P:=169) (ln:=161) (cl:=32) (G:=fun p y=>∃ t,y=.str (Txt.join "" [p.1,p.2]) t) rfl (by show (800+1:Nat) < 1000;decide) I1 rfl (by rfl) rfl (hd173 I1.K) (by decide) I1.tabs.t169 (tabs169 rfl) (by rfl) (by rfl) (by intro _;rfl) rfl rfl (by decide) (by rfl) (by rfl) (by rfl) rfl
  (fun Q' q=>wpAny_Name (wpAny_loadName_local rfl rfl hnL rfl q) (by decide)) hx1 hp1 (fun A' E' C code t m₂ p ta tb hA hp It hC hn h1 h2=>?_) fun a s2 y X=>?_
 · have e:=ho p hp
   exact str_elt rfl hA It hn rfl h1 h2 (by omega) (by omega)
 refine spliced_nil ?_
 show wpAny _ _ (call (.builtin "str.join") [.str "" t0,.ref a]) _ _ _
 have hlen:=hps.len
 have htx:∀ j v,(∃ p,ps[j]? = some p∧∃ t,v=Value.str (Txt.join "" [p.1,p.2]) t)→∃ u,v=Value.str (txAt ps j) u:=fun j v ⟨p,hp,t,e⟩=>⟨t,by rw [e];unfold txAt;rw [hp]⟩
 have hall:(List.range vs.length).map (txAt ps)=ps.map fun p=>Txt.join "" [p.1,p.2]:=by rw [hlen];exact txAt_all ps
 refine join_gen X (txAt ps) htx ?_ (by rw [sizeLine_eq];omega) fun s3 t' g hk iv hos hg=>?_
 · rw [hall]
   unfold JoinOk
   rw [StrLaws.joinFits (B:=2)]
   · rfl
   · intro y hy
     obtain ⟨p,hp,rfl⟩:=List.mem_map.mp hy
     exact len_pair (ho p hp).1 (ho p hp).2
   · have z:(Str.ofString "").length=0:=by decide
     rw [z,List.length_map,← hlen];omega
 rw [hall]
 refine k t' s3 ⟨fun b o e hb=>?_,hos.trans (y.os.trans S₀.os),fun G=>hg.bare (y.gens (S₀.gens G)),iv⟩
 have e1:=S₀.keep b o e nM
 have e2:=y.keep b o e1 hb
 exact hk b o (Heap.lt_size e1) e2
end
end
section
section
variable {w:World} {A:Around} {E:VP} {s s₁:Shared} {env:Env} {T:List Addr}
noncomputable def Src2 (prog:Program) (w:World) (T:List Addr) (xv:Value) (n:Nat) (P:Nat→Value→Prop) (s₁:Shared):Prop :=
 ∀ (A:Around) (Q E:VP),A.handled=none →
   (∀ o fp St tk,isCode o=false→o.isFreed=false→Walks prog w A s₁.heap.objs.size fp [s₁.heap.objs.size] n P St→(∀ i h,St i h→∃ o,h.get? s₁.heap.objs.size=some o∧isCode o=false)→St 0 (s₁.heap.push o) →
     (∀ b∈fp,b=s₁.heap.objs.size∨(b < s₁.heap.objs.size∧b∉T))→Q (.ref s₁.heap.objs.size) { s₁ with heap:=s₁.heap.push o,toks:=tk })→wpAny (model prog w) A (pyIter xv) Q E s₁
theorem src2_str {y:Str} {t:Tok}:Src2 prog w T (.str y t) y.cps.size (SignAt y) s₁:=by
 intro A Q E hh k
 refine wpAny_pyIter_strU (k _ [s₁.heap.objs.size] (fun i h=>h.IsStrIter s₁.heap.objs.size (strIterType y) y t i) s₁.toks rfl rfl ?_ ?_ ?_ ?_)
 · unfold strIterType
   split
   · exact Walks.strAscii hh _ y t
   · exact Walks.strWide hh _ y t
 · rintro i h ⟨o,ho,_,hd⟩
   refine ⟨o,ho,?_⟩
   unfold isCode
   rw [hd];rfl
 · exact exI1 _ (anI3 (Heap.get?_push_size _ rfl) rfl rfl)
 · intro b hb;exact .inl (mS hb)
theorem src2_list {l nl:Nat} {vs:List Value} (hT:l∉T) (hl:At s₁.heap l (listOf vs.toArray nl)):Src2 prog w T (.ref l) vs.length (fun i v=>vs[i]? = some v) s₁:=by
 intro A Q E hh k
 have il:s₁.heap.IsList l vs.toArray:=⟨_,hl.1,rfl,_,rfl⟩
 have lt:l < s₁.heap.objs.size:=hl.lt
 refine wpAny_pyIter_list il (k _ [s₁.heap.objs.size,l] (fun i h=>h.IsListIter s₁.heap.objs.size l i∧h.IsList l vs.toArray) s₁.toks rfl rfl ?_ ?_ ?_ ?_)
 · have W:=Walks.list (prog:=prog) (w:=w) hh s₁.heap.objs.size l (Nat.ne_of_lt lt) vs.toArray
   simpa using W
 · rintro i h ⟨⟨o,ho,_,hd⟩,_⟩
   refine ⟨o,ho,?_⟩
   unfold isCode
   rw [hd];rfl
 · exact ⟨⟨_,Heap.get?_push_size _ rfl,rfl,rfl⟩,il.push _⟩
 · intro b hb
   rcases mC hb with rfl | hb
   · exact .inl rfl
   · rw [mS hb]
     exact .inr ⟨lt,hT⟩
theorem src2_range {r:Addr} {n:Nat} {t u v:Tok} (hr:IsRange s₁.heap r 0 n 1 t u v) (hn:n≤1000):Src2 prog w T (.ref r) n (fun i v=>∃ t,v=.int i t) s₁:=by
 intro A Q E hh k
 refine wpAny_pyIter_range hr (small_one (by decide) (by decide) (by omega) (by omega)) ?_
 have hsz:Builtin.Range.rangeSize 0 n 1=(n:Int):=by rw [rangeSize_one];split <;> omega
 rw [hsz]
 refine k _ [s₁.heap.objs.size] (fun i h=>IsRangeIter h s₁.heap.objs.size (0+(i:Nat) * 1) ((n:Int) - (i:Nat)) 1) s₁.toks rfl rfl ?_ ?_ ?_ ?_
 · have W:=Walks.range (prog:=prog) (w:=w) hh s₁.heap.objs.size 0 1 n
   exact { W with item:=fun i s Q E hi st hQ=>W.item i s Q E hi st fun v h' tk hP st' hk=>hQ v h' tk (by obtain ⟨t,rfl⟩:=hP;exact ⟨t,by congr 1;omega⟩) st' hk }
 · intro i h x
   exact ⟨_,x,rfl⟩
 · show IsRangeIter _ _ _ _ _
   rw [show ((0:Int) + ((0:Nat):Int) * 1)=0 from rfl,Int.ofNat_zero,Int.sub_zero]
   exact Heap.get?_push_size _ rfl
 · intro b hb;exact .inl (mS hb)
theorem for_src {x:Str} {px pos:Pos} {iter:PySem.Expr} {body:List Stmt} {Q:Flow→Shared→Prop} (hh:A.handled=none)
 (h:wpAny (model prog w) A (eval iter env) (fun xv s₁=>∃ T n P,∃ J:Nat→Shared→Prop,Inv w s₁.heap∧Src2 prog w T xv n P s₁∧(∀ a∈T,a < s₁.heap.objs.size) ∧
   (∀ i s,J i s→Inv w s.heap)∧(∀ s',Step w [] s₁ s'→J 0 s')∧(∀ i s s',J i s→Step w [s₁.heap.objs.size] s s'→J i s') ∧
   (∀ i v s,i < n→P i v→J i s→(∃ o,s.heap.get? s₁.heap.objs.size=some o)→wpAny (model prog w) A (assign (.Name x px) env v) (fun _ s₂=>wpAny (model prog w) A (execs body env) (fun f s₃=>match f with
     | .brk=>Q .next s₃
     | .ret v=>Q (.ret v) s₃
     | _=>TurnOk (J (i+1)) (fun _=>Step w T s s₃) s₃) (fun _ _=>False) s₂) (fun _ _=>False) s) ∧
   (∀ s,J n s→Q .next s)) E s)
 (hs:∀ x,foldedSetIterable iter env x=pure x:=by intro _;rfl) :
 wpAny (model prog w) A (exec (.For (.Name x px) iter body [] pos) env) Q E s:=by
 refine wpAny_For (wpAny_mono h (fun xv s₁ h₁=>?_) fun _ _ e=>e) hs
 refine exE4 h₁ fun T n P J hh=>anE8 hh fun In src hT hJI h0 hst turn done=>?_;clear hh;try clear h₁
 refine src A _ _ hh fun o fp St tk hoc hof W hIc hst0 hfp=>?_
 have hI250:250≤s₁.heap.objs.size:=In.size
 have k0:∀ b o',s₁.heap.get? b=some o'→(s₁.heap.push o).get? b=some o':=fun b o' e=>Heap.get?_push_of_some _ e
 have S0:Step w [] s₁ { s₁ with heap:=s₁.heap.push o,toks:=tk }:=⟨fun b o' e _=>k0 b o' e,rfl,id,In.keepAll k0⟩
 refine codeAny_forLoop_any (fun k s'=>∃ i,i≤n∧k=n+1 - i∧St i s'.heap∧J i s') ?_ (n+1) ⟨0,Nat.zero_le _,rfl,hst0,h0 _ S0⟩
 intro k s' q0
 refine exE1 q0 fun i hh=>anE4 hh fun hi e9 st hJ=>?_
 clear hh q0
 subst e9
 obtain ⟨oI,hoI,hcI⟩:=hIc i _ st
 have stepI:∀ (h':Heap) (tk:Nat),(∀ b o,b∉[s₁.heap.objs.size]→s'.heap.get? b=some o→h'.get? b=some o)→Step w [s₁.heap.objs.size] s' { s' with heap:=h',toks:=tk }:=fun h' tk hk =>
  step_of (hJI _ _ hJ) hk fun a ha=>by
   rw [mS ha]
   exact ⟨hI250,fun o e=>by rw [hoI] at e;cases e;exact hcI⟩
 by_cases hlt:i < n
 · refine W.item i s' _ _ hlt st fun v h' tk' hP st' hk=>?_
   refine wpAny_pure ?_
   have hJ':=hst i s' _ hJ (stepI h' tk' hk)
   obtain ⟨o2,ho2,-⟩:=hIc _ _ st'
   refine wpAny_mono (turn i v _ hlt hP hJ' ⟨o2,ho2⟩) (fun _ s₂ h₂=>?_) fun _ _ x=>x.elim
   refine wpAny_mono h₂ (fun f s₃ h₃=>?_) fun _ _ x=>x.elim
   have fin:TurnOk (J (i+1)) (fun _=>Step w T { s' with heap:=h',toks:=tk' } s₃) s₃→∃ m,m < n+1 - i∧∃ i,i≤n∧m=n+1 - i∧St i s₃.heap∧J i s₃:=fun h₃ =>
    ⟨n+1 - (i+1),by omega,i+1,hlt,rfl,W.frame _ _ _ st' fun b hb o e=>(show Step w T { s' with heap:=h',toks:=tk' } s₃ from h₃.2).keep b o e fun hm=>by
      rcases hfp b hb with rfl | ⟨-,h⟩
      · exact Nat.lt_irrefl _ (hT _ hm)
      · exact h hm,h₃.1⟩
   cases f with
   | next=>exact fin h₃
   | cont=>exact fin h₃
   | brk=>exact h₃
   | ret v=>exact h₃
 · have:i=n:=by omega
   subst this
   refine W.done s' _ _ st fun h' tk hk=>?_
   exact wpAny_pure (done _ (hst _ s' _ hJ (stepI h' tk hk)))
noncomputable def upd (m:Str→Option Value) (x:Str) (v:Value):Str→Option Value:=fun z=>if z=x then some v else m z
theorem upd_self (m:Str→Option Value) (x:Str) (v:Value):upd m x v x=some v:=if_pos rfl
theorem upd_ne (m:Str→Option Value) {x y:Str} (v:Value) (h:y≠x):upd m x v y=m y:=if_neg h
theorem set_S {m:Str→Option Value} {x:Str} {v:Value} {Q:Unit→Shared→Prop} (I:Inv w s.heap) (hL:250≤env.locals) (hn:s.heap.Ns env.locals m) (hx:env.kindOf x=some .local) (hp:(env.scope.kind == .class || (env.scope.kind == .module && env.locals != env.globals))=false)
 (h:∀ s',Step w [env.locals] s s'→s'.heap.Ns env.locals (upd m x v)→Q () s'):wpAny (model prog w) A (storeName env x v) Q E s:=by
 refine wpAny_storeName_local hx hn (fun h' hn' hs'=>h _ (step_of I (fun b o hb e=>hs'.extBut b o (fun q=>hb (List.mem_singleton.mpr q)) e) fun a ha=>?_) hn') hp
 rw [mS ha]
 exact ⟨hL,ns_notCode hn⟩
theorem asg_S {x:Str} {px pos:Pos} {value:PySem.Expr} {Q:Flow→Shared→Prop} (hsw:swapsWith value (some (.Name x px)) pos.line env=pure false) (hL:250≤env.locals) (hx:env.kindOf x=some .local) (hp:(env.scope.kind == .class || (env.scope.kind == .module && env.locals != env.globals))=false)
 (h:wpAny (model prog w) A (eval value env) (fun v s₁=>Inv w s₁.heap∧∃ m,s₁.heap.Ns env.locals m∧∀ s',Step w [env.locals] s₁ s'→s'.heap.Ns env.locals (upd m x v)→Q .next s') E s) :
 wpAny (model prog w) A (exec (.Assign [.Name x px] value pos) env) Q E s:=by
 refine wpAny_Assign_Name (wpAny_mono h (fun v s₁ h₁=>?_) fun _ _ e=>e) hsw
 obtain ⟨I,m,hn,k⟩:=h₁
 exact set_S I hL hn hx hp fun s' y hn'=>k s' y hn'
theorem assign_S {x:Str} {px:Pos} {m:Str→Option Value} {v:Value} {Q:Unit→Shared→Prop} (I:Inv w s.heap) (hL:250≤env.locals) (hn:s.heap.Ns env.locals m) (hx:env.kindOf x=some .local) (hp:(env.scope.kind == .class || (env.scope.kind == .module && env.locals != env.globals))=false)
 (h:∀ s',Step w [env.locals] s s'→s'.heap.Ns env.locals (upd m x v)→Q () s'):wpAny (model prog w) A (assign (.Name x px) env v) Q E s:=wpAny_assign_Name (set_S I hL hn hx hp h)
end
end
section
theorem fold_app {α:Type}:∀ (l:List (Array α)) (acc:Array α),List.foldl (fun x y=>x ++ y) acc l=acc ++ (l.map Array.toList).flatten.toArray
 | [],acc=>by simp
 | a :: r,acc=>by
   rw [List.foldl_cons,fold_app r]
   apply Array.toList_inj.mp
   simp
theorem fold_rep (xs:List Value) (k:Nat):List.foldl (fun x1 x2=>x1 ++ x2) #[] (List.replicate (if xs.toArray.isEmpty=true then 0 else k) xs.toArray)=(List.replicate k xs).flatten.toArray:=by
 rw [fold_app]
 by_cases h:xs=[]
 · subst h;simp
 · have:xs.toArray.isEmpty=false:=by
    cases xs with
    | nil=>exact absurd rfl h
    | cons a r=>rfl
   rw [this]
   simp
section
variable {w:World} {A:Around} {E:VP} {s:Shared}
theorem snapStep {L:Addr} {m:Str→Option Value} (I:Inv w s.heap) (hL:250≤L) (hn:s.heap.Ns L m):∃ g R loose mean mg mb,Snap w g L s [] R∧Fr g L s.heap m∧News g L s.heap R∧(frag.heap_1 w.params).In g∧Top topProg loose mean mg mb g:=by
 obtain ⟨g,R,loose,mean,mg,mb,B,F,N,X,T,sep⟩:=(snap I hn hL [] (fun _ h=>nN h))
 exact exI6 g R loose mean mg mb (anI5 B F N X T)
theorem mul_S {L l n:Nat} {m:Str→Option Value} {xs:List Value} {x:Nat} {u:Tok} {Q:VP} (I:Inv w s.heap) (hL:250≤L) (hn:s.heap.Ns L m) (hl:s.heap.get? l=some (listOf xs.toArray n)) (hx:x≤1000) (hz:xs.length≤1000)
 (k:∀ D s',Step w [L] s s'→s'.heap.Ns L m→s.heap.get? D=none→At s'.heap D (listOf (List.replicate x xs).flatten.toArray 0)→Q (.ref D) s'):wpAny (model prog w) A (binaryOp .Mult (.ref l) (.int x u)) Q E s:=by
 refine exE6 (snapStep I hL hn) fun g R loose mean mg mb hh=>anE5 hh fun B F N X T=>?_;clear hh
 refine PyProof.Rows.mul_list F N hl (by omega) (by omega) ?_ fun h' F' N'=>?_
 · rw [List.size_toArray,Int.toNat_natCast]
   exact Nat.le_trans (Nat.mul_le_mul hz hx) (by decide)
 · rw [Int.toNat_natCast,fold_rep] at N'
   have st:=B.fin (s':={ s with heap:=h' }) [] F' N' ⟨rfl,id⟩ (fun p hp=>.tail _ hp) (fun _ h=>nN h)
   have f:s.heap.get? s.heap.objs.size=none:=Heap.get?_none_of_le (Nat.le_refl _)
   exact k _ _ st F'.ns f ⟨(N' _ (.head _)).1,I.size⟩
theorem setAt_S {W n:Nat} {xs:List Value} {i:Nat} {t:Tok} {v:Value} {Q:Unit→Shared→Prop} (I:Inv w s.heap) (hW:At s.heap W (listOf xs.toArray n)) (hi:i < xs.length) (hz:xs.length≤1000)
 (k:∀ s',Step w [W] s s'→At s'.heap W (listOf (xs.set i v).toArray n)→Q () s'):wpAny (model prog w) A (setItem (.ref W) (.int i t) v) Q E s:=by
 refine ki_setAt hW.1 (by omega) (by omega) (by rw [List.size_toArray];omega) ?_
 have e:Obj.mapSeq (·.setIfInBounds (i:Int).toNat v) (listOf xs.toArray n)=listOf (xs.set i v).toArray n:=by
  simp [Obj.mapSeq]
 refine k _ (step_of I (fun b o hb e=>(Heap.SameBut.update ..).extBut b o (fun q=>hb (List.mem_singleton.mpr q)) e) fun a ha=>?_) ⟨?_,hW.2⟩
 · rw [mS ha]
   exact ⟨hW.2,fun o e=>by rw [hW.1] at e;cases e;rfl⟩
 · rw [Heap.get?_update_self _ hW.1 (by rw [e];rfl),e]
theorem index7 {i:Nat} {t u:Tok} {Q:VP} (hA:A.handled=none) (hi:i < 7) (h:∀ t k,Q (.int i t) { s with toks:=k }):wpAny (model prog w) A (call (.builtin "str.index") [.str "abcdefg" t,.str (Str.mk #[97+i]) u]) Q E s:=by
 have e:Txt.find "abcdefg" (Str.mk #[97+i])=(i:Int):=(by decide +kernel:∀ i:Fin 7,Txt.find "abcdefg" (Str.mk #[97+i.1])=(i.1:Int)) ⟨i,hi⟩
 refine index_or hA (fun h0=>?_) fun h0 h1=>?_
 · rw [e] at h0;omega
 · rw [e];exact h _ _
theorem range_S {n:Nat} {t:Tok} {Q:VP} (I:Inv w s.heap) (h:∀ r t u v s',Step w [] s s'→IsRange s'.heap r 0 n 1 t u v→Q (.ref r) s'):wpAny (model prog w) A (call (.type "range") [.int n t]) Q E s:=by
 have k0:∀ (o':Obj) b o,s.heap.get? b=some o→(s.heap.push o').get? b=some o:=fun _ b o e=>Heap.get?_push_of_some _ e
 exact call_range_1 (h _ _ _ _ _ ⟨fun b o e _=>k0 _ b o e,rfl,id,I.keepAll (k0 _)⟩ (IsRange.new ..))
theorem list_S {env:Env} {elts:List PySem.Expr} {pos:Pos} {Q:VP} (h:wpAny (model prog w) A (spliced (backTo pos (starEach elts env))) (fun vs s₁=>vs.length≤1000∧Inv w s₁.heap∧∀ D s',Step w [] s₁ s'→s₁.heap.get? D=none→At s'.heap D (listOf vs.toArray 0)→Q (.ref D) s') E s) :
 wpAny (model prog w) A (eval (.List elts pos) env) Q E s:=by
 refine wpAny_List (wpAny_mono h (fun vs s₁ h₁=>?_) fun _ _ e=>e)
 obtain ⟨hz,I,k⟩:=h₁
 have k0:∀ (o':Obj) b o,s₁.heap.get? b=some o→(s₁.heap.push o').get? b=some o:=fun _ b o e=>Heap.get?_push_of_some _ e
 exact ⟨by rw [sizeLine_eq];omega,k _ _ ⟨fun b o e _=>k0 _ b o e,rfl,id,I.keepAll (k0 _)⟩ (Heap.get?_none_of_le (Nat.le_refl _)) ⟨Heap.get?_push_size _ rfl,I.size⟩⟩
theorem tuple_S {env:Env} {elts:List PySem.Expr} {k:Nat} {pos:Pos} {Q:VP} (h:wpAny (model prog w) A (spliced (backTo pos (starEach elts env))) (fun vs s₁=>vs.length≤1000∧Inv w s₁.heap∧∀ D s',Step w [] s₁ s'→s₁.heap.get? D=none→At s'.heap D ⟨.type "tuple",none,.seq vs.toArray 0,#[]⟩→Q (.ref D) s') E s) :
 wpAny (model prog w) A (eval (.Tuple elts k pos) env) Q E s:=by
 refine wpAny_Tuple (wpAny_mono h (fun vs s₁ h₁=>?_) fun _ _ e=>e)
 obtain ⟨hz,I,k⟩:=h₁
 have k0:∀ (o':Obj) b o,s₁.heap.get? b=some o→(s₁.heap.push o').get? b=some o:=fun _ b o e=>Heap.get?_push_of_some _ e
 exact ⟨by rw [sizeLine_eq];omega,k _ _ ⟨fun b o e _=>k0 _ b o e,rfl,id,I.keepAll (k0 _)⟩ (Heap.get?_none_of_le (Nat.le_refl _)) ⟨Heap.get?_push_size _ rfl,I.size⟩⟩
theorem len_S {l n:Nat} {xs:List Value} {Q:VP} (hl:s.heap.get? l=some (listOf xs.toArray n)) (hz:xs.length≤1000000) (h:∀ t j,Q (.int xs.length t) { s with toks:=j }):wpAny (model prog w) A (call (.builtin "len") [.ref l]) Q E s:=by
 refine call_len_list ⟨_,hl,rfl,_,rfl⟩ (by rw [List.size_toArray];omega) ?_
 rw [List.size_toArray];exact h _ _
theorem add_S {L a b n k:Nat} {m:Str→Option Value} {xs ys:List Value} {Q:VP} (I:Inv w s.heap) (hL:250≤L) (hn:s.heap.Ns L m) (ha:s.heap.get? a=some (listOf xs.toArray n)) (hb:s.heap.get? b=some (listOf ys.toArray k)) (hz:xs.length+ys.length≤1000)
 (h:∀ D s',Step w [L] s s'→s'.heap.Ns L m→s.heap.get? D=none→At s'.heap D (listOf (xs ++ ys).toArray 0)→Q (.ref D) s'):wpAny (model prog w) A (binaryOp .Add (.ref a) (.ref b)) Q E s:=by
 refine exE6 (snapStep I hL hn) fun g R loose mean mg mb hh=>anE5 hh fun B F N X T=>?_;clear hh
 refine add_lists (hsz:=by rw [sizeLine_eq];omega) F N ⟨_,ha,rfl,_,rfl⟩ ⟨_,hb,rfl,_,rfl⟩ fun h' F' N'=>?_
 have st:=B.fin (s':={ s with heap:=h' }) [] F' N' ⟨rfl,id⟩ (fun p hp=>.tail _ hp) (fun _ h=>nN h)
 exact h _ _ st F'.ns (Heap.get?_none_of_le (Nat.le_refl _)) ⟨(N' _ (.head _)).1,I.size⟩
theorem item_S {l n:Nat} {xs:List Value} {i:Nat} {t:Tok} {v:Value} {Q:VP} (hl:s.heap.get? l=some (listOf xs.toArray n)) (hv:xs[i]? = some v) (hz:xs.length≤1000000) (h:Q v s):wpAny (model prog w) A (getItem (.ref l) (.int i t)) Q E s:=by
 have hi:i < xs.length:=(List.getElem?_eq_some_iff.mp hv).1
 exact wpAny_getItem_list ⟨_,hl,rfl,_,rfl⟩ (by omega) (by omega) (by rw [Int.toNat_natCast,List.getElem?_toArray];exact hv) h
end
end
section
theorem canLayAll0_strs:∀ ns:List Str,ns.all PyData.strOk=true→PyData.canLayAll0 (ns.map PyData.str)=true
 | [],_=>rfl
 | a :: r,h=>by
   rw [List.all_cons,Bool.and_eq_true] at h
   simp [PyData.canLayAll0,PyData.canLay0,canLayAll0_strs r h.2,h.1]
theorem depthAll_strs:∀ ns:List Str,PyData.depthAll (ns.map PyData.str)=0
 | []=>rfl
 | _ :: r=>by simp [PyData.depthAll,PyData.depth,depthAll_strs r]
theorem shaped_strs {ns:List Str} (h:ns.all PyData.strOk=true):SeqAt.shaped (.list (ns.map PyData.str))=true:=by
 simp [SeqAt.shaped,PyData.canLay0,PyData.depth,canLayAll0_strs ns h,depthAll_strs]
theorem sameAll_strs:∀ ns ms:List Str,PySem.Spec.sameAll (ns.map PyData.str) (ms.map PyData.str)=decide (ns=ms)
 | [],[]=>by simp [PySem.Spec.sameAll]
 | [],_ :: _=>by simp [PySem.Spec.sameAll]
 | _ :: _,[]=>by simp [PySem.Spec.sameAll]
 | a :: r,b :: t=>by
   simp only [List.map_cons,PySem.Spec.sameAll,PySem.Spec.same,sameAll_strs r t]
   by_cases h:a=b <;> by_cases h':r=t <;> simp [h,h']
theorem same_strs (ns ms:List Str):PySem.Spec.same (.list (ns.map PyData.str)) (.list (ms.map PyData.str))=decide (ns=ms):=by
 simp only [PySem.Spec.same];exact sameAll_strs ns ms
theorem carried_strs:∀ {vs:List Value} {ns:List Str},StrsAre vs ns→CarriedAll vs (ns.map PyData.str)
 | _,_,.nil=>.nil
 | _,_,.cons _ t r=>.cons (.str _ t) (carried_strs r)
section
variable {w:World} {A:Around} {E:VP} {s:Shared} {a b:Addr} {xs ys:List Value} {ns ms:List Str} {n k:Nat} {Q:VP}
theorem eq_strs (ha:s.heap.get? a=some (listOf xs.toArray n)) (hb:s.heap.get? b=some (listOf ys.toArray k)) (hi:StrsAre xs ns) (hj:StrsAre ys ms) (o1:ns.all PyData.strOk=true) (o2:ms.all PyData.strOk=true) (hu:A.units+64 < cLine) (h:Q (.bool (decide (ns=ms))) s) :
 wpAny (model prog w) A (compareOp .Eq (.ref a) (.ref b)) Q E s :=
 eq_dataH_same (reads_newData ⟨_,ha,rfl,_,rfl⟩ (carried_strs hi)) (reads_newData ⟨_,hb,rfl,_,rfl⟩ (carried_strs hj)) (shaped_strs o1) (shaped_strs o2) hu (SeqAt.noMix_of_shape (.list .str) rfl _ _ (list_map_has fun _=>rfl) (list_map_has fun _=>rfl)) (by rw [same_strs];exact h)
theorem ne_strs (ha:s.heap.get? a=some (listOf xs.toArray n)) (hb:s.heap.get? b=some (listOf ys.toArray k)) (hi:StrsAre xs ns) (hj:StrsAre ys ms) (o1:ns.all PyData.strOk=true) (o2:ms.all PyData.strOk=true) (hu:A.units+64 < cLine) (h:Q (.bool (!decide (ns=ms))) s) :
 wpAny (model prog w) A (compareOp .NotEq (.ref a) (.ref b)) Q E s :=
 ne_dataH_same (reads_newData ⟨_,ha,rfl,_,rfl⟩ (carried_strs hi)) (reads_newData ⟨_,hb,rfl,_,rfl⟩ (carried_strs hj)) (shaped_strs o1) (shaped_strs o2) hu (SeqAt.noMix_of_shape (.list .str) rfl _ _ (list_map_has fun _=>rfl) (list_map_has fun _=>rfl)) (by rw [same_strs];exact h)
theorem ne_tups {vs ws:List Value} {xs ys:List PyData} (ha:s.heap.get? a=some ⟨.type "tuple",none,.seq vs.toArray n,#[]⟩) (hb:s.heap.get? b=some ⟨.type "tuple",none,.seq ws.toArray k,#[]⟩) (hi:CarriedAll vs xs) (hj:CarriedAll ws ys)
 (h1:SeqAt.shaped (.tuple xs)=true) (h2:SeqAt.shaped (.tuple ys)=true) (hu:A.units+64 < cLine) (h:Q (.bool (!PyData.eqv (.tuple xs) (.tuple ys))) s) :
 wpAny (model prog w) A (compareOp .NotEq (.ref a) (.ref b)) Q E s :=
 ne_dataH (reads_newDataT ⟨_,ha,rfl,_,rfl⟩ hi) (reads_newDataT ⟨_,hb,rfl,_,rfl⟩ hj) h1 h2 hu h
end
end
section
noncomputable def addW (f:Nat→Nat) (x:List Nat) (v:Nat):Nat→Nat:=fun c=>f c+if x.contains c then v else 0
theorem ints_set:∀ {vs:List Value} {ns:List Int} (i:Nat) (x:Int) (t:Tok),IntsAre vs ns→IntsAre (vs.set i (.int x t)) (ns.set i x)
 | _,_,_,_,_,.nil=>.nil
 | _,_,0,_,_,.cons _ _ r=>.cons _ _ r
 | _,_,i+1,x,t,.cons _ _ r=>.cons _ _ (ints_set i x t r)
theorem ints_get:∀ {vs:List Value} {ns:List Int} (i:Nat),IntsAre vs ns→(hi:i < ns.length)→∃ t,vs[i]? = some (.int ns[i] t)
 | _,_,0,.cons n t r,_=>⟨t,rfl⟩
 | _,_,i+1,.cons _ _ r,h=>ints_get i r (by simpa using h)
theorem r7_get {f:Nat→Nat} {vs:List Value} {i:Nat} (h:IntsAre vs (toI ((List.range 7).map f))) (hi:i < 7):∃ t,vs[i]? = some (.int (f i) t):=by
 obtain ⟨t,e⟩:=ints_get i h (by simpa [toI] using hi)
 exact ⟨t,by rw [e];simp [toI]⟩
theorem r7_set {f g:Nat→Nat} {vs:List Value} {i:Nat} {t:Tok} (h:IntsAre vs (toI ((List.range 7).map f))) (hi:i < 7) (hg:∀ c,c < 7→g c=if c=i then g i else f c):IntsAre (vs.set i (.int (g i) t)) (toI ((List.range 7).map g)):=by
 have h2:=ints_set i (g i:Int) t h
 have e:(toI ((List.range 7).map f)).set i (g i:Int)=toI ((List.range 7).map g):=by
  apply List.ext_getElem
  · simp [toI]
  · intro j h1 h3
    have hj:j < 7:=by simpa [toI] using h3
    rw [List.getElem_set]
    by_cases q:i=j
    · subst q;simp [toI]
    · rw [if_neg q]
      have:=hg j hj
      rw [if_neg (fun e=>q e.symm)] at this
      simp [toI,this]
 rw [e] at h2;exact h2
theorem r7_len {f:Nat→Nat} {vs:List Value} (h:IntsAre vs (toI ((List.range 7).map f))):vs.length=7:=by
 rw [h.length];simp [toI]
theorem cw_snoc (o:Own) (ns:List (List Nat)) (x:List Nat):cw o (ns ++ [x])=addW (cw o ns) x (wt o x):=by
 funext c
 simp [cw,addW,List.map_append,List.sum_append]
theorem addW_zero (f:Nat→Nat) (x:List Nat):addW f x 0=f:=by
 funext c;simp [addW]
theorem taken_filter (o:Own) (x:List Nat):taken o x=false ↔ (x.filter fun c=>o c == 2)=[]:=by
 unfold taken
 rw [List.filter_eq_nil_iff,List.any_eq_false]
theorem letters_ok (xs:List Nat) (h:∀ c∈xs,c < 7):(xs.map letter).all PyData.strOk=true:=by
 rw [List.all_eq_true]
 intro y hy
 obtain ⟨c,hc,rfl⟩:=List.mem_map.mp hy
 exact (by decide +kernel:∀ c:Fin 7,PyData.strOk (letter c.1)=true) ⟨c,h c hc⟩
theorem addW_snoc {f:Nat→Nat} {x:List Nat} {v j:Nat} (hx:x.Nodup) (hj:j < x.length) (c:Nat):addW f (x.take (j+1)) v c=if c=x[j] then addW f (x.take j) v c+v else addW f (x.take j) v c:=by
 have e:x.take (j+1)=x.take j ++ [x[j]]:=by rw [List.take_succ_eq_append_getElem hj]
 have hn:x[j]∉x.take j:=by
  intro hm
  have h2:(x.take j ++ [x[j]]).Nodup:=e▸(List.take_sublist (j+1) x).nodup hx
  exact (List.nodup_append.mp h2).2.2 _ hm _ (List.mem_singleton.mpr rfl) rfl
 unfold addW
 rw [e]
 by_cases q:c=x[j]
 · subst q
   rw [if_pos rfl]
   have h1:(x.take j).contains x[j]=false:=by simpa using hn
   have h2:(x.take j ++ [x[j]]).contains x[j]=true:=by
    rw [List.contains_iff_mem];exact List.mem_append.mpr (.inr (List.mem_singleton.mpr rfl))
   rw [h1,h2];simp
 · rw [if_neg q]
   have h1:(x.take j ++ [x[j]]).contains c=(x.take j).contains c:=by
    rw [Bool.eq_iff_iff,List.contains_iff_mem,List.contains_iff_mem,List.mem_append,List.mem_singleton]
    exact ⟨fun h=>h.resolve_right q,.inl⟩
   rw [h1]
theorem take_snoc {ns:List (List Nat)} {i:Nat} (hi:i < ns.length):ns.take (i+1)=ns.take i ++ [ns[i]]:=List.take_succ_eq_append_getElem hi
theorem half16 {k:Nat} (hk:k≤4):(16:Int).fdiv ((2 ^ k:Nat):Int)=((2 ^ (4 - k):Nat):Int):=(by decide:∀ k:Fin 5,(16:Int).fdiv ((2 ^ k.1:Nat):Int)=((2 ^ (4 - k.1):Nat):Int)) ⟨k,Nat.lt_succ_of_le hk⟩
theorem strs_ix {vs:List Value} {xs:List Str} (h:StrsAre vs xs):∀ (i:Nat) (v:Value),vs[i]? = some v→∃ (y:Str) (t:Tok),xs[i]? = some y∧v=Value.str y t:=by
 induction h with
 | nil=>intro i v e;simp at e
 | cons y t _ ih =>
   intro i v e
   cases i with
   | zero=>simp at e;exact exI2 y t (anI2 (by simp) e.symm)
   | succ i =>
     simp at e
     refine exE2 (ih i v e) fun y' t' hh=>anE2 hh fun h1 h2=>?_;clear hh
     exact exI2 y' t' (anI2 (by simpa using h1) h2)
theorem strs_get {vs:List Value} {ns:List (List Nat)}:StrsAre vs (ns.map nstr)→∀ i v,vs[i]? = some v→∃ (hi:i < ns.length) (t:Tok),v=Value.str (nstr ns[i]) t:=by
 intro h i v e
 have hl:=StrsAre.len_eq h
 rw [List.length_map] at hl
 have hi:i < ns.length:=by
  rw [← hl]
  exact (List.getElem?_eq_some_iff.mp e).1
 refine exE2 (strs_ix h i v e) fun y t hh=>anE2 hh fun h1 z3=>?_;clear hh;rcases z3 with rfl
 rw [List.getElem?_map,List.getElem?_eq_getElem hi] at h1
 exact ⟨hi,t,by cases h1;rfl⟩
theorem base_const (c:Const) (k:Nat) (p:Pos) (name:Str) (env:Env) (t:Sem Value):attributeBase (.Constant c k p) name env t=t:=rfl
theorem at_any {w:World} {α:Type} {M:Model} {A:Around} {t:Sem α} {Q:α→Shared→Prop} {E:VP} {s0 s5:Shared} (y:Step w [] s5 s0) (h:∀ s7,Step w [] s5 s7→wpAny M A t Q E s7):wpAny M A t Q E s0:=h s0 y
structure WtJ (w:World) (s₀:Shared) (L W:Nat) (pr:(Str→Option Value)→Prop) (f:Nat→Nat) (s:Shared):Prop where
 st:Step w [L] s₀ s
 ex:∃ m,s.heap.Ns L m∧m "weights"=some (.ref W)∧pr m
 wt:∃ vs n,At s.heap W (listOf vs.toArray n)∧IntsAre vs (toI ((List.range 7).map f))
theorem WtJ.move {w:World} {s₀ s s':Shared} {L W:Nat} {pr:(Str→Option Value)→Prop} {f:Nat→Nat} {T:List Addr} (j:WtJ w s₀ L W pr f s) (y:Step w T s s') (hL:L∉T) (hW:W∉T) (hf:∀ a∈T,s₀.heap.get? a=none):WtJ w s₀ L W pr f s':=by
 obtain ⟨st,⟨m,hn,h1,h2⟩,vs,n,h3,h4⟩:=j
 exact ⟨st.trans y fun a h=>.inr (hf a h),⟨m,hn.at' fun o e=>y.keep _ o e hL,h1,h2⟩,vs,n,h3.keep y hW,h4⟩
theorem Step.freshTop {w:World} {T:List Addr} {s s':Shared} (y:Step w T s s') (h:∀ a∈T,a < s'.heap.objs.size):s.heap.get? s'.heap.objs.size=none:=by
 cases q:s.heap.get? s'.heap.objs.size with
 | none=>rfl
 | some o=>exact absurd (Heap.lt_size (y.keep _ o q fun hm=>Nat.lt_irrefl _ (h _ hm))) (Nat.lt_irrefl _)
theorem Step.was {w:World} {T:List Addr} {s s':Shared} (y:Step w T s s') {a:Addr} (h:s'.heap.get? a=none) (ha:a∉T):s.heap.get? a=none:=by
 cases q:s.heap.get? a with
 | none=>rfl
 | some o=>have:=y.keep a o q ha;rw [h] at this;cases this
theorem OwnAt.some {w:World} {h:Heap} {o:Addr} {own:Nat→Nat} (x:OwnAt w h o own):∃ ob,h.get? o=some ob:=by
 obtain ⟨_,kvs,⟨ob,es,ep,e,-⟩,-⟩:=x
 exact ⟨ob,e⟩
theorem powN_S {w:World} {A:Around} {E:VP} {s:Shared} {k:Nat} {t u:Tok} {Q:VP} (hk:k≤1000) (h:∀ t j,Q (.int ((2 ^ k:Nat):Int) t) { s with toks:=j }):wpAny (model prog w) A (binaryOp .Pow (.int 2 t) (.int k u)) Q E s:=by
 cases k with
 | zero=>exact AutoIntOps.pow_0 (by decide) (by decide) (h _ _)
 | succ k =>
   refine AutoIntOps.pow_4 (by omega) (fun h=>by have:=beq_iff_eq.mp h;omega) (by decide) (by decide) ?_ ?_
   · have e:((Builtin.Int.intBits 2:Nat):Int)=2:=by decide +kernel
     rw [e]
     unfold Builtin.Int.intTooBig bitsLine
     simp only [gt_iff_lt,decide_eq_true_eq]
     have:(1000:Int) < 2 ^ 27:=by decide
     omega
   · have e:(2:Int) ^ (((k+1:Nat):Int)).toNat=((2 ^ (k+1):Nat):Int):=by rw [Int.toNat_natCast,Int.natCast_pow];rfl
     rw [e]
     exact h _ _
theorem pow2_S {w:World} {A:Around} {E:VP} {s:Shared} {k:Nat} {t u:Tok} {Q:VP} (hk:k≤12) (h:∀ t j,Q (.int ((2 ^ k:Nat):Int) t) { s with toks:=j }):wpAny (model prog w) A (binaryOp .Pow (.int 2 t) (.int k u)) Q E s:=powN_S (Nat.le_trans hk (by decide)) h
theorem div16_S {w:World} {A:Around} {E:VP} {s:Shared} {k:Nat} {t u:Tok} {Q:VP} (hk:k≤4) (h:∀ t j,Q (.int ((2 ^ (4 - k):Nat):Int) t) { s with toks:=j }):wpAny (model prog w) A (binaryOp .FloorDiv (.int 16 t) (.int ((2 ^ k:Nat):Int) u)) Q E s:=by
 have hp:0 < 2 ^ k:=Nat.two_pow_pos k
 have h0:((2 ^ k:Nat):Int)≠0:=by omega
 refine AutoIntOps.floordiv_1 (fun h=>h0 (beq_iff_eq.mp h)) ?_ ?_
 · obtain ⟨k',rfl⟩:∃ k':Fin 5,k=k'.1:=⟨⟨k,Nat.lt_succ_of_le hk⟩,rfl⟩
   clear h h0 hp hk
   revert k';decide
 · rw [half16 hk];exact h _ _
section
variable {w:World} {A:Around} {E:VP} {s:Shared}
theorem weights_spec (l:Lvl A 700) (I:Inv w s.heap) {NM O:Addr} {us:List Value} {n:Nat} {ns:List (List Nat)} {own:Nat→Nat} {Q:VP} (hNM:At s.heap NM (listOf us.toArray n)) (hus:StrsAre us (ns.map nstr)) (hok:∀ x∈ns,NameOk x) (hns:ns.length≤7) (hO:OwnAt w s.heap O own) (hown:∀ i,own i≤2)
 (k:∀ D vs n s',Step w [] s s'→s.heap.get? D=none→At s'.heap D (listOf vs.toArray n)→IntsAre vs (toI (weights own ns))→Q (.ref D) s'):wpAny (model prog w) A (call (.ref 244) [.ref NM,.ref O]) Q E s:=by
 refine weaken l fun fr gd=>?_
 refine enterSC (args:=⟨[.ref NM,.ref O],[]⟩) I (by k_is) (by k_is) (by show (700:Nat) < 1000;decide) (BindsTo.of_eq rfl) (kindsX rfl) (by decide) ?_
 intro L h₁ tk cells S₀ fL hL hnL ltL Y hc
 k_cells Y
 have hcell:h₁.IsCell (L+1) (some (.ref O)):=⟨_,(hc _ (.head _)).1,by assumption⟩
 have hC1:@Ne Nat (L+1) L:=(hc _ (.head _)).2.1
 have fC:s.heap.get? (L+1)=none:=(hc _ (.head _)).2.2
 have I1:=S₀.inv
 have hO1:=hO.keep S₀ nM
 have hNM1:=hNM.keep S₀ nM
 refine wpAny_execs_cons (asg_S rfl hL rfl rfl ?_)
 rw [arm_eval_BinOp]
 refine wpAny_bind (wpAny_List ?_)
 refine spliced_cons (wpAny_Constant_int (k:=0) (pos:=⟨0,0,0,0⟩) (spliced_nil ⟨by rw [sizeLine_eq];exact Nat.le_of_ble_eq_true rfl,?_⟩))
 refine wpAny_bind (wpAny_holding (wpAny_Constant_int (k:=0) (pos:=⟨0,0,0,0⟩) ?_))
 refine wpAny_bind (wpAny_standAt (wpAny_operating ?_))
 have f0:h₁.get? h₁.objs.size=none:=Heap.get?_none_of_le (Nat.le_refl _)
 have k0:∀ b o,h₁.get? b=some o→(h₁.push (listOf [Value.int 0 tk].toArray 0)).get? b=some o:=fun b o e=>Heap.get?_push_of_some _ e
 have y0:∀ t,Step w [] { s with heap:=h₁,toks:=tk } { s with heap:=h₁.push (listOf [Value.int 0 tk].toArray 0),toks:=t }:=fun t=>⟨fun b o e _=>k0 b o e,rfl,id,I1.keepAll k0⟩
 refine mul_S (L:=L) (x:=7) (xs:=[.int 0 tk]) (n:=0) (I1.keepAll k0) hL (hnL.keeps k0) (Heap.get?_push_size _ rfl) (by decide) (Nat.le_of_ble_eq_true rfl) fun W s2 y2 hn2 fW hW=>?_
 have y12:Step w [L] { s with heap:=h₁,toks:=tk } s2:=((y0 _).wide fun a ha=>absurd ha nM).trans y2 fun a ha=>.inl ha
 refine ⟨y2.inv,_,hn2,fun s3 y3 hn3=>?_⟩
 have fW1:h₁.get? W=none:=by
  cases q:h₁.get? W with
  | none=>rfl
  | some o=>have:=k0 _ _ q;dsimp only at fW;rw [this] at fW;cases fW
 have hWL:W≠L:=fun e=>by
  refine exE3 hnL fun o _ _ hh=>anE2 hh fun e2 _=>?_;clear hh;try clear hnL
  rw [e,e2] at fW1;cases fW1
 have hW3:=hW.keep y3 (fun hm=>hWL (mS hm))
 have st3:Step w [L] { s with heap:=h₁,toks:=tk } s3:=y12.trans y3 fun a ha=>.inl ha
 have nO:O∉[L]:=fun hm=>by
  obtain ⟨o,e⟩:∃ o,s.heap.get? O=some o:=⟨_,(Classical.choose_spec (show ∃ o,s.heap.get? O=some o from by obtain ⟨_,kvs,⟨ob,es,ep,e,-⟩,-⟩:=hO;exact ⟨ob,e⟩))⟩
  rw [mS hm,fL] at e;cases e
 have nNM:NM∉[L]:=fun hm=>by
  have e:=hNM.1
  rw [mS hm,fL] at e;cases e
 have J0:WtJ w { s with heap:=h₁,toks:=tk } L W (fun _=>True) (cw own (ns.take 0)) s3:=by
  refine ⟨st3,⟨_,hn3,upd_self _ _ _,trivial⟩,_,_,hW3,?_⟩
  have:toI ((List.range 7).map (cw own (ns.take 0)))=[0,0,0,0,0,0,0]:=by
   simp [cw,toI];rfl
  rw [this]
  exact .cons _ _ (.cons _ _ (.cons _ _ (.cons _ _ (.cons _ _ (.cons _ _ (.cons _ _ .nil))))))
 refine wpAny_execs_cons (for_src rfl ?_)
 refine wpAny_Name (wpAny_loadName_local rfl rfl hn3 (v:=.ref NM) rfl ?_) (by decide)
 have ltT:∀ a∈[L,W],a < s3.heap.objs.size:=fun a ha=>by
  rcases mC ha with rfl | ha
  · exact hn3.lt
  · rw [mS ha];exact hW3.lt
 have nNM2:NM∉[L,W]:=fun hm=>by
  rcases mC hm with h | h
  · exact nNM (List.mem_singleton.mpr h)
  · have e:=hNM1.1
    rw [mS h] at e
    dsimp only at e
    rw [fW1] at e;cases e
 have topF:({ s with heap:=h₁,toks:=tk }:Shared).heap.get? s3.heap.objs.size=none:=st3.freshTop fun a ha=>ltT a (by rw [mS ha];exact .head _)
 refine exI4 [L,W] us.length (fun i v=>us[i]? = some v) (fun i s'=>WtJ w { s with heap:=h₁,toks:=tk } L W (fun _=>True) (cw own (ns.take i)) s') (anI8 st3.inv (src2_list nNM2 (hNM1.keep st3 nNM)) ltT (fun i s' j=>j.st.inv) (fun s' y=>J0.move y nM nM fun _ h=>nN h) (fun i s4 s' j y=>j.move y ?_ ?_ ?_) ?_ ?_)
 · intro hm;rw [mS hm] at hn3;exact Nat.lt_irrefl _ hn3.lt
 · intro hm;have:=hW3.lt;rw [mS hm] at this;exact Nat.lt_irrefl _ this
 · intro a ha;rw [mS ha];exact topF
 · intro i v s4 hi hP J hI
   obtain ⟨hin,t,rfl⟩:=strs_get hus i v hP
   refine exE1 J.ex fun m4 hh=>anE3 hh fun hn4 hm4 z3=>?_;clear hh;clear z3
   refine assign_S J.st.inv hL hn4 rfl rfl fun s5 y5 hn5=>?_
   have nL5:@Ne Nat (L+1) L:=hC1
   have n1:(L+1:Nat)∉[L]:=fun hm=>hC1 (mS hm)
   have LW:∀ a∈[L],a∈[L,W]∨s4.heap.get? a=none:=fun a ha=>.inl (by rw [mS ha];exact .head _)
   have J5:WtJ w { s with heap:=h₁,toks:=tk } L W (fun m=>m "name"=some (.str (nstr ns[i]) t)) (cw own (ns.take i)) s5:=by
    refine exE2 J.wt fun vs n' hh=>anE2 hh fun h3 h4=>?_;clear hh
    exact ⟨J.st.trans y5 fun a ha=>.inl ha,⟨_,hn5,by rw [upd_ne _ _ (by decide)];exact hm4,upd_self _ _ _⟩,vs,n',h3.keep y5 (fun hm=>hWL (mS hm)),h4⟩
   have hstep:cw own (ns.take (i+1))=addW (cw own (ns.take i)) ns[i] (wt own ns[i]):=by rw [take_snoc hin,cw_snoc]
   obtain ⟨hnd,h7,hl34⟩:=hok ns[i] (List.getElem_mem hin)
   have hl7:ns[i].length≤7:=by omega
   have ownS:∀ {s':Shared},Step w [L] { s with heap:=h₁,toks:=tk } s'→OwnAt w s'.heap O own∧s'.heap.IsCell (L+1) (some (.ref O)):=fun y=>⟨hO1.keep y nO,let ⟨o,e,r⟩:=hcell;⟨o,y.keep _ _ e n1,r⟩⟩
   have J5st:=J5.st
   refine wpAny_execs_cons (wpAny_If (wpAny_isTrue_Compare1 ?_))
   refine own_comp (t:=t) (x:=ns[i]) (cl:=[("owners",L+1)]) (k:=2) (own:=own) (O:=O) rfl J5st.inv rfl (by decide) rfl (by decide) (by rfl) (by intro _;rfl)
    (fun Q' q=>wpAny_Name (wpAny_loadName_local rfl rfl hn5 (upd_self _ _ _) q) (by decide)) (ownS J5st).1 (ownName_of (by decide) rfl rfl rfl (ownS J5st).2) rfl (by decide) hown h7 hl7 fun D nD ys s6 y6 fD hD hys=>?_
   refine wpAny_List (spliced_nil ⟨Nat.zero_le _,?_⟩)
   have k6:∀ b o,s6.heap.get? b=some o→(s6.heap.push (listOf #[] 0)).get? b=some o:=fun b o e=>Heap.get?_push_of_some _ e
   have y7:∀ t,Step w [] s5 { s6 with heap:=s6.heap.push (listOf #[] 0),toks:=t }:=fun t=>y6.trans (show Step w [] s6 { s6 with heap:=s6.heap.push (listOf #[] 0),toks:=t } from ⟨fun b o e _=>k6 b o e,rfl,id,y6.inv.keepAll k6⟩) fun a ha=>.inl ha
   refine eq_strs (k6 _ _ hD.1) (Heap.get?_push_size _ rfl) hys .nil (letters_ok _ fun c hc=>h7 c (List.mem_filter.mp hc).1) rfl (by show (10*700+3:Nat) + 64 < cLine;decide) ?_
   refine at_any (y7 _) fun s7 y57=>wpAny_truthy_bool ?_
   have y47:Step w [L,W] s4 s7:=(y5.wide LW).trans y57 fun a ha=>absurd ha nM
   have J7:=J5.move y57 nM nM fun _ h=>nN h
   have dec:decide ((ns[i].filter fun c=>own c == 2).map letter=[])=!(taken own ns[i]):=by
    cases h:taken own ns[i] with
    | false=>rw [(taken_filter own ns[i]).mp h];rfl
    | true =>
      have h2:(ns[i].filter fun c=>own c == 2)≠[]:=fun e=>by rw [(taken_filter own ns[i]).mpr e] at h;cases h
      simp [h2]
   rw [dec]
   cases htk:taken own ns[i] with
   | true =>
     refine wpAny_execs_nil (wpAny_execs_nil ?_)
     refine ⟨?_,y47⟩
     have hw0:wt own ns[i]=0:=by unfold wt;rw [htk];rfl
     show WtJ _ _ _ _ _ (cw own (ns.take (i+1))) s7
     rw [hstep,hw0,addW_zero]
     exact ⟨J7.st,let ⟨m,a,b,_⟩:=J7.ex;⟨m,a,b,trivial⟩,J7.wt⟩
   | false =>
     have hwt:wt own ns[i]=2 ^ (4 - frees own ns[i]):=by unfold wt;rw [htk];rfl
     have hfr:frees own ns[i]≤4:=by
      have:=frees_le own ns[i]
      omega
     refine exE1 J7.ex fun m7 hh=>anE3 hh fun hn7 hw7 hname7=>?_;clear hh
     have J7st:=J7.st
     refine wpAny_execs_cons (asg_S rfl hL rfl rfl ?_)
     rw [arm_eval_BinOp]
     refine wpAny_bind (wpAny_Constant_int (k:=0) (pos:=⟨0,0,0,0⟩) (wpAny_bind (wpAny_holding ?_)))
     rw [arm_eval_BinOp]
     refine wpAny_bind (wpAny_Constant_int (k:=0) (pos:=⟨0,0,0,0⟩) (wpAny_bind (wpAny_holding ?_)))
     refine at_any (s5:=s7) (((Step.refl J7st.inv).toks _)) fun s8 y78=>?_
     have J8:=J7.move y78 nM nM fun _ h=>nN h
     refine exE1 J8.ex fun m8 hh=>anE3 hh fun hn8 hw8 hname8=>?_;clear hh
     have J8st:=J8.st
     refine wpAny_Call_NameR (name_builtin (v:=.builtin "len") J8st.inv rfl rfl rfl rfl (by k_is) (by decide) (by rfl) (by decide) ?_)
     refine callWith_builtin rfl (evalArgs_plain (spliced_cons ?_))
     refine own_comp (t:=t) (x:=ns[i]) (cl:=[("owners",L+1)]) (k:=0) (own:=own) (O:=O) rfl J8st.inv rfl (by decide) rfl (by decide) (by rfl) (by intro _;rfl)
      (fun Q' q=>wpAny_Name (wpAny_loadName_local rfl rfl hn8 hname8 q) (by decide)) (ownS J8st).1 (ownName_of (by decide) rfl rfl rfl (ownS J8st).2) rfl (by decide) hown h7 hl7 fun D2 nD2 ys2 s9 y9 fD2 hD2 hys2=>?_
     refine spliced_nil ?_
     have hlen2:ys2.toArray.size=frees own ns[i]:=by
      rw [List.size_toArray,StrsAre.len_eq hys2,List.length_map];rfl
     refine call_len_list ⟨_,hD2.1,rfl,_,rfl⟩ (by rw [hlen2];omega) ?_
     rw [hlen2]
     refine wpAny_bind (wpAny_standAt (wpAny_operating (pow2_S (by omega) fun t2 j2=>?_)))
     refine wpAny_bind (wpAny_standAt (wpAny_operating (div16_S hfr fun t3 j3=>?_)))
     rw [← hwt]
     have y89:Step w [] s8 { s9 with toks:=j3 }:=y9.toks j3
     have J9:=J8.move y89 nM nM fun _ h=>nN h
     refine exE1 J9.ex fun m9 hh=>anE3 hh fun hn9 hw9 hname9=>?_;clear hh
     refine ⟨J9.st.inv,m9,hn9,fun sA yA hnA=>?_⟩
     have yLW:Step w [L,W] s4 sA:=(y47.trans (y78.trans y89 fun a ha=>.inl ha) fun a ha=>absurd ha nM).trans yA fun a ha=>.inl (by rw [mS ha];exact .head _)
     have JA:WtJ w { s with heap:=h₁,toks:=tk } L W (fun m=>m "weight"=some (.int ((wt own ns[i]:Nat):Int) t3)) (addW (cw own (ns.take i)) (ns[i].take 0) (wt own ns[i])) sA:=by
      refine exE2 J9.wt fun vs n' hh=>anE2 hh fun h3 h4=>?_;clear hh
      refine ⟨J9.st.trans yA fun a ha=>.inl ha,⟨_,hnA,by rw [upd_ne _ _ (by decide)];exact hw9,upd_self _ _ _⟩,vs,n',h3.keep yA (fun hm=>hWL (mS hm)),?_⟩
      rw [List.take_zero]
      have:addW (cw own (ns.take i)) [] (wt own ns[i])=cw own (ns.take i):=by funext c;simp [addW]
      rw [this];exact h4
     have ltA:∀ a∈[L,W],a < sA.heap.objs.size:=fun a ha=>by
      rcases mC ha with rfl | ha
      · exact hnA.lt
      · rw [mS ha];refine exE2 JA.wt fun _ _ hh=>anE2 hh fun h _=>?_;clear hh;exact h.lt
     have topA:({ s with heap:=h₁,toks:=tk }:Shared).heap.get? sA.heap.objs.size=none:=JA.st.freshTop fun a ha=>ltA a (by rw [mS ha];exact .head _)
     refine wpAny_execs_cons (for_src rfl ?_)
     refine wpAny_Name (wpAny_loadName_local rfl rfl hnA (v:=.str (nstr ns[i]) t) (by rw [upd_ne _ _ (by decide)];exact hname9) ?_) (by decide)
     refine exI4 [L,W] (ns[i].length) (SignAt (nstr ns[i])) (fun j s'=>WtJ w { s with heap:=h₁,toks:=tk } L W (fun m=>m "weight"=some (.int ((wt own ns[i]:Nat):Int) t3)) (addW (cw own (ns.take i)) (ns[i].take j) (wt own ns[i])) s'∧Step w [L,W] s4 s') (anI8 JA.st.inv (by rw [← nstr_size];exact src2_str) ltA (fun j s' J=>J.1.st.inv) (fun s' y=>⟨JA.move y nM nM fun _ h=>nN h,yLW.trans y fun a ha=>absurd ha nM⟩) (fun j sX sY J y=>⟨J.1.move y ?_ ?_ ?_,J.2.trans y fun a ha=>.inr ?_⟩) ?_ ?_)
     · intro hm;have:=hnA.lt;rw [mS hm] at this;exact Nat.lt_irrefl _ this
     · intro hm;have:=ltA W (.tail _ (.head _));rw [mS hm] at this;exact Nat.lt_irrefl _ this
     · intro a ha;rw [mS ha];exact topA
     · rw [mS ha];exact yLW.freshTop ltA
     · intro j v sB hj hP JB hIB
       obtain ⟨hj',u,rfl⟩:=sign_at hP
       obtain ⟨JB,yB⟩:=JB
       refine exE1 JB.ex fun mB hh=>anE3 hh fun hnB hwB hgB=>?_;clear hh
       refine assign_S JB.st.inv hL hnB rfl rfl fun sC yC hnC=>?_
       refine exE2 JB.wt fun vs n' hh=>anE2 hh fun hWB hI=>?_;clear hh
       have hWC:=hWB.keep yC (fun hm=>hWL (mS hm))
       have hc7:ns[i].getD j 0 < 7:=by
        rw [List.getD_eq_getElem?_getD,List.getElem?_eq_getElem hj]
        exact h7 _ (List.getElem_mem hj)
       have hgd:ns[i].getD j 0=ns[i][j]:=by rw [List.getD_eq_getElem?_getD,List.getElem?_eq_getElem hj];rfl
       obtain ⟨tv,hv⟩:=r7_get hI hc7
       have hvl:=r7_len hI
       refine wpAny_execs_cons (wpAny_AugAssign_Subscript_any ?_)
       refine wpAny_Name (wpAny_loadName_local rfl rfl hnC (v:=.ref W) (by rw [upd_ne _ _ (by decide)];exact hwB) ?_) (by decide)
       refine wpAny_Call_method (T:="str") (id:="str.index") ?hb ?hf ?hl ?h1 ?h2 ?h3 ?hr
       case hl=>rfl
       case hf=>rfl
       case hb=>exact base_const _ _ _ _ _ _
       case h1=>exact F.plainAttrs_str
       case h2=>exact F.slot_str_index
       case h3=>exact F.type_str_index
       refine Constant_str (k:=0) (pos:=⟨0,0,0,0⟩) ⟨typeIs_str _ _ _,(fun _ e=>nomatch e),?_⟩
       refine callWith_builtin rfl (evalArgs_plain (spliced_cons (wpAny_Name (wpAny_loadName_local rfl rfl hnC (upd_self _ _ _) (spliced_nil ?_)) (by decide))))
       refine index7 rfl hc7 fun t5 k5=>?_
       refine wpAny_getItem_list ⟨_,hWC.1,rfl,_,rfl⟩ (by omega) (by omega) (by rw [Int.toNat_natCast,List.getElem?_toArray];exact hv) ?_
       refine wpAny_Name (wpAny_loadName_local rfl rfl hnC (v:=.int ((wt own ns[i]:Nat):Int) t3) (by rw [upd_ne _ _ (by decide)];exact hgB) ?_) (by decide)
       refine AutoIntOps.iadd_0 ?_
       refine setAt_S (yC.inv) hWC (by rw [hvl];exact hc7) (by rw [hvl];decide) fun sD yD hWD=>?_
       have yD':Step w [W] sC sD:=(((Step.refl yC.inv).toks (k5+1)).wide fun a ha=>.inl ha).trans yD fun a ha=>.inl ha
       have nLW:L∉[W]:=fun hm=>hWL (mS hm).symm
       have LWa:∀ a∈[W],a∈[L,W]∨sB.heap.get? a=none:=fun a ha=>.inl (.tail _ ha)
       have yBD:Step w [L,W] sB sD:=(yC.wide fun a ha=>.inl (by rw [mS ha];exact .head _)).trans yD' LWa
       refine wpAny_execs_nil ⟨⟨⟨(JB.st.trans yC fun a ha=>.inl ha).trans yD' fun a ha=>.inr (by rw [mS ha];exact fW1),⟨_,hnC.at' fun o e=>yD'.keep _ o e nLW,by rw [upd_ne _ _ (by decide)];exact hwB,by rw [upd_ne _ _ (by decide)];exact hgB⟩,_,_,hWD,?_⟩,yB.trans yBD fun a ha=>.inl ha⟩,yBD⟩
       have hadd:=addW_snoc (f:=cw own (ns.take i)) (v:=wt own ns[i]) hnd hj
       have hcast:((addW (cw own (ns.take i)) (ns[i].take j) (wt own ns[i]) (ns[i].getD j 0):Nat):Int) + ((wt own ns[i]:Nat):Int)=((addW (cw own (ns.take i)) (ns[i].take (j+1)) (wt own ns[i]) (ns[i].getD j 0):Nat):Int):=by
        rw [hadd,if_pos hgd,Int.natCast_add]
       rw [hcast]
       exact r7_set hI hc7 fun c _=>by
        rw [hadd c,hadd (ns[i].getD j 0),if_pos hgd,hgd]
        by_cases q:c=ns[i][j]
        · rw [if_pos q,if_pos q,q]
        · rw [if_neg q,if_neg q]
     · intro sZ JZ
       obtain ⟨JZ,yZ⟩:=JZ
       rw [List.take_length] at JZ
       refine wpAny_execs_nil (wpAny_execs_nil ⟨?_,yZ⟩)
       show WtJ _ _ _ _ _ (cw own (ns.take (i+1))) sZ
       rw [hstep]
       exact ⟨JZ.st,let ⟨m,a,b,_⟩:=JZ.ex;⟨m,a,b,trivial⟩,JZ.wt⟩
 · intro sZ JZ
   have hl:us.length=ns.length:=by rw [StrsAre.len_eq hus,List.length_map]
   rw [hl,List.take_length] at JZ
   refine exE1 JZ.ex fun mZ hh=>anE3 hh fun hnZ hwZ z3=>?_;clear hh;clear z3
   refine exE2 JZ.wt fun vs n' hh=>anE2 hh fun hW hI=>?_;clear hh
   refine wpAny_execs_cons (wpAny_Return_some (wpAny_Name (wpAny_loadName_local rfl rfl hnZ hwZ ?_) (by decide)))
   exact k W vs n' sZ (S₀.trans JZ.st fun a ha=>.inr (by rw [mS ha];exact fL)) (S₀.was fW1 nM) hW hI
end
end
section
noncomputable def bodyOf:Stmt→List Stmt
 | .FunctionDef (body:=b) ..=>b
 | .For (body:=b) ..=>b
 | .If (body:=b) ..=>b
 | _=>[]
noncomputable def elseOf:Stmt→List Stmt
 | .If (orelse:=b) ..=>b
 | _=>[]
noncomputable def scopeOf:Stmt→Scope
 | .FunctionDef (scope:=s) ..=>s
 | _=>default
noncomputable def lawDef:Stmt:=prog.main.body.getLast?.getD (.Pass ⟨0,0,0,0⟩)
noncomputable def lawBody:List Stmt:=bodyOf lawDef
noncomputable def lawScope:Scope:=scopeOf lawDef
noncomputable def turnBody:List Stmt:=bodyOf ((lawBody[10]?).getD (.Pass ⟨0,0,0,0⟩))
noncomputable def evenBody:List Stmt:=bodyOf ((turnBody[13]?).getD (.Pass ⟨0,0,0,0⟩))
noncomputable def oddBody:List Stmt:=elseOf ((turnBody[13]?).getD (.Pass ⟨0,0,0,0⟩))
noncomputable abbrev lawEnv (L:Addr):Env:=envOfC "law" lawScope L 249 (.ref 248)
theorem cells_law (L:Addr):(cellsFrom (L+1) lawScope.names []).lookup (Str.ofString "cells")=some (L+1)∧(cellsFrom (L+1) lawScope.names []).lookup (Str.ofString "bits")=some (L+1+1)∧(cellsFrom (L+1) lawScope.names []).lookup (Str.ofString "owners")=some (L+1+1+1)∧(cellsFrom (L+1) lawScope.names []).lookup (Str.ofString "yours")=some (L+1+1+1+1)
 ∧ (cellsFrom (L+1) lawScope.names []).lookup (Str.ofString "free")=some (L+1+1+1+1+1)∧(cellsFrom (L+1) lawScope.names []).lookup (Str.ofString "weights")=some (L+1+1+1+1+1+1):=⟨rfl,rfl,rfl,rfl,rfl,rfl⟩
theorem two_get {a b:Int} {ta tb:Tok} {j:Nat} (hj:j < 2):∃ x t,[Value.int a ta,Value.int b tb][j]? = some (.int x t):=by
 match j,hj with
 | 0,_=>exact ⟨a,ta,rfl⟩
 | 1,_=>exact ⟨b,tb,rfl⟩
theorem two_set {a b x:Int} {ta tb t:Tok} {j:Nat} (hj:j < 2):∃ a' b' ta' tb',[Value.int a ta,Value.int b tb].set j (.int x t)=[Value.int a' ta',Value.int b' tb']:=by
 match j,hj with
 | 0,_=>exact exI4 x b t tb rfl
 | 1,_=>exact exI4 a x ta t rfl
structure HpJ (w:World) (s₀:Shared) (L H:Nat) (m:Str→Option Value) (s:Shared):Prop where
 st:Step w [L,H] s₀ s
 ex:∃ m',s.heap.Ns L m'∧m' "heaps"=some (.ref H)∧m' "script"=m "script"∧m' sUA=m sUA
 hp:∃ a b ta tb n,At s.heap H (listOf [Value.int a ta,Value.int b tb].toArray n)
theorem HpJ.move {w:World} {s₀ s s':Shared} {L H:Nat} {m:Str→Option Value} {T:List Addr} (j:HpJ w s₀ L H m s) (y:Step w T s s') (hL:L∉T) (hH:H∉T) (hf:∀ a∈T,s₀.heap.get? a=none):HpJ w s₀ L H m s':=by
 obtain ⟨st,⟨m',hn,h1,h2⟩,a,b,ta,tb,n,h3⟩:=j
 exact ⟨st.trans y fun a h=>.inr (hf a h),⟨m',hn.at' fun o e=>y.keep _ o e hL,h1,h2⟩,a,b,ta,tb,n,h3.keep y hH⟩
theorem mod2_S {w:World} {A:Around} {E:VP} {s:Shared} {i:Nat} {t u:Tok} {Q:VP} (h:∀ t j,Q (.int ((i % 2:Nat):Int) t) { s with toks:=j }):wpAny (model prog w) A (binaryOp .Mod (.int i t) (.int 2 u)) Q E s:=by
 refine AutoIntOps.mod_1 (by decide) ?_
 have e:(i:Int).fmod 2=((i % 2:Nat):Int):=by rw [Int.fmod_eq_emod_of_nonneg _ (by decide)];rfl
 rw [e];exact h _ _
section
variable {w:World} {A:Around} {E:VP} {s:Shared}
theorem base_name (x:Str) (p:Pos) (name:Str) (env:Env) (t:Sem Value):attributeBase (.Name x p) name env t=t:=rfl
theorem law_loc {L:Addr} {x:Str} {p:Pos} {m:Str→Option Value} {v:Value} {Q:VP} (hn:s.heap.Ns L m) (hx:lawScope.names.lookup x=some .local) (hv:m x=some v) (hd:(x == ("__debug__":Str))=false) (h:Q v s):wpAny (model prog w) A (eval (.Name x p) (lawEnv L)) Q E s :=
 wpAny_Name (wpAny_loadName_local rfl hx hn hv h) hd
theorem heaps_blk {L SC nS:Nat} {vs:List Value} {ks:List Int} {m:Str→Option Value} {Q:Flow→Shared→Prop} (hA:A.handled=none) (I:Inv w s.heap) (hL:250≤L) (hn:s.heap.Ns L m) (hm:m "script"=some (.ref SC)) (hS:s.heap.get? SC=some (listOf vs.toArray nS)) (hI:IntsAre vs ks) (hz:vs.length≤63)
 (k:∀ s' m' H n a b ta tb,Step w [L] s s'→s'.heap.Ns L m'→m' sUA=m sUA→m' "heaps"=some (.ref H)→s.heap.get? H=none→At s'.heap H (listOf #[.int a ta,.int b tb] n)→wpAny (model prog w) A (execs (lawBody.drop 2) (lawEnv L)) Q E s') :
 wpAny (model prog w) A (execs lawBody (lawEnv L)) Q E s:=by
 show wpAny _ _ (execs (_ :: _ :: lawBody.drop 2) _) _ _ _
 refine wpAny_execs_cons (asg_S rfl hL rfl rfl ?_)
 refine wpAny_List (spliced_cons (wpAny_Constant_int (k:=0) (pos:=⟨0,0,0,0⟩) (spliced_cons (wpAny_Constant_int (k:=0) (pos:=⟨0,0,0,0⟩) (spliced_nil ⟨by rw [sizeLine_eq];exact Nat.le_of_ble_eq_true rfl,?_⟩)))))
 have f0:s.heap.get? s.heap.objs.size=none:=Heap.get?_none_of_le (Nat.le_refl _)
 have k0:∀ (o':Obj) b o,s.heap.get? b=some o→(s.heap.push o').get? b=some o:=fun _ b o e=>Heap.get?_push_of_some _ e
 have hH0:∀ o':Obj,o'.isFreed=false→(s.heap.push o').get? s.heap.objs.size=some o':=fun o' h=>Heap.get?_push_size _ h
 refine ⟨I.keepAll (k0 _),m,hn.keeps (k0 _),fun s1 y1 hn1=>?_⟩
 have hHL:s.heap.objs.size≠L:=fun e=>Nat.lt_irrefl _ (e▸hn.lt)
 have H1:=y1.keep _ _ (hH0 _ rfl) (fun hm=>hHL (mS hm))
 have AtH:At s1.heap s.heap.objs.size (listOf #[.int 56001019884610 s.toks,.int 469 (s.toks+1)] 0):=⟨H1,I.size⟩
 have st1:Step w [L] s s1:=(show Step w [L] s { s with heap:=s.heap.push _,toks:=_ } from ⟨fun b o e _=>k0 _ b o e,rfl,id,I.keepAll (k0 _)⟩).trans y1 fun a ha=>.inl ha
 generalize s.heap.objs.size=H at *
 have nSL:SC∉[L]:=fun hm=>by
  have e:=hS
  rw [mS hm] at e
  have:=ns_notCode hn
  refine exE3 hn fun o _ _ hh=>anE3 hh fun e' hd _=>?_;clear hh;try clear hn
  rw [e] at e';cases e';cases hd
 have nHS:SC≠H:=fun e=>by rw [← e,hS] at f0;cases f0
 have hS1:=st1.keep _ _ hS nSL
 refine wpAny_execs_cons (for_src hA ?_)
 refine wpAny_Call_NameR (name_builtin (v:=.type "range") st1.inv rfl rfl rfl rfl (by k_is) (by decide) (by rfl) (by decide) ?_)
 refine PySem.callWith_type rfl (evalArgs_plain (spliced_cons ?_))
 refine wpAny_Call_NameR (name_builtin (v:=.builtin "len") st1.inv rfl rfl rfl rfl (by k_is) (by decide) (by rfl) (by decide) ?_)
 refine callWith_builtin rfl (evalArgs_plain (spliced_cons (law_loc hn1 rfl (by rw [upd_ne _ _ (by decide)];exact hm) (by decide) (spliced_nil ?_))))
 refine call_len_list ⟨_,hS1,rfl,_,rfl⟩ (by rw [List.size_toArray];omega) ?_
 rw [List.size_toArray]
 refine spliced_nil ?_
 refine range_S (s:=⟨s1.heap,_,_,_,_⟩) st1.inv fun r t1 u1 v1 s2 y2 hr=>?_
 have y12:Step w [] s1 s2:=((Step.refl st1.inv).toks _).trans y2 fun a ha=>.inl ha
 have st2:Step w [L] s s2:=st1.trans y12 fun a ha=>absurd ha nM
 have hn2:=hn1.at' fun o e=>y12.keep _ o e nM
 have AtH2:=AtH.keep y12 nM
 have hS2:=y12.keep _ _ hS1 nM
 have ltT:∀ a∈[L,H],a < s2.heap.objs.size:=fun a ha=>by
  rcases mC ha with rfl | ha
  · exact hn2.lt
  · rw [mS ha];exact AtH2.lt
 have topF:s.heap.get? s2.heap.objs.size=none:=st2.freshTop fun a ha=>ltT a (by rw [mS ha];exact .head _)
 have nH:H∉[L]:=fun hm=>hHL (mS hm)
 have wid:∀ a∈[L],a∈[L,H]∨s.heap.get? a=none:=fun a ha=>.inl (by rw [mS ha];exact .head _)
 have nSC:SC∉[L,H]:=fun hm=>by
  rcases mC hm with h | h
  · exact nSL (List.mem_singleton.mpr h)
  · exact nHS (mS h)
 have J0:HpJ w s L H m s2:=⟨st2.wide wid,⟨_,hn2,upd_self _ _ _,upd_ne _ _ (by decide),upd_ne _ _ (by decide)⟩,_,_,_,_,_,AtH2⟩
 refine exI4 [L,H] vs.length (fun i v=>∃ t,v=.int i t) (fun i s'=>HpJ w s L H m s') (anI8 st2.inv (src2_range hr (by omega)) ltT (fun i s' j=>j.st.inv) (fun s' y=>?_) (fun i s4 s' j y=>?_) ?_ ?_)
 · exact J0.move y nM nM fun _ h=>nN h
 · refine j.move y ?_ ?_ ?_
   · intro hm;have:=ltT L (.head _);rw [mS hm] at this;exact Nat.lt_irrefl _ this
   · intro hm;have:=ltT H (.tail _ (.head _));rw [mS hm] at this;exact Nat.lt_irrefl _ this
   · intro a ha;rw [mS ha];exact topF
 · intro i v s4 hi hP J hIx
   obtain ⟨t,rfl⟩:=hP
   refine exE1 J.ex fun m4 hh=>anE4 hh fun hn4 hm4 hsc4 hua4=>?_;clear hh
   refine exE5 J.hp fun a b ta tb n4 hH4=>?_
   have Jst:=J.st
   refine assign_S Jst.inv hL hn4 rfl rfl fun s5 y5 hn5=>?_
   have hH5:=hH4.keep y5 nH
   have hS5:=y5.keep _ _ (Jst.keep _ _ hS nSC) nSL
   have e5:∀ {x:Str} {v:Value},x≠"k"→m4 x=some v→upd m4 "k" (.int i t) x=some v:=fun hx e=>(upd_ne _ _ hx).trans e
   have hi2:i % 2 < 2:=Nat.mod_lt _ (by decide)
   obtain ⟨x,tx,hx⟩:=two_get (a:=a) (b:=b) (ta:=ta) (tb:=tb) hi2
   have hik:i < ks.length:=by rw [← hI.length];exact hi
   obtain ⟨tk5,hvk⟩:=ints_get i hI hik
   refine wpAny_execs_cons (wpAny_AugAssign_Subscript_any ?_)
   refine law_loc hn5 rfl (e5 (by decide) hm4) (by decide) ?_
   rw [arm_eval_BinOp]
   refine wpAny_bind (law_loc hn5 rfl (upd_self _ _ _) (by decide) (wpAny_bind (wpAny_holding (wpAny_Constant_int (k:=0) (pos:=⟨0,0,0,0⟩) (wpAny_bind (wpAny_standAt (wpAny_operating (mod2_S fun t6 j6=>?_))))))))
   refine item_S hH5.1 hx (Nat.le_of_ble_eq_true rfl) ?_
   refine wpAny_Subscript_Name slot_list_getitem.lookup ?_
   refine law_loc hn5 rfl (e5 (by decide) (hsc4.trans hm)) (by decide) (law_loc hn5 rfl (upd_self _ _ _) (by decide) ⟨⟨_,hS5,rfl⟩,?_⟩)
   refine item_S hS5 hvk (by omega) ?_
   refine AutoIntOps.iadd_0 ?_
   refine setAt_S y5.inv hH5 hi2 (Nat.le_of_ble_eq_true rfl) fun s6 y6 hH6=>?_
   have y56:Step w [H] s5 s6:=(((Step.refl y5.inv).toks (j6+1)).wide fun a ha=>.inl ha).trans y6 fun a ha=>.inl ha
   refine exE4 (two_set (a:=a) (b:=b) (ta:=ta) (tb:=tb) (x:=x+ks[i]) (t:=j6) hi2) fun a' b' ta' tb' e6=>?_
   have y46:Step w [L,H] s4 s6:=(y5.wide fun a ha=>.inl (by rw [mS ha];exact .head _)).trans y56 fun a ha=>.inl (.tail _ ha)
   refine wpAny_execs_nil ⟨⟨Jst.trans y46 fun a ha=>.inl ha,⟨_,hn5.at' fun o e=>y56.keep _ o e (fun hm=>nH (List.mem_singleton.mpr (mS hm).symm)),e5 (by decide) hm4,(upd_ne _ _ (by decide)).trans hsc4,(upd_ne _ _ (by decide)).trans hua4⟩,a',b',ta',tb',n4,?_⟩,y46⟩
   rw [← e6];exact hH6
 · intro sZ JZ
   refine exE1 JZ.ex fun mZ hh=>anE4 hh fun hnZ hmZ z3 huZ=>?_;clear hh;clear z3
   refine exE5 JZ.hp fun a b ta tb n hH=>?_
   exact k sZ mZ H n a b ta tb (JZ.st.wide fun a ha=>(mC ha).elim (fun h=>.inl (by rw [h];exact .head _)) fun h=>.inr (by rw [mS h];exact f0)) hnZ huZ hmZ f0 hH
end
end
section
section
variable {w:World} {A:Around} {E:VP} {s:Shared} {Q:VP}
theorem made200 {M:Model} {P:Params} {h:Heap} (X:(frag.heap_1 P).In h):Looks M h (Bind.madeBy (.ref 200)) (some "list.__new__")∧Looks M h (Bind.staticBase (.ref 200)) (.ref 200):=by
 refine exE1 (cls200 (P:=P)) fun cd hh=>anE3 hh fun hcd hmro z3=>?_;clear hh;clear z3
 have hm:Looks M h (mroOf (.ref 200)) [.ref 200,.type "list",.type "object"]:=hmro▸(looks_clsIn X hcd).andThen .now
 obtain ⟨oc,od,cd',sl,ho,e3⟩:∃ oc od cd' sl,(frag.heap_1 P).lookup 200=some ⟨oc,od,.cls cd',sl⟩∧(sl.toList[4]?).join=some (.builtin "list.__new__"):=⟨_,_,_,_,by k_is,rfl⟩
 have made:Looks M h (Bind.madeBy (.ref 200)) (some "list.__new__"):=by
  intro A Q E s k q
  unfold Bind.madeBy
  refine wpAny_bind (hm A _ E s k ?_)
  rw [List.forIn_cons]
  refine wpAny_bind (wpAny_bind (wpAny_bind (wpAny_bind (wpAny_loadPart (k _ _ (X _ _ ho)) (wpAny_pure ?_)))))
  dsimp only
  rw [← Array.getElem?_toList,e3]
  exact wpAny_pure (wpAny_pure (wpAny_pure q))
 refine ⟨made,?_⟩
 intro A Q E s k q
 unfold Bind.staticBase
 refine wpAny_bind (hm A _ E s k ?_)
 rw [List.forIn_cons]
 exact wpAny_bind (wpAny_bind (wpAny_bind (made A _ E s k (wpAny_pure (wpAny_pure (wpAny_pure q))))))
theorem chk_new {M:Model} {P:Params} {s:Shared} (X:(frag.heap_1 P).In s.heap) {i:Int} {t:Tok}:Looks M s.heap (checkBuiltinCall "list.__new__" ⟨[.ref 200,.int i t],[]⟩) ():=by
 have ty:Looks M s.heap (isType (.ref 200)) true:=mc_isType X (by k_is)
 have sub:Looks M s.heap (isSubtype (.ref 200) (.type "list")) true:=looks_subIn X (by k_is)
 obtain ⟨made,base⟩:=made200 (M:=M) X
 have kind:builtinKind "list.__new__"=some .builtinFn:=by decide +kernel
 have split:splitId "list.__new__"=some ("list","__new__"):=by decide +kernel
 have ha:(match Manifest.signature? "list.__new__" with | some sig=>Bind.checkArgs "list.__new__" sig ⟨[.ref 200,.int i t],[]⟩ | none=>pure ())=pure ():=by kernel_rfl
 intro A Q E s k q
 unfold checkBuiltinCall
 rw [kind,split]
 dsimp only
 rw [if_pos (show (("__new__":String) == "__new__")=true by decide)]
 refine wpAny_bind (ty A _ E s k ?_)
 first | with_reducible refine iN (by decide) ?_ | rw [if_neg (by decide)]
 refine wpAny_bind (sub A _ E s k ?_)
 first | with_reducible refine iN (by decide) ?_ | rw [if_neg (by decide)]
 refine wpAny_bind (base A _ E s k ?_)
 refine wpAny_bind (made A _ E s k ?_)
 dsimp only
 rw [if_neg (by decide +kernel)]
 cases hs:Manifest.signature? "list.__new__" with
 | none=>exact wpAny_pure q
 | some sig =>
   rw [hs] at ha
   exact wpAny_of_eq ha q
theorem new_acc (l:Lvl A 900) (I:Inv w s.heap) {i:Int} {t:Tok} (k:∀ x d s',Step w [] s s'→At s'.heap x ⟨.ref 200,some d,.seq #[] 0,#[]⟩→At s'.heap d ⟨.type "dict",none,.dict #[] 0,#[]⟩→s.heap.get? x=none→s.heap.get? d=none→@Ne Nat x d→Q (.ref x) s') :
 wpAny (model prog w) A (call (.builtin "list.__new__") [.ref 200,.int i t]) Q E s:=by
 have X:=I.K
 obtain ⟨oc,od,cd',sl,ho,hdel⟩:∃ oc od cd' sl,(frag.heap_1 w.params).lookup 200=some ⟨oc,od,.cls cd',sl⟩∧cd'.hasDel=false:=⟨_,_,_,_,by k_is,rfl⟩
 have hC:=X _ _ ho
 have ty:Looks (model prog w) s.heap (isType (.ref 200)) true:=mc_isType X (by k_is)
 have sub:Looks (model prog w) s.heap (isSubtype (.ref 200) (.type "list")) true:=looks_subIn X (by k_is)
 have chk:=chk_new (M:=model prog w) X (i:=i) (t:=t)
 refine wpAny_call (codeAny_of_tree ?_)
 show wpAny _ _ (do checkBuiltinCall "list.__new__" ⟨[.ref 200,.int i t],[]⟩;again (.builtin "list.__new__" ⟨[.ref 200,.int i t],[]⟩)) _ _ s
 refine wpAny_bind (chk.here (wpAny_pure ⟨plainId_quiet PySem.F.plain_list_new _,codeAny_builtin_stack PySem.F.entry_list_new rfl fun p st=>?_⟩))
 dsimp only
 rw [owner_list_new]
 refine wpAny_bind (ty.here ?_)
 first | with_reducible refine iN (by decide) ?_ | rw [if_neg (by decide)]
 refine wpAny_bind (sub.here ?_)
 first | with_reducible refine iN (by decide) ?_ | rw [if_neg (by decide)]
 refine wpAny_bind (m:=pure (Data.seq #[])) (wpAny_pure ?_)
 first | with_reducible refine iN (by decide) ?_ | rw [if_neg (by decide)]
 refine wpAny_bind (wpAny_newObj_type (T:="dict") ?_)
 dsimp only
 unfold newObj
 dsimp only
 rw [if_neg (show ¬ (#[]:Array Value).size > sizeLine from Nat.not_lt.mpr (Nat.zero_le _))]
 unfold newObjAsIs classHasDel
 refine wpAny_bind (wpAny_bind (wpAny_alloc (wpAny_bind (wpAny_bind (wpAny_load (Heap.get?_push_of_some _ (Heap.get?_push_of_some _ hC)) (wpAny_pure ?_))))))
 rw [hdel]
 have fr:∀ a:Nat,s.heap.objs.size≤a→s.heap.get? a=none:=fun a h=>by
  cases q:s.heap.get? a with
  | none=>rfl
  | some o=>exact absurd (Heap.lt_size q) (Nat.not_lt.mpr h)
 have In:Inv w ((s.heap.push ⟨.type "dict",none,.dict #[] 0,#[]⟩).push ⟨.ref 200,some s.heap.objs.size,.seq #[] 0,#[]⟩):=I.keepAll fun b o e=>Heap.get?_push_of_some _ (Heap.get?_push_of_some _ e)
 exact wpAny_pure (wpAny_pure (k _ _ _ ⟨fun b o e _=>Heap.get?_push_of_some _ (Heap.get?_push_of_some _ e),rfl,id,In⟩ ⟨Heap.get?_push_size _ rfl,I.above (fr _ (by rw [Heap.size_push];exact Nat.le_succ _))⟩ ⟨Heap.get?_push_of_some _ (Heap.get?_push_size _ rfl),I.above (fr _ (Nat.le_refl _))⟩ (fr _ (by rw [Heap.size_push];exact Nat.le_succ _)) (fr _ (Nat.le_refl _)) (by rw [Heap.size_push];exact Nat.succ_ne_self _)))
theorem make_acc (l:Lvl A 700) (I:Inv w s.heap) {i:Int} {t:Tok}
 (k:∀ x d s' A',Lvl A' 800→Step w [] s s'→At s'.heap x ⟨.ref 200,some d,.seq #[] 0,#[]⟩→At s'.heap d ⟨.type "dict",none,.dict #[] 0,#[]⟩→s.heap.get? x=none→s.heap.get? d=none→@Ne Nat x d →
   wpAny (model prog w) A' (call (.ref 137) [.ref x,.int i t]) (fun v s''=>v=.none∧Q (.ref x) s'') (fun _ _=>False) s'):wpAny (model prog w) A (call (.ref 200) [.int i t]) Q E s:=by
 refine exE1 (cls200 (P:=w.params)) fun cd hh=>anE3 hh fun hcd hmro z3=>?_;clear hh;clear z3
 have X:=I.K
 obtain ⟨oc,od,cd',sl,ho⟩:∃ oc od cd' sl,(frag.heap_1 w.params).lookup 200=some ⟨oc,od,.cls cd',sl⟩:=⟨_,_,_,_,by k_is⟩
 have hC:=X _ _ ho
 have tcall:Looks (model prog w) s.heap (specialOf (.ref 200) "__call__") (some (.builtin "type.__call__")):=looks_specialIn X (by k_is)
 have typ:Looks (model prog w) s.heap (isInstance (.ref 200) (.type "type")) true:=looks_instIn X (by k_is)
 have made:=(made200 (M:=model prog w) X).1
 have hm:Looks (model prog w) s.heap (mroOf (.ref 200)) [.ref 200,.type "list",.type "object"]:=hmro▸(looks_clsIn X hcd).andThen .now
 refine wpAny_call (codeAny_of_tree ?_)
 show wpAny _ _ (callAny (.ref 200) _) _ _ _
 unfold callAny
 refine wpAny_bind (wpAny_load hC ?_)
 show wpAny _ _ (callAny.viaDunder (.ref 200) _) _ _ _
 unfold callAny.viaDunder
 refine wpAny_bind (tcall.here ?_)
 dsimp only
 rw [tc_bind]
 refine wpAny_bind (wpAny_pure (wpAny_bind (wpAny_pure ?_)))
 refine wpAny_pure (a:=Fin.again (.call (.builtin "type.__call__") ⟨.ref 200 :: [.int i t],[]⟩)) (And.intro rfl ?_)
 refine codeAny_call_builtin_at (Code.quiet_builtin _ (by decide +kernel)) entry_typeCall (check_slot tc_kind tc_split typ (tc_args _ _ _) ?_)
 unfold Builtin.«type.__call__»
 show wpAny _ _ (mroOf (.ref 200) >>= _) _ _ _
 refine wpAny_bind (hm.here ?_)
 dsimp only
 first | with_reducible refine iN (by decide) ?_ | rw [if_neg (by decide)]
 refine wpAny_bind (made.here ?_)
 dsimp only
 refine wpAny_bind (wpAny_pure ?_)
 refine wpAny_bind (wpAny_holding ?_)
 have lu:Lvl (A.under (.builtin "type.__call__" ⟨.ref 200 :: [.int i t],[]⟩)) 800:=by
  have w1:(Code.builtin "type.__call__" ⟨.ref 200 :: [.int i t],[]⟩).weight≤10:=Nat.le_of_ble_eq_true rfl
  have w2:(Code.builtin "type.__call__" ⟨.ref 200 :: [.int i t],[]⟩).cUnits≤10:=Nat.le_of_ble_eq_true rfl
  exact ⟨l.handled,Nat.le_trans (Nat.add_le_add l.depth w1) (by decide),Nat.le_trans (Nat.add_le_add l.units w2) (by decide)⟩
 with_reducible refine new_acc ⟨lu.handled,Nat.le_trans lu.depth (by decide),Nat.le_trans lu.units (by decide)⟩ I ?_
 intro x d s1 y ax ad fx fd nxd
 have X1:=y.inv.K
 have ti:Looks (model prog w) s1.heap (typeOf (.ref x)) (.ref 200):=typeOf_acc ax.1 rfl
 have i1:Looks (model prog w) s1.heap (isInstance (.ref x) (.ref 200)) true:=ti.andThen (looks_subIn X1 (by k_is))
 refine wpAny_bind (i1.here ?_)
 first | with_reducible refine iN (by decide) ?_ | rw [if_neg (by decide)]
 refine wpAny_bind (wpAny_holding ?_)
 simp only [callSpecial?]
 have sp:Looks (model prog w) s1.heap (specialOf (.ref x) "__init__") (some (.ref 137)):=acc_special X1 ax.1 rfl (by k_is)
 refine wpAny_bind (sp.here ?_)
 refine wpAny_holding (wpAny_bind ((bind_fn X1 (.ref x) (by k_is)).here ?_))
 refine wpAny_bind ?_
 have kk:=k x d s1 _ lu y ax ad fx fd nxd
 refine wpAny_mono kk (fun v s2 h2=>?_) fun _ _ e=>e.elim
 obtain ⟨rfl,h2⟩:=h2
 exact wpAny_pure (wpAny_pure h2)
end
end
section
theorem acc_inst0 {h₀ h:Heap} {L x d:Addr} {news:List (Addr×Obj)} {n nd:Nat} (N:News h₀ L h news) (hx:(x,accObj d [] n)∈news) (hd':(d,dictOf [] nd)∈news):InstAt h x (accObj d [] n) 200 (some (dictOf [] nd)):=⟨(N _ hx).1,rfl,rfl,(N _ hd').1⟩
theorem refuse_acc (self:Value):refuseLoop self "__setattr__" [.ref 200,.type "list",.type "object"]=pure ():=by
 rw [refuseLoop_ref]
 kernel_rfl
section
variable {w:World} {A:Around} {E:VP} {s:Shared} {h₀:Heap} {L x d:Addr} {m:Str→Option Value} {n:Nat} {P:Params} {R:Result→Shared→Prop}
theorem osa_acc {tk:Tok} {v:Value} {pre post:List (Addr×Obj)} (F:Fr h₀ L s.heap m) (N:News h₀ L s.heap (pre ++ (d,dictOf [] 0) :: post)) (X:(frag.heap_1 P).In s.heap)
 (I:InstAt s.heap x (accObj d [] n) 200 (some (dictOf [] 0))) (h1:∀ p∈pre,p.1≠d) (h2:∀ p∈post,p.1≠d)
 (h:∀ h' hh nd,Fr h₀ L h' m→News h₀ L h' (pre ++ (d,dictOf [⟨hh,.str sIS s.toks,v⟩] nd) :: post)→R (.ok (.ret .none)) { s with heap:=h',toks:=s.toks+1 }) :
 codeAny (model prog w) A (.call (.builtin "object.__setattr__") ⟨[.ref x,.str sIS tk,v],[]⟩) R s:=by
 have SF:=PySem.F.store_object
 obtain ⟨cd,hc,hmro,hasd⟩:∃ cd,clsIn (frag.heap_1 P) 200=some cd∧cd.mro=[.ref 200,.type "list",.type "object"]∧cd.hasDict=true:=⟨_,by k_is,rfl,rfl⟩
 have ha:findIn (frag.heap_1 P) (.ref 200) sIS=some none:=by k_is
 have sub:Looks (model prog w) s.heap (isInstance (.ref x) (.type "object")) true:=I.type.andThen (looks_subIn X (by k_is))
 have hm:Looks (model prog w) s.heap (mroOf (.ref 200)) [.ref 200,.type "list",.type "object"]:=hmro▸(looks_clsIn X hc).andThen .now
 refine codeAny_call_builtin SF.slot.plain SF.entry (@check_slot (model prog w) _ _ s "object.__setattr__" "object" "__setattr__" (.ref x) [.str sIS tk,v] [] _ SF.kind SF.split sub (SF.args (.ref x) (.str sIS tk) v) ?_)
 rw [osa_eq,refuse_eq]
 refine wpAny_bind (wpAny_bind (I.type.here (wpAny_bind (hm.here ?_))))
 rw [refuse_acc]
 refine wpAny_pure (wpAny_bind (I.type.here (wpAny_bind ((looks_findIn X ha).here (wpAny_bind (wpAny_pure ?_))))))
 dsimp only
 have e:Obj.putName sIS (PyData.keyHash w.params sIS) (.str sIS s.toks) v (dictOf [] 0)=dictOf [⟨PyData.keyHash w.params sIS,.str sIS s.toks,v⟩] (putN sIS [] 0):=by
  rw [putName_dict];rfl
 obtain ⟨U1,U2⟩:=news_upd (f:=Obj.putName sIS (PyData.keyHash w.params sIS) (.str sIS s.toks) v) F N h1 h2 e rfl
 have D:=(N (d,dictOf [] 0) (List.mem_append.mpr (.inr (.head _)))).1
 have D':=(U2 _ (List.mem_append.mpr (.inr (.head _)))).1
 obtain ⟨hx,hcl,hn,-⟩:=I
 refine wpAny_bind (wpAny_pure (wpAny_bind (wpAny_bind (wpAny_loadPart hx (wpAny_bind ((looks_clsIn X hc).here ?_))))))
 rw [hasd]
 refine wpAny_pure (a:=some d) (wpAny_bind (wpAny_pure (wpAny_bind ?_)))
 unfold nsSet
 refine wpAny_bind (wpAny_bind (wpAny_askSetting (wpAny_pure (wpAny_bind (wpAny_mkText (wpAny_bind (wpAny_loadPart D ?_)))))))
 dsimp only
 rw [aRefKeyMayBeTheName_at,show (!(#[]:Array DictEntry).any (·.key.isStr sIS) && (#[]:Array DictEntry).any (·.refKey))=false from by simp]
 refine wpAny_updatePart D ?_
 refine wpAny_bind (wpAny_lookBehind D' (pastItsLine_dict (by rw [List.size_toArray,sizeLine_eq];exact Nat.le_of_ble_eq_true rfl)) ?_)
 exact wpAny_pure (h _ _ _ U1 U2)
theorem set_acc {news:List (Addr×Obj)} {news':Obj→List (Addr×Obj)} {v:Value} {Q:Unit→Shared→Prop} (X₀:(frag.heap_1 P).In h₀) (F:Fr h₀ L s.heap m) (N:News h₀ L s.heap news) (I:InstAt s.heap x (accObj d [] n) 200 (some (dictOf [] 0))) (U:UpdF d (dictOf [] 0) news news')
 (h:∀ h' hh tk nd,Fr h₀ L h' m→News h₀ L h' (news' (dictOf [⟨hh,.str sIS tk,v⟩] nd))→Q () { s with heap:=h',toks:=s.toks+2 }):wpAny (model prog w) A (setAttr (.ref x) sIS v) Q E s:=by
 refine exE2 U.split fun pre post hh=>anE4 hh fun z2 e a b=>?_;clear hh;rcases z2 with rfl
 have X:=X₀.keeps F.keep
 refine set_plain X I (by k_is) (osa_acc (s:={ s with toks:=s.toks+1 }) F N X I a b fun h' hh nd F' N'=>h h' hh (s.toks+1) nd F' (by rw [e];exact N'))
end
section
variable {w:World} {A:Around} {E:VP} {s:Shared} {Q:VP}
theorem init_spec (l:Lvl A 800) (I:Inv w s.heap) {x d:Addr} {t:Tok} (hx:At s.heap x (accObj d [] 0)) (hd':At s.heap d (dictOf [] 0)) (hxd:@Ne Nat d x)
 (k:∀ h1 t1 n nd s',Step w [x,d] s s'→At s'.heap x (accObj d [] n)→At s'.heap d (accD h1 t1 t nd)→Q .none s'):wpAny (model prog w) A (call (.ref 137) [.ref x,.int 3 t]) Q E s:=by
 have h250:=hx.2
 refine weaken l fun fr gd=>?_
 refine enterAt (args:=⟨[.ref x,.int 3 t],[]⟩) [(x,accObj d [] 0),(d,dictOf [] 0)] I ?_ (by k_is) (by k_is) (by show (800:Nat) < 1000;decide) (binds_K I.K rfl (by k_is) rfl rfl rfl) (locs rfl) ?_ (by decide)
 · exact fm2 ⟨hx,rfl⟩ ⟨hd',rfl⟩ (fun _ h=>nN h)
 intro g L h₁ loose mean mg mb B F N X T
 dsimp only
 have O:Oth s s:=Oth.refl
 obtain ⟨HH,hold,held⟩:=holds
 have qC {x1 x2 x3 x4 x5 x6 x7 x8}:=hold 3 (wpAny x1 x2 (getMethod (Value.ref x3) x4 x5) x6 x7 x8)
 have qD {x1 x2 x3 x4 x5 x6 x7 x8}:=hold 1 (wpAny x1 x2 (setAttr (Value.ref x3) x4 x5) x6 x7 x8)
 k_steps
 repeat' ((first
  | (refine held 5 _ ?_
     rename Fr _ _ _ _=>F
     rename News _ _ _ _=>N
     have lx:@LT.lt Nat _ x q:=lq (x,accObj d [] 0) (by k_mem)
     have ls:@LT.lt Nat _ x so':=lso (x,accObj d [] 0) (by k_mem)
     k_dflt (refine' init_acc (x:=x) (d:=d) (n:=0) F N ?k1 ?k3 ?_;(case k1=>exact .head _);(case k3=>intro n';k_upd))
     intro h' n1 F N)
  | (refine held 4 _ ?_
     rename News _ _ _ _=>N
     have q1:=(N (q,_) (.head _)).1
     (with_reducible refine callWith_bob q1 ?k1 ?_)
     case k1=>first | exact .inl rfl | exact .inr rfl
     clear q1)
  | (refine held 3 _ ?_
     rename Fr _ _ _ _=>F
     rename News _ _ _ _=>N
     (with_reducible refine superm (so:=so') (x:=x) (d:=d) (vs:=[]) (n:=0) gets_init F X N ?k1 ?k2 ?k3 h250 ?k4 ?_)
     case k1=>k_mem
     case k2=>exact (show (x,accObj d [] 0)∈_ by k_mem)
     case k3=>ks_is
     case k4=>decide
     intro q h' F N lq
     have qA {x1 x2 x3 x4 x5}:=hold 5 (wpAny x1 x2 (call (Value.ref q) []) x3 x4 x5)
     have qB {x1 x2 x3 x4 x5 x6 x7 x8 x9}:=hold 4 (wpAny x1 x2 (callWith x3 (Value.ref q) x4 x5 x6) x7 x8 x9)
     (try dsimp only))
  | (refine held 9 _ ?_
     rename Fr _ _ _ _=>F
     rename News _ _ _ _=>N
     have q1:=acc_inst (vs:=[]) N (show (x,accObj d [] 0)∈_ by k_mem) (show (d,accD hh tk0 t nd0)∈_ by k_mem)
     k_dflt (refine ks_node F X N T (by k_is) (by rfl) (by rfl) q1 (by k_is) (by rfl) (by first | rfl | decide +kernel) (by k_is) (by k_is) (by k_is) (by k_is) (by decide) (by rfl) (by rfl) (by rfl) (by rfl) (by decide +kernel) (by first | boot_by_name | rfl | kernel_rfl) ?_)
     clear q1
     intro so' h' F N lso)
  | (refine held 1 _ ?_
     rename Fr _ _ _ _=>F
     rename News _ _ _ _=>N
     have q1:=acc_inst0 N (show (x,accObj d [] 0)∈_ by k_mem) (show (d,dictOf [] 0)∈_ by k_mem)
     k_dflt (refine' set_acc X F N q1 ?k7 ?_;(case k7=>k_updF))
     clear q1
     intro h' hh tk0 nd0 F N)) <;> k_steps)
 rename Fr _ _ _ _=>F
 rename News _ _ _ _=>N
 refine k hh tk0 n1 nd0 _ (Base.fin B [x,d] F N O ?_) (Base.at B N (p:=(x,_)) (by k_mem)) (Base.at B N (p:=(d,_)) (by k_mem))
 exact fm2 (.inl (.head _)) (.inl (.tail _ (.head _))) (fun _ h=>nN h)
theorem acc_make (l:Lvl A 700) (I:Inv w s.heap) {t:Tok} (k:∀ x d h1 t1 n nd s',Step w [] s s'→At s'.heap x (accObj d [] n)→At s'.heap d (accD h1 t1 t nd)→s.heap.get? x=none→s.heap.get? d=none→Q (.ref x) s') :
 wpAny (model prog w) A (call (.ref 200) [.int 3 t]) Q E s:=by
 with_reducible refine make_acc l I ?_
 intro x d s1 A' l' st ax ad fx fd nxd
 with_reducible refine init_spec l' st.inv ax ad (Ne.symm nxd) ?_
 intro h1 t1 n nd s2 st2 ax2 ad2
 refine ⟨rfl,k x d h1 t1 n nd s2 (st.trans st2 fun a ha=>.inr ?_) ax2 ad2 fx fd⟩
 rcases mC ha with rfl | ha
 · exact fx
 · rw [mS ha];exact fd
end
end
section
section
variable {w:World} {A:Around} {E:VP} {s:Shared} {Q:VP}
theorem junk_spec (l:Lvl A 800) (I:Inv w s.heap) {a b:Str} {ta tb:Tok} (hb:b.length≤sizeLine)
 (k:∀ s',Step w [] s s'→Q (.bool (Txt.contains b a)) s'):wpAny (model prog w) A (call (.ref 113) [.str a ta,.str b tb]) Q E s:=by
 refine weaken l fun fr gd=>?_
 refine enter (args:=⟨[.str a ta,.str b tb],[]⟩) [] I (fun _ h=>nN h) (by k_is) (by k_is) (by show (800:Nat) < 1000;decide) (binds_K I.K rfl (by k_is) rfl rfl rfl) (locs rfl) ?_ (by decide)
 intro g L h₁ loose mean mg mb B F N X T
 dsimp only
 k_fold
 have O:Oth s s:=Oth.refl
 k_steps
 rename Fr _ _ _ _=>F
 rename News _ _ _ _=>N
 show Q (.bool (Txt.contains b a)) _
 exact k _ (Base.fin B [] F N O fun _ h=>nN h)
end
end
section
theorem Lvl.up {A:Around} {d d':Nat} (l:Lvl A d) (h:d≤d'):Lvl A d':=⟨l.handled,Nat.le_trans l.depth h,Nat.le_trans l.units (Nat.mul_le_mul_left 10 h)⟩
section
variable {w:World} {A:Around} {E:VP} {s:Shared}
theorem fn_S {pos:Pos} {f:Addr} {o:Obj} {fd:FuncData} {x:Sem Value} {rest:List (Bool×Sem Value)} {Q:VP} (hf:(frag.heap_1 w.params).lookup f=some o) (ho:o.data=.func fd)
 (h:wpAny (model prog w) A (spliced ((false,x) :: rest)) (fun vs s₁=>Inv w s₁.heap∧wpAny (model prog w) A (call (.ref f) vs) Q E s₁) E s):wpAny (model prog w) A (callWith pos (.ref f) [] ((false,x) :: rest) []) Q E s :=
 callWith_function (o:=o) (fd:=fd) (evalArgs_plain (wpAny_mono h (fun vs s₁ h₁=>⟨⟨h₁.1.K _ _ hf,ho⟩,h₁.2⟩) fun _ _ e=>e))
theorem meth_S {pos:Pos} {f x:Addr} {o:Obj} {fd:FuncData} {Q:VP} {y:Sem Value} {rest:List (Bool×Sem Value)} (hf:(frag.heap_1 w.params).lookup f=some o) (ho:o.data=.func fd)
 (h:wpAny (model prog w) A (spliced ((false,y) :: rest)) (fun vs s₁=>Inv w s₁.heap∧wpAny (model prog w) A (call (.ref f) (.ref x :: vs)) Q E s₁) E s):wpAny (model prog w) A (callWith pos (.ref f) [.ref x] ((false,y) :: rest) []) Q E s :=
 callWith_function (o:=o) (fd:=fd) (evalArgs_plain (wpAny_mono h (fun vs s₁ h₁=>⟨⟨h₁.1.K _ _ hf,ho⟩,h₁.2⟩) fun _ _ e=>e))
theorem meth0_S {pos:Pos} {f x:Addr} {o:Obj} {fd:FuncData} {Q:VP} (I:Inv w s.heap) (hf:(frag.heap_1 w.params).lookup f=some o) (ho:o.data=.func fd)
 (h:wpAny (model prog w) A (call (.ref f) [.ref x]) Q E s):wpAny (model prog w) A (callWith pos (.ref f) [.ref x] [] []) Q E s :=
 callWith_function (o:=o) (fd:=fd) (PySem.evalArgs_none ⟨⟨I.K _ _ hf,ho⟩,h⟩)
theorem type_call:typeLookup (.type "type") "__call__"=pure (some (.builtin "type.__call__")):=by rw [typeLookup_type,builtinLookup_eq_fast];kernel_rfl
theorem cls_S {pos:Pos} {C:Addr} {o:Obj} {cd:ClassData} {args:List (Bool×Sem Value)} {Q:VP} (hp:args.any (·.1)=false) (hf:(frag.heap_1 w.params).lookup C=some o) (ho:o.data=.cls cd) (hc:o.cls=.type "type")
 (h:wpAny (model prog w) A (evalArgs (.ref C) true args []) (fun a s₁=>Inv w s₁.heap∧wpAny (model prog w) A (call (.ref C) a.pos a.kw) Q E s₁) E s):wpAny (model prog w) A (callWith pos (.ref C) [] args []) Q E s:=by
 unfold callWith
 refine wpAny_bind (wpAny_holding (wpAny_mono h (fun a s₁ h₁=>wpAny_bind (wpAny_standAt ?_)) fun _ _ e=>e))
 obtain ⟨I,hq⟩:=h₁
 have hC:=I.K _ _ hf
 simp only [hp,List.any_nil,Bool.or_false,List.nil_append]
 refine wpAny_bind (m:=keeperOf (.ref C)) ?_
 unfold keeperOf
 refine wpAny_bind (wpAny_load hC ?_)
 rw [ho]
 dsimp only
 refine wpAny_bind (wpAny_specialOf ⟨_,hC,hc⟩ type_call (wpAny_pure ?_))
 first | with_reducible refine iP (by decide) ?_ | rw [if_pos (by decide)]
 exact wpAny_bind (wpAny_mono hq (fun r s₂ hr=>wpAny_bind (wpAny_holding (wpAny_point (wpAny_pure hr)))) fun _ _ x=>x)
theorem subC_S {env:Env} {value:PySem.Expr} {c:Const} {kd:Nat} {p pos:Pos} {Q:VP} (ht:∀ o r,letTemporaryGo value o r=pure ())
 (h:wpAny (model prog w) A (eval value env) (fun o s₁=>wpAny (model prog w) A (eval (.Constant c kd p) env) (fun i s₂=>∃ l xs n j t v,o=.ref l∧i=.int (j:Nat) t∧s₂.heap.get? l=some (listOf xs n)∧xs.toList[j]? = some v∧xs.toList.length≤1000∧Q v s₂) E s₁) E s) :
 wpAny (model prog w) A (eval (.Subscript value (.Constant c kd p) pos) env) Q E s:=by
 refine wpAny_Subscript_Constant_late (wpAny_mono h (fun o s₁ h₁=>wpAny_mono h₁ (fun i s₂ h₂=>?_) fun _ _ e=>e) fun _ _ e=>e) ht
 refine exE6 h₂ fun l xs n j t v hh=>anE6 hh fun z6 z7 h1 h2 h3 q=>?_;clear hh;try clear h₂;rcases z6 with rfl;rcases z7 with rfl
 exact exI2 _ _ (anI3 slot_list_getitem.lookup ⟨_,h1,rfl⟩ (item_S (xs:=xs.toList) (by simpa using h1) h2 (by omega) q))
theorem cell_nc {h:Heap} {c:Addr} {v:Option Value} (x:h.IsCell c v):∀ o,h.get? c=some o→isCode o=false:=by
 obtain ⟨o,e,d⟩:=x
 intro o' e'
 rw [e] at e';cases e'
 unfold isCode
 rw [d]
theorem cell_keep {T:List Addr} {s s':Shared} {c:Addr} {v:Option Value} (x:s.heap.IsCell c v) (y:Step w T s s') (h:c∉T):s'.heap.IsCell c v:=let ⟨o,e,d⟩:=x;⟨o,y.keep _ _ e h,d⟩
theorem cset_S {L c:Addr} {x:Str} {v:Value} {v0:Option Value} {Q:Unit→Shared→Prop} (I:Inv w s.heap) (hx:lawScope.names.lookup x=some .cell) (hc:(cellsFrom (L+1) lawScope.names []).lookup x=some c) (h250:250≤c) (hv:s.heap.IsCell c v0)
 (h:∀ s',Step w [c] s s'→s'.heap.IsCell c (some v)→Q () s'):wpAny (model prog w) A (storeName (lawEnv L) x v) Q E s:=by
 refine wpAny_storeName_cell rfl hx hc hv fun h' hv' hs'=>h _ (step_of I (fun b o hb e=>hs'.extBut b o (fun q=>hb (List.mem_singleton.mpr q)) e) fun a ha=>?_) hv'
 rw [mS ha]
 exact ⟨h250,cell_nc hv⟩
theorem law_cell {L c:Addr} {x:Str} {p:Pos} {v:Value} {Q:VP} (hx:lawScope.names.lookup x=some .cell) (hc:(cellsFrom (L+1) lawScope.names []).lookup x=some c) (hv:s.heap.IsCell c (some v)) (hd:(x == ("__debug__":Str))=false) (h:Q v s):wpAny (model prog w) A (eval (.Name x p) (lawEnv L)) Q E s :=
 wpAny_Name (wpAny_loadName_cell (env:=lawEnv L) rfl hx hc hv h) hd
theorem casg_S {L c:Addr} {x:Str} {px pos:Pos} {value:PySem.Expr} {Q:Flow→Shared→Prop} (hsw:swapsWith value (some (.Name x px)) pos.line (lawEnv L)=pure false) (hx:lawScope.names.lookup x=some .cell) (hc:(cellsFrom (L+1) lawScope.names []).lookup x=some c) (h250:250≤c)
 (h:wpAny (model prog w) A (eval value (lawEnv L)) (fun v s₁=>Inv w s₁.heap∧(∃ v0,s₁.heap.IsCell c v0)∧∀ s',Step w [c] s₁ s'→s'.heap.IsCell c (some v)→Q .next s') E s):wpAny (model prog w) A (exec (.Assign [.Name x px] value pos) (lawEnv L)) Q E s:=by
 refine wpAny_Assign_Name (wpAny_mono h (fun v s₁ h₁=>?_) fun _ _ e=>e) hsw
 obtain ⟨I,⟨v0,hv⟩,k⟩:=h₁
 exact cset_S I hx hc h250 hv fun s' y hv'=>k s' y hv'
end
theorem Piece.keep2 {w:World} {T:List Addr} {s s':Shared} {v:Value} {p:Str×Str} (x:Piece s.heap v p) (y:Step w T s s') (hT:∀ a∈T,a < 250∨∃ o,s.heap.get? a=some o∧∀ xs,o≠⟨.type "tuple",none,.seq xs 0,#[]⟩):Piece s'.heap v p:=by
 refine exE3 x fun a ta tb hh=>anE2 hh fun z3 h=>?_;clear hh;try clear x;rcases z3 with rfl
 refine exI3 a ta tb (anI2 rfl (h.keep y fun hm=>?_))
 rcases hT a hm with h1 | ⟨o,e,hc⟩
 · exact absurd h.2 (Nat.not_le.mpr h1)
 · rw [h.1] at e;cases e;exact hc _ rfl
theorem Pieces.keep2 {w:World} {T:List Addr} {s s':Shared} {vs:List Value} {ps:List (Str×Str)} (x:Pieces s.heap vs ps) (y:Step w T s s') (hT:∀ a∈T,a < 250∨∃ o,s.heap.get? a=some o∧∀ xs,o≠⟨.type "tuple",none,.seq xs 0,#[]⟩):Pieces s'.heap vs ps:=by
 induction x with
 | nil=>exact .nil
 | cons h _ ih=>exact .cons (h.keep2 y hT) ih
structure Gh where
 (L X d O NM WO:Nat)
 (us ws:List Value)
 (nu nw nd bits:Nat)
 (ns:List (List Nat))
 (tc tb t1 t2:Tok)
 (h1:Int)
noncomputable def mv (G:Gh):List Nat:=[G.L,G.L+1+1+1+1,G.L+1+1+1+1+1,G.L+1+1+1+1+1+1,G.X,G.O]
noncomputable def pr (G:Gh):List Nat:=[G.L+1,G.L+1+1,G.L+1+1+1,G.d,G.NM,G.WO]
structure GhOk (G:Gh):Prop where
 hL:250≤G.L
 us:StrsAre G.us (G.ns.map nstr)
 ok:∀ x∈G.ns,NameOk x
 sum:(G.ns.map fun x=>2 ^ (4 - x.length)).sum≤7
 ws:IntsAre G.ws (toI (G.ns.map (worth G.bits)))
 b4:4≤G.bits
 b12:G.bits≤12
 len:G.ns.length≤7
 apart:∀ a∈mv G,∀ b∈pr G,a≠b
 apart2:∀ a∈[G.L,G.L+1+1+1+1,G.L+1+1+1+1+1,G.L+1+1+1+1+1+1],a≠G.X∧a≠G.O
 xo:G.X≠G.O
structure Stat (w:World) (G:Gh) (s:Shared):Prop where
 inv:Inv w s.heap
 cc:s.heap.IsCell (G.L+1) (some (.str "abcdefg" G.tc))
 cb:s.heap.IsCell (G.L+1+1) (some (.int G.bits G.tb))
 co:s.heap.IsCell (G.L+1+1+1) (some (.ref G.O))
 nm:At s.heap G.NM (listOf G.us.toArray G.nu)
 wo:At s.heap G.WO (listOf G.ws.toArray G.nw)
 ad:At s.heap G.d (accD G.h1 G.t1 G.t2 G.nd)
noncomputable def freeL (own:Nat→Nat):List Nat:=(List.range 7).filter fun c=>own c == 0
noncomputable def rowP (own:Nat→Nat):List (Str×Str):=(freeL own).map fun c=>(" ",letter c)
structure LawAt (w:World) (G:Gh) (own:Nat→Nat) (ps:List (Str×Str)) (s:Shared):Prop where
 st:Stat w G s
 row:∃ vs n,At s.heap G.X (accObj G.d vs n)∧Pieces s.heap vs ps
 own:OwnAt w s.heap G.O own
 c4:∃ v,s.heap.IsCell (G.L+1+1+1+1) v
 c5:∃ v,s.heap.IsCell (G.L+1+1+1+1+1) v
 c6:∃ v,s.heap.IsCell (G.L+1+1+1+1+1+1) v
noncomputable def LT (G:Gh):List Nat:=mv G ++ TB
section
variable {w:World} {s s':Shared} {G:Gh} {T:List Addr}
theorem tb250:∀ a∈TB,a < 250:=by decide
theorem Stat.move (g:GhOk G) (x:Stat w G s) (y:Step w T s s') (hT:∀ a∈T,a∈LT G):Stat w G s':=by
 have key:∀ {a:Nat},250≤a→a∈pr G→a∉T:=fun {a} ha hp hm=>by
  rcases List.mem_append.mp (hT a hm) with h | h
  · exact g.apart a h a hp rfl
  · exact absurd ha (Nat.not_le.mpr (tb250 a h))
 have hL:=g.hL
 exact ⟨y.inv,cell_keep x.cc y (key (Nat.le_succ_of_le hL) (.head _)),cell_keep x.cb y (key (Nat.le_succ_of_le (Nat.le_succ_of_le hL)) (.tail _ (.head _))),cell_keep x.co y (key (Nat.le_succ_of_le (Nat.le_succ_of_le (Nat.le_succ_of_le hL))) (.tail _ (.tail _ (.head _)))),
  x.nm.keep y (key x.nm.2 (.tail _ (.tail _ (.tail _ (.tail _ (.head _)))))),x.wo.keep y (key x.wo.2 (.tail _ (.tail _ (.tail _ (.tail _ (.tail _ (.head _))))))),x.ad.keep y (key x.ad.2 (.tail _ (.tail _ (.tail _ (.head _)))))⟩
theorem LawAt.quiet {own:Nat→Nat} {ps:List (Str×Str)} {m:Str→Option Value} (g:GhOk G) (x:LawAt w G own ps s) (hn:s.heap.Ns G.L m) (y:Step w T s s') (hT:∀ a∈T,a=G.L∨a∈TB):LawAt w G own ps s':=by
 have hL:=g.hL
 have h:=g.apart2
 have key:∀ {a:Nat},250≤a→a≠G.L→a∉T:=fun ha hne hm=>(hT _ hm).elim hne fun h=>absurd ha (Nat.not_le.mpr (tb250 _ h))
 refine exE2 x.row fun vs n hh=>anE2 hh fun hX hP=>?_;clear hh
 refine ⟨x.st.move g y fun a ha=>?_,⟨vs,n,hX.keep y (key hX.2 (fun e=>(h _ (.head _)).1 e.symm)),hP.keep2 y fun a ha=>?_⟩,x.own.keep y (key x.own.1 (fun e=>(h _ (.head _)).2 e.symm)),?_,?_,?_⟩
 · rcases hT a ha with rfl | h
   · exact List.mem_append_left _ (.head _)
   · exact List.mem_append_right _ h
 · rcases hT a ha with rfl | h
   · refine exE3 hn fun o es ep hh=>anE3 hh fun e hd _=>?_;clear hh;try clear hn
     refine .inr ⟨o,e,fun xs hc=>?_⟩
     rw [hc] at hd;cases hd
   · exact .inl (tb250 a h)
 · obtain ⟨v,hv⟩:=x.c4;exact ⟨v,cell_keep hv y (key (Nat.le_trans hL (by omega)) (Nat.ne_of_gt (by omega)))⟩
 · obtain ⟨v,hv⟩:=x.c5;exact ⟨v,cell_keep hv y (key (Nat.le_trans hL (by omega)) (Nat.ne_of_gt (by omega)))⟩
 · obtain ⟨v,hv⟩:=x.c6;exact ⟨v,cell_keep hv y (key (Nat.le_trans hL (by omega)) (Nat.ne_of_gt (by omega)))⟩
end
end
section
noncomputable abbrev p0:Pos:=⟨0,0,0,0⟩
section
variable {w:World} {A:Around} {E:VP} {s:Shared}
theorem fdiv105 {b:Int} {t u:Tok} {Q:VP} (h:∀ t j,Q (.int (b.fdiv 105) t) { s with toks:=j }):wpAny (model prog w) A (binaryOp .FloorDiv (.int b t) (.int 105 u)) Q E s:=by
 refine AutoIntOps.floordiv_1 (by decide) ?_ (h _ _)
 have:Builtin.divisionGoesByPylong b 105=false:=by
  unfold Builtin.divisionGoesByPylong
  rfl
 rw [this];decide
theorem fmod_S {b c:Int} {t u:Tok} {Q:VP} (hc:(c == 0)=false) (h:∀ t j,Q (.int (b.fmod c) t) { s with toks:=j }):wpAny (model prog w) A (binaryOp .Mod (.int b t) (.int c u)) Q E s :=
 AutoIntOps.mod_1 (by rw [hc];decide) (h _ _)
theorem heap1_S {L H n:Nat} {a b:Int} {ta tb:Tok} {m:Str→Option Value} {i:Nat} {v:Value} {p1 p2 p3:Pos} {kd:Nat} {Q:VP} (hn:s.heap.Ns L m) (hm:m "heaps"=some (.ref H)) (hH:At s.heap H (listOf #[.int a ta,.int b tb] n)) (hv:[Value.int a ta,Value.int b tb][i]? = some v) (h:∀ j,Q v { s with toks:=j }) :
 wpAny (model prog w) A (eval (.Subscript (.Name "heaps" p1) (.Constant (.int i) kd p2) p3) (lawEnv L)) Q E s:=by
 refine subC_S (by intro _ _;rfl) (law_loc hn rfl hm (by decide) (wpAny_Constant_int ⟨H,_,n,i,_,v,rfl,rfl,hH.1,hv,Nat.le_of_ble_eq_true rfl,h _⟩))
theorem setup1 (l:Lvl A 600) {L H n:Nat} {a b:Int} {ta tb:Tok} {m:Str→Option Value} {v1 v2:Option Value} {Q:Flow→Shared→Prop} (I:Inv w s.heap) (hL:250≤L) (hn:s.heap.Ns L m) (hm:m "heaps"=some (.ref H)) (hH:At s.heap H (listOf #[.int a ta,.int b tb] n))
 (c1:s.heap.IsCell (L+1) v1) (c2:s.heap.IsCell (L+1+1) v2)
 (k:∀ (s':Shared) (m':Str→Option Value) (NM:Nat) (us:List Value) (nu:Nat) (ns:List (List Nat)) (bits choice:Nat) (tc tb tch:Tok),Step w [L,L+1,L+1+1] s s'→s'.heap.Ns L m'→m' sUA=m sUA→m' "names"=some (.ref NM)→m' "choice"=some (.int (choice:Nat) tch)→choice < 105→s'.heap.IsCell (L+1) (some (.str "abcdefg" tc))→s'.heap.IsCell (L+1+1) (some (.int (bits:Nat) tb)) →
   s.heap.get? NM=none→At s'.heap NM (listOf us.toArray nu)→StrsAre us (ns.map nstr)→(∀ x∈ns,NameOk x)→(ns.map fun x=>2 ^ (4 - x.length)).sum≤7→4≤bits→bits≤12→wpAny (model prog w) A (execs (lawBody.drop 6) (lawEnv L)) Q E s') :
 wpAny (model prog w) A (execs (lawBody.drop 2) (lawEnv L)) Q E s:=by
 show wpAny _ _ (execs (_ :: _ :: _ :: _ :: lawBody.drop 6) _) _ _ _
 have h1:250≤L+1:=Nat.le_succ_of_le hL
 have h2:250≤L+1+1:=Nat.le_succ_of_le h1
 have n1:H∉[L+1]:=fun hm=>by
  obtain ⟨o,e,d⟩:=c1
  have e2:=hH.1
  rw [mS hm,e] at e2
  rw [Option.some.inj e2] at d;cases d
 have nL:@Ne Nat L (L+1):=Nat.ne_of_lt (Nat.lt_succ_self _)
 have nL2:@Ne Nat L (L+1+1):=by omega
 have n12:@Ne Nat (L+1+1) (L+1):=by omega
 refine wpAny_execs_cons (casg_S rfl rfl (cells_law L).1 h1 (Constant_str (k:=0) (pos:=p0) ⟨I,⟨_,c1⟩,fun s1 y1 d1=>?_⟩))
 have y01:Step w [L+1] s s1:=(((Step.refl I).toks _).wide fun a ha=>.inl ha).trans y1 fun a ha=>.inl ha
 have hn1:=hn.at' fun o e=>y01.keep _ o e (fun hm=>nL (mS hm))
 have hH1:=hH.keep y01 n1
 have c21:=cell_keep c2 y01 (fun hm=>n12 (mS hm))
 refine wpAny_execs_cons (asg_S rfl hL rfl rfl ?_)
 refine wpAny_Call_NameR (name_global (v:=.ref 211) y1.inv rfl rfl rfl (by k_is) (by decide) ?_)
 refine fn_S (by k_is) rfl (spliced_cons (heap1_S (i:=0) hn1 hm hH1 rfl fun j=>spliced_nil ⟨y1.inv,?_⟩))
 refine names_spec (l.up (by decide)) ?hi ?hk
 case hi=>exact y1.inv
 intro NM us nu ns s2 y2 hNM fNM hus hok hsum
 have y12:Step w [] s1 s2:=((Step.refl y1.inv).toks _).trans y2 fun a ha=>.inl ha
 have fNM1:s1.heap.get? NM=none:=fNM
 have hn2:=hn1.at' fun o e=>y12.keep _ o e nM
 refine ⟨y2.inv,_,hn2,fun s3 y3 hn3=>?_⟩
 have y13:Step w [L] s1 s3:=(y12.wide fun a ha=>absurd ha nM).trans y3 fun a ha=>.inl ha
 have nLH:H∉[L]:=fun hm=>by
  refine exE3 hn1 fun o _ _ hh=>anE3 hh fun e d _=>?_;clear hh;try clear hn1
  have e2:=hH1.1
  rw [mS hm,e] at e2
  rw [Option.some.inj e2] at d;cases d
 have nNML:NM∉[L]:=fun hm=>by
  refine exE3 hn1 fun o _ _ hh=>anE2 hh fun e _=>?_;clear hh;try clear hn1
  rw [mS hm,e] at fNM1;cases fNM1
 have hH3:=hH1.keep y13 nLH
 have hNM3:=hNM.keep y3 nNML
 have d3:=cell_keep d1 y13 (fun hm=>nL (mS hm).symm)
 have c23:=cell_keep c21 y13 (fun hm=>nL2 (mS hm).symm)
 have e3:∀ {x:Str} {v:Value},x≠"names"→m x=some v→upd m "names" (.ref NM) x=some v:=fun hx e=>(upd_ne _ _ hx).trans e
 refine wpAny_execs_cons (asg_S rfl hL rfl rfl ?_)
 rw [arm_eval_BinOp]
 refine wpAny_bind (heap1_S (i:=1) hn3 (e3 (by decide) hm) hH3 rfl fun j=>wpAny_bind (wpAny_holding (wpAny_Constant_int (k:=0) (pos:=p0) (wpAny_bind (wpAny_standAt (wpAny_operating (fmod_S rfl fun t5 j5=>?_)))))))
 have c0:0≤b.fmod 105:=Int.fmod_nonneg_of_pos _ (by decide)
 have c105:b.fmod 105 < 105:=Int.fmod_lt_of_pos _ (by decide)
 obtain ⟨choice,ec⟩:∃ t:Nat,b.fmod 105=(t:Int):=⟨(b.fmod 105).toNat,by omega⟩
 rw [ec]
 refine ⟨y3.inv,_,hn3,fun s4 y4 hn4=>?_⟩
 have y34:Step w [L] s3 s4:=(((Step.refl y3.inv).toks j5).wide fun a ha=>.inl ha).trans y4 fun a ha=>.inl ha
 have hH4:=hH3.keep y34 nLH
 have hNM4:=hNM3.keep y34 nNML
 have d4:=cell_keep d3 y34 (fun hm=>nL (mS hm).symm)
 have c24:=cell_keep c23 y34 (fun hm=>nL2 (mS hm).symm)
 refine wpAny_execs_cons (casg_S rfl rfl (cells_law L).2.1 h2 ?_)
 rw [arm_eval_BinOp]
 refine wpAny_bind (wpAny_Constant_int (k:=0) (pos:=p0) (wpAny_bind (wpAny_holding ?_)))
 rw [arm_eval_BinOp]
 refine wpAny_bind ?_
 rw [arm_eval_BinOp]
 refine wpAny_bind (heap1_S (i:=1) hn4 ((upd_ne _ _ (by decide)).trans (e3 (by decide) hm)) hH4 rfl fun j=>wpAny_bind (wpAny_holding (wpAny_Constant_int (k:=0) (pos:=p0) (wpAny_bind (wpAny_standAt (wpAny_operating (fdiv105 fun t6 j6=>?_)))))))
 refine wpAny_bind (wpAny_holding (wpAny_Constant_int (k:=0) (pos:=p0) (wpAny_bind (wpAny_standAt (wpAny_operating (fmod_S rfl fun t7 j7=>?_))))))
 refine wpAny_bind (wpAny_standAt (wpAny_operating (AutoIntOps.add_0 ?_)))
 have b0:0≤(b.fdiv 105).fmod 9:=Int.fmod_nonneg_of_pos _ (by decide)
 have b9:(b.fdiv 105).fmod 9 < 9:=Int.fmod_lt_of_pos _ (by decide)
 obtain ⟨q,eq⟩:∃ t:Nat,(b.fdiv 105).fmod 9=(t:Int):=⟨((b.fdiv 105).fmod 9).toNat,by omega⟩
 rw [eq,show (4:Int) + (q:Int)=((4+q:Nat):Int) by omega]
 refine ⟨y4.inv,⟨_,c24⟩,fun s5 y5 d5=>?_⟩
 have y45:Step w [L+1+1] s4 s5:=(((Step.refl y4.inv).toks (j7+1)).wide fun a ha=>.inl ha).trans y5 fun a ha=>.inl ha
 have nNM2:NM∉[L+1+1]:=fun hm=>by
  obtain ⟨o,e,d⟩:=c24
  have e2:=hNM4.1
  rw [mS hm,e] at e2
  rw [Option.some.inj e2] at d;cases d
 have m1:∀ a∈[L+1],a∈[L,L+1,L+1+1]∨s.heap.get? a=none:=fun a ha=>.inl (by rw [mS ha];exact .tail _ (.head _))
 have mL:∀ a∈[L],a∈[L,L+1,L+1+1]∨s.heap.get? a=none:=fun a ha=>.inl (by rw [mS ha];exact .head _)
 have m2:∀ a∈[L+1+1],a∈[L,L+1,L+1+1]∨s.heap.get? a=none:=fun a ha=>.inl (by rw [mS ha];exact .tail _ (.tail _ (.head _)))
 have all:=(((y01.wide m1).trans y13 mL).trans y34 mL).trans y45 m2
 refine k s5 _ NM us nu ns (4+q) choice _ _ _ all (hn4.at' fun o e=>y45.keep _ o e (fun hm=>nL2 (mS hm))) ((upd_ne _ _ (by decide)).trans (upd_ne _ _ (by decide))) ((upd_ne _ _ (by decide)).trans (upd_self _ _ _)) (upd_self _ _ _) (by omega) (cell_keep d4 y45 (fun hm=>n12 (mS hm).symm)) d5 (y01.was fNM1 fun hm=>?_) (hNM4.keep y45 nNM2) hus hok hsum (by omega) (by omega)
 obtain ⟨o,e,d⟩:=d1
 rw [mS hm,e] at fNM1;cases fNM1
end
end
section
theorem contains_letter (x:Str) (c:Nat):Txt.contains x (letter c)=decide (97+c∈x.cps.toList):=StrLaws.found_one x (97+c)
theorem contains_nstr (x:List Nat) (c:Nat):Txt.contains (nstr x) (letter c)=x.contains c:=by
 rw [contains_letter]
 have:(97+c∈(nstr x).cps.toList) ↔ c∈x:=by
  unfold nstr
  simp
 by_cases h:c∈x
 · rw [decide_eq_true (this.mpr h)];simp [h]
 · rw [decide_eq_false (fun q=>h (this.mp q))];simp [h]
theorem worth_sum (b:Nat) (x:List Nat):((((List.range 7).filter fun k=>x.contains k).map fun k=>((2 ^ (b*k):Nat):Int)).sum)=((worth b x:Nat):Int):=by
 unfold worth
 generalize List.range 7=l
 induction l with
 | nil=>rfl
 | cons a r ih =>
   rw [List.map_cons,List.sum_cons,Int.natCast_add,← ih,List.filter_cons]
   by_cases h:x.contains a=true
   · rw [if_pos h,if_pos h,List.map_cons,List.sum_cons]
   · rw [if_neg h,if_neg h];simp
section
variable {w:World} {A:Around} {E:VP} {s s₁:Shared} {T:List Addr}
theorem src_range {r:Addr} {n:Nat} {t u v:Tok} (hr:IsRange s₁.heap r 0 n 1 t u v) (hn:n≤1000):Src prog w T (.ref r) n (fun i v=>∃ t,v=.int i t) s₁:=by
 intro A Q E hh k
 refine src2_range (T:=T) hr hn A Q E hh fun o fp St tk h1 h2 W h3 h4 h5=>k o fp St tk h1 h2 W (fun i h st o e=>?_) h4 h5
 obtain ⟨o',e',hc⟩:=h3 i h st
 rw [e] at e';cases e';exact hc
theorem cell7 {k:Nat} {t u:Tok} {Q:VP} (hk:k < 7) (h:∀ t j,Q (.str (letter k) t) { s with toks:=j }):wpAny (model prog w) A (getItem (.str "abcdefg" t) (.int k u)) Q E s:=by
 refine P.getItem_str (c:=97+k) ?_ ?_ (h _ _)
 · simp;omega
 · obtain ⟨k',rfl⟩:∃ k':Fin 7,k=k'.1:=⟨⟨k,hk⟩,rfl⟩
   clear h hk
   revert k';decide +kernel
theorem inner_comp (l:Lvl A 700) {env:Env} {iter:PySem.Expr} {px p1 p2 p3 p4 p5 p6 p7 p8 p9 q1 q2 q3 q4:Pos} {kc:Nat} {scope:Scope} {pos:Pos} {cl:List (Str×Addr)} {x:List Nat} {b:Nat} {tc tb tn:Tok} {Q:VP} (I:Inv w s.heap)
 (hclos:closureFor scope env=pure cl) (hcell:∀ y∈scope.names,y.2≠.cell) (hkind:scope.kind=.function) (hg:env.globals=mainGlobals)
 (hnames:∀ y∈scope.names,y.2=.local→scope.names.lookup y.1=some .local) (hx:scope.names.lookup ("k":Str)=some .local) (hJ:(relabel scope env).names.lookup ("IS_CHARACTER_JUNK":Str)=some .globalImplicit) (hs:∀ x,foldedSetIterable iter env x=pure x)
 (hit:∀ Q':VP,(∀ r t u v s',Step w [] s s'→IsRange s'.heap r 0 7 1 t u v→Q' (.ref r) s')→wpAny (model prog w) A (eval iter env) Q' E s)
 (hcs:OwnName w env scope cl "cells" (.str "abcdefg" tc) s) (hbs:OwnName w env scope cl "bits" (.int b tb) s) (hns:OwnName w env scope cl "name" (.str (nstr x) tn) s) (hb:b≤12) (hxl:x.length≤7)
 (kk:∀ D n ys s',Step w [] s s'→s.heap.get? D=none→At s'.heap D (listOf ys.toArray n)→IntsAre ys (((List.range 7).filter fun k=>x.contains k).map fun k=>((2 ^ (b*k):Nat):Int))→Q (.ref D) s') :
 wpAny (model prog w) A (eval (.ListComp (.BinOp (.Constant (.int 2) kc p1) .Pow (.BinOp (.Name "bits" p2) .Mult (.Name "k" p3) p4) p5) [⟨.Name "k" px,iter,[.Compare (.Call (.Name "IS_CHARACTER_JUNK" p6) [.Subscript (.Name "cells" p7) (.Name "k" p8) p9,.Name "name" q1] [] q2) [.Is] [.Constant (.bool true) kc q3] q4],0⟩] scope pos) env) Q E s:=by
 refine comp_S (T:=[]) l.handled hclos hcell hkind hnames hx (fun _ h=>nN h) (hit _ fun r t u v s1 y1 hr=>?_) hs
 refine exI4 7 (fun i v=>∃ t,v=.int (i:Nat) t) (fun i=>x.contains i) (fun i y=>∃ t,y=.int ((2 ^ (b*i):Nat):Int) t) (anI5 y1.inv (by rw [sizeLine_eq];omega) (src_range hr (by decide)) (fun tk=>⟨?_,?_⟩) (fun D n ys s' y fD hD M=>kk D n ys s' (y1.trans y fun a h=>.inl h) (y1.was fD nM) hD (M.ints fun i y h=>h)))
 · intro C i v s3 m hi hP S3 fC hC hn hm
   obtain ⟨ti,rfl⟩:=hP
   have S3':Step w [] s s3:=y1.trans (((Step.refl y1.inv).toks tk).trans S3 fun a ha=>.inl ha) fun a ha=>.inl ha
   refine wpAny_tests_one (wpAny_isTrue_Compare1 ?_)
   have nm:∀ (s4:Shared) (p:Pos) (Q' E':VP),s4.heap=s3.heap→Q' (.int i ti) s4→wpAny (model prog w) A (eval (.Name "k" p) (compEnvC scope cl C env)) Q' E' s4:=fun s4 p Q' E' e q =>
    wpAny_Name (wpAny_loadName_local (env:=compEnvC scope cl C env) (by simp [compEnvC,relabel,hkind]) (lookup_relabel_local hx) (e▸hn) hm q) (by decide)
   refine wpAny_Call_NameR (name_global (env:=compEnvC scope cl C env) (v:=.ref 113) S3.inv (by simp [compEnvC,relabel,hkind]) hJ hg (by k_is) (by decide) ?_)
   refine fn_S (by k_is) rfl (spliced_cons (wpAny_Subscript_Name F.slot_str_getitem.lookup (hcs _ _ _ _ _ _ S3' (nm _ _ _ _ rfl ⟨typeIs_str _ _ _,?_⟩))))
   refine cell7 hi fun t5 j5=>?_
   have S4':Step w [] s { s3 with toks:=j5 }:=S3'.toks j5
   refine spliced_cons (hns _ _ _ _ _ _ S4' (spliced_nil ⟨S3.inv,?_⟩))
   refine junk_spec (l.up (by decide)) ?hi ?hb fun s5 y5=>?_
   case hi=>exact S3.inv
   case hb=>rw [show (nstr x).length=x.length from nstr_size x,sizeLine_eq];omega
   rw [contains_nstr]
   refine wpAny_Constant_bool (k:=0) (pos:=p0) (is_bool ?_)
   have y35:Step w [] s3 s5:=((Step.refl S3.inv).toks j5).trans y5 fun a ha=>.inl ha
   refine wpAny_truthy_bool ⟨by cases x.contains i <;> rfl,y35.wide fun a ha=>absurd ha nM,m,hn.at' fun o e=>y35.keep _ o e nM,hm⟩
 · intro C i v s3 m hi hP hp S3 fC hC hn hm
   obtain ⟨ti,rfl⟩:=hP
   have S3':Step w [] s s3:=y1.trans (((Step.refl y1.inv).toks tk).trans S3 fun a ha=>.inl ha) fun a ha=>.inl ha
   rw [arm_eval_BinOp]
   refine wpAny_bind (wpAny_Constant_int (k:=0) (pos:=p0) (wpAny_bind (wpAny_holding ?_)))
   rw [arm_eval_BinOp]
   refine wpAny_bind (hbs _ _ _ _ _ _ (S3'.toks _) (wpAny_bind (wpAny_holding ?_)))
   refine wpAny_Name (wpAny_loadName_local (env:=compEnvC scope cl C env) (by simp [compEnvC,relabel,hkind]) (lookup_relabel_local hx) (s:=⟨s3.heap,_,_,_,_⟩) hn hm ?_) (by decide)
   refine wpAny_bind (wpAny_standAt (wpAny_operating (AutoIntOps.mul_0 ?_ ?_)))
   · rw [← Int.natCast_mul]
     refine wpAny_bind (wpAny_standAt (wpAny_operating (powN_S ?_ fun t6 j6=>?_)))
     · have:b*i≤12*7:=Nat.mul_le_mul hb (by omega)
       omega
     · exact ⟨⟨_,rfl⟩,((Step.refl S3.inv).toks j6).wide fun _ h=>nN h,m,hn⟩
   · exact IntMulOk.of_right (Nat.le_trans (bits_lt (n:=10) (by omega)) (by decide))
end
end
section
noncomputable def compEnvN (scope:Scope) (cl:List (Str×Addr)) (C:Nat) (env:Env) (x:Str):Env :=
 { scope:=relabel scope env,locals:=C,globals:=env.globals,cells:=(x,C+1) :: cl,qual:=env.qual,func:=none,code:=env.code,frame:=env.frame,builtins:=env.builtins }
section
variable {w:World} {A:Around} {E:VP} {s s₁:Shared} {elt iter:PySem.Expr} {x:Str} {px:Pos} {scope:Scope} {pos:Pos} {cl:List (Str×Addr)} {fp T:List Addr} {n:Nat} {P:Nat→Value→Prop} {St:Nat→Heap→Prop} {env:Env} {F:Nat→Value→Prop}
theorem newEnv_N {Q:Env→Shared→Prop} (hpush:∀ h,pushCells h scope.names=h.push { cls:=.type "cell",data:=.cell none }) (hcells:∀ n,cellsFrom n scope.names cl=(x,n) :: cl)
 (h:Q { scope,locals:=s.heap.objs.size,globals:=env.globals,cells:=(x,s.heap.objs.size+1) :: cl,qual:=env.qual,func:=none,code:=env.code,frame:=env.frame,builtins:=env.builtins }
   { s with heap:=(s.heap.push { cls:=.type "dict",data:=.dict #[] }).push { cls:=.type "cell",data:=.cell none } }) :
 wpAny (model prog w) A (newFunctionEnv scope env.globals cl [] env.qual none .none (some env)) Q E s:=by
 simp only [newFunctionEnv,Option.isSome_some,if_true]
 refine wpAny_bind (wpAny_alloc ?_)
 refine wpAny_bind (wpAny_layCells _ (fun name kind cells=>by cases hkc:kind == NameKind.cell <;> simp [hkc]) _ _ _ _ ?_)
 rw [hpush,hcells]
 simp only [List.forIn_nil]
 refine wpAny_bind (wpAny_pure (wpAny_pure ?_))
 rw [show (s.heap.push { cls:=.type "dict",data:=.dict #[] }).objs.size=s.heap.objs.size+1 from Heap.size_push ..]
 exact h
noncomputable def CompEltN (w:World) (A:Around) (env:Env) (scope:Scope) (cl:List (Str×Addr)) (x:Str) (elt:PySem.Expr) (n:Nat) (P:Nat→Value→Prop) (F:Nat→Value→Prop) (s₁:Shared):Prop :=
 ∀ (C:Nat) i v (s₃:Shared) m,i < n→P i v→Step w [] s₁ s₃→s₁.heap.get? C=none→s₁.heap.get? (C+1)=none→250≤C→s₃.heap.Ns C m→s₃.heap.IsCell (C+1) (some v) →
   wpAny (model prog w) A (eval elt (compEnvN scope cl C env x)) (fun y s₄=>F i y∧Step w [] s₃ s₄) (fun _ _=>False) s₃
theorem comp_AC {y:Str} {py:Pos} {spos:Pos} {Q:Flow→Shared→Prop} (hh:A.handled=none)
 (hpush:∀ h,pushCells h scope.names=h.push { cls:=.type "cell",data:=.cell none }) (hcells:∀ n,cellsFrom n scope.names cl=(x,n) :: cl)
 (hsw:swapsWith (.ListComp elt [⟨.Name x px,iter,[],0⟩] scope pos) (some (.Name y py)) spos.line env=pure true)
 (hclos:closureFor scope env=pure cl) (hkind:scope.kind=.function) (hnames:∀ y∈scope.names,y.2=.local→scope.names.lookup y.1=some .local) (hx:(relabel scope env).names.lookup x=some .cell)
 (hy:env.kindOf y=some .local) (hp:(env.scope.kind == .class || (env.scope.kind == .module && env.locals != env.globals))=false)
 (h:wpAny (model prog w) A (eval iter env) (fun xv s₁=>∃ n P F m,Inv w s₁.heap∧250≤env.locals∧s₁.heap.Ns env.locals m∧n≤sizeLine∧Src prog w [] xv n P s₁∧(∀ tk,CompEltN w A env scope cl x elt n P F { s₁ with toks:=tk }) ∧
   (∀ D k ys (s':Shared),Step w [env.locals] s₁ s'→s₁.heap.get? D=none→At s'.heap D (listOf ys.toArray k)→Made (fun _=>true) F n ys→s'.heap.Ns env.locals (upd m y (.ref D))→Q .next s')) E s)
 (hs:∀ x,foldedSetIterable iter env x=pure x:=by intro _;rfl) :
 wpAny (model prog w) A (exec (.Assign [.Name y py] (.ListComp elt [⟨.Name x px,iter,[],0⟩] scope pos) spos) env) Q E s:=by
 rw [exec_Assign_Name_used _ _ _ _ hsw]
 refine wpAny_bind (wpAny_standAt (wpAny_bind ?_))
 show wpAny _ A (do let _ ← comprehension (.ListComp elt [⟨.Name x px,iter,[],0⟩] scope pos) scope env _ (newList []) false (eval iter env) (some (assign (.Name y py) env))) _ _ s
 refine wpAny_bind (wpAny_mono (wpAny_comprehension_free (use:=some (assign (.Name y py) env)) (Q:=fun _ s'=>Q .next s') rfl hs hclos hkind hnames
  (wpAny_mono h (fun xv s₁ h₁=>?_) fun _ _ e=>e)) (fun _ s' hq=>wpAny_pure (wpAny_pure hq)) fun _ _ e=>e)
 refine exE4 h₁ fun n P F m hh=>anE7 hh fun In hL hnL hsz src H k=>?_;clear hh;try clear h₁
 refine src A _ _ hh fun o fp St tk hoc hof W hIc hst hfp=>?_
 refine wpAny_newObj_type (newEnv_N hpush hcells ?_)
 dsimp only
 have e1:(s₁.heap.push o).objs.size=s₁.heap.objs.size+1:=Heap.size_push ..
 have e2:((s₁.heap.push o).push { cls:=.type "list",data:=.seq #[] }).objs.size=s₁.heap.objs.size+2:=by rw [Heap.size_push,e1]
 rw [e1,e2]
 have hI1:(s₁.heap.push o).get? s₁.heap.objs.size=some o:=Heap.get?_push_size _ hof
 have hD1:((s₁.heap.push o).push { cls:=.type "list",data:=.seq #[] }).get? (s₁.heap.objs.size+1)=some { cls:=.type "list",data:=.seq #[] }:=by rw [← e1];exact Heap.get?_push_size _ rfl
 have hC1:(((s₁.heap.push o).push { cls:=.type "list",data:=.seq #[] }).push { cls:=.type "dict",data:=.dict #[] }).Ns (s₁.heap.objs.size+2) (fun _=>none):=by rw [← e2];exact Heap.Ns.new _ (.type "dict")
 have e3:(((s₁.heap.push o).push { cls:=.type "list",data:=.seq #[] }).push { cls:=.type "dict",data:=.dict #[] }).objs.size=s₁.heap.objs.size+2+1:=by rw [Heap.size_push,e2]
 have hN1:((((s₁.heap.push o).push { cls:=.type "list",data:=.seq #[] }).push { cls:=.type "dict",data:=.dict #[] }).push { cls:=.type "cell",data:=.cell none }).get? (s₁.heap.objs.size+2+1)=some { cls:=.type "cell",data:=.cell none }:=by rw [← e3];exact Heap.get?_push_size _ rfl
 have kp:∀ (h:Heap) (o':Obj) b ob,h.get? b=some ob→(h.push o').get? b=some ob:=fun _ _ b ob e=>Heap.get?_push_of_some _ e
 have oldI:∀ b ob,(s₁.heap.push o).get? b=some ob→((((s₁.heap.push o).push { cls:=.type "list",data:=.seq #[] }).push { cls:=.type "dict",data:=.dict #[] }).push { cls:=.type "cell",data:=.cell none }).get? b=some ob:=fun b ob e=>kp _ _ _ _ (kp _ _ _ _ (kp _ _ _ _ e))
 have hD4:=kp _ { cls:=.type "cell",data:=.cell none } _ _ (kp _ { cls:=.type "dict",data:=.dict #[] } _ _ hD1)
 have hC4:=hC1.push { cls:=.type "cell",data:=.cell none }
 generalize hH:(((s₁.heap.push o).push { cls:=.type "list",data:=.seq #[] }).push { cls:=.type "dict",data:=.dict #[] }).push { cls:=.type "cell",data:=.cell none }=H4 at *
 have old:∀ b ob,s₁.heap.get? b=some ob→H4.get? b=some ob:=fun b ob e=>oldI b ob (kp _ _ _ _ e)
 generalize hI0:s₁.heap.objs.size=I0 at *
 have frI:∀ j,s₁.heap.get? (I0+j)=none:=fun j=>Heap.get?_none_of_le (by rw [hI0];exact Nat.le_add_right _ _)
 have sz:250≤I0:=hI0▸In.size
 have In₁:Inv w H4:=In.keepAll old
 have S₀:∀ tk,Step w [] s₁ { s₁ with heap:=H4,toks:=tk }:=fun tk=>⟨fun b o' e _=>old b o' e,rfl,id,In₁⟩
 have hst₁:St 0 H4:=W.frame _ _ _ hst fun b _ o' e=>oldI b o' e
 have bounds:∀ a∈[I0+2,I0+2+1],250≤a:=fun a ha=>by
  rcases mC ha with rfl | ha
  · omega
  · rw [mS ha];omega
 have nTw:∀ a∈I0 :: (I0+1) :: [I0+2,I0+2+1] ++ [],a∈([]:List Addr)∨s₁.heap.get? a=none:=fun a ha=>by
  right
  simp only [List.append_nil,List.mem_cons,nM,or_false] at ha
  rcases ha with rfl | rfl | rfl | rfl
  · exact frI 0
  · exact frI 1
  · exact frI 2
  · exact frI 3
 have loop:codeAny (model prog w) A (.compLoop (.ListComp elt [⟨.Name x px,iter,[],0⟩] scope pos) 0 (.ref I0) (.ref (I0+1)) (compEnvN scope cl (I0+2) env x)) (compPost (model prog w) A E (some (assign (.Name y py) env)) (fun x s'=>Q Flow.next s') (.ref (I0+1)) (I0+2)) { s₁ with heap:=H4,toks:=tk }:=by
  refine comp_loop (Cs:=[I0+2,I0+2+1]) (T:=[]) W (fun _=>true) F (fun h=>∃ m v,h.Ns (I0+2) m∧h.IsCell (I0+2+1) v) (fun v h=>∃ m,h.Ns (I0+2) m∧h.IsCell (I0+2+1) (some v)) ?_ ?_ ?_ ?_ hIc sz (Nat.le_succ_of_le sz) bounds (fun _ h=>nN h) ?_ ?_ ?_ ?_ In₁ hst₁ ⟨0,hD4⟩ ⟨_,_,hC4,⟨_,hN1,rfl⟩⟩ ?_ ?_ ?_ hsz
  · rintro h h' ⟨m,v,hn,hc⟩ hk
    exact exI2 m v (anI2 (hn.at' fun o e=>hk _ (.head _) o e) (let ⟨o,e,d⟩:=hc;⟨o,hk _ (.tail _ (.head _)) o e,d⟩))
  · rintro h ⟨m,v,hn,hc⟩ a ha
    rcases mC ha with rfl | ha
    · exact ns_notCode hn
    · rw [mS ha];exact cell_nc hc
  · rintro v h ⟨m,hn,hc⟩;exact exI2 m _ (anI2 hn hc)
  · rintro v s Q E ⟨m,v0,hn,hc⟩ k
    refine wpAny_assign_Name (wpAny_storeName_cell (env:=compEnvN scope cl (I0+2) env x) (by simp [compEnvN,relabel,hkind]) hx (show (((x,I0+2+1) :: cl).lookup x)=some (I0+2+1) from by simp [List.lookup]) hc fun h' hc' hs'=>?_)
    have ne:(I0+2:Nat)≠I0+2+1:=Nat.ne_of_lt (Nat.lt_succ_self _)
    exact k h' _ ⟨m,hn.at' fun o e=>hs'.extBut _ o ne e,hc'⟩ fun b o hb e=>hs'.extBut b o (fun q=>hb (by rw [q];exact .tail _ (.head _))) e
  · exact Nat.ne_of_lt (Nat.lt_succ_self _)
  · intro hm
    rcases mC hm with h | h
    · exact absurd h (Nat.ne_of_lt (by omega))
    · exact absurd (mS h) (Nat.ne_of_lt (by omega))
  · intro hm
    rcases mC hm with h | h
    · exact absurd h (Nat.ne_of_lt (by omega))
    · exact absurd (mS h) (Nat.ne_of_lt (by omega))
  · intro b hb
    have hb':@LE.le Nat _ b I0:=by
     rcases hfp b hb with rfl | ⟨h1,-⟩
     · exact Nat.le_refl _
     · exact Nat.le_of_lt h1
    refine ⟨Nat.ne_of_lt (Nat.lt_succ_of_le hb'),fun hm=>?_,nM⟩
    rcases mC hm with h | h
    · exact absurd (show @LE.le Nat _ (I0+2) I0 from h▸hb') (by omega)
    · exact absurd (show @LE.le Nat _ (I0+2+1) I0 from mS h▸hb') (by omega)
  · rintro i v s₃ hi hP S b
    exact wpAny_pure ⟨rfl,(Step.refl S.inv).wide fun _ h=>nN h,b⟩
  · rintro i v s₃ hi hP - S ⟨m,hn,hc⟩
    refine wpAny_mono (H tk (I0+2) i v s₃ m hi hP ((((S₀ tk).trans S nTw) |> fun z=>(show Step w [] { s₁ with toks:=tk } s₃ from ⟨z.keep,z.os,z.gens,z.inv⟩))) (frI 2) (frI 3) (by omega) hn hc) (fun y s₄ h₄=>⟨h₄.1,h₄.2.wide fun _ h=>nN h,m,_,hn.at' fun o e=>h₄.2.keep _ o e nM,cell_keep hc h₄.2 nM⟩) fun _ _ e=>e
  · rintro s' ys S ⟨m',v',hn,hc⟩ ⟨kk,hl⟩ M
    show wpAny _ A (assign (.Name y py) env (.ref (I0+1))) _ _ _
    have S':Step w [] s₁ s':=(S₀ tk).trans S nTw
    have fC:=frI 2
    have fD:=frI 1
    have hLC:env.locals≠I0+2:=by rintro h;refine exE3 hnL fun o _ _ hh=>anE2 hh fun ho _=>?_;clear hh;try clear hnL;rw [h] at ho;rw [fC] at ho;cases ho
    have hLD:env.locals≠I0+1:=by rintro h;refine exE3 hnL fun o _ _ hh=>anE2 hh fun ho _=>?_;clear hh;try clear hnL;rw [h] at ho;rw [fD] at ho;cases ho
    have hnL':s'.heap.Ns env.locals m:=hnL.at' fun o e=>S'.keep _ o e nM
    refine wpAny_assign_Name (wpAny_storeName_local hy hnL' (fun h₂ hn₂ hs₂=>?_) hp)
    refine ⟨m',hn.sameBut hs₂ (Ne.symm hLC),fun h₃ hs₃=>?_⟩
    have S2:Step w [env.locals] s' { s' with heap:=h₂,toks:=s'.toks+1 }:=step_of S'.inv (fun b o hb e=>hs₂.extBut b o (fun q=>hb (List.mem_singleton.mpr q)) e) fun a ha=>by
     rw [mS ha];exact ⟨hL,ns_notCode hnL'⟩
    have S3:Step w [(I0+2:Nat)] { s' with heap:=h₂,toks:=s'.toks+1 } { s' with heap:=h₃,toks:=s'.toks+1 }:=step_of S2.inv (fun b o hb e=>hs₃.extBut b o (fun q=>hb (List.mem_singleton.mpr q)) e) fun a ha=>by
     rw [mS ha];exact ⟨Nat.le_trans sz (Nat.le_add_right _ 2),ns_notCode (hn.sameBut hs₂ (Ne.symm hLC))⟩
    have nDC:(I0+1:Nat)≠I0+2:=Nat.ne_of_lt (Nat.lt_succ_self _)
    refine k (I0+1) kk ys.toList _ (((S'.wide fun a ha=>absurd ha nM).trans S2 fun a ha=>.inl ha).trans S3 fun a ha=>by rw [mS ha];exact .inr fC) fD ⟨?_,Nat.le_trans sz (Nat.le_add_right _ 1)⟩ M (hn₂.sameBut hs₃ hLC)
    have:=hs₃.extBut _ _ nDC (hs₂.extBut _ _ (Ne.symm hLD) hl)
    simpa using this
 exact codeAny_compStart_list loop (W.self 0 _ _ _ hst₁ loop)
end
end
section
section
variable {w:World} {A:Around} {E:VP} {s:Shared}
theorem sum_S {l n:Nat} {vs:List Value} {ns:List Int} {Q:VP} (hh:A.handled=none) (I:Inv w s.heap) (hl:s.heap.get? l=some (listOf vs.toArray n)) (hi:IntsAre vs ns) (h:∀ t s',Step w [] s s'→Q (.int ns.sum t) s'):wpAny (model prog w) A (call (.builtin "sum") [.ref l]) Q E s:=by
 obtain ⟨xs,e⟩:=hi.allInts.items
 refine sum_intListG hh (xs:=xs) ⟨_,hl,rfl,_,by rw [← e]⟩ fun h' tk t' hk=>?_
 have e2:ns=xs.toList.map (·.1):=by
  have:=hi.numsOf
  rw [show vs=(intItems xs).toList from by rw [← e],nums_intItems] at this
  exact this.symm
 have e3:preSum (numAt xs) xs.size=ns.sum:=by
  rw [e2]
  rw [preSum_eq,List.take_of_length_le (by simp)]
 rw [e3]
 exact h t' _ ⟨fun b o e _=>hk b o e,rfl,id,I.keepAll hk⟩
theorem paired_ints3 {α:Type} {F:α→Value→Prop} {g:α→Int} (hF:∀ i y,F i y→∃ t,y=.int (g i) t):∀ {l:List α} {ys:List Value},Paired F l ys→IntsAre ys (l.map g)
 | _,_,.nil=>.nil
 | _,_,.cons h t=>by
   obtain ⟨u,rfl⟩:=hF _ _ h
   exact .cons _ _ (paired_ints3 hF t)
theorem worths_blk (l:Lvl A 600) {L NM nu bits:Nat} {us:List Value} {ns:List (List Nat)} {tc tb:Tok} {m:Str→Option Value} {Q:Flow→Shared→Prop} (I:Inv w s.heap) (hL:250≤L) (hn:s.heap.Ns L m) (hm:m "names"=some (.ref NM)) (hNM:At s.heap NM (listOf us.toArray nu)) (hus:StrsAre us (ns.map nstr))
 (hok:∀ x∈ns,NameOk x) (hlen:ns.length≤7) (c1:s.heap.IsCell (L+1) (some (.str "abcdefg" tc))) (c2:s.heap.IsCell (L+1+1) (some (.int (bits:Nat) tb))) (hb:bits≤12)
 (k:∀ (s':Shared) (WO:Nat) (ws:List Value) (nw:Nat),Step w [L] s s'→s'.heap.Ns L (upd m "worths" (.ref WO))→s.heap.get? WO=none→At s'.heap WO (listOf ws.toArray nw)→IntsAre ws (toI (ns.map (worth bits)))→wpAny (model prog w) A (execs (lawBody.drop 7) (lawEnv L)) Q E s') :
 wpAny (model prog w) A (execs (lawBody.drop 6) (lawEnv L)) Q E s:=by
 show wpAny _ _ (execs (_ :: lawBody.drop 7) _) _ _ _
 have hl:us.length=ns.length:=by rw [StrsAre.len_eq hus,List.length_map]
 refine wpAny_execs_cons (comp_AC l.handled (cl:=[(Str.ofString "cells",L+1),(Str.ofString "bits",L+1+1)]) (by intro _;rfl) (by intro _;rfl) (by rfl) (by rfl) (by rfl) (by decide) (by rfl) (by rfl) (by rfl) ?_)
 refine law_loc hn rfl hm (by decide) ?_
 refine exI4 us.length (fun i v=>us[i]? = some v) (fun i y=>∃ t,y=.int ((worth bits (ns.getD i []):Nat):Int) t) m (anI7 I hL hn (by rw [sizeLine_eq];omega) (src_list (fun _ h=>nN h) hNM) (fun tk=>?_) (fun D kk ys s' y fD hD M hn'=>k s' D ys kk y hn' fD hD ?_))
 · intro C i v s3 m3 hi hP S3 fC fN hC hn3 hcell
   obtain ⟨hin,t,rfl⟩:=strs_get hus i v hP
   have eg:ns.getD i []=ns[i]:=by rw [List.getD_eq_getElem?_getD,List.getElem?_eq_getElem hin];rfl
   have S3':Step w [] s s3:=((Step.refl I).toks tk).trans S3 fun a h=>.inl h
   have d1:=cell_keep c1 S3' nM
   have d2:=cell_keep c2 S3' nM
   refine wpAny_Call_NameR (name_builtin (v:=.builtin "sum") S3.inv (by rfl) (by rfl) rfl rfl (by k_is) (by decide) (by rfl) (by decide) ?_)
   refine callWith_builtin rfl (evalArgs_plain (spliced_cons ?_))
   refine inner_comp (x:=ns[i]) (b:=bits) (tc:=tc) (tb:=tb) (tn:=t) (l.up (by decide)) S3.inv (cl:=[(Str.ofString "name",C+1),(Str.ofString "cells",L+1),(Str.ofString "bits",L+1+1)]) ?h1 ?h2 ?h3 ?h4 ?h5 ?h6 ?h7 ?h8 ?h9 ?h10 ?h11 ?h12 hb ?h13 fun D n ys s4 y4 fD hD hys=>?_
   case h1=>rfl
   case h2=>decide
   case h3=>rfl
   case h4=>rfl
   case h5=>decide
   case h6=>rfl
   case h7=>rfl
   case h8=>intro _;rfl
   case h9 =>
    intro Q' kq
    refine wpAny_Call_NameR (name_builtin (v:=.type "range") S3.inv (by rfl) (by rfl) rfl rfl (by k_is) (by decide) (by rfl) (by decide) ?_)
    refine PySem.callWith_type rfl (evalArgs_plain (spliced_cons (wpAny_Constant_int (k:=0) (pos:=p0) (spliced_nil ?_))))
    refine range_S (n:=7) ?_ fun r t u v s' y hr=>kq r t u v s' (((Step.refl S3.inv).toks _).trans y fun a h=>.inl h) hr
    exact S3.inv
   case h10=>exact ownName_of (by decide) rfl rfl rfl d1
   case h11=>exact ownName_of (by decide) rfl rfl rfl d2
   case h12=>exact ownName_of (by decide) rfl rfl rfl hcell
   case h13 =>
    have:=(hok ns[i] (List.getElem_mem hin)).2.2
    omega
   refine spliced_nil (sum_S l.handled y4.inv hD.1 hys fun t5 s5 y5=>?_)
   rw [worth_sum]
   exact ⟨⟨t5,by rw [eg]⟩,y4.trans y5 fun a h=>.inl h⟩
 · have h1:=paired_ints3 (g:=fun i=>((worth bits (ns.getD i []):Nat):Int)) (fun i y h=>h) M
   rw [List.filter_eq_self.mpr fun _ _=>rfl] at h1
   have e:(List.range us.length).map (fun i=>((worth bits (ns.getD i []):Nat):Int))=toI (ns.map (worth bits)):=by
    apply List.ext_getElem
    · simp [toI,hl]
    · intro i h1 h2
      have hi:i < ns.length:=by simpa [toI] using h2
      simp [toI,List.getD_eq_getElem?_getD,List.getElem?_eq_getElem hi]
   rw [e] at h1
   exact h1
end
end
section
section
variable {w:World} {A:Around} {E:VP} {s:Shared} {Q:VP}
theorem pop_spec (l:Lvl A 800) (I:Inv w s.heap) {x d:Addr} {us:List Value} {v:Value} {n nd:Nat} {h1:Int} {t1 t2:Tok} (hx:At s.heap x (accObj d (us ++ [v]) n)) (hd':At s.heap d (accD h1 t1 t2 nd)) (hz:us.length+1≤sizeLine)
 (k:∀ s',Step w [x] s s'→At s'.heap x (accObj d us (n+1))→Q v s'):wpAny (model prog w) A (call (.ref 160) [.ref x]) Q E s:=by
 have hxd:=acc_ne hx.1 hd'.1
 have h250:=hx.2
 have hc:(((us ++ [v]).length:Int) == 0)=false:=by simp;omega
 refine weaken l fun fr gd=>?_
 refine enterAt (args:=⟨[.ref x],[]⟩) [(x,accObj d (us ++ [v]) n),(d,accD h1 t1 t2 nd)] I ?_ (by k_is) (by k_is) (by show (800:Nat) < 1000;decide) (BindsTo.of_eq rfl) (locs rfl) ?_ (by decide)
 · exact fm2 ⟨hx,rfl⟩ ⟨hd',rfl⟩ (fun _ h=>nN h)
 intro g L h₁ loose mean mg mb B F N X T
 dsimp only
 have O:Oth s s:=Oth.refl
 obtain ⟨HH,hold,held⟩:=holds
 have qC {x1 x2 x3 x4 x5 x6 x7}:=hold 4 (wpAny x1 x2 (getMethod (Value.ref x) x3 x4) x5 x6 x7)
 have qD {x1 x2 x3 x4 x5 x6 x7 x8}:=hold 4 (wpAny x1 x2 (getMethod (Value.ref x3) x4 x5) x6 x7 x8)
 have qE {x1 x2 x3 x4 x5 x6}:=hold 3 (wpAny x1 x2 (call (Value.ref 197) x3) x4 x5 x6)
 k_steps
 repeat' ((first
  | (refine held 6 _ ?_
     rename Fr _ _ _ _=>F
     rename News _ _ _ _=>N
     have lx:@LT.lt Nat _ x q:=lq (x,accObj d (us ++ [v]) n) (by k_mem)
     have ls:@LT.lt Nat _ x so':=lso (x,accObj d (us ++ [v]) n) (by k_mem)
     (try dsimp only at lx ls)
     k_dflt (refine' pop_acc (x:=x) (d:=d) (vs:=us) (n:=n) (v:=v) X F N ?k1 ?k3 hz ?_;(case k1=>exact .head _);(case k3=>k_upd))
     intro h' F N)
  | (refine held 5 _ ?_
     rename News _ _ _ _=>N
     have q1:=(N (q,_) (.head _)).1
     (with_reducible refine callWith_bob q1 ?k1 ?_)
     case k1=>first | exact .inl rfl | exact .inr rfl
     clear q1)
  | (refine held 4 _ ?_
     rename Fr _ _ _ _=>F
     rename News _ _ _ _=>N
     (with_reducible refine superm (so:=so') (x:=x) (d:=d) (vs:=us ++ [v]) (n:=n) gets_pop F X N ?k1 ?k2 ?k3 h250 ?k4 ?_)
     case k1=>k_mem
     case k2=>exact (show (x,accObj d (us ++ [v]) n)∈_ by k_mem)
     case k3=>ks_is
     case k4=>decide
     intro q h' F N lq
     have qA {x1 x2 x3 x4 x5}:=hold 6 (wpAny x1 x2 (call (Value.ref q) []) x3 x4 x5)
     have qB {x1 x2 x3 x4 x5 x6 x7 x8 x9}:=hold 5 (wpAny x1 x2 (callWith x3 (Value.ref q) x4 x5 x6) x7 x8 x9)
     (try dsimp only))
  | (refine held 3 _ ?_
     (try dsimp only [List.cons_append,List.nil_append])
     rename Fr _ _ _ _=>F
     rename News _ _ _ _=>N
     have q1:=Base.at B N (p:=(x,accObj d (us ++ [v]) n)) (by k_mem)
     have q2:=Base.at B N (p:=(d,accD h1 t1 t2 nd)) (by k_mem)
     have q3:=inv_now B F
     (with_reducible refine count_spec (lvl_deeper (by decide)) q3 q1 q2 ?_)
     intro tc s1 st
     have N:=news0 st N
     have F:=fr0 st F
     have O:=Oth.next st O
     clear st q1 q2 q3)
  | (refine held 4 _ ?_
     rename Fr _ _ _ _=>F
     rename News _ _ _ _=>N
     have q1:=acc_inst N (show (x,accObj d (us ++ [v]) n)∈_ by k_mem) (show (d,accD h1 t1 t2 nd)∈_ by k_mem)
     (with_reducible refine acc_meth (v:=.ref 197) (t:="function") (X.keeps F.keep) q1 ?k1 ?kt ?k2 ?k3 ?_)
     case k1=>k_is
     case kt=>exact looks_typeIn (X.keeps F.keep) (by k_is)
     case k2=>exact .inl rfl
     case k3=>rfl
     clear q1
     (try dsimp only))
  | (refine held 9 _ ?_
     rename Fr _ _ _ _=>F
     rename News _ _ _ _=>N
     have q1:=acc_inst N (show (x,accObj d (us ++ [v]) n)∈_ by k_mem) (show (d,accD h1 t1 t2 nd)∈_ by k_mem)
     k_dflt (refine ks_node F X N T (by k_is) (by rfl) (by rfl) q1 (by k_is) (by rfl) (by first | rfl | decide +kernel) (by k_is) (by k_is) (by k_is) (by k_is) (by decide) (by rfl) (by rfl) (by rfl) (by rfl) (by decide +kernel) (by first | boot_by_name | rfl | kernel_rfl) ?_)
     clear q1
     intro so' h' F N lso)
  | fail) <;> k_steps)
 rename Fr _ _ _ _=>F
 rename News _ _ _ _=>N
 refine k _ (Base.fin B [x] F N O ?_) (Base.at B N (p:=(x,accObj d us (n+1))) (by k_mem))
 exact fm2 (.inl (List.mem_singleton.mpr rfl)) (.inr (by k_mem)) (fun _ h=>nN h)
end
end
section
section
variable {w:World} {A:Around} {E:VP} {s:Shared} {Q:VP}
theorem pop_empty (l:Lvl A 800) (I:Inv w s.heap) {x d:Addr} {n nd:Nat} {h1:Int} {t1 t2:Tok} (hx:At s.heap x (accObj d [] n)) (hd':At s.heap d (accD h1 t1 t2 nd))
 (k:∀ p ta tb s',Step w [] s s'→At s'.heap p (⟨.type "tuple",none,.seq #[.str "" ta,.str "" tb] 0,#[]⟩)→s.heap.get? p=none→Q (.ref p) s'):wpAny (model prog w) A (call (.ref 160) [.ref x]) Q E s:=by
 have hxd:=acc_ne hx.1 hd'.1
 refine weaken l fun fr gd=>?_
 refine enterAt (args:=⟨[.ref x],[]⟩) [(x,accObj d [] n),(d,accD h1 t1 t2 nd)] I ?_ (by k_is) (by k_is) (by show (800:Nat) < 1000;decide) (BindsTo.of_eq rfl) (locs rfl) ?_ (by decide)
 · exact fm2 ⟨hx,rfl⟩ ⟨hd',rfl⟩ (fun _ h=>nN h)
 intro g L h₁ loose mean mg mb B F N X T
 dsimp only
 have O:Oth s s:=Oth.refl
 obtain ⟨HH,hold,held⟩:=holds
 have qA {x1 x2 x3 x4 x5 x6}:=hold 2 (wpAny x1 x2 (call (Value.ref 197) x3) x4 x5 x6)
 have qB {x1 x2 x3 x4 x5 x6 x7}:=hold 1 (wpAny x1 x2 (getMethod (Value.ref x) x3 x4) x5 x6 x7)
 k_steps
 repeat' ((first
  | (refine held 2 _ ?_
     (try dsimp only [List.cons_append,List.nil_append])
     rename Fr _ _ _ _=>F
     rename News _ _ _ _=>N
     have q1:=Base.at B N (p:=(x,accObj d [] n)) (by k_mem)
     have q2:=Base.at B N (p:=(d,accD h1 t1 t2 nd)) (by k_mem)
     have q3:=inv_now B F
     (with_reducible refine count_spec (lvl_deeper (by decide)) q3 q1 q2 ?_)
     intro tc s1 st
     have N:=news0 st N
     have F:=fr0 st F
     have O:=Oth.next st O
     clear st q1 q2 q3)
  | (refine held 1 _ ?_
     rename Fr _ _ _ _=>F
     rename News _ _ _ _=>N
     have q1:=acc_inst N (show (x,accObj d [] n)∈_ by k_mem) (show (d,accD h1 t1 t2 nd)∈_ by k_mem)
     (with_reducible refine acc_meth (v:=.ref 197) (t:="function") (X.keeps F.keep) q1 ?k1 ?kt ?k2 ?k3 ?_)
     case k1=>k_is
     case kt=>exact looks_typeIn (X.keeps F.keep) (by k_is)
     case k2=>exact .inl rfl
     case k3=>rfl
     clear q1
     (try dsimp only))) <;> k_steps)
 rename Fr _ _ _ _=>F
 rename News _ _ _ _=>N
 rename (x < _∧d < _)=>l1
 refine k _ _ _ _ (Base.fin B [] F N O ?_) (Base.at B N (.head _)) (base_fresh B (N _ (.head _)).2.2 ⟨Nat.ne_of_gt l1.1,Nat.ne_of_gt l1.2,trivial⟩)
 exact fm2 (.inr (by k_mem)) (.inr (by k_mem)) (fun _ h=>nN h)
end
section
variable {w:World} {A:Around} {E:VP} {s:Shared} {h₀:Heap} {L x d:Addr} {m:Str→Option Value} {news:List (Addr×Obj)} {vs:List Value} {n:Nat} {P:Params}
theorem slice_acc {value slice:PySem.Expr} {i:Nat} {ti:Tok} {Q:VP} (X:(frag.heap_1 P).In h₀) (F:Fr h₀ L s.heap m) (N:News h₀ L s.heap news) (hx:(x,accObj d vs n)∈news) (hz:vs.length≤sizeLine) (hi:i≤vs.length)
 (h:∀ p h',Fr h₀ L h' m→News h₀ L h' ((p,listOf (vs.drop i).toArray 0) :: news)→(∀ q∈news,q.1 < p)→Q (.ref p) { s with heap:=h' })
 (hs:subscripted slice false (.ref x) (.ref s.heap.objs.size)=operate [.ref s.heap.objs.size,.ref x] (getItem (.ref x) (.ref s.heap.objs.size)):=by with_unfolding_all rfl)
 (ht:∀ r,letTemporaryGo value (.ref x) r=pure ():=by intro _;with_unfolding_all rfl) :
 wpAny (model prog w) A (subscriptTail value slice (.ref x) (.ref s.heap.objs.size)) Q E { s with heap:=s.heap.push { cls:=.type "slice",data:=.fields #[.int i ti,.none,.none] } }:=by
 have hx':(s.heap.push { cls:=.type "slice",data:=.fields #[.int i ti,.none,.none] }).get? x=some (accObj d vs n):=Heap.get?_push_of_some _ (N _ hx).1
 have X':(frag.heap_1 P).In (s.heap.push { cls:=.type "slice",data:=.fields #[.int i ti,.none,.none] }):=fun a o e=>Heap.get?_push_of_some _ (X.keeps F.keep a o e)
 have sp:Looks (model prog w) (s.heap.push { cls:=.type "slice",data:=.fields #[.int i ti,.none,.none] }) (specialOf (.ref x) "__getitem__") (some (.builtin "list.__getitem__")):=acc_special X' hx' rfl (by k_is)
 have key:wpAny (model prog w) A (getItem (.ref x) (.ref s.heap.objs.size)) Q E { s with heap:=s.heap.push { cls:=.type "slice",data:=.fields #[.int i ti,.none,.none] } }:=by
  with_reducible refine acc_slice X' hx' (Heap.IsSliceOf.new ..) hz ?_
  rw [pick_from vs i hi]
  have N1:=News.push (F.push { cls:=.type "slice",data:=.fields #[.int i ti,.none,.none] }) (N.grown fun _ _ e=>Heap.get?_push_of_some _ e) { cls:=.type "list",data:=.seq (vs.drop i).toArray }
  exact h _ _ ((F.push _).push _) N1 (fun q hq=>by show _ < (s.heap.push _).objs.size;rw [Heap.size_push];exact Nat.lt_succ_of_lt (Heap.lt_size (N _ hq).1))
 unfold subscriptTail
 refine wpAny_bind ?_
 rw [getitemInPython_of_ne (by simp)]
 refine wpAny_bind (sp.here ?_)
 have fin:wpAny (model prog w) A (subscripted slice false (.ref x) (.ref s.heap.objs.size)) (fun r s₃=>wpAny (model prog w) A (letTemporaryGo value (.ref x) r >>= fun _=>pure r) Q E s₃) E { s with heap:=s.heap.push { cls:=.type "slice",data:=.fields #[.int i ti,.none,.none] } }:=by
  rw [hs]
  exact wpAny_operating (wpAny_mono key (fun r s₃ h₃=>wpAny_bind (wpAny_of_eq (ht r) (wpAny_pure h₃))) fun _ _ x=>x)
 first
  | exact wpAny_pure (wpAny_bind fin)
  | exact wpAny_bind (wpAny_pure (wpAny_bind fin))
  | exact wpAny_bind fin
theorem cut_acc {news':List (Addr×Obj)} {e:Addr} {i ne:Nat} {ti:Tok} {Q:Unit→Shared→Prop} (X:(frag.heap_1 P).In h₀) (F:Fr h₀ L s.heap m) (N:News h₀ L s.heap news) (he:(e,listOf #[] ne)∈news)
 (U:Upd x (accObj d vs n) (accObj d (vs.take i) (n+1)) news news') (hz:vs.length≤sizeLine) (hi:i < vs.length)
 (h:∀ h',Fr h₀ L h' m→News h₀ L h' news'→Q () { s with heap:=h' }):wpAny (model prog w) A (setItem (.ref x) (.ref s.heap.objs.size) (.ref e)) Q E { s with heap:=s.heap.push { cls:=.type "slice",data:=.fields #[.int i ti,.none,.none] } }:=by
 have he':=(N (e,listOf #[] ne) he).1
 refine exE2 U.split fun pre post hh=>anE4 hh fun z2 z3 a b=>?_;clear hh;rcases z2 with rfl;rcases z3 with rfl
 have F1:Fr h₀ L (s.heap.push { cls:=.type "slice",data:=.fields #[.int i ti,.none,.none] }) m:=F.push _
 have N1:News h₀ L (s.heap.push { cls:=.type "slice",data:=.fields #[.int i ti,.none,.none] }) (pre ++ (x,accObj d vs n) :: post):=N.grown fun _ _ e=>Heap.get?_push_of_some _ e
 have z:=N1 (x,accObj d vs n) (List.mem_append.mpr (.inr (.head _)))
 with_reducible refine acc_cut (X.keeps F1.keep) z.1 (Heap.IsSliceOf.new ..) (Heap.get?_push_of_some _ he') hi hz fun h' hs' ho'=>?_
 exact h h' (F1.change hs' z.2.1 z.2.2) (news_set N1 a b hs' ho')
end
section
variable {w:World} {A:Around} {E:VP} {s:Shared} {Q:VP}
theorem from_spec (l:Lvl A 800) (I:Inv w s.heap) {x d:Addr} {vs:List Value} {i:Nat} {ti:Tok} {n nd:Nat} {h1:Int} {t1 t2:Tok} (hx:At s.heap x (accObj d vs n)) (hd':At s.heap d (accD h1 t1 t2 nd)) (hi:i < vs.length) (hz:vs.length≤sizeLine)
 (k:∀ p np s',Step w [x] s s'→At s'.heap x (accObj d (vs.take i) (n+1))→At s'.heap p (listOf (vs.drop i).toArray np)→s.heap.get? p=none→Q (.ref p) s'):wpAny (model prog w) A (call (.ref 152) [.ref x,.int i ti]) Q E s:=by
 have hxd:=acc_ne hx.1 hd'.1
 refine weaken l fun fr gd=>?_
 refine enter (args:=⟨[.ref x,.int i ti],[]⟩) [(x,accObj d vs n),(d,accD h1 t1 t2 nd)] I ?_ (by k_is) (by k_is) (by show (800:Nat) < 1000;decide) (binds_K I.K rfl (by k_is) rfl rfl rfl) (locs rfl) ?_ (by decide)
 · exact fm2 ⟨hx,rfl⟩ ⟨hd',rfl⟩ (fun _ h=>nN h)
 intro g L h₁ loose mean mg mb B F N X T
 dsimp only
 k_fold
 have O:Oth s s:=Oth.refl
 obtain ⟨HH,hold,held⟩:=holds
 have qA {x1 x2 x3 x4 x5 x6 x7 x8}:=hold 4 (wpAny x1 x2 (setItem (Value.ref x3) (Value.ref x4) (Value.ref x5)) x6 x7 x8)
 have qB {x1 x2 x3 x4 x5 x6 x7 x8 x9 x10 x11 x12 x13}:=hold 3 (wpAny x1 x2 (subscriptTail (Expr.Name x3 x4) (Expr.Slice x5 x6 x7 x8) (Value.ref x9) (Value.ref x10)) x11 x12 x13)
 k_steps
 repeat' ((first
  | (refine held 4 _ ?_
     rename Fr _ _ _ _=>F
     rename News _ _ _ _=>N
     have lx:@LT.lt Nat _ x p:=lp (x,accObj d vs n) (by k_mem)
     k_dflt (refine' cut_acc (s:=⟨_,_,_,_,_⟩) (x:=x) (d:=d) (vs:=vs) (n:=n) (i:=i) (ne:=0) X F N ?k1 ?k3 hz hi ?_;(case k1=>exact .head _);(case k3=>k_upd))
     intro h' F N)
  | (refine held 3 _ ?_
     rename Fr _ _ _ _=>F
     rename News _ _ _ _=>N
     (refine slice_acc (s:=⟨_,_,_,_,_⟩) (x:=x) (d:=d) (vs:=vs) (n:=n) (i:=i) X F N ?k1 hz (Nat.le_of_lt hi) ?_)
     case k1=>k_mem
     intro p h' F N lp)) <;> k_steps)
 rename Fr _ _ _ _=>F
 rename News _ _ _ _=>N
 have lx:@LT.lt Nat _ x p:=lp (x,accObj d vs n) (by k_mem)
 have ld:@LT.lt Nat _ d p:=lp (d,accD h1 t1 t2 nd) (by k_mem)
 refine k p 0 _ (Base.fin B [x] F N O ?_) (Base.at B N (p:=(x,_)) (by k_mem)) (Base.at B N (p:=(p,_)) (by k_mem)) (base_fresh B (N (p,listOf (vs.drop i).toArray 0) (by k_mem)).2.2 ⟨Nat.ne_of_gt lx,Nat.ne_of_gt ld,trivial⟩)
 exact fm2 (.inl (List.mem_singleton.mpr rfl)) (.inr (by k_mem)) (fun _ h=>nN h)
end
end
section
section
variable {w:World} {A:Around} {E:VP} {s:Shared}
theorem meth_call {env:Env} {o:PySem.Expr} {name:Str} {apos pos:Pos} {args:List PySem.Expr} {Q:VP}
 (hbase:attributeBase o name env (eval o env)=eval o env) (hform:methodCallForm (args.length+([]:List Keyword).length) (backTo pos (starEach args env)) (backToKw pos (keywordEach [] env))=true) (hline:(apos.endLine == pos.line)=true)
 (h:wpAny (model prog w) A (eval o env) (fun ov s₁=>∀ pl:Sem Bool,wpAny (model prog w) A (getMethod ov name pl) (fun r s₂=>wpAny (model prog w) A (callWith pos r.1 r.2 (backTo pos (starEach args env)) []) Q E s₂) E s₁) E s) :
 wpAny (model prog w) A (eval (.Call (.Attribute o name apos) args [] pos) env) Q E s:=by
 rw [arm_eval_Call,hbase]
 refine wpAny_bind (wpAny_mono h (fun ov s₁ h₁=>wpAny_bind (wpAny_standAt ?_)) fun _ _ e=>e)
 have hpos:methodCallPos true o env apos pos=pure pos:=by unfold methodCallPos;simp [hline]
 unfold methodCall
 rw [hform]
 refine wpAny_bind (wpAny_holding (wpAny_mono (h₁ _) (fun r s₂ h₂=>?_) fun _ _ e=>e))
 exact wpAny_bind (wpAny_of_eq hpos h₂)
theorem row_meth {x d:Addr} {vs:List Value} {n nd:Nat} {h1:Int} {t1 t2:Tok} {name:Str} {f:Addr} {pl:Sem Bool} {Q:Value×List Value→Shared→Prop} (I:Inv w s.heap) (hx:At s.heap x (accObj d vs n)) (hd':At s.heap d (accD h1 t1 t2 nd))
 (hf:findIn (frag.heap_1 w.params) (.ref 200) name=some (some (.ref f))) (ht:typeIn (frag.heap_1 w.params) (.ref f)=some (.type "function")) (hl:getL name [⟨h1,.str sIS t1,.int 3 t2⟩]=some none) (h:Q (.ref f,[.ref x]) s):wpAny (model prog w) A (getMethod (.ref x) name pl) Q E s :=
 acc_meth (d:=d) (vs:=vs) (n:=n) (nd:=nd) (h1:=h1) (t1:=t1) (t2:=t2) I.K ⟨hx.1,rfl,rfl,hd'.1⟩ hf (looks_typeIn I.K ht) (.inl rfl) hl h
theorem ex_ne {h:Heap} {a b:Nat} (e:∃ o,h.get? a=some o) (f:h.get? b=none):@Ne Nat a b:=fun q=>by
 obtain ⟨o,e⟩:=e
 rw [q,f] at e;cases e
theorem cell_ex {h:Heap} {c:Addr} {v:Option Value} (x:h.IsCell c v):∃ o,h.get? c=some o:=let ⟨o,e,_⟩:=x;⟨o,e⟩
theorem ns_ex {h:Heap} {c:Addr} {m:Str→Option Value} (x:h.Ns c m):∃ o,h.get? c=some o:=let ⟨o,_,_,e,_⟩:=x;⟨o,e⟩
theorem cell_ne {h:Heap} {c a:Nat} {v:Option Value} {o:Obj} (x:h.IsCell c v) (e:h.get? a=some o) (hd:∀ v,o.data≠.cell v):@Ne Nat c a:=fun q=>by
 obtain ⟨o',e',d⟩:=x
 rw [q,e] at e'
 rw [← Option.some.inj e'] at d
 exact hd _ d
theorem ns_ne {h:Heap} {c a:Nat} {m:Str→Option Value} {o:Obj} (x:h.Ns c m) (e:h.get? a=some o) (hd:∀ es ep,o.data≠.dict es ep):@Ne Nat c a:=fun q=>by
 refine exE3 x fun o' es ep hh=>anE3 hh fun e' d _=>?_;clear hh;try clear x
 rw [q,e] at e'
 rw [← Option.some.inj e'] at d
 exact hd _ _ d
theorem Pieces.snoc {h:Heap} {vs:List Value} {ps:List (Str×Str)} {v:Value} {p:Str×Str} (x:Pieces h vs ps) (y:Piece h v p):Pieces h (vs ++ [v]) (ps ++ [p]):=by
 induction x with
 | nil=>exact .cons y .nil
 | cons a _ ih=>exact .cons a ih
theorem LawAt.pushed {s s':Shared} {G:Gh} {own:Nat→Nat} {ps:List (Str×Str)} {vs:List Value} {n:Nat} {p:Addr} {a b:Str} {ta tb:Tok} (g:GhOk G) (x:LawAt w G own ps s) (hr:At s.heap G.X (accObj G.d vs n)) (hP:Pieces s.heap vs ps) (y:Step w [G.X] s s')
 (hX:At s'.heap G.X (accObj G.d (vs ++ [.ref p]) (n+1))) (hp:At s'.heap p (⟨.type "tuple",none,.seq #[.str a ta,.str b tb] 0,#[]⟩)):LawAt w G own (ps ++ [(a,b)]) s':=by
 have h2:=g.apart2
 have key:∀ {c:Nat},c≠G.X→c∉[G.X]:=fun h hm=>h (mS hm)
 refine ⟨x.st.move g y fun c hc=>by rw [mS hc];exact List.mem_append_left _ (.tail _ (.tail _ (.tail _ (.tail _ (.head _))))),⟨_,_,hX,(hP.keep2 y fun c hc=>?_).snoc ⟨p,ta,tb,rfl,hp⟩⟩,x.own.keep y (key g.xo.symm),?_,?_,?_⟩
 · rw [mS hc]
   exact .inr ⟨_,hr.1,fun xs e=>by have:=congrArg Obj.cls e;cases this⟩
 · obtain ⟨v,hv⟩:=x.c4;exact ⟨v,cell_keep hv y (key (h2 _ (.tail _ (.head _))).1)⟩
 · obtain ⟨v,hv⟩:=x.c5;exact ⟨v,cell_keep hv y (key (h2 _ (.tail _ (.tail _ (.head _)))).1)⟩
 · obtain ⟨v,hv⟩:=x.c6;exact ⟨v,cell_keep hv y (key (h2 _ (.tail _ (.tail _ (.tail _ (.head _))))).1)⟩
theorem LawAt.ex {s:Shared} {G:Gh} {own:Nat→Nat} {ps:List (Str×Str)} {m:Str→Option Value} (x:LawAt w G own ps s) (hn:s.heap.Ns G.L m):∀ a∈mv G ++ pr G,∃ o,s.heap.get? a=some o:=by
 obtain ⟨⟨i1,i2,i3,i4,i5,i6,i7⟩,⟨vs,n,hX,-⟩,hO,⟨_,c4⟩,⟨_,c5⟩,⟨_,c6⟩⟩:=x
 simp only [mv,pr,List.cons_append,List.nil_append,List.forall_mem_cons,nM,false_implies,implies_true,and_true]
 exact anI12 (ns_ex hn) (cell_ex c4) (cell_ex c5) (cell_ex c6) ⟨_,hX.1⟩ hO.some (cell_ex i2) (cell_ex i3) (cell_ex i4) ⟨_,i7.1⟩ ⟨_,i5.1⟩ ⟨_,i6.1⟩
theorem Pieces.keep3 {s s':Shared} {I:Nat} {vs:List Value} {ps:List (Str×Str)} (x:Pieces s.heap vs ps) (y:Step w [I] s s') (h:∀ v∈vs,v≠.ref I):Pieces s'.heap vs ps:=by
 induction x with
 | nil=>exact .nil
 | @cons v vs p ps hp _ ih =>
   refine .cons ?_ (ih fun v hv=>h v (.tail _ hv))
   refine exE3 hp fun a ta tb hh=>anE2 hh fun z3 ha=>?_;clear hh;try clear hp;rcases z3 with rfl
   exact exI3 a ta tb (anI2 rfl (ha.keep y fun hm=>h _ (.head _) (by rw [mS hm])))
theorem LawAt.other {s s':Shared} {G:Gh} {own:Nat→Nat} {ps:List (Str×Str)} {vs:List Value} {n I:Nat} (x:LawAt w G own ps s) (hr:At s.heap G.X (accObj G.d vs n)) (hP:Pieces s.heap vs ps) (y:Step w [I] s s') (hI:∀ a∈mv G ++ pr G,a≠I) (hv:∀ v∈vs,v≠.ref I) :
 LawAt w G own ps s'∧At s'.heap G.X (accObj G.d vs n)∧Pieces s'.heap vs ps:=by
 have h:∀ a∈mv G ++ pr G,a∉[I]:=fun a ha hm=>hI a ha (mS hm)
 simp only [mv,pr,List.cons_append,List.nil_append,List.forall_mem_cons,nM,false_implies,implies_true,and_true] at h
 refine anE12 h fun hL h4 h5 h6 hX hO h1 h2 h3 hd hNM hWO=>?_;try clear h
 obtain ⟨⟨i1,i2,i3,i4,i5,i6,i7⟩,-,jO,⟨_,c4⟩,⟨_,c5⟩,⟨_,c6⟩⟩:=x
 have a1:=hr.keep y hX
 have a2:=hP.keep3 y hv
 exact ⟨⟨⟨y.inv,cell_keep i2 y h1,cell_keep i3 y h2,cell_keep i4 y h3,i5.keep y hNM,i6.keep y hWO,i7.keep y hd⟩,⟨vs,n,a1,a2⟩,jO.keep y hO,⟨_,cell_keep c4 y h4⟩,⟨_,cell_keep c5 y h5⟩,⟨_,cell_keep c6 y h6⟩⟩,a1,a2⟩
structure PuJ (w:World) (G:Gh) (m:Str→Option Value) (s₀:Shared) (I:Nat) (i:Nat) (s:Shared):Prop where
 law:LawAt w G (fun _=>0) (((List.range 7).take i).map fun c=>(" ",letter c)) s
 row:∃ vs n,At s.heap G.X (accObj G.d vs n)∧Pieces s.heap vs (((List.range 7).take i).map fun c=>(" ",letter c))∧∀ v∈vs,v≠.ref I
 st:Step w [G.L,G.X] s₀ s
 ns:∃ m',s.heap.Ns G.L m'∧∀ x:Str,x≠"cell"→m' x=m x
theorem push_blk (l:Lvl A 600) {G:Gh} {s4:Shared} {m:Str→Option Value} {Q:Flow→Shared→Prop} (g:GhOk G) (A4:LawAt w G (fun _=>0) (((List.range 7).take 0).map fun c=>(" ",letter c)) s4) (hn4:s4.heap.Ns G.L m) (hm:m "row"=some (.ref G.X))
 (k:∀ (s':Shared) (m':Str→Option Value),LawAt w G (fun _=>0) (rowP fun _=>0) s'→s'.heap.Ns G.L m'→(∀ x:Str,x≠"cell"→m' x=m x)→Step w [G.L,G.X] s4 s'→wpAny (model prog w) A (execs (lawBody.drop 10) (lawEnv G.L)) Q E s') :
 wpAny (model prog w) A (execs (lawBody.drop 9) (lawEnv G.L)) Q E s4:=by
 show wpAny _ _ (execs (_ :: lawBody.drop 10) _) _ _ _
 have hL:=g.hL
 have hLX:G.L≠G.X:=(g.apart2 _ (.head _)).1
 have ltT:∀ a∈[G.L,G.X],a < s4.heap.objs.size:=fun a ha=>by
  rcases mC ha with rfl | ha
  · exact hn4.lt
  · refine exE2 A4.row fun vs n hh=>anE2 hh fun h _=>?_;clear hh
    rw [mS ha];exact h.lt
 have In:=A4.st.inv
 refine wpAny_execs_cons (for_src l.handled ?_)
 refine law_cell rfl (cells_law G.L).1 A4.st.cc (by decide) ?_
 have ex4:=A4.ex hn4
 have hI:∀ a∈mv G ++ pr G,a≠s4.heap.objs.size:=fun a ha e=>by
  obtain ⟨o,e2⟩:=ex4 a ha
  exact Nat.lt_irrefl _ (e▸Heap.lt_size e2)
 have hLI:G.L∉[s4.heap.objs.size]:=fun hm=>hI G.L (.head _) (mS hm)
 have f4:s4.heap.get? s4.heap.objs.size=none:=Heap.get?_none_of_le (Nat.le_refl _)
 have z7:("abcdefg":Str).cps.size=7:=by rw [letters7];rfl
 refine exI4 [G.L,G.X] 7 (SignAt "abcdefg") (fun i s'=>PuJ w G m s4 s4.heap.objs.size i s') (anI8 In (by rw [← z7];exact src2_str) ltT (fun i s' j=>j.law.st.inv) (fun s' y=>?_) (fun i s s' j y=>?_) ?_ ?_)
 · have A':=A4.quiet g hn4 y fun a h=>nN h
   refine exE2 A'.row fun vs n hh=>anE2 hh fun hX hP=>?_;clear hh
   refine ⟨A',?_,(y.wide fun a h=>nN h),m,hn4.at' fun o e=>y.keep _ o e nM,fun _ _=>rfl⟩
   refine exE2 A4.row fun vs4 n4 hh=>anE2 hh fun hX4 hP4=>?_;clear hh
   have e0:vs4=[]:=List.length_eq_zero_iff.mp hP4.len
   subst e0
   exact exI2 [] n4 (anI3 (hX4.keep y nM) (hP4.keep y fun _ h=>nN h) (fun _ h=>nN h))
 · refine exE2 j.row fun vs n hh=>anE3 hh fun hX hP hv=>?_;clear hh
   obtain ⟨a1,a2,a3⟩:=j.law.other hX hP y hI hv
   obtain ⟨m',hn',hm'⟩:=j.ns
   exact ⟨a1,⟨vs,n,a2,a3,hv⟩,j.st.trans y fun a h=>.inr (by rw [mS h];exact f4),m',hn'.at' fun o e=>y.keep _ o e hLI,hm'⟩
 · intro i v s5 hi hP5 J hIx
   obtain ⟨-,t,rfl⟩:=sign7 hP5
   obtain ⟨m5,hn5,hm5⟩:=J.ns
   refine exE2 J.row fun vs n hh=>anE3 hh fun hX hP hv=>?_;clear hh
   refine assign_S J.law.st.inv hL hn5 rfl rfl fun s6 y6 hn6=>?_
   have A6:=J.law.quiet g hn5 y6 fun a h=>.inl (mS h)
   have hX6:=hX.keep y6 (fun hm=>hLX (mS hm).symm)
   have hP6:=hP.keep2 y6 fun a ha=>by
    refine exE3 hn5 fun o es ep hh=>anE3 hh fun e hd _=>?_;clear hh;try clear hn5
    refine .inr ⟨o,by rw [mS ha];exact e,fun xs hc=>?_⟩
    rw [hc] at hd;cases hd
   have hmr:upd m5 "cell" (.str (letter i) t) "row"=some (.ref G.X):=(upd_ne _ _ (by decide)).trans ((hm5 _ (by decide)).trans hm)
   have hlen:vs.length≤7:=by
    rw [hP.len,List.length_map,List.length_take];omega
   refine wpAny_execs_cons (wpAny_Expr_any ?_)
   refine meth_call ?hb ?hf ?hl ?hr
   case hb=>exact base_name _ _ _ _ _
   case hf=>rfl
   case hl=>rfl
   refine law_loc hn6 rfl hmr (by decide) fun pl=>?_
   refine row_meth (f:=144) A6.st.inv hX6 A6.st.ad (by k_is) (by k_is) (by rfl) ?_
   refine meth_S (by k_is) rfl (spliced_cons (Constant_str (k:=0) (pos:=p0) (spliced_cons (law_loc hn6 rfl (upd_self _ _ _) (by decide) (spliced_nil ⟨A6.st.inv,?_⟩)))))
   refine push_spec (x:=G.X) (d:=G.d) (vs:=vs) (n:=n) (nd:=G.nd) (h1:=G.h1) (t1:=G.t1) (t2:=G.t2) (l.up (by decide)) ?hi ?hx ?hd ?hz ?hk
   case hi=>exact A6.st.inv
   case hx=>exact hX6
   case hd=>exact A6.st.ad
   case hz=>rw [sizeLine_eq];omega
   intro p s7 y7 hX7 hp7 fp
   have y67:Step w [G.X] s6 s7:=(((Step.refl A6.st.inv).toks _).wide fun a ha=>.inl ha).trans y7 fun a h=>.inl h
   have A7:=A6.pushed g hX6 hP6 y67 hX7 hp7
   have y57:Step w [G.L,G.X] s5 s7:=(y6.wide fun a ha=>.inl (by rw [mS ha];exact .head _)).trans y67 fun a ha=>.inl (.tail _ ha)
   have nXL:G.L∉[G.X]:=fun hm=>hLX (mS hm)
   have et:((List.range 7).take (i+1)).map (fun c=>((" ":Str),letter c))=((List.range 7).take i).map (fun c=>((" ":Str),letter c)) ++ [((" ":Str),letter i)]:=by
    rw [List.take_succ_eq_append_getElem (by simpa using hi),List.map_append];simp
   have P7:Pieces s7.heap (vs ++ [.ref p]) (((List.range 7).take i).map (fun c=>((" ":Str),letter c)) ++ [((" ":Str),letter i)]):=by
    refine (hP6.keep2 y67 fun c hc=>?_).snoc ⟨p,_,_,rfl,hp7⟩
    rw [mS hc]
    exact .inr ⟨_,hX6.1,fun xs e=>by have:=congrArg Obj.cls e;cases this⟩
   refine wpAny_execs_nil ⟨⟨?_,⟨_,_,hX7,?_,fun v hv'=>?_⟩,J.st.trans y57 fun a h=>.inl h,_,hn6.at' fun o e=>y67.keep _ o e nXL,fun x hx=>(upd_ne _ _ hx).trans (hm5 x hx)⟩,y57⟩
   · rw [et];exact A7
   · rw [et];exact P7
   · rcases List.mem_append.mp hv' with h | h
     · exact hv v h
     · rw [mS h]
       intro e
       obtain ⟨o,e5⟩:=hIx
       have fp6:s6.heap.get? p=none:=fp
       have:p=s4.heap.objs.size:=by cases e;rfl
       rw [this,y6.keep _ o e5 (fun hm=>hLI (List.mem_singleton.mpr (mS hm).symm))] at fp6
       cases fp6
 · intro sZ JZ
   obtain ⟨m',hn',hm'⟩:=JZ.ns
   have e:((List.range 7).take 7).map (fun c=>((" ":Str),letter c))=rowP fun _=>0:=rfl
   have A:=JZ.law
   rw [e] at A
   exact k sZ m' A hn' hm' JZ.st
theorem setup2 (l:Lvl A 600) {L NM WO nu nw bits choice:Nat} {us ws:List Value} {ns:List (List Nat)} {tc tb tch:Tok} {m:Str→Option Value} {v3 v4 v5 v6:Option Value} {Q:Flow→Shared→Prop} (I:Inv w s.heap) (hL:250≤L) (hn:s.heap.Ns L m) (hm:m "names"=some (.ref NM)) (hmw:m "worths"=some (.ref WO)) (hmc:m "choice"=some (.int choice tch))
 (hNM:At s.heap NM (listOf us.toArray nu)) (hWO:At s.heap WO (listOf ws.toArray nw)) (hus:StrsAre us (ns.map nstr)) (hws:IntsAre ws (toI (ns.map (worth bits)))) (hok:∀ x∈ns,NameOk x) (hsum:(ns.map fun x=>2 ^ (4 - x.length)).sum≤7) (hlen:ns.length≤7)
 (c1:s.heap.IsCell (L+1) (some (.str "abcdefg" tc))) (c2:s.heap.IsCell (L+1+1) (some (.int bits tb))) (c3:s.heap.IsCell (L+1+1+1) v3) (c4:s.heap.IsCell (L+1+1+1+1) v4) (c5:s.heap.IsCell (L+1+1+1+1+1) v5) (c6:s.heap.IsCell (L+1+1+1+1+1+1) v6) (hb4:4≤bits) (hb12:bits≤12)
 (k:∀ (G:Gh) (s':Shared) (m':Str→Option Value),GhOk G→G.L=L→G.ns=ns→G.bits=bits→s.heap.get? G.X=none→s.heap.get? G.O=none→LawAt w G (fun _=>0) (rowP fun _=>0) s'→s'.heap.Ns L m'→m' sUA=m sUA→m' "names"=some (.ref G.NM)→m' "worths"=some (.ref G.WO)→m' "row"=some (.ref G.X)→m' "choice"=some (.int choice tch) →
   Step w [L,L+1+1+1] s s'→wpAny (model prog w) A (execs (lawBody.drop 10) (lawEnv L)) Q E s') :
 wpAny (model prog w) A (execs (lawBody.drop 7) (lawEnv L)) Q E s:=by
 show wpAny _ _ (execs (_ :: _ :: _ :: lawBody.drop 10) _) _ _ _
 have h3:250≤L+1+1+1:=Nat.le_trans hL (Nat.le_add_right _ 3)
 refine wpAny_execs_cons (casg_S rfl rfl (cells_law L).2.2.1 h3 ?_)
 refine own_new l.handled I rfl (by decide) rfl (by decide) (by rfl) (by intro _;rfl) (fun Q' q=>law_cell rfl (cells_law L).1 c1 (by decide) q) fun O s1 y1 fO hO=>?_
 refine ⟨y1.inv,⟨_,cell_keep c3 y1 nM⟩,fun s2 y2 d3=>?_⟩
 have y12:Step w [L+1+1+1] s s2:=(y1.wide fun a ha=>absurd ha nM).trans y2 fun a ha=>.inl ha
 have cn:∀ {c:Nat} {v:Option Value} {a:Nat} {o:Obj},s1.heap.IsCell c v→s1.heap.get? a=some o→(∀ v,o.data≠.cell v)→a∉[c]:=fun ⟨o,e,d⟩ e2 hd hm=>by
  rw [mS hm,e] at e2
  rw [Option.some.inj e2] at d
  exact hd _ d
 have c31:=cell_keep c3 y1 nM
 have nO3:O∉[L+1+1+1]:=by
  obtain ⟨_,kvs,⟨ob,es,ep,e,-,hdd,-⟩,-⟩:=id hO
  exact cn c31 e fun v hv=>by rw [hdd] at hv;cases hv
 have nNM3:NM∉[L+1+1+1]:=cn c31 (y1.keep _ _ hNM.1 nM) fun v hv=>by cases hv
 have nWO3:WO∉[L+1+1+1]:=cn c31 (y1.keep _ _ hWO.1 nM) fun v hv=>by cases hv
 have hO2:=hO.keep y2 nO3
 have hNM2:=hNM.keep y12 nNM3
 have hWO2:=hWO.keep y12 nWO3
 have nc:∀ {j:Nat},j≠3→(L+j:Nat)∉[L+1+1+1]:=fun hj hm=>hj (by have:=mS hm;omega)
 have hn2:s2.heap.Ns L m:=hn.at' fun o e=>y12.keep _ o e (nc (j:=0) (by decide))
 have c12:=cell_keep c1 y12 (nc (j:=1) (by decide))
 have c22:=cell_keep c2 y12 (nc (j:=2) (by decide))
 have c42:=cell_keep c4 y12 (nc (j:=4) (by decide))
 have c52:=cell_keep c5 y12 (nc (j:=5) (by decide))
 have c62:=cell_keep c6 y12 (nc (j:=6) (by decide))
 refine wpAny_execs_cons (asg_S rfl hL rfl rfl ?_)
 refine wpAny_Call_NameR (name_global (v:=.ref 200) y2.inv rfl rfl rfl (by k_is) (by decide) ?_)
 refine cls_S rfl (by k_is) rfl rfl (evalArgs_plain (spliced_cons (wpAny_Constant_int (k:=0) (pos:=p0) (spliced_nil ⟨y2.inv,?_⟩))))
 refine acc_make (l.up (by decide)) ?hi ?hk
 case hi=>exact y2.inv
 intro X d h1 t1 n0 nd s3 y3 hX hd3 fX fd
 have y23:Step w [] s2 s3:=((Step.refl y2.inv).toks _).trans y3 fun a h=>.inl h
 refine ⟨y3.inv,m,hn2.at' fun o e=>y23.keep _ o e nM,fun s4 y4 hn4=>?_⟩
 have fX2:s2.heap.get? X=none:=fX
 have fd2:s2.heap.get? d=none:=fd
 have hX4:=hX.keep y4 (fun hm=>ex_ne (ns_ex hn2) fX2 (mS hm).symm)
 have hd4:=hd3.keep y4 (fun hm=>ex_ne (ns_ex hn2) fd2 (mS hm).symm)
 have y24:Step w [L] s2 s4:=(y23.wide fun a ha=>absurd ha nM).trans y4 fun a h=>.inl h
 have nl:∀ {j:Nat},j≠0→(L+j:Nat)∉[L]:=fun hj hm=>hj (by have:=mS hm;omega)
 have oO:∃ o,s2.heap.get? O=some o:=hO2.some
 have fOs:s.heap.get? O=none:=fO
 obtain ⟨_,kvs,⟨ob,es,ep,eO,-,hddO,-⟩,-⟩:=id hO2
 let G:Gh:=⟨L,X,d,O,NM,WO,us,ws,nu,nw,nd,bits,ns,tc,tb,t1,s2.toks,h1⟩
 have hG:GhOk G:=by
  refine ⟨hL,hus,hok,hsum,hws,hb4,hb12,hlen,?_,?_,(ex_ne oO fX2).symm⟩
  · simp only [mv,pr,List.forall_mem_cons,nM,false_implies,implies_true,and_true]
    refine anI6 ⟨?_,?_,?_,?_,?_,?_⟩ ⟨?_,?_,?_,?_,?_,?_⟩ ⟨?_,?_,?_,?_,?_,?_⟩ ⟨?_,?_,?_,?_,?_,?_⟩ ⟨?_,?_,?_,?_,?_,?_⟩ ⟨?_,?_,?_,?_,?_,?_⟩
    · exact Nat.ne_of_lt (by omega)
    · exact Nat.ne_of_lt (by omega)
    · exact Nat.ne_of_lt (by omega)
    · exact ex_ne (ns_ex hn2) fd2
    · exact ns_ne hn2 hNM2.1 fun _ _ h=>by cases h
    · exact ns_ne hn2 hWO2.1 fun _ _ h=>by cases h
    · exact Nat.ne_of_gt (by omega)
    · exact Nat.ne_of_gt (by omega)
    · exact Nat.ne_of_gt (by omega)
    · exact ex_ne (cell_ex c42) fd2
    · exact cell_ne c42 hNM2.1 fun _ h=>by cases h
    · exact cell_ne c42 hWO2.1 fun _ h=>by cases h
    · exact Nat.ne_of_gt (by omega)
    · exact Nat.ne_of_gt (by omega)
    · exact Nat.ne_of_gt (by omega)
    · exact ex_ne (cell_ex c52) fd2
    · exact cell_ne c52 hNM2.1 fun _ h=>by cases h
    · exact cell_ne c52 hWO2.1 fun _ h=>by cases h
    · exact Nat.ne_of_gt (by omega)
    · exact Nat.ne_of_gt (by omega)
    · exact Nat.ne_of_gt (by omega)
    · exact ex_ne (cell_ex c62) fd2
    · exact cell_ne c62 hNM2.1 fun _ h=>by cases h
    · exact cell_ne c62 hWO2.1 fun _ h=>by cases h
    · exact (ex_ne (cell_ex c12) fX2).symm
    · exact (ex_ne (cell_ex c22) fX2).symm
    · exact (ex_ne (cell_ex d3) fX2).symm
    · exact fun e=>acc_ne hX.1 hd3.1 e.symm
    · exact (ex_ne ⟨_,hNM2.1⟩ fX2).symm
    · exact (ex_ne ⟨_,hWO2.1⟩ fX2).symm
    · exact (ex_ne (cell_ex c1) fOs).symm
    · exact (ex_ne (cell_ex c2) fOs).symm
    · exact (ex_ne (cell_ex c3) fOs).symm
    · exact ex_ne oO fd2
    · exact (ex_ne ⟨_,hNM.1⟩ fOs).symm
    · exact (ex_ne ⟨_,hWO.1⟩ fOs).symm
  · simp only [List.forall_mem_cons,nM,false_implies,implies_true,and_true]
    exact anI4 ⟨ex_ne (ns_ex hn2) fX2,ex_ne (ns_ex hn) fOs⟩ ⟨ex_ne (cell_ex c42) fX2,ex_ne (cell_ex c4) fOs⟩ ⟨ex_ne (cell_ex c52) fX2,ex_ne (cell_ex c5) fOs⟩ ⟨ex_ne (cell_ex c62) fX2,ex_ne (cell_ex c6) fOs⟩
 have nlm:∀ {a:Nat},@Ne Nat L a→a∉[L]:=fun h hm=>h (mS hm).symm
 have A4:LawAt w G (fun _=>0) (((List.range 7).take 0).map fun c=>(" ",letter c)) s4:=by
  refine ⟨⟨y4.inv,cell_keep c12 y24 (nl (j:=1) (by decide)),cell_keep c22 y24 (nl (j:=2) (by decide)),cell_keep d3 y24 (nl (j:=3) (by decide)),hNM2.keep y24 (nlm (ns_ne hn2 hNM2.1 fun _ _ h=>by cases h)),hWO2.keep y24 (nlm (ns_ne hn2 hWO2.1 fun _ _ h=>by cases h)),hd4⟩,⟨[],n0,hX4,.nil⟩,hO2.keep y24 (nlm (ex_ne (ns_ex hn) fOs)),⟨_,cell_keep c42 y24 (nl (j:=4) (by decide))⟩,⟨_,cell_keep c52 y24 (nl (j:=5) (by decide))⟩,⟨_,cell_keep c62 y24 (nl (j:=6) (by decide))⟩⟩
 show wpAny (model prog w) A (execs (lawBody.drop 9) (lawEnv G.L)) Q E s4
 refine push_blk (m:=upd m "row" (.ref X)) l hG A4 hn4 (upd_self _ _ _) fun s5 m5 A5 hn5 hm5 y5=>?_
 have yLc:∀ a∈[L],a∈[L,L+1+1+1]∨s.heap.get? a=none:=fun a ha=>.inl (by rw [mS ha];exact .head _)
 have e1:=(hm5 "names" (by decide)).trans ((upd_ne _ _ (by decide)).trans hm)
 have e2:=(hm5 "worths" (by decide)).trans ((upd_ne _ _ (by decide)).trans hmw)
 have e3:=(hm5 "row" (by decide)).trans (upd_self _ _ _)
 have e4:=(hm5 "choice" (by decide)).trans ((upd_ne _ _ (by decide)).trans hmc)
 have fXs:s.heap.get? X=none:=y12.was fX2 fun hm=>ex_ne (cell_ex d3) fX2 (mS hm).symm
 have yAll:Step w [L,L+1+1+1] s s5:=by
  refine (((y12.wide fun a ha=>.inl (.tail _ ha)).trans y24 yLc).trans y5 fun a ha=>?_)
  rcases mC ha with rfl | ha
  · exact .inl (.head _)
  · rw [mS ha];exact .inr fXs
 exact k G s5 m5 hG rfl rfl rfl fXs fOs A5 hn5 ((hm5 _ (by decide)).trans (upd_ne _ _ (by decide))) e1 e2 e3 e4 yAll
end
end
section
section
variable {w:World} {A:Around} {E:VP} {s:Shared}
theorem own_elt {env:Env} {pe po ps p1 p2 p3:Pos} {kc:Nat} {scope:Scope} {cl:List (Str×Addr)} {x:List Nat} {O:Addr} {own:Nat→Nat} {k:Nat} {tag:Str} (I:Inv w s.heap) (hkind:scope.kind=.function) (hx:scope.names.lookup ("cell":Str)=some .local)
 (hO:OwnAt w s.heap O own) (ho:OwnName w env scope cl "owners" (.ref O) s) (htag:tag=tagOf k) (hk2:k≤2) (hown:∀ i,own i≤2) (hx7:∀ c∈x,c < 7) (tk:Nat) :
 CompElt w A env scope cl "cell" [.Compare (.Subscript (.Name "owners" po) (.Name "cell" ps) p1) [.Eq] [.Constant (.str tag) kc p2] p3] (.Name "cell" pe) [] x.length (SignAt (nstr x)) (fun i=>own (x.getD i 0) == k) (fun i y=>∃ t,y=.str (letter (x.getD i 0)) t) { s with toks:=tk }:=by
 have hgd:∀ i,i < x.length→x.getD i 0 < 7:=fun i hi=>by
  rw [List.getD_eq_getElem?_getD,List.getElem?_eq_getElem hi]
  exact hx7 _ (List.getElem_mem hi)
 refine ⟨?_,?_⟩
 · intro C i v s3 m hi hP S3 fC hC hn hm
   obtain ⟨-,u,rfl⟩:=sign_at hP
   have S3':Step w [] s s3:=((Step.refl I).toks tk).trans S3 fun a ha=>.inl ha
   refine wpAny_tests_one (wpAny_isTrue_Compare1 ?_)
   have hO3:=hO.keep S3' nM
   have nm:∀ (s4:Shared) (p:Pos) (Q' E':VP),s4.heap=s3.heap→Q' (.str (letter (x.getD i 0)) u) s4→wpAny (model prog w) A (eval (.Name "cell" p) (compEnvC scope cl C env)) Q' E' s4:=fun s4 p Q' E' e q =>
    wpAny_Name (wpAny_loadName_local (env:=compEnvC scope cl C env) (by simp [compEnvC,relabel,hkind]) (lookup_relabel_local hx) (e▸hn) hm q) (by decide)
   refine wpAny_Subscript_Name slot_dict_getitem.lookup (ho _ _ _ _ _ _ S3' (nm _ _ _ _ rfl ?_))
   obtain ⟨h1,kvs,hd,hl,hv⟩:=hO3
   obtain ⟨tv,hv⟩:=hv _ (hgd i hi)
   refine ⟨hd.mapOf.typeIs,wpAny_getItem_of (strKind_is prog w _ u) hd.mapOf hv ?_⟩
   refine Constant_str (P.eq_str ?_)
   rw [htag,tag_eq (hown _) hk2]
   refine wpAny_truthy_bool ⟨rfl,⟨fun b o e _=>e,rfl,id,S3'.inv⟩,m,hn,hm⟩
 · intro C i v s3 m hi hP hp S3 fC hC hn hm
   obtain ⟨-,u,rfl⟩:=sign_at hP
   exact wpAny_Name (wpAny_loadName_local (env:=compEnvC scope cl C env) (by simp [compEnvC,relabel,hkind]) (lookup_relabel_local hx) hn hm ⟨⟨_,rfl⟩,(Step.refl S3.inv).wide fun _ h=>nN h,m,hn⟩) (by decide)
theorem own_made {x:List Nat} {own:Nat→Nat} {k:Nat} {ys:List Value} (M:Made (fun i=>own (x.getD i 0) == k) (fun i y=>∃ t,y=.str (letter (x.getD i 0)) t) x.length ys):StrsAre ys ((x.filter fun c=>own c == k).map letter):=by
 have:=M.strs (g:=fun i=>letter (x.getD i 0)) (fun i y h=>h)
 have e:((List.range x.length).filter fun i=>own (x.getD i 0) == k).map (fun i=>letter (x.getD i 0))=(x.filter fun c=>own c == k).map letter:=by
  rw [← range_filter x (fun c=>own c == k),List.map_map];rfl
 rw [e] at this
 exact this
theorem cells_nstr:("abcdefg":Str)=nstr (List.range 7):=by decide
noncomputable def tagL (own:Nat→Nat) (k:Nat):List Nat:=(List.range 7).filter fun c=>own c == k
theorem own_stmt (l:Lvl A 600) {G:Gh} {own:Nat→Nat} {psr:List (Str×Str)} {m:Str→Option Value} {y:Str} {py spos px pe po ps p1 p2 p3 pi pos:Pos} {kc k:Nat} {tag:Str} {scope:Scope} {Q:Flow→Shared→Prop} (g:GhOk G) (A0:LawAt w G own psr s) (hn:s.heap.Ns G.L m) (hown:∀ i,own i≤2)
 (hsw:swapsWith (.ListComp (.Name "cell" pe) [⟨.Name "cell" px,.Name "cells" pi,[.Compare (.Subscript (.Name "owners" po) (.Name "cell" ps) p1) [.Eq] [.Constant (.str tag) kc p2] p3],0⟩] scope pos) (some (.Name y py)) spos.line (lawEnv G.L)=pure true)
 (hclos:closureFor scope (lawEnv G.L)=pure [(Str.ofString "owners",G.L+1+1+1)]) (hcell:∀ y∈scope.names,y.2≠.cell) (hkind:scope.kind=.function) (hnames:∀ y∈scope.names,y.2=.local→scope.names.lookup y.1=some .local) (hx:scope.names.lookup ("cell":Str)=some .local)
 (hrel:(relabel scope (lawEnv G.L)).names.lookup ("owners":Str)=some .cell) (hy:lawScope.names.lookup y=some .local) (htag:tag=tagOf k) (hk2:k≤2)
 (kk:∀ D n ys s',Step w [G.L] s s'→LawAt w G own psr s'→s'.heap.Ns G.L (upd m y (.ref D))→s.heap.get? D=none→At s'.heap D (listOf ys.toArray n)→StrsAre ys ((tagL own k).map letter)→Q .next s') :
 wpAny (model prog w) A (exec (.Assign [.Name y py] (.ListComp (.Name "cell" pe) [⟨.Name "cell" px,.Name "cells" pi,[.Compare (.Subscript (.Name "owners" po) (.Name "cell" ps) p1) [.Eq] [.Constant (.str tag) kc p2] p3],0⟩] scope pos) spos) (lawEnv G.L)) Q E s:=by
 have I:=A0.st.inv
 refine comp_A (T:=[]) l.handled hsw hclos hcell hkind hnames hx (fun _ h=>nN h) hy rfl ?_
 refine law_cell rfl (cells_law G.L).1 A0.st.cc (by decide) ?_
 refine exI5 ((List.range 7).length) (SignAt (nstr (List.range 7))) (fun i=>own ((List.range 7).getD i 0) == k) (fun i y=>∃ t,y=.str (letter ((List.range 7).getD i 0)) t) m (anI7 I g.hL hn (by rw [sizeLine_eq];exact Nat.le_of_ble_eq_true rfl) ?_ (fun tk=>?_) (fun D n ys s' y fD hD M hn'=>?_))
 · rw [← nstr_size,← cells_nstr];exact src_str
 · exact own_elt I hkind hx A0.own (ownName_of (by decide) hkind hrel rfl A0.st.co) htag hk2 hown (fun c hc=>List.mem_range.mp hc) tk
 · exact kk D n ys s' y (A0.quiet g hn y fun a h=>.inl (mS h)) hn' fD hD (own_made M)
end
end
section
section
variable {w:World} {A:Around} {E:VP} {s:Shared}
theorem tag_len (k:Nat):(tagOf k).length=2:=by
 match k with
 | 0=>decide
 | 1=>decide
 | n+2=>show ("+ ":Str).length=2;decide
theorem addTag {k i:Nat} {t u:Tok} {Q:VP} (h:∀ t j,Q (.str (tagOf k ++ letter i) t) { s with toks:=j }):wpAny (model prog w) A (binaryOp .Add (.str (tagOf k) t) (.str (letter i) u)) Q E s:=by
 refine P.add_str ?_
 have e1:((tagOf k).length == 0)=false:=by rw [tag_len];rfl
 have e2:((letter i).length == 0)=false:=rfl
 rw [e1,e2]
 simp only [Bool.false_eq_true,if_false]
 refine ⟨?_,h _ _⟩
 have e3:(tagOf k ++ letter i).length=3:=by
  have:(tagOf k ++ letter i).length=(tagOf k).length+(letter i).length:=Str.length_append _ _
  rw [this,tag_len];rfl
 rw [e3,sizeLine_eq]
 exact Nat.le_of_ble_eq_true rfl
noncomputable def boardT (own:Nat→Nat):List Str:=(List.range 7).map fun c=>tagOf (own c) ++ letter c
theorem board_comp (l:Lvl A 600) {G:Gh} {own:Nat→Nat} {psr:List (Str×Str)} {po ps p1 p2 p3 pi px pos:Pos} {scope:Scope} {Q:VP} (g:GhOk G) (A0:LawAt w G own psr s)
 (hclos:closureFor scope (lawEnv G.L)=pure [(Str.ofString "owners",G.L+1+1+1)]) (hcell:∀ y∈scope.names,y.2≠.cell) (hkind:scope.kind=.function) (hnames:∀ y∈scope.names,y.2=.local→scope.names.lookup y.1=some .local) (hx:scope.names.lookup ("cell":Str)=some .local)
 (hrel:(relabel scope (lawEnv G.L)).names.lookup ("owners":Str)=some .cell)
 (kk:∀ D n ys s',Step w [] s s'→s.heap.get? D=none→At s'.heap D (listOf ys.toArray n)→StrsAre ys (boardT own)→Q (.ref D) s') :
 wpAny (model prog w) A (eval (.ListComp (.BinOp (.Subscript (.Name "owners" po) (.Name "cell" ps) p1) .Add (.Name "cell" p2) p3) [⟨.Name "cell" px,.Name "cells" pi,[],0⟩] scope pos) (lawEnv G.L)) Q E s:=by
 have I:=A0.st.inv
 have ho:=ownName_of (w:=w) (s:=s) (V:=.ref G.O) (env:=lawEnv G.L) (scope:=scope) (cl:=[(Str.ofString "owners",G.L+1+1+1)]) (x:="owners") (by decide) hkind hrel rfl A0.st.co
 refine comp_S (T:=[]) l.handled hclos hcell hkind hnames hx (fun _ h=>nN h) ?_
 refine law_cell rfl (cells_law G.L).1 A0.st.cc (by decide) ?_
 have hgd:∀ i,i < 7→(List.range 7).getD i 0=i:=fun i hi=>by
  rw [List.getD_eq_getElem?_getD,List.getElem?_range hi];rfl
 refine exI4 ((List.range 7).length) (SignAt (nstr (List.range 7))) (fun _=>true) (fun i y=>∃ t,y=.str (tagOf (own i) ++ letter i) t) (anI5 I (by rw [sizeLine_eq];exact Nat.le_of_ble_eq_true rfl) ?_ (fun tk=>⟨?_,?_⟩) (fun D n ys s' y fD hD M=>kk D n ys s' y fD hD ?_))
 · rw [← nstr_size,← cells_nstr];exact src_str
 · intro C i v s3 m hi hP S3 fC hC hn hm
   exact wpAny_tests_nil ⟨rfl,(Step.refl S3.inv).wide fun _ h=>nN h,m,hn,hm⟩
 · intro C i v s3 m hi hP hp S3 fC hC hn hm
   obtain ⟨-,u,rfl⟩:=sign_at hP
   rw [List.length_range] at hi
   rw [hgd i hi] at hm
   have S3':Step w [] s s3:=((Step.refl I).toks tk).trans S3 fun a ha=>.inl ha
   have nm:∀ (s4:Shared) (p:Pos) (Q' E':VP),s4.heap=s3.heap→Q' (.str (letter i) u) s4→wpAny (model prog w) A (eval (.Name "cell" p) (compEnvC scope [(Str.ofString "owners",G.L+1+1+1)] C (lawEnv G.L))) Q' E' s4:=fun s4 p Q' E' e q =>
    wpAny_Name (wpAny_loadName_local (env:=compEnvC scope [(Str.ofString "owners",G.L+1+1+1)] C (lawEnv G.L)) (by simp [compEnvC,relabel,hkind]) (lookup_relabel_local hx) (e▸hn) hm q) (by decide)
   rw [arm_eval_BinOp]
   refine wpAny_bind (wpAny_Subscript_Name slot_dict_getitem.lookup (ho _ _ _ _ _ _ S3' (nm _ _ _ _ rfl ?_)))
   obtain ⟨h1,kvs,hd,hl,hv⟩:=A0.own.keep S3' nM
   obtain ⟨tv,hv⟩:=hv i hi
   refine ⟨hd.mapOf.typeIs,wpAny_getItem_of (strKind_is prog w _ u) hd.mapOf hv ?_⟩
   refine wpAny_bind (wpAny_holding (nm _ _ _ _ rfl (wpAny_bind (wpAny_standAt (wpAny_operating (addTag fun t6 j6=>?_))))))
   exact ⟨⟨_,rfl⟩,((Step.refl S3.inv).toks j6).wide fun _ h=>nN h,m,hn⟩
 · have:=M.strs (g:=fun i=>tagOf (own i) ++ letter i) (fun i y h=>h)
   rw [List.filter_eq_self.mpr fun _ _=>rfl] at this
   exact this
theorem at_keepL {s s':Shared} {L a:Nat} {T:List Addr} {m:Str→Option Value} {o:Obj} (hn:s.heap.Ns L m) (x:At s.heap a o) (y:Step w T s s') (hT:∀ b∈T,b=L∨b∈TB) (hd:∀ es ep,o.data≠.dict es ep):At s'.heap a o:=x.keep y fun hm=>by
 rcases hT a hm with h | h
 · exact ns_ne hn x.1 hd h.symm
 · exact absurd x.2 (Nat.not_le.mpr (tb250 a h))
theorem list_nd {xs:Array Value} {n:Nat}:∀ es ep,(listOf xs n).data≠.dict es ep:=fun _ _ h=>by cases h
theorem oneL {L:Nat}:∀ b∈[L],b=L∨b∈TB:=fun b hb=>.inl (mS hb)
theorem noneL {L:Nat}:∀ b∈([]:List Addr),b=L∨b∈TB:=fun b hb=>absurd hb nM
theorem turn_a (l:Lvl A 600) {G:Gh} {own:Nat→Nat} {psr:List (Str×Str)} {m:Str→Option Value} {Q:Flow→Shared→Prop} (g:GhOk G) (A0:LawAt w G own psr s) (hn:s.heap.Ns G.L m) (hown:∀ i,own i≤2)
 (k:∀ (s':Shared) (BD ON TH LE:Nat) (vb vo vt vl:List Value) (nb no nt nl:Nat),Step w [G.L] s s'→LawAt w G own psr s'→s'.heap.Ns G.L (upd (upd (upd (upd m "board" (.ref BD)) "ones" (.ref ON)) "theirs" (.ref TH)) "left" (.ref LE)) →
   At s'.heap BD (listOf vb.toArray nb)→At s'.heap ON (listOf vo.toArray no)→At s'.heap TH (listOf vt.toArray nt)→At s'.heap LE (listOf vl.toArray nl)→StrsAre vb (boardT own ++ [("? ^":Str)])→StrsAre vo ((tagL own 1).map letter)→StrsAre vt ((tagL own 2).map letter)→StrsAre vl ((tagL own 0).map letter) →
   wpAny (model prog w) A (execs (turnBody.drop 4) (lawEnv G.L)) Q E s') :
 wpAny (model prog w) A (execs turnBody (lawEnv G.L)) Q E s:=by
 show wpAny _ _ (execs (_ :: _ :: _ :: _ :: turnBody.drop 4) _) _ _ _
 have hL:=g.hL
 refine wpAny_execs_cons (asg_S rfl hL rfl rfl ?_)
 rw [arm_eval_BinOp]
 refine wpAny_bind (board_comp l g A0 ?b1 ?b2 ?b3 ?b4 ?b5 ?b6 fun D n ys s1 y1 fD hD hys=>?_)
 case b1=>rfl
 case b2=>decide
 case b3=>rfl
 case b4=>decide
 case b5=>rfl
 case b6=>rfl
 refine wpAny_bind (wpAny_holding (list_S (spliced_cons (Constant_str (k:=0) (pos:=p0) (spliced_nil ⟨Nat.le_of_ble_eq_true rfl,y1.inv,fun D2 s2 y2 fD2 hD2=>?_⟩)))))
 have y12:Step w [] s1 s2:=((Step.refl y1.inv).toks _).trans y2 fun a h=>.inl h
 have y02:Step w [] s s2:=y1.trans y12 fun a h=>.inl h
 have hn2:=hn.at' fun o e=>y02.keep _ o e nM
 have hyl:ys.length=7:=by
  rw [StrsAre.len_eq hys];simp [boardT]
 refine wpAny_bind (wpAny_standAt (wpAny_operating (add_S y2.inv hL hn2 (y12.keep _ _ hD.1 nM) hD2.1 (by rw [hyl];exact Nat.le_of_ble_eq_true rfl) fun BD s3 y3 hn3 fBD hBD=>?_)))
 have A3:=(A0.quiet g hn y02 noneL).quiet g hn2 y3 oneL
 refine ⟨y3.inv,m,hn3,fun s4 y4 hn4=>?_⟩
 have A4:=A3.quiet g hn3 y4 oneL
 have hBD4:=at_keepL hn3 hBD y4 oneL list_nd
 have y04:Step w [G.L] s s4:=((y02.wide fun a h=>nN h).trans y3 fun a h=>.inl h).trans y4 fun a h=>.inl h
 have hbs:StrsAre (ys ++ [.str "? ^" s1.toks]) (boardT own ++ [("? ^":Str)]):=strsApp hys (.cons _ _ .nil)
 refine wpAny_execs_cons (own_stmt (k:=1) l g A4 hn4 hown ?a1 ?a2 ?a3 ?a4 ?a5 ?a6 ?a7 ?a8 rfl (by decide) fun ON no vo s5 y5 A5 hn5 fON hON hvo=>?_)
 case a1=>rfl
 case a2=>rfl
 case a3=>decide
 case a4=>rfl
 case a5=>decide
 case a6=>rfl
 case a7=>rfl
 case a8=>rfl
 refine wpAny_execs_cons (own_stmt (k:=2) l g A5 hn5 hown ?a1 ?a2 ?a3 ?a4 ?a5 ?a6 ?a7 ?a8 rfl (by decide) fun TH nt vt s6 y6 A6 hn6 fTH hTH hvt=>?_)
 case a1=>rfl
 case a2=>rfl
 case a3=>decide
 case a4=>rfl
 case a5=>decide
 case a6=>rfl
 case a7=>rfl
 case a8=>rfl
 refine wpAny_execs_cons (own_stmt (k:=0) l g A6 hn6 hown ?a1 ?a2 ?a3 ?a4 ?a5 ?a6 ?a7 ?a8 rfl (by decide) fun LE nl vl s7 y7 A7 hn7 fLE hLE hvl=>?_)
 case a1=>rfl
 case a2=>rfl
 case a3=>decide
 case a4=>rfl
 case a5=>decide
 case a6=>rfl
 case a7=>rfl
 case a8=>rfl
 exact k s7 BD ON TH LE _ vo vt vl _ no nt nl (((y04.trans y5 fun a h=>.inl h).trans y6 fun a h=>.inl h).trans y7 fun a h=>.inl h) A7 hn7 (at_keepL hn6 (at_keepL hn5 (at_keepL hn4 hBD4 y5 oneL list_nd) y6 oneL list_nd) y7 oneL list_nd) (at_keepL hn6 (at_keepL hn5 hON y6 oneL list_nd) y7 oneL list_nd) (at_keepL hn6 hTH y7 oneL list_nd) hLE hbs hvo hvt hvl
end
end
section
theorem gen_new {w:World} {A:Around} {s:Shared} {Q E:VP} {name qual:Str} {params:Arguments} {body:List Stmt} {scope:Scope} {dV kV doc pm cdv ct oc:Value} {an od:Option Addr} {osl:Array (Option Value)} {f:Addr}
 {args:Args} {binds:List (Str×Value)} (I:Inv w s.heap)
 (ho:(frag.heap_1 w.params).lookup f=some ⟨oc,od,.func (fnOf name qual params body scope dV kV doc pm an cdv ct),osl⟩) (hcd:codeIn (frag.heap_1 w.params) cdv qual=true) (hroom:A.depth < recursionLimit)
 (hbind:BindsTo s (fnOf name qual params body scope dV kV doc pm an cdv ct) args binds) (hloc:∀ y∈binds,scope.names.lookup y.1=some .local)
 (k:∀ a C g s',Step w [] s s'→s.heap.get? C=none→(∀ b o,s.heap.get? b=some o→@LT.lt Nat _ b C)→s.heap.get? a=none→C < a→s'.heap.objs.size=a+1→s'.heap.IsGen a g→s'.gens[g]? = some (.fresh (.func body (envOf qual scope C f cdv)))→s'.heap.Ns C (fun y=>binds.reverse.lookup y)→Q (.ref a) s')
 (hcell:∀ x∈scope.names,x.2≠.cell) (hco:scope.isCoroutine=false:=by rfl) (hgen:scope.isGenerator=true:=by rfl) (hk:scope.kind=.function:=by rfl) :
 wpAny (model prog w) A (call (.ref f) args.pos args.kw) Q E s:=by
 refine wpAny_call ?_
 refine exE4 I.T fun loose mean mg mb T=>?_
 refine codeAny_call_generator hroom (I.K _ _ ho) rfl hco hgen rfl (codeRec_of I.K hcd) (hbind _ _ _ _ ?_)
 refine wpAny_newFunctionEnv hcell hloc (fun h' hn hs=>?_) hk
 have kp:∀ b o,s.heap.get? b=some o→h'.get? b=some o:=fun b o e=>hs.extBut b o (Nat.ne_of_lt (Heap.lt_size e)) (Heap.get?_push_of_some _ e)
 have hsz:h'.objs.size=s.heap.objs.size+1:=by rw [hs.1,Heap.size_push]
 have f1:s.heap.get? s.heap.objs.size=none:=Heap.get?_none_of_le (Nat.le_refl _)
 have f2:s.heap.get? h'.objs.size=none:=Heap.get?_none_of_le (by rw [hsz];exact Nat.le_succ _)
 refine ⟨T.nolimit.keeps kp,?_⟩
 refine k h'.objs.size s.heap.objs.size s.gens.size _ ⟨fun b o e _=>Heap.get?_push_of_some _ (kp b o e),rfl,fun G=>G.push rfl,I.keepAll fun b o e=>Heap.get?_push_of_some _ (kp b o e)⟩ f1 (fun b o e=>Heap.lt_size e) f2 (by rw [hsz];exact Nat.lt_succ_self _) (by rw [Heap.size_push])
  ⟨_,_,_,Heap.get?_push_size _ rfl,rfl,rfl,rfl⟩ (Array.getElem?_push_size ..) (hn.push _)
theorem gen_loop {w:World} {A:Around} {R:Result→Shared→Prop} {a C S l N g:Nat} {pz:Nat→Bool} {n₀:Nat} {F:Nat→Value→Prop} (hh:A.handled=none) (hroom:A.in1.depth < recursionLimit)
 (haN:a < N) (haC:a≠C) (haS:a≠S) (hSN:S < N) (hSC:S≠C) (hSl:S≠l) (hcN:cStatics < N) (hcC:cStatics≠C) (hcS:cStatics≠S) (hn:(passing pz n₀ 0).length≤sizeLine) :
 ∀ (k j:Nat) (s:Shared) (acc:Array Value) (c:Nat) (gs:GenState),(passing pz n₀ 0).length - j=k→j≤(passing pz n₀ 0).length→s.heap.IsGen a g→s.heap.NoLimit→s.gens[g]? = some gs →
   gs.Goes (model prog w) A.in1.in1 (rEnd N C) (rProto N C l pz n₀ F) k (.send .none) (s.setGen g .running) →
   s.heap.get? S=some { cls:=.type "list",dict:=none,data:=.seq acc c,slots:=#[] }→ItemsOf (fun j v=>∃ i,(passing pz n₀ 0)[j]? = some i∧F i v) acc j →
   (∀ s' acc' c',(∀ b o,b < N→b≠C→b≠S→s.heap.get? b=some o→s'.heap.get? b=some o)→s'.os=s.os→GenOnly g s.gens s'.gens→s'.gens[g]? = some .finished→s'.heap.get? S=some { cls:=.type "list",dict:=none,data:=.seq acc' c',slots:=#[] } →
     ItemsOf (fun j v=>∃ i,(passing pz n₀ 0)[j]? = some i∧F i v) acc' (passing pz n₀ 0).length→R (.ok (.ret .none)) s') →
   codeAny (model prog w) A (.builtin "list.extend.loop" ⟨[.ref S,.ref a,.none],[]⟩) R s:=by
 intro k
 induction k with
 | zero =>
   intro j s acc c gs hk hj hg hl hgs hgo hS hacc hR
   have hjn:j=(passing pz n₀ 0).length:=by omega
   subst hjn
   refine codeAny_builtin PySem.F.entry_extend_loop ?_
   rw [Around.under_plainId PySem.F.plain_extend_loop _]
   show wpAny _ A.in1 (pyNext (.ref a) >>= _) _ _ s
   refine wpAny_bind ?_
   refine wpAny_pyNext_gen (P:=fun n s₀ s₁=>n=0∧SinceN N C s₀ s₁) (by exact hh) hl hroom hg hgs hgo (fun v s₁ gs' hv=>?_) (fun s₁ hp h' hk=>?_)
   · obtain ⟨_,_,hkap⟩:=hv
     exact False.elim (hkap s₁ fun _ _ _ e=>e)
   · obtain ⟨_,h₁,tk₁,rfl,hk₁⟩:=hp
     refine wpAny_pure (hR _ acc c (fun b o hb hC hS' e=>hk b o (hk₁ b o hb hC e)) rfl ((GenOnly.setGen s g .running).trans (GenOnly.setGen _ g .finished)) (setGen_self (gs:=.running) (setGen_self hgs)) (hk _ _ (hk₁ _ _ hSN hSC hS)) hacc)
 | succ k ih =>
   intro j s acc c gs hk hj hg hl hgs hgo hS hacc hR
   refine codeAny_builtin PySem.F.entry_extend_loop ?_
   rw [Around.under_plainId PySem.F.plain_extend_loop _]
   show wpAny _ A.in1 (pyNext (.ref a) >>= _) _ _ s
   refine wpAny_bind ?_
   refine wpAny_pyNext_gen (P:=fun n s₀ s₁=>n=0∧SinceN N C s₀ s₁) (by exact hh) hl hroom hg hgs hgo (fun v s₁ gs' hv=>?_) (fun s₁ hp h' hk=>?_)
   · obtain ⟨⟨i,hi,hF⟩,⟨h₁,tk₁,rfl,hk₁⟩,hkap⟩:=hv
     have hidx:(passing pz n₀ 0).length - 1 - (k+1 - 1)=j:=by omega
     rw [hidx] at hi
     have hS':=hk₁ _ _ hSN hSC hS
     show wpAny _ A.in1 (updateSeq S (·.push v) >>= _) _ _ _
     refine wpAny_bind ?_
     have oth:∀ b o,b≠S→h₁.get? b=some o→(h₁.update S (Obj.mapSeq (·.push v))).get? b=some o:=fun b o hb e=>(Heap.get?_update_other _ _ (Ne.symm hb)).trans e
     refine wpAny_updateSeq hS' rfl (wpAny_pure ⟨plainId_quiet PySem.F.plain_extend_loop _,ih (j+1) _ (acc.push v) _ gs' (by omega) (by omega) ?_ ?_ (setGen_self (gs:=.running) (setGen_self hgs)) ?_ (Heap.get?_update_self _ hS' rfl) (hacc.push ⟨i,hi,hF⟩) fun s'' acc' c' hm h1 h2 h3 h4 h5=>?_⟩)
      (by rw [hacc.1];omega) (by show (acc.push v).size≤sizeLine+1;rw [Array.size_push,hacc.1];omega)
     · exact let ⟨o,nm,qn,ho,r⟩:=hg;⟨o,nm,qn,oth a o haS (hk₁ a o haN haC ho),r⟩
     · exact hl.at fun o e=>oth _ o hcS (hk₁ _ o hcN hcC e)
     · refine hkap _ fun b o hb e=>oth b o ?_ e
       rcases hb with rfl | hb | rfl
       · exact Ne.symm hSC
       · exact fun e=>absurd hSN (Nat.not_lt.mpr (e▸hb))
       · exact Ne.symm hSl
     · refine hR s'' acc' c' (fun b o hb hC hS2 e=>hm b o hb hC hS2 (oth b o hS2 (hk₁ b o hb hC e))) h1 (((GenOnly.setGen s g .running).trans (GenOnly.setGen _ g gs')).trans h2) h3 h4 h5
   · exact absurd hp.1 (Nat.succ_ne_zero k)
theorem allBare_fin {g:Nat} {a b:Array GenState} (x:GenOnly g a b) (y:b[g]? = some .finished) (G:AllBare a):AllBare b:=by
 intro z hz
 obtain ⟨i,hi,rfl⟩:=Array.mem_iff_getElem.mp hz
 by_cases e:i=g
 · subst e
   rw [Array.getElem?_eq_getElem hi] at y
   rw [Option.some.inj y];rfl
 · have h:=x.2 i e
   rw [Array.getElem?_eq_getElem hi] at h
   exact G _ (Array.mem_of_getElem? h.symm)
end
section
open PyProof.V
noncomputable abbrev dD:List (PyData×PyData):=[(.int 1,.str "- "),(.int 2,.str "+ ")]
theorem dD1 {p2 p3 p4 p5:Pos}:litPairs [some (.Constant (.int 1) 0 p2),some (.Constant (.int 2) 0 p3)] [.Constant (.str "- ") 0 p4,.Constant (.str "+ ") 0 p5]=some dD:=by kernel_rfl
theorem dD2:intKeyed dD=true:=by kernel_rfl
theorem dD3:(intKeysOf dD).Nodup:=by decide
theorem dict_d {w:World} {A:Around} {s:Shared} {Q:VP} {E:VP} {env:Env} {p2 p3 p4 p5 p6:Pos} (h:∀ a o h₁ tk,s.heap.objs.size≤a→h₁.get? a=some o→TabObj (intKind prog w) PyData.int dD o→(∀ b o',s.heap.get? b=some o'→h₁.get? b=some o')→Q (.ref a) { s with heap:=h₁,toks:=tk }) :
 wpAny (model prog w) A (eval (.Dict [some (.Constant (.int 1) 0 p2),some (.Constant (.int 2) 0 p3)] [.Constant (.str "- ") 0 p4,.Constant (.str "+ ") 0 p5] p6) env) Q E s:=by
 have e1:([some (.Constant (.int 1) 0 p2),some (.Constant (.int 2) 0 p3)]:List (Option PySem.Expr)).all (·.isSome)=true:=rfl
 have e2:([some (.Constant (.int 1) 0 p2),some (.Constant (.int 2) 0 p3)]:List (Option PySem.Expr)).length≤15:=Nat.le_of_ble_eq_true rfl
 have e3:([some (.Constant (.int 1) 0 p2),some (.Constant (.int 2) 0 p3)]:List (Option PySem.Expr)).length=([.Constant (.str "- ") 0 p4,.Constant (.str "+ ") 0 p5]:List PySem.Expr).length:=rfl
 with_reducible exact Dict_lits_int dD1 dD2 dD3 e1 e3 (List.cons_ne_nil _ _) e2 h
theorem tab_d {w:World} {g h:Heap} {C d:Addr} {s:Shared} {od:Obj} {led R:List (Addr×Obj)} {m:Str→Option Value} (B:Snap w g C s led R) (lod:s.heap.objs.size≤d) (hn:s.heap.Ns C m) (hod:h.get? d=some od) (htd:TabObj (intKind prog w) PyData.int dD od):IntTab prog w h d dD:=by
 obtain ⟨kvs,q1,q2⟩:=htd
 refine ⟨?_,kvs,Heap.dictOf_iff.mpr ⟨od,hod,q1⟩,q2⟩
 show (d == sysModules)=false
 have h1:@LE.le Nat _ 250 d:=Nat.le_trans (Nat.le_trans B.hi (Nat.le_of_lt hn.lt)) lod
 have h2:sysModules < 250:=by decide
 exact beq_false_of_ne (fun e=>absurd h1 (Nat.not_le.mpr (e▸h2)))
theorem sub_d {w:World} {A:Around} {s:Shared} {Q:VP} {E:VP} {d:Addr} {i:Int} {t:Tok} {tag:Str} {value:PySem.Expr} {ex:PySem.Expr} {args p} (TD:IntTab prog w s.heap d dD) (hl:lookup (.int i) dD=some (.str tag)) (h:∀ t,Q (.str tag t) { s with toks:=s.toks+1 }) :
 wpAny (model prog w) A (subscriptTail value (.Call ex args [] p) (.ref d) (.int i t)) Q E s:=by
 refine tab_tail TD (getItem_tab (k:=i) same_int (intKind_is prog w i t) TD hl fun v hv=>?_)
 obtain ⟨tv,rfl⟩:=Flat.str_inv hv
 exact h tv
section
variable {w:World} {A:Around} {s:Shared}
theorem try_w {C:Addr} {m:Str→Option Value} {h0:ExceptHandler} {hs:List ExceptHandler} {p1 p2 p3 p4 p5 p6 p7 p8 p9 q1 q2 q3:Pos} {Q:Flow→Shared→Prop} {E:VP} (I:Inv w s.heap) (hn:s.heap.Ns C m) (hC:250≤C) {wv:Value} {i:Int} {tag:Str} (nm1:m "which"=some wv) {fr gd}
 (hint:∀ (A':Around) (Q:VP) (E:VP) (s:Shared),A'.handled=none→(∀ t tk,Q (.int i t) { s with toks:=tk })→wpAny (model prog w) A' (call (.type "int") [wv]) Q E s) (hl:lookup (.int i) dD=some (.str tag))
 (k:∀ m' s' t,KeepC C m' s s'→m' "delta"=m "delta"→m' "tag"=some (.str tag t)→Q .next s') :
 wpAny (model prog w) (AL 900 fr gd) (exec (.Try [.Assign [.Name "tag" p1] (.Subscript (.Dict [some (.Constant (.int 1) 0 p2),some (.Constant (.int 2) 0 p3)] [.Constant (.str "- ") 0 p4,.Constant (.str "+ ") 0 p5] p6) (.Call (.Name "int" p7) [.Name "which" p8] [] p9) q1) q2] (h0 :: hs) [] [] q3) (rEnv rScope C 120 (.ref 119))) Q E s:=by
 rcases snap I hn hC [] (fun _ h=>nN h) with ⟨g,R,loose,mean,mg,mb,B,F,N,X,T,sep⟩
 rw [List.nil_append] at N
 obtain ⟨HH,hold,held⟩:=holds
 have qB {x1 x2 x3 x4 x5 x6}:=hold 34 (wpAny x1 x2 (call (Value.type "int") x3) x4 x5 x6)
 have qA {x1 x2 x3 x4 x5 x6 x7 x8 x9}:=hold 1 (wpAny x1 x2 (eval (Expr.Dict x3 x4 x5) x6) x7 x8 x9)
 k_steps
 repeat' ((first
  | (refine held 35 _ ?_
     (with_reducible refine sub_d TD hl ?_)
     intro tv9)
  | (refine held 34 _ ?_
     (with_reducible refine hint _ _ _ _ ?_ ?_)
     · rfl
     intro t8 tk8)
  | (refine held 1 _ ?_
     rename Fr _ _ _ _=>F
     rename News _ _ _ _=>N
     (with_reducible refine dict_d ?_)
     intro d od hd tkd lod hod htd hkd
     have F:=F.keeps hkd
     have N:=N.grown hkd
     have TD:IntTab prog w hd d dD:=tab_d B lod hn hod htd
     have qC {x1 x2 x3 x4 x5 x6 x7 x8 x9}:=hold 35 (wpAny x1 x2 (subscriptTail x3 x4 (Value.ref d) (Value.int x5 x6)) x7 x8 x9))) <;> k_steps)
 rename Fr _ _ _ _=>F
 rename News _ _ _ _=>N
 exact k _ _ _ (B.keepC F N (fun p hp=>hp) (fun p hp=>absurd hp nM)) (if_neg (by decide)) (if_pos rfl)
theorem pre_w {C:Addr} {m:Str→Option Value} {p1 p2 p3 p4 p5:Pos} {Q:Flow→Shared→Prop} {E:VP} (hn:s.heap.Ns C m) {tag:Str} {t:Tok} (nm2:m "tag"=some (.str tag t)) {fr gd} {S:Addr} {oS:Obj} (hS:s.heap.get? S=some oS) (hSC:S≠C)
 (k:∀ m' s' p,KeepC C m' s s'→@LT.lt Nat _ S p→p≠C→m' "delta"=m "delta"→rPre p tag m' s'.heap→Q .next s') :
 wpAny (model prog w) (AL 900 fr gd) (exec (.Assign [.Name "prefixes" p1] (.Tuple [.Constant (.str "  ") 0 p2,.Name "tag" p3] 0 p4) p5) (rEnv rScope C 120 (.ref 119))) Q E s:=by
 refine exE1 (snap0 hn [] (fun _ h=>nN h)) fun R hh=>anE4 hh fun F N hc hsep=>?_;clear hh
 rw [List.nil_append] at N hc
 have X:Frag.In [] heap0:=fun a o e=>by cases e
 k_steps
 rename Fr _ _ _ _=>F
 rename News _ _ _ _=>N
 rename (∀ p∈R,p.1 < _)=>lt
 exact k _ _ _ (keepC_of F N hc fun p hp=>.tail _ hp) (lt (S,oS) (hc _ _ hS hSC)) (N _ (.head _)).2.1 (if_neg (by decide)) ⟨if_pos rfl,_,_,_,(N _ (.head _)).1⟩
end
section
end
end
section
open PyProof.V
noncomputable abbrev IntOf (w:World) (wv:Value) (i:Int):Prop:=∀ (A':Around) (Q:VP) (E:VP) (s:Shared),A'.handled=none→(∀ t tk,Q (.int i t) { s with toks:=tk })→wpAny (model prog w) A' (call (.type "int") [wv]) Q E s
noncomputable def restored (tag:Str) (xs:List Str):List Str:=(xs.filter (pass tag)).map fun x=>Txt.slice x (some 2) none
theorem passing_map (tag:Str) (xs:List Str):(passing (fun i=>pass tag (xs.getD i Str.empty)) xs.length 0).map (fun i=>Txt.slice (xs.getD i Str.empty) (some 2) none)=restored tag xs:=by
 unfold passing restored
 rw [List.drop_zero]
 have:xs=(List.range xs.length).map fun i=>xs.getD i Str.empty:=by
  apply List.ext_getElem
  · simp
  · intro i h1 h2
    simp [List.getD_eq_getElem?_getD,h1]
 conv=>rhs;rw [this]
 rw [List.filter_map,List.map_map]
 rfl
section
variable {w:World} {A:Around} {s:Shared}
theorem gen_seg {env:Env} {C l S:Addr} {st1 st2:Stmt} {test elt:PySem.Expr} {u1 u2 u3 z2 z3 z4:Pos} {tag:Str} {vs:Array Value} {pz:Nat→Bool} {F:Nat→Value→Prop} {oS:Obj} {m:Str→Option Value}
 (hA:Lvl (A.over (.func [st1,st2,.For (.Name "line" u1) (.Name "delta" u2) [.If test [.Expr (.Yield (some elt) z2) z3] [] z4] [] u3] env) []) 900)
 (hA2:(A.over (.func [st1,st2,.For (.Name "line" u1) (.Name "delta" u2) [.If test [.Expr (.Yield (some elt) z2) z3] [] z4] [] u3] env) []).handled=none)
 (heC:env.locals=C) (hek:env.scope.kind=.function) (hkd:env.kindOf "delta"=some .local) (hkl:env.kindOf "line"=some .local) (hco:env.scope.isCoroutine=false)
 (hS:s.heap.get? S=some oS) (hSC:S≠C) (hCS:@LT.lt Nat _ C (S+1)) (hil:s.heap.IsList l vs) (hlC:l≠C)
 (h1:∀ (fr:Option (List Env)) (gd:Option (List Code)) (Q:Flow→Shared→Prop) (E:VP),(∀ m' s' t,KeepC C m' s s'→m' "delta"=m "delta"→m' "tag"=some (.str tag t)→Q .next s')→wpAny (model prog w) (AL 900 fr gd) (exec st1 env) Q E s)
 (hmd:m "delta"=some (.ref l))
 (h2:∀ (fr:Option (List Env)) (gd:Option (List Code)) (Q:Flow→Shared→Prop) (E:VP) (m:Str→Option Value) (s:Shared) (t:Tok),s.heap.Ns C m→m "tag"=some (.str tag t)→s.heap.get? S=some oS→(∀ m' s' p,KeepC C m' s s'→@LT.lt Nat _ S p→p≠C→m' "delta"=m "delta"→rPre p tag m' s'.heap→Q .next s')→wpAny (model prog w) (AL 900 fr gd) (exec st2 env) Q E s)
 (hq:∀ p,C≠p→QuietR prog w env test elt "line" vs pz F (rPre p tag)) (s₀:Shared) (h0s:s=s₀) :
 Seg (model prog w) A (rEnd (S+1) C) (rProto (S+1) C l pz vs.size F) (passing pz vs.size 0).length s₀
  (.func [st1,st2,.For (.Name "line" u1) (.Name "delta" u2) [.If test [.Expr (.Yield (some elt) z2) z3] [] z4] [] u3] env)
  ((model prog w).den (.func [st1,st2,.For (.Name "line" u1) (.Name "delta" u2) [.If test [.Expr (.Yield (some elt) z2) z3] [] z4] [] u3] env)) [] s:=by
 subst h0s
 refine seg_func ?_
 refine seg_execs_cons (seg_wrap (weaken hA fun fr gd=>?_))
 refine h1 fr gd _ _ ?_
 rintro m₁ s₁ t₁ ⟨h₁,tk₁,rfl,hn₁,hk₁⟩ hd₁ ht₁
 refine seg_execs_cons (seg_wrap (weaken hA fun fr gd=>?_))
 refine h2 fr gd _ _ m₁ { s with heap:=h₁,toks:=tk₁ } t₁ hn₁ ht₁ (hk₁ _ _ hSC hS) ?_
 rintro m₂ s₂ p ⟨h₂,tk₂,rfl,hn₂,hk₂⟩ hSp hpC hd₂ hpre₂
 have hdl:m₂ "delta"=some (.ref l):=hd₂.trans (hd₁.trans hmd)
 have hil₂:h₂.IsList l vs:=hil.at fun o e=>hk₂ _ o hlC (hk₁ _ o hlC e)
 refine seg_execs_cons (seg_For ?_)
 refine wpAny_Name (wpAny_loadName_local hek hkd (by rw [heC];exact hn₂) hdl ?_) (by decide)
 refine wpAny_pyIter_list hil₂ ?_
 intro p₀
 have hSz:@LT.lt Nat _ S h₂.objs.size:=Heap.lt_size (hk₂ _ _ hSC (hk₁ _ _ hSC hS))
 have kp:∀ b o,h₂.get? b=some o→(h₂.push { cls:=.type "list_iterator",data:=.fields #[.ref l,.int 0 0] }).get? b=some o:=fun b o e=>Heap.get?_push_of_some _ e
 have hp₂:∃ o,h₂.get? p=some o:=let ⟨_,t1,t2,n,e⟩:=hpre₂;⟨_,e⟩
 have hpz:@LT.lt Nat _ p h₂.objs.size:=let ⟨_,e⟩:=hp₂;Heap.lt_size e
 have hlz:@LT.lt Nat _ l h₂.objs.size:=let ⟨_,e,_⟩:=hil₂;Heap.lt_size e
 subst heC
 have hA0:A.handled=none:=hA2
 refine seg_rLoop (N:=S+1) (Pre:=rPre p tag) hA0 ?hf (hq p (Ne.symm hpC)) (fun m m' h h' hp hm hk=>⟨(hm _ (by decide)).trans hp.1,let ⟨t1,t2,n,e⟩:=hp.2;⟨t1,t2,n,hk _ _ hSp ?_ e⟩⟩) hkl (by rw [hek];rfl) hco (by unfold interactive;rw [hek];rfl) (Nat.ne_of_gt ?_) (Nat.ne_of_gt hlz) hlC hSz hCS rfl rfl (fun s₀ s' hs=>?_) vs.size 0 s _ m₂ (Nat.sub_zero _) (Nat.zero_le _) ?_ ?_ ?_ ?_ ?_
 case hf=>exact hA0
 · exact Nat.ne_of_lt hpz
 · exact hn₂.lt
 · exact seg_leaf (.ok .next) (seg_end (.ok (.ret .none)) ⟨rfl,rfl,hs⟩)
 · exact exI1 _ (anI3 (Heap.get?_push_size _ rfl) rfl rfl)
 · exact hil₂.at fun o e=>kp _ o e
 · exact hn₂.at' fun o e=>kp _ o e
 · exact ⟨hpre₂.1,let ⟨t1,t2,n,e⟩:=hpre₂.2;⟨t1,t2,n,kp _ _ e⟩⟩
 · exact exI2 _ _ (anI2 rfl (fun b o hb hC e=>kp b o (hk₂ b o hC (hk₁ b o hC e))))
end
end
section
open PyProof.V
section
variable {w:World} {A:Around} {s:Shared}
theorem gen_list {a C lst g:Nat} {c:Code} {m:Str→Option Value} {pz:Nat→Bool} {n₀:Nat} {F:Nat→Value→Prop} {Q E:VP} (l:Lvl A 800) (I:Inv w s.heap) (hg:s.heap.IsGen a g) (hgs:s.gens[g]? = some (.fresh c)) (hCa:C < a) (ha:s.heap.objs.size=a+1) (h250:250≤C)
 (hlC:lst≠C) (hla:lst < a) (hCm:s.heap.Ns C m) (hn:(passing pz n₀ 0).length≤sizeLine)
 (hseg:∀ s_b:Shared,(∀ b o,s.heap.get? b=some o→s_b.heap.get? b=some o)→(∃ o,s_b.heap.get? (a+1:Nat)=some o)→Inv w s_b.heap→Seg (model prog w) A.in1.in1.in1 (rEnd (a+1+1:Nat) C) (rProto (a+1+1:Nat) C lst pz n₀ F) (passing pz n₀ 0).length s_b c ((model prog w).den c) [] s_b)
 (k:∀ D acc n s',Step w [C] s s'→At s'.heap D (listOf acc n)→s.heap.get? D=none→ItemsOf (fun j v=>∃ i,(passing pz n₀ 0)[j]? = some i∧F i v) acc (passing pz n₀ 0).length→Q (.ref D) s') :
 wpAny (model prog w) A (call (.type "list") [.ref a]) Q E s:=by
 refine exE4 I.T fun loose mean mg mb T=>?_
 refine callType_codes (Q₁:=fun obj s₁=>obj=.ref s.heap.objs.size∧s₁={ s with heap:=s.heap.push { cls:=.type "list",data:=.seq #[] } }) PySem.F.called_list (PySem.F.typeCall_list_1 _) PySem.F.entry_list_init
  (code_list_new _ ⟨rfl,rfl⟩) fun obj s₁ h₁=>?_
 obtain ⟨rfl,rfl⟩:=h₁
 have hS:(s.heap.push { cls:=.type "list",data:=.seq #[] }).get? s.heap.objs.size=some { cls:=.type "list",data:=.seq #[] }:=Heap.get?_push_size _ rfl
 refine ⟨⟨_,hS,rfl⟩,PySem.F.args_list_init_2 _ _,?_⟩
 show wpAny _ A.in1.in1 (do let old ← Builtin.List.listItems (.ref s.heap.objs.size);Builtin.List.listUpdate (.ref s.heap.objs.size) (fun _=>#[]);letGo old.toList.reverse;Builtin.List.listExtendWith (.ref s.heap.objs.size) (.ref a) .none) _ _ _
 unfold Builtin.List.listItems
 refine wpAny_bind (wpAny_bind (wpAny_seqItems hS rfl (wpAny_pure ?_)))
 refine wpAny_bind (m:=updateSeq s.heap.objs.size (fun _=>#[])) (wpAny_updateSeq hS rfl ?_)
 have e1:=Heap.get?_update_self (Obj.mapSeq (fun _=>(#[]:Array Value))) hS rfl
 have oth1:∀ b o,b≠s.heap.objs.size→(s.heap.push { cls:=.type "list",data:=.seq #[] }).get? b=some o→((s.heap.push { cls:=.type "list",data:=.seq #[] }).update s.heap.objs.size (Obj.mapSeq (fun _=>(#[]:Array Value)))).get? b=some o :=
  fun b o hb e=>(Heap.get?_update_other _ _ (Ne.symm hb)).trans e
 refine wpAny_bind (wpAny_letGo ?_)
 generalize (s.heap.push { cls:=.type "list",data:=.seq #[] }).update s.heap.objs.size (Obj.mapSeq (fun _=>(#[]:Array Value)))=h1 at *
 have oth:∀ b o,s.heap.get? b=some o→h1.get? b=some o:=fun b o e=>oth1 b o (Nat.ne_of_lt (Heap.lt_size e)) (Heap.get?_push_of_some _ e)
 have hg1:h1.IsGen a g:=hg.keeps oth
 have hT:({ s with heap:=h1 }:Shared).TypeIs (.ref a) "generator":=hg1.typeIs
 have hSa:s.heap.objs.size≠a:=by rw [ha];exact Nat.succ_ne_self _
 unfold Builtin.List.listExtendWith
 refine wpAny_bind (wpAny_typeOf hT ?_)
 have same:Builtin.List.listSameRef (.ref s.heap.objs.size) (.ref a)=false:=by simp [Builtin.List.listSameRef,hSa]
 simp only [same,noLen_gen.list,noLen_gen.tup,Bool.or_false,Bool.false_eq_true,if_false]
 refine wpAny_bind (wpAny_pyIter_gen hg1 (wpAny_bind (wpAny_holding ?_)))
 unfold Builtin.List.listLengthHint
 refine wpAny_bind (wpAny_specialOf hT noLen_gen.len ?_)
 refine wpAny_bind (m:=specialOf (Value.ref a) (Str.ofString "__length_hint__")) (wpAny_specialOf hT noLen_gen.hint (wpAny_pure ?_))
 refine wpAny_bind (m:=rule "list.extend.makes-room") (wpAny_rule ?_)
 refine wpAny_bind (m:=Builtin.List.listTouch (.ref s.heap.objs.size)) ?_
 show wpAny _ A.in1.in1 (updateSeq s.heap.objs.size (·.push .none) >>= fun _=>updateSeq s.heap.objs.size (·.pop)) _ _ _
 refine wpAny_bind (wpAny_updateSeq e1 rfl ?_)
 have e2:=Heap.get?_update_self (Obj.mapSeq (·.push Value.none)) e1 rfl
 refine wpAny_updateSeq (hz:=by seq_fits) e2 rfl ?_
 have e3:=Heap.get?_update_self (Obj.mapSeq (·.pop)) e2 rfl
 have oth3:∀ b o,s.heap.get? b=some o→((h1.update s.heap.objs.size (Obj.mapSeq (·.push Value.none))).update s.heap.objs.size (Obj.mapSeq (·.pop))).get? b=some o:=fun b o e=>oth_upd b o (Nat.ne_of_lt (Heap.lt_size e)) (oth b o e)
 generalize (h1.update s.heap.objs.size (Obj.mapSeq (·.push Value.none))).update s.heap.objs.size (Obj.mapSeq (·.pop))=h3 at *
 have hclt:cStatics < a:=Nat.lt_of_lt_of_le (Nat.lt_of_lt_of_le (by decide) h250) (Nat.le_of_lt hCa)
 refine wpAny_pure ⟨plainId_quiet PySem.F.plain_extend_loop _,?_⟩
 refine gen_loop (a:=a) (C:=C) (S:=s.heap.objs.size) (l:=lst) (N:=a+1+1) (g:=g) (pz:=pz) (n₀:=n₀) (F:=F) (by exact l.handled) ?_ (Nat.lt_succ_of_lt (Nat.lt_succ_self _)) (Nat.ne_of_gt hCa) (Ne.symm hSa) ?_ ?_ ?_ ?_ ?_ ?_ hn _ 0 _ #[] _ (.fresh c) (Nat.sub_zero _) (Nat.zero_le _) (hg.keeps oth3) (T.nolimit.keeps oth3) hgs ?_ e3 (ItemsOf.nil _) ?_
 · show A.depth < recursionLimit
   have:=l.depth
   have h:(800:Nat) < recursionLimit:=by decide
   exact Nat.lt_of_le_of_lt this h
 · rw [ha];exact Nat.lt_succ_self _
 · rw [ha];exact Nat.ne_of_gt (Nat.lt_succ_of_lt hCa)
 · rw [ha];exact Nat.ne_of_gt (Nat.lt_succ_of_lt hla)
 · exact Nat.lt_succ_of_lt (Nat.lt_succ_of_lt hclt)
 · exact Nat.ne_of_lt (Nat.lt_of_lt_of_le (by decide) h250)
 · rw [ha];exact Nat.ne_of_lt (Nat.lt_succ_of_lt hclt)
 · refine ⟨rfl,hseg _ oth3 ⟨_,ha▸e3⟩ (I.keepAll oth3)⟩
 · intro s' acc' c' hk hos hgo hfin hSl hit
   have kp:∀ b o,s.heap.get? b=some o→b≠C→s'.heap.get? b=some o:=fun b o e hb=>by
    have hlt:=Heap.lt_size e
    rw [ha] at hlt
    refine hk b o (Nat.lt_succ_of_lt hlt) hb ?_ (oth3 b o e)
    rw [ha];exact Nat.ne_of_lt hlt
   have st:Step w [C] s s':=by
    refine ⟨fun b o e hb=>kp b o e fun q=>hb (q▸List.mem_singleton.mpr rfl),hos,allBare_fin hgo hfin,I.keeps fun b o e hb=>kp b o e fun q=>?_⟩
    subst q
    rcases hb with hb | hb
    · exact absurd h250 (Nat.not_le.mpr hb)
    · rw [ns_notCode hCm o e] at hb;cases hb
   exact ⟨rfl,k _ acc' c' s' st ⟨hSl,I.size⟩ (Heap.get?_none_of_le (Nat.le_refl _)) hit⟩
end
end
section
open PyProof.V
inductive RGen (h:Heap) (gens:Array GenState) (a C lst:Nat) (wv:Value):Prop
 | mk (g:Nat) (h0:ExceptHandler) (hs:List ExceptHandler) (p1 p2 p3 p4 p5 p6 p7 p8 p9 q1 q2 q3 r1 r2 r3 r4 r5 u1 u2 u3 v1 v2 v3 v4 v5 v6 v7 v8 v9 z1 z2 z3 z4:Pos) (e1:C < a) (e2:h.objs.size=a+1) (e3:h.IsGen a g) (e4:h.Ns C (fun y=>[(Str.ofString "which",wv),(Str.ofString "delta",.ref lst)].lookup y)) (e5 :
   gens[g]? = some (.fresh (.func [.Try [.Assign [.Name "tag" p1] (.Subscript (.Dict [some (.Constant (.int 1) 0 p2),some (.Constant (.int 2) 0 p3)] [.Constant (.str "- ") 0 p4,.Constant (.str "+ ") 0 p5] p6) (.Call (.Name "int" p7) [.Name "which" p8] [] p9) q1) q2] (h0 :: hs) [] [] q3,
    .Assign [.Name "prefixes" r1] (.Tuple [.Constant (.str "  ") 0 r2,.Name "tag" r3] 0 r4) r5,
    .For (.Name "line" u1) (.Name "delta" u2) [.If (.Compare (.Subscript (.Name "line" v1) (.Slice none (some (.Constant (.int 2) 0 v2)) none v3) v4) [.In] [.Name "prefixes" v5] v6) [.Expr (.Yield (some (.Subscript (.Name "line" v7) (.Slice (some (.Constant (.int 2) 0 v8)) none none v9) z1)) z2) z3] [] z4] [] u3] (rEnv rScope C 120 (.ref 119))))):RGen h gens a C lst wv
section
variable {w:World} {A:Around} {s:Shared} {Q E:VP}
theorem restore_new (l:Lvl A 800) (I:Inv w s.heap) {lst:Nat} {wv:Value} (k:∀ a C s',Step w [] s s'→s.heap.get? C=none→(∀ b o,s.heap.get? b=some o→@LT.lt Nat _ b C)→s.heap.get? a=none→RGen s'.heap s'.gens a C lst wv→Q (.ref a) s') :
 wpAny (model prog w) A (call (.ref 120) [.ref lst,wv]) Q E s:=by
 refine gen_new (args:=⟨[.ref lst,wv],[]⟩) I (by k_is) (by k_is) ?_ (BindsTo.of_eq rfl) (locs rfl) ?_ (by decide)
 · exact Nat.lt_of_le_of_lt l.depth (by decide)
 · intro a C g s' st fC lC fa hCa hsz hg hgs hn
   exact k a C s' st fC lC fa ⟨g,_,_,_,_,_,_,_,_,_,_,_,_,_,_,_,_,_,_,_,_,_,_,_,_,_,_,_,_,_,_,_,_,_,_,_,hCa,hsz,hg,hn,hgs⟩
theorem restore_list (l:Lvl A 800) (I:Inv w s.heap) {a C lst:Nat} {wv:Value} (G:RGen s.heap s.gens a C lst wv) (h250:250≤C) {vs:Array Value} {xs:List Str} {n:Nat} (hl:s.heap.get? lst=some (listOf vs n)) (hs:StrsAre vs.toList xs) (hlen:∀ x∈xs,x.length≤sizeLine) (hxs:xs.length≤sizeLine) {i:Int} {tag:Str} (hv:IntOf w wv i) (hi:lookup (.int i) dD=some (.str tag))
 (hlC:lst < C)
 (k:∀ D ys n s',Step w [C] s s'→At s'.heap D (listOf ys n)→s.heap.get? D=none→StrsAre ys.toList (restored tag xs)→Q (.ref D) s') :
 wpAny (model prog w) A (call (.type "list") [.ref a]) Q E s:=by
 obtain ⟨g,h0,hs',p1,p2,p3,p4,p5,p6,p7,p8,p9,q1,q2,q3,r1,r2,r3,r4,r5,u1,u2,u3,v1,v2,v3,v4,v5,v6,v7,v8,v9,z1,z2,z3,z4,hCa,hsz,hg,hn,hgs⟩:=G
 have hlen':vs.size=xs.length:=by have:=StrsAre.len_eq hs;simpa using this
 have hil:s.heap.IsList lst vs:=⟨_,hl,rfl,_,rfl⟩
 have hlC':lst≠C:=Nat.ne_of_lt hlC
 have hn':(passing (fun i=>pass tag (xs.getD i Str.empty)) vs.size 0).length≤sizeLine:=by
  unfold passing
  refine Nat.le_trans (List.length_filter_le ..) ?_
  simp only [List.drop_zero,List.length_range]
  omega
 refine weaken l fun fr₀ gd₀=>?_
 refine gen_list (pz:=fun i=>pass tag (xs.getD i Str.empty)) (n₀:=vs.size) (F:=fun i v=>∃ t,v=.str (Txt.slice (xs.getD i Str.empty) (some 2) none) t) (lvl_AL (Nat.le_refl _)) I hg hgs hCa hsz h250 hlC' (Nat.lt_trans hlC hCa) hn hn' ?_ ?_
 · intro s_b kp hS IB
   obtain ⟨oS,hS⟩:=hS
   have e1:(rEnv rScope C 120 (.ref 119)).locals=C:=rfl
   have e2:(rEnv rScope C 120 (.ref 119)).scope.kind=.function:=rfl
   have e3:(rEnv rScope C 120 (.ref 119)).kindOf "delta"=some .local:=rfl
   have e4:(rEnv rScope C 120 (.ref 119)).kindOf "line"=some .local:=rfl
   have e5:(rEnv rScope C 120 (.ref 119)).scope.isCoroutine=false:=rfl
   have e6:(fun y=>[(Str.ofString "which",wv),(Str.ofString "delta",Value.ref lst)].lookup y) "which"=some wv:=rfl
   have e7:(fun y=>[(Str.ofString "which",wv),(Str.ofString "delta",Value.ref lst)].lookup y) "delta"=some (.ref lst):=rfl
   have n1:@Ne Nat (a+1) C:=Nat.ne_of_gt (Nat.lt_succ_of_lt hCa)
   have n2:@LT.lt Nat _ C (a+1+1):=Nat.lt_succ_of_lt (Nat.lt_succ_of_lt hCa)
   have hl':s_b.heap.IsList lst vs:=hil.at fun o e=>kp _ o e
   have hn':=hn.keeps kp
   with_reducible refine gen_seg (env:=rEnv rScope C 120 (.ref 119)) (C:=C) (m:=fun y=>[(Str.ofString "which",wv),(Str.ofString "delta",.ref lst)].lookup y) (tag:=tag) (S:=a+1) ?ga ?gb e1 e2 e3 e4 e5 hS n1 n2 hl' hlC' ?g1 e7 ?g2 ?g3 s_b rfl
   case ga=>exact ⟨rfl,Nat.le_of_ble_eq_true rfl,Nat.le_of_ble_eq_true rfl⟩
   case gb=>exact rfl
   case g1 =>
    intro fr gd Q E k'
    with_reducible refine try_w IB hn' h250 e6 hv hi k'
   case g2 =>
    intro fr gd Q E m s t hn ht hS k'
    with_reducible refine pre_w hn ht hS n1 k'
   case g3 =>
    intro p hp
    with_reducible exact restore_quiet hp hs hlen
 · intro D acc n s' st hD fD hit
   refine k D acc n s' st hD fD ?_
   rw [← passing_map,← hlen']
   refine strs_of ?_ ?_
   · have:=hit.1
     simpa using this
   · intro j v e
     obtain ⟨i,h1,t,rfl⟩:=hit.2 j v (by simpa using e)
     exact exI2 _ t (anI2 (by rw [List.getElem?_map,h1];rfl) rfl)
end
end
section
noncomputable abbrev tupOf (xs:Array Value) (n:Nat):Obj:=⟨.type "tuple",none,.seq xs n,#[]⟩
noncomputable def toldNum (n:Nat):Int:=[0,3,1].getD n 0
noncomputable def ToldIs (xs:List Str) (dl rt:Value):Prop:=match xs with
 | []=>dl=.none∧rt=.none
 | x :: r=>∃ t t',dl=.int (toldNum r.length) t∧rt=.str x t'
theorem ne_obj {g h:Heap} {L a p:Addr} {o o':Obj} {news:List (Addr×Obj)} (N:News g L h news) (h1:(p,o)∈news) (h2:(a,o')∈news) (ne:(o.cls == o'.cls)=false):@Ne Nat p a:=fun e=>by
 have e1:=(N _ h1).1
 have e2:=(N _ h2).1
 dsimp only at e1 e2
 rw [e,e2] at e1
 rw [Option.some.inj e1] at ne
 simp at ne
section
variable {w:World} {A:Around} {E:VP} {s:Shared} {Q:VP}
theorem told_spec (l:Lvl A 800) (I:Inv w s.heap) {a:Addr} {n:Nat} {vs:List Value} {xs:List Str} (hs:StrsAre vs xs) (hok:xs.all PyData.strOk=true) (h3:xs.length≤3) (ha:At s.heap a (listOf vs.toArray n))
 (k:∀ p dl rt s',Step w [] s s'→ToldIs xs dl rt→At s'.heap p (tupOf #[dl,rt] 0)→s.heap.get? p=none→Q (.ref p) s'):wpAny (model prog w) A (call (.ref 225) [.ref a]) Q E s:=by
 refine weaken l fun fr gd=>?_
 refine enter (args:=⟨[.ref a],[]⟩) [(a,listOf vs.toArray n)] I ?_ (by k_is) (by k_is) (by show (800:Nat) < 1000;decide) (BindsTo.of_eq rfl) (locs rfl) ?_ (by decide)
 · exact fm1 ⟨ha,rfl⟩ (fun _ h=>nN h)
 intro g L h₁ loose mean mg mb B F N X T
 dsimp only
 k_fold
 have O:Oth s s:=Oth.refl
 obtain ⟨HH,hold,held⟩:=holds
 have qA {x1 x2 x3 x4 x5 x6 x7}:=hold 1 (wpAny x1 x2 (compareOp CmpOp.Eq (Value.ref x3) (Value.ref x4)) x5 x6 x7)
 k_steps
 repeat' ((first
  | (refine held 1 _ ?_
     rename Fr _ _ _ _=>F
     rename News _ _ _ _=>N
     have q1:=(N (a,listOf vs.toArray n) (by k_mem)).1
     have q2:=(N (_,listOf #[] 0) (.head _)).1
     have q3:([]:List Str).all PyData.strOk=true:=rfl
     (with_reducible refine eq_strs (ys:=[]) q1 q2 hs .nil hok q3 ?_ ?_)
     · exact Nat.le_of_ble_eq_true rfl)) <;> k_steps)
 · rename Fr _ _ _ _=>F
   rename News _ _ _ _=>N
   have e:xs=[]:=of_decide_eq_true (by assumption)
   subst e
   refine k _ .none .none _ (Base.fin B [] F N O ?_) ⟨rfl,rfl⟩ (Base.at B N (.head _)) (base_fresh B (N _ (.head _)).2.2 ⟨ne_obj N (.head _) (show (a,listOf _ _)∈_ by k_mem) (show (Value.type "tuple" == Value.type "list")=false by decide),trivial⟩)
   exact fm1 (.inr (by k_mem)) (fun _ h=>nN h)
 · rename StrsAre _ _=>hs
   cases hs with
   | nil =>
     rename (decide _=false)=>e
     exact absurd rfl (of_decide_eq_false e)
   | @cons y1 u1 us ys hs =>
     have hlen:=StrsAre.len_eq hs
     have h2:ys.length≤2:=Nat.le_of_succ_le_succ h3
     have ev:([0,3,1]:List Int).getD (((y1 :: ys).length:Int) - 1).toNat 0=toldNum ys.length:=by
      rw [show (((y1 :: ys).length:Int) - 1).toNat=ys.length by simp];rfl
     k_steps
     rename Fr _ _ _ _=>F
     rename News _ _ _ _=>N
     rw [ev] at N
     refine k _ _ _ _ (Base.fin B [] F N O ?_) ⟨_,u1,rfl,rfl⟩ (Base.at B N (.head _)) (base_fresh B (N _ (.head _)).2.2 ⟨ne_obj N (.head _) (show (a,listOf _ _)∈_ by k_mem) (show (Value.type "tuple" == Value.type "list")=false by decide),trivial⟩)
     exact fm1 (.inr (by k_mem)) (fun _ h=>nN h)
end
end
section
theorem rgen_obj {h:Heap} {gens:Array GenState} {a C lst:Nat} {wv:Value} (RG:RGen h gens a C lst wv):∃ oC,h.get? C=some oC:=by
 obtain ⟨_,_,_,_,_,_,_,_,_,_,_,_,_,_,_,_,_,_,_,_,_,_,_,_,_,_,_,_,_,_,_,_,_,_,_,_,_,_,_,⟨o,_,_,ho,_⟩,_⟩:=RG
 exact ⟨o,ho⟩
section
variable {w:World} {A:Around} {E:VP} {s:Shared} {Q:VP}
theorem side_spec (l:Lvl A 600) (I:Inv w s.heap) {lst own:Nat} {n k:Nat} {vs ws:List Value} {xs ys:List Str} {wv:Value} {i:Int} {tag:Str} (hl:At s.heap lst (listOf vs.toArray n)) (hs:StrsAre vs xs) (hlen:∀ x∈xs,x.length≤sizeLine) (hxs:xs.length≤sizeLine) (hv:IntOf w wv i) (hi:lookup (.int i) dD=some (.str tag))
 (ho:At s.heap own (listOf ws.toArray k)) (hys:StrsAre ws ys) (hok:ys.all PyData.strOk=true) (hle3:ys.length≤3)
 (kk:∀ x us dl rt s',Step w [] s s'→StrsAre us (restored tag xs)→ToldIs ys dl rt→EntryAt s'.heap x us (ws ++ ws) dl rt→s.heap.get? x=none→Q (.ref x) s'):wpAny (model prog w) A (call (.ref 232) [.ref lst,wv,.ref own]) Q E s:=by
 have hz2:ws.length+ws.length≤sizeLine:=by
  have:=StrsAre.len_eq hys
  rw [sizeLine_eq];omega
 have hz1:∀ us:Array Value,StrsAre us.toList (restored tag xs)→us.toList.length≤sizeLine:=fun us h=>by
  have e:=StrsAre.len_eq h
  have e2:(restored tag xs).length≤xs.length:=by unfold restored;rw [List.length_map];exact List.length_filter_le ..
  omega
 refine weaken l fun fr gd=>?_
 refine enter (args:=⟨[.ref lst,wv,.ref own],[]⟩) [(lst,listOf vs.toArray n),(own,listOf ws.toArray k)] I ?_ (by k_is) (by k_is) (by show (600:Nat) < 1000;decide) (BindsTo.of_eq rfl) (locs rfl) ?_ (by decide)
 · exact fm2 ⟨hl,rfl⟩ ⟨ho,rfl⟩ (fun _ h=>nN h)
 intro g L h₁ loose mean mg mb B F N X T
 dsimp only
 k_fold
 have O:Oth s s:=Oth.refl
 obtain ⟨HH,hold,held⟩:=holds
 have qA {x1 x2 x3 x4 x5 x6}:=hold 6 (wpAny x1 x2 (call (Value.ref 225) x3) x4 x5 x6)
 have qC {x1 x2 x3 x4 x5 x6 x7 x8}:=hold 4 (wpAny x1 x2 (binaryOp x3 (Value.ref x4) (Value.ref x5)) x6 x7 x8)
 have qD {x1 x2 x3 x4 x5 x6}:=hold 3 (wpAny x1 x2 (call (Value.ref 218) x3) x4 x5 x6)
 have qE {x1 x2 x3 x4 x5 x6}:=hold 2 (wpAny x1 x2 (call (Value.type "list") [Value.ref x6]) x3 x4 x5)
 have qF {x1 x2 x3 x4 x5 x6}:=hold 1 (wpAny x1 x2 (call (Value.ref 120) x3) x4 x5 x6)
 k_steps
 repeat' ((first
  | (refine held 6 _ ?_
     rename Fr _ _ _ _=>F
     rename News _ _ _ _=>N
     have q1:=Base.at B N (p:=(own,listOf ws.toArray k)) (by k_mem)
     (with_reducible refine told_spec (lvl_deeper (by decide)) (inv_now B F) hys hok hle3 q1 ?_)
     intro p dl rt s4 st4 hT ap fp
     have np:=allNe_fresh fp N
     have N:=newsF st4 fp ap F (news0 st4 N)
     have F:=fr0 st4 F
     have O:=Oth.next st4 O
     clear st4 fp q1 ap)
  | (refine held 5 _ ?_
     rename Fr _ _ _ _=>F
     rename News _ _ _ _=>N
     k_dflt (refine' extend_any (vs:=[]) (ws:=ws ++ ws) F N (n2:=0) ?k1 ?k2 ?k3 ?_;(case k1=>k_mem);(case k2=>intro n';k_upd);(case k3=>(rw [List.length_nil,Nat.zero_add,List.length_append];exact hz2)))
     intro n5 h' F N
     (try dsimp only at N))
  | (refine held 4 _ ?_
     rename Fr _ _ _ _=>F
     rename News _ _ _ _=>N
     (with_reducible refine add_two F N (vs:=ws) (ws:=ws) (n:=k) (k:=k) ?m1 ?m2 ?m3 ?_)
     case m1=>k_mem
     case m2=>k_mem
     case m3=>exact hz2
     intro ra h' F N nra
     have qB {x1 x2 x3 x4 x5}:=hold 5 (wpAny x1 x2 (call (Value.builtin "list.extend") [Value.ref r,Value.ref ra]) x3 x4 x5))
  | (refine held 3 _ ?_
     rename Fr _ _ _ _=>F
     rename News _ _ _ _=>N
     have q1:At s2.heap D (listOf us.toList.toArray nD):=aD
     (with_reducible refine record_new (lvl_deeper (by decide)) (inv_now B F) q1 ?hz ?_)
     case hz=>exact hz1 us hus
     intro x d u r s3 st3 ⟨ax,ad,au,ar,fx,fd,fu,fr,ndx,ndu,ndr,nxu,nxr,nur⟩
     obtain ⟨h1,h2,h3,h4,t1,t2,t3,t4,ad⟩:=ad
     obtain ⟨nu0,au⟩:=au
     obtain ⟨nr0,ar⟩:=ar
     have nx:=allNe_fresh fx N
     have nd:=allNe_fresh fd N
     have nu:=allNe_fresh fu N
     have nr:=allNe_fresh fr N
     have N:=newsF st3 fx ax F (newsF st3 fd ad F (newsF st3 fu au F (newsF st3 fr ar F (news0 st3 N))))
     have F:=fr0 st3 F
     have O:=Oth.next st3 O
     clear st3 fx fd fu fr q1 ax ad au ar aD)
  | (refine held 2 _ ?_
     rename Fr _ _ _ _=>F
     rename News _ _ _ _=>N
     have q1:=(N (lst,listOf vs.toArray n) (by k_mem)).1
     have q2:StrsAre vs.toArray.toList xs:=hs
     (with_reducible refine restore_list (lvl_deeper (by decide)) (inv_now B F) RG c250 q1 q2 hlen hxs hv hi lstC ?_)
     intro D us nD s2 st2 aD fD hus
     have nD':=allNe_fresh fD N
     have F':=frD st2 N F
     have N:=newsF st2 fD aD F (newsD (p:=(C,oC)) st2 nC N)
     have F:=F'
     have O:=Oth.next st2 O
     clear st2 fD q1 q2 RG hoC)
  | (refine held 1 _ ?_
     rename Fr _ _ _ _=>F
     rename News _ _ _ _=>N
     (with_reducible refine restore_new (lvl_deeper (by decide)) (inv_now B F) ?_)
     intro a C s1 st fC lC fa RG
     have lstC:lst < C:=lC _ _ (N (lst,_) (by k_mem)).1
     clear lC
     obtain ⟨oC,hoC⟩:=rgen_obj RG
     have c250:250≤C:=(inv_now B F).above fC
     have nC:=allNe_fresh fC N
     have N:=newsF st fC ⟨hoC,c250⟩ F (news0 st N)
     have F:=fr0 st F
     have O:=Oth.next st O
     clear st fC fa)) <;> k_steps)
 rename Fr _ _ _ _=>F
 rename News _ _ _ _=>N
 rename AllNe x _=>nx
 have qx:AllNe x [(lst,listOf vs.toArray n),(own,listOf ws.toArray k)]:=⟨allNe_find nx (show (lst,listOf vs.toArray n)∈_ by k_mem),allNe_find nx (show (own,listOf ws.toArray k)∈_ by k_mem),trivial⟩
 refine kk x us.toList dl rt _ (Base.fin B [] F N O ?_) hus hT ⟨d,u,r,_,_,_,_,_,_,_,_,_,_,_,Base.at B N (p:=(x,_)) (by k_mem),Base.at B N (p:=(d,_)) (by k_mem),Base.at B N (p:=(u,_)) (by k_mem),Base.at B N (p:=(r,_)) (by k_mem)⟩ (base_fresh B (N (x,instObj 59 d) (by k_mem)).2.2 qx)
 exact fm2 (.inr (by k_mem)) (.inr (by k_mem)) (fun _ h=>nN h)
end
end
section
local macro_rules | `(tactic| k_handed)=>`(tactic| assumption)
theorem orElse_S {M:Model} {A:Around} {E:VP} {s:Shared} {env:Env} {n1 n2 a:Str} {kc:Nat} {pa pb pc pd pe pf p1 p2 pos:Pos} {v1 v2:Value} {Q:VP}
 (hX:∀ p q (tk:Nat) (Q':VP),(∀ tk',Q' v2 { s with toks:=tk' })→wpAny M A (eval (.Attribute (.Name n2 p) a q) env) Q' E { s with toks:=tk })
 (hY:∀ p q (tk:Nat) (Q':VP),(∀ tk',Q' v1 { s with toks:=tk' })→wpAny M A (eval (.Attribute (.Name n1 p) a q) env) Q' E { s with toks:=tk })
 (k:∀ tk,Q (orElse v2 v1) { s with toks:=tk }):wpAny M A (eval (.IfExp (.Compare (.Attribute (.Name n2 pa) a pb) [.Is] [.Constant .none kc p1] p2) (.Attribute (.Name n1 pc) a pd) (.Attribute (.Name n2 pe) a pf) pos) env) Q E s:=by
 refine wpAny_IfExp (wpAny_isTrue_Compare1 (hX _ _ s.toks _ fun tk=>wpAny_Constant_none (is_none_gen ?_)))
 cases v2 with
 | none=>exact wpAny_truthy_bool (hY _ _ tk _ k)
 | _=>exact wpAny_truthy_bool (hX _ _ tk _ k)
theorem Told.in {dl rt:Value} (h:Told dl rt):handedIn dl=true∧handedIn rt=true:=by
 rcases h with ⟨rfl,rfl⟩ | ⟨_,_,_,_,rfl,rfl⟩ <;> exact ⟨rfl,rfl⟩
theorem merge_spec {w:World} {A:Around} {s:Shared} {Q E:VP} (l:Lvl A 700) (I:Inv w s.heap)
 (x1 x2:Addr) (us1 us2 rs1 rs2:List Value) (dl1 rt1 dl2 rt2:Value) (e1:EntryAt s.heap x1 us1 rs1 dl1 rt1) (e2:EntryAt s.heap x2 us2 rs2 dl2 rt2) (hT1:Told dl1 rt1) (hT2:Told dl2 rt2)
 (xs2:List Str) (hs2:StrsAre us2 xs2) (hb2:xs2.length+1 < scanBound) (hv1:∀ v∈us1,∃ x t,v=.str x t) (hb1:us1.length≤sizeLine) (hb3:rs1.length+rs2.length≤sizeLine)
 (k:∀ x s',Step w [] s s'→EntryAt s'.heap x (us1.filter (inS xs2)) (rs1 ++ rs2) (orElse dl2 dl1) (orElse rt2 rt1)→s.heap.get? x=none→Q (.ref x) s') :
   wpAny (model prog w) A (call (.ref 70) [.ref x1,.ref x2]) Q E s:=by
 obtain ⟨d1,u1,r1,h1,h2,h3,h4,t1,t2,t3,t4,m1,n1,n2,o1,o2,o3,o4⟩:=e1
 obtain ⟨d2,u2,r2,h5,h6,h7,h8,t5,t6,t7,t8,m2,n3,n4,o5,o6,o7,o8⟩:=e2
 refine weaken l fun fr gd=>?_
 refine enter (args:=⟨[.ref x1,.ref x2],[]⟩) [(x1,instObj 59 d1),(d1,dictOf (ent h1 h2 h3 h4 t1 t2 t3 t4 (.ref u1) (.ref r1) dl1 rt1) m1),(u1,listOf us1.toArray n1),(r1,listOf rs1.toArray n2),
  (x2,instObj 59 d2),(d2,dictOf (ent h5 h6 h7 h8 t5 t6 t7 t8 (.ref u2) (.ref r2) dl2 rt2) m2),(u2,listOf us2.toArray n3),(r2,listOf rs2.toArray n4)] I ?_ (by k_is) (by k_is) (by show (700:Nat) < 1000;decide) (BindsTo.of_eq rfl) (locs rfl) ?_ (by decide)
 · exact fm8 ⟨o1,rfl⟩ ⟨o2,rfl⟩ ⟨o3,rfl⟩ ⟨o4,rfl⟩ ⟨o5,rfl⟩ ⟨o6,rfl⟩ ⟨o7,rfl⟩ ⟨o8,rfl⟩ (fun _ h=>nN h)
 intro g L h₁ loose mean mg mb B F N X T
 dsimp only
 k_fold
 have O:Oth s s:=Oth.refl
 have z1:=hT1.in.1
 have z2:=hT1.in.2
 have z3:=hT2.in.1
 have z4:=hT2.in.2
 obtain ⟨HH,hold,held⟩:=holds
 have qG {x1 x2 x3 x4 x5 x6 x7 x8 x9 y1}:=hold 7 (wpAny x1 x2 (eval (Expr.IfExp x3 x4 x5 x6) x7) x8 x9 y1)
 have qA {x1 x2 x3 x4 x5 x6}:=hold 6 (wpAny x1 x2 (call (Value.type "list") x3) x4 x5 x6)
 have qB {x1 x2 x3 x4 x5 x6}:=hold 5 (wpAny x1 x2 (call (Value.type "filter") x3) x4 x5 x6)
 have qD {x1 x2 x3 x4 x5 x6}:=hold 3 (wpAny x1 x2 (call (Value.type "set") x3) x4 x5 x6)
 have qE {x1 x2 x3 x4 x5 x6}:=hold 2 (wpAny x1 x2 (call (Value.ref 59) x3) x4 x5 x6)
 have qF {x1 x2 x3 x4 x5 x6 x7 x8}:=hold 1 (wpAny x1 x2 (binaryOp x3 (Value.ref x4) (Value.ref x5)) x6 x7 x8)
 k_steps
 repeat' ((first
  | (refine held 7 _ ?_
     rename Fr _ _ _ _=>F
     rename News _ _ _ _=>N
     first
     | refine orElse_S (a:="delay") (v1:=dl1) (v2:=dl2) ?_ ?_ ?_
     | refine orElse_S (v1:=rt1) (v2:=rt2) ?_ ?_ ?_
     · intro p q tk Q' k'
       (try dsimp only)
       k_steps
       exact k' _
     · intro p q tk Q' k'
       (try dsimp only)
       k_steps
       exact k' _
     intro tk
     (try dsimp only))
  | (refine held 6 _ ?_
     rename Fr _ _ _ _=>F
     rename News _ _ _ _=>N
     (with_reducible show wpAny _ _ (call (Value.type "list") [Value.ref fo]) _ _ _)
     refine list_filter (fa:=fo) (it:=it) (vs:=us1) (ys:=xs2) (lvl_deeper (by decide)) (inv_now B F) hv1 hfilt hfne hb1 hit ?_
     intro la se n9 st hla fla
     have nla:=allNe_fresh fla N
     have F':=frD st N F
     have N:=newsF st fla hla F (newsD (p:=(it,oi)) st nit N)
     have F:=F'
     have O:=Oth.next st O
     clear st)
  | (refine held 5 _ ?_
     rename Fr _ _ _ _=>F
     rename News _ _ _ _=>N
     (with_reducible show wpAny _ _ (call (Value.type "filter") _) _ _ _)
     (with_unfolding_all refine filter_new (lvl_deeper (by decide)) (inv_now B (by k_asm)) (vs:=us1) (n:=n1) hcq.1 hset (N (u1,_) (by k_mem)).1 ?_)
     intro fo it sd st ff fi lf li hfilt hfne
     have hit:250≤it:=(inv_now B F).above fi
     have nit:=allNe_fresh fi N
     obtain ⟨oi,hoi,roi⟩:=hfilt.it
     have N:=newsF st fi ⟨hoi,hit⟩ F (news0 st N)
     have F:=fr0 st F
     have O:=Oth.next st O
     clear st)
  | (refine held 4 _ ?_
     rename Fr _ _ _ _=>F
     rename News _ _ _ _=>N
     (with_unfolding_all refine set_contains (lvl_deeper (by decide)) (inv_now B (by k_asm)) hset ?_)
     intro cq sd st hcq fq
     have N:=news0 st N
     have hset:=hset.step st nM
     have F:=fr0 st F
     have O:=Oth.next st O
     clear st)
  | (refine held 3 _ ?_
     rename Fr _ _ _ _=>F
     rename News _ _ _ _=>N
     (with_reducible show wpAny _ _ (call (Value.type "set") [Value.ref u2]) _ _ _)
     (with_unfolding_all refine set_new rfl (inv_now B (by k_asm)) (l:=u2) (vs:=us2) (xs:=xs2) ?_ hs2 hb2 ?_)
     · exact ⟨_,(N (u2,_) (by k_mem)).1,rfl,_,rfl⟩
     intro sa sc st fa hset
     have qC {x1 x2 x3 x4 x5 x6 x7}:=hold 4 (wpAny x1 x2 (getAttr (Value.ref sa) x3 x4) x5 x6 x7)
     have N:=news0 st N
     have F:=fr0 st F
     have O:=Oth.next st O
     clear st)
  | (refine held 2 _ ?_
     (with_unfolding_all refine entry_new (lvl_deeper (by decide)) (inv_now B (by k_asm)) ?_)
     rename Fr _ _ _ _=>F
     rename News _ _ _ _=>N
     intro x d u r h1 h2 h3 h4 t1 t2 t3 t4 s' st ax ad au ar fx fd fu fr ndx ndu ndr nxu nxr nur
     have nx:=allNe_fresh fx N
     have nd:=allNe_fresh fd N
     have nu:=allNe_fresh fu N
     have nr:=allNe_fresh fr N
     have N:=newsF st fx ax F (newsF st fd ad F (newsF st fu au F (newsF st fr ar F (news0 st N))))
     have F:=fr0 st F
     have O:=Oth.next st O
     clear st ax ad au ar fx fd fu fr)
  | (refine held 1 _ ?_
     rename Fr _ _ _ _=>F
     rename News _ _ _ _=>N
     refine add_two F N (vs:=rs1) (ws:=rs2) (by k_mem) (by k_mem) hb3 ?_
     intro ra h' F N nra)) <;> k_steps)
 rename Fr _ _ _ _=>F
 rename News _ _ _ _=>N
 refine k x _ ?_ ⟨d,la,ra,_,_,_,_,_,_,_,_,_,_,_,Base.at B N (p:=(x,_)) (by k_mem),Base.at B N (p:=(d,_)) (by k_mem),Base.at B N (p:=(la,_)) (by k_mem),Base.at B N (p:=(ra,_)) (by k_mem)⟩ (base_fresh B (N (x,instObj 59 d) (by k_mem)).2.2 nx)
 refine Base.fin B [] F N O ?_
 exact fm8 (.inr (by k_mem)) (.inr (by k_mem)) (.inr (by k_mem)) (.inr (by k_mem)) (.inr (by k_mem)) (.inr (by k_mem)) (.inr (by k_mem)) (.inr (by k_mem)) (fun _ h=>nN h)
end
section
theorem pass_tag (k j c:Nat) (hk:k=1∨k=2) (hj:j≤2) (hc:c < 7):pass (tagOf k) (tagOf j ++ letter c)=(j == 0 || j == k):=by
 rcases hk with rfl | rfl
 · exact (by decide +kernel:∀ (j:Fin 3) (c:Fin 7),pass (tagOf 1) (tagOf j.1 ++ letter c.1)=(j.1 == 0 || j.1 == 1)) ⟨j,Nat.lt_succ_of_le hj⟩ ⟨c,hc⟩
 · exact (by decide +kernel:∀ (j:Fin 3) (c:Fin 7),pass (tagOf 2) (tagOf j.1 ++ letter c.1)=(j.1 == 0 || j.1 == 2)) ⟨j,Nat.lt_succ_of_le hj⟩ ⟨c,hc⟩
theorem cut_tag (j c:Nat) (hj:j≤2) (hc:c < 7):Txt.slice (tagOf j ++ letter c) (some 2) none=letter c:=(by decide +kernel:∀ (j:Fin 3) (c:Fin 7),Txt.slice (tagOf j.1 ++ letter c.1) (some 2) none=letter c.1) ⟨j,Nat.lt_succ_of_le hj⟩ ⟨c,hc⟩
noncomputable def sideL (own:Nat→Nat) (k:Nat):List Nat:=(List.range 7).filter fun c=>own c == 0 || own c == k
theorem restored_board {own:Nat→Nat} {k:Nat} (hown:∀ i,own i≤2) (hk:k=1∨k=2):restored (tagOf k) (boardT own ++ [("? ^":Str)])=(sideL own k).map letter:=by
 unfold restored boardT sideL
 have h9:pass (tagOf k) "? ^"=false:=by rcases hk with rfl | rfl <;> decide +kernel
 rw [List.filter_append,List.filter_cons_of_neg (by rw [h9];decide),List.filter_nil,List.append_nil]
 have key:∀ l:List Nat,(∀ c∈l,c < 7)→((l.map fun c=>tagOf (own c) ++ letter c).filter (pass (tagOf k))).map (fun x=>Txt.slice x (some 2) none)=(l.filter fun c=>own c == 0 || own c == k).map letter:=by
  intro l hl
  induction l with
  | nil=>rfl
  | cons a r ih =>
    have ha:=hl a (.head _)
    rw [List.map_cons,List.filter_cons,List.filter_cons,pass_tag k (own a) a hk (hown a) ha]
    have ih:=ih fun c hc=>hl c (.tail _ hc)
    cases hb:(own a == 0 || own a == k) with
    | true=>simp only [if_true,List.map_cons,cut_tag (own a) a (hown a) ha,ih]
    | false=>simp only [Bool.false_eq_true,if_false,ih]
 exact key _ fun c hc=>List.mem_range.mp hc
theorem strs_filter {ys:List Str}:∀ {vs:List Value} {xs:List Str},StrsAre vs xs→StrsAre (vs.filter (inS ys)) (xs.filter fun x=>ys.contains x)
 | _,_,.nil=>.nil
 | _,_,.cons x t r=>by
   rw [List.filter_cons,List.filter_cons]
   have e:inS ys (.str x t)=ys.contains x:=rfl
   rw [e]
   cases ys.contains x with
   | true=>exact .cons _ _ (strs_filter r)
   | false=>exact strs_filter r
theorem contains_map (l:List Nat) (c:Nat):(l.map letter).contains (letter c)=l.contains c:=by
 rw [Bool.eq_iff_iff,List.contains_iff_mem,List.contains_iff_mem,List.mem_map]
 exact ⟨fun ⟨d,hd,e⟩=>letter_inj e▸hd,fun h=>⟨c,h,rfl⟩⟩
theorem filter_map_letter (l r:List Nat):(l.map letter).filter (fun x=>(r.map letter).contains x)=(l.filter fun c=>r.contains c).map letter:=by
 rw [List.filter_map]
 congr 1
 apply List.filter_congr
 intro c _
 exact contains_map r c
theorem both_free {own:Nat→Nat} {k j:Nat} (h:(k=1∧j=2)∨(k=2∧j=1)):(sideL own k).filter (fun c=>(sideL own j).contains c)=tagL own 0:=by
 unfold sideL tagL
 rw [List.filter_filter]
 apply List.filter_congr
 intro c hc
 rw [Bool.eq_iff_iff,Bool.and_eq_true,List.contains_iff_mem,List.mem_filter]
 simp only [hc,true_and,Bool.or_eq_true,beq_iff_eq]
 omega
end
section
section
variable {w:World} {A:Around} {E:VP} {s:Shared}
theorem entry_keepL {s s':Shared} {L x:Nat} {T:List Addr} {m:Str→Option Value} {us rs:List Value} {dl rt:Value} (hn:s.heap.Ns L m) (hu:m sUA=none) (e:EntryAt s.heap x us rs dl rt) (y:Step w T s s') (hT:∀ b∈T,b=L∨b∈TB):EntryAt s'.heap x us rs dl rt:=by
 obtain ⟨d,u,r,h1,h2,h3,h4,t1,t2,t3,t4,m1,n,k,a,b,c,f⟩:=e
 have ndL:d∉T:=fun hm=>by
  rcases hT d hm with h | h
  · refine exE3 hn fun o es ep hh=>anE4 hh fun e hd _ hf=>?_;clear hh;try clear hn
    rw [← h,b.1] at e
    cases e
    cases hd
    have:=hf sUA
    rw [hu] at this
    cases this
  · exact absurd b.2 (Nat.not_le.mpr (tb250 d h))
 exact ⟨d,u,r,h1,h2,h3,h4,t1,t2,t3,t4,m1,n,k,at_keepL hn a y hT (fun _ _ h=>by cases h),b.keep y ndL,at_keepL hn c y hT list_nd,at_keepL hn f y hT list_nd⟩
theorem int_of_int {i:Int} {t:Tok}:IntOf w (.int i t) i:=fun A' Q E s hA h=>call_int_int (h _ s.toks)
theorem int_of_2 {t:Tok}:IntOf w (.str "2" t) 2:=fun A' Q E s hA h=>PySem.W.KIN.call_text (by decide +kernel) (by decide) (h _ _)
theorem int_of_1 {t:Tok}:IntOf w (.str "1" t) 1:=fun A' Q E s hA h=>PySem.W.KIN.call_text (by decide +kernel) (by decide) (h _ _)
theorem look1:lookup (.int 1) dD=some (.str (tagOf 1)):=by rfl
theorem look2:lookup (.int 2) dD=some (.str (tagOf 2)):=by rfl
theorem board_len (own:Nat→Nat):∀ x∈boardT own ++ [("? ^":Str)],x.length≤sizeLine:=by
 intro x hx
 rcases List.mem_append.mp hx with h | h
 · obtain ⟨c,_,rfl⟩:=List.mem_map.mp h
   have:(tagOf (own c) ++ letter c).length=(tagOf (own c)).length+(letter c).length:=Str.length_append _ _
   rw [this,tag_len,sizeLine_eq]
   exact Nat.le_of_ble_eq_true rfl
 · rw [mS h,sizeLine_eq];exact Nat.le_of_ble_eq_true rfl
theorem told_of {xs:List Str} {dl rt:Value} (h:ToldIs xs dl rt):Told dl rt:=by
 cases xs with
 | nil=>exact .inl h
 | cons x r=>refine exE2 h fun t t' hh=>anE2 hh fun h1 h2=>?_;clear hh;try clear h;exact .inr ⟨_,t,x,t',h1,h2⟩
theorem strs_val {vs:List Value} {xs:List Str} (h:StrsAre vs xs):∀ v∈vs,∃ x t,v=Value.str x t:=by
 induction h with
 | nil=>intro v hv;exact absurd hv nM
 | cons x t _ ih =>
   intro v hv
   rcases mC hv with rfl | hv
   · exact ⟨x,t,rfl⟩
   · exact ih v hv
theorem sideL_len (own:Nat→Nat) (k:Nat):(sideL own k).length≤7:=by
 unfold sideL
 exact Nat.le_trans (List.length_filter_le ..) (by simp)
theorem tagL_lt {own:Nat→Nat} {k:Nat}:∀ c∈tagL own k,c < 7:=fun c hc=>List.mem_range.mp (List.mem_filter.mp hc).1
theorem at_keepC {s s':Shared} {c a:Nat} {v:Option Value} {o:Obj} (hc:s.heap.IsCell c v) (x:At s.heap a o) (y:Step w [c] s s') (hd:∀ v,o.data≠.cell v):At s'.heap a o:=x.keep y fun hm=>cell_ne hc x.1 hd (mS hm).symm
theorem list_nc {xs:Array Value} {n:Nat}:∀ v,(listOf xs n).data≠.cell v:=fun _ h=>by cases h
theorem entry_keepC {s s':Shared} {c x:Nat} {v:Option Value} {us rs:List Value} {dl rt:Value} (hc:s.heap.IsCell c v) (e:EntryAt s.heap x us rs dl rt) (y:Step w [c] s s'):EntryAt s'.heap x us rs dl rt:=by
 obtain ⟨d,u,r,h1,h2,h3,h4,t1,t2,t3,t4,m1,n,k,a,b,e,f⟩:=e
 exact ⟨d,u,r,h1,h2,h3,h4,t1,t2,t3,t4,m1,n,k,at_keepC hc a y (fun _ h=>by cases h),at_keepC hc b y (fun _ h=>by cases h),at_keepC hc e y list_nc,at_keepC hc f y list_nc⟩
theorem ns_keepC {s s':Shared} {c L:Nat} {v:Option Value} {m:Str→Option Value} (hc:s.heap.IsCell c v) (hn:s.heap.Ns L m) (y:Step w [c] s s'):s'.heap.Ns L m:=hn.at' fun o e=>y.keep _ o e fun hm=>by
 refine exE3 hn fun o' es ep hh=>anE3 hh fun e' d _=>?_;clear hh;try clear hn
 exact cell_ne hc e' (fun v h=>by rw [d] at h;cases h) (mS hm).symm
theorem LawAt.cellset {s s':Shared} {G:Gh} {own:Nat→Nat} {psr:List (Str×Str)} {c:Nat} {v0 v:Option Value} (g:GhOk G) (x:LawAt w G own psr s) (hc:c∈[G.L+1+1+1+1,G.L+1+1+1+1+1,G.L+1+1+1+1+1+1]) (h0:s.heap.IsCell c v0) (y:Step w [c] s s') (hv:s'.heap.IsCell c v):LawAt w G own psr s':=by
 have hm:c∈mv G:=by
  simp only [List.mem_cons,nM,or_false] at hc
  simp only [mv,List.mem_cons,nM,or_false]
  rcases hc with h | h | h <;> simp [h]
 have h2:c≠G.X∧c≠G.O:=g.apart2 c (List.mem_cons_of_mem _ hc)
 have key:∀ {a:Nat},c≠a→a∉[c]:=fun h hm=>h (mS hm).symm
 refine exE2 x.row fun vs n hh=>anE2 hh fun hX hP=>?_;clear hh
 have cs:∀ {a:Nat},(∃ v,s.heap.IsCell a v)→∃ v,s'.heap.IsCell a v:=fun {a} ⟨va,ha⟩=>by
  by_cases q:c=a
  · subst q;exact ⟨v,hv⟩
  · exact ⟨va,cell_keep ha y (key q)⟩
 refine ⟨x.st.move g y fun a ha=>by rw [mS ha];exact List.mem_append_left _ hm,⟨vs,n,hX.keep y (key h2.1),hP.keep2 y fun a ha=>?_⟩,x.own.keep y (key h2.2),cs x.c4,cs x.c5,cs x.c6⟩
 obtain ⟨o,e,d⟩:=h0
 exact .inr ⟨o,by rw [mS ha];exact e,fun xs hxs=>by rw [hxs] at d;cases d⟩
theorem turn_b (l:Lvl A 600) {G:Gh} {own:Nat→Nat} {psr:List (Str×Str)} {m:Str→Option Value} {BD ON TH nb no nt:Nat} {vb vo vt:List Value} {Q:Flow→Shared→Prop} (g:GhOk G) (A0:LawAt w G own psr s) (hn:s.heap.Ns G.L m) (hu:m sUA=none) (hown:∀ i,own i≤2)
 (mb:m "board"=some (.ref BD)) (mo:m "ones"=some (.ref ON)) (mt:m "theirs"=some (.ref TH)) (hBD:At s.heap BD (listOf vb.toArray nb)) (hON:At s.heap ON (listOf vo.toArray no)) (hTH:At s.heap TH (listOf vt.toArray nt)) (hvb:StrsAre vb (boardT own ++ [("? ^":Str)])) (hvo:StrsAre vo ((tagL own 1).map letter)) (hvt:StrsAre vt ((tagL own 2).map letter))
 (h1:(tagL own 1).length≤3) (h2:(tagL own 2).length≤3)
 (k:∀ (s':Shared) (MI YO FR BA:Nat) (um uy uf ub:List Value) (dl1 rt1 dl2 rt2:Value),Step w [G.L,G.L+1+1+1+1,G.L+1+1+1+1+1] s s'→LawAt w G own psr s'→s'.heap.Ns G.L (upd (upd m "mine" (.ref MI)) "back" (.ref BA))→s'.heap.IsCell (G.L+1+1+1+1) (some (.ref YO))→s'.heap.IsCell (G.L+1+1+1+1+1) (some (.ref FR)) →
   EntryAt s'.heap MI um (vo ++ vo) dl1 rt1→EntryAt s'.heap YO uy (vt ++ vt) dl2 rt2→EntryAt s'.heap FR uf ((vo ++ vo) ++ (vt ++ vt)) (orElse dl2 dl1) (orElse rt2 rt1)→EntryAt s'.heap BA ub ((vt ++ vt) ++ (vo ++ vo)) (orElse dl1 dl2) (orElse rt1 rt2) →
   StrsAre um ((sideL own 1).map letter)→StrsAre uy ((sideL own 2).map letter)→StrsAre uf ((tagL own 0).map letter)→StrsAre ub ((tagL own 0).map letter)→ToldIs ((tagL own 1).map letter) dl1 rt1→ToldIs ((tagL own 2).map letter) dl2 rt2 →
   wpAny (model prog w) A (execs (turnBody.drop 8) (lawEnv G.L)) Q E s') :
 wpAny (model prog w) A (execs (turnBody.drop 4) (lawEnv G.L)) Q E s:=by
 show wpAny _ _ (execs (_ :: _ :: _ :: _ :: turnBody.drop 8) _) _ _ _
 have hL:=g.hL
 have I:=A0.st.inv
 have hbl:(boardT own ++ [("? ^":Str)]).length≤sizeLine:=by
  rw [sizeLine_eq,List.length_append,boardT,List.length_map,List.length_range];exact Nat.le_of_ble_eq_true rfl
 refine wpAny_execs_cons (asg_S rfl hL rfl rfl ?_)
 refine wpAny_Call_NameR (name_global (v:=.ref 232) I rfl rfl rfl (by k_is) (by decide) ?_)
 refine fn_S (by k_is) rfl (spliced_cons (law_loc hn rfl mb (by decide) (spliced_cons (wpAny_Constant_int (k:=0) (pos:=p0) (spliced_cons (law_loc (s:=⟨s.heap,_,_,_,_⟩) hn rfl mo (by decide) (spliced_nil ⟨I,?_⟩)))))))
 refine side_spec (n:=nb) (k:=no) l ?hi ?hl hvb (board_len own) hbl int_of_int look1 ?ho hvo ?hok (by rw [List.length_map];exact h1) ?hk
 case hi=>exact I
 case hl=>exact hBD
 case ho=>exact hON
 case hok=>exact letters_ok _ tagL_lt
 intro MI um dl1 rt1 s1 y1 hum ht1 hMI fMI
 rw [restored_board hown (.inl rfl)] at hum
 have y01:Step w [] s s1:=((Step.refl I).toks _).trans y1 fun a h=>.inl h
 have hn1:=hn.at' fun o e=>y01.keep _ o e nM
 have A1:=A0.quiet g hn y01 noneL
 refine ⟨y1.inv,m,hn1,fun s2 y2 hn2=>?_⟩
 have A2:=A1.quiet g hn1 y2 oneL
 have y02:Step w [G.L] s s2:=(y01.wide fun a h=>nN h).trans y2 fun a h=>.inl h
 have hMI2:=entry_keepL hn1 hu hMI y2 oneL
 have hBD2:=at_keepL hn hBD y02 oneL list_nd
 have hTH2:=at_keepL hn hTH y02 oneL list_nd
 have hu2:upd m "mine" (.ref MI) sUA=none:=(upd_ne _ _ (by decide)).trans hu
 have I2:=A2.st.inv
 have mb2:upd m "mine" (.ref MI) "board"=some (.ref BD):=(upd_ne _ _ (by decide)).trans mb
 have mt2:upd m "mine" (.ref MI) "theirs"=some (.ref TH):=(upd_ne _ _ (by decide)).trans mt
 refine wpAny_execs_cons (casg_S rfl rfl (cells_law G.L).2.2.2.1 (Nat.le_trans hL (Nat.le_add_right _ 4)) ?_)
 refine wpAny_Call_NameR (name_global (v:=.ref 232) I2 rfl rfl rfl (by k_is) (by decide) ?_)
 refine fn_S (by k_is) rfl (spliced_cons (law_loc hn2 rfl mb2 (by decide) (spliced_cons (Constant_str (k:=0) (pos:=p0) (spliced_cons (law_loc (s:=⟨s2.heap,_,_,_,_⟩) hn2 rfl mt2 (by decide) (spliced_nil ⟨I2,?_⟩)))))))
 refine side_spec (n:=nb) (k:=nt) l ?gi ?gl hvb (board_len own) hbl int_of_2 look2 ?go hvt ?gok (by rw [List.length_map];exact h2) ?gk
 case gi=>exact I2
 case gl=>exact hBD2
 case go=>exact hTH2
 case gok=>exact letters_ok _ tagL_lt
 intro YO uy dl2 rt2 s3 y3 huy ht2 hYO fYO
 rw [restored_board hown (.inr rfl)] at huy
 have y23:Step w [] s2 s3:=((Step.refl I2).toks _).trans y3 fun a h=>.inl h
 have hn3:=hn2.at' fun o e=>y23.keep _ o e nM
 have A3:=A2.quiet g hn2 y23 noneL
 obtain ⟨v4,c43⟩:=A3.c4
 refine ⟨y3.inv,⟨_,c43⟩,fun s4 y4 d4=>?_⟩
 have A4:=A3.cellset g (.head _) c43 y4 d4
 have hn4:=ns_keepC c43 hn3 y4
 have hMI4:=entry_keepC c43 (entry_keepL hn2 hu2 hMI2 y23 noneL) y4
 have hYO4:=entry_keepC c43 hYO y4
 have I4:=A4.st.inv
 have mm4:upd m "mine" (.ref MI) "mine"=some (.ref MI):=upd_self _ _ _
 have humv:=strs_val hum
 have huyv:=strs_val huy
 have lum:um.length≤7:=by rw [StrsAre.len_eq hum,List.length_map];exact sideL_len own 1
 have luy:uy.length≤7:=by rw [StrsAre.len_eq huy,List.length_map];exact sideL_len own 2
 have lvo:vo.length≤3:=by rw [StrsAre.len_eq hvo,List.length_map];exact h1
 have lvt:vt.length≤3:=by rw [StrsAre.len_eq hvt,List.length_map];exact h2
 have sc:∀ k,((sideL own k).map letter).length+1 < scanBound:=fun k=>by
  rw [List.length_map]
  exact Nat.lt_of_le_of_lt (Nat.succ_le_succ (sideL_len own k)) (by decide)
 refine wpAny_execs_cons (casg_S rfl rfl (cells_law G.L).2.2.2.2.1 (Nat.le_trans hL (Nat.le_add_right _ 5)) ?_)
 refine wpAny_Call_NameR (name_global (v:=.ref 70) I4 rfl rfl rfl (by k_is) (by decide) ?_)
 refine fn_S (by k_is) rfl (spliced_cons (law_loc hn4 rfl mm4 (by decide) (spliced_cons (law_cell rfl (cells_law G.L).2.2.2.1 d4 (by decide) (spliced_nil ⟨I4,?_⟩)))))
 refine merge_spec (l.up (by decide)) I4 MI YO um uy (vo ++ vo) (vt ++ vt) dl1 rt1 dl2 rt2 hMI4 hYO4 (told_of ht1) (told_of ht2) _ huy (sc 2) humv (by rw [sizeLine_eq];omega) (by rw [sizeLine_eq,List.length_append,List.length_append];omega) fun FR s5 y5 hFR fFR=>?_
 have hn5:=hn4.at' fun o e=>y5.keep _ o e nM
 have A5:=A4.quiet g hn4 y5 noneL
 obtain ⟨v5,c55⟩:=A5.c5
 refine ⟨y5.inv,⟨_,c55⟩,fun s6 y6 d6=>?_⟩
 have A6:=A5.cellset g (.tail _ (.head _)) c55 y6 d6
 have hn6:=ns_keepC c55 hn5 y6
 have d46:=cell_keep (cell_keep d4 y5 nM) y6 (fun hm=>absurd (mS hm) (Nat.ne_of_lt (Nat.lt_succ_self _)))
 have hMI6:=entry_keepC c55 (entry_keepL hn4 hu2 hMI4 y5 noneL) y6
 have hYO6:=entry_keepC c55 (entry_keepL hn4 hu2 hYO4 y5 noneL) y6
 have hFR6:=entry_keepC c55 hFR y6
 have I6:=A6.st.inv
 refine wpAny_execs_cons (asg_S rfl hL rfl rfl ?_)
 refine wpAny_Call_NameR (name_global (v:=.ref 70) I6 rfl rfl rfl (by k_is) (by decide) ?_)
 refine fn_S (by k_is) rfl (spliced_cons (law_cell rfl (cells_law G.L).2.2.2.1 d46 (by decide) (spliced_cons (law_loc hn6 rfl mm4 (by decide) (spliced_nil ⟨I6,?_⟩)))))
 refine merge_spec (l.up (by decide)) I6 YO MI uy um (vt ++ vt) (vo ++ vo) dl2 rt2 dl1 rt1 hYO6 hMI6 (told_of ht2) (told_of ht1) _ hum (sc 1) huyv (by rw [sizeLine_eq];omega) (by rw [sizeLine_eq,List.length_append,List.length_append];omega) fun BA s7 y7 hBA fBA=>?_
 have hn7:=hn6.at' fun o e=>y7.keep _ o e nM
 have A7:=A6.quiet g hn6 y7 noneL
 refine ⟨y7.inv,_,hn7,fun s8 y8 hn8=>?_⟩
 have A8:=A7.quiet g hn7 y8 oneL
 have huf:StrsAre (um.filter (inS ((sideL own 2).map letter))) ((tagL own 0).map letter):=by
  have:=strs_filter (ys:=(sideL own 2).map letter) hum
  rw [filter_map_letter,both_free (.inl ⟨rfl,rfl⟩)] at this
  exact this
 have hub:StrsAre (uy.filter (inS ((sideL own 1).map letter))) ((tagL own 0).map letter):=by
  have:=strs_filter (ys:=(sideL own 1).map letter) huy
  rw [filter_map_letter,both_free (.inr ⟨rfl,rfl⟩)] at this
  exact this
 have nl:∀ {j:Nat},j≠0→(G.L+j:Nat)∉[G.L]:=fun hj hm=>hj (by have:=mS hm;omega)
 have d48:=cell_keep (cell_keep d46 y7 nM) y8 (nl (j:=4) (by decide))
 have d68:=cell_keep (cell_keep d6 y7 nM) y8 (nl (j:=5) (by decide))
 have e1:=entry_keepL hn7 hu2 (entry_keepL hn6 hu2 hMI6 y7 noneL) y8 oneL
 have e2:=entry_keepL hn7 hu2 (entry_keepL hn6 hu2 hYO6 y7 noneL) y8 oneL
 have e3:=entry_keepL hn7 hu2 (entry_keepL hn6 hu2 hFR6 y7 noneL) y8 oneL
 have e4:=entry_keepL hn7 hu2 hBA y8 oneL
 have m0:∀ {x:Nat},∀ a∈[G.L],a∈[G.L,G.L+1+1+1+1,G.L+1+1+1+1+1]∨s.heap.get? a=none:=fun a ha=>.inl (by rw [mS ha];exact .head _)
 have yAll:Step w [G.L,G.L+1+1+1+1,G.L+1+1+1+1+1] s s8:=by
  have z1:=y02.wide (T':=[G.L,G.L+1+1+1+1,G.L+1+1+1+1+1]) fun a ha=>.inl (by rw [mS ha];exact .head _)
  have z2:=z1.trans y23 fun a h=>nN h
  have z3:=z2.trans y4 fun a ha=>.inl (by rw [mS ha];exact .tail _ (.head _))
  have z4:=z3.trans y5 fun a h=>nN h
  have z5:=z4.trans y6 fun a ha=>.inl (by rw [mS ha];exact .tail _ (.tail _ (.head _)))
  have z6:=z5.trans y7 fun a h=>nN h
  exact z6.trans y8 fun a ha=>.inl (by rw [mS ha];exact .head _)
 exact k s8 MI YO FR BA um uy _ _ dl1 rt1 dl2 rt2 yAll A8 hn8 d48 d68 e1 e2 e3 e4 hum huy huf hub ht1 ht2
end
end
section
section
variable {w:World} {A:Around} {E:VP} {s:Shared} {Q:VP}
theorem strs_getA {vs:List Value} {xs:List Str} (h:StrsAre vs xs) {i:Nat} {v:Value} (e:vs[i]? = some v):∃ x t,v=.str x t∧xs[i]? = some x:=by
 obtain ⟨hl,t,q⟩:=strs_at h i v (by simpa using e)
 exact exI2 _ t (anI2 q (List.getElem?_eq_getElem hl))
theorem applies_none (l:Lvl A 800) (I:Inv w s.heap) {x:Addr} {us rs:List Value} {dl rt:Value} {xs:List Str} (e:EntryAt s.heap x us rs dl rt) (hs:StrsAre us xs)
 (k:∀ b s',b=xs.any (fun x=>x == "*")→Step w [] s s'→Q (.bool b) s'):wpAny (model prog w) A (call (.ref 49) [.ref x,.none]) Q E s:=by
 obtain ⟨d1,u1,r1,h1,h2,h3,h4,t1,t2,t3,t4,m1,n1,n2,o1,o2,o3,o4⟩:=e
 refine weaken l fun fr gd=>?_
 refine enter (args:=⟨[.ref x,.none],[]⟩) [(x,instObj 59 d1),(d1,dictOf (ent h1 h2 h3 h4 t1 t2 t3 t4 (.ref u1) (.ref r1) dl rt) m1),(u1,listOf us.toArray n1)] I ?_ (by k_is) (by k_is) (by show (800:Nat) < 1000;decide) (BindsTo.of_eq rfl) (locs rfl) ?_ (by decide)
 · exact fm3 ⟨o1,rfl⟩ ⟨o2,rfl⟩ ⟨o3,rfl⟩ (fun _ h=>nN h)
 intro g L h₁ loose mean mg mb B F N X T
 dsimp only
 k_fold
 have O:Oth s s:=Oth.refl
 k_steps
 rename Fr _ _ _ _=>F
 rename News _ _ _ _=>N
 show Q (.bool (xs.any fun x=>x == "*")) _
 refine k _ _ rfl (Base.fin B [] F N O ?_)
 exact fm3 (.inr (by k_mem)) (.inr (by k_mem)) (.inr (by k_mem)) (fun _ h=>nN h)
noncomputable def hits (p:Str) (a:Str):Bool:=(a != ("*":Str)) && Txt.contains (Txt.lower p) (Txt.lower a)
theorem applies_str (l:Lvl A 800) (I:Inv w s.heap) {x:Addr} {us rs:List Value} {dl rt:Value} {xs:List Str} {y:Str} {t:Tok} (e:EntryAt s.heap x us rs dl rt) (hs:StrsAre us xs) {p0:Str} {pr:List Str} (hsp:Txt.split y "/"=p0 :: pr) (hsz:y.length+2≤sizeLine) (hp0:p0.length≤5592405) (hxs:∀ x∈xs,x.length≤5592405)
 (k:∀ b s',b=xs.any (hits p0)→Step w [] s s'→Q (.bool b) s'):wpAny (model prog w) A (call (.ref 49) [.ref x,.str y t]) Q E s:=by
 obtain ⟨d1,u1,r1,h1,h2,h3,h4,t1,t2,t3,t4,m1,n1,n2,o1,o2,o3,o4⟩:=e
 refine weaken l fun fr gd=>?_
 refine enter (args:=⟨[.ref x,.str y t],[]⟩) [(x,instObj 59 d1),(d1,dictOf (ent h1 h2 h3 h4 t1 t2 t3 t4 (.ref u1) (.ref r1) dl rt) m1),(u1,listOf us.toArray n1)] I ?_ (by k_is) (by k_is) (by show (800:Nat) < 1000;decide) (BindsTo.of_eq rfl) (locs rfl) ?_ (by decide)
 · exact fm3 ⟨o1,rfl⟩ ⟨o2,rfl⟩ ⟨o3,rfl⟩ (fun _ h=>nN h)
 intro g L h₁ loose mean mg mb B F N X T
 dsimp only
 k_fold
 have O:Oth s s:=Oth.refl
 obtain ⟨HH,hold,held⟩:=holds
 have qC {x1 x2 x3 x4 x5 x6 x7 x8 x9 y1 y2 y3}:=hold 20 (wpAny x1 x2 (exec (Stmt.For (Expr.Name x3 x4) x5 (x6 :: x7) [] x8) x9) y1 y2 y3)
 have qD {x1 x2 x3 x4 x5 x6}:=hold 22 (wpAny x1 x2 (call (Value.builtin "str.lower") x3) x4 x5 x6)
 have qA {x1 x2 x3 x4 x5}:=hold 2 (wpAny x1 x2 (pyIter (Value.ref u1)) x3 x4 x5)
 have qB {x1 x2 x3 x4 x5 x6}:=hold 1 (wpAny x1 x2 (call (Value.builtin "str.split") x3) x4 x5 x6)
 k_steps
 repeat' ((first
  | (refine held 20 _ ?_
     k_dflt (refine wpAny_For ?_ (by intro _;rfl)))
  | (refine held 22 _ ?_
     (try dsimp only)
     refine SCL.lower (by first | exact hp0 | exact hag) ?_
     intro _)
  | (refine held 2 _ ?_
     rename Fr _ _ _ _=>F
     rename News _ _ _ _=>N
     refine iter_list_K (vs:=us) (nl:=n1) F N (by k_mem) ?_
     intro it h' F N nit itL itg itst)
  | (refine held 1 _ ?_
     rename Fr _ _ _ _=>F
     rename News _ _ _ _=>N
     refine KSpl.split1 F N (by decide) ?_ hsz
     intro D' l' h' k' e' a' F N l1
     have nD:=allNe_lt l1
     rw [show Txt.split y (Str.ofString "/")=p0 :: pr from hsp] at e'
     obtain ⟨tp,lr,rfl,er⟩:=KSpl.cons_of e'
     simp only [strValues,List.map_cons] at N)) <;> k_steps)
 refine for_list_K (vs:=us) (nl:=n1) (s₀:=s) rfl ?_ [(x,instObj 59 d1),(d1,dictOf (ent h1 h2 h3 h4 t1 t2 t3 t4 (.ref u1) (.ref r1) dl rt) m1)]
  (fun i m _=>m "self"=some (.ref x)∧(∃ tu,m "useragent"=some (.str (Txt.lower p0) tu))∧(xs.take i).any (hits p0)=false) itst F N nit itL itg ?_ ?_ ?_ ?_ ?_
 · exact fun e=>allNe_find nit (show (u1,_)∈_ by k_mem) e.symm
 · exact fm3 (by k_mem) (by k_mem) (by k_mem) (fun _ h=>nN h)
 · exact O
 · exact ⟨rfl,⟨_,rfl⟩,rfl⟩
 · intro i v s m news o hi F N nI kp O hJ
   obtain ⟨j1,⟨tu,nm2⟩,j3⟩:=hJ
   refine exE2 (strs_getA hs hi) fun ag ta hh=>anE2 hh fun z2 ea=>?_;clear hh;rcases z2 with rfl
   have hag:=hxs ag (List.mem_of_getElem? ea)
   k_unmd
   k_fold
   have next:hits p0 ag=false→(List.take (i+1) xs).any (hits p0)=false:=fun e=>by
    rw [List.take_add_one,ea,List.any_append,j3,Option.toList_some,List.any_cons,e];rfl
   obtain ⟨HH,hold,held⟩:=holds
   have qA {x1 x2 x3 x4 x5 x6}:=hold 22 (wpAny x1 x2 (call (Value.builtin "str.lower") x3) x4 x5 x6)
   k_steps
   repeat' ((first
    | (refine held 22 _ ?_
       (try dsimp only)
       refine SCL.lower (by first | exact hp0 | exact hag) ?_
       intro _)) <;> k_steps)
   all_goals (rename Fr _ _ _ _=>F;rename News _ _ _ _=>N)
   all_goals first
    | (show Q (.bool true) _
       refine k _ _ (Eq.symm (List.any_eq_true.mpr ⟨ag,List.mem_of_getElem? ea,?_⟩)) (Base.fin B [] F N O ?_)
       · rw [hits,Txt.contains,(by assumption:(Builtin.Str.occurrences _ _ 0 _ 1).isEmpty=false),(by assumption:(ag != _)=true)];rfl
       · exact fm3 (.inr (.tail _ (kp _ (by k_mem)))) (.inr (.tail _ (kp _ (by k_mem)))) (.inr (.tail _ (kp _ (by k_mem)))) (fun _ h=>nN h))
    | (refine exI2 _ news (anI6 F N nI kp O ⟨j1,⟨tu,nm2⟩,next ?_⟩)
       first
       | (rw [hits,(by assumption:(ag != _)=false)];rfl)
       | (rw [hits,Txt.contains,(by assumption:(Builtin.Str.occurrences _ _ 0 _ 1).isEmpty=true),(by assumption:(ag != _)=true)];rfl))
 · intro s m news F N kp O hJ
   obtain ⟨j1,⟨tu,nm2⟩,j3⟩:=hJ
   k_steps
   show Q (.bool false) _
   rw [List.take_of_length_le (Nat.le_of_eq (StrsAre.len_eq hs).symm)] at j3
   refine k _ _ j3.symm (Base.fin B [] F N O ?_)
   exact fm3 (.inr (kp _ (by k_mem))) (.inr (kp _ (by k_mem))) (.inr (kp _ (by k_mem))) (fun _ h=>nN h)
end
end
section
noncomputable def RulesAt (w:World) (h:Heap):List Value→List (Int×Str)→Prop
 | [],[]=>True
 | v :: vs,r :: rs=>(∃ x,v=.ref x∧RuleAt w h x r.1 r.2)∧RulesAt w h vs rs
 | _,_=>False
inductive RuleIn (w:World) (h:Heap) (led:List (Addr×Obj)) (x:Addr) (far:Int) (v:Str):Prop
 | mk (d u r f:Addr) (h1 h2 h3 h4 h5 h6:Int) (t1 t2 t3 t4 t5 t6 tv:Tok) (m:Nat) (fd:FuncData) (objs:List (Addr×Obj))
   (e1:(x,instObj 59 d)∈led) (e2:(d,dictOf (rent h1 h2 h3 h4 h5 h6 t1 t2 t3 t4 t5 t6 u r f (.str v tv)) m)∈led) (e3:(f,(⟨.type "function",none,.func fd,#[]⟩:Obj))∈led) (e4:(∀ p∈objs,At h p.1 p.2)) (e5:Reaches w f far objs):RuleIn w h led x far v
theorem rules_led {w:World} {h:Heap}:∀ {vs:List Value} {rs:List (Int×Str)},RulesAt w h vs rs →
 ∃ led:List (Addr×Obj),(∀ p∈led,At h p.1 p.2∧isMut p.2=true)∧∀ (i:Nat) (v:Value),vs[i]? = some v→∃ r x,rs[i]? = some r∧v=.ref x∧RuleIn w h led x r.1 r.2:=by
 intro vs
 induction vs with
 | nil=>intro rs _;exact ⟨[],fun _ h=>nN h,fun i v e=>by simp at e⟩
 | cons v vs ih =>
   intro rs H
   cases rs with
   | nil=>exact H.elim
   | cons r rs =>
     obtain ⟨⟨x,rfl,R⟩,H⟩:=H
     obtain ⟨led,a,b⟩:=ih H
     obtain ⟨d,u,rr,f,h1,h2,h3,h4,h5,h6,t1,t2,t3,t4,t5,t6,tv,m,fd,objs,a1,a2,a3,a4,a5⟩:=R
     refine ⟨(x,instObj 59 d) :: (d,dictOf (rent h1 h2 h3 h4 h5 h6 t1 t2 t3 t4 t5 t6 u rr f (.str r.2 tv)) m) :: (f,⟨.type "function",none,.func fd,#[]⟩) :: led,?_,?_⟩
     · exact fm3 ⟨a1,rfl⟩ ⟨a2,rfl⟩ ⟨a3,rfl⟩ a
     · intro i v e
       cases i with
       | zero =>
         cases e
         exact ⟨r,x,rfl,rfl,d,u,rr,f,h1,h2,h3,h4,h5,h6,t1,t2,t3,t4,t5,t6,tv,m,fd,objs,.head _,.tail _ (.head _),.tail _ (.tail _ (.head _)),fun p hp=>(a4 p hp).1,a5⟩
       | succ i =>
         obtain ⟨r',x',e1,e2,d,u,rr,f,h1,h2,h3,h4,h5,h6,t1,t2,t3,t4,t5,t6,tv,m,fd,objs,b1,b2,b3,b4,b5⟩:=b i v (by simpa using e)
         exact ⟨r',x',by simpa using e1,e2,d,u,rr,f,h1,h2,h3,h4,h5,h6,t1,t2,t3,t4,t5,t6,tv,m,fd,objs,.tail _ (.tail _ (.tail _ b1)),.tail _ (.tail _ (.tail _ b2)),.tail _ (.tail _ (.tail _ b3)),b4,b5⟩
noncomputable def falsy:Option Str→Bool
 | none=>false
 | some x=>x.length == 0
noncomputable def allowStep (a:Int×Option Str) (r:Int×Str):Int×Option Str :=
 if r.1=0 then a else if a.1 < r.1 then (r.1,some r.2) else if r.1=a.1∧falsy a.2=true then (a.1,some r.2) else a
noncomputable def allowOf (rs:List (Int×Str)):Int×Option Str:=rs.foldl allowStep (-1,none)
theorem allow_mem (b:Nat):∀ (rs:List (Int×Str)) (a:Int×Option Str),(∀ z,a.2=some z→z.length≤b)→(∀ r∈rs,r.2.length≤b)→∀ z,(rs.foldl allowStep a).2=some z→z.length≤b:=by
 intro rs
 induction rs with
 | nil=>intro a h _ z e;exact h z e
 | cons r rs ih =>
   intro a h hr z e
   refine ih (allowStep a r) (fun z e=>?_) (fun q hq=>hr q (.tail _ hq)) z e
   unfold allowStep at e
   have h1:=hr r (.head _)
   split at e
   · exact h z e
   · split at e
     · cases e;exact h1
     · split at e
       · cases e;exact h1
       · exact h z e
theorem as_skip {a:Int×Option Str} {r:Int×Str} (h:r.1=0):allowStep a r=a:=if_pos h
theorem as_up {a:Int×Option Str} {r:Int×Str} (h:r.1≠0) (h2:a.1 < r.1):allowStep a r=(r.1,some r.2):=by unfold allowStep;rw [if_neg h,if_pos h2]
theorem as_eq {a:Int×Option Str} {r:Int×Str} (h:r.1≠0) (h2:¬ a.1 < r.1) (h3:r.1=a.1) (h4:falsy a.2=true):allowStep a r=(a.1,some r.2):=by
 unfold allowStep;rw [if_neg h,if_neg h2,if_pos ⟨h3,h4⟩]
theorem as_no {a:Int×Option Str} {r:Int×Str} (h2:¬ a.1 < r.1) (h4:falsy a.2=false):allowStep a r=a:=by
 by_cases hz:r.1=0
 · exact if_pos hz
 · unfold allowStep
   rw [if_neg hz,if_neg h2,if_neg]
   rintro ⟨_,e⟩
   rw [h4] at e
   exact Bool.false_ne_true e
theorem as_no2 {a:Int×Option Str} {r:Int×Str} (h2:¬ a.1 < r.1) (h4:¬ r.1=a.1):allowStep a r=a:=by
 by_cases hz:r.1=0
 · exact if_pos hz
 · unfold allowStep
   rw [if_neg hz,if_neg h2,if_neg]
   rintro ⟨e,_⟩
   exact h4 e
noncomputable def AllowIs (o:Option Str) (v:Value):Prop:=match o with
 | none=>v=.bool true
 | some x=>∃ t,v=.str x t
section
open PySem.W
theorem method_shadow {prog:Program} {w:World} {A:Around} {E:VP} {s:Shared} {K:Frag} {name:Str} {x C:Addr} {ox:Obj} {o:Obj} {pl:Sem Bool} {Q:Value×List Value→Shared→Prop} {f:Addr} (X:K.In s.heap) (I:InstAt s.heap x ox C (some o)) (hga:findIn K (.ref C) "__getattribute__"=some (some (.builtin "object.__getattribute__"))) (hk:findIn K (.ref C) "__getattr__"=some none)
 (hf:findIn K (.ref C) name=some (some (.ref f))) (ht:typeIn K (.ref f)=some (.type "function")) (hs:shadowIn (some o) name=some true) (h:wpAny (model prog w) A (getAttr (.ref x) name) (fun v=>Q (v,[])) E s) :
 wpAny (model prog w) A (getMethod (.ref x) name pl) Q E s:=by
 have hcan:=PySem.F.canon_object_ga
 unfold getMethod specialOf
 refine wpAny_bind (wpAny_bind (I.type.here ((looks_findIn X hga).here ?_)))
 dsimp only
 rw [hcan,if_neg (by decide)]
 refine wpAny_bind (wpAny_bind (I.type.here ((looks_findIn X hk).here ?_)))
 refine wpAny_bind (wpAny_bind (I.type.here ((looks_findIn X hf).here (wpAny_bind ((looks_typeIn X ht).here ?_)))))
 rw [if_neg (by decide +kernel)]
 refine wpAny_bind (wpAny_loadPart I.at_ ?_)
 have hd:=I.dict
 cases e:ox.dict with
 | none=>rw [e] at hd;exact hd.elim
 | some dx =>
   rw [e] at hd
   obtain ⟨r,a,b⟩:=Option.map_eq_some_iff.mp hs
   refine wpAny_bind (wpAny_bind (wpAny_loadPart hd ?_))
   rw [nsLook_of a]
   refine wpAny_pure ?_
   rw [b]
   exact wpAny_bind (wpAny_mono h (fun _ _ z=>wpAny_pure z) fun _ _ z=>z)
theorem get_shadow {prog:Program} {w:World} {A:Around} {E:VP} {s:Shared} {K:Frag} {name:Str} {x C:Addr} {ox:Obj} {o:Obj} {expr:Bool} {Q:VP} {a g v:Value} (X:K.In s.heap) (I:InstAt s.heap x ox C (some o)) (hg:plainGet K C name=true) (hh:hasDictIn K C=true)
 (ha:findIn K (.ref C) name=some (some a)) (hn:specialIn K a "__get__"=some (some g)) (ht:takesIn K a=some false) (hl:lookIn name o=some (some v)) (hv:handedIn v=true) (h:Q v { s with toks:=s.toks+1 }) :
 wpAny (model prog w) A (getAttr (.ref x) name expr) Q E s:=by
 refine get_value X I (plainGet_of hg).1 (v:=v) ?_ hv h
 obtain ⟨cd,hc,hd⟩:=any_some hh
 unfold findObj
 rw [hc,Option.bind_some,ha,Option.bind_some]
 have ho:PySem.W.ownOf cd (some o) name=some (some v):=by unfold PySem.W.ownOf;rw [if_pos hd];exact hl
 simp [hn,ht,ho]
end
section
variable {w:World} {A:Around} {E:VP} {s:Shared} {Q:VP}
theorem news_sub' {g h:Heap} {L:Addr} {l l':List (Addr×Obj)} (N:News g L h l) (k:∀ p∈l',p∈l):News g L h l':=fun p hp=>N p (k p hp)
theorem truthy_allow {o:Option Str} {va:Value} {Q:Bool→Shared→Prop} (h:AllowIs o va) (hz:∀ z,o=some z→z.length≤sizeLine) (k:∀ tk,Q (!falsy o) { s with toks:=tk }):wpAny (model prog w) A (truthy va) Q E s:=by
 cases o with
 | none=>cases h;exact wpAny_truthy_bool (k s.toks)
 | some z =>
   obtain ⟨t,rfl⟩:=h
   have h2:sizeLine≤2 ^ 24:=by rw [sizeLine_eq];decide
   have h3:=hz z rfl
   refine P.truthy_str (by omega) ?_
   have e:((z.length:Int) != 0)=!falsy (some z):=by
    show ((z.length:Int) != 0)=!(z.length == 0)
    rw [bne,Bool.not_inj_iff]
    exact Bool.eq_iff_iff.mpr ⟨fun q=>beq_iff_eq.mpr (Int.ofNat_eq_zero.mp (beq_iff_eq.mp q)),fun q=>beq_iff_eq.mpr (Int.ofNat_eq_zero.mpr (beq_iff_eq.mp q))⟩
   rw [e]
   exact k _
theorem allowance_spec (l:Lvl A 700) (I:Inv w s.heap) {x:Addr} {us vs:List Value} {dl rt:Value} {rs:List (Int×Str)} (e:EntryAt s.heap x us vs dl rt) (hR:RulesAt w s.heap vs rs) (hlen:vs.length=rs.length) (hb:∀ r∈rs,r.2.length≤sizeLine) {y:Str} {ty:Tok}
 (k:∀ v s',Step w [] s s'→AllowIs (allowOf rs).2 v→Q v s'):wpAny (model prog w) A (call (.ref 56) [.ref x,.str y ty]) Q E s:=by
 obtain ⟨d1,u1,r1,h1,h2,h3,h4,t1,t2,t3,t4,m1,n1,n2,o1,o2,o3,o4⟩:=e
 obtain ⟨led,la,lb⟩:=rules_led hR
 refine weaken l fun fr gd=>?_
 refine enter (args:=⟨[.ref x,.str y ty],[]⟩) ((x,instObj 59 d1) :: (d1,dictOf (ent h1 h2 h3 h4 t1 t2 t3 t4 (.ref u1) (.ref r1) dl rt) m1) :: (r1,listOf vs.toArray n2) :: led) I ?_ (by k_is) (by k_is) (by show (700:Nat) < 1000;decide) (BindsTo.of_eq rfl) (locs rfl) ?_ (by decide)
 · exact fm3 ⟨o1,rfl⟩ ⟨o2,rfl⟩ ⟨o4,rfl⟩ la
 intro g L h₁ loose mean mg mb B F N X T
 dsimp only
 k_fold
 have O:Oth s s:=Oth.refl
 obtain ⟨HH,hold,held⟩:=holds
 have qB {x1 x2 x3 x4 x5 x6 x7 x8 x9 y1 y2 y3}:=hold 20 (wpAny x1 x2 (exec (Stmt.For (Expr.Name x3 x4) x5 (x6 :: x7) [] x8) x9) y1 y2 y3)
 have qA {x1 x2 x3 x4 x5}:=hold 1 (wpAny x1 x2 (pyIter (Value.ref r1)) x3 x4 x5)
 k_steps
 repeat' ((first
  | (refine held 20 _ ?_
     k_dflt (refine wpAny_For ?_ (by intro _;rfl)))
  | (refine held 1 _ ?_
     rename Fr _ _ _ _=>F
     rename News _ _ _ _=>N
     refine iter_list_K (vs:=vs) (nl:=n2) F N (by k_mem) ?_
     intro it h' F N nit itL itg itst)) <;> k_steps)
 refine for_list_K (vs:=vs) (nl:=n2) (s₀:=s) rfl ?_ ((x,instObj 59 d1) :: (d1,dictOf (ent h1 h2 h3 h4 t1 t2 t3 t4 (.ref u1) (.ref r1) dl rt) m1) :: led)
  (fun i m _=>m "filename"=some (.str y ty)∧(∃ tb,m "best_match"=some (.int (allowOf (rs.take i)).1 tb))∧∃ va,m "allowance"=some va∧AllowIs (allowOf (rs.take i)).2 va) itst F N nit itL itg ?_ ?_ ?_ ?_ ?_
 · exact fun e=>allNe_find nit (show (r1,_)∈_ by k_mem) e.symm
 · exact fm3 (by k_mem) (by k_mem) (by k_mem) (fun p hp=>.tail _ (.tail _ (.tail _ hp)))
 · exact O
 · exact ⟨rfl,⟨_,rfl⟩,_,rfl,rfl⟩
 · intro i v s1 m news o hi F N nI kp O hJ
   obtain ⟨nm1,⟨tu,nm2⟩,va,nm3,j4⟩:=hJ
   obtain ⟨r,xx,er,rfl,d,u,rr,f,g1,g2,g3,g4,g5,g6,v1,v2,v3,v4,v5,v6,tv,mm,fd,objs,b1,b2,b3,b4,b5⟩:=lb i v hi
   have N:=news_sub' (l':=(xx,instObj 59 d) :: (d,dictOf (rent g1 g2 g3 g4 g5 g6 v1 v2 v3 v4 v5 v6 u rr f (.str r.2 tv)) mm) :: (f,⟨.type "function",none,.func fd,#[]⟩) :: (it,o) :: news) N (by
    exact fm4 (.tail _ (kp _ (.tail _ (.tail _ (.tail _ b1))))) (.tail _ (kp _ (.tail _ (.tail _ (.tail _ b2))))) (.tail _ (kp _ (.tail _ (.tail _ (.tail _ b3))))) (.head _) (fun p hp=>.tail _ hp))
   have nxt:allowOf (rs.take (i+1))=allowStep (allowOf (rs.take i)) r:=by
    rw [List.take_add_one,er,allowOf,allowOf,List.foldl_append];rfl
   have st:r.1=0∨r.1≠0:=Decidable.em _
   k_unmd
   k_fold
   have hz9:∀ z,(allowOf (rs.take i)).2=some z→z.length≤sizeLine:=allow_mem sizeLine (rs.take i) (-1,none) (fun z e=>by cases e) (fun r hr=>hb r (List.mem_of_mem_take hr))
   obtain ⟨HH,hold,held⟩:=holds
   have qA {x1 x2 x3 x4 x5 x6}:=hold 5 (wpAny x1 x2 (call (Value.ref f) [x3]) x4 x5 x6)
   have qB {x1 x2 x3 x4 x5 x6 x7 x8 x9}:=hold 4 (wpAny x1 x2 (callWith x3 (Value.ref f) x4 x5 x6) x7 x8 x9)
   have qC {x1 x2 x3 x4 x5 x6 x7}:=hold 3 (wpAny x1 x2 (getAttr (Value.ref xx) x3 x4) x5 x6 x7)
   have qE {x1 x2 x3 x4 x5}:=hold 21 (wpAny x1 x2 (truthy va) x3 x4 x5)
   have qD {x1 x2 x3 x4 x5 x6 x7}:=hold 2 (wpAny x1 x2 (getMethod (Value.ref xx) x3 x4) x5 x6 x7)
   k_steps
   repeat' ((first
    | (refine held 21 _ ?_
       k_dflt (refine truthy_allow j4 hz9 ?_)
       intro tk9
       (cases hf9:falsy (allowOf (List.take i rs)).2))
    | (refine held 5 _ ?_
       (try dsimp only [List.nil_append])
       rename Fr _ _ _ _=>F
       rename News _ _ _ _=>N
       have st0:Step w [] s ⟨_,s1.gens,s1.drawn,0,s1.os⟩:=Base.fin B [] F N O (by
        exact fm3 (.inr (.tail _ (.tail _ (.tail _ (.tail _ (kp _ (.tail _ (.head _)))))))) (.inr (.tail _ (.tail _ (.tail _ (.tail _ (kp _ (.tail _ (.tail _ (.head _))))))))) (.inr (.tail _ (.tail _ (.tail _ (.tail _ (kp _ (.head _))))))) (fun p hp=>.inr (.tail _ (.tail _ (.tail _ (.tail _ (kp _ (.tail _ (.tail _ (.tail _ hp))))))))))
       k_dflt (refine b5 _ _ _ _ _ (lvl_deeper (by decide)) (inv_now B F) (fun p hp=>(by have q9:=(b4 p hp).keep st0 nM;exact q9)) ?_)
       intro tm s2 st
       have N:=news0 st N
       have F:=fr0 st F
       have O:=Oth.next st O
       clear st st0)
    | (refine held 4 _ ?_
       rename Fr _ _ _ _=>F
       rename News _ _ _ _=>N
       k_dflt (refine' callWith_F ?mu1 ?_;(case mu1=>exact FnAt.of N (by k_mem))))
    | (refine held 3 _ ?_
       rename Fr _ _ _ _=>F
       rename News _ _ _ _=>N
       k_dflt (refine' get_shadow (X.keeps F.keep) ?mt1 ?mt2 ?mt3 ?mt4 ?mt5 ?mt6 ?mt7 ?mt8 ?_;(case mt1=>k_inst);(case mt2=>k_is);(case mt3=>k_is);(case mt4=>k_is);(case mt5=>k_is);(case mt6=>k_is);(case mt7=>rfl);(case mt8=>rfl)))
    | (refine held 2 _ ?_
       rename Fr _ _ _ _=>F
       rename News _ _ _ _=>N
       k_dflt (refine' method_shadow (X.keeps F.keep) ?ms1 ?ms2 ?ms3 ?ms4 ?ms5 ?ms6 ?_;(case ms1=>k_inst);(case ms2=>k_is);(case ms3=>k_is);(case ms4=>k_is);(case ms5=>k_is);(case ms6=>rfl)))) <;> k_steps)
   all_goals (
    rename Fr _ _ _ _=>F
    rename News _ _ _ _=>N
    refine exI2 _ news (anI6 F (fun p hp=>N p (.tail _ (.tail _ (.tail _ hp)))) nI kp O ⟨nm1,?_⟩)
    rw [nxt]
    first
    | (rw [as_up (by assumption) (by assumption)]
       exact ⟨⟨_,rfl⟩,_,rfl,_,rfl⟩)
    | (rw [as_eq (by assumption) (by assumption) (by assumption) (by assumption)]
       exact ⟨⟨_,nm2⟩,_,rfl,_,rfl⟩)
    | (rw [show allowStep (allowOf (List.take i rs)) r=allowOf (List.take i rs) from by first | exact as_skip (by assumption) | exact as_no (by assumption) (by assumption) | exact as_no2 (by assumption) (by assumption)]
       exact ⟨⟨_,nm2⟩,_,nm3,j4⟩)
    | fail)
 · intro s m news F N kp O hJ
   obtain ⟨nm1,⟨tu,nm2⟩,va,nm3,j4⟩:=hJ
   rw [List.take_of_length_le (Nat.le_of_eq hlen.symm)] at nm2 j4
   k_steps
   refine k va _ (Base.fin B [] F N O ?_) j4
   exact fm3 (.inr (kp _ (by k_mem))) (.inr (kp _ (by k_mem))) (.inr (kp _ (by k_mem))) (fun p hp=>.inr (kp _ (.tail _ (.tail _ (.tail _ hp)))))
end
end
section
noncomputable def big (i:Nat):Str:=⟨#[65+i]⟩
noncomputable def bstr (l:List Nat):Str:=⟨(l.map (65+·)).toArray⟩
theorem nstr_list (x:List Nat):(nstr x).cps.toList=x.map (97+·):=by unfold nstr;simp
theorem bstr_list (x:List Nat):(bstr x).cps.toList=x.map (65+·):=by unfold bstr;simp
theorem list_first {c:Nat}:∀ {a b r s:List Nat},c∉a→c∉b→a ++ c :: r=b ++ c :: s→a=b
 | [],[],_,_,_,_,_=>rfl
 | [],y :: b,_,_,_,hb,e=>absurd (List.cons.inj e).1 fun q=>hb (q▸.head _)
 | x :: a,[],_,_,ha,_,e=>absurd (List.cons.inj e).1 fun q=>ha (q▸.head _)
 | x :: a,y :: b,_,_,ha,hb,e=>by
   obtain ⟨e1,e2⟩:=List.cons.inj e
   rw [e1,list_first (fun h=>ha (.tail _ h)) (fun h=>hb (.tail _ h)) e2]
theorem str_list {a b:Str} (h:a.cps.toList=b.cps.toList):a=b:=PySem.Str.ext' (Array.toList_inj.mp h)
noncomputable def askT (x:Str):Str:=x ++ "*/" ++ "abcdefg" ++ "/"
theorem slash:("/":Str)=⟨#[47]⟩:=by decide
theorem app_list (a b:Str):(a ++ b).cps.toList=a.cps.toList ++ b.cps.toList:=by rw [PySem.Str.cps_append,Array.toList_append]
theorem split_ask {x:Str} (h:47∉x.cps.toList):∃ pr,Txt.split (askT x) "/"=(x ++ "*") :: pr:=by
 have hj:=StrLaws.join_split (askT x) "/"
 have hf:=StrLaws.split_free (askT x) 47
 rw [← slash] at hf
 have e47:(askT x).cps.toList=(x.cps.toList ++ [42]) ++ 47 :: ([97,98,99,100,101,102,103] ++ [47]):=by
  unfold askT
  rw [app_list,app_list,app_list]
  have h1:("*/":Str).cps.toList=[42,47]:=by decide
  have h2:("abcdefg":Str).cps.toList=[97,98,99,100,101,102,103]:=by decide
  have h3:("/":Str).cps.toList=[47]:=by decide
  rw [h1,h2,h3];simp
 have h47:47∈(askT x).cps.toList:=by rw [e47];simp
 match hp:Txt.split (askT x) "/" with
 | [] =>
   rw [hp] at hj
   rw [← hj] at h47
   exact absurd h47 (by show 47∉(Str.empty).cps.toList;decide)
 | [p] =>
   rw [hp] at hj
   have hj:p=askT x:=hj
   exact absurd (hj▸h47) (hf p (by rw [hp];exact .head _))
 | p :: q :: r =>
   rw [hp] at hj
   have hp1:=hf p (by rw [hp];exact .head _)
   have e1:(p ++ ("/":Str) ++ Str.join "/" (q :: r)).cps.toList=(askT x).cps.toList:=by rw [← hj];rfl
   rw [app_list,app_list,e47] at e1
   have h3:("/":Str).cps.toList=[47]:=by decide
   rw [h3,List.append_assoc,List.singleton_append] at e1
   have e2:=list_first hp1 (by simp [h]) e1
   refine ⟨q :: r,?_⟩
   have:p=x ++ "*":=str_list (by rw [app_list,e2];rfl)
   rw [this]
theorem no47 {x:List Nat}:47∉(nstr x).cps.toList:=by
 rw [nstr_list];intro h
 obtain ⟨c,_,e⟩:=List.mem_map.mp h
 omega
theorem no47b {x:List Nat}:47∉(bstr x).cps.toList:=by
 rw [bstr_list];intro h
 obtain ⟨c,_,e⟩:=List.mem_map.mp h
 omega
theorem upper_nstr {x:List Nat} (h:∀ c∈x,c < 7):Txt.upper (nstr x)=bstr x:=by
 rw [upper_ascii fun c hc=>by
  rw [nstr_list] at hc
  obtain ⟨d,hd,rfl⟩:=List.mem_map.mp hc
  have:=h d hd;omega]
 apply str_list
 rw [bstr_list,Array.toList_map,nstr_list,List.map_map]
 apply List.map_congr_left
 intro c hc
 have:=h c hc
 show up1 (97+c)=65+c
 unfold up1
 rw [if_pos (by omega)];omega
theorem upper_letter {c:Nat} (h:c < 7):Txt.upper (letter c)=big c:=upper_nstr (x:=[c]) (by simpa using h)
theorem lower_big {c:Nat} (h:c < 7):Txt.lower (big c)=letter c:=by
 rw [lower_ascii fun d hd=>by simp [big] at hd;omega]
 apply str_list
 have e:lo1 (65+c)=97+c:=by unfold lo1;rw [if_pos (by omega)];omega
 simp [big,letter,e]
theorem lower_letter {c:Nat} (h:c < 7):Txt.lower (letter c)=letter c:=by
 rw [lower_ascii fun d hd=>by simp [letter] at hd;omega]
 apply str_list
 have e:lo1 (97+c)=97+c:=by unfold lo1;rw [if_neg (by omega)]
 simp [letter,e]
theorem star_list:("*":Str).cps.toList=[42]:=by decide
theorem lower_nstar {x:List Nat} (h:∀ c∈x,c < 7):Txt.lower (nstr x ++ "*")=nstr x ++ "*":=by
 rw [lower_ascii fun c hc=>by
  rw [app_list,nstr_list,star_list] at hc
  rcases List.mem_append.mp hc with hc | hc
  · obtain ⟨d,hd,rfl⟩:=List.mem_map.mp hc
    have:=h d hd;omega
  · rw [mS hc];decide]
 apply str_list
 rw [Array.toList_map,app_list,nstr_list,star_list,List.map_append,List.map_map]
 congr 1
 apply List.map_congr_left
 intro c hc
 have:=h c hc
 show lo1 (97+c)=97+c
 unfold lo1
 rw [if_neg (by omega)]
theorem lower_bstar {x:List Nat} (h:∀ c∈x,c < 7):Txt.lower (bstr x ++ "*")=nstr x ++ "*":=by
 rw [lower_ascii fun c hc=>by
  rw [app_list,bstr_list,star_list] at hc
  rcases List.mem_append.mp hc with hc | hc
  · obtain ⟨d,hd,rfl⟩:=List.mem_map.mp hc
    have:=h d hd;omega
  · rw [mS hc];decide]
 apply str_list
 rw [Array.toList_map,app_list,app_list,nstr_list,bstr_list,star_list,List.map_append,List.map_map]
 congr 1
 apply List.map_congr_left
 intro c hc
 have:=h c hc
 show lo1 (65+c)=97+c
 unfold lo1
 rw [if_pos (by omega)];omega
theorem contains_star (x:List Nat) (c:Nat):Txt.contains (nstr x ++ "*") (letter c)=x.contains c:=by
 rw [contains_letter,app_list,nstr_list,star_list]
 rw [Bool.eq_iff_iff,decide_eq_true_eq,List.contains_iff_mem,List.mem_append,List.mem_map,List.mem_singleton]
 constructor
 · rintro (⟨d,hd,e⟩ | e)
   · have:d=c:=by omega
     exact this▸hd
   · omega
 · intro h;exact .inl ⟨c,h,rfl⟩
theorem hits_big {x:List Nat} {c:Nat} (h:∀ c∈x,c < 7) (hc:c < 7):hits (nstr x ++ "*") (big c)=x.contains c:=by
 unfold hits
 rw [lower_nstar h,lower_big hc,contains_star]
 have:(big c != ("*":Str))=true:=by
  rw [bne_iff_ne];intro e
  have:=congrArg (fun y:Str=>y.cps.toList) e
  (try dsimp only at this)
  rw [star_list] at this
  simp [big] at this;omega
 rw [this,Bool.true_and]
theorem hits_letter {x:List Nat} {c:Nat} (h:∀ c∈x,c < 7) (hc:c < 7):hits (bstr x ++ "*") (letter c)=x.contains c:=by
 unfold hits
 rw [lower_bstar h,lower_letter hc,contains_star]
 have:(letter c != ("*":Str))=true:=by
  rw [bne_iff_ne];intro e
  have:=congrArg (fun y:Str=>y.cps.toList) e
  (try dsimp only at this)
  rw [star_list] at this
  simp [letter] at this;omega
 rw [this,Bool.true_and]
theorem hits_taken {own:Nat→Nat} {x:List Nat} (h:∀ c∈x,c < 7):((tagL own 2).map big ++ [("*":Str)]).any (hits (nstr x ++ "*"))=taken own x:=by
 rw [List.any_append,List.any_cons,List.any_nil]
 have h0:hits (nstr x ++ "*") "*"=false:=by unfold hits;rw [show (("*":Str) != ("*":Str))=false by decide];rfl
 rw [h0,Bool.or_false,Bool.or_false,List.any_map,Bool.eq_iff_iff,List.any_eq_true,taken,List.any_eq_true]
 constructor
 · rintro ⟨c,hc,e⟩
   have hc7:=tagL_lt c hc
   rw [Function.comp_apply,hits_big h hc7,List.contains_iff_mem] at e
   exact ⟨c,e,(List.mem_filter.mp hc).2⟩
 · rintro ⟨c,hc,e⟩
   refine ⟨c,List.mem_filter.mpr ⟨List.mem_range.mpr (h c hc),e⟩,?_⟩
   rw [Function.comp_apply,hits_big h (h c hc),List.contains_iff_mem];exact hc
theorem hits_end {ls:List Nat} {x:List Nat} (h:∀ c∈x,c < 7) (hl:∀ c∈ls,c < 7):(ls.map letter).any (hits (bstr x ++ "*"))=ls.any fun c=>x.contains c:=by
 rw [List.any_map,Bool.eq_iff_iff,List.any_eq_true,List.any_eq_true]
 constructor
 · rintro ⟨c,hc,e⟩
   rw [Function.comp_apply,hits_letter h (hl c hc)] at e
   exact ⟨c,hc,e⟩
 · rintro ⟨c,hc,e⟩
   exact ⟨c,hc,by rw [Function.comp_apply,hits_letter h (hl c hc)];exact e⟩
theorem letters_nstr (x:List Nat):letters (nstr x)=x.map letter:=by
 unfold letters
 rw [nstr_list,List.map_map];rfl
theorem letters_bstr (x:List Nat):letters (bstr x)=x.map big:=by
 unfold letters
 rw [bstr_list,List.map_map];rfl
theorem letters_app (a b:Str):letters (a ++ b)=letters a ++ letters b:=by
 unfold letters
 rw [app_list,List.map_append]
theorem mem_side {own:Nat→Nat} {k c:Nat} (hc:c < 7):(sideL own k).contains c=(own c == 0 || own c == k):=by
 rw [Bool.eq_iff_iff,List.contains_iff_mem]
 unfold sideL
 rw [List.mem_filter]
 exact ⟨fun h=>h.2,fun h=>⟨List.mem_range.mpr hc,h⟩⟩
theorem letter_map_inj:∀ {a b:List Nat},a.map letter=b.map letter→a=b
 | [],[],_=>rfl
 | [],_ :: _,e=>by cases e
 | _ :: _,[],e=>by cases e
 | x :: a,y :: b,e=>by
   obtain ⟨e1,e2⟩:=List.cons.inj e
   rw [letter_inj e1,letter_map_inj e2]
theorem merge_taken {own:Nat→Nat} {x:List Nat} (hown:∀ i,own i≤2) (h:∀ c∈x,c < 7):(!decide ((((x ++ x).map letter).filter fun y=>((sideL own 1).map letter).contains y)=(x ++ x).map letter))=taken own x:=by
 rw [filter_map_letter]
 have key:((x ++ x).filter fun c=>(sideL own 1).contains c)=x ++ x ↔ taken own x=false:=by
  rw [List.filter_eq_self,taken,List.any_eq_false]
  constructor
  · intro hh c hc e
    have:=hh c (List.mem_append_left _ hc)
    rw [mem_side (h c hc)] at this
    have e:=beq_iff_eq.mp e
    rw [e] at this;cases this
  · intro hh c hc
    have hc':c∈x:=(List.mem_append.mp hc).elim id id
    have h1:=hh c hc'
    rw [mem_side (h c hc')]
    have h2:=hown c
    have h3:own c≠2:=fun e=>h1 (by rw [e];rfl)
    rw [Bool.or_eq_true,beq_iff_eq,beq_iff_eq];omega
 cases ht:taken own x with
 | true =>
   rw [decide_eq_false fun e=>?_];rfl
   have:=key.mp (letter_map_inj e)
   rw [ht] at this;cases this
 | false=>rw [key.mpr ht,decide_eq_true rfl];rfl
theorem cont_tag {own:Nat→Nat} {c:Nat} (hc:c < 7):((tagL own 0).map letter).contains (letter c)=(own c == 0):=by
 rw [contains_map,Bool.eq_iff_iff,List.contains_iff_mem,tagL,List.mem_filter]
 exact ⟨fun h=>h.2,fun h=>⟨List.mem_range.mpr hc,h⟩⟩
theorem cont_none {own:Nat→Nat} {y:Str} (h:∀ c,c < 7→y≠letter c):((tagL own 0).map letter).contains y=false:=by
 rw [← Bool.not_eq_true,List.contains_iff_mem]
 intro hm
 obtain ⟨c,hc,e⟩:=List.mem_map.mp hm
 exact h c (tagL_lt c hc) e.symm
theorem merge_frees {own:Nat→Nat} {x:List Nat} (hx:NameOk x):((((x.map letter ++ x.map big) ++ [nstr x,("":Str)]).filter fun y=>((tagL own 0).map letter).contains y)).length=frees own x:=by
 rw [List.filter_append,List.filter_append]
 have h1:((x.map big).filter fun y=>((tagL own 0).map letter).contains y)=[]:=by
  rw [List.filter_eq_nil_iff]
  intro y hy
  obtain ⟨c,hc,rfl⟩:=List.mem_map.mp hy
  rw [cont_none];decide
  intro d hd e
  have:=congrArg (fun y:Str=>y.cps.toList) e
  simp [big,letter] at this
  have:=hx.2.1 c hc;omega
 have h2:([nstr x,("":Str)].filter fun y=>((tagL own 0).map letter).contains y)=[]:=by
  rw [List.filter_eq_nil_iff]
  intro y hy
  rw [cont_none];decide
  intro d hd e
  have:=congrArg (fun y:Str=>y.cps.toList.length) e
  rcases mC hy with rfl | hy
  · skip
    rw [nstr_list] at this
    simp [letter] at this
    rcases hx.2.2 with q | q <;> omega
  · rw [mS hy] at this
    have e0:("":Str).cps.toList=[]:=by decide
    rw [e0] at this
    simp [letter] at this
 rw [h1,h2,List.append_nil,List.append_nil]
 have h3:∀ l:List Nat,(∀ c∈l,c < 7)→((l.map letter).filter fun y=>((tagL own 0).map letter).contains y)=(l.filter fun c=>own c == 0).map letter:=by
  intro l hl
  rw [List.filter_map]
  congr 1
  apply List.filter_congr
  intro c hc
  exact cont_tag (hl c hc)
 rw [h3 x hx.2.1,List.length_map,frees]
theorem allow_rest {M:Int} {z:Str} (hz:z.length≠0):∀ rs:List (Int×Str),(∀ r∈rs,r.1≤M)→rs.foldl allowStep (M,some z)=(M,some z)
 | [],_=>rfl
 | r :: rs,h=>by
   have h1:=h r (.head _)
   rw [List.foldl_cons,as_no (by show ¬ M < r.1;omega) (by show (z.length == 0)=false;exact beq_eq_false_iff_ne.mpr hz)]
   exact allow_rest hz rs fun q hq=>h q (.tail _ hq)
theorem allow_first {M:Int} (hM:0 < M):∀ (rs:List (Int×Str)) (j:Nat),(hj:j < rs.length)→(∀ r∈rs,r.1≤M)→(∀ r∈rs,r.2.length≠0)→rs[j].1=M→(∀ i (hi:i < rs.length),i < j→rs[i].1≠M)→rs.foldl allowStep (M,some "")=(M,some rs[j].2)
 | [],j,hj,_,_,_,_=>absurd hj (Nat.not_lt_zero _)
 | r :: rs,0,_,h,hz,e,_=>by
   have e:r.1=M:=e
   rw [List.foldl_cons,as_eq (by omega) (by show ¬ M < r.1;omega) e (show falsy (some (Str.ofString ""))=true by decide)]
   exact allow_rest (hz r (.head _)) rs fun q hq=>h q (.tail _ hq)
 | r :: rs,j+1,hj,h,hz,e,hb=>by
   have h0:r.1≠M:=hb 0 (Nat.zero_lt_succ _) (Nat.zero_lt_succ _)
   have h1:=h r (.head _)
   rw [List.foldl_cons,as_no2 (by show ¬ M < r.1;omega) h0]
   exact allow_first hM rs j (Nat.lt_of_succ_lt_succ hj) (fun q hq=>h q (.tail _ hq)) (fun q hq=>hz q (.tail _ hq)) e fun i hi hlt=>hb (i+1) (Nat.succ_lt_succ hi) (Nat.succ_lt_succ hlt)
end
section
section
variable {w:World} {A:Around} {E:VP} {s:Shared}
theorem ent_read {x d:Addr} {es:List DictEntry} {m:Nat} {name:Str} {v:Value} {Q:VP} (I:Inv w s.heap) (hx:At s.heap x (instObj 59 d)) (hd':At s.heap d (dictOf es m)) (hf:findIn (frag.heap_1 w.params) (.ref 59) name=some none) (hl:getL name es=some (some v)) (hh:handedIn v=true)
 (h:∀ k,Q v { s with toks:=k }):wpAny (model prog w) A (getAttr (.ref x) name true) Q E s:=by
 have hfo:findObj (frag.heap_1 w.params) 59 (some (dictOf es m)) name=some (.value v):=by
  obtain ⟨cd,hc,hasd⟩:∃ cd,clsIn (frag.heap_1 w.params) 59=some cd∧cd.hasDict=true:=⟨_,by k_is,rfl⟩
  have ho:PySem.W.ownOf cd (some (dictOf es m)) name=some (some v):=by
   unfold PySem.W.ownOf
   rw [if_pos hasd]
   dsimp only
   rw [lookIn_dict];exact hl
  unfold findObj
  rw [hc,Option.bind_some,hf,Option.bind_some]
  dsimp only
  rw [Option.bind_some,Option.bind_some]
  dsimp only
  rw [ho];rfl
 exact get_value I.K (⟨hx.1,rfl,rfl,hd'.1⟩:InstAt s.heap x (instObj 59 d) 59 (some (dictOf es m))) (by k_is) hfo hh (h _)
theorem ent_ua {x:Addr} {us rs:List Value} {dl rt:Value} {Q:VP} (I:Inv w s.heap) (e:EntryAt s.heap x us rs dl rt) (h:∀ u n k,At s.heap u (listOf us.toArray n)→Q (.ref u) { s with toks:=k }):wpAny (model prog w) A (getAttr (.ref x) "useragents" true) Q E s:=by
 obtain ⟨d,u,r,h1,h2,h3,h4,t1,t2,t3,t4,m1,n,k,a,b,c,f⟩:=e
 exact ent_read I a b (by k_is) (by rfl) rfl fun j=>h u n j c
theorem ent_rl {x:Addr} {us rs:List Value} {dl rt:Value} {Q:VP} (I:Inv w s.heap) (e:EntryAt s.heap x us rs dl rt) (h:∀ u n k,At s.heap u (listOf rs.toArray n)→Q (.ref u) { s with toks:=k }):wpAny (model prog w) A (getAttr (.ref x) "rulelines" true) Q E s:=by
 obtain ⟨d,u,r,h1,h2,h3,h4,t1,t2,t3,t4,m1,n,k,a,b,c,f⟩:=e
 exact ent_read I a b (by k_is) (by rfl) rfl fun j=>h r k j f
theorem ent_dl {x:Addr} {us rs:List Value} {dl rt:Value} {Q:VP} (I:Inv w s.heap) (e:EntryAt s.heap x us rs dl rt) (hh:handedIn dl=true) (h:∀ k,Q dl { s with toks:=k }):wpAny (model prog w) A (getAttr (.ref x) "delay" true) Q E s:=by
 obtain ⟨d,u,r,h1,h2,h3,h4,t1,t2,t3,t4,m1,n,k,a,b,c,f⟩:=e
 exact ent_read I a b (by k_is) (by rfl) hh h
theorem ent_rr {x:Addr} {us rs:List Value} {dl rt:Value} {Q:VP} (I:Inv w s.heap) (e:EntryAt s.heap x us rs dl rt) (hh:handedIn rt=true) (h:∀ k,Q rt { s with toks:=k }):wpAny (model prog w) A (getAttr (.ref x) "req_rate" true) Q E s:=by
 obtain ⟨d,u,r,h1,h2,h3,h4,t1,t2,t3,t4,m1,n,k,a,b,c,f⟩:=e
 exact ent_read I a b (by k_is) (by rfl) hh h
theorem attr_S {env:Env} {x name:Str} {p p2:Pos} {Q:VP} (h:wpAny (model prog w) A (eval (.Name x p) env) (fun v s₁=>wpAny (model prog w) A (getAttr v name true) Q E s₁) E s) :
 wpAny (model prog w) A (eval (.Attribute (.Name x p) name p2) env) Q E s:=by
 rw [arm_eval_Attribute,base_name]
 refine wpAny_bind (wpAny_mono h (fun v s₁ h₁=>wpAny_bind (wpAny_standAt (wpAny_bind (wpAny_holding (wpAny_mono h₁ (fun r s₂ h₂=>?_) fun _ _ e=>e))))) fun _ _ e=>e)
 exact wpAny_bind (wpAny_of_eq (show letTemporaryGo (.Name x p) v r=pure () from rfl) (wpAny_pure h₂))
theorem units64 (l:Lvl A 600):A.units+64 < cLine:=by
 have h1:=l.units
 have h2:(10*600+64:Nat) < cLine:=by decide
 omega
theorem ua_same (l:Lvl A 600) {env:Env} {x y:Str} {p1 p2 p3:Pos} {a b n:Nat} {us rs vl:List Value} {dl rt:Value} {xs:List Str} {Q:VP} (I:Inv w s.heap) (e:EntryAt s.heap a us rs dl rt) (hb:At s.heap b (listOf vl.toArray n)) (hus:StrsAre us xs) (hvl:StrsAre vl xs) (hok:xs.all PyData.strOk=true)
 (hx:∀ (s':Shared) (Q' E':VP),s'.heap=s.heap→Q' (.ref a) s'→wpAny (model prog w) A (eval (.Name x p1) env) Q' E' s') (hy:∀ (s':Shared) (Q' E':VP),s'.heap=s.heap→Q' (.ref b) s'→wpAny (model prog w) A (eval (.Name y p3) env) Q' E' s')
 (h:∀ k,Q (.bool false) { s with toks:=k }) :
 wpAny (model prog w) A (eval (.Attribute (.Name x p1) "useragents" p2) env) (fun v s₁=>wpAny (model prog w) A (eval (.Name y p3) env) (fun v' s₂=>wpAny (model prog w) A (compareOp .NotEq v v') Q E s₂) E s₁) E s:=by
 refine attr_S (hx s _ _ rfl (ent_ua I e fun u n1 k1 hu=>?_))
 refine hy { s with toks:=k1 } _ _ rfl ?_
 refine ne_strs (s:={ s with toks:=k1 }) hu.1 hb.1 hus hvl hok hok (units64 l) ?_
 rw [decide_eq_true rfl]
 exact h k1
theorem turn_c1 (l:Lvl A 600) {G:Gh} {own:Nat→Nat} {psr:List (Str×Str)} {m:Str→Option Value} {FR BA LE nl:Nat} {uf ub vl r1 r2:List Value} {d1 t1 d2 t2:Value} {Q:Flow→Shared→Prop} (A0:LawAt w G own psr s) (hn:s.heap.Ns G.L m) (mb:m "back"=some (.ref BA)) (ml:m "left"=some (.ref LE))
 (d5:s.heap.IsCell (G.L+1+1+1+1+1) (some (.ref FR))) (eF:EntryAt s.heap FR uf r1 d1 t1) (eB:EntryAt s.heap BA ub r2 d2 t2) (hLE:At s.heap LE (listOf vl.toArray nl)) (hf:StrsAre uf ((tagL own 0).map letter)) (hb:StrsAre ub ((tagL own 0).map letter)) (hl:StrsAre vl ((tagL own 0).map letter))
 (k:∀ j,wpAny (model prog w) A (execs (turnBody.drop 9) (lawEnv G.L)) Q E { s with toks:=j }) :
 wpAny (model prog w) A (execs (turnBody.drop 8) (lawEnv G.L)) Q E s:=by
 show wpAny _ _ (execs (_ :: turnBody.drop 9) _) _ _ _
 have I:=A0.st.inv
 have ok:=letters_ok (tagL own 0) tagL_lt
 refine wpAny_execs_cons (wpAny_If (isTrue_or (wpAny_isTrue_Compare1 ?_)))
 refine ua_same l I eF hLE hf hl ok ?h1 ?h2 fun j=>?_
 case h1=>exact fun s' Q' E' e q=>law_cell rfl (cells_law G.L).2.2.2.2.1 (e▸d5) (by decide) q
 case h2=>exact fun s' Q' E' e q=>law_loc (e▸hn) rfl ml (by decide) q
 refine wpAny_truthy_bool ?_
 first | with_reducible refine iN (by decide) ?_ | rw [if_neg (by decide)]
 refine isTrue_or (wpAny_isTrue_Compare1 ?_)
 refine ua_same (s:={ s with toks:=j }) l I eB hLE hb hl ok ?h3 ?h4 fun j2=>?_
 case h3=>exact fun s' Q' E' e q=>law_loc (e▸hn) rfl mb (by decide) q
 case h4=>exact fun s' Q' E' e q=>law_loc (e▸hn) rfl ml (by decide) q
 refine wpAny_truthy_bool ?_
 first | with_reducible refine iN (by decide) ?_ | rw [if_neg (by decide)]
 refine isTrue_or_nil ?_
 first | with_reducible refine iN (by decide) ?_ | rw [if_neg (by decide)]
 exact wpAny_execs_nil (k j2)
end
end
section
section
variable {w:World} {A:Around} {E:VP} {s:Shared}
theorem twice (xs:List Value):(List.replicate 2 xs).flatten=xs ++ xs:=by simp [List.replicate]
theorem dbl_S {L:Nat} {x y:Str} {p1 p2 p3 p4 p5 p6 p7:Pos} {kc:Nat} {a b na nb:Nat} {xs ys:List Value} {m:Str→Option Value} {Q:VP} (I:Inv w s.heap) (hL:250≤L) (hn:s.heap.Ns L m) (hx:lawScope.names.lookup x=some .local) (hy:lawScope.names.lookup y=some .local) (dx:(x == ("__debug__":Str))=false) (dy:(y == ("__debug__":Str))=false)
 (mx:m x=some (.ref a)) (my:m y=some (.ref b)) (ha:At s.heap a (listOf xs.toArray na)) (hb:At s.heap b (listOf ys.toArray nb)) (zx:xs.length≤7) (zy:ys.length≤7)
 (h:∀ D s',Step w [L] s s'→s'.heap.Ns L m→At s'.heap D (listOf ((xs ++ xs) ++ (ys ++ ys)).toArray 0)→Q (.ref D) s') :
 wpAny (model prog w) A (eval (.BinOp (.BinOp (.Name x p1) .Mult (.Constant (.int 2) kc p2) p3) .Add (.BinOp (.Name y p4) .Mult (.Constant (.int 2) kc p5) p6) p7) (lawEnv L)) Q E s:=by
 rw [arm_eval_BinOp]
 refine wpAny_bind ?_
 rw [arm_eval_BinOp]
 refine wpAny_bind (law_loc hn hx mx dx (wpAny_bind (wpAny_holding (wpAny_Constant_int (k:=0) (pos:=p0) (wpAny_bind (wpAny_standAt (wpAny_operating ?_)))))))
 refine mul_S (s:={ s with toks:=s.toks+1 }) (x:=2) I hL hn ha.1 (by decide) (by omega) fun D1 s1 y1 hn1 fD1 hD1=>?_
 rw [twice] at hD1
 have y01:Step w [L] s s1:=((Step.refl I).toks (s.toks+1) |>.wide fun a h=>.inl h).trans y1 fun a h=>.inl h
 refine wpAny_bind (wpAny_holding ?_)
 rw [arm_eval_BinOp]
 refine wpAny_bind (law_loc hn1 hy my dy (wpAny_bind (wpAny_holding (wpAny_Constant_int (k:=0) (pos:=p0) (wpAny_bind (wpAny_standAt (wpAny_operating ?_)))))))
 have hb1:=at_keepL hn hb y01 oneL list_nd
 refine mul_S (s:={ s1 with toks:=s1.toks+1 }) (x:=2) y1.inv hL hn1 hb1.1 (by decide) (by omega) fun D2 s2 y2 hn2 fD2 hD2=>?_
 rw [twice] at hD2
 have y12:Step w [L] s1 s2:=((Step.refl y1.inv).toks (s1.toks+1) |>.wide fun a h=>.inl h).trans y2 fun a h=>.inl h
 have hD12:=at_keepL hn1 hD1 y12 oneL list_nd
 refine wpAny_bind (wpAny_standAt (wpAny_operating (add_S y2.inv hL hn2 hD12.1 hD2.1 (by simp only [List.length_append];omega) fun D s3 y3 hn3 fD hD=>?_)))
 exact h D s3 ((y01.trans y12 fun a h=>.inl h).trans y3 fun a h=>.inl h) hn3 hD
theorem strsApp2 {vs ws:List Value} {xs ys:List Str} (a:StrsAre vs xs) (b:StrsAre ws ys):StrsAre (vs ++ ws) (xs ++ ys):=strsApp a b
theorem turn_c2 (l:Lvl A 600) {G:Gh} {own:Nat→Nat} {psr:List (Str×Str)} {m:Str→Option Value} {FR BA ON TH no nt:Nat} {uf ub vo vt:List Value} {d1 t1 d2 t2:Value} {Q:Flow→Shared→Prop} (g:GhOk G) (A0:LawAt w G own psr s) (hn:s.heap.Ns G.L m) (hu:m sUA=none) (mb:m "back"=some (.ref BA)) (mo:m "ones"=some (.ref ON)) (mt:m "theirs"=some (.ref TH))
 (d5:s.heap.IsCell (G.L+1+1+1+1+1) (some (.ref FR))) (eF:EntryAt s.heap FR uf ((vo ++ vo) ++ (vt ++ vt)) d1 t1) (eB:EntryAt s.heap BA ub ((vt ++ vt) ++ (vo ++ vo)) d2 t2) (hON:At s.heap ON (listOf vo.toArray no)) (hTH:At s.heap TH (listOf vt.toArray nt)) (hvo:StrsAre vo ((tagL own 1).map letter)) (hvt:StrsAre vt ((tagL own 2).map letter))
 (h1:(tagL own 1).length≤3) (h2:(tagL own 2).length≤3)
 (k:∀ s',Step w [G.L] s s'→s'.heap.Ns G.L m→wpAny (model prog w) A (execs (turnBody.drop 10) (lawEnv G.L)) Q E s') :
 wpAny (model prog w) A (execs (turnBody.drop 9) (lawEnv G.L)) Q E s:=by
 show wpAny _ _ (execs (_ :: turnBody.drop 10) _) _ _ _
 have I:=A0.st.inv
 have hL:=g.hL
 have lvo:vo.length≤7:=by rw [StrsAre.len_eq hvo,List.length_map];omega
 have lvt:vt.length≤7:=by rw [StrsAre.len_eq hvt,List.length_map];omega
 have ok:∀ k j,(((tagL own k).map letter ++ (tagL own k).map letter) ++ ((tagL own j).map letter ++ (tagL own j).map letter)).all PyData.strOk=true:=fun k j=>by
  simp only [List.all_append,letters_ok _ tagL_lt,Bool.and_self]
 have nl5:(G.L+1+1+1+1+1:Nat)∉[G.L]:=fun hm=>absurd (mS hm) (Nat.ne_of_gt (by omega))
 refine wpAny_execs_cons (wpAny_If (isTrue_or (wpAny_isTrue_Compare1 ?_)))
 refine attr_S (law_cell rfl (cells_law G.L).2.2.2.2.1 d5 (by decide) (ent_rl I eF fun u n1 k1 hu1=>?_))
 refine dbl_S (s:={ s with toks:=k1 }) I hL hn rfl rfl (by decide) (by decide) mo mt hON hTH lvo lvt fun D s1 y1 hn1 hD=>?_
 have y01:Step w [G.L] s s1:=((Step.refl I).toks k1 |>.wide fun a h=>.inl h).trans y1 fun a h=>.inl h
 have hu1':=at_keepL hn hu1 y01 oneL list_nd
 have st1:=strsApp2 (strsApp2 hvo hvo) (strsApp2 hvt hvt)
 refine ne_strs hu1'.1 hD.1 st1 st1 (ok 1 2) (ok 1 2) (units64 l) ?_
 rw [decide_eq_true rfl]
 refine wpAny_truthy_bool ?_
 first | with_reducible refine iN (by decide) ?_ | rw [if_neg (by decide)]
 refine isTrue_or (wpAny_isTrue_Compare1 ?_)
 have eB1:=entry_keepL hn hu eB y01 oneL
 have hON1:=at_keepL hn hON y01 oneL list_nd
 have hTH1:=at_keepL hn hTH y01 oneL list_nd
 refine attr_S (law_loc hn1 rfl mb (by decide) (ent_rl y1.inv eB1 fun u2 n2 k2 hu2=>?_))
 refine dbl_S (s:={ s1 with toks:=k2 }) y1.inv hL hn1 rfl rfl (by decide) (by decide) mt mo hTH1 hON1 lvt lvo fun D2 s2 y2 hn2 hD2=>?_
 have y12:Step w [G.L] s1 s2:=((Step.refl y1.inv).toks k2 |>.wide fun a h=>.inl h).trans y2 fun a h=>.inl h
 have hu2':=at_keepL hn1 hu2 y12 oneL list_nd
 have st2:=strsApp2 (strsApp2 hvt hvt) (strsApp2 hvo hvo)
 refine ne_strs hu2'.1 hD2.1 st2 st2 (ok 2 1) (ok 2 1) (units64 l) ?_
 rw [decide_eq_true rfl]
 refine wpAny_truthy_bool ?_
 first | with_reducible refine iN (by decide) ?_ | rw [if_neg (by decide)]
 refine isTrue_or_nil ?_
 first | with_reducible refine iN (by decide) ?_ | rw [if_neg (by decide)]
 exact wpAny_execs_nil (k s2 (y01.trans y12 fun a h=>.inl h) hn2)
end
end
section
noncomputable def orL (xs ys:List Str):List Str:=if xs=[] then ys else xs
theorem told_or {xs ys:List Str} {d1 r1 d2 r2:Value} (h1:ToldIs xs d1 r1) (h2:ToldIs ys d2 r2):ToldIs (orL xs ys) (orElse d1 d2) (orElse r1 r2):=by
 unfold orL
 cases xs with
 | nil=>obtain ⟨rfl,rfl⟩:=h1;exact h2
 | cons x r=>refine exE2 h1 fun t t' hh=>anE2 hh fun z2 z3=>?_;clear hh;try clear h1;rcases z2 with rfl;rcases z3 with rfl;exact exI2 t t' (anI2 rfl rfl)
noncomputable def toldD:List Str→List PyData
 | []=>[.none,.none]
 | x :: r=>[.int (toldNum r.length),.str x]
theorem told_carried {xs:List Str} {d r:Value} (h:ToldIs xs d r):CarriedAll [d,r] (toldD xs):=by
 cases xs with
 | nil=>obtain ⟨rfl,rfl⟩:=h;exact .cons .none (.cons .none .nil)
 | cons x r=>refine exE2 h fun t t' hh=>anE2 hh fun z2 z3=>?_;clear hh;try clear h;rcases z2 with rfl;rcases z3 with rfl;exact .cons (.int _ t) (.cons (.str x t') .nil)
theorem told_handed {xs:List Str} {d r:Value} (h:ToldIs xs d r):handedIn d=true∧handedIn r=true:=by
 cases xs with
 | nil=>obtain ⟨rfl,rfl⟩:=h;exact ⟨rfl,rfl⟩
 | cons x r=>refine exE2 h fun t t' hh=>anE2 hh fun z2 z3=>?_;clear hh;try clear h;rcases z2 with rfl;rcases z3 with rfl;exact ⟨rfl,rfl⟩
theorem told_eqv (xs:List Str):PyData.eqv (.tuple (toldD xs)) (.tuple (toldD xs))=true:=by
 cases xs with
 | nil=>decide
 | cons x r=>simp [toldD,PyData.eqv,PyData.eqvAll]
theorem told_shaped (xs:List Str) (h:xs.all PyData.strOk=true):SeqAt.shaped (.tuple (toldD xs))=true:=by
 cases xs with
 | nil=>decide +kernel
 | cons x r =>
   rw [List.all_cons,Bool.and_eq_true] at h
   simp [SeqAt.shaped,toldD,PyData.canLay0,PyData.canLayAll0,PyData.depth,PyData.depthAll,h.1]
section
variable {w:World} {A:Around} {E:VP} {s:Shared}
theorem told_same (l:Lvl A 600) {L:Nat} {x p q:Str} {p1 p2 p3 p4 p5 p6 p7 p8 p9 p10:Pos} {kt a a1 a2 n1 n2:Nat} {us rs v1 v2:List Value} {d r:Value} {xs ys:List Str} {m:Str→Option Value} {Q:VP} (I:Inv w s.heap) (hn:s.heap.Ns L m) (e:EntryAt s.heap a us rs d r) (ht:ToldIs (orL xs ys) d r)
 (hx:∀ (s':Shared) (Q' E':VP) (p:Pos),s'.heap=s.heap→Q' (.ref a) s'→wpAny (model prog w) A (eval (.Name x p) (lawEnv L)) Q' E' s')
 (lp:lawScope.names.lookup p=some .local) (lq:lawScope.names.lookup q=some .local) (dp:(p == ("__debug__":Str))=false) (dq:(q == ("__debug__":Str))=false) (mp:m p=some (.ref a1)) (mq:m q=some (.ref a2)) (h1:At s.heap a1 (listOf v1.toArray n1)) (h2:At s.heap a2 (listOf v2.toArray n2)) (s1:StrsAre v1 xs) (s2:StrsAre v2 ys)
 (o1:xs.all PyData.strOk=true) (o2:ys.all PyData.strOk=true) (z1:xs.length≤3) (z2:ys.length≤3) (h:∀ s',Step w [] s s'→Q (.bool false) s') :
 wpAny (model prog w) A (eval (.Tuple [.Attribute (.Name x p1) "delay" p2,.Attribute (.Name x p3) "req_rate" p4] kt p5) (lawEnv L)) (fun v s₁=>wpAny (model prog w) A (eval (.Call (.Name "_law_told" p6) [.BoolOp .Or [.Name p p7,.Name q p8] p9] [] p10) (lawEnv L)) (fun v' s₂=>wpAny (model prog w) A (compareOp .NotEq v v') Q E s₂) E s₁) E s:=by
 obtain ⟨hd1,hd2⟩:=told_handed ht
 refine tuple_S (spliced_cons (attr_S (hx s _ _ _ rfl (ent_dl I e hd1 fun k1=>?_))))
 refine spliced_cons (attr_S (hx { s with toks:=k1 } _ _ _ rfl (ent_rr (s:={ s with toks:=k1 }) I e hd2 fun k2=>?_)))
 refine spliced_nil ⟨(by decide:(2:Nat)≤1000),I,fun D sA yA fD hD=>?_⟩
 have yA':Step w [] s sA:=((Step.refl I).toks k2).trans yA fun a h=>.inl h
 have hnA:=hn.at' fun o e=>yA'.keep _ o e nM
 have h1A:=h1.keep yA' nM
 have h2A:=h2.keep yA' nM
 refine wpAny_Call_NameR (name_global (v:=.ref 225) yA.inv rfl rfl rfl (by k_is) (by decide) ?_)
 refine fn_S (by k_is) rfl (spliced_cons (wpAny_Or2 (law_loc hnA lp mp dp ?_)))
 have fin:∀ (sB:Shared) (b nb:Nat) (vb:List Value),Step w [] sA sB→At sB.heap b (listOf vb.toArray nb)→StrsAre vb (orL xs ys)→wpAny (model prog w) A (spliced []) (fun rest sC=>Inv w sC.heap∧wpAny (model prog w) A (call (.ref 225) (.ref b :: rest)) (fun v' s₂=>wpAny (model prog w) A (compareOp .NotEq (.ref D) v') Q E s₂) E sC) E sB:=fun sB b nb vb yB hB hs=>by
  have oz:(orL xs ys).all PyData.strOk=true:=by unfold orL;split <;> assumption
  have zz:(orL xs ys).length≤3:=by unfold orL;split <;> assumption
  refine spliced_nil ⟨yB.inv,?_⟩
  refine told_spec (l.up (by decide)) yB.inv hs oz zz hB fun p d' r' sC yC ht' hp fp=>?_
  have hDC:=(hD.keep yB nM).keep yC nM
  refine ne_tups hDC.1 hp.1 (told_carried ht) (told_carried ht') (told_shaped _ oz) (told_shaped _ oz) (units64 l) ?_
  rw [told_eqv]
  exact h sC ((yA'.trans yB fun a h=>.inl h).trans yC fun a h=>.inl h)
 refine wpAny_truthy_list ⟨_,h1A.1,rfl,_,rfl⟩ (by rw [List.size_toArray,StrsAre.len_eq s1];omega) ?_
 have yT:∀ t,Step w [] sA { sA with toks:=t }:=fun t=>(Step.refl yA.inv).toks t
 cases s1 with
 | nil =>
   first | with_reducible refine iN (by decide) ?_ | rw [if_neg (by decide)]
   exact law_loc (s:={ sA with toks:=sA.toks+1+1 }) hnA lq mq dq (fin _ a2 n2 v2 (yT _) h2A (by unfold orL;rw [if_pos rfl];exact s2))
 | cons x0 t0 r0 =>
   rw [if_pos (by rfl)]
   exact fin _ a1 n1 _ (yT _) h1A (by unfold orL;rw [if_neg (by intro h;cases h)];exact .cons x0 t0 r0)
theorem turn_c3 (l:Lvl A 600) {G:Gh} {own:Nat→Nat} {psr:List (Str×Str)} {m:Str→Option Value} {FR BA ON TH no nt:Nat} {uf ub vo vt r1 r2:List Value} {dl1 rt1 dl2 rt2:Value} {Q:Flow→Shared→Prop} (A0:LawAt w G own psr s) (hn:s.heap.Ns G.L m) (hu:m sUA=none) (mb:m "back"=some (.ref BA)) (mo:m "ones"=some (.ref ON)) (mt:m "theirs"=some (.ref TH))
 (d5:s.heap.IsCell (G.L+1+1+1+1+1) (some (.ref FR))) (eF:EntryAt s.heap FR uf r1 (orElse dl2 dl1) (orElse rt2 rt1)) (eB:EntryAt s.heap BA ub r2 (orElse dl1 dl2) (orElse rt1 rt2)) (hON:At s.heap ON (listOf vo.toArray no)) (hTH:At s.heap TH (listOf vt.toArray nt)) (hvo:StrsAre vo ((tagL own 1).map letter)) (hvt:StrsAre vt ((tagL own 2).map letter))
 (ht1:ToldIs ((tagL own 1).map letter) dl1 rt1) (ht2:ToldIs ((tagL own 2).map letter) dl2 rt2) (h1:(tagL own 1).length≤3) (h2:(tagL own 2).length≤3)
 (k:∀ s',Step w [] s s'→wpAny (model prog w) A (execs (turnBody.drop 11) (lawEnv G.L)) Q E s') :
 wpAny (model prog w) A (execs (turnBody.drop 10) (lawEnv G.L)) Q E s:=by
 show wpAny _ _ (execs (_ :: turnBody.drop 11) _) _ _ _
 have I:=A0.st.inv
 have z1:((tagL own 1).map letter).length≤3:=by rw [List.length_map];exact h1
 have z2:((tagL own 2).map letter).length≤3:=by rw [List.length_map];exact h2
 have o1:=letters_ok (tagL own 1) tagL_lt
 have o2:=letters_ok (tagL own 2) tagL_lt
 refine wpAny_execs_cons (wpAny_If (isTrue_or (wpAny_isTrue_Compare1 ?_)))
 refine told_same l I hn eF (told_or ht2 ht1) (fun s' Q' E' p e q=>law_cell rfl (cells_law G.L).2.2.2.2.1 (e▸d5) (by decide) q) rfl rfl (by decide) (by decide) mt mo hTH hON hvt hvo o2 o1 z2 z1 fun sA yA=>?_
 refine wpAny_truthy_bool ?_
 first | with_reducible refine iN (by decide) ?_ | rw [if_neg (by decide)]
 refine isTrue_or (wpAny_isTrue_Compare1 ?_)
 have hnA:=hn.at' fun o e=>yA.keep _ o e nM
 refine told_same l yA.inv hnA (entry_keepL hn hu eB yA noneL) (told_or ht1 ht2) (fun s' Q' E' p e q=>law_loc (e▸hnA) rfl mb (by decide) q) rfl rfl (by decide) (by decide) mo mt (hON.keep yA nM) (hTH.keep yA nM) hvo hvt o1 o2 z1 z2 fun sB yB=>?_
 refine wpAny_truthy_bool ?_
 first | with_reducible refine iN (by decide) ?_ | rw [if_neg (by decide)]
 refine isTrue_or_nil ?_
 first | with_reducible refine iN (by decide) ?_ | rw [if_neg (by decide)]
 exact wpAny_execs_nil (k sB (yA.trans yB fun a h=>.inl h))
end
end
section
theorem lvl_in1 {A:Around} {d d':Nat} (l:Lvl A d) (h:d < d'):Lvl A.in1 d':=⟨l.handled,Nat.le_trans l.depth (Nat.le_of_lt h),by have:=l.units;show A.units+1≤10*d';omega⟩
section
variable {w:World} {A:Around} {E:VP} {s:Shared}
theorem row_str (l:Lvl A 600) (I:Inv w s.heap) {x d:Addr} {vs:List Value} {ps:List (Str×Str)} {n nd:Nat} {h1:Int} {t1 t2:Tok} {Q:VP} (hx:At s.heap x (accObj d vs n)) (hd':At s.heap d (accD h1 t1 t2 nd)) (hps:Pieces s.heap vs ps) (ho:Ones ps) (hz:vs.length≤1000)
 (k:∀ t s',Step w [169] s s'→Q (.str (rowText ps) t) s'):wpAny (model prog w) A (call (.type "str") [.ref x]) Q E s:=by
 have l2:Lvl A.in1.in1 700:=lvl_in1 (lvl_in1 l (by decide:600 < 650)) (by decide)
 refine kso_call (K:=frag.heap_1 w.params) (C:=200) (f:=174) (ox:=accObj d vs n) (od:=some (accD h1 t1 t2 nd)) ?_ I.K ⟨hx.1,rfl,rfl,hd'.1⟩ (by k_is) (by k_is) ?_
 · have:=l2.units
   have h2:(10*700:Nat) < cLine:=by decide
   omega
 · exact acc_str (nd:=nd) (h1:=h1) (t1:=t1) (t2:=t2) (l2.up (by decide)) I hx hps ho hz fun t s' y=>k t s' y
theorem row_len (l:Lvl A 600) (I:Inv w s.heap) {x d:Addr} {vs:List Value} {ps:List (Str×Str)} {n nd:Nat} {h1:Int} {t1 t2:Tok} {Q:VP} (hx:At s.heap x (accObj d vs n)) (hd':At s.heap d (accD h1 t1 t2 nd)) (hps:Pieces s.heap vs ps) (ho:Ones ps) (hz:vs.length≤1000)
 (k:∀ t s',Step w [162] s s'→Q (.int (3+2*vs.length) t) s'):wpAny (model prog w) A (call (.builtin "len") [.ref x]) Q E s:=by
 have l2:Lvl A.in1 700:=lvl_in1 l (by decide)
 refine Calls.call_function_entry PySem.kind_len PySem.plain_len PySem.entry_len (PySem.args_len1 _) ?_
 unfold Builtin.«len»
 refine wpAny_bind (m:=oneArg "len" _) (wpAny_pure ?_)
 refine wpAny_bind (m:=callSpecial? (.ref x) (Str.ofString "__len__")) (special_fn (K:=frag.heap_1 w.params) (C:=200) (f:=167) (ox:=accObj d vs n) (od:=some (accD h1 t1 t2 nd)) I.K ⟨hx.1,rfl,rfl,hd'.1⟩ (by k_is) (by k_is) ?_)
 refine acc_len (l2.up (by decide)) I hx hd' hps ho hz fun t s' y=>?_
 refine wpAny_bind (wpAny_holding (wpAny_pure ?_))
 refine wpAny_bind (wpAny_letGo ?_)
 show wpAny _ _ (if ((3+2*(vs.length:Int)):Int) < 0 then _ else _) _ _ _
 rw [if_neg (by omega)]
 show wpAny _ _ (if ((3+2*(vs.length:Int)):Int) ≥ 2 ^ 63 then _ else _) _ _ _
 rw [if_neg (by omega)]
 exact wpAny_bind (wpAny_mkInt (wpAny_pure ⟨_,rfl,k _ _ (y.toks _)⟩))
end
end
section
noncomputable def spc (c:Nat):Str:=(" ":Str) ++ letter c
theorem pair_spc (c:Nat) (hc:c < 7):Txt.join "" [(" ":Str),letter c]=spc c:=(by decide +kernel:∀ c:Fin 7,Txt.join "" [(" ":Str),letter c.1]=spc c.1) ⟨c,hc⟩
theorem rowText_eq (own:Nat→Nat):rowText (rowP own)=Txt.join "" ((tagL own 0).map spc):=by
 unfold rowText rowP
 rw [List.map_map]
 exact congrArg (Txt.join "") (List.map_congr_left fun c hc=>pair_spc c (tagL_lt (own:=own) (k:=0) c hc))
theorem ones_rowP (own:Nat→Nat):Ones (rowP own):=by
 intro p hp
 obtain ⟨c,_,rfl⟩:=List.mem_map.mp hp
 exact ⟨rfl,rfl⟩
section
variable {w:World} {A:Around} {E:VP} {s:Shared}
theorem spc_comp (l:Lvl A 600) {L:Nat} {p1 p2 p3 pi px pos:Pos} {kc LE nl:Nat} {scope:Scope} {m:Str→Option Value} {vl:List Value} {xs:List Nat} {Q:VP} (I:Inv w s.heap) (hn:s.heap.Ns L m) (ml:m "left"=some (.ref LE)) (hLE:At s.heap LE (listOf vl.toArray nl)) (hvl:StrsAre vl (xs.map letter)) (hxl:xs.length≤7)
 (hclos:closureFor scope (lawEnv L)=pure []) (hcell:∀ y∈scope.names,y.2≠.cell) (hkind:scope.kind=.function) (hnames:∀ y∈scope.names,y.2=.local→scope.names.lookup y.1=some .local) (hx:scope.names.lookup ("cell":Str)=some .local)
 (kk:∀ D n ys s',Step w [] s s'→At s'.heap D (listOf ys.toArray n)→StrsAre ys (xs.map spc)→Q (.ref D) s') :
 wpAny (model prog w) A (eval (.ListComp (.BinOp (.Constant (.str " ") kc p1) .Add (.Name "cell" p2) p3) [⟨.Name "cell" px,.Name "left" pi,[],0⟩] scope pos) (lawEnv L)) Q E s:=by
 refine comp_S (T:=[]) l.handled hclos hcell hkind hnames hx (fun _ h=>nN h) (law_loc hn rfl ml (by decide) ?_)
 have hlen:vl.length=xs.length:=by rw [StrsAre.len_eq hvl,List.length_map]
 refine exI4 vl.length (fun i v=>vl[i]? = some v) (fun _=>true) (fun i y=>∃ t,y=.str (spc (xs.getD i 0)) t) (anI5 I (by rw [sizeLine_eq];omega) (src_list (fun _ h=>nN h) hLE) (fun tk=>⟨?_,?_⟩) (fun D n ys s' y fD hD M=>kk D n ys s' y hD ?_))
 · intro C i v s3 m3 hi hP S3 fC hC hn3 hm
   exact wpAny_tests_nil ⟨rfl,(Step.refl S3.inv).wide fun _ h=>nN h,m3,hn3,hm⟩
 · intro C i v s3 m3 hi hP hp S3 fC hC hn3 hm
   refine exE2 (strs_ix hvl i v hP) fun y t hh=>anE2 hh fun h1 z3=>?_;clear hh;rcases z3 with rfl
   rw [List.getElem?_map] at h1
   obtain ⟨c,hc,rfl⟩:=Option.map_eq_some_iff.mp h1
   have ec:xs.getD i 0=c:=by rw [List.getD_eq_getElem?_getD,hc];rfl
   rw [arm_eval_BinOp]
   refine wpAny_bind (Constant_str (k:=0) (pos:=p0) (wpAny_bind (wpAny_holding ?_)))
   refine wpAny_Name (wpAny_loadName_local (env:=compEnvC scope [] C (lawEnv L)) (by simp [compEnvC,relabel,hkind]) (lookup_relabel_local hx) (s:=⟨s3.heap,_,_,_,_⟩) hn3 hm ?_) (by decide)
   refine wpAny_bind (wpAny_standAt (wpAny_operating (P.add_str ?_)))
   have e1:((" ":Str).length == 0)=false:=by decide
   have e2:((letter c).length == 0)=false:=rfl
   rw [e1,e2]
   simp only [Bool.false_eq_true,if_false]
   refine ⟨?_,⟨_,by rw [ec];rfl⟩,((Step.refl S3.inv).toks _).wide fun _ h=>nN h,m3,hn3⟩
   have:((" ":Str) ++ letter c).length=(" ":Str).length+(letter c).length:=Str.length_append _ _
   rw [this,sizeLine_eq];exact Nat.le_of_ble_eq_true rfl
 · have:=M.strs (g:=fun i=>spc (xs.getD i 0)) (fun i y h=>h)
   rw [List.filter_eq_self.mpr fun _ _=>rfl,hlen] at this
   have e:(List.range xs.length).map (fun i=>spc (xs.getD i 0))=xs.map spc:=by
    conv=>rhs;rw [← range_getD xs]
    rw [List.map_map];rfl
   rw [e] at this
   exact this
end
end
section
section
variable {w:World} {A:Around} {E:VP} {s:Shared}
theorem turn_d (l:Lvl A 600) {G:Gh} {own:Nat→Nat} {m:Str→Option Value} {LE nl i:Nat} {tt:Tok} {vl:List Value} {Q:Flow→Shared→Prop} (g:GhOk G) (A0:LawAt w G own (rowP own) s) (hn:s.heap.Ns G.L m) (ml:m "left"=some (.ref LE)) (mr:m "row"=some (.ref G.X)) (mt:m "turn"=some (.int i tt)) (hi:i≤6)
 (hLE:At s.heap LE (listOf vl.toArray nl)) (hvl:StrsAre vl ((tagL own 0).map letter)) (hfr:(tagL own 0).length=7 - i)
 (k:∀ s' t,Step w [G.L,162,169] s s'→LawAt w G own (rowP own) s'→s'.heap.Ns G.L (upd m "count" (.int ((7 - i:Nat):Int) t))→wpAny (model prog w) A (execs (turnBody.drop 13) (lawEnv G.L)) Q E s') :
 wpAny (model prog w) A (execs (turnBody.drop 11) (lawEnv G.L)) Q E s:=by
 show wpAny _ _ (execs (_ :: _ :: turnBody.drop 13) _) _ _ _
 have hL:=g.hL
 have I:=A0.st.inv
 refine wpAny_execs_cons (asg_S rfl hL rfl rfl ?_)
 rw [arm_eval_BinOp]
 refine wpAny_bind (wpAny_Constant_int (k:=0) (pos:=p0) (wpAny_bind (wpAny_holding (law_loc (s:=⟨s.heap,_,_,_,_⟩) hn rfl mt (by decide) (wpAny_bind (wpAny_standAt (wpAny_operating (AutoIntOps.sub_0 ?_))))))))
 rw [show (7:Int) - (i:Int)=((7 - i:Nat):Int) by omega]
 refine ⟨I,m,hn,fun s1 y1 hn1=>?_⟩
 have y01:Step w [G.L] s s1:=(((Step.refl I).toks _).wide fun a h=>.inl h).trans y1 fun a h=>.inl h
 have A1:=A0.quiet g hn y01 oneL
 have hLE1:=at_keepL hn hLE y01 oneL list_nd
 have I1:=A1.st.inv
 generalize htc:s.toks+1=tc at *
 refine exE2 A1.row fun vs n hh=>anE2 hh fun hX hP=>?_;clear hh
 have hvn:vs.length=7 - i:=by rw [hP.len,rowP,List.length_map];exact hfr
 have mr1:upd m "count" (.int ((7 - i:Nat):Int) tc) "row"=some (.ref G.X):=(upd_ne _ _ (by decide)).trans mr
 have ml1:upd m "count" (.int ((7 - i:Nat):Int) tc) "left"=some (.ref LE):=(upd_ne _ _ (by decide)).trans ml
 have mc1:upd m "count" (.int ((7 - i:Nat):Int) tc) "count"=some (.int ((7 - i:Nat):Int) tc):=upd_self _ _ _
 refine wpAny_execs_cons (wpAny_If (isTrue_or (wpAny_isTrue_Compare1 ?_)))
 refine wpAny_Call_NameR (name_builtin (v:=.type "str") I1 rfl rfl rfl rfl (by k_is) (by decide) (by rfl) (by decide) ?_)
 refine PySem.callWith_type rfl (evalArgs_plain (spliced_cons (law_loc hn1 rfl mr1 (by decide) (spliced_nil ?_))))
 refine row_str (n:=n) (nd:=G.nd) (h1:=G.h1) (t1:=G.t1) (t2:=G.t2) l I1 hX A1.st.ad hP (ones_rowP own) (by omega) fun t2 s2 y2=>?_
 have t169:∀ b∈[(169:Nat)],b=G.L∨b∈TB:=fun b hb=>.inr (by rw [mS hb];decide)
 have t162:∀ b∈[(162:Nat)],b=G.L∨b∈TB:=fun b hb=>.inr (by rw [mS hb];decide)
 have n169:∀ {a:Nat},250≤a→a∉[(169:Nat)]:=fun ha hm=>absurd (mS hm) (Nat.ne_of_gt (Nat.lt_of_lt_of_le (by decide) ha))
 have n162:∀ {a:Nat},250≤a→a∉[(162:Nat)]:=fun ha hm=>absurd (mS hm) (Nat.ne_of_gt (Nat.lt_of_lt_of_le (by decide) ha))
 have hn2:=hn1.at' fun o e=>y2.keep _ o e (n169 hL)
 have A2:=A1.quiet g hn1 y2 t169
 have hLE2:=hLE1.keep y2 (n169 hLE1.2)
 refine wpAny_Call_method (T:="str") (id:="str.join") ?hb ?hf ?hl ?h1 ?h2 ?h3 ?hr
 case hl=>rfl
 case hf=>rfl
 case hb=>exact base_const _ _ _ _ _ _
 case h1=>exact F.plainAttrs_str
 case h2=>exact F.slot_str_join
 case h3=>exact F.type_str_join
 refine Constant_str (k:=0) (pos:=p0) ⟨typeIs_str _ _ _,(fun _ e=>nomatch e),?_⟩
 refine callWith_builtin rfl (evalArgs_plain (spliced_cons ?_))
 refine spc_comp (s:={ s2 with toks:=s2.toks+1 }) l A2.st.inv hn2 ml1 hLE2 hvl (by omega) ?c1 ?c2 ?c3 ?c4 ?c5 fun D nD ys s3 y3 hD hys=>?_
 case c1=>rfl
 case c2=>decide
 case c3=>rfl
 case c4=>decide
 case c5=>rfl
 refine spliced_nil (join_listW ⟨_,hD.1,rfl,_,rfl⟩ hys (by decide) ?_ fun t4 k4=>?_)
 · have h1:=StrLaws.sumLen_le (B:=2) ((tagL own 0).map spc) fun y hy=>by
    obtain ⟨c,_,rfl⟩:=List.mem_map.mp hy
    have:(spc c).length=(" ":Str).length+(letter c).length:=Str.length_append _ _
    rw [this];exact Nat.le_of_ble_eq_true rfl
   rw [List.length_map] at h1 ⊢
   omega
 refine P.ne_str ?_
 rw [rowText_eq,bne_self_eq_false]
 refine wpAny_truthy_bool ?_
 first | with_reducible refine iN (by decide) ?_ | rw [if_neg (by decide)]
 have y23:Step w [] s2 s3:=((Step.refl A2.st.inv).toks (s2.toks+1)).trans y3 fun a h=>.inl h
 have y24:Step w [] s2 { s3 with toks:=k4 }:=y23.toks k4
 have A3:LawAt w G own (rowP own) s3:=A2.quiet g hn2 y23 noneL
 have hn3:=hn2.at' fun o e=>y23.keep _ o e nM
 refine exE2 A3.row fun vs3 n3 hh=>anE2 hh fun hX3 hP3=>?_;clear hh
 have hvn3:vs3.length=7 - i:=by rw [hP3.len,rowP,List.length_map];exact hfr
 refine isTrue_or (wpAny_isTrue_Compare1 ?_)
 refine wpAny_Call_NameR (name_builtin (s:={ s3 with toks:=k4 }) (v:=.builtin "len") A3.st.inv rfl rfl rfl rfl (by k_is) (by decide) (by rfl) (by decide) ?_)
 refine callWith_builtin rfl (evalArgs_plain (spliced_cons (law_loc (s:={ s3 with toks:=k4 }) hn3 rfl mr1 (by decide) (spliced_nil ?_))))
 refine row_len (s:={ s3 with toks:=k4 }) (n:=n3) (nd:=G.nd) (h1:=G.h1) (t1:=G.t1) (t2:=G.t2) l A3.st.inv hX3 A3.st.ad hP3 (ones_rowP own) (by omega) fun t5 s5 y5=>?_
 have y35:Step w [162] s3 s5:=(((Step.refl A3.st.inv).toks k4).wide fun a h=>.inl h).trans y5 fun a h=>.inl h
 have A5:=A3.quiet g hn3 y35 t162
 have hn5:=hn3.at' fun o e=>y35.keep _ o e (n162 hL)
 rw [arm_eval_BinOp]
 refine wpAny_bind (wpAny_Constant_int (k:=0) (pos:=p0) (wpAny_bind (wpAny_holding ?_)))
 rw [arm_eval_BinOp]
 refine wpAny_bind (wpAny_Constant_int (k:=0) (pos:=p0) (wpAny_bind (wpAny_holding (law_loc (s:=⟨s5.heap,_,_,_,_⟩) hn5 rfl mc1 (by decide) (wpAny_bind (wpAny_standAt (wpAny_operating (AutoIntOps.mul_0 ?_ ?_))))))))
 rotate_left
 · exact IntMulOk.of_right (Nat.le_trans (bits_lt (n:=3) (by omega)) (by decide))
 refine wpAny_bind (wpAny_standAt (wpAny_operating (AutoIntOps.add_0 ?_)))
 refine P.ne_int ?_
 have e9:((3+2*(vs3.length:Int)) != (3:Int) + 2*((7 - i:Nat):Int))=false:=by rw [hvn3];exact bne_self_eq_false _
 rw [e9]
 refine wpAny_truthy_bool ?_
 first | with_reducible refine iN (by decide) ?_ | rw [if_neg (by decide)]
 refine isTrue_or (wpAny_isTrue_Compare1 ?_)
 refine meth_call ?gb ?gf ?gl ?gr
 case gb=>exact base_name _ _ _ _ _
 case gf=>rfl
 case gl=>rfl
 refine law_loc (s:=⟨s5.heap,_,_,_,_⟩) hn5 rfl mr1 (by decide) fun pl=>?_
 refine exE2 A5.row fun vs5 n5 hh=>anE2 hh fun hX5 hP5=>?_;clear hh
 have hvn5:vs5.length=7 - i:=by rw [hP5.len,rowP,List.length_map];exact hfr
 refine row_meth (s:=⟨s5.heap,_,_,_,_⟩) (f:=197) A5.st.inv hX5 A5.st.ad (by k_is) (by k_is) (by rfl) ?_
 refine meth0_S ?ia (by k_is) rfl ?ib
 case ia=>exact A5.st.inv
 refine count_spec (x:=G.X) (d:=G.d) (vs:=vs5) (n:=n5) (nd:=G.nd) (h1:=G.h1) (t1:=G.t1) (t2:=G.t2) (l.up (by decide)) ?ic ?id ?ie fun t6 s6 y6=>?_
 case ic=>exact A5.st.inv
 case id=>exact hX5
 case ie=>exact A5.st.ad
 have y56:Step w [] s5 s6:=((Step.refl A5.st.inv).toks _).trans y6 fun a h=>.inl h
 have hn6:=hn5.at' fun o e=>y56.keep _ o e nM
 refine law_loc hn6 rfl mc1 (by decide) (P.ne_int ?_)
 rw [hvn5,bne_self_eq_false]
 refine wpAny_truthy_bool ?_
 first | with_reducible refine iN (by decide) ?_ | rw [if_neg (by decide)]
 refine isTrue_or_nil ?_
 first | with_reducible refine iN (by decide) ?_ | rw [if_neg (by decide)]
 have m1:∀ a∈[G.L],a∈[G.L,162,169]∨s.heap.get? a=none:=fun a ha=>.inl (by rw [mS ha];exact .head _)
 have z1:=(y01.wide m1).trans y2 fun a ha=>.inl (by rw [mS ha];exact .tail _ (.tail _ (.head _)))
 have z2:=(z1.trans y23 fun a h=>nN h).trans y35 fun a ha=>.inl (by rw [mS ha];exact .tail _ (.head _))
 exact wpAny_execs_nil (k s6 tc (z2.trans y56 fun a h=>nN h) (A5.quiet g hn5 y56 noneL) hn6)
end
end
section
section
variable {w:World} {A:Around} {E:VP} {s:Shared}
theorem fdivN {a b:Nat} {t u:Tok} {Q:VP} (ha:a < 105) (hb:0 < b) (hb7:b≤7) (h:∀ t j,Q (.int ((a / b:Nat):Int) t) { s with toks:=j }):wpAny (model prog w) A (binaryOp .FloorDiv (.int a t) (.int b u)) Q E s:=by
 refine AutoIntOps.floordiv_1 (fun h=>by have:=beq_iff_eq.mp h;omega) ?_ ?_
 · have:Builtin.divisionGoesByPylong (a:Int) (b:Int)=false:=by
    have h9:=(by decide +kernel:∀ b:Fin 8,decide ((if ((b.1:Nat):Int) == 0 then 0 else ((b.1:Nat):Int).natAbs.log2 / 30+1) > 300)=false) ⟨b,Nat.lt_succ_of_le hb7⟩
    exact Bool.and_eq_false_iff.mpr (.inl h9)
   rw [this];decide
 · have e:(a:Int).fdiv (b:Int)=((a / b:Nat):Int):=by rw [Int.fdiv_eq_ediv_of_nonneg _ (Int.natCast_nonneg _)];rfl
   rw [e];exact h _ _
theorem fmodN {a b:Nat} {t u:Tok} {Q:VP} (hb:0 < b) (h:∀ t j,Q (.int ((a % b:Nat):Int) t) { s with toks:=j }):wpAny (model prog w) A (binaryOp .Mod (.int a t) (.int b u)) Q E s:=by
 refine AutoIntOps.mod_1 (fun h=>by have:=beq_iff_eq.mp h;omega) ?_
 have e:(a:Int).fmod (b:Int)=((a % b:Nat):Int):=by rw [Int.fmod_eq_emod_of_nonneg _ (Int.natCast_nonneg _)];rfl
 rw [e];exact h _ _
end
end
section
section
variable {w:World} {A:Around} {E:VP} {s:Shared}
theorem even_blk (l:Lvl A 600) {G:Gh} {own:Nat→Nat} {psr:List (Str×Str)} {m:Str→Option Value} {c n:Nat} {tc tn:Tok} {Q:Flow→Shared→Prop} (g:GhOk G) (A0:LawAt w G own psr s) (hn:s.heap.Ns G.L m) (mc:m "choice"=some (.int c tc)) (mn:m "count"=some (.int n tn)) (hc:c < 105) (hn0:0 < n) (hn7:n≤7)
 (k:∀ s' m' t1 t2,Step w [G.L,86,93] s s'→LawAt w G own psr s'→s'.heap.Ns G.L m'→(∀ x:Str,x≠"due"→x≠"choice"→x≠"k"→m' x=m x)→m' "choice"=some (.int (c / n:Nat) t1)→m' "k"=some (.int (c % n:Nat) t2)→wpAny (model prog w) A (execs (evenBody.drop 3) (lawEnv G.L)) Q E s') :
 wpAny (model prog w) A (execs evenBody (lawEnv G.L)) Q E s:=by
 show wpAny _ _ (execs (_ :: _ :: _ :: evenBody.drop 3) _) _ _ _
 have hL:=g.hL
 have I:=A0.st.inv
 refine wpAny_execs_cons (asg_S rfl hL rfl rfl ?_)
 refine tuple_S (spliced_cons ?_)
 rw [arm_eval_BinOp]
 refine wpAny_bind (law_loc hn rfl mc (by decide) (wpAny_bind (wpAny_holding (law_loc hn rfl mn (by decide) (wpAny_bind (wpAny_standAt (wpAny_operating (fdivN hc hn0 hn7 fun t5 j5=>?_))))))))
 refine spliced_cons ?_
 rw [arm_eval_BinOp]
 refine wpAny_bind (law_loc (s:={ s with toks:=j5 }) hn rfl mc (by decide) (wpAny_bind (wpAny_holding (law_loc (s:={ s with toks:=j5 }) hn rfl mn (by decide) (wpAny_bind (wpAny_standAt (wpAny_operating (fmodN hn0 fun t6 j6=>?_))))))))
 refine spliced_nil ⟨(by decide:(2:Nat)≤1000),I,fun DU s1 y1 fDU hDU=>?_⟩
 have y01:Step w [] s s1:=((Step.refl I).toks j6).trans y1 fun a h=>.inl h
 have hn1:=hn.at' fun o e=>y01.keep _ o e nM
 refine ⟨y1.inv,m,hn1,fun s2 y2 hn2=>?_⟩
 have A2:=(A0.quiet g hn y01 noneL).quiet g hn1 y2 oneL
 have y02:Step w [G.L] s s2:=(y01.wide fun a h=>nN h).trans y2 fun a h=>.inl h
 have hDU2:=at_keepL hn1 hDU y2 oneL (fun _ _ h=>by cases h)
 have mc2:upd m "due" (.ref DU) "choice"=some (.int c tc):=(upd_ne _ _ (by decide)).trans mc
 have mn2:upd m "due" (.ref DU) "count"=some (.int n tn):=(upd_ne _ _ (by decide)).trans mn
 have I2:=A2.st.inv
 refine wpAny_execs_cons (Assign_Tuple ?_)
 refine wpAny_Call_NameR (name_global (v:=.ref 105) I2 rfl rfl rfl (by k_is) (by decide) ?_)
 refine fn_S (by k_is) rfl (spliced_cons (law_loc hn2 rfl mc2 (by decide) (spliced_cons (law_loc hn2 rfl mn2 (by decide) (spliced_nil ⟨I2,?_⟩)))))
 have hbig:c < 2 ^ (Builtin.Int.intBits (n:Int) * 7):=by
  have h1:0 < Builtin.Int.intBits (n:Int):=bits_pos (by omega)
  have h2:2 ^ 7≤2 ^ (Builtin.Int.intBits (n:Int) * 7):=Nat.pow_le_pow_right (by decide) (by omega)
  omega
 refine divpos l I2 hn0 (by omega) hbig fun p t1 t2 s3 y3 hp fp=>?_
 have t93:∀ b∈[(86:Nat),93],b=G.L∨b∈TB:=fun b hb=>.inr (by rcases mC hb with rfl | hb;decide;rw [mS hb];decide)
 have A3:=A2.quiet g hn2 y3 t93
 have hn3:=hn2.at' fun o e=>y3.keep _ o e (fun hm=>(t93 _ hm).elim (fun _=>by
  have h250:=hL
  rcases mC hm with h | h
  · exact absurd h (Nat.ne_of_gt (Nat.lt_of_lt_of_le (by decide) h250))
  · exact absurd (mS h) (Nat.ne_of_gt (Nat.lt_of_lt_of_le (by decide) h250))) fun h=>absurd hL (Nat.not_le.mpr (tb250 _ h)))
 have hDU3:=at_keepL hn2 hDU2 y3 t93 (fun _ _ h=>by cases h)
 refine wpAny_assign_Tuple l.handled ⟨_,hp.1,rfl,_,rfl⟩ rfl rfl fun h4 hx4=>?_
 have k4:∀ b o,s3.heap.get? b=some o→h4.get? b=some o:=fun b o e=>hx4 b o (Nat.ne_of_lt (Heap.lt_size e)) e
 have y4:Step w [] s3 { s3 with heap:=h4 }:=⟨fun b o e _=>k4 b o e,rfl,id,y3.inv.keepAll k4⟩
 have A4:=A3.quiet g hn3 y4 noneL
 have hn4:=hn3.keeps k4
 show wpAny _ _ (do holding [_] (assign (.Name "choice" _) (lawEnv G.L) _);holding [] (assign (.Name "k" _) (lawEnv G.L) _);pure ()) _ _ _
 refine wpAny_bind (wpAny_holding (assign_S y4.inv hL hn4 rfl rfl fun s5 y5 hn5=>?_))
 have A5:=A4.quiet g hn4 y5 oneL
 refine wpAny_bind (wpAny_holding (assign_S y5.inv hL hn5 rfl rfl fun s6 y6 hn6=>wpAny_pure ?_))
 have A6:=A5.quiet g hn5 y6 oneL
 have md:upd (upd (upd m "due" (.ref DU)) "choice" (.int (c / n:Nat) t1)) "k" (.int (c % n:Nat) t2) "due"=some (.ref DU):=by
  rw [upd_ne _ _ (by decide),upd_ne _ _ (by decide)];exact upd_self _ _ _
 have mch:upd (upd (upd m "due" (.ref DU)) "choice" (.int (c / n:Nat) t1)) "k" (.int (c % n:Nat) t2) "choice"=some (.int (c / n:Nat) t1):=by
  rw [upd_ne _ _ (by decide)];exact upd_self _ _ _
 have mk:upd (upd (upd m "due" (.ref DU)) "choice" (.int (c / n:Nat) t1)) "k" (.int (c % n:Nat) t2) "k"=some (.int (c % n:Nat) t2):=upd_self _ _ _
 have hDU6:=at_keepL hn5 (at_keepL hn4 (hDU3.keep y4 nM) y5 oneL (fun _ _ h=>by cases h)) y6 oneL (fun _ _ h=>by cases h)
 refine wpAny_execs_cons (wpAny_If (wpAny_isTrue_Compare1 ?_))
 refine tuple_S (spliced_cons (law_loc hn6 rfl mch (by decide) (spliced_cons (law_loc hn6 rfl mk (by decide) (spliced_nil ⟨(by decide:(2:Nat)≤1000),y6.inv,fun D7 s7 y7 fD7 hD7=>?_⟩)))))
 have hn7':=hn6.at' fun o e=>y7.keep _ o e nM
 have hDU7:=hDU6.keep y7 nM
 refine law_loc hn7' rfl md (by decide) ?_
 refine ne_tups (xs:=[.int (c / n:Nat),.int (c % n:Nat)]) (ys:=[.int (c / n:Nat),.int (c % n:Nat)]) hD7.1 hDU7.1 (.cons (.int _ _) (.cons (.int _ _) .nil)) (.cons (.int _ _) (.cons (.int _ _) .nil)) ?_ ?_ (units64 l) ?_
 · simp [SeqAt.shaped,PyData.canLay0,PyData.canLayAll0,PyData.depth,PyData.depthAll]
 · simp [SeqAt.shaped,PyData.canLay0,PyData.canLayAll0,PyData.depth,PyData.depthAll]
 have eq:PyData.eqv (.tuple [.int (c / n:Nat),.int (c % n:Nat)]) (.tuple [.int (c / n:Nat),.int (c % n:Nat)])=true:=by simp [PyData.eqv,PyData.eqvAll]
 rw [eq]
 refine wpAny_truthy_bool ?_
 first | with_reducible refine iN (by decide) ?_ | rw [if_neg (by decide)]
 refine wpAny_execs_nil (k s7 _ t1 t2 ?_ (A6.quiet g hn6 y7 noneL) hn7' (fun x h1 h2 h3=>?_) mch mk)
 · have m1:∀ a∈[G.L],a∈[G.L,86,93]∨s.heap.get? a=none:=fun a ha=>.inl (by rw [mS ha];exact .head _)
   have z1:=(y02.wide m1).trans y3 fun a ha=>.inl (.tail _ ha)
   have z2:=((z1.trans y4 fun a h=>nN h).trans y5 m1).trans y6 m1
   exact z2.trans y7 fun a h=>nN h
 · rw [upd_ne _ _ h3,upd_ne _ _ h2,upd_ne _ _ h1]
end
end
section
section
variable {w:World} {A:Around} {E:VP} {s:Shared}
theorem strs_look {vs:List Value} {xs:List Nat} (h:StrsAre vs (xs.map letter)) {j:Nat} (hj:j < xs.length):∃ t,vs[j]? = some (.str (letter xs[j]) t):=by
 have hl:=StrsAre.len_eq h
 rw [List.length_map] at hl
 have hv:j < vs.length:=by omega
 refine exE2 (strs_ix h j vs[j] (List.getElem?_eq_getElem hv)) fun y t hh=>anE2 hh fun h1 h2=>?_;clear hh
 rw [List.getElem?_map,List.getElem?_eq_getElem hj] at h1
 cases h1
 exact ⟨t,by rw [List.getElem?_eq_getElem hv,h2]⟩
theorem even_cell {G:Gh} {own:Nat→Nat} {psr:List (Str×Str)} {m:Str→Option Value} {LE nl j:Nat} {tk:Tok} {vl:List Value} {xs:List Nat} {Q:Flow→Shared→Prop} (g:GhOk G) (A0:LawAt w G own psr s) (hn:s.heap.Ns G.L m) (ml:m "left"=some (.ref LE)) (mk:m "k"=some (.int j tk)) (hLE:At s.heap LE (listOf vl.toArray nl)) (hvl:StrsAre vl (xs.map letter)) (hj:j < xs.length) (hx:xs.length≤7)
 (k:∀ s' t,Step w [G.L] s s'→LawAt w G own psr s'→s'.heap.Ns G.L (upd m "cell" (.str (letter xs[j]) t))→Q .next s') :
 wpAny (model prog w) A (execs (evenBody.drop 3) (lawEnv G.L)) Q E s:=by
 show wpAny _ _ (execs (_ :: []) _) _ _ _
 have hL:=g.hL
 have I:=A0.st.inv
 obtain ⟨t,e⟩:=strs_look hvl hj
 have hlen:vl.length=xs.length:=by rw [StrsAre.len_eq hvl,List.length_map]
 refine wpAny_execs_cons (asg_S rfl hL rfl rfl ?_)
 refine wpAny_Subscript_Name slot_list_getitem.lookup ?_
 refine law_loc hn rfl ml (by decide) (law_loc hn rfl mk (by decide) ⟨⟨_,hLE.1,rfl⟩,?_⟩)
 refine item_S hLE.1 e (by omega) ⟨I,m,hn,fun s1 y1 hn1=>?_⟩
 exact wpAny_execs_nil (k s1 t y1 (A0.quiet g hn y1 oneL) hn1)
end
end
section
theorem filter_one {c:Nat} {p q:Nat→Bool} (hp:p c=false) (hq:q c=true) (h:∀ d,d≠c→p d=q d):∀ {l:List Nat},l.Nodup→c∈l→(l.filter q).length=(l.filter p).length+1
 | [],_,hm=>absurd hm nM
 | a :: r,hn,hm=>by
   obtain ⟨h1,h2⟩:=List.nodup_cons.mp hn
   by_cases e:a=c
   · subst e
     rw [List.filter_cons_of_pos (by rw [hq]),List.filter_cons_of_neg (by rw [hp];decide),List.length_cons]
     congr 2
     apply List.filter_congr
     intro d hd
     exact (h d fun e=>h1 (e▸hd)).symm
   · have ih:=filter_one hp hq h h2 ((mC hm).resolve_left fun h=>e h.symm)
     rw [List.filter_cons,List.filter_cons,h a e]
     cases q a with
     | true=>simp only [if_true,List.length_cons,ih]
     | false=>simp only [Bool.false_eq_true,if_false,ih]
theorem tag_free {own:Nat→Nat} {c k:Nat} (h0:own c=0) (hk:k≠0) (hc:c < 7):(tagL own 0).length=(tagL (setO own c k) 0).length+1:=by
 unfold tagL
 refine filter_one (c:=c) ?_ ?_ (fun d hd=>?_) List.nodup_range (List.mem_range.mpr hc)
 · rw [set_self];exact beq_eq_false_iff_ne.mpr hk
 · rw [h0];rfl
 · rw [set_ne own k hd]
theorem tag_more {own:Nat→Nat} {c k:Nat} (h0:own c=0) (hk:k≠0) (hc:c < 7):(tagL (setO own c k) k).length=(tagL own k).length+1:=by
 unfold tagL
 refine filter_one (c:=c) ?_ ?_ (fun d hd=>?_) List.nodup_range (List.mem_range.mpr hc)
 · rw [h0];exact beq_eq_false_iff_ne.mpr (Ne.symm hk)
 · rw [set_self];exact beq_self_eq_true k
 · rw [set_ne own k hd]
theorem tag_other {own:Nat→Nat} {c k j:Nat} (h0:own c=0) (hj:j≠0) (hjk:k≠j):tagL (setO own c k) j=tagL own j:=by
 unfold tagL
 apply List.filter_congr
 intro d _
 by_cases e:d=c
 · subst e
   rw [set_self,h0,beq_eq_false_iff_ne.mpr hjk,beq_eq_false_iff_ne.mpr (Ne.symm hj)]
 · rw [set_ne own k e]
end
section
theorem Pieces.drop {h:Heap}:∀ {vs:List Value} {ps:List (Str×Str)} (k:Nat),Pieces h vs ps→Pieces h (vs.drop k) (ps.drop k)
 | _,_,0,x=>x
 | _,_,_+1,.nil=>.nil
 | _,_,k+1,.cons _ r=>Pieces.drop k r
theorem Pieces.take {h:Heap}:∀ {vs:List Value} {ps:List (Str×Str)} (k:Nat),Pieces h vs ps→Pieces h (vs.take k) (ps.take k)
 | _,_,0,_=>.nil
 | _,_,_+1,.nil=>.nil
 | _,_,k+1,.cons a r=>.cons a (Pieces.take k r)
theorem LawAt.cutrow {w:World} {s s':Shared} {G:Gh} {own:Nat→Nat} {ps:List (Str×Str)} {vs:List Value} {n n' k:Nat} (g:GhOk G) (x:LawAt w G own ps s) (hr:At s.heap G.X (accObj G.d vs n)) (hP:Pieces s.heap vs ps) (y:Step w [G.X] s s')
 (hX:At s'.heap G.X (accObj G.d (vs.take k) n')):LawAt w G own (ps.take k) s':=by
 have h2:=g.apart2
 have key:∀ {c:Nat},c≠G.X→c∉[G.X]:=fun h hm=>h (mS hm)
 refine ⟨x.st.move g y fun c hc=>by rw [mS hc];exact List.mem_append_left _ (.tail _ (.tail _ (.tail _ (.tail _ (.head _))))),⟨_,_,hX,(hP.keep2 y fun c hc=>?_).take k⟩,x.own.keep y (key g.xo.symm),?_,?_,?_⟩
 · rw [mS hc]
   exact .inr ⟨_,hr.1,fun xs e=>by have:=congrArg Obj.cls e;cases this⟩
 · obtain ⟨v,hv⟩:=x.c4;exact ⟨v,cell_keep hv y (key (h2 _ (.tail _ (.head _))).1)⟩
 · obtain ⟨v,hv⟩:=x.c5;exact ⟨v,cell_keep hv y (key (h2 _ (.tail _ (.tail _ (.head _)))).1)⟩
 · obtain ⟨v,hv⟩:=x.c6;exact ⟨v,cell_keep hv y (key (h2 _ (.tail _ (.tail _ (.tail _ (.head _))))).1)⟩
end
section
structure Tu where
 (LE MI YO FR nl:Nat)
 (vl um uy uf rm ry rf:List Value)
 (dm tm dy ty df tf:Value)
structure TuOk (own:Nat→Nat) (U:Tu):Prop where
 vl:StrsAre U.vl ((tagL own 0).map letter)
 um:StrsAre U.um ((sideL own 1).map letter)
 uy:StrsAre U.uy ((sideL own 2).map letter)
 uf:StrsAre U.uf ((tagL own 0).map letter)
 rm:U.rm.length≤14
 rf:U.rf.length≤14
 m:Told U.dm U.tm
 f:Told U.df U.tf
 own2:∀ i,own i≤2
structure TurnAt (w:World) (G:Gh) (own:Nat→Nat) (psr:List (Str×Str)) (U:Tu) (s:Shared):Prop where
 law:LawAt w G own psr s
 le:At s.heap U.LE (listOf U.vl.toArray U.nl)
 mi:EntryAt s.heap U.MI U.um U.rm U.dm U.tm
 yo:EntryAt s.heap U.YO U.uy U.ry U.dy U.ty
 fr:EntryAt s.heap U.FR U.uf U.rf U.df U.tf
 c4:s.heap.IsCell (G.L+1+1+1+1) (some (.ref U.YO))
 c5:s.heap.IsCell (G.L+1+1+1+1+1) (some (.ref U.FR))
section
variable {w:World} {A:Around} {E:VP} {s s':Shared} {G:Gh} {own:Nat→Nat} {psr:List (Str×Str)} {U:Tu} {T:List Addr} {m:Str→Option Value}
theorem cell_keepL {c:Nat} {v:Option Value} (hL:250≤G.L) (hc:G.L < c) (x:s.heap.IsCell c v) (y:Step w T s s') (hT:∀ b∈T,b=G.L∨b∈TB):s'.heap.IsCell c v:=cell_keep x y fun hm=>by
 rcases hT c hm with h | h
 · exact absurd h (Nat.ne_of_gt hc)
 · exact absurd (Nat.lt_of_le_of_lt hL hc) (Nat.not_lt.mpr (Nat.le_of_lt (tb250 c h)))
theorem ns_keepT {s s':Shared} {L:Nat} {m:Str→Option Value} {T:List Addr} (hL:250≤L) (hn:s.heap.Ns L m) (y:Step w T s s') (hT:∀ b∈T,b∈TB):s'.heap.Ns L m:=hn.at' fun o e=>y.keep _ o e fun hm=>absurd hL (Nat.not_le.mpr (tb250 _ (hT _ hm)))
theorem TurnAt.quiet (g:GhOk G) (x:TurnAt w G own psr U s) (hn:s.heap.Ns G.L m) (hu:m sUA=none) (y:Step w T s s') (hT:∀ a∈T,a=G.L∨a∈TB):TurnAt w G own psr U s' :=
 ⟨x.law.quiet g hn y hT,at_keepL hn x.le y hT list_nd,entry_keepL hn hu x.mi y hT,entry_keepL hn hu x.yo y hT,entry_keepL hn hu x.fr y hT,cell_keepL g.hL (by omega) x.c4 y hT,cell_keepL g.hL (by omega) x.c5 y hT⟩
theorem meth_no {prog:Program} {K:Frag} {name:Str} {x C:Addr} {ox:Obj} {o:Obj} {pl:Sem Bool} {Q:Value×List Value→Shared→Prop} {f:Addr} (X:K.In s.heap) (I:InstAt s.heap x ox C (some o)) (hga:findIn K (.ref C) "__getattribute__"=some (some (.builtin "object.__getattribute__"))) (hk:findIn K (.ref C) "__getattr__"=some none)
 (hf:findIn K (.ref C) name=some (some (.ref f))) (ht:typeIn K (.ref f)=some (.type "function")) (hs:shadowIn (some o) name=some false) (h:Q (.ref f,[.ref x]) s) :
 wpAny (model prog w) A (getMethod (.ref x) name pl) Q E s:=by
 have hcan:=PySem.F.canon_object_ga
 unfold getMethod specialOf
 refine wpAny_bind (wpAny_bind (I.type.here ((looks_findIn X hga).here ?_)))
 dsimp only
 rw [hcan,if_neg (by decide)]
 refine wpAny_bind (wpAny_bind (I.type.here ((looks_findIn X hk).here ?_)))
 refine wpAny_bind (wpAny_bind (I.type.here ((looks_findIn X hf).here (wpAny_bind ((looks_typeIn X ht).here ?_)))))
 rw [if_neg (by decide +kernel)]
 refine wpAny_bind (wpAny_loadPart I.at_ ?_)
 have hd:=I.dict
 cases e:ox.dict with
 | none=>rw [e] at hd;exact hd.elim
 | some dx =>
   rw [e] at hd
   obtain ⟨r,a,b⟩:=Option.map_eq_some_iff.mp hs
   refine wpAny_bind (wpAny_bind (wpAny_loadPart hd ?_))
   rw [nsLook_of a]
   refine wpAny_pure ?_
   rw [b]
   exact wpAny_bind (wpAny_rule (wpAny_pure h))
theorem ent_applies {x:Addr} {us rs:List Value} {dl rt:Value} {pl:Sem Bool} {Q:Value×List Value→Shared→Prop} (I:Inv w s.heap) (e:EntryAt s.heap x us rs dl rt) (h:Q (.ref 49,[.ref x]) s):wpAny (model prog w) A (getMethod (.ref x) "applies_to" pl) Q E s:=by
 obtain ⟨d,u,r,h1,h2,h3,h4,t1,t2,t3,t4,m1,n,k,a,b,c,f⟩:=e
 exact meth_no I.K (⟨a.1,rfl,rfl,b.1⟩:InstAt s.heap x (instObj 59 d) 59 (some (dictOf (ent h1 h2 h3 h4 t1 t2 t3 t4 (.ref u) (.ref r) dl rt) m1))) (by k_is) (by k_is) (by k_is) (by k_is) (by rfl) h
theorem ent_allow {x:Addr} {us rs:List Value} {dl rt:Value} {pl:Sem Bool} {Q:Value×List Value→Shared→Prop} (I:Inv w s.heap) (e:EntryAt s.heap x us rs dl rt) (h:Q (.ref 56,[.ref x]) s):wpAny (model prog w) A (getMethod (.ref x) "allowance" pl) Q E s:=by
 obtain ⟨d,u,r,h1,h2,h3,h4,t1,t2,t3,t4,m1,n,k,a,b,c,f⟩:=e
 exact meth_no I.K (⟨a.1,rfl,rfl,b.1⟩:InstAt s.heap x (instObj 59 d) 59 (some (dictOf (ent h1 h2 h3 h4 t1 t2 t3 t4 (.ref u) (.ref r) dl rt) m1))) (by k_is) (by k_is) (by k_is) (by k_is) (by rfl) h
theorem notIn_strs (l:Lvl A 600) {a n:Nat} {vs:List Value} {xs:List Str} {x:Str} {t:Tok} {Q:VP} (ha:s.heap.get? a=some (listOf vs.toArray n)) (hs:StrsAre vs xs) (ok:xs.all PyData.strOk=true) (okx:PyData.strOk x=true) (h:Q (.bool (!xs.contains x)) s):wpAny (model prog w) A (compareOp .NotIn (.str x t) (.ref a)) Q E s:=by
 have e:(xs.map PyData.str).any (fun y=>PyData.eqv y (.str x))=xs.contains x:=by
  rw [List.any_map,Bool.eq_iff_iff,List.any_eq_true,List.contains_iff_mem]
  constructor
  · rintro ⟨y,hy,q⟩
    have:y=x:=by simpa [PyData.eqv] using q
    exact this▸hy
  · intro hx;exact ⟨x,hx,by simp [PyData.eqv]⟩
 refine SeqAt.notIn_list_reads (d:=.str x) (reads_newData ⟨_,ha,rfl,_,rfl⟩ (carried_strs hs)) (.str _ _) (canLayAll0_strs xs ok) (by simpa [PyData.canLay0] using okx) ?_ (by rw [e];exact h)
 have:=units64 l
 rw [depthAll_strs]
 simp
 omega
end
end
section
theorem side_tag (own:Nat→Nat):((sideL own 2).filter fun c=>!(own c == 0))=tagL own 2:=by
 unfold sideL tagL
 rw [List.filter_filter]
 apply List.filter_congr
 intro c _
 cases h0:own c == 0 with
 | true=>rw [beq_iff_eq.mp h0];rfl
 | false=>simp
theorem sideL_lt {own:Nat→Nat} {k:Nat}:∀ c∈sideL own k,c < 7:=fun c hc=>List.mem_range.mp (List.mem_filter.mp hc).1
theorem letter_ok {c:Nat} (hc:c < 7):PyData.strOk (letter c)=true:=by
 have:=letters_ok [c] (by simpa using hc)
 simpa using this
section
variable {w:World} {A:Around} {E:VP} {s s':Shared} {G:Gh} {own:Nat→Nat} {psr:List (Str×Str)} {U:Tu} {T:List Addr} {m:Str→Option Value}
theorem upper_call {pos:Pos} {c:Nat} {t:Tok} {Q:VP} (hc:c < 7) (h:∀ t' k,Q (.str (big c) t') { s with toks:=k }):wpAny (model prog w) A (callWith pos (.builtin "str.upper") [.str (letter c) t] [] []) Q E s :=
 callWith_builtin rfl (PySem.evalArgs_none (KXw.upper (upper_letter hc) (by rw [upper_letter hc];show Builtin.Str.tooLong 1=false;decide +kernel) h))
theorem take_comp (l:Lvl A 600) {p1 p2 p3 p4 p5 p6 p7 p8 p9 px pos:Pos} {scope:Scope} {Q:VP} (g:GhOk G) (u:TuOk own U) (x:TurnAt w G own psr U s)
 (hclos:closureFor scope (lawEnv G.L)=pure [(Str.ofString "free",G.L+1+1+1+1+1)]) (hcell:∀ y∈scope.names,y.2≠.cell) (hkind:scope.kind=.function) (hnames:∀ y∈scope.names,y.2=.local→scope.names.lookup y.1=some .local) (hx:scope.names.lookup ("cell":Str)=some .local)
 (hrel:(relabel scope (lawEnv G.L)).names.lookup ("free":Str)=some .cell) (hline:(p2.endLine == p3.line)=true)
 (kk:∀ D n ys s',Step w [] s s'→s.heap.get? D=none→At s'.heap D (listOf ys.toArray n)→StrsAre ys ((tagL own 2).map big)→Q (.ref D) s') :
 wpAny (model prog w) A (eval (.ListComp (.Call (.Attribute (.Name "cell" p1) "upper" p2) [] [] p3) [⟨.Name "cell" px,.Attribute (.Name "yours" p4) "useragents" p5,[.Compare (.Name "cell" p6) [.NotIn] [.Attribute (.Name "free" p7) "useragents" p8] p9],0⟩] scope pos) (lawEnv G.L)) Q E s:=by
 have I:=x.law.st.inv
 have ho:=ownName_of (w:=w) (s:=s) (V:=.ref U.FR) (env:=lawEnv G.L) (scope:=scope) (cl:=[(Str.ofString "free",G.L+1+1+1+1+1)]) (x:="free") (by decide) hkind hrel rfl x.c5
 have hlen:U.uy.length=(sideL own 2).length:=by rw [StrsAre.len_eq u.uy,List.length_map]
 have hl7:=sideL_len own 2
 refine comp_S (T:=[]) l.handled hclos hcell hkind hnames hx (fun _ h=>nN h) ?_
 refine attr_S (law_cell rfl (cells_law G.L).2.2.2.1 x.c4 (by decide) (ent_ua I x.yo fun u1 n1 k1 hu1=>?_))
 have y1:Step w [] s { s with toks:=k1 }:=(Step.refl I).toks k1
 have hgd:∀ i v,U.uy[i]? = some v→(sideL own 2).getD i 0 < 7∧∃ t,v=.str (letter ((sideL own 2).getD i 0)) t:=fun i v e=>by
  refine exE2 (strs_ix u.uy i v e) fun y t hh=>anE2 hh fun h1 z3=>?_;clear hh;rcases z3 with rfl
  rw [List.getElem?_map] at h1
  obtain ⟨c,hc,rfl⟩:=Option.map_eq_some_iff.mp h1
  have ec:(sideL own 2).getD i 0=c:=by rw [List.getD_eq_getElem?_getD,hc];rfl
  exact ⟨by rw [ec];exact sideL_lt c (List.mem_of_getElem? hc),t,by rw [ec]⟩
 refine exI4 U.uy.length (fun i v=>U.uy[i]? = some v) (fun i=>!(own ((sideL own 2).getD i 0) == 0)) (fun i y=>∃ t,y=.str (big ((sideL own 2).getD i 0)) t) (anI5 I (by rw [sizeLine_eq];omega) (src_list (fun _ h=>nN h) hu1) (fun tk=>⟨?_,?_⟩) (fun D n ys s' y fD hD M=>kk D n ys s' (y1.trans y fun a h=>.inl h) fD hD ?_))
 · intro C i v s3 m3 hi hP S3 fC hC hn3 hm3
   obtain ⟨hc7,t,rfl⟩:=hgd i v hP
   have S3':Step w [] s s3:=((Step.refl I).toks tk).trans S3 fun a ha=>.inl ha
   refine wpAny_tests_one (wpAny_isTrue_Compare1 ?_)
   refine wpAny_Name (wpAny_loadName_local (env:=compEnvC scope [(Str.ofString "free",G.L+1+1+1+1+1)] C (lawEnv G.L)) (by simp [compEnvC,relabel,hkind]) (lookup_relabel_local hx) hn3 hm3 ?_) (by decide)
   refine attr_S (ho _ _ _ _ _ _ S3' (ent_ua S3.inv (x.fr.step S3') fun u2 n2 k2 hu2=>?_))
   refine notIn_strs (s:={ s3 with toks:=k2 }) l hu2.1 u.uf (letters_ok _ tagL_lt) (letter_ok hc7) ?_
   rw [cont_tag hc7]
   refine wpAny_truthy_bool ⟨rfl,((Step.refl S3.inv).toks k2).wide fun _ h=>nN h,m3,hn3,hm3⟩
 · intro C i v s3 m3 hi hP hp S3 fC hC hn3 hm3
   obtain ⟨hc7,t,rfl⟩:=hgd i v hP
   refine meth_call ?gb ?gf ?gl ?gr
   case gb=>exact base_name _ _ _ _ _
   case gf=>rfl
   case gl=>exact hline
   refine wpAny_Name (wpAny_loadName_local (env:=compEnvC scope [(Str.ofString "free",G.L+1+1+1+1+1)] C (lawEnv G.L)) (by simp [compEnvC,relabel,hkind]) (lookup_relabel_local hx) hn3 hm3 fun pl=>?_) (by decide)
   refine GM.upper ?_
   refine upper_call hc7 fun t' k'=>⟨⟨_,rfl⟩,((Step.refl S3.inv).toks k').wide fun _ h=>nN h,m3,hn3⟩
 · have:=M.strs (g:=fun i=>big ((sideL own 2).getD i 0)) (fun i y h=>h)
   have e:((List.range U.uy.length).filter fun i=>!(own ((sideL own 2).getD i 0) == 0)).map (fun i=>big ((sideL own 2).getD i 0))=(tagL own 2).map big:=by
    rw [← side_tag,← range_filter (sideL own 2) (fun c=>!(own c == 0)),List.map_map,hlen];rfl
   rw [e] at this
   exact this
theorem odd_a (l:Lvl A 600) {Q:Flow→Shared→Prop} (g:GhOk G) (u:TuOk own U) (x:TurnAt w G own psr U s) (hn:s.heap.Ns G.L m) (hu:m sUA=none) (h2:(tagL own 2).length≤3)
 (k:∀ (s':Shared) (TA:Nat) (ut:List Value) (t0:Tok),Step w [G.L] s s'→TurnAt w G own psr U s'→s'.heap.Ns G.L (upd (upd m "taken" (.ref TA)) "total" (.int 0 t0))→EntryAt s'.heap TA ut [] .none .none→StrsAre ut ((tagL own 2).map big ++ [("*":Str)])→wpAny (model prog w) A (execs (oddBody.drop 3) (lawEnv G.L)) Q E s') :
 wpAny (model prog w) A (execs oddBody (lawEnv G.L)) Q E s:=by
 show wpAny _ _ (execs (_ :: _ :: _ :: oddBody.drop 3) _) _ _ _
 have hL:=g.hL
 have I:=x.law.st.inv
 refine wpAny_execs_cons (asg_S rfl hL rfl rfl ?_)
 refine wpAny_Call_NameR (name_global (v:=.ref 218) I rfl rfl rfl (by k_is) (by decide) ?_)
 refine fn_S (by k_is) rfl (spliced_cons ?_)
 rw [arm_eval_BinOp]
 refine wpAny_bind (take_comp l g u x ?b1 ?b2 ?b3 ?b4 ?b5 ?b6 ?b7 fun D n ys s1 y1 fD hD hys=>?_)
 case b1=>rfl
 case b2=>decide
 case b3=>rfl
 case b4=>decide
 case b5=>rfl
 case b6=>rfl
 case b7=>rfl
 refine wpAny_bind (wpAny_holding (list_S (spliced_cons (Constant_str (k:=0) (pos:=p0) (spliced_nil ⟨Nat.le_of_ble_eq_true rfl,y1.inv,fun D2 s2 y2 fD2 hD2=>?_⟩)))))
 have y12:Step w [] s1 s2:=((Step.refl y1.inv).toks _).trans y2 fun a h=>.inl h
 have y02:Step w [] s s2:=y1.trans y12 fun a h=>.inl h
 have hn2:=hn.at' fun o e=>y02.keep _ o e nM
 have hyl:ys.length=(tagL own 2).length:=by rw [StrsAre.len_eq hys,List.length_map]
 refine wpAny_bind (wpAny_standAt (wpAny_operating (add_S y2.inv hL hn2 (y12.keep _ _ hD.1 nM) hD2.1 (by simp only [List.length_cons,List.length_nil];omega) fun BD s3 y3 hn3 fBD hBD=>?_)))
 refine spliced_nil ⟨y3.inv,?_⟩
 have hus:StrsAre (ys ++ [.str "*" s1.toks]) ((tagL own 2).map big ++ [("*":Str)]):=strsApp hys (.cons _ _ .nil)
 refine record_list (l.up (by decide)) ?i1 hBD ?z1 fun TA s4 y4 hTA fTA=>?_
 case i1=>exact y3.inv
 case z1=>rw [sizeLine_eq];simp only [List.length_append,List.length_cons,List.length_nil];omega
 have y04:Step w [G.L] s s4:=((y02.wide fun a h=>nN h).trans y3 fun a h=>.inl h).trans y4 fun a h=>nN h
 have hn4:=hn3.at' fun o e=>y4.keep _ o e nM
 refine ⟨y4.inv,m,hn4,fun s5 y5 hn5=>?_⟩
 have y05:=y04.trans y5 fun a h=>.inl h
 have x5:=x.quiet g hn hu y05 oneL
 have hTA5:=entry_keepL hn4 hu hTA y5 oneL
 have hu5:upd m "taken" (.ref TA) sUA=none:=(upd_ne _ _ (by decide)).trans hu
 have I5:=x5.law.st.inv
 refine wpAny_execs_cons (wpAny_If (isTrue_or (wpAny_isTrue_Compare1 ?_)))
 refine meth_call ?gb ?gf ?gl ?gr
 case gb=>exact base_name _ _ _ _ _
 case gf=>rfl
 case gl=>rfl
 refine law_loc hn5 rfl (upd_self _ _ _) (by decide) fun pl=>?_
 refine ent_applies I5 hTA5 ?_
 refine meth_S (by k_is) rfl (spliced_cons (wpAny_Constant_none (k:=0) (pos:=p0) (spliced_nil ⟨I5,?_⟩)))
 refine applies_none (l.up (by decide)) I5 hTA5 hus fun b s6 hb y6=>?_
 have hbt:b=true:=by
  rw [hb,List.any_append,List.any_cons]
  rw [show (("*":Str) == ("*":Str))=true by decide];simp
 subst hbt
 refine wpAny_Constant_bool (k:=0) (pos:=p0) (isnot_bool ?_)
 refine wpAny_truthy_bool ?_
 first | with_reducible refine iN (by decide) ?_ | rw [if_neg (by decide)]
 have hn6:=hn5.at' fun o e=>y6.keep _ o e nM
 have x6:=x5.quiet g hn5 hu5 y6 noneL
 have hTA6:=hTA5.step y6
 have I6:=x6.law.st.inv
 refine isTrue_or (wpAny_isTrue_Compare1 ?_)
 refine meth_call ?gb2 ?gf2 ?gl2 ?gr2
 case gb2=>exact base_name _ _ _ _ _
 case gf2=>rfl
 case gl2=>rfl
 refine law_cell rfl (cells_law G.L).2.2.2.1 x6.c4 (by decide) fun pl=>?_
 refine ent_applies I6 x6.yo ?_
 refine meth_S (by k_is) rfl (spliced_cons (wpAny_Constant_none (k:=0) (pos:=p0) (spliced_nil ⟨I6,?_⟩)))
 refine applies_none (l.up (by decide)) I6 x6.yo u.uy fun b s7 hb y7=>?_
 have hbf:b=false:=by
  rw [hb,List.any_map,List.any_eq_false]
  intro c hc e
  have e:=beq_iff_eq.mp e
  have:=congrArg (fun y:Str=>y.cps.toList) e
  rw [star_list] at this
  simp [letter] at this;omega
 subst hbf
 refine wpAny_Constant_bool (k:=0) (pos:=p0) (isnot_bool ?_)
 refine wpAny_truthy_bool ?_
 first | with_reducible refine iN (by decide) ?_ | rw [if_neg (by decide)]
 refine isTrue_or_nil ?_
 first | with_reducible refine iN (by decide) ?_ | rw [if_neg (by decide)]
 refine wpAny_execs_nil ?_
 have hn7:=hn6.at' fun o e=>y7.keep _ o e nM
 have x7:=x6.quiet g hn6 hu5 y7 noneL
 have hTA7:=hTA6.step y7
 refine wpAny_execs_cons (asg_S rfl hL rfl rfl (wpAny_Constant_int (k:=0) (pos:=p0) ⟨x7.law.st.inv,_,hn7,fun s8 y8 hn8=>?_⟩))
 have y78:Step w [G.L] s7 s8:=(((Step.refl x7.law.st.inv).toks _).wide fun a h=>.inl h).trans y8 fun a h=>.inl h
 exact k s8 TA _ _ (((y05.trans y6 fun a h=>nN h).trans y7 fun a h=>nN h).trans y78 fun a h=>.inl h) (x7.quiet g hn7 hu5 y78 oneL) hn8 (entry_keepL hn7 hu5 hTA7 y78 oneL) hus
end
end
section
theorem nstr_len (x:List Nat):(nstr x).length=x.length:=nstr_size x
theorem name_len {x:List Nat} (h:NameOk x):x.length≤4∧3≤x.length:=by rcases h.2.2 with e | e <;> omega
theorem mul_nstr {x:List Nat} (hx:NameOk x):Txt.mul (nstr x) 2=nstr (x ++ x):=by
 have h:=name_len hx
 unfold Txt.mul
 rw [if_neg (by decide),if_neg]
 · apply str_list
   rw [nstr_list,List.map_append,← nstr_list]
   show (#[] ++ (nstr x).cps ++ (nstr x).cps).toList=_
   simp
 · rw [nstr_len,Bool.or_eq_true,beq_iff_eq,beq_iff_eq];omega
theorem mul_ok {x:List Nat} (hx:NameOk x):MulOk (nstr x) 2:=by
 refine ⟨by decide,fun _ _=>?_,fun _ _=>?_⟩
 · rw [nstr_len]
   have:=(name_len hx).1
   have:(2 ^ 63 - 1:Int) / 2=4611686018427387903:=by decide
   omega
 · rw [nstr_len]
   rcases hx.2.2 with e | e <;> rw [e] <;> decide +kernel
theorem ask_len {x:Str} (h:x.length≤7):(x ++ "*/").length≤16∧(x ++ "*/" ++ "abcdefg").length≤16∧(askT x).length≤17:=by
 have e1:(x ++ ("*/":Str)).length=x.length+("*/":Str).length:=PySem.Str.length_append _ _
 have e2:(x ++ ("*/":Str) ++ ("abcdefg":Str)).length=(x ++ ("*/":Str)).length+("abcdefg":Str).length:=PySem.Str.length_append _ _
 have e3:(askT x).length=(x ++ ("*/":Str) ++ ("abcdefg":Str)).length+("/":Str).length:=PySem.Str.length_append _ _
 have a1:("*/":Str).length=2:=by decide
 have a2:("abcdefg":Str).length=7:=by decide
 have a3:("/":Str).length=1:=by decide
 rw [e3,e2,e1,a1,a2,a3]
 exact ⟨Nat.le_trans (Nat.add_le_add_right h 2) (by decide),Nat.le_trans (Nat.add_le_add_right (Nat.add_le_add_right h 2) 7) (by decide),Nat.add_le_add_right (Nat.add_le_add_right (Nat.add_le_add_right h 2) 7) 1⟩
section
variable {w:World} {A:Around} {E:VP} {s s':Shared} {G:Gh} {own:Nat→Nat} {psr:List (Str×Str)} {U:Tu} {T:List Addr} {m:Str→Option Value}
theorem attr_C {env:Env} {o:PySem.Expr} {name:Str} {p2:Pos} {Q:VP} (hb:attributeBase o name env (eval o env)=eval o env) (h:wpAny (model prog w) A (eval o env) (fun v s₁=>wpAny (model prog w) A (getAttr v name true) Q E s₁) E s) :
 wpAny (model prog w) A (eval (.Attribute o name p2) env) Q E s:=by
 rw [arm_eval_Attribute,hb]
 exact wpAny_bind (wpAny_mono h (fun v s₁ h₁=>wpAny_bind (wpAny_standAt (wpAny_bind (wpAny_holding (wpAny_mono h₁ (fun r s₂ h₂=>wpAny_bind (wpAny_letTemporaryGo (wpAny_pure h₂))) fun _ _ e=>e))))) fun _ _ e=>e)
theorem base_call (f x:PySem.Expr) (xs:List PySem.Expr) (ks:List Keyword) (p:Pos) (name:Str) (env:Env) (t:Sem Value):attributeBase (.Call f (x :: xs) ks p) name env t=t:=by
 unfold attributeBase
 cases f <;> rfl
theorem base_attr (x:PySem.Expr) (n:Str) (p:Pos) (name:Str) (env:Env) (t:Sem Value):attributeBase (.Attribute x n p) name env t=t:=rfl
theorem ask_S {env:Env} {e1 e2:PySem.Expr} {k1 k2:Nat} {p1 p2 p3 p4 p5:Pos} {x:Str} {tc:Tok} {Q:VP} (hx:x.length≤7)
 (h1:∀ Q':VP,(∀ k t,Q' (.str x t) { s with toks:=k })→wpAny (model prog w) A (eval e1 env) Q' E s)
 (h2:∀ (k:Nat) (Q':VP),Q' (.str "abcdefg" tc) { s with toks:=k }→wpAny (model prog w) A (eval e2 env) Q' E { s with toks:=k })
 (h:∀ k t,Q (.str (askT x) t) { s with toks:=k }) :
 wpAny (model prog w) A (eval (.BinOp (.BinOp (.BinOp e1 .Add (.Constant (.str "*/") k1 p1) p2) .Add e2 p3) .Add (.Constant (.str "/") k2 p4) p5) env) Q E s:=by
 obtain ⟨l1,l2,l3⟩:=ask_len hx
 have a1:("*/":Str).length=2:=by decide
 have a2:("abcdefg":Str).length=7:=by decide
 have a3:("/":Str).length=1:=by decide
 rw [arm_eval_BinOp]
 refine wpAny_bind ?_
 rw [arm_eval_BinOp]
 refine wpAny_bind ?_
 rw [arm_eval_BinOp]
 refine wpAny_bind (h1 _ fun k t=>wpAny_bind (wpAny_holding (Constant_str (k:=0) (pos:=p0) (wpAny_bind (wpAny_standAt (wpAny_operating (KOpn.add (by omega) fun t' k' _=>?_)))))))
 refine wpAny_bind (wpAny_holding (h2 k' _ (wpAny_bind (wpAny_standAt (wpAny_operating (KOpn.add (by omega) fun t' k' _=>?_))))))
 refine wpAny_bind (wpAny_holding (Constant_str (k:=0) (pos:=p0) (wpAny_bind (wpAny_standAt (wpAny_operating (KOpn.add (by omega) fun t' k' _=>h _ _))))))
theorem names_look {us:List Value} {ns:List (List Nat)} (h:StrsAre us (ns.map nstr)) {i:Nat} (hi:i < ns.length):∃ t,us[i]? = some (.str (nstr ns[i]) t):=by
 have hl:=StrsAre.len_eq h
 rw [List.length_map] at hl
 obtain ⟨hin,t,e⟩:=strs_get h i us[i] (List.getElem?_eq_getElem (by omega))
 exact ⟨t,by rw [List.getElem?_eq_getElem (by omega),e]⟩
noncomputable def nameBody:List Stmt:=bodyOf ((oddBody[3]?).getD (.Pass ⟨0,0,0,0⟩))
theorem name_a (l:Lvl A 600) {TA i:Nat} {ut:List Value} {ti:Tok} {Q:Flow→Shared→Prop} (g:GhOk G) (u:TuOk own U) (x:TurnAt w G own psr U s) (hn:s.heap.Ns G.L m) (hu:m sUA=none) (hTA:EntryAt s.heap TA ut [] .none .none) (hut:StrsAre ut ((tagL own 2).map big ++ [("*":Str)]))
 (mT:m "taken"=some (.ref TA)) (mN:m "names"=some (.ref G.NM)) (mi:m "n"=some (.int i ti)) (hi:i < G.ns.length)
 (k:∀ s' t,Step w [G.L] s s'→s'.heap.Ns G.L (upd (upd m "name" (.str (nstr G.ns[i]) t)) "hit" (.bool (taken own G.ns[i])))→wpAny (model prog w) A (execs (nameBody.drop 2) (lawEnv G.L)) Q E s') :
 wpAny (model prog w) A (execs nameBody (lawEnv G.L)) Q E s:=by
 show wpAny _ _ (execs (_ :: _ :: nameBody.drop 2) _) _ _ _
 have hL:=g.hL
 have I:=x.law.st.inv
 obtain ⟨t,e⟩:=names_look g.us hi
 have hx:=g.ok _ (List.getElem_mem hi)
 have hx7:=hx.2.1
 have hlen:G.us.length=G.ns.length:=by rw [StrsAre.len_eq g.us,List.length_map]
 have hns:=g.len
 refine wpAny_execs_cons (asg_S rfl hL rfl rfl ?_)
 refine wpAny_Subscript_Name slot_list_getitem.lookup ?_
 refine law_loc hn rfl mN (by decide) (law_loc hn rfl mi (by decide) ⟨⟨_,x.law.st.nm.1,rfl⟩,?_⟩)
 refine item_S x.law.st.nm.1 e (by omega) ⟨I,m,hn,fun s1 y1 hn1=>?_⟩
 have x1:=x.quiet g hn hu y1 oneL
 have hTA1:=entry_keepL hn hu hTA y1 oneL
 have hu1:upd m "name" (.str (nstr G.ns[i]) t) sUA=none:=(upd_ne _ _ (by decide)).trans hu
 have mT1:upd m "name" (.str (nstr G.ns[i]) t) "taken"=some (.ref TA):=(upd_ne _ _ (by decide)).trans mT
 have I1:=x1.law.st.inv
 have hl7:(nstr G.ns[i]).length≤7:=by rw [nstr_len];have:=(name_len hx).1;omega
 refine wpAny_execs_cons (asg_S rfl hL rfl rfl ?_)
 refine meth_call ?gb ?gf ?gl ?gr
 case gb=>exact base_name _ _ _ _ _
 case gf=>rfl
 case gl=>rfl
 refine law_loc hn1 rfl mT1 (by decide) fun pl=>?_
 refine ent_applies I1 hTA1 ?_
 refine meth_S (by k_is) rfl (spliced_cons (ask_S (tc:=G.tc) hl7 (fun Q' q=>law_loc hn1 rfl (upd_self _ _ _) (by decide) (q s1.toks t)) (fun k Q' q=>law_cell (s:={ s1 with toks:=k }) rfl (cells_law G.L).1 x1.law.st.cc (by decide) q) fun k1 t1=>spliced_nil ⟨I1,?_⟩))
 obtain ⟨pr,hsp⟩:=split_ask (x:=nstr G.ns[i]) no47
 have a1:("*":Str).length=1:=by decide
 have e1:(nstr G.ns[i] ++ ("*":Str)).length=(nstr G.ns[i]).length+("*":Str).length:=PySem.Str.length_append _ _
 refine applies_str (s:={ s1 with toks:=k1 }) (l.up (by decide)) I1 hTA1 hut hsp ?z1 ?z2 ?z3 fun b s2 hb y2=>?_
 case z1=>have:=(ask_len hl7).2.2;rw [sizeLine_eq];omega
 case z2=>omega
 case z3 =>
  intro y hy
  rcases List.mem_append.mp hy with hy | hy
  · obtain ⟨c,_,rfl⟩:=List.mem_map.mp hy
    show (1:Nat)≤_;decide
  · rw [mS hy,a1];decide
 rw [hits_taken hx7] at hb
 subst hb
 have y12:Step w [] s1 s2:=((Step.refl I1).toks k1).trans y2 fun a h=>.inl h
 have hn2:=hn1.at' fun o e=>y12.keep _ o e nM
 refine ⟨y2.inv,_,hn2,fun s3 y3 hn3=>?_⟩
 exact k s3 t ((y1.trans y12 fun a h=>nN h).trans y3 fun a h=>.inl h) hn3
end
end
section
theorem sc_tag (own:Nat→Nat) (k:Nat):((tagL own k).map letter).length+1 < scanBound:=by
 rw [List.length_map]
 have:(tagL own k).length≤7:=Nat.le_trans (List.length_filter_le ..) (by simp)
 exact Nat.lt_of_le_of_lt (Nat.succ_le_succ this) (by decide)
theorem sc_side (own:Nat→Nat) (k:Nat):((sideL own k).map letter).length+1 < scanBound:=by
 rw [List.length_map]
 exact Nat.lt_of_le_of_lt (Nat.succ_le_succ (sideL_len own k)) (by decide)
section
variable {w:World} {A:Around} {E:VP} {s s':Shared} {G:Gh} {own:Nat→Nat} {psr:List (Str×Str)} {U:Tu} {T:List Addr} {m:Str→Option Value}
theorem twice_S {L:Nat} {p1 p2 p3:Pos} {kc:Nat} {x:List Nat} {t:Tok} {Q:VP} (hx:NameOk x) (hn:s.heap.Ns L m) (mx:m "name"=some (.str (nstr x) t)) (h:∀ k t,Q (.str (nstr (x ++ x)) t) { s with toks:=k }) :
 wpAny (model prog w) A (eval (.BinOp (.Name "name" p1) .Mult (.Constant (.int 2) kc p2) p3) (lawEnv L)) Q E s:=by
 rw [arm_eval_BinOp]
 refine wpAny_bind (law_loc hn rfl mx (by decide) (wpAny_bind (wpAny_holding (wpAny_Constant_int (k:=0) (pos:=p0) (wpAny_bind (wpAny_standAt (wpAny_operating (SB.mul (mul_ok hx) fun t' k'=>?_))))))))
 rw [mul_nstr hx]
 exact h _ _
theorem name_b (l:Lvl A 600) {x:List Nat} {t:Tok} {Q:Flow→Shared→Prop} (g:GhOk G) (u:TuOk own U) (X:TurnAt w G own psr U s) (hn:s.heap.Ns G.L m) (hu:m sUA=none) (hx:NameOk x)
 (mx:m "name"=some (.str (nstr x) t)) (mh:m "hit"=some (.bool (taken own x))) (mM:m "mine"=some (.ref U.MI))
 (k:∀ s',Step w [] s s'→wpAny (model prog w) A (execs (nameBody.drop 3) (lawEnv G.L)) Q E s') :
 wpAny (model prog w) A (execs (nameBody.drop 2) (lawEnv G.L)) Q E s:=by
 show wpAny _ _ (execs (_ :: nameBody.drop 3) _) _ _ _
 have hL:=g.hL
 have I:=X.law.st.inv
 have hx7:=hx.2.1
 have hl:=name_len hx
 have xx7:∀ c∈x ++ x,c < 7:=fun c hc=>hx7 c ((List.mem_append.mp hc).elim id id)
 have hz:(nstr (x ++ x)).cps.size≤sizeLine:=by rw [nstr_size,sizeLine_eq,List.length_append];omega
 refine wpAny_execs_cons (wpAny_If (wpAny_isTrue_Compare1 (law_loc hn rfl mh (by decide) (wpAny_Compare1 ?_))))
 refine attr_C (base_call _ _ _ _ _ _ _ _) ?_
 refine wpAny_Call_NameR (name_global (v:=.ref 70) I rfl rfl rfl (by k_is) (by decide) ?_)
 refine fn_S (by k_is) rfl (spliced_cons ?_)
 refine wpAny_Call_NameR (name_global (v:=.ref 218) I rfl rfl rfl (by k_is) (by decide) ?_)
 refine fn_S (by k_is) rfl (spliced_cons (twice_S hx hn mx fun k1 t1=>spliced_nil ⟨I,?_⟩))
 refine record_str (s:={ s with toks:=k1 }) (l.up (by decide)) I hz fun RX vs s1 y1 hvs hRX fRX=>?_
 rw [letters_nstr] at hvs
 have y01:Step w [] s s1:=((Step.refl I).toks k1).trans y1 fun a h=>.inl h
 have hn1:=hn.at' fun o e=>y01.keep _ o e nM
 have X1:=X.quiet g hn hu y01 noneL
 have I1:=X1.law.st.inv
 have hvl:vs.length=x.length+x.length:=by rw [StrsAre.len_eq hvs,List.length_map,List.length_append]
 refine spliced_cons (law_loc hn1 rfl mM (by decide) (spliced_nil ⟨I1,?_⟩))
 refine merge_spec (l.up (by decide)) I1 RX U.MI vs U.um [] U.rm .none .none U.dm U.tm hRX X1.mi (.inl ⟨rfl,rfl⟩) u.m _ u.um (sc_side own 1) (strs_val hvs) (by rw [sizeLine_eq];omega) (by have:=u.rm;rw [sizeLine_eq,List.length_nil];omega) fun M s2 y2 hM fM=>?_
 have I2:=y2.inv
 refine ent_ua I2 hM fun ua na ka hua=>?_
 have y02:=y01.trans y2 fun a h=>.inl h
 have hn2:s2.heap.Ns G.L m:=hn.at' fun o e=>y02.keep _ o e nM
 refine wpAny_Call_NameR (name_builtin (s:={ s2 with toks:=ka }) (v:=.type "list") I2 rfl rfl rfl rfl (by k_is) (by decide) (by rfl) (by decide) ?_)
 refine PySem.callWith_type rfl (evalArgs_plain (spliced_cons (twice_S (s:={ s2 with toks:=ka }) hx hn2 mx fun k3 t3=>spliced_nil ?_)))
 refine list_str (s:={ s2 with toks:=k3 }) l.handled I2 hz fun a vs2 n2 s3 y3 hvs2 ha fa=>?_
 rw [letters_nstr] at hvs2
 have y23:Step w [] s2 s3:=((Step.refl I2).toks k3).trans y3 fun a h=>.inl h
 have okx:=letters_ok _ xx7
 have okf:(((x ++ x).map letter).filter fun y=>((sideL own 1).map letter).contains y).all PyData.strOk=true:=by
  rw [List.all_eq_true] at okx ⊢
  exact fun y hy=>okx y (List.mem_filter.mp hy).1
 refine ne_strs (hua.keep y23 nM).1 ha.1 (strs_filter hvs) hvs2 okf okx (units64 l) ?_
 rw [merge_taken u.own2 hx7]
 refine isnot_bool ?_
 rw [bne_self_eq_false]
 refine wpAny_truthy_bool ?_
 first | with_reducible refine iN (by decide) ?_ | rw [if_neg (by decide)]
 exact wpAny_execs_nil (k s3 (y02.trans y23 fun a h=>.inl h))
theorem fit7 {k:Nat} (h:k≤7):Builtin.Str.tooLong k=false:=(by decide +kernel:∀ k,k < 8→Builtin.Str.tooLong k=false) k (by omega)
theorem up_name {pos:Pos} {x:List Nat} {t:Tok} {Q:VP} (hx:NameOk x) (h:∀ t' k,Q (.str (bstr x) t') { s with toks:=k }):wpAny (model prog w) A (callWith pos (.builtin "str.upper") [.str (nstr x) t] [] []) Q E s:=by
 have e:=upper_nstr hx.2.1
 have hl:=name_len hx
 refine callWith_builtin rfl (PySem.evalArgs_none (KXw.upper e ?_ h))
 rw [e]
 have:(bstr x).length=x.length:=by show (bstr x).cps.size=_;unfold bstr;simp
 rw [this]
 exact fit7 (by omega)
theorem name_c (l:Lvl A 600) {x:List Nat} {t:Tok} {Q:Flow→Shared→Prop} (g:GhOk G) (u:TuOk own U) (X:TurnAt w G own psr U s) (hn:s.heap.Ns G.L m) (hu:m sUA=none) (hx:NameOk x) (mx:m "name"=some (.str (nstr x) t))
 (k:∀ (s':Shared) (RC:Nat) (vr:List Value),Step w [G.L] s s'→s'.heap.Ns G.L (upd m "record" (.ref RC))→EntryAt s'.heap RC vr [] .none .none→StrsAre vr ((x.map letter ++ x.map big) ++ [nstr x,("":Str)])→wpAny (model prog w) A (execs ((bodyOf ((nameBody[3]?).getD (.Pass ⟨0,0,0,0⟩))).drop 1) (lawEnv G.L)) Q E s') :
 wpAny (model prog w) A (execs (bodyOf ((nameBody[3]?).getD (.Pass ⟨0,0,0,0⟩))) (lawEnv G.L)) Q E s:=by
 show wpAny _ _ (execs (_ :: (bodyOf ((nameBody[3]?).getD (.Pass ⟨0,0,0,0⟩))).drop 1) _) _ _ _
 have hL:=g.hL
 have I:=X.law.st.inv
 have hx7:=hx.2.1
 have hl:=name_len hx
 have n1:=nstr_len x
 have n2:(bstr x).length=x.length:=by show (bstr x).cps.size=_;unfold bstr;simp
 have n3:(nstr x ++ bstr x).length=(nstr x).length+(bstr x).length:=PySem.Str.length_append _ _
 refine wpAny_execs_cons (asg_S rfl hL rfl rfl ?_)
 refine wpAny_Call_NameR (name_global (v:=.ref 218) I rfl rfl rfl (by k_is) (by decide) ?_)
 refine fn_S (by k_is) rfl (spliced_cons ?_)
 rw [arm_eval_BinOp]
 refine wpAny_bind ?_
 refine wpAny_Call_NameR (name_builtin (v:=.type "list") I rfl rfl rfl rfl (by k_is) (by decide) (by rfl) (by decide) ?_)
 refine PySem.callWith_type rfl (evalArgs_plain (spliced_cons ?_))
 rw [arm_eval_BinOp]
 refine wpAny_bind (law_loc hn rfl mx (by decide) (wpAny_bind (wpAny_holding ?_)))
 refine meth_call ?gb ?gf ?gl ?gr
 case gb=>exact base_name _ _ _ _ _
 case gf=>rfl
 case gl=>rfl
 refine law_loc hn rfl mx (by decide) fun pl=>GM.upper (up_name hx fun t1 k1=>?_)
 refine wpAny_bind (wpAny_standAt (wpAny_operating (KOpn.add (by omega) fun t2 k2 _=>spliced_nil ?_)))
 refine list_str (s:={ s with toks:=k2 }) l.handled I (by show (nstr x ++ bstr x).length≤_;rw [sizeLine_eq];omega) fun a va na s1 y1 hva ha fa=>?_
 rw [letters_app,letters_nstr,letters_bstr] at hva
 have y01:Step w [] s s1:=((Step.refl I).toks k2).trans y1 fun a h=>.inl h
 have hn1:=hn.at' fun o e=>y01.keep _ o e nM
 refine wpAny_bind (wpAny_holding (list_S (spliced_cons (law_loc hn1 rfl mx (by decide) (spliced_cons (Constant_str (k:=0) (pos:=p0) (spliced_nil ⟨Nat.le_of_ble_eq_true rfl,y1.inv,fun D2 s2 y2 fD2 hD2=>?_⟩)))))))
 have y12:Step w [] s1 s2:=((Step.refl y1.inv).toks _).trans y2 fun a h=>.inl h
 have y02:Step w [] s s2:=y01.trans y12 fun a h=>.inl h
 have hn2:=hn.at' fun o e=>y02.keep _ o e nM
 have val:va.length=x.length+x.length:=by rw [StrsAre.len_eq hva,List.length_append,List.length_map,List.length_map]
 refine wpAny_bind (wpAny_standAt (wpAny_operating (add_S y2.inv hL hn2 (y12.keep _ _ ha.1 nM) hD2.1 (by simp only [List.length_cons,List.length_nil];omega) fun BD s3 y3 hn3 fBD hBD=>?_)))
 refine spliced_nil ⟨y3.inv,?_⟩
 refine record_list (l.up (by decide)) ?i1 hBD ?z1 fun RC s4 y4 hRC fRC=>?_
 case i1=>exact y3.inv
 case z1=>rw [sizeLine_eq];simp only [List.length_append,List.length_cons,List.length_nil];omega
 have hn4:=hn3.at' fun o e=>y4.keep _ o e nM
 have y04:Step w [G.L] s s4:=((y02.wide fun a h=>nN h).trans y3 fun a h=>.inl h).trans y4 fun a h=>nN h
 refine ⟨y4.inv,m,hn4,fun s5 y5 hn5=>?_⟩
 exact k s5 RC _ (y04.trans y5 fun a h=>.inl h) hn5 (entry_keepL hn4 hu hRC y5 oneL) (strsApp hva (.cons _ _ (.cons _ _ .nil)))
end
end
section
theorem worth_look {bits:Nat} {ws:List Value} {ns:List (List Nat)} (h:IntsAre ws (toI (ns.map (worth bits)))) {i:Nat} (hi:i < ns.length):∃ t,ws[i]? = some (.int ((worth bits ns[i]:Nat):Int) t):=by
 obtain ⟨t,e⟩:=ints_get i h (by simpa [toI] using hi)
 exact ⟨t,by rw [e];simp [toI]⟩
theorem frees4 {own:Nat→Nat} {x:List Nat} (hx:NameOk x):frees own x≤4:=Nat.le_trans (frees_le own x) (name_len hx).1
section
variable {w:World} {A:Around} {E:VP} {s s':Shared} {G:Gh} {own:Nat→Nat} {psr:List (Str×Str)} {U:Tu} {T:List Addr} {m:Str→Option Value}
theorem name_d (l:Lvl A 600) {RC i a:Nat} {vr:List Value} {x:List Nat} {ti ta:Tok} {Q:Flow→Shared→Prop} (g:GhOk G) (u:TuOk own U) (X:TurnAt w G own psr U s) (hn:s.heap.Ns G.L m) (hu:m sUA=none) (hx:NameOk x) (hi:i < G.ns.length) (ex:G.ns[i]=x)
 (mR:m "record"=some (.ref RC)) (mW:m "worths"=some (.ref G.WO)) (mi:m "n"=some (.int i ti)) (mt:m "total"=some (.int a ta))
 (hRC:EntryAt s.heap RC vr [] .none .none) (hvr:StrsAre vr ((x.map letter ++ x.map big) ++ [nstr x,("":Str)]))
 (k:∀ s' t,Step w [G.L] s s'→s'.heap.Ns G.L (upd m "total" (.int ((a+worth G.bits x*2 ^ (4 - frees own x):Nat):Int) t))→Q .next s') :
 wpAny (model prog w) A (execs ((bodyOf ((nameBody[3]?).getD (.Pass ⟨0,0,0,0⟩))).drop 1) (lawEnv G.L)) Q E s:=by
 show wpAny _ _ (execs (_ :: []) _) _ _ _
 have hL:=g.hL
 have I:=X.law.st.inv
 obtain ⟨t,e⟩:=worth_look g.ws hi
 rw [ex] at e
 have hl:=name_len hx
 have hf:=frees4 (own:=own) hx
 have hlen:G.ws.length=G.ns.length:=by rw [g.ws.length];simp [toI]
 have hns:=g.len
 have hvl:vr.length=x.length+x.length+2:=by rw [StrsAre.len_eq hvr];simp;omega
 refine wpAny_execs_cons (wpAny_AugAssign_Name (wpAny_loadName_local rfl rfl hn mt ?_))
 rw [arm_eval_BinOp]
 refine wpAny_bind (wpAny_Subscript_Name slot_list_getitem.lookup ?_)
 refine law_loc hn rfl mW (by decide) (law_loc hn rfl mi (by decide) ⟨⟨_,X.law.st.wo.1,rfl⟩,?_⟩)
 refine item_S X.law.st.wo.1 e (by omega) ?_
 refine wpAny_bind (wpAny_holding ?_)
 rw [arm_eval_BinOp]
 refine wpAny_bind (wpAny_Constant_int (k:=0) (pos:=p0) (wpAny_bind (wpAny_holding ?_)))
 rw [arm_eval_BinOp]
 refine wpAny_bind (wpAny_Constant_int (k:=0) (pos:=p0) (wpAny_bind (wpAny_holding ?_)))
 refine wpAny_Call_NameR (name_builtin (s:=⟨s.heap,_,_,_,_⟩) (v:=.builtin "len") I rfl rfl rfl rfl (by k_is) (by decide) (by rfl) (by decide) ?_)
 refine callWith_builtin rfl (evalArgs_plain (spliced_cons ?_))
 refine attr_C (base_call _ _ _ _ _ _ _ _) ?_
 refine wpAny_Call_NameR (name_global (s:=⟨s.heap,_,_,_,_⟩) (v:=.ref 70) I rfl rfl rfl (by k_is) (by decide) ?_)
 refine fn_S (by k_is) rfl (spliced_cons (law_loc (s:=⟨s.heap,_,_,_,_⟩) hn rfl mR (by decide) (spliced_cons (law_cell (s:=⟨s.heap,_,_,_,_⟩) rfl (cells_law G.L).2.2.2.2.1 X.c5 (by decide) (spliced_nil ⟨I,?_⟩)))))
 refine merge_spec (s:={ s with toks:=s.toks+1+1 }) (l.up (by decide)) I RC U.FR vr U.uf [] U.rf .none .none U.df U.tf hRC X.fr (.inl ⟨rfl,rfl⟩) u.f _ u.uf (sc_tag own 0) (strs_val hvr) (by rw [sizeLine_eq];omega) (by have:=u.rf;rw [sizeLine_eq,List.length_nil];omega) fun M s2 y2 hM fM=>?_
 have I2:=y2.inv
 refine ent_ua I2 hM fun ua na ka hua=>?_
 have hml:(vr.filter (inS ((tagL own 0).map letter))).length=frees own x:=by rw [StrsAre.len_eq (strs_filter hvr),merge_frees hx]
 refine spliced_nil (len_S (s:={ s2 with toks:=ka }) hua.1 (by rw [hml];omega) fun t5 j5=>?_)
 rw [hml]
 refine wpAny_bind (wpAny_standAt (wpAny_operating (AutoIntOps.sub_0 ?_)))
 rw [show (4:Int) - (frees own x:Int)=((4 - frees own x:Nat):Int) by omega]
 refine wpAny_bind (wpAny_standAt (wpAny_operating (pow2_S (by omega) fun t6 j6=>?_)))
 have hp:2 ^ (4 - frees own x)≤16:=Nat.pow_le_pow_right (n:=2) (by decide) (show 4 - frees own x≤4 by omega)
 refine wpAny_bind (wpAny_standAt (wpAny_operating (AutoIntOps.mul_0 ?_ ?_)))
 rotate_left
 · exact IntMulOk.of_right (Nat.le_trans (bits_lt (n:=5) (by omega)) (by decide))
 refine AutoIntOps.iadd_0 ?_
 have y02:∀ k,Step w [] s { s2 with toks:=k }:=fun k=>(((Step.refl I).toks _).trans y2 fun a h=>.inl h).toks k
 have hn2:s2.heap.Ns G.L m:=hn.at' fun o e=>(y02 0).keep _ o e nM
 rw [← Int.natCast_mul,← Int.natCast_add]
 refine set_S (env:=lawEnv G.L) (s:=⟨s2.heap,_,_,_,_⟩) I2 hL hn2 rfl rfl fun s3 y3 hn3=>?_
 exact wpAny_execs_nil (k s3 _ (((y02 _).wide fun a h=>nN h).trans y3 fun a h=>.inl h) hn3)
noncomputable def tot (own:Nat→Nat) (b:Nat) (ns:List (List Nat)) (i:Nat):Nat:=((ns.take i).map fun x=>worth b x*wt own x).sum
theorem tot_snoc {own:Nat→Nat} {b:Nat} {ns:List (List Nat)} {i:Nat} (hi:i < ns.length):tot own b ns (i+1)=tot own b ns i+worth b ns[i]*wt own ns[i]:=by
 unfold tot
 rw [take_snoc hi,List.map_append,List.sum_append];simp
structure OnJ (w:World) (G:Gh) (own:Nat→Nat) (m:Str→Option Value) (s₀:Shared) (i:Nat) (s:Shared):Prop where
 st:Step w [G.L] s₀ s
 ns:∃ m' t,s.heap.Ns G.L m'∧(∀ x:Str,x≠"n"→x≠"name"→x≠"hit"→x≠"record"→x≠"total"→m' x=m x)∧m' "total"=some (.int (tot own G.bits G.ns i:Nat) t)
theorem name_turn (l:Lvl A 600) {s₀:Shared} {TA i:Nat} {ut:List Value} {ti:Tok} {Q:Flow→Shared→Prop} (g:GhOk G) (u:TuOk own U) (X:TurnAt w G own psr U s₀) (hn₀:s₀.heap.Ns G.L m) (hu:m sUA=none) (hTA:EntryAt s₀.heap TA ut [] .none .none) (hut:StrsAre ut ((tagL own 2).map big ++ [("*":Str)]))
 (mT:m "taken"=some (.ref TA)) (mN:m "names"=some (.ref G.NM)) (mW:m "worths"=some (.ref G.WO)) (mM:m "mine"=some (.ref U.MI)) (hi:i < G.ns.length) {m5:Str→Option Value} {t5:Tok} (y05:Step w [G.L] s₀ s) (hn5:s.heap.Ns G.L m5) (e5:∀ x:Str,x≠"n"→x≠"name"→x≠"hit"→x≠"record"→x≠"total"→m5 x=m x) (mi:m5 "n"=some (.int i ti)) (mt:m5 "total"=some (.int (tot own G.bits G.ns i:Nat) t5))
 (k:∀ s',Step w [G.L] s s'→OnJ w G own m s₀ (i+1) s'→Q .next s') :
 wpAny (model prog w) A (execs nameBody (lawEnv G.L)) Q E s:=by
 have X5:=X.quiet g hn₀ hu y05 oneL
 have hTA5:=entry_keepL hn₀ hu hTA y05 oneL
 have hu5:m5 sUA=none:=(e5 _ (by decide) (by decide) (by decide) (by decide) (by decide)).trans hu
 have hx:=g.ok _ (List.getElem_mem hi)
 refine name_a l g u X5 hn5 hu5 hTA5 hut ?a1 ?a2 mi hi fun s6 t6 y6 hn6=>?_
 case a1=>exact (e5 _ (by decide) (by decide) (by decide) (by decide) (by decide)).trans mT
 case a2=>exact (e5 _ (by decide) (by decide) (by decide) (by decide) (by decide)).trans mN
 have X6:=X5.quiet g hn5 hu5 y6 oneL
 have hu6:upd (upd m5 "name" (.str (nstr G.ns[i]) t6)) "hit" (.bool (taken own G.ns[i])) sUA=none:=(upd_ne _ _ (by decide)).trans ((upd_ne _ _ (by decide)).trans hu5)
 refine name_b (t:=t6) l g u X6 hn6 hu6 hx ?b1 (upd_self _ _ _) ?b2 fun s7 y7=>?_
 case b1=>exact (upd_ne _ _ (by decide)).trans (upd_self _ _ _)
 case b2=>exact (upd_ne _ _ (by decide)).trans ((upd_ne _ _ (by decide)).trans ((e5 _ (by decide) (by decide) (by decide) (by decide) (by decide)).trans mM))
 have hn7:=hn6.at' fun o e=>y7.keep _ o e nM
 have X7:=X6.quiet g hn6 hu6 y7 noneL
 have y57:Step w [G.L] s s7:=y6.trans y7 fun a h=>nN h
 show wpAny _ _ (execs (_ :: []) _) _ _ _
 refine wpAny_execs_cons (wpAny_If (isTrue_not (isTrue_plain (law_loc hn7 rfl (upd_self _ _ _) (by decide) (wpAny_truthy_bool ?_)))))
 cases ht:taken own G.ns[i] with
 | true =>
   first | with_reducible refine iN (by decide) ?_ | rw [if_neg (by decide)]
   refine wpAny_execs_nil (wpAny_execs_nil (k s7 y57 ⟨y05.trans y57 fun a h=>.inl h,_,t5,hn7,fun x h1 h2 h3 h4 h5=>(upd_ne _ _ h3).trans ((upd_ne _ _ h2).trans (e5 x h1 h2 h3 h4 h5)),?_⟩))
   refine (upd_ne _ _ (by decide)).trans ((upd_ne _ _ (by decide)).trans (mt.trans ?_))
   rw [tot_snoc hi]
   unfold wt
   rw [ht,if_pos rfl,Nat.mul_zero,Nat.add_zero]
 | false =>
   first | with_reducible refine iP (by decide) ?_ | rw [if_pos (by decide)]
   rw [ht] at hn7 hu6
   show wpAny _ _ (execs (bodyOf ((nameBody[3]?).getD (.Pass ⟨0,0,0,0⟩))) (lawEnv G.L)) _ _ _
   refine name_c (t:=t6) l g u X7 hn7 hu6 hx ?c1 fun s8 RC vr y8 hn8 hRC hvr=>?_
   case c1=>exact (upd_ne _ _ (by decide)).trans (upd_self _ _ _)
   have X8:=X7.quiet g hn7 hu6 y8 oneL
   refine name_d l (i:=i) (a:=tot own G.bits G.ns i) (ti:=ti) (ta:=t5) g u X8 hn8 ?d0 hx hi rfl (upd_self _ _ _) ?d1 ?d2 ?d3 hRC hvr fun s9 t9 y9 hn9=>?_
   case d0=>exact (upd_ne _ _ (by decide)).trans hu6
   case d1=>exact (upd_ne _ _ (by decide)).trans ((upd_ne _ _ (by decide)).trans ((upd_ne _ _ (by decide)).trans ((e5 _ (by decide) (by decide) (by decide) (by decide) (by decide)).trans mW)))
   case d2=>exact (upd_ne _ _ (by decide)).trans ((upd_ne _ _ (by decide)).trans ((upd_ne _ _ (by decide)).trans mi))
   case d3=>exact (upd_ne _ _ (by decide)).trans ((upd_ne _ _ (by decide)).trans ((upd_ne _ _ (by decide)).trans mt))
   have y59:Step w [G.L] s s9:=(y57.trans y8 fun a h=>.inl h).trans y9 fun a h=>.inl h
   refine wpAny_execs_nil (k s9 y59 ⟨y05.trans y59 fun a h=>.inl h,_,t9,hn9,fun x h1 h2 h3 h4 h5=>(upd_ne _ _ h5).trans ((upd_ne _ _ h4).trans ((upd_ne _ _ h3).trans ((upd_ne _ _ h2).trans (e5 x h1 h2 h3 h4 h5)))),?_⟩)
   refine (upd_self _ _ _).trans ?_
   rw [tot_snoc hi]
   unfold wt
   rw [ht];rfl
end
end
section
section
variable {w:World} {A:Around} {E:VP} {s s':Shared} {G:Gh} {own:Nat→Nat} {psr:List (Str×Str)} {U:Tu} {T:List Addr} {m:Str→Option Value}
theorem odd_b (l:Lvl A 600) {TA:Nat} {ut:List Value} {t0:Tok} {Q:Flow→Shared→Prop} (g:GhOk G) (u:TuOk own U) (X:TurnAt w G own psr U s) (hn:s.heap.Ns G.L m) (hu:m sUA=none) (hTA:EntryAt s.heap TA ut [] .none .none) (hut:StrsAre ut ((tagL own 2).map big ++ [("*":Str)]))
 (mT:m "taken"=some (.ref TA)) (mN:m "names"=some (.ref G.NM)) (mW:m "worths"=some (.ref G.WO)) (mM:m "mine"=some (.ref U.MI)) (m0:m "total"=some (.int 0 t0))
 (k:∀ s' m' t,Step w [G.L] s s'→s'.heap.Ns G.L m'→(∀ x:Str,x≠"n"→x≠"name"→x≠"hit"→x≠"record"→x≠"total"→m' x=m x)→m' "total"=some (.int (val G.bits (weights own G.ns):Nat) t)→wpAny (model prog w) A (execs (oddBody.drop 4) (lawEnv G.L)) Q E s') :
 wpAny (model prog w) A (execs (oddBody.drop 3) (lawEnv G.L)) Q E s:=by
 show wpAny _ _ (execs (_ :: oddBody.drop 4) _) _ _ _
 have hL:=g.hL
 have I:=X.law.st.inv
 have hlen:G.us.length=G.ns.length:=by rw [StrsAre.len_eq g.us,List.length_map]
 have hns:=g.len
 refine wpAny_execs_cons (for_src l.handled ?_)
 refine wpAny_Call_NameR (name_builtin (v:=.type "range") I rfl rfl rfl rfl (by k_is) (by decide) (by rfl) (by decide) ?_)
 refine PySem.callWith_type rfl (evalArgs_plain (spliced_cons ?_))
 refine wpAny_Call_NameR (name_builtin (v:=.builtin "len") I rfl rfl rfl rfl (by k_is) (by decide) (by rfl) (by decide) ?_)
 refine callWith_builtin rfl (evalArgs_plain (spliced_cons (law_loc hn rfl mN (by decide) (spliced_nil ?_))))
 refine len_S X.law.st.nm.1 (by omega) fun t1 j1=>?_
 rw [hlen]
 refine spliced_nil (range_S (s:={ s with toks:=j1 }) I fun r t2 u2 v2 s1 y1 hr=>?_)
 have y01:Step w [] s s1:=((Step.refl I).toks j1).trans y1 fun a h=>.inl h
 have hn1:=hn.at' fun o e=>y01.keep _ o e nM
 have f1:s.heap.get? s1.heap.objs.size=none:=y01.freshTop fun a h=>nN h
 have nL1:G.L∉[s1.heap.objs.size]:=fun hm=>Nat.lt_irrefl _ (Nat.lt_of_lt_of_le hn1.lt (Nat.le_of_eq (mS hm).symm))
 refine exI4 [G.L] G.ns.length (fun i v=>∃ t,v=.int i t) (fun i s'=>OnJ w G own m s i s') (anI8 y1.inv (src2_range hr (by omega)) (fun a ha=>by rw [mS ha];exact hn1.lt) (fun i s' j=>j.st.inv) (fun s' y=>?_) (fun i s3 s' j y=>?_) ?_ ?_)
 · have y02:=y01.trans y fun a h=>.inl h
   exact ⟨y02.wide fun a h=>nN h,m,t0,hn.at' fun o e=>y02.keep _ o e nM,fun _ _ _ _ _ _=>rfl,m0⟩
 · refine exE2 j.ns fun m' t hh=>anE3 hh fun h1 h2 h3=>?_;clear hh
   exact ⟨j.st.trans y fun a h=>.inr (by rw [mS h];exact f1),m',t,h1.at' fun o e=>y.keep _ o e nL1,h2,h3⟩
 · intro i v s4 hi hP J _
   obtain ⟨ti,rfl⟩:=hP
   refine exE2 J.ns fun m4 t4 hh=>anE3 hh fun hn4 e4 mt4=>?_;clear hh
   refine assign_S J.st.inv hL hn4 rfl rfl fun s5 y5 hn5=>?_
   show wpAny _ _ (execs nameBody (lawEnv G.L)) _ _ _
   refine name_turn l g u X hn hu hTA hut mT mN mW mM hi (J.st.trans y5 fun a h=>.inl h) hn5 (fun x h1 h2 h3 h4 h5=>(upd_ne _ _ h1).trans (e4 x h1 h2 h3 h4 h5)) (upd_self _ _ _) ((upd_ne _ _ (by decide)).trans mt4) fun s6 y6 J6=>?_
   exact ⟨J6,y5.trans y6 fun a h=>.inl h⟩
 · intro s4 J
   refine exE2 J.ns fun m4 t4 hh=>anE3 hh fun hn4 e4 mt4=>?_;clear hh
   refine k s4 m4 t4 J.st hn4 e4 ?_
   rw [mt4]
   unfold tot
   rw [List.take_length,total_val]
end
end
section
theorem toI_inj:∀ {a b:List Nat},toI a=toI b→a=b
 | [],[],_=>rfl
 | [],_ :: _,e=>by cases e
 | _ :: _,[],e=>by cases e
 | x :: a,y :: b,e=>by
   obtain ⟨e1,e2⟩:=List.cons.inj e
   rw [Int.ofNat.inj e1,toI_inj e2]
theorem last_not {ds:List Nat} (h:ds.getLast?≠some 0):(toI ds).drop ((toI ds).length - 1)≠[0]:=by
 intro e
 apply h
 have hl:(toI ds).length=ds.length:=by simp [toI]
 rw [hl] at e
 have:ds.drop (ds.length - 1)=[0]:=by
  apply toI_inj
  unfold toI at e ⊢
  rw [List.map_drop];exact e
 rw [List.getLast?_eq_getElem?]
 have h2:=congrArg (fun l:List Nat=>l[0]?) this
 simpa using h2
theorem rep_ints:∀ (k:Nat) (t:Tok),IntsAre (List.replicate k (Value.int 0 t)) (List.replicate k 0)
 | 0,_=>.nil
 | k+1,t=>.cons _ _ (rep_ints k t)
theorem flat_rep {α:Type} (x:α):∀ k:Nat,(List.replicate k [x]).flatten=List.replicate k x
 | 0=>rfl
 | k+1=>by rw [List.replicate_succ,List.flatten_cons,flat_rep x k,List.replicate_succ];rfl
section
variable {w:World} {A:Around} {E:VP} {s s':Shared} {G:Gh} {own:Nat→Nat} {psr:List (Str×Str)} {U:Tu} {T:List Addr} {m:Str→Option Value}
theorem TurnAt.cellset {c:Nat} {v0 v:Option Value} (g:GhOk G) (X:TurnAt w G own psr U s) (hc:c=G.L+1+1+1+1+1+1) (h0:s.heap.IsCell c v0) (y:Step w [c] s s') (hv:s'.heap.IsCell c v):TurnAt w G own psr U s':=by
 have ne:∀ {a:Nat},a < c→a∉[c]:=fun h hm=>absurd (mS hm) (Nat.ne_of_lt h)
 exact ⟨X.law.cellset g (by rw [hc];exact .tail _ (.tail _ (.head _))) h0 y hv,at_keepC h0 X.le y list_nc,entry_keepC h0 X.mi y,entry_keepC h0 X.yo y,entry_keepC h0 X.fr y,cell_keep X.c4 y (ne (by omega)),cell_keep X.c5 y (ne (by omega))⟩
theorem last_S {env:Env} {value:PySem.Expr} {p1 p2 p3 p4:Pos} {k:Nat} {Q:VP} (ht:∀ o r,letTemporaryGo value o r=pure ())
 (h:wpAny (model prog w) A (eval value env) (fun o s₁=>∃ l vs n,o=.ref l∧Inv w s₁.heap∧s₁.heap.get? l=some (listOf (List.toArray vs) n)∧vs.length≤1000∧∀ D s',Step w [] s₁ s'→At s'.heap D (listOf (vs.drop (vs.length - 1)).toArray 0)→Q (.ref D) s') E s) :
 wpAny (model prog w) A (eval (.Subscript value (.Slice (some (.UnaryOp .USub (.Constant (.int 1) k p1) p2)) none none p3) p4) env) Q E s:=by
 refine wpAny_Subscript_list_slice (wpAny_mono h (fun o s₁ h₁=>?_) fun _ _ e=>e) ht
 refine exE3 h₁ fun l vs n hh=>anE5 hh fun z3 I hl hz q=>?_;clear hh;try clear h₁;rcases z3 with rfl
 refine wpAny_evalPart_some (wpAny_UnaryOp (wpAny_Constant_int (k:=0) (pos:=p0) (P.neg_int ?_)))
 refine wpAny_evalPart_none ?_
 refine exI4 l vs.toArray (some (-1)) none (anI6 rfl ⟨_,hl,rfl,_,rfl⟩ (by rw [sizeLine_eq,List.size_toArray];omega) (.int _ _) .none ?_)
 have e:=slicePick_last vs.toArray 1 (Nat.le_refl _)
 rw [show (-((1:Nat):Int))=(-1:Int) from rfl] at e
 have kp:∀ (h:Heap) (o':Obj) b o,h.get? b=some o→(h.push o').get? b=some o:=fun _ _ b o e=>Heap.get?_push_of_some _ e
 have k2:∀ (o1 o2:Obj) b o,s₁.heap.get? b=some o→((s₁.heap.push o1).push o2).get? b=some o:=fun _ _ b o e=>kp _ _ _ _ (kp _ _ _ _ e)
 refine q _ _ ⟨fun b o e _=>k2 _ _ b o e,rfl,id,I.keepAll (k2 _ _)⟩ ⟨?_,Nat.le_succ_of_le I.size⟩
 have e1:=Heap.get?_push_size (s₁.heap.push { cls:=.type "slice",data:=.fields #[.int (-1) (s₁.toks+1),.none,.none] }) (o:={ cls:=.type "list",data:=.seq (slicePick vs.toArray (some (-1)) none none) }) rfl
 rw [Heap.size_push] at e1
 rw [e] at e1 ⊢
 simpa using e1
theorem odd_c (l:Lvl A 600) {tt:Tok} {Q:Flow→Shared→Prop} (g:GhOk G) (u:TuOk own U) (X:TurnAt w G own psr U s) (hn:s.heap.Ns G.L m) (hu:m sUA=none) (hodd:Odd own G.ns)
 (mN:m "names"=some (.ref G.NM)) (mt:m "total"=some (.int (val G.bits (weights own G.ns):Nat) tt))
 (k:∀ s' F W vw nw,Step w [G.L,G.L+1+1+1+1+1+1,86] s s'→TurnAt w G own psr U s'→s'.heap.Ns G.L (upd m "figures" (.ref F))→s'.heap.IsCell (G.L+1+1+1+1+1+1) (some (.ref W))→At s'.heap W (listOf (List.toArray vw) nw)→IntsAre vw (toI (weights own G.ns))→wpAny (model prog w) A (execs (oddBody.drop 7) (lawEnv G.L)) Q E s') :
 wpAny (model prog w) A (execs (oddBody.drop 4) (lawEnv G.L)) Q E s:=by
 show wpAny _ _ (execs (_ :: _ :: _ :: oddBody.drop 7) _) _ _ _
 have hL:=g.hL
 have I:=X.law.st.inv
 have hb:=g.b4
 have hb12:=g.b12
 refine wpAny_execs_cons (casg_S rfl rfl (cells_law G.L).2.2.2.2.2 (Nat.le_trans hL (Nat.le_add_right _ 6)) ?_)
 refine wpAny_Call_NameR (name_global (v:=.ref 244) I rfl rfl rfl (by k_is) (by decide) ?_)
 refine fn_S (by k_is) rfl (spliced_cons (law_loc hn rfl mN (by decide) (spliced_cons (law_cell rfl (cells_law G.L).2.2.1 X.law.st.co (by decide) (spliced_nil ⟨I,?_⟩)))))
 refine weights_spec (l.up (by decide)) I X.law.st.nm g.us g.ok g.len X.law.own u.own2 fun W vw nw s1 y1 fW hW hvw=>?_
 have hn1:=hn.at' fun o e=>y1.keep _ o e nM
 have X1:=X.quiet g hn hu y1 noneL
 obtain ⟨v6,c61⟩:=X1.law.c6
 refine ⟨y1.inv,⟨_,c61⟩,fun s2 y2 d6=>?_⟩
 have X2:=X1.cellset g rfl c61 y2 d6
 have hn2:=ns_keepC c61 hn1 y2
 have hW2:=at_keepC c61 hW y2 list_nc
 have I2:=X2.law.st.inv
 have hlt:=weights_lt hodd hb
 have hwl:(weights own G.ns).length=7:=by simp [weights]
 have hval:val G.bits (weights own G.ns) < 2 ^ (G.bits*7):=by have:=val_lt G.bits _ hlt;rw [hwl] at this;exact this
 have hF:=figs_nDigs (val G.bits (weights own G.ns)) (b:=G.bits) (by omega)
 refine wpAny_execs_cons (asg_S rfl hL rfl rfl ?_)
 refine wpAny_Call_NameR (name_global (v:=.ref 91) I2 rfl rfl rfl (by k_is) (by decide) ?_)
 refine fn_S (by k_is) rfl (spliced_cons (law_loc hn2 rfl mt (by decide) (spliced_cons (law_cell rfl (cells_law G.L).2.1 X2.law.st.cb (by decide) (spliced_nil ⟨I2,?_⟩)))))
 refine int2d (l.up (by decide)) I2 (by omega) hb12 hval fun F ds nF s3 y3 hF3 fF hds=>?_
 have t86:∀ b∈[(86:Nat)],b=G.L∨b∈TB:=fun b hb=>.inr (by rw [mS hb];decide)
 have t86':∀ b∈[(86:Nat)],b∈TB:=fun b hb=>by rw [mS hb];decide
 have hn3:=ns_keepT hL hn2 y3 t86'
 have X3:=X2.quiet g hn2 hu y3 t86
 have hW3:=at_keepL hn2 hW2 y3 t86 list_nd
 have d63:=cell_keepL hL (by omega) d6 y3 t86
 refine ⟨y3.inv,m,hn3,fun s4 y4 hn4=>?_⟩
 have X4:=X3.quiet g hn3 hu y4 oneL
 have hW4:=at_keepL hn3 hW3 y4 oneL list_nd
 have d64:=cell_keepL hL (by omega) d63 y4 oneL
 have hF4:=at_keepL hn3 hF3 y4 oneL list_nd
 have I4:=X4.law.st.inv
 have mF:upd m "figures" (.ref F) "figures"=some (.ref F):=upd_self _ _ _
 have dl:ds.toList.length=nDigs (val G.bits (weights own G.ns)) G.bits:=by rw [hds.length];simp [toI,digs]
 have d7:=nDigs_le (b:=G.bits) (by omega) hval
 have top:=last_not (figs_top (b:=G.bits) (by omega) hF)
 have feq:=figs_eq (b:=G.bits) (by omega) hlt hF
 generalize hdg:digs (val G.bits (weights own G.ns)) G.bits (nDigs (val G.bits (weights own G.ns)) G.bits)=dg at *
 generalize hm:nDigs (val G.bits (weights own G.ns)) G.bits=mm at *
 rw [hwl] at feq
 have hfe:(listOf ds nF)=listOf ds.toList.toArray nF:=by simp
 rw [hfe] at hF4
 refine wpAny_execs_cons (wpAny_If (isTrue_or (wpAny_isTrue_Compare1 ?_)))
 refine last_S (by intro _ _;rfl) (law_loc hn4 rfl mF (by decide) ⟨F,ds.toList,nF,rfl,I4,hF4.1,by omega,fun D s5 y5 hD=>?_⟩)
 have hn5:=hn4.at' fun o e=>y5.keep _ o e nM
 refine list_S (spliced_cons (wpAny_Constant_int (k:=0) (pos:=p0) (spliced_nil ⟨Nat.le_of_ble_eq_true rfl,y5.inv,fun D2 s6 y6 fD2 hD2=>?_⟩)))
 have y56:Step w [] s5 s6:=((Step.refl y5.inv).toks _).trans y6 fun a h=>.inl h
 have lst:IntsAre (ds.toList.drop (ds.toList.length - 1)) ((toI dg).drop ((toI dg).length - 1)):=by
  have:=hds.drop (ds.toList.length - 1)
  rw [hds.length] at this ⊢
  exact this
 refine eq_intsK ⟨_,(hD.keep y56 nM).1,rfl,_,rfl⟩ lst ⟨_,hD2.1,rfl,_,rfl⟩ (.cons _ _ .nil) (units64 l) ?_
 rw [decide_eq_false top]
 refine wpAny_truthy_bool ?_
 first | with_reducible refine iN (by decide) ?_ | rw [if_neg (by decide)]
 have y46:=y5.trans y56 fun a h=>.inl h
 have hn6:=hn4.at' fun o e=>y46.keep _ o e nM
 have hF6:=hF4.keep y46 nM
 refine isTrue_or (wpAny_isTrue_Compare1 ?_)
 rw [arm_eval_BinOp]
 refine wpAny_bind (law_loc hn6 rfl mF (by decide) (wpAny_bind (wpAny_holding ?_)))
 rw [arm_eval_BinOp]
 refine wpAny_bind (list_S (spliced_cons (wpAny_Constant_int (k:=0) (pos:=p0) (spliced_nil ⟨Nat.le_of_ble_eq_true rfl,y6.inv,fun D3 s7 y7 fD3 hD3=>?_⟩))))
 have y67:Step w [] s6 s7:=((Step.refl y6.inv).toks _).trans y7 fun a h=>.inl h
 have hn7:=hn6.at' fun o e=>y67.keep _ o e nM
 have hF7:=hF6.keep y67 nM
 refine wpAny_bind (wpAny_holding ?_)
 rw [arm_eval_BinOp]
 refine wpAny_bind (wpAny_Constant_int (k:=0) (pos:=p0) (wpAny_bind (wpAny_holding ?_)))
 refine wpAny_Call_NameR (name_builtin (s:={ s7 with toks:=s7.toks+1 }) (v:=.builtin "len") y7.inv rfl rfl rfl rfl (by k_is) (by decide) (by rfl) (by decide) ?_)
 refine callWith_builtin rfl (evalArgs_plain (spliced_cons (law_loc (s:={ s7 with toks:=s7.toks+1 }) hn7 rfl mF (by decide) (spliced_nil ?_))))
 refine len_S (s:={ s7 with toks:=s7.toks+1 }) hF7.1 (by omega) fun t8 j8=>?_
 rw [dl]
 refine wpAny_bind (wpAny_standAt (wpAny_operating (AutoIntOps.sub_0 ?_)))
 rw [show (7:Int) - (mm:Int)=((7 - mm:Nat):Int) by omega]
 refine wpAny_bind (wpAny_standAt (wpAny_operating ?_))
 refine mul_S (s:={ s7 with toks:=j8+1 }) (x:=7 - mm) y7.inv hL hn7 hD3.1 (by omega) (Nat.le_of_ble_eq_true rfl) fun D4 s8 y8 hn8 fD4 hD4=>?_
 rw [flat_rep] at hD4
 have y78:Step w [G.L] s7 s8:=(((Step.refl y7.inv).toks (j8+1)).wide fun a h=>.inl h).trans y8 fun a h=>.inl h
 have hF8:=at_keepL hn7 hF7 y78 oneL list_nd
 refine wpAny_bind (wpAny_standAt (wpAny_operating (add_S y8.inv hL hn8 hF8.1 hD4.1 (by rw [List.length_replicate];omega) fun D5 s9 y9 hn9 fD5 hD5=>?_)))
 have y49:Step w [G.L] s4 s9:=(((y46.trans y67 fun a h=>.inl h).wide fun a h=>nN h).trans y78 fun a h=>.inl h).trans y9 fun a h=>.inl h
 have hu4:upd m "figures" (.ref F) sUA=none:=(upd_ne _ _ (by decide)).trans hu
 have X9:=X4.quiet g hn4 hu4 y49 oneL
 have hW9:=at_keepL hn4 hW4 y49 oneL list_nd
 have d69:=cell_keepL hL (by omega) d64 y49 oneL
 refine law_cell rfl (cells_law G.L).2.2.2.2.2 d69 (by decide) ?_
 have all:IntsAre (ds.toList ++ List.replicate (7 - mm) (Value.int 0 s6.toks)) (toI (weights own G.ns)):=by
  have h1:=hds.append (rep_ints (7 - mm) s6.toks)
  have h2:toI (weights own G.ns)=toI dg ++ List.replicate (7 - mm) 0:=by
   rw [← feq]
   simp [toI]
  rw [h2]
  exact h1
 refine ne_intsK ⟨_,hD5.1,rfl,_,rfl⟩ all ⟨_,hW9.1,rfl,_,rfl⟩ hvw (units64 l) ?_
 rw [decide_eq_true rfl]
 refine wpAny_truthy_bool ?_
 first | with_reducible refine iN (by decide) ?_ | rw [if_neg (by decide)]
 refine isTrue_or_nil ?_
 first | with_reducible refine iN (by decide) ?_ | rw [if_neg (by decide)]
 refine wpAny_execs_nil (k s9 F W vw nw ?_ X9 hn9 d69 hW9 hvw)
 have mL:∀ a∈[G.L],a∈[G.L,G.L+1+1+1+1+1+1,86]∨s.heap.get? a=none:=fun a ha=>.inl (by rw [mS ha];exact .head _)
 have z1:=(y1.wide (T':=[G.L,G.L+1+1+1+1+1+1,86]) fun a h=>nN h).trans y2 fun a ha=>.inl (by rw [mS ha];exact .tail _ (.head _))
 have z2:=z1.trans y3 fun a ha=>.inl (by rw [mS ha];exact .tail _ (.tail _ (.head _)))
 exact (z2.trans y4 mL).trans y49 mL
end
end
section
theorem weights_look {own:Nat→Nat} {ns:List (List Nat)} {vw:List Value} (h:IntsAre vw (toI (weights own ns))) {c:Nat} (hc:c < 7):∃ t,vw[c]? = some (.int ((cw own ns c:Nat):Int) t):=by
 obtain ⟨t,e⟩:=r7_get (f:=cw own ns) h hc
 exact ⟨t,e⟩
section
variable {w:World} {A:Around} {E:VP} {s s':Shared} {G:Gh} {own:Nat→Nat} {psr:List (Str×Str)} {U:Tu} {T:List Addr} {m:Str→Option Value}
theorem odd_d (l:Lvl A 600) {W nw:Nat} {vw:List Value} {Q:Flow→Shared→Prop} (g:GhOk G) (u:TuOk own U) (X:TurnAt w G own psr U s) (hn:s.heap.Ns G.L m) (hu:m sUA=none) (ml:m "left"=some (.ref U.LE))
 (d6:s.heap.IsCell (G.L+1+1+1+1+1+1) (some (.ref W))) (hW:At s.heap W (listOf vw.toArray nw)) (hvw:IntsAre vw (toI (weights own G.ns)))
 (k:∀ s' H vh nh,Step w [G.L] s s'→TurnAt w G own psr U s'→s'.heap.Ns G.L (upd m "heavy" (.ref H))→At s'.heap H (listOf (List.toArray vh) nh)→IntsAre vh (toI ((tagL own 0).map (cw own G.ns)))→wpAny (model prog w) A (execs (oddBody.drop 8) (lawEnv G.L)) Q E s') :
 wpAny (model prog w) A (execs (oddBody.drop 7) (lawEnv G.L)) Q E s:=by
 show wpAny _ _ (execs (_ :: oddBody.drop 8) _) _ _ _
 have hL:=g.hL
 have I:=X.law.st.inv
 have hlen:U.vl.length=(tagL own 0).length:=by rw [StrsAre.len_eq u.vl,List.length_map]
 have hl7:(tagL own 0).length≤7:=Nat.le_trans (List.length_filter_le ..) (by simp)
 have hw7:vw.length=7:=by rw [hvw.length];simp [toI,weights]
 refine wpAny_execs_cons (comp_A (T:=[]) (cl:=[(Str.ofString "weights",G.L+1+1+1+1+1+1),(Str.ofString "cells",G.L+1)]) l.handled (by rfl) (by rfl) (by decide) (by rfl) (by decide) (by rfl) (fun _ h=>nN h) (by rfl) (by rfl) ?_)
 refine law_loc hn rfl ml (by decide) ?_
 refine exI5 U.vl.length (fun i v=>U.vl[i]? = some v) (fun _=>true) (fun i y=>∃ t,y=.int ((cw own G.ns ((tagL own 0).getD i 0):Nat):Int) t) m (anI7 I hL hn (by rw [sizeLine_eq];omega) (src_list (fun _ h=>nN h) X.le) (fun tk=>⟨?_,?_⟩) (fun D n ys s' y fD hD M hn'=>?_))
 · intro C i v s3 m3 hi hP S3 fC hC hn3 hm3
   exact wpAny_tests_nil ⟨rfl,(Step.refl S3.inv).wide fun _ h=>nN h,m3,hn3,hm3⟩
 · intro C i v s3 m3 hi hP hp S3 fC hC hn3 hm3
   refine exE2 (strs_ix u.vl i v hP) fun y t hh=>anE2 hh fun h1 z3=>?_;clear hh;rcases z3 with rfl
   rw [List.getElem?_map] at h1
   obtain ⟨c,hc,rfl⟩:=Option.map_eq_some_iff.mp h1
   have ec:(tagL own 0).getD i 0=c:=by rw [List.getD_eq_getElem?_getD,hc];rfl
   have hc7:c < 7:=tagL_lt c (List.mem_of_getElem? hc)
   have S3':Step w [] s s3:=((Step.refl I).toks tk).trans S3 fun a ha=>.inl ha
   obtain ⟨tw,ew⟩:=weights_look hvw hc7
   have hW3:=hW.keep S3' nM
   have hx1:=ownName_of (w:=w) (s:=s) (V:=.str "abcdefg" G.tc) (env:=lawEnv G.L) (scope:=⟨.function,[(".0",.local),("cell",.local),("cells",.free),("weights",.free)],false,false,[]⟩) (cl:=[(Str.ofString "weights",G.L+1+1+1+1+1+1),(Str.ofString "cells",G.L+1)]) (x:="cells") (by decide) rfl rfl rfl X.law.st.cc
   have hx2:=ownName_of (w:=w) (s:=s) (V:=.ref W) (env:=lawEnv G.L) (scope:=⟨.function,[(".0",.local),("cell",.local),("cells",.free),("weights",.free)],false,false,[]⟩) (cl:=[(Str.ofString "weights",G.L+1+1+1+1+1+1),(Str.ofString "cells",G.L+1)]) (x:="weights") (by decide) rfl rfl rfl d6
   refine Subscript_ (hx2 _ _ _ _ _ _ S3' ?_)
   refine meth_call ?gb ?gf ?gl ?gr
   case gb=>exact base_name _ _ _ _ _
   case gf=>rfl
   case gl=>rfl
   refine hx1 _ _ _ _ _ _ S3' fun pl=>GM.index ?_
   refine callWith_builtin rfl (evalArgs_plain (spliced_cons ?_))
   refine wpAny_Name (wpAny_loadName_local rfl rfl hn3 hm3 ?_) (by decide)
   refine spliced_nil (index7 l.handled hc7 fun t' k'=>?_)
   refine subscriptTail_ops (T:="list") ⟨_,hW3.1,rfl⟩ slot_list_getitem.lookup (item_S (s:={ s3 with toks:=k' }) hW3.1 ew (by omega) ?_) rfl (fun _=>rfl)
   exact ⟨⟨tw,by rw [ec]⟩,((Step.refl S3.inv).toks k').wide fun _ h=>nN h,m3,hn3⟩
 · have h1:=M.ints (g:=fun i=>((cw own G.ns ((tagL own 0).getD i 0):Nat):Int)) (fun i y h=>h)
   rw [List.filter_eq_self.mpr fun _ _=>rfl,hlen] at h1
   have e:(List.range (tagL own 0).length).map (fun i=>((cw own G.ns ((tagL own 0).getD i 0):Nat):Int))=toI ((tagL own 0).map (cw own G.ns)):=by
    conv=>rhs;rw [← range_getD (tagL own 0)]
    unfold toI
    rw [List.map_map,List.map_map];rfl
   rw [e] at h1
   exact k s' D ys n y (X.quiet g hn hu y oneL) hn' hD h1
end
end
section
theorem mild_fields {o:Obj} {vs:Array Value} (hd:o.data=.fields vs) (hc:isCode o=false):Mild o:=by
 refine ⟨?_,fun d e=>?_,fun _ _ _ _ _ _ _ _ _ _ _ _ _ _ _ _ _ e=>?_⟩
 · rintro (⟨fd,e⟩ | e | ⟨v,e⟩)
   · rw [hd] at e;cases e
   · rw [hc] at e;cases e
   · rw [hd] at e;cases e
 · rw [e] at hd;cases hd
 · rw [e] at hd;cases hd
noncomputable def NotTup (o:Obj):Prop:=∀ xs,o≠⟨.type "tuple",none,.seq xs 0,#[]⟩
theorem notTup_fields {o:Obj} {vs:Array Value} (hd:o.data=.fields vs):NotTup o:=fun xs e=>by rw [e] at hd;cases hd
theorem mild_list {xs:Array Value} {n:Nat}:Mild (listOf xs n):=by
 refine ⟨?_,fun d e=>?_,fun _ _ _ _ _ _ _ _ _ _ _ _ _ _ _ _ _ e=>?_⟩
 · rintro (⟨fd,e⟩ | e | ⟨v,e⟩) <;> cases e
 · have:=congrArg Obj.data e;cases this
 · have:=congrArg Obj.data e;cases this
theorem mild_frame {h:Heap} {L:Nat} {m:Str→Option Value} (hn:h.Ns L m) (hu:m sUA=none):∃ o,h.get? L=some o∧Mild o:=by
 refine exE3 hn fun o es ep hh=>anE4 hh fun e hd hc hf=>?_;clear hh;try clear hn
 refine exI1 o (anI4 e ?_ (fun d q=>?_) (fun _ _ _ _ _ _ _ _ _ _ _ _ _ _ _ _ _ q=>?_))
 · rintro (⟨fd,q⟩ | q | ⟨v,q⟩)
   · rw [hd] at q;cases q
   · unfold isCode at q;rw [hd] at q;cases q
   · rw [hd] at q;cases q
 · rw [q] at hd;cases hd
 · rw [q] at hd
   cases hd
   have:=hf sUA
   rw [hu] at this
   cases this
theorem rules_step {w:World} {T:List Addr} {s s':Shared} (y:Step w T s s') (hT:∀ a∈T,a < 250∨∃ o,s.heap.get? a=some o∧Mild o):∀ {vs:List Value} {rs:List (Int×Str)},RulesAt w s.heap vs rs→RulesAt w s'.heap vs rs
 | [],[],_=>trivial
 | _ :: _,_ :: _,⟨⟨x,e,R⟩,H⟩=>⟨⟨x,e,R.step y hT⟩,rules_step y hT H⟩
theorem rules_snoc {w:World} {h:Heap} {x:Addr} {r:Int×Str} (R:RuleAt w h x r.1 r.2):∀ {vs:List Value} {rs:List (Int×Str)},RulesAt w h vs rs→RulesAt w h (vs ++ [.ref x]) (rs ++ [r])
 | [],[],_=>⟨⟨x,rfl,R⟩,trivial⟩
 | _ :: _,_ :: _,⟨a,H⟩=>⟨a,rules_snoc R H⟩
structure JuAt (w:World) (h:Heap) (x d u r:Addr) (vs:List Value) (rs:List (Int×Str)):Prop where
 ax:At h x (instObj 59 d)
 ad:∃ (h1 h2 h3 h4:Int) (t1 t2 t3 t4:Tok),At h d (dictOf (ent h1 h2 h3 h4 t1 t2 t3 t4 (.ref u) (.ref r) .none .none) 4)
 au:At h u (listOf #[] 0)
 ar:∃ n,At h r (listOf vs.toArray n)
 rules:RulesAt w h vs rs
 len:vs.length=rs.length
theorem JuAt.ent {w:World} {h:Heap} {x d u r:Addr} {vs:List Value} {rs:List (Int×Str)} (J:JuAt w h x d u r vs rs):EntryAt h x [] vs .none .none:=by
 refine exE8 J.ad fun h1 h2 h3 h4 t1 t2 t3 t4 ad=>?_
 obtain ⟨n,ar⟩:=J.ar
 exact ⟨d,u,r,h1,h2,h3,h4,t1,t2,t3,t4,4,0,n,J.ax,ad,J.au,ar⟩
theorem JuAt.keep {w:World} {T:List Addr} {s s':Shared} {x d u r:Addr} {vs:List Value} {rs:List (Int×Str)} (J:JuAt w s.heap x d u r vs rs) (y:Step w T s s') (h1:∀ a∈T,a∉[x,d,u,r]) (h2:∀ a∈T,a < 250∨∃ o,s.heap.get? a=some o∧Mild o):JuAt w s'.heap x d u r vs rs:=by
 refine exE8 J.ad fun g1 g2 g3 g4 t1 t2 t3 t4 ad=>?_
 obtain ⟨n,ar⟩:=J.ar
 exact ⟨J.ax.keep y fun hm=>h1 _ hm (.head _),⟨g1,g2,g3,g4,t1,t2,t3,t4,ad.keep y fun hm=>h1 _ hm (.tail _ (.head _))⟩,J.au.keep y fun hm=>h1 _ hm (.tail _ (.tail _ (.head _))),⟨n,ar.keep y fun hm=>h1 _ hm (.tail _ (.tail _ (.tail _ (.head _))))⟩,rules_step y h2 J.rules,J.len⟩
theorem JuAt.hi {w:World} {h:Heap} {x d u r:Addr} {vs:List Value} {rs:List (Int×Str)} (J:JuAt w h x d u r vs rs):∀ a∈[x,d,u,r],250≤a:=by
 refine exE8 J.ad fun g1 g2 g3 g4 t1 t2 t3 t4 ad=>?_
 obtain ⟨n,ar⟩:=J.ar
 exact fm4 J.ax.2 ad.2 J.au.2 ar.2 (fun _ h=>nN h)
section
variable {w:World} {A:Around} {E:VP} {s s₁:Shared} {env:Env} {T:List Addr}
theorem append_S {r n:Nat} {vs:List Value} {v:Value} {Q:VP} (I:Inv w s.heap) (hr:At s.heap r (listOf vs.toArray n)) (hz:vs.length≤1000) (k:∀ s' n',Step w [r] s s'→At s'.heap r (listOf (vs ++ [v]).toArray n')→Q .none s'):wpAny (model prog w) A (call (.builtin "list.append") [.ref r,v]) Q E s:=by
 refine call_meets PySem.F.slot_list_append ⟨_,hr.1,rfl⟩ PySem.F.entry_list_append (PySem.F.args_list_append_2 _ _) (PySem.AutoListH.list_append_list_val_0 r vs.toArray n v (by rw [List.size_toArray,sizeLine_eq];omega)) ⟨hr.1,?_⟩
 refine k _ (n+1) (step_of I (fun b o hb e=>(Heap.SameBut.update ..).extBut b o (fun q=>hb (List.mem_singleton.mpr q)) e) fun a ha=>?_) ⟨?_,hr.2⟩
 · rw [mS ha]
   exact ⟨hr.2,fun o e=>by rw [hr.1] at e;cases e;rfl⟩
 · rw [Heap.get?_update_self _ hr.1 (by rfl)]
   simp [Obj.mapSeq]
theorem max_S {L H n:Nat} {m:Str→Option Value} {vh:List Value} {ns:List Int} {Q:VP} (hh:A.handled=none) (I:Inv w s.heap) (hn:s.heap.Ns L m) (hH:s.heap.get? H=some (listOf vh.toArray n)) (hi:IntsAre vh ns) (hne:0 < ns.length)
 (k:∀ M t s',Step w [] s s'→M∈ns→(∀ a,a∈ns→a≤M)→Q (.int M t) s'):wpAny (model prog w) A (call (.builtin "max") [.ref H]) Q E s:=by
 obtain ⟨xs,e⟩:=hi.allInts.items
 have e2:ns=xs.toList.map (·.1):=by
  have:=hi.numsOf
  rw [show vh=(intItems xs).toList from by rw [← e],nums_intItems] at this
  exact this.symm
 have hl:ns.length=xs.size:=by rw [e2];simp
 refine max_intList hh (xs:=xs) ⟨_,hH,rfl,_,by rw [← e]⟩ (by omega) fun v h' tk hv hk=>?_
 obtain ⟨t,rfl⟩:=intItems_at hv
 have top:=argBest_gt (numAt xs) (xs.size - 1)
 refine k _ t _ ⟨fun b o e _=>hk b o e,rfl,id,I.keepAll hk⟩ ?_ fun a ha=>?_
 · rw [e2,numAt_eq]
   refine getD_mem ?_
   rw [← e2,hl];have:=top.1;omega
 · rw [e2] at ha
   obtain ⟨i,hi',rfl⟩:=mem_getD ha
   rw [← e2,hl] at hi'
   rw [← numAt_eq]
   exact top.2 i (by omega)
theorem kf_ints_of:∀ {vs:List Value} {ns:List Int},IntsAre vs ns→kf_ints vs=true
 | _,_,.nil=>rfl
 | _,_,.cons n t r=>by
   have:=kf_ints_of r
   simpa [kf_ints] using this
theorem kf_at_of {k:Int}:∀ {vs:List Value} {ns:List Int},IntsAre vs ns→k∈ns→∃ j,kf_at k vs=some j
 | _,_,.nil,h=>nN h
 | _,_,.cons (vs:=vs) n t r,h=>by
   unfold kf_at
   cases hx:isInt k (.int n t) with
   | true=>exact ⟨0,rfl⟩
   | false =>
     have hne:k≠n:=fun e=>by
      have:isInt k (.int n t)=true:=by unfold isInt;simp [e]
      rw [hx] at this;cases this
     obtain ⟨j,e⟩:=kf_at_of r ((mC h).resolve_left hne)
     exact ⟨j+1,by rw [e];rfl⟩
theorem isInt_ix {k:Int} {vs:List Value} {ns:List Int} (h:IntsAre vs ns) {i:Nat} (hi:i < vs.length) (hj:i < ns.length):isInt k vs[i]=decide (ns[i]=k):=by
 obtain ⟨t,e⟩:=ints_get i h hj
 rw [List.getElem?_eq_getElem hi] at e
 rw [Option.some.inj e]
 unfold isInt
 rw [Bool.eq_iff_iff];simp
theorem index_S {H n:Nat} {vh:List Value} {ns:List Int} {M:Int} {t:Tok} {Q:VP} (hH:s.heap.get? H=some (listOf vh.toArray n)) (hi:IntsAre vh ns) (hM:M∈ns) (hz:ns.length≤1000)
 (k:∀ (j:Nat) t k,(hj:j < ns.length)→ns[j]=M→(∀ i (hi:i < ns.length),i < j→ns[i]≠M)→Q (.int j t) { s with toks:=k }):wpAny (model prog w) A (call (.builtin "list.index") [.ref H,.int M t]) Q E s:=by
 obtain ⟨j,e⟩:=kf_at_of hi hM
 obtain ⟨h1,h2,h3⟩:=kf_at_spec e
 have hl:=hi.length
 have N:News (hideAll s.heap [H]) (H+1) s.heap [(H,listOf vh.toArray n)]:=fun p hp=>by
  rw [mS hp]
  exact ⟨hH,Nat.ne_of_lt (Nat.lt_succ_self _),hideAll_none _ (.head _)⟩
 refine kf_index (its:=vh.toArray) (j:=j) N (.head _) (kf_ints_of hi) e rfl (by rw [sizeLine_eq];show vh.length≤_;omega) ?_
 refine k j _ _ (by omega) ?_ fun i hi' hlt=>?_
 · rw [isInt_ix hi h1 (by omega)] at h2
   exact of_decide_eq_true h2
 · have:=h3 i (by show i < vh.length;omega) hlt
   have h4:=isInt_ix (k:=M) hi (i:=i) (by omega) hi'
   intro q
   have h5:isInt M vh[i]=false:=this
   rw [h4,decide_eq_true q] at h5;cases h5
noncomputable def Src3 (prog:Program) (w:World) (T:List Addr) (tgt:PySem.Expr) (xv:Value) (n:Nat) (P:Nat→Value→Prop) (s₁:Shared):Prop :=
 ∀ (A:Around) (Q E:VP),A.handled=none →
   (∀ o fp St tk,isCode o=false→o.isFreed=false→Walks prog w A s₁.heap.objs.size fp [s₁.heap.objs.size] n P St→(∀ i h,St i h→∃ o,h.get? s₁.heap.objs.size=some o∧isCode o=false∧Mild o∧NotTup o)→St 0 (s₁.heap.push o) →
     (∀ i (s:Shared) v (A':Around) (Q':Unit→Shared→Prop) E',P i v→St (i+1) s.heap→Q' () s→wpAny (model prog w) A' (letOwnedTupleGo tgt (.ref s₁.heap.objs.size) v) Q' E' s) →
     (∀ b∈fp,b=s₁.heap.objs.size∨(b < s₁.heap.objs.size∧b∉T))→Q (.ref s₁.heap.objs.size) { s₁ with heap:=s₁.heap.push o,toks:=tk })→wpAny (model prog w) A (pyIter xv) Q E s₁
theorem src3_range {x:Str} {px:Pos} {r:Addr} {n:Nat} {t u v:Tok} (hr:IsRange s₁.heap r 0 n 1 t u v) (hn:n≤1000):Src3 prog w T (.Name x px) (.ref r) n (fun i v=>∃ t,v=.int i t) s₁:=by
 intro A Q E hh k
 refine wpAny_pyIter_range hr (small_one (by decide) (by decide) (by omega) (by omega)) ?_
 have hsz:Builtin.Range.rangeSize 0 n 1=(n:Int):=by rw [rangeSize_one];split <;> omega
 rw [hsz]
 refine k _ [s₁.heap.objs.size] (fun i h=>IsRangeIter h s₁.heap.objs.size (0+(i:Nat) * 1) ((n:Int) - (i:Nat)) 1) s₁.toks rfl rfl ?_ ?_ ?_ ?_ ?_
 · have W:=Walks.range (prog:=prog) (w:=w) hh s₁.heap.objs.size 0 1 n
   exact { W with item:=fun i s Q E hi st hQ=>W.item i s Q E hi st fun v h' tk hP st' hk=>hQ v h' tk (by obtain ⟨t,rfl⟩:=hP;exact ⟨t,by congr 1;omega⟩) st' hk }
 · intro i h x
   exact exI1 _ (anI4 x rfl (mild_fields rfl rfl) (notTup_fields rfl))
 · show IsRangeIter _ _ _ _ _
   rw [show ((0:Int) + ((0:Nat):Int) * 1)=0 from rfl,Int.ofNat_zero,Int.sub_zero]
   exact Heap.get?_push_size _ rfl
 · intro i s v A' Q' E' _ _ q
   exact wpAny_pure q
 · intro b hb;exact .inl (mS hb)
theorem src3_list {elts:List PySem.Expr} {kt:Nat} {pt:Pos} {l nl:Nat} {vs:List Value} (hT:l∉T) (hl:At s₁.heap l (listOf vs.toArray nl)) (hr:∀ v∈vs,∃ a,v=.ref a):Src3 prog w T (.Tuple elts kt pt) (.ref l) vs.length (fun i v=>vs[i]? = some v) s₁:=by
 intro A Q E hh k
 have il:s₁.heap.IsList l vs.toArray:=⟨_,hl.1,rfl,_,rfl⟩
 have lt:l < s₁.heap.objs.size:=hl.lt
 refine wpAny_pyIter_list il (k _ [s₁.heap.objs.size,l] (fun i h=>h.IsListIter s₁.heap.objs.size l i∧h.IsList l vs.toArray) s₁.toks rfl rfl ?_ ?_ ?_ ?_ ?_)
 · have W:=Walks.list (prog:=prog) (w:=w) hh s₁.heap.objs.size l (Nat.ne_of_lt lt) vs.toArray
   simpa using W
 · rintro i h ⟨⟨o,ho,_,hd⟩,_⟩
   have hc:isCode o=false:=by unfold isCode;rw [hd];rfl
   exact exI1 o (anI4 ho hc (mild_fields hd hc) (notTup_fields hd))
 · exact ⟨⟨_,Heap.get?_push_size _ rfl,rfl,rfl⟩,il.push _⟩
 · intro i s v A' Q' E' hP st q
   obtain ⟨a,rfl⟩:=hr v (List.mem_of_getElem? hP)
   exact wpAny_letOwnedTupleGo_listiter st.1 q
 · intro b hb
   rcases mC hb with rfl | hb
   · exact .inl rfl
   · rw [mS hb]
     exact .inr ⟨lt,hT⟩
theorem for_M {tgt:PySem.Expr} {pos:Pos} {iter:PySem.Expr} {body:List Stmt} {Q:Flow→Shared→Prop} (hh:A.handled=none)
 (h:wpAny (model prog w) A (eval iter env) (fun xv s₁=>∃ T n P,∃ J:Nat→Shared→Prop,Inv w s₁.heap∧Src3 prog w T tgt xv n P s₁∧(∀ a∈T,a < s₁.heap.objs.size) ∧
   (∀ i s,J i s→Inv w s.heap)∧(∀ s',Step w [] s₁ s'→J 0 s')∧(∀ i s s',J i s→(∃ o,s.heap.get? s₁.heap.objs.size=some o∧Mild o∧NotTup o)→Step w [s₁.heap.objs.size] s s'→J i s') ∧
   (∀ i v s,i < n→P i v→J i s→wpAny (model prog w) A (assign tgt env v) (fun _ s₂=>wpAny (model prog w) A (execs body env) (fun f s₃=>match f with
     | .brk=>Q .next s₃
     | .ret v=>Q (.ret v) s₃
     | _=>TurnOk (J (i+1)) (fun _=>Step w T s s₃) s₃) (fun _ _=>False) s₂) (fun _ _=>False) s) ∧
   (∀ s,J n s→Q .next s)) E s)
 (hs:∀ x,foldedSetIterable iter env x=pure x:=by intro _;rfl) :
 wpAny (model prog w) A (exec (.For tgt iter body [] pos) env) Q E s:=by
 refine wpAny_For (wpAny_mono h (fun xv s₁ h₁=>?_) fun _ _ e=>e) hs
 refine exE4 h₁ fun T n P J hh=>anE8 hh fun In src hT hJI h0 hst turn done=>?_;clear hh;try clear h₁
 refine src A _ _ hh fun o fp St tk hoc hof W hIc hst0 hgo hfp=>?_
 have hI250:250≤s₁.heap.objs.size:=In.size
 have k0:∀ b o',s₁.heap.get? b=some o'→(s₁.heap.push o).get? b=some o':=fun b o' e=>Heap.get?_push_of_some _ e
 have S0:Step w [] s₁ { s₁ with heap:=s₁.heap.push o,toks:=tk }:=⟨fun b o' e _=>k0 b o' e,rfl,id,In.keepAll k0⟩
 refine codeAny_forLoop_any (fun k s'=>∃ i,i≤n∧k=n+1 - i∧St i s'.heap∧J i s') ?_ (n+1) ⟨0,Nat.zero_le _,rfl,hst0,h0 _ S0⟩
 intro k s' q0
 refine exE1 q0 fun i hh=>anE4 hh fun hi e9 st hJ=>?_
 clear hh q0
 subst e9
 refine exE1 (hIc i _ st) fun oI hh=>anE3 hh fun hoI hcI hmI=>?_;clear hh
 have stepI:∀ (h':Heap) (tk:Nat),(∀ b o,b∉[s₁.heap.objs.size]→s'.heap.get? b=some o→h'.get? b=some o)→Step w [s₁.heap.objs.size] s' { s' with heap:=h',toks:=tk }:=fun h' tk hk =>
  step_of (hJI _ _ hJ) hk fun a ha=>by
   rw [mS ha]
   exact ⟨hI250,fun o e=>by rw [hoI] at e;cases e;exact hcI⟩
 by_cases hlt:i < n
 · refine W.item i s' _ _ hlt st fun v h' tk' hP st' hk=>?_
   have hJ':=hst i s' _ hJ ⟨oI,hoI,hmI⟩ (stepI h' tk' hk)
   refine hgo i { s' with heap:=h',toks:=tk' } v _ _ _ hP st' ?_
   refine wpAny_mono (turn i v _ hlt hP hJ') (fun _ s₂ h₂=>?_) fun _ _ x=>x.elim
   refine wpAny_mono h₂ (fun f s₃ h₃=>?_) fun _ _ x=>x.elim
   have fin:TurnOk (J (i+1)) (fun _=>Step w T { s' with heap:=h',toks:=tk' } s₃) s₃→∃ m,m < n+1 - i∧∃ i,i≤n∧m=n+1 - i∧St i s₃.heap∧J i s₃:=fun h₃ =>
    ⟨n+1 - (i+1),by omega,i+1,hlt,rfl,W.frame _ _ _ st' fun b hb o e=>(show Step w T { s' with heap:=h',toks:=tk' } s₃ from h₃.2).keep b o e fun hm=>by
      rcases hfp b hb with rfl | ⟨-,h⟩
      · exact Nat.lt_irrefl _ (hT _ hm)
      · exact h hm,h₃.1⟩
   cases f with
   | next=>exact fin h₃
   | cont=>exact fin h₃
   | brk=>exact h₃
   | ret v=>exact h₃
 · have:i=n:=by omega
   subst this
   refine W.done s' _ _ st fun h' tk hk=>?_
   exact wpAny_pure (done _ (hst _ s' _ hJ ⟨oI,hoI,hmI⟩ (stepI h' tk hk)))
end
end
section
theorem rule_tabs {w:World} {s:Shared} {o:Obj} {g h:Heap} {L c':Addr} {m:Str→Option Value} {news ex:List (Addr×Obj)} {p9:Array Value} (B:BaseT w s [(234,o)] g) (F:Fr g L h m) (N:News g L h news) (h9:(234,tabObj p9)∈news) (hex:∀ p∈ex,p∈news) (hc:CodeIn g ex c' "_law_rule.<locals>.reach") (h250:250≤c') (hp:p9=#[rawInt 202,rawInt 4,.ref c']):TabsOk h :=
 ⟨tab_old B F (one_ne (by decide)) B.inv.tabs.t86,tab_old B F (one_ne (by decide)) B.inv.tabs.t93,tab_old B F (one_ne (by decide)) B.inv.tabs.t162,tab_old B F (one_ne (by decide)) B.inv.tabs.t169,.inr ⟨c',h250,hp▸(N _ h9).1,hc.rec F N hex⟩⟩
section
variable {w:World} {A:Around} {E:VP} {s:Shared} {Q:VP}
theorem rule_new (l:Lvl A 700) (I:Inv w s.heap) {far:Int} {tf:Tok} {v:Str} {tv:Tok}
 (k:∀ x s',Step w [234] s s'→RuleAt w s'.heap x far v→s.heap.get? x=none→Q (.ref x) s'):wpAny (model prog w) A (call (.ref 239) [.int far tf,.str v tv]) Q E s:=by
 obtain ⟨ps,hP,hps⟩:=tabPs_of I.tabs.t234
 refine weaken l fun fr gd=>?_
 refine enterC (args:=⟨[.int far tf,.str v tv],[]⟩) [(234,tabObj ps)] I ?_ (by k_is) (by k_is) (by show (700:Nat) < 1000;decide) (BindsTo.of_eq rfl) ?_ ?_ ?_
 · exact fm1 ⟨hP,.inr (show (234:Nat)∈TB by decide)⟩ (fun _ h=>nN h)
 · exact kindsX rfl
 · decide
 intro g L h₁ tk0 cells loose mean mg mb B F N Y nL ltL X T
 (try dsimp only)
 k_fold
 have O:Oth s s:=Oth.refl
 k_cells Y
 dsimp only [List.cons_append,List.nil_append] at N
 have hL250:@LE.le Nat _ 250 L:=by
  have h1:=I.size
  have h2:=F.above
  rw [B.eq,hideAll_size] at h2
  exact Nat.le_trans h1 h2
 have nc:@LT.lt Nat _ 234 L:=ltL (234,_) (.head _)
 obtain ⟨HH,hold,held⟩:=holds
 have qA {x1 x2 x3 x4 x5 x6}:=hold 2 (wpAny x1 x2 (call (Value.ref 59) x6) x3 x4 x5)
 have qB {x1 x2 x3 x4 x5 x6 x7 x8 x9 x10 x11 x12 x13 x14 x15 x16}:=hold 1 (wpAny x1 x2 (exec (Stmt.FunctionDef x3 x4 x5 x6 x7 x8 x9 x10 x11 x12) x13) x14 x15 x16)
 k_steps
 repeat' ((first
  | (refine held 2 _ ?_
     (try dsimp only [List.nil_append])
     rename Fr _ _ _ _=>F
     rename News _ _ _ _=>N
     have tb:=rule_tabs B F N (p9:=ps') (by k_mem) (fun p hp=>by repeat first | exact hp | apply List.Mem.tail) hcode h250 hps'
     k_dflt (refine entry_new (lvl_deeper (by decide)) (inv_nowT B F tb) ?_)
     intro x d u r h1 h2 h3 h4 t1 t2 t3 t4 s' st ax ad au ar fx fd fu fr ndx ndu ndr nxu nxr nur
     have nx:=allNe_fresh fx N
     have nd:=allNe_fresh fd N
     have nu:=allNe_fresh fu N
     have nr:=allNe_fresh fr N
     have ed:∀ p∈ex,p.1≠d:=fun p hp=>Ne.symm (allNe_mem nd p (by repeat first | exact hp | apply List.Mem.tail))
     have N:=newsF st fx ax F (newsF st fd ad F (newsF st fu au F (newsF st fr ar F (news0 st N))))
     have F:=fr0 st F
     have O:=Oth.next st O
     have hx:=ax.2
     have hdd:=ad.2
     clear st ax ad au ar fx fd fu fr)
  | (refine held 1 _ ?_
     rename Fr _ _ _ _=>F
     rename News _ _ _ _=>N
     (try dsimp only [List.cons_append,List.nil_append] at N)
     k_dflt (refine' def_both B F N T (hd238 X) ?U ?big hps ?h1 ?h2 ?h3 ?h4 ?h5 ?h6 ?h7 ?h8 ?_;(case U=>k_updF);(case big=>exact ⟨(L+1,_),by k_mem,Nat.le_succ_of_le hL250⟩);(case h1=>rfl);(case h2=>rfl);(case h3=>intro _;rfl);(case h4=>rfl);(case h5=>rfl);(case h6=>rfl);(case h7=>rfl);(case h8=>rfl))
     intro f c' ct dc h' tk ps' ex F N lf lx hcode hps' h250
     k_lt lf
     (try dsimp only [List.cons_append,List.nil_append] at N))) <;> k_steps)
 rename Fr _ _ _ _=>F
 rename News _ _ _ _=>N
 rename (Obj.data _=Data.cell _)=>dc1
 have tb:=rule_tabs B F N (p9:=ps') (by k_mem) (fun p hp=>by repeat first | exact hp | apply List.Mem.tail) hcode h250 hps'
 refine exE4 (hcode.rec F N (fun p hp=>by repeat first | exact hp | apply List.Mem.tail)) fun c2 oc vs t hh=>anE4 hh fun ec g1 d1 d2=>?_;clear hh
 cases ec
 have c'c:isCode oc=true:=by unfold isCode;rw [d1];dsimp only;rw [d2]
 have lf9:@LT.lt Nat _ 234 f:=lf.2
 refine k x ⟨_,s'.gens,s'.drawn,_,s'.os⟩ (baseT_fin B [234] F N O ?_ ?_) (ruleAt_mk ⟨(N (x,_) (by k_mem)).1,hx⟩ ⟨(N (d,_) (by k_mem)).1,hdd⟩ (baseT_at B N (p:=(f,_)) (by k_mem) (notTB lf9))
  ⟨g1,h250⟩ (baseT_at B N (p:=(L+1,_)) (by k_mem) (notTB (Nat.lt_succ_of_lt (ltL (234,_) (.head _))))) c'c ⟨_,dc1⟩ ?_) ?_
 · exact fun p hp=>.inl (by rw [mS hp];exact .head _)
 · exact tb
 · intro A2 s2 Q2 E2 v2 l2 I2 ho2 k2
   refine weaken l2 fun fr2 gd2=>?_
   refine enterR (args:=⟨[v2],[]⟩) I2 ho2 rfl ?_ rfl d1 d2 (by show (800:Nat) < 1000;decide) (BindsTo.of_eq rfl) (locs rfl) ?_ (by decide)
   · unfold isMut isCode
     rw [dc1];rfl
   intro g2 L2 hh2 loose2 mean2 mg2 mb2 B2 F2 N2 X2 T2
   have O2:Oth s2 s2:=Oth.refl
   (try dsimp only)
   k_unmd
   k_fold
   obtain ⟨HH,hold,held⟩:=holds
   have qA {x1 x2 x3 x4 x5 x6 x7}:=hold 25 (wpAny x1 x2 (eval (Expr.Name (Str.ofString "far") x3) x4) x5 x6 x7)
   k_steps
   refine held 25 _ ?_
   k_dflt (refine nameX_F N2 rfl (show (L+1,_)∈_ by k_mem) dc1 ?_)
   k_steps
   show Q2 (.int far tf) _
   refine k2 _ _ (baseT_fin B2 [] F2 N2 O2 (fun p hp=>.inr hp) (tabs_plain B2 F2 ?_))
   exact fm2 ((ho2 _ (.head _)).2) ((ho2 _ (.tail _ (.tail _ (.head _)))).2) (fun _ h=>nN h)
 · exact baseT_fresh B (N (x,instObj 59 d) (by k_mem)).2.2 (one_ne fun e=>absurd hx (Nat.not_le.mpr (e▸(by decide:(234:Nat) < 250))))
end
end
section
section
variable {w:World} {A:Around} {E:VP} {s s':Shared} {G:Gh} {own:Nat→Nat} {psr:List (Str×Str)} {U:Tu} {T:List Addr} {m:Str→Option Value}
theorem ju_rl {x d u r:Addr} {vs:List Value} {rs:List (Int×Str)} {Q:VP} (J:JuAt w s.heap x d u r vs rs) (I:Inv w s.heap) (h:∀ k,Q (.ref r) { s with toks:=k }):wpAny (model prog w) A (getAttr (.ref x) "rulelines" true) Q E s:=by
 refine exE8 J.ad fun h1 h2 h3 h4 t1 t2 t3 t4 ad=>?_
 exact ent_read I J.ax ad (by k_is) (by rfl) rfl h
theorem rule_app (l:Lvl A 600) {L x d u r:Nat} {vs:List Value} {rs:List (Int×Str)} {e1 e2:PySem.Expr} {p1 p2 p3 p4 p5 p6 p7:Pos} {far:Int} {v:Str} {Q:Flow→Shared→Prop} (J:JuAt w s.heap x d u r vs rs) (I:Inv w s.heap) (hn:s.heap.Ns L m) (mj:m "judge"=some (.ref x)) (hz:vs.length≤100) (nx:x≠r) (nd:d≠r) (nu:u≠r)
 (hst:starEach [e1,e2] (lawEnv L)=[(false,eval e1 (lawEnv L)),(false,eval e2 (lawEnv L))]) (hline:(p3.endLine == p6.line)=true)
 (h1:∀ k (Q':VP),(∀ s1 t,Step w [] s s1→Q' (.int far t) s1)→wpAny (model prog w) A (eval e1 (lawEnv L)) Q' E { s with toks:=k })
 (h2:∀ s1 (Q':VP),Step w [] s s1→(∀ k t,Q' (.str v t) { s1 with toks:=k })→wpAny (model prog w) A (eval e2 (lawEnv L)) Q' E s1)
 (k:∀ s' vs',Step w [r,234] s s'→JuAt w s'.heap x d u r vs' (rs ++ [(far,v)])→Q .next s') :
 wpAny (model prog w) A (exec (.Expr (.Call (.Attribute (.Attribute (.Name "judge" p1) "rulelines" p2) "append" p3) [.Call (.Name "_law_rule" p4) [e1,e2] [] p5] [] p6) p7) (lawEnv L)) Q E s:=by
 obtain ⟨n,ar⟩:=J.ar
 have hr250:=ar.2
 refine wpAny_Expr_any ?_
 refine meth_call ?gb ?gf ?gl ?gr
 case gb=>exact base_attr _ _ _ _ _ _
 case gf=>rfl
 case gl=>exact hline
 refine attr_S (law_loc hn rfl mj (by decide) (ju_rl J I fun k0 pl=>?_))
 refine getMethod_list_append (s:={ s with toks:=k0 }) ar.1 rfl rfl ?_
 refine callWith_builtin rfl (evalArgs_plain (spliced_cons ?_))
 refine wpAny_Call_NameR (name_global (s:={ s with toks:=k0 }) (v:=.ref 239) I rfl rfl rfl (by k_is) (by decide) ?_)
 rw [hst]
 refine fn_S (by k_is) rfl (spliced_cons (h1 k0 _ fun s1 t1 y1=>spliced_cons (h2 s1 _ y1 fun k2 t2=>spliced_nil ⟨y1.inv,?_⟩)))
 refine rule_new (s:={ s1 with toks:=k2 }) (l.up (by decide)) y1.inv fun x2 s2 y2 hR fx2=>?_
 have y02:Step w [234] s s2:=((y1.toks k2).wide fun a h=>nN h).trans y2 fun a h=>.inl h
 have hi:=J.hi
 have J2:JuAt w s2.heap x d u r vs rs:=J.keep y02 (fun a ha hm=>by
  have:=hi a hm
  rw [mS ha] at this
  exact absurd (show (250:Nat)≤234 from this) (by decide)) (fun a ha=>.inl (by rw [mS ha];decide))
 obtain ⟨n2,ar2⟩:=J2.ar
 refine spliced_nil (append_S y2.inv ar2 (by omega) fun s3 n3 y3 hr3=>?_)
 have mild3:∀ a∈[r],a < 250∨∃ o,s2.heap.get? a=some o∧Mild o:=fun a ha=>by
  have e:=mS ha
  subst e
  exact .inr ⟨_,ar2.1,mild_list⟩
 refine exE8 J2.ad fun g1 g2 g3 g4 q1 q2 q3 q4 ad=>?_
 refine k s3 _ ((y02.wide fun a ha=>.inl (.tail _ ha)).trans y3 fun a ha=>.inl (by rw [mS ha];exact .head _)) ⟨J2.ax.keep y3 (fun hm=>nx (mS hm)),⟨g1,g2,g3,g4,q1,q2,q3,q4,ad.keep y3 (fun hm=>nd (mS hm))⟩,J2.au.keep y3 (fun hm=>nu (mS hm)),⟨n3,hr3⟩,rules_snoc (r:=(far,v)) (hR.step y3 mild3) (rules_step y3 mild3 J2.rules),?_⟩
 rw [List.length_append,List.length_append,J2.len];rfl
theorem allow_S (l:Lvl A 600) {L x d u r:Nat} {vs:List Value} {rs:List (Int×Str)} {p1 p2 p3 p4:Pos} {tc:Tok} {Q:VP} (J:JuAt w s.heap x d u r vs rs) (I:Inv w s.heap) (hn:s.heap.Ns L m) (mj:m "judge"=some (.ref x)) (cc:s.heap.IsCell (L+1) (some (.str "abcdefg" tc))) (hline:(p2.endLine == p4.line)=true) (hb:∀ r∈rs,r.2.length≤7)
 (k:∀ v s',Step w [] s s'→AllowIs (allowOf rs).2 v→Q v s'):wpAny (model prog w) A (eval (.Call (.Attribute (.Name "judge" p1) "allowance" p2) [.Name "cells" p3] [] p4) (lawEnv L)) Q E s:=by
 refine meth_call ?gb ?gf ?gl ?gr
 case gb=>exact base_name _ _ _ _ _
 case gf=>rfl
 case gl=>exact hline
 refine law_loc hn rfl mj (by decide) fun pl=>ent_allow I J.ent ?_
 refine meth_S (by k_is) rfl (spliced_cons (law_cell rfl (cells_law L).1 cc (by decide) (spliced_nil ⟨I,?_⟩)))
 exact allowance_spec (l.up (by decide)) I J.ent J.rules J.len (fun q hq=>by have:=hb q hq;rw [sizeLine_eq];omega) k
theorem judge_new (l:Lvl A 600) {p1 p2 p3 p4:Pos} {Q:Flow→Shared→Prop} (hL:250≤G.L) (I:Inv w s.heap) (hn:s.heap.Ns G.L m)
 (k:∀ s' x d u r,Step w [G.L] s s'→s'.heap.Ns G.L (upd m "judge" (.ref x))→JuAt w s'.heap x d u r [] []→(∀ a∈[x,d,u,r],s.heap.get? a=none)→x≠r→d≠r→u≠r→Q .next s') :
 wpAny (model prog w) A (exec (.Assign [.Name "judge" p1] (.Call (.Name "Entry" p2) [] [] p3) p4) (lawEnv G.L)) Q E s:=by
 refine asg_S rfl hL rfl rfl ?_
 refine wpAny_Call_NameR (name_global (v:=.ref 59) I rfl rfl rfl (by k_is) (by decide) ?_)
 refine cls_S rfl (by k_is) rfl rfl (PySem.evalArgs_none ⟨I,?_⟩)
 refine entry_new (l.up (by decide)) I ?_
 intro x d u r h1 h2 h3 h4 t1 t2 t3 t4 s1 y1 ax ad au ar fx fd fu fr ndx ndu ndr nxu nxr nur
 have hn1:=hn.at' fun o e=>y1.keep _ o e nM
 refine ⟨y1.inv,m,hn1,fun s2 y2 hn2=>?_⟩
 have ne:∀ {a:Nat},s.heap.get? a=none→a∉[G.L]:=fun f hm=>ex_ne (ns_ex hn) f (mS hm).symm
 refine k s2 x d u r ((y1.wide fun a h=>nN h).trans y2 fun a h=>.inl h) hn2 ⟨ax.keep y2 (ne fx),⟨h1,h2,h3,h4,t1,t2,t3,t4,ad.keep y2 (ne fd)⟩,au.keep y2 (ne fu),⟨0,ar.keep y2 (ne fr)⟩,trivial,rfl⟩ ?_ nxr ndr nur
 exact fm4 fx fd fu fr (fun _ h=>nN h)
end
end
section
noncomputable def ruleL (own:Nat→Nat) (ns:List (List Nat)):List (Int×Str):=(tagL own 0).map fun c=>(1+((cw own ns c:Nat):Int),letter c)
noncomputable def heavyL (own:Nat→Nat) (ns:List (List Nat)):List Int:=toI ((tagL own 0).map (cw own ns))
theorem heavy_ix {own:Nat→Nat} {ns:List (List Nat)} {j:Nat} (hj:j < (heavyL own ns).length) (hj':j < (tagL own 0).length):(heavyL own ns)[j]=((cw own ns (tagL own 0)[j]:Nat):Int):=by simp [heavyL,toI]
theorem heavy_len {own:Nat→Nat} {ns:List (List Nat)}:(heavyL own ns).length=(tagL own 0).length:=by simp [heavyL,toI]
theorem rule_ix {own:Nat→Nat} {ns:List (List Nat)} {j:Nat} (hj:j < (ruleL own ns).length) (hj':j < (tagL own 0).length):(ruleL own ns)[j]=(1+((cw own ns (tagL own 0)[j]:Nat):Int),letter (tagL own 0)[j]):=by simp [ruleL]
theorem rule_len {own:Nat→Nat} {ns:List (List Nat)}:(ruleL own ns).length=(tagL own 0).length:=by simp [ruleL]
theorem heavy_nn {own:Nat→Nat} {ns:List (List Nat)} {M:Int} (h:M∈heavyL own ns):0≤M:=by
 unfold heavyL toI at h
 obtain ⟨c,_,rfl⟩:=List.mem_map.mp h
 exact Int.natCast_nonneg _
theorem allow_one {own:Nat→Nat} {ns:List (List Nat)} {M:Int} {j:Nat} (hM:M∈heavyL own ns) (hmax:∀ a∈heavyL own ns,a≤M) (hj:j < (heavyL own ns).length) (e:(heavyL own ns)[j]=M) (hb:∀ i (hi:i < (heavyL own ns).length),i < j→(heavyL own ns)[i]≠M) (hj':j < (tagL own 0).length) :
 allowOf ((1+M,("":Str)) :: ruleL own ns)=(1+M,some (letter (tagL own 0)[j])):=by
 have h0:=heavy_nn hM
 have hl:=rule_len (own:=own) (ns:=ns)
 have hl2:=heavy_len (own:=own) (ns:=ns)
 unfold allowOf
 rw [List.foldl_cons,as_up (by show (1+M:Int)≠0;omega) (by show (-1:Int) < 1+M;omega)]
 have mem:∀ r∈ruleL own ns,∃ c∈tagL own 0,r=(1+((cw own ns c:Nat):Int),letter c):=fun r hr=>by
  obtain ⟨c,hc,rfl⟩:=List.mem_map.mp hr
  exact ⟨c,hc,rfl⟩
 have key:=allow_first (M:=1+M) (by omega) (ruleL own ns) j (by omega) (fun r hr=>?_) (fun r hr=>?_) ?_ fun i hi hlt=>?_
 · rw [rule_ix (by omega) hj'] at key
   exact key
 · obtain ⟨c,hc,rfl⟩:=mem r hr
   have:=hmax ((cw own ns c:Nat):Int) (List.mem_map.mpr ⟨_,List.mem_map.mpr ⟨c,hc,rfl⟩,rfl⟩)
   show (1+((cw own ns c:Nat):Int))≤1+M
   omega
 · obtain ⟨c,hc,rfl⟩:=mem r hr
   show (1:Nat)≠0;decide
 · rw [rule_ix (by omega) hj']
   rw [heavy_ix hj hj'] at e
   show 1+((cw own ns (tagL own 0)[j]:Nat):Int)=1+M
   rw [e]
 · have:=hb i (by omega) hlt
   rw [rule_ix hi (by omega)]
   rw [heavy_ix (by omega) (by omega)] at this
   intro q
   apply this
   have q:1+((cw own ns (tagL own 0)[i]:Nat):Int)=1+M:=q
   omega
theorem allow_more {rs:List (Int×Str)} {a b:Int} {z v:Str} (h:allowOf rs=(a,some z)) (h0:0 < b) (hab:a < b):allowOf (rs ++ [(b,v)])=(b,some v):=by
 unfold allowOf at h ⊢
 rw [List.foldl_append,h,List.foldl_cons,List.foldl_nil,as_up (by show b≠0;omega) hab]
theorem heavy_max {own:Nat→Nat} {ns:List (List Nat)} {M:Int} {j:Nat} (hmax:∀ a∈heavyL own ns,a≤M) (hj:j < (heavyL own ns).length) (e:(heavyL own ns)[j]=M) (hj':j < (tagL own 0).length):∀ d,own d=0→d < 7→cw own ns d≤cw own ns (tagL own 0)[j]:=by
 intro d hd h7
 have hm:d∈tagL own 0:=List.mem_filter.mpr ⟨List.mem_range.mpr h7,by rw [hd];rfl⟩
 have:=hmax ((cw own ns d:Nat):Int) (List.mem_map.mpr ⟨_,List.mem_map.mpr ⟨d,hm,rfl⟩,rfl⟩)
 rw [← e,heavy_ix hj hj'] at this
 omega
end
section
structure JgJ (w:World) (G:Gh) (m:Str→Option Value) (xs:List Str) (x d u r:Nat) (s₀:Shared) (rs:List (Int×Str)) (s:Shared):Prop where
 st:Step w [G.L,234] s₀ s
 ns:∃ m',s.heap.Ns G.L m'∧(∀ y:Str,y∉xs→m' y=m y)∧m' "judge"=some (.ref x)
 ju:∃ vs,JuAt w s.heap x d u r vs rs
structure JgOk (G:Gh) (m:Str→Option Value) (x d u r:Nat) (s₀:Shared):Prop where
 hn:s₀.heap.Ns G.L m
 hu:m sUA=none
 fr:∀ a∈[x,d,u,r],s₀.heap.get? a=none
 nx:x≠r
 nd:d≠r
 nu:u≠r
section
variable {w:World} {A:Around} {E:VP} {s s':Shared} {G:Gh} {own:Nat→Nat} {psr:List (Str×Str)} {U:Tu} {T:List Addr} {m:Str→Option Value} {xs:List Str} {x d u r:Nat} {s₀:Shared} {rs:List (Int×Str)}
theorem st234:∀ b∈[(G.L:Nat),234],b=G.L∨b∈TB:=fun b hb=>by
 rcases mC hb with rfl | hb
 · exact .inl rfl
 · exact .inr (by rw [mS hb];decide)
theorem JgOk.nL (o:JgOk G m x d u r s₀):G.L∉[x,d,u,r]:=fun hm=>ex_ne (ns_ex o.hn) (o.fr _ hm) rfl
theorem JgJ.frame {m':Str→Option Value} (o:JgOk G m x d u r s₀) (hs:sUA∉xs) (j:JgJ w G m xs x d u r s₀ rs s) (y:Step w [G.L] s s') (hn:s'.heap.Ns G.L m') (e:∀ z:Str,z∉xs→m' z=m z) (mj:m' "judge"=some (.ref x)):JgJ w G m xs x d u r s₀ rs s':=by
 obtain ⟨st,⟨m1,hn1,e1,j1⟩,vs,ju⟩:=j
 exact ⟨st.trans y fun a h=>.inl (by rw [mS h];exact .head _),⟨m',hn,e,mj⟩,vs,ju.keep y (fun a ha=>by rw [mS ha];exact o.nL) fun a ha=>.inr (by rw [mS ha];exact mild_frame hn1 ((e1 _ hs).trans o.hu))⟩
theorem JgJ.still (o:JgOk G m x d u r s₀) (j:JgJ w G m xs x d u r s₀ rs s) (y:Step w [] s s'):JgJ w G m xs x d u r s₀ rs s':=by
 obtain ⟨st,⟨m1,hn1,e1,j1⟩,vs,ju⟩:=j
 exact ⟨st.trans y fun a h=>nN h,⟨m1,hn1.at' fun o e=>y.keep _ o e nM,e1,j1⟩,vs,ju.keep y (fun a ha=>absurd ha nM) fun a ha=>absurd ha nM⟩
theorem JgJ.iter {I:Nat} (o:JgOk G m x d u r s₀) (j:JgJ w G m xs x d u r s₀ rs s) (hI:∃ ob,s.heap.get? I=some ob∧Mild ob∧NotTup ob) (y:Step w [I] s s') (h0:s₀.heap.get? I=none) (hx:I∉[x,d,u,r]):JgJ w G m xs x d u r s₀ rs s':=by
 obtain ⟨st,⟨m1,hn1,e1,j1⟩,vs,ju⟩:=j
 have nLI:G.L∉[I]:=fun hm=>ex_ne (ns_ex o.hn) h0 (mS hm)
 exact ⟨st.trans y fun a h=>.inr (by rw [mS h];exact h0),⟨m1,hn1.at' fun o e=>y.keep _ o e nLI,e1,j1⟩,vs,ju.keep y (fun a ha=>by rw [mS ha];exact hx) fun a ha=>.inr (by rw [mS ha];exact ⟨_,hI.choose_spec.1,hI.choose_spec.2.1⟩)⟩
theorem JgJ.more {vs':List Value} {q:Int×Str} (o:JgOk G m x d u r s₀) (hL:250≤G.L) (j:JgJ w G m xs x d u r s₀ rs s) (y:Step w [r,234] s s') (ju:JuAt w s'.heap x d u r vs' (rs ++ [q])):JgJ w G m xs x d u r s₀ (rs ++ [q]) s':=by
 obtain ⟨st,⟨m1,hn1,e1,j1⟩,vs,_⟩:=j
 have fr:s₀.heap.get? r=none:=o.fr _ (.tail _ (.tail _ (.tail _ (.head _))))
 have nL:G.L∉[r,234]:=fun hm=>by
  rcases mC hm with h | h
  · exact ex_ne (ns_ex o.hn) fr h
  · have:=mS h
    exact absurd (this▸hL) (by decide)
 refine ⟨st.trans y fun a ha=>?_,⟨m1,hn1.at' fun o e=>y.keep _ o e nL,e1,j1⟩,vs',ju⟩
 rcases mC ha with rfl | ha
 · exact .inr fr
 · exact .inl (.tail _ ha)
theorem JgJ.turn (o:JgOk G m x d u r s₀) (g:GhOk G) (X:TurnAt w G own psr U s₀) (j:JgJ w G m xs x d u r s₀ rs s):TurnAt w G own psr U s:=X.quiet g o.hn o.hu j.st st234
theorem JgJ.old {a:Nat} {ob:Obj} (o:JgOk G m x d u r s₀) (j:JgJ w G m xs x d u r s₀ rs s) (h:At s₀.heap a ob) (hd:∀ es ep,ob.data≠.dict es ep):At s.heap a ob:=at_keepL o.hn h j.st st234 hd
theorem JgJ.lt (j:JgJ w G m xs x d u r s₀ rs s):∀ a∈[x,d,u,r],a < s.heap.objs.size:=by
 obtain ⟨st,-,vs,ju⟩:=j
 refine exE8 ju.ad fun h1 h2 h3 h4 t1 t2 t3 t4 ad=>?_
 obtain ⟨n,ar⟩:=ju.ar
 exact fm4 ju.ax.lt ad.lt ju.au.lt ar.lt (fun _ h=>nN h)
end
end
section
noncomputable def xsJ:List Str:=["judge","n","cell","k","far","verdict"]
theorem upd_out {m:Str→Option Value} {xs:List Str} {x y:Str} {v:Value} (hx:x∈xs) (hy:y∉xs):upd m x v y=m y:=upd_ne _ _ fun e=>hy (e▸hx)
theorem list_max:∀ {ns:List Int},ns≠[]→∃ M∈ns,∀ a∈ns,a≤M
 | [],h=>absurd rfl h
 | [a],_=>⟨a,.head _,fun b hb=>by rw [mS hb];exact Int.le_refl _⟩
 | a :: b :: r,_=>by
   obtain ⟨M,h1,h2⟩:=list_max (ns:=b :: r) (by intro h;cases h)
   by_cases q:a≤M
   · exact ⟨M,.tail _ h1,fun c hc=>(mC hc).elim (fun e=>e▸q) (h2 c)⟩
   · refine ⟨a,.head _,fun c hc=>(mC hc).elim (fun e=>e▸Int.le_refl _) fun hc=>?_⟩
     have:=h2 c hc;omega
theorem take_rule {own:Nat→Nat} {ns:List (List Nat)} {i:Nat} (hi:i < (tagL own 0).length):(ruleL own ns).take (i+1)=(ruleL own ns).take i ++ [(1+((cw own ns (tagL own 0)[i]:Nat):Int),letter (tagL own 0)[i])]:=by
 have hl:i < (ruleL own ns).length:=by rw [rule_len];exact hi
 rw [List.take_succ_eq_append_getElem hl,rule_ix hl hi]
section
variable {w:World} {A:Around} {E:VP} {s s':Shared} {G:Gh} {own:Nat→Nat} {psr:List (Str×Str)} {U:Tu} {T:List Addr} {m:Str→Option Value}
theorem max_heavy (l:Lvl A 600) {L H nh:Nat} {vh:List Value} {ns:List Int} {M:Int} {p1 p2 p3:Pos} {Q:VP} (I:Inv w s.heap) (hn:s.heap.Ns L m) (mh:m "heavy"=some (.ref H)) (hH:At s.heap H (listOf vh.toArray nh)) (hi:IntsAre vh ns) (hM:M∈ns) (hmax:∀ a∈ns,a≤M) (k:∀ t s',Step w [] s s'→Q (.int M t) s') :
 wpAny (model prog w) A (eval (.Call (.Name "max" p1) [.Name "heavy" p2] [] p3) (lawEnv L)) Q E s:=by
 refine wpAny_Call_NameR (name_builtin (v:=.builtin "max") I rfl rfl rfl rfl (by k_is) (by decide) (by rfl) (by decide) ?_)
 refine callWith_builtin rfl (evalArgs_plain (spliced_cons (law_loc hn rfl mh (by decide) (spliced_nil ?_))))
 refine max_S l.handled I hn hH.1 hi (List.length_pos_of_mem hM) fun M' t s' y h1 h2=>?_
 have:M'=M:=Int.le_antisymm (hmax _ h1) (h2 _ hM)
 subst this
 exact k t s' y
theorem judge_a (l:Lvl A 600) {H nh cnt:Nat} {vh:List Value} {tc:Tok} {M:Int} {Q:Flow→Shared→Prop} (g:GhOk G) (u:TuOk own U) (X:TurnAt w G own psr U s) (hn:s.heap.Ns G.L m) (hu:m sUA=none) (ml:m "left"=some (.ref U.LE)) (mh:m "heavy"=some (.ref H)) (mc:m "count"=some (.int cnt tc))
 (hcnt:cnt=(tagL own 0).length) (hH:At s.heap H (listOf vh.toArray nh)) (hvh:IntsAre vh (heavyL own G.ns)) (hM:M∈heavyL own G.ns) (hmax:∀ a∈heavyL own G.ns,a≤M)
 (k:∀ s' x d u r,JgOk G m x d u r s→JgJ w G m xsJ x d u r s ((1+M,("":Str)) :: ruleL own G.ns) s'→wpAny (model prog w) A (execs (oddBody.drop 11) (lawEnv G.L)) Q E s') :
 wpAny (model prog w) A (execs (oddBody.drop 8) (lawEnv G.L)) Q E s:=by
 show wpAny _ _ (execs (_ :: _ :: _ :: oddBody.drop 11) _) _ _ _
 have hL:=g.hL
 have I:=X.law.st.inv
 have hl7:(tagL own 0).length≤7:=Nat.le_trans (List.length_filter_le ..) (by simp)
 have hvl:vh.length=(tagL own 0).length:=by rw [hvh.length,heavy_len]
 have hul:U.vl.length=(tagL own 0).length:=by rw [StrsAre.len_eq u.vl,List.length_map]
 have hs:sUA∉xsJ:=by decide
 refine wpAny_execs_cons (judge_new l hL I hn fun s1 x d u' r y1 hn1 J1 f0 nx nd nu=>?_)
 have o:JgOk G m x d u' r s:=⟨hn,hu,f0,nx,nd,nu⟩
 have j1:JgJ w G m xsJ x d u' r s [] s1:=⟨y1.wide fun a h=>.inl (by rw [mS h];exact .head _),⟨_,hn1,fun z hz=>upd_out (.head _) hz,upd_self _ _ _⟩,[],J1⟩
 have hH1:=j1.old o hH list_nd
 have mh1:upd m "judge" (.ref x) "heavy"=some (.ref H):=(upd_ne _ _ (by decide)).trans mh
 refine wpAny_execs_cons (rule_app l (far:=1+M) (v:="") J1 y1.inv hn1 (upd_self _ _ _) (Nat.zero_le _) nx nd nu rfl rfl (fun k0 Q' q=>?_) (fun s2 Q' y2 q=>Constant_str (k:=0) (pos:=p0) (q _ _)) fun s2 vs2 y2 ju2=>?_)
 · rw [arm_eval_BinOp]
   refine wpAny_bind (wpAny_Constant_int (k:=0) (pos:=p0) (wpAny_bind (wpAny_holding (max_heavy (s:={ s1 with toks:=k0+1 }) l y1.inv hn1 mh1 hH1 hvh hM hmax fun t s2 y2=>wpAny_bind (wpAny_standAt (wpAny_operating (AutoIntOps.add_0 ?_)))))))
   exact q _ _ ((((Step.refl y1.inv).toks (k0+1)).trans y2 fun a h=>.inl h).toks _)
 have j2:JgJ w G m xsJ x d u' r s [(1+M,("":Str))] s2:=j1.more o hL y2 ju2
 refine exE1 j2.ns fun m2 hh=>anE3 hh fun hn2 e2 mj2=>?_;clear hh
 have I2:=j2.st.inv
 refine wpAny_execs_cons (for_M l.handled ?_)
 refine wpAny_Call_NameR (name_builtin (v:=.type "range") I2 rfl rfl rfl rfl (by k_is) (by decide) (by rfl) (by decide) ?_)
 refine PySem.callWith_type rfl (evalArgs_plain (spliced_cons (law_loc hn2 rfl ((e2 _ (by decide)).trans mc) (by decide) (spliced_nil ?_))))
 refine range_S (s:=s2) I2 fun rr t3 u3 v3 s3 y3 hr3=>?_
 have j3:=j2.still o y3
 have lt3:=j3.lt
 have hLlt:G.L < s3.heap.objs.size:=by refine exE1 j3.ns fun m3 hh=>anE3 hh fun hn3 z2 z3=>?_;clear hh;clear z2;clear z3;exact hn3.lt
 have f3:s.heap.get? s3.heap.objs.size=none:=j3.st.freshTop fun a ha=>by
  rcases mC ha with rfl | ha
  · exact hLlt
  · rw [mS ha]
    have:=j3.st.inv.size
    exact Nat.lt_of_lt_of_le (by decide) this
 have nx3:s3.heap.objs.size∉[x,d,u',r]:=fun hm=>Nat.lt_irrefl _ (lt3 _ hm)
 refine exI4 [G.L,r,234] cnt (fun i v=>∃ t,v=.int i t) (fun i s'=>JgJ w G m xsJ x d u' r s ((1+M,("":Str)) :: (ruleL own G.ns).take i) s') (anI8 y3.inv (src3_range hr3 (by omega)) ?_ (fun i s j=>j.st.inv) (fun s' y=>j3.still o y) (fun i s4 s' j hI y=>j.iter o hI y f3 nx3) ?_ ?_)
 · intro a ha
   rcases mC ha with rfl | ha
   · exact hLlt
   · rcases mC ha with rfl | ha
     · exact lt3 _ (.tail _ (.tail _ (.tail _ (.head _))))
     · rw [mS ha]
       have:=j3.st.inv.size
       exact Nat.lt_of_lt_of_le (by decide) this
 · intro i v s4 hi hP j4
   obtain ⟨ti,rfl⟩:=hP
   refine exE1 j4.ns fun m4 hh=>anE3 hh fun hn4 e4 mj4=>?_;clear hh
   refine assign_S j4.st.inv hL hn4 rfl rfl fun s5 y5 hn5=>?_
   have hit:i < (tagL own 0).length:=hcnt▸hi
   have e5:∀ z:Str,z∉xsJ→upd m4 "n" (.int i ti) z=m z:=fun z hz=>(upd_out (.tail _ (.head _)) hz).trans (e4 z hz)
   have mj5:upd m4 "n" (.int i ti) "judge"=some (.ref x):=(upd_ne _ _ (by decide)).trans mj4
   have j5:=j4.frame o hs y5 hn5 e5 mj5
   obtain ⟨vs5,J5⟩:=j5.ju
   have I5:=j5.st.inv
   have hH5:=j5.old o hH list_nd
   have hle5:=(j5.turn o g X).le
   obtain ⟨th,eh⟩:=ints_get i hvh (by rw [heavy_len];exact hit)
   rw [heavy_ix (by rw [heavy_len];exact hit) hit] at eh
   obtain ⟨tl,el⟩:=strs_look u.vl hit
   have hz5:vs5.length≤100:=by rw [J5.len,List.length_cons,List.length_take,rule_len];omega
   show wpAny _ _ (execs (_ :: []) (lawEnv G.L)) _ _ _
   refine wpAny_execs_cons (rule_app l (far:=1+((cw own G.ns (tagL own 0)[i]:Nat):Int)) (v:=letter (tagL own 0)[i]) J5 I5 hn5 mj5 hz5 nx nd nu rfl rfl (fun k0 Q' q=>?_) (fun s6 Q' y6 q=>?_) fun s6 vs6 y6 ju6=>?_)
   · rw [arm_eval_BinOp]
     refine wpAny_bind (wpAny_Constant_int (k:=0) (pos:=p0) (wpAny_bind (wpAny_holding ?_)))
     refine wpAny_Subscript_Name slot_list_getitem.lookup ?_
     refine law_loc (s:={ s5 with toks:=k0+1 }) hn5 rfl ((e5 _ (by decide)).trans mh) (by decide) (law_loc (s:={ s5 with toks:=k0+1 }) hn5 rfl (upd_self _ _ _) (by decide) ⟨⟨_,hH5.1,rfl⟩,?_⟩)
     refine item_S (s:={ s5 with toks:=k0+1 }) hH5.1 eh (by omega) ?_
     refine wpAny_bind (wpAny_standAt (wpAny_operating (AutoIntOps.add_0 ?_)))
     exact q _ _ ((Step.refl I5).toks _)
   · have hn6:=hn5.at' fun o e=>y6.keep _ o e nM
     have hle6:=hle5.keep y6 nM
     refine wpAny_Subscript_Name slot_list_getitem.lookup ?_
     refine law_loc hn6 rfl ((e5 _ (by decide)).trans ml) (by decide) (law_loc hn6 rfl (upd_self _ _ _) (by decide) ⟨⟨_,hle6.1,rfl⟩,?_⟩)
     exact item_S hle6.1 el (by omega) (q s6.toks tl)
   have j6:=j5.more o hL y6 ju6
   rw [List.cons_append,← take_rule hit] at j6
   refine wpAny_execs_nil ⟨j6,(y5.wide fun a ha=>.inl (by rw [mS ha];exact .head _)).trans y6 fun a ha=>.inl (.tail _ ha)⟩
 · intro s4 j4
   rw [List.take_of_length_le (by rw [rule_len];omega)] at j4
   exact k s4 x d u' r o j4
end
end
section
theorem first_ix {M:Int}:∀ {ns:List Int},M∈ns→∃ (j:Nat) (hj:j < ns.length),ns[j]=M∧∀ i (hi:i < ns.length),i < j→ns[i]≠M
 | [],h=>nN h
 | a :: r,h=>by
   by_cases q:a=M
   · exact ⟨0,Nat.zero_lt_succ _,q,fun i _ h=>absurd h (Nat.not_lt_zero _)⟩
   · obtain ⟨j,hj,e,hb⟩:=first_ix ((mC h).resolve_left fun e=>q e.symm)
     refine ⟨j+1,Nat.succ_lt_succ hj,e,fun i hi hlt=>?_⟩
     cases i with
     | zero=>exact q
     | succ i=>exact hb i (Nat.lt_of_succ_lt_succ hi) (Nat.lt_of_succ_lt_succ hlt)
section
variable {w:World} {A:Around} {E:VP} {s s':Shared} {G:Gh} {own:Nat→Nat} {psr:List (Str×Str)} {U:Tu} {T:List Addr} {m:Str→Option Value}
theorem JgJ.set {xs:List Str} {x d u r:Nat} {s₀:Shared} {rs:List (Int×Str)} {m1:Str→Option Value} {y:Str} {v:Value} (o:JgOk G m x d u r s₀) (hs:sUA∉xs) (hy:y∈xs) (hj:y≠"judge") (j:JgJ w G m xs x d u r s₀ rs s) (st:Step w [G.L] s s') (hn:s'.heap.Ns G.L (upd m1 y v)) (e:∀ z:Str,z∉xs→m1 z=m z) (mj:m1 "judge"=some (.ref x)):JgJ w G m xs x d u r s₀ rs s' :=
 j.frame o hs st hn (fun z hz=>(upd_out hy hz).trans (e z hz)) ((upd_ne _ _ fun q=>hj q.symm).trans mj)
theorem judge_b (l:Lvl A 600) {s₀:Shared} {x d u' r H nh:Nat} {vh:List Value} {M:Int} {Q:Flow→Shared→Prop} (g:GhOk G) (u:TuOk own U) (X:TurnAt w G own psr U s₀) (o:JgOk G m x d u' r s₀) (j:JgJ w G m xsJ x d u' r s₀ ((1+M,("":Str)) :: ruleL own G.ns) s) (ml:m "left"=some (.ref U.LE)) (mh:m "heavy"=some (.ref H))
 (hH:At s₀.heap H (listOf vh.toArray nh)) (hvh:IntsAre vh (heavyL own G.ns)) (hM:M∈heavyL own G.ns) (hmax:∀ a∈heavyL own G.ns,a≤M)
 (k:∀ s' j (hj:j < (tagL own 0).length),(∀ d,own d=0→d < 7→cw own G.ns d≤cw own G.ns (tagL own 0)[j])→JgJ w G m xsJ x d u' r s₀ ((1+M,("":Str)) :: ruleL own G.ns) s'→(allowOf ((1+M,("":Str)) :: ruleL own G.ns))=(1+M,some (letter (tagL own 0)[j])) →
   (∃ m' t t',s'.heap.Ns G.L m'∧(∀ z:Str,z∉xsJ→m' z=m z)∧m' "judge"=some (.ref x)∧m' "cell"=some (.str (letter (tagL own 0)[j]) t)∧m' "k"=some (.int j t'))→wpAny (model prog w) A (execs (oddBody.drop 14) (lawEnv G.L)) Q E s') :
 wpAny (model prog w) A (execs (oddBody.drop 11) (lawEnv G.L)) Q E s:=by
 show wpAny _ _ (execs (_ :: _ :: _ :: oddBody.drop 14) _) _ _ _
 have hL:=g.hL
 have hs:sUA∉xsJ:=by decide
 obtain ⟨i,hi,ei,hb⟩:=first_ix hM
 have hi':i < (tagL own 0).length:=by rw [← heavy_len (ns:=G.ns)];exact hi
 have hal:=allow_one hM hmax hi ei hb hi'
 have hhm:=heavy_max hmax hi ei hi'
 have hul:U.vl.length=(tagL own 0).length:=by rw [StrsAre.len_eq u.vl,List.length_map]
 have hl7:(tagL own 0).length≤7:=Nat.le_trans (List.length_filter_le ..) (by simp)
 refine exE1 j.ns fun m1 hh=>anE3 hh fun hn1 e1 mj1=>?_;clear hh
 obtain ⟨vs1,J1⟩:=j.ju
 have I:=j.st.inv
 have X1:=j.turn o g X
 have hrs:∀ q∈((1+M,("":Str)) :: ruleL own G.ns),q.2.length≤7:=by
  intro q hq
  rcases mC hq with rfl | hq
  · show ("":Str).length≤7;decide
  · obtain ⟨c,_,rfl⟩:=List.mem_map.mp hq
    show (1:Nat)≤7;decide
 refine wpAny_execs_cons (asg_S rfl hL rfl rfl (allow_S l J1 I hn1 mj1 X1.law.st.cc rfl hrs fun v s2 y2 hv=>?_))
 rw [hal] at hv
 obtain ⟨tv,rfl⟩:=hv
 have j2:=j.still o y2
 have hn2:=hn1.at' fun o e=>y2.keep _ o e nM
 refine ⟨y2.inv,m1,hn2,fun s3 y3 hn3=>?_⟩
 have j3:=j2.set o hs (y:="cell") (.tail _ (.tail _ (.head _))) (by decide) y3 hn3 e1 mj1
 have e3:∀ z:Str,z∉xsJ→upd m1 "cell" (.str (letter (tagL own 0)[i]) tv) z=m z:=fun z hz=>(upd_out (.tail _ (.tail _ (.head _))) hz).trans (e1 z hz)
 have mj3:upd m1 "cell" (.str (letter (tagL own 0)[i]) tv) "judge"=some (.ref x):=(upd_ne _ _ (by decide)).trans mj1
 have I3:=j3.st.inv
 have hH3:=j3.old o hH list_nd
 have mh3:=(e3 _ (by decide)).trans mh
 refine wpAny_execs_cons (asg_S rfl hL rfl rfl ?_)
 refine meth_call ?gb ?gf ?gl ?gr
 case gb=>exact base_name _ _ _ _ _
 case gf=>rfl
 case gl=>rfl
 refine law_loc hn3 rfl mh3 (by decide) fun pl=>?_
 refine getMethod_builtin (T:="list") ⟨_,hH3.1,rfl⟩ PySem.F.plainAttrs_list PySem.F.slot_list_index PySem.F.type_list_index (fun a e=>by cases e;exact ⟨_,hH3.1,rfl⟩) ?_
 refine callWith_builtin rfl (evalArgs_plain (spliced_cons (max_heavy l I3 hn3 mh3 hH3 hvh hM hmax fun t4 s4 y4=>spliced_nil ?_)))
 have hH4:=hH3.keep y4 nM
 refine index_S hH4.1 hvh hM (by rw [heavy_len];omega) fun i2 t5 k5 hj2 e2 hb2=>?_
 have ii:i2=i:=by
  rcases Nat.lt_trichotomy i2 i with h | h | h
  · exact absurd e2 (hb i2 hj2 h)
  · exact h
  · exact absurd ei (hb2 i hi h)
 subst ii
 have y34:Step w [] s3 { s4 with toks:=k5 }:=y4.toks k5
 have hn4:=hn3.at' fun o e=>y34.keep _ o e nM
 have j4:=j3.still o y34
 refine ⟨y4.inv,_,hn4,fun s5 y5 hn5=>?_⟩
 have j5:=j4.set o hs (y:="k") (.tail _ (.tail _ (.tail _ (.head _)))) (by decide) y5 hn5 e3 mj3
 have e5:=fun (z:Str) (hz:z∉xsJ)=>(upd_out (m:=upd m1 "cell" (.str (letter (tagL own 0)[i2]) tv)) (x:="k") (v:=.int i2 t5) (.tail _ (.tail _ (.tail _ (.head _)))) hz).trans (e3 z hz)
 have mc5:upd (upd m1 "cell" (.str (letter (tagL own 0)[i2]) tv)) "k" (.int i2 t5) "cell"=some (.str (letter (tagL own 0)[i2]) tv):=(upd_ne _ _ (by decide)).trans (upd_self _ _ _)
 have hle5:=(j5.turn o g X).le
 obtain ⟨tl,el⟩:=strs_look u.vl hi'
 refine wpAny_execs_cons (wpAny_If (wpAny_isTrue_Compare1 (law_loc hn5 rfl mc5 (by decide) ?_)))
 refine wpAny_Subscript_Name slot_list_getitem.lookup ?_
 refine law_loc hn5 rfl ((e5 _ (by decide)).trans ml) (by decide) (law_loc hn5 rfl (upd_self _ _ _) (by decide) ⟨⟨_,hle5.1,rfl⟩,?_⟩)
 refine item_S hle5.1 el (by omega) (P.ne_str ?_)
 rw [bne_self_eq_false]
 refine wpAny_truthy_bool ?_
 first | with_reducible refine iN (by decide) ?_ | rw [if_neg (by decide)]
 exact wpAny_execs_nil (k s5 i2 hi' hhm j5 hal ⟨_,tv,t5,hn5,e5,(upd_ne _ _ (by decide)).trans mj3,mc5,upd_self _ _ _⟩)
end
end
section
noncomputable def farFor:Stmt:=(oddBody[14]?).getD (.Pass ⟨0,0,0,0⟩)
noncomputable def farTgt:PySem.Expr:=match farFor with
 | .For (target:=t) ..=>t
 | _=>.Name "" ⟨0,0,0,0⟩
noncomputable def farBody:List Stmt:=bodyOf farFor
theorem ns_uniq {h:Heap} {L:Addr} {m1 m2:Str→Option Value} (a:h.Ns L m1) (b:h.Ns L m2):m1=m2:=by
 refine exE3 a fun o es ep hh=>anE4 hh fun e hd _ hf=>?_;clear hh;try clear a
 refine exE3 b fun o' es' ep' hh=>anE4 hh fun e' hd' _ hf'=>?_;clear hh;try clear b
 rw [e] at e'
 cases e'
 rw [hd] at hd'
 cases hd'
 funext x
 exact (hf x).symm.trans (hf' x)
noncomputable def NsKept (G:Gh) (s s':Shared):Prop:=∀ m1,s.heap.Ns G.L m1→∃ m',s'.heap.Ns G.L m'∧∀ z:Str,z≠"far"→z≠"verdict"→m' z=m1 z
noncomputable def extraL (M:Int):List (Int×Str):=[(2+M,""),(3+M,"abcdefg")]
section
variable {w:World} {A:Around} {E:VP} {s s':Shared} {G:Gh} {own:Nat→Nat} {psr:List (Str×Str)} {U:Tu} {T:List Addr} {m:Str→Option Value}
theorem far_turn (l:Lvl A 600) {s₀:Shared} {x d u' r H nh D:Nat} {vh:List Value} {M a f:Int} {R:List (Int×Str)} {z0 zv:Str} {tf tz:Tok} {Q:Flow→Shared→Prop} (g:GhOk G) (u:TuOk own U) (X:TurnAt w G own psr U s₀) (o:JgOk G m x d u' r s₀) (j:JgJ w G m xsJ x d u' r s₀ R s) (mh:m "heavy"=some (.ref H))
 (hH:At s₀.heap H (listOf vh.toArray nh)) (hvh:IntsAre vh (heavyL own G.ns)) (hM:M∈heavyL own G.ns) (hmax:∀ a∈heavyL own G.ns,a≤M) (hal:allowOf R=(a+M,some z0)) (haf:a < f) (hf0:0 < f) (hR:∀ q∈R,q.2.length≤7) (hRl:R.length≤50) (hzl:zv.length≤7) (hD:At s.heap D ⟨.type "tuple",none,.seq #[.int f tf,.str zv tz] 0,#[]⟩)
 (k:∀ s',Step w [G.L,r,234] s s'→JgJ w G m xsJ x d u' r s₀ (R ++ [(f+M,zv)]) s'→allowOf (R ++ [(f+M,zv)])=(f+M,some zv)→NsKept G s s'→Q .next s') :
 wpAny (model prog w) A (assign farTgt (lawEnv G.L) (.ref D)) (fun _ s₂=>wpAny (model prog w) A (execs farBody (lawEnv G.L)) Q E s₂) E s:=by
 have hL:=g.hL
 have hs:sUA∉xsJ:=by decide
 have h0:=heavy_nn hM
 show wpAny _ _ (assign (.Tuple [.Name "far" _,.Name "verdict" _] _ _) _ _) _ _ _
 refine wpAny_assign_Tuple l.handled ⟨_,hD.1,rfl,_,rfl⟩ rfl rfl fun h4 hx4=>?_
 have k4:∀ b ob,s.heap.get? b=some ob→h4.get? b=some ob:=fun b ob e=>hx4 b ob (Nat.ne_of_lt (Heap.lt_size e)) e
 have y4:Step w [] s { s with heap:=h4 }:=⟨fun b ob e _=>k4 b ob e,rfl,id,j.st.inv.keepAll k4⟩
 have j4:=j.still o y4
 refine exE1 j4.ns fun m4 hh=>anE3 hh fun hn4 e4 mj4=>?_;clear hh
 show wpAny _ _ (do holding [_] (assign (.Name "far" _) (lawEnv G.L) _);holding [] (assign (.Name "verdict" _) (lawEnv G.L) _);pure ()) _ _ _
 refine wpAny_bind (wpAny_holding (assign_S y4.inv hL hn4 rfl rfl fun s5 y5 hn5=>?_))
 have j5:=j4.set o hs (y:="far") (.tail _ (.tail _ (.tail _ (.tail _ (.head _))))) (by decide) y5 hn5 e4 mj4
 have e5:∀ z:Str,z∉xsJ→upd m4 "far" (.int f tf) z=m z:=fun z hz=>(upd_out (.tail _ (.tail _ (.tail _ (.tail _ (.head _))))) hz).trans (e4 z hz)
 have mj5:upd m4 "far" (.int f tf) "judge"=some (.ref x):=(upd_ne _ _ (by decide)).trans mj4
 refine wpAny_bind (wpAny_holding (assign_S y5.inv hL hn5 rfl rfl fun s6 y6 hn6=>wpAny_pure ?_))
 have j6:=j5.set o hs (y:="verdict") (.tail _ (.tail _ (.tail _ (.tail _ (.tail _ (.head _)))))) (by decide) y6 hn6 e5 mj5
 have e6:∀ z:Str,z∉xsJ→upd (upd m4 "far" (.int f tf)) "verdict" (.str zv tz) z=m z:=fun z hz=>(upd_out (.tail _ (.tail _ (.tail _ (.tail _ (.tail _ (.head _)))))) hz).trans (e5 z hz)
 have mj6:upd (upd m4 "far" (.int f tf)) "verdict" (.str zv tz) "judge"=some (.ref x):=(upd_ne _ _ (by decide)).trans mj5
 have mf6:upd (upd m4 "far" (.int f tf)) "verdict" (.str zv tz) "far"=some (.int f tf):=(upd_ne _ _ (by decide)).trans (upd_self _ _ _)
 have mv6:upd (upd m4 "far" (.int f tf)) "verdict" (.str zv tz) "verdict"=some (.str zv tz):=upd_self _ _ _
 have y06:Step w [G.L] s s6:=((y4.wide fun a h=>nN h).trans y5 fun a h=>.inl h).trans y6 fun a h=>.inl h
 have mh6:=(e6 _ (by decide)).trans mh
 obtain ⟨vs6,J6⟩:=j6.ju
 have I6:=j6.st.inv
 have hH6:=j6.old o hH list_nd
 show wpAny _ _ (execs (_ :: _ :: []) (lawEnv G.L)) _ _ _
 refine wpAny_execs_cons (rule_app l (far:=f+M) (v:=zv) J6 I6 hn6 mj6 (by rw [J6.len];omega) o.nx o.nd o.nu rfl rfl (fun k0 Q' q=>?_) (fun s7 Q' y7 q=>?_) fun s7 vs7 y7 ju7=>?_)
 · rw [arm_eval_BinOp]
   refine wpAny_bind (law_loc (s:={ s6 with toks:=k0 }) hn6 rfl mf6 (by decide) (wpAny_bind (wpAny_holding (max_heavy (s:={ s6 with toks:=k0 }) l I6 hn6 mh6 hH6 hvh hM hmax fun t s7 y7=>wpAny_bind (wpAny_standAt (wpAny_operating (AutoIntOps.add_0 ?_)))))))
   exact q _ _ ((((Step.refl I6).toks k0).trans y7 fun a h=>.inl h).toks _)
 · exact law_loc (hn6.at' fun o e=>y7.keep _ o e nM) rfl mv6 (by decide) (q s7.toks tz)
 have j7:=j6.more o hL y7 ju7
 have nL7:G.L∉[r,234]:=fun hm=>by
  rcases mC hm with h | h
  · exact ex_ne (ns_ex o.hn) (o.fr _ (.tail _ (.tail _ (.tail _ (.head _))))) h
  · have:=mS h
    exact absurd (this▸hL) (by decide)
 have hn7:=hn6.at' fun o e=>y7.keep _ o e nL7
 have hal7:=allow_more (v:=zv) hal (show 0 < f+M by omega) (show a+M < f+M by omega)
 have X7:=j7.turn o g X
 refine wpAny_execs_cons (wpAny_If (wpAny_isTrue_Compare1 (allow_S l ju7 j7.st.inv hn7 mj6 X7.law.st.cc rfl ?hb fun v s8 y8 hv=>?_)))
 case hb =>
  intro q hq
  rcases List.mem_append.mp hq with hq | hq
  · exact hR q hq
  · rw [mS hq];exact hzl
 rw [hal7] at hv
 obtain ⟨tv,rfl⟩:=hv
 have hn8:=hn7.at' fun o e=>y8.keep _ o e nM
 refine law_loc hn8 rfl mv6 (by decide) (P.ne_str ?_)
 rw [bne_self_eq_false]
 refine wpAny_truthy_bool ?_
 first | with_reducible refine iN (by decide) ?_ | rw [if_neg (by decide)]
 refine wpAny_execs_nil (wpAny_execs_nil (k s8 ?_ (j7.still o y8) hal7 fun m1 hm1=>⟨_,hn8,fun z h1 h2=>?_⟩))
 rotate_left
 · have:m1=m4:=ns_uniq (hm1.at' fun o e=>y4.keep _ o e nM) hn4
   rw [this]
   exact (upd_ne _ _ h2).trans (upd_ne _ _ h1)
 exact ((y06.wide fun a ha=>.inl (by rw [mS ha];exact .head _)).trans y7 fun a ha=>.inl (.tail _ ha)).trans y8 fun a h=>nN h
theorem judge_c (l:Lvl A 600) {s₀:Shared} {x d u' r H nh:Nat} {vh:List Value} {M:Int} {R:List (Int×Str)} {z0:Str} {Q:Flow→Shared→Prop} (g:GhOk G) (u:TuOk own U) (X:TurnAt w G own psr U s₀) (o:JgOk G m x d u' r s₀) (j:JgJ w G m xsJ x d u' r s₀ R s) (mh:m "heavy"=some (.ref H))
 (hH:At s₀.heap H (listOf vh.toArray nh)) (hvh:IntsAre vh (heavyL own G.ns)) (hM:M∈heavyL own G.ns) (hmax:∀ a∈heavyL own G.ns,a≤M) (hal:allowOf R=(1+M,some z0)) (hR:∀ q∈R,q.2.length≤7) (hRl:R.length≤40)
 (k:∀ s',JgJ w G m xsJ x d u' r s₀ (R ++ extraL M) s'→NsKept G s s'→Q .next s') :
 wpAny (model prog w) A (execs (oddBody.drop 14) (lawEnv G.L)) Q E s:=by
 show wpAny _ _ (execs (.For farTgt _ farBody [] _ :: []) _) _ _ _
 have hL:=g.hL
 have I:=j.st.inv
 have X1:=j.turn o g X
 refine wpAny_execs_cons (for_M l.handled ?_)
 refine list_S (spliced_cons (tuple_S (k:=0) (spliced_cons (wpAny_Constant_int (k:=0) (pos:=p0) (spliced_cons (Constant_str (k:=0) (pos:=p0) (spliced_nil ⟨(by decide:(2:Nat)≤1000),I,fun D1 s1 y1 fD1 hD1=>?_⟩)))))))
 have y01:Step w [] s s1:=((Step.refl I).toks _).trans y1 fun a h=>.inl h
 have cc1:=cell_keep X1.law.st.cc y01 nM
 refine spliced_cons (tuple_S (k:=0) (spliced_cons (wpAny_Constant_int (k:=0) (pos:=p0) (spliced_cons (law_cell rfl (cells_law G.L).1 cc1 (by decide) (spliced_nil ⟨(by decide:(2:Nat)≤1000),y1.inv,fun D2 s2 y2 fD2 hD2=>?_⟩))))))
 have y12:Step w [] s1 s2:=((Step.refl y1.inv).toks _).trans y2 fun a h=>.inl h
 refine spliced_nil ⟨Nat.le_of_ble_eq_true rfl,y2.inv,fun D s3 y3 fD hD=>?_⟩
 have y03:Step w [] s s3:=(y01.trans y12 fun a h=>.inl h).trans y3 fun a h=>.inl h
 have j3:=j.still o y03
 have hD13:=(hD1.keep y12 nM).keep y3 nM
 have hD23:=hD2.keep y3 nM
 have lt3:=j3.lt
 refine exE1 j3.ns fun m3 hh=>anE3 hh fun hn3 e3 mj3=>?_;clear hh
 obtain ⟨vs3,J3⟩:=j3.ju
 obtain ⟨nr3,ar3⟩:=J3.ar
 have sub:∀ a∈[G.L,r,234],a < s3.heap.objs.size:=fun a ha=>by
  rcases mC ha with rfl | ha
  · exact hn3.lt
  · rcases mC ha with rfl | ha
    · exact ar3.lt
    · rw [mS ha]
      exact Nat.lt_of_lt_of_le (by decide) y3.inv.size
 have f3:s₀.heap.get? s3.heap.objs.size=none:=j3.st.freshTop fun a ha=>by
  rcases mC ha with rfl | ha
  · exact hn3.lt
  · rw [mS ha]
    exact Nat.lt_of_lt_of_le (by decide) y3.inv.size
 have top3:s3.heap.get? s3.heap.objs.size=none:=Heap.get?_none_of_le (Nat.le_refl _)
 have nx3:s3.heap.objs.size∉[x,d,u',r]:=fun hm=>Nat.lt_irrefl _ (lt3 _ hm)
 have away:∀ {a:Nat} {ob:Obj},At s3.heap a ob→(∀ es ep,ob.data≠.dict es ep)→a≠r→a∉[G.L,r,234]:=fun {a ob} ha hd hr hm=>by
  rcases mC hm with h | hm
  · exact ns_ne hn3 ha.1 hd h.symm
  · rcases mC hm with h | hm
    · exact hr h
    · have:=ha.2
      rw [mS hm] at this
      exact absurd this (by decide)
 have rne:∀ {a:Nat} {ob:Obj},At s3.heap a ob→(∀ xs n,ob≠listOf xs n)→a≠r:=fun ha hd e=>hd _ _ (At.uniq ha (e▸ar3))
 have hDr:D≠r:=fun e=>by
  have h1:=ar3.1
  have f2:s2.heap.get? D=none:=fD
  have jr:=(j.still o (y01.trans y12 fun a h=>.inl h)).lt r (.tail _ (.tail _ (.tail _ (.head _))))
  obtain ⟨vs2,J2⟩:=(j.still o (y01.trans y12 fun a h=>.inl h)).ju
  obtain ⟨nr2,ar2⟩:=J2.ar
  rw [e,ar2.1] at f2;cases f2
 have nD:=away hD list_nd hDr
 have nD1:=away hD13 (fun _ _ h=>by cases h) (rne hD13 fun xs n h=>absurd (Value.type.inj (congrArg Obj.cls h)) (by decide))
 have nD2:=away hD23 (fun _ _ h=>by cases h) (rne hD23 fun xs n h=>absurd (Value.type.inj (congrArg Obj.cls h)) (by decide))
 have kp0:NsKept G s s3:=fun m1 h1=>⟨m1,h1.at' fun o e=>y03.keep _ o e nM,fun _ _ _=>rfl⟩
 have lx:(extraL M).length=2:=rfl
 refine exI4 [G.L,r,234] 2 (fun i v=>[Value.ref D1,Value.ref D2][i]? = some v) (fun i s'=>JgJ w G m xsJ x d u' r s₀ (R ++ (extraL M).take i) s'∧Step w [G.L,r,234] s3 s'∧NsKept G s s') (anI8 y3.inv (src3_list nD hD ?_) sub (fun i s j=>j.1.st.inv) (fun s' y=>?_) (fun i s4 s' j4 hI y=>?_) ?_ ?_)
 · intro v hv
   rcases mC hv with rfl | hv
   · exact ⟨_,rfl⟩
   · exact ⟨_,mS hv⟩
 · refine ⟨?_,y.wide fun a h=>nN h,fun m1 h1=>⟨m1,(h1.at' fun o e=>y03.keep _ o e nM).at' fun o e=>y.keep _ o e nM,fun _ _ _=>rfl⟩⟩
   rw [List.take_zero,List.append_nil]
   exact j3.still o y
 · obtain ⟨a1,a2,a3⟩:=j4
   refine ⟨a1.iter o hI y f3 nx3,a2.trans y fun a h=>.inr (by rw [mS h];exact top3),fun m1 h1=>?_⟩
   obtain ⟨m',h2,h3⟩:=a3 m1 h1
   exact ⟨m',h2.at' fun o e=>y.keep _ o e (fun hm=>Nat.lt_irrefl _ (by have:=sub G.L (.head _);rw [mS hm] at this;exact this)),h3⟩
 · intro i v s4 hi hP j4
   obtain ⟨a1,a2,a3⟩:=j4
   have kept:∀ s5,NsKept G s4 s5→NsKept G s s5:=fun s5 h m1 h1=>by
    obtain ⟨m',h2,h3⟩:=a3 m1 h1
    obtain ⟨m'',h4,h5⟩:=h m' h2
    exact ⟨m'',h4,fun z z1 z2=>(h5 z z1 z2).trans (h3 z z1 z2)⟩
   match i,hi with
   | 0,_ =>
     cases hP
     rw [List.take_zero,List.append_nil] at a1
     refine far_turn l (a:=1) (f:=2) (zv:="") g u X o a1 mh hH hvh hM hmax hal (by decide) (by decide) hR (by omega) (by decide) (hD13.keep a2 nD1) fun s5 y5 j5 _ k5=>?_
     exact ⟨⟨j5,a2.trans y5 fun a h=>.inl h,kept _ k5⟩,y5⟩
   | 1,_ =>
     cases hP
     have hal1:=allow_more (v:=("":Str)) hal (show 0 < 2+M by have:=heavy_nn hM;omega) (show 1+M < 2+M by omega)
     refine far_turn l (a:=2) (f:=3) (zv:="abcdefg") g u X o a1 mh hH hvh hM hmax hal1 (by decide) (by decide) ?_ ?_ (by decide) (hD23.keep a2 nD2) fun s5 y5 j5 _ k5=>?_
     · intro q hq
       rcases List.mem_append.mp hq with hq | hq
       · exact hR q hq
       · rw [mS hq];show ("":Str).length≤7;decide
     · rw [List.length_append];show R.length+1≤50;omega
     · refine ⟨⟨?_,a2.trans y5 fun a h=>.inl h,kept _ k5⟩,y5⟩
       rw [List.append_assoc] at j5
       exact j5
 · intro s4 j4
   obtain ⟨a1,a2,a3⟩:=j4
   exact wpAny_execs_nil (k s4 a1 a3)
end
end
section
noncomputable def xsO:List Str:=["taken","total","n","name","hit","record","figures","heavy","judge","cell","k","far","verdict"]
theorem xsJ_sub:∀ x∈xsJ,x∈xsO:=by decide
section
variable {w:World} {A:Around} {E:VP} {s s':Shared} {G:Gh} {own:Nat→Nat} {psr:List (Str×Str)} {U:Tu} {T:List Addr} {m:Str→Option Value}
theorem ne_of_out {x z:Str} (hx:x∈xsO) (hz:z∉xsO):z≠x:=fun e=>hz (e▸hx)
theorem odd_move (l:Lvl A 600) {cnt:Nat} {tc:Tok} {Q:Flow→Shared→Prop} (g:GhOk G) (u:TuOk own U) (X:TurnAt w G own psr U s) (hn:s.heap.Ns G.L m) (hu:m sUA=none) (hodd:Odd own G.ns) (h2:(tagL own 2).length≤3) (hne:0 < (tagL own 0).length) (hcnt:cnt=(tagL own 0).length)
 (ml:m "left"=some (.ref U.LE)) (mN:m "names"=some (.ref G.NM)) (mW:m "worths"=some (.ref G.WO)) (mM:m "mine"=some (.ref U.MI)) (mc:m "count"=some (.int cnt tc))
 (k:∀ s' m' j t t' (hj:j < (tagL own 0).length),Step w [G.L,G.L+1+1+1+1+1+1,86,234] s s'→LawAt w G own psr s'→s'.heap.Ns G.L m'→(∀ z:Str,z∉xsO→m' z=m z)→m' "cell"=some (.str (letter (tagL own 0)[j]) t)→m' "k"=some (.int j t')→(∀ d,own d=0→d < 7→cw own G.ns d≤cw own G.ns (tagL own 0)[j])→Q .next s') :
 wpAny (model prog w) A (execs oddBody (lawEnv G.L)) Q E s:=by
 have wide:∀ {s1:Shared} {T':List Addr},(∀ a∈T',a∈[G.L,G.L+1+1+1+1+1+1,86,234])→∀ a∈T',a∈[G.L,G.L+1+1+1+1+1+1,86,234]∨s1.heap.get? a=none:=fun h a ha=>.inl (h a ha)
 have inL:∀ a∈[G.L],a∈[G.L,G.L+1+1+1+1+1+1,86,234]:=fun a ha=>by rw [mS ha];exact .head _
 refine odd_a l g u X hn hu h2 fun s1 TA ut t0 y1 X1 hn1 hTA hut=>?_
 have hu1:upd (upd m "taken" (.ref TA)) "total" (.int 0 t0) sUA=none:=(upd_ne _ _ (by decide)).trans ((upd_ne _ _ (by decide)).trans hu)
 have e1:∀ z:Str,z∉xsO→upd (upd m "taken" (.ref TA)) "total" (.int 0 t0) z=m z:=fun z hz=>(upd_out (xs:=xsO) (.tail _ (.head _)) hz).trans (upd_out (xs:=xsO) (.head _) hz)
 refine odd_b l g u X1 hn1 hu1 hTA hut ?a1 ?a2 ?a3 ?a4 (upd_self _ _ _) fun s2 m2 t2 y2 hn2 f2 mt2=>?_
 case a1=>exact (upd_ne _ _ (by decide)).trans (upd_self _ _ _)
 case a2=>exact (e1 _ (by decide)).trans mN
 case a3=>exact (e1 _ (by decide)).trans mW
 case a4=>exact (e1 _ (by decide)).trans mM
 have e2:∀ z:Str,z∉xsO→m2 z=m z:=fun z hz=>(f2 z (ne_of_out (by decide) hz) (ne_of_out (by decide) hz) (ne_of_out (by decide) hz) (ne_of_out (by decide) hz) (ne_of_out (by decide) hz)).trans (e1 z hz)
 have hu2:m2 sUA=none:=(e2 _ (by decide)).trans hu
 have X2:=X1.quiet g hn1 hu1 y2 oneL
 refine odd_c l g u X2 hn2 hu2 hodd ((e2 _ (by decide)).trans mN) mt2 fun s3 F W vw nw y3 X3 hn3 d6 hW hvw=>?_
 have e3:∀ z:Str,z∉xsO→upd m2 "figures" (.ref F) z=m z:=fun z hz=>(upd_ne _ _ (ne_of_out (by decide) hz)).trans (e2 z hz)
 have hu3:upd m2 "figures" (.ref F) sUA=none:=(e3 _ (by decide)).trans hu
 refine odd_d l g u X3 hn3 hu3 ((e3 _ (by decide)).trans ml) d6 hW hvw fun s4 H vh nh y4 X4 hn4 hH hvh=>?_
 have e4:∀ z:Str,z∉xsO→upd (upd m2 "figures" (.ref F)) "heavy" (.ref H) z=m z:=fun z hz=>(upd_ne _ _ (ne_of_out (by decide) hz)).trans (e3 z hz)
 have hu4:upd (upd m2 "figures" (.ref F)) "heavy" (.ref H) sUA=none:=(e4 _ (by decide)).trans hu
 have hvh':IntsAre vh (heavyL own G.ns):=hvh
 obtain ⟨M,hM,hmax⟩:=list_max (ns:=heavyL own G.ns) (fun e=>by have:=congrArg List.length e;rw [heavy_len,List.length_nil] at this;omega)
 refine judge_a l g u X4 hn4 hu4 ((e4 _ (by decide)).trans ml) (upd_self _ _ _) ((e4 _ (by decide)).trans mc) hcnt hH hvh' hM hmax fun s5 x d u' r o j5=>?_
 refine judge_b l g u X4 o j5 ((e4 _ (by decide)).trans ml) (upd_self _ _ _) hH hvh' hM hmax fun s6 j hj hbest j6 hal ⟨m6,t,t',hn6,e6,mj6,mc6,mk6⟩=>?_
 have hl7:(tagL own 0).length≤7:=Nat.le_trans (List.length_filter_le ..) (by simp)
 refine judge_c l g u X4 o j6 (upd_self _ _ _) hH hvh' hM hmax hal ?b1 ?b2 fun s7 j7 k7=>?_
 case b1 =>
  intro q hq
  rcases mC hq with rfl | hq
  · show ("":Str).length≤7;decide
  · obtain ⟨c,_,rfl⟩:=List.mem_map.mp hq
    show (1:Nat)≤7;decide
 case b2=>rw [List.length_cons,rule_len];omega
 obtain ⟨m7,hn7,e7⟩:=k7 m6 hn6
 refine exE1 j7.ns fun m7' hh=>anE3 hh fun hn7' e7' z3=>?_;clear hh;clear z3
 have:m7'=m7:=ns_uniq hn7' hn7
 subst this
 have X7:=j7.turn o g X4
 refine k s7 m7' j t t' hj ?_ X7.law hn7 (fun z hz=>(e7' z fun h=>hz (xsJ_sub z h)).trans (e4 z hz)) ((e7 _ (by decide) (by decide)).trans mc6) ((e7 _ (by decide) (by decide)).trans mk6) hbest
 have z1:=(((y1.wide (wide inL)).trans y2 (wide inL)).trans y3 (wide fun a ha=>?_)).trans y4 (wide inL)
 · refine z1.trans j7.st (wide fun a ha=>?_)
   rcases mC ha with rfl | ha
   · exact .head _
   · rw [mS ha];exact .tail _ (.tail _ (.tail _ (.head _)))
 · rcases mC ha with rfl | ha
   · exact .head _
   · rcases mC ha with rfl | ha
     · exact .tail _ (.head _)
     · rw [mS ha];exact .tail _ (.tail _ (.head _))
end
end
section
theorem filter_cut:∀ {l:List Nat} {j:Nat} (hj:j < l.length),l.Nodup→l.filter (fun d=>d != l[j])=l.take j ++ l.drop (j+1)
 | a :: r,0,_,hn=>by
   obtain ⟨h1,h2⟩:=List.nodup_cons.mp hn
   rw [List.take_zero,List.nil_append,List.drop_succ_cons,List.drop_zero,List.getElem_cons_zero,List.filter_cons_of_neg (by simp)]
   rw [List.filter_eq_self]
   intro d hd
   rw [bne_iff_ne]
   exact fun e=>h1 (e▸hd)
 | a :: r,j+1,hj,hn=>by
   obtain ⟨h1,h2⟩:=List.nodup_cons.mp hn
   have hj':j < r.length:=Nat.lt_of_succ_lt_succ hj
   rw [List.getElem_cons_succ,List.filter_cons_of_pos,filter_cut hj' h2]
   · simp
   · rw [bne_iff_ne]
     exact fun e=>h1 (e▸List.getElem_mem hj')
theorem tag_cut {own:Nat→Nat} {j k:Nat} (hj:j < (tagL own 0).length) (hk:k≠0):tagL (setO own (tagL own 0)[j] k) 0=(tagL own 0).take j ++ (tagL own 0).drop (j+1):=by
 have hn:(tagL own 0).Nodup:=List.Nodup.sublist List.filter_sublist List.nodup_range
 rw [← filter_cut hj hn]
 generalize (tagL own 0)[j]=c
 unfold tagL
 rw [List.filter_filter]
 apply List.filter_congr
 intro d _
 by_cases e:d=c
 · subst e
   rw [set_self]
   simp [hk]
 · rw [set_ne own k e]
   simp [e]
theorem row_cut {own:Nat→Nat} {j k:Nat} (hj:j < (tagL own 0).length) (hk:k≠0):rowP (setO own (tagL own 0)[j] k)=(rowP own).take j ++ (rowP own).drop (j+1):=by
 show (tagL (setO own (tagL own 0)[j] k) 0).map _=_
 rw [tag_cut hj hk,List.map_append,List.map_take,List.map_drop]
 rfl
theorem row_len' {own:Nat→Nat}:(rowP own).length=(tagL own 0).length:=by show ((tagL own 0).map _).length=_;rw [List.length_map]
theorem row_drop {own:Nat→Nat} {j:Nat} (hj:j < (tagL own 0).length):(rowP own).drop j=((" ":Str),letter (tagL own 0)[j]) :: (rowP own).drop (j+1):=by
 have h:(rowP own).drop j=(rowP own)[j]'(by rw [row_len'];exact hj) :: (rowP own).drop (j+1):=List.drop_eq_getElem_cons (by rw [row_len'];exact hj)
 rw [h]
 congr 1
 exact List.getElem_map (l:=tagL own 0) (fun c=>((" ":Str),letter c))
end
section
section
variable {w:World} {A:Around} {E:VP} {s s':Shared} {G:Gh} {own:Nat→Nat} {T:List Addr} {m:Str→Option Value}
theorem notTupL {h:Heap} {L:Nat} {m:Str→Option Value} (hn:h.Ns L m):∀ a∈[L],a < 250∨∃ o,h.get? a=some o∧∀ xs,o≠⟨.type "tuple",none,.seq xs 0,#[]⟩:=fun a ha=>by
 refine exE3 hn fun o es ep hh=>anE3 hh fun e hd _=>?_;clear hh;try clear hn
 refine .inr ⟨o,by rw [mS ha];exact e,fun xs hc=>?_⟩
 rw [hc] at hd;cases hd
theorem notTupX {h:Heap} {X d n:Nat} {vs:List Value} (hX:At h X (accObj d vs n)):∀ a∈[X],a < 250∨∃ o,h.get? a=some o∧∀ xs,o≠⟨.type "tuple",none,.seq xs 0,#[]⟩:=fun a ha=>by
 refine .inr ⟨_,by rw [mS ha];exact hX.1,fun xs e=>by have:=congrArg Obj.cls e;cases this⟩
theorem end_a (l:Lvl A 600) {j cnt:Nat} {tk tc:Tok} {Q:Flow→Shared→Prop} (g:GhOk G) (A0:LawAt w G own (rowP own) s) (hn:s.heap.Ns G.L m) (mr:m "row"=some (.ref G.X)) (mk:m "k"=some (.int j tk)) (mc:m "count"=some (.int cnt tc)) (hcnt:cnt=(tagL own 0).length) (hj:j < (tagL own 0).length)
 (k:∀ s' P vp np,Step w [G.L,G.X] s s'→LawAt w G own ((rowP own).take j) s'→s'.heap.Ns G.L (upd m "pieces" (.ref P))→At s'.heap P (listOf (List.toArray vp) np)→Pieces s'.heap vp ((rowP own).drop j)→wpAny (model prog w) A (execs (turnBody.drop 15) (lawEnv G.L)) Q E s') :
 wpAny (model prog w) A (execs (turnBody.drop 14) (lawEnv G.L)) Q E s:=by
 show wpAny _ _ (execs (_ :: turnBody.drop 15) _) _ _ _
 have hL:=g.hL
 have hLX:G.L≠G.X:=(g.apart2 _ (.head _)).1
 have I:=A0.st.inv
 have hl7:(tagL own 0).length≤7:=Nat.le_trans (List.length_filter_le ..) (by simp)
 refine exE2 A0.row fun vs n hh=>anE2 hh fun hX hP=>?_;clear hh
 have hvl:vs.length=(tagL own 0).length:=by rw [hP.len,row_len']
 have fin:∀ (s1:Shared) (P np n1:Nat),Step w [G.X] s s1→At s1.heap G.X (accObj G.d (vs.take j) n1)→At s1.heap P (listOf (vs.drop j).toArray np)→Inv w s1.heap∧∃ m1,s1.heap.Ns G.L m1∧∀ s2,Step w [G.L] s1 s2→s2.heap.Ns G.L (upd m1 "pieces" (.ref P))→(match Flow.next with
  | .next=>wpAny (model prog w) A (execs (turnBody.drop 15) (lawEnv G.L)) Q E s2
  | f=>Q f s2):=fun s1 P np n1 y1 hX1 hP1=>by
  have hn1:=hn.at' fun o e=>y1.keep _ o e (fun hm=>hLX (mS hm))
  have A1:=A0.cutrow g hX hP y1 hX1
  refine ⟨y1.inv,m,hn1,fun s2 y2 hn2=>?_⟩
  refine k s2 P _ np ((y1.wide fun a ha=>.inl (.tail _ ha)).trans y2 fun a ha=>.inl (by rw [mS ha];exact .head _)) (A1.quiet g hn1 y2 oneL) hn2 (at_keepL hn1 hP1 y2 oneL list_nd) ?_
  exact ((hP.keep2 y1 (notTupX hX)).keep2 y2 (notTupL hn1)).drop j
 refine wpAny_execs_cons (asg_S rfl hL rfl rfl (wpAny_IfExp (wpAny_isTrue_Compare1 (law_loc hn rfl mk (by decide) ?_))))
 rw [arm_eval_BinOp]
 refine wpAny_bind (law_loc hn rfl mc (by decide) (wpAny_bind (wpAny_holding (wpAny_Constant_int (k:=0) (pos:=p0) (wpAny_bind (wpAny_standAt (wpAny_operating (AutoIntOps.sub_0 (P.eq_int ?_)))))))))
 by_cases q:j+1=cnt
 · have e:((j:Int) == (cnt:Int) - 1)=true:=by rw [beq_iff_eq];omega
   rw [e]
   refine wpAny_truthy_bool ?_
   rw [if_pos rfl]
   have hjv:j < vs.length:=by omega
   have ev:vs=vs.take j ++ [vs[j]]:=by
    have h1:=List.take_succ_eq_append_getElem hjv
    rw [List.take_of_length_le (by omega)] at h1
    exact h1
   have ed:vs.drop j=[vs[j]]:=by
    rw [List.drop_eq_getElem_cons hjv,List.drop_of_length_le (by omega)]
   have hX':At s.heap G.X (accObj G.d (vs.take j ++ [vs[j]]) n):=by rw [← ev];exact hX
   refine list_S (spliced_cons ?_)
   refine meth_call ?gb ?gf ?gl ?gr
   case gb=>exact base_name _ _ _ _ _
   case gf=>rfl
   case gl=>rfl
   refine law_loc (s:={ s with toks:=s.toks+1+1 }) hn rfl mr (by decide) fun pl=>?_
   refine row_meth (s:={ s with toks:=s.toks+1+1 }) (f:=160) I hX A0.st.ad (by k_is) (by k_is) (by rfl) ?_
   refine meth0_S ?ia (by k_is) rfl ?ib
   case ia=>exact I
   refine pop_spec (s:={ s with toks:=s.toks+1+1 }) (l.up (by decide)) I hX' A0.st.ad (by rw [sizeLine_eq,List.length_take];omega) fun s1 y1 hX1=>?_
   have y01:Step w [G.X] s s1:=(((Step.refl I).toks (s.toks+1+1)).wide fun a h=>.inl h).trans y1 fun a h=>.inl h
   refine spliced_nil ⟨Nat.le_of_ble_eq_true rfl,y1.inv,fun P s2 y2 fP hP2=>?_⟩
   exact fin s2 P 0 _ (y01.trans y2 fun a h=>nN h) (hX1.keep y2 nM) (by rw [ed];exact hP2)
 · have e:((j:Int) == (cnt:Int) - 1)=false:=by rw [beq_eq_false_iff_ne];omega
   rw [e]
   refine wpAny_truthy_bool ?_
   first | with_reducible refine iN (by decide) ?_ | rw [if_neg (by decide)]
   refine meth_call ?gb2 ?gf2 ?gl2 ?gr2
   case gb2=>exact base_name _ _ _ _ _
   case gf2=>rfl
   case gl2=>rfl
   refine law_loc (s:={ s with toks:=s.toks+1+1 }) hn rfl mr (by decide) fun pl=>?_
   refine row_meth (s:={ s with toks:=s.toks+1+1 }) (f:=152) I hX A0.st.ad (by k_is) (by k_is) (by rfl) ?_
   refine meth_S (by k_is) rfl (spliced_cons (law_loc (s:={ s with toks:=s.toks+1+1 }) hn rfl mk (by decide) (spliced_nil ⟨I,?_⟩)))
   refine from_spec (s:={ s with toks:=s.toks+1+1 }) (l.up (by decide)) I hX A0.st.ad (by omega) (by rw [sizeLine_eq];omega) fun P np s1 y1 hX1 hP1 fP=>?_
   exact fin s1 P np _ ((((Step.refl I).toks (s.toks+1+1)).wide fun a h=>.inl h).trans y1 fun a h=>.inl h) hX1 hP1
end
end
section
theorem pair_carried {a b:Str} {ta tb:Tok}:CarriedAll [.str a ta,.str b tb] [.str a,.str b]:=.cons (.str _ _) (.cons (.str _ _) .nil)
theorem pair_shaped {a b:Str} (ha:PyData.strOk a=true) (hb:PyData.strOk b=true):SeqAt.shaped (.tuple [.str a,.str b])=true:=by
 simp [SeqAt.shaped,PyData.canLay0,PyData.canLayAll0,PyData.depth,PyData.depthAll,ha,hb]
theorem pair_eqv (a b:Str):PyData.eqv (.tuple [.str a,.str b]) (.tuple [.str a,.str b])=true:=by simp [PyData.eqv,PyData.eqvAll]
structure PuK (w:World) (G:Gh) (own:Nat→Nat) (m:Str→Option Value) (s₀:Shared) (I:Nat) (ps:List (Str×Str)) (s:Shared):Prop where
 law:LawAt w G own ps s
 row:∃ vs n,At s.heap G.X (accObj G.d vs n)∧Pieces s.heap vs ps∧∀ v∈vs,v≠.ref I
 st:Step w [G.L,G.X] s₀ s
 ns:∃ m',s.heap.Ns G.L m'∧∀ x:Str,x≠"piece"→m' x=m x
section
variable {w:World} {A:Around} {E:VP} {s s':Shared} {G:Gh} {own:Nat→Nat} {T:List Addr} {m:Str→Option Value}
theorem end_b (l:Lvl A 600) {P np c:Nat} {vp:List Value} {ps:List (Str×Str)} {t:Tok} {Q:Flow→Shared→Prop} (I:Inv w s.heap) (hn:s.heap.Ns G.L m) (mp:m "pieces"=some (.ref P)) (mc:m "cell"=some (.str (letter c) t)) (hc:c < 7) (hP:At s.heap P (listOf vp.toArray np)) (hvp:Pieces s.heap vp (((" ":Str),letter c) :: ps)) (hz:vp.length≤7)
 (k:∀ s',Step w [] s s'→wpAny (model prog w) A (execs (turnBody.drop 16) (lawEnv G.L)) Q E s') :
 wpAny (model prog w) A (execs (turnBody.drop 15) (lawEnv G.L)) Q E s:=by
 show wpAny _ _ (execs (_ :: turnBody.drop 16) _) _ _ _
 have hvp0:=hvp
 cases hvp with
 | @cons v vp' _ _ h1 h2 =>
   refine exE3 h1 fun a ta tb hh=>anE2 hh fun z3 ha=>?_;clear hh;try clear h1;rcases z3 with rfl
   refine wpAny_execs_cons (wpAny_If (wpAny_isTrue_Compare1 ?_))
   refine subC_S (by intro _ _;rfl) (law_loc hn rfl mp (by decide) (wpAny_Constant_int ⟨P,_,np,0,_,_,rfl,rfl,hP.1,rfl,Nat.le_trans hz (by decide),?_⟩))
   refine tuple_S (spliced_cons (Constant_str (k:=0) (pos:=p0) (spliced_cons (law_loc (s:=⟨s.heap,_,_,_,_⟩) hn rfl mc (by decide) (spliced_nil ⟨(by decide:(2:Nat)≤1000),I,fun D s1 y1 fD hD=>?_⟩)))))
   have y01:Step w [] s s1:=((Step.refl I).toks _).trans y1 fun a h=>.inl h
   have sh:=pair_shaped (a:=(" ":Str)) (b:=letter c) (by decide +kernel) (letter_ok hc)
   refine ne_tups (ha.keep y01 nM).1 hD.1 pair_carried pair_carried sh sh (units64 l) ?_
   rw [pair_eqv]
   refine wpAny_truthy_bool ?_
   first | with_reducible refine iN (by decide) ?_ | rw [if_neg (by decide)]
   exact wpAny_execs_nil (k s1 y01)
theorem piece_S {L a i:Nat} {p1 p2 p3:Pos} {kc:Nat} {xs:List Value} {v:Value} {Q:VP} (hn:s.heap.Ns L m) (mp:m "piece"=some (.ref a)) (ha:At s.heap a ⟨.type "tuple",none,.seq xs.toArray 0,#[]⟩) (hi:i < xs.length) (hz:xs.length≤7) (hv:xs[i]? = some v) (k:∀ j,Q v { s with toks:=j }) :
 wpAny (model prog w) A (eval (.Subscript (.Name "piece" p1) (.Constant (.int i) kc p2) p3) (lawEnv L)) Q E s:=by
 refine wpAny_Subscript_Constant_late (law_loc hn rfl mp (by decide) (wpAny_Constant_int ⟨"tuple",_,PySem.F.slot_tuple_getitem.lookup,⟨_,ha.1,rfl⟩,?_⟩))
 refine P.getItem_tuple (k:=i) ha.1 (by omega) (by omega) ?_ (by simpa using hv) (k _)
 unfold seqIndex?
 rw [List.size_toArray]
 simp only
 split
 · rename_i h;omega
 · simp;omega
end
end
section
theorem pieces_ne {h:Heap} {I:Nat} (hI:h.objs.size≤I):∀ {vs:List Value} {ps:List (Str×Str)},Pieces h vs ps→∀ v∈vs,v≠.ref I
 | _,_,.nil,v,hv=>absurd hv nM
 | _,_,.cons a r,v,hv=>by
   rcases mC hv with rfl | hv
   · refine exE3 a fun b ta tb hh=>anE2 hh fun z3 hb=>?_;clear hh;try clear a;rcases z3 with rfl
     intro e
     have:=hb.lt
     have e2:b=I:=by cases e;rfl
     rw [e2] at this
     exact absurd this (Nat.not_lt.mpr hI)
   · exact pieces_ne hI r v hv
theorem pieces_ix {h:Heap}:∀ {vs:List Value} {ps:List (Str×Str)},Pieces h vs ps→∀ (i:Nat) (v:Value),vs[i]? = some v→∃ p,ps[i]? = some p∧Piece h v p
 | _,_,.nil,i,v,e=>by simp at e
 | _,_,.cons a r,0,v,e=>by
   simp at e
   exact ⟨_,rfl,e▸a⟩
 | _,_,.cons a r,i+1,v,e=>by
   obtain ⟨p,h1,h2⟩:=pieces_ix r i v (by simpa using e)
   exact ⟨p,by simpa using h1,h2⟩
section
variable {w:World} {A:Around} {E:VP} {s s':Shared} {G:Gh} {own:Nat→Nat} {T:List Addr} {m:Str→Option Value}
theorem from1_S {env:Env} {value:PySem.Expr} {p1 p3 p4:Pos} {k:Nat} {Q:VP} (ht:∀ o r,letTemporaryGo value o r=pure ())
 (h:wpAny (model prog w) A (eval value env) (fun o s₁=>∃ l vs n,o=.ref l∧Inv w s₁.heap∧s₁.heap.get? l=some (listOf (List.toArray vs) n)∧vs.length≤1000∧∀ D s',Step w [] s₁ s'→At s'.heap D (listOf (vs.drop 1).toArray 0)→s₁.heap.get? D=none→Q (.ref D) s') E s) :
 wpAny (model prog w) A (eval (.Subscript value (.Slice (some (.Constant (.int 1) k p1)) none none p3) p4) env) Q E s:=by
 refine wpAny_Subscript_list_slice (wpAny_mono h (fun o s₁ h₁=>?_) fun _ _ e=>e) ht
 refine exE3 h₁ fun l vs n hh=>anE5 hh fun z3 I hl hz q=>?_;clear hh;try clear h₁;rcases z3 with rfl
 refine wpAny_evalPart_some (wpAny_Constant_int (k:=0) (pos:=p0) ?_)
 refine wpAny_evalPart_none ?_
 refine exI4 l vs.toArray (some 1) none (anI6 rfl ⟨_,hl,rfl,_,rfl⟩ (by rw [sizeLine_eq,List.size_toArray];omega) (.int _ _) .none ?_)
 have e:slicePick vs.toArray (some 1) none none=(vs.drop 1).toArray:=slicePick_from' vs.toArray 1
 have kp:∀ (h:Heap) (o':Obj) b o,h.get? b=some o→(h.push o').get? b=some o:=fun _ _ b o e=>Heap.get?_push_of_some _ e
 have k2:∀ (o1 o2:Obj) b o,s₁.heap.get? b=some o→((s₁.heap.push o1).push o2).get? b=some o:=fun _ _ b o e=>kp _ _ _ _ (kp _ _ _ _ e)
 refine q _ _ ⟨fun b o e _=>k2 _ _ b o e,rfl,id,I.keepAll (k2 _ _)⟩ ⟨?_,Nat.le_succ_of_le I.size⟩ (Heap.get?_none_of_le (Nat.le_succ _))
 have e1:=Heap.get?_push_size (s₁.heap.push { cls:=.type "slice",data:=.fields #[.int 1 s₁.toks,.none,.none] }) (o:={ cls:=.type "list",data:=.seq (slicePick vs.toArray (some 1) none none) }) rfl
 rw [Heap.size_push] at e1
 rw [e] at e1 ⊢
 exact e1
theorem end_c (l:Lvl A 600) {P np:Nat} {vp:List Value} {p:Str×Str} {ps0 ps:List (Str×Str)} {Q:Flow→Shared→Prop} (g:GhOk G) (A0:LawAt w G own ps0 s) (hn:s.heap.Ns G.L m) (mr:m "row"=some (.ref G.X)) (mp:m "pieces"=some (.ref P)) (hP:At s.heap P (listOf vp.toArray np)) (hvp:Pieces s.heap vp (p :: ps)) (hz:ps0.length+ps.length≤7) (hok:∀ q∈ps,q.1.length=1∧q.2.length=1)
 (k:∀ s' m',Step w [G.L,G.X] s s'→LawAt w G own (ps0 ++ ps) s'→s'.heap.Ns G.L m'→(∀ x:Str,x≠"piece"→m' x=m x)→wpAny (model prog w) A (execs (turnBody.drop 17) (lawEnv G.L)) Q E s') :
 wpAny (model prog w) A (execs (turnBody.drop 16) (lawEnv G.L)) Q E s:=by
 show wpAny _ _ (execs (_ :: turnBody.drop 17) _) _ _ _
 have hL:=g.hL
 have hLX:G.L≠G.X:=(g.apart2 _ (.head _)).1
 have I:=A0.st.inv
 have hpl:vp.length=ps.length+1:=by rw [hvp.len];rfl
 refine wpAny_execs_cons (for_src l.handled ?_)
 refine from1_S (by intro _ _;rfl) (law_loc hn rfl mp (by decide) ⟨P,vp,np,rfl,I,hP.1,by omega,fun D s1 y1 hD fD=>?_⟩)
 have hn1:=hn.at' fun o e=>y1.keep _ o e nM
 have A1:=A0.quiet g hn y1 noneL
 have hv1:Pieces s1.heap (vp.drop 1) ps:=(hvp.keep y1 fun _ h=>nN h).drop 1
 refine exE2 A1.row fun vs1 n1 hh=>anE2 hh fun hX1 hP1=>?_;clear hh
 have hdl:(vp.drop 1).length=ps.length:=by rw [List.length_drop];omega
 have ltT:∀ a∈[G.L,G.X],a < s1.heap.objs.size:=fun a ha=>by
  rcases mC ha with rfl | ha
  · exact hn1.lt
  · rw [mS ha];exact hX1.lt
 have nD:D∉[G.L,G.X]:=fun hm=>by
  rcases mC hm with h | hm
  · exact ex_ne (ns_ex hn) fD h.symm
  · refine exE2 A0.row fun vs0 n0 hh=>anE2 hh fun hX0 _=>?_;clear hh
    exact ex_ne ⟨_,hX0.1⟩ fD (mS hm).symm
 have ex1:=A1.ex hn1
 have hI:∀ a∈mv G ++ pr G,a≠s1.heap.objs.size:=fun a ha e=>by
  obtain ⟨o,e2⟩:=ex1 a ha
  exact Nat.lt_irrefl _ (e▸Heap.lt_size e2)
 have hLI:G.L∉[s1.heap.objs.size]:=fun hm=>hI G.L (.head _) (mS hm)
 have f1:s1.heap.get? s1.heap.objs.size=none:=Heap.get?_none_of_le (Nat.le_refl _)
 have nt1:∀ a∈[G.L,G.X],a < 250∨∃ o,s1.heap.get? a=some o∧∀ xs,o≠⟨.type "tuple",none,.seq xs 0,#[]⟩:=fun a ha=>by
  rcases mC ha with rfl | ha
  · exact notTupL hn1 _ (.head _)
  · exact notTupX hX1 a ha
 refine exI4 [G.L,G.X] (vp.drop 1).length (fun i v=>(vp.drop 1)[i]? = some v) (fun i s'=>PuK w G own m s1 s1.heap.objs.size (ps0 ++ ps.take i) s') (anI8 y1.inv (src2_list nD hD) ltT (fun i s' j=>j.law.st.inv) (fun s' y=>?_) (fun i s3 s' j y=>?_) ?_ ?_)
 · show PuK w G own m s1 s1.heap.objs.size (ps0 ++ ps.take 0) s'
   rw [List.take_zero,List.append_nil]
   refine ⟨A1.quiet g hn1 y noneL,⟨vs1,n1,hX1.keep y nM,hP1.keep y fun _ h=>nN h,pieces_ne (Nat.le_refl _) hP1⟩,y.wide fun a h=>nN h,m,hn1.at' fun o e=>y.keep _ o e nM,fun _ _=>rfl⟩
 · refine exE2 j.row fun vs n hh=>anE3 hh fun hX hPs hv=>?_;clear hh
   obtain ⟨a1,a2,a3⟩:=j.law.other hX hPs y hI hv
   obtain ⟨m',hn',hm'⟩:=j.ns
   exact ⟨a1,⟨vs,n,a2,a3,hv⟩,j.st.trans y fun a h=>.inr (by rw [mS h];exact f1),m',hn'.at' fun o e=>y.keep _ o e hLI,hm'⟩
 · intro i v s5 hi hP5 J hIx
   obtain ⟨⟨pa,pb⟩,hpi,a,ta,tb,rfl,ha⟩:=pieces_ix hv1 i v hP5
   have hok':=hok _ (List.mem_of_getElem? hpi)
   obtain ⟨m5,hn5,hm5⟩:=J.ns
   refine exE2 J.row fun vs n hh=>anE3 hh fun hX hPs hv=>?_;clear hh
   have naT:a∉[G.L,G.X]:=fun hm=>by
    rcases nt1 a hm with h | ⟨o,e,hc⟩
    · exact absurd ha.2 (Nat.not_le.mpr h)
    · rw [ha.1] at e;cases e;exact hc _ rfl
   have ha5:=ha.keep J.st naT
   refine assign_S J.law.st.inv hL hn5 rfl rfl fun s6 y6 hn6=>?_
   have A6:=J.law.quiet g hn5 y6 oneL
   have hX6:=hX.keep y6 (fun hm=>hLX (mS hm).symm)
   have hP6:=hPs.keep2 y6 (notTupL hn5)
   have ha6:=ha5.keep y6 (fun hm=>naT (by rw [mS hm];exact .head _))
   have hmr:upd m5 "piece" (.ref a) "row"=some (.ref G.X):=(upd_ne _ _ (by decide)).trans ((hm5 _ (by decide)).trans mr)
   have hmp:upd m5 "piece" (.ref a) "piece"=some (.ref a):=upd_self _ _ _
   have hip:i < ps.length:=by rw [← hdl];exact hi
   have hlen:vs.length≤7:=by
    rw [hPs.len,List.length_append,List.length_take];omega
   have hav:At s6.heap a ⟨.type "tuple",none,.seq [Value.str pa ta,Value.str pb tb].toArray 0,#[]⟩:=ha6
   refine wpAny_execs_cons (wpAny_Expr_any ?_)
   refine meth_call ?hb ?hf ?hl ?hr
   case hb=>exact base_name _ _ _ _ _
   case hf=>rfl
   case hl=>rfl
   refine law_loc hn6 rfl hmr (by decide) fun pl=>?_
   refine row_meth (f:=144) A6.st.inv hX6 A6.st.ad (by k_is) (by k_is) (by rfl) ?_
   refine meth_S (by k_is) rfl (spliced_cons (piece_S (i:=0) hn6 hmp hav (Nat.le_of_ble_eq_true rfl) (Nat.le_of_ble_eq_true rfl) rfl fun k1=>spliced_cons (piece_S (s:={ s6 with toks:=k1 }) (i:=1) hn6 hmp hav (Nat.le_of_ble_eq_true rfl) (Nat.le_of_ble_eq_true rfl) rfl fun k2=>spliced_nil ⟨A6.st.inv,?_⟩)))
   refine push_spec (s:={ s6 with toks:=k2 }) (x:=G.X) (d:=G.d) (vs:=vs) (n:=n) (nd:=G.nd) (h1:=G.h1) (t1:=G.t1) (t2:=G.t2) (l.up (by decide)) ?hi ?hx ?hd ?hz ?hk
   case hi=>exact A6.st.inv
   case hx=>exact hX6
   case hd=>exact A6.st.ad
   case hz=>rw [sizeLine_eq];omega
   intro q s7 y7 hX7 hp7 fq
   have y67:Step w [G.X] s6 s7:=(((Step.refl A6.st.inv).toks k2).wide fun a ha=>.inl ha).trans y7 fun a h=>.inl h
   have A7:=A6.pushed g hX6 hP6 y67 hX7 hp7
   have y57:Step w [G.L,G.X] s5 s7:=(y6.wide fun a ha=>.inl (by rw [mS ha];exact .head _)).trans y67 fun a ha=>.inl (.tail _ ha)
   have nXL:G.L∉[G.X]:=fun hm=>hLX (mS hm)
   have et:ps0 ++ ps.take (i+1)=(ps0 ++ ps.take i) ++ [(pa,pb)]:=by
    have h1:ps[i]? = some ps[i]:=List.getElem?_eq_getElem hip
    rw [h1] at hpi
    rw [List.take_succ_eq_append_getElem hip,Option.some.inj hpi,List.append_assoc]
   have P7:Pieces s7.heap (vs ++ [.ref q]) ((ps0 ++ ps.take i) ++ [(pa,pb)]):=(hP6.keep2 y67 (notTupX hX6)).snoc ⟨q,_,_,rfl,hp7⟩
   refine wpAny_execs_nil ⟨⟨?_,⟨_,_,hX7,?_,fun v hv'=>?_⟩,J.st.trans y57 fun a h=>.inl h,_,hn6.at' fun o e=>y67.keep _ o e nXL,fun x hx=>(upd_ne _ _ hx).trans (hm5 x hx)⟩,y57⟩
   · rw [et];exact A7
   · rw [et];exact P7
   · rcases List.mem_append.mp hv' with h | h
     · exact hv v h
     · rw [mS h]
       intro e
       obtain ⟨o,e5⟩:=hIx
       have fp6:s6.heap.get? q=none:=fq
       have:q=s1.heap.objs.size:=by cases e;rfl
       rw [this,y6.keep _ o e5 (fun hm=>hLI (List.mem_singleton.mpr (mS hm).symm))] at fp6
       cases fp6
 · intro sZ JZ
   obtain ⟨m',hn',hm'⟩:=JZ.ns
   have A:=JZ.law
   rw [List.take_of_length_le (by omega)] at A
   exact k sZ m' ((y1.wide fun a h=>nN h).trans JZ.st fun a h=>.inl h) A hn' hm'
end
end
section
theorem LawAt.ownset {w:World} {s s':Shared} {G:Gh} {own own':Nat→Nat} {ps:List (Str×Str)} (g:GhOk G) (x:LawAt w G own ps s) (y:Step w [G.O] s s') (hO:OwnAt w s'.heap G.O own'):LawAt w G own' ps s':=by
 have h2:=g.apart2
 have key:∀ {c:Nat},c≠G.O→c∉[G.O]:=fun h hm=>h (mS hm)
 refine exE2 x.row fun vs n hh=>anE2 hh fun hX hP=>?_;clear hh
 refine ⟨x.st.move g y fun c hc=>by rw [mS hc];exact List.mem_append_left _ (.tail _ (.tail _ (.tail _ (.tail _ (.tail _ (.head _)))))),⟨_,_,hX.keep y (key g.xo),hP.keep2 y fun c hc=>?_⟩,hO,?_,?_,?_⟩
 · rw [mS hc]
   obtain ⟨_,kvs,⟨ob,es,ep,e,-,hd,-⟩,-⟩:=x.own
   refine .inr ⟨ob,e,fun xs h=>?_⟩
   rw [h] at hd;cases hd
 · obtain ⟨v,hv⟩:=x.c4;exact ⟨v,cell_keep hv y (key (h2 _ (.tail _ (.head _))).2)⟩
 · obtain ⟨v,hv⟩:=x.c5;exact ⟨v,cell_keep hv y (key (h2 _ (.tail _ (.tail _ (.head _)))).2)⟩
 · obtain ⟨v,hv⟩:=x.c6;exact ⟨v,cell_keep hv y (key (h2 _ (.tail _ (.tail _ (.tail _ (.head _))))).2)⟩
section
variable {w:World} {A:Around} {E:VP} {s s':Shared} {G:Gh} {own:Nat→Nat} {T:List Addr} {m:Str→Option Value}
theorem subT_S {value slice:PySem.Expr} {o i:Value} {T id:String} {Q:VP} (hT:s.TypeIs o T) (hl:typeLookup (.type T) "__getitem__"=pure (some (.builtin id))) (h:wpAny (model prog w) A (getItem o i) Q E s) (hs:subscripted slice false o i=operate [o,i] (getItem o i)):wpAny (model prog w) A (subscriptTail value slice o i) Q E s:=by
 unfold subscriptTail
 refine wpAny_bind ?_
 rw [getitemInPython_of_ne hT.not_modules]
 refine wpAny_bind (wpAny_specialOf hT hl ?_)
 have fin:wpAny (model prog w) A (subscripted slice false o i) (fun r s₃=>wpAny (model prog w) A (letTemporaryGo value o r >>= fun _=>pure r) Q E s₃) E s:=by
  rw [hs]
  exact wpAny_operating (wpAny_mono h (fun r s₃ h₃=>wpAny_bind (wpAny_letTemporaryGo (wpAny_pure h₃))) fun _ _ x=>x)
 first
  | exact wpAny_pure (wpAny_bind fin)
  | exact wpAny_bind (wpAny_pure (wpAny_bind fin))
  | exact wpAny_bind fin
theorem end_d (l:Lvl A 600) {c i:Nat} {t tt:Tok} {ps:List (Str×Str)} {Q:Flow→Shared→Prop} (g:GhOk G) (A0:LawAt w G own ps s) (hn:s.heap.Ns G.L m) (mc:m "cell"=some (.str (letter c) t)) (mt:m "turn"=some (.int i tt)) (hc:c < 7)
 (k:∀ s',Step w [G.O] s s'→LawAt w G (setO own c (1+i % 2)) ps s'→s'.heap.Ns G.L m→Q .next s') :
 wpAny (model prog w) A (execs (turnBody.drop 17) (lawEnv G.L)) Q E s:=by
 show wpAny _ _ (execs (_ :: []) _) _ _ _
 have hL:=g.hL
 have I:=A0.st.inv
 have hLO:G.L≠G.O:=(g.apart2 _ (.head _)).2
 refine wpAny_execs_cons (wpAny_Assign_Subscript (Subscript_ ?_))
 refine list_S (spliced_cons (Constant_str (k:=0) (pos:=p0) (spliced_cons (Constant_str (k:=0) (pos:=p0) (spliced_nil ⟨Nat.le_of_ble_eq_true rfl,I,fun D s1 y1 fD hD=>?_⟩)))))
 have y01:Step w [] s s1:=((Step.refl I).toks _).trans y1 fun a h=>.inl h
 have hn1:=hn.at' fun o e=>y01.keep _ o e nM
 have A1:=A0.quiet g hn y01 noneL
 rw [arm_eval_BinOp]
 refine wpAny_bind (law_loc hn1 rfl mt (by decide) (wpAny_bind (wpAny_holding (wpAny_Constant_int (k:=0) (pos:=p0) (wpAny_bind (wpAny_standAt (wpAny_operating (mod2_S fun t2 j2=>?_))))))))
 have h2:i % 2 < 2:=Nat.mod_lt _ (by decide)
 have look:∃ tg tok,[Value.str "- " s.toks,Value.str "+ " (s.toks+1)][i % 2]? = some (.str tg tok)∧tg=tagOf (1+i % 2):=by
  generalize i % 2=b at h2
  match b,h2 with
  | 0,_=>exact exI2 _ _ (anI2 rfl rfl)
  | 1,_=>exact exI2 _ _ (anI2 rfl rfl)
 refine exE2 look fun tg tok hh=>anE2 hh fun e1 e2=>?_;clear hh;try clear look
 subst e2
 refine subT_S (T:="list") ⟨_,hD.1,rfl⟩ slot_list_getitem.lookup (item_S (s:={ s1 with toks:=j2 }) hD.1 e1 (Nat.le_of_ble_eq_true rfl) ?_) rfl
 refine law_cell (s:={ s1 with toks:=j2 }) rfl (cells_law G.L).2.2.1 A1.st.co (by decide) (law_loc (s:={ s1 with toks:=j2 }) hn1 rfl mc (by decide) ?_)
 refine own_set (s:={ s1 with toks:=j2 }) A1.st.inv A1.own hc fun s2 y2 hO=>?_
 have y12:Step w [G.O] s1 s2:=(((Step.refl A1.st.inv).toks j2).wide fun a h=>.inl h).trans y2 fun a h=>.inl h
 exact wpAny_execs_nil (k s2 ((y01.wide fun a h=>nN h).trans y12 fun a h=>.inl h) (A1.ownset g y12 hO) (hn1.at' fun o e=>y12.keep _ o e (fun hm=>hLO (mS hm))))
end
end
section
structure PTn (G:Gh) (own:Nat→Nat) (i:Nat):Prop where
 own2:∀ c,own c≤2
 fr:(tagL own 0).length=7 - i
 one:(tagL own 1).length=(i+1) / 2
 two:(tagL own 2).length=i / 2
 even:i % 2=0→Even own G.ns
 odd:i % 2=1→Odd own G.ns
theorem tag_own {own:Nat→Nat} {j:Nat} (hj:j < (tagL own 0).length):own (tagL own 0)[j]=0∧(tagL own 0)[j] < 7:=by
 have h:=List.mem_filter.mp (List.getElem_mem hj)
 exact ⟨beq_iff_eq.mp h.2,List.mem_range.mp h.1⟩
theorem set_le2 {own:Nat→Nat} {c k:Nat} (h:∀ c,own c≤2) (hk:k≤2):∀ d,setO own c k d≤2:=fun d=>by
 by_cases e:d=c
 · subst e;rw [set_self];exact hk
 · rw [set_ne own k e];exact h d
theorem par7:∀ i:Fin 7,(i.1 % 2=0→(i.1+1) / 2+1=(i.1+1+1) / 2∧i.1 / 2=(i.1+1) / 2∧(i.1+1) % 2≠0)∧(i.1 % 2=1→i.1 / 2+1=(i.1+1) / 2∧(i.1+1) / 2=(i.1+1+1) / 2∧(i.1+1) % 2≠1):=by decide
theorem PTn.next {G:Gh} {own:Nat→Nat} {i j:Nat} (g:GhOk G) (p:PTn G own i) (hi:i≤6) (hj:j < (tagL own 0).length) (hbest:i % 2=1→∀ d,own d=0→d < 7→cw own G.ns d≤cw own G.ns (tagL own 0)[j]):PTn G (setO own (tagL own 0)[j] (1+i % 2)) (i+1):=by
 obtain ⟨h0,h7⟩:=tag_own hj
 have hf:=p.fr
 have h1:=p.one
 have h2:=p.two
 have pa:=par7 ⟨i,Nat.lt_succ_of_le hi⟩
 have fr:∀ {x:Nat},(tagL own 0).length=x+1→x=7 - (i+1):=fun {x} e=>Nat.eq_sub_of_add_eq (show x+(i+1)=7 from (Nat.succ_add_eq_add_succ x i).symm.trans (by rw [Nat.succ_eq_add_one,← e,hf];exact Nat.sub_add_cancel (Nat.le_succ_of_le hi)))
 rcases Nat.mod_two_eq_zero_or_one i with e | e
 · rw [e]
   have pb:=pa.1 e
   exact ⟨set_le2 p.own2 (by decide),fr (tag_free (k:=1) h0 (by decide) h7),(tag_more (k:=1) h0 (by decide) h7).trans ((congrArg (·+1) h1).trans pb.1),(congrArg List.length (tag_other (k:=1) (j:=2) h0 (by decide) (by decide))).trans (h2.trans pb.2.1),fun h=>absurd h pb.2.2,fun _=>odd_of g.ok (p.even e) h0 h7⟩
 · rw [e]
   have pb:=pa.2 e
   exact ⟨set_le2 p.own2 (by decide),fr (tag_free (k:=2) h0 (by decide) h7),(congrArg List.length (tag_other (k:=2) (j:=1) h0 (by decide) (by decide))).trans (h1.trans pb.2.1),(tag_more (k:=2) h0 (by decide) h7).trans ((congrArg (·+1) h2).trans pb.1),fun _=>even_of (p.odd e) (hbest e),fun h=>absurd h pb.2.2⟩
section
variable {w:World} {A:Around} {E:VP} {s s':Shared} {G:Gh} {own:Nat→Nat} {T:List Addr} {m:Str→Option Value}
theorem turn_tail (l:Lvl A 600) {i j cnt:Nat} {tk tc t tt:Tok} {Q:Flow→Shared→Prop} (g:GhOk G) (A0:LawAt w G own (rowP own) s) (hn:s.heap.Ns G.L m) (mr:m "row"=some (.ref G.X)) (mk:m "k"=some (.int j tk)) (mc:m "count"=some (.int cnt tc)) (hcnt:cnt=(tagL own 0).length) (hj:j < (tagL own 0).length) (mcl:m "cell"=some (.str (letter (tagL own 0)[j]) t)) (mt:m "turn"=some (.int i tt))
 (k:∀ s' m',Step w [G.L,G.X,G.O] s s'→LawAt w G (setO own (tagL own 0)[j] (1+i % 2)) (rowP (setO own (tagL own 0)[j] (1+i % 2))) s'→s'.heap.Ns G.L m'→(∀ x:Str,x≠"pieces"→x≠"piece"→m' x=m x)→Q .next s') :
 wpAny (model prog w) A (execs (turnBody.drop 14) (lawEnv G.L)) Q E s:=by
 obtain ⟨h0,h7⟩:=tag_own hj
 have hl7:(tagL own 0).length≤7:=Nat.le_trans (List.length_filter_le ..) (by simp)
 refine end_a l g A0 hn mr mk mc hcnt hj fun s1 P vp np y1 A1 hn1 hP1 hvp1=>?_
 rw [row_drop hj] at hvp1
 have hvl:vp.length≤7:=by rw [hvp1.len,List.length_cons,List.length_drop,row_len'];exact Nat.le_trans (Nat.succ_le_of_lt (Nat.sub_lt (Nat.lt_of_le_of_lt (Nat.zero_le _) hj) (Nat.succ_pos _))) hl7
 refine end_b l A1.st.inv hn1 (upd_self _ _ _) ((upd_ne _ _ (by decide)).trans mcl) h7 hP1 hvp1 hvl fun s2 y2=>?_
 have hn2:=hn1.at' fun o e=>y2.keep _ o e nM
 have A2:=A1.quiet g hn1 y2 noneL
 refine end_c l g A2 hn2 ((upd_ne _ _ (by decide)).trans mr) (upd_self _ _ _) (hP1.keep y2 nM) (hvp1.keep y2 fun _ h=>nN h) ?_ ?_ fun s3 m3 y3 A3 hn3 hm3=>?_
 · rw [List.length_take,List.length_drop,row_len'];exact Nat.le_trans (Nat.add_le_add (Nat.le_succ_of_le (Nat.min_le_left _ _)) (Nat.le_refl _)) (Nat.le_trans (Nat.le_of_eq (Nat.add_sub_of_le hj)) hl7)
 · intro q hq
   obtain ⟨c,_,rfl⟩:=List.mem_map.mp (List.mem_of_mem_drop hq)
   exact ⟨rfl,rfl⟩
 rw [← row_cut (k:=1+i % 2) hj (Nat.ne_of_gt (Nat.lt_of_lt_of_le Nat.zero_lt_one (Nat.le_add_right 1 _)))] at A3
 refine end_d l (i:=i) g A3 hn3 ((hm3 _ (by decide)).trans ((upd_ne _ _ (by decide)).trans mcl)) ((hm3 _ (by decide)).trans ((upd_ne _ _ (by decide)).trans mt)) h7 fun s4 y4 A4 hn4=>?_
 refine k s4 m3 ?_ A4 hn4 fun x h1 h2=>(hm3 x h2).trans (upd_ne _ _ h1)
 have sub:∀ {s1:Shared},∀ a∈[G.L,G.X],a∈[G.L,G.X,G.O]∨s1.heap.get? a=none:=fun a ha=>.inl (by
  rcases mC ha with rfl | ha
  · exact .head _
  · rw [mS ha];exact .tail _ (.head _))
 exact (((y1.wide sub).trans y2 fun a h=>nN h).trans y3 sub).trans y4 fun a ha=>.inl (by rw [mS ha];exact .tail _ (.tail _ (.head _)))
end
end
section
noncomputable def xsT0:List Str:=["board","ones","theirs","left","mine","back","count","due","k","pieces","piece","turn"]
noncomputable def xsT:List Str:=xsT0 ++ xsO
section
variable {w:World} {A:Around} {E:VP} {s s':Shared} {G:Gh} {own:Nat→Nat} {T:List Addr} {m:Str→Option Value}
theorem lt_sub {s1:Shared} (h:∀ a∈T,a∈LT G):∀ a∈T,a∈LT G∨s1.heap.get? a=none:=fun a ha=>.inl (h a ha)
theorem lt_quiet (h:∀ a∈T,a=G.L∨a∈TB):∀ a∈T,a∈LT G:=fun a ha=>by
 rcases h a ha with rfl | h
 · exact List.mem_append_left _ (.head _)
 · exact List.mem_append_right _ h
theorem lt_mv (h:∀ a∈T,a∈mv G∨a∈TB):∀ a∈T,a∈LT G:=fun a ha=>(h a ha).elim (List.mem_append_left _) (List.mem_append_right _)
theorem quiet3:∀ b∈[(G.L:Nat),162,169],b=G.L∨b∈TB:=fun b hb=>by
 rcases mC hb with rfl | hb
 · exact .inl rfl
 · refine .inr ?_
   rcases mC hb with rfl | hb
   · decide
   · rw [mS hb];decide
theorem turn_pre (l:Lvl A 600) {i:Nat} {tt:Tok} {Q:Flow→Shared→Prop} (g:GhOk G) (p:PTn G own i) (hi:i≤6) (A0:LawAt w G own (rowP own) s) (hn:s.heap.Ns G.L m) (hu:m sUA=none) (mr:m "row"=some (.ref G.X)) (mt:m "turn"=some (.int i tt))
 (k:∀ s' (U:Tu) m' t,Step w (LT G) s s'→TuOk own U→TurnAt w G own (rowP own) U s'→s'.heap.Ns G.L m'→(∀ x:Str,x∉xsT→m' x=m x)→m' "left"=some (.ref U.LE)→m' "mine"=some (.ref U.MI)→m' "count"=some (.int ((7 - i:Nat):Int) t)→m' "turn"=some (.int i tt)→wpAny (model prog w) A (execs (turnBody.drop 13) (lawEnv G.L)) Q E s') :
 wpAny (model prog w) A (execs turnBody (lawEnv G.L)) Q E s:=by
 have h1:(tagL own 1).length≤3:=by rw [p.one];omega
 have h2:(tagL own 2).length≤3:=by rw [p.two];omega
 refine turn_a l g A0 hn p.own2 fun s1 BD ON TH LE vb vo vt vl nb no nt nl y1 A1 hn1 hBD hON hTH hLE hvb hvo hvt hvl=>?_
 have c1:∀ x:Str,x≠"board"→x≠"ones"→x≠"theirs"→x≠"left"→upd (upd (upd (upd m "board" (.ref BD)) "ones" (.ref ON)) "theirs" (.ref TH)) "left" (.ref LE) x=m x:=fun x a b c d=>(upd_ne _ _ d).trans ((upd_ne _ _ c).trans ((upd_ne _ _ b).trans (upd_ne _ _ a)))
 have mb1:upd (upd (upd (upd m "board" (.ref BD)) "ones" (.ref ON)) "theirs" (.ref TH)) "left" (.ref LE) "board"=some (.ref BD):=(upd_ne _ _ (by decide)).trans ((upd_ne _ _ (by decide)).trans ((upd_ne _ _ (by decide)).trans (upd_self _ _ _)))
 have mo1:upd (upd (upd (upd m "board" (.ref BD)) "ones" (.ref ON)) "theirs" (.ref TH)) "left" (.ref LE) "ones"=some (.ref ON):=(upd_ne _ _ (by decide)).trans ((upd_ne _ _ (by decide)).trans (upd_self _ _ _))
 have mt1:upd (upd (upd (upd m "board" (.ref BD)) "ones" (.ref ON)) "theirs" (.ref TH)) "left" (.ref LE) "theirs"=some (.ref TH):=(upd_ne _ _ (by decide)).trans (upd_self _ _ _)
 have ml1:upd (upd (upd (upd m "board" (.ref BD)) "ones" (.ref ON)) "theirs" (.ref TH)) "left" (.ref LE) "left"=some (.ref LE):=upd_self _ _ _
 have hu1:=(c1 sUA (by decide) (by decide) (by decide) (by decide)).trans hu
 generalize hm1:upd (upd (upd (upd m "board" (.ref BD)) "ones" (.ref ON)) "theirs" (.ref TH)) "left" (.ref LE)=m1 at *
 refine turn_b l g A1 hn1 hu1 p.own2 mb1 mo1 mt1 hBD hON hTH hvb hvo hvt h1 h2 fun s2 MI YO FR BA um uy uf ub dl1 rt1 dl2 rt2 y2 A2 hn2 d4 d5 eM eY eF eB hum huy huf hub ht1 ht2=>?_
 have c2:∀ x:Str,x≠"mine"→x≠"back"→upd (upd m1 "mine" (.ref MI)) "back" (.ref BA) x=m1 x:=fun x a b=>(upd_ne _ _ b).trans (upd_ne _ _ a)
 have mm2:upd (upd m1 "mine" (.ref MI)) "back" (.ref BA) "mine"=some (.ref MI):=(upd_ne _ _ (by decide)).trans (upd_self _ _ _)
 have mB2:upd (upd m1 "mine" (.ref MI)) "back" (.ref BA) "back"=some (.ref BA):=upd_self _ _ _
 have mo2:=(c2 "ones" (by decide) (by decide)).trans mo1
 have mt2:=(c2 "theirs" (by decide) (by decide)).trans mt1
 have ml2:=(c2 "left" (by decide) (by decide)).trans ml1
 have hu2:=(c2 sUA (by decide) (by decide)).trans hu1
 have mr2:=(c2 "row" (by decide) (by decide)).trans ((c1 "row" (by decide) (by decide) (by decide) (by decide)).trans mr)
 have mtn2:=(c2 "turn" (by decide) (by decide)).trans ((c1 "turn" (by decide) (by decide) (by decide) (by decide)).trans mt)
 generalize hm2:upd (upd m1 "mine" (.ref MI)) "back" (.ref BA)=m2 at *
 have zo:vo.length≤3:=by rw [StrsAre.len_eq hvo,List.length_map];exact h1
 have zt:vt.length≤3:=by rw [StrsAre.len_eq hvt,List.length_map];exact h2
 have ne4:∀ {a:Nat} {o:Obj},At s1.heap a o→(∀ es ep,o.data≠.dict es ep)→(∀ v,o.data≠.cell v)→a∉[G.L,G.L+1+1+1+1,G.L+1+1+1+1+1]:=fun ha hd hc hm=>by
  obtain ⟨v4,c4⟩:=A1.c4
  obtain ⟨v5,c5⟩:=A1.c5
  rcases mC hm with h | hm
  · exact ns_ne hn1 ha.1 hd h.symm
  · rcases mC hm with h | hm
    · exact cell_ne c4 ha.1 hc h.symm
    · exact cell_ne c5 ha.1 hc (mS hm).symm
 have hLE2:=hLE.keep y2 (ne4 hLE list_nd list_nc)
 have hON2:=hON.keep y2 (ne4 hON list_nd list_nc)
 have hTH2:=hTH.keep y2 (ne4 hTH list_nd list_nc)
 let U:Tu:=⟨LE,MI,YO,FR,nl,vl,um,uy,uf,vo ++ vo,vt ++ vt,(vo ++ vo) ++ (vt ++ vt),dl1,rt1,dl2,rt2,orElse dl2 dl1,orElse rt2 rt1⟩
 have uok:TuOk own U:=⟨hvl,hum,huy,huf,by show (vo ++ vo).length≤14;rw [List.length_append];omega,by show ((vo ++ vo) ++ (vt ++ vt)).length≤14;rw [List.length_append,List.length_append,List.length_append];omega,told_of ht1,told_of (told_or ht2 ht1),p.own2⟩
 have X2:TurnAt w G own (rowP own) U s2:=⟨A2,hLE2,eM,eY,eF,d4,d5⟩
 refine turn_c1 l A2 hn2 mB2 ml2 d5 eF eB hLE2 huf hub hvl fun j3=>?_
 refine turn_c2 (s:={ s2 with toks:=j3 }) (psr:=rowP own) l g ?q1 hn2 hu2 mB2 mo2 mt2 d5 eF eB hON2 hTH2 hvo hvt h1 h2 fun s3 y3 hn3=>?_
 case q1=>exact A2.quiet g hn2 ((Step.refl A2.st.inv).toks j3) (noneL (L:=G.L))
 have y23:Step w [G.L] s2 s3:=(((Step.refl A2.st.inv).toks j3).wide fun a h=>.inl h).trans y3 fun a h=>.inl h
 have X3:=X2.quiet g hn2 hu2 y23 oneL
 have eB3:=entry_keepL hn2 hu2 eB y23 oneL
 have hON3:=at_keepL hn2 hON2 y23 oneL list_nd
 have hTH3:=at_keepL hn2 hTH2 y23 oneL list_nd
 refine turn_c3 l X3.law hn3 hu2 mB2 mo2 mt2 X3.c5 X3.fr eB3 hON3 hTH3 hvo hvt ht1 ht2 h1 h2 fun s4 y4=>?_
 have hn4:=hn3.at' fun o e=>y4.keep _ o e nM
 have X4:=X3.quiet g hn3 hu2 y4 noneL
 refine turn_d l g X4.law hn4 ml2 mr2 mtn2 hi X4.le hvl p.fr fun s5 t5 y5 A5 hn5=>?_
 have X5:=X4.quiet g hn4 hu2 y5 quiet3
 refine k s5 U _ t5 ?_ uok X5 hn5 (fun x hx=>?_) ((upd_ne _ _ (by decide)).trans ml2) ((upd_ne _ _ (by decide)).trans mm2) (upd_self _ _ _) ((upd_ne _ _ (by decide)).trans mtn2)
 · have z1:=y1.wide (T':=LT G) (lt_sub (lt_quiet oneL))
   have z2:=z1.trans y2 (lt_sub (lt_mv fun a ha=>.inl ?_))
   · exact ((z2.trans y23 (lt_sub (lt_quiet oneL))).trans y4 (lt_sub (lt_quiet noneL))).trans y5 (lt_sub (lt_quiet quiet3))
   · rcases mC ha with rfl | ha
     · exact .head _
     · rcases mC ha with rfl | ha
       · exact .tail _ (.head _)
       · rw [mS ha];exact .tail _ (.tail _ (.head _))
 · have ne:∀ y∈xsT,x≠y:=fun y hy e=>hx (e▸hy)
   exact (upd_ne _ _ (ne _ (by decide))).trans ((c2 x (ne _ (by decide)) (ne _ (by decide))).trans (c1 x (ne _ (by decide)) (ne _ (by decide)) (ne _ (by decide)) (ne _ (by decide))))
end
end
section
theorem xsO_T:∀ x∈xsO,x∈xsT:=fun x h=>List.mem_append_right _ h
theorem out_O {x:Str} (h:x∉xsT):x∉xsO:=fun q=>h (xsO_T x q)
theorem out_ne {x y:Str} (h:x∉xsT) (hy:y∈xsT):x≠y:=fun e=>h (e▸hy)
section
variable {w:World} {A:Around} {E:VP} {s s':Shared} {G:Gh} {own:Nat→Nat} {T:List Addr} {m:Str→Option Value}
structure FrAt (G:Gh) (m:Str→Option Value):Prop where
 hu:m sUA=none
 names:m "names"=some (.ref G.NM)
 worths:m "worths"=some (.ref G.WO)
 row:m "row"=some (.ref G.X)
 choice:∃ c t,m "choice"=some (.int (c:Nat) t)∧c < 105
theorem lt_of4:∀ a∈[G.L,G.L+1+1+1+1+1+1,86,234],a∈LT G:=by
 refine lt_mv fun a ha=>?_
 rcases mC ha with rfl | ha
 · exact .inl (.head _)
 · rcases mC ha with rfl | ha
   · exact .inl (.tail _ (.tail _ (.tail _ (.head _))))
   · refine .inr ?_
     rcases mC ha with rfl | ha
     · decide
     · rw [mS ha];decide
theorem lt_of3:∀ a∈[(G.L:Nat),86,93],a∈LT G:=by
 refine lt_mv fun a ha=>?_
 rcases mC ha with rfl | ha
 · exact .inl (.head _)
 · refine .inr ?_
   rcases mC ha with rfl | ha
   · decide
   · rw [mS ha];decide
theorem lt_ofX:∀ a∈[G.L,G.X,G.O],a∈LT G:=by
 refine lt_mv fun a ha=>.inl ?_
 rcases mC ha with rfl | ha
 · exact .head _
 · rcases mC ha with rfl | ha
   · exact .tail _ (.tail _ (.tail _ (.tail _ (.head _))))
   · rw [mS ha];exact .tail _ (.tail _ (.tail _ (.tail _ (.tail _ (.head _)))))
theorem turn_all (l:Lvl A 600) {i:Nat} {tt:Tok} {Q:Flow→Shared→Prop} (g:GhOk G) (p:PTn G own i) (hi:i≤6) (A0:LawAt w G own (rowP own) s) (hn:s.heap.Ns G.L m) (f:FrAt G m) (mt:m "turn"=some (.int i tt))
 (k:∀ s' own' m',Step w (LT G) s s'→PTn G own' (i+1)→LawAt w G own' (rowP own') s'→s'.heap.Ns G.L m'→FrAt G m'→Q .next s') :
 wpAny (model prog w) A (execs turnBody (lawEnv G.L)) Q E s:=by
 refine exE2 f.choice fun c tch hh=>anE2 hh fun mch hch=>?_;clear hh
 refine turn_pre l g p hi A0 hn f.hu f.row mt fun s1 U m1 tc y1 u X1 hn1 c1 ml1 mM1 mc1 mt1=>?_
 have hu1:=(c1 sUA (by decide)).trans f.hu
 have I1:=X1.law.st.inv
 have hfr:=p.fr
 show wpAny _ _ (execs (_ :: turnBody.drop 14) _) _ _ _
 refine wpAny_execs_cons (wpAny_If (wpAny_isTrue_Compare1 ?_))
 rw [arm_eval_BinOp]
 refine wpAny_bind (law_loc hn1 rfl mt1 (by decide) (wpAny_bind (wpAny_holding (wpAny_Constant_int (k:=0) (pos:=p0) (wpAny_bind (wpAny_standAt (wpAny_operating (mod2_S fun t2 j2=>?_))))))))
 refine wpAny_Constant_int (k:=0) (pos:=p0) (P.eq_int ?_)
 have yT:Step w [] s1 { s1 with toks:=j2+1 }:=(Step.refl I1).toks _
 have XT:=X1.quiet g hn1 hu1 yT noneL
 by_cases e:i % 2=0
 · rw [e]
   refine wpAny_truthy_bool ?_
   show wpAny _ _ (execs evenBody _) _ _ _
   refine even_blk (s:={ s1 with toks:=j2+1 }) l g XT.law hn1 ((c1 _ (by decide)).trans mch) mc1 hch (by omega) (by omega) fun s2 m2 t3 t4 y2 A2 hn2 c2 mch2 mk2=>?_
   have hj:c % (7 - i) < (tagL own 0).length:=by rw [hfr];exact Nat.mod_lt _ (by omega)
   have hle2:At s2.heap U.LE (listOf U.vl.toArray U.nl):=at_keepL (s:={ s1 with toks:=j2+1 }) hn1 XT.le y2 (fun b hb=>by
    rcases mC hb with rfl | hb
    · exact .inl rfl
    · refine .inr ?_
      rcases mC hb with rfl | hb
      · decide
      · rw [mS hb];decide) list_nd
   refine even_cell g A2 hn2 ((c2 _ (by decide) (by decide) (by decide)).trans ml1) mk2 hle2 u.vl hj (by omega) fun s3 t5 y3 A3 hn3=>?_
   have cell3:∀ x:Str,x∉xsT→x≠"choice"→upd m2 "cell" (.str (letter (tagL own 0)[c % (7 - i)]) t5) x=m x:=fun x hx h=>(upd_ne _ _ (out_ne hx (by decide))).trans ((c2 x (out_ne hx (by decide)) h (out_ne hx (by decide))).trans (c1 x hx))
   refine turn_tail l (i:=i) (cnt:=7 - i) g A3 hn3 ((cell3 _ (by decide) (by decide)).trans f.row) ((upd_ne _ _ (by decide)).trans mk2) ((upd_ne _ _ (by decide)).trans ((c2 _ (by decide) (by decide) (by decide)).trans mc1)) hfr.symm hj (upd_self _ _ _) ((upd_ne _ _ (by decide)).trans ((c2 _ (by decide) (by decide) (by decide)).trans mt1)) fun s4 m4 y4 A4 hn4 c4=>?_
   have fin:∀ x:Str,x∉xsT→x≠"choice"→m4 x=m x:=fun x hx h=>(c4 x (out_ne hx (by decide)) (out_ne hx (by decide))).trans (cell3 x hx h)
   refine k s4 _ m4 ?_ (p.next g hi hj fun h=>by omega) A4 hn4 ⟨(fin _ (by decide) (by decide)).trans f.hu,(fin _ (by decide) (by decide)).trans f.names,(fin _ (by decide) (by decide)).trans f.worths,(fin _ (by decide) (by decide)).trans f.row,_,t3,(c4 _ (by decide) (by decide)).trans ((upd_ne _ _ (by decide)).trans mch2),?_⟩
   · exact (((y1.trans yT (lt_sub (lt_quiet noneL))).trans y2 (lt_sub lt_of3)).trans y3 (lt_sub (lt_quiet oneL))).trans y4 (lt_sub lt_ofX)
   · exact Nat.lt_of_le_of_lt (Nat.div_le_self _ _) hch
 · have e1:i % 2=1:=by omega
   rw [e1]
   refine wpAny_truthy_bool ?_
   show wpAny _ _ (execs oddBody _) _ _ _
   have h2:(tagL own 2).length≤3:=by rw [p.two];omega
   refine odd_move (s:={ s1 with toks:=j2+1 }) l (cnt:=7 - i) g u XT hn1 hu1 (p.odd e1) h2 (by omega) hfr.symm ml1 ((c1 _ (by decide)).trans f.names) ((c1 _ (by decide)).trans f.worths) mM1 mc1 fun s2 m2 j t3 t4 hj y2 A2 hn2 c2 mcl2 mk2 hbest=>?_
   have cell2:∀ x:Str,x∉xsT→m2 x=m x:=fun x hx=>(c2 x (out_O hx)).trans (c1 x hx)
   refine turn_tail l (i:=i) (cnt:=7 - i) g A2 hn2 ((cell2 _ (by decide)).trans f.row) mk2 ((c2 _ (by decide)).trans mc1) hfr.symm hj mcl2 ((c2 _ (by decide)).trans mt1) fun s4 m4 y4 A4 hn4 c4=>?_
   have fin:∀ x:Str,x∉xsT→m4 x=m x:=fun x hx=>(c4 x (out_ne hx (by decide)) (out_ne hx (by decide))).trans (cell2 x hx)
   refine k s4 _ m4 ?_ (p.next g hi hj fun _=>hbest) A4 hn4 ⟨(fin _ (by decide)).trans f.hu,(fin _ (by decide)).trans f.names,(fin _ (by decide)).trans f.worths,(fin _ (by decide)).trans f.row,c,tch,(fin _ (by decide)).trans mch,hch⟩
   exact ((y1.trans yT (lt_sub (lt_quiet noneL))).trans y2 (lt_sub lt_of4)).trans y4 (lt_sub lt_ofX)
end
end
section
theorem LawAt.iter {w:World} {s s':Shared} {G:Gh} {own:Nat→Nat} {ps:List (Str×Str)} {I:Nat} (x:LawAt w G own ps s) (hI:∀ a∈mv G ++ pr G,a≠I) (ho:∃ o,s.heap.get? I=some o∧NotTup o) (y:Step w [I] s s'):LawAt w G own ps s':=by
 refine exE2 x.row fun vs n hh=>anE2 hh fun hX hP=>?_;clear hh
 have hv:∀ v∈vs,v≠.ref I:=by
  intro v hv e
  obtain ⟨i,hi,hi'⟩:=List.getElem_of_mem hv
  obtain ⟨p,-,a,ta,tb,hva,ha⟩:=pieces_ix hP i v (by rw [List.getElem?_eq_getElem hi,hi'])
  rw [e] at hva
  have e2:a=I:=by cases hva;rfl
  obtain ⟨o,h1,h2⟩:=ho
  have h3:=ha.1
  rw [e2,h1] at h3
  exact h2 _ (Option.some.inj h3)
 exact (x.other hX hP y hI hv).1
section
variable {w:World} {A:Around} {E:VP} {s s':Shared} {G:Gh} {T:List Addr} {m:Str→Option Value}
structure TnJ (w:World) (G:Gh) (s₀:Shared) (i:Nat) (s:Shared):Prop where
 st:Step w (LT G) s₀ s
 ex:∃ own m',PTn G own i∧LawAt w G own (rowP own) s∧s.heap.Ns G.L m'∧FrAt G m'
theorem tag_start (k:Nat):(tagL (fun _=>0) k).length=if k=0 then 7 else 0:=by
 unfold tagL
 by_cases h:k=0
 · subst h;rfl
 · rw [if_neg h,List.length_eq_zero_iff,List.filter_eq_nil_iff]
   intro c _
   simp;exact fun e=>h e.symm
theorem pTn_start (g:GhOk G):PTn G (fun _=>0) 0:=⟨fun _=>Nat.zero_le _,tag_start 0,tag_start 1,tag_start 2,fun _=>even_start g.sum,fun h=>by omega⟩
theorem loop_all (l:Lvl A 600) {Q:Flow→Shared→Prop} (g:GhOk G) (A0:LawAt w G (fun _=>0) (rowP fun _=>0) s) (hn:s.heap.Ns G.L m) (f:FrAt G m)
 (k:∀ s' own m',Step w (LT G) s s'→PTn G own 7→LawAt w G own (rowP own) s'→s'.heap.Ns G.L m'→FrAt G m'→wpAny (model prog w) A (execs (lawBody.drop 11) (lawEnv G.L)) Q E s') :
 wpAny (model prog w) A (execs (lawBody.drop 10) (lawEnv G.L)) Q E s:=by
 show wpAny _ _ (execs (_ :: lawBody.drop 11) _) _ _ _
 have hL:=g.hL
 have I:=A0.st.inv
 refine wpAny_execs_cons (for_M l.handled ?_)
 refine wpAny_Call_NameR (name_builtin (v:=.type "range") I rfl rfl rfl rfl (by k_is) (by decide) (by rfl) (by decide) ?_)
 refine PySem.callWith_type rfl (evalArgs_plain (spliced_cons (wpAny_Constant_int (k:=0) (pos:=p0) (spliced_nil ?_))))
 refine range_S (s:={ s with toks:=s.toks+1 }) (n:=7) I fun r t1 u1 v1 s1 y1 hr=>?_
 have y01:Step w [] s s1:=((Step.refl I).toks _).trans y1 fun a h=>.inl h
 have hn1:=hn.at' fun o e=>y01.keep _ o e nM
 have A1:=A0.quiet g hn y01 noneL
 have ex1:=A1.ex hn1
 have hI:∀ a∈mv G ++ pr G,a≠s1.heap.objs.size:=fun a ha e=>by
  obtain ⟨o,e2⟩:=ex1 a ha
  exact Nat.lt_irrefl _ (e▸Heap.lt_size e2)
 have ltT:∀ a∈LT G,a < s1.heap.objs.size:=fun a ha=>by
  rcases List.mem_append.mp ha with h | h
  · obtain ⟨o,e⟩:=ex1 a (List.mem_append_left _ h)
    exact Heap.lt_size e
  · exact Nat.lt_of_lt_of_le (tb250 a h) y1.inv.size
 have f1:s.heap.get? s1.heap.objs.size=none:=y01.freshTop fun a h=>nN h
 have nLI:G.L∉[s1.heap.objs.size]:=fun hm=>hI G.L (List.mem_append_left _ (.head _)) (mS hm)
 refine exI4 (LT G) 7 (fun i v=>∃ t,v=.int i t) (fun i s'=>TnJ w G s i s') (anI8 y1.inv (src3_range hr (by decide)) ltT (fun i s j=>j.st.inv) (fun s' y=>?_) (fun i s4 s' j hIo y=>?_) ?_ ?_)
 · have y02:=y01.trans y fun a h=>.inl h
   exact ⟨y02.wide fun a h=>nN h,_,m,pTn_start g,A0.quiet g hn y02 noneL,hn.at' fun o e=>y02.keep _ o e nM,f⟩
 · refine exE2 j.ex fun own m' hh=>anE4 hh fun h1 h2 h3 h4=>?_;clear hh
   exact ⟨j.st.trans y fun a h=>.inr (by rw [mS h];exact f1),own,m',h1,h2.iter hI ⟨_,hIo.choose_spec.1,hIo.choose_spec.2.2⟩ y,h3.at' fun o e=>y.keep _ o e nLI,h4⟩
 · intro i v s4 hi hP j
   obtain ⟨ti,rfl⟩:=hP
   refine exE2 j.ex fun own m4 hh=>anE4 hh fun p4 A4 hn4 f4=>?_;clear hh
   refine assign_S j.st.inv hL hn4 rfl rfl fun s5 y5 hn5=>?_
   have A5:=A4.quiet g hn4 y5 oneL
   refine exE2 f4.choice fun c t hh=>anE2 hh fun hc hc'=>?_;clear hh
   have f5:FrAt G (upd m4 "turn" (.int i ti)):=⟨(upd_ne _ _ (by decide)).trans f4.hu,(upd_ne _ _ (by decide)).trans f4.names,(upd_ne _ _ (by decide)).trans f4.worths,(upd_ne _ _ (by decide)).trans f4.row,c,t,(upd_ne _ _ (by decide)).trans hc,hc'⟩
   show wpAny _ _ (execs turnBody (lawEnv G.L)) _ _ _
   refine turn_all l g p4 (by omega) A5 hn5 f5 (upd_self _ _ _) fun s6 own' m6 y6 p6 A6 hn6 f6=>?_
   have y46:Step w (LT G) s4 s6:=(y5.wide (lt_sub (lt_quiet oneL))).trans y6 (lt_sub fun a h=>h)
   exact ⟨⟨j.st.trans y46 (lt_sub fun a h=>h),own',m6,p6,A6,hn6,f6⟩,y46⟩
 · intro s4 j
   refine exE2 j.ex fun own m4 hh=>anE4 hh fun p4 A4 hn4 f4=>?_;clear hh
   exact k s4 own m4 j.st p4 A4 hn4 f4
end
end
section
section
variable {w:World} {A:Around} {E:VP} {s s':Shared} {G:Gh} {own:Nat→Nat} {T:List Addr} {m:Str→Option Value}
theorem rest_S (l:Lvl A 600) {L BD nb k:Nat} {vb:List Value} {e2:PySem.Expr} {p1 p2 p3 p4 p5 p6 p7:Pos} {wv:Value} {Q:VP} (I:Inv w s.heap) (hn:s.heap.Ns L m) (mb:m "board"=some (.ref BD)) (hBD:At s.heap BD (listOf vb.toArray nb)) (hvb:StrsAre vb (boardT own ++ [("? ^":Str)])) (hown:∀ i,own i≤2) (hk:k=1∨k=2)
 (hst:starEach [.Name "board" p1,e2] (lawEnv L)=[(false,eval (.Name "board" p1) (lawEnv L)),(false,eval e2 (lawEnv L))])
 (h2:∀ Q':VP,(∀ j,Q' wv { s with toks:=j })→wpAny (model prog w) A (eval e2 (lawEnv L)) Q' E s) (hwv:IntOf w wv (k:Int)) (hlk:lookup (.int (k:Int)) dD=some (.str (tagOf k)))
 (kk:∀ x us s',Step w [] s s'→EntryAt s'.heap x us [] .none .none→StrsAre us ((sideL own k).map letter)→Q (.ref x) s') :
 wpAny (model prog w) A (eval (.Call (.Name "_law_record" p2) [.Call (.Name "list" p3) [.Call (.Name "restore" p4) [.Name "board" p1,e2] [] p5] [] p6] [] p7) (lawEnv L)) Q E s:=by
 refine wpAny_Call_NameR (name_global (v:=.ref 218) I rfl rfl rfl (by k_is) (by decide) ?_)
 refine fn_S (by k_is) rfl (spliced_cons ?_)
 refine wpAny_Call_NameR (name_builtin (v:=.type "list") I rfl rfl rfl rfl (by k_is) (by decide) (by rfl) (by decide) ?_)
 refine PySem.callWith_type rfl (evalArgs_plain (spliced_cons ?_))
 refine wpAny_Call_NameR (name_global (v:=.ref 120) I rfl rfl rfl (by k_is) (by decide) ?_)
 rw [hst]
 refine fn_S (by k_is) rfl (spliced_cons (law_loc hn rfl mb (by decide) (spliced_cons (h2 _ fun j=>spliced_nil ⟨I,?_⟩))))
 refine restore_new (s:={ s with toks:=j }) (l.up (by decide)) I fun a C s1 y1 fC lC fa RG=>?_
 have y01:Step w [] s s1:=((Step.refl I).toks j).trans y1 fun a h=>.inl h
 have hBD1:=hBD.keep y01 nM
 have fC0:s.heap.get? C=none:=fC
 have hbl:(boardT own ++ [("? ^":Str)]).length≤sizeLine:=by
  rw [sizeLine_eq,List.length_append,boardT,List.length_map,List.length_range];exact Nat.le_of_ble_eq_true rfl
 refine spliced_nil (restore_list (l.up (by decide)) y1.inv RG (I.above fC0) (vs:=vb.toArray) hBD1.1 hvb (board_len own) hbl hwv hlk (lC _ _ hBD.1) fun D ys n s2 y2 hD fD hys=>?_)
 rw [restored_board hown hk] at hys
 have y02:Step w [] s s2:=y01.trans y2 fun a h=>.inr (by rw [mS h];exact fC0)
 have hD':At s2.heap D (listOf ys.toList.toArray n):=hD
 refine spliced_nil ⟨y2.inv,?_⟩
 refine record_list (l.up (by decide)) y2.inv hD' ?hz fun x s3 y3 hx fx=>?_
 case hz =>
  rw [StrsAre.len_eq hys,List.length_map,sizeLine_eq]
  exact Nat.le_trans (sideL_len own k) (by decide)
 exact kk x _ s3 (y02.trans y3 fun a h=>.inl h) hx hys
theorem fin_a (l:Lvl A 600) {Q:Flow→Shared→Prop} (g:GhOk G) (A0:LawAt w G own (rowP own) s) (hn:s.heap.Ns G.L m) (hu:m sUA=none) (hown:∀ i,own i≤2)
 (k:∀ s' BD MI YO um uy,Step w [G.L,G.L+1+1+1+1] s s'→LawAt w G own (rowP own) s'→s'.heap.Ns G.L (upd (upd m "board" (.ref BD)) "mine" (.ref MI))→s'.heap.IsCell (G.L+1+1+1+1) (some (.ref YO))→EntryAt s'.heap MI um [] .none .none→EntryAt s'.heap YO uy [] .none .none→StrsAre um ((sideL own 1).map letter)→StrsAre uy ((sideL own 2).map letter)→wpAny (model prog w) A (execs (lawBody.drop 14) (lawEnv G.L)) Q E s') :
 wpAny (model prog w) A (execs (lawBody.drop 11) (lawEnv G.L)) Q E s:=by
 show wpAny _ _ (execs (_ :: _ :: _ :: lawBody.drop 14) _) _ _ _
 have hL:=g.hL
 refine wpAny_execs_cons (asg_S rfl hL rfl rfl ?_)
 rw [arm_eval_BinOp]
 refine wpAny_bind (board_comp l g A0 ?b1 ?b2 ?b3 ?b4 ?b5 ?b6 fun D n ys s1 y1 fD hD hys=>?_)
 case b1=>rfl
 case b2=>decide
 case b3=>rfl
 case b4=>decide
 case b5=>rfl
 case b6=>rfl
 refine wpAny_bind (wpAny_holding (list_S (spliced_cons (Constant_str (k:=0) (pos:=p0) (spliced_nil ⟨Nat.le_of_ble_eq_true rfl,y1.inv,fun D2 s2 y2 fD2 hD2=>?_⟩)))))
 have y12:Step w [] s1 s2:=((Step.refl y1.inv).toks _).trans y2 fun a h=>.inl h
 have y02:Step w [] s s2:=y1.trans y12 fun a h=>.inl h
 have hn2:=hn.at' fun o e=>y02.keep _ o e nM
 have hyl:ys.length=7:=by rw [StrsAre.len_eq hys];simp [boardT]
 refine wpAny_bind (wpAny_standAt (wpAny_operating (add_S y2.inv hL hn2 (y12.keep _ _ hD.1 nM) hD2.1 (by rw [hyl];exact Nat.le_of_ble_eq_true rfl) fun BD s3 y3 hn3 fBD hBD=>?_)))
 have A3:=(A0.quiet g hn y02 noneL).quiet g hn2 y3 oneL
 refine ⟨y3.inv,m,hn3,fun s4 y4 hn4=>?_⟩
 have A4:=A3.quiet g hn3 y4 oneL
 have hBD4:=at_keepL hn3 hBD y4 oneL list_nd
 have y04:Step w [G.L] s s4:=((y02.wide fun a h=>nN h).trans y3 fun a h=>.inl h).trans y4 fun a h=>.inl h
 have hbs:StrsAre (ys ++ [.str "? ^" s1.toks]) (boardT own ++ [("? ^":Str)]):=strsApp hys (.cons _ _ .nil)
 have mb4:upd m "board" (.ref BD) "board"=some (.ref BD):=upd_self _ _ _
 have hu4:upd m "board" (.ref BD) sUA=none:=(upd_ne _ _ (by decide)).trans hu
 refine wpAny_execs_cons (asg_S rfl hL rfl rfl ?_)
 refine rest_S (k:=1) (wv:=.str "1" s4.toks) l A4.st.inv hn4 mb4 hBD4 hbs hown (.inl rfl) rfl (fun Q' q=>Constant_str (k:=0) (pos:=p0) (q _)) int_of_1 look1 fun MI um s5 y5 hMI hum=>?_
 have hn5:=hn4.at' fun o e=>y5.keep _ o e nM
 refine ⟨y5.inv,_,hn5,fun s6 y6 hn6=>?_⟩
 have y46:Step w [G.L] s4 s6:=(y5.wide fun a h=>nN h).trans y6 fun a h=>.inl h
 have A6:=A4.quiet g hn4 y46 oneL
 have hBD6:=at_keepL hn4 hBD4 y46 oneL list_nd
 have hMI6:=entry_keepL hn5 hu4 hMI y6 oneL
 have mb6:upd (upd m "board" (.ref BD)) "mine" (.ref MI) "board"=some (.ref BD):=(upd_ne _ _ (by decide)).trans mb4
 have hu6:upd (upd m "board" (.ref BD)) "mine" (.ref MI) sUA=none:=(upd_ne _ _ (by decide)).trans hu4
 refine wpAny_execs_cons (casg_S rfl rfl (cells_law G.L).2.2.2.1 (Nat.le_trans hL (Nat.le_add_right _ 4)) ?_)
 refine rest_S (k:=2) (wv:=.int 2 s6.toks) l A6.st.inv hn6 mb6 hBD6 hbs hown (.inr rfl) rfl (fun Q' q=>wpAny_Constant_int (k:=0) (pos:=p0) (q _)) int_of_int look2 fun YO uy s7 y7 hYO huy=>?_
 have hn7:=hn6.at' fun o e=>y7.keep _ o e nM
 have A7:=A6.quiet g hn6 y7 noneL
 obtain ⟨v4,c47⟩:=A7.c4
 refine ⟨y7.inv,⟨_,c47⟩,fun s8 y8 d8=>?_⟩
 have A8:=A7.cellset g (.head _) c47 y8 d8
 have hn8:=ns_keepC c47 hn7 y8
 refine k s8 BD MI YO um uy ?_ A8 hn8 d8 (entry_keepC c47 (hMI6.step y7) y8) (entry_keepC c47 hYO y8) hum huy
 have mL:∀ {s1:Shared},∀ a∈[G.L],a∈[G.L,G.L+1+1+1+1]∨s1.heap.get? a=none:=fun a ha=>.inl (by rw [mS ha];exact .head _)
 exact (((y04.wide mL).trans y46 mL).trans y7 fun a h=>nN h).trans y8 fun a ha=>.inl (by rw [mS ha];exact .tail _ (.head _))
end
end
section
theorem row_nil {own:Nat→Nat} (h:(tagL own 0).length=0):tagL own 0=[]∧rowP own=[]:=by
 have e:=List.length_eq_zero_iff.mp h
 refine ⟨e,?_⟩
 show (tagL own 0).map _=[]
 rw [e];rfl
theorem any_taken {own:Nat→Nat} {x:List Nat} (h:∀ c∈x,c < 7) (ht:taken own x=true):(sideL own 2).any (fun c=>x.contains c)=true:=by
 unfold taken at ht
 obtain ⟨c,hc,e⟩:=List.any_eq_true.mp ht
 refine List.any_eq_true.mpr ⟨c,List.mem_filter.mpr ⟨List.mem_range.mpr (h c hc),by rw [e,Bool.or_true]⟩,?_⟩
 exact List.contains_iff_mem.mpr hc
section
variable {w:World} {A:Around} {E:VP} {s s':Shared} {G:Gh} {own:Nat→Nat} {T:List Addr} {m:Str→Option Value}
theorem fin_b (l:Lvl A 600) {MI YO:Nat} {um uy:List Value} {Q:Flow→Shared→Prop} (g:GhOk G) (A0:LawAt w G own (rowP own) s) (hn:s.heap.Ns G.L m) (hu:m sUA=none) (h0:(tagL own 0).length=0) (mr:m "row"=some (.ref G.X)) (mm:m "mine"=some (.ref MI)) (d4:s.heap.IsCell (G.L+1+1+1+1) (some (.ref YO))) (eM:EntryAt s.heap MI um [] .none .none) (eY:EntryAt s.heap YO uy [] .none .none) (hum:StrsAre um ((sideL own 1).map letter)) (huy:StrsAre uy ((sideL own 2).map letter))
 (k:∀ s',Step w [169] s s'→wpAny (model prog w) A (execs (lawBody.drop 15) (lawEnv G.L)) Q E s') :
 wpAny (model prog w) A (execs (lawBody.drop 14) (lawEnv G.L)) Q E s:=by
 show wpAny _ _ (execs (_ :: lawBody.drop 15) _) _ _ _
 have hL:=g.hL
 obtain ⟨ht0,hr0⟩:=row_nil h0
 have I:=A0.st.inv
 refine exE2 A0.row fun vs n hh=>anE2 hh fun hX hP=>?_;clear hh
 rw [hr0] at hP
 have e0:vs=[]:=List.length_eq_zero_iff.mp hP.len
 subst e0
 refine wpAny_execs_cons (wpAny_If (isTrue_or (wpAny_isTrue_Compare1 ?_)))
 refine meth_call ?gb ?gf ?gl ?gr
 case gb=>exact base_name _ _ _ _ _
 case gf=>rfl
 case gl=>rfl
 refine law_loc hn rfl mr (by decide) fun pl=>?_
 refine row_meth (f:=160) I hX A0.st.ad (by k_is) (by k_is) (by rfl) ?_
 refine meth0_S I (by k_is) rfl ?_
 refine pop_empty (l.up (by decide)) I hX A0.st.ad fun p ta tb s1 y1 hp fp=>?_
 have hn1:=hn.at' fun o e=>y1.keep _ o e nM
 have A1:=A0.quiet g hn y1 noneL
 refine tuple_S (k:=0) (spliced_cons (Constant_str (k:=0) (pos:=p0) (spliced_cons (Constant_str (k:=0) (pos:=p0) (spliced_nil ⟨(by decide:(2:Nat)≤1000),y1.inv,fun D s2 y2 fD hD=>?_⟩)))))
 have y12:Step w [] s1 s2:=((Step.refl y1.inv).toks _).trans y2 fun a h=>.inl h
 have sh:=pair_shaped (a:=("":Str)) (b:=("":Str)) (by decide +kernel) (by decide +kernel)
 refine ne_tups (hp.keep y12 nM).1 hD.1 pair_carried pair_carried sh sh (units64 l) ?_
 rw [pair_eqv]
 refine wpAny_truthy_bool ?_
 first | with_reducible refine iN (by decide) ?_ | rw [if_neg (by decide)]
 have y02:Step w [] s s2:=y1.trans y12 fun a h=>.inl h
 have hn2:=hn.at' fun o e=>y02.keep _ o e nM
 have A2:=A0.quiet g hn y02 noneL
 have hX2:=hX.keep y02 nM
 refine isTrue_or (wpAny_isTrue_Compare1 ?_)
 refine wpAny_Call_NameR (name_builtin (v:=.type "str") A2.st.inv rfl rfl rfl rfl (by k_is) (by decide) (by rfl) (by decide) ?_)
 refine PySem.callWith_type rfl (evalArgs_plain (spliced_cons (law_loc hn2 rfl mr (by decide) (spliced_nil ?_))))
 refine row_str (ps:=[]) (n:=n) (nd:=G.nd) (h1:=G.h1) (t1:=G.t1) (t2:=G.t2) l A2.st.inv hX2 A2.st.ad .nil (fun _ h=>nN h) (Nat.zero_le _) fun t3 s3 y3=>?_
 have et:rowText []="":=by decide +kernel
 rw [et]
 refine Constant_str (k:=0) (pos:=p0) (P.ne_str ?_)
 rw [bne_self_eq_false]
 refine wpAny_truthy_bool ?_
 first | with_reducible refine iN (by decide) ?_ | rw [if_neg (by decide)]
 have t169:∀ b∈[(169:Nat)],b=G.L∨b∈TB:=fun b hb=>.inr (by rw [mS hb];decide)
 have t169':∀ b∈[(169:Nat)],b∈TB:=fun b hb=>by rw [mS hb];decide
 have y03:Step w [169] s s3:=(y02.wide fun a h=>nN h).trans y3 fun a h=>.inl h
 have hn3:=ns_keepT hL hn y03 t169'
 have eM3:=entry_keepL hn hu eM y03 t169
 have eY3:=entry_keepL hn hu eY y03 t169
 have d43:=cell_keepL hL (by omega) d4 y03 t169
 have I3:=y3.inv
 have yT:∀ j,Step w [] s3 { s3 with toks:=j }:=fun j=>(Step.refl I3).toks j
 refine isTrue_or (wpAny_isTrue_Compare1 ?_)
 refine attr_C (base_call _ _ _ _ _ _ _ _) ?_
 refine wpAny_Call_NameR (name_global (s:={ s3 with toks:=s3.toks+1 }) (v:=.ref 70) I3 rfl rfl rfl (by k_is) (by decide) ?_)
 refine fn_S (by k_is) rfl (spliced_cons (law_loc (s:={ s3 with toks:=s3.toks+1 }) hn3 rfl mm (by decide) (spliced_cons (law_cell (s:={ s3 with toks:=s3.toks+1 }) rfl (cells_law G.L).2.2.2.1 d43 (by decide) (spliced_nil ⟨I3,?_⟩)))))
 have lum:um.length≤7:=by rw [StrsAre.len_eq hum,List.length_map];exact sideL_len own 1
 refine merge_spec (s:={ s3 with toks:=s3.toks+1 }) (l.up (by decide)) I3 MI YO um uy [] [] .none .none .none .none eM3 eY3 (.inl ⟨rfl,rfl⟩) (.inl ⟨rfl,rfl⟩) _ huy (sc_side own 2) (strs_val hum) (by rw [sizeLine_eq];omega) (by rw [sizeLine_eq];exact Nat.le_of_ble_eq_true rfl) fun M s4 y4 hM fM=>?_
 refine ent_ua y4.inv hM fun ua na ka hua=>?_
 have hus:=strs_filter (ys:=(sideL own 2).map letter) hum
 rw [filter_map_letter,both_free (.inl ⟨rfl,rfl⟩),ht0,List.map_nil] at hus
 refine list_S (spliced_nil ⟨Nat.zero_le _,y4.inv,fun D5 s5 y5 fD5 hD5=>?_⟩)
 have y45:Step w [] s4 s5:=((Step.refl y4.inv).toks ka).trans y5 fun a h=>.inl h
 refine ne_strs (hua.keep y45 nM).1 hD5.1 hus .nil rfl rfl (units64 l) ?_
 rw [decide_eq_true rfl]
 refine wpAny_truthy_bool ?_
 first | with_reducible refine iN (by decide) ?_ | rw [if_neg (by decide)]
 refine isTrue_or_nil ?_
 first | with_reducible refine iN (by decide) ?_ | rw [if_neg (by decide)]
 exact wpAny_execs_nil (k s5 (((y03.trans (yT (s3.toks+1)) fun a h=>nN h).trans y4 fun a h=>nN h).trans y45 fun a h=>nN h))
theorem fin_c (l:Lvl A 600) {YO:Nat} {uy:List Value} {Q:Flow→Shared→Prop} (g:GhOk G) (A0:LawAt w G own (rowP own) s) (hn:s.heap.Ns G.L m) (mN:m "names"=some (.ref G.NM)) (d4:s.heap.IsCell (G.L+1+1+1+1) (some (.ref YO))) (eY:EntryAt s.heap YO uy [] .none .none) (huy:StrsAre uy ((sideL own 2).map letter)) (hall:∀ x∈G.ns,taken own x=true)
 (k:∀ s',Step w [] s s'→Q (.ret (.bool true)) s') :
 wpAny (model prog w) A (execs (lawBody.drop 15) (lawEnv G.L)) Q E s:=by
 show wpAny _ _ (execs (_ :: []) _) _ _ _
 have hL:=g.hL
 have I:=A0.st.inv
 have hlen:G.us.length=G.ns.length:=by rw [StrsAre.len_eq g.us,List.length_map]
 have hns:=g.len
 refine wpAny_execs_cons (wpAny_Return_some (wpAny_Compare1 ?_))
 refine comp_S (T:=[]) (cl:=[(Str.ofString "yours",G.L+1+1+1+1),(Str.ofString "cells",G.L+1)]) l.handled (by rfl) (by decide) (by rfl) (by decide) (by rfl) (fun _ h=>nN h) (law_loc hn rfl mN (by decide) ?_)
 refine exI4 G.us.length (fun i v=>G.us[i]? = some v) (fun _=>false) (fun i y=>∃ t,y=.str "" t) (anI5 I (by rw [sizeLine_eq];omega) (src_list (fun _ h=>nN h) A0.st.nm) (fun tk=>⟨?_,fun _ _ _ _ _ _ _ h=>by cases h⟩) (fun D n ys s1 y1 fD hD M=>?_))
 · intro C i v s3 m3 hi hP S3 fC hC hn3 hm3
   obtain ⟨hin,t,rfl⟩:=strs_get g.us i v hP
   have hx:=g.ok _ (List.getElem_mem hin)
   have hx7:=hx.2.1
   have S3':Step w [] s s3:=((Step.refl I).toks tk).trans S3 fun a ha=>.inl ha
   have hx1:=ownName_of (w:=w) (s:=s) (V:=.str "abcdefg" G.tc) (env:=lawEnv G.L) (scope:=⟨.function,[(".0",.local),("name",.local),("cells",.free),("yours",.free)],false,false,[]⟩) (cl:=[(Str.ofString "yours",G.L+1+1+1+1),(Str.ofString "cells",G.L+1)]) (x:="cells") (by decide) rfl rfl rfl A0.st.cc
   have hx2:=ownName_of (w:=w) (s:=s) (V:=.ref YO) (env:=lawEnv G.L) (scope:=⟨.function,[(".0",.local),("name",.local),("cells",.free),("yours",.free)],false,false,[]⟩) (cl:=[(Str.ofString "yours",G.L+1+1+1+1),(Str.ofString "cells",G.L+1)]) (x:="yours") (by decide) rfl rfl rfl d4
   have eY3:=eY.step S3'
   have I3:=S3.inv
   have hb7:(bstr G.ns[i]).length≤7:=by
    have h1:(bstr G.ns[i]).length=G.ns[i].length:=by show (bstr G.ns[i]).cps.size=_;unfold bstr;simp
    have:=(name_len hx).1
    omega
   refine wpAny_tests_one (wpAny_isTrue_Compare1 ?_)
   refine meth_call ?gb ?gf ?gl ?gr
   case gb=>exact base_name _ _ _ _ _
   case gf=>rfl
   case gl=>rfl
   refine hx2 _ _ _ _ _ _ S3' fun pl=>ent_applies I3 eY3 ?_
   refine meth_S (by k_is) rfl (spliced_cons (ask_S (x:=bstr G.ns[i]) (tc:=G.tc) hb7 (fun Q' q=>?_) (fun j Q' q=>hx1 _ _ _ _ _ _ (S3'.toks j) q) fun k1 t1=>spliced_nil ⟨I3,?_⟩))
   · refine meth_call ?hb ?hf ?hl ?hr
     case hb=>exact base_name _ _ _ _ _
     case hf=>rfl
     case hl=>rfl
     refine wpAny_Name (wpAny_loadName_local rfl rfl hn3 hm3 fun pl=>?_) (by decide)
     exact GM.upper (up_name hx fun t' k'=>q k' t')
   obtain ⟨pr,hsp⟩:=split_ask (x:=bstr G.ns[i]) no47b
   have a1:("*":Str).length=1:=by decide
   have e1:(bstr G.ns[i] ++ ("*":Str)).length=(bstr G.ns[i]).length+("*":Str).length:=PySem.Str.length_append _ _
   refine applies_str (s:={ s3 with toks:=k1 }) (l.up (by decide)) I3 eY3 huy hsp ?z1 ?z2 ?z3 fun b s4 hb y4=>?_
   case z1=>have:=(ask_len hb7).2.2;rw [sizeLine_eq];omega
   case z2=>omega
   case z3 =>
    intro y hy
    obtain ⟨c,_,rfl⟩:=List.mem_map.mp hy
    show (1:Nat)≤_;decide
   rw [hits_end hx7 sideL_lt,any_taken hx7 (hall _ (List.getElem_mem hin))] at hb
   subst hb
   have y34:Step w [] s3 s4:=((Step.refl I3).toks k1).trans y4 fun a h=>.inl h
   refine wpAny_Constant_bool (k:=0) (pos:=p0) (isnot_bool ?_)
   exact wpAny_truthy_bool ⟨rfl,y34.wide fun _ h=>nN h,m3,hn3.at' fun o e=>y34.keep _ o e nM,hm3⟩
 · have h1:=M.strs (g:=fun _=>("":Str)) (fun i y h=>h)
   rw [show (List.range G.us.length).filter (fun _=>false)=[] from List.filter_eq_nil_iff.mpr fun _ _ h=>(by cases h),List.map_nil] at h1
   refine list_S (spliced_nil ⟨Nat.zero_le _,y1.inv,fun D2 s2 y2 fD2 hD2=>?_⟩)
   refine eq_strs (hD.keep y2 nM).1 hD2.1 h1 .nil rfl rfl (units64 l) ?_
   rw [decide_eq_true rfl]
   exact k s2 (y1.trans y2 fun a h=>.inl h)
end
end
section
theorem ns_few:∀ {ns:List (List Nat)},ns.length≤(ns.map fun x=>2 ^ (4 - x.length)).sum
 | []=>Nat.le_refl _
 | x :: r=>by
   rw [List.length_cons,List.map_cons,List.sum_cons]
   have:=ns_few (ns:=r)
   have:=Nat.two_pow_pos (4 - x.length)
   omega
section
variable {w:World} {A:Around} {E:VP} {s s':Shared} {T:List Addr} {m:Str→Option Value}
theorem law_body (l:Lvl A 600) {L SC nS tk:Nat} {vs:List Value} {ks:List Int} {s₁:Shared} {v1 v2 v3 v4 v5 v6:Option Value} {Q:Flow→Shared→Prop} (I:Inv w s₁.heap) (S₀:Step w TB s s₁) (fL:s.heap.get? L=none) (hL:250≤L) (hn:s₁.heap.Ns L m) (hm:m "script"=some (.ref SC)) (hu:m sUA=none) (hS:s₁.heap.get? SC=some (listOf vs.toArray nS)) (hI:IntsAre vs ks) (hz:vs.length≤63)
 (c1:s₁.heap.IsCell (L+1) v1) (c2:s₁.heap.IsCell (L+1+1) v2) (c3:s₁.heap.IsCell (L+1+1+1) v3) (c4:s₁.heap.IsCell (L+1+1+1+1) v4) (c5:s₁.heap.IsCell (L+1+1+1+1+1) v5) (c6:s₁.heap.IsCell (L+1+1+1+1+1+1) v6)
 (fc:∀ a∈[L+1,L+1+1,L+1+1+1,L+1+1+1+1,L+1+1+1+1+1,L+1+1+1+1+1+1],s.heap.get? a=none)
 (k:∀ s',Step w TB s s'→Q (.ret (.bool true)) s'):wpAny (model prog w) A (execs lawBody (lawEnv L)) Q E s₁:=by
 have one:∀ {b:Nat},b=L→s.heap.get? b=none:=fun e=>e▸fL
 have inL:∀ a∈[L],a∈TB∨s.heap.get? a=none:=fun a ha=>.inr (by rw [mS ha];exact fL)
 have nl:∀ {j:Nat},j≠0→(L+j:Nat)∉[L]:=fun hj hm=>hj (by have:=mS hm;omega)
 refine heaps_blk l.handled I hL hn hm hS hI hz fun s2 m2 H n a b ta tb y2 hn2 hu2 mH2 fH hH=>?_
 have Z2:=S₀.trans y2 inL
 have c12:=cell_keep c1 y2 (nl (j:=1) (by decide))
 have c22:=cell_keep c2 y2 (nl (j:=2) (by decide))
 have c32:=cell_keep c3 y2 (nl (j:=3) (by decide))
 have c42:=cell_keep c4 y2 (nl (j:=4) (by decide))
 have c52:=cell_keep c5 y2 (nl (j:=5) (by decide))
 have c62:=cell_keep c6 y2 (nl (j:=6) (by decide))
 refine setup1 l y2.inv hL hn2 mH2 hH c12 c22 fun s3 m3 NM us nu ns bits choice tc tb' tch y3 hn3 hu3 mN3 mC3 hc105 d1 d2 fNM hNM hus hok hsum hb4 hb12=>?_
 have Z3:=Z2.trans y3 fun a ha=>.inr (by
  rcases mC ha with rfl | ha
  · exact fL
  · rcases mC ha with rfl | ha
    · exact fc _ (.head _)
    · rw [mS ha];exact fc _ (.tail _ (.head _)))
 have nl3:∀ {j:Nat},3≤j→(L+j:Nat)∉[L,L+1,L+1+1]:=fun hj hm=>by
  rcases mC hm with h | hm
  · omega
  · rcases mC hm with h | hm
    · omega
    · have:=mS hm;omega
 have c33:=cell_keep c32 y3 (nl3 (j:=3) (by decide))
 have c43:=cell_keep c42 y3 (nl3 (j:=4) (by decide))
 have c53:=cell_keep c52 y3 (nl3 (j:=5) (by decide))
 have c63:=cell_keep c62 y3 (nl3 (j:=6) (by decide))
 have hlen:ns.length≤7:=Nat.le_trans ns_few hsum
 refine worths_blk l y3.inv hL hn3 mN3 hNM hus hok hlen d1 d2 hb12 fun s4 WO ws nw y4 hn4 fWO hWO hws=>?_
 have Z4:=Z3.trans y4 inL
 have d14:=cell_keep d1 y4 (nl (j:=1) (by decide))
 have d24:=cell_keep d2 y4 (nl (j:=2) (by decide))
 have c34:=cell_keep c33 y4 (nl (j:=3) (by decide))
 have c44:=cell_keep c43 y4 (nl (j:=4) (by decide))
 have c54:=cell_keep c53 y4 (nl (j:=5) (by decide))
 have c64:=cell_keep c63 y4 (nl (j:=6) (by decide))
 have hNM4:=at_keepL hn3 hNM y4 oneL list_nd
 have mN4:upd m3 "worths" (.ref WO) "names"=some (.ref NM):=(upd_ne _ _ (by decide)).trans mN3
 have mC4:upd m3 "worths" (.ref WO) "choice"=some (.int choice tch):=(upd_ne _ _ (by decide)).trans mC3
 have hu4:upd m3 "worths" (.ref WO) sUA=none:=(upd_ne _ _ (by decide)).trans (hu3.trans (hu2.trans hu))
 refine setup2 l y4.inv hL hn4 mN4 (upd_self _ _ _) mC4 hNM4 hWO hus hws hok hsum hlen d14 d24 c34 c44 c54 c64 hb4 hb12 fun G s5 m5 g eL ens ebits fX fO A5 hn5 hu5 mN5 mW5 mR5 mC5 y5=>?_
 have hT:∀ {a:Nat},s4.heap.get? a=none→s.heap.get? a=none:=fun {a} f=>Z4.was f fun hm=>absurd (y4.inv.above f) (Nat.not_le.mpr (tb250 a hm))
 have Z5:=Z4.trans y5 fun a ha=>.inr (by
  rcases mC ha with rfl | ha
  · exact fL
  · rw [mS ha];exact fc _ (.tail _ (.tail _ (.head _))))
 have fXs:=hT fX
 have fOs:=hT fO
 subst eL
 refine loop_all l g A5 hn5 ⟨hu5.trans hu4,mN5,mW5,mR5,choice,tch,mC5,hc105⟩ fun s6 own m6 y6 p6 A6 hn6 f6=>?_
 have Z6:=Z5.trans y6 fun a ha=>by
  rcases List.mem_append.mp ha with h | h
  · right
    rcases mC h with rfl | h
    · exact fL
    · rcases mC h with rfl | h
      · exact fc _ (.tail _ (.tail _ (.tail _ (.head _))))
      · rcases mC h with rfl | h
        · exact fc _ (.tail _ (.tail _ (.tail _ (.tail _ (.head _)))))
        · rcases mC h with rfl | h
          · exact fc _ (.tail _ (.tail _ (.tail _ (.tail _ (.tail _ (.head _))))))
          · rcases mC h with rfl | h
            · exact fXs
            · rw [mS h];exact fOs
  · exact .inl h
 have h0:(tagL own 0).length=0:=p6.fr
 refine fin_a l g A6 hn6 f6.hu p6.own2 fun s7 BD MI YO um uy y7 A7 hn7 d4 eM eY hum huy=>?_
 have Z7:=Z6.trans y7 fun a ha=>.inr (by
  rcases mC ha with rfl | ha
  · exact fL
  · rw [mS ha];exact fc _ (.tail _ (.tail _ (.tail _ (.head _)))))
 have hu7:upd (upd m6 "board" (.ref BD)) "mine" (.ref MI) sUA=none:=(upd_ne _ _ (by decide)).trans ((upd_ne _ _ (by decide)).trans f6.hu)
 have mR7:upd (upd m6 "board" (.ref BD)) "mine" (.ref MI) "row"=some (.ref G.X):=(upd_ne _ _ (by decide)).trans ((upd_ne _ _ (by decide)).trans f6.row)
 have mN7:upd (upd m6 "board" (.ref BD)) "mine" (.ref MI) "names"=some (.ref G.NM):=(upd_ne _ _ (by decide)).trans ((upd_ne _ _ (by decide)).trans f6.names)
 refine fin_b l g A7 hn7 hu7 h0 mR7 (upd_self _ _ _) d4 eM eY hum huy fun s8 y8=>?_
 have t169:∀ b∈[(169:Nat)],b=G.L∨b∈TB:=fun b hb=>.inr (by rw [mS hb];decide)
 have t169':∀ b∈[(169:Nat)],b∈TB:=fun b hb=>by rw [mS hb];decide
 have Z8:=Z7.trans y8 fun a ha=>.inl (t169' a ha)
 have A8:=A7.quiet g hn7 y8 t169
 have hn8:=ns_keepT hL hn7 y8 t169'
 have eY8:=entry_keepL hn7 hu7 eY y8 t169
 have d48:=cell_keepL hL (by omega) d4 y8 t169
 refine fin_c l g A8 hn8 mN7 d48 eY8 huy (end_of g.ok (p6.odd rfl) fun c hc e=>?_) fun s9 y9=>k s9 (Z8.trans y9 fun a h=>nN h)
 have hm:c∈tagL own 0:=List.mem_filter.mpr ⟨List.mem_range.mpr hc,by rw [e];rfl⟩
 rw [List.length_eq_zero_iff.mp h0] at hm
 exact absurd hm nM
theorem law_spec (l:Lvl A 500) (I:Inv w s.heap) {SC nS:Nat} {vs:List Value} {ks:List Int} {Q:VP} (hS:s.heap.get? SC=some (listOf vs.toArray nS)) (hI:IntsAre vs ks) (hz:vs.length≤63) (k:∀ s',Step w TB s s'→Q (.bool true) s'):wpAny (model prog w) A (call (.ref 249) [.ref SC]) Q E s:=by
 refine weaken l fun fr gd=>?_
 refine enterSC (args:=⟨[.ref SC],[]⟩) I (by k_is) (by k_is) (by show (500:Nat) < 1000;decide) (BindsTo.of_eq rfl) (kindsX rfl) (by decide) ?_
 intro L h₁ tk cells S₀ fL hL hnL ltL Y hc
 k_cells Y
 have C1:∃ v,h₁.IsCell (L+1) v:=⟨_,_,(hc _ (.tail _ (.tail _ (.tail _ (.tail _ (.tail _ (.head _))))))).1,by assumption⟩
 have C2:∃ v,h₁.IsCell (L+1+1) v:=⟨_,_,(hc _ (.tail _ (.tail _ (.tail _ (.tail _ (.head _)))))).1,by assumption⟩
 have C3:∃ v,h₁.IsCell (L+1+1+1) v:=⟨_,_,(hc _ (.tail _ (.tail _ (.tail _ (.head _))))).1,by assumption⟩
 have C4:∃ v,h₁.IsCell (L+1+1+1+1) v:=⟨_,_,(hc _ (.tail _ (.tail _ (.head _)))).1,by assumption⟩
 have C5:∃ v,h₁.IsCell (L+1+1+1+1+1) v:=⟨_,_,(hc _ (.tail _ (.head _))).1,by assumption⟩
 have C6:∃ v,h₁.IsCell (L+1+1+1+1+1+1) v:=⟨_,_,(hc _ (.head _)).1,by assumption⟩
 obtain ⟨v1,C1⟩:=C1
 obtain ⟨v2,C2⟩:=C2
 obtain ⟨v3,C3⟩:=C3
 obtain ⟨v4,C4⟩:=C4
 obtain ⟨v5,C5⟩:=C5
 obtain ⟨v6,C6⟩:=C6
 have fc:∀ a∈[L+1,L+1+1,L+1+1+1,L+1+1+1+1,L+1+1+1+1+1,L+1+1+1+1+1+1],s.heap.get? a=none:=by
  exact fm6 (hc _ (.tail _ (.tail _ (.tail _ (.tail _ (.tail _ (.head _))))))).2.2 (hc _ (.tail _ (.tail _ (.tail _ (.tail _ (.head _)))))).2.2 (hc _ (.tail _ (.tail _ (.tail _ (.head _))))).2.2 (hc _ (.tail _ (.tail _ (.head _)))).2.2 (hc _ (.tail _ (.head _))).2.2 (hc _ (.head _)).2.2 (fun _ h=>nN h)
 show wpAny _ _ (execs lawBody (lawEnv L)) _ _ _
 refine law_body (s:=s) (s₁:={ s with heap:=h₁,toks:=tk }) (tk:=0) (lvl_deeper (by decide)) S₀.inv (S₀.wide fun a h=>nN h) fL hL hnL rfl rfl (S₀.keep _ _ hS nM) hI hz C1 C2 C3 C4 C5 C6 fc fun s' y=>?_
 exact k s' y
end
end
section
noncomputable def asK:List Addr:=[2,3,15,17,18,20,21,29,31,32,34,35,36,38,39,41,42,43,45,46,48,49,50,52,53,55,56,57,58,59,60,61,64,66,67,69,70,71,73,74,76,77,78,80,81,83,84,85,87,88,90,91,92,94,95,97,98,99,101,102,104,105,106,107,109,110,112,113,114,116,117,119,120,121,124,129,130,131,133,134,136,137,138,140,141,143,144,145,146,148,149,151,152,153,154,156,157,159,160,161,163,164,166,167,168,170,171,173,174,175,176,178,179,181,182,183,185,186,188,189,190,191,193,194,196,197,198,199,200,201,202,205,207,208,210,211,212,214,215,217,218,219,221,222,224,225,226,228,229,231,232,233,235,236,238,239,240,243,244,245,248,249]
noncomputable def lawHook:Hook where
 α:=(List (Option Obj)×List (Option Obj))×Bool
 obs:=fun s=>((asK.map s.heap.get?,TB.map s.heap.get?),(List.range 250).all fun b=>(s.heap.get? b).isSome)
 val:=fun w=>(((frag.heap_1 w.params).map fun p=>some p.2,TB.map fun _=>some (tabObj #[])),true)
 says:=fun w h=>(InK frag.heap_1 w h∧∀ P∈TB,h.get? P=some (tabObj #[]))∧∀ b,b < 250→∃ o,h.get? b=some o
 of:=fun w s x=>⟨⟨InK.of (fun _=>by kernel_rfl) w s (Prod.mk.inj (Prod.mk.inj x).1).1,List.map_inj_left.mp (Prod.mk.inj (Prod.mk.inj x).1).2⟩,fun b hb=>Option.isSome_iff_exists.mp (List.all_eq_true.mp (Prod.mk.inj x).2 b (List.mem_range.mpr hb))⟩
 keeps:=fun w h h' x k=>⟨⟨InK.keeps w h h' x.1.1 k,fun P hP=>k _ _ (x.1.2 P hP)⟩,fun b hb=>let ⟨o,e⟩:=x.2 b hb;⟨o,k _ _ e⟩⟩
theorem inv_start {w:World} {h:Heap} {p:Program} {loose:List Str} {mean:ExcName→Option Value} {mg mb:Str→Option Value} (Y:lawHook.says w h) (T:Top p loose mean mg mb h):Inv w h:=by
 have t:∀ P∈TB,h.get? P=some (tabObj #[]):=Y.1.2
 refine ⟨Y.1.1,⟨_,_,_,_,ghost_top (tabs:=[]) (fun _ h=>nN h) T⟩,⟨.inl (t _ (by decide)),.inl (t _ (by decide)),.inl (t _ (by decide)),.inl (t _ (by decide)),.inl (t _ (by decide))⟩,Y.2⟩
theorem tab_was {P:Addr} {q:Str} {ln cl:Int} {h h':Heap} {c:Addr} (C:CodeHd h c P) (t:h.get? P=some (tabObj #[])) (t':TabOk P q ln cl h'):∀ o,h.get? P=some o→asItWas h h' P o:=by
 intro o e
 rw [t] at e
 cases e
 rcases t' with e | ⟨c',_,e,_⟩
 · exact .inl e
 · refine exE9 C fun oc vs file tf flags tg inF text tt hh=>anE5 hh fun e1 r1 r2 r3 _=>?_;clear hh;try clear C
   exact .inr (.inl ⟨⟨c,oc,vs,e1,r1,r2,r3⟩,rfl,#[],#[rawInt ln,rawInt cl,.ref c'],rfl,e⟩)
theorem old_end {w:World} {s s':Shared} (Y:lawHook.says w s.heap) (y:Step w TB s s'):OldK s.heap s'.heap:=by
 have t:∀ P∈TB,s.heap.get? P=some (tabObj #[]):=Y.1.2
 have X:(frag.heap_1 w.params).In s.heap:=Y.1.1
 have T:=y.inv.tabs
 have at86:=tab_was (hd90 X) (t _ (by decide)) T.t86
 have at93:=tab_was (hd97 X) (t _ (by decide)) T.t93
 have at162:=tab_was (hd166 X) (t _ (by decide)) T.t162
 have at169:=tab_was (hd173 X) (t _ (by decide)) T.t169
 have at234:=tab_was (hd238 X) (t _ (by decide)) T.t234
 have low:∀ P∈TB,∃ o,s'.heap.get? P=some o:=fun P hP=>y.inv.low P (tb250 P hP)
 refine ⟨fun b o e=>?_,fun b o e=>?_⟩
 · by_cases hb:b∈TB
   · have hb':=hb
     simp only [TB,List.mem_cons,nM,or_false] at hb'
     rcases hb' with rfl | rfl | rfl | rfl | rfl
     · exact at86 o e
     · exact at93 o e
     · exact at162 o e
     · exact at169 o e
     · exact at234 o e
   · exact .inl (y.keep b o e hb)
 · by_cases hb:b∈TB
   · exact low b hb
   · exact ⟨o,y.keep b o e hb⟩
theorem well_list {P:Params} {h:Heap} {a:Addr} {vs:List Value} {xs:List WData} (hl:h.IsList a vs.toArray) (hW:Well P h (.ref a) (.list xs)):h.get? a=some (listOf vs.toArray 0):=by
 cases hW with
 | list e _ =>
   obtain ⟨o,ho,_,n,hd⟩:=hl
   rw [e] at ho
   cases ho
   cases hd
   exact e
theorem caller_lvl:Lvl callerA 500:=⟨rfl,by decide,by decide⟩
theorem final_walk {w:World} {s₀ s₁:Shared} {p:Program} {loose:List Str} {mean:ExcName→Option Value} {mg mb:Str→Option Value} (Y:lawHook.says w s₁.heap) (T:Top p loose mean mg mb s₁.heap) (hg:s₁.gens=#[]) {fa:Addr} (hmg:mg "law"=some (.ref fa)) {args:List WData} {vals:List Value} {as:List Addr} (hpre:PySem.Challenge.rw_yj0026_01.row.toRowW.claim.pre args=true) (hlay:WData.layableAll args=true) (hrd:ReadsAllW PySem.Challenge.rw_yj0026_01.row.toRowW.records (classAt s₀.heap) s₁.heap vals args as) (hwl:WellAll w.params s₁.heap vals args) (hlo:∀ a∈as,(a == sysModules)=false) :
 wpAny (model PySem.Challenge.rw_yj0026_01.row.prog w) callerA (call (.ref fa) vals) (fun v s'=>GoodWG PySem.Challenge.rw_yj0026_01.row.claim (classAt s₀.heap) (ExcName.means s₀.heap) args s₁ (.ok (.ret v)) s') (fun e s'=>GoodWG PySem.Challenge.rw_yj0026_01.row.claim (classAt s₀.heap) (ExcName.means s₀.heap) args s₁ (.error e) s') s₁:=by
 have I:=inv_start Y T
 have e249:=mg_of (K:=frag.heap_1 w.params) I.K T.g (n:="law") (v:=.ref 249) (by kernel_rfl)
 rw [hmg] at e249
 cases e249
 wrow_args hpre hlay hrd hwl hlo
 rename IntsAre _ _=>hI
 rename Well _ _ _ _=>hW
 rename (¬ _ < _)=>hc
 rename Heap.IsList _ _ _=>hl
 have hS:=well_list hl hW
 have hlen:=hI.length
 refine law_spec caller_lvl I hS hI (by omega) fun s' y=>?_
 exact anI4 (.inl ⟨_,_,[],rfl,fun _=>rfl,ReadsW.bool true,by first | rfl | wrow_post,fun _=>⟨List.nodup_nil,fun _ hm=>(nomatch hm)⟩⟩) (old_end Y y) y.os (y.gens (.of_eq hg))
end
noncomputable abbrev PV : Program := PySem.Challenge.rw_yj0026_01.row.toRowW.prog
noncomputable def qv : Program := { PV with main := { PV.main with body := PV.main.body.drop 24 } }
theorem head_row : PySem.Challenge.rw_yj0026_01.row.Holds := by
  refine holds_open (q := qv) (loose := ["_wall", "__name__", "Entry", "merge_entries", "_DIV_LIMIT", "_div2n1n", "_div3n2n", "_int2digits", "_digits2int", "_divmod_pos", "IS_CHARACTER_JUNK", "restore", "EMPTYSTRING", "_Accumulator", "_law_names", "_law_record", "_law_told", "_law_side", "_law_rule", "_law_weights"]) (Xt := fun s => xlAt qv [] s && recOk (RowW.records PySem.Challenge.rw_yj0026_01.row.toRowW) s) (XP := XL qv []) (Yf := Hook.obs lawHook) (Ya := Hook.val lawHook) (YP := Hook.says lawHook) (N := 2948) ?hl (Hook.of lawHook) (Hook.keeps lawHook) (fun s e => xl_of s (Bool.and_eq_true_iff.mp e).1) XL.keeps (by rfl) (by rfl) (by rfl) (fun s e => recFacts_of (Bool.and_eq_true_iff.mp e).2) (by rfl) (by decide +kernel) (by decide +kernel) ⟨rfl, rfl, rfl, rfl, rfl, by decide +kernel⟩ ?hw ?hc
  case hl => (intro w; kernel_rfl)
  case hw => w_witness2
  intro w s₀ s₁ mg mb G Y fa o pm cd doc dV kV ho hf hcd hD hmg hg args vals as hpre hlay hrd hwl hlo
  exact Mine.final_walk Y G.T hg hmg hpre hlay hrd hwl hlo
end Mine
theorem PySem.Challenge.cw_yj0026_01_holds : PySem.Challenge.rw_yj0026_01.Holds := by
  w_on
  exact holds_law (by decide +kernel) fun _ => Mine.head_row
