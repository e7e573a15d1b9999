import PyProof.Rows.All
import Wide.All
import OpenK.AllK
import Wide.FinOn
import KE.KNest
import Lean
import PySem.Challenge.RW_uc0056_02
open PySem PySem.W PyProof.Rows
set_option Elab.async false
set_option linter.all false
set_option genInjectivity false
set_option genSizeOf false
set_option bootstrap.genMatcherCode false
set_option maxRecDepth 100000
set_option maxHeartbeats 8000000
set_option hygiene false in
local macro_rules
  | `(tactic| l_fit) => `(tactic| first | assumption | exact Nat.le_add_left 1 _ | (apply Mine.St.tk; assumption) | (refine Nat.le_trans (Mine.St.tk ?_) ?_ <;> assumption) | (refine Nat.le_trans (Mine.St.tk ?_) ‹_ ≤ _›; assumption))
namespace Mine
@[reducible] def tQ (l : Array Lean.Syntax) : Lean.Syntax := .node .none `Lean.Parser.Tactic.tacticSeq #[.node .none `Lean.Parser.Tactic.tacticSeq1Indented #[.node .none `null l]]
@[reducible] def tR : Lean.Syntax := tQ #[.node .none `Lean.Parser.Tactic.tacticRfl #[.atom .none "rfl"]]
@[reducible] def tW : Lean.Syntax := tQ #[.node .none `Lean.Parser.Tactic.withUnfoldingAll #[.atom .none "with_unfolding_all", tR]]
@[reducible] def tD : Lean.Syntax := tQ #[.node .none `Lean.Parser.Tactic.decide #[.atom .none "decide", .node .none `Lean.Parser.Tactic.optConfig #[.node .none `null #[]]]]
@[reducible] def tI : Lean.Syntax := tQ #[.node .none `Lean.Parser.Tactic.intros #[.atom .none "intros", .node .none `null #[]], .atom .none ";", .node .none `Lean.Parser.Tactic.tacticRfl #[.atom .none "rfl"]]
theorem e0_2 {A B:Prop}{G:Prop} (h:A∧B) (k:A→B→G):G:=k h.1 h.2
theorem e0_3 {A B C:Prop}{G:Prop} (h:A∧B∧C) (k:A→B→C→G):G:=k h.1 h.2.1 h.2.2
theorem e0_4 {A B C D:Prop}{G:Prop} (h:A∧B∧C∧D) (k:A→B→C→D→G):G:=k h.1 h.2.1 h.2.2.1 h.2.2.2
theorem e0_5 {A B C D E:Prop}{G:Prop} (h:A∧B∧C∧D∧E) (k:A→B→C→D→E→G):G:=k h.1 h.2.1 h.2.2.1 h.2.2.2.1 h.2.2.2.2
theorem e0_7 {A B C D E F H:Prop}{G:Prop} (h:A∧B∧C∧D∧E∧F∧H) (k:A→B→C→D→E→F→H→G):G:=k h.1 h.2.1 h.2.2.1 h.2.2.2.1 h.2.2.2.2.1 h.2.2.2.2.2.1 h.2.2.2.2.2.2
theorem e1_1 {T:Sort _}{A:T→Prop}{G:Prop} (h:∃ a,A a) (k:∀ a,A a→G):G:=Exists.elim h fun a h=>k a h
theorem e1_2 {T:Sort _}{A B:T→Prop}{G:Prop} (h:∃ a,A a∧B a) (k:∀ a,A a→B a→G):G:=Exists.elim h fun a h=>k a h.1 h.2
theorem e1_3 {T:Sort _}{A B C:T→Prop}{G:Prop} (h:∃ a,A a∧B a∧C a) (k:∀ a,A a→B a→C a→G):G:=Exists.elim h fun a h=>k a h.1 h.2.1 h.2.2
theorem e1_4 {T:Sort _}{A B C D:T→Prop}{G:Prop} (h:∃ a,A a∧B a∧C a∧D a) (k:∀ a,A a→B a→C a→D a→G):G:=Exists.elim h fun a h=>k a h.1 h.2.1 h.2.2.1 h.2.2.2
theorem e1_5 {T:Sort _}{A B C D E:T→Prop}{G:Prop} (h:∃ a,A a∧B a∧C a∧D a∧E a) (k:∀ a,A a→B a→C a→D a→E a→G):G:=Exists.elim h fun a h=>k a h.1 h.2.1 h.2.2.1 h.2.2.2.1 h.2.2.2.2
theorem e1_6 {T:Sort _}{A B C D E F:T→Prop}{G:Prop} (h:∃ a,A a∧B a∧C a∧D a∧E a∧F a) (k:∀ a,A a→B a→C a→D a→E a→F a→G):G:=Exists.elim h fun a h=>k a h.1 h.2.1 h.2.2.1 h.2.2.2.1 h.2.2.2.2.1 h.2.2.2.2.2
theorem e1_7 {T:Sort _}{A B C D E F H:T→Prop}{G:Prop} (h:∃ a,A a∧B a∧C a∧D a∧E a∧F a∧H a) (k:∀ a,A a→B a→C a→D a→E a→F a→H a→G):G:=Exists.elim h fun a h=>k a h.1 h.2.1 h.2.2.1 h.2.2.2.1 h.2.2.2.2.1 h.2.2.2.2.2.1 h.2.2.2.2.2.2
theorem e1_8 {T:Sort _}{A B C D E F H I:T→Prop}{G:Prop} (h:∃ a,A a∧B a∧C a∧D a∧E a∧F a∧H a∧I a) (k:∀ a,A a→B a→C a→D a→E a→F a→H a→I a→G):G:=Exists.elim h fun a h=>k a h.1 h.2.1 h.2.2.1 h.2.2.2.1 h.2.2.2.2.1 h.2.2.2.2.2.1 h.2.2.2.2.2.2.1 h.2.2.2.2.2.2.2
theorem e2_1 {T U:Sort _}{A:T→U→Prop}{G:Prop} (h:∃ a b,A a b) (k:∀ a b,A a b→G):G:=Exists.elim h fun a h=>Exists.elim h fun b h=>k a b h
theorem e2_2 {T U:Sort _}{A B:T→U→Prop}{G:Prop} (h:∃ a b,A a b∧B a b) (k:∀ a b,A a b→B a b→G):G:=Exists.elim h fun a h=>Exists.elim h fun b h=>k a b h.1 h.2
theorem e2_3 {T U:Sort _}{A B C:T→U→Prop}{G:Prop} (h:∃ a b,A a b∧B a b∧C a b) (k:∀ a b,A a b→B a b→C a b→G):G:=Exists.elim h fun a h=>Exists.elim h fun b h=>k a b h.1 h.2.1 h.2.2
theorem e2_4 {T U:Sort _}{A B C D:T→U→Prop}{G:Prop} (h:∃ a b,A a b∧B a b∧C a b∧D a b) (k:∀ a b,A a b→B a b→C a b→D a b→G):G:=Exists.elim h fun a h=>Exists.elim h fun b h=>k a b h.1 h.2.1 h.2.2.1 h.2.2.2
theorem e2_5 {T U:Sort _}{A B C D E:T→U→Prop}{G:Prop} (h:∃ a b,A a b∧B a b∧C a b∧D a b∧E a b) (k:∀ a b,A a b→B a b→C a b→D a b→E a b→G):G:=Exists.elim h fun a h=>Exists.elim h fun b h=>k a b h.1 h.2.1 h.2.2.1 h.2.2.2.1 h.2.2.2.2
theorem e2_6 {T U:Sort _}{A B C D E F:T→U→Prop}{G:Prop} (h:∃ a b,A a b∧B a b∧C a b∧D a b∧E a b∧F a b) (k:∀ a b,A a b→B a b→C a b→D a b→E a b→F a b→G):G:=Exists.elim h fun a h=>Exists.elim h fun b h=>k a b h.1 h.2.1 h.2.2.1 h.2.2.2.1 h.2.2.2.2.1 h.2.2.2.2.2
theorem e2_7 {T U:Sort _}{A B C D E F H:T→U→Prop}{G:Prop} (h:∃ a b,A a b∧B a b∧C a b∧D a b∧E a b∧F a b∧H a b) (k:∀ a b,A a b→B a b→C a b→D a b→E a b→F a b→H a b→G):G:=Exists.elim h fun a h=>Exists.elim h fun b h=>k a b h.1 h.2.1 h.2.2.1 h.2.2.2.1 h.2.2.2.2.1 h.2.2.2.2.2.1 h.2.2.2.2.2.2
theorem e2_8 {T U:Sort _}{A B C D E F H I:T→U→Prop}{G:Prop} (h:∃ a b,A a b∧B a b∧C a b∧D a b∧E a b∧F a b∧H a b∧I a b) (k:∀ a b,A a b→B a b→C a b→D a b→E a b→F a b→H a b→I a b→G):G:=Exists.elim h fun a h=>Exists.elim h fun b h=>k a b h.1 h.2.1 h.2.2.1 h.2.2.2.1 h.2.2.2.2.1 h.2.2.2.2.2.1 h.2.2.2.2.2.2.1 h.2.2.2.2.2.2.2
theorem e3_2 {T U V:Sort _}{A B:T→U→V→Prop}{G:Prop} (h:∃ a b c,A a b c∧B a b c) (k:∀ a b c,A a b c→B a b c→G):G:=Exists.elim h fun a h=>Exists.elim h fun b h=>Exists.elim h fun c h=>k a b c h.1 h.2
theorem e3_3 {T U V:Sort _}{A B C:T→U→V→Prop}{G:Prop} (h:∃ a b c,A a b c∧B a b c∧C a b c) (k:∀ a b c,A a b c→B a b c→C a b c→G):G:=Exists.elim h fun a h=>Exists.elim h fun b h=>Exists.elim h fun c h=>k a b c h.1 h.2.1 h.2.2
theorem e3_4 {T U V:Sort _}{A B C D:T→U→V→Prop}{G:Prop} (h:∃ a b c,A a b c∧B a b c∧C a b c∧D a b c) (k:∀ a b c,A a b c→B a b c→C a b c→D a b c→G):G:=Exists.elim h fun a h=>Exists.elim h fun b h=>Exists.elim h fun c h=>k a b c h.1 h.2.1 h.2.2.1 h.2.2.2
theorem e3_5 {T U V:Sort _}{A B C D E:T→U→V→Prop}{G:Prop} (h:∃ a b c,A a b c∧B a b c∧C a b c∧D a b c∧E a b c) (k:∀ a b c,A a b c→B a b c→C a b c→D a b c→E a b c→G):G:=Exists.elim h fun a h=>Exists.elim h fun b h=>Exists.elim h fun c h=>k a b c h.1 h.2.1 h.2.2.1 h.2.2.2.1 h.2.2.2.2
theorem e3_6 {T U V:Sort _}{A B C D E F:T→U→V→Prop}{G:Prop} (h:∃ a b c,A a b c∧B a b c∧C a b c∧D a b c∧E a b c∧F a b c) (k:∀ a b c,A a b c→B a b c→C a b c→D a b c→E a b c→F a b c→G):G:=Exists.elim h fun a h=>Exists.elim h fun b h=>Exists.elim h fun c h=>k a b c h.1 h.2.1 h.2.2.1 h.2.2.2.1 h.2.2.2.2.1 h.2.2.2.2.2
theorem e3_8 {T U V:Sort _}{A B C D E F H I:T→U→V→Prop}{G:Prop} (h:∃ a b c,A a b c∧B a b c∧C a b c∧D a b c∧E a b c∧F a b c∧H a b c∧I a b c) (k:∀ a b c,A a b c→B a b c→C a b c→D a b c→E a b c→F a b c→H a b c→I a b c→G):G:=Exists.elim h fun a h=>Exists.elim h fun b h=>Exists.elim h fun c h=>k a b c h.1 h.2.1 h.2.2.1 h.2.2.2.1 h.2.2.2.2.1 h.2.2.2.2.2.1 h.2.2.2.2.2.2.1 h.2.2.2.2.2.2.2
theorem e3_9 {T U V:Sort _}{A B C D E F H I J:T→U→V→Prop}{G:Prop} (h:∃ a b c,A a b c∧B a b c∧C a b c∧D a b c∧E a b c∧F a b c∧H a b c∧I a b c∧J a b c) (k:∀ a b c,A a b c→B a b c→C a b c→D a b c→E a b c→F a b c→H a b c→I a b c→J a b c→G):G:=Exists.elim h fun a h=>Exists.elim h fun b h=>Exists.elim h fun c h=>k a b c h.1 h.2.1 h.2.2.1 h.2.2.2.1 h.2.2.2.2.1 h.2.2.2.2.2.1 h.2.2.2.2.2.2.1 h.2.2.2.2.2.2.2.1 h.2.2.2.2.2.2.2.2
theorem e4_1 {T U V W:Sort _}{A:T→U→V→W→Prop}{G:Prop} (h:∃ a b c d,A a b c d) (k:∀ a b c d,A a b c d→G):G:=Exists.elim h fun a h=>Exists.elim h fun b h=>Exists.elim h fun c h=>Exists.elim h fun d h=>k a b c d h
theorem e4_2 {T U V W:Sort _}{A B:T→U→V→W→Prop}{G:Prop} (h:∃ a b c d,A a b c d∧B a b c d) (k:∀ a b c d,A a b c d→B a b c d→G):G:=Exists.elim h fun a h=>Exists.elim h fun b h=>Exists.elim h fun c h=>Exists.elim h fun d h=>k a b c d h.1 h.2
theorem e4_4 {T U V W:Sort _}{A B C D:T→U→V→W→Prop}{G:Prop} (h:∃ a b c d,A a b c d∧B a b c d∧C a b c d∧D a b c d) (k:∀ a b c d,A a b c d→B a b c d→C a b c d→D a b c d→G):G:=Exists.elim h fun a h=>Exists.elim h fun b h=>Exists.elim h fun c h=>Exists.elim h fun d h=>k a b c d h.1 h.2.1 h.2.2.1 h.2.2.2
theorem e4_5 {T U V W:Sort _}{A B C D E:T→U→V→W→Prop}{G:Prop} (h:∃ a b c d,A a b c d∧B a b c d∧C a b c d∧D a b c d∧E a b c d) (k:∀ a b c d,A a b c d→B a b c d→C a b c d→D a b c d→E a b c d→G):G:=Exists.elim h fun a h=>Exists.elim h fun b h=>Exists.elim h fun c h=>Exists.elim h fun d h=>k a b c d h.1 h.2.1 h.2.2.1 h.2.2.2.1 h.2.2.2.2
theorem e4_6 {T U V W:Sort _}{A B C D E F:T→U→V→W→Prop}{G:Prop} (h:∃ a b c d,A a b c d∧B a b c d∧C a b c d∧D a b c d∧E a b c d∧F a b c d) (k:∀ a b c d,A a b c d→B a b c d→C a b c d→D a b c d→E a b c d→F a b c d→G):G:=Exists.elim h fun a h=>Exists.elim h fun b h=>Exists.elim h fun c h=>Exists.elim h fun d h=>k a b c d h.1 h.2.1 h.2.2.1 h.2.2.2.1 h.2.2.2.2.1 h.2.2.2.2.2
theorem e5_1 {T U V W X:Sort _}{A:T→U→V→W→X→Prop}{G:Prop} (h:∃ a b c d f,A a b c d f) (k:∀ a b c d f,A a b c d f→G):G:=Exists.elim h fun a h=>Exists.elim h fun b h=>Exists.elim h fun c h=>Exists.elim h fun d h=>Exists.elim h fun f h=>k a b c d f h
theorem e5_2 {T U V W X:Sort _}{A B:T→U→V→W→X→Prop}{G:Prop} (h:∃ a b c d f,A a b c d f∧B a b c d f) (k:∀ a b c d f,A a b c d f→B a b c d f→G):G:=Exists.elim h fun a h=>Exists.elim h fun b h=>Exists.elim h fun c h=>Exists.elim h fun d h=>Exists.elim h fun f h=>k a b c d f h.1 h.2
theorem e6_2 {T U V W X Y:Sort _}{A B:T→U→V→W→X→Y→Prop}{G:Prop} (h:∃ a b c d f i,A a b c d f i∧B a b c d f i) (k:∀ a b c d f i,A a b c d f i→B a b c d f i→G):G:=Exists.elim h fun a h=>Exists.elim h fun b h=>Exists.elim h fun c h=>Exists.elim h fun d h=>Exists.elim h fun f h=>Exists.elim h fun i h=>k a b c d f i h.1 h.2
theorem e6_4 {T U V W X Y:Sort _}{A B C D:T→U→V→W→X→Y→Prop}{G:Prop} (h:∃ a b c d f i,A a b c d f i∧B a b c d f i∧C a b c d f i∧D a b c d f i) (k:∀ a b c d f i,A a b c d f i→B a b c d f i→C a b c d f i→D a b c d f i→G):G:=Exists.elim h fun a h=>Exists.elim h fun b h=>Exists.elim h fun c h=>Exists.elim h fun d h=>Exists.elim h fun f h=>Exists.elim h fun i h=>k a b c d f i h.1 h.2.1 h.2.2.1 h.2.2.2
theorem e6_11 {T U V W X Y:Sort _}{A B C D E F H I J K L:T→U→V→W→X→Y→Prop}{G:Prop} (h:∃ a b c d f i,A a b c d f i∧B a b c d f i∧C a b c d f i∧D a b c d f i∧E a b c d f i∧F a b c d f i∧H a b c d f i∧I a b c d f i∧J a b c d f i∧K a b c d f i∧L a b c d f i) (k:∀ a b c d f i,A a b c d f i→B a b c d f i→C a b c d f i→D a b c d f i→E a b c d f i→F a b c d f i→H a b c d f i→I a b c d f i→J a b c d f i→K a b c d f i→L a b c d f i→G):G:=Exists.elim h fun a h=>Exists.elim h fun b h=>Exists.elim h fun c h=>Exists.elim h fun d h=>Exists.elim h fun f h=>Exists.elim h fun i h=>k a b c d f i h.1 h.2.1 h.2.2.1 h.2.2.2.1 h.2.2.2.2.1 h.2.2.2.2.2.1 h.2.2.2.2.2.2.1 h.2.2.2.2.2.2.2.1 h.2.2.2.2.2.2.2.2.1 h.2.2.2.2.2.2.2.2.2.1 h.2.2.2.2.2.2.2.2.2.2
theorem cA {a b c:Nat} (h:a<b) (k:b<c):a<c:=Nat.lt_trans h k
theorem cB {a b c:Nat} (h:a<b) (k:b≤c):a<c:=Nat.lt_of_lt_of_le h k
theorem cC {a b c:Nat} (h:a≤b) (k:b<c):a<c:=Nat.lt_of_le_of_lt h k
theorem cD {a b c:Nat} (h:a≤b) (k:b≤c):a≤c:=Nat.le_trans h k
theorem ltk {a k b:Nat} (h:a+k<b):a<b:=Nat.lt_of_le_of_lt (Nat.le_add_right a k) h
theorem lekS {a k b:Nat} (h:a+(k+1)≤b):a<b:=Nat.lt_of_lt_of_le (Nat.lt_add_of_pos_right (Nat.succ_pos k)) h
theorem eqk {a d k:Nat} (h:a=d+(k+1)):d<a:=h▸Nat.lt_add_of_pos_right (Nat.succ_pos k)
theorem ltc {i k:Nat}{m:Int} (h:i<k) (hk:(k:Int)≤m):(i:Int)<m:=Int.lt_of_lt_of_le (Int.ofNat_lt.mpr h) hk
theorem lec {i k:Nat}{m:Int} (h:i≤k) (hk:(k:Int)<m):(i:Int)<m:=Int.lt_of_le_of_lt (Int.ofNat_le.mpr h) hk
theorem lei {i k:Nat}{m:Int} (h:i≤k) (hk:(k:Int)≤m):(i:Int)≤m:=Int.le_trans (Int.ofNat_le.mpr h) hk
theorem four:∀ x,x<4→(x=0∨x=1∨x=2∨x=3):=by decide
theorem four2:∀ x,x<4→(x=1∨x=2∨x=0∨x=3):=by decide
set_option tactic.hygienic false
set_option hygiene false
theorem runs_toks {M:Model}{Γ:Ctx}{p:Pos}{t:Sem Fin}{fs:List Frame}{s:Shared}{e:End}{s':Shared} (h:Runs M Γ p t fs s e s'):s.toks≤s'.toks:=by
 induction h with
 |done |raise |yield=>exact Nat.le_refl _
 |fresh _ ih=>exact Nat.le_trans (Nat.le_succ _) ih
 |call _ _ i1 i2=>exact Nat.le_trans i1 i2
 |resumeFresh _ _ _ _ i1 i2=>exact Nat.le_trans i1 i2
 |resumeSuspended _ _ _ _ i1 i2=>exact Nat.le_trans i1 i2
 |segRet _ _ i1 i2=>exact Nat.le_trans i1 i2
 |segGen _ _ i1 i2=>exact Nat.le_trans i1 i2
 |segSuspGen _ _ _ _ i1 i2=>exact Nat.le_trans i1 i2
 |_=>assumption
theorem wakes_toks {M:Model}{Γ:Ctx}{p:Pos}{g:Nat}{r:Resume}{s:Shared}{res:GenResult}{s':Shared} (h:Wakes M Γ p g r s res s'):s.toks≤s'.toks:=by
 unfold Wakes at h
 split at h
 ·exact h.elim
 ·split at h
  ·refine e2_4 h ?_;try clear h;intro e s1 h1 _ _ zz1;subst zz1;have:=runs_toks h1;exact this
  ·rw[h.2];exact Nat.le_refl _
  ·rw[h.2];exact Nat.le_refl _
 ·refine e2_4 h ?_;try clear h;intro e s1 h1 _ _ zz1;subst zz1;have:=runs_toks h1;exact this
 ·rw[h.2];exact Nat.le_refl _
 ·rw[h.2];exact Nat.le_refl _
theorem wp_toks {M:Model}{Γ:Ctx}{α:Type}:∀ (t:Sem α){n:Nat}{Q:α→Pos→Shared→Prop}{E:Value→Pos→Shared→Prop}{p:Pos}{s:Shared},n≤s.toks →
  Sem.wp M Γ t (fun a p s'=>n≤s'.toks→Q a p s') (fun e p s'=>n≤s'.toks→E e p s') p s→Sem.wp M Γ t Q E p s
 | .pure a,n,Q,E,p,s,hn,h=>by rw[Sem.wp] at h ⊢;exact h hn
 | .raise e,n,Q,E,p,s,hn,h=>by rw[Sem.wp] at h ⊢;exact h hn
 | .unsupported _,_,_,_,_,_,_,h=>by rw[Sem.wp] at h;exact h.elim
 | .finish _,_,_,_,_,_,_,h=>by rw[Sem.wp] at h;exact h.elim
 | .rule _ k,n,Q,E,p,s,hn,h=>by rw[Sem.wp] at h ⊢;exact wp_toks (k ()) hn h
 | .at p' k,n,Q,E,p,s,hn,h=>by rw[Sem.wp] at h ⊢;exact wp_toks (k ()) hn h
 | .load a _ k,n,Q,E,p,s,hn,h=>by rw[Sem.wp] at h ⊢;refine e1_2 h ?_;try clear h;intro o h1 h2;exact⟨o,h1,wp_toks (k o) hn h2⟩
 | .update a _ f k,n,Q,E,p,s,hn,h=>by rw[Sem.wp] at h ⊢;exact⟨h.1,wp_toks (k ()) hn h.2⟩
 | .loadIfAlive a k,n,Q,E,p,s,hn,h=>by rw[Sem.wp] at h ⊢;exact wp_toks (k _) hn h
 | .point _ k,n,Q,E,p,s,hn,h=>by rw[Sem.wp] at h ⊢;exact wp_toks (k ()) hn h
 | .register _ _,_,_,_,_,_,_,h=>by rw[Sem.wp] at h;exact h.elim
 | .alloc o k,n,Q,E,p,s,hn,h=>by rw[Sem.wp] at h ⊢;exact wp_toks (k _) hn h
 | .fresh k,n,Q,E,p,s,hn,h=>by rw[Sem.wp] at h ⊢;exact wp_toks (k _) (Nat.le_succ_of_le hn) h
 | .ask k,n,Q,E,p,s,hn,h=>by rw[Sem.wp] at h ⊢;exact wp_toks (k _) hn h
 | .choose src m k,n,Q,E,p,s,hn,h=>by rw[Sem.wp] at h ⊢;exact⟨h.1,wp_toks (k _) hn h.2⟩
 | .os q _ k,n,Q,E,p,s,hn,h=>by rw[Sem.wp] at h ⊢;exact wp_toks (k _) hn h
 | .call c hd _ _ k,n,Q,E,p,s,hn,h=>by
  rw[Sem.wp] at h ⊢
  refine e2_2 h ?_;try clear h;intro r s' h1 h2
  exact⟨r,s',h1,wp_toks (k r) (Nat.le_trans hn (runs_toks h1)) h2⟩
 | .handled own k,n,Q,E,p,s,hn,h=>by rw[Sem.wp] at h ⊢;exact wp_toks (k _) hn h
 | .genState g k,n,Q,E,p,s,hn,h=>by rw[Sem.wp] at h ⊢;refine e1_2 h ?_;try clear h;intro o h1 h2;exact⟨o,h1,wp_toks (k _) hn h2⟩
 | .newGen c k,n,Q,E,p,s,hn,h=>by rw[Sem.wp] at h ⊢;exact wp_toks (k _) hn h
 | .resume g r _ k,n,Q,E,p,s,hn,h=>by
  rw[Sem.wp] at h ⊢
  refine e2_2 h ?_;try clear h;intro res s' h1 h2
  exact⟨res,s',h1,wp_toks (k res) (Nat.le_trans hn (wakes_toks h1)) h2⟩
 | .yield ..,_,_,_,_,_,_,h=>by rw[Sem.wp] at h;exact h.elim
 | .stack k,n,Q,E,p,s,hn,h=>by rw[Sem.wp] at h ⊢;exact wp_toks (k _) hn h
 | .fork ..,_,_,_,_,_,_,h=>by rw[Sem.wp] at h;exact h.elim
 | .thread k,n,Q,E,p,s,hn,h=>by rw[Sem.wp] at h ⊢;exact wp_toks (k 0) hn h
 | .await ..,_,_,_,_,_,_,h=>by rw[Sem.wp] at h;exact h.elim
theorem wpAny_tok {α:Type}{M:Model}{A:Around}{t:Sem α}{Q:α→Shared→Prop}{E:Value→Shared→Prop}{s:Shared}
  (h:wpAny M A t (fun v s'=>s.toks≤s'.toks→Q v s') E s):wpAny M A t Q E s:=fun Γ p hΓ=>by
 have h':wpAny M A t (fun v s'=>s.toks≤s'.toks→Q v s') (fun e s'=>s.toks≤s'.toks→E e s') s:=wpAny_mono h (fun _ _ z=>z) fun _ _ z _=>z
 exact wp_toks t (Nat.le_refl _) (h' Γ p hΓ)
inductive PV where
 |none |bool (b:Bool) |int (i:Int) |str (x:List Nat)
 |ref (a:Addr) |blt (n:String) |typ (n:String)
 |tup (l:List PV) |lst (l:List PV)
 |fin (C:Addr) (fs:List (Str×PV))
 |clo (n q:Str) (ps:Arguments) (b:List Stmt) (sc:Scope) (cs:List (Str×PV))
 |rng (a b:Int)
 |bm (f a:Addr)
 |stk (x:List Nat) (t:Tok)
 |dct (hs:Str→Int) (l:List (Str×PV))
 |dit (hs:Str→Int) (l:List (Str×PV))
abbrev FM:=Addr→Obj→Prop
noncomputable def tupleObj (vs:Array Value) (n:Nat):Obj:={ cls:=.type "tuple",data:=.seq vs n }
noncomputable def rangeObj (a b c:Int) (t u v:Tok):Obj:={ cls:=.type "range",data:=.fields #[.int a t,.int b u,.int c v] }
mutual
def VRel (F:FM):PV→Value→Prop
 | .none,v=>v=.none
 | .bool b,v=>v=.bool b
 | .int i,v=>∃ t,v=.int i t
 | .str x,v=>∃ t,v=.str ⟨x.toArray⟩ t
 | .ref a,v=>v=.ref a
 | .blt n,v=>v=.builtin n
 | .typ n,v=>v=.type n
 | .tup l,v=>∃ a vs n,v=.ref a∧F a (tupleObj vs n)∧VRels F l vs.toList
 | .lst l,v=>∃ a vs n,v=.ref a∧F a (listOf vs n)∧VRels F l vs.toList
 | .fin C fs,v=>∃ a d es n,v=.ref a∧F a (instObj C d)∧F d ⟨.type "dict",Option.none,.dict es n,#[]⟩∧StrKeys es∧FRels F fs (nsFind es)
 | .clo nm q ps b sc cs,v=>∃ a o c oc vs t ct doc pm cl,v=.ref a∧F a o∧o.cls=.type "function"∧o.data=.func (fnX nm q ps b sc cl .none .none doc pm Option.none (.ref c) ct)∧F c oc∧oc.cls=.type "code"∧oc.data=.fields vs∧vs[1]? = some (.str q t)∧CRels F cs cl
 | .rng a b,v=>∃ r t u w,v=.ref r∧F r (rangeObj a b 1 t u w)
 | .bm f a,v=>∃ r,v=.ref r∧F r (methodObj (.ref f) (.ref a))
 | .stk x t,v=>v=.str ⟨x.toArray⟩ t
 | .dct hs l,v=>∃ a es n,v=.ref a∧F a ⟨.type "dict",Option.none,.dict es n,#[]⟩∧(a==sysModules)=false∧DRels F hs l es.toList
 | .dit hs l,v=>∃ r a es n,v=.ref r∧F r { cls:=.type "dict_items",data:=.fields #[.ref a] }∧F a ⟨.type "dict",Option.none,.dict es n,#[]⟩∧(a==sysModules)=false∧DRels F hs l es.toList
def VRels (F:FM):List PV→List Value→Prop
 |[],vs=>vs=[]
 |p::l,vs=>∃ v ws,vs=v::ws∧VRel F p v∧VRels F l ws
def FRels (F:FM):List (Str×PV)→(Str→Option Value)→Prop
 |[],_=>True
 |(x,p)::l,m=>(∃ v,m x=some v∧VRel F p v)∧FRels F l m
def CRels (F:FM):List (Str×PV)→List (Str×Addr)→Prop
 |[],cl=>cl=[]
 |(x,p)::l,cl=>∃ c o v r,cl=(x,c)::r∧F c o∧o.cls=.type "cell"∧o.data=.cell (some v)∧VRel F p v∧CRels F l r
def DRels (F:FM) (hs:Str→Int):List (Str×PV)→List DictEntry→Prop
 |[],es=>es=[]
 |(x,p)::l,es=>∃ t v r,es=⟨hs x,.str x t,v⟩::r∧VRel F p v∧DRels F hs l r
end
noncomputable def iterCls:Value→Bool
 | .type n=>["list_iterator","tuple_iterator","str_iterator","str_ascii_iterator","range_iterator","zip","dict_itemiterator"].contains n
 |_=>false
mutual
theorem VRel.mono2 {F F':FM} (hF:∀ a o,iterCls o.cls=false→F a o→F' a o):∀ {p:PV}{v:Value},VRel F p v→VRel F' p v
 | .none,_,h=>h
 | .bool _,_,h=>h
 | .int _,_,h=>h
 | .str _,_,h=>h
 | .stk _ _,_,h=>h
 | .ref _,_,h=>h
 | .blt _,_,h=>h
 | .typ _,_,h=>h
 | .tup _,_,h=>by refine e3_3 h ?_;try clear h;intro a vs n e f r;exact⟨a,vs,n,e,hF _ _ rfl f,VRels.mono2 hF r⟩
 | .lst _,_,h=>by refine e3_3 h ?_;try clear h;intro a vs n e f r;exact⟨a,vs,n,e,hF _ _ rfl f,VRels.mono2 hF r⟩
 | .fin _ _,_,h=>by refine e4_5 h ?_;try clear h;intro a d es n e f g k r;exact⟨a,d,es,n,e,hF _ _ rfl f,hF _ _ rfl g,k,FRels.mono2 hF r⟩
 | .clo ..,_,h=>by obtain ⟨a,o,c,oc,vs,t,ct,doc,pm,cl,e,f,k,d,f2,k2,d2,v2,r⟩:=h;exact⟨a,o,c,oc,vs,t,ct,doc,pm,cl,e,hF _ _ (by rw[k];rfl) f,k,d,hF _ _ (by rw[k2];rfl) f2,k2,d2,v2,CRels.mono2 hF r⟩
 | .rng _ _,_,h=>by refine e4_2 h ?_;try clear h;intro r t u w e f;exact⟨r,t,u,w,e,hF _ _ rfl f⟩
 | .bm _ _,_,h=>by refine e1_2 h ?_;try clear h;intro r e f;exact⟨r,e,hF _ _ rfl f⟩
 | .dct _ _,_,h=>by refine e3_4 h ?_;try clear h;intro a es n e f z r;exact⟨a,es,n,e,hF _ _ rfl f,z,DRels.mono2 hF r⟩
 | .dit _ _,_,h=>by refine e4_5 h ?_;try clear h;intro r a es n e f g z q;exact⟨r,a,es,n,e,hF _ _ rfl f,hF _ _ rfl g,z,DRels.mono2 hF q⟩
theorem VRels.mono2 {F F':FM} (hF:∀ a o,iterCls o.cls=false→F a o→F' a o):∀ {l:List PV}{vs:List Value},VRels F l vs→VRels F' l vs
 |[],_,h=>h
 |_::_,_,h=>by refine e2_3 h ?_;try clear h;intro v ws e a b;exact⟨v,ws,e,VRel.mono2 hF a,VRels.mono2 hF b⟩
theorem FRels.mono2 {F F':FM} (hF:∀ a o,iterCls o.cls=false→F a o→F' a o):∀ {l:List (Str×PV)}{m:Str→Option Value},FRels F l m→FRels F' l m
 |[],_,_=>trivial
 |(_,_)::_,_,h=>by refine e0_2 h ?_;try clear h;intro zz1 b;refine e1_2 zz1 ?_;clear zz1;intro v e a;exact⟨⟨v,e,VRel.mono2 hF a⟩,FRels.mono2 hF b⟩
theorem CRels.mono2 {F F':FM} (hF:∀ a o,iterCls o.cls=false→F a o→F' a o):∀ {l:List (Str×PV)}{cl:List (Str×Addr)},CRels F l cl→CRels F' l cl
 |[],_,h=>h
 |(_,_)::_,_,h=>by refine e4_6 h ?_;try clear h;intro c o v r e f z d a b;exact⟨c,o,v,r,e,hF _ _ (by rw[z];rfl) f,z,d,VRel.mono2 hF a,CRels.mono2 hF b⟩
theorem DRels.mono2 {F F':FM} (hF:∀ a o,iterCls o.cls=false→F a o→F' a o){hs:Str→Int}:∀ {l:List (Str×PV)}{es:List DictEntry},DRels F hs l es→DRels F' hs l es
 |[],_,h=>h
 |(_,_)::_,_,h=>by refine e3_3 h ?_;try clear h;intro t v r e a b;exact⟨t,v,r,e,VRel.mono2 hF a,DRels.mono2 hF b⟩
end
theorem VRel.mono {F F':FM} (hF:∀ a o,F a o→F' a o){p:PV}{v:Value} (h:VRel F p v):VRel F' p v:=VRel.mono2 (fun a o _=>hF a o) h
theorem VRels.mono {F F':FM} (hF:∀ a o,F a o→F' a o){l:List PV}{vs:List Value} (h:VRels F l vs):VRels F' l vs:=VRels.mono2 (fun a o _=>hF a o) h
theorem VRels.length {F:FM}:∀ {l:List PV}{vs:List Value},VRels F l vs→vs.length=l.length
 |[],_,h=>by rw[show _=[] from h];rfl
 |_::_,_,h=>by refine e2_3 h ?_;try clear h;intro v ws zz1 _ b;subst zz1;rw[List.length_cons,List.length_cons,VRels.length b]
theorem VRels.append {F:FM}:∀ {l l':List PV}{vs vs':List Value},VRels F l vs→VRels F l' vs'→VRels F (l++l') (vs++vs')
 |[],_,_,_,h,h'=>by rw[show _=[] from h];exact h'
 |_::_,_,_,_,h,h'=>by refine e2_3 h ?_;try clear h;intro v ws zz1 a b;subst zz1;exact⟨v,_,rfl,a,VRels.append b h'⟩
theorem VRels.get {F:FM}:∀ {l:List PV}{vs:List Value}{i:Nat}{p:PV},VRels F l vs→l[i]? = some p→∃ v,vs[i]? = some v∧VRel F p v
 |_::_,_,0,_,h,e=>by refine e2_3 h ?_;try clear h;intro v ws zz1 a b;subst zz1;cases e;exact⟨v,rfl,a⟩
 |_::_,_,i+1,_,h,e=>by refine e2_3 h ?_;try clear h;intro v ws zz1 a b;subst zz1;exact VRels.get (i:=i) b e
theorem VRels.set {F:FM}:∀ {l:List PV}{vs:List Value}{i:Nat}{p:PV}{v:Value},VRels F l vs→VRel F p v→VRels F (l.set i p) (vs.set i v)
 |[],_,_,_,_,h,_=>by rw[show _=[] from h];rfl
 |_::_,_,0,_,_,h,hp=>by refine e2_3 h ?_;try clear h;intro v ws zz1 a b;subst zz1;exact⟨_,_,rfl,hp,b⟩
 |_::_,_,i+1,_,_,h,hp=>by refine e2_3 h ?_;try clear h;intro v ws zz1 a b;subst zz1;exact⟨_,_,rfl,a,VRels.set b hp⟩
theorem VRels.drop {F:FM}:∀ {l:List PV}{vs:List Value}{i:Nat},VRels F l vs→VRels F (l.drop i) (vs.drop i)
 |_,_,0,h=>h
 |[],_,_+1,h=>by rw[show _=[] from h];rfl
 |_::_,_,i+1,h=>by refine e2_3 h ?_;try clear h;intro v ws zz1 a b;subst zz1;exact VRels.drop (i:=i) b
theorem VRels.take {F:FM}:∀ {l:List PV}{vs:List Value}{i:Nat},VRels F l vs→VRels F (l.take i) (vs.take i)
 |_,_,0,h=>rfl
 |[],_,_+1,h=>by rw[show _=[] from h];rfl
 |_::_,_,i+1,h=>by refine e2_3 h ?_;try clear h;intro v ws zz1 a b;subst zz1;exact⟨_,_,rfl,a,VRels.take (i:=i) b⟩
theorem VRels.one {F:FM}{p:PV}{v:Value} (h:VRel F p v):VRels F [p] [v]:=⟨v,[],rfl,h,rfl⟩
inductive AObj where
 |list (l:List PV)
 |inst (C d:Addr) (fs:Str→Option PV) (n:Nat)
 |part (a:Addr)
 |frame (m:Str→Option PV)
 |cell (p:Option PV)
 |citer (p:PV) (done:Bool)
 |own
noncomputable abbrev Sig:=Addr→Option AObj
noncomputable def Sig.upd (σ:Sig) (a:Addr) (o:AObj):Sig:=fun b=>if b=a then some o else σ b
noncomputable def Sig.del (σ:Sig) (a:Addr):Sig:=fun b=>if b=a then Option.none else σ b
def Fresh (σ:Sig) (a:Addr):Prop:=∀ b,a≤b→σ b=Option.none
noncomputable def fset (m:Str→Option PV) (x:Str) (p:PV):Str→Option PV:=fun y=>if y=x then some p else m y
theorem upd_same (σ:Sig) (a:Addr) (o:AObj):(σ.upd a o) a=some o:=if_pos rfl
theorem upd_ne {σ:Sig}{a b:Addr}{o:AObj} (h:b≠a):(σ.upd a o) b=σ b:=if_neg h
theorem fset_same (m:Str→Option PV) (x:Str) (p:PV):fset m x p x=some p:=if_pos rfl
theorem fset_ne {m:Str→Option PV}{x y:Str}{p:PV} (h:y≠x):fset m x p y=m y:=if_neg h
noncomputable def Fz (σ:Sig) (h:Heap):FM:=fun a o=>σ a=Option.none∧h.get? a=some o∧o.cls ≠ .none
def ORl (F:FM):Option PV→Option Value→Prop
 |some p,v=>∃ w,v=some w∧VRel F p w
 |Option.none,v=>v=Option.none
def OLe (F:FM):Option PV→Option Value→Prop
 |some p,v=>∃ w,v=some w∧VRel F p w
 |Option.none,_=>True
noncomputable def citerObj (v:Value) (t:Tok) (b:Bool):Obj:={ cls:=.type "callable_iterator",data:=.fields (if b then #[.none,.none,.bool true] else #[v,.str ⟨#[]⟩ t,.bool false]) }
def OR (σ:Sig) (h:Heap) (a:Addr):AObj→Prop
 | .list l=>∃ vs n,h.get? a=some (listOf vs n)∧VRels (Fz σ h) l vs.toList
 | .inst C d fs n=>h.get? a=some (instObj C d)∧d<a∧σ d=some (.part a)∧∃ es ep,h.get? d=some ⟨.type "dict",Option.none,.dict es ep,#[]⟩∧StrKeys es∧es.size≤n∧∀ x,ORl (Fz σ h) (fs x) (nsFind es x)
 | .part _=>∃ o,h.get? a=some o
 | .frame m=>∃ mc,h.Ns a mc∧∀ x,OLe (Fz σ h) (m x) (mc x)
 | .cell p=>∃ o v,h.get? a=some o∧o.cls=.type "cell"∧o.data=.cell v∧ORl (Fz σ h) p v
 | .citer p b=>∃ v t,h.get? a=some (citerObj v t b)∧VRel (Fz σ h) p v
 | .own=>∃ x y,h.get? a=some { cls:=.type "tuple",data:=.seq #[x,y] }
structure Wd where
 K:Frag
 prog:Program
 w:World
 h₁:Heap
 os:OsState
 mg:Str→Option Value
 mb:Str→Option Value
 tP:Addr
 tpos:Pos
 tq:Str
 tlt:tP<h₁.objs.size
 kn:FM→Prop
 knm:∀ {F F':FM},(∀ a o,iterCls o.cls=false→F a o→F' a o)→kn F→kn F'
def TabInv (W:Wd) (F:FM) (h:Heap):Prop:=W.kn F∧∃ ps,h.get? W.tP=some (tabObj ps)∧(ps = #[]∨∃ c oc vs t,ps = #[rawInt W.tpos.line,rawInt W.tpos.col,.ref c]∧F c oc∧oc.cls=.type "code"∧oc.data=.fields vs∧vs[1]? = some (.str W.tq t))
theorem TabInv.keep {W:Wd}{F F':FM}{h h':Heap} (x:TabInv W F h) (hF:∀ a o,iterCls o.cls=false→F a o→F' a o) (e:h'.get? W.tP=h.get? W.tP):TabInv W F' h':=by
 obtain ⟨h0,ps,h1,h2⟩:=x
 refine⟨W.knm hF h0,ps,e.trans h1,?_⟩
 rcases h2 with rfl |⟨c,oc,vs,t,e1,f,e2,r⟩
 ·exact .inl rfl
 ·exact .inr ⟨c,oc,vs,t,e1,hF _ _ (by rw[e2];rfl) f,e2,r⟩
theorem TabInv.there {W:Wd}{F:FM}{h:Heap} (x:TabInv W F h):∃ o,h.get? W.tP=some o:=by obtain ⟨_,ps,h1,_⟩:=x;exact⟨_,h1⟩
structure St (W:Wd) (σ:Sig) (s:Shared):Prop where
 hr:∀ a o,σ a=some o→OR σ s.heap a o
 old:OldK W.h₁ s.heap
 above:∀ a,σ a≠Option.none→W.h₁.objs.size≤a
 sz:W.h₁.objs.size≤s.heap.objs.size
 lim:s.heap.NoLimit
 os:s.os=W.os
 gens:AllBare s.gens
 tk:1≤s.toks
 tab:TabInv W (Fz σ s.heap) s.heap
noncomputable abbrev FrOf (σ:Sig) (s:Shared):FM:=Fz σ s.heap
def FLe (F F':FM):Prop:=∀ a o,F a o→F' a o
theorem FLe.refl (F:FM):FLe F F:=fun _ _ h=>h
theorem FLe.trans {F F' F'':FM} (h:FLe F F') (h':FLe F' F''):FLe F F'':=fun a o x=>h' a o (h a o x)
def Room (A:Around) (k:Nat):Prop:=A.handled=Option.none∧A.depth+k≤900∧A.units+8*k≤9000
def G (W:Wd) (k:Nat) (P:FM→Prop){α β:Type} (R:FM→β→α→Prop) (t:Sem α) (σ:Sig) (K:β→Sig→Prop):Prop :=
 ∀ A,Room A k→∀ s,St W σ s→P (FrOf σ s) →
  wpAny (model W.prog W.w) A t (fun v s'=>∃ b σ',St W σ' s'∧FLe (FrOf σ s) (FrOf σ' s')∧R (FrOf σ' s') b v∧K b σ') (fun _ _=>False) s
noncomputable def PT:FM→Prop:=fun _=>True
noncomputable def REq {α:Type}:FM→α→α→Prop:=fun _ a b=>b=a
inductive AFlow where
 |next |brk |cont |ret (p:PV)
def LRel (F:FM):AFlow→Flow→Prop
 | .next,f=>f=.next
 | .brk,f=>f=.brk
 | .cont,f=>f=.cont
 | .ret p,f=>∃ v,f=.ret v∧VRel F p v
section
variable {W:Wd}{k:Nat}{P:FM→Prop}{α β γ δ:Type}{R:FM→β→α→Prop}{t:Sem α}{σ:Sig}{K:β→Sig→Prop}
theorem G.use {Q:α→Shared→Prop}{E:Value→Shared→Prop} (h:G W k P R t σ K) (A:Around) (hA:Room A k) (s:Shared) (hs:St W σ s) (hP:P (FrOf σ s)) (f:∀ v s' b σ',St W σ' s'→FLe (FrOf σ s) (FrOf σ' s')→R (FrOf σ' s') b v→K b σ'→Q v s') (e:∀ e s',False→E e s'):wpAny (model W.prog W.w) A t Q E s :=
 wpAny_mono (h A hA s hs hP) (fun v s' hpat=>by refine e2_4 hpat ?_;try clear hpat;intro b σ' a1 a2 a3 a4;exact f v s' b σ' a1 a2 a3 a4) e
theorem G.imp {K':β→Sig→Prop} (h:G W k P R t σ K) (hK:∀ b σ',K b σ'→K' b σ'):G W k P R t σ K' :=
 fun A hA s hs hP=>G.use h A hA s hs hP (fun _ _ b σ' a1 a2 a3 a4=>⟨b,σ',a1,a2,a3,hK _ _ a4⟩) fun _ _ x=>x
theorem G.pre {P':FM→Prop} (h:G W k P R t σ K) (hP':∀ F,P' F→P F):G W k P' R t σ K:=fun A hA s hs hP=>h A hA s hs (hP' _ hP)
end
noncomputable def res (n:Addr) (σ:Sig):Sig:=fun a=>if a<n then σ a else Option.none
theorem res_lt {n:Addr}{σ:Sig}{a:Addr} (h:a<n):res n σ a=σ a:=if_pos h
theorem res_ge {n:Addr}{σ:Sig}{a:Addr} (h:n≤a):res n σ a=Option.none:=if_neg (Nat.not_lt.mpr h)
theorem res_upd_lt {n:Addr}{σ:Sig}{a:Addr}{o:AObj} (h:a<n):res n (σ.upd a o)=(res n σ).upd a o:=by
 funext b
 unfold res Sig.upd
 by_cases q:b=a
 ·subst q;simp[h]
 ·simp[q]
theorem res_upd_ge {n:Addr}{σ:Sig}{a:Addr}{o:AObj} (h:n≤a):res n (σ.upd a o)=res n σ:=by
 funext b
 unfold res Sig.upd
 by_cases q:b=a
 ·subst q;simp[Nat.not_lt.mpr h]
 ·simp[q]
theorem res_fresh {n:Addr}{σ:Sig} (h:Fresh σ n):res n σ=σ:=by
 funext b
 unfold res
 split
 ·rfl
 ·rename_i q;exact(h b (Nat.not_lt.mp q)).symm
theorem upd_upd {σ:Sig}{a:Addr}{o o':AObj}:(σ.upd a o).upd a o'=σ.upd a o':=by
 funext b;unfold Sig.upd;by_cases q:b=a <;> simp[q]
theorem upd_comm {σ:Sig}{a b:Addr}{o o':AObj} (h:a≠b):(σ.upd a o).upd b o'=(σ.upd b o').upd a o:=by
 funext c;unfold Sig.upd
 by_cases q:c=a
 ·subst q;simp[h]
 ·simp[q]
theorem z0 (i:Nat):((0:Int)+(i:Int)).toNat=i:=by rw[Int.zero_add];rfl
theorem z1 (i:Nat):(0:Int)≤0+(i:Int):=by rw[Int.zero_add];exact Int.natCast_nonneg _
theorem z2 {i n:Nat}{m:Int} (h:i<n) (hm:(n:Int)≤m):(i:Int)<m:=Int.lt_of_lt_of_le (Int.ofNat_lt.mpr h) hm
theorem z6 {a b c:Nat} (h:a<b) (k:b≤c):a≤c:=Nat.le_of_lt (Nat.lt_of_lt_of_le h k)
theorem z9 {a b c:Nat} (h:a=b) (k:b≤c):a≤c:=h▸k
theorem sub_s {n k:Nat} (h:k<n):n-k=(n-(k+1))+1:=by rw[Nat.sub_add_eq,Nat.sub_one_add_one (Nat.sub_ne_zero_of_lt h)]
theorem ORl.mono {F F':FM} (hF:FLe F F'){p:Option PV}{v:Option Value} (h:ORl F p v):ORl F' p v:=by
 cases p with
 |none=>exact h
 |some p=>refine e1_2 h ?_;try clear h;intro w e r;exact⟨w,e,r.mono hF⟩
theorem OLe.mono {F F':FM} (hF:FLe F F'){p:Option PV}{v:Option Value} (h:OLe F p v):OLe F' p v:=by
 cases p with
 |none=>trivial
 |some p=>refine e1_2 h ?_;try clear h;intro w e r;exact⟨w,e,r.mono hF⟩
theorem Ns.of_get {h h':Heap}{a:Addr} {m} (x:h.Ns a m) (e:h'.get? a=h.get? a):h'.Ns a m :=
 by refine e3_2 x ?_;try clear x;intro o es ep ho r;exact⟨o,es,ep,e.trans ho,r⟩
theorem OR.keep {σ σ':Sig}{h h':Heap}{a:Addr}{ao:AObj} (x:OR σ h a ao) (hF:FLe (Fz σ h) (Fz σ' h')) (ha:h'.get? a=h.get? a)
  (hd:∀ C d fs n,ao=.inst C d fs n→h'.get? d=h.get? d∧σ' d=σ d):OR σ' h' a ao:=by
 cases ao with
 |list l=>refine e2_2 x ?_;try clear x;intro vs n e r;exact⟨vs,n,ha.trans e,r.mono hF⟩
 |inst C d fs n =>
  obtain ⟨e,lt,p,es,ep,ho,hk,hz,r⟩:=x
  refine e0_2 (hd C d fs n rfl) ?_;intro q1 q2
  exact⟨ha.trans e,lt,q2.trans p,es,ep,q1.trans ho,hk,hz,fun y=>(r y).mono hF⟩
 |part _=>refine e1_1 x ?_;try clear x;intro o e;exact⟨o,ha.trans e⟩
 |frame m=>refine e1_2 x ?_;try clear x;intro mc hn r;exact⟨mc,Ns.of_get hn ha,fun y=>(r y).mono hF⟩
 |cell p=>refine e2_4 x ?_;try clear x;intro o v ho hc hd r;exact⟨o,v,ha.trans ho,hc,hd,r.mono hF⟩
 |citer _ _=>refine e2_2 x ?_;try clear x;intro v t e r;exact⟨v,t,ha.trans e,r.mono hF⟩
 |own=>refine e2_1 x ?_;try clear x;intro o o' e;exact⟨o,o',ha.trans e⟩
theorem OR.there {σ:Sig}{h:Heap}{a:Addr}{ao:AObj} (x:OR σ h a ao):∃ o,h.get? a=some o:=by
 cases ao with
 |list l=>refine e2_2 x ?_;try clear x;intro vs n e r;exact⟨_,e⟩
 |inst C d fs n=>refine e0_2 x ?_;try clear x;intro e _;exact⟨_,e⟩
 |part _=>exact x
 |frame m=>refine e1_2 x ?_;try clear x;intro mc zz1 r;refine e3_2 zz1 ?_;clear zz1;intro o es ep ho _;exact⟨_,ho⟩
 |cell p=>refine e2_2 x ?_;try clear x;intro o v ho r;exact⟨_,ho⟩
 |citer _ _=>refine e2_2 x ?_;try clear x;intro v t e r;exact⟨_,e⟩
 |own=>refine e2_1 x ?_;try clear x;intro o o' e;exact⟨_,e⟩
theorem St.lt {W:Wd}{σ:Sig}{s:Shared} (S:St W σ s){a:Addr} (h:σ a≠none):a<s.heap.objs.size:=by
 cases e:σ a with
 |none=>exact absurd e h
 |some o=>refine e1_1 ((S.hr a o e).there) ?_;intro o' ho;exact Heap.lt_size ho
theorem St.fresh {W:Wd}{σ:Sig}{s:Shared} (S:St W σ s):Fresh σ s.heap.objs.size:=fun b hb=>by
 cases e:σ b with
 |none=>rfl
 |some o=>exact absurd (S.lt (a:=b) (by rw[e];simp)) (Nat.not_lt.mpr hb)
theorem St.same {W:Wd}{σ:Sig}{s s':Shared} (S:St W σ s) (h:s'.heap=s.heap) (o:s'.os=s.os) (g:s'.gens=s.gens) (t:s.toks≤s'.toks):St W σ s' :=
 ⟨fun a ao e=>by rw[h];exact S.hr a ao e,by rw[h];exact S.old,S.above,by rw[h];exact S.sz,by rw[h];exact S.lim,o.trans S.os,by rw[g];exact S.gens,Nat.le_trans S.tk t,by rw[h];exact S.tab⟩
theorem fle_push {σ:Sig}{h:Heap}{o:Obj}:FLe (Fz σ h) (Fz σ (h.push o)):=fun b o' hpat=>by refine e0_3 hpat ?_;try clear hpat;intro e1 e2 e3;exact⟨e1,Heap.get?_push_of_some _ e2,e3⟩
theorem fle_push_upd {σ:Sig}{h:Heap}{o:Obj}{ao:AObj}:FLe (Fz σ h) (Fz (σ.upd h.objs.size ao) (h.push o)):=fun b o' ⟨e1,e2,e3⟩ =>
 ⟨(upd_ne (Nat.ne_of_lt (Heap.lt_size e2))).trans e1,Heap.get?_push_of_some _ e2,e3⟩
theorem get_push_old {h:Heap}{o:Obj}{a:Addr} (x:∃ o',h.get? a=some o'):(h.push o).get? a=h.get? a:=by
 refine e1_1 x ?_;try clear x;intro o' e;rw[e];exact Heap.get?_push_of_some _ e
theorem St.dict_there {W:Wd}{σ:Sig}{s:Shared} (S:St W σ s){a:Addr} {C d fs n} (e:σ a=some (.inst C d fs n)):σ d=some (.part a)∧∃ o,s.heap.get? d=some o :=
 by obtain ⟨_,_,p,_,_,ho,_⟩:=S.hr a _ e;exact⟨p,_,ho⟩
theorem St.dict_lt {W:Wd}{σ:Sig}{s:Shared} (S:St W σ s){a:Addr} {C d fs n} (e:σ a=some (.inst C d fs n)):d<a:=(S.hr a _ e).2.1
theorem St.push {W:Wd}{σ:Sig}{s:Shared} (S:St W σ s) (o:Obj):St W σ { s with heap:=s.heap.push o } :=
 ⟨fun a ao e=>(S.hr a ao e).keep fle_push (get_push_old (S.hr a ao e).there) fun C d fs n q=>⟨get_push_old (S.dict_there (q▸e)).2,rfl⟩,
  S.old.step_keeps fun b o' e=>Heap.get?_push_of_some _ e,S.above,by rw[Heap.size_push];exact Nat.le_succ_of_le S.sz,S.lim.push o,S.os,S.gens,S.tk,S.tab.keep (fun a o _=>fle_push a o) (get_push_old S.tab.there)⟩
theorem St.pushUpd {W:Wd}{σ:Sig}{s:Shared} (S:St W σ s) (o:Obj) (ao:AObj) (hx:OR (σ.upd s.heap.objs.size ao) (s.heap.push o) s.heap.objs.size ao) :
  St W (σ.upd s.heap.objs.size ao) { s with heap:=s.heap.push o }:=by
 refine⟨fun a ao' e=>?_,S.old.step_keeps fun b o' e=>Heap.get?_push_of_some _ e,fun a h=>?_,by rw[Heap.size_push];exact Nat.le_succ_of_le S.sz,S.lim.push o,S.os,S.gens,S.tk,S.tab.keep (fun a o _=>fle_push_upd a o) (get_push_old S.tab.there)⟩
 ·by_cases q:a=s.heap.objs.size
  ·subst q;rw[upd_same] at e;cases e;exact hx
  ·rw[upd_ne q] at e
   exact(S.hr a ao' e).keep fle_push_upd (get_push_old (S.hr a ao' e).there) fun C d fs n z=>by
    obtain ⟨z1,o',z2⟩:=S.dict_there (z▸e)
    exact⟨get_push_old ⟨o',z2⟩,upd_ne (Nat.ne_of_lt (Heap.lt_size z2))⟩
 ·by_cases q:a=s.heap.objs.size
  ·subst q;exact S.sz
  ·exact S.above a (by rw[upd_ne q] at h;exact h)
theorem fle_upd {σ:Sig}{h h':Heap}{a:Addr}{ao:AObj} (ha:σ a≠none) (hs:Heap.SameBut a h h'):FLe (Fz σ h) (Fz (σ.upd a ao) h'):=fun b o ⟨e1,e2,e3⟩ =>
 have hb:b≠a:=fun q=>ha (q▸e1)
 ⟨(upd_ne hb).trans e1,(hs.2 b hb).trans e2,e3⟩
theorem St.tab_ne {W:Wd}{σ:Sig}{s:Shared} (S:St W σ s){a:Addr} (ha:σ a≠none):W.tP≠a:=fun q=>Nat.lt_irrefl _ (Nat.lt_of_lt_of_le W.tlt (q▸S.above a ha))
theorem St.lim_ne {W:Wd}{σ:Sig}{s:Shared} (S:St W σ s){a:Addr} (ha:σ a≠none) (hl:W.h₁.NoLimit):cStatics≠a:=by
 intro zz1;subst zz1
 refine e1_2 hl ?_;try clear hl;intro mc hn _
 exact absurd hn.lt (Nat.not_lt.mpr (S.above _ ha))
theorem St.update {W:Wd}{σ:Sig}{s:Shared} (S:St W σ s) (hl:W.h₁.NoLimit){a:Addr}{ao₀ ao:AObj} (ha:σ a=some ao₀) (hp:∀ b,ao₀ ≠ .part b){h':Heap} (hs:Heap.SameBut a s.heap h')
  (hx:OR (σ.upd a ao) h' a ao){tk:Nat} (ht:1≤tk:=by l_fit):St W (σ.upd a ao) { s with heap:=h',toks:=tk }:=by
 have hn:σ a≠none:=by rw[ha];simp
 refine⟨fun b bo e=>?_,S.old.step_same (S.above a hn) hs,fun b h=>?_,by show W.h₁.objs.size≤h'.objs.size;rw[hs.1];exact S.sz,S.lim.sameBut hs (S.lim_ne hn hl),S.os,S.gens,ht,S.tab.keep (fun a o _=>fle_upd hn hs a o) (hs.2 _ (S.tab_ne hn))⟩
 ·by_cases q:b=a
  ·subst q;rw[upd_same] at e;cases e;exact hx
  ·rw[upd_ne q] at e
   refine(S.hr b bo e).keep (fle_upd hn hs) (hs.2 b q) fun C d fs n z=>?_
   obtain ⟨z1,o',z2⟩:=S.dict_there (z▸e)
   have:d≠a:=fun w=>hp b (by rw[w,ha] at z1;exact Option.some.inj z1)
   exact⟨hs.2 d this,upd_ne this⟩
 ·by_cases q:b=a
  ·subst q;exact S.above _ hn
  ·exact S.above b (by rw[upd_ne q] at h;exact h)
theorem St.updateInst {W:Wd}{σ:Sig}{s:Shared} (S:St W σ s) (hl:W.h₁.NoLimit){a:Addr}{C d:Addr}{fs fs':Str→Option PV}{n n':Nat} (ha:σ a=some (.inst C d fs n)){h':Heap} (hs:Heap.SameBut d s.heap h')
  {es:Array DictEntry}{ep:Nat} (ho:h'.get? d=some ⟨.type "dict",Option.none,.dict es ep,#[]⟩) (hk:StrKeys es) (hz:es.size≤n') (hx:∀ x,ORl (Fz (σ.upd a (.inst C d fs' n')) h') (fs' x) (nsFind es x)){tk:Nat} (ht:1≤tk:=by l_fit) :
  St W (σ.upd a (.inst C d fs' n')) { s with heap:=h',toks:=tk }:=by
 obtain ⟨p,od,hod⟩:=S.dict_there ha
 have hd:σ d≠none:=by rw[p];simp
 have hna:σ a≠none:=by rw[ha];simp
 have da:d≠a:=fun q=>by rw[q,ha] at p;cases p
 have F1:FLe (Fz σ s.heap) (Fz (σ.upd a (.inst C d fs' n')) h'):=fun b o ⟨e1,e2,e3⟩ =>
  have h1:b≠d:=fun q=>hd (q▸e1)
  have h2:b≠a:=fun q=>hna (q▸e1)
  ⟨(upd_ne h2).trans e1,(hs.2 b h1).trans e2,e3⟩
 refine⟨fun b bo e=>?_,S.old.step_same (S.above d hd) hs,fun b h=>?_,by show W.h₁.objs.size≤h'.objs.size;rw[hs.1];exact S.sz,S.lim.sameBut hs (S.lim_ne hd hl),S.os,S.gens,ht,S.tab.keep (fun a o _=>F1 a o) (hs.2 _ (S.tab_ne hd))⟩
 ·by_cases q:b=a
  ·subst q;rw[upd_same] at e;cases e
   exact⟨(hs.2 b (Ne.symm da)).trans (S.hr b _ ha).1,S.dict_lt ha,(upd_ne da).trans p,es,ep,ho,hk,hz,hx⟩
  ·rw[upd_ne q] at e
   by_cases qd:b=d
   ·subst qd
    rw[p] at e;cases e
    exact⟨_,ho⟩
   ·refine(S.hr b bo e).keep F1 (hs.2 b qd) fun C' d' fs'' n'' z=>?_
    obtain ⟨z1,o',z2⟩:=S.dict_there (z▸e)
    have h1:d'≠d:=fun w=>by rw[w,p] at z1;cases z1;exact q rfl
    have h2:d'≠a:=fun w=>by rw[w,ha] at z1;cases z1
    exact⟨hs.2 d' h1,upd_ne h2⟩
 ·by_cases q:b=a
  ·subst q;exact S.above _ hna
  ·exact S.above b (by rw[upd_ne q] at h;exact h)
theorem fle_updInst {W:Wd}{σ:Sig}{s:Shared} (S:St W σ s){a:Addr}{C d:Addr}{fs fs':Str→Option PV}{n n':Nat} (ha:σ a=some (.inst C d fs n)){h':Heap} (hs:Heap.SameBut d s.heap h'):FLe (Fz σ s.heap) (Fz (σ.upd a (.inst C d fs' n')) h'):=by
 obtain ⟨p,od,hod⟩:=S.dict_there ha
 have hd:σ d≠none:=by rw[p];simp
 have hna:σ a≠none:=by rw[ha];simp
 exact fun b o ⟨e1,e2,e3⟩ =>
  have h1:b≠d:=fun q=>hd (q▸e1)
  have h2:b≠a:=fun q=>hna (q▸e1)
  ⟨(upd_ne h2).trans e1,(hs.2 b h1).trans e2,e3⟩
def Sub (σ' σ:Sig):Prop:=(∀ a o,σ' a=some o→σ a=some o)∧∀ a C d fs n,σ' a=some (.inst C d fs n)→σ' d=some (.part a)
theorem fle_sub {σ σ':Sig}{h:Heap} (x:Sub σ' σ):FLe (Fz σ h) (Fz σ' h):=fun b o hpat=>by
 refine e0_3 hpat ?_;try clear hpat;intro e1 e2 e3
 refine⟨?_,e2,e3⟩
 cases q:σ' b with
 |none=>rfl
 |some o'=>rw[x.1 b o' q] at e1;cases e1
theorem St.sub {W:Wd}{σ σ':Sig}{s:Shared} (S:St W σ s) (x:Sub σ' σ):St W σ' s :=
 ⟨fun a ao e=>(S.hr a ao (x.1 a ao e)).keep (fle_sub x) rfl fun C d fs n q=>by
   subst q
   have h1:=x.2 a C d fs n e
   exact⟨rfl,h1.trans (x.1 _ _ h1).symm⟩,
  S.old,fun a h=>S.above a fun q=>(by
  cases z:σ' a with
  |none=>exact h z
  |some o=>rw[x.1 a o z] at q;cases q),S.sz,S.lim,S.os,S.gens,S.tk,S.tab.keep (fun a o _=>fle_sub x a o) rfl⟩
theorem sub_res {W:Wd}{σ:Sig}{s:Shared} (S:St W σ s) (n:Addr):Sub (res n σ) σ:=by
 refine⟨fun a o e=>?_,fun a C d fs m e=>?_⟩
 ·unfold res at e;split at e
  ·exact e
  ·cases e
 ·unfold res at e;split at e
  ·rename_i h;rw[res_lt (Nat.lt_trans (S.dict_lt e) h)];exact(S.dict_there e).1
  ·cases e
structure Top (W:Wd):Prop where
 last:∃ o,W.h₁.get? (W.h₁.objs.size-1)=some o
 kin:W.K.In W.h₁
 kcls:∀ a o,W.K.lookup a=some o→o.cls ≠ .none
 lim:W.h₁.NoLimit
 glob:∃ o,W.h₁.get? mainGlobals=some o∧o.cls ≠ .none
 globN:W.h₁.Ns mainGlobals W.mg
 blt:∃ o,W.h₁.get? builtinsNs=some o∧o.cls ≠ .none
 bltN:W.h₁.Ns builtinsNs W.mb
theorem St.none_of_base {W:Wd}{σ:Sig}{s:Shared} (S:St W σ s){a:Addr}{o:Obj} (h:W.h₁.get? a=some o):σ a=none:=by
 cases e:σ a with
 |none=>rfl
 |some x=>exact absurd (Heap.lt_size h) (Nat.not_lt.mpr (S.above a (by rw[e];simp)))
theorem St.base {W:Wd}{σ:Sig}{s:Shared} (S:St W σ s){a:Addr}{o:Obj} (h:W.h₁.get? a=some o) (hc:o.cls ≠ .none):Fz σ s.heap a o :=
 ⟨S.none_of_base h,S.old.get_of_cls h hc,hc⟩
theorem St.kin {W:Wd}{σ:Sig}{s:Shared} (S:St W σ s) (T:Top W):W.K.In s.heap:=fun a o e=>S.old.get_of_cls (T.kin a o e) (T.kcls a o e)
theorem St.globN {W:Wd}{σ:Sig}{s:Shared} (S:St W σ s) (T:Top W):s.heap.Ns mainGlobals W.mg:=by
 refine e1_2 (T.glob) ?_;intro o h hc
 exact Ns.of_get T.globN ((S.old.get_of_cls h hc).trans h.symm)
theorem St.bltN {W:Wd}{σ:Sig}{s:Shared} (S:St W σ s) (T:Top W):s.heap.Ns builtinsNs W.mb:=by
 refine e1_2 (T.blt) ?_;intro o h hc
 exact Ns.of_get T.bltN ((S.old.get_of_cls h hc).trans h.symm)
abbrev E (W:Wd) (k:Nat) (env:Env) (e:Expr) (σ:Sig) (K:PV→Sig→Prop):Prop:=G W k PT VRel (eval e env) σ K
abbrev T (W:Wd) (k:Nat) (env:Env) (e:Expr) (σ:Sig) (K:Bool→Sig→Prop):Prop:=G W k PT REq (isTrue e env (eval e env)) σ K
abbrev X (W:Wd) (k:Nat) (env:Env) (st:Stmt) (σ:Sig) (K:AFlow→Sig→Prop):Prop:=G W k PT LRel (exec st env) σ K
abbrev XS (W:Wd) (k:Nat) (env:Env) (sts:List Stmt) (σ:Sig) (K:AFlow→Sig→Prop):Prop:=G W k PT LRel (execs sts env) σ K
abbrev O1 {α β:Type} (W:Wd) (k:Nat) (R:FM→β→α→Prop) (f:Value→Sem α) (a:PV) (σ:Sig) (K:β→Sig→Prop):Prop:=∀ v,G W k (fun F=>VRel F a v) R (f v) σ K
abbrev O2 {α β:Type} (W:Wd) (k:Nat) (R:FM→β→α→Prop) (f:Value→Value→Sem α) (a b:PV) (σ:Sig) (K:β→Sig→Prop):Prop:=∀ va vb,G W k (fun F=>VRel F a va∧VRel F b vb) R (f va vb) σ K
abbrev jBo (W:Wd) (k:Nat) (f:Value→Value→Sem Value) (a:PV) (K:PV→Sig→Prop) (b:PV) (σ:Sig):Prop:=O2 W k VRel f a b σ K
abbrev jB (W:Wd) (k:Nat) (env:Env) (r:Expr) (f:Value→Value→Sem Value) (K:PV→Sig→Prop) (a:PV) (σ:Sig):Prop:=E W k env r σ (jBo W k f a K)
abbrev jT (W:Wd) (k:Nat) (K:Bool→Sig→Prop) (c:PV) (σ:Sig):Prop:=O1 W k REq truthy c σ K
abbrev jX (W:Wd) (k:Nat) (env:Env) (rest:List Stmt) (K:AFlow→Sig→Prop) (f:AFlow) (σ:Sig):Prop:=match f with | .next=>XS W k env rest σ K |f=>K f σ
abbrev jIf (W:Wd) (k:Nat) (env:Env) (b o:List Stmt) (K:AFlow→Sig→Prop) (c:Bool) (σ:Sig):Prop:=if c then XS W k env b σ K else XS W k env o σ K
abbrev jR (K:AFlow→Sig→Prop) (p:PV) (σ:Sig):Prop:=K (.ret p) σ
abbrev jN (K:AFlow→Sig→Prop) (_:Unit) (σ:Sig):Prop:=K .next σ
abbrev jS (W:Wd) (k:Nat) (env:Env) (x:Str) (K:AFlow→Sig→Prop) (p:PV) (σ:Sig):Prop:=O1 W k REq (storeName env x) p σ (jN K)
section
variable {W:Wd}{k:Nat}{env:Env}{σ:Sig}{P:FM→Prop}
theorem G.id {α β:Type}{R:FM→β→α→Prop}{t:Sem α}{K:β→Sig→Prop}{b:β} (hK:K b σ)
  (h:∀ A,Room A k→∀ s,St W σ s→P (FrOf σ s)→∀ Q:α→Shared→Prop,(∀ v s',s'.heap=s.heap→s'.os=s.os→s'.gens=s.gens→R (FrOf σ s) b v→Q v s')→wpAny (model W.prog W.w) A t Q (fun _ _=>False) s):G W k P R t σ K :=
 fun A hA s hs hP=>wpAny_tok (h A hA s hs hP _ fun v s' e1 e2 e3 r (et:s.toks≤s'.toks)=>⟨b,σ,hs.same e1 e2 e3 et,by show FLe (Fz σ s.heap) (Fz σ s'.heap);rw[e1];exact FLe.refl _,by show R (Fz σ s'.heap) b v;rw[e1];exact r,hK⟩)
theorem E_int {i:Int}{n:Nat}{pos:Pos}{K:PV→Sig→Prop} (h:K (.int i) σ):E W k env (.Constant (.int i) n pos) σ K :=
 .id h fun A hA s hs hP Q q=>wpAny_Constant_int (q _ _ rfl rfl rfl ⟨_,rfl⟩)
theorem E_str {x:Str}{n:Nat}{pos:Pos}{K:PV→Sig→Prop} (h:K (.str x.cps.toList) σ):E W k env (.Constant (.str x) n pos) σ K :=
 .id h fun A hA s hs hP Q q=>wpAny_Constant_str (q _ _ rfl rfl rfl ⟨s.toks,by cases x;simp⟩)
theorem E_none {n:Nat}{pos:Pos}{K:PV→Sig→Prop} (h:K .none σ):E W k env (.Constant .none n pos) σ K :=
 .id h fun A hA s hs hP Q q=>wpAny_Constant_none (q _ _ rfl rfl rfl rfl)
theorem E_bool {b:Bool}{n:Nat}{pos:Pos}{K:PV→Sig→Prop} (h:K (.bool b) σ):E W k env (.Constant (.bool b) n pos) σ K :=
 .id h fun A hA s hs hP Q q=>wpAny_Constant_bool (q _ _ rfl rfl rfl rfl)
theorem L_local {x:Str}{m:Str→Option PV}{p:PV}{K:PV→Sig→Prop} (hk:env.scope.kind=.function) (hl:env.kindOf x=some .local) (hσ:σ env.locals=some (.frame m)) (hm:m x=some p)
  (h:K p σ):G W k P VRel (loadName env x) σ K:=.id h fun A hA s hs hP Q q=>by
 refine e1_2 (hs.hr _ _ hσ) ?_;intro mc hn r
 have:=r x
 rw[hm] at this
 refine e1_2 this ?_;try clear this;intro w e rw
 exact wpAny_loadName_local hk hl hn e (q _ _ rfl rfl rfl rw)
theorem L_cell {x:Str}{c:Addr}{p:PV}{K:PV→Sig→Prop} (hk:env.scope.kind=.function) (hl:env.kindOf x=some .cell) (hc:env.cells.lookup x=some c) (hσ:σ c=some (.cell (some p)))
  (h:K p σ):G W k P VRel (loadName env x) σ K:=.id h fun A hA s hs hP Q q=>by
 obtain ⟨o,v,ho,_,hd,w,e,r⟩:=hs.hr _ _ hσ
 subst e
 exact wpAny_loadName_cell hk hl hc ⟨o,ho,hd⟩ (q _ _ rfl rfl rfl r)
theorem crels_get {F:FM}:∀ {cs:List (Str×PV)}{cl:List (Str×Addr)}{x:Str}{p:PV},CRels F cs cl→cs.lookup x=some p→∃ c o v,cl.lookup x=some c∧F c o∧o.data=.cell (some v)∧VRel F p v
 |(y,p')::l,_,x,p,h,e=>by
  refine e4_6 h ?_;try clear h;intro c o v r zz1 f z d a b;subst zz1
  rw[List.lookup_cons] at e ⊢
  cases q:x==y with
  |true=>rw[q] at e;cases e;exact⟨c,o,v,rfl,f,d,a⟩
  |false=>rw[q] at e;exact crels_get b e
theorem E_name {x:Str}{pos:Pos}{K:PV→Sig→Prop} (h:G W k P VRel (loadName env x) σ K) (hd:autoParam ((x==("__debug__":Str))=false) tD):G W k P VRel (eval (.Name x pos) env) σ K :=
 fun A hA s hs hP=>wpAny_Name (h A hA s hs hP) hd
theorem E_glob (T:Top W){x:Str}{pos:Pos}{a:Addr}{K:PV→Sig→Prop} (hk:env.scope.kind=.function) (hx:env.kindOf x=some .globalImplicit) (hg:env.globals=mainGlobals) (hv:W.mg x=some (.ref a))
  (h:K (.ref a) σ) (hd:autoParam ((x==("__debug__":Str))=false) tD):G W k P VRel (eval (.Name x pos) env) σ K:=.id h fun A hA s hs hP Q q =>
 Calls.Name_function_global hk hx (Calls.loadGlobal_global (by rw[hg];exact hs.globN T) hv (q _ _ rfl rfl rfl rfl)) hd
theorem E_blt (T:Top W){x:Str}{pos:Pos}{p:PV}{v:Value}{K:PV→Sig→Prop} (hk:env.scope.kind=.function) (hx:env.kindOf x=some .globalImplicit) (hg:env.globals=mainGlobals) (hb:env.builtins=builtinsNs)
  (hm:W.mg x=none) (hv:W.mb x=some v) (hp:∀ F,VRel F p v)
  (h:K p σ) (hd:autoParam ((x==("__debug__":Str))=false) tD):G W k P VRel (eval (.Name x pos) env) σ K:=.id h fun A hA s hs hP Q q =>
 Calls.Name_function_global hk hx (Calls.loadGlobal_builtin (by rw[hg];exact hs.globN T) hm (by rw[hb];exact hs.bltN T) hv (q _ _ rfl rfl rfl (hp _))) hd
theorem vmono:∀ F F' b v,FLe F F'→VRel F b v→VRel F' b v:=fun _ _ _ _ m r=>VRel.mono m r
theorem G.and2 {α β γ δ ε ζ:Type}{R:FM→β→α→Prop}{S:FM→δ→γ→Prop}{U:FM→ζ→ε→Prop}{t:Sem α}{u:Sem γ}{f:α→γ→Sem ε}{K:ζ→Sig→Prop}
  (hm:∀ F F' b v,FLe F F'→R F b v→R F' b v)
  (h:G W k P R t σ fun a σ₁=>G W k P S u σ₁ fun b σ₂=>∀ va vb,G W k (fun F=>R F a va∧S F b vb) U (f va vb) σ₂ K) (hPm:∀ F F',FLe F F'→P F→P F') :
  ∀ A,Room A k→∀ s,St W σ s→P (FrOf σ s)→wpAny (model W.prog W.w) A t (fun va s₁=>wpAny (model W.prog W.w) A u (fun vb s₂=>wpAny (model W.prog W.w) A (f va vb)
   (fun v s'=>∃ b σ',St W σ' s'∧FLe (FrOf σ s) (FrOf σ' s')∧U (FrOf σ' s') b v∧K b σ') (fun _ _=>False) s₂) (fun _ _=>False) s₁) (fun _ _=>False) s :=
 fun A hA s hs hP=>G.use h A hA s hs hP (fun va s₁ a σ₁ a1 a2 a3 a4=>G.use a4 A hA s₁ a1 (hPm _ _ a2 hP) (fun vb s₂ b σ₂ b1 b2 b3 b4 =>
  G.use (b4 va vb) A hA s₂ b1 ⟨hm _ _ _ _ b2 a3,b3⟩ (fun v s' c σ₃ c1 c2 c3 c4=>⟨c,σ₃,c1,(a2.trans b2).trans c2,c3,c4⟩) fun _ _ x=>x) fun _ _ x=>x) fun _ _ x=>x
theorem E_BinOp {l r:Expr}{op:Operator}{pos:Pos}{K:PV→Sig→Prop} (h:E W k env l σ (jB W k env r (binaryOp op) K)):E W k env (.BinOp l op r pos) σ K :=
 fun A hA s hs hP=>wpAny_BinOp (G.and2 (R:=VRel) (S:=VRel) vmono h (fun _ _ _ x=>x) A hA s hs hP)
theorem E_Compare {l r:Expr}{op:CmpOp}{pos:Pos}{K:PV→Sig→Prop} (h:E W k env l σ (jB W k env r (compareOp op) K))
  (hm:autoParam (behindInMarks op r=false) tW):E W k env (.Compare l [op] [r] pos) σ K :=
 fun A hA s hs hP=>wpAny_Compare1 (G.and2 (R:=VRel) (S:=VRel) vmono h (fun _ _ _ x=>x) A hA s hs hP) hm
theorem T_Compare {l r:Expr}{op:CmpOp}{pos:Pos}{K:Bool→Sig→Prop} (h:E W k env l σ (jB W k env r (compareOp op) (jT W k K)))
  (hm:autoParam (behindInMarks op r=false) tW):T W k env (.Compare l [op] [r] pos) σ K :=
 fun A hA s hs hP=>wpAny_isTrue_Compare1 (wpAny_mono (G.and2 (R:=VRel) (S:=VRel) vmono h (fun _ _ _ x=>x) A hA s hs hP) (fun va s₁ h₁=>wpAny_mono h₁ (fun vb s₂ h₂=>wpAny_mono h₂ (fun vc s₃ ⟨c,σ₃,c1,c2,c3,c4⟩ =>
  G.use (c4 vc) A hA s₃ c1 c3 (fun v s' d σ₄ d1 d2 d3 d4=>⟨d,σ₄,d1,c2.trans d2,d3,d4⟩) fun _ _ x=>x) fun _ _ x=>x) fun _ _ x=>x) fun _ _ x=>x) hm
theorem truthy_bool {b:Bool}{K:Bool→Sig→Prop} (h:K b σ):O1 W k REq truthy (.bool b) σ K:=fun v=>.id h fun A hA s hs hP Q q=>by
 obtain rfl:v=.bool b:=hP
 exact wpAny_truthy_bool (q _ _ rfl rfl rfl rfl)
theorem T_val {e:Expr}{K:Bool→Sig→Prop} (h:E W k env e σ (jT W k K)) (hs:autoParam (∀ whole,isTrue e env whole=(do let v ← whole;standAt e.pos;holding [v] (truthy v))) tI):T W k env e σ K :=
 fun A hA s hs' hP=>by
  rw[hs]
  refine wpAny_bind (G.use h A hA s hs' hP (fun vc s₃ c σ₃ c1 c2 c3 c4=>wpAny_bind (wpAny_standAt (wpAny_holding
   (G.use (c4 vc) A hA s₃ c1 c3 (fun v s' d σ₄ d1 d2 d3 d4=>⟨d,σ₄,d1,c2.trans d2,d3,d4⟩) fun _ _ x=>x)))) fun _ _ x=>x)
theorem T_not {e:Expr}{pos:Pos}{K:Bool→Sig→Prop} (h:T W k env e σ fun b σ₁=>K (!b) σ₁):T W k env (.UnaryOp .Not e pos) σ K :=
 fun A hA s hs hP=>wpAny_isTrue_Not (G.use h A hA s hs hP (fun v s' d σ₄ d1 d2 d3 d4=>by cases d3;exact⟨_,σ₄,d1,d2,rfl,d4⟩) fun _ _ x=>x)
theorem T_and {x y:Expr}{pos:Pos}{K:Bool→Sig→Prop} (h:T W k env x σ fun b σ₁=>if b then T W k env y σ₁ K else K false σ₁):T W k env (.BoolOp .And [x,y] pos) σ K :=
 fun A hA s hs hP=>wpAny_isTrue_BoolOp (wpAny_allTrue_And_cons (G.use h A hA s hs hP (fun v s' d σ₄ d1 d2 d3 d4=>by
  cases d3
  cases v with
  |false=>exact⟨_,σ₄,d1,d2,rfl,d4⟩
  |true=>exact wpAny_allTrue_And_cons (G.use d4 A hA s' d1 trivial (fun v' s'' e σ₅ e1 e2 e3 e4=>by
    cases e3
    cases v' with
    |false=>exact⟨_,σ₅,e1,d2.trans e2,rfl,e4⟩
    |true=>exact wpAny_allTrue_And_nil ⟨_,σ₅,e1,d2.trans e2,rfl,e4⟩) fun _ _ x=>x)) fun _ _ x=>x))
theorem T_or {x y:Expr}{pos:Pos}{K:Bool→Sig→Prop} (h:T W k env x σ fun b σ₁=>if b then K true σ₁ else T W k env y σ₁ K):T W k env (.BoolOp .Or [x,y] pos) σ K :=
 fun A hA s hs hP=>wpAny_isTrue_BoolOp (wpAny_allTrue_Or_cons (G.use h A hA s hs hP (fun v s' d σ₄ d1 d2 d3 d4=>by
  cases d3
  cases v with
  |true=>exact⟨_,σ₄,d1,d2,rfl,d4⟩
  |false=>exact wpAny_allTrue_Or_cons (G.use d4 A hA s' d1 trivial (fun v' s'' e σ₅ e1 e2 e3 e4=>by
    cases e3
    cases v' with
    |true=>exact⟨_,σ₅,e1,d2.trans e2,rfl,e4⟩
    |false=>exact wpAny_allTrue_Or_nil ⟨_,σ₅,e1,d2.trans e2,rfl,e4⟩) fun _ _ x=>x)) fun _ _ x=>x))
theorem E_IfExp {t b o:Expr}{pos:Pos}{K:PV→Sig→Prop} (h:T W k env t σ fun c σ₁=>if c then E W k env b σ₁ K else E W k env o σ₁ K):E W k env (.IfExp t b o pos) σ K :=
 fun A hA s hs hP=>wpAny_IfExp (G.use h A hA s hs hP (fun v s' d σ₄ d1 d2 d3 d4=>by
  cases d3
  cases v <;> exact G.use d4 A hA s' d1 trivial (fun v' s'' e σ₅ e1 e2 e3 e4=>⟨e,σ₅,e1,d2.trans e2,e3,e4⟩) fun _ _ x=>x) fun _ _ x=>x)
theorem XS_nil {K:AFlow→Sig→Prop} (h:K .next σ):XS W k env [] σ K:=fun A hA s hs hP=>wpAny_execs_nil ⟨AFlow.next,σ,hs,FLe.refl _,rfl,h⟩
theorem XS_cons {st:Stmt}{rest:List Stmt}{K:AFlow→Sig→Prop} (h:X W k env st σ (jX W k env rest K)):XS W k env (st::rest) σ K :=
 fun A hA s hs hP=>wpAny_execs_cons (G.use h A hA s hs hP (fun f s' d σ₄ d1 d2 d3 d4=>by
  cases d with
  |next=>cases d3;exact G.use d4 A hA s' d1 trivial (fun v' s'' e σ₅ e1 e2 e3 e4=>⟨e,σ₅,e1,d2.trans e2,e3,e4⟩) fun _ _ x=>x
  |brk=>cases d3;exact⟨AFlow.brk,σ₄,d1,d2,rfl,d4⟩
  |cont=>cases d3;exact⟨AFlow.cont,σ₄,d1,d2,rfl,d4⟩
  |ret p=>refine e1_2 d3 ?_;try clear d3;intro v zz1 r;subst zz1;exact⟨.ret p,σ₄,d1,d2,⟨v,rfl,r⟩,d4⟩) fun _ _ x=>x)
theorem X_If {t:Expr}{b o:List Stmt}{pos:Pos}{K:AFlow→Sig→Prop} (h:T W k env t σ (jIf W k env b o K)):X W k env (.If t b o pos) σ K :=
 fun A hA s hs hP=>wpAny_If (G.use h A hA s hs hP (fun v s' d σ₄ d1 d2 d3 d4=>by
  cases d3
  cases v <;> exact G.use d4 A hA s' d1 trivial (fun v' s'' e σ₅ e1 e2 e3 e4=>⟨e,σ₅,e1,d2.trans e2,e3,e4⟩) fun _ _ x=>x) fun _ _ x=>x)
theorem X_Return {e:Expr}{pos:Pos}{K:AFlow→Sig→Prop} (h:E W k env e σ (jR K)):X W k env (.Return (some e) pos) σ K :=
 fun A hA s hs hP=>wpAny_Return_some (G.use h A hA s hs hP (fun v s' d σ₄ d1 d2 d3 d4=>⟨.ret d,σ₄,d1,d2,⟨v,rfl,d3⟩,d4⟩) fun _ _ x=>x)
theorem X_Continue {pos:Pos}{K:AFlow→Sig→Prop} (h:K .cont σ):X W k env (.Continue pos) σ K:=.id h fun A hA s hs hP Q q=>wpAny_Continue (q _ _ rfl rfl rfl rfl)
theorem X_Break {pos:Pos}{K:AFlow→Sig→Prop} (h:K .brk σ):X W k env (.Break pos) σ K:=.id h fun A hA s hs hP Q q=>wpAny_Break (q _ _ rfl rfl rfl rfl)
theorem S_local (T:Top W){x:Str}{m:Str→Option PV}{p:PV}{K:Unit→Sig→Prop} (hk:env.scope.kind=.function) (hl:env.kindOf x=some .local) (hσ:σ env.locals=some (.frame m))
  (h:K () (σ.upd env.locals (.frame (fset m x p)))):O1 W k REq (storeName env x) p σ K:=fun v A hA s hs hP=>by
 refine e1_2 (hs.hr _ _ hσ) ?_;intro mc hn r
 have hne:σ env.locals≠none:=by rw[hσ];simp
 refine wpAny_storeName_local hl hn (fun h' hn' hsb=>?_) (by show(env.scope.kind == .class ||(env.scope.kind == .module&&env.locals != env.globals))=false;rw[hk];rfl)
 have F1:FLe (Fz σ s.heap) (Fz (σ.upd env.locals (.frame (fset m x p))) h'):=fle_upd hne hsb
 refine⟨(),_,hs.update (ao:=.frame (fset m x p)) T.lim hσ (fun b q=>by cases q) hsb ⟨_,hn',fun y=>?_⟩,F1,rfl,h⟩
 by_cases q:y=x
 ·subst q
  rw[fset_same]
  exact⟨v,if_pos rfl,VRel.mono F1 hP⟩
 ·rw[fset_ne q]
  simp only[q,if_false]
  exact OLe.mono F1 (r y)
theorem S_cell (T:Top W){x:Str}{c:Addr}{p₀:Option PV}{p:PV}{K:Unit→Sig→Prop} (hk:env.scope.kind=.function) (hl:env.kindOf x=some .cell) (hc:env.cells.lookup x=some c) (hσ:σ c=some (.cell p₀))
  (h:K () (σ.upd c (.cell (some p)))):O1 W k REq (storeName env x) p σ K:=fun v A hA s hs hP=>by
 refine e2_4 (hs.hr _ _ hσ) ?_;intro o v₀ ho hcl hd r
 have hne:σ c≠none:=by rw[hσ];simp
 unfold storeName
 rw[hl,hk]
 refine wpAny_bind (wpAny_cellOf hc ?_)
 unfold cellSet
 refine wpAny_bind (wpAny_load ho ?_)
 rw[hd]
 have hsb:=Heap.SameBut.update s.heap c fun o=>{ o with data:=.cell (some v) }
 refine wpAny_update ho ?_
 have F1:FLe (Fz σ s.heap) (Fz (σ.upd c (.cell (some p))) (s.heap.update c fun o=>{ o with data:=.cell (some v) })):=fle_upd hne hsb
 exact⟨(),_,hs.update (ao:=.cell (some p)) T.lim hσ (fun b q=>by cases q) hsb ⟨{ o with data:=.cell (some v) },some v,Heap.get?_update_self _ ho rfl,hcl,rfl,v,rfl,VRel.mono F1 hP⟩,F1,rfl,h⟩
theorem X_Assign {x:Str}{value:Expr}{pos pos':Pos}{K:AFlow→Sig→Prop} (h:E W k env value σ (jS W k env x K))
  (hsw:autoParam (swapsWith value (some (.Name x pos')) pos.line env=Pure.pure false) tR):X W k env (.Assign [.Name x pos'] value pos) σ K :=
 fun A hA s hs hP=>wpAny_Assign_Name (G.use h A hA s hs hP (fun v s' d σ₄ d1 d2 d3 d4=>G.use (d4 v) A hA s' d1 d3 (fun u s'' e σ₅ e1 e2 e3 e4=>⟨.next,σ₅,e1,d2.trans e2,rfl,e4⟩) fun _ _ x=>x) fun _ _ x=>x) hsw
theorem X_AugName {x:Str}{op:Operator}{value:Expr}{pos pos':Pos}{K:AFlow→Sig→Prop}
  (h:G W k PT VRel (loadName env x) σ (jB W k env value (inplaceOp op) (jS W k env x K))) :
  X W k env (.AugAssign (.Name x pos') op value pos) σ K :=
 fun A hA s hs hP=>wpAny_AugAssign_Name (wpAny_mono (G.and2 (R:=VRel) (S:=VRel) vmono h (fun _ _ _ x=>x) A hA s hs hP) (fun va s₁ h₁=>wpAny_mono h₁ (fun vb s₂ h₂=>wpAny_mono h₂ (fun vc s₃ ⟨c,σ₃,c1,c2,c3,c4⟩ =>
  G.use (c4 vc) A hA s₃ c1 c3 (fun v s' d σ₄ d1 d2 d3 d4=>⟨.next,σ₄,d1,c2.trans d2,rfl,d4⟩) fun _ _ x=>x) fun _ _ x=>x) fun _ _ x=>x) fun _ _ x=>x)
theorem X_Expr {e:Expr}{pos:Pos}{K:AFlow→Sig→Prop} (h:E W k env e σ fun p σ₁=>p=.none∧K .next σ₁)
  (hi:autoParam (interactive env=false) tR) (hsw:autoParam (swapsWith e none pos.line env=Pure.pure false) tR):X W k env (.Expr e pos) σ K :=
 fun A hA s hs hP=>wpAny_Expr (wpAny_mono (h A hA s hs hP) (fun v s' hpat=>by refine e2_5 hpat ?_;try clear hpat;intro d σ₄ d1 d2 d3 d4 d5;subst d4;cases d3;exact⟨.next,σ₄,d1,d2,rfl,d5⟩) fun _ _ x=>x) hi hsw
end
theorem vint {F:FM}{i:Int}{t:Tok}:VRel F (.int i) (.int i t):=⟨t,rfl⟩
theorem vint' {F:FM}{i j:Int}{t:Tok} (e:i=j):VRel F (.int i) (.int j t):=⟨t,by rw[e]⟩
theorem vstr {F:FM}{x:List Nat}{y:Str}{t:Tok} (e:y=⟨x.toArray⟩):VRel F (.str x) (.str y t):=⟨t,by rw[e]⟩
theorem vbool {F:FM}{b b':Bool} (e:b'=b):VRel F (.bool b) (.bool b'):=by rw[e];exact rfl
section
variable {W:Wd}{k:Nat}{σ:Sig}{K:PV→Sig→Prop}{a b:Int}{x y:List Nat}
theorem add_ii (h:K (.int (a+b)) σ):O2 W k VRel (binaryOp .Add) (.int a) (.int b) σ K:=fun va vb=>.id h fun A hA s hs hP Q q=>by
 obtain ⟨⟨t,rfl⟩,u,rfl⟩:=hP;with_reducible exact add_int (q _ _ rfl rfl rfl vint)
theorem iadd_ii (h:K (.int (a+b)) σ):O2 W k VRel (inplaceOp .Add) (.int a) (.int b) σ K:=fun va vb=>.id h fun A hA s hs hP Q q=>by
 obtain ⟨⟨t,rfl⟩,u,rfl⟩:=hP;with_reducible exact iadd_int (q _ _ rfl rfl rfl vint)
theorem sub_ii (h:K (.int (a-b)) σ):O2 W k VRel (binaryOp .Sub) (.int a) (.int b) σ K:=fun va vb=>.id h fun A hA s hs hP Q q=>by
 obtain ⟨⟨t,rfl⟩,u,rfl⟩:=hP;with_reducible exact sub_int (q _ _ rfl rfl rfl vint)
theorem mul_ii (h:K (.int (a*b)) σ) (hm:IntMulOk a b:=by mul_fits):O2 W k VRel (binaryOp .Mult) (.int a) (.int b) σ K:=fun va vb=>.id h fun A hA s hs hP Q q=>by
 obtain ⟨⟨t,rfl⟩,u,rfl⟩:=hP;with_reducible exact mul_int (q _ _ rfl rfl rfl vint) hm
theorem div_ii (hb:0<b) (hb2:b<1000000000) (h:K (.int (a/b)) σ):O2 W k VRel (binaryOp .FloorDiv) (.int a) (.int b) σ K:=fun va vb=>.id h fun A hA s hs hP Q q=>by
 obtain ⟨⟨t,rfl⟩,u,rfl⟩:=hP;with_reducible exact floordiv_int (by lia) (q _ _ rfl rfl rfl (vint' (by rw[Int.fdiv_eq_ediv_of_nonneg _ (by lia)]))) (.inl (PyProof.noPylong_small (by lia)))
theorem mod_ii (hb:0<b) (h:K (.int (a%b)) σ):O2 W k VRel (binaryOp .Mod) (.int a) (.int b) σ K:=fun va vb=>.id h fun A hA s hs hP Q q=>by
 obtain ⟨⟨t,rfl⟩,u,rfl⟩:=hP;with_reducible exact mod_int' (by lia) (q _ _ rfl rfl rfl (vint' (by rw[Int.fmod_eq_emod_of_nonneg _ (by lia)])))
theorem shl_ii (hb:0≤b) (hb2:b≤1000) (ha:a.natAbs<2^64) (h:K (.int (a*2^b.toNat)) σ):O2 W k VRel (binaryOp .LShift) (.int a) (.int b) σ K:=fun va vb=>.id h fun A hA s hs hP Q q=>by
 obtain ⟨⟨t,rfl⟩,u,rfl⟩:=hP;with_reducible exact lshift_int_small hb (by lia) ha (q _ _ rfl rfl rfl vint)
theorem shr_ii (hb:0≤b) (h:K (.int (a/2^b.toNat)) σ):O2 W k VRel (binaryOp .RShift) (.int a) (.int b) σ K:=fun va vb=>.id h fun A hA s hs hP Q q=>by
 obtain ⟨⟨t,rfl⟩,u,rfl⟩:=hP
 with_reducible exact rshift_int hb (q _ _ rfl rfl rfl (vint' (by rw[Int.fdiv_eq_ediv_of_nonneg _ (Int.pow_nonneg (by decide))])))
theorem pow_ii (hb:0≤b) (hs':(Builtin.Int.intBits a:Int)*b≤2^27) (h:K (.int (a^b.toNat)) σ):O2 W k VRel (binaryOp .Pow) (.int a) (.int b) σ K:=fun va vb=>.id h fun A hA s hs hP Q q=>by
 obtain ⟨⟨t,rfl⟩,u,rfl⟩:=hP;with_reducible exact pow_int hb hs' (q _ _ rfl rfl rfl vint)
theorem and_ii (h:K (.int (Builtin.bitAnd a b)) σ):O2 W k VRel (binaryOp .BitAnd) (.int a) (.int b) σ K:=fun va vb=>.id h fun A hA s hs hP Q q=>by
 obtain ⟨⟨t,rfl⟩,u,rfl⟩:=hP;with_reducible exact and_int (q _ _ rfl rfl rfl vint)
theorem ixor_ii (h:K (.int (Builtin.bitXor a b)) σ):O2 W k VRel (inplaceOp .BitXor) (.int a) (.int b) σ K:=fun va vb=>.id h fun A hA s hs hP Q q=>by
 obtain ⟨⟨t,rfl⟩,u,rfl⟩:=hP;with_reducible exact ixor_int (q _ _ rfl rfl rfl vint)
theorem eq_ii (h:K (.bool (decide (a=b))) σ):O2 W k VRel (compareOp .Eq) (.int a) (.int b) σ K:=fun va vb=>.id h fun A hA s hs hP Q q=>by
 obtain ⟨⟨t,rfl⟩,u,rfl⟩:=hP;with_reducible exact eq_int (q _ _ rfl rfl rfl (vbool (by rw[Bool.beq_eq_decide_eq])))
theorem lt_ii (h:K (.bool (decide (a<b))) σ):O2 W k VRel (compareOp .Lt) (.int a) (.int b) σ K:=fun va vb=>.id h fun A hA s hs hP Q q=>by
 obtain ⟨⟨t,rfl⟩,u,rfl⟩:=hP;with_reducible exact lt_int (q _ _ rfl rfl rfl (vbool rfl))
theorem gt_ii (h:K (.bool (decide (a>b))) σ):O2 W k VRel (compareOp .Gt) (.int a) (.int b) σ K:=fun va vb=>.id h fun A hA s hs hP Q q=>by
 obtain ⟨⟨t,rfl⟩,u,rfl⟩:=hP;with_reducible exact gt_int (q _ _ rfl rfl rfl (vbool rfl))
theorem str_app (x y:List Nat):(⟨x.toArray⟩++⟨y.toArray⟩:Str)=⟨(x++y).toArray⟩:=by
 apply Str.ext'
 rw[Str.cps_append]
 simp
theorem str_len (x:List Nat):(⟨x.toArray⟩:Str).length=x.length:=by show x.toArray.size=_;simp
theorem add_ss (hz:x.length+y.length≤16000000) (h:K (.str (x++y)) σ):O2 W k VRel (binaryOp .Add) (.str x) (.str y) σ K:=fun va vb=>.id h fun A hA s hs hP Q q=>by
 obtain ⟨⟨t,rfl⟩,u,rfl⟩:=hP
 with_reducible exact add_str (fun t' tk=>q _ _ rfl rfl rfl (vstr (by rw[str_app]))) (by rw[str_len,str_len,sizeLine_eq];exact Nat.le_trans (by assumption) (by decide))
theorem iadd_ss (hz:x.length+y.length≤16000000) (h:K (.str (x++y)) σ):O2 W k VRel (inplaceOp .Add) (.str x) (.str y) σ K:=fun va vb=>.id h fun A hA s hs hP Q q=>by
 obtain ⟨⟨t,rfl⟩,u,rfl⟩:=hP
 with_reducible exact iadd_str (fun t' tk=>q _ _ rfl rfl rfl (vstr (by rw[str_app]))) (by rw[str_len,str_len,sizeLine_eq];exact Nat.le_trans (by assumption) (by decide))
theorem eq_ss (h:K (.bool (decide (x=y))) σ):O2 W k VRel (compareOp .Eq) (.str x) (.str y) σ K:=fun va vb=>.id h fun A hA s hs hP Q q=>by
 obtain ⟨⟨t,rfl⟩,u,rfl⟩:=hP;with_reducible exact eq_str (q _ _ rfl rfl rfl (vbool (by rw[Bool.beq_eq_decide_eq];simp)))
theorem ne_ss (h:K (.bool (!decide (x=y))) σ):O2 W k VRel (compareOp .NotEq) (.str x) (.str y) σ K:=fun va vb=>.id h fun A hA s hs hP Q q=>by
 obtain ⟨⟨t,rfl⟩,u,rfl⟩:=hP;with_reducible exact ne_str (q _ _ rfl rfl rfl (vbool (by rw[bne,Bool.beq_eq_decide_eq];simp)))
theorem in_cs {c:Nat} (h:K (.bool (decide (c∈x))) σ):O2 W k VRel (compareOp .In) (.str [c]) (.str x) σ K:=fun va vb=>.id h fun A hA s hs hP Q q=>by
 obtain ⟨⟨t,rfl⟩,u,rfl⟩:=hP
 with_reducible refine in_str (q _ _ rfl rfl rfl ?_)
 show _=_
 rw[show(⟨[c].toArray⟩:Str)=⟨#[c]⟩ from rfl,StrLaws.found_one]
end
set_option tactic.hygienic true
set_option hygiene true
section
variable {M:Model}{A:Around}{E:Value→Shared→Prop}{s:Shared}
theorem evalArgs_wp {f:Value}{args:List (Bool×Sem Value)}{kws:List (Option Str×Sem Value)}{Q:Args→Shared→Prop} (h1:∀ x,args≠[(true,x)]) (h2:kws.all (·.1.isSome)=true)
  (h:wpAny M A (spliced args) (fun pos s₁=>wpAny M A (evalAll (kws.map (·.2))) (fun vs s₂=>Q ⟨pos,(kws.filterMap (·.1)).zip vs⟩ s₂) E s₁) E s):wpAny M A (evalArgs f true args kws) Q E s:=by
 unfold evalArgs
 dsimp only
 split
 ·rename_i x e;exact absurd rfl (h1 x)
 ·refine wpAny_bind (wpAny_mono h (fun pos s₁ h₁=>wpAny_bind (wpAny_pure ?_)) fun _ _ x=>x)
  dsimp only
  refine wpAny_holding ?_
  rw[if_pos h2]
  exact wpAny_bind (wpAny_mono h₁ (fun vs s₂ h₂=>wpAny_bind (wpAny_pure (wpAny_pure h₂))) fun _ _ x=>x)
theorem callTail {t:Sem Value}{Q:Value→Shared→Prop} (ht:wpAny M A t Q E s):wpAny M A (t >>= fun r=>holding [r] point >>= fun _=>pure r) Q E s :=
 wpAny_bind (wpAny_mono ht (fun r s₂ hr=>wpAny_bind (wpAny_holding (wpAny_point (wpAny_pure hr)))) fun _ _ x=>x)
theorem callWith_wp {pos:Pos}{f:Value}{first:List Value}{args:List (Bool×Sem Value)}{kws:List (Option Str×Sem Value)}{Q:Value→Shared→Prop}{kp:Keeper} (hkp:kp=.frame∨kp=.machine∨kp=.boundFrame)
  (h0:args.any (·.1)=false) (h2:kws.all (·.1.isSome)=true)
  (h:wpAny M A (spliced args) (fun ps s₁=>wpAny M A (evalAll (kws.map (·.2))) (fun vs s₂=>(∀ Q',Q' kp s₂→wpAny M A (keeperOf f) Q' E s₂)∧wpAny M A (call f (first++ps) ((kws.filterMap (·.1)).zip vs)) Q E s₂) E s₁) E s) :
  wpAny M A (callWith pos f first args kws) Q E s:=by
 unfold callWith
 have h1:∀ x,args≠[(true,x)]:=fun x e=>by rw[e] at h0;simp at h0
 have h3:kws.any (·.1.isNone)=false:=by
  rw[List.any_eq_false]
  intro x hx
  have:=List.all_eq_true.mp h2 x hx
  cases q:x.1 <;> simp_all
 refine wpAny_bind (wpAny_holding (evalArgs_wp h1 h2 (wpAny_mono h (fun ps s₁ h₁=>wpAny_mono h₁ (fun vs s₂ ⟨hk,hc⟩=>wpAny_bind (wpAny_standAt ?_)) fun _ _ x=>x) fun _ _ x=>x)))
 rw[h0,h3,show(false ||false)=false from rfl]
 refine wpAny_bind (hk _ ?_)
 rcases hkp with rfl |rfl |rfl
 ·dsimp only
  split
  ·exact callTail hc
  ·exact callTail (by unfold callMarked;exact Calls.wpAny_keep hc)
 ·exact callTail hc
 ·dsimp only
  split
  ·exact callTail hc
  ·exact callTail (by unfold callMarked;exact Calls.wpAny_keep hc)
end
abbrev EL (W:Wd) (k:Nat) (env:Env) (pos:Pos) (es:List Expr) (σ:Sig) (K:List PV→Sig→Prop):Prop:=G W k PT VRels (spliced (backTo pos (starEach es env))) σ K
abbrev EK (W:Wd) (k:Nat) (env:Env) (pos:Pos) (ks:List Keyword) (σ:Sig) (K:List PV→Sig→Prop):Prop:=G W k PT VRels (evalAll ((backToKw pos (keywordEach ks env)).map (·.2))) σ K
abbrev C (W:Wd) (k:Nat) (f:PV) (args:List PV) (kn:List Str) (kv:List PV) (σ:Sig) (K:PV→Sig→Prop):Prop :=
 ∀ v vs ws,G W k (fun F=>VRel F f v∧VRels F args vs∧VRels F kv ws) VRel (call v vs (kn.zip ws)) σ K
def KP (W:Wd) (kp:Keeper) (f:PV) (σ:Sig):Prop:=∀ A,A.handled=Option.none→∀ s,St W σ s→∀ v,VRel (FrOf σ s) f v→∀ Q':Keeper→Shared→Prop,Q' kp s→wpAny (model W.prog W.w) A (keeperOf v) Q' (fun _ _=>False) s
abbrev jL2 (K:List PV→Sig→Prop) (p:PV) (ps:List PV) (σ:Sig):Prop:=K (p::ps) σ
abbrev jL1 (W:Wd) (k:Nat) (env:Env) (pos:Pos) (rest:List Expr) (K:List PV→Sig→Prop) (p:PV) (σ:Sig):Prop:=EL W k env pos rest σ (jL2 K p)
abbrev jK1 (W:Wd) (k:Nat) (env:Env) (pos:Pos) (rest:List Keyword) (K:List PV→Sig→Prop) (p:PV) (σ:Sig):Prop:=EK W k env pos rest σ (jL2 K p)
abbrev jC2 (W:Wd) (k:Nat) (kp:Keeper) (kn:List Str) (f:PV) (ps:List PV) (K:PV→Sig→Prop) (qs:List PV) (σ:Sig):Prop:=KP W kp f σ∧C W k f ps kn qs σ K
abbrev jC1 (W:Wd) (k:Nat) (env:Env) (pos:Pos) (ks:List Keyword) (kp:Keeper) (kn:List Str) (f:PV) (fst:List PV) (K:PV→Sig→Prop) (ps:List PV) (σ:Sig):Prop:=EK W k env pos ks σ (jC2 W k kp kn f (fst++ps) K)
abbrev jCa (W:Wd) (k:Nat) (env:Env) (pos:Pos) (ks:List Keyword) (kp:Keeper) (kn:List Str) (f:PV) (K:PV→Sig→Prop) (ps:List PV) (σ:Sig):Prop:=EK W k env pos ks σ (jC2 W k kp kn f ps K)
abbrev jC0 (W:Wd) (k:Nat) (env:Env) (pos:Pos) (es:List Expr) (ks:List Keyword) (kp:Keeper) (kn:List Str) (K:PV→Sig→Prop) (f:PV) (σ:Sig):Prop:=EL W k env pos es σ (jCa W k env pos ks kp kn f K)
section
variable {W:Wd}{k:Nat}{env:Env}{σ:Sig}{P:FM→Prop}
theorem EL_nil {pos:Pos}{K:List PV→Sig→Prop} (h:K [] σ):EL W k env pos [] σ K:=fun A hA s hs hP=>wpAny_items_nil ⟨[],σ,hs,FLe.refl _,rfl,h⟩
theorem EL_cons {pos:Pos}{e:Expr}{rest:List Expr}{K:List PV→Sig→Prop} (h:E W k env e σ (jL1 W k env pos rest K))
  (he:autoParam (starEach (e::rest) env=(false,eval e env)::starEach rest env) tR):EL W k env pos (e::rest) σ K:=fun A hA s hs hP =>
 wpAny_items_cons (G.use h A hA s hs hP (fun v s₁ p σ₁ a1 a2 a3 a4=>G.use a4 A hA s₁ a1 trivial (fun vs s₂ ps σ₂ b1 b2 b3 b4 =>
  ⟨p::ps,σ₂,b1,a2.trans b2,⟨v,vs,rfl,a3.mono b2,b3⟩,b4⟩) fun _ _ x=>x) fun _ _ x=>x) he
theorem EK_nil {pos:Pos}{K:List PV→Sig→Prop} (h:K [] σ):EK W k env pos [] σ K:=fun A hA s hs hP=>wpAny_pure ⟨[],σ,hs,FLe.refl _,rfl,h⟩
theorem EK_cons {pos:Pos}{n:Option Str}{e:Expr}{p':Pos}{rest:List Keyword}{K:List PV→Sig→Prop} (h:E W k env e σ (jK1 W k env pos rest K)):EK W k env pos (⟨n,e,p'⟩::rest) σ K:=fun A hA s hs hP=>by
 show wpAny _ A (do let v ← (do let v ← eval e env;standAt pos;pure v);return v::(← holding [v] (evalAll ((backToKw pos (keywordEach rest env)).map (·.2))))) _ _ s
 refine wpAny_bind (wpAny_bind (G.use h A hA s hs hP (fun v s₁ p σ₁ a1 a2 a3 a4=>wpAny_bind (wpAny_standAt (wpAny_pure (wpAny_bind (wpAny_holding (G.use a4 A hA s₁ a1 trivial (fun vs s₂ ps σ₂ b1 b2 b3 b4=>wpAny_pure
  ⟨p::ps,σ₂,b1,a2.trans b2,⟨v,vs,rfl,a3.mono b2,b3⟩,b4⟩) fun _ _ x=>x)))))) fun _ _ x=>x))
theorem G_callWith {pos:Pos}{f:PV}{fst:List PV}{es:List Expr}{ks:List Keyword}{kp:Keeper}{K:PV→Sig→Prop} (hkp:kp=.frame∨kp=.machine∨kp=.boundFrame)
  (h0:(backTo pos (starEach es env)).any (·.1)=false) (h2:(backToKw pos (keywordEach ks env)).all (·.1.isSome)=true)
  (kn:List Str) (hkn:(backToKw pos (keywordEach ks env)).filterMap (·.1)=kn)
  (h:EL W k env pos es σ (jC1 W k env pos ks kp kn f fst K)) :
  ∀ v fv,G W k (fun F=>VRel F f v∧VRels F fst fv) VRel (callWith pos v fv (backTo pos (starEach es env)) (backToKw pos (keywordEach ks env))) σ K:=fun v fv A hA s hs ⟨hv,hf⟩ =>
 callWith_wp hkp h0 h2 (G.use h A hA s hs trivial (fun ps s₁ pp σ₁ a1 a2 a3 a4=>wpAny_mono (a4 A hA s₁ a1 trivial) (fun vs s₂ hpat=>by
  refine e2_5 hpat ?_;try clear hpat;intro qq σ₂ b1 b2 b3 b4 b5
  refine⟨fun Q' hq=>b4 A hA.1 s₂ b1 v (VRel.mono (a2.trans b2) hv) Q' hq,?_⟩
  rw[hkn]
  exact G.use (b5 v (fv++ps) vs) A hA s₂ b1 ⟨VRel.mono (a2.trans b2) hv,VRels.append (VRels.mono (a2.trans b2) hf) (VRels.mono b2 a3),b3⟩ (fun r s₃ p σ₃ c1 c2 c3 c4=>⟨p,σ₃,c1,(a2.trans b2).trans c2,c3,c4⟩) fun _ _ x=>x) fun _ _ x=>x) fun _ _ x=>x)
theorem KP_blt {n:String}:KP W .machine (.blt n) σ:=fun A hA s hs v hv Q' q=>by
 obtain rfl:v=.builtin n:=hv
 exact wpAny_pure q
theorem KP_typ {n:String}:KP W .machine (.typ n) σ:=fun A hA s hs v hv Q' q=>by
 obtain rfl:v=.type n:=hv
 exact wpAny_pure q
theorem KP_fn {a:Addr}{o:Obj}{fd:FuncData} (ho:W.h₁.get? a=some o) (hc:o.cls ≠ .none) (hd:o.data=.func fd):KP W .frame (.ref a) σ:=fun A hA s hs v hv Q' q=>by
 obtain rfl:v=.ref a:=hv
 unfold keeperOf
 refine wpAny_bind (wpAny_load (hs.base ho hc).2.1 ?_)
 rw[hd];exact wpAny_pure q
noncomputable def kpOk:Keeper→Bool
 | .frame | .machine | .boundFrame=>true
 |_=>false
theorem kpOk_or {kp:Keeper} (h:kpOk kp=true):kp=.frame∨kp=.machine∨kp=.boundFrame:=by
 cases kp with
 |frame=>exact .inl rfl
 |machine=>exact .inr (.inl rfl)
 |boundFrame=>exact .inr (.inr rfl)
 |_=>exact absurd h Bool.false_ne_true
theorem E_Call {x:Str}{p' pos:Pos}{es:List Expr}{ks:List Keyword}{kp:Keeper}{K:PV→Sig→Prop} (kn:List Str)
  (h:E W k env (.Name x p') σ (jC0 W k env pos es ks kp kn K))
  (hkp:autoParam (kpOk kp=true) tR)
  (h0:autoParam ((backTo pos (starEach es env)).any (·.1)=false) tR) (h2:autoParam ((backToKw pos (keywordEach ks env)).all (·.1.isSome)=true) tR)
  (hkn:autoParam ((backToKw pos (keywordEach ks env)).filterMap (·.1)=kn) tR):E W k env (.Call (.Name x p') es ks pos) σ K:=fun A hA s hs hP=>by
 show wpAny _ A (do callWith pos (← eval (.Name x p') env) [] (backTo pos (starEach es env)) (backToKw pos (keywordEach ks env))) _ _ s
 exact wpAny_bind (G.use h A hA s hs trivial (fun v s₁ f σ₁ a1 a2 a3 a4=>wpAny_mono (G_callWith (fst:=[]) (kpOk_or hkp) h0 h2 kn hkn a4 v [] A hA s₁ a1 ⟨a3,rfl⟩)
  (fun r s₃ hpat=>by refine e2_4 hpat ?_;try clear hpat;intro p σ₃ c1 c2 c3 c4;exact⟨p,σ₃,c1,a2.trans c2,c3,c4⟩) fun _ _ x=>x) fun _ _ x=>x)
end
set_option tactic.hygienic false
set_option hygiene false
def BRels (F:FM):List (Str×PV)→List (Str×Value)→Prop
 |[],l=>l=[]
 |(x,p)::r,l=>∃ v l',l=(x,v)::l'∧VRel F p v∧BRels F r l'
theorem BRels.mono {F F':FM} (hF:FLe F F'):∀ {b:List (Str×PV)}{l:List (Str×Value)},BRels F b l→BRels F' b l
 |[],_,h=>h
 |(_,_)::_,_,h=>by refine e2_3 h ?_;try clear h;intro v l' e a b;exact⟨v,l',e,a.mono hF,BRels.mono hF b⟩
noncomputable def cellsUpd:Nat→List (Str×NameKind)→Sig→Sig
 |_,[],σ=>σ
 |n,(x,kd)::r,σ=>if kd == .cell then cellsUpd (n+1) r (σ.upd n (.cell none)) else cellsUpd n r σ
theorem St.cells {W:Wd}:∀ (names:List (Str×NameKind)){σ:Sig}{s:Shared},St W σ s→St W (cellsUpd s.heap.objs.size names σ) { s with heap:=pushCells s.heap names }∧FLe (Fz σ s.heap) (Fz (cellsUpd s.heap.objs.size names σ) (pushCells s.heap names))
 |[],σ,s,S=>⟨S,FLe.refl _⟩
 |(x,kd)::r,σ,s,S=>by
  unfold cellsUpd pushCells
  split
  ·have S1:=S.pushUpd { cls:=.type "cell",data:=.cell none } (.cell none) ⟨_,none,Heap.get?_push_size _ rfl,rfl,rfl,rfl⟩
   have:=St.cells r S1
   rw[show({ s with heap:=s.heap.push { cls:=.type "cell",data:=.cell none } }:Shared).heap.objs.size=s.heap.objs.size+1 from Heap.size_push ..] at this
   exact⟨this.1,fle_push_upd.trans this.2⟩
  ·exact St.cells r S
def SB (W:Wd) (k:Nat) (env:Env):List (Str×PV)→Sig→(Sig→Prop)→Prop
 |[],σ,K=>K σ
 |(x,p)::r,σ,K=>O1 W k REq (storeName env x) p σ fun _ σ'=>SB W k env r σ' K
theorem SB.imp {W:Wd}{k:Nat}{env:Env}:∀ {bp:List (Str×PV)}{σ:Sig}{K K':Sig→Prop},SB W k env bp σ K→(∀ σ,K σ→K' σ)→SB W k env bp σ K'
 |[],_,_,_,h,f=>f _ h
 |(_,_)::_,_,_,_,h,f=>fun v=>(h v).imp fun _ _ z=>SB.imp z f
theorem SB_loop {W:Wd}{k:Nat}{env:Env} (f:Str×Value→PUnit→Sem (ForInStep PUnit)) (hf:∀ n v u,f (n,v) u=(do storeName env n v;pure (.yield ⟨⟩))):∀ (bp:List (Str×PV)){σ:Sig}{K:Sig→Prop},SB W k env bp σ K →
  ∀ bv,G W k (fun F=>BRels F bp bv) REq (forIn bv PUnit.unit f) σ fun _ σ'=>K σ'
 |[],σ,K,h,bv=>fun A hA s hs hP=>by
  obtain rfl:bv=[]:=hP
  rw[List.forIn_nil];exact wpAny_pure ⟨_,σ,hs,FLe.refl _,rfl,h⟩
 |(x,p)::r,σ,K,h,bv=>fun A hA s hs hP=>by
  refine e2_3 hP ?_;try clear hP;intro v l' zz1 hv hr;subst zz1
  rw[List.forIn_cons,hf]
  refine wpAny_bind (wpAny_bind (G.use (h v) A hA s hs hv (fun u s₁ _ σ₁ a1 a2 a3 a4=>wpAny_pure ?_) fun _ _ x=>x))
  exact G.use (SB_loop f hf r a4 l') A hA s₁ a1 (BRels.mono a2 hr) (fun u s₂ _ σ₂ b1 b2 b3 b4=>⟨_,σ₂,b1,a2.trans b2,rfl,b4⟩) fun _ _ x=>x
theorem newEnv_G {W:Wd}{k:Nat}{σ:Sig}{scope:Scope}{globals:Addr}{closure:List (Str×Addr)}{bp:List (Str×PV)}{qual:Str}{func:Option Addr}{code:Value}{around:Option Env}{builtins:Addr}{K:Env→Sig→Prop}
  (h:∀ L,Fresh σ L→SB W k (newEnv scope L globals (cellsFrom (L+1) scope.names closure) qual func code around builtins) bp (cellsUpd (L+1) scope.names (σ.upd L (.frame fun _=>none)))
   fun σ'=>K (newEnv scope L globals (cellsFrom (L+1) scope.names closure) qual func code around builtins) σ') :
  ∀ bv,G W k (fun F=>BRels F bp bv) REq (newFunctionEnv scope globals closure bv qual func code around builtins) σ K:=fun bv A hA s hs hP=>by
 unfold newFunctionEnv
 dsimp only
 refine wpAny_bind (wpAny_alloc ?_)
 have S1:=hs.pushUpd { cls:=.type (if around.isSome=true then "dict" else "frame"),data:=.dict #[] } (.frame fun _=>none) ⟨_,Heap.Ns.new _ _,fun x=>trivial⟩
 refine wpAny_bind (wpAny_layCells _ (fun name kind cells=>by cases hkc:kind==NameKind.cell <;> simp[hkc]) _ _ _ _ ?_)
 have S2:=S1.cells scope.names
 rw[show({ s with heap:=s.heap.push { cls:=.type (if around.isSome=true then "dict" else "frame"),data:=.dict #[] } }:Shared).heap.objs.size=s.heap.objs.size+1 from Heap.size_push ..] at S2 ⊢
 have hL:=h s.heap.objs.size hs.fresh
 have F2:=(fle_push_upd (σ:=σ) (h:=s.heap) (o:={ cls:=.type (if around.isSome=true then "dict" else "frame"),data:=.dict #[] }) (ao:=.frame fun _=>none)).trans S2.2
 cases around with
 |none =>
  refine wpAny_bind (G.use (SB_loop _ (fun _ _ _=>rfl) bp hL bv) A hA _ S2.1 (BRels.mono F2 hP) (fun u s₂ _ σ₂ b1 b2 b3 b4=>wpAny_pure ⟨_,σ₂,b1,F2.trans b2,rfl,b4⟩) fun _ _ x=>x)
 |some outer =>
  refine wpAny_bind (G.use (SB_loop _ (fun _ _ _=>rfl) bp hL bv) A hA _ S2.1 (BRels.mono F2 hP) (fun u s₂ _ σ₂ b1 b2 b3 b4=>wpAny_pure ⟨_,σ₂,b1,F2.trans b2,rfl,b4⟩) fun _ _ x=>x)
noncomputable def retOf:AFlow→PV
 | .ret p=>p
 |_=>.none
theorem Room.in1 {A:Around}{k:Nat} (h:Room A (k+1)):Room A.in1 k:=⟨h.1,by have:=h.2.1;show A.depth+k≤900;lia,by have:=h.2.2;show A.units+1+8*k≤9000;lia⟩
theorem Room.deeper {A:Around}{k:Nat}{env:Env} (h:Room A (k+1)):Room (A.deeper env) k:=⟨h.1,by have:=h.2.1;show A.depth+1+k≤900;lia,by have:=h.2.2;show A.units+3+8*k≤9000;lia⟩
theorem Room.lim {A:Around}{k:Nat} (h:Room A k):A.depth<recursionLimit:=by have:=h.2.1;show A.depth<1000;lia
def CodeAt (W:Wd) (cd:Value) (q:Str):Prop:=∃ c o vs t,cd=.ref c∧W.h₁.get? c=some o∧o.cls ≠ .none∧o.data=.fields vs∧vs[1]? = some (.str q t)
theorem CodeAt.rec {W:Wd}{cd:Value}{q:Str}{σ:Sig}{s:Shared} (x:CodeAt W cd q) (S:St W σ s):s.heap.CodeRec cd q :=
 by refine e4_5 x ?_;try clear x;intro c o vs t e h hc hd hv;exact⟨c,o,vs,t,e,S.old.get_of_cls h hc,hd,hv⟩
noncomputable abbrev envFn (fd:FuncData) (cl:List (Str×Addr)) (L a:Addr):Env:=newEnv fd.scope L fd.globals (cellsFrom (L+1) fd.scope.names cl) (fd.qualname++".<locals>.") (some a) fd.code none fd.builtins
def CPost (W:Wd) (σ:Sig) (s:Shared) (K:PV→Sig→Prop) (r:Result) (s':Shared):Prop:=match r with
 | .ok (.ret v)=>∃ b σ',St W σ' s'∧FLe (FrOf σ s) (FrOf σ' s')∧VRel (FrOf σ' s') b v∧K b σ'
 | .ok _=>False
 | .error e=>False
abbrev CC (W:Wd) (k:Nat) (f:PV) (args:List PV) (kn:List Str) (kv:List PV) (σ:Sig) (K:PV→Sig→Prop):Prop :=
 ∀ v vs ws A,Room A k→∀ s,St W σ s→VRel (FrOf σ s) f v→VRels (FrOf σ s) args vs→VRels (FrOf σ s) kv ws→codeAny (model W.prog W.w) A (.call v ⟨vs,kn.zip ws⟩) (CPost W σ s K) s
theorem CC.call {W:Wd}{k:Nat}{f:PV}{args:List PV}{kn:List Str}{kv:List PV}{σ:Sig}{K:PV→Sig→Prop} (h:CC W k f args kn kv σ K):C W k f args kn kv σ K:=fun v vs ws A hA s hs ⟨h1,h2,h3⟩ =>
 wpAny_call (codeAny_mono (h v vs ws A hA s hs h1 h2 h3) fun r s' z=>by
  unfold CPost at z
  rcases r with e |(v |_ |_ |_) <;> exact z)
theorem body_code {W:Wd}{k:Nat}{σ:Sig}{a:Addr}{o:Obj}{fd:FuncData}{body:List Stmt}{K:PV→Sig→Prop}{P:FM→Prop} (hPm:∀ F F',FLe F F'→P F→P F')
  (hbody:fd.body=.stmts body) (hco:fd.scope.isCoroutine=false) (hgen:fd.scope.isGenerator=false){vs:List Value}{kw:List (Str×Value)}
  (hat:∀ s,St W σ s→P (FrOf σ s)→s.heap.get? a=some o∧o.data=.func fd∧s.heap.CodeRec fd.code fd.qualname)
  (hb:G W k P BRels (bindArgs fd ⟨vs,kw⟩) σ fun bp σ₁=>∀ L,Fresh σ₁ L→SB W k (envFn fd fd.closure L a) bp (cellsUpd (L+1) fd.scope.names (σ₁.upd L (.frame fun _=>none)))
   fun σ₂=>G W k P LRel (execs body (envFn fd fd.closure L a)) σ₂ fun fl σ₃=>∃ σ₄,(σ₄=res L σ₃∨∀ s,St W σ₃ s→Sub σ₄ σ₃)∧K (retOf fl) σ₄) :
  ∀ A,Room A (k+1)→∀ s,St W σ s→P (FrOf σ s)→codeAny (model W.prog W.w) A (.call (.ref a) ⟨vs,kw⟩) (CPost W σ s K) s:=fun A hA s hs hP=>by
 refine e0_3 (hat s hs hP) ?_;intro ho hd hcd
 refine codeAny_call_function hA.lim ho hd hco hgen hbody hcd ?_
 refine G.use hb A.in1 hA.in1 s hs hP (fun binds s₁ bp σ₁ a1 a2 a3 a4=>?_) fun _ _ x=>x.elim
 refine G.use (newEnv_G (K:=fun env σ₂=>G W k P LRel (execs body env) σ₂ fun fl σ₃=>∃ σ₄,(σ₄=res env.locals σ₃∨∀ s,St W σ₃ s→Sub σ₄ σ₃)∧K (retOf fl) σ₄) (fun L hL=>SB.imp (a4 L hL) fun _ y=>y) binds) A.in1 hA.in1 s₁ a1 a3 (fun env s₂ e σ₂ b1 b2 b3 b4=>?_) fun _ _ x=>x.elim
 cases b3
 refine⟨b1.lim,codeAny_func ?_⟩
 refine wpAny_mono (b4 (A.deeper _) hA.deeper s₂ b1 (hPm _ _ (a2.trans b2) hP)) (fun f s₃ hpat=>?_) fun _ _ x=>x.elim
 obtain ⟨fl,σ₃,c1,c2,c3,σ₄,c4',c5⟩:=hpat
 have c4:Sub σ₄ σ₃:=c4'.elim (fun z=>z▸sub_res c1 _) (fun z=>z _ c1)
 refine⟨_,σ₄,c1.sub c4,((a2.trans b2).trans c2).trans (fle_sub c4),?_,c5⟩
 cases fl with
 |ret p=>refine e1_2 c3 ?_;try clear c3;intro v zz1 r;subst zz1;exact VRel.mono (fle_sub c4) r
 |next=>cases c3;exact(Eq.refl _:Value.none=Value.none)
 |brk=>cases c3;exact(Eq.refl _:Value.none=Value.none)
 |cont=>cases c3;exact(Eq.refl _:Value.none=Value.none)
structure FnAt (W:Wd) (a:Addr) (fd:FuncData) (body:List Stmt):Prop where
 at_:∃ o,W.h₁.get? a=some o∧o.cls ≠ .none∧o.data=.func fd
 body:fd.body=.stmts body
 code:CodeAt W fd.code fd.qualname
 co:fd.scope.isCoroutine=false
 gen:fd.scope.isGenerator=false
 clo:fd.closure=[]
theorem FnAt.kp {W:Wd}{a:Addr}{fd:FuncData}{body:List Stmt} (f:FnAt W a fd body){σ:Sig}:KP W .frame (.ref a) σ:=by refine e1_3 (f.at_) ?_;intro _ h c d;exact KP_fn h c d
theorem CC_fn {W:Wd}{k:Nat}{σ:Sig}{a:Addr}{fd:FuncData}{body:List Stmt}{K:PV→Sig→Prop} (f:FnAt W a fd body){args kv:List PV}{kn:List Str}
  (hb:∀ vs ws,G W k (fun F=>VRels F args vs∧VRels F kv ws) BRels (bindArgs fd ⟨vs,kn.zip ws⟩) σ fun bp σ₁=>∀ L,Fresh σ₁ L→SB W k (envFn fd [] L a) bp (cellsUpd (L+1) fd.scope.names (σ₁.upd L (.frame fun _=>none)))
   fun σ₂=>XS W k (envFn fd [] L a) body σ₂ fun fl σ₃=>∃ σ₄,(σ₄=res L σ₃∨∀ s,St W σ₃ s→Sub σ₄ σ₃)∧K (retOf fl) σ₄):CC W (k+1) (.ref a) args kn kv σ K:=fun v vs ws A hA s hs hv h1 h2=>by
 obtain rfl:v=.ref a:=hv
 refine e1_3 (f.at_) ?_;intro o ho hc hd
 have:=f.clo
 exact body_code (P:=fun F=>VRels F args vs∧VRels F kv ws) (fun _ _ m x=>⟨VRels.mono m x.1,VRels.mono m x.2⟩) f.body f.co f.gen (fun s S _=>⟨S.old.get_of_cls ho hc,hd,f.code.rec S⟩)
  (by rw[this];exact(hb vs ws).imp fun bp σ₁ x L hL=>(x L hL).imp fun _ y=>y.pre fun _ _=>trivial) A hA s hs ⟨h1,h2⟩
theorem strKeys_noRef {es:Array DictEntry} (hk:StrKeys es):es.any (·.refKey)=false:=by
 rw[Array.any_eq_false'];intro e he;refine e2_1 (hk e he) ?_;intro n t h;simp[DictEntry.refKey,h]
noncomputable abbrev dObj (es:Array DictEntry) (ep:Nat):Obj:=⟨.type "dict",Option.none,.dict es ep,#[]⟩
theorem look_of {es:Array DictEntry}{ep:Nat} (hk:StrKeys es) (name:Str):lookIn name (dObj es ep)=some (nsFind es name):=by
 have hr:=strKeys_noRef hk
 rw[← Array.any_toList] at hr
 unfold lookIn nsFind findBy
 dsimp only
 rw[← Array.find?_toList,hr]
 cases q:es.toList.find? (fun e=>e.key.isStr name) <;> rfl
theorem instAt_of {h:Heap}{a C d:Addr}{o:Obj} (ha:h.get? a=some (instObj C d)) (hd:h.get? d=some o):InstAt h a (instObj C d) C (some o):=⟨ha,rfl,rfl,hd⟩
section
variable {W:Wd}{k:Nat}{env:Env}{σ:Sig}{P:FM→Prop}
theorem find_val {K:Frag}{C:Addr}{es:Array DictEntry}{ep:Nat}{name:Str}{v:Value}{cd:ClassData} (hc:clsIn K C=some cd) (hh:cd.hasDict=true) (hf:findIn K (.ref C) name=some none) (hk:StrKeys es) (hv:nsFind es name=some v) :
  findObj K C (some (dObj es ep)) name=some (.value v):=by
 have ho:PySem.W.ownOf cd (some (dObj es ep)) name=some (some v):=by
  unfold PySem.W.ownOf
  rw[hh,← hv]
  exact look_of (ep:=ep) hk name
 unfold findObj
 rw[hc,hf]
 show(PySem.W.ownOf cd (some (dObj es ep)) name).bind _=_
 rw[ho]
 rfl
structure ClsIs (W:Wd) (C:Addr):Prop where
 cd:∃ cd,clsIn W.K C=some cd∧cd.hasDict=true
 ga:findIn W.K (.ref C) "__getattribute__"=some (some (.builtin "object.__getattribute__"))
 gt:findIn W.K (.ref C) "__getattr__"=some none
 sa:findIn W.K (.ref C) "__setattr__"=some (some (.builtin "object.__setattr__"))
 po:plainOver W.K C=true
 mks:makesIn W.K C=true
abbrev OA (W:Wd) (k:Nat) (name:Str) (q:PV) (σ:Sig) (K:PV→Sig→Prop):Prop:=O1 W k VRel (fun v=>getAttr v name true) q σ K
abbrev jA (W:Wd) (k:Nat) (name:Str) (K:PV→Sig→Prop) (q:PV) (σ:Sig):Prop:=OA W k name q σ K
theorem handed_ok {F:FM}{p:PV}{v:Value} (hp:∀ n,p ≠ .blt n) (h:VRel F p v):handedIn v=true:=by
 cases p with
 |blt n=>exact absurd rfl (hp n)
 |none=>obtain rfl:v=.none:=h;rfl
 |bool b=>obtain rfl:v=.bool b:=h;rfl
 |int i=>refine e1_1 h ?_;try clear h;intro t zz1;subst zz1;rfl
 |str x=>refine e1_1 h ?_;try clear h;intro t zz1;subst zz1;rfl
 |ref a=>obtain rfl:v=.ref a:=h;rfl
 |typ n=>obtain rfl:v=.type n:=h;rfl
 |tup l=>refine e3_2 h ?_;try clear h;intro a vs n zz1 _;subst zz1;rfl
 |lst l=>refine e3_2 h ?_;try clear h;intro a vs n zz1 _;subst zz1;rfl
 |fin C fs=>refine e4_2 h ?_;try clear h;intro a d es n zz1 _;subst zz1;rfl
 |stk x t=>obtain rfl:v=.str ⟨x.toArray⟩ t:=h;rfl
 |clo n q ps b sc cs=>obtain ⟨a,o,c,oc,vs,t,ct,doc,pm,cl,rfl,_⟩:=h;rfl
 |rng a b=>refine e4_2 h ?_;try clear h;intro r t u w zz1 _;subst zz1;rfl
 |bm f a=>refine e1_2 h ?_;try clear h;intro r zz1 _;subst zz1;rfl
 |dct hs l=>refine e3_2 h ?_;try clear h;intro a es n zz1 _;subst zz1;rfl
 |dit hs l=>refine e4_2 h ?_;try clear h;intro r a es n zz1 _;subst zz1;rfl
theorem OA_inst (T:Top W){a C d:Addr}{fs:Str→Option PV}{n:Nat}{name:Str}{p:PV}{K:PV→Sig→Prop} (X:ClsIs W C) (hf:findIn W.K (.ref C) name=some none) (hσ:σ a=some (.inst C d fs n)) (hp:fs name=some p) (hb:∀ n,p ≠ .blt n)
  (h:K p σ):OA W k name (.ref a) σ K:=fun v=>.id h fun A hA s hs hP Q q=>by
 obtain rfl:v=.ref a:=hP
 obtain ⟨ha,_,_,es,ep,hd,hk,hz,r⟩:=hs.hr _ _ hσ
 have:=r name
 rw[hp] at this
 refine e1_2 this ?_;try clear this;intro w e rw
 refine e1_2 (X.cd) ?_;intro cd hc hh
 exact get_value (hs.kin T) (instAt_of ha hd) X.ga (find_val hc hh hf hk e) (handed_ok hb rw) (q _ _ rfl rfl rfl rw)
theorem E_Attr {x:Str}{p' pos:Pos}{name:Str}{K:PV→Sig→Prop} (h:E W k env (.Name x p') σ (jA W k name K)):E W k env (.Attribute (.Name x p') name pos) σ K:=fun A hA s hs hP=>by
 rw[arm_eval_Attribute]
 refine wpAny_bind (G.use h A hA s hs trivial (fun v s₁ q σ₁ a1 a2 a3 a4=>wpAny_bind (wpAny_standAt (wpAny_bind (wpAny_holding (G.use (a4 v) A hA s₁ a1 a3 (fun r s₂ p σ₂ b1 b2 b3 b4 =>
  wpAny_bind (wpAny_pure (wpAny_pure ⟨p,σ₂,b1,a2.trans b2,b3,b4⟩))) fun _ _ x=>x))))) fun _ _ x=>x)
def MRel (F:FM) (m:PV×List PV) (v:Value×List Value):Prop:=VRel F m.1 v.1∧VRels F m.2 v.2
abbrev GM (W:Wd) (k:Nat) (name:Str) (q:PV) (σ:Sig) (K:PV×List PV→Sig→Prop):Prop:=∀ v pl,G W k (fun F=>VRel F q v) MRel (getMethod v name pl) σ K
abbrev jM1 (W:Wd) (k:Nat) (env:Env) (pos:Pos) (es:List Expr) (ks:List Keyword) (kp:Keeper) (kn:List Str) (K:PV→Sig→Prop) (m:PV×List PV) (σ:Sig):Prop:=EL W k env pos es σ (jC1 W k env pos ks kp kn m.1 m.2 K)
abbrev jM0 (W:Wd) (k:Nat) (env:Env) (pos:Pos) (es:List Expr) (ks:List Keyword) (kp:Keeper) (kn:List Str) (name:Str) (K:PV→Sig→Prop) (q:PV) (σ:Sig):Prop:=GM W k name q σ (jM1 W k env pos es ks kp kn K)
theorem E_Meth {o:Expr}{name:Str}{apos pos:Pos}{es:List Expr}{ks:List Keyword}{kp:Keeper}{K:PV→Sig→Prop} (kn:List Str)
  (h:E W k env o σ (jM0 W k env pos es ks kp kn name K))
  (hkp:autoParam (kpOk kp=true) tR)
  (hb:autoParam (∀ whole,attributeBase o name env whole=whole) tI)
  (hf:autoParam (methodCallForm (es.length+ks.length) (backTo pos (starEach es env)) (backToKw pos (keywordEach ks env))=true) tR) (hl:autoParam ((apos.endLine==pos.line)=true) tR)
  (h0:autoParam ((backTo pos (starEach es env)).any (·.1)=false) tR) (h2:autoParam ((backToKw pos (keywordEach ks env)).all (·.1.isSome)=true) tR)
  (hkn:autoParam ((backToKw pos (keywordEach ks env)).filterMap (·.1)=kn) tR):E W k env (.Call (.Attribute o name apos) es ks pos) σ K:=fun A hA s hs hP=>by
 show wpAny _ A (do
  let ov ← attributeBase o name env (eval o env)
  standAt apos.atName
  methodCall o name apos pos env ov (es.length+ks.length) (backTo pos (starEach es env)) (backToKw pos (keywordEach ks env))) _ _ s
 rw[hb]
 refine wpAny_bind (G.use h A hA s hs trivial (fun v s₁ q σ₁ a1 a2 a3 a4=>wpAny_bind (wpAny_standAt ?_)) fun _ _ x=>x)
 unfold methodCall
 rw[hf]
 refine wpAny_bind (wpAny_holding (G.use (a4 v _) A hA s₁ a1 a3 (fun m s₂ mp σ₂ b1 b2 b3 b4=>?_) fun _ _ x=>x))
 obtain ⟨fv,first⟩:=m
 unfold methodCallPos
 rw[hl]
 refine wpAny_bind (wpAny_pure ?_)
 exact G.use (G_callWith (fst:=mp.2) (f:=mp.1) (kpOk_or hkp) h0 h2 kn hkn b4 fv first) A hA s₂ b1 ⟨b3.1,b3.2⟩ (fun r s₃ p σ₃ c1 c2 c3 c4=>⟨p,σ₃,c1,(a2.trans b2).trans c2,c3,c4⟩) fun _ _ x=>x
theorem GM_inst (T:Top W){a C d f:Addr}{fs:Str→Option PV}{n:Nat}{name:Str}{K:PV×List PV→Sig→Prop} (X:ClsIs W C) (hf:findIn W.K (.ref C) name=some (some (.ref f))) (ht:typeIn W.K (.ref f)=some (.type "function")) (hσ:σ a=some (.inst C d fs n)) (hn:fs name=none)
  (h:K (.ref f,[.ref a]) σ):GM W k name (.ref a) σ K:=fun v pl=>.id h fun A hA s hs hP Q q=>by
 obtain rfl:v=.ref a:=hP
 obtain ⟨ha,_,_,es,ep,hd,hk,hz,r⟩:=hs.hr _ _ hσ
 have hnn:=r name
 rw[hn] at hnn
 have hnn:nsFind es name=none:=hnn
 exact method_fn (hs.kin T) (instAt_of ha hd) X.ga X.gt hf ht (by unfold shadowIn;dsimp only;rw[look_of hk,hnn];rfl) (q _ _ rfl rfl rfl ⟨(Eq.refl _:Value.ref f=Value.ref f),VRels.one (Eq.refl _:Value.ref a=Value.ref a)⟩)
theorem nsSet_exact {M:Model}{A:Around}{E:Value→Shared→Prop}{s:Shared}{d:Addr}{es:Array DictEntry}{ep:Nat}{name:Str}{v:Value}{Q:Unit→Shared→Prop} (hD:s.heap.get? d=some (dObj es ep)) (hk:StrKeys es)
  (h:∀ es' ep' f,f (dObj es ep)=dObj es' ep'→StrKeys es'→es'.size≤es.size+1→(nsFind es name≠none→es'.size≤es.size)→(∀ y,nsFind es' y=if y=name then some v else nsFind es y)→Q () { s with heap:=s.heap.update d f,toks:=s.toks+1 }) :
  wpAny M A (nsSet d name v) Q E s:=by
 unfold nsSet strHash
 refine wpAny_bind (wpAny_bind (wpAny_askSetting (wpAny_pure (wpAny_bind (wpAny_mkText (wpAny_bind (wpAny_loadPart hD ?_)))))))
 have hany:=strKeys_noRef hk
 simp only[aRefKeyMayBeTheName_eq,aRefKeyMayBeTheNameByArray,hany,Bool.and_false,Bool.false_eq_true,if_false]
 refine wpAny_updatePart hD ?_
 cases hi:es.findIdx? (·.key.isStr name) with
 |some i =>
  have hfm:∀ y,nsFind (es.modify i fun e=>{ e with val:=v }) y=if y=name then some v else nsFind es y:=fun y=>findBy_modify (fun n v=>v.isStr n) Value.isStr_inj es name y v i hi
  exact h _ ep _ (by simp only[Obj.putName_eq,Obj.putNameByArray,hi] <;> rfl) (hk.modify _ _) (by rw[Array.size_modify];exact Nat.le_succ _) (fun _=>by rw[Array.size_modify];exact Nat.le_refl _) hfm
 |none =>
  have hfp:∀ hash t y,nsFind (es.push ⟨hash,.str name t,v⟩) y=if y=name then some v else nsFind es y:=fun hash t y=>findBy_push (fun n v=>v.isStr n) es name y _ _ v (fun y=>by
   show(name==y)=decide (y=name)
   by_cases h:y=name
   ·subst h;simp
   ·have:¬ name=y:=fun e=>h e.symm
    simp[h,this]) hi
  have hno:nsFind es name=none:=by unfold nsFind;rw[findBy_of_findIdx?,hi]
  exact h _ (ep+1) _ (by simp only[Obj.putName_eq,Obj.putNameByArray,hi] <;> rfl) (hk.push _ _ _ _) (by rw[Array.size_push];exact Nat.le_refl _) (fun q=>absurd hno q) (hfp _ _)
abbrev SA (W:Wd) (k:Nat) (name:Str) (q p:PV) (σ:Sig) (K:Unit→Sig→Prop):Prop:=O2 W k REq (fun v u=>setAttr v name u) q p σ K
theorem SA_inst (T:Top W){a C d:Addr}{fs:Str→Option PV}{n:Nat}{name:Str}{p:PV}{K:Unit→Sig→Prop} (X:ClsIs W C) (hf:findIn W.K (.ref C) name=some none) (hσ:σ a=some (.inst C d fs n)) (hn:n≤1000) (n':Nat)
  (hn':n'=n+1∨(fs name≠none∧n'=n))
  (h:K () (σ.upd a (.inst C d (fset fs name p) n'))):SA W k name (.ref a) p σ K:=fun v u A hA s hs hpat=>by
 refine e0_2 hpat ?_;try clear hpat;intro hP hu
 obtain rfl:v=.ref a:=hP
 obtain ⟨ha,_,_,es,ep,hd,hk,hz,r⟩:=hs.hr _ _ hσ
 refine e1_2 (X.cd) ?_;intro cd hc hh
 have I:=instAt_of ha hd
 refine set_plain (hs.kin T) I X.sa ?_
 have hs1:St W σ { s with toks:=s.toks+1 }:=hs.same rfl rfl rfl (Nat.le_succ _)
 refine osa_open (s:={ s with toks:=s.toks+1 }) (r:=none) (hs.kin T) I X.po (by unfold takerIn;rw[hf];rfl) fun b=>?_
 refine wpAny_bind (wpAny_pure (wpAny_bind (wpAny_bind (wpAny_loadPart ha (wpAny_bind ((looks_clsIn (hs1.kin T) hc).here ?_))))))
 rw[hh]
 refine wpAny_pure (a:=some d) (wpAny_bind (wpAny_pure (wpAny_bind ?_)))
 refine nsSet_exact hd hk fun es' ep' f e1 e2 e3 e4 e5=>?_
 have hsb:=Heap.SameBut.update s.heap d f
 have hg:(s.heap.update d f).get? d=some (dObj es' ep'):=by rw[← e1];exact Heap.get?_update_self _ hd (by rw[e1];rfl)
 have hsz:es'.size≤n':=by
  rcases hn' with q |⟨q1,q2⟩
  ·lia
  ·have:nsFind es name≠none:=fun z=>by
    have y:=r name
    cases w:fs name with
    |none=>exact q1 w
    |some p'=>rw[w] at y;refine e1_2 y ?_;try clear y;intro _ y1 _;rw[z] at y1;cases y1
   have:=e4 this
   lia
 have F1:=fle_updInst (fs':=fset fs name p) (n':=n') hs hσ hsb
 have S1:=hs.updateInst (fs':=fset fs name p) (tk:=s.toks+1+1) T.lim hσ hsb hg e2 hsz (fun y=>by
  by_cases q:y=name
  ·subst q;rw[fset_same,e5,if_pos rfl];exact⟨u,rfl,VRel.mono F1 hu⟩
  ·rw[fset_ne q,e5,if_neg q];exact ORl.mono F1 (r y))
 refine wpAny_bind (wpAny_lookBehind (o:=dObj es' ep') hg (pastItsLine_dict (by rw[sizeLine_eq];have:=hsz;rcases hn' with q |⟨_,q⟩ <;> lia)) ?_)
 exact wpAny_pure ⟨(),_,S1,F1,rfl,h⟩
end
def FLi (F F':FM):Prop:=∀ a o,iterCls o.cls=false→F a o→F' a o
theorem FLe.i {F F':FM} (h:FLe F F'):FLi F F':=fun a o _=>h a o
theorem OR.keepI {σ:Sig}{h h':Heap}{a:Addr}{ao:AObj} (x:OR σ h a ao) (hF:FLi (Fz σ h) (Fz σ h')) (ha:h'.get? a=h.get? a)
  (hd:∀ C d fs n,ao=.inst C d fs n→h'.get? d=h.get? d):OR σ h' a ao:=by
 have ml:∀ {p:Option PV}{v:Option Value},ORl (Fz σ h) p v→ORl (Fz σ h') p v:=fun {p v} q=>by
  cases p with
  |none=>exact q
  |some p=>refine e1_2 q ?_;try clear q;intro w e r;exact⟨w,e,r.mono2 hF⟩
 cases ao with
 |list l=>refine e2_2 x ?_;try clear x;intro vs n e r;exact⟨vs,n,ha.trans e,r.mono2 hF⟩
 |inst C d fs n=>obtain ⟨e,lt,p,es,ep,ho,hk,hz,r⟩:=x;exact⟨ha.trans e,lt,p,es,ep,(hd C d fs n rfl).trans ho,hk,hz,fun y=>ml (r y)⟩
 |part _=>refine e1_1 x ?_;try clear x;intro o e;exact⟨o,ha.trans e⟩
 |frame m =>
  refine e1_2 x ?_;try clear x;intro mc hn r
  refine⟨mc,Ns.of_get hn ha,fun y=>?_⟩
  have:=r y
  revert this
  cases m y with
  |none=>exact fun _=>trivial
  |some p=>exact fun ⟨w,e,q⟩=>⟨w,e,q.mono2 hF⟩
 |cell p=>refine e2_4 x ?_;try clear x;intro o v ho hc hd r;exact⟨o,v,ha.trans ho,hc,hd,ml r⟩
 |citer _ _=>refine e2_2 x ?_;try clear x;intro v t e r;exact⟨v,t,ha.trans e,r.mono2 hF⟩
 |own=>refine e2_1 x ?_;try clear x;intro o o' e;exact⟨o,o',ha.trans e⟩
def ExtW (wr pr:List Addr) (h h':Heap):Prop:=∀ c o,c ∉ wr→c ∉ pr→h.get? c=some o→h'.get? c=some o
theorem ExtW.one {I:Addr}{h h':Heap} (x:Heap.ExtBut I h h'):ExtW [I] [] h h':=fun c o a _ e=>x c o (fun z=>a (by rw[z];exact List.mem_singleton.mpr rfl)) e
def Pr (h:Heap) (c:Addr):Prop:=∃ x y,h.get? c=some { cls:=.type "tuple",data:=.seq #[x,y] }
theorem St.iter {W:Wd}{σ:Sig}{s:Shared} (S:St W σ s) (T:Top W){wr pr:List Addr} (hw:∀ c∈wr,σ c=none∧W.h₁.objs.size≤c∧∃ o,s.heap.get? c=some o∧iterCls o.cls=true) (hp:∀ c∈pr,σ c=some .own)
  {h':Heap} (hx:ExtW wr pr s.heap h') (hp':∀ c∈pr,Pr h' c){tk:Nat} (ht:1≤tk:=by l_fit) :
  St W σ { s with heap:=h',toks:=tk }∧FLi (Fz σ s.heap) (Fz σ h'):=by
 have F1:FLi (Fz σ s.heap) (Fz σ h'):=fun a oo q hpat=>by
  refine e0_3 hpat ?_;try clear hpat;intro e1 e2 e3
  refine⟨e1,hx a oo (fun z=>?_) (fun z=>?_) e2,e3⟩
  ·obtain ⟨_,_,o,ho,hc⟩:=hw a z
   rw[e2] at ho;cases ho;rw[hc] at q;cases q
  ·rw[hp a z] at e1;cases e1
 have old:∀ b o,W.h₁.get? b=some o→b ∉ wr∧b ∉ pr:=fun b o e =>
  ⟨fun z=>Nat.lt_irrefl _ (Nat.lt_of_lt_of_le (Heap.lt_size e) (hw b z).2.1),fun z=>Nat.lt_irrefl _ (Nat.lt_of_lt_of_le (Heap.lt_size e) (S.above b (by rw[hp b z];simp)))⟩
 have hx':∀ b o o',W.h₁.get? b=some o→s.heap.get? b=some o'→h'.get? b=some o':=fun b o o' e e'=>hx b o' (old b o e).1 (old b o e).2 e'
 have keep:∀ a o,a ∉ wr→a ∉ pr→s.heap.get? a=some o→h'.get? a=s.heap.get? a:=fun a o q q' e=>by rw[e];exact hx a o q q' e
 have held:∀ a o,σ a=some o→a ∉ wr:=fun a o e z=>by rw[(hw a z).1] at e;cases e
 have htP:W.tP ∉ wr∧W.tP ∉ pr:=⟨fun z=>Nat.lt_irrefl _ (Nat.lt_of_lt_of_le W.tlt (hw _ z).2.1),fun z=>Nat.lt_irrefl _ (Nat.lt_of_lt_of_le W.tlt (S.above _ (by rw[hp _ z];simp)))⟩
 refine⟨⟨fun a ao e=>?_,?_,S.above,?_,?_,S.os,S.gens,ht,S.tab.keep F1 (keep _ S.tab.there.choose htP.1 htP.2 S.tab.there.choose_spec)⟩,F1⟩
 ·by_cases hpa:a∈pr
  ·rw[hp a hpa] at e;cases e
   exact hp' a hpa
  have ha:=held a ao e
  refine e1_1 ((S.hr a ao e).there) ?_;intro o' ho'
  refine(S.hr a ao e).keepI F1 (keep a o' ha hpa ho') fun C d fs n z=>?_
  obtain ⟨z1,o'',z2⟩:=S.dict_there (z▸e)
  exact keep d o'' (held d _ z1) (fun w=>by rw[hp d w] at z1;cases z1) z2
 ·refine⟨fun b o e=>?_,fun b o e=>let ⟨o',ho'⟩:=S.old.there b o e;⟨o',hx' b o o' e ho'⟩⟩
  rcases S.old.old b o e with x |⟨t,hc,vs,more,hv,x⟩ |⟨rfl,hc,⟨o',es,n,ho',r⟩,z⟩
  ·exact .inl (hx' b o _ e x)
  ·exact .inr (.inl ⟨t,hc,vs,more,hv,hx' b o _ e x⟩)
  ·exact .inr (.inr ⟨rfl,hc,⟨o',es,n,hx' _ _ _ e ho',r⟩,fun key=>by rw[OldK.staticOf_congr ((hx' _ _ _ e ho').trans ho'.symm) key];exact z key⟩)
 ·refine e1_1 (T.last) ?_;intro o' ho'
  refine e1_1 (S.old.there _ _ ho') ?_;intro o'' ho''
  have h1:(W.h₁.objs.size-1:Nat)<h'.objs.size:=Heap.lt_size (hx' _ _ _ ho' ho'')
  have h2:(W.h₁.objs.size-1:Nat)<W.h₁.objs.size:=Heap.lt_size ho'
  show W.h₁.objs.size≤h'.objs.size
  exact Nat.le_of_pred_lt h1
 ·refine e1_2 (S.lim) ?_;intro mc hn r
  refine e1_2 (T.lim) ?_;intro mc' hn' _
  refine e3_2 (id hn') ?_;intro oc es ep hoc rest
  refine e3_2 hn ?_;try clear hn;intro o1 es1 ep1 ho1 rest1
  exact⟨mc,⟨o1,es1,ep1,hx' _ _ _ hoc ho1,rest1⟩,r⟩
noncomputable def isTup:Expr→Bool
 | .Tuple .. => true
 |_=>false
structure Iter (W:Wd) (I:Addr) (wr pr:List Addr) (items:List PV) (SrcS:Sig→Prop) (SrcF:FM→Prop) (At:Nat→Heap→Prop) (Mid:Nat→Value→Heap→Prop) (tup:Bool):Prop where
 kind:∀ {i h},At i h→∀ c∈wr,∃ o,h.get? c=some o∧iterCls o.cls=true
 kindM:∀ {i v h},Mid i v h→∀ c∈wr,∃ o,h.get? c=some o∧iterCls o.cls=true
 keep:∀ {i h h'},At i h→(∀ c∈wr,h'.get? c=h.get? c)→At i h'
 held:∀ {σ},SrcS σ→∀ c∈pr,σ c=some .own
 mono:∀ {F F'},FLi F F'→SrcF F→SrcF F'
 item:∀ {i p},items[i]? = some p→∀ A,A.handled=Option.none→∀ σ s,St W σ s→SrcS σ→SrcF (FrOf σ s)→At i s.heap→∀ (Q:Option Value→Shared→Prop) E,
  (∀ v h' tk,Mid (i+1) v h'→ExtW wr pr s.heap h'→(∀ c∈pr,Pr h' c)→VRel (Fz σ h') p v→Q (some v) { s with heap:=h',toks:=tk })→wpAny (model W.prog W.w) A (pyNext (.ref I)) Q E s
 done:∀ A,A.handled=Option.none→∀ σ s,St W σ s→SrcS σ→SrcF (FrOf σ s)→At items.length s.heap→∀ (Q:Option Value→Shared→Prop) E,
  (∀ h' tk,ExtW wr pr s.heap h'→(∀ c∈pr,Pr h' c)→Q Option.none { s with heap:=h',toks:=tk })→wpAny (model W.prog W.w) A (pyNext (.ref I)) Q E s
 self:∀ {i} A s,At i s.heap→∀ (Q:Value→Shared→Prop) E,Q (.ref I) s→wpAny (model W.prog W.w) A (pyIter (.ref I)) Q E s
 own:∀ {i} t A s v,(tup=true→isTup t=true)→Mid i v s.heap→∀ (Q:Unit→Shared→Prop) E,(∀ h',At i h'→ExtW wr [] s.heap h'→Q () { s with heap:=h' })→wpAny (model W.prog W.w) A (letOwnedTupleGo t (.ref I) v) Q E s
structure IterS (W:Wd) (I:Addr) (items:List PV) (SrcS:Sig→Prop) (SrcF:FM→Prop) (At:Nat→Heap→Prop):Prop where
 kind:∀ {i h},At i h→∃ o,h.get? I=some o∧iterCls o.cls=true
 keep:∀ {i h h'},At i h→h'.get? I=h.get? I→At i h'
 mono:∀ {F F'},FLi F F'→SrcF F→SrcF F'
 item:∀ {i p},items[i]? = some p→∀ A,A.handled=Option.none→∀ σ s,St W σ s→SrcS σ→SrcF (FrOf σ s)→At i s.heap→∀ (Q:Option Value→Shared→Prop) E,
  (∀ v h' tk,At (i+1) h'→Heap.ExtBut I s.heap h'→VRel (Fz σ h') p v→Q (some v) { s with heap:=h',toks:=tk })→wpAny (model W.prog W.w) A (pyNext (.ref I)) Q E s
 done:∀ A,A.handled=Option.none→∀ σ s,St W σ s→SrcS σ→SrcF (FrOf σ s)→At items.length s.heap→∀ (Q:Option Value→Shared→Prop) E,
  (∀ h' tk,Heap.ExtBut I s.heap h'→Q Option.none { s with heap:=h',toks:=tk })→wpAny (model W.prog W.w) A (pyNext (.ref I)) Q E s
 self:∀ {i} A s,At i s.heap→∀ (Q:Value→Shared→Prop) E,Q (.ref I) s→wpAny (model W.prog W.w) A (pyIter (.ref I)) Q E s
 own:∀ {i} t A s v,At i s.heap→∀ (Q:Unit→Shared→Prop) E,Q () s→wpAny (model W.prog W.w) A (letOwnedTupleGo t (.ref I) v) Q E s
theorem IterS.iter {W:Wd}{I:Addr}{items:List PV}{SrcS:Sig→Prop}{SrcF:FM→Prop}{At:Nat→Heap→Prop} (x:IterS W I items SrcS SrcF At):Iter W I [I] [] items SrcS SrcF At (fun i _ h=>At i h) false where
 kind:=fun h c hc=>by obtain rfl:=List.mem_singleton.mp hc;exact x.kind h
 kindM:=fun h c hc=>by obtain rfl:=List.mem_singleton.mp hc;exact x.kind h
 keep:=fun h e=>x.keep h (e _ (List.mem_singleton.mpr rfl))
 held:=fun _ c hc=>by cases hc
 mono:=x.mono
 item:=fun hp A hA σ s S h1 h2 hat Q E q=>x.item hp A hA σ s S h1 h2 hat Q E fun v h' tk a b r=>q v h' tk a (.one b) (fun c hc=>by cases hc) r
 done:=fun A hA σ s S h1 h2 hat Q E q=>x.done A hA σ s S h1 h2 hat Q E fun h' tk b=>q h' tk (.one b) fun c hc=>by cases hc
 self:=x.self
 own:=fun t A s v _ hat Q E q=>x.own t A s v hat Q E (q s.heap hat fun c o _ _ e=>e)
def Itbl (W:Wd) (q:PV) (items:List PV) (SrcS:Sig→Prop) (tup:Bool:=false):Prop :=
 ∀ A,A.handled=Option.none→∀ σ s,St W σ s→SrcS σ→∀ v,VRel (FrOf σ s) q v→∀ (Q:Value→Shared→Prop) E,
  (∀ o SrcF At Mid,iterCls o.cls=true→Iter W s.heap.objs.size [s.heap.objs.size] [] items SrcS SrcF At Mid tup→At 0 (s.heap.push o)→SrcF (FrOf σ s)→Q (.ref s.heap.objs.size) { s with heap:=s.heap.push o })→wpAny (model W.prog W.w) A (pyIter v) Q E s
def EI (W:Wd) (k:Nat) (env:Env) (iter:Expr) (items:List PV) (SrcS:List Addr→Sig→Prop) (tup:Bool) (σ:Sig) (K:List Addr→Sig→Prop):Prop :=
 ∀ A,Room A k→∀ s,St W σ s→wpAny (model W.prog W.w) A (eval iter env) (fun x s₁=>∀ (Q:Value→Shared→Prop),
  (∀ I wr pr SrcF At Mid σ₂ s₂,St W σ₂ s₂→FLe (FrOf σ s) (FrOf σ₂ s₂)→Iter W I wr pr items (SrcS pr) SrcF At Mid tup→At 0 s₂.heap→SrcF (FrOf σ₂ s₂)→I∈wr→(∀ c∈wr,σ₂ c=none∧W.h₁.objs.size≤c∧∀ o,¬ FrOf σ s c o)→(∀ c∈pr,∀ o,¬ FrOf σ s c o)→K pr σ₂→Q (.ref I) s₂) →
   wpAny (model W.prog W.w) A (pyIter x) Q (fun _ _=>False) s₁) (fun _ _=>False) s
section
variable {W:Wd}{k:Nat}{env:Env}{σ:Sig}
theorem G.subM {α β:Type}{R:FM→β→α→Prop}{P:FM→Prop}{t:Sem α}{K:β→Sig→Prop} (hm:∀ F F' b v,FLe F F'→R F b v→R F' b v)
  (h:G W k P R t σ fun b σ₁=>∃ σ',(∀ s,St W σ₁ s→Sub σ' σ₁)∧K b σ'):G W k P R t σ K:=fun A hA s hs hP =>
 G.use h A hA s hs hP (fun v s' b σ₁ a1 a2 a3 hpat=>by
  refine e1_2 hpat ?_;try clear hpat;intro σ' b1 b2
  exact⟨b,σ',a1.sub (b1 s' a1),a2.trans (fle_sub (b1 s' a1)),hm _ _ _ _ (fle_sub (b1 s' a1)) a3,b2⟩) fun _ _ x=>x
theorem EI_of {iter:Expr}{items:List PV}{SrcS:Sig→Prop}{tup:Bool}{K:Sig→Prop} (h:E W k env iter σ fun q σ₁=>Itbl W q items SrcS tup∧SrcS σ₁∧K σ₁):EI W k env iter items (fun _=>SrcS) tup σ (fun _=>K):=fun A hA s hs=>by
 refine wpAny_mono (h A hA s hs trivial) (fun v s₁ hpat Q hQ=>?_) fun _ _ x=>x
 refine e2_6 hpat ?_;try clear hpat;intro q σ₁ a1 a2 a3 a5 a6 a7
 refine a5 A hA.1 σ₁ s₁ a1 a6 v a3 _ _ fun o SrcF At Mid hc It hat hsrc=>?_
 have S2:=a1.push o
 have F2:=fle_push (σ:=σ₁) (h:=s₁.heap) (o:=o)
 refine hQ _ _ _ SrcF At Mid σ₁ _ S2 (a2.trans F2) It hat (It.mono F2.i hsrc) (List.mem_singleton.mpr rfl) (fun c hc'=>?_) (fun c hc'=>by cases hc') a7
 obtain rfl:=List.mem_singleton.mp hc'
 exact⟨a1.fresh _ (Nat.le_refl _),a1.sz,fun o' x=>Nat.lt_irrefl _ (Heap.lt_size (a2 _ _ x).2.1)⟩
abbrev jBd (J:Sig→Prop) (K:AFlow→Sig→Prop) (fl:AFlow) (σ:Sig):Prop:=match fl with | .next | .cont=>J σ | .brk=>K .next σ | .ret r=>K (.ret r) σ
abbrev jFo (W:Wd) (k:Nat) (env:Env) (body:List Stmt) (J:Sig→Prop) (K:AFlow→Sig→Prop) (_:Unit) (σ:Sig):Prop:=XS W k env body σ (jBd J K)
theorem tupOk {t:Bool}{e:Expr} (h:(!t ||isTup e)=true) (ht:t=true):isTup e=true:=by subst ht;exact h
theorem loop_G (T:Top W){target:Expr}{body orelse:List Stmt}{items:List PV}{SrcS:Sig→Prop}{tup:Bool} (htup:tup=true→isTup target=true) (J:Nat→Sig→Prop){K:AFlow→Sig→Prop}
  (src:∀ i σ,J i σ→SrcS σ)
  (turn:∀ i p σ,items[i]? = some p→J i σ→O1 W k REq (fun v=>assign target env v) p σ (jFo W k env body (J (i+1)) K))
  (fin:∀ σ,J items.length σ→XS W k env orelse σ K)
  {I:Addr}{wr pr:List Addr}{SrcF:FM→Prop}{At:Nat→Heap→Prop}{Mid:Nat→Value→Heap→Prop} (It:Iter W I wr pr items SrcS SrcF At Mid tup) (hIb:∀ c∈wr,W.h₁.objs.size≤c){F₀:FM} (hF₀:∀ c∈wr,∀ o,¬ F₀ c o) (hF₁:∀ c∈pr,∀ o,¬ F₀ c o) :
  ∀ A,Room A k→∀ n s,(∃ i σ,n=items.length-i∧i≤items.length∧St W σ s∧At i s.heap∧(∀ c∈wr,σ c=Option.none)∧FLe F₀ (FrOf σ s)∧SrcF (FrOf σ s)∧J i σ) →
   codeAny (model W.prog W.w) A (.forLoop target (.ref I) body orelse env) (fun r s'=>match r with | .ok f=>∃ fl σ',St W σ' s'∧FLe F₀ (FrOf σ' s')∧LRel (FrOf σ' s') fl f∧K fl σ' | .error _=>False) s:=fun A hA n s hI=>by
 refine codeAny_forLoop_any (fun n s=>∃ i σ,n=items.length-i∧i≤items.length∧St W σ s∧At i s.heap∧(∀ c∈wr,σ c=Option.none)∧FLe F₀ (FrOf σ s)∧SrcF (FrOf σ s)∧J i σ) (fun n s hI=>?_) n hI
 refine e2_8 hI ?_;try clear hI;intro i σ zz1 hi S hat hσI hF hsrc hJ;subst zz1
 have hh:=It.held (src _ _ hJ)
 have move:∀ {s:Shared}{h':Heap}{tk:Nat},St W σ s→(∀ c∈wr,∃ o,s.heap.get? c=some o∧iterCls o.cls=true)→FLe F₀ (FrOf σ s)→ExtW wr pr s.heap h'→(∀ c∈pr,Pr h' c)→1≤tk→(St W σ { s with heap:=h',toks:=tk }∧FLi (Fz σ s.heap) (Fz σ h'))∧FLe F₀ (Fz σ h'):=fun {s h' tk} S hk hF hx hp ht =>
  ⟨S.iter (tk:=tk) T (fun c hc=>⟨hσI c hc,hIb c hc,hk c hc⟩) hh hx hp ht,fun a o x=>by
   refine e0_3 (hF a o x) ?_;intro e1 e2 e3
   exact⟨e1,hx a o (fun z=>hF₀ a z o x) (fun z=>hF₁ a z o x) e2,e3⟩⟩
 rcases Nat.lt_or_ge i items.length with hlt |hge
 ·refine e1_1 (⟨items[i],List.getElem?_eq_getElem hlt⟩:∃ p,items[i]? = some p) ?_;intro p hp
  refine wpAny_tok (It.item hp A hA.1 σ s S (src _ _ hJ) hsrc hat _ _ fun v h' tk hmid hsb hpr hv (htk:s.toks≤tk)=>?_)
  refine e0_2 (move (tk:=tk) S (It.kind hat) hF hsb hpr (Nat.le_trans S.tk htk)) ?_;intro zz1 hF';refine e0_2 zz1 ?_;clear zz1;intro S' Fi
  refine It.own _ _ _ _ htup hmid _ _ fun h'' hat' hsb'=>?_
  have hpr'':∀ c∈pr,Pr h'' c:=fun c hc=>by
   refine e2_1 (hpr c hc) ?_;intro x y e
   exact⟨x,y,hsb' c _ (fun z=>by have:=hh c hc;rw[hσI c z] at this;cases this) (by simp) e⟩
  refine e0_2 (move (tk:=tk) (h':=h'') S' (It.kindM hmid) hF' (fun c o q _ e=>hsb' c o q (by simp) e) hpr'' (Nat.le_trans S.tk htk)) ?_;intro zz1 hF'';refine e0_2 zz1 ?_;clear zz1;intro S'' Fi'
  refine G.use (turn i p σ hp hJ v) A hA _ S'' (hv.mono2 Fi') (fun _ s₁ _ σ₁ a1 a2 a3 a4=>?_) fun _ _ x=>x.elim
  refine G.use a4 A hA s₁ a1 trivial (fun f s₂ fl σ₂ b1 b2 b3 b4=>?_) fun _ _ x=>x.elim
  have hFF:FLe (Fz σ h'') (FrOf σ₂ s₂):=a2.trans b2
  have hI2:∀ c∈wr,σ₂ c=none∧s₂.heap.get? c=h''.get? c:=fun c hc=>by
   refine e1_2 (It.kind hat' c hc) ?_;intro o ho hcl
   have:=hFF c o ⟨hσI c hc,ho,fun z=>by rw[z] at hcl;cases hcl⟩
   exact⟨this.1,this.2.1.trans ho.symm⟩
  have hat2:At (i+1) s₂.heap:=It.keep hat' fun c hc=>(hI2 c hc).2
  have hsrc2:=It.mono hFF.i (It.mono Fi' (It.mono Fi hsrc))
  cases fl with
  |next=>cases b3;exact⟨items.length-(i+1),Nat.sub_lt_sub_left hlt (Nat.lt_succ_self i),i+1,σ₂,rfl,hlt,b1,hat2,fun c hc=>(hI2 c hc).1,hF''.trans hFF,hsrc2,b4⟩
  |cont=>cases b3;exact⟨items.length-(i+1),Nat.sub_lt_sub_left hlt (Nat.lt_succ_self i),i+1,σ₂,rfl,hlt,b1,hat2,fun c hc=>(hI2 c hc).1,hF''.trans hFF,hsrc2,b4⟩
  |brk=>cases b3;exact⟨.next,σ₂,b1,hF''.trans hFF,rfl,b4⟩
  |ret r=>refine e1_2 b3 ?_;try clear b3;intro w zz1 hr;subst zz1;exact⟨.ret r,σ₂,b1,hF''.trans hFF,⟨w,rfl,hr⟩,b4⟩
 ·have:i=items.length:=Nat.le_antisymm hi hge
  subst this
  refine wpAny_tok (It.done A hA.1 σ s S (src _ _ hJ) hsrc hat _ _ fun h' tk hx hpr (htk:s.toks≤tk)=>?_)
  refine e0_2 (move (tk:=tk) S (It.kind hat) hF hx hpr (Nat.le_trans S.tk htk)) ?_;intro zz1 hF';refine e0_2 zz1 ?_;clear zz1;intro S' Fi
  exact G.use (fin σ hJ) A hA _ S' trivial (fun f s₂ fl σ₂ b1 b2 b3 b4=>⟨fl,σ₂,b1,hF'.trans b2,b3,b4⟩) fun _ _ x=>x.elim
theorem X_ForI (T:Top W){target iter:Expr}{body orelse:List Stmt}{pos:Pos}{K:AFlow→Sig→Prop}{tup:Bool} (items:List PV) (SrcS:List Addr→Sig→Prop) (J:List Addr→Nat→Sig→Prop)
  (h:EI W k env iter items SrcS tup σ fun pr σ₁=>J pr 0 σ₁)
  (src:∀ pr i σ,J pr i σ→SrcS pr σ)
  (turn:∀ pr i p σ,items[i]? = some p→J pr i σ→O1 W k REq (fun v=>assign target env v) p σ (jFo W k env body (J pr (i+1)) K))
  (fin:∀ pr σ,J pr items.length σ→XS W k env orelse σ K)
  (htup:autoParam ((!tup ||isTup target)=true) tR)
  (hfold:autoParam (∀ x,foldedSetIterable iter env x=Pure.pure x) tI):X W k env (.For target iter body orelse pos) σ K:=fun A hA s hs hP=>by
 show wpAny _ A (do
  standAt pos
  let x ← foldedSetIterable iter env (← eval iter env)
  standAt iter.pos
  runOwn (.forLoop target (← holding [x] (pyIter x)) body orelse env) env) _ _ s
 refine wpAny_bind (wpAny_standAt (wpAny_bind (wpAny_mono (h A hA s hs) (fun v s₁ hpat=>?_) fun _ _ x=>x)))
 rw[hfold]
 refine wpAny_bind (wpAny_pure (wpAny_bind (wpAny_standAt (wpAny_bind (wpAny_holding (hpat _ fun I wr pr SrcF At Mid σ₂ s₂ S2 F2 It hat hsrc hI hw hp hJ=>?_))))))
 refine wpAny_runOwn (codeAny_mono (loop_G T (tupOk htup) (J pr) (src pr) (turn pr) (fin pr) It (fun c hc=>(hw c hc).2.1) (F₀:=FrOf σ s) (fun c hc=>(hw c hc).2.2) hp A hA (items.length-0) _ ⟨0,σ₂,rfl,Nat.zero_le _,S2,hat,fun c hc=>(hw c hc).1,F2,hsrc,hJ⟩) fun r s' hr=>?_)
 cases r with
 |ok f=>exact hr
 |error e=>exact hr.elim
theorem X_For (T:Top W){target iter:Expr}{body orelse:List Stmt}{pos:Pos}{K:AFlow→Sig→Prop}{q₀:PV} (items:List PV) (SrcS:Sig→Prop) (J:Nat→Sig→Prop)
  (h:E W k env iter σ fun q σ₁=>q=q₀∧Itbl W q₀ items SrcS∧J 0 σ₁)
  (src:∀ i σ,J i σ→SrcS σ)
  (turn:∀ i p σ,items[i]? = some p→J i σ→O1 W k REq (fun v=>assign target env v) p σ (jFo W k env body (J (i+1)) K))
  (fin:∀ σ,J items.length σ→XS W k env orelse σ K)
  (hfold:autoParam (∀ x,foldedSetIterable iter env x=Pure.pure x) tI):X W k env (.For target iter body orelse pos) σ K :=
 X_ForI (tup:=false) T items (fun _=>SrcS) (fun _=>J) (EI_of (h.imp fun q σ₁ hpat=>by refine e0_3 hpat ?_;try clear hpat;intro zz1 a b;subst zz1;exact⟨a,src _ _ b,b⟩)) (fun _=>src) (fun _=>turn) (fun _=>fin) rfl hfold
end
theorem own_plain {M:Model}{A:Around}{E:Value→Shared→Prop}{s:Shared}{t:Expr}{I:Addr}{v:Value}{o:Obj}{n:String}{Q:Unit→Shared→Prop} (ho:s.heap.get? I=some o) (hc:o.cls=.type n)
  (hn:["enumerate","zip","dict_itemiterator","dict_reverseitemiterator","odict_iterator","itertools.zip_longest","itertools.pairwise"].contains n=false) (h:Q () s):wpAny M A (letOwnedTupleGo t (.ref I) v) Q E s:=by
 unfold letOwnedTupleGo
 cases t <;> try exact wpAny_pure h
 all_goals
  cases v <;> try exact wpAny_pure h
  refine wpAny_bind (wpAny_load ho ?_)
  rw[hc]
  cases o.data <;> try exact wpAny_pure h
  dsimp only
  rw[hn,Bool.false_and]
  exact wpAny_pure h
theorem fz_ext {σ:Sig}{I:Addr}{h h':Heap} (hx:Heap.ExtBut I h h'){oI:Obj} (hI:h.get? I=some oI) (hc:iterCls oI.cls=true):FLi (Fz σ h) (Fz σ h'):=fun a o q hpat=>by
 refine e0_3 hpat ?_;try clear hpat;intro e1 e2 e3
 have:a≠I:=fun z=>by rw[z,hI] at e2;cases e2;rw[hc] at q;cases q
 exact⟨e1,hx a o this e2,e3⟩
theorem isList_of {h:Heap}{a:Addr}{vs:Array Value}{n:Nat} (e:h.get? a=some (listOf vs n)):h.IsList a vs:=⟨_,e,rfl,n,rfl⟩
theorem isTuple_of {h:Heap}{a:Addr}{vs:Array Value}{n:Nat} (e:h.get? a=some (tupleObj vs n)):h.IsTuple a vs:=⟨_,e,rfl,n,rfl⟩
theorem vrels_at {F:FM}{l:List PV}{vs:Array Value}{i:Nat}{p:PV} (h:VRels F l vs.toList) (e:l[i]? = some p):∃ v,vs[i]? = some v∧VRel F p v:=by
 refine e1_2 (h.get e) ?_;intro v a b
 exact⟨v,by rw[← Array.getElem?_toList];exact a,b⟩
theorem vrels_end {F:FM}{l:List PV}{vs:Array Value} (h:VRels F l vs.toList):vs[l.length]? = none:=by
 have:=h.length
 rw[← Array.getElem?_toList,← this];simp
section
variable {W:Wd}{items:List PV}
theorem iter_list {I l:Addr} (SrcS:Sig→Prop) (SrcF:FM→Prop) (hm:∀ {F F'},FLi F F'→SrcF F→SrcF F')
  (hg:∀ σ s,St W σ s→SrcS σ→SrcF (FrOf σ s)→∃ vs n,s.heap.get? l=some (listOf vs n)∧VRels (FrOf σ s) items vs.toList):IterS W I items SrcS SrcF (fun i h=>h.IsListIter I l i) where
 kind:=fun ⟨o,ho,hc,_⟩=>⟨o,ho,by rw[hc];rfl⟩
 keep:=fun ⟨o,ho,r⟩ e=>⟨o,e.trans ho,r⟩
 mono:=hm
 item:=fun {i p} hp A hA σ s S h1 h2 hat Q E q=>by
  refine e2_2 (hg σ s S h1 h2) ?_;intro vs n e r
  refine e1_2 (vrels_at r hp) ?_;intro v hv rv
  refine e1_3 (id hat) ?_;intro o ho hc _
  exact wpAny_pyNext_list_item hat (isList_of e) hv fun h' hit' hs'=>q _ h' s.toks hit' hs'.extBut (rv.mono2 (fz_ext hs'.extBut ho (by rw[hc];rfl)))
 done:=fun A hA σ s S h1 h2 hat Q E q=>by
  refine e2_2 (hg σ s S h1 h2) ?_;intro vs n e r
  exact wpAny_pyNext_list_end hA hat (isList_of e) (vrels_end r) fun h' he'=>q h' s.toks he'
 self:=fun A s hat Q E q=>wpAny_pyIter_listiter hat q
 own:=fun t A s v hat Q E q=>by refine e1_3 hat ?_;try clear hat;intro o ho hc _;exact own_plain ho hc rfl q
theorem Itbl.lst:Itbl W (.lst items) items (fun _=>True):=fun A hA σ s S _ v hv Q E q=>by
 refine e3_3 hv ?_;try clear hv;intro l vs n zz1 f r;subst zz1
 refine wpAny_pyIter_list (isList_of f.2.1) ?_
 exact q _ (fun F=>∃ vs n,F l (listOf vs n)∧VRels F items vs.toList) (fun i h=>h.IsListIter s.heap.objs.size l i) _ rfl
  (iter_list _ _ (fun m hpat=>by refine e2_2 hpat ?_;try clear hpat;intro vs n a b;exact⟨vs,n,m _ _ rfl a,b.mono2 m⟩) fun σ s S _ hpat=>by refine e2_2 hpat ?_;try clear hpat;intro vs n a b;exact⟨vs,n,a.2.1,b⟩).iter ⟨_,Heap.get?_push_size _ rfl,rfl,rfl⟩ ⟨vs,n,f,r⟩
theorem Itbl.ref {a:Addr}:Itbl W (.ref a) items (fun σ=>σ a=some (.list items)):=fun A hA σ s S hs v hv Q E q=>by
 obtain rfl:v=.ref a:=hv
 refine e2_2 (S.hr _ _ hs) ?_;intro vs n f r
 refine wpAny_pyIter_list (isList_of f) ?_
 exact q _ (fun _=>True) (fun i h=>h.IsListIter s.heap.objs.size a i) _ rfl
  (IterS.iter (iter_list (l:=a) (fun σ=>σ a=some (.list items)) (fun _=>True) (fun _ _=>trivial) fun σ s S h _=>S.hr _ _ h)) ⟨_,Heap.get?_push_size _ rfl,rfl,rfl⟩ trivial
noncomputable def signs (x:List Nat):List PV:=x.map fun c=>.str [c]
theorem sign_at {x:List Nat}{i:Nat}{p:PV} (h:(signs x)[i]? = some p):∃ c,x[i]? = some c∧p=.str [c]:=by
 unfold signs at h
 rw[List.getElem?_map] at h
 cases q:x[i]? with
 |none=>rw[q] at h;cases h
 |some c=>rw[q] at h;exact⟨c,rfl,(Option.some.inj h).symm⟩
theorem signs_len (x:List Nat):(signs x).length=x.length:=List.length_map ..
theorem Itbl.str {x:List Nat}:Itbl W (.str x) (signs x) (fun _=>True):=fun A hA σ s S _ v hv Q E q=>by
 refine e1_1 hv ?_;try clear hv;intro t zz1;subst zz1
 have key:∀ (ty:String) (hty:iterCls (.type ty)=true) (hown:["enumerate","zip","dict_itemiterator","dict_reverseitemiterator","odict_iterator","itertools.zip_longest","itertools.pairwise"].contains ty=false)
   (hself:∀ i A (s':Shared),s'.heap.IsStrIter s.heap.objs.size ty ⟨x.toArray⟩ t i→∀ (Q:Value→Shared→Prop) E,Q (.ref s.heap.objs.size) s'→wpAny (model W.prog W.w) A (pyIter (.ref s.heap.objs.size)) Q E s')
   (hW:∀ A',A'.handled=none→Walks W.prog W.w A' s.heap.objs.size [s.heap.objs.size] [s.heap.objs.size] x.toArray.size (SignAt ⟨x.toArray⟩) (fun i h=>h.IsStrIter s.heap.objs.size ty ⟨x.toArray⟩ t i)),
   IterS W s.heap.objs.size (signs x) (fun _=>True) (fun _=>True) (fun i h=>h.IsStrIter s.heap.objs.size ty ⟨x.toArray⟩ t i):=fun ty hty hown hself hW=>{
  kind:=fun ⟨o,ho,hc,_⟩=>⟨o,ho,by rw[hc];exact hty⟩
  keep:=fun ⟨o,ho,r⟩ e=>⟨o,e.trans ho,r⟩
  mono:=fun _ _=>trivial
  item:=fun {i p} hp A hA σ s S _ _ hat Q E q=>by
   refine e1_2 (sign_at hp) ?_;intro c hc zz1;subst zz1
   have hi:i<x.toArray.size:=by
    rcases Nat.lt_or_ge i x.length with h |h
    ·simpa using h
    ·rw[List.getElem?_eq_none h] at hc;cases hc
   refine(hW A hA).item i s Q E hi hat fun v h' tk hv hat' hk=>q v h' tk hat' (fun b o hb e=>hk b o (by simp[hb]) e) ?_
   refine e2_2 hv ?_;try clear hv;intro c' u e1 zz1;subst zz1
   have:c'=c:=by
    have e1:x.toArray[i]? = some c':=e1
    rw[List.getElem?_toArray,hc] at e1;exact(Option.some.inj e1).symm
   subst this
   exact⟨u,rfl⟩
  done:=fun A hA σ s S _ _ hat Q E q=>(hW A hA).done s Q E (by rw[signs_len] at hat;simpa using hat) fun h' tk hk=>q h' tk (fun b o hb e=>hk b o (by simp[hb]) e)
  self:=fun {i} A s' hat Q E q=>hself i A s' hat Q E q
  own:=fun t A s v hat Q E q=>let ⟨o,ho,hc,_⟩:=hat;own_plain ho hc hown q }
 cases ha:(⟨x.toArray⟩:Str).cps.all (· < 128)
 ·exact wpAny_pyIter_wide ha (q _ (fun _=>True) _ _ rfl (IterS.iter (key "str_iterator" rfl rfl (fun _ _ _ hat _ _ q=>wpAny_pyIter_striter_wide hat q) fun A' hA'=>Walks.strWide hA' _ _ t)) ⟨_,Heap.get?_push_size _ rfl,rfl,rfl⟩ trivial)
 ·exact wpAny_pyIter_ascii ha (q _ (fun _=>True) _ _ rfl (IterS.iter (key "str_ascii_iterator" rfl rfl (fun _ _ _ hat _ _ q=>wpAny_pyIter_striter_ascii hat q) fun A' hA'=>Walks.strAscii hA' _ _ t)) ⟨_,Heap.get?_push_size _ rfl,rfl,rfl⟩ trivial)
noncomputable def inums (a:Int) (n:Nat):List PV:=(List.range n).map fun i=>.int (a+(i:Nat))
theorem inums_len (a:Int) (n:Nat):(inums a n).length=n:=by simp[inums]
theorem int_at {a:Int}{n i:Nat}{p:PV} (h:(inums a n)[i]? = some p):i<n∧p=.int (a+i):=by
 unfold inums at h
 rw[List.getElem?_map] at h
 rcases Nat.lt_or_ge i n with q |q
 ·rw[List.getElem?_range q] at h;exact⟨q,(Option.some.inj h).symm⟩
 ·rw[List.getElem?_eq_none (by simpa using q)] at h;cases h
theorem Itbl.rng {a b:Int} (hs:Builtin.Range.small a b 1=true) (n:Nat) (hn:Builtin.Range.rangeSize a b 1=n):Itbl W (.rng a b) (inums a n) (fun _=>True):=fun A hA σ s S _ v hv Q E q=>by
 refine e4_2 hv ?_;try clear hv;intro r t u w zz1 f;subst zz1
 refine wpAny_pyIter_range f.2.1 hs ?_
 rw[hn]
 refine q _ (fun _=>True) (fun i h=>IsRangeIter h s.heap.objs.size (a+(i:Nat)*1) ((n:Int)-(i:Nat)) 1) _ rfl (IterS.iter ?_) ?_ trivial
 ·exact {
   kind:=fun e=>⟨_,e,rfl⟩
   keep:=fun e e'=>e'.trans e
   mono:=fun _ _=>trivial
   item:=fun {i p} hp A hA σ s' S _ _ hat Q E q=>by
    refine e0_2 (int_at hp) ?_;intro hi zz1;subst zz1
    refine(Walks.range hA s.heap.objs.size a 1 n).item i s' Q E hi hat fun v h' tk hv hat' hk=>q v h' tk hat' (fun b o hb e=>hk b o (by simp[hb]) e) ?_
    refine e1_1 hv ?_;try clear hv;intro t zz1;subst zz1
    exact⟨t,by rw[Int.mul_one]⟩
   done:=fun A hA σ s' S _ _ hat Q E q=>(Walks.range hA s.heap.objs.size a 1 n).done s' Q E (by rw[inums_len] at hat;exact hat) fun h' tk hk=>q h' tk (fun b o hb e=>hk b o (by simp[hb]) e)
   self:=fun A s hat Q E q=>wpAny_pyIter_rangeiter hat q
   own:=fun t A s v hat Q E q=>own_plain hat (n:="range_iterator") rfl rfl q }
 ·show IsRangeIter _ _ _ _ _
  rw[show a+((0:Nat):Int)*1=a by simp,show(n:Int)-((0:Nat):Int)=n by simp]
  exact Heap.get?_push_size _ rfl
end
noncomputable def compBody (elt:Expr) (gens:List Comprehension) (scope:Scope) (pos:Pos) (d:Nat) (acc:Value) (env:Env):Sem Unit :=
 match gens[d+1]? with
 |some g'=>do
  let x ← eval g'.iter env
  standAt g'.iter.pos
  let x ← if g'.is_async != 0 then foldedIterable g'.iter x else foldedSetIterable g'.iter env x
  let _ ← runOwn (.compStart (.ListComp elt gens scope pos) (d+1) (← holding [x] (if g'.is_async != 0 then asyncIter x else pyIter x)) acc env) env
 |none=>do let _ ← call (.builtin "list.append") [acc,← eval elt env]
noncomputable def compIfs (ifs:List Expr) (env:Env):Sem Bool:=forIn ifs true fun c r=>if r=true then do let ok ← isTrue c env (eval c env);pure (ForInStep.yield ok) else pure (ForInStep.yield r)
theorem compTurn_at {elt target iter:Expr}{ifs:List Expr}{gens:List Comprehension}{scope:Scope}{pos:Pos}{d:Nat}{it acc:Value}{env:Env} (hg:gens[d]? = some ⟨target,iter,ifs,0⟩) :
  compTurn (.ListComp elt gens scope pos) d it acc env=(standAt iter.pos >>= fun _=>pyNext it >>= fun r=>match r with
   |none=>pure (.done .next)
   |some v=>letOwnedTupleGo target it v >>= fun _=>assign target env v >>= fun _=>compIfs ifs env >>= fun ok =>
    if ok=true then compBody elt gens scope pos d acc env >>= fun _=>again (.compLoop (.ListComp elt gens scope pos) d it acc env)
    else again (.compLoop (.ListComp elt gens scope pos) d it acc env)):=by
 unfold compTurn compBody compIfs
 dsimp only
 rw[hg]
 dsimp only
 refine congrArg (standAt iter.pos >>= ·) (funext fun _=>?_)
 refine congrArg (pyNext it >>= ·) (funext fun r=>?_)
 cases r with
 |none=>rfl
 |some v =>
  dsimp only
  refine congrArg (letOwnedTupleGo target it v >>= ·) (funext fun _=>?_)
  refine congrArg (assign target env v >>= ·) (funext fun _=>?_)
  refine congrArg (_ >>= ·) (funext fun ok=>?_)
  cases ok with
  |false=>rfl
  |true =>
   simp only[if_true]
   cases gens[d+1]? with
   |none=>simp only[bind_assoc,pure_bind]
   |some g' =>
    simp only[bind_assoc,pure_bind]
    refine congrArg (_ >>= ·) (funext fun x=>?_)
    refine congrArg (_ >>= ·) (funext fun _=>?_)
    by_cases h:(g'.is_async != 0)=true
    ·simp only[h,if_true,bind_assoc,pure_bind]
    ·simp only[h,if_false,Bool.false_eq_true,bind_assoc,pure_bind]
section
variable {W:Wd}{k:Nat}{σ:Sig}{env:Env}{P:FM→Prop}
abbrev CI (W:Wd) (k:Nat) (env:Env) (ifs:List Expr) (σ:Sig) (K:Bool→Sig→Prop):Prop:=G W k PT REq (compIfs ifs env) σ K
theorem CI_nil {K:Bool→Sig→Prop} (h:K true σ):CI W k env [] σ K:=fun A hA s hs hP=>wpAny_pure ⟨true,σ,hs,FLe.refl _,rfl,h⟩
theorem CI_one {c:Expr}{K:Bool→Sig→Prop} (h:T W k env c σ K):CI W k env [c] σ K:=fun A hA s hs hP=>by
 unfold compIfs
 simp only[List.forIn_cons,List.forIn_nil,if_true]
 exact wpAny_bind (wpAny_bind (wpAny_mono (h A hA s hs hP) (fun b s' hb=>wpAny_pure (wpAny_pure hb)) fun _ _ x=>x))
theorem compLoop_G (T:Top W){elt target iter:Expr}{ifs:List Expr}{gens:List Comprehension}{scope:Scope}{pos:Pos}{d:Nat}{acc:Value} (hg:gens[d]? = some ⟨target,iter,ifs,0⟩)
  {items:List PV}{SrcS:Sig→Prop}{tup:Bool} (htup:tup=true→isTup target=true) (J:Nat→Sig→Prop){K:Sig→Prop}
  (src:∀ i σ,J i σ→SrcS σ)
  (turn:∀ i p σ,items[i]? = some p→J i σ→O1 W k REq (fun v=>assign target env v) p σ fun _ σ'=>CI W k env ifs σ' fun b σ''=>if b then G W k PT REq (compBody elt gens scope pos d acc env) σ'' (fun _ σ'''=>J (i+1) σ''') else J (i+1) σ'')
  (fin:∀ σ,J items.length σ→K σ)
  {I:Addr}{wr pr:List Addr}{SrcF:FM→Prop}{At:Nat→Heap→Prop}{Mid:Nat→Value→Heap→Prop} (It:Iter W I wr pr items SrcS SrcF At Mid tup) (hIb:∀ c∈wr,W.h₁.objs.size≤c){F₀:FM} (hF₀:∀ c∈wr,∀ o,¬ F₀ c o) (hF₁:∀ c∈pr,∀ o,¬ F₀ c o) :
  ∀ A,Room A k→∀ n s,(∃ i σ,n=items.length-i∧i≤items.length∧St W σ s∧At i s.heap∧(∀ c∈wr,σ c=Option.none)∧FLe F₀ (FrOf σ s)∧SrcF (FrOf σ s)∧J i σ) →
   codeAny (model W.prog W.w) A (.compLoop (.ListComp elt gens scope pos) d (.ref I) acc env) (fun r s'=>match r with | .ok _=>∃ σ',St W σ' s'∧FLe F₀ (FrOf σ' s')∧K σ' | .error _=>False) s:=fun A hA n s hI=>by
 refine codeAny_loop rfl (fun n s=>∃ i σ,n=items.length-i∧i≤items.length∧St W σ s∧At i s.heap∧(∀ c∈wr,σ c=Option.none)∧FLe F₀ (FrOf σ s)∧SrcF (FrOf σ s)∧J i σ) (fun n s hI=>?_) n hI
 refine e2_8 hI ?_;try clear hI;intro i σ zz1 hi S hat hσI hF hsrc hJ;subst zz1
 have hh:=It.held (src _ _ hJ)
 have move:∀ {s:Shared}{h':Heap}{tk:Nat},St W σ s→(∀ c∈wr,∃ o,s.heap.get? c=some o∧iterCls o.cls=true)→FLe F₀ (FrOf σ s)→ExtW wr pr s.heap h'→(∀ c∈pr,Pr h' c)→1≤tk→(St W σ { s with heap:=h',toks:=tk }∧FLi (Fz σ s.heap) (Fz σ h'))∧FLe F₀ (Fz σ h'):=fun {s h' tk} S hk hF hx hp ht =>
  ⟨S.iter (tk:=tk) T (fun c hc=>⟨hσI c hc,hIb c hc,hk c hc⟩) hh hx hp ht,fun a o x=>by
   refine e0_3 (hF a o x) ?_;intro e1 e2 e3
   exact⟨e1,hx a o (fun z=>hF₀ a z o x) (fun z=>hF₁ a z o x) e2,e3⟩⟩
 show wpAny _ A ((compTurn (.ListComp elt gens scope pos) d (.ref I) acc env).onRaise (fun x=>do noteFrame x env;theTreesLotGoes x)) _ _ s
 refine wpAny_noted ?_
 rw[compTurn_at hg]
 refine wpAny_bind (wpAny_standAt (wpAny_bind ?_))
 rcases Nat.lt_or_ge i items.length with hlt |hge
 ·refine e1_1 (⟨items[i],List.getElem?_eq_getElem hlt⟩:∃ p,items[i]? = some p) ?_;intro p hp
  refine wpAny_tok (It.item hp A hA.1 σ s S (src _ _ hJ) hsrc hat _ _ fun v h' tk hmid hsb hpr hv (htk:s.toks≤tk)=>?_)
  refine e0_2 (move (tk:=tk) S (It.kind hat) hF hsb hpr (Nat.le_trans S.tk htk)) ?_;intro zz1 hF';refine e0_2 zz1 ?_;clear zz1;intro S' Fi
  refine wpAny_bind (It.own _ _ _ _ htup hmid _ _ fun h'' hat' hsb'=>?_)
  have hpr'':∀ c∈pr,Pr h'' c:=fun c hc=>by
   refine e2_1 (hpr c hc) ?_;intro x y e
   exact⟨x,y,hsb' c _ (fun z=>by have:=hh c hc;rw[hσI c z] at this;cases this) (by simp) e⟩
  refine e0_2 (move (tk:=tk) (h':=h'') S' (It.kindM hmid) hF' (fun c o q _ e=>hsb' c o q (by simp) e) hpr'' (Nat.le_trans S.tk htk)) ?_;intro zz1 hF'';refine e0_2 zz1 ?_;clear zz1;intro S'' Fi'
  refine wpAny_bind (G.use (turn i p σ hp hJ v) A hA _ S'' (hv.mono2 Fi') (fun _ s₁ _ σ₁ a1 a2 a3 a4=>?_) fun _ _ x=>x.elim)
  refine wpAny_bind (G.use a4 A hA s₁ a1 trivial (fun b s₂ _ σ₂ b1 b2 b3 b4=>?_) fun _ _ x=>x.elim)
  cases b3
  have step:∀ σ₃ s₃,St W σ₃ s₃→FLe (Fz σ h'') (FrOf σ₃ s₃)→J (i+1) σ₃→∃ m,m<items.length-i∧∃ i σ,m=items.length-i∧i≤items.length∧St W σ s₃∧At i s₃.heap∧(∀ c∈wr,σ c=Option.none)∧FLe F₀ (FrOf σ s₃)∧SrcF (FrOf σ s₃)∧J i σ:=fun σ₃ s₃ c1 c2 c3=>by
   have hI2:∀ c∈wr,σ₃ c=none∧s₃.heap.get? c=h''.get? c:=fun c hc=>by
    refine e1_2 (It.kind hat' c hc) ?_;intro o ho hcl
    have:=c2 c o ⟨hσI c hc,ho,fun z=>by rw[z] at hcl;cases hcl⟩
    exact⟨this.1,this.2.1.trans ho.symm⟩
   have hat2:At (i+1) s₃.heap:=It.keep hat' fun c hc=>(hI2 c hc).2
   exact⟨items.length-(i+1),Nat.sub_lt_sub_left hlt (Nat.lt_succ_self i),i+1,σ₃,rfl,hlt,c1,hat2,fun c hc=>(hI2 c hc).1,hF''.trans c2,It.mono c2.i (It.mono Fi' (It.mono Fi hsrc)),c3⟩
  cases b with
  |false=>exact wpAny_pure ⟨rfl,step σ₂ s₂ b1 (a2.trans b2) b4⟩
  |true =>
   exact wpAny_bind (G.use b4 A hA s₂ b1 trivial (fun _ s₃ _ σ₃ c1 c2 c3 c4=>wpAny_pure ⟨rfl,step σ₃ s₃ c1 ((a2.trans b2).trans c2) c4⟩) fun _ _ x=>x.elim)
 ·have:i=items.length:=Nat.le_antisymm hi hge
  subst this
  refine wpAny_tok (It.done A hA.1 σ s S (src _ _ hJ) hsrc hat _ _ fun h' tk hx hpr (htk:s.toks≤tk)=>?_)
  refine e0_2 (move (tk:=tk) S (It.kind hat) hF hx hpr (Nat.le_trans S.tk htk)) ?_;intro zz1 hF';refine e0_2 zz1 ?_;clear zz1;intro S' Fi
  exact wpAny_pure ⟨σ,S',hF',fin σ hJ⟩
theorem fle_resBut {σ:Sig}{h h':Heap}{L n:Addr} (hL:σ L≠none) (hs:Heap.SameBut L h h'):FLe (Fz σ h) (Fz (res n σ) h'):=fun a o hpat=>by
 refine e0_3 hpat ?_;try clear hpat;intro e1 e2 e3
 have ha:a≠L:=fun z=>hL (z▸e1)
 refine⟨?_,(hs.2 a ha).trans e2,e3⟩
 unfold res
 split
 ·exact e1
 ·rfl
theorem St.resBut {W:Wd}{σ:Sig}{s:Shared} (S:St W σ s) (T:Top W){L n:Addr} (hL:σ L≠none) (hn:n≤L){h':Heap} (hs:Heap.SameBut L s.heap h'):St W (res n σ) { s with heap:=h' }:=by
 have F:=fle_resBut (n:=n) hL hs
 refine⟨fun a ao e=>?_,S.old.step_same (S.above L hL) hs,fun a h=>?_,by show W.h₁.objs.size≤h'.objs.size;rw[hs.1];exact S.sz,S.lim.sameBut hs (S.lim_ne hL T.lim),S.os,S.gens,S.tk,S.tab.keep (fun a o _=>F a o) (hs.2 _ (S.tab_ne hL))⟩
 ·have ha:a<n:=by
   rcases Nat.lt_or_ge a n with q |q
   ·exact q
   ·rw[res_ge q] at e;cases e
  rw[res_lt ha] at e
  have hne:a≠L:=Nat.ne_of_lt (Nat.lt_of_lt_of_le ha hn)
  refine(S.hr a ao e).keep F (hs.2 a hne) fun C d fs m z=>?_
  have hd:d<n:=Nat.lt_trans (S.dict_lt (z▸e)) ha
  exact⟨hs.2 d (Nat.ne_of_lt (Nat.lt_of_lt_of_le hd hn)),res_lt hd⟩
 ·refine S.above a fun q=>h ?_
  unfold res
  split
  ·exact q
  ·rfl
theorem list_append_G (T:Top W){D:Addr}{acc:List PV}{p:PV}{K:PV→Sig→Prop} (hD:σ D=some (.list acc)) (hz:acc.length≤1000000) (h:K .none (σ.upd D (.list (acc++[p])))) :
  ∀ x,G W k (fun F=>VRel F p x) VRel (call (.builtin "list.append") [.ref D,x]) σ K:=fun x A hA s hs hP=>by
 refine e2_2 (hs.hr _ _ hD) ?_;intro vs n ho r
 have hlen:=r.length
 rw[Array.length_toList] at hlen
 refine wpAny_list_append_plain ⟨n,ho⟩ (fun h' hp hsb=>?_) (by rw[sizeLine_eq,hlen];exact Nat.le_trans (by assumption) (by decide))
 have hne:σ D≠none:=by rw[hD];simp
 have F1:FLe (Fz σ s.heap) (Fz (σ.upd D (.list (acc++[p]))) h'):=fle_upd hne hsb
 refine e1_1 hp ?_;try clear hp;intro n' hp
 exact⟨.none,_,hs.update (ao:=.list (acc++[p])) (tk:=s.toks) T.lim hD (fun b q=>by cases q) hsb ⟨vs.push x,n',hp,by
  rw[Array.toList_push]
  exact(r.mono F1).append (VRels.one (VRel.mono F1 hP))⟩,F1,(Eq.refl _:Value.none=Value.none),h⟩
theorem CB_elt (T:Top W){elt:Expr}{gens:List Comprehension}{scope:Scope}{pos:Pos}{d:Nat}{D:Addr} (hg:gens[d+1]? = none){K:Unit→Sig→Prop}
  (h:E W k env elt σ fun p σ'=>∃ acc,σ' D=some (.list acc)∧acc.length≤1000000∧K () (σ'.upd D (.list (acc++[p])))):G W k PT REq (compBody elt gens scope pos d (.ref D) env) σ K:=fun A hA s hs hP=>by
 unfold compBody
 rw[hg]
 refine wpAny_bind (G.use h A hA s hs trivial (fun x s₁ p σ₁ a1 a2 a3 hpat=>by
  refine e1_3 hpat ?_;try clear hpat;intro acc a4 a5 a6
  exact wpAny_bind (G.use (list_append_G (K:=fun _ σ=>K () σ) T a4 a5 a6 x) A hA s₁ a1 a3 (fun _ s₂ _ σ₂ b1 b2 b3 b4=>wpAny_pure ⟨(),σ₂,b1,a2.trans b2,rfl,b4⟩) fun _ _ x=>x)) fun _ _ x=>x)
noncomputable abbrev cenvOf (scope:Scope) (cl:List (Str×Addr)) (L:Addr) (env:PySem.Env) (b:Addr:=builtinsNs):PySem.Env:={ newEnv scope L env.globals (cellsFrom (L+1) scope.names cl) env.qual none .none (some env) b with scope:=relabel scope env }
theorem CB_forI (T:Top W){elt target iter:Expr}{ifs:List Expr}{gens:List Comprehension}{scope:Scope}{pos:Pos}{d:Nat}{D:Addr} (hg:gens[d+1]? = some ⟨target,iter,ifs,0⟩){K:Unit→Sig→Prop}
  {tup:Bool} (items:List PV) (SrcS:List Addr→Sig→Prop) (J:List Addr→Nat→Sig→Prop)
  (h:EI W k env iter items SrcS tup σ fun pr σ₁=>J pr 0 σ₁)
  (src:∀ pr i σ,J pr i σ→SrcS pr σ)
  (turn:∀ pr i p σ,items[i]? = some p→J pr i σ→O1 W k REq (fun v=>assign target env v) p σ fun _ σ'=>CI W k env ifs σ' fun b σ''=>if b then G W k PT REq (compBody elt gens scope pos (d+1) (.ref D) env) σ'' (fun _ σ'''=>J pr (i+1) σ''') else J pr (i+1) σ'')
  (fin:∀ pr σ,J pr items.length σ→K () σ)
  (htup:autoParam ((!tup ||isTup target)=true) tR)
  (hfold:autoParam (∀ x,foldedSetIterable iter env x=Pure.pure x) tI):G W k PT REq (compBody elt gens scope pos d (.ref D) env) σ K:=fun A hA s hs hP=>by
 unfold compBody
 rw[hg]
 refine wpAny_bind (wpAny_mono (h A hA s hs) (fun x s₁ hpat=>?_) fun _ _ x=>x)
 refine wpAny_bind (wpAny_standAt ?_)
 show wpAny _ A (do
  let x ← foldedSetIterable iter env x
  let _ ← runOwn (.compStart (.ListComp elt gens scope pos) (d+1) (← holding [x] (pyIter x)) (.ref D) env) env) _ _ s₁
 rw[hfold]
 refine wpAny_bind (wpAny_pure (wpAny_bind (wpAny_holding (hpat _ fun I wr pr SrcF At Mid σ₂ s₂ S2 F2 It hat hsrc hI hw hp hJ=>?_))))
 have loop:=codeAny_mono (compLoop_G (elt:=elt) (scope:=scope) (pos:=pos) (acc:=.ref D) T hg (tupOk htup) (J pr) (src pr) (turn pr) (fin pr) It (fun c hc=>(hw c hc).2.1) (F₀:=FrOf σ s) (fun c hc=>(hw c hc).2.2) hp A hA (items.length-0) _ ⟨0,σ₂,rfl,Nat.zero_le _,S2,hat,fun c hc=>(hw c hc).1,F2,hsrc,hJ⟩) (R':=fun r s'=>match r with
   | .ok f=>wpAny (model W.prog W.w) A (Pure.pure ():Sem Unit) (fun v s'=>∃ b σ',St W σ' s'∧FLe (FrOf σ s) (FrOf σ' s')∧REq (FrOf σ' s') b v∧K b σ') (fun _ _=>False) s'
   | .error e=>False) fun r s' hr=>by
  cases r with
  |ok f=>refine e1_3 hr ?_;try clear hr;intro σ' b1 b2 b3;exact wpAny_pure ⟨(),σ',b1,b2,rfl,b3⟩
  |error e=>exact hr
 refine wpAny_bind (wpAny_runOwn ?_)
 refine codeAny_of_tree ?_
 show wpAny _ _ ((compStart (.ListComp elt gens scope pos) (d+1) (.ref I) (.ref D) env).onRaise (fun x=>do noteFrame x env;standAt theWindowsPlace)) _ _ _
 refine wpAny_notedAt ?_
 unfold compStart
 rw[show clausesOf (.ListComp elt gens scope pos)=gens from rfl,hg]
 show wpAny _ _ (ask >>= _) _ _ _
 refine wpAny_bind (wpAny_askSetting (wpAny_ite ?_))
 split
 ·first
   |exact wpAny_bind (wpAny_pure (wpAny_pure (And.intro rfl (codeAny_mono loop fun r s' hr=>by cases r <;> first |exact hr |exact hr.elim))))
   |exact wpAny_pure (And.intro rfl (codeAny_mono loop fun r s' hr=>by cases r <;> first |exact hr |exact hr.elim))
 ·refine wpAny_bind (wpAny_rule ?_)
  show wpAny _ _ (standAt iter.pos >>= _) _ _ _
  refine wpAny_bind (wpAny_standAt (wpAny_bind (It.self _ _ hat _ _ ?_)))
  exact wpAny_pure (And.intro rfl (codeAny_mono loop fun r s' hr=>by cases r <;> first |exact hr |exact hr.elim))
theorem CB_for (T:Top W){elt target iter:Expr}{ifs:List Expr}{gens:List Comprehension}{scope:Scope}{pos:Pos}{d:Nat}{D:Addr} (hg:gens[d+1]? = some ⟨target,iter,ifs,0⟩){K:Unit→Sig→Prop}
  (items:List PV) (SrcS:Sig→Prop) (J:Nat→Sig→Prop){q₀:PV}
  (h:E W k env iter σ fun q σ₁=>q=q₀∧Itbl W q₀ items SrcS∧J 0 σ₁)
  (src:∀ i σ,J i σ→SrcS σ)
  (turn:∀ i p σ,items[i]? = some p→J i σ→O1 W k REq (fun v=>assign target env v) p σ fun _ σ'=>CI W k env ifs σ' fun b σ''=>if b then G W k PT REq (compBody elt gens scope pos (d+1) (.ref D) env) σ'' (fun _ σ'''=>J (i+1) σ''') else J (i+1) σ'')
  (fin:∀ σ,J items.length σ→K () σ)
  (hfold:autoParam (∀ x,foldedSetIterable iter env x=Pure.pure x) tI):G W k PT REq (compBody elt gens scope pos d (.ref D) env) σ K :=
 CB_forI (tup:=false) T hg items (fun _=>SrcS) (fun _=>J) (EI_of (h.imp fun q σ₁ hpat=>by refine e0_3 hpat ?_;try clear hpat;intro zz1 a b;subst zz1;exact⟨a,src _ _ b,b⟩)) (fun _=>src) (fun _=>turn) (fun _=>fin) rfl hfold
structure CompIn (W:Wd) (k:Nat) (elt target:Expr) (ifs:List Expr) (gens:List Comprehension) (scope:Scope) (pos:Pos) (items:List PV) (SrcS:Sig→Prop) (cenv:Env) (D:Addr) (σ₁:Sig) (J:Nat→Sig→Prop):Prop where
 start:J 0 (cellsUpd (cenv.locals+1) scope.names ((σ₁.upd D (.list [])).upd cenv.locals (.frame fun _=>none)))
 src:∀ i σ,J i σ→SrcS σ
 turn:∀ i p σ,items[i]? = some p→J i σ→O1 W k REq (fun v=>assign target cenv v) p σ fun _ σ'=>CI W k cenv ifs σ' fun b σ''=>if b then G W k PT REq (compBody elt gens scope pos 0 (.ref D) cenv) σ'' (fun _ σ'''=>J (i+1) σ''') else J (i+1) σ''
theorem comp_core (T:Top W){elt target iter:Expr}{ifs:List Expr}{rest:List Comprehension}{scope:Scope}{pos ipos:Pos}{cl:List (Str×Addr)}{items:List PV}{SrcS:List Addr→Sig→Prop}{tup:Bool}{use:Option (Value→Sem Unit)}{Kv:PV→Sig→Prop}
  (hclos:closureFor scope env=Pure.pure cl) (hkind:scope.kind=.function) (hnames:∀ x∈scope.names,x.2=.local→scope.names.lookup x.1=some .local)
  (hfold:∀ x,foldedSetIterable iter env x=Pure.pure x) (htup:tup=true→isTup target=true)
  (h:EI W k env iter items SrcS tup σ fun pr σ₁=>∀ D L,Fresh σ₁ D→D<L→Fresh σ₁ L→∃ J,CompIn W k elt target ifs (⟨target,iter,ifs,0⟩::rest) scope pos items (SrcS pr) (cenvOf scope cl L env) D σ₁ J ∧
   ∀ σ',J items.length σ'→∃ acc m,σ' D=some (.list acc)∧σ' L=some (.frame m)∧match use with
    |none=>Kv (.lst acc) (res D σ')
    |some u=>O1 W k REq u (.lst acc) ((res D σ').upd L (.frame m)) fun _ σ''=>∃ m,σ'' L=some (.frame m)∧Kv .none (res D σ'')) :
  G W k P VRel (comprehension (.ListComp elt (⟨target,iter,ifs,0⟩::rest) scope pos) scope env ipos (newList []) false (eval iter env) use) σ Kv:=fun A hA s hs hP=>by
 refine wpAny_comprehension_free (use:=use) rfl hfold hclos hkind hnames (wpAny_mono (h A hA s hs) (fun xv s₁ hpat=>?_) fun _ _ e=>e)
 refine hpat _ fun I wr pr SrcF At Mid σ₁ s₂ S2 F2 It hat hsrc hI hw hp a6=>?_
 refine wpAny_newObj_type ?_
 have hfD:Fresh σ₁ s₂.heap.objs.size:=S2.fresh
 have hDb:W.h₁.objs.size≤s₂.heap.objs.size:=S2.sz
 have S3:=S2.pushUpd (listOf (([]:List Value).toArray) 0) (.list []) ⟨_,_,Heap.get?_push_size _ rfl,rfl⟩
 have F3:=fle_push_upd (σ:=σ₁) (h:=s₂.heap) (o:=listOf (([]:List Value).toArray) 0) (ao:=.list [])
 have hwD:∀ c∈wr,c<s₂.heap.objs.size:=fun c hc=>by refine e1_2 (It.kind hat c hc) ?_;intro o ho _;exact Heap.lt_size ho
 generalize hD:s₂.heap.objs.size=D at *
 have hLD:∀ L,Fresh (σ₁.upd D (.list [])) L→D<L:=fun L hL=>by
  rcases Nat.lt_or_ge D L with q |q
  ·exact q
  ·have:=hL D q;rw[upd_same] at this;cases this
 have hLf:∀ L,Fresh (σ₁.upd D (.list [])) L→Fresh σ₁ L:=fun L hL b hb=>by
  have:=hL b hb
  by_cases q:b=D
  ·subst q;rw[upd_same] at this;cases this
  ·rwa [upd_ne q] at this
 refine wpAny_mono (newEnv_G (bp:=[]) (K:=fun cenv σ'=>∃ L,D<L∧Fresh σ₁ L∧cenv=newEnv scope L env.globals (cellsFrom (L+1) scope.names cl) env.qual none .none (some env) builtinsNs∧σ'=cellsUpd (L+1) scope.names ((σ₁.upd D (.list [])).upd L (.frame fun _=>none)))
  (fun L hL=>⟨L,hLD L hL,hLf L hL,rfl,rfl⟩) [] A hA _ S3 rfl) (fun cenv s₄ hpat=>?_) fun _ _ x=>x.elim
 obtain ⟨e,σ₄,b1,b2,b3,L,b4,b5,b6,b7⟩:=hpat
 cases b3
 subst b6 b7
 refine e1_2 (a6 D L hfD b4 b5) ?_;intro J hJ hfin
 have F4:FLe (Fz σ₁ s₂.heap) (FrOf _ s₄):=F3.trans b2
 have hI4:∀ c∈wr,(cellsUpd (L+1) scope.names ((σ₁.upd D (.list [])).upd L (.frame fun _=>none))) c=none∧s₄.heap.get? c=s₂.heap.get? c:=fun c hc=>by
  refine e1_2 (It.kind hat c hc) ?_;intro oI hoI hcI
  have:=F4 c oI ⟨(hw c hc).1,hoI,fun z=>by rw[z] at hcI;cases hcI⟩
  exact⟨this.1,this.2.1.trans hoI.symm⟩
 have hat4:At 0 s₄.heap:=It.keep hat fun c hc=>(hI4 c hc).2
 have loop:=compLoop_G (elt:=elt) (env:=cenvOf scope cl L env) (scope:=scope) (pos:=pos) (acc:=.ref D) (gens:=⟨target,iter,ifs,0⟩::rest) (d:=0) T rfl htup J (K:=fun σ'=>J items.length σ') hJ.src hJ.turn (fun _ h=>h) It (fun c hc=>(hw c hc).2.1) (F₀:=FrOf σ s) (fun c hc=>(hw c hc).2.2) hp A hA (items.length-0) s₄
  ⟨0,_,rfl,Nat.zero_le _,b1,hat4,fun c hc=>(hI4 c hc).1,F2.trans F4,It.mono F4.i hsrc,hJ.start⟩
 have fin:=codeAny_mono loop (R':=compPost (model W.prog W.w) A (fun _ _=>False) use (fun v s'=>∃ b σ',St W σ' s'∧FLe (FrOf σ s) (FrOf σ' s')∧VRel (FrOf σ' s') b v∧Kv b σ') (.ref D) L) fun r s' hr=>by
  cases r with
  |error e=>exact hr.elim
  |ok f =>
   refine e1_3 hr ?_;try clear hr;intro σ' c1 c2 c3
   refine e2_3 (hfin σ' c3) ?_;intro acc m d1 d2 d3
   have hL':σ' L≠none:=by rw[d2];simp
   cases use with
   |none =>
    refine e1_2 (c1.hr _ _ d2) ?_;intro mc hn _
    refine⟨mc,hn,fun h' hs'=>⟨.lst acc,res D σ',c1.resBut T hL' (Nat.le_of_lt b4) hs',c2.trans (fle_resBut hL' hs'),?_,d3⟩⟩
    refine e2_2 (c1.hr _ _ d1) ?_;intro vs n ho r
    exact⟨D,vs,n,rfl,⟨res_ge (Nat.le_refl _),(hs'.2 D (Nat.ne_of_lt b4)).trans ho,by intro z;cases z⟩,r.mono (fle_resBut hL' hs')⟩
   |some u =>
    have hsub:Sub ((res D σ').upd L (.frame m)) σ':=by
     have s0:=sub_res c1 D
     refine⟨fun a o e=>?_,fun a C d fs n e=>?_⟩
     ·by_cases q:a=L
      ·subst q;rw[upd_same] at e;cases e;exact d2
      ·rw[upd_ne q] at e;exact s0.1 a o e
     ·by_cases q:a=L
      ·subst q;rw[upd_same] at e;cases e
      ·rw[upd_ne q] at e
       have:=s0.2 a C d fs n e
       have hd:d≠L:=fun z=>by rw[z,res_ge (Nat.le_of_lt b4)] at this;cases this
       rw[upd_ne hd];exact this
    have S5:=c1.sub hsub
    have F5:=fle_sub (h:=s'.heap) hsub
    refine e2_2 (c1.hr _ _ d1) ?_;intro vs n ho r
    have hv:VRel (FrOf ((res D σ').upd L (.frame m)) s') (.lst acc) (.ref D) :=
     ⟨D,vs,n,rfl,⟨(upd_ne (Nat.ne_of_lt b4)).trans (res_ge (Nat.le_refl _)),ho,by intro z;cases z⟩,r.mono F5⟩
    refine wpAny_mono (d3 (.ref D) A hA s' S5 hv) (fun _ s'' hpat=>?_) fun _ _ x=>x.elim
    obtain ⟨_,σ'',e1,e2,e3,m',e4,e5⟩:=hpat
    have hL'':σ'' L≠none:=by rw[e4];simp
    refine e1_2 (e1.hr _ _ e4) ?_;intro mc hn _
    exact⟨mc,hn,fun h' hs'=>⟨.none,res D σ'',e1.resBut T hL'' (Nat.le_of_lt b4) hs',(c2.trans (F5.trans e2)).trans (fle_resBut hL'' hs'),(Eq.refl _:Value.none=Value.none),e5⟩⟩
 exact codeAny_compStart_list fin (It.self _ _ hat4 _ _ fin)
theorem E_ListCompI (T:Top W){elt target iter:Expr}{ifs:List Expr}{rest:List Comprehension}{scope:Scope}{pos:Pos}{cl:List (Str×Addr)}{tup:Bool} (items:List PV) (SrcS:List Addr→Sig→Prop){K:PV→Sig→Prop}
  (h:EI W k env iter items SrcS tup σ fun pr σ₁=>∀ D L,Fresh σ₁ D→D<L→Fresh σ₁ L→∃ J,CompIn W k elt target ifs (⟨target,iter,ifs,0⟩::rest) scope pos items (SrcS pr) (cenvOf scope cl L env) D σ₁ J ∧
   ∀ σ',J items.length σ'→∃ acc m,σ' D=some (.list acc)∧σ' L=some (.frame m)∧K (.lst acc) (res D σ'))
  (htup:autoParam ((!tup ||isTup target)=true) tR)
  (hclos:autoParam (closureFor scope env=Pure.pure cl) tR) (hkind:autoParam (scope.kind=.function) tR) (hnames:autoParam (∀ x∈scope.names,x.2=.local→scope.names.lookup x.1=some .local) tD)
  (hfold:autoParam (∀ x,foldedSetIterable iter env x=Pure.pure x) tI):E W k env (.ListComp elt (⟨target,iter,ifs,0⟩::rest) scope pos) σ K:=by
 show G W k PT VRel (eval _ env) σ K
 rw[eval_ListComp]
 exact comp_core (use:=none) T hclos hkind hnames hfold (tupOk htup) h
theorem E_ListComp (T:Top W){elt target iter:Expr}{ifs:List Expr}{rest:List Comprehension}{scope:Scope}{pos:Pos}{cl:List (Str×Addr)} (items:List PV) (SrcS:Sig→Prop){K:PV→Sig→Prop}
  (h:E W k env iter σ fun q σ₁=>Itbl W q items SrcS∧SrcS σ₁∧∀ D L,Fresh σ₁ D→D<L→Fresh σ₁ L→∃ J,CompIn W k elt target ifs (⟨target,iter,ifs,0⟩::rest) scope pos items SrcS (cenvOf scope cl L env) D σ₁ J ∧
   ∀ σ',J items.length σ'→∃ acc m,σ' D=some (.list acc)∧σ' L=some (.frame m)∧K (.lst acc) (res D σ'))
  (hclos:autoParam (closureFor scope env=Pure.pure cl) tR) (hkind:autoParam (scope.kind=.function) tR) (hnames:autoParam (∀ x∈scope.names,x.2=.local→scope.names.lookup x.1=some .local) tD)
  (hfold:autoParam (∀ x,foldedSetIterable iter env x=Pure.pure x) tI):E W k env (.ListComp elt (⟨target,iter,ifs,0⟩::rest) scope pos) σ K:=by
 show G W k PT VRel (eval _ env) σ K
 rw[eval_ListComp]
 exact comp_core (use:=none) T hclos hkind hnames hfold (fun z=>by cases z) (EI_of h)
theorem X_AssignComp (T:Top W){x:Str}{elt target iter:Expr}{ifs:List Expr}{rest:List Comprehension}{scope:Scope}{pos p' pos':Pos}{cl:List (Str×Addr)} (items:List PV) (SrcS:Sig→Prop){K:AFlow→Sig→Prop}
  (h:E W k env iter σ fun q σ₁=>Itbl W q items SrcS∧SrcS σ₁∧∀ D L,Fresh σ₁ D→D<L→Fresh σ₁ L→∃ J,CompIn W k elt target ifs (⟨target,iter,ifs,0⟩::rest) scope p' items SrcS (cenvOf scope cl L env) D σ₁ J ∧
   ∀ σ',J items.length σ'→∃ acc m,σ' D=some (.list acc)∧σ' L=some (.frame m) ∧
    O1 W k REq (storeName env x) (.lst acc) ((res D σ').upd L (.frame m)) fun _ σ''=>∃ m,σ'' L=some (.frame m)∧K .next (res D σ''))
  (hsw:autoParam (swapsWith (.ListComp elt (⟨target,iter,ifs,0⟩::rest) scope p') (some (.Name x pos')) pos.line env=Pure.pure true) tR)
  (hclos:autoParam (closureFor scope env=Pure.pure cl) tR) (hkind:autoParam (scope.kind=.function) tR) (hnames:autoParam (∀ x∈scope.names,x.2=.local→scope.names.lookup x.1=some .local) tD)
  (hfold:autoParam (∀ x,foldedSetIterable iter env x=Pure.pure x) tI):X W k env (.Assign [.Name x pos'] (.ListComp elt (⟨target,iter,ifs,0⟩::rest) scope p') pos) σ K:=fun A hA s hs hP=>by
 rw[exec_Assign_Name_used _ _ _ _ hsw]
 refine wpAny_bind (wpAny_standAt (wpAny_bind ?_))
 show wpAny _ A (do let _ ← comprehension (.ListComp elt (⟨target,iter,ifs,0⟩::rest) scope p') scope env _ (newList []) false (eval iter env) (some (assign (.Name x pos') env))) _ _ s
 refine wpAny_bind (wpAny_mono (comp_core (Kv:=fun _ σ=>K .next σ) (use:=some (assign (.Name x pos') env)) T hclos hkind hnames hfold (tup:=false) (fun z=>by cases z) (EI_of (h.imp fun q σ₁ ⟨a1,a2,a3⟩=>⟨a1,a2,fun D L e1 e2 e3=>by
  refine e1_2 (a3 D L e1 e2 e3) ?_;intro J b1 b2
  refine⟨J,b1,fun σ' hJ=>?_⟩
  refine e2_3 (b2 σ' hJ) ?_;intro acc m c1 c2 c3
  refine⟨acc,m,c1,c2,fun v A hA s hs hP=>?_⟩
  exact wpAny_assign_Name (c3 v A hA s hs hP)⟩)) A hA s hs hP) (fun _ s' hpat=>by refine e2_4 hpat ?_;try clear hpat;intro b σ' a1 a2 a3 a4;exact wpAny_pure (wpAny_pure ⟨AFlow.next,σ',a1,a2,rfl,a4⟩)) fun _ _ x=>x)
end
noncomputable def slc {α:Type} (lo hi:Option Int) (l:List α):List α :=
 (l.drop (lo.elim 0 (clipAt l.length))).take (hi.elim l.length (clipAt l.length)-lo.elim 0 (clipAt l.length))
theorem slc_list (items:Array Value) (lo hi:Option Int):(slicePick items lo hi none).toList=slc lo hi items.toList:=by
 rw[slicePick_plain]
 simp[slc]
theorem strIdx (lo hi:Option Int) (n:Nat):Builtin.Str.strSliceIndices lo hi 1 n=sliceRange ((lo.elim 0 (clipAt n):Nat):Int) ((hi.elim n (clipAt n):Nat):Int) 1:=by
 cases lo <;> cases hi <;> simp[Builtin.Str.strSliceIndices,clipAt_cast]
theorem slc_str (x:List Nat) (lo hi:Option Int):(Builtin.Str.strSliceIndices lo hi 1 x.length).filterMap (x.toArray[·]?)=slc lo hi x:=by
 rw[strIdx,sliceRange_one,pick_run]
 rfl
theorem clipAt_le (n:Nat) (i:Int):clipAt n i≤n:=Int.toNat_le.mpr (Int.max_le.mpr ⟨Int.natCast_nonneg _,Int.min_le_right _ _⟩)
theorem clip_nat {n a:Nat}:clipAt n (a:Int)=min a n:=by
 unfold clipAt
 rw[if_neg (Int.not_lt.mpr (Int.natCast_nonneg a))]
 rcases Nat.le_total a n with q |q
 ·rw[Nat.min_eq_left q,Int.min_eq_left (Int.ofNat_le.mpr q),Int.max_eq_right (Int.natCast_nonneg _),Int.toNat_natCast]
 ·rw[Nat.min_eq_right q,Int.min_eq_right (Int.ofNat_le.mpr q),Int.max_eq_right (Int.natCast_nonneg _),Int.toNat_natCast]
theorem slc_len {α:Type} (lo hi:Option Int) (l:List α):(slc lo hi l).length=hi.elim l.length (clipAt l.length)-lo.elim 0 (clipAt l.length):=by
 unfold slc
 rw[List.length_take,List.length_drop]
 have h1:hi.elim l.length (clipAt l.length)≤l.length:=by cases hi;exact Nat.le_refl _;exact clipAt_le _ _
 exact Nat.min_eq_left (Nat.sub_le_sub_right h1 _)
theorem slc_whole {α:Type}{lo hi:Option Int}{l:List α} (h:(slc lo hi l).length=l.length):slc lo hi l=l:=by
 rw[slc_len] at h
 have h1:hi.elim l.length (clipAt l.length)≤l.length:=by cases hi;exact Nat.le_refl _;exact clipAt_le _ _
 unfold slc
 rcases Nat.eq_zero_or_pos l.length with q |q
 ·rw[List.length_eq_zero_iff.mp q];simp
 ·have e1:lo.elim 0 (clipAt l.length)=0:=by lia
  have e2:hi.elim l.length (clipAt l.length)=l.length:=Nat.le_antisymm h1 (Nat.le_trans (Nat.le_of_eq h.symm) (Nat.sub_le _ _))
  rw[e1,e2];simp
theorem slc_le {α:Type} (lo hi:Option Int) (l:List α):(slc lo hi l).length≤l.length:=by
 rw[slc_len]
 have h1:hi.elim l.length (clipAt l.length)≤l.length:=by cases hi;exact Nat.le_refl _;exact clipAt_le _ _
 lia
theorem VRels.slc {F:FM}{l:List PV}{vs:List Value} (h:VRels F l vs) (lo hi:Option Int):VRels F (slc lo hi l) (slc lo hi vs):=by
 unfold Mine.slc
 rw[h.length]
 exact VRels.take (VRels.drop h)
section
variable {W:Wd}{k:Nat}{σ:Sig}{env:Env}{P:FM→Prop}{x y:List Nat}
abbrev jLs (K:PV→Sig→Prop) (ps:List PV) (σ:Sig):Prop:=ps.length≤1000000∧K (.lst ps) σ
abbrev jTu (K:PV→Sig→Prop) (ps:List PV) (σ:Sig):Prop:=ps.length≤1000000∧K (.tup ps) σ
abbrev jLM (K:PV→Sig→Prop) (ps:List PV) (σ:Sig):Prop:=ps.length≤1000000∧∀ a,Fresh σ a→K (.ref a) (σ.upd a (.list ps))
theorem E_List {elts:List Expr}{pos:Pos}{K:PV→Sig→Prop} (h:EL W k env pos elts σ (jLs K)):E W k env (.List elts pos) σ K:=fun A hA s hs hP =>
 wpAny_List (wpAny_mono (h A hA s hs hP) (fun vs s₁ hpat=>by
  refine e2_5 hpat ?_;try clear hpat;intro ps σ' a1 a2 a3 a4 a5
  have hl:=a3.length
  have F1:=fle_push (σ:=σ') (h:=s₁.heap) (o:=listOf vs.toArray 0)
  exact⟨by rw[sizeLine_eq,hl];exact Nat.le_trans (by assumption) (by decide),.lst ps,σ',a1.push _,a2.trans F1,⟨_,vs.toArray,0,rfl,⟨a1.fresh _ (Nat.le_refl _),Heap.get?_push_size _ rfl,by intro z;cases z⟩,by
   show VRels _ _ (vs.toArray.toList)
   exact a3.mono F1⟩,a5⟩) fun _ _ x=>x)
theorem E_ListM {elts:List Expr}{pos:Pos}{K:PV→Sig→Prop} (h:EL W k env pos elts σ (jLM K)):E W k env (.List elts pos) σ K:=fun A hA s hs hP =>
 wpAny_List (wpAny_mono (h A hA s hs hP) (fun vs s₁ hpat=>by
  refine e2_5 hpat ?_;try clear hpat;intro ps σ' a1 a2 a3 a4 a5
  have hl:=a3.length
  have F1:=fle_push_upd (σ:=σ') (h:=s₁.heap) (o:=listOf vs.toArray 0) (ao:=.list ps)
  exact⟨by rw[sizeLine_eq,hl];exact Nat.le_trans (by assumption) (by decide),.ref s₁.heap.objs.size,_,a1.pushUpd _ (.list ps) ⟨vs.toArray,0,Heap.get?_push_size _ rfl,by
   show VRels _ _ (vs.toArray.toList)
   exact a3.mono F1⟩,a2.trans F1,(Eq.refl _:Value.ref _=Value.ref _),a5 _ a1.fresh⟩) fun _ _ x=>x)
theorem E_Tuple {elts:List Expr}{n:Nat}{pos:Pos}{K:PV→Sig→Prop} (h:EL W k env pos elts σ (jTu K)):E W k env (.Tuple elts n pos) σ K:=fun A hA s hs hP =>
 wpAny_Tuple (wpAny_mono (h A hA s hs hP) (fun vs s₁ hpat=>by
  refine e2_5 hpat ?_;try clear hpat;intro ps σ' a1 a2 a3 a4 a5
  have hl:=a3.length
  have F1:=fle_push (σ:=σ') (h:=s₁.heap) (o:=tupleObj vs.toArray 0)
  exact⟨by rw[sizeLine_eq,hl];exact Nat.le_trans (by assumption) (by decide),.tup ps,σ',a1.push _,a2.trans F1,⟨_,vs.toArray,0,rfl,⟨a1.fresh _ (Nat.le_refl _),Heap.get?_push_size _ rfl,by intro z;cases z⟩,by
   show VRels _ _ (vs.toArray.toList)
   exact a3.mono F1⟩,a5⟩) fun _ _ x=>x)
theorem G.freeze {α:Type}{t:Sem α}{R:FM→PV→α→Prop}{K:PV→Sig→Prop}{t:Sem Value}
  (h:G W k P VRel t σ fun p σ'=>∃ a l,p=.ref a∧σ' a=some (.list l)∧K (.lst l) (σ'.del a)):G W k P VRel t σ K:=fun A hA s hs hP =>
 wpAny_mono (h A hA s hs hP) (fun v s₁ hpat=>by
  obtain ⟨p,σ',a1,a2,a3,a,l,e1,e2,e3⟩:=hpat
  subst e1
  obtain rfl:v=.ref a:=a3
  have hsub:Sub (σ'.del a) σ':=by
   refine⟨fun b o e=>?_,fun b C d fs n e=>?_⟩
   ·unfold Sig.del at e;split at e
    ·cases e
    ·exact e
   ·unfold Sig.del at e;split at e
    ·cases e
    ·have hd:=(a1.dict_there e).1
     have:d≠a:=fun z=>by rw[z,e2] at hd;cases hd
     unfold Sig.del;rw[if_neg this];exact hd
  refine e2_2 (a1.hr _ _ e2) ?_;intro vs n ho r
  exact⟨.lst l,_,a1.sub hsub,a2.trans (fle_sub hsub),⟨a,vs,n,rfl,⟨if_pos rfl,ho,by intro z;cases z⟩,r.mono (fle_sub hsub)⟩,e3⟩) fun _ _ x=>x
def Sbs (W:Wd) (q:PV) (σ:Sig):Prop:=∀ s,St W σ s→∀ v,VRel (FrOf σ s) q v→∃ T id,typeLookup (.type T) "__getitem__"=pure (some (.builtin id))∧s.TypeIs v T
theorem Sbs.str:Sbs W (.str x) σ:=fun s S v hpat=>by refine e1_1 hpat ?_;try clear hpat;intro t e;exact⟨"str",_,F.slot_str_getitem.lookup,e▸typeIs_str _ _ _⟩
theorem Sbs.lst {l:List PV}:Sbs W (.lst l) σ:=fun s S v hpat=>by refine e3_3 hpat ?_;try clear hpat;intro a vs n e f r;exact⟨"list",_,slot_list_getitem.lookup,e▸⟨_,f.2.1,rfl⟩⟩
theorem Sbs.ref {a:Addr}{l:List PV} (h:σ a=some (.list l)):Sbs W (.ref a) σ:=fun s S v e=>by
 obtain rfl:v=.ref a:=e
 refine e2_2 (S.hr _ _ h) ?_;intro vs n ho _
 exact⟨"list",_,slot_list_getitem.lookup,⟨_,ho,rfl⟩⟩
abbrev jS2 (W:Wd) (k:Nat) (q:PV) (K:PV→Sig→Prop) (i:PV) (σ:Sig):Prop:=Sbs W q σ∧O2 W k VRel getItem q i σ K
abbrev jS1 (W:Wd) (k:Nat) (env:Env) (slice:Expr) (K:PV→Sig→Prop) (q:PV) (σ:Sig):Prop:=E W k env slice σ (jS2 W k q K)
theorem E_Sub {value slice:Expr}{pos:Pos}{K:PV→Sig→Prop} (h:E W k env value σ (jS1 W k env slice K))
  (hs:autoParam (∀ o i,subscripted slice false o i=operate [o,i] (getItem o i)) tI):E W k env (.Subscript value slice pos) σ K:=fun A hA s hs' hP=>by
 show wpAny _ A (eval _ env) _ _ s
 rw[eval_Subscript]
 refine wpAny_bind (G.use h A hA s hs' hP (fun o s₁ q σ₁ a1 a2 a3 a4=>wpAny_bind (wpAny_holding (wpAny_mono (a4 A hA s₁ a1 trivial) (fun i s₂ ⟨p,σ₂,b1,b2,b3,b4,b5⟩=>wpAny_bind (wpAny_standAt ?_)) fun _ _ x=>x)))
  fun _ _ x=>x)
 refine e2_2 (b4 s₂ b1 o (a3.mono b2)) ?_;intro T id hl hT
 rw[getitemInPython_of_ne hT.not_modules]
 have fin:wpAny (model W.prog W.w) A (operate [o,i] (getItem o i)) (fun r s₃=>wpAny (model W.prog W.w) A (letTemporaryGo value o r >>= fun _=>Pure.pure r) (fun v s'=>∃ b σ',St W σ' s'∧FLe (FrOf σ s) (FrOf σ' s')∧VRel (FrOf σ' s') b v∧K b σ') (fun _ _=>False) s₃) (fun _ _=>False) s₂ :=
  wpAny_operating (G.use (b5 o i) A hA s₂ b1 ⟨a3.mono b2,b3⟩ (fun r s₃ z σ₃ c1 c2 c3 c4=>wpAny_bind (wpAny_letTemporaryGo (wpAny_pure ⟨z,σ₃,c1,(a2.trans b2).trans c2,c3,c4⟩))) fun _ _ x=>x)
 refine wpAny_bind (wpAny_bind (wpAny_specialOf hT hl ?_))
 refine wpAny_pure ?_
 rw[hs]
 exact wpAny_bind fin
theorem get_lst {l:List PV}{i:Int}{p:PV}{K:PV→Sig→Prop} (h0:0≤i) (h1:i<2^63) (hp:l[i.toNat]? = some p) (h:K p σ):O2 W k VRel getItem (.lst l) (.int i) σ K:=fun va vb=>.id h fun A hA s hs hpat Q q=>by
 refine e0_2 hpat ?_;try clear hpat;intro hP hi
 refine e3_3 hP ?_;try clear hP;intro a vs n zz1 f r;subst zz1
 refine e1_1 hi ?_;try clear hi;intro t zz1;subst zz1
 refine e1_2 (vrels_at r hp) ?_;intro v hv rv
 exact wpAny_getItem_list (isList_of f.2.1) h0 h1 hv (q _ _ rfl rfl rfl rv)
theorem get_ref {a:Addr}{l:List PV}{i:Int}{p:PV}{K:PV→Sig→Prop} (hσ:σ a=some (.list l)) (h0:0≤i) (h1:i<2^63) (hp:l[i.toNat]? = some p) (h:K p σ):O2 W k VRel getItem (.ref a) (.int i) σ K:=fun va vb=>.id h fun A hA s hs hpat Q q=>by
 refine e0_2 hpat ?_;try clear hpat;intro hP hi
 obtain rfl:va=.ref a:=hP
 refine e2_2 (hs.hr _ _ hσ) ?_;intro vs n f r
 refine e1_1 hi ?_;try clear hi;intro t zz1;subst zz1
 refine e1_2 (vrels_at r hp) ?_;intro v hv rv
 exact wpAny_getItem_list (isList_of f) h0 h1 hv (q _ _ rfl rfl rfl rv)
theorem get_str {i:Int}{c:Nat}{K:PV→Sig→Prop} (h0:0≤i) (h1:i<2^63) (hp:x[i.toNat]? = some c) (h:K (.str [c]) σ):O2 W k VRel getItem (.str x) (.int i) σ K:=fun va vb=>.id h fun A hA s hs hpat Q q=>by
 refine e0_2 hpat ?_;try clear hpat;intro hP hi
 refine e1_1 hP ?_;try clear hP;intro t zz1;subst zz1
 refine e1_1 hi ?_;try clear hi;intro u zz1;subst zz1
 have hlt:i.toNat<x.length:=by
  rcases Nat.lt_or_ge i.toNat x.length with q |q
  ·exact q
  ·rw[List.getElem?_eq_none q] at hp;cases hp
 refine P.getItem_str (c:=c) ?_ ?_ (q _ _ rfl rfl rfl ⟨s.toks,rfl⟩)
 ·simp;lia
 ·rw[str_len]
  have:seqIndex? i x.length=some i.toNat:=by
   unfold seqIndex?
   simp[h0]
   exact by rw[if_neg (Int.not_lt.mpr h0)];exact⟨⟨h0,(Int.toNat_lt h0).mp hlt⟩,rfl⟩
  rw[this]
  show x.toArray[i.toNat]? = _
  rw[List.getElem?_toArray];exact hp
end
def SLe (h h':Heap):Prop:=∀ a o,h.get? a=some o→h'.get? a=some o
theorem fle_grow {σ:Sig}{h h':Heap} (hk:SLe h h'):FLe (Fz σ h) (Fz σ h'):=fun a o hpat=>by refine e0_3 hpat ?_;try clear hpat;intro e1 e2 e3;exact⟨e1,hk a o e2,e3⟩
theorem St.grow {W:Wd}{σ:Sig}{s:Shared} (S:St W σ s) (T:Top W){h':Heap} (hk:SLe s.heap h'){tk:Nat} (ht:1≤tk:=by l_fit):St W σ { s with heap:=h',toks:=tk }:=by
 have keep:∀ a,(∃ o,s.heap.get? a=some o)→h'.get? a=s.heap.get? a:=fun a ⟨o,e⟩=>by rw[e];exact hk a o e
 refine⟨fun a ao e=>(S.hr a ao e).keep (fle_grow hk) (keep a (S.hr a ao e).there) fun C d fs n z=>⟨keep d (S.dict_there (z▸e)).2,rfl⟩,S.old.step_keeps fun b o' e=>hk b o' e,S.above,?_,?_,S.os,S.gens,ht,S.tab.keep (fun a o _=>fle_grow hk a o) (keep _ S.tab.there)⟩
 ·refine e1_1 (T.last) ?_;intro o' ho'
  refine e1_1 (S.old.there _ _ ho') ?_;intro o'' ho''
  have h1:(W.h₁.objs.size-1:Nat)<h'.objs.size:=Heap.lt_size (hk _ _ ho'')
  have h2:(W.h₁.objs.size-1:Nat)<W.h₁.objs.size:=Heap.lt_size ho'
  show W.h₁.objs.size≤h'.objs.size
  exact Nat.le_of_pred_lt h1
 ·refine e1_2 (S.lim) ?_;intro mc hn r
  refine e3_2 hn ?_;try clear hn;intro o es ep ho q
  exact⟨mc,⟨o,es,ep,hk _ _ ho,q⟩,r⟩
theorem G.grow {W:Wd}{k:Nat}{σ:Sig}{P:FM→Prop}{α β:Type}{R:FM→β→α→Prop}{t:Sem α}{K:β→Sig→Prop}{b:β} (T:Top W) (hK:K b σ)
  (h:∀ A,Room A k→∀ s,St W σ s→P (FrOf σ s)→∀ Q:α→Shared→Prop,(∀ v h' tk,SLe s.heap h'→R (Fz σ h') b v→Q v { s with heap:=h',toks:=tk })→wpAny (model W.prog W.w) A t Q (fun _ _=>False) s):G W k P R t σ K :=
 fun A hA s hs hP=>wpAny_tok (h A hA s hs hP _ fun v h' tk hk r (et:s.toks≤tk)=>⟨b,σ,hs.grow T hk (Nat.le_trans hs.tk et),fle_grow hk,r,hK⟩)
theorem sle_push {h:Heap}{o:Obj}:SLe h (h.push o):=fun a o' e=>Heap.get?_push_of_some _ e
theorem SLe.trans {h h' h'':Heap} (x:SLe h h') (y:SLe h' h''):SLe h h'':=fun a o e=>y a o (x a o e)
theorem fz_new {W:Wd}{σ:Sig}{s:Shared} (S:St W σ s){o:Obj} (hc:o.cls ≠ .none) (hf:autoParam (o.isFreed=false) tR):Fz σ (s.heap.push o) s.heap.objs.size o:=⟨S.fresh _ (Nat.le_refl _),Heap.get?_push_size _ hf,hc⟩
mutual
noncomputable def pd:PV→PyData
 | .bool b=>.bool b
 | .int i=>.int i
 | .str x=>.str ⟨x.toArray⟩
 | .tup l=>.tuple (pds l)
 | .lst l=>.list (pds l)
 |_=>.none
noncomputable def pds:List PV→List PyData
 |[]=>[]
 |p::l=>pd p::pds l
end
mutual
noncomputable def plain:PV→Bool
 | .none | .bool _ | .int _=>true
 | .str x=>x.all (· < 1114112)
 | .tup l | .lst l=>plains l
 |_=>false
noncomputable def plains:List PV→Bool
 |[]=>true
 |p::l=>plain p&&plains l
end
theorem no_plain {q:Prop} (h:false=true):q:=absurd h Bool.false_ne_true
mutual
theorem reads_of {σ:Sig}{h:Heap}:∀ (p:PV) (v:Value),plain p=true→VRel (Fz σ h) p v→∃ as,Reads h v (pd p) as
 | .none,_,_,e=>by rw[show _=Value.none from e];exact⟨_,.none⟩
 | .bool b,_,_,e=>by rw[show _=Value.bool b from e];exact⟨_,.bool b⟩
 | .int i,_,_,e=>by
  refine e1_1 e ?_;try clear e;intro t e
  rw[e];exact⟨_,.int i t⟩
 | .str x,_,_,e=>by
  refine e1_1 e ?_;try clear e;intro t e
  rw[e];exact⟨_,.str _ t⟩
 | .tup l,_,hp,e=>by
  refine e3_3 e ?_;try clear e;intro a vs n e f r
  rw[e]
  refine e1_1 (readsAll_of l _ hp r) ?_;intro as q
  exact⟨_,.tuple f.2.1 rfl rfl q⟩
 | .lst l,_,hp,e=>by
  refine e3_3 e ?_;try clear e;intro a vs n e f r
  rw[e]
  refine e1_1 (readsAll_of l _ hp r) ?_;intro as q
  exact⟨_,.list f.2.1 rfl rfl q⟩
 | .ref _,_,hp,_=>no_plain hp
 | .blt _,_,hp,_=>no_plain hp
 | .typ _,_,hp,_=>no_plain hp
 | .fin _ _,_,hp,_=>no_plain hp
 | .clo ..,_,hp,_=>no_plain hp
 | .rng _ _,_,hp,_=>no_plain hp
 | .bm _ _,_,hp,_=>no_plain hp
 | .dct _ _,_,hp,_=>no_plain hp
 | .dit _ _,_,hp,_=>no_plain hp
theorem readsAll_of {σ:Sig}{h:Heap}:∀ (p:List PV) (vs:List Value),plains p=true→VRels (Fz σ h) p vs→∃ as,ReadsAll h vs (pds p) as
 |[],_,_,e=>by rw[show _=[] from e];exact⟨_,.nil⟩
 |p::l,_,hp,e=>by
  refine e2_3 e ?_;try clear e;intro v ws e a b
  rw[e]
  have hp:=(Bool.and_eq_true _ _).mp hp
  refine e1_1 (reads_of p _ hp.1 a) ?_;intro as q
  refine e1_1 (readsAll_of l _ hp.2 b) ?_;intro bs q'
  exact⟨_,.cons q q'⟩
end
mutual
theorem canLay_pd:∀ (p:PV),plain p=true→(pd p).canLay0=true
 | .none,_=>rfl
 | .bool _,_=>rfl
 | .int _,_=>rfl
 | .str x,h=>by
  replace h:x.all (· < 1114112)=true:=h
  show PyData.strOk _=true
  unfold PyData.strOk
  rw[← Array.all_toList]
  exact h
 | .tup l,h=>canLayAll_pds l h
 | .lst l,h=>canLayAll_pds l h
 | .ref _,hp=>no_plain hp
 | .blt _,hp=>no_plain hp
 | .typ _,hp=>no_plain hp
 | .fin _ _,hp=>no_plain hp
 | .clo ..,hp=>no_plain hp
 | .rng _ _,hp=>no_plain hp
 | .bm _ _,hp=>no_plain hp
 | .dct _ _,hp=>no_plain hp
 | .dit _ _,hp=>no_plain hp
theorem canLayAll_pds:∀ (p:List PV),plains p=true→PyData.canLayAll0 (pds p)=true
 |[],_=>rfl
 |p::l,h=>by
  have h:=(Bool.and_eq_true _ _).mp h
  exact(Bool.and_eq_true _ _).mpr ⟨canLay_pd p h.1,canLayAll_pds l h.2⟩
end
section
variable {W:Wd}{k:Nat}{σ:Sig}{env:Env}{P:FM→Prop}{x y:List Nat}
theorem Room.units {A:Around}{k:Nat} (h:Room A k):A.units+64<cLine:=by have:=h.2.2;show A.units+64<9900;lia
theorem eq_dd {p q:PV}{K:PV→Sig→Prop} (hp:plain p=true) (hq:plain q=true) (dp:(pd p).depth≤64) (dq:(pd q).depth≤64) (h:K (.bool (PyData.eqv (pd p) (pd q))) σ):O2 W k VRel (compareOp .Eq) p q σ K:=fun va vb=>.id h fun A hA s hs hpat Q q'=>by
 refine e0_2 hpat ?_;try clear hpat;intro h1 h2
 refine e1_1 (reads_of _ _ hp h1) ?_;intro as ra
 refine e1_1 (reads_of _ _ hq h2) ?_;intro bs rb
 exact SeqAt.compareEq_shaped ra rb (by unfold SeqAt.shaped;rw[canLay_pd _ hp,decide_eq_true dp];rfl) (by unfold SeqAt.shaped;rw[canLay_pd _ hq,decide_eq_true dq];rfl) hA.units (q' _ _ rfl rfl rfl (Eq.refl _:Value.bool _=Value.bool _))
theorem ne_dd {p q:PV}{K:PV→Sig→Prop} (hp:plain p=true) (hq:plain q=true) (dp:(pd p).depth≤64) (dq:(pd q).depth≤64) (h:K (.bool (!PyData.eqv (pd p) (pd q))) σ):O2 W k VRel (compareOp .NotEq) p q σ K:=fun va vb=>.id h fun A hA s hs hpat Q q'=>by
 refine e0_2 hpat ?_;try clear hpat;intro h1 h2
 refine e1_1 (reads_of _ _ hp h1) ?_;intro as ra
 refine e1_1 (reads_of _ _ hq h2) ?_;intro bs rb
 exact SeqAt.compareNe_shaped ra rb (by unfold SeqAt.shaped;rw[canLay_pd _ hp,decide_eq_true dp];rfl) (by unfold SeqAt.shaped;rw[canLay_pd _ hq,decide_eq_true dq];rfl) hA.units (q' _ _ rfl rfl rfl (Eq.refl _:Value.bool _=Value.bool _))
theorem eq_same {p:PV}{K:PV→Sig→Prop} (hp:plain p=true) (dp:(pd p).depth≤64) (h:K (.bool true) σ):O2 W k VRel (compareOp .Eq) p p σ K:=eq_dd hp hp dp dp (by rw[SeqAt.eqv_refl _ (canLay_pd _ hp)];exact h)
theorem ne_same {p:PV}{K:PV→Sig→Prop} (hp:plain p=true) (dp:(pd p).depth≤64) (h:K (.bool false) σ):O2 W k VRel (compareOp .NotEq) p p σ K:=ne_dd hp hp dp dp (by rw[SeqAt.eqv_refl _ (canLay_pd _ hp)];exact h)
theorem add_ll (T:Top W){l m:List PV}{K:PV→Sig→Prop} (hz:l.length+m.length≤1000000) (h:K (.lst (l++m)) σ):O2 W k VRel (binaryOp .Add) (.lst l) (.lst m) σ K:=fun va vb=>.grow T h fun A hA s hs hpat Q q=>by
 refine e0_2 hpat ?_;try clear hpat;intro h1 h2
 refine e3_3 h1 ?_;try clear h1;intro a vs n zz1 f r;subst zz1
 refine e3_3 h2 ?_;try clear h2;intro b ws n' zz1 f' r';subst zz1
 have hl:=r.length
 have hl':=r'.length
 refine concat_meets ⟨_,f.2.1,rfl⟩ ⟨_,f'.2.1,rfl⟩ noFill_list_add seq_list_add PySem.F.slot_list_add PySem.F.entry_list_add (PySem.F.args_list_add_2 _ _) (list_addW a b vs ws n n' Option.none Option.none #[] #[] (by
  rw[sizeLine_eq];rw[Array.length_toList] at hl hl';lia)) ⟨f.2.1,f'.2.1,q _ _ _ sle_push ⟨_,vs++ws,0,rfl,fz_new hs (by intro z;cases z),?_⟩⟩
 rw[Array.toList_append]
 exact(r.mono (fle_grow sle_push)).append (r'.mono (fle_grow sle_push))
theorem truthy_int {a:Int}{K:Bool→Sig→Prop} (h:K (a != 0) σ):O1 W k REq truthy (.int a) σ K:=fun v=>.id h fun A hA s hs hpat Q q=>by
 refine e1_1 hpat ?_;try clear hpat;intro t e
 subst e;exact PySem.P.truthy_int (q _ _ rfl rfl rfl rfl)
theorem truthy_none {K:Bool→Sig→Prop} (h:K false σ):O1 W k REq truthy .none σ K:=fun v=>.id h fun A hA s hs e Q q=>by
 obtain rfl:v=.none:=e;exact PyProof.Rows.truthy_none (q _ _ rfl rfl rfl rfl)
theorem truthy_ref {a:Addr}{l:List PV} (hσ:σ a=some (.list l)) (hz:l.length≤1000000){K:Bool→Sig→Prop} (h:K (!l.isEmpty) σ):O1 W k REq truthy (.ref a) σ K:=fun v=>.id h fun A hA s hs e Q q=>by
 obtain rfl:v=.ref a:=e
 refine e2_2 (hs.hr _ _ hσ) ?_;intro vs n f r
 have hl:=r.length
 rw[Array.length_toList] at hl
 refine wpAny_truthy_list (isList_of f) (by lia) (q _ _ rfl rfl rfl ?_)
 show _=_
 congr 1
 rw[Bool.eq_iff_iff]
 simp only[Array.isEmpty_iff_size_eq_zero,List.isEmpty_iff_length_eq_zero,hl]
theorem isnot_none_str {K:PV→Sig→Prop} (h:K (.bool true) σ):O2 W k VRel (compareOp .IsNot) (.str x) .none σ K:=fun va vb=>.id h fun A hA s hs hpat Q q=>by
 refine e0_2 hpat ?_;try clear hpat;intro zz1 e';refine e1_1 zz1 ?_;clear zz1;intro t e
 obtain rfl:vb=.none:=e'
 subst e;exact wpAny_isNot_plain rfl (q _ _ rfl rfl rfl (Eq.refl _:Value.bool _=Value.bool _))
theorem isnot_none_none {K:PV→Sig→Prop} (h:K (.bool false) σ):O2 W k VRel (compareOp .IsNot) .none .none σ K:=fun va vb=>.id h fun A hA s hs hpat Q q=>by
 refine e0_2 hpat ?_;try clear hpat;intro e e'
 obtain rfl:vb=.none:=e'
 obtain rfl:va=.none:=e;exact wpAny_isNot_plain rfl (q _ _ rfl rfl rfl (Eq.refl _:Value.bool _=Value.bool _))
theorem is_none_none {K:PV→Sig→Prop} (h:K (.bool true) σ):O2 W k VRel (compareOp .Is) .none .none σ K:=fun va vb=>.id h fun A hA s hs hpat Q q=>by
 refine e0_2 hpat ?_;try clear hpat;intro e e'
 obtain rfl:vb=.none:=e'
 obtain rfl:va=.none:=e;exact wpAny_is_plain rfl (q _ _ rfl rfl rfl (Eq.refl _:Value.bool _=Value.bool _))
theorem is_none_str {K:PV→Sig→Prop} (h:K (.bool false) σ):O2 W k VRel (compareOp .Is) (.str x) .none σ K:=fun va vb=>.id h fun A hA s hs hpat Q q=>by
 refine e0_2 hpat ?_;try clear hpat;intro zz1 e';refine e1_1 zz1 ?_;clear zz1;intro t e
 obtain rfl:vb=.none:=e'
 subst e;exact wpAny_is_plain rfl (q _ _ rfl rfl rfl (Eq.refl _:Value.bool _=Value.bool _))
theorem is_bb {b c:Bool}{K:PV→Sig→Prop} (h:K (.bool (b==c)) σ):O2 W k VRel (compareOp .Is) (.bool b) (.bool c) σ K:=fun va vb=>.id h fun A hA s hs hpat Q q=>by
 refine e0_2 hpat ?_;try clear hpat;intro e e'
 obtain rfl:vb=.bool c:=e'
 obtain rfl:va=.bool b:=e
 exact wpAny_is_plain rfl (q _ _ rfl rfl rfl (show Value.bool _=Value.bool _ by cases b <;> cases c <;> rfl))
theorem isnot_bb {b c:Bool}{K:PV→Sig→Prop} (h:K (.bool (!(b==c))) σ):O2 W k VRel (compareOp .IsNot) (.bool b) (.bool c) σ K:=fun va vb=>.id h fun A hA s hs hpat Q q=>by
 refine e0_2 hpat ?_;try clear hpat;intro e e'
 obtain rfl:vb=.bool c:=e'
 obtain rfl:va=.bool b:=e
 exact wpAny_isNot_plain rfl (q _ _ rfl rfl rfl (show Value.bool _=Value.bool _ by cases b <;> cases c <;> rfl))
end
noncomputable def jn (sep:List Nat):List (List Nat)→List Nat
 |[]=>[]
 |[x]=>x
 |x::y::r=>x++sep++jn sep (y::r)
noncomputable def st (x:List Nat):Str:=⟨x.toArray⟩
theorem st_app (x y:List Nat):st x++st y=st (x++y):=str_app x y
theorem join_st (sep:List Nat):∀ l:List (List Nat),Txt.join (st sep) (l.map st)=st (jn sep l):=by
 intro l
 show Builtin.Str.glued (st sep) (l.map st)=_
 rw[StrLaws.glued_eq_join]
 match l with
 |[]=>rfl
 |[x]=>rfl
 |x::y::r =>
  show st x++st sep++Str.join (st sep) ((y::r).map st)=_
  have:=join_st sep (y::r)
  rw[show Txt.join (st sep) ((y::r).map st)=Builtin.Str.glued (st sep) ((y::r).map st) from rfl,StrLaws.glued_eq_join] at this
  rw[this,st_app,st_app]
  rfl
noncomputable def stsL (l:List (List Nat)):List PV:=l.map .str
theorem strs_vals {F:FM}:∀ {l:List (List Nat)}{vs:List Value},VRels F (stsL l) vs→∃ ts:List (Str×Tok),vs=strValues ts∧ts.map (·.1)=l.map st
 |[],_,h=>⟨[],by rw[show _=[] from h];rfl,rfl⟩
 |x::l,_,h=>by
  refine e2_3 h ?_;try clear h;intro v ws zz1 zz2 r;subst zz1;refine e1_1 zz2 ?_;clear zz2;intro t zz3;subst zz3
  refine e1_2 (strs_vals (l:=l) r) ?_;intro ts e1 e2
  exact⟨(st x,t)::ts,by rw[e1];rfl,by rw[List.map_cons,e2];rfl⟩
noncomputable def lens (sep:List Nat) (l:List (List Nat)):Nat:=l.foldl (fun n x=>n+x.length+sep.length) 0
theorem lens_foldl (sep:List Nat):∀ (l:List (List Nat)) (n:Nat),(l.map st).foldl (fun n x=>n+x.length+(st sep).length) n=l.foldl (fun n x=>n+x.length+sep.length) n
 |[],_=>rfl
 |x::l,n=>by
  rw[List.map_cons,List.foldl_cons,List.foldl_cons,lens_foldl sep l]
  rw[show(st x).length=x.length from str_len x,show(st sep).length=sep.length from str_len sep]
theorem joinOk_st (sep:List Nat) (l:List (List Nat)) (h:lens sep l≤16000000):JoinOk (st sep) (l.map st)=true:=by
 unfold JoinOk Builtin.Str.tooLong
 rw[List.foldl_toArray,lens_foldl]
 unfold lens at h
 rw[sizeLine_eq]
 simp;exact Nat.le_trans (by assumption) (by decide)
theorem strs_of_values {F:FM}{l:List (List Nat)}{ts:List (Str×Tok)} (h:ts.map (·.1)=l.map st):VRels F (stsL l) (strValues ts):=by
 induction l generalizing ts with
 |nil=>cases ts with
  |nil=>rfl
  |cons _ _=>cases h
 |cons x l ih=>cases ts with
  |nil=>cases h
  |cons p ts =>
   rw[List.map_cons,List.map_cons] at h
   injection h with h1 h2
   exact⟨_,_,rfl,⟨p.2,by show Value.str p.1 p.2=_;rw[h1];rfl⟩,ih h2⟩
section
variable {W:Wd}{k:Nat}{σ:Sig}{env:Env}{P:FM→Prop}{x y:List Nat}{K:PV→Sig→Prop}
theorem C1 {f a:PV} (h:∀ v va,G W k (fun F=>VRel F f v∧VRel F a va) VRel (call v [va]) σ K):C W k f [a] [] [] σ K:=fun v vs ws A hA s hs hpat=>by
 refine e0_3 hpat ?_;try clear hpat;intro h1 zz1 _;refine e2_3 zz1 ?_;clear zz1;intro va r e h2 h3
 subst e
 obtain rfl:r=[]:=h3
 exact h v va A hA s hs ⟨h1,h2⟩
theorem C2 {f a b:PV} (h:∀ v va vb,G W k (fun F=>VRel F f v∧VRel F a va∧VRel F b vb) VRel (call v [va,vb]) σ K):C W k f [a,b] [] [] σ K:=fun v vs ws A hA s hs hpat=>by
 refine e0_3 hpat ?_;try clear hpat;intro h1 zz1 _;obtain ⟨va,r,e,h2,vb,r',e',h3,h4⟩:=zz1
 subst e e'
 obtain rfl:r'=[]:=h4
 exact h v va vb A hA s hs ⟨h1,h2,h3⟩
theorem GM_str {name:Str}{id:String}{K:PV×List PV→Sig→Prop} (slot:Slot "str" name id) (ty:typeOf (.builtin id)=pure (.type "method_descriptor")) (h:K (.blt id,[.str x]) σ):GM W k name (.str x) σ K:=fun v pl=>.id h fun A hA s hs hpat Q q=>by
 refine e1_1 hpat ?_;try clear hpat;intro t e
 subst e
 exact getMethod_builtin (typeIs_str _ _ _) PySem.F.plainAttrs_str slot ty (fun a e=>nomatch e) (q _ _ rfl rfl rfl ⟨(Eq.refl _:Value.builtin id=Value.builtin id),VRels.one ⟨t,rfl⟩⟩)
theorem GM_ref {a:Addr}{l:List PV}{name:Str}{id:String}{K:PV×List PV→Sig→Prop} (hσ:σ a=some (.list l)) (slot:Slot "list" name id) (ty:typeOf (.builtin id)=pure (.type "method_descriptor")) (h:K (.blt id,[.ref a]) σ):GM W k name (.ref a) σ K:=fun v pl=>.id h fun A hA s hs e Q q=>by
 obtain rfl:v=.ref a:=e
 refine e2_2 (hs.hr _ _ hσ) ?_;intro vs n f r
 exact getMethod_builtin ⟨_,f,rfl⟩ PySem.F.plainAttrs_list slot ty (fun b e=>by cases e;exact⟨_,f,rfl⟩) (q _ _ rfl rfl rfl ⟨(Eq.refl _:Value.builtin id=Value.builtin id),VRels.one (Eq.refl _:Value.ref a=Value.ref a)⟩)
theorem C_join {l:List (List Nat)} (hz:lens x l≤16000000) (h:K (.str (jn x l)) σ):C W k (.blt "str.join") [.str x,.lst (stsL l)] [] [] σ K:=C2 fun v va vb=>.id h fun A hA s hs hpat Q q=>by
 obtain ⟨e,⟨t,e1⟩,a,vs,n,e2,f,r⟩:=hpat
 obtain rfl:v=.builtin "str.join":=e
 subst e1 e2
 refine e1_2 (strs_vals r) ?_;intro ts e3 e4
 have hv:vs=(strValues ts).toArray:=by rw[← e3,Array.toArray_toList]
 subst hv
 exact SC.join (x:=st x) (isList_of f.2.1) e4 (joinOk_st x l hz) fun t' k'=>q _ _ rfl rfl rfl ⟨t',by rw[join_st];rfl⟩
theorem C_append (T:Top W){a:Addr}{l:List PV}{p:PV} (hσ:σ a=some (.list l)) (hz:l.length≤1000000) (h:K .none (σ.upd a (.list (l++[p])))):C W k (.blt "list.append") [.ref a,p] [] [] σ K:=C2 fun v va vb A hA s hs hpat=>by
 refine e0_3 hpat ?_;try clear hpat;intro e e1 e2
 obtain rfl:v=.builtin "list.append":=e
 obtain rfl:va=.ref a:=e1
 exact list_append_G T hσ hz h vb A hA s hs e2
theorem C_pop0 (T:Top W){a:Addr}{l:List PV}{p:PV} (hσ:σ a=some (.list (p::l))) (hz:l.length≤1000000) (h:K p (σ.upd a (.list l))):C W k (.blt "list.pop") [.ref a,.int 0] [] [] σ K:=C2 fun v va vb A hA s hs hpat=>by
 refine e0_3 hpat ?_;try clear hpat;intro e e1 zz1;refine e1_1 zz1 ?_;clear zz1;intro t e2
 obtain rfl:v=.builtin "list.pop":=e
 obtain rfl:va=.ref a:=e1
 subst e2
 obtain ⟨vs,n,ho,y,ws,e3,ry,rw⟩:=hs.hr _ _ hσ
 have hne:σ a≠none:=by rw[hσ];simp
 have hl:=rw.length
 have hvs:vs=(y::ws).toArray:=by rw[← e3,Array.toArray_toList]
 subst hvs
 have hsb:=Heap.SameBut.update s.heap a (Obj.mapSeq fun xs=>xs.eraseIdxIfInBounds 0)
 have F1:FLe (Fz σ s.heap) (Fz (σ.upd a (.list l)) (s.heap.update a (Obj.mapSeq fun xs=>xs.eraseIdxIfInBounds 0))):=fle_upd hne hsb
 have he:(y::ws).toArray.eraseIdxIfInBounds 0=ws.toArray:=by
  unfold Array.eraseIdxIfInBounds
  rw[dif_pos (by simp)]
  apply Array.toList_inj.mp
  rw[Array.toList_eraseIdx];rfl
 have hms:∃ n',Obj.mapSeq (fun xs=>xs.eraseIdxIfInBounds 0) (listOf (y::ws).toArray n)=listOf ws.toArray n':=⟨_,by simp only[Obj.mapSeq,he];rfl⟩
 refine e1_1 hms ?_;try clear hms;intro n' hms
 have hg:(s.heap.update a (Obj.mapSeq fun xs=>xs.eraseIdxIfInBounds 0)).get? a=some (listOf ws.toArray n'):=by
  rw[Heap.get?_update_self _ ho (by rw[hms];rfl),hms]
 refine call_meets PySem.F.slot_list_pop ⟨_,ho,rfl⟩ PySem.F.entry_list_pop (PySem.F.args_list_pop_2 _ _) (PySem.MeetsSeq.list_pop_at a _ n 0 t 0 y rfl ?_ rfl ?_) ⟨ho,p,_,?_,F1,ry.mono F1,h⟩
 ·unfold seqIndex?;simp
 ·rw[List.size_toArray,List.length_cons,hl,sizeLine_eq];exact Nat.le_trans (Nat.add_le_add hz (Nat.le_refl _)) (by decide)
 ·exact hs.update (ao:=.list l) (tk:=s.toks) T.lim hσ (fun b q=>by cases q) hsb ⟨_,_,hg,rw.mono F1⟩
theorem C_len_str (hz:x.length≤1000000) (h:K (.int x.length) σ):C W k (.blt "len") [.str x] [] [] σ K:=C1 fun v va=>.id h fun A hA s hs hpat Q q=>by
 refine e0_2 hpat ?_;try clear hpat;intro e zz1;refine e1_1 zz1 ?_;clear zz1;intro t e1
 obtain rfl:v=.builtin "len":=e
 subst e1
 exact PySem.P.len_str (by rw[str_len];lia) (q _ _ rfl rfl rfl ⟨_,by rw[str_len]⟩)
theorem C_len_lst {l:List PV} (hz:l.length≤1000000) (h:K (.int l.length) σ):C W k (.blt "len") [.lst l] [] [] σ K:=C1 fun v va=>.id h fun A hA s hs hpat Q q=>by
 obtain ⟨e,a,vs,n,e1,f,r⟩:=hpat
 obtain rfl:v=.builtin "len":=e
 subst e1
 have hl:=r.length
 rw[Array.length_toList] at hl
 exact Calls.call_len_list (isList_of f.2.1) (by lia) (q _ _ rfl rfl rfl ⟨_,by rw[hl]⟩)
theorem C_ord {c:Nat} (h:K (.int c) σ):C W k (.blt "ord") [.str [c]] [] [] σ K:=C1 fun v va=>.id h fun A hA s hs hpat Q q=>by
 refine e0_2 hpat ?_;try clear hpat;intro e zz1;refine e1_1 zz1 ?_;clear zz1;intro t e1
 obtain rfl:v=.builtin "ord":=e
 subst e1
 exact PySem.P.ord_of_char (c:=c) (t:=t) (q _ _ rfl rfl rfl ⟨_,rfl⟩)
theorem C_chr {i:Int} (h0:0≤i) (h1:i≤1114111) (h:K (.str [i.toNat]) σ):C W k (.blt "chr") [.int i] [] [] σ K:=C1 fun v va=>.id h fun A hA s hs hpat Q q=>by
 refine e0_2 hpat ?_;try clear hpat;intro e zz1;refine e1_1 zz1 ?_;clear zz1;intro t e1
 obtain rfl:v=.builtin "chr":=e
 subst e1
 exact PySem.P.chr_of_int (by simp;lia) (q _ _ rfl rfl rfl ⟨_,rfl⟩)
noncomputable def hexL (i:Int):List Nat:=(baseText "0x" 16 i).cps.toList
theorem C_hex {i:Int} (hz:(hexL i).length≤1000000) (h:K (.str (hexL i)) σ):C W k (.blt "hex") [.int i] [] [] σ K:=C1 fun v va=>.id h fun A hA s hs hpat Q q=>by
 refine e0_2 hpat ?_;try clear hpat;intro e zz1;refine e1_1 zz1 ?_;clear zz1;intro t e1
 obtain rfl:v=.builtin "hex":=e
 subst e1
 refine PySem.P.hex_of_int (q _ _ rfl rfl rfl ⟨s.toks,?_⟩) ?_
 ·unfold hexL;simp
 ·unfold hexL at hz;rw[Array.length_toList] at hz;rw[sizeLine_eq];show(baseText "0x" 16 i).cps.size≤_;exact Nat.le_trans (by assumption) (by decide)
theorem C_range1 (T:Top W){n:Int} (h:K (.rng 0 n) σ):C W k (.typ "range") [.int n] [] [] σ K:=C1 fun v va=>.grow T h fun A hA s hs hpat Q q=>by
 refine e0_2 hpat ?_;try clear hpat;intro e zz1;refine e1_1 zz1 ?_;clear zz1;intro t e1
 obtain rfl:v=.type "range":=e
 subst e1
 exact call_range_1 (q _ _ _ sle_push ⟨_,_,_,_,rfl,fz_new hs (by intro z;cases z)⟩)
theorem C_range2 (T:Top W){a b:Int} (h:K (.rng a b) σ):C W k (.typ "range") [.int a,.int b] [] [] σ K:=C2 fun v va vb=>.grow T h fun A hA s hs hpat Q q=>by
 obtain ⟨e,⟨t,e1⟩,u,e2⟩:=hpat
 obtain rfl:v=.type "range":=e
 subst e1 e2
 exact call_range_2 (q _ _ _ sle_push ⟨_,_,_,_,rfl,fz_new hs (by intro z;cases z)⟩)
noncomputable def upperL (x:List Nat):List Nat:=(Txt.upper (st x)).cps.toList
noncomputable def lowerL (x:List Nat):List Nat:=(Txt.lower (st x)).cps.toList
theorem C_upper (hz:x.length≤5000000) (h:K (.str (upperL x)) σ):C W k (.blt "str.upper") [.str x] [] [] σ K:=C1 fun v va=>.id h fun A hA s hs hpat Q q=>by
 refine e0_2 hpat ?_;try clear hpat;intro e zz1;refine e1_1 zz1 ?_;clear zz1;intro t e1
 obtain rfl:v=.builtin "str.upper":=e
 subst e1
 exact SCL.upper (x:=st x) (by rw[show(st x).length=x.length from str_len x];exact Nat.le_trans (by assumption) (by decide)) fun _=>q _ _ rfl rfl rfl ⟨s.toks,by unfold upperL;simp⟩
theorem C_lower (hz:x.length≤5000000) (h:K (.str (lowerL x)) σ):C W k (.blt "str.lower") [.str x] [] [] σ K:=C1 fun v va=>.id h fun A hA s hs hpat Q q=>by
 refine e0_2 hpat ?_;try clear hpat;intro e zz1;refine e1_1 zz1 ?_;clear zz1;intro t e1
 obtain rfl:v=.builtin "str.lower":=e
 subst e1
 exact SCL.lower (x:=st x) (by rw[show(st x).length=x.length from str_len x];exact Nat.le_trans (by assumption) (by decide)) fun _=>q _ _ rfl rfl rfl ⟨s.toks,by unfold lowerL;simp⟩
noncomputable def countL (x y:List Nat):Int:=Txt.count (st x) (st y)
theorem C_count (h:K (.int (countL x y)) σ):C W k (.blt "str.count") [.str x,.str y] [] [] σ K:=C2 fun v va vb=>.id h fun A hA s hs hpat Q q=>by
 obtain ⟨e,⟨t,e1⟩,u,e2⟩:=hpat
 obtain rfl:v=.builtin "str.count":=e
 subst e1 e2
 exact SC.count (x:=st x) (y:=st y) (q _ _ rfl rfl rfl ⟨_,rfl⟩)
end
section
variable {W:Wd}{k:Nat}{σ:Sig}{env:Env}{P:FM→Prop}{x y:List Nat}
theorem E_USub {e:Expr}{pos:Pos}{i:Int}{K:PV→Sig→Prop} (h:E W k env e σ fun p σ₁=>p=.int i∧K (.int (-i)) σ₁):E W k env (.UnaryOp .USub e pos) σ K:=fun A hA s hs hP =>
 wpAny_UnaryOp (wpAny_mono (h A hA s hs hP) (fun v s₁ hpat=>by
  refine e2_5 hpat ?_;try clear hpat;intro p σ₁ a1 a2 a3 a4 a5
  subst a4
  refine e1_1 a3 ?_;try clear a3;intro t zz1;subst zz1
  exact PySem.P.neg_int ⟨.int (-i),σ₁,a1.same rfl rfl rfl (Nat.le_succ _),a2,⟨_,rfl⟩,a5⟩) fun _ _ x=>x)
def PRel (F:FM) (o:Option Int) (v:Value):Prop:=match o with
 |some i=>∃ t,v=.int i t
 |none=>v=.none
abbrev EP (W:Wd) (k:Nat) (env:Env) (e:Option Expr) (σ:Sig) (K:Option Int→Sig→Prop):Prop:=G W k PT PRel (evalPart e env) σ K
theorem EP_none {K:Option Int→Sig→Prop} (h:K none σ):EP W k env none σ K:=fun A hA s hs hP=>wpAny_evalPart_none ⟨none,σ,hs,FLe.refl _,(Eq.refl _:Value.none=Value.none),h⟩
abbrev jEp (K:Option Int→Sig→Prop) (p:PV) (σ:Sig):Prop:=∃ i,p=.int i∧K (some i) σ
theorem EP_some {e:Expr}{K:Option Int→Sig→Prop} (h:E W k env e σ (jEp K)):EP W k env (some e) σ K:=fun A hA s hs hP =>
 wpAny_evalPart_some (wpAny_mono (h A hA s hs hP) (fun v s₁ hpat=>by obtain ⟨p,σ₁,a1,a2,a3,i,a4,a5⟩:=hpat;subst a4;exact⟨some i,σ₁,a1,a2,a3,a5⟩) fun _ _ x=>x)
theorem prel_str {F:FM}{o:Option Int}{v:Value} (h:PRel F o v):∃ l:Option (Int×Tok),v=partValue l∧l.map (·.1)=o:=by
 cases o with
 |none=>exact⟨none,h,rfl⟩
 |some i=>refine e1_1 h ?_;try clear h;intro t e;exact⟨some (i,t),e,rfl⟩
theorem prel_list {F:FM}{o:Option Int}{v:Value} (h:PRel F o v):IsPart v o:=by
 cases o with
 |none=>rw[show v=.none from h];exact .none
 |some i=>refine e1_1 h ?_;try clear h;intro t e;rw[e];exact .int i t
theorem E_SliceStr (T:Top W){value:Expr}{lower upper:Option Expr}{p pos:Pos}{K:PV→Sig→Prop}
  (h:E W k env value σ fun q σ₁=>EP W k env lower σ₁ fun lo σ₂=>EP W k env upper σ₂ fun hi σ₃=>∃ x,q=.str x∧x.length≤1000000∧K (.str (slc lo hi x)) σ₃):E W k env (.Subscript value (.Slice lower upper none p) pos) σ K:=fun A hA s hs hP=>by
 show wpAny _ A (eval _ env) _ _ s
 rw[eval_Subscript]
 refine wpAny_bind (G.use h A hA s hs trivial (fun v s₁ q σ₁ a1 a2 a3 a4=>wpAny_bind (wpAny_holding (wpAny_Slice (G.use a4 A hA s₁ a1 trivial (fun vl s₂ lo σ₂ b1 b2 b3 b4=>wpAny_mono (b4 A hA s₂ b1 trivial) (fun vu s₃ hpat=>?_) fun _ _ x=>x) fun _ _ x=>x)))) fun _ _ x=>x)
 obtain ⟨hi,σ₃,c1,c2,c3,x,c4,c5,c6⟩:=hpat
 subst c4
 refine e1_1 a3 ?_;try clear a3;intro t zz1;subst zz1
 refine e1_2 (prel_str b3) ?_;intro l zz1 el;subst zz1
 refine e1_2 (prel_str c3) ?_;intro u zz1 eu;subst zz1
 rw[evalPart_none]
 refine wpAny_pure (wpAny_bind (wpAny_standAt ?_))
 have S2:=c1.grow T (h':=s₃.heap.push { cls:=.type "slice",data:=.fields #[partValue l,partValue u,.none] }) (tk:=s₃.toks) sle_push
 have F2:FLe (FrOf σ s) _:=((a2.trans b2).trans c2).trans (fle_grow (σ:=σ₃) (sle_push (h:=s₃.heap) (o:={ cls:=.type "slice",data:=.fields #[partValue l,partValue u,.none] })))
 have key:wpAny (model W.prog W.w) A (getItem (.str (st x) t) (.ref s₃.heap.objs.size)) (fun r s'=>∃ b σ',St W σ' s'∧FLe (FrOf σ s) (FrOf σ' s')∧VRel (FrOf σ' s') b r∧K b σ') (fun _ _=>False) { s₃ with heap:=s₃.heap.push { cls:=.type "slice",data:=.fields #[partValue l,partValue u,.none] } }:=by
  refine wpAny_getItem_str_slice (l:=l) (u:=u) (st:=none) ⟨_,Heap.get?_push_size _ rfl,rfl,rfl⟩ rfl ?_
  have e:(slicePicked (st x) l u none).filterMap ((st x).cps[·]?)=slc lo hi x:=by
   unfold slicePicked
   rw[el,eu,show(st x).length=x.length from str_len x]
   exact slc_str x lo hi
  have e2:slicePicked (st x) l u none=sliceRange ((lo.elim 0 (clipAt x.length):Nat):Int) ((hi.elim x.length (clipAt x.length):Nat):Int) 1:=by
   unfold slicePicked
   rw[el,eu,show(st x).length=x.length from str_len x]
   exact strIdx _ _ _
  unfold sliceMade
  rw[e,e2,sliceRange_one]
  split
  ·rename_i hw
   have hw:(slc lo hi x).length=x.length:=by
    rw[slc_len]
    simpa [show(st x).length=x.length from str_len x] using hw
   rw[slc_whole hw] at c6
   exact⟨.str x,σ₃,S2,F2,⟨t,rfl⟩,c6⟩
  ·refine⟨?_,.str (slc lo hi x),σ₃,S2.same rfl rfl rfl (Nat.le_succ _),F2,⟨_,rfl⟩,c6⟩
   have:=slc_le lo hi x
   show(st (slc lo hi x)).length≤_
   rw[show(st (slc lo hi x)).length=(slc lo hi x).length from str_len _,sizeLine_eq];exact Nat.le_of_lt (cC this (cC c5 (by decide)))
 have hT:Shared.TypeIs { s₃ with heap:=s₃.heap.push { cls:=.type "slice",data:=.fields #[partValue l,partValue u,.none] } } (.str (st x) t) "str":=typeIs_str _ _ _
 show wpAny _ A (getitemInPython (.str (st x) t) >>= _) _ _ _
 rw[getitemInPython_of_ne hT.not_modules]
 refine wpAny_bind (wpAny_bind (wpAny_specialOf hT PySem.F.slot_str_getitem.lookup (wpAny_pure ?_)))
 show wpAny _ A (operate _ _ >>= _) _ _ _
 exact wpAny_bind (wpAny_operating (wpAny_mono key (fun r s' z=>wpAny_bind (wpAny_letTemporaryGo (wpAny_pure z))) fun _ _ x=>x))
def SR (W:Wd) (k:Nat):List (Value→Sem Unit)→List PV→Sig→(Unit→Sig→Prop)→Prop
 |[],[],σ,K=>K () σ
 |t::ts,p::ps,σ,K=>O1 W k REq t p σ fun _ σ'=>SR W k ts ps σ' K
 |_,_,_,_=>False
theorem SR_wp {W:Wd}{k:Nat}:∀ {ts:List (Value→Sem Unit)}{ps:List PV}{σ:Sig}{K:Unit→Sig→Prop}{A:Around},Room A k→∀ {s:Shared}{vs:List Value},St W σ s→VRels (FrOf σ s) ps vs→SR W k ts ps σ K →
  wpAny (model W.prog W.w) A (assignInOrder ts vs) (fun u s'=>∃ σ',St W σ' s'∧FLe (FrOf σ s) (FrOf σ' s')∧K () σ') (fun _ _=>False) s
 |[],[],σ,K,A,hA,s,vs,S,hv,h=>by
  rw[show vs=[] from hv];exact wpAny_assignInOrder_none ⟨σ,S,FLe.refl _,h⟩
 |t::ts,p::ps,σ,K,A,hA,s,vs,S,hv,h=>by
  refine e2_3 hv ?_;try clear hv;intro v ws zz1 a b;subst zz1
  exact wpAny_assignInOrder_more (G.use (h v) A hA s S a (fun _ s₁ _ σ₁ a1 a2 a3 a4=>wpAny_mono (SR_wp hA a1 (b.mono a2) a4) (fun _ s₂ hpat=>by refine e1_3 hpat ?_;try clear hpat;intro σ₂ b1 b2 b3;exact⟨σ₂,b1,a2.trans b2,b3⟩) fun _ _ x=>x) fun _ _ x=>x)
 |[],_::_,_,_,_,_,_,_,_,_,h=>h.elim
 |_::_,[],_,_,_,_,_,_,_,_,h=>h.elim
theorem ext_sle {h h':Heap} (e:Heap.ExtBut h.objs.size h h'):SLe h h':=fun a o x=>e a o (Nat.ne_of_lt (Heap.lt_size x)) x
theorem AT_tup (T:Top W){elts:List Expr}{n:Nat}{pos:Pos}{ps:List PV}{K:Unit→Sig→Prop} (hn:(assignEach elts env).length=ps.length) (h:SR W k ((assignEach elts env).map (·.2)) ps σ K)
  (hstar:autoParam ((assignEach elts env).findIdx? (·.1)=none) tR):O1 W k REq (fun v=>assign (.Tuple elts n pos) env v) (.tup ps) σ K:=fun v A hA s hs hpat=>by
 refine e3_3 hpat ?_;try clear hpat;intro a vs m e f r
 subst e
 have hl:=r.length
 rw[Array.length_toList] at hl
 refine wpAny_assign_Tuple hA.1 (isTuple_of f.2.1) (hn.trans hl.symm) hstar fun h' hx=>?_
 have hk:=ext_sle hx
 exact wpAny_mono (SR_wp hA (hs.grow T (tk:=s.toks) hk) (r.mono (fle_grow hk)) h) (fun _ s' hpat=>by refine e1_3 hpat ?_;try clear hpat;intro σ' b1 b2 b3;exact⟨(),σ',b1,(fle_grow hk).trans b2,rfl,b3⟩) fun _ _ x=>x
theorem AT_name {x:Str}{p':Pos}{p:PV}{K:Unit→Sig→Prop} (h:O1 W k REq (storeName env x) p σ K):O1 W k REq (fun v=>assign (.Name x p') env v) p σ K:=fun v A hA s hs hP=>wpAny_assign_Name (h v A hA s hs hP)
abbrev jAs (W:Wd) (k:Nat) (env:Env) (elts:List Expr) (n:Nat) (tpos:Pos) (K:AFlow→Sig→Prop) (p:PV) (σ:Sig):Prop:=O1 W k REq (fun v=>assign (.Tuple elts n tpos) env v) p σ (jN K)
abbrev jSw (W:Wd) (k:Nat) (env:Env) (names:List Str) (K:AFlow→Sig→Prop) (p:PV) (σ:Sig):Prop:=∃ ps,p=.tup ps∧names.length=ps.length∧SR W k (names.reverse.map fun n=>storeName env n) ps.reverse σ (jN K)
theorem X_AssignTup {elts:List Expr}{n:Nat}{tpos pos:Pos}{value:Expr}{K:AFlow→Sig→Prop} (h:E W k env value σ (jAs W k env elts n tpos K))
  (hs:autoParam (swapsWithSole [.Tuple elts n tpos] value pos.line env=Pure.pure false) tR) (hw:autoParam (swappedStores [.Tuple elts n tpos] value env=Pure.pure none) tR):X W k env (.Assign [.Tuple elts n tpos] value pos) σ K:=fun A hA s hs' hP =>
 Assign_Tuple (G.use h A hA s hs' hP (fun v s₁ p σ₁ a1 a2 a3 a4=>G.use (a4 v) A hA s₁ a1 a3 (fun _ s₂ _ σ₂ b1 b2 b3 b4=>⟨.next,σ₂,b1,a2.trans b2,rfl,b4⟩) fun _ _ x=>x) fun _ _ x=>x) hs hw
theorem X_AssignSwap (T:Top W){elts:List Expr}{n:Nat}{tpos pos:Pos}{value:Expr} (names:List Str){K:AFlow→Sig→Prop} (h:E W k env value σ (jSw W k env names K))
  (hs:autoParam (swapsWithSole [.Tuple elts n tpos] value pos.line env=Pure.pure false) tR) (hw:autoParam (swappedStores [.Tuple elts n tpos] value env=Pure.pure (some names)) tR):X W k env (.Assign [.Tuple elts n tpos] value pos) σ K:=fun A hA s hs' hP=>by
 refine Assign_Tuple_swapped (wpAny_mono (h A hA s hs' hP) (fun v s₁ hpat=>?_) fun _ _ x=>x) hs hw
 obtain ⟨p,σ₁,a1,a2,a3,ps,a4,a5,a6⟩:=hpat
 subst a4
 refine e3_3 a3 ?_;try clear a3;intro a vs m zz1 f r;subst zz1
 have hl:=r.length
 rw[Array.length_toList] at hl
 rw[a5.trans hl.symm]
 refine wpAny_unpackItems_tuple hA.1 (isTuple_of f.2.1) fun h' hx=>?_
 have hk:=ext_sle hx
 have hr:∀ {l:List PV}{vs:List Value}{F:FM},VRels F l vs→VRels F l.reverse vs.reverse:=by
  intro l
  induction l with
  |nil=>intro vs F h;rw[show vs=[] from h];rfl
  |cons p l ih=>intro vs F h;refine e2_3 h ?_;try clear h;intro v ws zz1 a b;subst zz1;rw[List.reverse_cons,List.reverse_cons];exact(ih b).append (VRels.one a)
 have conv:∀ {ns:List Str}{ps:List PV}{σ:Sig}{K:Unit→Sig→Prop},SR W k (ns.map fun n=>storeName env n) ps σ K→SR W k (ns.map fun n=>bindName env n) ps σ K:=by
  intro ns
  induction ns with
  |nil=>intro ps σ K h;exact h
  |cons n ns ih=>intro ps σ K h;cases ps with
   |nil=>exact h
   |cons p ps=>exact fun v A hA s hs hP=>wpAny_bindName (G.use (h v) A hA s hs hP (fun _ s₁ u σ₁ a1 a2 a3 a4=>⟨u,σ₁,a1,a2,a3,ih a4⟩) fun _ _ x=>x)
 exact wpAny_mono (SR_wp hA (a1.grow T (tk:=s₁.toks) hk) (hr (r.mono (fle_grow hk))) (conv a6)) (fun _ s' hpat=>by refine e1_3 hpat ?_;try clear hpat;intro σ' b1 b2 b3;exact⟨.next,σ',b1,(a2.trans (fle_grow hk)).trans b2,rfl,b3⟩) fun _ _ x=>x
theorem ci_slot_next:Slot "callable_iterator" "__next__" "callable_iterator.__next__" :=
 .of (owner:="callable_iterator") (n:="__next__") (by rw[typeLookup_type,builtinLookup_eq_fast];kernel_rfl) (by decide +kernel) (by decide +kernel) (by decide +kernel)
  (by first |exact .inl (by decide +kernel) |exact .inr (by decide +kernel)) (by rw[isSubtype_type];kernel_rfl)
theorem ci_slot_iter:Slot "callable_iterator" "__iter__" "callable_iterator.__iter__" :=
 .of (owner:="callable_iterator") (n:="__iter__") (by rw[typeLookup_type,builtinLookup_eq_fast];kernel_rfl) (by decide +kernel) (by decide +kernel) (by decide +kernel)
  (by first |exact .inl (by decide +kernel) |exact .inr (by decide +kernel)) (by rw[isSubtype_type];kernel_rfl)
theorem ci_entry_iter:entryFor table "callable_iterator.__iter__"=some Builtin.«dict_keyiterator.__iter__» :=
 entryFor_alias (id':="dict_keyiterator.__iter__") (by kernel_rfl) (by first |rfl |decide +kernel) (by decide +kernel) (by kernel_rfl)
theorem ci_entry_next:entryFor table "callable_iterator.__next__"=some Builtin.«callable_iterator.__next__» := entryFor_of_fast (by kernel_rfl)
theorem ci_args_iter (a:Value):argsOk "callable_iterator.__iter__" ⟨[a],[]⟩:=by unfold argsOk;kernel_rfl
theorem ci_args_next (a:Value):argsOk "callable_iterator.__next__" ⟨[a],[]⟩:=by unfold argsOk;kernel_rfl
theorem ci_entry_iterf:entryFor table "iter"=some Builtin.«iter» := entryFor_of_fast (by kernel_rfl)
theorem ci_args_iterf (a b:Value):argsOk "iter" ⟨[a,b],[]⟩:=by unfold argsOk;kernel_rfl
theorem ci_method_call:typeLookup (.type "method") "__call__"=pure (some (.builtin "method.__call__")):=by rw[typeLookup_type,builtinLookup_eq_fast];kernel_rfl
theorem wpAny_callBorrowed {M:Model}{A:Around}{E:Value→Shared→Prop}{s:Shared}{f:Value}{pos:List Value}{Q:Value→Shared→Prop}
  (hc:codeAny M A (.call f ⟨pos,[]⟩) (fun r s'=>match r with | .ok (.ret v)=>Q v s' | .ok _=>False | .error e=>E e s') s):wpAny M A (callBorrowed f pos) Q E s:=fun Γ p hΓ=>by
 have h:=hc _ p rfl (hΓ.enter (.call f ⟨pos,[]⟩) none p (by intro x;cases x))
 have e:Sem.wp M Γ (callBorrowed f pos) (fun v p s=>Q v s) (fun e p s=>E e s) p s=wpCode M (Γ.enter (.call f ⟨pos,[]⟩) none p) (fun r s'=>match r with | .ok (.ret v)=>Q v s' | .ok _=>False | .error e=>E e s') p s:=by
  unfold callBorrowed
  rw[Sem.wp_call];congr 1;funext r s'
  cases r with
  |error e=>rfl
  |ok f=>cases f <;> rfl
 rw[e];exact h
theorem OA_bm (T:Top W){a C d f:Addr}{fs:Str→Option PV}{n:Nat}{name:Str}{K:PV→Sig→Prop} (X:ClsIs W C) (hf:findIn W.K (.ref C) name=some (some (.ref f))) (ht:typeIn W.K (.ref f)=some (.type "function"))
  (hg:specialIn W.K (.ref f) "__get__"=some (some (.builtin "function.__get__"))) (hk:takesIn W.K (.ref f)=some false) (hcn:copiedNames.contains name=false) (hσ:σ a=some (.inst C d fs n)) (hp:fs name=none)
  (h:K (.bm f a) σ):OA W k name (.ref a) σ K:=fun v=>.grow T h fun A hA s hs hP Q q=>by
 obtain rfl:v=.ref a:=hP
 obtain ⟨ha,_,_,es,ep,hd,hkk,hz,r⟩:=hs.hr _ _ hσ
 have hnn:=r name
 rw[hp] at hnn
 have hnn:nsFind es name=none:=hnn
 refine e1_2 (X.cd) ?_;intro cd hc hh
 have hfo:findObj W.K C (some (dObj es ep)) name=some (.bind (.builtin "function.__get__") (.ref f)):=by
  have ho:PySem.W.ownOf cd (some (dObj es ep)) name=some none:=by
   unfold PySem.W.ownOf
   rw[hh,← hnn]
   exact look_of (ep:=ep) hkk name
  unfold findObj
  rw[hc,hf]
  show(specialIn W.K _ _).bind _=_
  rw[hg]
  show(takesIn W.K _).bind _=_
  rw[hk]
  show(PySem.W.ownOf cd (some (dObj es ep)) name).bind _=_
  rw[ho]
  show(if copiedNames.contains name&&_ then none else _)=_
  rw[hcn]
  rfl
 refine get_bind (hs.kin T) (instAt_of ha hd) X.ga hfo X.gt ?_
 refine wpAny_call (fn_get (s:={ s with toks:=s.toks+1 }) (hs.kin T) ht ?_)
 show wpAny _ _ (handedOut (.ref s.heap.objs.size)) _ _ _
 rw[handedOut_of rfl]
 exact wpAny_pure (q _ _ _ sle_push ⟨_,rfl,fz_new hs (by intro z;cases z)⟩)
theorem borrows_bm {M:Model}{A:Around}{E:Value→Shared→Prop}{s:Shared}{r f:Addr}{self:Value}{o:Obj}{fd:FuncData}{Q:Bool→Shared→Prop} (hr:s.heap.get? r=some (methodObj (.ref f) self)) (hf:s.heap.get? f=some o) (hd:o.data=.func fd)
  (h:Q true s):wpAny M A (borrowsExactly (.ref r)) Q E s:=by
 unfold borrowsExactly
 refine wpAny_bind (wpAny_load hr ?_)
 show wpAny _ _ (load f >>= _) _ _ _
 refine wpAny_bind (wpAny_load hf ?_)
 rw[hd]
 exact wpAny_pure h
def NR (F:FM) (o:Option PV) (v:Option Value):Prop:=match o with
 |some p=>∃ w,v=some w∧VRel F p w
 |none=>v=none
theorem C_iter2 (T:Top W){f a:Addr}{K:PV→Sig→Prop} (h:∀ I,Fresh σ I→K (.ref I) (σ.upd I (.citer (.bm f a) false))):C W k (.blt "iter") [.bm f a,.str []] [] [] σ K:=C2 fun v va vb A hA s hs hpat=>by
 obtain ⟨e,⟨r,e1,fr⟩,t,e2⟩:=hpat
 obtain rfl:v=.builtin "iter":=e
 subst e1 e2
 refine Calls.call_function_entry (by decide +kernel) (by decide +kernel) ci_entry_iterf (ci_args_iterf _ _) ?_
 unfold Builtin.«iter»
 refine wpAny_bind (m:=someArgs "iter" 1 2 _) (wpAny_of_eq (a:=[Value.ref r,.str ⟨#[]⟩ t]) (by first |rfl |kernel_rfl) ?_)
 show wpAny _ _ (specialOf (.ref r) "__call__" >>= _) _ _ _
 refine wpAny_bind (wpAny_specialOf ⟨_,fr.2.1,rfl⟩ ci_method_call ?_)
 show wpAny _ _ (rule "iter.sentinel" >>= _) _ _ _
 refine wpAny_bind (wpAny_rule ?_)
 show wpAny _ _ (do ret (← newFields "callable_iterator" [.ref r,.str ⟨#[]⟩ t,.bool false])) _ _ _
 refine wpAny_bind (wpAny_newObj_type (wpAny_pure ⟨_,rfl,?_⟩))
 have F1:=fle_push_upd (σ:=σ) (h:=s.heap) (o:=citerObj (.ref r) t false) (ao:=.citer (.bm f a) false)
 exact⟨.ref s.heap.objs.size,_,hs.pushUpd (citerObj (.ref r) t false) (.citer (.bm f a) false) ⟨.ref r,t,Heap.get?_push_size _ rfl,r,rfl,F1 _ _ fr⟩,F1,(Eq.refl _:Value.ref _=Value.ref _),h _ hs.fresh⟩
abbrev NX (W:Wd) (k:Nat) (I:Addr) (σ:Sig) (K:Option PV→Sig→Prop):Prop:=G W k PT NR (pyNext (.ref I)) σ K
theorem citer_self {prog:Program}{w:World}{A:Around}{E:Value→Shared→Prop}{s:Shared}{I:Addr}{o:Obj} (ho:s.heap.get? I=some o) (hc:o.cls=.type "callable_iterator"){Q:Value→Shared→Prop} (h:Q (.ref I) s):wpAny (model prog w) A (pyIter (.ref I)) Q E s:=by
 have hT:s.TypeIs (.ref I) "callable_iterator":=⟨_,ho,hc⟩
 refine wpAny_pyIter_slot hT ci_slot_iter (wpAny_call_entry ci_slot_iter hT ci_entry_iter ?_ (ci_args_iter _))
 show wpAny _ _ (ret (.ref I)) _ _ s
 exact wpAny_pure ⟨_,rfl,"callable_iterator",_,hT,ci_slot_next.lookup,h⟩
theorem isSub_stop:isSubtype (.type "StopIteration") (.type "StopIteration")=pure true:=by rw[isSubtype_type];kernel_rfl
theorem stop_end {prog:Program}{w:World}{A:Around}{E:Value→Shared→Prop}{s:Shared}{Q:Option Value→Shared→Prop}{α:Type}{Qx:α→Shared→Prop} (hh:A.handled=none) (h:∀ h',SLe s.heap h'→Q none { s with heap:=h' }) :
  wpAny (model prog w) A.in1 (Builtin.SmallTypes.stopIteration:Sem α) Qx (fun e s'=>wpAny (model prog w) A (do if ← isInstance e (.type "StopIteration") then Pure.pure none else throw e) Q E s') s:=by
 unfold Builtin.SmallTypes.stopIteration
 show wpAny _ _ (newExc (.type "StopIteration") [] >>= _) _ _ _
 refine wpAny_bind ?_
 simp only[newExc,newTuple]
 refine wpAny_bind (wpAny_newObj_type ?_ (by size_fits))
 refine wpAny_bind (m:=firstArgMember _ _) (wpAny_of_eq (a:=Value.none) (by first |rfl |(simp only[firstArgMember];rfl)) ?_)
 refine wpAny_newObj_type ?_ (by size_fits)
 simp only[raiseNew]
 refine wpAny_bind (wpAny_handled ?_)
 rw[show A.in1.handled=none from hh]
 refine wpAny_bind (wpAny_pure (wpAny_throw ?_))
 refine wpAny_bind (wpAny_isInstance (T:="StopIteration") (b:=true) ⟨_,Heap.get?_push_size _ rfl,rfl⟩ isSub_stop ?_)
 exact wpAny_pure (h _ (sle_push.trans sle_push))
theorem NX_done (T:Top W){I:Addr}{p:PV}{K:Option PV→Sig→Prop} (hσ:σ I=some (.citer p true)) (h:K none σ):NX W k I σ K:=fun A hA s hs hP=>by
 refine e2_2 (hs.hr _ _ hσ) ?_;intro v t ho r
 have hT:s.TypeIs (.ref I) "callable_iterator":=⟨_,ho,rfl⟩
 unfold pyNext
 refine wpAny_bind (wpAny_attempt (wpAny_callSpecial?_slot (name:=Str.ofString "__next__") hT ci_slot_next (wpAny_call_entry ci_slot_next hT ci_entry_next ?_ (ci_args_next _))))
 show wpAny _ _ (field (.ref I) 2 >>= _) _ _ s
 refine wpAny_bind (wpAny_field ho rfl (x:=.bool true) rfl ?_)
 dsimp only
 rw[if_pos (beq_self_eq_true _)]
 refine wpAny_bind (wpAny_rule (wpAny_bind ?_))
 exact stop_end hA.1 fun h' hk=>⟨none,σ,hs.grow T (tk:=s.toks) hk,fle_grow hk,(Eq.refl _:(none:Option Value)=none),h⟩
theorem wgen {α:Type}{M:Model}{A:Around}{t:Sem α}{Q:α→Shared→Prop}{E:Value→Shared→Prop}{s:Shared} (h:∀ Q',(∀ v s',Q v s'→Q' v s')→wpAny M A t Q' E s):wpAny M A t Q E s:=h Q fun _ _ x=>x
theorem NX_call (T:Top W){I f a:Addr}{o:Obj}{fd:FuncData}{K:Option PV→Sig→Prop} (hf:W.h₁.get? f=some o) (hc:o.cls ≠ .none) (hd:o.data=.func fd) (hσ:σ I=some (.citer (.bm f a) false))
  (h:CC W k (.ref f) [.ref a] [] [] σ fun p σ'=>∃ x,p=.str x∧σ' I=some (.citer (.bm f a) false)∧if x=[] then K none (σ'.upd I (.citer .none true)) else K (some (.str x)) σ'):NX W (k+1) I σ K:=fun A hA s hs hP=>by
 refine wgen fun Q' hQ=>?_
 obtain ⟨v,t,ho,r,rfl,fr⟩:=hs.hr _ _ hσ
 have hT:s.TypeIs (.ref I) "callable_iterator":=⟨_,ho,rfl⟩
 unfold pyNext
 refine wpAny_bind (wpAny_attempt (wpAny_callSpecial?_slot (name:=Str.ofString "__next__") hT ci_slot_next (wpAny_call_entry ci_slot_next hT ci_entry_next ?_ (ci_args_next _))))
 show wpAny _ _ (field (.ref I) 2 >>= _) _ _ s
 refine wpAny_bind (wpAny_field ho rfl (x:=.bool false) rfl ?_)
 dsimp only
 rw[if_neg (by intro z;cases z)]
 refine wpAny_bind (wpAny_field ho rfl (x:=.ref r) rfl (wpAny_bind (wpAny_attempt ?_)))
 unfold callOutOfASlot
 refine wpAny_bind (borrows_bm fr.2.1 (hs.base hf hc).2.1 hd ?_)
 rw[if_pos rfl]
 refine wpAny_callBorrowed (method_call fr.2.1 ?_)
 refine codeAny_mono (h (.ref f) [.ref a] [] A.in1 hA.in1 s hs (Eq.refl _:Value.ref f=Value.ref f) (VRels.one (Eq.refl _:Value.ref a=Value.ref a)) rfl) fun res s₁ z=>?_
 unfold CPost at z
 cases res with
 |error e=>exact z.elim
 |ok fl =>
 cases fl with
 |next=>exact z.elim
 |brk=>exact z.elim
 |cont=>exact z.elim
 |ret v =>
  obtain ⟨p,σ₁,a1,a2,a3,x,a4,a5,a6⟩:=z
  subst a4
  refine e1_1 a3 ?_;try clear a3;intro t₁ zz1;subst zz1
  obtain ⟨w,t₂,ho₁,r₁,rfl,fr₁⟩:=a1.hr _ _ a5
  dsimp only
  refine wpAny_bind (wpAny_field ho₁ rfl (x:=.bool false) rfl ?_)
  rw[if_neg (by intro z;cases z)]
  refine wpAny_bind (wpAny_field ho₁ rfl (x:=.str ⟨#[]⟩ t₂) rfl (wpAny_bind (wpAny_holding (wpAny_eqBool_str ?_))))
  by_cases hx:x=[]
  ·subst hx
   rw[if_pos rfl] at a6
   rw[show decide ((⟨#[]⟩:Str)=⟨([]:List Nat).toArray⟩)=true from rfl]
   refine wpAny_bind (wpAny_rule (wpAny_bind ?_))
   show wpAny _ _ (field (.ref I) 0 >>= _) _ _ _
   refine wpAny_bind (wpAny_field ho₁ rfl (x:=.ref r₁) rfl ?_)
   unfold slotLetsGo
   refine wpAny_bind ?_
   refine wpAny_bind (borrows_bm fr₁.2.1 (a1.base hf hc).2.1 hd ?_)
   rw[if_pos rfl]
   refine wpAny_pure ?_
   refine wpAny_bind (wpAny_setField ho₁ rfl (by show _<3;decide) ?_)
   have q1:=Heap.get?_update_self (Obj.mapFields (·.setIfInBounds 0 .none)) ho₁ rfl
   refine wpAny_bind (wpAny_setField q1 rfl (by show _<3;decide) ?_)
   have q2:=Heap.get?_update_self (Obj.mapFields (·.setIfInBounds 1 .none)) q1 rfl
   refine wpAny_setField q2 rfl (by show _<3;decide) ?_
   have q3:=Heap.get?_update_self (Obj.mapFields (·.setIfInBounds 2 (.bool true))) q2 rfl
   have hsb:=((Heap.SameBut.update s₁.heap I (Obj.mapFields (·.setIfInBounds 0 .none))).trans (Heap.SameBut.update _ I (Obj.mapFields (·.setIfInBounds 1 .none)))).trans (Heap.SameBut.update _ I (Obj.mapFields (·.setIfInBounds 2 (.bool true))))
   have hne:σ₁ I≠none:=by rw[a5];simp
   have F3:=fle_upd (ao:=.citer .none true) hne hsb
   have S3:=a1.update (ao:=.citer .none true) (tk:=s₁.toks) T.lim a5 (fun b z=>by cases z) hsb ⟨.none,0,q3,(Eq.refl _:Value.none=Value.none)⟩
   exact stop_end hA.1 fun h' hk=>hQ _ _ ⟨none,_,S3.grow T (tk:=s₁.toks) hk,(a2.trans F3).trans (fle_grow hk),(Eq.refl _:(none:Option Value)=none),a6⟩
  ·rw[if_neg hx] at a6
   rw[show decide ((⟨#[]⟩:Str)=⟨x.toArray⟩)=false from decide_eq_false (by simpa using hx)]
   exact wpAny_pure ⟨_,rfl,wpAny_pure (hQ _ _ ⟨some (.str x),σ₁,a1,a2,⟨_,rfl,t₁,rfl⟩,a6⟩)⟩
theorem setItem_listOf {prog:Program}{w:World}{A:Around}{E:Value→Shared→Prop}{s:Shared}{l:Addr}{items:Array Value}{n:Nat}{k:Int}{t:Tok}{v:Value}{Q:Unit→Shared→Prop} (ho:s.heap.get? l=some (listOf items n))
  (h0:0≤k) (hfit:k<2^63) (hn:k<items.size)
  (hQ:∀ h' n',h'.get? l=some (listOf (items.setIfInBounds k.toNat v) n')→Heap.SameBut l s.heap h'→Q () { s with heap:=h' }) :
  wpAny (model prog w) A (setItem (.ref l) (.int k t) v) Q E s:=by
 have hl:s.heap.IsList l items:=⟨_,ho,rfl,n,rfl⟩
 unfold setItem
 try with_reducible refine wpAny_holding ?_
 first |refine wpAny_bind (wpAny_pure ?_) |skip
 refine wpAny_bind (wpAny_sequenceKey hl.typeIs (by decide) ?_)
 refine wpAny_bind (wpAny_callSpecial?_slot (name:=Str.ofString "__setitem__") hl.typeIs slot_list_setitem
  (wpAny_call_entry slot_list_setitem hl.typeIs entry_list_setitem ?_ (args_list_setitem _ _ _)))
 show wpAny _ _ (Builtin.List.listSubscript? (.int k t) >>= _) _ _ s
 refine wpAny_bind (wpAny_listSubscript_int (fitsIndex_of h0 hfit) ?_)
 clear hfit
 refine e1_1 (Int.eq_ofNat_of_zero_le h0) ?_;intro j zz1;subst zz1
 have hj:j<items.size:=by lia
 have hx':items[j]? = some items[j]:=Array.getElem?_eq_getElem hj
 show wpAny _ _ ((seqItemAt l j >>= fun r=>pure (r.map (j,·))) >>= _) _ _ s
 refine wpAny_bind (wpAny_bind (wpAny_seqItemAt ho rfl (wpAny_pure ?_)))
 rw[hx']
 show wpAny _ _ (setSeqItemAt l j v >>= _) _ _ s
 have hm:∃ n',Obj.mapSeq (·.setIfInBounds j v) (listOf items n)=listOf (items.setIfInBounds j v) n':=⟨_,by simp only[Obj.mapSeq];rfl⟩
 refine e1_1 hm ?_;try clear hm;intro n' hm
 have hfin:(s.heap.update l (Obj.mapSeq (·.setIfInBounds j v))).get? l=some (listOf (items.setIfInBounds j v) n'):=by
  rw[Heap.get?_update_self _ ho (by rw[hm];rfl),hm]
 refine wpAny_bind (wpAny_setSeqItemAt ho rfl ?_)
 first
  |exact wpAny_bind (wpAny_pure (wpAny_pure ⟨.none,rfl,wpAny_pure (hQ _ n' hfin (Heap.SameBut.update ..))⟩))
  |exact wpAny_pure ⟨.none,rfl,wpAny_pure (hQ _ n' hfin (Heap.SameBut.update ..))⟩
theorem loopN_G (T:Top W){target:Expr}{body orelse:List Stmt}{I:Addr} (J:Nat→Sig→Prop){K:AFlow→Sig→Prop}
  (turn:∀ n σ,J n σ→(∃ p b,σ I=some (.citer p b))∧NX W k I σ fun o σ'=>match o with
   |none=>XS W k env orelse σ' K
   |some p=>(∃ p b,σ' I=some (.citer p b))∧O1 W k REq (fun v=>assign target env v) p σ' fun _ σ''=>XS W k env body σ'' fun fl σ₃=>match fl with | .next | .cont=>∃ m,m<n∧J m σ₃ | .brk=>K .next σ₃ | .ret r=>K (.ret r) σ₃)
  {F₀:FM}:∀ A,Room A k→∀ n s,(∃ σ,St W σ s∧FLe F₀ (FrOf σ s)∧J n σ) →
   codeAny (model W.prog W.w) A (.forLoop target (.ref I) body orelse env) (fun r s'=>match r with | .ok f=>∃ fl σ',St W σ' s'∧FLe F₀ (FrOf σ' s')∧LRel (FrOf σ' s') fl f∧K fl σ' | .error _=>False) s:=fun A hA n s hI=>by
 refine codeAny_forLoop_any (fun n s=>∃ σ,St W σ s∧FLe F₀ (FrOf σ s)∧J n σ) (fun n s hI=>?_) n hI
 refine e1_3 hI ?_;try clear hI;intro σ S hF hJ
 refine e0_2 (turn n σ hJ) ?_;intro _ t2
 refine G.use t2 A hA s S trivial (fun o s₁ op σ₁ a1 a2 a3 a4=>?_) fun _ _ x=>x.elim
 cases op with
 |none =>
  obtain rfl:o=none:=a3
  exact G.use a4 A hA s₁ a1 trivial (fun f s₂ fl σ₂ b1 b2 b3 b4=>⟨fl,σ₂,b1,(hF.trans a2).trans b2,b3,b4⟩) fun _ _ x=>x.elim
 |some p =>
  refine e1_2 a3 ?_;try clear a3;intro v zz1 hv;subst zz1
  refine e0_2 a4 ?_;try clear a4;intro zz1 t3;refine e2_1 zz1 ?_;clear zz1;intro p' b' hc
  refine e2_2 (a1.hr _ _ hc) ?_;intro w t ho _
  refine own_plain ho (n:="callable_iterator") rfl rfl ?_
  refine G.use (t3 v) A hA s₁ a1 hv (fun _ s₂ _ σ₂ b1 b2 b3 b4=>?_) fun _ _ x=>x.elim
  refine G.use b4 A hA s₂ b1 trivial (fun f s₃ fl σ₃ c1 c2 c3 c4=>?_) fun _ _ x=>x.elim
  have hF3:=((hF.trans a2).trans b2).trans c2
  cases fl with
  |next=>cases c3;refine e1_2 c4 ?_;try clear c4;intro m hm hj;exact⟨m,hm,σ₃,c1,hF3,hj⟩
  |cont=>cases c3;refine e1_2 c4 ?_;try clear c4;intro m hm hj;exact⟨m,hm,σ₃,c1,hF3,hj⟩
  |brk=>cases c3;exact⟨.next,σ₃,c1,hF3,rfl,c4⟩
  |ret r=>refine e1_2 c3 ?_;try clear c3;intro w zz1 hr;subst zz1;exact⟨.ret r,σ₃,c1,hF3,⟨w,rfl,hr⟩,c4⟩
theorem X_ForIt (T:Top W){target iter:Expr}{body orelse:List Stmt}{pos:Pos}{I:Addr} (J:Nat→Sig→Prop) (n:Nat){K:AFlow→Sig→Prop}
  (h:E W k env iter σ fun q σ₁=>q=.ref I∧(∃ p b,σ₁ I=some (.citer p b))∧J n σ₁)
  (turn:∀ n σ,J n σ→(∃ p b,σ I=some (.citer p b))∧NX W k I σ fun o σ'=>match o with
   |none=>XS W k env orelse σ' K
   |some p=>(∃ p b,σ' I=some (.citer p b))∧O1 W k REq (fun v=>assign target env v) p σ' fun _ σ''=>XS W k env body σ'' fun fl σ₃=>match fl with | .next | .cont=>∃ m,m<n∧J m σ₃ | .brk=>K .next σ₃ | .ret r=>K (.ret r) σ₃)
  (hfold:autoParam (∀ x,foldedSetIterable iter env x=Pure.pure x) tI):X W k env (.For target iter body orelse pos) σ K:=fun A hA s hs hP=>by
 show wpAny _ A (do
  standAt pos
  let x ← foldedSetIterable iter env (← eval iter env)
  standAt iter.pos
  runOwn (.forLoop target (← holding [x] (pyIter x)) body orelse env) env) _ _ s
 refine wpAny_bind (wpAny_standAt (wpAny_bind (wpAny_mono (h A hA s hs trivial) (fun v s₁ hpat=>?_) fun _ _ x=>x)))
 refine e2_6 hpat ?_;try clear hpat;intro q σ₁ a1 a2 a3 a4 zz1 a6;refine e2_1 zz1 ?_;clear zz1;intro p b a5
 subst a4
 obtain rfl:v=.ref I:=a3
 refine e2_2 (a1.hr _ _ a5) ?_;intro w t ho _
 rw[hfold]
 refine wpAny_bind (wpAny_pure (wpAny_bind (wpAny_standAt (wpAny_bind (wpAny_holding (citer_self ho rfl ?_))))))
 refine wpAny_runOwn (codeAny_mono (loopN_G T J turn (F₀:=FrOf σ₁ s₁) A hA n _ ⟨σ₁,a1,FLe.refl _,a6⟩) fun r s' hr=>?_)
 cases r with
 |ok f=>refine e2_4 hr ?_;try clear hr;intro fl σ' b1 b2 b3 b4;exact⟨fl,σ',b1,a2.trans b2,b3,b4⟩
 |error e=>exact hr.elim
theorem X_AssignSub {o i value:Expr}{pos pos':Pos}{K:AFlow→Sig→Prop} (h:E W k env value σ fun p σ₁=>E W k env o σ₁ fun q σ₂=>E W k env i σ₂ fun j σ₃=>∀ v w u,G W k (fun F=>VRel F q v∧VRel F j w∧VRel F p u) REq (setItem v w u) σ₃ fun _ σ₄=>K .next σ₄)
  (hs:autoParam (swapsWith value (some (.Subscript o i pos')) pos.line env=Pure.pure false) tR):X W k env (.Assign [.Subscript o i pos'] value pos) σ K:=fun A hA s hs' hP =>
 wpAny_Assign_Subscript (G.use h A hA s hs' hP (fun u s₁ p σ₁ a1 a2 a3 a4=>G.use a4 A hA s₁ a1 trivial (fun v s₂ q σ₂ b1 b2 b3 b4=>G.use b4 A hA s₂ b1 trivial (fun w s₃ j σ₃ c1 c2 c3 c4 =>
  G.use (c4 v w u) A hA s₃ c1 ⟨b3.mono c2,c3,a3.mono (b2.trans c2)⟩ (fun _ s₄ _ σ₄ d1 d2 d3 d4=>⟨.next,σ₄,d1,((a2.trans b2).trans c2).trans d2,rfl,d4⟩) fun _ _ x=>x) fun _ _ x=>x) fun _ _ x=>x) fun _ _ x=>x) hs
theorem set_ref (T:Top W){a:Addr}{l:List PV}{i:Int}{p:PV}{K:Unit→Sig→Prop} (hσ:σ a=some (.list l)) (h0:0≤i) (h1:i<l.length) (h2:i<2^62) (h:K () (σ.upd a (.list (l.set i.toNat p)))) :
  ∀ v w u,G W k (fun F=>VRel F (.ref a) v∧VRel F (.int i) w∧VRel F p u) REq (setItem v w u) σ K:=fun v w u A hA s hs hpat=>by
 refine e0_3 hpat ?_;try clear hpat;intro e1 zz1 e3;refine e1_1 zz1 ?_;clear zz1;intro t e2
 obtain rfl:v=.ref a:=e1
 subst e2
 refine e2_2 (hs.hr _ _ hσ) ?_;intro vs n ho r
 have hl:=r.length
 rw[Array.length_toList] at hl
 have hne:σ a≠none:=by rw[hσ];simp
 refine setItem_listOf ho h0 (by lia) (by lia) fun h' n' hg hsb=>?_
 have F1:FLe (Fz σ s.heap) (Fz (σ.upd a (.list (l.set i.toNat p))) h'):=fle_upd hne hsb
 refine⟨(),_,hs.update (ao:=.list (l.set i.toNat p)) (tk:=s.toks) T.lim hσ (fun b q=>by cases q) hsb ⟨_,n',hg,?_⟩,F1,rfl,h⟩
 rw[Array.toList_setIfInBounds]
 exact(r.mono F1).set (VRel.mono F1 e3)
abbrev jT2 (W:Wd) (k:Nat) (name:Str) (p:PV) (K:AFlow→Sig→Prop) (q:PV) (σ:Sig):Prop:=SA W k name q p σ (jN K)
abbrev jT1 (W:Wd) (k:Nat) (env:Env) (o:Expr) (name:Str) (K:AFlow→Sig→Prop) (p:PV) (σ:Sig):Prop:=E W k env o σ (jT2 W k name p K)
theorem X_AssignAttr {o value:Expr}{name:Str}{pos pos':Pos}{K:AFlow→Sig→Prop} (h:E W k env value σ (jT1 W k env o name K))
  (hs:autoParam (swapsWith value (some (.Attribute o name pos')) pos.line env=Pure.pure false) tR):X W k env (.Assign [.Attribute o name pos'] value pos) σ K:=fun A hA s hs' hP =>
 plainObj_wpAny_Assign_Attribute (G.use h A hA s hs' hP (fun u s₁ p σ₁ a1 a2 a3 a4=>G.use a4 A hA s₁ a1 trivial (fun v s₂ q σ₂ b1 b2 b3 b4 =>
  G.use (b4 v u) A hA s₂ b1 ⟨b3,a3.mono b2⟩ (fun _ s₄ _ σ₄ d1 d2 d3 d4=>⟨.next,σ₄,d1,(a2.trans b2).trans d2,rfl,d4⟩) fun _ _ x=>x) fun _ _ x=>x) fun _ _ x=>x) hs
theorem X_AugAttr {o value:Expr}{name:Str}{op:Operator}{pos pos':Pos}{K:AFlow→Sig→Prop} (h:E W k env o σ fun q σ₁=>OA W k name q σ₁ fun a σ₂=>E W k env value σ₂ fun b σ₃=>O2 W k VRel (inplaceOp op) a b σ₃ fun p σ₄=>SA W k name q p σ₄ fun _ σ₅=>K .next σ₅) :
  X W k env (.AugAssign (.Attribute o name pos') op value pos) σ K:=fun A hA s hs' hP =>
 wpAny_AugAssign_AttributeAny (G.use h A hA s hs' hP (fun u s₁ p σ₁ a1 a2 a3 a4=>G.use (a4 u) A hA s₁ a1 a3 (fun v s₂ q σ₂ b1 b2 b3 b4=>G.use b4 A hA s₂ b1 trivial (fun w s₃ j σ₃ c1 c2 c3 c4 =>
  G.use (c4 v w) A hA s₃ c1 ⟨b3.mono c2,c3⟩ (fun z s₄ y σ₄ d1 d2 d3 d4=>G.use (d4 u z) A hA s₄ d1 ⟨a3.mono ((b2.trans c2).trans d2),d3⟩ (fun _ s₅ _ σ₅ e1 e2 e3 e4 =>
   ⟨.next,σ₅,e1,(((a2.trans b2).trans c2).trans d2).trans e2,rfl,e4⟩) fun _ _ x=>x) fun _ _ x=>x) fun _ _ x=>x) fun _ _ x=>x) fun _ _ x=>x)
structure TabTop (W:Wd) (c:Addr):Prop where
 hd:CodeHd W.h₁ c W.tP
 hp:W.h₁.get? W.tP=some (tabObj #[])
 hb:W.h₁.BuiltinsAt W.mg W.tP
 ns:W.tP≠cStatics
 ng:mainGlobals≠W.tP
theorem fle_tab {W:Wd}{σ:Sig}{s:Shared} (S:St W σ s){h':Heap} (hx:Heap.ExtBut W.tP s.heap h'):FLe (Fz σ s.heap) (Fz σ h'):=fun a o hpat=>by
 refine e0_3 hpat ?_;try clear hpat;intro e1 e2 e3
 refine⟨e1,hx a o (fun q=>?_) e2,e3⟩
 obtain ⟨_,ps,h1,_⟩:=S.tab
 rw[q,h1] at e2;cases e2;exact e3 rfl
theorem St.tabStep {W:Wd}{σ:Sig}{s:Shared} (S:St W σ s) (T:Top W){h':Heap} (hx:Heap.ExtBut W.tP s.heap h') (ho:OldK W.h₁ h') (ht:TabInv W (Fz σ h') h') (hns:W.tP≠cStatics){tk:Nat} (htk:1≤tk:=by l_fit):St W σ { s with heap:=h',toks:=tk }:=by
 have F:=fle_tab S hx
 have ne:∀ a,σ a≠none→a≠W.tP:=fun a q=>(S.tab_ne q).symm
 have keep:∀ a,a≠W.tP→(∃ o,s.heap.get? a=some o)→h'.get? a=s.heap.get? a:=fun a q ⟨o,e⟩=>by rw[e];exact hx a o q e
 refine⟨fun a ao e=>(S.hr a ao e).keep F (keep a (ne a (by rw[e];simp)) (S.hr a ao e).there) fun C d fs n z=>?_,ho,S.above,?_,?_,S.os,S.gens,htk,ht⟩
 ·refine e0_2 (S.dict_there (z▸e)) ?_;intro z1 z2
  exact⟨keep d (ne d (by rw[z1];simp)) z2,rfl⟩
 ·refine e1_1 (T.last) ?_;intro o' ho'
  refine e1_1 (ho.there _ _ ho') ?_;intro o'' ho''
  have h1:(W.h₁.objs.size-1:Nat)<h'.objs.size:=Heap.lt_size ho''
  have h2:(W.h₁.objs.size-1:Nat)<W.h₁.objs.size:=Heap.lt_size ho'
  show W.h₁.objs.size≤h'.objs.size
  exact Nat.le_of_pred_lt h1
 ·refine e1_2 (S.lim) ?_;intro mc hn r
  exact⟨mc,Ns.of_get hn (keep _ (Ne.symm hns) (let ⟨o,_,_,e,_⟩:=hn;⟨o,e⟩)),r⟩
noncomputable def Sig.dels (σ:Sig) (as:List Addr):Sig:=fun b=>if as.contains b then none else σ b
theorem sub_dels {s:Shared} (S:St W σ s){as:List Addr} (hc:∀ a∈as,∃ p,σ a=some (.cell p)):Sub (σ.dels as) σ:=by
 refine⟨fun b o e=>?_,fun b C d fs n e=>?_⟩
 ·unfold Sig.dels at e;split at e
  ·cases e
  ·exact e
 ·unfold Sig.dels at e;split at e
  ·cases e
  ·have hd:=(S.dict_there e).1
   unfold Sig.dels
   rw[if_neg]
   ·exact hd
   ·intro z
    refine e1_1 (hc d (by simpa using z)) ?_;intro p hp
    rw[hp] at hd;cases hd
def CellsAre (σ:Sig):List (Str×PV)→List (Str×Addr)→Prop
 |[],cl=>cl=[]
 |(x,p)::l,cl=>∃ c r,cl=(x,c)::r∧σ c=some (.cell (some p))∧CellsAre σ l r
theorem CellsAre.all:∀ {l:List (Str×PV)}{cl:List (Str×Addr)},CellsAre σ l cl→∀ a∈cl.map (·.2),∃ p,σ a=some (.cell p)
 |[],_,h,a,ha=>by rw[show _=[] from h] at ha;cases ha
 |(x,p)::l,_,h,a,ha=>by
  refine e2_3 h ?_;try clear h;intro c r zz1 e h;subst zz1
  rcases List.mem_cons.mp ha with rfl |ha
  ·exact⟨_,e⟩
  ·exact CellsAre.all h a ha
theorem CellsAre.crels {s:Shared} (S:St W σ s){as:List Addr}{F:FM} (hF:∀ a o,Fz (σ.dels as) s.heap a o→F a o) (hs:FLe (Fz σ s.heap) (Fz (σ.dels as) s.heap)):∀ {l:List (Str×PV)}{cl:List (Str×Addr)},(∀ a∈cl.map (·.2),a∈as)→CellsAre σ l cl→CRels F l cl
 |[],_,_,h=>h
 |(x,p)::l,_,ha,h=>by
  refine e2_3 h ?_;try clear h;intro c r zz1 e h;subst zz1
  obtain ⟨o,v,ho,hc,hd,w,rfl,rw⟩:=S.hr _ _ e
  refine⟨c,o,w,r,rfl,hF _ _ ⟨?_,ho,by rw[hc];intro z;cases z⟩,hc,hd,(rw.mono hs).mono hF,CellsAre.crels S hF hs (fun a h'=>ha a (List.mem_cons_of_mem _ h')) h⟩
  unfold Sig.dels
  rw[if_pos]
  simpa using ha c (by simp)
theorem X_Def (T:Top W){c:Addr} (TT:TabTop W c){name:Str}{params:Arguments}{body:List Stmt}{scope:Scope}{pos:Pos}{q₀:Str×Addr}{cr:List (Str×Addr)}{cs:List (Str×PV)}{K:AFlow→Sig→Prop}
  (hd0:params.defaults=[]) (hk0:params.kw_defaults=[]) (ha:annTrees params none env=[]) (hcl:closureFor scope env=Pure.pure (q₀::cr)) (hge:env.globals=mainGlobals) (hcode:env.code=.ref c)
  (hpos:pos=W.tpos) (hq:qualnameIn env name name=W.tq) (hdoc:docOf body=none) (hcs:CellsAre σ cs (q₀::cr))
  (h:O1 W k REq (storeName env name) (.clo name W.tq params body scope cs) (σ.dels ((q₀::cr).map (·.2))) fun _ σ'=>K .next σ'):X W k env (.FunctionDef name params body [] none [] scope none name pos) σ K:=fun A hA s hs hP=>by
 refine wgen fun Q' hQ=>?_
 refine nestDef_K hd0 hk0 ha ?_
 rw[makeFunction_eq]
 simp only[List.zip_nil_right,List.filterMap_nil,List.isEmpty_nil,if_true,pure_bind]
 rw[hq]
 refine e2_8 (TT.hb) ?_;intro bm ob hbm hne0 hng hneP hbo hcls hdict hdata
 have hbo:s.heap.get? bm=some ob:=hs.old.get_of_cls hbo (by rw[hcls];intro z;cases z)
 have C:CodeHd s.heap c W.tP:=by
  obtain ⟨o,vs,file,tf,flags,tg,inF,text,tt,e,ec,r⟩:=TT.hd
  exact⟨o,vs,file,tf,flags,tg,inF,text,tt,hs.old.get_of_cls e (by rw[ec];intro z;cases z),ec,r⟩
 have hg:=hs.globN T
 have hsub:=sub_dels hs hcs.all
 have fin:∀ (ct doc:Value) (c':Addr) (oc:Obj) (vs:Array Value) (t:Tok) (h':Heap) (tk:Nat),St W σ { s with heap:=h',toks:=tk }→FLe (Fz σ s.heap) (Fz σ h')→Fz σ h' c' oc→oc.cls=.type "code"→oc.data=.fields vs→vs[1]? = some (.str W.tq t) →
   wpAny (model W.prog W.w) A (storeName env name (.ref h'.objs.size)) (fun _ s''=>Q' .next s'') (fun _ _=>False)
    { s with heap:=h'.push { cls:=.type "function",data:=.func (fnX name W.tq params body scope (q₀::cr) .none .none doc ((W.mg "__name__").getD .none) none (.ref c') ct) },toks:=tk }:=fun ct doc c' oc vs t h' tk S' F' fc e1 e2 e3=>by
  have S2:=S'.push { cls:=.type "function",data:=.func (fnX name W.tq params body scope (q₀::cr) .none .none doc ((W.mg "__name__").getD .none) none (.ref c') ct) }
  have hs2:=sub_dels S2 hcs.all
  have S3:=S2.sub hs2
  have F3:=fle_sub (h:=h'.push { cls:=.type "function",data:=.func (fnX name W.tq params body scope (q₀::cr) .none .none doc ((W.mg "__name__").getD .none) none (.ref c') ct) }) hs2
  refine G.use (h (.ref h'.objs.size)) A hA _ S3 ?_ (fun _ s'' _ σ' b1 b2 b3 b4=>hQ _ _ ⟨.next,σ',b1,((F'.trans fle_push).trans F3).trans b2,rfl,b4⟩) fun _ _ x=>x
  refine⟨h'.objs.size,_,c',oc,vs,t,ct,doc,_,_,rfl,F3 _ _ (fz_new S' (by intro z;cases z)),rfl,rfl,F3 _ _ (fle_push _ _ fc),e1,e2,e3,?_⟩
  exact CellsAre.crels S2 (as:=(q₀::cr).map (·.2)) (fun a o z=>z) F3 (fun a z=>z) hcs
 obtain ⟨hkn,ps,hP0,hps⟩:=hs.tab
 have C1:∀ oT:Obj,CodeHd (s.heap.push oT) c W.tP:=fun oT=>C.keeps fun b o e=>Heap.get?_push_of_some _ e
 unfold makeTail
 rw[hcl,hge]
 refine wpAny_bind (wpAny_pure ?_)
 simp only[List.isEmpty_cons,Bool.false_eq_true,if_false]
 rcases hps with rfl |⟨c',oc,vs,t,rfl,fc,e1,e2,e3⟩
 ·refine wpAny_bind (wpAny_newTextTuple ?_)
  generalize ({ cls:=Value.type "tuple",data:=Data.seq _ }:Obj)=oT
  refine wpAny_bind (wpAny_tok (wpAny_functionCodeX hcode ((C1 _).code (Heap.get?_push_of_some _ hP0) trivial) ((C1 _).tab (Heap.get?_push_of_some _ hP0)) rfl fun c' h' tk hx hge' hlt _ hrec htb hnest (htk:s.toks≤tk)=>?_))
  have hg':=(hg.push oT).extBut hx TT.ng
  refine wpAny_bind (wpAny_builtinsFor hg' hbm hne0 (hx _ _ hneP (Heap.get?_push_of_some _ hbo)) hcls hdict hdata ?_)
  refine wpAny_bind (wpAny_nsGet hg' ?_)
  rw[hdoc]
  have S1:=hs.push oT
  refine e4_4 hrec ?_;try clear hrec;intro c₂ oc vs t ee hoc e2 e3
  cases ee
  refine e1_4 hnest ?_;try clear hnest;intro P' _ _ zz1 _;refine e2_4 zz1 ?_;clear zz1;intro o2 vs2 g1 g2 g3 g4
  rw[hoc] at g1
  cases g1
  have F2:=fle_tab S1 hx
  have fc:Fz σ h' c' oc:=⟨S1.fresh c' hge',hoc,by rw[g2];intro z;cases z⟩
  have S2:=S1.tabStep T (tk:=tk) hx (S1.old.step_table (TT.hd.tab TT.hp) ((C1 oT).tab (Heap.get?_push_of_some _ hP0)) htb hx TT.ns) ⟨W.knm (fun a o _ z=>F2 a o (fle_push a o z)) hkn,_,htb.2,.inr ⟨c',oc,vs,t,by rw[hpos];rfl,fc,g2,e2,e3⟩⟩ TT.ns (Nat.le_trans hs.tk htk)
  exact wpAny_bind (wpAny_pure (wpAny_newObj_type (fin _ .none c' oc vs t h' tk S2 (fle_push.trans F2) fc g2 e2 e3) (by size_fits)))
 ·refine wpAny_bind (wpAny_newTextTuple ?_)
  generalize ({ cls:=Value.type "tuple",data:=Data.seq _ }:Obj)=oT
  have S1:=hs.push oT
  have hcA:codeAmong pos (#[rawInt W.tpos.line,rawInt W.tpos.col,Value.ref c']).toList=some (.ref c'):=by
   subst hpos
   show(if ((W.tpos.line:Int)==(W.tpos.line:Int)&&(W.tpos.col:Int)==(W.tpos.col:Int))=true then _ else _)=_
   simp
  refine wpAny_bind (wpAny_functionCode_hit hcode ((C1 _).code (Heap.get?_push_of_some _ hP0) (by exact trivial)) hcA ?_)
  refine wpAny_bind (wpAny_builtinsFor (hg.push _) hbm hne0 (Heap.get?_push_of_some _ hbo) hcls hdict hdata ?_)
  refine wpAny_bind (wpAny_nsGet (hg.push _) ?_)
  rw[hdoc]
  exact wpAny_bind (wpAny_pure (wpAny_newObj_type (fin _ .none c' oc vs t _ s.toks S1 fle_push (fle_push _ _ fc) e1 e2 e3) (by size_fits)))
theorem L_freeK {x:Str}{p:PV}{cs:List (Str×PV)}{K:PV→Sig→Prop} (hk:env.scope.kind=.function) (hl:env.kindOf x=some .free) (hP:∀ F,W.kn F→CRels F cs env.cells) (hc:cs.lookup x=some p)
  (h:K p σ) (hn:autoParam ((x==("__classdict__":Str))=false) tD):G W k P VRel (loadName env x) σ K:=.id h fun A hA s hs hp Q q=>by
 refine e3_4 (crels_get (hP _ hs.tab.1) hc) ?_;intro c o v e f d r
 exact wpAny_loadName_free hk hl e ⟨o,f.2.1,d⟩ (q _ _ rfl rfl rfl r) hn
noncomputable def Wd.with (W:Wd) (cs:List (Str×PV)) (cl:List (Str×Addr)):Wd:={ W with kn:=fun F=>W.kn F∧CRels F cs cl,knm:=fun m h=>⟨W.knm m h.1,CRels.mono2 m h.2⟩ }
theorem Top.with (T:Top W) (cs:List (Str×PV)) (cl:List (Str×Addr)):Top (W.with cs cl):=⟨T.last,T.kin,T.kcls,T.lim,T.glob,T.globN,T.blt,T.bltN⟩
theorem St.with {s:Shared} (S:St W σ s){cs:List (Str×PV)}{cl:List (Str×Addr)} (h:CRels (FrOf σ s) cs cl):St (W.with cs cl) σ s:=⟨S.hr,S.old,S.above,S.sz,S.lim,S.os,S.gens,S.tk,⟨⟨S.tab.1,h⟩,S.tab.2⟩⟩
theorem St.without {s:Shared}{cs:List (Str×PV)}{cl:List (Str×Addr)} (S:St (W.with cs cl) σ s):St W σ s:=⟨S.hr,S.old,S.above,S.sz,S.lim,S.os,S.gens,S.tk,⟨S.tab.1.1,S.tab.2⟩⟩
theorem CC_clo {nm q:Str}{ps:Arguments}{body:List Stmt}{sc:Scope}{cs:List (Str×PV)}{args kv:List PV}{kn:List Str}{K:PV→Sig→Prop} (hco:sc.isCoroutine=false) (hgen:sc.isGenerator=false)
  (hb:∀ a c ct doc pm cl vs ws,G (W.with cs cl) k (fun F=>VRels F args vs∧VRels F kv ws) BRels (bindArgs (fnX nm q ps body sc cl .none .none doc pm none (.ref c) ct) ⟨vs,kn.zip ws⟩) σ fun bp σ₁=>∀ L,Fresh σ₁ L →
   SB (W.with cs cl) k (envFn (fnX nm q ps body sc cl .none .none doc pm none (.ref c) ct) cl L a) bp (cellsUpd (L+1) sc.names (σ₁.upd L (.frame fun _=>none)))
   fun σ₂=>XS (W.with cs cl) k (envFn (fnX nm q ps body sc cl .none .none doc pm none (.ref c) ct) cl L a) body σ₂ fun fl σ₃=>∃ σ₄,(σ₄=res L σ₃∨∀ s,St (W.with cs cl) σ₃ s→Sub σ₄ σ₃)∧K (retOf fl) σ₄):CC W (k+1) (.clo nm q ps body sc cs) args kn kv σ K:=fun v vs ws A hA s hs hv h1 h2=>by
 obtain ⟨a,o,c,oc,vs',t,ct,doc,pm,cl,rfl,f,hcl,hd,fc,e1,e2,e3,hr⟩:=hv
 have:=body_code (W:=W.with cs cl) (o:=o) (k:=k) (K:=K) (P:=fun F=>(F a o∧F c oc)∧VRels F args vs∧VRels F kv ws) (fd:=fnX nm q ps body sc cl .none .none doc pm none (.ref c) ct) (body:=body) (a:=a) (vs:=vs) (kw:=kn.zip ws) (σ:=σ)
  (fun F F' m x=>⟨⟨m _ _ x.1.1,m _ _ x.1.2⟩,VRels.mono m x.2.1,VRels.mono m x.2.2⟩) rfl hco hgen (fun s S x=>⟨x.1.1.2.1,hd,c,oc,vs',t,rfl,x.1.2.2.1,e2,e3⟩)
  ((hb a c ct doc pm cl vs ws).pre (fun F x=>x.2) |>.imp fun bp σ₁ x L hL=>(x L hL).imp fun _ y=>y.pre fun _ _=>trivial) A hA s (hs.with hr) ⟨⟨f,fc⟩,h1,h2⟩
 refine codeAny_mono this fun r s' z=>?_
 unfold CPost at z ⊢
 cases r with
 |error e=>exact z
 |ok fl=>cases fl with
  |ret v=>refine e2_2 z ?_;try clear z;intro b σ' a1 a2;exact⟨b,σ',a1.without,a2⟩
  |next=>exact z
  |brk=>exact z
  |cont=>exact z
theorem Room.tc {A:Around}{k:Nat}{C:Addr}{l:List Value}{kw:List (Str×Value)} (h:Room A (k+1)):Room (A.under (.builtin "type.__call__" ⟨.ref C::l,kw⟩)) k:=by
 have hw:(Code.builtin "type.__call__" ⟨.ref C::l,kw⟩).weight≤1:=by first |exact Nat.le_refl _ |exact Nat.zero_le _ |kernel_rfl
 have hu:(Code.builtin "type.__call__" ⟨.ref C::l,kw⟩).cUnits≤4:=by first |exact Nat.le_refl _ |(show 1≤4;decide) |(show 2≤4;decide) |(show 0≤4;decide)
 exact⟨h.1,by have:=h.2.1;show A.depth+(Code.builtin "type.__call__" ⟨.ref C::l,kw⟩).weight+k≤900;lia,by have:=h.2.2;show A.units+(Code.builtin "type.__call__" ⟨.ref C::l,kw⟩).cUnits+8*k≤9000;lia⟩
theorem CC_make (T:Top W){C fI:Addr}{args kv:List PV}{kn:List Str}{K:PV→Sig→Prop} (X:ClsIs W C) (hi:findIn W.K (.ref C) "__init__"=some (some (.ref fI))) (hf:typeIn W.K (.ref fI)=some (.type "function"))
  (h:∀ d,Fresh σ d→CC W k (.ref fI) (.ref (d+1)::args) kn kv ((σ.upd d (.part (d+1))).upd (d+1) (.inst C d (fun _=>none) 0)) fun p σ'=>p=.none∧K (.ref (d+1)) σ'):CC W (k+1) (.ref C) args kn kv σ K:=fun v vs ws A hA s hs hv h1 h2=>by
 obtain rfl:v=.ref C:=hv
 have S1:=hs.pushUpd emptyDict (.part (s.heap.objs.size+1)) ⟨_,Heap.get?_push_size _ rfl⟩
 have F1:=fle_push_upd (σ:=σ) (h:=s.heap) (o:=emptyDict) (ao:=.part (s.heap.objs.size+1))
 have hsz:(s.heap.push emptyDict).objs.size=s.heap.objs.size+1:=Heap.size_push ..
 have hget:((s.heap.push emptyDict).push (instObj C s.heap.objs.size)).get? s.heap.objs.size=some emptyDict:=Heap.get?_push_of_some _ (Heap.get?_push_size _ rfl)
 have S2:=S1.pushUpd (instObj C s.heap.objs.size) (.inst C s.heap.objs.size (fun _=>none) 0) (by
  show OR _ ((s.heap.push emptyDict).push (instObj C s.heap.objs.size)) (s.heap.push emptyDict).objs.size _
  refine⟨Heap.get?_push_size _ rfl,by rw[hsz];exact Nat.lt_succ_self _,?_,#[],0,hget,fun e he=>by simp at he,Nat.zero_le _,fun y=>rfl⟩
  rw[hsz]
  rw[upd_ne (Nat.ne_of_lt (Nat.lt_succ_self _)),upd_same])
 have F2:=fle_push_upd (σ:=σ.upd s.heap.objs.size (.part (s.heap.objs.size+1))) (h:=s.heap.push emptyDict) (o:=instObj C s.heap.objs.size) (ao:=.inst C s.heap.objs.size (fun _=>none) 0)
 rw[show({ s with heap:=s.heap.push emptyDict }:Shared).heap.objs.size=s.heap.objs.size+1 from hsz] at S2
 rw[hsz] at F2
 have F:=F1.trans F2
 have hkin:=hs.kin T
 obtain ⟨hh,g,d,t,os⟩:=s
 refine make_core (makes_of hkin X.mks) (looks_findIn hkin hi) (fun self=>bind_fn hkin self hf) (.inl rfl) ?_
 refine codeAny_mono (h hh.objs.size hs.fresh (.ref fI) (.ref (hh.objs.size+1)::vs) ws (A.under (.builtin "type.__call__" ⟨.ref C::vs,kn.zip ws⟩)) hA.tc _ S2 (Eq.refl _:Value.ref fI=Value.ref fI) ⟨_,_,rfl,(Eq.refl _:Value.ref _=Value.ref _),VRels.mono F h1⟩ (VRels.mono F h2)) fun r s' z=>?_
 unfold CPost at z
 cases r with
 |error e=>exact z.elim
 |ok fl=>cases fl with
  |ret v =>
   refine e2_5 z ?_;try clear z;intro b σ' a1 a2 a3 zz1 a5;subst zz1
   exact⟨a3,.ref (hh.objs.size+1),σ',a1,F.trans a2,(Eq.refl _:Value.ref _=Value.ref _),a5⟩
  |next=>exact z.elim
  |brk=>exact z.elim
  |cont=>exact z.elim
theorem KP_cls {C:Addr}{o:Obj}{cd:ClassData} (ho:W.h₁.get? C=some o) (hc:o.cls ≠ .none) (hd:o.data=.cls cd) (hs:∀ h:Heap,W.K.In h→Looks (model W.prog W.w) h (specialOf (.ref C) "__call__") (some (.builtin "type.__call__"))) (T:Top W):KP W .machine (.ref C) σ:=fun A hA s S v hv Q' q=>by
 obtain rfl:v=.ref C:=hv
 unfold keeperOf
 refine wpAny_bind (wpAny_load (S.base ho hc).2.1 ?_)
 rw[hd]
 refine wpAny_bind ((hs _ (S.kin T)).here (wpAny_pure ?_))
 exact q
structure TabF (W:Wd) (d:Addr) (f:Int→Option (List Nat)):Prop where
 lo:(d==sysModules)=false
 at_:∃ o,W.h₁.get? d=some o∧o.cls ≠ .none∧o.dict=none
 map:∃ g:Int→Option Value,W.h₁.MapOf (intKind W.prog W.w) d g∧∀ i,match f i with
  |some x=>∃ t,g i=some (.str (st x) t)
  |none=>g i=none
structure SetF (W:Wd) (d:Addr) (f:Int→Bool):Prop where
 at_:∃ o,W.h₁.get? d=some o∧o.cls ≠ .none
 set:∃ n,W.h₁.SetOf (intKind W.prog W.w) d f n
theorem TabF.here {d:Addr}{f:Int→Option (List Nat)} (t:TabF W d f){s:Shared} (S:St W σ s):∃ g:Int→Option Value,s.heap.MapOf (intKind W.prog W.w) d g∧∀ i,match f i with
  |some x=>∃ t,g i=some (.str (st x) t)
  |none=>g i=none:=by
 refine e1_3 (t.at_) ?_;intro o h1 h2 _
 refine e1_2 (t.map) ?_;intro g zz1 hg;refine e3_2 zz1 ?_;clear zz1;intro o' es ep e r
 rw[h1] at e;cases e
 exact⟨g,⟨o,es,ep,S.old.get_of_cls h1 h2,r⟩,hg⟩
theorem GM_tab {d:Addr}{f:Int→Option (List Nat)} (t:TabF W d f){K:PV×List PV→Sig→Prop} (h:K (.blt "dict.get",[.ref d]) σ):GM W k "get" (.ref d) σ K:=fun v pl=>.id h fun A hA s hs e Q q=>by
 obtain rfl:v=.ref d:=e
 refine e1_2 (t.here hs) ?_;intro g hm _
 refine e1_3 (t.at_) ?_;intro o h1 h2 h3
 exact getMethod_builtin hm.typeIs PySem.F.plainAttrs_dict PySem.F.slot_dict_get PySem.F.type_dict_get (fun a e=>by cases e;exact⟨o,hs.old.get_of_cls h1 h2,h3⟩) (q _ _ rfl rfl rfl ⟨(Eq.refl _:Value.builtin _=Value.builtin _),VRels.one (Eq.refl _:Value.ref d=Value.ref d)⟩)
theorem C_get1 {d:Addr}{f:Int→Option (List Nat)} (t:TabF W d f){i:Int}{K:PV→Sig→Prop} (h:K (match f i with |some x=>.str x |none=>.none) σ):C W k (.blt "dict.get") [.ref d,.int i] [] [] σ K:=C2 fun v va vb=>.id h fun A hA s hs hpat Q q=>by
 obtain ⟨e,e1,u,e2⟩:=hpat
 obtain rfl:v=.builtin "dict.get":=e
 obtain rfl:va=.ref d:=e1
 subst e2
 refine e1_2 (t.here hs) ?_;intro g hm hg
 refine call_meetsIn PySem.F.slot_dict_get hm.typeIs PySem.F.entry_dict_get (PySem.F.args_dict_get_2 _ _) (meets_dict_get (intKind W.prog W.w) d (k:=i) (by simp[intKind,Value.isInt]) t.lo) ⟨g,hm,q _ _ rfl rfl rfl ?_⟩
 have:=hg i
 cases e:f i with
 |none=>rw[e] at this;rw[show g i=none from this];exact(Eq.refl _:Value.none=Value.none)
 |some x=>rw[e] at this;refine e1_1 this ?_;try clear this;intro t' e';rw[e'];exact⟨t',rfl⟩
theorem C_get2 {d:Addr}{f:Int→Option (List Nat)} (t:TabF W d f){i:Int}{p:PV}{K:PV→Sig→Prop} (h:K (match f i with |some x=>.str x |none=>p) σ):C W k (.blt "dict.get") [.ref d,.int i,p] [] [] σ K:=fun v vs ws=>.id h fun A hA s hs hpat Q q=>by
 refine e0_3 hpat ?_;try clear hpat;intro e zz1 _;obtain ⟨va,r,e0,e1,vb,r',e0',⟨u,e2⟩,vc,r'',e0'',e3,e4⟩:=zz1
 obtain rfl:v=.builtin "dict.get":=e
 subst e0 e0' e0''
 obtain rfl:va=.ref d:=e1
 obtain rfl:r''=[]:=e4
 subst e2
 refine e1_2 (t.here hs) ?_;intro g hm hg
 refine call_meetsIn PySem.F.slot_dict_get hm.typeIs PySem.F.entry_dict_get (PySem.F.args_dict_get_3 _ _ _) (meets_dict_get_default (intKind W.prog W.w) d (k:=i) (by simp[intKind,Value.isInt]) t.lo vc) ⟨g,hm,q _ _ rfl rfl rfl ?_⟩
 have:=hg i
 cases e:f i with
 |none=>rw[e] at this;rw[show g i=none from this];exact e3
 |some x=>rw[e] at this;refine e1_1 this ?_;try clear this;intro t' e';rw[e'];exact⟨t',rfl⟩
theorem in_set {d:Addr}{f:Int→Bool} (t:SetF W d f){i:Int}{K:PV→Sig→Prop} (h:K (.bool (f i)) σ):O2 W k VRel (compareOp .In) (.int i) (.ref d) σ K:=fun va vb=>.id h fun A hA s hs hpat Q q=>by
 refine e0_2 hpat ?_;try clear hpat;intro zz1 e1;refine e1_1 zz1 ?_;clear zz1;intro u e
 subst e
 obtain rfl:vb=.ref d:=e1
 refine e1_2 (t.at_) ?_;intro o h1 h2
 refine e5_2 (t.set) ?_;intro n o' es ep tt e r
 rw[h1] at e;cases e
 exact wpAny_inSet_of (knd:=intKind W.prog W.w) (by simp[intKind,Value.isInt]) rfl ⟨o,es,ep,tt,hs.old.get_of_cls h1 h2,r⟩ (q _ _ rfl rfl rfl (Eq.refl _:Value.bool _=Value.bool _))
def LstIs (σ:Sig) (p:PV) (l:List PV):Prop:=p=.lst l∨∃ a,p=.ref a∧σ a=some (.list l)
theorem LstIs.get {p:PV}{l:List PV} (x:LstIs σ p l){s:Shared} (S:St W σ s){v:Value} (h:VRel (FrOf σ s) p v):∃ a vs n,v=.ref a∧s.heap.get? a=some (listOf vs n)∧VRels (FrOf σ s) l vs.toList:=by
 rcases x with rfl |⟨a,rfl,e⟩
 ·refine e3_3 h ?_;try clear h;intro a vs n e f r;exact⟨a,vs,n,e,f.2.1,r⟩
 ·refine e2_2 (S.hr _ _ e) ?_;intro vs n ho r;exact⟨a,vs,n,h,ho,r⟩
end
end Mine
namespace Mine
open PySem.Sre (M)
theorem admitted_none (m:Sre.M) (h:∀ i,i<m.lim→∀ seen,∃ seen',Sre.inSet m.code (m.text.getD i 0) m.code.size 5 true seen=.ok (false,seen')):∀ fuel s seen,∃ seen',Sre.M.admitted m fuel s seen=.ok (none,seen')
 |0,s,seen=>⟨seen,rfl⟩
 |fuel+1,s,seen=>by
  show ∃ seen',(if s≥m.lim then _ else _)=_
  by_cases hs:s≥m.lim
  ·rw[if_pos hs];exact⟨seen,rfl⟩
  ·rw[if_neg hs]
   refine e1_1 (h s (Nat.lt_of_not_le hs) seen) ?_;intro seen' e
   rw[e]
   exact admitted_none m h fuel (s+1) seen'
theorem drive_failed {M:Model}{A:Around}{E:Value→Shared→Prop}{s:Shared}{m:Sre.M}{Q:Option Sre.M→Shared→Prop} (h1:m.answer=some false) (h2:m.frames=[]) (h3:m.outcome=none) (h:Q none s):wpAny M A (Builtin.Re.reRunToEnd m) Q E s:=by
 unfold Builtin.Re.reRunToEnd
 have e1:m.step={ m with outcome:=some .failed }:=by
  unfold Sre.M.step
  rw[h3,h1,h2]
  rfl
 have e2:m.runFor Builtin.Re.reTurnSteps={ m with outcome:=some .failed }:=by
  show m.runFor 4=_
  unfold Sre.M.runFor
  rw[h3,e1]
  rfl
 have e3:Builtin.Re.reDrive (2^64) m=Pure.pure { m with outcome:=some .failed }:=by
  rw[show(2:Nat)^64=(2^64-1)+1 from rfl]
  unfold Builtin.Re.reDrive
  rw[e2]
  rfl
 rw[e3]
 refine wpAny_bind (wpAny_pure ?_)
 refine wpAny_bind (wpAny_forIn_list _ (fun _ _ s'=>s'=s) _ (fun x rest b s' e=>?_) (fun b s' e=>?_) _ _ rfl)
 ·subst e
  dsimp only
  split
  ·exact wpAny_bind (wpAny_rule (wpAny_pure rfl))
  ·exact wpAny_pure rfl
 ·subst e
  exact wpAny_pure h
structure OneSet (code:Array Nat):Prop where
 info:Sre.ops[code.getD 0 0]? = some .INFO
 kind:code.getD 2 0=4
 least:code.getD 3 0=1
theorem search_says {code text:Array Nat} (o:OneSet code) (h:∀ i,i<text.size→∀ seen,∃ seen',Sre.inSet code (text.getD i 0) code.size 5 true seen=.ok (false,seen')) :
  ∃ m,Sre.forSearch code text 0 0 text.size false=m∧m.answer=some false∧m.frames=[]∧m.outcome=none:=by
 have key:∀ m:Sre.M,m.code=code→m.text=text→m.lim=text.size→m.frames=[]→m.outcome=none→∀ s f,(m.attemptFrom s f).answer=some false∧(m.attemptFrom s f).frames=[]∧(m.attemptFrom s f).outcome=none:=fun m e1 e2 e3 e4 e5 s f=>by
  have hf:m.hasFirstSet=true:=by
   unfold Sre.M.hasFirstSet
   rw[e1,o.info,o.kind]
   rfl
  refine e1_1 (admitted_none m (by rw[e1,e2,e3];exact h) (m.lim+1-s) s m.seen) ?_;intro seen' e
  unfold Sre.M.attemptFrom
  rw[hf,e]
  exact⟨rfl,e4,e5⟩
 refine⟨_,rfl,?_⟩
 unfold Sre.forSearch
 dsimp only
 split
 ·exact⟨rfl,rfl,rfl⟩
 ·exact key _ rfl rfl rfl rfl rfl _ _
theorem set_name {c:Nat} (h1:32≤c) (h2:c≠127) (seen:Sre.Seen):∃ seen',Sre.inSet #[14,10,4,1,1,22,0,31,16,127,0,13,7,22,0,31,16,127,0,1] c 20 5 true seen=.ok (false,seen'):=by
 show ∃ seen',(if 0≤c&&c≤31 then _ else _)=_
 rw[if_neg (by simp;exact cB (by decide) h1)]
 show ∃ seen',(if c==127 then _ else _)=_
 rw[if_neg (by simpa using h2)]
 exact⟨_,rfl⟩
theorem set_value {c:Nat} (h1:32≤c∨c=9) (h2:c≠127) (seen:Sre.Seen):∃ seen',Sre.inSet #[14,14,4,1,1,9,4294966783,0,0,2147483648,0,0,0,0,0,13,11,9,4294966783,0,0,2147483648,0,0,0,0,0,1] c 28 5 true seen=.ok (false,seen'):=by
 show ∃ seen',(if (decide (c<256)&&Nat.testBit ((#[14,14,4,1,1,9,4294966783,0,0,2147483648,0,0,0,0,0,13,11,9,4294966783,0,0,2147483648,0,0,0,0,0,1]:Array Nat).getD (5+(1+c/32)) 0) (c%32))=true then _ else _)=_
 rw[if_neg]
 ·exact⟨_,rfl⟩
 ·intro z
  rw[Bool.and_eq_true,decide_eq_true_eq] at z
  refine e0_2 z ?_;try clear z;intro z1 z2
  have:∀ c:Fin 256,(32≤c.val∨c.val=9)→c.val≠127→Nat.testBit ((#[14,14,4,1,1,9,4294966783,0,0,2147483648,0,0,0,0,0,13,11,9,4294966783,0,0,2147483648,0,0,0,0,0,1]:Array Nat).getD (5+(1+c.val/32)) 0) (c.val%32)=false:=by decide +kernel
  rw[this ⟨c,z1⟩ h1 h2] at z2
  cases z2
end Mine
namespace Mine
theorem pat_plain:PlainAttrs "re.Pattern":=⟨⟨"object.__getattribute__",by rw[typeLookup_type,builtinLookup_eq_fast];kernel_rfl,by decide +kernel⟩,by rw[typeLookup_type,builtinLookup_eq_fast];kernel_rfl⟩
theorem pat_slot:Slot "re.Pattern" "search" "re.Pattern.search" :=
 .of (owner:="re.Pattern") (n:="search") (by rw[typeLookup_type,builtinLookup_eq_fast];kernel_rfl) (by decide +kernel) (by decide +kernel) (by decide +kernel)
  (by first |exact .inl (by decide +kernel) |exact .inr (by decide +kernel)) (by rw[isSubtype_type];kernel_rfl)
theorem pat_type:typeOf (.builtin "re.Pattern.search")=pure (.type "method_descriptor"):=by show builtinType _=_;rw[builtinType_eq_fast];kernel_rfl
theorem pat_entry:entryFor table "re.Pattern.search"=some Builtin.«re.Pattern.search» := entryFor_of_fast (by kernel_rfl)
theorem pat_args (a b:Value):argsOk "re.Pattern.search" ⟨[a,b],[]⟩:=by unfold argsOk;kernel_rfl
theorem pat_named (v:Value):Builtin.Re.reNamed "re.Pattern.search" "search" ["string","pos","endpos"] 1 [v] []=Pure.pure [some v,none,none]:=by first |rfl |kernel_rfl
structure PatF (W:Wd) (p:Addr) (code:Array Nat):Prop where
 at_:∃ o vs cl oc xs n,W.h₁.get? p=some o∧o.cls=.type "re.Pattern"∧o.dict=none∧o.data=.fields vs∧vs.getD 5 .none=.ref cl∧Builtin.Re.reRawNat (vs.getD 6 .none)=0∧Builtin.Re.reRawNat (vs.getD 2 .none)=0 ∧
  W.h₁.get? cl=some oc∧oc.cls ≠ .none∧oc.data=.seq xs n∧(xs.map Builtin.Re.reRawOf).map (·.toNat)=code
 one:OneSet code
section
variable {W:Wd}{k:Nat}{σ:Sig}{env:Env}{P:FM→Prop}{x y:List Nat}
theorem GM_pat {p:Addr}{code:Array Nat} (t:PatF W p code){K:PV×List PV→Sig→Prop} (h:K (.blt "re.Pattern.search",[.ref p]) σ):GM W k "search" (.ref p) σ K:=fun v pl=>.id h fun A hA s hs e Q q=>by
 obtain rfl:v=.ref p:=e
 refine e6_4 (t.at_) ?_;intro o vs cl oc xs n h1 h2 h3 _
 have ho:=hs.old.get_of_cls h1 (by rw[h2];intro z;cases z)
 exact getMethod_builtin ⟨o,ho,h2⟩ pat_plain pat_slot pat_type (fun a e=>by cases e;exact⟨o,ho,h3⟩) (q _ _ rfl rfl rfl ⟨(Eq.refl _:Value.builtin _=Value.builtin _),VRels.one (Eq.refl _:Value.ref p=Value.ref p)⟩)
theorem C_search {p:Addr}{code:Array Nat} (t:PatF W p code){K:PV→Sig→Prop} (hz:x.length≤1000000) (hx:∀ c∈x,∀ seen,∃ seen',Sre.inSet code c code.size 5 true seen=.ok (false,seen')) (h:K .none σ):C W k (.blt "re.Pattern.search") [.ref p,.str x] [] [] σ K:=C2 fun v va vb=>.id h fun A hA s hs hpat Q q=>by
 obtain ⟨e,e1,u,e2⟩:=hpat
 obtain rfl:v=.builtin "re.Pattern.search":=e
 obtain rfl:va=.ref p:=e1
 subst e2
 refine e6_11 (t.at_) ?_;intro o vs cl oc xs n h1 h2 h3 h4 h5 h6 h7 h8 h9 h10 h11
 have ho:=hs.old.get_of_cls h1 (by rw[h2];intro z;cases z)
 have hoc:=hs.old.get_of_cls h8 h9
 refine wpAny_call_entry pat_slot ⟨o,ho,h2⟩ pat_entry ?_ (pat_args _ _)
 unfold Builtin.«re.Pattern.search» Builtin.Re.reTarget
 dsimp only
 rw[pat_named]
 refine wpAny_bind (wpAny_bind (wpAny_pure ?_))
 dsimp only
 refine wpAny_bind (wpAny_pure (wpAny_bind (wpAny_pure (wpAny_bind (wpAny_fieldsOf ho h4 ?_)))))
 unfold Builtin.Re.reTextOf asStr?
 refine wpAny_bind (wpAny_bind (wpAny_pure (wpAny_pure ?_)))
 dsimp only
 rw[h6]
 rw[if_neg (by decide),if_neg (by decide)]
 refine wpAny_bind (wpAny_pure ?_)
 rw[h5]
 unfold Builtin.Re.reRawItems
 refine wpAny_bind (wpAny_bind (wpAny_seqItems hoc h10 (wpAny_pure (wpAny_pure ?_))))
 dsimp only
 rw[h7]
 have hl:min (2^63-1:Int).toNat x.toArray.size=x.toArray.size:=by
  rw[List.size_toArray]
  exact Nat.min_eq_right (Nat.le_trans hz (by decide))
 rw[hl]
 have hc:Array.map (fun x=>Int.toNat x) (Array.map Builtin.Re.reRawOf ((some xs).getD #[]))=code:=h11
 rw[hc,show min (Int.toNat 0) x.toArray.size=0 from Nat.zero_min _]
 refine e1_4 (search_says (text:=x.toArray) t.one (fun i hi seen=>by
  rw[List.size_toArray] at hi
  have:x.toArray.getD i 0∈x:=by
   simp[Array.getD,hi]
  exact hx _ this seen)) ?_;intro m em m1 m2 m3
 rw[em]
 unfold Builtin.Re.reAnswer
 refine wpAny_bind (drive_failed m1 m2 m3 ?_)
 exact wpAny_pure ⟨_,rfl,q _ _ rfl rfl rfl (Eq.refl _:Value.none=Value.none)⟩
theorem dit_entry_iter:entryFor table "dict_itemiterator.__iter__"=some Builtin.«dict_keyiterator.__iter__» :=
 entryFor_alias (id':="dict_keyiterator.__iter__") (by kernel_rfl) (by first |rfl |decide +kernel) (by decide +kernel) (by kernel_rfl)
theorem GM_instF (T:Top W){a C d:Addr}{fs:Str→Option PV}{n:Nat}{name:Str}{p:PV}{K:PV×List PV→Sig→Prop} (X:ClsIs W C) (hf:findIn W.K (.ref C) name=some none) (hσ:σ a=some (.inst C d fs n)) (hp:fs name=some p) (hb:∀ n,p ≠ .blt n)
  (h:K (p,[]) σ):GM W k name (.ref a) σ K:=fun v pl=>.id h fun A hA s hs hP Q q=>by
 obtain rfl:v=.ref a:=hP
 obtain ⟨ha,_,_,es,ep,hd,hk,hz,r⟩:=hs.hr _ _ hσ
 have:=r name
 rw[hp] at this
 refine e1_2 this ?_;try clear this;intro w e rw
 refine e1_2 (X.cd) ?_;intro cd hc hh
 exact method_usual (hs.kin T) (instAt_of ha hd) X.ga X.gt hf rfl (get_value (hs.kin T) (instAt_of ha hd) X.ga (find_val hc hh hf hk e) (handed_ok hb rw) (q _ _ rfl rfl rfl ⟨rw,rfl⟩))
theorem C_type_str {K:PV→Sig→Prop} (h:K (.typ "str") σ):C W k (.typ "type") [.str x] [] [] σ K:=C1 fun v va=>.id h fun A hA s hs hpat Q q=>by
 obtain ⟨e,t,e1⟩:=hpat
 obtain rfl:v=.type "type":=e
 subst e1
 exact call_type_of (typeIs_str _ _ _) rfl (q _ _ rfl rfl rfl (Eq.refl _:Value.type "str"=Value.type "str"))
theorem C_type_list {a:Addr}{l:List PV}{K:PV→Sig→Prop} (hσ:σ a=some (.list l)) (h:K (.typ "list") σ):C W k (.typ "type") [.ref a] [] [] σ K:=C1 fun v va=>.id h fun A hA s hs hpat Q q=>by
 refine e0_2 hpat ?_;try clear hpat;intro e e1
 obtain rfl:v=.type "type":=e
 obtain rfl:va=.ref a:=e1
 refine e2_2 (hs.hr _ _ hσ) ?_;intro vs n f r
 exact call_type_of ⟨_,f,rfl⟩ rfl (q _ _ rfl rfl rfl (Eq.refl _:Value.type "list"=Value.type "list"))
theorem is_tt {n:String}{K:PV→Sig→Prop} (h:K (.bool true) σ):O2 W k VRel (compareOp .Is) (.typ n) (.typ n) σ K:=fun va vb=>.id h fun A hA s hs hpat Q q=>by
 refine e0_2 hpat ?_;try clear hpat;intro e e'
 obtain rfl:vb=.type n:=e'
 obtain rfl:va=.type n:=e
 exact wpAny_is_plain rfl (q _ _ rfl rfl rfl (show Value.bool _=Value.bool _ by simp))
theorem isnot_tt {n:String}{K:PV→Sig→Prop} (h:K (.bool false) σ):O2 W k VRel (compareOp .IsNot) (.typ n) (.typ n) σ K:=fun va vb=>.id h fun A hA s hs hpat Q q=>by
 refine e0_2 hpat ?_;try clear hpat;intro e e'
 obtain rfl:vb=.type n:=e'
 obtain rfl:va=.type n:=e
 exact wpAny_isNot_plain rfl (q _ _ rfl rfl rfl (show Value.bool _=Value.bool _ by simp))
theorem KP_clo {nm q:Str}{ps:Arguments}{b:List Stmt}{sc:Scope}{cs:List (Str×PV)}:KP W .frame (.clo nm q ps b sc cs) σ:=fun A hA s hs v hv Q' qq=>by
 obtain ⟨a,o,c,oc,vs',t,ct,doc,pm,cl,rfl,f,hcl,hd,_⟩:=hv
 unfold keeperOf
 refine wpAny_bind (wpAny_load f.2.1 ?_)
 rw[hd];exact wpAny_pure qq
noncomputable def intsL (l:List Int):List PV:=l.map .int
theorem ints_vals {F:FM}:∀ {l:List Int}{vs:List Value},VRels F (intsL l) vs→∃ ts:List (Int×Tok),vs=ts.map (fun p=>Value.int p.1 p.2)∧ts.map (·.1)=l
 |[],_,h=>⟨[],by rw[show _=[] from h];rfl,rfl⟩
 |x::l,_,h=>by
  refine e2_3 h ?_;try clear h;intro v ws zz1 zz2 r;subst zz1;refine e1_1 zz2 ?_;clear zz2;intro t zz3;subst zz3
  refine e1_2 (ints_vals (l:=l) r) ?_;intro ts e1 e2
  exact⟨(x,t)::ts,by rw[e1];rfl,by rw[List.map_cons,e2]⟩
theorem preSum_list:∀ (ts:List (Int×Tok)) (xs:Array (Int×Tok)),xs.toList=ts→preSum (numAt xs) xs.size=(ts.map (·.1)).sum:=fun ts xs e=>by
 subst e
 rw[preSum_eq,List.take_of_length_le (by simp)]
theorem C_sum (T:Top W){l:List Int}{K:PV→Sig→Prop} (h:K (.int l.sum) σ):C W k (.blt "sum") [.lst (intsL l)] [] [] σ K:=C1 fun v va=>.grow T h fun A hA s hs hpat Q q=>by
 obtain ⟨e,a,vs,n,e1,f,r⟩:=hpat
 obtain rfl:v=.builtin "sum":=e
 subst e1
 refine e1_2 (ints_vals r) ?_;intro ts e2 e3
 have hv:vs=intItems ts.toArray:=by
  apply Array.toList_inj.mp
  rw[e2];simp[intItems]
 subst hv
 refine sum_intListG hA.1 (isList_of f.2.1) fun h' tk t' hk=>q _ h' tk hk ⟨t',?_⟩
 rw[preSum_list ts _ rfl,e3]
noncomputable def splitL (x y:List Nat):List (List Nat):=(Txt.split (st x) (st y)).map fun z:Str=>z.cps.toList
theorem st_toList (z:Str):st z.cps.toList=z:=by unfold st;cases z;simp
theorem C_split (T:Top W) (hy:y≠[]) (hz:x.length+2≤1000000){K:PV→Sig→Prop} (h:K (.lst (stsL (splitL x y))) σ):C W k (.blt "str.split") [.str x,.str y] [] [] σ K:=C2 fun v va vb=>.grow T h fun A hA s hs hpat Q q=>by
 obtain ⟨e,⟨t,e1⟩,u,e2⟩:=hpat
 obtain rfl:v=.builtin "str.split":=e
 subst e1 e2
 have hx:(st x).length=x.length:=str_len x
 have hy0:((st y).length==0)=false:=by
  rw[show(st y).length=y.length from str_len y]
  cases y with
  |nil=>exact absurd rfl hy
  |cons _ _=>rfl
 have hn:(Builtin.Str.partsBetween (st x) (Builtin.Str.occurrences (st x) (st y) 0 (st x).length ((st x).length+1)) (st y).length).length≤sizeLine:=by
  have e1:=StrLaws.occ_length_le (st x) (st y) 0 (st x).length ((st x).length+1)
  rw[length_partsBetween,sizeLine_eq];exact Nat.le_trans (Nat.add_le_add (Nat.le_trans e1 (Nat.add_le_add (Nat.le_trans (Nat.le_of_eq hx) (Nat.le_of_lt (lekS hz))) (Nat.le_refl _))) (Nat.le_refl _)) (by decide)
 have fin:∀ (l:List (Str×Tok)) (tk:Nat),l.map (·.1)=Txt.split (st x) (st y)→Q (.ref s.heap.objs.size) { s with heap:=s.heap.push { cls:=.type "list",data:=.seq (strValues l).toArray },toks:=tk }:=fun l tk hl=>by
  refine q _ _ tk sle_push ⟨_,(strValues l).toArray,0,rfl,fz_new hs (by intro z;cases z),?_⟩
  rw[List.toList_toArray]
  refine strs_of_values ?_
  rw[hl]
  unfold splitL
  rw[List.map_map]
  show _=List.map (st ∘ fun z:Str=>z.cps.toList) _
  have:(st ∘ fun z:Str=>z.cps.toList)=id:=funext fun z=>st_toList z
  rw[this,List.map_id]
 show wpAny _ _ (call (.builtin "str.split") [.str (st x) t,.str (st y) u]) _ _ s
 cases h1:(decide ((st x).length<(st y).length) ||decide (Builtin.Str.strKind (st x)<Builtin.Str.strKind (st y)))
 ·cases hf:(Builtin.Str.occurrences (st x) (st y) 0 (st x).length ((st x).length+1)).isEmpty
  ·refine call_meets PySem.F.slot_str_split (typeIs_str _ _ _) PySem.F.entry_str_split (PySem.F.args_str_split_2 _ _) (meets_str_split_sep (st x) (st y) t u h1 hy0 hf (by rw[hx,sizeLine_eq];exact Nat.le_of_lt (cA (lekS hz) (by decide))) hn) ?_
   show wants Q _ _ { s with toks:=_,heap:=s.heap.push { cls:=.type "list",data:=.seq (strsFrom s.toks (Builtin.Str.partsBetween (st x) (Builtin.Str.occurrences (st x) (st y) 0 (st x).length ((st x).length+1)) (st y).length)).toArray } }
   rw[strsFrom_eq]
   exact fin (numbered s.toks _) _ ((numbered_texts _ _).trans ((if_neg (ne_true_of_eq_false h1)).trans (if_neg (ne_true_of_eq_false hf))).symm)
  ·exact call_meets PySem.F.slot_str_split (typeIs_str _ _ _) PySem.F.entry_str_split (PySem.F.args_str_split_2 _ _) (meets_str_split_not_found (st x) (st y) t u h1 hy0 hf)
    (fin [(st x,t)] s.toks ((if_neg (ne_true_of_eq_false h1)).trans (if_pos hf)).symm)
 ·exact call_meets PySem.F.slot_str_split (typeIs_str _ _ _) PySem.F.entry_str_split (PySem.F.args_str_split_2 _ _) (meets_str_split_cannot_occur (st x) (st y) t u h1)
   (fin [(st x,t)] s.toks (if_pos h1).symm)
theorem GM_dct {hs:Str→Int}{l:List (Str×PV)}{K:PV×List PV→Sig→Prop} (h:K (.blt "dict.items",[.dct hs l]) σ):GM W k "items" (.dct hs l) σ K:=fun v pl=>.id h fun A hA s S hv Q q=>by
 refine e3_4 (id hv) ?_;intro a es n zz1 f z r;subst zz1
 exact getMethod_builtin (T:="dict") ⟨_,f.2.1,rfl⟩ PySem.F.plainAttrs_dict PySem.F.slot_dict_items PySem.F.type_dict_items (fun a' e=>by cases e;exact⟨_,f.2.1,rfl⟩) (q _ _ rfl rfl rfl ⟨(Eq.refl _:Value.builtin _=Value.builtin _),VRels.one hv⟩)
theorem dictAt_nil {prog:Program}{w:World}{h:Heap}{a:Addr}{n:Nat} (e:h.get? a=some ⟨.type "dict",Option.none,.dict #[] n,#[]⟩):h.DictAt (PySem.strKind prog w) a [] n :=
 ⟨_,#[],e,⟨rfl,rfl,rfl⟩,rfl,fun e he=>by simp at he,.nil,List.nodup_nil⟩
theorem C_items0 (T:Top W){hs:Str→Int}{K:PV→Sig→Prop} (h:K (.dit hs []) σ):C W k (.blt "dict.items") [.dct hs []] [] [] σ K:=C1 fun v va=>.grow T h fun A hA s S hpat Q q=>by
 obtain ⟨e,a,es,n,e1,f,z,r⟩:=hpat
 obtain rfl:v=.builtin "dict.items":=e
 subst e1
 obtain rfl:es = #[]:=Array.toList_inj.mp r
 have hD:=dictAt_nil (prog:=W.prog) (w:=W.w) f.2.1
 refine call_meetsIn PySem.F.slot_dict_items ⟨_,f.2.1,rfl⟩ PySem.F.entry_dict_items (PySem.F.args_dict_items_1 _) (meets_dict_items (PySem.strKind W.prog W.w) a z) ⟨⟨_,hD.dictOf⟩,q _ _ s.toks sle_push ?_⟩
 exact⟨_,a,#[],n,rfl,fz_new S (by intro z;cases z),(fle_grow sle_push) _ _ f,z,rfl⟩
theorem Itbl.dit0 {hs:Str→Int}:Itbl W (.dit hs []) [] (fun _=>True):=fun A hA σ s S _ v hv Q E q=>by
 refine e4_5 hv ?_;try clear hv;intro r a es n zz1 f g z d;subst zz1
 obtain rfl:es = #[]:=Array.toList_inj.mp d
 have hD:=dictAt_nil (prog:=W.prog) (w:=W.w) g.2.1
 refine wpAny_pyIter_items ⟨_,f.2.1,rfl,rfl⟩ hD ?_
 refine q _ (fun F=>F a ⟨.type "dict",Option.none,.dict #[] n,#[]⟩) (fun i h=>i=0∧IsItemIter h s.heap.objs.size a 0 0 n .none .none) _ rfl (IterS.iter ?_) ⟨rfl,Heap.get?_push_size _ rfl⟩ g
 exact {
  kind:=fun ⟨_,ho⟩=>⟨_,ho,rfl⟩
  keep:=fun ⟨e,ho⟩ e'=>⟨e,e'.trans ho⟩
  mono:=fun m x=>m _ _ rfl x
  item:=fun {i p} hp=>by simp at hp
  done:=fun A hA σ s' S _ hf ⟨_,hat⟩ Q E q=>wpAny_pyNext_items_end hA hat (dictAt_nil (prog:=W.prog) (w:=W.w) hf.2.1) rfl fun h' hx=>q h' s'.toks hx
  self:=fun A s' hpat Q E q=>by
   refine e0_2 hpat ?_;try clear hpat;intro _ hat
   refine wpAny_pyIter_slot ⟨_,hat,rfl⟩ PySem.F.slot_dict_itemiterator_iter (wpAny_call_entry PySem.F.slot_dict_itemiterator_iter ⟨_,hat,rfl⟩ dit_entry_iter ?_ (PySem.F.args_dict_itemiterator_iter_1 _))
   exact wpAny_pure ⟨_,rfl,"dict_itemiterator",_,⟨_,hat,rfl⟩,PySem.F.slot_dict_itemiterator_next.lookup,q⟩
  own:=fun t A s' v hpat Q E q=>by
   refine e0_2 hpat ?_;try clear hpat;intro _ hat
   unfold letOwnedTupleGo
   cases t <;> try exact wpAny_pure q
   all_goals
    cases v <;> try exact wpAny_pure q
    refine wpAny_bind (wpAny_load hat ?_)
    exact wpAny_pure q }
noncomputable def defAt (n:Nat):Stmt:=PySem.Challenge.pw_uc0056_02.main.body.getD n (.Pass default)
noncomputable def fdP:Stmt→Str×Arguments×List Stmt×Scope
 | .FunctionDef n p b _ _ _ s _ _ _=>(n,p,b,s)
 | .ClassDef n _ _ b .. => (n,default,b,default)
 |_=>("",default,[],default)
noncomputable def bodyOf (s:Stmt):List Stmt:=(fdP s).2.2.1
noncomputable def paramsOf (s:Stmt):Arguments:=(fdP s).2.1
noncomputable def scopeOf (s:Stmt):Scope:=(fdP s).2.2.2
noncomputable def nameOf (s:Stmt):Str:=(fdP s).1
structure Fn (W:Wd) (a:Addr) (q:Str) (st:Stmt):Prop where
 fn:∃ doc pm an cd ct,FnAt W a (fnX (nameOf st) q (paramsOf st) (bodyOf st) (scopeOf st) [] .none .none doc pm an cd ct) (bodyOf st)
theorem bind1 {fd:FuncData}{n:Str}{p:PV}{K:List (Str×PV)→Sig→Prop} (e:∀ v,bindArgs fd ⟨[v],[]⟩=Pure.pure [(n,v)]) (h:K [(n,p)] σ):∀ vs ws,G W k (fun F=>VRels F [p] vs∧VRels F [] ws) BRels (bindArgs fd ⟨vs,([]:List Str).zip ws⟩) σ K:=fun vs ws A hA s hs hpat=>by
 refine e0_2 hpat ?_;try clear hpat;intro zz1 _;refine e2_3 zz1 ?_;clear zz1;intro v r e1 h1 e2
 subst e1
 obtain rfl:r=[]:=e2
 rw[show([]:List Str).zip ws=[] from rfl,e]
 exact wpAny_pure ⟨[(n,p)],σ,hs,FLe.refl _,⟨v,[],rfl,h1,rfl⟩,h⟩
theorem bind2 {fd:FuncData}{n m:Str}{p q:PV}{K:List (Str×PV)→Sig→Prop} (e:∀ v w,bindArgs fd ⟨[v,w],[]⟩=Pure.pure [(n,v),(m,w)]) (h:K [(n,p),(m,q)] σ):∀ vs ws,G W k (fun F=>VRels F [p,q] vs∧VRels F [] ws) BRels (bindArgs fd ⟨vs,([]:List Str).zip ws⟩) σ K:=fun vs ws A hA s hs hpat=>by
 refine e0_2 hpat ?_;try clear hpat;intro zz1 _;obtain ⟨v,r,e1,h1,w,r',e3,h2,e2⟩:=zz1
 subst e1 e3
 obtain rfl:r'=[]:=e2
 rw[show([]:List Str).zip ws=[] from rfl,e]
 exact wpAny_pure ⟨[(n,p),(m,q)],σ,hs,FLe.refl _,⟨v,_,rfl,h1,w,[],rfl,h2,rfl⟩,h⟩
theorem bind3 {fd:FuncData}{n m l:Str}{p q o:PV}{K:List (Str×PV)→Sig→Prop} (e:∀ v w u,bindArgs fd ⟨[v,w,u],[]⟩=Pure.pure [(n,v),(m,w),(l,u)]) (h:K [(n,p),(m,q),(l,o)] σ):∀ vs ws,G W k (fun F=>VRels F [p,q,o] vs∧VRels F [] ws) BRels (bindArgs fd ⟨vs,([]:List Str).zip ws⟩) σ K:=fun vs ws A hA s hs hpat=>by
 refine e0_2 hpat ?_;try clear hpat;intro zz1 _;obtain ⟨v,r,e1,h1,w,r',e3,h2,u,r'',e4,h3,e2⟩:=zz1
 subst e1 e3 e4
 obtain rfl:r''=[]:=e2
 rw[show([]:List Str).zip ws=[] from rfl,e]
 exact wpAny_pure ⟨[(n,p),(m,q),(l,o)],σ,hs,FLe.refl _,⟨v,_,rfl,h1,w,_,rfl,h2,u,[],rfl,h3,rfl⟩,h⟩
structure Blts (W:Wd):Prop where
 blt:∀ n∈(["ord","chr","len","hex","iter","sum","sorted"]:List String),W.mg (Str.ofString n)=none∧W.mb (Str.ofString n)=some (.builtin n)
 typ:∀ n∈(["range","str","list","type","zip"]:List String),W.mg (Str.ofString n)=none∧W.mb (Str.ofString n)=some (.type n)
noncomputable def mOf (bp:List (Str×PV)):Str→Option PV:=bp.foldl (fun m x=>fset m x.1 x.2) (fun _=>none)
theorem cellsUpd_none:∀ {names:List (Str×NameKind)}{n:Nat}{σ:Sig},(names.all fun x => !(x.2 == .cell))=true→cellsUpd n names σ=σ
 |[],_,_,_=>rfl
 |(x,kd)::r,n,σ,h=>by
  rw[List.all_cons,Bool.and_eq_true] at h
  unfold cellsUpd
  have h1:(kd==NameKind.cell)=false:=by simpa using h.1
  rw[h1]
  exact cellsUpd_none h.2
theorem SB_locals (T:Top W){env:Env} (hk:env.scope.kind=.function):∀ {bp:List (Str×PV)}{m:Str→Option PV}{σ:Sig}{K:Sig→Prop},(∀ x∈bp,env.kindOf x.1=some .local)→K (σ.upd env.locals (.frame (bp.foldl (fun m x=>fset m x.1 x.2) m)))→SB W k env bp (σ.upd env.locals (.frame m)) K
 |[],_,_,_,_,h=>h
 |(x,p)::r,m,σ,K,hl,h=>by
  refine S_local T hk (hl _ (List.mem_cons_self ..)) (upd_same _ _ _) ?_
  rw[upd_upd]
  exact SB_locals T hk (fun y hy=>hl y (List.mem_cons_of_mem _ hy)) h
theorem CC_std (T:Top W){a:Addr}{fd:FuncData}{body:List Stmt} (f:FnAt W a fd body){args kv:List PV}{kn:List Str}{K:PV→Sig→Prop} (bp:List (Str×PV))
  (hb:∀ vs ws,G W k (fun F=>VRels F args vs∧VRels F kv ws) BRels (bindArgs fd ⟨vs,kn.zip ws⟩) σ fun b s=>b=bp∧s=σ) (hk:fd.scope.kind=.function)
  (hl:(bp.all fun x=>fd.scope.names.lookup x.1==some .local)=true) (hn:(fd.scope.names.all fun x => !(x.2 == .cell))=true)
  (h:∀ L,Fresh σ L→XS W k (envFn fd [] L a) body (σ.upd L (.frame (mOf bp))) fun fl σ₃=>K (retOf fl) (res L σ₃)):CC W (k+1) (.ref a) args kn kv σ K :=
 CC_fn f fun vs ws=>(hb vs ws).imp fun b s hpat L hL=>by
  refine e0_2 hpat ?_;try clear hpat;intro e1 e2
  subst e1 e2
  rw[cellsUpd_none hn]
  exact SB_locals T (env:=envFn fd [] L a) hk (fun x hx=>beq_iff_eq.mp (List.all_eq_true.mp hl x hx)) ((h L hL).imp fun fl σ₃ z=>⟨_,.inl rfl,z⟩)
theorem res_top {L:Addr}{o:AObj} (h:Fresh σ L):res L (σ.upd L o)=σ:=by rw[res_upd_ge (Nat.le_refl _),res_fresh h]
theorem E_bn (T:Top W) (B:Blts W){n:String}{pos:Pos}{K:PV→Sig→Prop} (hn:n∈(["ord","chr","len","hex","iter","sum","sorted"]:List String)) (h:K (.blt n) σ) (hk:autoParam (env.scope.kind=.function) tR) (hx:autoParam (env.kindOf (Str.ofString n)=some .globalImplicit) tR) (hg:autoParam (env.globals=mainGlobals) tR) (hb:autoParam (env.builtins=builtinsNs) tR)
  (hd:autoParam (((Str.ofString n)==("__debug__":Str))=false) tD):E W k env (.Name (Str.ofString n) pos) σ K:=E_blt (p:=.blt n) T hk hx hg hb (B.blt n hn).1 (B.blt n hn).2 (fun F=>(Eq.refl _:Value.builtin n=Value.builtin n)) h hd
theorem E_tn (T:Top W) (B:Blts W){n:String}{pos:Pos}{K:PV→Sig→Prop} (hn:n∈(["range","str","list","type","zip"]:List String)) (h:K (.typ n) σ) (hk:autoParam (env.scope.kind=.function) tR) (hx:autoParam (env.kindOf (Str.ofString n)=some .globalImplicit) tR) (hg:autoParam (env.globals=mainGlobals) tR) (hb:autoParam (env.builtins=builtinsNs) tR)
  (hd:autoParam (((Str.ofString n)==("__debug__":Str))=false) tD):E W k env (.Name (Str.ofString n) pos) σ K:=E_blt (p:=.typ n) T hk hx hg hb (B.typ n hn).1 (B.typ n hn).2 (fun F=>(Eq.refl _:Value.type n=Value.type n)) h hd
theorem E_loc {x:Str}{pos:Pos}{m:Str→Option PV}{p:PV}{K:PV→Sig→Prop} (h:K p σ) (hσ:σ env.locals=some (.frame m)) (hm:autoParam (m x=some p) tR) (hk:autoParam (env.scope.kind=.function) tR) (hl:autoParam (env.kindOf x=some .local) tR)
  (hd:autoParam ((x==("__debug__":Str))=false) tD):E W k env (.Name x pos) σ K:=E_name (L_local hk hl hσ hm h) hd
theorem E_gl (T:Top W){x:Str}{pos:Pos}{a:Addr}{K:PV→Sig→Prop} (hv:W.mg x=some (.ref a)) (h:K (.ref a) σ) (hk:autoParam (env.scope.kind=.function) tR) (hx:autoParam (env.kindOf x=some .globalImplicit) tR) (hg:autoParam (env.globals=mainGlobals) tR)
  (hd:autoParam ((x==("__debug__":Str))=false) tD):E W k env (.Name x pos) σ K:=E_glob T hk hx hg hv h hd
theorem in_table_b1_C (T:Top W) (B:Blts W){a b1:Addr}{f:Int→Bool}{c:Nat}{K:PV→Sig→Prop} (F:Fn W a "in_table_b1" (defAt 15)) (hm:W.mg "b1_set"=some (.ref b1)) (S:SetF W b1 f) (h:K (.bool (f c)) σ):CC W (k+1) (.ref a) [.str [c]] [] [] σ K:=by
 refine e5_1 (F.fn) ?_;intro doc pm an cd ct f1
 refine CC_std T f1 [("code",.str [c])] (bind1 (n:="code") (fun v=>by rfl) ⟨rfl,rfl⟩) rfl (by rfl) (by rfl) fun L hL=>?_
 refine XS_cons (X_Return (E_Compare (E_Call [] (kp:=.machine) (E_bn T B (n:="ord") (by simp) (EL_cons (E_loc (EL_nil (EK_nil ⟨KP_blt,C_ord (E_gl T hm (in_set S ?_))⟩)) (upd_same _ _ _)))))))
 show K _ _
 rw[res_top hL]
 exact h
theorem XS_set (T:Top W){x:Str}{value:Expr}{rest:List Stmt}{pos pos':Pos}{K:AFlow→Sig→Prop} (h:E W k env value σ fun p σ₁=>∃ (σ₀:Sig) (L:Addr) (m:Str→Option PV),σ₁=σ₀.upd L (.frame m)∧env.locals=L∧XS W k env rest (σ₀.upd L (.frame (fset m x p))) K)
  (hk:autoParam (env.scope.kind=.function) tR) (hl:autoParam (env.kindOf x=some .local) tR) (hsw:autoParam (swapsWith value (some (.Name x pos')) pos.line env=Pure.pure false) tR):XS W k env (.Assign [.Name x pos'] value pos::rest) σ K :=
 XS_cons (X_Assign (h.imp fun p σ₁ hpat=>by
  refine e3_3 hpat ?_;try clear hpat;intro σ₀ L m e1 e2 h2
  subst e1 e2
  refine S_local T hk hl (upd_same _ _ _) ?_
  rw[upd_upd]
  exact h2) hsw)
theorem XS_ret {e:Expr}{rest:List Stmt}{pos:Pos}{K:AFlow→Sig→Prop} (h:E W k env e σ (jR K)):XS W k env (.Return (some e) pos::rest) σ K:=XS_cons (X_Return h)
abbrev jI (W:Wd) (k:Nat) (env:Env) (b o rest:List Stmt) (K:AFlow→Sig→Prop) (c:Bool) (σ:Sig):Prop:=XS W k env (if c then b else o) σ (jX W k env rest K)
abbrev jE (W:Wd) (k:Nat) (env:Env) (rest:List Stmt) (K:AFlow→Sig→Prop) (p:PV) (σ:Sig):Prop:=p=.none∧XS W k env rest σ K
theorem XS_if {t:Expr}{b o rest:List Stmt}{pos:Pos}{K:AFlow→Sig→Prop} (h:T W k env t σ (jI W k env b o rest K)):XS W k env (.If t b o pos::rest) σ K :=
 XS_cons (X_If (h.imp fun c σ₁ z=>by cases c <;> exact z))
theorem XS_expr {e:Expr}{rest:List Stmt}{pos:Pos}{K:AFlow→Sig→Prop} (h:E W k env e σ (jE W k env rest K)) (hi:autoParam (interactive env=false) tR) (hsw:autoParam (swapsWith e none pos.line env=Pure.pure false) tR):XS W k env (.Expr e pos::rest) σ K:=XS_cons (X_Expr h hi hsw)
noncomputable def b3L (f:Int→Option (List Nat)) (c:Nat):List Nat:=match f c with |some x=>x |none=>lowerL [c]
theorem map_table_b3_C (T:Top W) (B:Blts W){a b3:Addr}{f:Int→Option (List Nat)}{c:Nat}{K:PV→Sig→Prop} (F:Fn W a "map_table_b3" (defAt 17)) (hm:W.mg "b3_exceptions"=some (.ref b3)) (S:TabF W b3 f) (h:K (.str (b3L f c)) σ):CC W (k+1) (.ref a) [.str [c]] [] [] σ K:=by
 refine e5_1 (F.fn) ?_;intro doc pm an cd ct f1
 refine CC_std T f1 [("code",.str [c])] (bind1 (n:="code") (fun v=>by rfl) ⟨rfl,rfl⟩) rfl (by rfl) (by rfl) fun L hL=>?_
 refine XS_set T ?_
 refine E_Meth [] (kp:=.machine) ?_
 refine E_gl T hm ?_
 refine GM_tab S ?_
 refine EL_cons ?_
 refine E_Call [] (kp:=.machine) ?_
 refine E_bn T B (n:="ord") (by simp) ?_
 refine EL_cons (E_loc ?_ (upd_same _ _ _))
 refine EL_nil (EK_nil ⟨KP_blt,C_ord ?_⟩)
 refine EL_nil (EK_nil ⟨KP_blt,C_get1 S ⟨_,_,_,rfl,rfl,?_⟩⟩)
 unfold b3L at h
 cases e:f c with
 |some r =>
  rw[e] at h
  refine XS_if (T_Compare (E_loc (E_none (isnot_none_str (truthy_bool ?_))) (upd_same _ _ _)))
  refine XS_ret (E_loc ?_ (upd_same _ _ _))
  show K _ _
  rw[res_top hL]
  exact h
 |none =>
  rw[e] at h
  refine XS_if (T_Compare (E_loc (E_none (isnot_none_none (truthy_bool ?_))) (upd_same _ _ _)))
  refine XS_nil ?_
  refine XS_ret ?_
  refine E_Meth [] (kp:=.machine) ?_
  refine E_loc ?_ (upd_same _ _ _)
  refine GM_str PySem.F.slot_str_lower PySem.F.type_str_lower ?_
  refine EL_nil (EK_nil ⟨KP_blt,C_lower (by simp) ?_⟩)
  show K _ _
  rw[res_top hL]
  exact h
theorem take_succ_fm {keep:PV→Bool}{val:PV→PV}{items:List PV}{i:Nat}{p:PV} (h:items[i]? = some p):((items.take (i+1)).filter keep).map val=((items.take i).filter keep).map val++(if keep p then [val p] else []):=by
 rw[List.take_add_one,h,List.filter_append,List.map_append]
 cases e:keep p <;> simp[e]
noncomputable def ins (σ₁:Sig) (D L:Addr) (acc:List PV) (m:Str→Option PV):Sig:=(σ₁.upd D (.list acc)).upd L (.frame m)
theorem res_ins {σ₁:Sig}{D L:Addr}{acc:List PV}{m:Str→Option PV} (hf:Fresh σ₁ D) (hL:D<L):res D (ins σ₁ D L acc m)=σ₁:=by
 unfold ins
 rw[res_upd_ge (Nat.le_of_lt hL),res_upd_ge (Nat.le_refl _),res_fresh hf]
theorem ins_D {σ₁:Sig}{D L:Addr}{acc:List PV}{m:Str→Option PV} (hL:D<L):ins σ₁ D L acc m D=some (.list acc):=by
 unfold ins;rw[upd_ne (Nat.ne_of_lt hL),upd_same]
theorem ins_L {σ₁:Sig}{D L:Addr}{acc:List PV}{m:Str→Option PV}:ins σ₁ D L acc m L=some (.frame m):=upd_same _ _ _
theorem ins_set {σ₁:Sig}{D L:Addr}{acc:List PV}{m:Str→Option PV}{x:Str}{p:PV}:(ins σ₁ D L acc m).upd L (.frame (fset m x p))=ins σ₁ D L acc (fset m x p):=upd_upd
theorem ins_acc {σ₁:Sig}{D L:Addr}{acc acc':List PV}{m:Str→Option PV} (hL:D<L):(ins σ₁ D L acc m).upd D (.list acc')=ins σ₁ D L acc' m:=by
 unfold ins
 rw[upd_comm (Nat.ne_of_gt hL),upd_upd]
theorem comp1 (T:Top W){elt iter:Expr}{x:Str}{px:Pos}{ifs:List Expr}{scope:Scope}{pos:Pos}{cl:List (Str×Addr)}{items:List PV}{SrcS:Sig→Prop}{σ₁:Sig} (keep:PV→Bool) (val:PV→PV){D L:Addr} (hf:Fresh σ₁ D) (hL:D<L)
  (hnc:(scope.names.all fun x => !(x.2 == .cell))=true) (hk:scope.kind=.function) (hx:scope.names.lookup x=some .local) (hz:items.length≤1000000)
  (hsrc:∀ acc m,SrcS (ins σ₁ D L acc m))
  (tests:∀ p∈items,∀ acc m,CI W k (cenvOf scope cl L env) ifs (ins σ₁ D L acc (fset m x p)) fun b σ'=>σ'=ins σ₁ D L acc (fset m x p)∧b=keep p)
  (elts:∀ p∈items,keep p=true→∀ acc m,E W k (cenvOf scope cl L env) elt (ins σ₁ D L acc (fset m x p)) fun q σ'=>σ'=ins σ₁ D L acc (fset m x p)∧q=val p) :
  CompIn W k elt (.Name x px) ifs [⟨.Name x px,iter,ifs,0⟩] scope pos items SrcS (cenvOf scope cl L env) D σ₁ (fun i σ'=>i≤items.length∧∃ m,σ'=ins σ₁ D L (((items.take i).filter keep).map val) m) where
 start:=⟨Nat.zero_le _,fun _=>none,by rw[cellsUpd_none hnc];rfl⟩
 src:=fun i σ' ⟨_,m,e⟩=>e▸hsrc _ _
 turn:=fun i p σ' hp hpat=>by
  obtain ⟨hi,m,e⟩:=hpat
  subst e
  have hm:p∈items:=List.mem_of_getElem? hp
  have hlt:i<items.length:=by
   rcases Nat.lt_or_ge i items.length with q |q
   ·exact q
   ·rw[List.getElem?_eq_none q] at hp;cases hp
  refine AT_name (S_local T (by show scope.kind=_;exact hk) (lookup_relabel_local hx) ins_L ?_)
  show CI W k _ ifs ((ins σ₁ D L _ m).upd L (.frame (fset m x p))) _
  rw[ins_set]
  refine(tests p hm _ m).imp fun b σ'' ⟨e1,e2⟩=>?_
  subst e1 e2
  cases hk':keep p with
  |false=>exact⟨hlt,fset m x p,by rw[take_succ_fm hp,hk'];simp⟩
  |true =>
   rw[if_pos rfl]
   refine CB_elt T rfl ((elts p hm hk' _ m).imp fun q σ₃ ⟨e1,e2⟩=>?_)
   subst e1 e2
   refine⟨_,ins_D hL,?_,hlt,fset m x p,by rw[ins_acc hL,take_succ_fm hp,hk',if_pos rfl]⟩
   rw[List.length_map]
   exact Nat.le_trans (List.length_filter_le _ _) (Nat.le_trans (List.length_take_le _ _) (Nat.le_trans hi hz))
theorem E_Comp1 (T:Top W){elt iter:Expr}{x:Str}{px:Pos}{ifs:List Expr}{scope:Scope}{pos:Pos}{cl:List (Str×Addr)}{K:PV→Sig→Prop} (items:List PV) (SrcS:Sig→Prop) (keep:PV→Bool) (val:PV→PV) (hz:items.length≤1000000)
  (h:E W k env iter σ fun q σ₁=>Itbl W q items SrcS∧SrcS σ₁∧(∀ D L,Fresh σ₁ D→D<L→∀ acc m,SrcS (ins σ₁ D L acc m)) ∧
   (∀ D L,Fresh σ₁ D→D<L→(∀ p∈items,∀ acc m,CI W k (cenvOf scope cl L env) ifs (ins σ₁ D L acc (fset m x p)) fun b σ'=>σ'=ins σ₁ D L acc (fset m x p)∧b=keep p) ∧
    ∀ p∈items,keep p=true→∀ acc m,E W k (cenvOf scope cl L env) elt (ins σ₁ D L acc (fset m x p)) fun q σ'=>σ'=ins σ₁ D L acc (fset m x p)∧q=val p)∧K (.lst ((items.filter keep).map val)) σ₁)
  (hnc:autoParam ((scope.names.all fun x => !(x.2 == .cell))=true) tR) (hx:autoParam (scope.names.lookup x=some .local) tR)
  (hclos:autoParam (closureFor scope env=Pure.pure cl) tR) (hkind:autoParam (scope.kind=.function) tR) (hnames:autoParam (∀ x∈scope.names,x.2=.local→scope.names.lookup x.1=some .local) tD)
  (hfold:autoParam (∀ x,foldedSetIterable iter env x=Pure.pure x) tI):E W k env (.ListComp elt [⟨.Name x px,iter,ifs,0⟩] scope pos) σ K :=
 E_ListComp T items SrcS (h.imp fun q σ₁ hh=>by refine e0_5 hh ?_;try clear hh;intro a1 a2 a3 a4 a5;exact⟨a1,a2,fun D L e1 e2 e3=>⟨_,comp1 T keep val e1 e2 hnc hkind hx hz (a3 D L e1 e2) (a4 D L e1 e2).1 (a4 D L e1 e2).2,fun σ' hpat=>by
  obtain ⟨_,m,e⟩:=hpat
  subst e
  refine⟨_,m,ins_D e2,ins_L,?_⟩
  rw[res_ins e1 e2,List.take_length]
  exact a5⟩⟩) hclos hkind hnames hfold
theorem jn_nil:∀ l:List (List Nat),jn [] l=l.flatten
 |[]=>rfl
 |[x]=>(List.append_nil x).symm
 |x::y::r=>by
  show x++[]++jn [] (y::r)=_
  rw[jn_nil (y::r),List.append_nil]
  rfl
theorem lens_nil (l:List (List Nat)) (n:Nat):l.foldl (fun n x=>n+x.length+([]:List Nat).length) n=n+l.flatten.length:=by
 induction l generalizing n with
 |nil=>simp
 |cons x l ih=>rw[List.foldl_cons,ih];simp;lia
noncomputable def prepL (f:Int→Option (List Nat)) (g:Int→Bool) (x:List Nat):List Nat:=((x.filter fun c:Nat => !g c).map (b3L f)).flatten
noncomputable def kP (g:Int→Bool):PV→Bool
 | .str (c::_) => !g c
 |_=>false
noncomputable def vP (f:Int→Option (List Nat)):PV→PV
 | .str (c::_)=>.str (b3L f c)
 |p=>p
theorem prep_signs (f:Int→Option (List Nat)) (g:Int→Bool):∀ x:List Nat,((signs x).filter (kP g)).map (vP f)=stsL ((x.filter fun c:Nat => !g c).map (b3L f))
 |[]=>rfl
 |c::x=>by
  have ih:=prep_signs f g x
  show((PV.str [c]::signs x).filter (kP g)).map (vP f)=_
  rw[List.filter_cons,List.filter_cons]
  show List.map _ (if (!g c)=true then _ else _)=_
  cases h:g c
  ·simp only[Bool.not_false,if_true,List.map_cons,ih];rfl
  ·simpa using ih
theorem FnC.kp {W:Wd}{a:Addr}{q:Str}{st:Stmt} (F:Fn W a q st){σ:Sig}:KP W .frame (.ref a) σ:=by refine e5_1 (F.fn) ?_;intro _ _ _ _ _ f;exact f.kp
theorem E_strL (l:List Nat){x:Str}{n:Nat}{pos:Pos}{K:PV→Sig→Prop} (h:K (.str l) σ) (e:autoParam (x.cps.toList=l) tR):E W k env (.Constant (.str x) n pos) σ K:=E_str (by rw[e];exact h)
end
noncomputable def cellsAt:Nat→List (Option PV)→Sig→Sig
 |_,[],σ=>σ
 |n,c::r,σ=>cellsAt (n+1) r (σ.upd n (.cell c))
noncomputable def fcs (σ:Sig) (L:Nat) (m:Str→Option PV) (cs:List (Option PV)):Sig:=cellsAt (L+1) cs (σ.upd L (.frame m))
theorem cellsAt_lt:∀ {cs:List (Option PV)}{n:Nat}{σ:Sig}{a:Nat},a<n→cellsAt n cs σ a=σ a
 |[],_,_,_,_=>rfl
 |c::r,n,σ,a,h=>(cellsAt_lt (cs:=r) (Nat.lt_succ_of_lt h)).trans (upd_ne (Nat.ne_of_lt h))
theorem cellsAt_ge:∀ {cs:List (Option PV)}{n:Nat}{σ:Sig}{a:Nat},n+cs.length≤a→cellsAt n cs σ a=σ a
 |[],_,_,_,_=>rfl
 |c::r,n,σ,a,h=>by
  rw[List.length_cons] at h
  exact(cellsAt_ge (cs:=r) (by lia)).trans (upd_ne (Nat.ne_of_gt (show n<a by lia)))
theorem cellsAt_get:∀ {cs:List (Option PV)}{n:Nat}{σ:Sig}{i:Nat}{c:Option PV},cs[i]? = some c→cellsAt n cs σ (n+i)=some (.cell c)
 |[],_,_,_,_,h=>by simp at h
 |c'::r,n,σ,0,c,h=>by
  obtain rfl:c'=c:=by simpa using h
  exact(cellsAt_lt (cs:=r) (Nat.lt_succ_self _)).trans (upd_same _ _ _)
 |c'::r,n,σ,i+1,c,h=>by
  have:=cellsAt_get (cs:=r) (n:=n+1) (σ:=σ.upd n (.cell c')) (i:=i) (c:=c) (by simpa using h)
  rw[show n+(i+1)=n+1+i by lia];exact this
theorem cellsAt_swap:∀ {cs:List (Option PV)}{n:Nat}{σ:Sig}{a:Nat}{o:AObj},(a<n∨n+cs.length≤a)→(cellsAt n cs σ).upd a o=cellsAt n cs (σ.upd a o)
 |[],_,_,_,_,_=>rfl
 |c::r,n,σ,a,o,h=>by
  rw[List.length_cons] at h
  show(cellsAt (n+1) r (σ.upd n (.cell c))).upd a o=cellsAt (n+1) r ((σ.upd a o).upd n (.cell c))
  rw[cellsAt_swap (by lia),upd_comm (show n≠a by lia)]
theorem cellsAt_set:∀ {cs:List (Option PV)}{n:Nat}{σ:Sig}{i:Nat}{c:Option PV},i<cs.length→(cellsAt n cs σ).upd (n+i) (.cell c)=cellsAt n (cs.set i c) σ
 |[],_,_,_,_,h=>by simp at h
 |c'::r,n,σ,0,c,h=>by
  show(cellsAt (n+1) r (σ.upd n (.cell c'))).upd n (.cell c)=cellsAt (n+1) r (σ.upd n (.cell c))
  rw[cellsAt_swap (.inl (Nat.lt_succ_self _)),upd_upd]
 |c'::r,n,σ,i+1,c,h=>by
  have:=cellsAt_set (cs:=r) (n:=n+1) (σ:=σ.upd n (.cell c')) (i:=i) (c:=c) (by simpa using h)
  rw[show n+(i+1)=n+1+i by lia];exact this
theorem cellsAt_res:∀ {cs:List (Option PV)}{n L:Nat}{σ:Sig},L≤n→res L (cellsAt n cs σ)=res L σ
 |[],_,_,_,_=>rfl
 |c::r,n,L,σ,h=>by
  show res L (cellsAt (n+1) r (σ.upd n (.cell c)))=_
  rw[cellsAt_res (Nat.le_succ_of_le h),res_upd_ge h]
section
variable {σ:Sig}{L:Nat}{m:Str→Option PV}{cs:List (Option PV)}
theorem fcs_L:fcs σ L m cs L=some (.frame m):=(cellsAt_lt (Nat.lt_succ_self _)).trans (upd_same _ _ _)
theorem fcs_c {i:Nat}{c:Option PV} (h:cs[i]? = some c):fcs σ L m cs (L+1+i)=some (.cell c):=cellsAt_get h
theorem fcs_lt {a:Nat} (h:a<L):fcs σ L m cs a=σ a:=(cellsAt_lt (Nat.lt_succ_of_lt h)).trans (upd_ne (Nat.ne_of_lt h))
theorem fcs_gt {a:Nat} (h:L+cs.length<a):fcs σ L m cs a=σ a:=(cellsAt_ge (by lia)).trans (upd_ne (Nat.ne_of_gt (show L<a by lia)))
theorem fcs_setL {m':Str→Option PV}:(fcs σ L m cs).upd L (.frame m')=fcs σ L m' cs:=by
 unfold fcs
 rw[cellsAt_swap (.inl (Nat.lt_succ_self _)),upd_upd]
theorem fcs_setC {i:Nat}{c:Option PV} (h:i<cs.length):(fcs σ L m cs).upd (L+1+i) (.cell c)=fcs σ L m (cs.set i c):=cellsAt_set h
theorem fcs_res (h:Fresh σ L):res L (fcs σ L m cs)=σ:=by
 unfold fcs
 rw[cellsAt_res (Nat.le_succ _),res_upd_ge (Nat.le_refl _),res_fresh h]
theorem fcs_resr:res L (fcs σ L m cs)=res L σ:=by
 unfold fcs
 rw[cellsAt_res (Nat.le_succ _),res_upd_ge (Nat.le_refl _)]
theorem fcs_lt' {a:Nat}{o:AObj} (h:a<L):(fcs σ L m cs).upd a o=fcs (σ.upd a o) L m cs:=by
 unfold fcs
 rw[cellsAt_swap (.inl (Nat.lt_succ_of_lt h)),upd_comm (Nat.ne_of_gt h)]
theorem fcs_gt' {a:Nat}{o:AObj} (h:L+cs.length<a):(fcs σ L m cs).upd a o=fcs (σ.upd a o) L m cs:=by
 unfold fcs
 rw[cellsAt_swap (.inr (by lia)),upd_comm (show L≠a by lia)]
theorem fcs_fresh {a:Nat} (h:Fresh (fcs σ L m cs) a):L+cs.length<a:=by
 rcases Nat.lt_or_ge (L+cs.length) a with q |q
 ·exact q
 ·cases hc:cs.length with
  |zero =>
   have:=h L (by rw[hc] at q;exact q)
   rw[fcs_L] at this;cases this
  |succ n =>
   have hi:n<cs.length:=eqk hc
   have:=h (L+1+n) (by rw[hc] at q;exact Nat.le_trans q (Nat.le_of_eq (by rw[Nat.add_assoc,Nat.add_comm 1 n])))
   rw[fcs_c (List.getElem?_eq_getElem hi)] at this;cases this
theorem fcs_freshσ {a:Nat} (h:Fresh (fcs σ L m cs) a):Fresh σ a:=fun b hb=>by
 have h1:=fcs_fresh h
 have:=h b hb
 rwa [fcs_gt (Nat.lt_of_lt_of_le h1 hb)] at this
end
theorem cellsUpd_at:∀ {names:List (Str×NameKind)}{n:Nat}{σ:Sig},cellsUpd n names σ=cellsAt n (List.replicate (names.countP fun x=>x.2 == .cell) none) σ
 |[],_,_=>rfl
 |(x,kd)::r,n,σ=>by
  unfold cellsUpd
  rw[List.countP_cons]
  cases h:(kd==NameKind.cell) with
  |true=>simp only[h,if_true];rw[List.replicate_succ];exact cellsUpd_at
  |false=>simp only[h,Bool.false_eq_true,if_false];exact cellsUpd_at
def BindsAt (sc:Scope):List (Str×PV×Option Nat)→Prop
 |[]=>True
 |(x,_,none)::r=>sc.names.lookup x=some .local∧BindsAt sc r
 |(x,_,some i)::r=>(sc.names.lookup x=some .cell∧∀ L,(cellsFrom (L+1) sc.names []).lookup x=some (L+1+i))∧BindsAt sc r
noncomputable def bm':(Str→Option PV)→List (Str×PV×Option Nat)→Str→Option PV
 |m,[]=>m
 |m,(x,p,none)::r=>bm' (fset m x p) r
 |m,(_,_,some _)::r=>bm' m r
noncomputable def bc':List (Option PV)→List (Str×PV×Option Nat)→List (Option PV)
 |cs,[]=>cs
 |cs,(_,_,none)::r=>bc' cs r
 |cs,(_,p,some i)::r=>bc' (cs.set i (some p)) r
noncomputable def inB (n:Nat):List (Str×PV×Option Nat)→Bool
 |[]=>true
 |(_,_,none)::r=>inB n r
 |(_,_,some i)::r=>decide (i<n)&&inB n r
section
variable {W:Wd}{k:Nat}{σ:Sig}{P:FM→Prop}{x y:List Nat}
theorem SB_fcs (T:Top W){env:Env}{L:Addr}{cl:List (Str×Addr)} (hk:env.scope.kind=.function) (hL:env.locals=L) (hcl:env.cells=cellsFrom (L+1) env.scope.names []):∀ {bp:List (Str×PV×Option Nat)}{m:Str→Option PV}{cs:List (Option PV)}{K:Sig→Prop},
  BindsAt env.scope bp→inB cs.length bp=true→K (fcs σ L (bm' m bp) (bc' cs bp))→SB W k env (bp.map fun b=>(b.1,b.2.1)) (fcs σ L m cs) K
 |[],_,_,_,_,_,h=>h
 |(x,p,none)::r,m,cs,K,hb,hi,h=>by
  subst hL
  refine S_local T hk hb.1 fcs_L ?_
  rw[fcs_setL]
  exact SB_fcs (cl:=cl) T hk rfl hcl hb.2 hi h
 |(x,p,some i)::r,m,cs,K,hb,hi,h=>by
  have hi:(decide (i<cs.length)&&inB cs.length r)=true:=hi
  rw[Bool.and_eq_true,decide_eq_true_eq] at hi
  refine S_cell T hk hb.1.1 (by rw[hcl];exact hb.1.2 L) (fcs_c (List.getElem?_eq_getElem hi.1)) ?_
  rw[fcs_setC hi.1]
  exact SB_fcs (cl:=cl) T hk hL hcl hb.2 (by rw[List.length_set];exact hi.2) h
abbrev jF (L:Nat) (K:PV→Sig→Prop) (fl:AFlow) (σ:Sig):Prop:=K (retOf fl) (res L σ)
theorem CC_fcs (T:Top W){a:Addr}{fd:FuncData}{body:List Stmt} (f:FnAt W a fd body){args kv:List PV}{kn:List Str}{K:PV→Sig→Prop} (bp:List (Str×PV×Option Nat)) (n:Nat)
  (hb:∀ vs ws,G W k (fun F=>VRels F args vs∧VRels F kv ws) BRels (bindArgs fd ⟨vs,kn.zip ws⟩) σ fun b s=>b=(bp.map fun b=>(b.1,b.2.1))∧s=σ) (hk:fd.scope.kind=.function)
  (hl:BindsAt fd.scope bp) (hn:(fd.scope.names.countP fun x=>x.2 == .cell)=n) (hi:inB n bp=true)
  (h:∀ L,Fresh σ L→XS W k (envFn fd [] L a) body (fcs σ L (bm' (fun _=>none) bp) (bc' (List.replicate n none) bp)) (jF L K)):CC W (k+1) (.ref a) args kn kv σ K :=
 CC_fn f fun vs ws=>(hb vs ws).imp fun b s hpat L hL=>by
  refine e0_2 hpat ?_;try clear hpat;intro e1 e2
  subst e1 e2
  rw[cellsUpd_at,hn]
  exact SB_fcs (env:=envFn fd [] L a) (cl:=[]) T hk rfl rfl hl (by rw[List.length_replicate];exact hi) ((h L hL).imp fun fl σ₃ z=>⟨_,.inl rfl,z⟩)
variable {env:Env}
theorem E_l {L:Addr}{cs:List (Option PV)}{x:Str}{pos:Pos}{m:Str→Option PV}{p:PV}{K:PV→Sig→Prop} (h:K p (fcs σ L m cs)) (hm:autoParam (m x=some p) tR) (hL:autoParam (env.locals=L) tR) (hk:autoParam (env.scope.kind=.function) tR) (hl:autoParam (env.kindOf x=some .local) tR)
  (hd:autoParam ((x==("__debug__":Str))=false) tD):E W k env (.Name x pos) (fcs σ L m cs) K:=by subst hL;exact E_name (L_local hk hl fcs_L hm h) hd
theorem E_c (i:Nat){L:Addr}{cs:List (Option PV)}{x:Str}{pos:Pos}{m:Str→Option PV}{p:PV}{K:PV→Sig→Prop} (h:K p (fcs σ L m cs)) (hm:autoParam (cs[i]? = some (some p)) tR) (hc:autoParam (env.cells.lookup x=some (L+1+i)) tR) (hk:autoParam (env.scope.kind=.function) tR) (hl:autoParam (env.kindOf x=some .cell) tR)
  (hd:autoParam ((x==("__debug__":Str))=false) tD):E W k env (.Name x pos) (fcs σ L m cs) K:=E_name (L_cell hk hl hc (fcs_c hm) h) hd
abbrev jSl (W:Wd) (k:Nat) (env:Env) (L:Nat) (x:Str) (rest:List Stmt) (K:AFlow→Sig→Prop) (p:PV) (σ₁:Sig):Prop:=∃ (σ₀:Sig) (m:Str→Option PV) (cs:List (Option PV)),σ₁=fcs σ₀ L m cs∧XS W k env rest (fcs σ₀ L (fset m x p) cs) K
abbrev jSc (W:Wd) (k:Nat) (env:Env) (L i:Nat) (rest:List Stmt) (K:AFlow→Sig→Prop) (p:PV) (σ₁:Sig):Prop:=∃ (σ₀:Sig) (m:Str→Option PV) (cs:List (Option PV)),σ₁=fcs σ₀ L m cs∧i<cs.length∧XS W k env rest (fcs σ₀ L m (cs.set i (some p))) K
theorem XS_setl (T:Top W){L:Nat}{x:Str}{value:Expr}{rest:List Stmt}{pos pos':Pos}{m₀:Str→Option PV}{cs₀:List (Option PV)}{K:AFlow→Sig→Prop} (h:E W k env value (fcs σ L m₀ cs₀) (jSl W k env L x rest K))
  (hL:autoParam (env.locals=L) tR) (hk:autoParam (env.scope.kind=.function) tR) (hl:autoParam (env.kindOf x=some .local) tR) (hsw:autoParam (swapsWith value (some (.Name x pos')) pos.line env=Pure.pure false) tR):XS W k env (.Assign [.Name x pos'] value pos::rest) (fcs σ L m₀ cs₀) K :=
 XS_cons (X_Assign (h.imp fun p σ₁ hpat=>by
  refine e3_2 hpat ?_;try clear hpat;intro σ₀ m cs e1 h2
  subst e1 hL
  refine S_local T hk hl fcs_L ?_
  rw[fcs_setL]
  exact h2) hsw)
theorem XS_setc (T:Top W) (i:Nat){L:Nat}{x:Str}{value:Expr}{rest:List Stmt}{pos pos':Pos}{m₀:Str→Option PV}{cs₀:List (Option PV)}{K:AFlow→Sig→Prop} (h:E W k env value (fcs σ L m₀ cs₀) (jSc W k env L i rest K))
  (hc:autoParam (env.cells.lookup x=some (L+1+i)) tR) (hk:autoParam (env.scope.kind=.function) tR) (hl:autoParam (env.kindOf x=some .cell) tR) (hsw:autoParam (swapsWith value (some (.Name x pos')) pos.line env=Pure.pure false) tR):XS W k env (.Assign [.Name x pos'] value pos::rest) (fcs σ L m₀ cs₀) K :=
 XS_cons (X_Assign (h.imp fun p σ₁ hpat=>by
  refine e3_3 hpat ?_;try clear hpat;intro σ₀ m cs e1 hi h2
  subst e1
  refine S_cell T hk hl hc (fcs_c (List.getElem?_eq_getElem hi)) ?_
  rw[fcs_setC hi]
  exact h2) hsw)
theorem XS_augl (T:Top W){L:Addr}{x:Str}{op:Operator}{value:Expr}{rest:List Stmt}{pos pos':Pos}{K:AFlow→Sig→Prop}{m:Str→Option PV}{cs:List (Option PV)}{a:PV}
  (h:E W k env value (fcs σ L m cs) (jBo W k (inplaceOp op) a (jSl W k env L x rest K)))
  (hm:autoParam (m x=some a) tR) (hL:autoParam (env.locals=L) tR) (hk:autoParam (env.scope.kind=.function) tR) (hl:autoParam (env.kindOf x=some .local) tR):XS W k env (.AugAssign (.Name x pos') op value pos::rest) (fcs σ L m cs) K:=XS_cons (X_AugName (by
  subst hL
  exact L_local hk hl fcs_L hm (h.imp fun b σ₁ z va vb=>(z va vb).imp fun p σ₂ hpat=>by
   refine e3_2 hpat ?_;try clear hpat;intro σ₀ m cs e h2
   subst e
   refine S_local T hk hl fcs_L ?_
   rw[fcs_setL]
   exact h2)))
theorem S_l (T:Top W){L:Addr}{x:Str}{m:Str→Option PV}{cs:List (Option PV)}{p:PV}{K:Unit→Sig→Prop} (h:K () (fcs σ L (fset m x p) cs)) (hL:autoParam (env.locals=L) tR) (hk:autoParam (env.scope.kind=.function) tR) (hl:autoParam (env.kindOf x=some .local) tR):O1 W k REq (storeName env x) p (fcs σ L m cs) K:=by
 subst hL
 refine S_local T hk hl fcs_L ?_
 rw[fcs_setL];exact h
theorem S_c (T:Top W) (i:Nat){L:Addr}{x:Str}{m:Str→Option PV}{cs:List (Option PV)}{p:PV}{K:Unit→Sig→Prop} (h:K () (fcs σ L m (cs.set i (some p)))) (hi:autoParam (Nat.blt i cs.length=true) tR) (hc:autoParam (env.cells.lookup x=some (L+1+i)) tR) (hk:autoParam (env.scope.kind=.function) tR) (hl:autoParam (env.kindOf x=some .cell) tR):O1 W k REq (storeName env x) p (fcs σ L m cs) K:=by
 have hi:i<cs.length:=Nat.le_of_ble_eq_true hi
 refine S_cell T hk hl hc (fcs_c (List.getElem?_eq_getElem hi)) ?_
 rw[fcs_setC hi];exact h
end
section
variable {W:Wd}{k:Nat}{σ:Sig}{env:Env}{P:FM→Prop}{x y:List Nat}
theorem fcs_freshm {L:Nat}{m m':Str→Option PV}{cs:List (Option PV)}{a:Nat} (h:Fresh (fcs σ L m cs) a):Fresh (fcs σ L m' cs) a:=fun b hb=>by
 have h1:=fcs_fresh h
 rw[fcs_gt (Nat.lt_of_lt_of_le h1 hb)]
 exact fcs_freshσ h b hb
theorem ins_old {σ₁:Sig}{D L a:Nat}{acc:List PV}{m:Str→Option PV}{o:AObj} (hf:Fresh σ₁ D) (hL:D<L) (h:σ₁ a=some o):ins σ₁ D L acc m a=some o:=by
 have ha:a<D:=by
  rcases Nat.lt_or_ge a D with q |q
  ·exact q
  ·have:=hf a q;rw[h] at this;cases this
 unfold ins
 rw[upd_ne (Nat.ne_of_lt (Nat.lt_trans ha hL)),upd_ne (Nat.ne_of_lt ha)];exact h
theorem E_f (i:Nat){L D L':Nat}{m m':Str→Option PV}{cs:List (Option PV)}{acc:List PV}{x:Str}{pos:Pos}{p:PV}{K:PV→Sig→Prop} (hf:Fresh (fcs σ L m cs) D) (hD:D<L') (h:K p (ins (fcs σ L m cs) D L' acc m')) (hm:autoParam (cs[i]? = some (some p)) tR)
  (hc:autoParam (env.cells.lookup x=some (L+1+i)) tR) (hk:autoParam (env.scope.kind=.function) tR) (hl:autoParam (env.kindOf x=some .cell) tR) (hd:autoParam ((x==("__debug__":Str))=false) tD):E W k env (.Name x pos) (ins (fcs σ L m cs) D L' acc m') K :=
 E_name (L_cell hk hl hc (ins_old hf hD (fcs_c hm)) h) hd
theorem E_m {D L':Nat}{m':Str→Option PV}{acc:List PV}{x:Str}{pos:Pos}{p:PV}{K:PV→Sig→Prop} (h:K p (ins σ D L' acc m')) (hm:autoParam (m' x=some p) tR)
  (hL:autoParam (env.locals=L') tR) (hk:autoParam (env.scope.kind=.function) tR) (hl:autoParam (env.kindOf x=some .local) tR) (hd:autoParam ((x==("__debug__":Str))=false) tD):E W k env (.Name x pos) (ins σ D L' acc m') K:=by subst hL;exact E_name (L_local hk hl ins_L hm h) hd
def Makes (W:Wd) (k:Nat) (elt target:Expr) (ifs:List Expr) (gens:List Comprehension) (scope:Scope) (pos:Pos) (items:List PV) (SrcS:Sig→Prop) (cl:List (Str×Addr)) (env:Env) (σ₁:Sig) (r:List PV):Prop :=
 ∀ D L',Fresh σ₁ D→D<L'→∃ J,CompIn W k elt target ifs gens scope pos items SrcS (cenvOf scope cl L' env) D σ₁ J∧∀ σ',J items.length σ'→∃ m',σ' D=some (.list r)∧σ' L'=some (.frame m')∧res D σ'=σ₁
abbrev jMk (W:Wd) (k:Nat) (env:Env) (elt target:Expr) (ifs:List Expr) (gens:List Comprehension) (scope:Scope) (pos:Pos) (items:List PV) (SrcS:Sig→Prop) (cl:List (Str×Addr)) (r:List PV) (K:PV→Sig→Prop) (q:PV) (σ₁:Sig):Prop:=Itbl W q items SrcS∧SrcS σ₁∧Makes W k elt target ifs gens scope pos items SrcS cl env σ₁ r∧K (.lst r) σ₁
theorem E_Makes (T:Top W){elt target iter:Expr}{ifs:List Expr}{rest:List Comprehension}{scope:Scope}{pos:Pos}{cl:List (Str×Addr)} (items:List PV) (SrcS:Sig→Prop) (r:List PV){K:PV→Sig→Prop}
  (h:E W k env iter σ (jMk W k env elt target ifs (⟨target,iter,ifs,0⟩::rest) scope pos items SrcS cl r K))
  (hclos:autoParam (closureFor scope env=Pure.pure cl) tR) (hkind:autoParam (scope.kind=.function) tR) (hnames:autoParam (∀ x∈scope.names,x.2=.local→scope.names.lookup x.1=some .local) tD)
  (hfold:autoParam (∀ x,foldedSetIterable iter env x=Pure.pure x) tI):E W k env (.ListComp elt (⟨target,iter,ifs,0⟩::rest) scope pos) σ K :=
 E_ListComp T items SrcS (h.imp fun q σ₁ ⟨a1,a2,a3,a5⟩=>⟨a1,a2,fun D L e1 e2 e3=>by
  refine e1_2 (a3 D L e1 e2) ?_;intro J b1 b2
  refine⟨J,b1,fun σ' hJ=>?_⟩
  refine e1_3 (b2 σ' hJ) ?_;intro m c1 c2 c3
  exact⟨r,m,c1,c2,by rw[c3];exact a5⟩⟩) hclos hkind hnames hfold
theorem XS_Makes (T:Top W){x:Str}{elt target iter:Expr}{ifs:List Expr}{rest:List Comprehension}{stmts:List Stmt}{scope:Scope}{pos p' pos':Pos}{cl:List (Str×Addr)}{L:Nat}{m₀:Str→Option PV}{cs₀:List (Option PV)} (items:List PV) (SrcS:Sig→Prop) (r:List PV){K:AFlow→Sig→Prop}
  (h:E W k env iter (fcs σ L m₀ cs₀) fun q σ₁=>∃ (σ₀:Sig) (m:Str→Option PV) (cs:List (Option PV)),σ₁=fcs σ₀ L m cs∧Itbl W q items SrcS∧SrcS σ₁∧Makes W k elt target ifs (⟨target,iter,ifs,0⟩::rest) scope p' items SrcS cl env σ₁ r ∧
   XS W k env stmts (fcs σ₀ L (fset m x (.lst r)) cs) K)
  (hL:autoParam (env.locals=L) tR) (hk:autoParam (env.scope.kind=.function) tR) (hl:autoParam (env.kindOf x=some .local) tR)
  (hsw:autoParam (swapsWith (.ListComp elt (⟨target,iter,ifs,0⟩::rest) scope p') (some (.Name x pos')) pos.line env=Pure.pure true) tR)
  (hclos:autoParam (closureFor scope env=Pure.pure cl) tR) (hkind:autoParam (scope.kind=.function) tR) (hnames:autoParam (∀ x∈scope.names,x.2=.local→scope.names.lookup x.1=some .local) tD)
  (hfold:autoParam (∀ x,foldedSetIterable iter env x=Pure.pure x) tI):XS W k env (.Assign [.Name x pos'] (.ListComp elt (⟨target,iter,ifs,0⟩::rest) scope p') pos::stmts) (fcs σ L m₀ cs₀) K:=by
 subst hL
 refine XS_cons (X_AssignComp T items SrcS (h.imp fun q σ₁ hpat=>?_) hsw hclos hkind hnames hfold)
 refine e3_5 hpat ?_;try clear hpat;intro σ₀ m cs e a1 a2 a3 a5
 refine⟨a1,a2,fun D L' e1 e2 e3=>?_⟩
 subst e
 refine e1_2 (a3 D L' e1 e2) ?_;intro J b1 b2
 refine⟨J,b1,fun σ' hJ=>?_⟩
 refine e1_3 (b2 σ' hJ) ?_;intro m' c1 c2 c3
 refine⟨r,m',c1,c2,?_⟩
 rw[c3]
 have hfr:=fcs_fresh e1
 have hLD:env.locals<D:=Nat.lt_of_le_of_lt (Nat.le_add_right _ _) hfr
 have hLL:env.locals<L':=Nat.lt_trans hLD e2
 refine S_local T hk hl ((upd_ne (Nat.ne_of_lt hLL)).trans fcs_L) ?_
 refine⟨m',(upd_ne (Nat.ne_of_gt hLL)).trans (upd_same _ _ _),?_⟩
 rw[upd_comm (Nat.ne_of_gt hLL),res_upd_ge (Nat.le_of_lt e2),fcs_setL,res_fresh (fcs_freshm e1)]
 exact a5
theorem Makes1 (T:Top W){elt iter:Expr}{x:Str}{px:Pos}{ifs:List Expr}{scope:Scope}{pos:Pos}{cl:List (Str×Addr)}{items:List PV}{SrcS:Sig→Prop}{σ₁:Sig} (keep:PV→Bool) (val:PV→PV){r:List PV} (hr:(items.filter keep).map val=r)
  (hz:items.length≤1000000) (hsrc:∀ D L,Fresh σ₁ D→D<L→∀ acc m,SrcS (ins σ₁ D L acc m))
  (h:∀ D L,Fresh σ₁ D→D<L→(∀ p∈items,∀ acc m,CI W k (cenvOf scope cl L env) ifs (ins σ₁ D L acc (fset m x p)) fun b σ'=>σ'=ins σ₁ D L acc (fset m x p)∧b=keep p) ∧
    ∀ p∈items,keep p=true→∀ acc m,E W k (cenvOf scope cl L env) elt (ins σ₁ D L acc (fset m x p)) fun q σ'=>σ'=ins σ₁ D L acc (fset m x p)∧q=val p)
  (hnc:autoParam ((scope.names.all fun x => !(x.2 == .cell))=true) tR) (hk:autoParam (scope.kind=.function) tR) (hx:autoParam (scope.names.lookup x=some .local) tR) :
  Makes W k elt (.Name x px) ifs [⟨.Name x px,iter,ifs,0⟩] scope pos items SrcS cl env σ₁ r:=fun D L e1 e2 =>
 ⟨_,comp1 T keep val e1 e2 hnc hk hx hz (hsrc D L e1 e2) (h D L e1 e2).1 (h D L e1 e2).2,fun σ' hpat=>by
  obtain ⟨_,m,e⟩:=hpat
  rw[List.take_length,hr] at e
  subst e
  exact⟨m,ins_D e2,ins_L,res_ins e1 e2⟩⟩
theorem flatMap_take {items:List PV}{g:PV→List PV}{i:Nat}{p:PV} (h:items[i]? = some p):(items.take (i+1)).flatMap g=(items.take i).flatMap g++g p:=by
 rw[List.take_add_one,h,List.flatMap_append];simp
theorem flatMap_bound {items:List PV}{g:PV→List PV}{i:Nat}{p:PV} (h:items[i]? = some p):((items.take i).flatMap g).length+(g p).length≤(items.flatMap g).length:=by
 have e:items.flatMap g=(items.take (i+1)).flatMap g++(items.drop (i+1)).flatMap g:=by rw[← List.flatMap_append,List.take_append_drop]
 rw[e,List.length_append,flatMap_take h,List.length_append];exact Nat.le_add_right _ _
theorem filter_map_take_len {items:List PV}{keep:PV→Bool}{val:PV→PV}{i:Nat}:(((items.take i).filter keep).map val).length≤((items.filter keep).map val).length:=by
 rw[List.length_map,List.length_map]
 exact((List.take_sublist i items).filter keep).length_le
theorem Makes2 (T:Top W){elt iter iter2:Expr}{x y:Str}{px py:Pos}{ifs:List Expr}{scope:Scope}{pos:Pos}{cl:List (Str×Addr)}{items:List PV}{SrcS Src2:Sig→Prop}{σ₁:Sig} (items2:PV→List PV) (q2:PV→PV) (keep:PV→PV→Bool) (val:PV→PV→PV){r:List PV}
  (hr:(items.flatMap fun p=>((items2 p).filter (keep p)).map (val p))=r) (hz:r.length≤1000000)
  (hsrc:∀ D L,Fresh σ₁ D→D<L→∀ acc m,SrcS (ins σ₁ D L acc m)) (hsrc2:∀ D L,Fresh σ₁ D→D<L→∀ acc m,Src2 (ins σ₁ D L acc m))
  (it2:∀ D L,Fresh σ₁ D→D<L→∀ p∈items,∀ acc m,m x=some p→E W k (cenvOf scope cl L env) iter2 (ins σ₁ D L acc m) fun q σ'=>σ'=ins σ₁ D L acc m∧q=q2 p∧Itbl W (q2 p) (items2 p) Src2)
  (h:∀ D L,Fresh σ₁ D→D<L→(∀ p∈items,∀ q∈items2 p,∀ acc m,m x=some p→m y=some q→CI W k (cenvOf scope cl L env) ifs (ins σ₁ D L acc m) fun b σ'=>σ'=ins σ₁ D L acc m∧b=keep p q) ∧
    ∀ p∈items,∀ q∈items2 p,keep p q=true→∀ acc m,m x=some p→m y=some q→E W k (cenvOf scope cl L env) elt (ins σ₁ D L acc m) fun v σ'=>σ'=ins σ₁ D L acc m∧v=val p q)
  (hxy:autoParam (x≠y) tD) (hnc:autoParam ((scope.names.all fun x => !(x.2 == .cell))=true) tR) (hk:autoParam (scope.kind=.function) tR) (hx:autoParam (scope.names.lookup x=some .local) tR) (hy:autoParam (scope.names.lookup y=some .local) tR)
  (hfold:autoParam (∀ L v,foldedSetIterable iter2 (cenvOf scope cl L env) v=Pure.pure v) tI) :
  Makes W k elt (.Name x px) [] [⟨.Name x px,iter,[],0⟩,⟨.Name y py,iter2,ifs,0⟩] scope pos items SrcS cl env σ₁ r:=fun D L e1 e2=>by
 subst hr
 refine⟨fun i σ'=>i≤items.length∧∃ m,σ'=ins σ₁ D L ((items.take i).flatMap fun p=>((items2 p).filter (keep p)).map (val p)) m,?_,fun σ' hpat=>by
  obtain ⟨_,m,e⟩:=hpat
  rw[List.take_length] at e
  subst e
  exact⟨m,ins_D e2,ins_L,res_ins e1 e2⟩⟩
 exact {
  start:=⟨Nat.zero_le _,fun _=>none,by rw[cellsUpd_none hnc];rfl⟩
  src:=fun i σ' ⟨_,m,e⟩=>e▸hsrc D L e1 e2 _ _
  turn:=fun i p σ' hp hpat=>by
   obtain ⟨hi,m,e⟩:=hpat
   subst e
   have hm:p∈items:=List.mem_of_getElem? hp
   have hlt:i<items.length:=by
    rcases Nat.lt_or_ge i items.length with q |q
    ·exact q
    ·rw[List.getElem?_eq_none q] at hp;cases hp
   refine AT_name (S_local T (by show scope.kind=_;exact hk) (lookup_relabel_local hx) ins_L ?_)
   show CI W k _ [] ((ins σ₁ D L _ m).upd L (.frame (fset m x p))) _
   rw[ins_set]
   refine CI_nil ?_
   rw[if_pos rfl]
   refine CB_for (q₀:=q2 p) T rfl (items2 p) Src2 (fun j σ'=>∃ m,m x=some p∧σ'=ins σ₁ D L (((items.take i).flatMap fun p=>((items2 p).filter (keep p)).map (val p))++(((items2 p).take j).filter (keep p)).map (val p)) m) ?_ ?_ ?_ ?_ (hfold L)
   ·refine(it2 D L e1 e2 p hm _ _ (fset_same _ _ _)).imp fun q σ'' ⟨a1,a2,a3⟩=>?_
    exact⟨a2,a3,fset m x p,fset_same _ _ _,by rw[a1];simp⟩
   ·intro j σ'' ⟨m,_,e⟩;exact e▸hsrc2 D L e1 e2 _ _
   ·intro j q σ'' hq ⟨m,hmx,e⟩
    subst e
    have hm2:q∈items2 p:=List.mem_of_getElem? hq
    refine AT_name (S_local T (by show scope.kind=_;exact hk) (lookup_relabel_local hy) ins_L ?_)
    show CI W k _ ifs ((ins σ₁ D L _ m).upd L (.frame (fset m y q))) _
    rw[ins_set]
    have hx':fset m y q x=some p:=(fset_ne hxy).trans hmx
    refine((h D L e1 e2).1 p hm q hm2 _ _ hx' (fset_same _ _ _)).imp fun b σ₂ ⟨b1,b2⟩=>?_
    subst b1 b2
    cases hk':keep p q with
    |false=>exact⟨fset m y q,hx',by rw[take_succ_fm hq,hk'];simp⟩
    |true =>
     rw[if_pos rfl]
     refine CB_elt T rfl (((h D L e1 e2).2 p hm q hm2 hk' _ _ hx' (fset_same _ _ _)).imp fun v σ₃ ⟨c1,c2⟩=>?_)
     subst c1 c2
     refine⟨_,ins_D e2,?_,fset m y q,hx',by rw[ins_acc e2,take_succ_fm hq,hk',if_pos rfl,List.append_assoc]⟩
     rw[List.length_append]
     have h1:=flatMap_bound (g:=fun p=>((items2 p).filter (keep p)).map (val p)) hp
     have h2:=filter_map_take_len (items:=items2 p) (keep:=keep p) (val:=val p) (i:=j)
     have h1:((items.take i).flatMap fun p=>((items2 p).filter (keep p)).map (val p)).length+(((items2 p).filter (keep p)).map (val p)).length≤(items.flatMap fun p=>((items2 p).filter (keep p)).map (val p)).length:=h1
     lia
   ·intro σ'' ⟨m,hmx,e⟩
    exact⟨hlt,m,by rw[e,flatMap_take hp,List.take_length]⟩ }
theorem Makes1c (T:Top W){elt iter:Expr}{x:Str}{px:Pos}{scope:Scope}{pos:Pos}{cl:List (Str×Addr)}{items:List PV}{SrcS:Sig→Prop}{σ₁:Sig} (val:PV→PV){r:List PV} (hr:items.map val=r)
  (hz:items.length≤1000000) (hsrc:∀ D L,Fresh σ₁ D→D<L→∀ acc m c,SrcS (fcs (σ₁.upd D (.list acc)) L m [c]))
  (h:∀ D L:Nat,Fresh σ₁ D→D<L→∀ p∈items,∀ acc m,E W k (cenvOf scope cl L env) elt (fcs (σ₁.upd D (.list acc)) L m [some p]) fun q σ'=>σ'=fcs (σ₁.upd D (.list acc)) L m [some p]∧q=val p)
  (hnc:autoParam ((scope.names.countP fun x=>x.2 == .cell)=1) tR) (hk:autoParam (scope.kind=.function) tR) (hx:autoParam (∀ L,(cenvOf scope cl L env).kindOf x=some .cell) tI) (hc:autoParam (∀ L,(cenvOf scope cl L env).cells.lookup x=some (L+1)) tI) :
  Makes W k elt (.Name x px) [] [⟨.Name x px,iter,[],0⟩] scope pos items SrcS cl env σ₁ r:=fun (D:Nat) (L:Nat) e1 e2=>by
 subst hr
 have e2:D<L:=e2
 refine⟨fun i σ'=>i≤items.length∧∃ m c,σ'=fcs (σ₁.upd D (.list ((items.take i).map val))) L m [c],?_,fun σ' ⟨_,m,c,e⟩=>?_⟩
 ·exact {
   start:=⟨Nat.zero_le _,fun _=>none,none,by rw[cellsUpd_at,hnc];rfl⟩
   src:=fun i σ' ⟨_,m,c,e⟩=>e▸hsrc D L e1 e2 _ _ _
   turn:=fun i p σ' hp hpat=>by
    obtain ⟨hi,m,c,e⟩:=hpat
    subst e
    have hm:p∈items:=List.mem_of_getElem? hp
    have hlt:i<items.length:=by
     rcases Nat.lt_or_ge i items.length with q |q
     ·exact q
     ·rw[List.getElem?_eq_none q] at hp;cases hp
    refine AT_name (S_cell T (by show scope.kind=_;exact hk) (hx L) (hc L) (fcs_c (i:=0) rfl) ?_)
    refine CI_nil ?_
    rw[if_pos rfl]
    have e0:(fcs (σ₁.upd D (.list ((items.take i).map val))) L m [c]).upd (L+1) (.cell (some p))=fcs (σ₁.upd D (.list ((items.take i).map val))) L m [some p]:=fcs_setC (i:=0) (by simp)
    refine CB_elt T rfl ?_
    show E W k _ elt ((fcs (σ₁.upd D (.list ((items.take i).map val))) L m [c]).upd (L+1) (.cell (some p))) _
    rw[e0]
    refine(h D L e1 e2 p hm _ m).imp fun q σ₃ ⟨c1,c2⟩=>?_
    subst c1 c2
    refine⟨_,(fcs_lt e2).trans (upd_same _ _ _),?_,hlt,m,some p,?_⟩
    ·rw[List.length_map];exact Nat.le_trans (List.length_take_le _ _) (Nat.le_trans hi hz)
    ·rw[fcs_lt' e2,upd_upd,List.take_add_one,hp,List.map_append];rfl }
 ·rw[List.take_length] at e
  subst e
  refine⟨m,(fcs_lt e2).trans (upd_same _ _ _),fcs_L,?_⟩
  unfold fcs
  rw[cellsAt_res (Nat.le_succ_of_le (Nat.le_of_lt e2)),res_upd_ge (Nat.le_of_lt e2),res_upd_ge (Nat.le_refl _),res_fresh e1]
theorem E_freeze {e:Expr}{K:PV→Sig→Prop} (h:E W k env e σ fun p σ'=>∃ a l,p=.ref a∧σ' a=some (.list l)∧K (.lst l) (σ'.del a)):E W k env e σ K:=G.freeze (R:=VRel) (α:=Value) (t:=eval e env) h
theorem fcs_del {L a:Nat}{m:Str→Option PV}{cs:List (Option PV)} (h:L+cs.length<a):(fcs σ L m cs).del a=fcs (σ.del a) L m cs:=by
 funext b
 have key:∀ b:Nat,((fcs σ L m cs).del a) b=fcs (σ.del a) L m cs b:=fun b=>by
  by_cases q:b=a
  ·subst q
   rw[fcs_gt h]
   unfold Sig.del;simp
  ·have e:∀ τ:Sig,(τ.del a) b=τ b:=fun τ=>by unfold Sig.del;rw[if_neg q]
   rw[e]
   rcases Nat.lt_or_ge b L with q1 |q1
   ·rw[fcs_lt q1,fcs_lt q1,e]
   ·rcases Nat.lt_or_ge (L+cs.length) b with q2 |q2
    ·rw[fcs_gt q2,fcs_gt q2,e]
    ·rcases Nat.eq_or_lt_of_le q1 with rfl |q3
     ·rw[fcs_L,fcs_L]
     ·refine e1_1 (⟨b-(L+1),(Nat.add_sub_of_le (by lia)).symm⟩:∃ i,b=L+1+i) ?_;intro i zz1;subst zz1
      have hi:i<cs.length:=by lia
      rw[fcs_c (List.getElem?_eq_getElem hi),fcs_c (List.getElem?_eq_getElem hi)]
 exact key b
theorem upd_del {a:Addr}{o:AObj} (h:σ a=none):(σ.upd a o).del a=σ:=by
 funext b
 unfold Sig.del Sig.upd
 by_cases q:b=a
 ·subst q;simp[h]
 ·simp[q]
noncomputable def methAt (c n:Nat):Stmt:=(bodyOf (defAt c)).getD n (.Pass default)
noncomputable def names10:List (List Nat):=(["OPTIMIZED","NEWLOCALS","VARARGS","VARKEYWORDS","NESTED","GENERATOR","NOFREE","COROUTINE","ITERABLE_COROUTINE","ASYNC_GENERATOR"]:List String).map fun s=>s.toList.map Char.toNat
noncomputable def wordC (i:Nat):List Nat:=if i<10 then names10.getD i [] else hexL ((2^i:Nat):Int)
noncomputable def wordOf (f:Int→Option (List Nat)) (i:Nat):List Nat:=match f ((2^i:Nat):Int) with |some x=>x |none=>hexL ((2^i:Nat):Int)
structure L1 (W:Wd) where
 T:Top W
 B:Blts W
 cfn:Addr
 cfnG:W.mg "COMPILER_FLAG_NAMES"=some (.ref cfn)
 cfnF:Int→Option (List Nat)
 cfnT:TabF W cfn cfnF
 cfnW:∀ i,i<32→wordOf cfnF i=wordC i
 pf:Addr
 pfG:W.mg "pretty_flags"=some (.ref pf)
 pfF:Fn W pf "pretty_flags" (defAt 10)
theorem C_joinL {p:PV}{l:List (List Nat)}{K:PV→Sig→Prop} (hp:LstIs σ p (stsL l)) (hz:lens x l≤16000000) (h:K (.str (jn x l)) σ):C W k (.blt "str.join") [.str x,p] [] [] σ K:=C2 fun v va vb=>.id h fun A hA s hs hpat Q q=>by
 refine e0_3 hpat ?_;try clear hpat;intro e zz1 e2;refine e1_1 zz1 ?_;clear zz1;intro t e1
 obtain rfl:v=.builtin "str.join":=e
 refine e3_3 (hp.get hs e2) ?_;intro a vs n zz1 f r;subst zz1
 subst e1
 refine e1_2 (strs_vals r) ?_;intro ts e3 e4
 have hv:vs=(strValues ts).toArray:=by rw[← e3,Array.toArray_toList]
 subst hv
 exact SC.join (x:=st x) (isList_of f) e4 (joinOk_st x l hz) fun t' k'=>q _ _ rfl rfl rfl ⟨t',by rw[join_st];rfl⟩
noncomputable def up (v i:Nat):Nat:=(v >>> i) <<< i
theorem up_bit (v i j:Nat):(up v i).testBit j=(decide (i≤j)&&v.testBit j):=by
 unfold up
 rw[Nat.testBit_shiftLeft,Nat.testBit_shiftRight]
 by_cases h:i≤j
 ·simp[h,show i+(j-i)=j by lia]
 ·simp[h]
theorem up_zero (v:Nat):up v 0=v:=by simp[up]
theorem C_get2e {d:Addr}{f:Int→Option (List Nat)} (t:TabF W d f){i:Int}{p:PV}{K:PV→Sig→Prop} (h:K ((f i).elim p .str) σ):C W k (.blt "dict.get") [.ref d,.int i,p] [] [] σ K:=C_get2 t (by cases e:f i <;> rw[e] at h <;> exact h)
theorem up_and (v i:Nat):(up v i) &&& 2^i=if v.testBit i then 2^i else 0:=by
 apply Nat.eq_of_testBit_eq
 intro j
 rw[Nat.testBit_and,up_bit,Nat.testBit_two_pow]
 by_cases e:i=j
 ·subst e
  cases h:v.testBit i <;> simp
 ·cases h:v.testBit i <;> simp[e]
theorem up_take {v i:Nat} (h:v.testBit i=true):up v i=up v (i+1)+2^i:=by
 unfold up
 rw[Nat.shiftLeft_eq,Nat.shiftLeft_eq,Nat.shiftRight_succ,Nat.pow_succ]
 have h1:(v >>> i)%2=1:=by
  have:v.testBit i=(v >>> i).testBit 0:=by rw[Nat.testBit_shiftRight];simp
  rw[this,Nat.testBit_zero] at h
  exact of_decide_eq_true h
 generalize v >>> i=u at h1
 have:u=2*(u/2)+1:=by lia
 generalize u/2=q at this
 subst this
 rw[Nat.add_mul,Nat.one_mul,Nat.mul_comm (2^i) 2,Nat.mul_comm 2 q,Nat.mul_assoc]
theorem up_xor {v i:Nat} (h:v.testBit i=true):Builtin.bitXor ((up v i:Nat):Int) ((2^i:Nat):Int)=((up v (i+1):Nat):Int):=by
 show Builtin.bitOr _ _-Builtin.bitAnd _ _=_
 rw[bitOr_and,bitAnd_pp (Int.natCast_nonneg _) (Int.natCast_nonneg _),Int.toNat_natCast,Int.toNat_natCast,up_and,h,if_pos rfl,up_take h]
 lia
theorem up_skip {v i:Nat} (h:v.testBit i=false):up v i=up v (i+1):=by
 apply Nat.eq_of_testBit_eq
 intro j
 rw[up_bit,up_bit]
 by_cases e:i=j
 ·subst e;simp[h]
 ·by_cases q:i≤j
  ·simp[q,show i+1≤j by lia]
  ·simp[q,show ¬ i+1≤j by lia]
theorem up_done {v i:Nat} (h:up v i=0){j:Nat} (hj:i≤j):v.testBit j=false:=by
 have:=up_bit v i j
 rw[h,Nat.zero_testBit] at this
 simpa [hj] using this.symm
theorem up_top {v:Nat} (h:v<2^32):up v 32=0:=by
 unfold up
 rw[Nat.shiftRight_eq_div_pow,Nat.div_eq_of_lt h,Nat.zero_shiftLeft]
noncomputable def wordsTo (f:Int→Option (List Nat)) (v n:Nat):List (List Nat):=((List.range n).filter fun i=>v.testBit i).map (wordOf f)
theorem wordsTo_succ (f:Int→Option (List Nat)) (v n:Nat):wordsTo f v (n+1)=wordsTo f v n++(if v.testBit n then [wordOf f n] else []):=by
 unfold wordsTo
 rw[List.range_succ,List.filter_append,List.map_append]
 cases h:v.testBit n <;> simp[h]
theorem wordsTo_done {f:Int→Option (List Nat)}{v n:Nat} (h:up v n=0):∀ d,wordsTo f v (n+d)=wordsTo f v n
 |0=>rfl
 |d+1=>by rw[← Nat.add_assoc,wordsTo_succ,up_done h (Nat.le_add_right _ _),wordsTo_done h d];simp
theorem wordsTo_len (f:Int→Option (List Nat)) (v n:Nat):(wordsTo f v n).length≤n:=by
 unfold wordsTo
 rw[List.length_map]
 exact Nat.le_trans (List.length_filter_le _ _) (by simp)
theorem wordOf_len {f:Int→Option (List Nat)} (hf:∀ i,i<32→(wordOf f i).length≤30){v n:Nat} (hn:n≤32):lens [44,32] (wordsTo f v n)≤2000:=by
 have:∀ (l:List (List Nat)) (a:Nat),(∀ x∈l,x.length≤30)→l.foldl (fun n x=>n+x.length+2) a≤a+32*l.length:=by
  intro l
  induction l with
  |nil=>intro a _;simp
  |cons x l ih =>
   intro a h
   rw[List.foldl_cons,List.length_cons]
   have h1:=ih (a+x.length+2) (fun y hy=>h y (List.mem_cons_of_mem _ hy))
   have h2:=h x (List.mem_cons_self ..)
   lia
 have h1:=this (wordsTo f v n) 0 (fun x hx=>by
  unfold wordsTo at hx
  refine e1_2 (List.mem_map.mp hx) ?_;intro i hi zz1;subst zz1
  have:=(List.mem_filter.mp hi).1
  exact hf i (by have:=List.mem_range.mp this;exact cB this hn))
 have h2:=wordsTo_len f v n
 show(wordsTo f v n).foldl (fun n x=>n+x.length+2) 0≤_
 exact Nat.le_trans (Nat.le_trans h1 (Nat.add_le_add (Nat.le_refl _) (Nat.mul_le_mul_left _ (Nat.le_trans h2 hn)))) (by decide)
noncomputable def prettyL (f:Int→Option (List Nat)) (v:Nat):List Nat:=jn [44,32] (wordsTo f v 32)
theorem pretty_flags_C0 (D:L1 W){v:Nat}{K:PV→Sig→Prop} (h0:v≠0) (hv:v<2^32) (hw:∀ i,i<32→(wordOf D.cfnF i).length≤30) (hh:∀ i:Nat,i<32→(hexL ((2^i:Nat):Int)).length≤1000) (h:K (.str (prettyL D.cfnF v)) σ):CC W (k+1) (.ref D.pf) [.int v] [] [] σ K:=by
 refine e5_1 (D.pfF.fn) ?_;intro doc pm an cd ct f1
 have T:=D.T
 refine CC_fcs T f1 [("flags",.int v,none)] 0 (bind1 (n:="flags") (fun v=>by rfl) ⟨rfl,rfl⟩) rfl ⟨rfl,trivial⟩ (by rfl) rfl fun L hL=>?_
 refine XS_setl T (E_ListM (EL_nil ⟨by simp,fun a ha=>?_⟩))
 have hla:=fcs_fresh ha
 refine⟨_,_,_,fcs_gt' hla,?_⟩
 refine XS_cons (X_For (q₀:=.rng 0 32) T (inums 0 32) (fun _=>True) (fun i σ'=>∃ m,σ'=fcs (σ.upd a (.list (stsL (wordsTo D.cfnF v i)))) L m []∧m "names"=some (.ref a)∧m "flags"=some (.int (up v i))∧up v i≠0∧i≤32) ?_ (fun _ _ _=>trivial) ?_ ?_)
 ·refine E_Call [] (kp:=.machine) ?_
  refine E_tn T D.B (n:="range") (by simp) ?_
  refine EL_cons (E_int (EL_nil (EK_nil ⟨KP_typ,C_range1 T ⟨rfl,Itbl.rng (by decide) 32 (by decide),?_⟩⟩)))
  exact⟨_,rfl,rfl,by rw[up_zero];rfl,by rw[up_zero];exact h0,Nat.zero_le _⟩
 ·intro i p σ' hp zz1;refine e1_5 zz1 ?_;clear zz1;intro m zz2 hm1 hm2 hu hi;subst zz2
  refine e0_2 (int_at hp) ?_;intro hi' zz1;subst zz1
  refine AT_name (S_l T ?_)
  refine XS_setl T ?_
  refine E_BinOp (E_int (E_l ?_))
  refine shl_ii (by exact z1 _) (by lia) (by decide) ?_
  rw[show(1:Int)*2^((0:Int)+(i:Nat)).toNat=((2^i:Nat):Int) by simp]
  refine⟨_,_,_,rfl,?_⟩
  refine XS_if (T_val (E_BinOp (E_l (E_l (and_ii (truthy_int ?_))) hm2)))
  rw[bitAnd_pp (Int.natCast_nonneg _) (Int.natCast_nonneg _),Int.toNat_natCast,Int.toNat_natCast,up_and]
  cases hb:v.testBit i with
  |false =>
   rw[show(((if false=true then 2^i else 0:Nat):Int) != 0)=false by simp]
   have ew:wordsTo D.cfnF v i=wordsTo D.cfnF v (i+1):=by rw[wordsTo_succ,hb];simp
   exact XS_nil (XS_nil ⟨_,congrArg (fun w=>fcs (σ.upd a (.list (stsL w))) L _ []) ew,hm1,hm2.trans (by rw[up_skip hb]),by rw[← up_skip hb];exact hu,hi'⟩)
  |true =>
   have hpos:0<2^i:=Nat.two_pow_pos i
   rw[show(((if true=true then 2^i else 0:Nat):Int) != 0)=true by simp only[if_true,bne_iff_ne,ne_eq];lia]
   refine XS_expr ?_
   refine E_Meth [] (kp:=.machine) ?_
   refine E_l ?_ hm1
   refine GM_ref ((fcs_gt (Nat.lt_of_le_of_lt (Nat.le_add_right _ _) hla)).trans (upd_same _ _ _)) PySem.F.slot_list_append PySem.F.type_list_append ?_
   refine EL_cons ?_
   refine E_Meth [] (kp:=.machine) ?_
   refine E_gl T D.cfnG ?_
   refine GM_tab D.cfnT ?_
   refine EL_cons (E_l ?_)
   refine EL_cons ?_
   refine E_Call [] (kp:=.machine) ?_
   refine E_bn T D.B (n:="hex") (by simp) ?_
   refine EL_cons (E_l ?_)
   refine EL_nil (EK_nil ⟨KP_blt,C_hex (by have:=hh i hi';exact Nat.le_trans (by assumption) (by decide)) ?_⟩)
   refine EL_nil (EK_nil ⟨KP_blt,C_get2e D.cfnT ?_⟩)
   have e1:(D.cfnF ((2^i:Nat):Int)).elim (PV.str (hexL ((2^i:Nat):Int))) .str=.str (wordOf D.cfnF i):=by
    unfold wordOf;cases D.cfnF ((2^i:Nat):Int) <;> rfl
   rw[e1]
   have hwl:=wordsTo_len D.cfnF v i
   refine EL_nil (EK_nil ⟨KP_blt,C_append T ((fcs_gt (Nat.lt_of_le_of_lt (Nat.le_add_right _ _) hla)).trans (upd_same _ _ _)) (by unfold stsL;rw[List.length_map];exact Nat.le_of_lt (cC hwl (cA hi' (by decide)))) ?_⟩)
   rw[fcs_gt' (Nat.lt_of_le_of_lt (Nat.le_add_right _ _) hla),upd_upd]
   refine⟨rfl,?_⟩
   rw[show stsL (wordsTo D.cfnF v i)++[PV.str (wordOf D.cfnF i)]=stsL (wordsTo D.cfnF v (i+1)) by rw[wordsTo_succ,hb];unfold stsL;simp]
   refine XS_augl T (E_l (ixor_ii ?_)) hm2
   rw[up_xor hb]
   refine⟨_,_,_,rfl,?_⟩
   refine XS_if (T_not (T_val (E_l (truthy_int ?_))))
   by_cases hz:up v (i+1)=0
   ·rw[hz,show(!(((0:Nat):Int) != 0))=true by simp]
    refine XS_cons (X_Break ?_)
    refine XS_ret ?_
    refine E_Meth [] (kp:=.machine) ?_
    refine E_strL [44,32] ?_
    refine GM_str PySem.F.slot_str_join PySem.F.type_str_join ?_
    refine EL_cons (E_l ?_ hm1)
    refine EL_nil (EK_nil ⟨KP_blt,C_joinL (.inr ⟨a,rfl,(fcs_gt (Nat.lt_of_le_of_lt (Nat.le_add_right _ _) hla)).trans (upd_same _ _ _)⟩) (Nat.le_trans (wordOf_len hw hi') (by exact Nat.le_of_lt (by decide))) ?_⟩)
    show K _ _
    rw[fcs_resr,res_upd_ge (Nat.le_of_lt (Nat.lt_of_le_of_lt (Nat.le_add_right _ _) hla)),res_fresh hL]
    have:=wordsTo_done (f:=D.cfnF) hz (32-(i+1))
    rw[show i+1+(32-(i+1))=32 by exact Nat.add_sub_of_le hi'] at this
    rw[← this]
    exact h
   ·rw[show(!((((up v (i+1)):Nat):Int) != 0))=false by simp;assumption]
    exact XS_nil (XS_nil (XS_nil ⟨_,rfl,hm1,fset_same _ _ _,hz,hi'⟩))
 ·intro σ' zz1;refine e1_5 zz1 ?_;clear zz1;intro m zz2 hm1 hm2 hu hi;subst zz2
  rw[inums_len] at hu
  exact absurd (up_top hv) hu
theorem wordC_len:∀ i:Fin 32,(wordC i.val).length≤30:=by decide +kernel
theorem hex_len:∀ i:Fin 32,(hexL ((2^i.val:Nat):Int)).length≤1000:=by decide +kernel
noncomputable def flagsL (v:Nat):List (List Nat):=((List.range 32).filter fun i=>v.testBit i).map wordC
theorem flags_eq (D:L1 W) (v:Nat):wordsTo D.cfnF v 32=flagsL v:=by
 unfold wordsTo flagsL
 refine List.map_congr_left fun i hi=>D.cfnW i ?_
 have:=(List.mem_filter.mp hi).1
 exact List.mem_range.mp this
theorem pretty_flags_C (D:L1 W){v:Nat}{K:PV→Sig→Prop} (h0:v≠0) (hv:v<2^32) (h:K (.str (jn [44,32] (flagsL v))) σ):CC W (k+1) (.ref D.pf) [.int v] [] [] σ K :=
 pretty_flags_C0 D h0 hv (fun i hi=>by rw[D.cfnW i hi];exact wordC_len ⟨i,hi⟩) (fun i hi=>hex_len ⟨i,hi⟩) (by unfold prettyL;rw[flags_eq];exact h)
noncomputable def readDef:Stmt:=(bodyOf (defAt 19)).getD 2 (.Pass default)
noncomputable def readClo (tx:List Nat) (P:Addr):PV:=.clo "read" "_law_lexer.<locals>.read" (paramsOf readDef) (bodyOf readDef) (scopeOf readDef) [("text",.str tx),("place",.ref P)]
theorem Blts.with {W:Wd} (B:Blts W) (cs:List (Str×PV)) (cl:List (Str×Addr)):Blts (W.with cs cl):=⟨B.blt,B.typ⟩
theorem E_k {cs:List (Str×PV)}{cl:List (Str×Addr)}{x:Str}{pos:Pos}{p:PV}{K:PV→Sig→Prop} (h:K p σ) (hc:autoParam (cs.lookup x=some p) tR) (he:autoParam (env.cells=cl) tR) (hk:autoParam (env.scope.kind=.function) tR) (hl:autoParam (env.kindOf x=some .free) tR)
  (hd:autoParam ((x==("__debug__":Str))=false) tD) (hn:autoParam ((x==("__classdict__":Str))=false) tD):E (W.with cs cl) k env (.Name x pos) σ K:=by subst he;exact E_name (L_freeK hk hl (fun F h=>h.2) hc h hn) hd
noncomputable def sgn (tx:List Nat) (pos:Nat):List Nat:=(tx.drop pos).take 1
theorem sgn_slc {tx:List Nat}{pos:Nat}:slc (some (pos:Int)) (some ((pos:Int)+1)) tx=sgn tx pos:=by
 have e1:clipAt tx.length (pos:Int)=min pos tx.length:=clip_nat
 have e2:clipAt tx.length ((pos:Int)+1)=min (pos+1) tx.length:=clip_nat (a:=pos+1)
 unfold slc sgn
 simp only[Option.elim]
 rw[e1,e2]
 rcases Nat.lt_or_ge pos tx.length with q |q
 ·rw[Nat.min_eq_left (Nat.le_of_lt q),Nat.min_eq_left q,show pos+1-pos=1 by lia]
 ·rw[List.drop_of_length_le (show tx.length≤min pos tx.length by lia),List.drop_of_length_le q];simp
theorem sgn_len {tx:List Nat}{pos:Nat}:(sgn tx pos).length≤1:=by
 unfold sgn
 rw[List.length_take];lia
theorem read_C (D:L1 W){tx:List Nat}{Pl:Addr}{pos:Nat}{K:PV→Sig→Prop} (hσ:σ Pl=some (.list [.int pos])) (hp:pos≤2000000) (hz:tx.length≤1000000) (h:K (.str (sgn tx pos)) (σ.upd Pl (.list [.int ((pos+1:Nat):Int)]))):CC W (k+1) (readClo tx Pl) [.int 1] [] [] σ K:=by
 refine CC_clo (by rfl) (by rfl) fun a c ct doc pm cl vs ws=>?_
 have T:Top (W.with [("text",.str tx),("place",.ref Pl)] cl):=D.T.with _ _
 have B:=D.B.with [("text",.str tx),("place",.ref Pl)] cl
 refine bind1 (n:="count") (fun v=>by rfl) (fun L hL=>?_) vs ws
 rw[cellsUpd_none (by rfl)]
 refine SB_locals (env:=envFn (fnX "read" "_law_lexer.<locals>.read" (paramsOf readDef) (bodyOf readDef) (scopeOf readDef) cl .none .none doc pm none (.ref c) ct) cl L a) T (by rfl) (fun x hx=>by
  obtain rfl:x=(("count",PV.int 1):Str×PV):=by simpa using hx
  rfl) ?_
 have hPL:Pl<L:=by
  rcases Nat.lt_or_ge Pl L with q |q
  ·exact q
  ·have:=hL Pl q;rw[hσ] at this;cases this
 have hP1:∀ {m},fcs σ L m [] Pl=some (.list [.int pos]):=fun {m}=>(fcs_lt hPL).trans hσ
 refine(?_:XS _ k _ _ (fcs σ L (fset (fun _=>none) "count" (.int 1)) []) _)
 refine XS_cons (X_AssignSub ?_)
 refine E_BinOp (E_Sub (E_k (E_int ⟨Sbs.ref hP1,get_ref hP1 (by decide) (by decide) rfl ?_⟩)))
 refine E_l (add_ii ?_)
 refine E_k (E_int (set_ref T hP1 (by decide) (by simp) (by decide) ?_))
 rw[fcs_lt' hPL]
 have hP2:∀ {m},fcs (σ.upd Pl (.list ([PV.int pos].set (0:Int).toNat (.int ((pos:Int)+1))))) L m [] Pl=some (.list [.int ((pos:Int)+1)]):=fun {m}=>(fcs_lt hPL).trans (upd_same _ _ _)
 refine XS_ret ?_
 refine E_SliceStr T ?_
 refine E_k ?_
 refine EP_some (E_BinOp (E_Sub (E_k (E_int ⟨Sbs.ref hP2,get_ref hP2 (by decide) (by decide) rfl ?_⟩))))
 refine E_l (sub_ii ⟨_,rfl,?_⟩)
 refine EP_some (E_Sub (E_k (E_int ⟨Sbs.ref hP2,get_ref hP2 (by decide) (by decide) rfl ⟨_,rfl,tx,rfl,hz,?_⟩⟩)))
 rw[show(pos:Int)+1-1=(pos:Int) by lia,sgn_slc]
 refine⟨_,.inl rfl,?_⟩
 show K _ _
 rw[fcs_resr,res_upd_lt hPL,res_fresh hL]
 exact h
end
structure MethIs (W:Wd) (C:Addr) (name:Str) (a:Addr) (q:Str) (st:Stmt):Prop where
 find:findIn W.K (.ref C) name=some (some (.ref a))
 ty:typeIn W.K (.ref a)=some (.type "function")
 fn:Fn W a q st
structure LexCls (W:Wd) where
 C:Addr
 G:W.mg "_netrclex"=some (.ref C)
 X:ClsIs W C
 kp:∀ σ,KP W .machine (.ref C) σ
 no:∀ n∈(["lineno","instream","whitespace","pushback","read"]:List String),findIn W.K (.ref C) (Str.ofString n)=some none
 ini:Addr
 iniM:MethIs W C "__init__" ini "_netrclex.__init__" (methAt 12 0)
 rc:Addr
 rcM:MethIs W C "_read_char" rc "_netrclex._read_char" (methAt 12 1)
 rcG:specialIn W.K (.ref rc) "__get__"=some (some (.builtin "function.__get__"))
 rcT:takesIn W.K (.ref rc)=some false
 gt:Addr
 gtM:MethIs W C "get_token" gt "_netrclex.get_token" (methAt 12 2)
 pt:Addr
 ptM:MethIs W C "push_token" pt "_netrclex.push_token" (methAt 12 3)
structure LexA where
 (a d pb tape td P:Nat)
 ws:List Nat
noncomputable def lexF (ws:List Nat) (tape pb:Addr) (ln:Int):Str→Option PV:=fset (fset (fset (fset (fun _=>none) "lineno" (.int ln)) "instream" (.ref tape)) "whitespace" (.str ws)) "pushback" (.ref pb)
theorem lexF_line {ws:List Nat}{tape pb:Addr}{ln ln':Int}:fset (lexF ws tape pb ln) "lineno" (.int ln')=lexF ws tape pb ln':=by
 funext y
 unfold lexF fset
 by_cases h1:y="lineno"
 ·subst h1;rfl
 ·simp[h1]
noncomputable def lxs (C:Addr) (A:LexA) (pos:Nat) (pbl:List (List Nat)) (ln:Int) (σ:Sig):Sig:=((σ.upd A.P (.list [.int pos])).upd A.pb (.list (stsL pbl))).upd A.a (.inst C A.d (lexF A.ws A.tape A.pb ln) 4)
structure LexOK (C:Addr) (A:LexA) (tx:List Nat) (σ:Sig):Prop where
 tape:∃ fs n,σ A.tape=some (.inst C A.td fs n)∧fs "read"=some (readClo tx A.P)
 ta:A.tape≠A.a
 tb:A.tape≠A.pb
 tp:A.tape≠A.P
 ab:A.a≠A.pb
 ap:A.a≠A.P
 bp:A.pb≠A.P
def LexA.below (A:LexA) (L:Nat):Prop:=A.a<L∧A.pb<L∧A.P<L∧A.tape<L
section
variable {C:Addr}{A:LexA}{tx:List Nat}{pos pos':Nat}{pbl pbl':List (List Nat)}{ln ln':Int}{σ:Sig}
theorem lxs_a:lxs C A pos pbl ln σ A.a=some (.inst C A.d (lexF A.ws A.tape A.pb ln) 4):=upd_same _ _ _
theorem lxs_pb (h:LexOK C A tx σ):lxs C A pos pbl ln σ A.pb=some (.list (stsL pbl)):=(upd_ne h.ab.symm).trans (upd_same _ _ _)
theorem lxs_P (h:LexOK C A tx σ):lxs C A pos pbl ln σ A.P=some (.list [.int pos]):=(upd_ne h.ap.symm).trans ((upd_ne h.bp.symm).trans (upd_same _ _ _))
theorem lxs_else {b:Nat} (h1:b≠A.a) (h2:b≠A.pb) (h3:b≠A.P):lxs C A pos pbl ln σ b=σ b:=(upd_ne h1).trans ((upd_ne h2).trans (upd_ne h3))
theorem lxs_setP (h:LexOK C A tx σ):(lxs C A pos pbl ln σ).upd A.P (.list [.int pos'])=lxs C A pos' pbl ln σ:=by
 unfold lxs
 rw[upd_comm h.ap,upd_comm h.bp,upd_upd]
theorem lxs_setpb (h:LexOK C A tx σ):(lxs C A pos pbl ln σ).upd A.pb (.list (stsL pbl'))=lxs C A pos pbl' ln σ:=by
 unfold lxs
 rw[upd_comm h.ab,upd_upd]
theorem lxs_seta:(lxs C A pos pbl ln σ).upd A.a (.inst C A.d (lexF A.ws A.tape A.pb ln') 4)=lxs C A pos pbl ln' σ:=upd_upd
theorem lxs_fcs {L:Nat}{m:Str→Option PV}{cs:List (Option PV)} (h:A.below L):lxs C A pos pbl ln (fcs σ L m cs)=fcs (lxs C A pos pbl ln σ) L m cs:=by
 unfold lxs
 rw[fcs_lt' h.2.2.1,fcs_lt' h.2.1,fcs_lt' h.1]
theorem lxs_upd {b:Nat}{o:AObj} (h1:b≠A.a) (h2:b≠A.pb) (h3:b≠A.P):lxs C A pos pbl ln (σ.upd b o)=(lxs C A pos pbl ln σ).upd b o:=by
 unfold lxs
 rw[upd_comm h3,upd_comm h2,upd_comm h1]
theorem lxs_res {L:Nat} (h:A.below L):res L (lxs C A pos pbl ln σ)=lxs C A pos pbl ln (res L σ):=by
 unfold lxs
 rw[res_upd_lt h.1,res_upd_lt h.2.1,res_upd_lt h.2.2.1]
theorem LexOK.below (h:LexOK C A tx σ){L:Nat} (hf:Fresh (lxs C A pos pbl ln σ) L):A.below L:=by
 have key:∀ b o,lxs C A pos pbl ln σ b=some o→b<L:=fun b o e=>by
  rcases Nat.lt_or_ge b L with q |q
  ·exact q
  ·have:=hf b q;rw[e] at this;cases this
 refine e2_2 (h.tape) ?_;intro fs n e _
 exact⟨key _ _ lxs_a,key _ _ (lxs_pb h),key _ _ (lxs_P h),key _ _ ((lxs_else h.ta h.tb h.tp).trans e)⟩
theorem LexOK.fresh (h:LexOK C A tx σ){L:Nat} (hf:Fresh (lxs C A pos pbl ln σ) L):Fresh σ L:=fun b hb=>by
 have hA:=h.below hf
 have:=hf b hb
 rwa [lxs_else (Nat.ne_of_gt (Nat.lt_of_lt_of_le hA.1 hb)) (Nat.ne_of_gt (Nat.lt_of_lt_of_le hA.2.1 hb)) (Nat.ne_of_gt (Nat.lt_of_lt_of_le hA.2.2.1 hb))] at this
theorem LexOK.fcs (h:LexOK C A tx σ){L:Nat}{m:Str→Option PV}{cs:List (Option PV)} (hL:A.tape<L):LexOK C A tx (fcs σ L m cs):=by
 refine e2_2 (h.tape) ?_;intro fs n e r
 exact⟨⟨fs,n,(fcs_lt hL).trans e,r⟩,h.ta,h.tb,h.tp,h.ab,h.ap,h.bp⟩
theorem LexOK.upd (h:LexOK C A tx σ){b:Nat}{o:AObj} (hb:b≠A.tape):LexOK C A tx (σ.upd b o):=by
 refine e2_2 (h.tape) ?_;intro fs n e r
 exact⟨⟨fs,n,(upd_ne hb.symm).trans e,r⟩,h.ta,h.tb,h.tp,h.ab,h.ap,h.bp⟩
end
section
variable {W:Wd}{k:Nat}{σ:Sig}{env:Env}{P:FM→Prop}{x y:List Nat}
theorem MethIs.kp {C:Addr}{name q:Str}{a:Addr}{st:Stmt} (m:MethIs W C name a q st):KP W .frame (.ref a) σ:=FnC.kp m.fn
theorem rc_C (D:L1 W) (N:LexCls W){A:LexA}{tx:List Nat}{pos:Nat}{pbl:List (List Nat)}{ln:Int}{K:PV→Sig→Prop} (O:LexOK N.C A tx σ) (hp:pos≤2000000) (hz:tx.length≤1000000)
  (h:K (.str (sgn tx pos)) (lxs N.C A (pos+1) pbl (ln+if sgn tx pos=[10] then 1 else 0) σ)):CC W (k+2) (.ref N.rc) [.ref A.a] [] [] (lxs N.C A pos pbl ln σ) K:=by
 refine e5_1 (N.rcM.fn.fn) ?_;intro doc pm an cd ct f1
 have T:=D.T
 refine CC_fcs T f1 [("self",.ref A.a,none)] 0 (bind1 (n:="self") (fun v=>by rfl) ⟨rfl,rfl⟩) rfl ⟨rfl,trivial⟩ (by rfl) rfl fun L hL=>?_
 have hb:=O.below hL
 have hf:=O.fresh hL
 refine XS_setl T ?_
 refine E_Meth [] (kp:=.frame) ?_
 refine E_Attr (E_l ?_)
 refine OA_inst T N.X (N.no _ (by simp)) ((fcs_lt hb.1).trans lxs_a) rfl (by intro n z;cases z) ?_
 refine e2_2 (O.tape) ?_;intro fs n e r
 refine GM_instF T N.X (N.no _ (by simp)) ((fcs_lt hb.2.2.2).trans ((lxs_else O.ta O.tb O.tp).trans e)) r (by intro n z;cases z) ?_
 refine EL_cons (E_int (EL_nil (EK_nil ⟨KP_clo,(read_C D ((fcs_lt hb.2.2.1).trans (lxs_P O)) hp hz ?_).call⟩)))
 rw[fcs_lt' hb.2.2.1,lxs_setP O]
 refine⟨_,_,_,rfl,?_⟩
 refine XS_if (T_Compare (E_l (E_strL [10] (eq_ss (truthy_bool ?_)))))
 have fin:∀ ln',ln'=ln+(if sgn tx pos=[10] then 1 else 0)→K (.str (sgn tx pos)) (res L (fcs (lxs N.C A (pos+1) pbl ln' σ) L (fset (bm' (fun _=>none) [(("self":Str),PV.ref A.a,none)]) "ch" (.str (sgn tx pos))) (bc' (List.replicate 0 none) [(("self":Str),PV.ref A.a,none)]))):=fun ln' e=>by
  rw[fcs_resr,lxs_res hb,res_fresh hf,e]
  exact h
 by_cases hs:sgn tx pos=[10]
 ·rw[decide_eq_true hs]
  refine XS_cons (X_AugAttr ?_)
  refine E_l ?_
  refine OA_inst T N.X (N.no _ (by simp)) ((fcs_lt hb.1).trans lxs_a) rfl (by intro n z;cases z) ?_
  refine E_int (iadd_ii ?_)
  refine SA_inst T N.X (N.no _ (by simp)) ((fcs_lt hb.1).trans lxs_a) (by decide) 4 (.inr ⟨(by intro z;cases z),rfl⟩) ?_
  rw[fcs_lt' hb.1,lexF_line,lxs_seta]
  refine XS_nil (XS_ret (E_l ?_))
  exact fin (ln+1) (by rw[if_pos hs])
 ·rw[decide_eq_false hs]
  refine XS_nil (XS_ret (E_l ?_))
  exact fin ln (by rw[if_neg hs];lia)
theorem pt_C (D:L1 W) (N:LexCls W){A:LexA}{tx:List Nat}{pos:Nat}{pbl:List (List Nat)}{ln:Int}{K:PV→Sig→Prop} (O:LexOK N.C A tx σ) (hz:pbl.length≤100000)
  (h:K .none (lxs N.C A pos (pbl++[x]) ln σ)):CC W (k+1) (.ref N.pt) [.ref A.a,.str x] [] [] (lxs N.C A pos pbl ln σ) K:=by
 refine e5_1 (N.ptM.fn.fn) ?_;intro doc pm an cd ct f1
 have T:=D.T
 refine CC_fcs T f1 [("self",.ref A.a,none),("token",.str x,none)] 0 (bind2 (n:="self") (m:="token") (fun v w=>by rfl) ⟨rfl,rfl⟩) rfl ⟨rfl,rfl,trivial⟩ (by rfl) rfl fun L hL=>?_
 have hb:=O.below hL
 have hf:=O.fresh hL
 refine XS_expr ?_
 refine E_Meth [] (kp:=.machine) ?_
 refine E_Attr (E_l ?_)
 refine OA_inst T N.X (N.no _ (by simp)) ((fcs_lt hb.1).trans lxs_a) rfl (by intro n z;cases z) ?_
 refine GM_ref ((fcs_lt hb.2.1).trans (lxs_pb O)) PySem.F.slot_list_append PySem.F.type_list_append ?_
 refine EL_cons (E_l ?_)
 refine EL_nil (EK_nil ⟨KP_blt,C_append T ((fcs_lt hb.2.1).trans (lxs_pb O)) (by unfold stsL;rw[List.length_map];exact Nat.le_trans (by assumption) (by decide)) ?_⟩)
 rw[fcs_lt' hb.2.1,show stsL pbl++[PV.str x]=stsL (pbl++[x]) by unfold stsL;simp,lxs_setpb O]
 refine⟨rfl,XS_nil ?_⟩
 show K _ _
 rw[fcs_resr,lxs_res hb,res_fresh hf]
 exact h
noncomputable def isW (ws:List Nat) (c:Nat):Bool:=decide (c∈ws)
noncomputable def lexQ:List Nat→List Nat→List Nat×List Nat
 |tok,[]=>(tok,[])
 |tok,[c]=>if c=34 then (tok,[]) else if c=92 then (tok,[]) else (tok++[c],[])
 |tok,c::d::r=>if c=34 then (tok,d::r) else if c=92 then lexQ (tok++[d]) r else lexQ (tok++[c]) (d::r)
noncomputable def lexU (ws:List Nat):List Nat→List Nat→List Nat×List Nat
 |tok,[]=>(tok,[])
 |tok,[c]=>if isW ws c then (tok,[]) else if c=92 then (tok,[]) else (tok++[c],[])
 |tok,c::d::r=>if isW ws c then (tok,d::r) else if c=92 then lexU ws (tok++[d]) r else lexU ws (tok++[c]) (d::r)
noncomputable def lexS (ws:List Nat):List Nat→List Nat×List Nat
 |[]=>([],[])
 |c::r=>if isW ws c then lexS ws r else if c=34 then lexQ [] r else if c=92 then lexU ws (r.take 1) (r.drop 1) else lexU ws [c] r
theorem lexQ_34 (tok r:List Nat):lexQ tok (34::r)=(tok,r):=by cases r <;> simp[lexQ]
theorem lexQ_92 (tok r:List Nat):lexQ tok (92::r)=lexQ (tok++r.take 1) (r.drop 1):=by cases r <;> simp[lexQ]
theorem lexQ_c {c:Nat} (tok r:List Nat) (h1:c≠34) (h2:c≠92):lexQ tok (c::r)=lexQ (tok++[c]) r:=by cases r <;> simp[lexQ,h1,h2]
theorem lexU_w {ws:List Nat}{c:Nat} (tok r:List Nat) (h:isW ws c=true):lexU ws tok (c::r)=(tok,r):=by cases r <;> simp[lexU,h]
theorem lexU_92 {ws:List Nat} (h:isW ws 92=false) (tok r:List Nat):lexU ws tok (92::r)=lexU ws (tok++r.take 1) (r.drop 1):=by cases r <;> simp[lexU,h]
theorem lexU_c {ws:List Nat}{c:Nat} (tok r:List Nat) (h1:isW ws c=false) (h2:c≠92):lexU ws tok (c::r)=lexU ws (tok++[c]) r:=by cases r <;> simp[lexU,h1,h2]
noncomputable def lnAt (tx:List Nat) (pos:Nat):Int:=1+((tx.take pos).count 10:Nat)
theorem lnAt_next (tx:List Nat) (pos:Nat):lnAt tx (pos+1)=lnAt tx pos+if sgn tx pos=[10] then 1 else 0:=by
 unfold lnAt sgn
 rw[List.take_add_one]
 cases h:tx.drop pos with
 |nil =>
  have e:tx[pos]? = none:=by
   have:(tx.drop pos)[0]? = none:=by rw[h];rfl
   simpa using this
  rw[e];simp
 |cons c r =>
  have e:tx[pos]? = some c:=by
   have:(tx.drop pos)[0]? = some c:=by rw[h];rfl
   simpa using this
  rw[e,List.count_append]
  by_cases q:c=10
  ·subst q;simp;lia
  ·simp[q]
theorem sgn_nil {tx:List Nat}{pos:Nat} (h:tx.drop pos=[]):sgn tx pos=[]:=by unfold sgn;rw[h];rfl
theorem sgn_cons {tx r:List Nat}{pos c:Nat} (h:tx.drop pos=c::r):sgn tx pos=[c]:=by unfold sgn;rw[h];rfl
theorem drop_next {tx r:List Nat}{pos c:Nat} (h:tx.drop pos=c::r):tx.drop (pos+1)=r∧pos+1≤tx.length:=by
 constructor
 ·rw[← List.drop_drop,h];rfl
 ·rcases Nat.lt_or_ge pos tx.length with q |q
  ·exact q
  ·rw[List.drop_of_length_le q] at h;cases h
noncomputable def gts (N:LexCls W) (A:LexA) (tx:List Nat) (σ:Sig) (I:Nat) (pos:Nat) (b:Bool):Sig:=lxs N.C A pos [] (lnAt tx pos) (σ.upd I (.citer (if b then .none else .bm N.rc A.a) b))
structure ItOK (A:LexA) (I L:Nat):Prop where
 il:L<I
 bl:A.below L
theorem ItOK.ne {A:LexA}{I L:Nat} (i:ItOK A I L):I≠A.a∧I≠A.pb∧I≠A.P∧I≠A.tape:=⟨Nat.ne_of_gt (Nat.lt_trans i.bl.1 i.il),Nat.ne_of_gt (Nat.lt_trans i.bl.2.1 i.il),Nat.ne_of_gt (Nat.lt_trans i.bl.2.2.1 i.il),Nat.ne_of_gt (Nat.lt_trans i.bl.2.2.2 i.il)⟩
theorem gts_I {N:LexCls W}{A:LexA}{tx:List Nat}{I pos L:Nat}{b:Bool}{m:Str→Option PV} (i:ItOK A I L):fcs (gts N A tx σ I pos b) L m [] I=some (.citer (if b then .none else .bm N.rc A.a) b):=by
 rw[fcs_gt (show L+([]:List (Option PV)).length<I from i.il)]
 unfold gts
 rw[lxs_else i.ne.1 i.ne.2.1 i.ne.2.2.1,upd_same]
theorem gts_a {N:LexCls W}{A:LexA}{tx:List Nat}{I pos L:Nat}{b:Bool}{m:Str→Option PV} (i:ItOK A I L):fcs (gts N A tx σ I pos b) L m [] A.a=some (.inst N.C A.d (lexF A.ws A.tape A.pb (lnAt tx pos)) 4):=by
 rw[fcs_lt i.bl.1];exact lxs_a
theorem rc_gts (D:L1 W) (N:LexCls W){A:LexA}{tx:List Nat}{I pos L:Nat}{b:Bool}{m:Str→Option PV}{K:PV→Sig→Prop} (i:ItOK A I L) (O:LexOK N.C A tx σ) (hp:pos≤2000000) (hz:tx.length≤1000000)
  (h:K (.str (sgn tx pos)) (fcs (gts N A tx σ I (pos+1) b) L m [])):CC W (k+2) (.ref N.rc) [.ref A.a] [] [] (fcs (gts N A tx σ I pos b) L m []) K:=by
 unfold gts
 rw[← lxs_fcs i.bl]
 refine rc_C D N ((O.upd i.ne.2.2.2).fcs i.bl.2.2.2) hp hz ?_
 rw[← lnAt_next,lxs_fcs i.bl]
 exact h
theorem nx_gts (D:L1 W) (N:LexCls W){A:LexA}{tx:List Nat}{I pos L:Nat}{m:Str→Option PV}{K:Option PV→Sig→Prop} (i:ItOK A I L) (O:LexOK N.C A tx σ) (hp:pos≤2000000) (hz:tx.length≤1000000)
  (h0:tx.drop pos=[]→K none (fcs (gts N A tx σ I (pos+1) true) L m [])) (h1:∀ c r,tx.drop pos=c::r→K (some (.str [c])) (fcs (gts N A tx σ I (pos+1) false) L m [])):NX W (k+3) I (fcs (gts N A tx σ I pos false) L m []) K:=by
 refine e5_1 (N.rcM.fn.fn) ?_;intro doc pm an cd ct f1
 refine e1_3 (f1.at_) ?_;intro o ho hc hd
 refine NX_call D.T ho hc hd (gts_I i) ?_
 refine rc_gts D N i O hp hz ⟨_,rfl,gts_I i,?_⟩
 cases e:tx.drop pos with
 |nil =>
  rw[sgn_nil e,if_pos rfl]
  have:=h0 e
  rw[fcs_gt' (show L+([]:List (Option PV)).length<I from i.il)]
  unfold gts at this ⊢
  rw[← lxs_upd i.ne.1 i.ne.2.1 i.ne.2.2.1,upd_upd]
  exact this
 |cons c r =>
  rw[sgn_cons e,if_neg (by intro z;cases z)]
  exact h1 c r e
theorem nx_end (D:L1 W) (N:LexCls W){A:LexA}{tx:List Nat}{I pos L:Nat}{m:Str→Option PV}{K:Option PV→Sig→Prop} (i:ItOK A I L) (h:K none (fcs (gts N A tx σ I pos true) L m [])):NX W k I (fcs (gts N A tx σ I pos true) L m []) K:=NX_done D.T (gts_I i) h
theorem XS_cut {st:Stmt}{rest:List Stmt}{K:AFlow→Sig→Prop} (Q:Sig→Prop) (h:X W k env st σ fun fl σ₁=>fl=.next∧Q σ₁) (h2:∀ σ₁,Q σ₁→XS W k env rest σ₁ K):XS W k env (st::rest) σ K :=
 XS_cons (h.imp fun fl σ₁ ⟨e,q⟩=>by subst e;exact h2 σ₁ q)
theorem gen {α β:Type}{R:FM→β→α→Prop}{t:Sem α}{K:β→Sig→Prop} (h:∀ K',K'=K→G W k P R t σ K'):G W k P R t σ K:=h K rfl
theorem gt_pop_C (D:L1 W) (N:LexCls W){A:LexA}{tx:List Nat}{pos:Nat}{pbl:List (List Nat)}{ln:Int}{K:PV→Sig→Prop} (O:LexOK N.C A tx σ) (hz:pbl.length≤100000)
  (h:K (.str x) (lxs N.C A pos pbl ln σ)):CC W (k+1) (.ref N.gt) [.ref A.a] [] [] (lxs N.C A pos (x::pbl) ln σ) K:=by
 refine e5_1 (N.gtM.fn.fn) ?_;intro doc pm an cd ct f1
 have T:=D.T
 refine CC_fcs T f1 [("self",.ref A.a,none)] 0 (bind1 (n:="self") (fun v=>by rfl) ⟨rfl,rfl⟩) rfl ⟨rfl,trivial⟩ (by rfl) rfl fun L hL=>?_
 have hb:=O.below hL
 have hf:=O.fresh hL
 have hl:(stsL (x::pbl)).length≤1000000:=by unfold stsL;rw[List.length_map,List.length_cons];exact Nat.le_trans (Nat.add_le_add hz (Nat.le_refl _)) (by decide)
 refine XS_if (T_val (E_Attr (E_l ?_)))
 refine OA_inst T N.X (N.no _ (by simp)) ((fcs_lt hb.1).trans lxs_a) rfl (by intro n z;cases z) ?_
 refine truthy_ref ((fcs_lt hb.2.1).trans (lxs_pb O)) hl ?_
 refine XS_ret ?_
 refine E_Meth [] (kp:=.machine) ?_
 refine E_Attr (E_l ?_)
 refine OA_inst T N.X (N.no _ (by simp)) ((fcs_lt hb.1).trans lxs_a) rfl (by intro n z;cases z) ?_
 refine GM_ref ((fcs_lt hb.2.1).trans (lxs_pb O)) PySem.F.slot_list_pop PySem.F.type_list_pop ?_
 refine EL_cons (E_int (EL_nil (EK_nil ⟨KP_blt,C_pop0 T (p:=.str x) (l:=stsL pbl) ((fcs_lt hb.2.1).trans (lxs_pb O)) (by unfold stsL;rw[List.length_map];exact Nat.le_trans (by assumption) (by decide)) ?_⟩)))
 rw[fcs_lt' hb.2.1,lxs_setpb O]
 show K _ _
 rw[fcs_resr,lxs_res hb,res_fresh hf]
 exact h
theorem gt_C (D:L1 W) (N:LexCls W){A:LexA}{tx:List Nat}{pos:Nat}{K:PV→Sig→Prop} (h92s:isW A.ws 92=false) (O:LexOK N.C A tx σ) (hp:pos≤1500000) (hz:tx.length≤1000000)
  (h:∀ pos',tx.drop pos'=(lexS A.ws (tx.drop pos)).2→pos'≤max pos tx.length+2→K (.str (lexS A.ws (tx.drop pos)).1) (lxs N.C A pos' [] (lnAt tx pos') σ)):CC W (k+4) (.ref N.gt) [.ref A.a] [] [] (lxs N.C A pos [] (lnAt tx pos) σ) K:=by
 refine e5_1 (N.gtM.fn.fn) ?_;intro doc pm an cd ct f1
 have T:=D.T
 refine CC_fcs (k:=k+3) T f1 [("self",.ref A.a,none)] 0 (bind1 (n:="self") (fun v=>by rfl) ⟨rfl,rfl⟩) rfl ⟨rfl,trivial⟩ (by rfl) rfl fun L hL=>?_
 have hb:=O.below hL
 have hf:=O.fresh hL
 generalize hfin:lexS A.ws (tx.drop pos)=fin at h
 obtain ⟨tk,rs⟩:=fin
 refine XS_if (T_val (E_Attr (E_l ?_)))
 refine OA_inst T N.X (N.no _ (by simp)) ((fcs_lt hb.1).trans lxs_a) rfl (by intro n z;cases z) ?_
 refine truthy_ref ((fcs_lt hb.2.1).trans (lxs_pb O)) (by simp[stsL]) ?_
 refine XS_nil ?_
 refine XS_setl T ?_
 refine E_strL [] ?_
 refine⟨_,_,_,rfl,?_⟩
 refine XS_setl T ?_
 refine E_Call [] (kp:=.machine) ?_
 refine E_bn T D.B (n:="iter") (by simp) ?_
 refine EL_cons (E_Attr (E_l ?_))
 refine OA_bm T N.X N.rcM.find N.rcM.ty N.rcG N.rcT (by decide) ((fcs_lt hb.1).trans lxs_a) rfl ?_
 refine EL_cons (E_strL [] ?_)
 refine EL_nil (EK_nil ⟨KP_blt,C_iter2 T fun I hI=>?_⟩)
 have hIL:=fcs_fresh hI
 have i:ItOK A I L:=⟨hIL,hb⟩
 refine⟨_,_,_,fcs_gt' hIL,?_⟩
 rw[show(lxs N.C A pos [] (lnAt tx pos) σ).upd I (.citer (.bm N.rc A.a) false)=gts N A tx σ I pos false from(lxs_upd i.ne.1 i.ne.2.1 i.ne.2.2.1).symm]
 refine e1_3 (⟨_,rfl,by lia,Nat.le_max_right ..⟩:∃ M,M=max pos tx.length∧M≤1500000∧tx.length≤M) ?_;intro M hM hM1 hM2
 rw[← hM] at h
 have hpM:pos≤M:=by rw[hM];exact Nat.le_max_left ..
 clear hM
 have ret:∀ pos' b m,pos'≤M+2→tx.drop pos'=rs→K (.str tk) (res L (fcs (gts N A tx σ I pos' b) L m [])):=fun pos' b m h1 h2=>by
  rw[fcs_resr]
  unfold gts
  rw[lxs_res hb,res_upd_ge (Nat.le_of_lt i.il),res_fresh hf]
  exact h pos' h2 h1
 refine XS_cons (X_ForIt (I:=I) T (fun n σ'=>(∃ pos m,σ'=fcs (gts N A tx σ I pos false) L m []∧m "self"=some (.ref A.a)∧m "fiter"=some (.ref I)∧m "token"=some (.str [])∧pos≤M+1∧lexS A.ws (tx.drop pos)=(tk,rs)∧(tx.drop pos).length<n) ∨
  (∃ pos m,σ'=fcs (gts N A tx σ I pos true) L m []∧m "token"=some (.str tk)∧pos≤M+2∧tx.drop pos=rs)) (tx.length+1) ?_ ?_)
 ·refine E_l ⟨rfl,⟨_,_,gts_I i⟩,.inl ⟨pos,_,rfl,rfl,rfl,rfl,(by exact Nat.le_of_lt (cC hpM (Nat.lt_add_of_pos_right (by decide)))),hfin,?_⟩⟩
  rw[List.length_drop];lia
 intro n σ' zz1;rcases zz1 with zz1 |zz1
 ·refine e2_7 zz1 ?_;clear zz1;intro pos m zz2 hm1 hm2 hm3 hp hS hn;subst zz2;refine⟨⟨_,_,gts_I i⟩,nx_gts D N i O (by exact Nat.le_trans (Nat.le_trans hp (Nat.add_le_add hM1 (Nat.le_refl _))) (by decide)) hz (fun e=>?_) (fun c r e=>⟨⟨_,_,gts_I i⟩,AT_name (S_l T ?_)⟩)⟩
  ·rw[e] at hS
   refine e0_2 (by simpa [lexS] using hS:[]=tk∧[]=rs) ?_;intro zz1 zz2;subst zz1;subst zz2
   refine XS_nil (XS_ret (E_l ?_ hm3))
   exact ret _ _ _ (by lia) (by rw[← List.drop_drop,e];rfl)
  refine gen fun K₁ hK₁=>?_
  refine e0_2 (drop_next e) ?_;intro e1 hp1
  rw[e] at hS
  have hrl:r.length+1<n:=by have:=hn;rw[e,List.length_cons] at this;exact this
  have hwsF:∀ {m:Str→Option PV} {pos},fcs (gts N A tx σ I pos false) L m [] A.a=some (.inst N.C A.d (lexF A.ws A.tape A.pb (lnAt tx pos)) 4):=fun {m pos}=>gts_a i
  refine XS_if (T_Compare (E_l (E_Attr (E_l ?_ hm1))))
  refine OA_inst T N.X (N.no _ (by simp)) hwsF rfl (by intro n z;cases z) (in_cs (truthy_bool ?_))
  rw[show decide (c∈A.ws)=isW A.ws c from rfl]
  cases hw:isW A.ws c with
  |true =>
   refine XS_cons (X_Continue ?_)
   subst hK₁
   refine⟨r.length+1,hrl,.inl ⟨_,_,rfl,hm1,hm2,hm3,(by exact Nat.le_of_lt (cC hp1 (cC hM2 (Nat.lt_add_of_pos_right (by decide))))),?_,?_⟩⟩
   ·rw[e1,← hS];simp[lexS,hw]
   ·rw[e1];exact Nat.lt_add_of_pos_right (by decide)
  |false =>
  refine XS_nil ?_
  refine XS_if (T_Compare (E_l (E_strL [34] (eq_ss (truthy_bool ?_)))))
  by_cases h34:c=34
  ·subst h34
   rw[decide_eq_true rfl]
   have hS:lexQ [] r=(tk,rs):=by rw[← hS];simp[lexS,hw]
   refine XS_cons (X_ForIt (I:=I) T (fun n σ'=>(∃ pos m tok,σ'=fcs (gts N A tx σ I pos false) L m []∧m "self"=some (.ref A.a)∧m "fiter"=some (.ref I)∧m "token"=some (.str tok)∧pos≤M+1∧lexQ tok (tx.drop pos)=(tk,rs)∧tok.length≤pos∧(tx.drop pos).length<n) ∨
    (∃ pos m,σ'=fcs (gts N A tx σ I pos true) L m []∧m "token"=some (.str tk)∧pos≤M+2∧tx.drop pos=rs)) (r.length+1) ?_ ?_)
   ·refine E_l ⟨rfl,⟨_,_,gts_I i⟩,.inl ⟨pos+1,_,[],rfl,hm1,hm2,hm3,(by exact Nat.le_of_lt (cC hp1 (cC hM2 (Nat.lt_add_of_pos_right (by decide))))),by rw[e1];exact hS,Nat.zero_le _,by rw[e1];exact Nat.lt_add_of_pos_right (by decide)⟩⟩ hm2
   ·intro n' σ' zz1;rcases zz1 with zz1 |zz1
    ·refine e3_8 zz1 ?_;clear zz1;intro pos m tok zz2 hm1 hm2 hm3 hp hS ht hn';subst zz2;refine⟨⟨_,_,gts_I i⟩,nx_gts D N i O (by exact Nat.le_trans (Nat.le_trans hp (Nat.add_le_add hM1 (Nat.le_refl _))) (by decide)) hz (fun e=>?_) (fun c r e=>⟨⟨_,_,gts_I i⟩,AT_name (S_l T ?_)⟩)⟩
     ·rw[e] at hS
      refine e0_2 (by simpa [lexQ] using hS:tok=tk∧[]=rs) ?_;intro zz1 zz2;subst zz1;subst zz2
      (refine XS_nil (XS_nil (XS_nil ?_));subst hK₁;exact⟨0,by lia,.inr ⟨_,_,rfl,hm3,by lia,by rw[← List.drop_drop,e];rfl⟩⟩)
     refine gen fun K₂ hK₂=>?_
     refine e0_2 (drop_next e) ?_;intro e1 hp1
     rw[e] at hS
     have hrl:r.length+1<n':=by have:=hn';rw[e,List.length_cons] at this;exact this
     refine XS_if (T_Compare (E_l (E_strL [34] (eq_ss (truthy_bool ?_)))))
     by_cases h34:c=34
     ·subst h34
      rw[decide_eq_true rfl]
      rw[lexQ_34] at hS
      refine e0_2 (by simpa using hS:tok=tk∧r=rs) ?_;intro zz1 zz2;subst zz1;subst zz2
      refine XS_ret (E_l ?_ hm3)
      subst hK₂
      subst hK₁
      exact ret _ _ _ (by exact Nat.le_of_lt (cC hp1 (cC hM2 (Nat.lt_add_of_pos_right (by decide))))) e1
     ·rw[decide_eq_false (by simpa using h34)]
      by_cases h92:c=92
      ·subst h92
       refine XS_if (T_Compare (E_l (E_strL [92] (eq_ss (truthy_bool ?_)))))
       rw[decide_eq_true rfl]
       refine XS_setl T ?_
       refine E_Meth [] (kp:=.frame) ?_
       refine E_l ?_ hm1
       refine GM_inst T N.X N.rcM.find N.rcM.ty (gts_a i) rfl ?_
       refine EL_nil (EK_nil ⟨N.rcM.kp,(rc_gts (k:=k+1) D N i O (by exact Nat.le_of_lt (cC hp1 (cC hz (by decide)))) hz ?_).call⟩)
       refine⟨_,_,_,rfl,XS_nil (XS_nil ?_)⟩
       refine XS_augl T (E_l ?_) hm3
       refine iadd_ss (by have:=sgn_len (tx:=tx) (pos:=pos+1);exact Nat.le_trans (Nat.add_le_add (Nat.le_trans ht (Nat.le_trans (Nat.le_of_lt (lekS hp1)) hz)) this) (by decide)) ⟨_,_,_,rfl,XS_nil ?_⟩
       have hsl:=sgn_len (tx:=tx) (pos:=pos+1)
       subst hK₂
       refine⟨r.length+1,hrl,.inl ⟨_,_,_,rfl,hm1,hm2,fset_same _ _ _,(by lia),?_,?_,?_⟩⟩
       ·rw[← hS,lexQ_92,← List.drop_drop,e1]
        unfold sgn
        rw[e1]
       ·rw[List.length_append];lia
       ·rw[← List.drop_drop,e1,List.length_drop];lia
      ·refine XS_if (T_Compare (E_l (E_strL [92] (eq_ss (truthy_bool ?_)))))
       rw[decide_eq_false (by simpa using h92)]
       refine XS_nil (XS_nil ?_)
       refine XS_augl T (E_l ?_) hm3
       refine iadd_ss (by simp;exact Nat.le_of_lt (cC ht (cA (lekS hp1) (cC hz (by decide))))) ⟨_,_,_,rfl,XS_nil ?_⟩
       subst hK₂
       refine⟨r.length+1,hrl,.inl ⟨_,_,_,rfl,hm1,hm2,fset_same _ _ _,(by exact Nat.le_of_lt (cC hp1 (cC hM2 (Nat.lt_add_of_pos_right (by decide))))),?_,?_,?_⟩⟩
       ·rw[← hS,lexQ_c _ _ h34 h92,e1]
       ·simp;assumption
       ·rw[e1];exact Nat.lt_add_of_pos_right (by decide)
    ·refine e2_4 zz1 ?_;clear zz1;intro pos m zz2 hm hpe hrs;subst zz2;(refine⟨⟨_,_,gts_I i⟩,nx_end D N i (XS_nil (XS_nil (XS_nil ?_)))⟩;subst hK₁;exact⟨0,by lia,.inr ⟨_,_,rfl,hm,hpe,hrs⟩⟩)
  ·rw[decide_eq_false (by simpa using h34)]
   refine XS_cut (fun σ'=>∃ pos m y,σ'=fcs (gts N A tx σ I pos false) L m []∧m "self"=some (.ref A.a)∧m "fiter"=some (.ref I)∧m "token"=some (.str [])∧m "ch"=some (.str y)∧y.length≤pos∧pos≤M+1∧lexU A.ws y (tx.drop pos)=(tk,rs)∧(tx.drop pos).length≤r.length) (X_If (T_Compare (E_l (E_strL [92] (eq_ss (truthy_bool ?_)))))) ?_
   ·by_cases h92:c=92
    ·subst h92
     rw[decide_eq_true rfl]
     refine XS_setl T ?_
     refine E_Meth [] (kp:=.frame) ?_
     refine E_l ?_ hm1
     refine GM_inst T N.X N.rcM.find N.rcM.ty (gts_a i) rfl ?_
     refine EL_nil (EK_nil ⟨N.rcM.kp,(rc_gts (k:=k+1) D N i O (by exact Nat.le_of_lt (cC hp1 (cC hz (by decide)))) hz ?_).call⟩)
     have hsl:=sgn_len (tx:=tx) (pos:=pos+1)
     refine⟨_,_,_,rfl,XS_nil ⟨rfl,_,_,_,rfl,hm1,hm2,hm3,fset_same _ _ _,by lia,(by lia),?_,?_⟩⟩
     ·have hS:lexU A.ws (r.take 1) (r.drop 1)=(tk,rs):=by rw[← hS];simp[lexS,hw]
      rw[← List.drop_drop,e1]
      unfold sgn
      rw[e1,← hS]
     ·rw[← List.drop_drop,e1,List.length_drop];exact Nat.le_trans (Nat.sub_le _ _) (Nat.le_refl _)
    ·rw[decide_eq_false (by simpa using h92)]
     have hS:lexU A.ws [c] r=(tk,rs):=by rw[← hS];simp[lexS,hw,h34,h92]
     exact XS_nil ⟨rfl,_,_,_,rfl,hm1,hm2,hm3,fset_same _ _ _,by simp,(by exact Nat.le_of_lt (cC hp1 (cC hM2 (Nat.lt_add_of_pos_right (by decide))))),by rw[e1];exact hS,by rw[e1];exact Nat.le_refl _⟩
   intro _ zz1;refine e3_9 zz1 ?_;clear zz1;intro pos m y zz2 g1 g2 g3 g4 gl gp gS gr;subst zz2
   refine XS_augl T (E_l ?_ g4) g3
   refine iadd_ss (by simp;exact Nat.le_trans (Nat.le_trans gl (Nat.le_trans gp (Nat.add_le_add hM1 (Nat.le_refl _)))) (by decide)) ⟨_,_,_,rfl,?_⟩
   refine XS_cons (X_ForIt (I:=I) T (fun n σ'=>(∃ pos m tok,σ'=fcs (gts N A tx σ I pos false) L m []∧m "self"=some (.ref A.a)∧m "fiter"=some (.ref I)∧m "token"=some (.str tok)∧pos≤M+1∧lexU A.ws tok (tx.drop pos)=(tk,rs)∧tok.length≤pos∧(tx.drop pos).length<n) ∨
   (∃ pos m,σ'=fcs (gts N A tx σ I pos true) L m []∧m "token"=some (.str tk)∧pos≤M+2∧tx.drop pos=rs)) (r.length+1) ?_ ?_)
   ·refine E_l ⟨rfl,⟨_,_,gts_I i⟩,.inl ⟨_,_,_,rfl,g1,g2,fset_same _ _ _,gp,gS,by rw[List.nil_append];exact gl,by exact cC gr (Nat.lt_add_of_pos_right (by decide))⟩⟩ g2
   ·intro n' σ' zz1;rcases zz1 with zz1 |zz1
    ·refine e3_8 zz1 ?_;clear zz1;intro pos m tok zz2 hm1 hm2 hm3 hp hS ht hn';subst zz2;refine⟨⟨_,_,gts_I i⟩,nx_gts D N i O (by exact Nat.le_trans (Nat.le_trans hp (Nat.add_le_add hM1 (Nat.le_refl _))) (by decide)) hz (fun e=>?_) (fun c r e=>⟨⟨_,_,gts_I i⟩,AT_name (S_l T ?_)⟩)⟩
     ·rw[e] at hS
      refine e0_2 (by simpa [lexU] using hS:tok=tk∧[]=rs) ?_;intro zz1 zz2;subst zz1;subst zz2
      (refine XS_nil (XS_nil (XS_nil ?_));subst hK₁;exact⟨0,by lia,.inr ⟨_,_,rfl,hm3,by lia,by rw[← List.drop_drop,e];rfl⟩⟩)
     refine gen fun K₂ hK₂=>?_
     refine e0_2 (drop_next e) ?_;intro e1 hp1
     rw[e] at hS
     have hrl:r.length+1<n':=by have:=hn';rw[e,List.length_cons] at this;exact this
     have hwsF:∀ {m:Str→Option PV} {pos},fcs (gts N A tx σ I pos false) L m [] A.a=some (.inst N.C A.d (lexF A.ws A.tape A.pb (lnAt tx pos)) 4):=fun {m pos}=>gts_a i
     refine XS_if (T_Compare (E_l (E_Attr (E_l ?_ hm1))))
     refine OA_inst T N.X (N.no _ (by simp)) hwsF rfl (by intro n z;cases z) (in_cs (truthy_bool ?_))
     rw[show decide (c∈A.ws)=isW A.ws c from rfl]
     cases hw:isW A.ws c with
     |true =>
      rw[lexU_w _ _ hw] at hS
      refine e0_2 (by simpa using hS:tok=tk∧r=rs) ?_;intro zz1 zz2;subst zz1;subst zz2
      refine XS_ret (E_l ?_ hm3)
      subst hK₂
      subst hK₁
      exact ret _ _ _ (by exact Nat.le_of_lt (cC hp1 (cC hM2 (Nat.lt_add_of_pos_right (by decide))))) e1
     |false =>
      by_cases h92:c=92
      ·subst h92
       refine XS_if (T_Compare (E_l (E_strL [92] (eq_ss (truthy_bool ?_)))))
       rw[decide_eq_true rfl]
       refine XS_setl T ?_
       refine E_Meth [] (kp:=.frame) ?_
       refine E_l ?_ hm1
       refine GM_inst T N.X N.rcM.find N.rcM.ty (gts_a i) rfl ?_
       refine EL_nil (EK_nil ⟨N.rcM.kp,(rc_gts (k:=k+1) D N i O (by exact Nat.le_of_lt (cC hp1 (cC hz (by decide)))) hz ?_).call⟩)
       refine⟨_,_,_,rfl,XS_nil (XS_nil ?_)⟩
       refine XS_augl T (E_l ?_) hm3
       refine iadd_ss (by have:=sgn_len (tx:=tx) (pos:=pos+1);exact Nat.le_trans (Nat.add_le_add (Nat.le_trans ht (Nat.le_trans (Nat.le_of_lt (lekS hp1)) hz)) this) (by decide)) ⟨_,_,_,rfl,XS_nil ?_⟩
       have hsl:=sgn_len (tx:=tx) (pos:=pos+1)
       subst hK₂
       refine⟨r.length+1,hrl,.inl ⟨_,_,_,rfl,hm1,hm2,fset_same _ _ _,(by lia),?_,?_,?_⟩⟩
       ·rw[← hS,lexU_92 h92s,← List.drop_drop,e1]
        unfold sgn
        rw[e1]
       ·rw[List.length_append];lia
       ·rw[← List.drop_drop,e1,List.length_drop];lia
      ·refine XS_if (T_Compare (E_l (E_strL [92] (eq_ss (truthy_bool ?_)))))
       rw[decide_eq_false (by simpa using h92)]
       refine XS_nil (XS_nil ?_)
       refine XS_augl T (E_l ?_) hm3
       refine iadd_ss (by simp;exact Nat.le_of_lt (cC ht (cA (lekS hp1) (cC hz (by decide))))) ⟨_,_,_,rfl,XS_nil ?_⟩
       subst hK₂
       refine⟨r.length+1,hrl,.inl ⟨_,_,_,rfl,hm1,hm2,fset_same _ _ _,(by exact Nat.le_of_lt (cC hp1 (cC hM2 (Nat.lt_add_of_pos_right (by decide))))),?_,?_,?_⟩⟩
       ·rw[← hS,lexU_c _ _ hw h92,e1]
       ·simp;assumption
       ·rw[e1];exact Nat.lt_add_of_pos_right (by decide)
    ·refine e2_4 zz1 ?_;clear zz1;intro pos m zz2 hm hpe hrs;subst zz2;(refine⟨⟨_,_,gts_I i⟩,nx_end D N i (XS_nil (XS_nil (XS_nil ?_)))⟩;subst hK₁;exact⟨0,by lia,.inr ⟨_,_,rfl,hm,hpe,hrs⟩⟩)
 ·refine e2_4 zz1 ?_;clear zz1;intro pos m zz2 hm hpe hrs;subst zz2;refine⟨⟨_,_,gts_I i⟩,nx_end D N i ?_⟩
  refine XS_nil (XS_ret (E_l ?_ hm))
  exact ret _ _ _ hpe hrs
theorem fcs_range {τ:Sig}{L a:Nat}{m:Str→Option PV}{cs:List (Option PV)} (h1:L≤a) (h2:a≤L+cs.length):(∃ m',fcs τ L m cs a=some (.frame m'))∨∃ c,fcs τ L m cs a=some (.cell c):=by
 rcases Nat.eq_or_lt_of_le h1 with rfl |h
 ·exact .inl ⟨_,fcs_L⟩
 ·refine e1_1 (⟨a-(L+1),(Nat.add_sub_of_le h).symm⟩:∃ i,a=L+1+i) ?_;intro i zz1;subst zz1
  have hi:i<cs.length:=by lia
  exact .inr ⟨_,fcs_c (List.getElem?_eq_getElem hi)⟩
theorem sub_fcs {τ:Sig}{L:Nat}{m:Str→Option PV}{cs:List (Option PV)} (hτ:∀ a,L≤a→a≤L+cs.length→τ a=none):∀ s,St W (fcs τ L m cs) s→Sub τ (fcs τ L m cs):=fun s S=>by
 have eq:∀ a,(a<L∨L+cs.length<a)→fcs τ L m cs a=τ a:=fun a h=>h.elim (fun h=>fcs_lt h) (fun h=>fcs_gt h)
 have out:∀ a o,τ a=some o→(a<L∨L+cs.length<a):=fun (a:Nat) o e=>by
  rcases Nat.lt_or_ge a L with q |q
  ·exact .inl q
  ·rcases Nat.lt_or_ge (L+cs.length) a with q' |q'
   ·exact .inr q'
   ·rw[hτ a q q'] at e;cases e
 refine⟨fun a o e=>(eq a (out a o e)).trans e,fun a C d fs n e=>?_⟩
 have hd:=(S.dict_there ((eq a (out a _ e)).trans e)).1
 have:(d:Nat)<L∨L+cs.length<d:=by
  rcases Nat.lt_or_ge d L with q |q
  ·exact .inl q
  ·rcases Nat.lt_or_ge (L+cs.length) d with q' |q'
   ·exact .inr q'
   ·rcases fcs_range (τ:=τ) (m:=m) q q' with ⟨m',e'⟩ |⟨c,e'⟩ <;> (rw[e'] at hd;cases hd)
 rw[eq d this] at hd;exact hd
theorem CC_fcsS (T:Top W){a:Addr}{fd:FuncData}{body:List Stmt} (f:FnAt W a fd body){args kv:List PV}{kn:List Str}{K:PV→Sig→Prop} (bp:List (Str×PV×Option Nat)) (n:Nat)
  (hb:∀ vs ws,G W k (fun F=>VRels F args vs∧VRels F kv ws) BRels (bindArgs fd ⟨vs,kn.zip ws⟩) σ fun b s=>b=(bp.map fun b=>(b.1,b.2.1))∧s=σ) (hk:fd.scope.kind=.function)
  (hl:BindsAt fd.scope bp) (hn:(fd.scope.names.countP fun x=>x.2 == .cell)=n) (hi:inB n bp=true)
  (h:∀ L,Fresh σ L→XS W k (envFn fd [] L a) body (fcs σ L (bm' (fun _=>none) bp) (bc' (List.replicate n none) bp)) fun fl σ₃=>∃ τ m cs,σ₃=fcs τ L m cs∧(∀ a,L≤a→a≤L+cs.length→τ a=none)∧K (retOf fl) τ):CC W (k+1) (.ref a) args kn kv σ K :=
 CC_fn f fun vs ws=>(hb vs ws).imp fun b s hpat L hL=>by
  refine e0_2 hpat ?_;try clear hpat;intro e1 e2
  subst e1 e2
  rw[cellsUpd_at,hn]
  exact SB_fcs (env:=envFn fd [] L a) (cl:=[]) T hk rfl rfl hl (by rw[List.length_replicate];exact hi) ((h L hL).imp fun fl σ₃ hpat=>by refine e3_3 hpat ?_;try clear hpat;intro τ m cs e hτ z;exact⟨τ,.inr (e▸sub_fcs hτ),z⟩)
theorem fcs_dels {τ:Sig}{L:Nat}{m:Str→Option PV}{c d:Option PV} (h1:τ (L+1)=none) (h2:τ (L+1+1)=none):(fcs τ L m [c,d]).dels [L+1,L+1+1]=fcs τ L m []:=by
 funext b
 unfold Sig.dels
 by_cases q1:b=L+1
 ·subst q1
  rw[if_pos (by simp),fcs_gt (by simp),h1]
 ·by_cases q2:b=L+1+1
  ·subst q2
   rw[if_pos (by simp),fcs_gt (by simp;lia),h2]
  ·rw[if_neg (by simp[q1,q2])]
   have hb:∀ b:Nat,b≠L+1→b≠L+1+1→fcs τ L m [c,d] b=fcs τ L m [] b:=fun b q1 q2=>by
    rcases Nat.lt_trichotomy b L with q |q |q
    ·rw[fcs_lt q,fcs_lt q]
    ·subst q;rw[fcs_L,fcs_L]
    ·have e:([c,d]:List (Option PV)).length=2:=rfl
     rw[fcs_gt (show L+([c,d]:List (Option PV)).length<b by rw[e];lia),fcs_gt (by simpa using q)]
   exact hb b q1 q2
noncomputable def lexG (fp:PV) (pb:Addr) (ln:Int):Str→Option PV:=fset (fset (fset (fset (fun _=>none) "lineno" (.int ln)) "instream" fp) "whitespace" (.str [10,9,13,32])) "pushback" (.ref pb)
theorem ini_C (D:L1 W) (N:LexCls W){fp:PV}{d a:Nat}{K:PV→Sig→Prop} (hd:d<a) (hσd:σ a=some (.inst N.C d (fun _=>none) 0)) 
  (h:∀ b,a<b→Fresh σ b→K .none ((σ.upd a (.inst N.C d (lexG fp b 1) 4)).upd b (.list []))):CC W (k+1) (.ref N.ini) [.ref a,fp] [] [] σ K:=by
 refine e5_1 (N.iniM.fn.fn) ?_;intro doc pm an cd ct f1
 have T:=D.T
 refine CC_fcsS T f1 [("self",.ref a,none),("fp",fp,none)] 0 (bind2 (n:="self") (m:="fp") (fun v w=>by rfl) ⟨rfl,rfl⟩) rfl ⟨rfl,rfl,trivial⟩ (by rfl) rfl fun L hL=>?_
 have haL:a<L:=by
  rcases Nat.lt_or_ge a L with q |q
  ·exact q
  ·have:=hL a q;rw[hσd] at this;cases this
 refine XS_cons (X_AssignAttr (E_int (E_l ?_)))
 refine SA_inst T N.X (N.no _ (by simp)) ((fcs_lt haL).trans hσd) (by decide) 1 (.inl rfl) ?_
 rw[fcs_lt' haL]
 refine XS_cons (X_AssignAttr (E_l (E_l ?_)))
 refine SA_inst T N.X (N.no _ (by simp)) ((fcs_lt haL).trans (upd_same _ _ _)) (by decide) 2 (.inl rfl) ?_
 rw[fcs_lt' haL,upd_upd]
 refine XS_cons (X_AssignAttr (E_strL [10,9,13,32] (E_l ?_)))
 refine SA_inst T N.X (N.no _ (by simp)) ((fcs_lt haL).trans (upd_same _ _ _)) (by decide) 3 (.inl rfl) ?_
 rw[fcs_lt' haL,upd_upd]
 refine XS_cons (X_AssignAttr (E_ListM (EL_nil ⟨by simp,fun b hb=>?_⟩)))
 have hLb:=fcs_fresh hb
 rw[fcs_gt' hLb]
 have hab:a≠b:=Nat.ne_of_lt (Nat.lt_trans haL (Nat.lt_of_le_of_lt (Nat.le_add_right _ _) hLb))
 refine E_l ?_
 refine SA_inst T N.X (N.no _ (by simp)) ((fcs_lt haL).trans ((upd_ne hab).trans (upd_same _ _ _))) (by decide) 4 (.inl rfl) ?_
 rw[fcs_lt' haL,upd_comm hab.symm,upd_upd]
 refine XS_nil ⟨_,_,_,rfl,fun c h1 h2=>?_,?_⟩
 ·have h2:c≤L:=h2
  have:c=L:=Nat.le_antisymm h2 h1
  subst this
  rw[upd_ne (Nat.ne_of_lt (Nat.lt_of_le_of_lt (Nat.le_add_right _ _) hLb)),upd_ne (Nat.ne_of_gt haL)]
  exact hL c (Nat.le_refl _)
 ·refine h b (Nat.lt_trans haL (Nat.lt_of_le_of_lt (Nat.le_add_right _ _) hLb)) fun c hc=>hL c (Nat.le_trans (Nat.le_of_lt (Nat.lt_of_le_of_lt (Nat.le_add_right _ _) hLb)) hc)
theorem make_C (D:L1 W) (N:LexCls W){fp:PV}{K:PV→Sig→Prop} (h:∀ d b:Nat,Fresh σ d→d+1<b→K (.ref (d+1)) (((σ.upd d (.part (d+1))).upd (d+1) (.inst N.C d (lexG fp b 1) 4)).upd b (.list []))):CC W (k+2) (.ref N.C) [fp] [] [] σ K:=by
 refine CC_make D.T N.X N.iniM.find N.iniM.ty fun d hd=>?_
 refine ini_C D N (Nat.lt_succ_self d) (upd_same _ _ _) fun b hb _=>⟨rfl,?_⟩
 rw[upd_upd]
 exact h d b hd hb
structure NestOK (W:Wd) (a c:Addr):Prop where
 fn:∃ doc pm an ct,FnAt W a (fnX (nameOf (defAt 19)) "_law_lexer" (paramsOf (defAt 19)) (bodyOf (defAt 19)) (scopeOf (defAt 19)) [] .none .none doc pm an (.ref c) ct) (bodyOf (defAt 19))
 tab:TabTop W c
 pos:readDef.pos=W.tpos
 q:W.tq="_law_lexer.<locals>.read"
noncomputable def lexBase (C:Addr) (A:LexA) (tpb:Nat) (tx:List Nat) (σ:Sig):Sig:=(((σ.upd A.td (.part A.tape)).upd A.tape (.inst C A.td (fset (lexG .none tpb 1) "read" (readClo tx A.P)) 5)).upd tpb (.list [])).upd A.d (.part A.a)
theorem law_lexer_C (D:L1 W) (N:LexCls W){a c:Addr} (O:NestOK W a c){tx:List Nat}{K:PV→Sig→Prop} (h:∀ A tpb,A.ws=[10,9,13,32]→Fresh σ A.P→A.P<A.td→A.tape=A.td+1→A.tape<tpb→tpb<A.d→A.a=A.d+1→A.a<A.pb→K (.ref A.a) (lxs N.C A 0 [] 1 (lexBase N.C A tpb tx σ))):CC W (k+3) (.ref a) [.str tx] [] [] σ K:=by
 refine e4_1 (O.fn) ?_;intro doc pm an ct f1
 have T:=D.T
 refine CC_fcsS T f1 [("text",.str tx,some 0)] 2 (bind1 (n:="text") (fun v=>by rfl) ⟨rfl,rfl⟩) rfl ⟨⟨rfl,fun L=>rfl⟩,trivial⟩ (by rfl) rfl fun (L:Nat) hL=>?_
 refine(?_:XS W _ _ _ (fcs σ L (fun _=>none) [some (.str tx),none]) _)
 refine XS_setc T 1 (E_ListM (EL_cons (E_int (EL_nil ⟨by simp,fun (P:Nat) hP=>?_⟩))))
 have hLP:=fcs_fresh hP
 have hPσ:=fcs_freshσ hP
 refine⟨_,_,_,fcs_gt' hLP,by simp,?_⟩
 refine(?_:XS W _ _ _ (fcs _ L (fun _=>none) [some (.str tx),some (.ref P)]) _)
 refine XS_setl T ?_
 refine E_Call [] (kp:=.machine) (E_gl T N.G ?_)
 refine EL_cons (E_none (EL_nil (EK_nil ⟨N.kp _,(make_C D N fun td tpb htd htb=>?_).call⟩)))
 have hL2:L+2<P:=hLP
 have hPtd:P<td:=by
  rcases Nat.lt_or_ge P td with q |q
  ·exact q
  ·have:=htd P q
   rw[fcs_gt (show L+([some (PV.str tx),some (PV.ref P)]:List (Option PV)).length<P from hL2),upd_same] at this;cases this
 have htdσ:Fresh σ td:=fun b hb=>hPσ b (Nat.le_trans (Nat.le_of_lt hPtd) hb)
 have hLn:([some (.str tx),some (.ref P)]:List (Option PV)).length=2:=rfl
 rw[fcs_gt' (by rw[hLn];exact cA hL2 hPtd),fcs_gt' (by rw[hLn];exact cA hL2 (cA hPtd (Nat.lt_add_of_pos_right (by decide)))),fcs_gt' (by rw[hLn];exact cA hL2 (cA hPtd (ltk htb)))]
 refine⟨_,_,_,rfl,?_⟩
 generalize hτ:(((σ.upd P (.list [.int 0])).upd td (.part (td+1))).upd (td+1) (.inst N.C td (lexG .none tpb 1) 4)).upd tpb (.list [])=τ
 have τL:∀ b:Nat,L≤b→b<P→τ b=none:=fun b h1 h2=>by
  subst hτ
  rw[upd_ne (show b≠tpb by exact Nat.ne_of_lt (cA h2 (cA hPtd (ltk htb)))),upd_ne (show b≠td+1 by exact Nat.ne_of_lt (cA h2 (cA hPtd (Nat.lt_add_of_pos_right (by decide))))),upd_ne (show b≠td by exact Nat.ne_of_lt (cA h2 hPtd)),upd_ne (show b≠P by exact Nat.ne_of_lt (by assumption))]
  exact hL b h1
 refine XS_cons (X_Def (q₀:=("text",L+1)) (cr:=[("place",L+1+1)]) (cs:=[("text",.str tx),("place",.ref P)]) T O.tab rfl rfl rfl rfl rfl rfl O.pos (by rw[O.q];rfl) rfl ?_ ?_)
 ·exact⟨_,_,rfl,fcs_c (i:=0) rfl,_,_,rfl,fcs_c (i:=1) rfl,rfl⟩
 rw[show(List.map (fun x=>x.2) [((Str.ofString "text",L+1):Str×Addr),(Str.ofString "place",L+1+1)])=[L+1,L+1+1] from rfl,fcs_dels (τL _ (by lia) (by lia)) (τL _ (by lia) (by assumption)),O.q]
 refine S_l T ?_
 refine XS_cons (X_AssignAttr (E_l (E_l ?_)))
 have hLt:L+([]:List (Option PV)).length=L:=rfl
 have hτt:τ (td+1)=some (.inst N.C td (lexG .none tpb 1) 4):=by
  subst hτ
  rw[upd_ne (show td+1≠tpb by exact Nat.ne_of_lt (by assumption)),upd_same]
 refine SA_inst T N.X (N.no _ (by simp)) ((fcs_gt (by rw[hLt];exact cA (ltk hL2) (cA hPtd (Nat.lt_add_of_pos_right (by decide))))).trans hτt) (by decide) 5 (.inl rfl) ?_
 rw[fcs_gt' (by rw[hLt];exact cA (ltk hL2) (cA hPtd (Nat.lt_add_of_pos_right (by decide))))]
 refine XS_ret ?_
 refine E_Call [] (kp:=.machine) (E_gl T N.G ?_)
 refine EL_cons (E_l (EL_nil (EK_nil ⟨N.kp _,(make_C D N fun d pb hd hpb=>?_).call⟩)))
 have hdt:tpb<d:=by
  rcases Nat.lt_or_ge tpb d with q |q
  ·exact q
  ·have:=hd tpb q
   rw[fcs_gt (by rw[hLt];exact cA (ltk hL2) (cA hPtd (ltk htb))),upd_ne (show tpb≠td+1 by exact Nat.ne_of_gt (by assumption))] at this
   subst hτ
   rw[upd_same] at this;cases this
 rw[fcs_gt' (by rw[hLt];exact cA (ltk hL2) (cA hPtd (cA (ltk htb) hdt))),fcs_gt' (by rw[hLt];exact cA (ltk hL2) (cA hPtd (cA (ltk htb) (cA hdt (Nat.lt_add_of_pos_right (by decide)))))),fcs_gt' (by rw[hLt];exact cA (ltk hL2) (cA hPtd (cA (ltk htb) (cA hdt (ltk hpb)))))]
 refine⟨_,_,_,rfl,fun (b:Nat) (h1:L≤b) (h2:b≤L+0)=>?_,?_⟩
 ·rw[upd_ne (show b≠pb by exact Nat.ne_of_lt (cC h2 (cA (Nat.add_lt_add_left (by decide) _) (cA hL2 (cA hPtd (cA (ltk htb) (cA hdt (ltk hpb)))))))),upd_ne (show b≠d+1 by exact Nat.ne_of_lt (cC h2 (cA (Nat.add_lt_add_left (by decide) _) (cA hL2 (cA hPtd (cA (ltk htb) (cA hdt (Nat.lt_add_of_pos_right (by decide))))))))),upd_ne (show b≠d by exact Nat.ne_of_lt (cC h2 (cA (Nat.add_lt_add_left (by decide) _) (cA hL2 (cA hPtd (cA (ltk htb) hdt)))))),upd_ne (show b≠td+1 by exact Nat.ne_of_lt (cC h2 (cA (Nat.add_lt_add_left (by decide) _) (cA hL2 (cA hPtd (Nat.lt_add_of_pos_right (by decide)))))))]
  exact τL b h1 (by exact cC h2 (cA (Nat.add_lt_add_left (by decide) _) hL2))
 ·have:=h ⟨d+1,d,pb,td+1,td,P,[10,9,13,32]⟩ tpb rfl hPσ hPtd rfl htb hdt rfl hpb
  unfold lxs lexBase at this
  dsimp only at this
  rw[upd_comm (show d≠P by exact Nat.ne_of_gt (cA hPtd (cA (ltk htb) hdt))),upd_comm (show tpb≠P by exact Nat.ne_of_gt (cA hPtd (ltk htb))),upd_comm (show td+1≠P by exact Nat.ne_of_gt (cA hPtd (Nat.lt_add_of_pos_right (by decide)))),upd_comm (show td≠P by exact Nat.ne_of_gt (by assumption)),upd_comm (show pb≠d+1 by exact Nat.ne_of_gt (by assumption))] at this
  subst hτ
  rw[upd_comm (show tpb≠td+1 by exact Nat.ne_of_gt (by assumption)),upd_upd]
  exact this
structure FnD (W:Wd) (a:Addr) (q:Str) (st:Stmt) (items:Array Value):Prop where
 fn:∃ T doc pm an cd ct,FnAt W a (fnX (nameOf st) q (paramsOf st) (bodyOf st) (scopeOf st) [] (.ref T) .none doc pm an cd ct) (bodyOf st)∧∃ o n,W.h₁.get? T=some o∧o.cls ≠ .none∧o.data=.seq items n
structure MethD (W:Wd) (C:Addr) (name:Str) (a:Addr) (q:Str) (st:Stmt) (items:Array Value):Prop where
 find:findIn W.K (.ref C) name=some (some (.ref a))
 ty:typeIn W.K (.ref a)=some (.type "function")
 fn:FnD W a q st items
noncomputable def nameCode:Array Nat := #[14,10,4,1,1,22,0,31,16,127,0,13,7,22,0,31,16,127,0,1]
noncomputable def valueCode:Array Nat := #[14,14,4,1,1,9,4294966783,0,0,2147483648,0,0,0,0,0,13,11,9,4294966783,0,0,2147483648,0,0,0,0,0,1]
structure HdrCls (W:Wd) where
 C:Addr
 G:W.mg "Headers"=some (.ref C)
 X:ClsIs W C
 kp:∀ σ,KP W .machine (.ref C) σ
 no:findIn W.K (.ref C) "_headers"=some none
 ini:Addr
 iniM:MethD W C "__init__" ini "Headers.__init__" (methAt 7 0) #[.none]
 cv:Addr
 cvM:MethIs W C "_convert_string_type" cv "Headers._convert_string_type" (methAt 7 1)
 ga:Addr
 gaM:MethIs W C "get_all" ga "Headers.get_all" (methAt 7 7)
 ah:Addr
 ahM:MethIs W C "add_header" ah "Headers.add_header" (methAt 7 16)
 nm:Addr
 nmG:W.mg "_name_disallowed_re"=some (.ref nm)
 nmP:PatF W nm nameCode
 vl:Addr
 vlG:W.mg "_value_disallowed_re"=some (.ref vl)
 vlP:PatF W vl valueCode
 sys:sysModules<W.h₁.objs.size
def okN (x:List Nat):Prop:=∀ c∈x,32≤c∧c≠127
def okV (x:List Nat):Prop:=∀ c∈x,(32≤c∨c=9)∧c≠127
structure HdrA where
 (a d l:Nat)
noncomputable def hdF (l:Addr):Str→Option PV:=fset (fun _=>none) "_headers" (.ref l)
noncomputable def ents (es:List (List Nat×List Nat)):List PV:=es.map fun e=>.tup [.str e.1,.str e.2]
noncomputable def hds (H:HdrA) (es:List (List Nat×List Nat)) (σ:Sig):Sig:=σ.upd H.l (.list (ents es))
structure HdrOK (C:Addr) (H:HdrA) (σ:Sig):Prop where
 at_:σ H.a=some (.inst C H.d (hdF H.l) 1)
 al:H.a≠H.l
theorem Sbs.tup {l:List PV}:Sbs W (.tup l) σ:=fun s S v hpat=>by refine e3_3 hpat ?_;try clear hpat;intro a vs n e f r;exact⟨"tuple",_,slot_tuple_getitem.lookup,e▸⟨_,f.2.1,rfl⟩⟩
theorem get_tup {l:List PV}{i:Int}{p:PV}{K:PV→Sig→Prop} (h0:0≤i) (h1:i<2^63) (hp:l[i.toNat]? = some p) (h:K p σ):O2 W k VRel getItem (.tup l) (.int i) σ K:=fun va vb=>.id h fun A hA s hs hpat Q q=>by
 refine e0_2 hpat ?_;try clear hpat;intro hP hi
 refine e3_3 hP ?_;try clear hP;intro a vs n zz1 f r;subst zz1
 refine e1_1 hi ?_;try clear hi;intro t zz1;subst zz1
 refine e1_2 (vrels_at r hp) ?_;intro v hv rv
 have hl:=r.length
 rw[Array.length_toList] at hl
 have hlt:i.toNat<l.length:=by
  rcases Nat.lt_or_ge i.toNat l.length with q |q
  ·exact q
  ·rw[List.getElem?_eq_none q] at hp;cases hp
 refine PyProof.Rows.getItem_tuple (t:=a) (j:=i.toNat) ⟨_,f.2.1,rfl,n,rfl⟩ (by lia) h1 ?_ hv (q _ _ rfl rfl rfl rv)
 unfold seqIndex?
 rw[hl]
 simp[h0]
 exact by rw[if_neg (Int.not_lt.mpr h0)];exact⟨⟨h0,(Int.toNat_lt h0).mp hlt⟩,rfl⟩
theorem cv_C (D:L1 W) (N:HdrCls W){a:Addr}{b:Bool}{K:PV→Sig→Prop} (hx:if b=true then okN x else okV x) (hz:x.length≤1000000) (h:K (.str x) σ):CC W (k+1) (.ref N.cv) [.ref a,.str x] ["name"] [.bool b] σ K:=by
 refine e5_1 (N.cvM.fn.fn) ?_;intro doc pm an cd ct f1
 have T:=D.T
 refine CC_fcs T f1 [("self",.ref a,none),("value",.str x,none),("name",.bool b,none)] 0 (fun vs ws A hA s hs hpat=>?_) rfl ⟨rfl,rfl,rfl,trivial⟩ (by rfl) rfl fun (L:Nat) hL=>?_
 ·obtain ⟨⟨v,r,e1,h1,w,r',e3,h2,e2⟩,u,r'',e4,h3,e5⟩:=hpat
  subst e1 e3 e4
  obtain rfl:r'=[]:=e2
  obtain rfl:r''=[]:=e5
  rw[show bindArgs (fnX (nameOf (methAt 7 1)) "Headers._convert_string_type" (paramsOf (methAt 7 1)) (bodyOf (methAt 7 1)) (scopeOf (methAt 7 1)) [] .none .none doc pm an cd ct) ⟨[v,w],(["name"]:List Str).zip [u]⟩=(Pure.pure [(("self":Str),v),("value",w),("name",u)]:Sem (List (Str×Value))) by rfl]
  exact wpAny_pure ⟨[("self",.ref a),("value",.str x),("name",.bool b)],σ,hs,FLe.refl _,⟨v,_,rfl,h1,w,_,rfl,h2,u,[],rfl,h3,rfl⟩,rfl,rfl⟩
 have ret:∀ m,K (.str x) (res L (fcs σ L m [])):=fun m=>by rw[fcs_res hL];exact h
 refine XS_if (T_Compare (E_Call [] (kp:=.machine) (E_tn T D.B (n:="type") (by simp) ?_)))
 refine EL_cons (E_l ?_)
 refine EL_nil (EK_nil ⟨KP_typ,C_type_str ?_⟩)
 refine E_tn T D.B (n:="str") (by simp) (is_tt (truthy_bool ?_))
 refine XS_setl T (E_IfExp (T_val (E_l (truthy_bool ?_))))
 cases b with
 |true =>
  refine E_gl T N.nmG ⟨_,_,_,rfl,?_⟩
  refine XS_if (T_val (E_Meth [] (kp:=.machine) (E_l (GM_pat N.nmP ?_))))
  refine EL_cons (E_l ?_)
  refine EL_nil (EK_nil ⟨KP_blt,C_search N.nmP hz (fun c hc seen=>set_name (hx c hc).1 (hx c hc).2 seen) (truthy_none ?_)⟩)
  exact XS_nil (XS_ret (E_l (ret _)))
 |false =>
  refine E_gl T N.vlG ⟨_,_,_,rfl,?_⟩
  refine XS_if (T_val (E_Meth [] (kp:=.machine) (E_l (GM_pat N.vlP ?_))))
  refine EL_cons (E_l ?_)
  refine EL_nil (EK_nil ⟨KP_blt,C_search N.vlP hz (fun c hc seen=>set_value (hx c hc).1 (hx c hc).2 seen) (truthy_none ?_)⟩)
  exact XS_nil (XS_ret (E_l (ret _)))
theorem E_cv (D:L1 W) (N:HdrCls W){o e₁ e₂:Expr}{apos pos kpos:Pos}{H:HdrA}{K:PV→Sig→Prop}
  (h:E W (k+1) env o σ fun q σ₁=>q=.ref H.a∧HdrOK N.C H σ₁∧E W (k+1) env e₁ σ₁ fun p σ₂=>E W (k+1) env e₂ σ₂ fun b σ₃=>∃ x b',p=.str x∧b=.bool b'∧(if b'=true then okN x else okV x)∧x.length≤1000000∧K (.str x) σ₃)
  (hb:autoParam (∀ whole,attributeBase o "_convert_string_type" env whole=whole) tI)
  (hf:autoParam (methodCallForm 2 (backTo pos (starEach [e₁] env)) (backToKw pos (keywordEach [⟨some "name",e₂,kpos⟩] env))=true) tR) (hl:autoParam ((apos.endLine==pos.line)=true) tR)
  (he:autoParam (starEach [e₁] env=[(false,eval e₁ env)]) tR):E W (k+1) env (.Call (.Attribute o "_convert_string_type" apos) [e₁] [⟨some "name",e₂,kpos⟩] pos) σ K:=by
 refine E_Meth ["name"] (kp:=.frame) ?_ rfl hb hf hl ?_
 ·refine h.imp fun q σ₁ ⟨e,O,h2⟩=>?_
  subst e
  refine GM_inst D.T N.X N.cvM.find N.cvM.ty O.at_ rfl ?_
  refine EL_cons (h2.imp fun p σ₂ h3=>?_) he
  refine EL_nil (EK_cons (h3.imp fun b σ₃ ⟨x,b',e1,e2,e3,e4,e5⟩=>EK_nil ⟨N.cvM.kp,?_⟩))
  subst e1 e2
  exact(cv_C D N e3 e4 e5).call
 ·unfold backTo;rw[he];rfl
theorem hini_C (D:L1 W) (N:HdrCls W){d a:Nat}{K:PV→Sig→Prop} (hσd:σ a=some (.inst N.C d (fun _=>none) 0))
  (h:∀ l:Nat,a<l→Fresh σ l→K .none ((σ.upd a (.inst N.C d (hdF l) 1)).upd l (.list []))):CC W (k+1) (.ref N.ini) [.ref a] [] [] σ K:=by
 obtain ⟨Tt,doc,pm,an,cd,ct,f1,ot,nt,ht1,ht2,ht3⟩:=N.iniM.fn.fn
 have T:=D.T
 refine CC_fcsS T f1 [("self",.ref a,none),("headers",.none,none)] 0 (fun vs ws A hA s hs hpat=>?_) rfl ⟨rfl,rfl,trivial⟩ (by rfl) rfl fun (L:Nat) hL=>?_
 ·refine e0_2 hpat ?_;try clear hpat;intro zz1 e3;refine e2_3 zz1 ?_;clear zz1;intro v r e1 h1 e2
  subst e1
  obtain rfl:r=[]:=e2
  have hB:BindsTo s (fnX (nameOf (methAt 7 0)) "Headers.__init__" (paramsOf (methAt 7 0)) (bodyOf (methAt 7 0)) (scopeOf (methAt 7 0)) [] (.ref Tt) .none doc pm an cd ct) ⟨[v],([]:List Str).zip ws⟩ [("self",v),("headers",.none)] :=
   BindsTo.of_defaults rfl (hs.base ht1 ht2).2.1 ht3 rfl rfl
  refine hB _ _ _ _ ?_
  exact⟨[("self",.ref a),("headers",.none)],σ,hs,FLe.refl _,⟨v,_,rfl,h1,.none,[],rfl,(Eq.refl _:Value.none=Value.none),rfl⟩,rfl,rfl⟩
 have haL:a<L:=by
  rcases Nat.lt_or_ge a L with q |q
  ·exact q
  ·have:=hL a q;rw[hσd] at this;cases this
 refine XS_setl T (E_IfExp (T_Compare (E_l (E_none (isnot_none_none (truthy_bool ?_))))))
 refine E_ListM (EL_nil ⟨by simp,fun (l:Nat) hl=>?_⟩)
 have hLl:L<l:=fcs_fresh hl
 refine⟨_,_,_,fcs_gt' hLl,?_⟩
 have hσl:∀ {m:Str→Option PV},fcs (σ.upd l (.list [])) L m [] l=some (.list []):=fun {m}=>(fcs_gt hLl).trans (upd_same _ _ _)
 refine XS_if (T_Compare (E_Call [] (kp:=.machine) (E_tn T D.B (n:="type") (by simp) ?_)))
 refine EL_cons (E_l ?_)
 refine EL_nil (EK_nil ⟨KP_typ,C_type_list hσl ?_⟩)
 refine E_tn T D.B (n:="list") (by simp) (isnot_tt (truthy_bool ?_))
 refine XS_nil ?_
 refine XS_cons (X_AssignAttr (E_l (E_l ?_)))
 have hal:a≠l:=Nat.ne_of_lt (Nat.lt_trans haL hLl)
 refine SA_inst T N.X N.no ((fcs_lt haL).trans ((upd_ne hal).trans hσd)) (by decide) 1 (.inl rfl) ?_
 rw[fcs_lt' haL,upd_comm hal.symm]
 refine XS_if (T_val (E_bool (truthy_bool ?_)))
 refine XS_cons (X_For (q₀:=.ref l) T [] (fun σ=>σ l=some (.list [])) (fun _ σ'=>σ'=fcs ((σ.upd a (.inst N.C d (hdF l) 1)).upd l (.list [])) L (fset (bm' (fun _=>none) [(("self":Str),PV.ref a,none),("headers",.none,none)]) "headers" (.ref l)) []) ?_ ?_ ?_ ?_)
 ·exact E_l ⟨rfl,Itbl.ref,rfl⟩
 ·intro _ _ zz1;subst zz1
  exact(fcs_gt hLl).trans (upd_same _ _ _)
 ·intro i p σ' hp;simp at hp
 ·intro _ zz1;subst zz1
  refine XS_nil (XS_nil (XS_nil ⟨_,_,_,rfl,fun (c:Nat) (h1:L≤c) (h2:c≤L+0)=>?_,?_⟩))
  ·rw[upd_ne (show c≠l by lia),upd_ne (show c≠a by exact Nat.ne_of_gt (cB haL h1))]
   exact hL c h1
  ·exact h l (Nat.lt_trans haL hLl) fun c hc=>hL c (Nat.le_trans (Nat.le_of_lt hLl) hc)
theorem hmake_C (D:L1 W) (N:HdrCls W){K:PV→Sig→Prop} (h:∀ d l:Nat,Fresh σ d→d+1<l→K (.ref (d+1)) (hds ⟨d+1,d,l⟩ [] ((σ.upd d (.part (d+1))).upd (d+1) (.inst N.C d (hdF l) 1)))):CC W (k+2) (.ref N.C) [] [] [] σ K:=by
 refine CC_make D.T N.X N.iniM.find N.iniM.ty fun d hd=>?_
 refine hini_C D N (upd_same _ _ _) fun l hl _=>⟨rfl,?_⟩
 rw[upd_upd]
 exact h d l hd hl
theorem ents_app (es:List (List Nat×List Nat)) (e:List Nat×List Nat):ents es++[.tup [.str e.1,.str e.2]]=ents (es++[e]):=by unfold ents;simp
theorem ah_C (D:L1 W) (N:HdrCls W){H:HdrA}{es:List (List Nat×List Nat)}{K:PV→Sig→Prop} (O:HdrOK N.C H σ) (hx:okN x) (hy:okV y) (hzx:x.length≤1000000) (hzy:y.length≤1000000) (hz:es.length≤100000)
  (h:K .none (hds H (es++[(x,y)]) σ)):CC W (k+2) (.ref N.ah) [.ref H.a,.str x,.str y] [] [] (hds H es σ) K:=by
 refine e5_1 (N.ahM.fn.fn) ?_;intro doc pm an cd ct f1
 have T:=D.T
 have hal:=O.al
 refine CC_fcs T f1 [("self",.ref H.a,none),("_name",.str x,none),("_value",.str y,none),("_params",.dct (fun _=>0) [],none)] 0 (fun vs ws=>?_) rfl ⟨rfl,rfl,rfl,rfl,trivial⟩ (by rfl) rfl fun (L:Nat) hL=>?_
 ·refine .grow (b:=[(("self":Str),PV.ref H.a),("_name",.str x),("_value",.str y),("_params",.dct (fun _=>0) [])]) T ⟨rfl,rfl⟩ fun A hA s hs hpat Q q=>?_
  refine e0_2 hpat ?_;try clear hpat;intro zz1 e6;obtain ⟨v,r,e1,h1,w,r',e3,h2,u,r'',e4,h3,e5⟩:=zz1
  subst e1 e3 e4
  obtain rfl:r''=[]:=e5
  rw[show bindArgs (fnX (nameOf (methAt 7 16)) "Headers.add_header" (paramsOf (methAt 7 16)) (bodyOf (methAt 7 16)) (scopeOf (methAt 7 16)) [] .none .none doc pm an cd ct) ⟨[v,w,u],([]:List Str).zip ws⟩=(alloc { cls:=.type "dict",data:=.dict #[] } >>= fun d=>Pure.pure [(("self":Str),v),("_name",w),("_value",u),("_params",.ref d)]:Sem (List (Str×Value))) by rfl]
  refine wpAny_bind (wpAny_alloc (wpAny_pure (q _ _ _ sle_push ?_)))
  have hk:FLe (Fz (hds H es σ) s.heap) (Fz (hds H es σ) (s.heap.push { cls:=.type "dict",data:=.dict #[] })):=fle_grow sle_push
  refine⟨v,_,rfl,h1.mono hk,w,_,rfl,h2.mono hk,u,_,rfl,h3.mono hk,_,[],rfl,⟨_,#[],0,rfl,fz_new hs (by intro z;cases z),?_,rfl⟩,rfl⟩
  show decide (s.heap.objs.size=sysModules)=false
  exact decide_eq_false (Nat.ne_of_gt (Nat.lt_of_lt_of_le N.sys hs.sz))
 have hb:H.a<L∧H.l<L:=by
  have key:∀ b o,hds H es σ b=some o→b<L:=fun b o e=>by
   rcases Nat.lt_or_ge b L with q |q
   ·exact q
   ·have:=hL b q;rw[e] at this;cases this
  exact⟨key _ _ ((upd_ne hal).trans O.at_),key _ _ (upd_same _ _ _)⟩
 have hOL:∀ {τ m cs},HdrOK N.C H τ→HdrOK N.C H (fcs τ L m cs):=fun {τ m cs} O=>⟨(fcs_lt hb.1).trans O.at_,O.al⟩
 have hOh:HdrOK N.C H (hds H es σ):=⟨(upd_ne hal).trans O.at_,hal⟩
 refine XS_setl T (E_ListM (EL_nil ⟨by simp,fun (pl:Nat) hpl=>?_⟩))
 have hLp:L<pl:=fcs_fresh hpl
 have hOp:∀ {l},HdrOK N.C H ((hds H es σ).upd pl l):=fun {l}=>⟨(upd_ne (Nat.ne_of_lt (Nat.lt_trans hb.1 hLp))).trans hOh.at_,hal⟩
 refine⟨_,_,_,fcs_gt' hLp,?_⟩
 refine XS_if (T_Compare (E_l (E_none (isnot_none_str (truthy_bool ?_)))))
 refine XS_setl T (E_cv (k:=k) D N (E_l ⟨rfl,hOL hOp,E_l (E_bool ⟨y,false,rfl,rfl,hy,hzy,_,_,_,rfl,?_⟩)⟩))
 refine XS_expr (E_Meth [] (kp:=.machine) (E_l (GM_ref ((fcs_gt hLp).trans (upd_same _ _ _)) PySem.F.slot_list_append PySem.F.type_list_append ?_)))
 refine EL_cons (E_l ?_)
 refine EL_nil (EK_nil ⟨KP_blt,C_append T ((fcs_gt hLp).trans (upd_same _ _ _)) (by simp) ?_⟩)
 rw[fcs_gt' hLp,upd_upd]
 refine⟨rfl,XS_nil ?_⟩
 generalize hm:(fset (fset (bm' (fun _=>none) [(("self":Str),PV.ref H.a,none),("_name",.str x,none),("_value",.str y,none),("_params",.dct (fun _=>0) [],none)]) "parts" (PV.ref pl)) "_value" (.str y))=m
 refine XS_cons (X_For (q₀:=.dit (fun _=>0) []) T [] (fun _=>True) (fun _ σ'=>σ'=fcs ((hds H es σ).upd pl (.list ([]++[PV.str y]))) L m []) ?_ (fun _ _ _=>trivial) ?_ ?_)
 ·subst hm
  refine E_Meth [] (kp:=.machine) (E_l (GM_dct ?_))
  exact EL_nil (EK_nil ⟨KP_blt,C_items0 T ⟨rfl,Itbl.dit0,rfl⟩⟩)
 ·intro i p σ' hp;simp at hp
 intro _ zz1;subst zz1
 refine XS_nil ?_
 subst hm
 refine XS_expr (E_Meth [] (kp:=.machine) (E_Attr (E_l ?_)))
 refine OA_inst T N.X N.no (hOL hOp).at_ rfl (by intro n z;cases z) ?_
 have hlp:H.l≠pl:=Nat.ne_of_lt (Nat.lt_trans hb.2 hLp)
 have hgl:∀ {m},fcs ((hds H es σ).upd pl (.list ([]++[PV.str y]))) L m [] H.l=some (.list (ents es)):=fun {m}=>(fcs_lt hb.2).trans ((upd_ne hlp).trans (upd_same _ _ _))
 refine GM_ref hgl PySem.F.slot_list_append PySem.F.type_list_append ?_
 refine EL_cons (E_Tuple ?_)
 refine EL_cons (E_cv (k:=k) D N (E_l ⟨rfl,hOL hOp,E_l (E_bool ⟨x,true,rfl,rfl,hx,hzx,?_⟩)⟩))
 refine EL_cons (E_Meth [] (kp:=.machine) (E_strL [59,32] (GM_str PySem.F.slot_str_join PySem.F.type_str_join ?_)))
 refine EL_cons (E_l ?_)
 refine EL_nil (EK_nil ⟨KP_blt,C_joinL (l:=[y]) (.inr ⟨pl,rfl,(fcs_gt hLp).trans (upd_same _ _ _)⟩) (by unfold lens;simp;exact Nat.le_trans (by assumption) (by decide)) ?_⟩)
 refine EL_nil ⟨by simp,EL_nil (EK_nil ⟨KP_blt,C_append T hgl (by unfold ents;rw[List.length_map];exact Nat.le_trans (by assumption) (by decide)) ?_⟩)⟩
 rw[fcs_lt' hb.2,upd_comm hlp.symm]
 refine⟨rfl,XS_nil ?_⟩
 show K _ _
 rw[fcs_resr,res_upd_ge (Nat.le_of_lt hLp)]
 unfold hds
 rw[upd_upd,res_upd_lt hb.2]
 have hf:Fresh σ L:=fun b hb'=>by
  have:=hL b hb'
  unfold hds at this
  rwa [upd_ne (Nat.ne_of_gt (Nat.lt_of_lt_of_le hb.2 hb'))] at this
 rw[res_fresh hf]
 unfold hds at h
 rw[← ents_app] at h
 exact h
noncomputable def getL (es:List (List Nat×List Nat)) (n:List Nat):List (List Nat):=(es.filter fun e=>decide (lowerL e.1=n)).map (·.2)
noncomputable def kG (n:List Nat):PV→Bool
 | .tup [.str a,.str _]=>decide (lowerL a=n)
 |_=>false
noncomputable def vG:PV→PV
 | .tup [_,.str b]=>.str b
 |p=>p
theorem ents_getL (es:List (List Nat×List Nat)) (n:List Nat):((ents es).filter (kG n)).map vG=stsL (getL es n):=by
 unfold getL ents stsL
 induction es with
 |nil=>rfl
 |cons e es ih =>
  rw[List.map_cons,List.filter_cons,List.filter_cons]
  show List.map vG (if decide (lowerL e.1=n)=true then _ else _)=_
  by_cases h:lowerL e.1=n
  ·rw[if_pos (decide_eq_true h),if_pos (decide_eq_true h),List.map_cons,List.map_cons,List.map_cons,ih];rfl
  ·rw[if_neg (by simp[h]),if_neg (by simp[h]),ih]
theorem ga_C (D:L1 W) (N:HdrCls W){H:HdrA}{es:List (List Nat×List Nat)}{K:PV→Sig→Prop} (O:HdrOK N.C H σ) (hx:okN (lowerL x)) (hzx:x.length≤1000000) (hzx':(lowerL x).length≤1000000) (hz:es.length≤100000) (he:∀ e∈es,e.1.length≤1000000)
  (h:K (.lst (stsL (getL es (lowerL x)))) (hds H es σ)):CC W (k+2) (.ref N.ga) [.ref H.a,.str x] [] [] (hds H es σ) K:=by
 refine e5_1 (N.gaM.fn.fn) ?_;intro doc pm an cd ct f1
 have T:=D.T
 have hal:=O.al
 refine CC_fcs T f1 [("self",.ref H.a,none),("name",.str x,some 0)] 1 (bind2 (n:="self") (m:="name") (fun v w=>by rfl) ⟨rfl,rfl⟩) rfl ⟨rfl,⟨rfl,fun L=>rfl⟩,trivial⟩ (by rfl) rfl fun (L:Nat) hL=>?_
 have hb:H.a<L∧H.l<L:=by
  have key:∀ b o,hds H es σ b=some o→b<L:=fun b o e=>by
   rcases Nat.lt_or_ge b L with q |q
   ·exact q
   ·have:=hL b q;rw[e] at this;cases this
  exact⟨key _ _ ((upd_ne hal).trans O.at_),key _ _ (upd_same _ _ _)⟩
 have hOL:∀ {m cs},HdrOK N.C H (fcs (hds H es σ) L m cs):=fun {m cs}=>⟨(fcs_lt hb.1).trans ((upd_ne hal).trans O.at_),O.al⟩
 have hgl:∀ {m cs},fcs (hds H es σ) L m cs H.l=some (.list (ents es)):=fun {m cs}=>(fcs_lt hb.2).trans (upd_same _ _ _)
 refine XS_setc T 0 (E_cv (k:=k) D N (E_l ⟨rfl,hOL,?_⟩))
 refine E_Meth [] (kp:=.machine) (E_c 0 (GM_str PySem.F.slot_str_lower PySem.F.type_str_lower ?_))
 refine EL_nil (EK_nil ⟨KP_blt,C_lower (by exact Nat.le_trans (by assumption) (by decide)) ?_⟩)
 refine E_bool ⟨_,true,rfl,rfl,hx,hzx',_,_,_,rfl,Nat.le_of_ble_eq_true rfl,?_⟩
 refine XS_ret (E_Makes T (ents es) (fun σ=>σ H.l=some (.list (ents es))) (stsL (getL es (lowerL x))) ?_)
 refine E_Attr (E_l (OA_inst T N.X N.no hOL.at_ rfl (by intro n z;cases z) ?_))
 refine⟨Itbl.ref,hgl,Makes1 T (kG (lowerL x)) vG (ents_getL _ _) (by unfold ents;rw[List.length_map];exact Nat.le_trans (by assumption) (by decide)) (fun D' L' e1 e2 acc m=>ins_old e1 e2 hgl) (fun D' L' e1 e2=>⟨fun p hp acc m=>?_,fun p hp _ acc m=>?_⟩),?_⟩
 ·refine e1_2 (List.mem_map.mp hp) ?_;intro e hee zz1;subst zz1
  refine CI_one (T_Compare (E_Meth [] (kp:=.machine) ?_))
  refine E_Sub (E_m ?_ (fset_same _ _ _))
  refine E_int ⟨Sbs.tup,get_tup (by decide) (by decide) rfl ?_⟩
  refine GM_str PySem.F.slot_str_lower PySem.F.type_str_lower ?_
  refine EL_nil (EK_nil ⟨KP_blt,C_lower (by have:=he e hee;exact Nat.le_trans (by assumption) (by decide)) ?_⟩)
  refine E_f 0 e1 e2 ?_
  exact eq_ss (truthy_bool ⟨rfl,rfl⟩)
 ·refine e1_2 (List.mem_map.mp hp) ?_;intro e hee zz1;subst zz1
  refine E_Sub (E_m ?_ (fset_same _ _ _))
  exact E_int ⟨Sbs.tup,get_tup (by decide) (by decide) rfl ⟨rfl,rfl⟩⟩
 ·show K _ _
  rw[fcs_res hL]
  exact h
structure EE (W:Wd) (k:Nat) (env:Env) (e:Expr) (σ:Sig) (K:PV→Sig→Prop):Prop where
 h:E W k env e σ K
theorem EE_Meth {W:Wd}{k:Nat}{env:Env}{σ:Sig}{o:Expr}{name:Str}{apos pos:Pos}{es:List Expr}{ks:List Keyword}{kp:Keeper}{K:PV→Sig→Prop} (kn:List Str)
  (h:E W k env o σ (jM0 W k env pos es ks kp kn name K))
  (hkp:autoParam (kpOk kp=true) tR)
  (hb:autoParam (∀ whole,attributeBase o name env whole=whole) tI)
  (hf:autoParam (methodCallForm (es.length+ks.length) (backTo pos (starEach es env)) (backToKw pos (keywordEach ks env))=true) tR) (hl:autoParam ((apos.endLine==pos.line)=true) tR)
  (h0:autoParam ((backTo pos (starEach es env)).any (·.1)=false) tR) (h2:autoParam ((backToKw pos (keywordEach ks env)).all (·.1.isSome)=true) tR)
  (hkn:autoParam ((backToKw pos (keywordEach ks env)).filterMap (·.1)=kn) tR):EE W k env (.Call (.Attribute o name apos) es ks pos) σ K:=⟨E_Meth kn h hkp hb hf hl h0 h2 hkn⟩
theorem EL_cons' {W:Wd}{k:Nat}{env:Env}{σ:Sig}{pos:Pos}{e:Expr}{rest:List Expr}{K:List PV→Sig→Prop} (he:starEach (e::rest) env=(false,eval e env)::starEach rest env) (h:E W k env e σ (jL1 W k env pos rest K)):EL W k env pos (e::rest) σ K:=EL_cons h he
theorem E_Sub' {W:Wd}{k:Nat}{env:Env}{σ:Sig}{value slice:Expr}{pos:Pos}{K:PV→Sig→Prop} (hs:∀ o i,subscripted slice false o i=operate [o,i] (getItem o i)) (h:E W k env value σ (jS1 W k env slice K)):E W k env (.Subscript value slice pos) σ K:=E_Sub h hs
theorem EL_int {W:Wd}{k:Nat}{env:Env}{σ:Sig}{pos:Pos}{i:Int}{n:Nat}{p:Pos}{rest:List Expr}{K:List PV→Sig→Prop} (h:EL W k env pos rest σ (jL2 K (.int i))):EL W k env pos (.Constant (.int i) n p::rest) σ K:=EL_cons (E_int h) rfl
theorem EL_strL (l:List Nat){pos:Pos}{x:Str}{n:Nat}{p:Pos}{rest:List Expr}{K:List PV→Sig→Prop} (e:x.cps.toList=l) (h:EL W k env pos rest σ (jL2 K (.str l))):EL W k env pos (.Constant (.str x) n p::rest) σ K:=EL_cons (E_strL l h e) rfl
noncomputable def shownL (g:Int→Bool) (x:List Nat):List Nat:=x.filter fun c:Nat => !g c
theorem shown_signs (g:Int→Bool):∀ x:List Nat,((signs x).filter (kP g)).map (fun p=>p)=stsL ((shownL g x).map fun c=>[c])
 |[]=>rfl
 |c::x=>by
  have ih:=shown_signs g x
  unfold shownL at ih ⊢
  show((PV.str [c]::signs x).filter (kP g)).map (fun p=>p)=_
  rw[List.filter_cons,List.filter_cons]
  show List.map _ (if (!g c)=true then _ else _)=_
  cases h:g c
  ·simp only[Bool.not_false,if_true,List.map_cons,ih];rfl
  ·simpa using ih
theorem rng_small {a n:Nat} (h:a+n≤1000000000):Builtin.Range.small (a:Int) ((a+n:Nat):Int) 1=true:=by
 unfold Builtin.Range.small
 have h1:Builtin.Range.rangeSize (a:Int) ((a+n:Nat):Int) 1=n:=by
  unfold Builtin.Range.rangeSize
  rw[if_pos (by decide)]
  split <;> lia
 have e:(2:Int)^63=9223372036854775808:=by decide
 have f:∀ i:Int,-1000000000≤i→i≤2000000000→Builtin.Range.rangeFitsLong i=true:=fun i h1 h2=>by
  unfold Builtin.Range.rangeFitsLong
  rw[e,Bool.and_eq_true,decide_eq_true_eq,decide_eq_true_eq];lia
 rw[h1,f _ (by lia) (by lia),f _ (by lia) (by exact lei h (by decide)),f 1 (by decide) (by decide),f _ (by lia) (by lia),if_pos (by decide),f _ (by lia) (by lia),Bool.or_true]
 rfl
theorem rng_size {a n:Nat}:Builtin.Range.rangeSize (a:Int) ((a+n:Nat):Int) 1=n:=by
 unfold Builtin.Range.rangeSize
 rw[if_pos (by decide)]
 split <;> lia
theorem Itbl.rng0 {n:Nat} (h:n≤1000000000):Itbl W (.rng 0 (n:Int)) (inums 0 n) (fun _=>True):=by
 have h1:=rng_small (a:=0) (n:=n) (by exact Nat.le_trans (Nat.add_le_add (Nat.le_refl _) h) (by decide))
 have h2:=rng_size (a:=0) (n:=n)
 rw[Nat.zero_add] at h1 h2
 exact Itbl.rng h1 n h2
theorem law_prepared_C (T:Top W) (B:Blts W){a ab1 am3 b1 b3:Addr}{f:Int→Option (List Nat)}{g:Int→Bool}{K:PV→Sig→Prop} (F:Fn W a "_law_prepared" (defAt 20))
  (F1:Fn W ab1 "in_table_b1" (defAt 15)) (h1:W.mg "in_table_b1"=some (.ref ab1)) (hm1:W.mg "b1_set"=some (.ref b1)) (S1:SetF W b1 g)
  (F3:Fn W am3 "map_table_b3" (defAt 17)) (h3:W.mg "map_table_b3"=some (.ref am3)) (hm3:W.mg "b3_exceptions"=some (.ref b3)) (S3:TabF W b3 f)
  (hz:x.length≤1000000) (hz2:(prepL f g x).length≤1000000) (h:K (.tup [.str (shownL g x),.str (prepL f g x)]) σ):CC W (k+2) (.ref a) [.str x] [] [] σ K:=by
 refine e5_1 (F.fn) ?_;intro doc pm an cd ct f1
 refine CC_std T f1 [("text",.str x)] (bind1 (n:="text") (fun v=>by rfl) ⟨rfl,rfl⟩) rfl (by rfl) (by rfl) fun L hL=>?_
 refine XS_set T ?_
 refine(EE.h ?_:E _ _ _ _ _ _)
 refine EE_Meth [] (kp:=.machine) (E_strL [] (GM_str PySem.F.slot_str_join PySem.F.type_str_join ?_))
 refine EL_cons ?_
 refine E_Comp1 T (signs x) (fun _=>True) (kP g) (fun p=>p) (by rw[signs_len];exact hz) ?_
 refine E_loc ?_ (upd_same _ _ _)
 refine⟨Itbl.str,trivial,fun _ _ _ _ _ _=>trivial,fun D L' e1 e2=>⟨fun p hp acc m=>?_,fun p hp _ acc m=>E_loc ⟨rfl,rfl⟩ ins_L (fset_same _ _ _)⟩,?_⟩
 ·refine e1_2 (List.mem_map.mp hp) ?_;intro c hc zz1;subst zz1
  refine CI_one ?_
  refine T_Compare ?_
  refine E_Call [] (kp:=.frame) ?_
  refine E_gl T h1 ?_
  refine EL_cons (E_loc ?_ ins_L (fset_same _ _ _))
  refine EL_nil (EK_nil ⟨FnC.kp F1,(in_table_b1_C T B F1 hm1 S1 ?_).call⟩)
  refine E_bool ?_
  refine isnot_bb (truthy_bool ?_)
  exact⟨rfl,by show _ = !g c;cases g c <;> rfl⟩
 rw[shown_signs]
 have hsl:(shownL g x).length≤x.length:=List.length_filter_le _ _
 have hj1:jn [] ((shownL g x).map fun c=>[c])=shownL g x:=by rw[jn_nil];induction shownL g x with
  |nil=>rfl
  |cons c l ih=>rw[List.map_cons,List.flatten_cons,ih];rfl
 refine EL_nil (EK_nil ⟨KP_blt,C_join (x:=[]) (by unfold lens;rw[lens_nil,← jn_nil,hj1];exact Nat.le_trans (Nat.add_le_add (Nat.le_refl _) (Nat.le_trans hsl hz)) (by decide)) ?_⟩)
 rw[hj1]
 refine⟨_,_,_,rfl,rfl,?_⟩
 refine XS_ret (E_Tuple (EL_cons (E_loc ?_ (upd_same _ _ _) (fset_same _ _ _))))
 refine EL_cons ?_
 refine(EE.h ?_:E _ _ _ _ _ _)
 refine EE_Meth [] (kp:=.machine) (E_strL [] (GM_str PySem.F.slot_str_join PySem.F.type_str_join ?_))
 refine EL_cons ?_
 refine E_Comp1 T (signs x) (fun _=>True) (kP g) (vP f) (by rw[signs_len];exact hz) ?_
 refine E_loc ?_ (upd_same _ _ _) (fset_ne (by decide))
 refine⟨Itbl.str,trivial,fun _ _ _ _ _ _=>trivial,fun D L' e1 e2=>⟨fun p hp acc m=>?_,fun p hp _ acc m=>?_⟩,?_⟩
 ·refine e1_2 (List.mem_map.mp hp) ?_;intro c hc zz1;subst zz1
  refine CI_one ?_
  refine T_Compare ?_
  refine E_Call [] (kp:=.frame) ?_
  refine E_gl T h1 ?_
  refine EL_cons (E_loc ?_ ins_L (fset_same _ _ _))
  refine EL_nil (EK_nil ⟨FnC.kp F1,(in_table_b1_C T B F1 hm1 S1 ?_).call⟩)
  refine E_bool ?_
  refine is_bb (truthy_bool ?_)
  exact⟨rfl,by show _ = !g c;cases g c <;> rfl⟩
 ·refine e1_2 (List.mem_map.mp hp) ?_;intro c hc zz1;subst zz1
  refine E_Call [] (kp:=.frame) ?_
  refine E_gl T h3 ?_
  refine EL_cons (E_loc ?_ ins_L (fset_same _ _ _))
  refine EL_nil (EK_nil ⟨FnC.kp F3,(map_table_b3_C T B F3 hm3 S3 ?_).call⟩)
  exact⟨rfl,rfl⟩
 ·rw[prep_signs]
  have hl:lens [] (List.map (b3L f) (List.filter (fun c:Nat => !g c) x))≤16000000:=by
   unfold lens
   rw[lens_nil]
   show 0+(prepL f g x).length≤_
   exact Nat.le_trans (Nat.add_le_add (Nat.le_refl _) hz2) (by decide)
  refine EL_nil (EK_nil ⟨KP_blt,?_⟩)
  refine C_join (x:=[]) hl ?_
  refine EL_nil ⟨by simp,?_⟩
  show K _ _
  rw[res_top hL,jn_nil]
  exact h
theorem vrels_of_get {F:FM}:∀ {ps:List PV}{vs:List Value},vs.length=ps.length→(∀ (j:Nat) v p,vs[j]? = some v→ps[j]? = some p→VRel F p v)→VRels F ps vs
 |[],vs,h,_=>List.length_eq_zero_iff.mp h
 |p::ps,[],h,_=>nomatch h
 |p::ps,v::vs,h,g=>⟨v,vs,rfl,g 0 v p rfl rfl,vrels_of_get (Nat.succ.inj h) fun j v' p' h1 h2=>g (j+1) v' p' h1 h2⟩
theorem C_listR (T:Top W){a b:Int}{n:Nat} (hsmall:Builtin.Range.small a b 1=true) (hn:Builtin.Range.rangeSize a b 1=(n:Int)) (hz:n≤16777216){K:PV→Sig→Prop} (h:K (.lst (inums a n)) σ):C W k (.typ "list") [.rng a b] [] [] σ K:=C1 fun v va=>.grow T h fun A hA s hs hpat Q q=>by
 refine e0_2 hpat ?_;try clear hpat;intro e zz1;refine e4_2 zz1 ?_;clear zz1;intro r t u w e1 f
 obtain rfl:v=.type "list":=e
 subst e1
 refine call_list_range hA.1 f.2.1 hsmall hn hz fun h' tk acc c hk hS hI=>?_
 refine q _ _ tk hk ⟨_,acc,c,rfl,⟨hs.fresh _ (Nat.le_refl _),hS,fun z=>by cases z⟩,vrels_of_get ?_ fun j v p h1 h2=>?_⟩
 ·rw[Array.length_toList,hI.1,inums_len]
 ·refine e1_1 (hI.2 j v (by rw[← Array.getElem?_toList];exact h1)) ?_;intro t zz1;subst zz1
  have hj:j<n:=by
   rcases Nat.lt_or_ge j n with q |q
   ·exact q
   ·unfold inums at h2
    rw[List.getElem?_map,List.getElem?_eq_none (by simpa using q)] at h2
    cases h2
  unfold inums at h2
  rw[List.getElem?_map,List.getElem?_range hj] at h2
  cases h2
  exact⟨t,by rw[Int.mul_one]⟩
theorem slc_from {α:Type}{l:List α}{a:Nat}:slc (some (a:Int)) none l=l.drop a:=by
 unfold slc
 simp only[Option.elim]
 rw[clip_nat]
 rcases Nat.le_total a l.length with q |q
 ·rw[Nat.min_eq_left q,List.take_of_length_le (by simp)]
 ·rw[Nat.min_eq_right q,List.drop_of_length_le (Nat.le_refl _),List.drop_of_length_le q,List.take_nil]
theorem slc_to {α:Type}{l:List α}{a:Nat}:slc none (some (a:Int)) l=l.take a:=by
 unfold slc
 simp only[Option.elim]
 rw[clip_nat,List.drop_zero,Nat.sub_zero]
 rcases Nat.le_total a l.length with q |q
 ·rw[Nat.min_eq_left q]
 ·rw[Nat.min_eq_right q,List.take_of_length_le (Nat.le_refl _),List.take_of_length_le q]
theorem clip_neg (n:Nat):clipAt n (-1)=n-1:=by
 cases n with
 |zero=>rfl
 |succ n =>
  show(max 0 (min (-1+((n+1:Nat):Int)) ((n+1:Nat):Int))).toNat=n
  rw[show(-1+((n+1:Nat):Int))=n by rw[Int.natCast_add,Int.add_comm (n:Int),← Int.add_assoc];exact Int.zero_add _,Int.min_eq_left (Int.ofNat_le.mpr (Nat.le_succ n)),Int.max_eq_right (Int.natCast_nonneg n)]
  rfl
theorem slc_init {α:Type}{l:List α}:slc none (some (-1)) l=l.take (l.length-1):=by
 unfold slc
 simp only[Option.elim]
 rw[clip_neg];simp
abbrev jZ2 (q:PV) (σ₁:Sig) (lo:Option Int) (K:PV→Sig→Prop) (hi:Option Int) (σ₃:Sig):Prop:=σ₁=σ₃∧∃ x,LstIs σ₃ q x∧x.length≤1000000∧K (.lst (slc lo hi x)) σ₃
abbrev jZ1 (W:Wd) (k:Nat) (env:Env) (upper:Option Expr) (q:PV) (σ₁:Sig) (K:PV→Sig→Prop) (lo:Option Int) (σ:Sig):Prop:=EP W k env upper σ (jZ2 q σ₁ lo K)
abbrev jZ0 (W:Wd) (k:Nat) (env:Env) (lower upper:Option Expr) (K:PV→Sig→Prop) (q:PV) (σ₁:Sig):Prop:=EP W k env lower σ₁ (jZ1 W k env upper q σ₁ K)
theorem E_SliceL (T:Top W){value:Expr}{lower upper:Option Expr}{p pos:Pos}{K:PV→Sig→Prop}
  (h:E W k env value σ (jZ0 W k env lower upper K)):E W k env (.Subscript value (.Slice lower upper none p) pos) σ K:=fun A hA s hs hP=>by
 show wpAny _ A (eval _ env) _ _ s
 rw[eval_Subscript]
 refine wpAny_bind (G.use h A hA s hs trivial (fun v s₁ q σ₁ a1 a2 a3 a4=>wpAny_bind (wpAny_holding (wpAny_Slice (G.use a4 A hA s₁ a1 trivial (fun vl s₂ lo σ₂ b1 b2 b3 b4=>wpAny_mono (b4 A hA s₂ b1 trivial) (fun vu s₃ hpat=>?_) fun _ _ x=>x) fun _ _ x=>x)))) fun _ _ x=>x)
 obtain ⟨hi,σ₃,c1,c2,c3,c0,x,c4,c5,c6⟩:=hpat
 subst c0
 refine e3_3 (c4.get c1 (a3.mono (b2.trans c2))) ?_;intro l vs n zz1 f r;subst zz1
 rw[evalPart_none]
 refine wpAny_pure (wpAny_bind (wpAny_standAt ?_))
 have hl:=r.length
 rw[Array.length_toList] at hl
 have k1:=sle_push (h:=s₃.heap) (o:={ cls:=.type "slice",data:=.fields #[vl,vu,.none] })
 have k2:=k1.trans (sle_push (o:={ cls:=.type "list",data:=.seq (slicePick vs lo hi none) }))
 have S1:=c1.grow T (tk:=s₃.toks) k1
 have hT:Shared.TypeIs { s₃ with heap:=s₃.heap.push { cls:=.type "slice",data:=.fields #[vl,vu,.none] } } (.ref l) "list":=((isList_of f).push _).typeIs
 have key:wpAny (model W.prog W.w) A (getItem (.ref l) (.ref s₃.heap.objs.size)) (fun r s'=>∃ b σ',St W σ' s'∧FLe (FrOf σ s) (FrOf σ' s')∧VRel (FrOf σ' s') b r∧K b σ') (fun _ _=>False) { s₃ with heap:=s₃.heap.push { cls:=.type "slice",data:=.fields #[vl,vu,.none] } }:=by
  refine wpAny_getItem_list_slice ((isList_of f).push _) (Heap.IsSliceOf.new ..) (prel_list b3) (prel_list c3) .none (by simp) ?_ (by rw[sizeLine_eq];exact Nat.le_of_lt (cC (Nat.le_of_eq hl) (cC c5 (by decide))))
  refine⟨.lst (slc lo hi x),σ₁,c1.grow T k2,((a2.trans b2).trans c2).trans (fle_grow k2),⟨_,slicePick vs lo hi none,0,rfl,?_,?_⟩,c6⟩
  ·have:=fz_new S1 (o:=listOf (slicePick vs lo hi none) 0) (by intro z;cases z)
   exact this
  ·rw[slc_list]
   exact(r.mono (fle_grow k2)).slc lo hi
 show wpAny _ A (getitemInPython (.ref l) >>= _) _ _ _
 rw[getitemInPython_of_ne hT.not_modules]
 refine wpAny_bind (wpAny_bind (wpAny_specialOf hT list_getitem_lookup (wpAny_pure ?_)))
 show wpAny _ A (operate _ _ >>= _) _ _ _
 exact wpAny_bind (wpAny_operating (wpAny_mono key (fun r s' z=>wpAny_bind (wpAny_letTemporaryGo (wpAny_pure z))) fun _ _ x=>x))
noncomputable def unseenT:List Int:=[173,847,6150,6155,6156,6157,8203,8204,8205,8288,65279,65024,65025,65026,65027,65028,65029,65030,65031,65032,65033,65034,65035,65036,65037,65038,65039]
noncomputable def sT:List Nat:=[115,115,115,115,115,83,383]++(List.range 13).map fun k=>119826+52*k
noncomputable def signS (form left:Nat):List Nat×Nat:=if 1<left∧form<5 then ([223],left-2) else if 0<left then ([sT.getD form 0],left-1) else ([],left)
noncomputable def unsS (u:Nat):List Nat:=((unseenT.drop u).take 1).map Int.toNat
noncomputable def typS (size n:Nat):Nat→List Nat×List Nat×Nat
 |0=>([],[],size)
 |i+1=>((typS size n i).1++(signS ((n+7*i)%20) (typS size n i).2.2).1++unsS ((n/20+5*i)%54),(typS size n i).2.1++(signS ((n+7*i)%20) (typS size n i).2.2).1,(signS ((n+7*i)%20) (typS size n i).2.2).2)
theorem signS_len (f l:Nat):(signS f l).1.length≤1:=by
 unfold signS
 split
 ·exact Nat.le_refl _
 ·split
  ·exact Nat.le_refl _
  ·exact Nat.zero_le _
theorem unsS_len (u:Nat):(unsS u).length≤1:=by
 unfold unsS
 rw[List.length_map,List.length_take];lia
theorem typS_len (size n:Nat):∀ i,(typS size n i).1.length≤2*i∧(typS size n i).2.1.length≤i∧(typS size n i).2.2≤size
 |0=>⟨Nat.le_refl _,Nat.le_refl _,Nat.le_refl _⟩
 |i+1=>by
  refine e0_3 (typS_len size n i) ?_;intro h1 h2 h3
  have h4:=signS_len ((n+7*i)%20) (typS size n i).2.2
  have h5:=unsS_len ((n/20+5*i)%54)
  unfold typS
  refine⟨?_,?_,?_⟩
  ·rw[List.length_append,List.length_append];lia
  ·rw[List.length_append];lia
  ·show(signS _ _).2≤size
   unfold signS
   split
   ·show _-2≤size;exact Nat.le_trans (Nat.sub_le _ _) h3
   ·split
    ·show _-1≤size;exact Nat.le_trans (Nat.sub_le _ _) h3
    ·exact h3
noncomputable def vS:PV→PV
 | .int k=>.str [(119826+52*k).toNat]
 |p=>p
noncomputable def vU:PV→PV
 | .int k=>.str [k.toNat]
 |p=>p
noncomputable def greatS:List (List Nat):=(List.range 13).map fun k=>[119826+52*k]
theorem vS_eq:((inums 0 13).filter fun _=>true).map vS=stsL greatS:=by rfl
theorem T_andD {x y:Expr}{pos:Pos}{p q:Bool}{K:Bool→Sig→Prop} (h1:T W k env x σ fun b σ₁=>b=p∧σ₁=σ) (h2:T W k env y σ fun b σ₁=>b=q∧σ₁=σ) (h:K (p&&q) σ):T W k env (.BoolOp .And [x,y] pos) σ K :=
 T_and (h1.imp fun b σ₁ hh=>by
  refine e0_2 hh ?_;try clear hh;intro e1 e2
  subst e1 e2
  cases b
  ·exact h
  ·exact h2.imp fun c σ₂ hh=>by
    refine e0_2 hh ?_;try clear hh;intro e1 e2
    subst e1 e2
    exact h)
theorem law_typed_C (D:L1 W){a:Addr}{size n:Nat}{K:PV→Sig→Prop} (F:Fn W a "_law_typed" (defAt 21)) (hs:size≤1000) (h:K (.tup [.str (typS size n size).1,.str (typS size n size).2.1]) σ):CC W (k+1) (.ref a) [.int size,.int n] [] [] σ K:=by
 refine e5_1 (F.fn) ?_;intro doc pm an cd ct f1
 have T:=D.T
 refine CC_fcs T f1 [("size",.int size,none),("n",.int n,none)] 0 (bind2 (n:="size") (m:="n") (fun v w=>by rfl) ⟨rfl,rfl⟩) rfl ⟨rfl,rfl,trivial⟩ (by rfl) rfl fun (L:Nat) hL=>?_
 refine XS_setl T ?_
 refine(E_BinOp ?_:E _ _ _ _ _ _)
 refine(E_List ?_:E _ _ _ _ _ _)
 iterate 11 refine(EL_int ?_:EL _ _ _ _ _ _ _)
 refine EL_nil ⟨by decide,?_⟩
 refine E_Call [] (kp:=.machine) (E_tn T D.B (n:="list") (by simp) ?_)
 refine(EL_cons' ?_ ?_:EL _ _ _ _ _ _ _)
 ·rfl
 refine E_Call [] (kp:=.machine) (E_tn T D.B (n:="range") (by simp) ?_)
 refine EL_cons (E_int (EL_cons (E_int (EL_nil (EK_nil ⟨KP_typ,C_range2 T ?_⟩)))))
 refine EL_nil (EK_nil ⟨KP_typ,C_listR T (n:=16) (by decide +kernel) (by decide +kernel) (by decide) ?_⟩)
 refine add_ll T (by simp[inums]) ?_
 refine⟨_,_,_,rfl,?_⟩
 refine XS_cons (X_AssignSwap T ["typed","shown","left"] (?_:E _ _ _ _ _ _))
 refine(E_Tuple ?_:E _ _ _ _ _ _)
 refine(EL_strL [] ?_ ?_:EL _ _ _ _ _ _ _)
 ·decide +kernel
 refine(EL_strL [] ?_ ?_:EL _ _ _ _ _ _ _)
 ·decide +kernel
 refine EL_cons (E_l ?_)
 refine EL_nil ⟨by simp,_,rfl,rfl,?_⟩
 refine S_l T (S_l T (S_l T ?_))
 refine XS_cons (X_For (q₀:=.rng 0 (size:Int)) T (inums 0 size) (fun _=>True) (fun i σ'=>∃ m,σ'=fcs σ L m []∧m "n"=some (.int n)∧m "unseen"=some (.lst (unseenT.map PV.int))∧m "typed"=some (.str (typS size n i).1)∧m "shown"=some (.str (typS size n i).2.1)∧m "left"=some (.int ((typS size n i).2.2:Nat))∧i≤size) ?_ (fun _ _ _=>trivial) ?_ ?_)
 ·refine E_Call [] (kp:=.machine) (E_tn T D.B (n:="range") (by simp) ?_)
  refine EL_cons (E_l ?_)
  exact EL_nil (EK_nil ⟨KP_typ,C_range1 T ⟨rfl,Itbl.rng0 (by exact Nat.le_of_lt (cC hs (by decide))),_,rfl,rfl,rfl,rfl,rfl,rfl,Nat.zero_le _⟩⟩)
 ·intro i p σ' hp zz1;refine e1_7 zz1 ?_;clear zz1;intro m zz2 hm1 hm2 hm3 hm4 hm5 hi;subst zz2
  refine e0_2 (int_at hp) ?_;intro hi' zz1;subst zz1
  rw[show(0:Int)+(i:Nat)=((i:Nat):Int) by lia]
  refine AT_name (S_l T ?_)
  refine e0_3 (typS_len size n i) ?_;intro z1 z2 z3
  have hnext:typS size n (i+1)=((typS size n i).1++(signS ((n+7*i)%20) (typS size n i).2.2).1++unsS ((n/20+5*i)%54),(typS size n i).2.1++(signS ((n+7*i)%20) (typS size n i).2.2).1,(signS ((n+7*i)%20) (typS size n i).2.2).2):=rfl
  have hsl:=signS_len ((n+7*i)%20) (typS size n i).2.2
  have hul:=unsS_len ((n/20+5*i)%54)
  rw[hnext]
  generalize (typS size n i).1=t at *
  generalize (typS size n i).2.1=s at *
  generalize (typS size n i).2.2=l at *
  refine XS_cons (X_AssignSwap T ["form","sign"] (E_Tuple ?_))
  refine EL_cons (E_BinOp (E_BinOp (E_l ?_ ((fset_ne (by decide)).trans hm1))))
  refine E_BinOp (E_int (E_l ?_))
  refine mul_ii ?_
  refine add_ii (E_int (mod_ii (by decide) ?_))
  rw[show((n:Int)+7*(i:Int))%20=(((n+7*i)%20:Nat):Int) by exact rfl]
  refine(EL_strL [] ?_ ?_:EL _ _ _ _ _ _ _)
  ·decide +kernel
  refine EL_nil ⟨by simp,_,rfl,rfl,?_⟩
  refine S_l T (S_l T ?_)
  have hf20:(n+7*i)%20<20:=Nat.mod_lt _ (by decide)
  generalize (n+7*i)%20=f at *
  refine XS_cut (fun σ'=>∃ m,σ'=fcs σ L m []∧m "n"=some (.int n)∧m "unseen"=some (.lst (unseenT.map PV.int))∧m "typed"=some (.str t)∧m "shown"=some (.str s)∧m "left"=some (.int ((signS f l).2:Nat))∧m "i"=some (.int (i:Int))∧m "sign"=some (.str (signS f l).1)) (X_If (T_andD (p:=decide (1<l)) (q:=decide (f<5)) (T_Compare (E_l ?_ ((fset_ne (by decide)).trans ((fset_ne (by decide)).trans ((fset_ne (by decide)).trans hm5))))) (T_Compare (E_l ?_)) ?_)) ?_
  ·exact E_int (gt_ii (truthy_bool ⟨decide_eq_decide.mpr (by exact @Int.ofNat_lt 1 _),rfl⟩))
  ·exact E_int (lt_ii (truthy_bool ⟨decide_eq_decide.mpr (by exact @Int.ofNat_lt _ 5),rfl⟩))
  ·have h5:(fset (fset (fset m "i" (.int (i:Int))) "sign" (.str [])) "form" (.int (f:Int))) "left"=some (.int (l:Nat)):=(fset_ne (by decide)).trans ((fset_ne (by decide)).trans ((fset_ne (by decide)).trans hm5))
   have k1:∀ {X:Str},(X=="left")=false→(X=="sign")=false→(X=="form")=false→(X=="i")=false→∀ {u v:PV},(fset (fset (fset (fset (fset m "i" (.int (i:Int))) "sign" (.str [])) "form" (.int (f:Int))) "left" u) "sign" v) X=m X:=fun {X} e1 e2 e3 e4 {u v}=>by
    have n1:X≠"left":=by simpa using e1
    have n2:X≠"sign":=by simpa using e2
    have n3:X≠"form":=by simpa using e3
    have n4:X≠"i":=by simpa using e4
    rw[fset_ne n2,fset_ne n1,fset_ne n3,fset_ne n2,fset_ne n4]
   by_cases c1:1<l∧f<5
   ·rw[decide_eq_true c1.1,decide_eq_true c1.2]
    refine(?_:XS W _ _ _ _ _)
    refine XS_cons (X_AssignSwap T ["sign","left"] (E_Tuple ?_))
    refine(EL_strL [223] ?_ ?_:EL _ _ _ _ _ _ _)
    ·decide +kernel
    refine EL_cons (E_BinOp (E_l ?_ h5))
    refine E_int (sub_ii ?_)
    refine EL_nil ⟨by simp,_,rfl,rfl,?_⟩
    refine S_l T (S_l T ?_)
    have e:signS f l=([223],l-2):=if_pos c1
    rw[e]
    exact XS_nil ⟨rfl,_,rfl,(k1 (by decide) (by decide) (by decide) (by decide)).trans hm1,(k1 (by decide) (by decide) (by decide) (by decide)).trans hm2,(k1 (by decide) (by decide) (by decide) (by decide)).trans hm3,(k1 (by decide) (by decide) (by decide) (by decide)).trans hm4,(fset_ne (by decide)).trans ((fset_same _ _ _).trans (by rw[show((l-2:Nat):Int)=(l:Int)-2 by exact Int.ofNat_sub c1.1])),rfl,fset_same _ _ _⟩
   ·rw[show(decide (1<l)&&decide (f<5))=false by rw[← Bool.decide_and];exact decide_eq_false c1]
    refine(?_:XS W _ _ _ _ _)
    refine XS_if (T_Compare (E_l ?_ h5))
    refine E_int (gt_ii (truthy_bool ?_))
    by_cases c2:0<l
    ·rw[decide_eq_true (show(l:Int)>0 by exact(@Int.ofNat_lt 0 _).mpr c2)]
     have e:signS f l=([sT.getD f 0],l-1):=by unfold signS;rw[if_neg c1,if_pos c2]
     refine XS_cons (X_AssignSwap T ["sign","left"] (E_Tuple ?_))
     refine(EL_cons' ?_ ?_:EL _ _ _ _ _ _ _)
     ·rfl
     refine(E_Sub' ?_ ?_:E _ _ _ _ _ _)
     ·intro _ _;rfl
     refine(E_BinOp ?_:E _ _ _ _ _ _)
     refine E_strL [115,115,115,115,115,83,383] ?_
     refine(EE.h ?_:E _ _ _ _ _ _)
     refine EE_Meth [] (kp:=.machine) (E_strL [] (GM_str PySem.F.slot_str_join PySem.F.type_str_join ?_))
     refine(EL_cons' ?_ ?_:EL _ _ _ _ _ _ _)
     ·rfl
     refine E_Makes T (inums 0 13) (fun _=>True) (stsL greatS) ?_
     refine E_Call [] (kp:=.machine) (E_tn T D.B (n:="range") (by simp) ?_)
     refine EL_cons (E_int (EL_nil (EK_nil ⟨KP_typ,C_range1 T ⟨Itbl.rng0 (n:=13) (by decide),trivial,Makes1 T (fun _=>true) vS vS_eq (by rw[inums_len];decide) (fun _ _ _ _ _ _=>trivial) (fun D2 L2 g1 g2=>⟨fun p hp acc m=>CI_nil ⟨rfl,rfl⟩,fun p hp _ acc m'=>?_⟩),?_⟩⟩)))
     ·refine e1_1 (List.getElem?_of_mem hp) ?_;intro q hq
      refine e0_2 (int_at hq) ?_;intro hq2 zz1;subst zz1
      refine E_Call [] (kp:=.machine) (E_bn T D.B (n:="chr") (by simp) ?_)
      refine(EL_cons' ?_ ?_:EL _ _ _ _ _ _ _)
      ·rfl
      refine(E_BinOp ?_:E _ _ _ _ _ _)
      refine(E_int ?_:E _ _ _ _ _ _)
      refine(E_BinOp ?_:E _ _ _ _ _ _)
      refine(E_int ?_:E _ _ _ _ _ _)
      refine E_m ?_ (fset_same _ _ _)
      refine mul_ii ?_
      refine add_ii ?_
      exact EL_nil (EK_nil ⟨KP_blt,C_chr (by lia) (by lia) ⟨rfl,rfl⟩⟩)
     refine EL_nil (EK_nil ⟨KP_blt,C_join (x:=[]) (by decide) ?_⟩)
     refine add_ss (by decide) ?_
     rw[show([115,115,115,115,115,83,383]:List Nat)++jn [] greatS=sT by rfl]
     refine E_l ?_
     refine⟨Sbs.str,get_str (c:=sT.getD f 0) (Int.natCast_nonneg _) (by exact ltc hf20 (by decide)) ?_ ?_⟩
     ·rw[Int.toNat_natCast,List.getD_eq_getElem?_getD,List.getElem?_eq_getElem (show f<sT.length by show f<20;exact hf20)];rfl
     refine EL_cons (E_BinOp (E_l ?_ h5))
     refine E_int (sub_ii ?_)
     refine EL_nil ⟨by simp,_,rfl,rfl,?_⟩
     refine S_l T (S_l T ?_)
     rw[e]
     exact XS_nil (XS_nil ⟨rfl,_,rfl,(k1 (by decide) (by decide) (by decide) (by decide)).trans hm1,(k1 (by decide) (by decide) (by decide) (by decide)).trans hm2,(k1 (by decide) (by decide) (by decide) (by decide)).trans hm3,(k1 (by decide) (by decide) (by decide) (by decide)).trans hm4,(fset_ne (by decide)).trans ((fset_same _ _ _).trans (by rw[show((l-1:Nat):Int)=(l:Int)-1 by exact Int.ofNat_sub c2])),rfl,fset_same _ _ _⟩)
    ·rw[decide_eq_false (show ¬ (l:Int)>0 by exact fun z=>c2 ((@Int.ofNat_lt 0 _).mp z))]
     have e:signS f l=([],l):=by unfold signS;rw[if_neg c1,if_neg c2]
     rw[e]
     exact XS_nil (XS_nil ⟨rfl,_,rfl,(fset_ne (by decide)).trans ((fset_ne (by decide)).trans ((fset_ne (by decide)).trans hm1)),(fset_ne (by decide)).trans ((fset_ne (by decide)).trans ((fset_ne (by decide)).trans hm2)),(fset_ne (by decide)).trans ((fset_ne (by decide)).trans ((fset_ne (by decide)).trans hm3)),(fset_ne (by decide)).trans ((fset_ne (by decide)).trans ((fset_ne (by decide)).trans hm4)),h5,(fset_ne (by decide)).trans ((fset_ne (by decide)).trans (fset_same _ _ _)),(fset_ne (by decide)).trans (fset_same _ _ _)⟩)
  ·intro _ zz1;refine e1_8 zz1 ?_;clear zz1;intro m zz2 g1 g2 g3 g4 g5 g6 g7;subst zz2
   refine XS_setl T (E_BinOp (E_BinOp (E_l ?_ g3)))
   refine E_l ?_ g7
   refine add_ss (by exact Nat.le_trans (Nat.add_le_add (Nat.le_trans z1 (Nat.mul_le_mul_left _ (Nat.le_trans (Nat.le_of_lt hi') hs))) hsl) (by decide)) ?_
   refine(EE.h ?_:E _ _ _ _ _ _)
   refine EE_Meth [] (kp:=.machine) (E_strL [] (GM_str PySem.F.slot_str_join PySem.F.type_str_join ?_))
   refine(EL_cons' ?_ ?_:EL _ _ _ _ _ _ _)
   ·rfl
   refine E_Makes T (((unseenT.drop ((n/20+5*i)%54)).take 1).map PV.int) (fun _=>True) (stsL ((unsS ((n/20+5*i)%54)).map fun c=>[c])) ?_
   refine E_SliceL T (E_SliceL T (E_l ?_ g2))
   refine EP_some (E_BinOp (E_BinOp (E_BinOp (E_l ?_ g1))))
   refine E_int (div_ii (by decide) (by decide) ?_)
   refine E_BinOp (E_int (E_l ?_ g6))
   refine mul_ii ?_
   refine add_ii (E_int (mod_ii (by decide) ?_))
   rw[show((n:Int)/20+5*(i:Int))%54=(((n/20+5*i)%54:Nat):Int) by exact rfl]
   refine⟨_,rfl,EP_none ⟨rfl,_,.inl rfl,by decide,?_⟩⟩
   rw[slc_from]
   refine EP_none (EP_some (E_int ⟨_,rfl,rfl,_,.inl rfl,?_,?_⟩))
   ·rw[List.length_drop];exact Nat.le_trans (Nat.sub_le _ _) (by decide)
   rw[show(1:Int)=((1:Nat):Int) from rfl,slc_to,← List.map_drop,← List.map_take]
   have hrng:∀ z∈unseenT,(0:Int)≤z∧z≤1114111:=by decide
   generalize (n/20+5*i)%54=u at *
   refine⟨Itbl.lst,trivial,Makes1 T (fun _=>true) vU (by
    rw[List.filter_eq_self.mpr (fun _ _=>rfl)];unfold unsS stsL;simp only[List.map_map];rfl) (by rw[List.length_map,List.length_take];exact Nat.le_trans (Nat.min_le_left _ _) (by decide)) (fun _ _ _ _ _ _=>trivial) (fun D2 L2 g1 g2=>⟨fun p hp acc m=>CI_nil ⟨rfl,rfl⟩,fun p hp _ acc m'=>?_⟩),?_⟩
   ·refine e1_2 (List.mem_map.mp hp) ?_;intro z hz zz1;subst zz1
    refine e0_2 (hrng z (List.mem_of_mem_drop (List.mem_of_mem_take hz))) ?_;intro q1 q2
    refine E_Call [] (kp:=.machine) (E_bn T D.B (n:="chr") (by simp) ?_)
    refine EL_cons (E_m ?_ (fset_same _ _ _))
    exact EL_nil (EK_nil ⟨KP_blt,C_chr q1 q2 ⟨rfl,rfl⟩⟩)
   have hj1:jn [] ((unsS u).map fun c=>[c])=unsS u:=by rw[jn_nil];induction unsS u with
    |nil=>rfl
    |cons c l ih=>rw[List.map_cons,List.flatten_cons,ih];rfl
   refine EL_nil (EK_nil ⟨KP_blt,C_join (x:=[]) (by unfold lens;rw[lens_nil,← jn_nil,hj1];exact Nat.le_trans (Nat.add_le_add (Nat.le_refl _) hul) (by decide)) ?_⟩)
   rw[hj1]
   refine add_ss (by rw[List.length_append];lia) ⟨_,_,_,rfl,?_⟩
   refine XS_setl T (E_BinOp (E_l ?_ ((fset_ne (by decide)).trans g4)))
   refine E_l ?_ ((fset_ne (by decide)).trans g7)
   refine add_ss (by exact Nat.le_trans (Nat.add_le_add (Nat.le_trans z2 (Nat.le_trans (Nat.le_of_lt hi') hs)) hsl) (by decide)) ⟨_,_,_,rfl,?_⟩
   exact XS_nil ⟨_,rfl,(fset_ne (by decide)).trans ((fset_ne (by decide)).trans g1),(fset_ne (by decide)).trans ((fset_ne (by decide)).trans g2),(fset_ne (by decide)).trans (fset_same _ _ _),fset_same _ _ _,(fset_ne (by decide)).trans ((fset_ne (by decide)).trans g5),hi'⟩
 ·intro σ' zz1;refine e1_7 zz1 ?_;clear zz1;intro m zz2 hm1 hm2 hm3 hm4 hm5 hi;subst zz2
  rw[inums_len] at hm3 hm4
  refine XS_nil (XS_ret (E_Tuple ?_))
  refine EL_cons (E_l ?_ hm3)
  refine EL_cons (E_l ?_ hm4)
  refine EL_nil ⟨by simp,?_⟩
  show K _ _
  rw[fcs_res hL]
  exact h
noncomputable def keptT:List (List Nat):=[[],[],[34,92],[32,10,9,13,92]]
noncomputable def escL (way c:Nat):List Nat:=if way<2∨c∈keptT.getD way [] then [92,c] else [c]
noncomputable def slashL (w:List Nat) (way:Nat):List Nat:=w.flatMap (escL way)
noncomputable def writtenL (w:List Nat) (way:Nat) (white:List Nat):List Nat :=
 if way=1 then [34]++slashL w way++[34] else if way=2 then white++[34]++slashL w way++[34] else white++slashL w way++white
theorem escL_len (way c:Nat):(escL way c).length≤2:=by unfold escL;split <;> simp
theorem slashL_len (way:Nat):∀ w:List Nat,(slashL w way).length≤2*w.length
 |[]=>by simp[slashL]
 |c::w=>by
  have h1:=slashL_len way w
  have h2:=escL_len way c
  unfold slashL at h1 ⊢
  rw[List.flatMap_cons,List.length_append,List.length_cons];lia
theorem writtenL_len (w:List Nat) (way:Nat) (white:List Nat) (h:white.length≤1):(writtenL w way white).length≤2*w.length+3:=by
 have:=slashL_len way w
 unfold writtenL;split
 ·simp;lia
 ·split
  ·simp;lia
  ·simp;lia
noncomputable def vW (way:Nat):PV→PV
 | .str (c::_)=>.str (escL way c)
 |p=>p
theorem map_vW (way:Nat) (w:List Nat):((signs w).filter fun _=>true).map (vW way)=stsL (w.map (escL way)):=by
 unfold signs stsL
 rw[List.filter_eq_self.mpr (fun _ _=>rfl),List.map_map,List.map_map]
 rfl
theorem law_written_C (D:L1 W){a:Addr}{w white:List Nat}{way:Nat}{K:PV→Sig→Prop} (F:Fn W a "_law_written" (defAt 22)) (hw:w.length≤1000) (hway:way<4) (hwh:white.length≤1) (h:K (.str (writtenL w way white)) σ):CC W (k+1) (.ref a) [.str w,.int way,.str white] [] [] σ K:=by
 refine e5_1 (F.fn) ?_;intro doc pm an cd ct f1
 have T:=D.T
 refine CC_fcs T f1 [("word",.str w,none),("way",.int way,some 0),("white",.str white,none)] 2 (bind3 (n:="word") (m:="way") (l:="white") (fun v w u=>by rfl) ⟨rfl,rfl⟩) rfl ⟨rfl,⟨rfl,fun L=>rfl⟩,rfl,trivial⟩ (by rfl) rfl fun (L:Nat) hL=>?_
 have hkt:∃ kp,keptT[way]? = some kp∧keptT.getD way []=kp:=⟨keptT[way]'hway,List.getElem?_eq_getElem hway,by rw[List.getD_eq_getElem?_getD,List.getElem?_eq_getElem (show way<keptT.length from hway)];rfl⟩
 refine e1_2 hkt ?_;try clear hkt;intro kp hkt hkd
 refine XS_setc T 1 ?_
 refine(E_Sub' ?_ ?_:E _ _ _ _ _ _)
 ·intro _ _;rfl
 refine(E_List ?_:E _ _ _ _ _ _)
 refine(EL_strL [] ?_ ?_:EL _ _ _ _ _ _ _)
 ·decide +kernel
 refine(EL_strL [] ?_ ?_:EL _ _ _ _ _ _ _)
 ·decide +kernel
 refine(EL_strL [34,92] ?_ ?_:EL _ _ _ _ _ _ _)
 ·decide +kernel
 refine(EL_strL [32,10,9,13,92] ?_ ?_:EL _ _ _ _ _ _ _)
 ·decide +kernel
 refine EL_nil ⟨by decide,E_c 0 ?_⟩
 refine⟨Sbs.lst,get_lst (p:=.str kp) (by exact Int.natCast_nonneg _) (by exact z2 (by assumption) (by decide)) ?_ ⟨_,_,_,rfl,by simp[bc'],?_⟩⟩
 ·rw[Int.toNat_natCast]
  show(keptT.map PV.str)[way]? = _
  rw[List.getElem?_map,hkt];rfl
 refine(?_:XS W _ _ _ (fcs σ L _ [some (.int way),some (.str kp)]) _)
 refine XS_setl T (EE.h ?_:E _ _ _ _ _ _)
 refine EE_Meth [] (kp:=.machine) (E_strL [] (GM_str PySem.F.slot_str_join PySem.F.type_str_join ?_))
 refine(EL_cons' ?_ ?_:EL _ _ _ _ _ _ _)
 ·rfl
 refine E_Makes T (signs w) (fun _=>True) (stsL (w.map (escL way))) (E_l ⟨Itbl.str,trivial,Makes1 T (fun _=>true) (vW way) (map_vW way w) (by rw[signs_len];exact Nat.le_trans (by assumption) (by decide)) (fun _ _ _ _ _ _=>trivial) (fun D' L' e1 e2=>⟨fun p hp acc m=>CI_nil ⟨rfl,rfl⟩,fun p hp _ acc m=>?_⟩),?_⟩)
 ·refine e1_2 (List.mem_map.mp hp) ?_;intro c hc zz1;subst zz1
  refine E_IfExp (T_or (T_Compare (E_f 0 e1 e2 ?_)))
  refine E_int (lt_ii (truthy_bool ?_))
  have hv:vW way (.str [c])=.str (escL way c):=rfl
  by_cases h2:way<2
  ·rw[decide_eq_true (show(way:Int)<2 by exact z2 (by assumption) (by decide)),if_pos rfl,if_pos rfl]
   refine(E_BinOp ?_:E _ _ _ _ _ _)
   refine(E_strL [92] ?_ (by decide +kernel))
   refine E_m ?_ (fset_same _ _ _)
   refine add_ss (by simp) ⟨rfl,?_⟩
   rw[hv];unfold escL;rw[if_pos (.inl h2)];rfl
  ·rw[decide_eq_false (show ¬ (way:Int)<2 by lia),if_neg (by decide)]
   refine T_Compare (E_m ?_ (fset_same _ _ _))
   refine E_f 1 e1 e2 (in_cs (truthy_bool ?_))
   by_cases h3:c∈kp
   ·rw[decide_eq_true h3,if_pos rfl]
    refine(E_BinOp ?_:E _ _ _ _ _ _)
    refine(E_strL [92] ?_ (by decide +kernel))
    refine E_m ?_ (fset_same _ _ _)
    refine add_ss (by simp) ⟨rfl,?_⟩
    rw[hv];unfold escL;rw[if_pos (.inr (by rw[hkd];exact h3))];rfl
   ·rw[decide_eq_false h3,if_neg (by decide)]
    refine E_m ⟨rfl,?_⟩ (fset_same _ _ _)
    rw[hv];unfold escL;rw[if_neg (by rw[hkd];exact fun z=>z.elim h2 h3)]
 have hsl:=slashL_len way w
 have hjn:jn [] (w.map (escL way))=slashL w way:=by rw[jn_nil];rfl
 refine EL_nil (EK_nil ⟨KP_blt,C_join (by unfold lens;rw[lens_nil,← jn_nil,hjn];exact Nat.le_trans (Nat.add_le_add (Nat.le_refl _) (Nat.le_trans hsl (Nat.mul_le_mul_left _ hw))) (by decide)) ⟨_,_,_,rfl,?_⟩⟩)
 rw[hjn]
 unfold writtenL at h
 generalize slashL w way=sl at *
 refine XS_ret (E_Sub (E_List ?_))
 refine EL_cons (E_BinOp (E_BinOp (E_l ?_)))
 refine E_l ?_
 refine add_ss (by exact Nat.le_trans (Nat.add_le_add hwh (Nat.le_trans hsl (Nat.mul_le_mul_left _ hw))) (by decide)) (E_l ?_)
 refine add_ss (by rw[List.length_append];exact Nat.le_trans (Nat.add_le_add (Nat.add_le_add hwh (Nat.le_trans hsl (Nat.mul_le_mul_left _ hw))) hwh) (by decide)) ?_
 refine(EL_cons' ?_ ?_:EL _ _ _ _ _ _ _)
 ·rfl
 refine(E_BinOp ?_:E _ _ _ _ _ _)
 refine(E_BinOp ?_:E _ _ _ _ _ _)
 refine(E_strL [34] ?_ (by decide +kernel))
 refine E_l ?_
 refine add_ss (by simp;exact Nat.le_trans (Nat.add_le_add (Nat.le_refl _) (Nat.le_trans hsl (Nat.mul_le_mul_left _ hw))) (by decide)) ?_
 refine E_strL [34] (add_ss (by simp;exact Nat.le_trans (Nat.le_trans hsl (Nat.mul_le_mul_left _ hw)) (by decide)) ?_)
 refine EL_cons (E_BinOp (E_BinOp (E_BinOp (E_l ?_))))
 refine E_strL [34] (add_ss (by simp;exact Nat.le_trans (by assumption) (by decide)) ?_)
 refine E_l ?_
 refine add_ss (by simp;exact Nat.le_trans (Nat.add_le_add (Nat.add_le_add hwh (Nat.le_refl _)) (Nat.le_trans hsl (Nat.mul_le_mul_left _ hw))) (by decide)) ?_
 refine E_strL [34] (add_ss (by simp;exact Nat.le_trans (Nat.add_le_add hwh (Nat.add_le_add (Nat.le_trans hsl (Nat.mul_le_mul_left _ hw)) (Nat.le_refl _))) (by decide)) ?_)
 refine EL_cons (E_BinOp (E_BinOp (E_l ?_)))
 refine E_l ?_
 refine add_ss (by exact Nat.le_trans (Nat.add_le_add hwh (Nat.le_trans hsl (Nat.mul_le_mul_left _ hw))) (by decide)) (E_l ?_)
 refine add_ss (by rw[List.length_append];exact Nat.le_trans (Nat.add_le_add (Nat.add_le_add hwh (Nat.le_trans hsl (Nat.mul_le_mul_left _ hw))) hwh) (by decide)) ?_
 refine EL_nil ⟨by simp,E_c 0 ?_⟩
 refine⟨Sbs.lst,get_lst (by exact Int.natCast_nonneg _) (by exact z2 (by assumption) (by decide)) ?_ ?_ (p:=.str (if way=1 then [34]++sl++[34] else if way=2 then white++[34]++sl++[34] else white++sl++white))⟩
 ·rw[Int.toNat_natCast]
  have:way=0∨way=1∨way=2∨way=3:=four _ hway
  rcases this with rfl |rfl |rfl |rfl <;> rfl
 ·show K _ _
  rw[fcs_res hL]
  exact h
end
theorem rep_fold (c:Nat):∀ (n:Nat) (acc:Array Nat),(List.replicate n #[c]).foldl (· ++ ·) acc=acc++(List.replicate n c).toArray
 |0,acc=>by simp
 |n+1,acc=>by
  rw[List.replicate_succ,List.foldl_cons,rep_fold c n,List.replicate_succ,Array.append_assoc]
  congr 1
  simp
theorem mul_rep (c n:Nat):Txt.mul (st [c]) (n:Int)=st (List.replicate n c):=by
 unfold Txt.mul
 by_cases h0:n=0
 ·subst h0;rfl
 rw[if_neg (by lia)]
 by_cases h1:n=1
 ·subst h1;rfl
 rw[if_neg]
 ·rw[Int.toNat_natCast]
  show(⟨(List.replicate n #[c]).foldl (· ++ ·) #[]⟩:PySem.Str)=_
  rw[rep_fold];simp[st]
 ·have e:(st [c]).length=1:=str_len [c]
  rw[e]
  simp;lia
noncomputable def replL (x y z:List Nat):List Nat:=(Txt.replace (st x) (st y) (st z)).cps.toList
section
variable {W:Wd}{k:Nat}{σ:Sig}{env:Env}{P:FM→Prop}{x y z:List Nat}
theorem mul_si {c n:Nat}{K:PV→Sig→Prop} (hn:n≤1000) (h:K (.str (List.replicate n c)) σ):O2 W k VRel (binaryOp .Mult) (.str [c]) (.int (n:Int)) σ K:=fun va vb=>.id h fun A hA s hs hpat Q q=>by
 obtain ⟨⟨t,rfl⟩,u,rfl⟩:=hpat
 refine SB.mul (mulOk_of 1 1000 (Nat.le_of_eq (str_len [c])) (by lia) (by lia) (by decide) (by decide)) fun t' k=>?_
 exact q _ _ rfl rfl rfl ⟨t',by rw[show(⟨([c]:List Nat).toArray⟩:PySem.Str)=st [c] from rfl,mul_rep];rfl⟩
theorem rep_foldV:∀ (n:Nat) (vs acc:Array Value),((List.replicate n vs).foldl (fun a b=>a++b) acc).toList=acc.toList++(List.replicate n vs.toList).flatten
 |0,vs,acc=>by simp
 |n+1,vs,acc=>by
  rw[List.replicate_succ,List.foldl_cons,rep_foldV n,List.replicate_succ,List.flatten_cons,Array.toList_append,List.append_assoc]
theorem VRels.rep {F:FM}{l:List PV}{vs:List Value} (h:VRels F l vs):∀ n:Nat,VRels F (List.replicate n l).flatten (List.replicate n vs).flatten
 |0=>rfl
 |n+1=>by rw[List.replicate_succ,List.replicate_succ,List.flatten_cons,List.flatten_cons];exact h.append (VRels.rep h n)
theorem mul_li (T:Top W){l:List PV}{n:Nat}{K:PV→Sig→Prop} (h1:l≠[]) (hn:l.length*n≤1000000) (hn2:n≤1000000) (h:K (.lst (List.replicate n l).flatten) σ):O2 W k VRel (binaryOp .Mult) (.lst l) (.int (n:Int)) σ K:=fun va vb=>.grow T h fun A hA s hs hpat Q q=>by
 obtain ⟨⟨a,vs,m,rfl,f,r⟩,u,rfl⟩:=hpat
 have hl:=r.length
 rw[Array.length_toList] at hl
 have ho:=f.2.1
 have ne:vs.isEmpty=false:=by
  cases hv:vs.isEmpty with
  |false=>rfl
  |true=>rw[Array.isEmpty_iff] at hv;subst hv;cases l with
   |nil=>exact absurd rfl h1
   |cons _ _=>simp at hl
 refine e1_1 (⟨_,rfl⟩:∃ x:Int,x=(n:Int)) ?_;intro x hx
 rw[← hx]
 have k1:x.toNat=n:=by rw[hx];rfl
 have k2:0≤x∧x≤1000000:=by lia
 clear hx
 have hfit:¬ (!Builtin.List.listFitsIndex x)=true:=by
  have e63:(2:Int)^63=9223372036854775808:=by decide
  unfold Builtin.List.listFitsIndex
  rw[e63]
  simp;lia
 have hbig:¬ vs.size*x.toNat>(2^63-1)/8:=by
  have e9:(2^63-1)/8=1152921504606846975:=by decide
  rw[k1,hl,e9];lia
 have htl:¬ Builtin.List.listTooLong (vs.size*x.toNat)=true:=by
  unfold Builtin.List.listTooLong
  rw[k1,hl,sizeLine_eq]
  intro hd;have:=of_decide_eq_true hd;lia
 have hm:=AutoListH.list___mul___list_int_3 a vs m x u hfit hbig htl
 have ho':s.heap.get? a=some { cls:=.type "list",dict:=none,data:=.seq vs m,slots := #[] }:=ho
 refine wpAny_binaryOp_repeat_ref (T:="list") (U:="int") (by decide) ⟨_,ho,rfl⟩ (fun s'=>typeIs_int s' _ u) noFill_list_mul PySem.F.fills_int_mul PySem.F.slot_int_rmul repeat_list PySem.F.slot_int_index.lookup
  (call_meets PySem.F.slot_int_rmul (typeIs_int s _ u) PySem.F.entry_int_rmul (PySem.F.args_int_rmul_2 _ _) (int___rmul___int_list _ u a vs m)
   ⟨ho,rfl,⟨_,ho,rfl⟩,call_meets PySem.F.slot_list_mul ⟨_,ho,rfl⟩ PySem.F.entry_list_mul (PySem.F.args_list_mul_2 _ _)
    hm
    ⟨ho',?_⟩⟩)
 refine q _ _ s.toks sle_push ⟨_,_,0,rfl,fz_new hs (by intro z;cases z),?_⟩
 rw[ne,if_neg (by decide),k1,rep_foldV]
 exact(r.mono (fle_grow sle_push)).rep n
def EJ (W:Wd) (k:Nat) (env:Env):List Expr→List Nat→Sig→(List Nat→Sig→Prop)→Prop
 |[],acc,σ,K=>K acc σ
 |e::r,acc,σ,K=>E W k env e σ fun p σ'=>∃ x,p=.str x∧(acc++x).length≤16000000∧EJ W k env r (acc++x) σ' K
theorem EJ.joins:∀ {es:List Expr}{acc:List Nat}{σ:Sig}{K:List Nat→Sig→Prop},EJ W k env es acc σ K→∀ A,Room A k→∀ s,St W σ s→∀ Q:PySem.Str→Shared→Prop,
  (∀ out σ' s',St W σ' s'→FLe (FrOf σ s) (FrOf σ' s')→K out σ'→(acc.length≤16000000→out.length≤16000000)→Q (st out) s')→Joins (model W.prog W.w) A (fun _ _=>False) (evalEach es env) (st acc) Q s
 |[],acc,σ,K,h,A,hA,s,hs,Q,q=>q acc σ s hs (FLe.refl _) h fun z=>z
 |e::r,acc,σ,K,h,A,hA,s,hs,Q,q=>by
  show wpAny _ A (eval e env) _ _ s
  refine G.use h A hA s hs trivial (fun v s₁ p σ₁ a1 a2 a3 hpat=>?_) fun _ _ x=>x
  refine e1_3 hpat ?_;try clear hpat;intro x zz1 hz hj;subst zz1
  refine e1_1 a3 ?_;try clear a3;intro t zz1;subst zz1
  refine⟨st x,t,rfl,?_,?_⟩
  ·rw[st_app,show(st (acc++x)).length=(acc++x).length from str_len _,sizeLine_eq];exact Nat.le_of_lt (cC hz (by decide))
  ·rw[st_app]
   exact EJ.joins hj A hA s₁ a1 Q fun out σ' s' b1 b2 b3 b4=>q out σ' s' b1 (a2.trans b2) b3 fun _=>b4 hz
theorem E_Joined {v₁ v₂:Expr}{rest:List Expr}{pos:Pos}{K:PV→Sig→Prop} (h:EJ W k env (v₁::v₂::rest) [] σ fun out σ'=>K (.str out) σ'):E W k env (.JoinedStr (v₁::v₂::rest) pos) σ K:=fun A hA s hs hP =>
 wpAny_JoinedStr (EJ.joins h A hA s hs _ fun out σ' s' b1 b2 b3 b4=>⟨by rw[show(st out).length=out.length from str_len _,sizeLine_eq];have:=b4 (by simp);exact Nat.le_of_lt (cC this (by decide)),.str out,σ',b1.same rfl rfl rfl (Nat.le_succ _),b2,⟨_,rfl⟩,b3⟩)
theorem E_Fmt {e:Expr}{pos:Pos}{K:PV→Sig→Prop} (h:E W k env e σ fun p σ'=>∃ x,p=.str x∧x.length≤1000000∧K (.str x) σ'):E W k env (.FormattedValue e 115 none pos) σ K:=fun A hA s hs hP=>by
 show wpAny _ A (eval _ env) _ _ s
 rw[arm_eval_FormattedValue]
 refine wpAny_bind (G.use h A hA s hs hP (fun v s₁ p σ₁ a1 a2 a3 hpat=>?_) fun _ _ x=>x)
 refine e1_3 hpat ?_;try clear hpat;intro x zz1 hz hK;subst zz1
 refine e1_1 a3 ?_;try clear a3;intro t zz1;subst zz1
 refine wpAny_bind (wpAny_standAt ?_)
 have hx:(⟨x.toArray⟩:PySem.Str).length≤sizeLine:=by rw[str_len,sizeLine_eq];exact Nat.le_of_lt (cC hz (by decide))
 have fin:∀ (s₂:Shared) (u:Tok),s₂.heap=s₁.heap→s₂.os=s₁.os→s₂.gens=s₁.gens→s₁.toks≤s₂.toks→wpAny (model W.prog W.w) A (formatField (.str ⟨x.toArray⟩ u) PySem.Str.empty) (fun v s'=>∃ b σ',St W σ' s'∧FLe (FrOf σ s) (FrOf σ' s')∧VRel (FrOf σ' s') b v∧K b σ') (fun _ _=>False) s₂:=fun s₂ u h1 h2 h3 h4=>by
  have S2:=a1.same h1 h2 h3 h4
  have F2:FLe (FrOf σ s) (FrOf σ₁ s₂):=by show FLe _ (Fz σ₁ s₂.heap);rw[h1];exact a2
  exact wpAny_formatField_str ⟨.str x,σ₁,S2,F2,⟨_,rfl⟩,hK⟩ ⟨.str x,σ₁,S2.same rfl rfl rfl (Nat.le_succ _),F2,⟨_,rfl⟩,hK⟩ hx
 show wpAny _ _ (do let v' ← holding [.str ⟨x.toArray⟩ t] (habitSame "fstring-hands-on-the-str" (.str ⟨x.toArray⟩ t));formatField v' PySem.Str.empty) _ _ s₁
 exact wpAny_bind (wpAny_holding (wpAny_habitSame_str (fin s₁ t rfl rfl rfl (Nat.le_refl _)) (fin { s₁ with toks:=s₁.toks+1 } s₁.toks rfl rfl rfl (Nat.le_succ _)) hx))
theorem EL_two (y z:List Nat){pos:Pos}{xs ys:PySem.Str}{n n':Nat}{p p':Pos}{K:List PV→Sig→Prop} (h:∀ u v:Tok,u≠0→v≠0→u≠v→K [.stk y u,.stk z v] σ) (ey:autoParam (xs=⟨y.toArray⟩) tR) (ez:autoParam (ys=⟨z.toArray⟩) tR) :
  EL W k env pos [.Constant (.str xs) n p,.Constant (.str ys) n' p'] σ K:=fun A hA s hs hP=>by
 subst ey ez
 refine wpAny_items_cons (wpAny_Constant_str (wpAny_items_cons (wpAny_Constant_str (wpAny_items_nil ?_)) rfl)) rfl
 have h1:=hs.tk
 refine⟨[.stk y s.toks,.stk z (s.toks+1)],σ,(hs.same (s':={ s with toks:=s.toks+1+1 }) rfl rfl rfl (by show s.toks≤s.toks+1+1;lia)),FLe.refl _,⟨_,_,rfl,(Eq.refl _:Value.str _ _=Value.str _ _),_,_,rfl,(Eq.refl _:Value.str _ _=Value.str _ _),rfl⟩,h _ _ ?_ ?_ ?_⟩
 ·intro z;have z:s.toks=0:=z;lia
 ·intro z;have z:s.toks+1=0:=z;lia
 ·intro z;have z:s.toks=s.toks+1:=z;lia
theorem C_replace {u v:Tok}{K:PV→Sig→Prop} (hu:u≠0) (hv:v≠0) (huv:u≠v) (hyz:y≠z) (hb:x.length+(x.length+1)*z.length≤16777216) (h:K (.str (replL x y z)) σ):C W k (.blt "str.replace") [.str x,.stk y u,.stk z v] [] [] σ K:=fun f vs ws=>.id h fun A hA s hs hpat Q q=>by
 refine e0_3 hpat ?_;try clear hpat;intro e0 zz1 e5;obtain ⟨v1,r1,e1,⟨t,rfl⟩,v2,r2,e2,h2,v3,r3,e3,h3,e4⟩:=zz1
 obtain rfl:f=.builtin "str.replace":=e0
 obtain rfl:v2=.str ⟨y.toArray⟩ u:=h2
 obtain rfl:v3=.str ⟨z.toArray⟩ v:=h3
 subst e1 e2 e3
 obtain rfl:r3=[]:=e4
 refine SC.replace (x:=st x) (y:=st y) (z:=st z) hu hv huv ?_ ?_ fun t' k=>?_
 ·cases hc:(st y==st z) with
  |false=>rfl
  |true =>
   have:=eq_of_beq hc
   exact absurd (by have h9:=congrArg (fun q:PySem.Str=>q.cps.toList) this;simpa [st] using h9) hyz
 ·rw[show(st x).length=x.length from str_len x,show(st z).length=z.length from str_len z];exact hb
 ·exact q _ _ rfl rfl rfl ⟨t',by unfold replL;rw[show(⟨(Txt.replace (st x) (st y) (st z)).cps.toList.toArray⟩:PySem.Str)=Txt.replace (st x) (st y) (st z) by cases Txt.replace (st x) (st y) (st z);simp]⟩
theorem intsAre_of {F:FM}:∀ {l:List Int}{vs:List Value},VRels F (intsL l) vs→IntsAre vs l
 |[],vs,h=>by rw[show vs=[] from h];exact .nil
 |i::l,vs,h=>by
  refine e2_3 h ?_;try clear h;intro v ws zz1 zz2 r;subst zz1;refine e1_1 zz2 ?_;clear zz2;intro t zz3;subst zz3
  exact .cons _ _ (intsAre_of r)
theorem of_intsAre {F:FM}:∀ {l:List Int}{vs:List Value},IntsAre vs l→VRels F (intsL l) vs
 |_,_,.nil=>rfl
 |_,_,.cons _ _ h=>⟨_,_,rfl,⟨_,rfl⟩,of_intsAre h⟩
theorem C_sorted (T:Top W){l:List Int}{K:PV→Sig→Prop} (hl:l.length<64) (h:∀ l':List Int,l'.Perm l→l'.Pairwise (· ≤ ·)→K (.lst (intsL l')) σ):C W k (.blt "sorted") [.lst (intsL l)] [] [] σ K:=C1 fun v va A hA s hs hpat=>by
 obtain ⟨e,a,vs,n,rfl,f,r⟩:=hpat
 obtain rfl:v=.builtin "sorted":=e
 have hI:=intsAre_of r
 have hlen:=r.length
 have hli:(intsL l).length=l.length:=by unfold intsL;rw[List.length_map]
 have ho:s.heap.IsList a vs.toList.toArray:=by rw[Array.toArray_toList];exact isList_of f.2.1
 refine sorted_ints ho hI (by rw[hlen,hli];exact hl) fun out ns' a1 a2 a3=>?_
 have k1:SLe s.heap (sortedAll s.heap vs.toList out):=fun b o e=>sortedAll_old e
 refine e1_1 (sortedAll_at s.heap vs.toList out) ?_;intro e' he'
 refine⟨.lst (intsL ns'),σ,hs.grow T (tk:=s.toks) k1,fle_grow k1,⟨_,out,e',rfl,⟨hs.fresh _ (Nat.le_succ _),he',by intro z;cases z⟩,of_intsAre a1⟩,h ns' a2 a3⟩
end
noncomputable def natsL (l:List Nat):List PV:=l.map fun n:Nat=>.int (n:Int)
noncomputable abbrev Dr:=List Nat
noncomputable def cel (d:Dr) (k:Nat):Nat:=d.getD k 0
noncomputable def szs (d:Dr):List Nat:=(d.take 6).map fun c=>1+c%7
noncomputable def szk (d:Dr) (k:Nat):Nat:=(szs d++szs d).getD k 0
noncomputable def celk (d:Dr) (k:Nat):Nat:=(d.take 6++d).getD k 0
noncomputable def strT:List Nat:=[34,32,10,9,13,92,160]
noncomputable def strg (d:Dr) (k:Nat):Nat:=strT.getD ((cel d 6+k)%7) 0
noncomputable def whiT:List Nat:=[10,9,13,32]
noncomputable def whi (d:Dr) (k:Nat):List Nat:=[whiT.getD ((cel d 6+k)%4) 0]
noncomputable def typD (d:Dr) (k:Nat):List Nat:=(typS (szk d k) (celk d k/7+3*k) (szk d k)).1++[strg d k]
noncomputable def shoD (d:Dr) (k:Nat):List Nat:=(typS (szk d k) (celk d k/7+3*k) (szk d k)).2.1++[strg d k]
noncomputable def preD (d:Dr) (k:Nat):List Nat:=List.replicate (szk d k) 115++[strg d k]
noncomputable def pairD (d:Dr) (k:Nat):PV:=.tup [.str (shoD d k),.str (preD d k)]
noncomputable def wayD (d:Dr) (k:Nat):Nat:=cel d 6/18/4^k%4
noncomputable def wriD (d:Dr) (k:Nat):List Nat:=writtenL (typD d k) (wayD d k) (whi d k)
noncomputable def typsTo (d:Dr) (n:Nat):List (List Nat):=(List.range n).map (typD d)
noncomputable def pairsTo (d:Dr) (n:Nat):List PV:=(List.range n).map (pairD d)
noncomputable def wholeTo (d:Dr) (n:Nat):List Nat:=(List.range n).flatMap (wriD d)
noncomputable def wholeD (d:Dr):List Nat:=(wholeTo d 7).take ((wholeTo d 7).length-1)
structure DrOK (d:Dr):Prop where
 len:d.length=7
 lt:∀ c∈d,c<1000000
theorem szs_len {d:Dr} (h:DrOK d):(szs d).length=6:=by unfold szs;rw[List.length_map,List.length_take,h.len];rfl
theorem szs_le {d:Dr}:∀ n∈szs d,1≤n∧n≤7:=by
 intro n hn
 refine e1_2 (List.mem_map.mp hn) ?_;intro c _ zz1;subst zz1
 exact⟨Nat.le_add_right _ _,by rw[Nat.add_comm];exact Nat.mod_lt _ (by decide)⟩
theorem szk_get {d:Dr} (h:DrOK d){k:Nat} (hk:k<7):(szs d++szs d)[k]? = some (szk d k)∧1≤szk d k∧szk d k≤7:=by
 have hl:k<(szs d++szs d).length:=by rw[List.length_append,szs_len h];lia
 have e:szk d k=(szs d++szs d)[k]:=by unfold szk;rw[List.getD_eq_getElem?_getD,List.getElem?_eq_getElem hl];rfl
 refine⟨by rw[e];exact List.getElem?_eq_getElem hl,?_⟩
 have hm:szk d k∈szs d++szs d:=by rw[e];exact List.getElem_mem hl
 rcases List.mem_append.mp hm with q |q <;> exact szs_le _ q
theorem celk_get {d:Dr} (h:DrOK d){k:Nat} (hk:k<7):(d.take 6++d)[k]? = some (celk d k)∧celk d k<1000000:=by
 have hl:k<(d.take 6++d).length:=by rw[List.length_append,List.length_take,h.len];lia
 have e:celk d k=(d.take 6++d)[k]:=by unfold celk;rw[List.getD_eq_getElem?_getD,List.getElem?_eq_getElem hl];rfl
 refine⟨by rw[e];exact List.getElem?_eq_getElem hl,?_⟩
 have hm:celk d k∈d.take 6++d:=by rw[e];exact List.getElem_mem hl
 rcases List.mem_append.mp hm with q |q
 ·exact h.lt _ (List.mem_of_mem_take q)
 ·exact h.lt _ q
theorem cel6_get {d:Dr} (h:DrOK d):d[6]? = some (cel d 6)∧cel d 6<1000000:=by
 have hl:6<d.length:=by rw[h.len];decide
 have e:cel d 6=d[6]:=by unfold cel;rw[List.getD_eq_getElem?_getD,List.getElem?_eq_getElem hl];rfl
 exact⟨by rw[e];exact List.getElem?_eq_getElem hl,by rw[e];exact h.lt _ (List.getElem_mem hl)⟩
theorem typD_len {d:Dr} (h:DrOK d){k:Nat} (hk:k<7):(typD d k).length≤15:=by
 refine e0_3 (szk_get h hk) ?_;intro _ h1 h2
 have:=(typS_len (szk d k) (celk d k/7+3*k) (szk d k)).1
 unfold typD;rw[List.length_append,List.length_singleton];exact Nat.le_trans (Nat.add_le_add (Nat.le_trans this (Nat.mul_le_mul_left _ h2)) (Nat.le_refl _)) (by decide)
theorem shoD_len {d:Dr} (h:DrOK d){k:Nat} (hk:k<7):(shoD d k).length≤8:=by
 refine e0_3 (szk_get h hk) ?_;intro _ h1 h2
 have:=(typS_len (szk d k) (celk d k/7+3*k) (szk d k)).2.1
 unfold shoD;rw[List.length_append,List.length_singleton];exact Nat.le_trans (Nat.add_le_add (Nat.le_trans this h2) (Nat.le_refl _)) (by decide)
theorem wriD_len {d:Dr} (h:DrOK d){k:Nat} (hk:k<7):(wriD d k).length≤33:=by
 have h1:=typD_len h hk
 have h2:=writtenL_len (typD d k) (wayD d k) (whi d k) (by simp[whi])
 unfold wriD;exact Nat.le_trans (Nat.le_trans h2 (Nat.add_le_add (Nat.mul_le_mul_left _ h1) (Nat.le_refl _))) (by decide)
theorem wholeTo_len {d:Dr} (h:DrOK d):∀ n,n≤7→(wholeTo d n).length≤33*n
 |0,_=>by simp[wholeTo]
 |n+1,hn=>by
  have h1:=wholeTo_len h n (by exact Nat.le_of_lt (lekS hn))
  have h2:=wriD_len h (k:=n) (by exact lekS hn)
  unfold wholeTo at h1 ⊢
  rw[List.range_succ,List.flatMap_append,List.length_append]
  simp only[List.flatMap_cons,List.flatMap_nil,List.append_nil]
  lia
theorem wholeTo_succ (d:Dr) (n:Nat):wholeTo d (n+1)=wholeTo d n++wriD d n:=by
 unfold wholeTo;rw[List.range_succ,List.flatMap_append];simp
theorem typsTo_succ (d:Dr) (n:Nat):typsTo d (n+1)=typsTo d n++[typD d n]:=by
 unfold typsTo;rw[List.range_succ,List.map_append];rfl
theorem pairsTo_succ (d:Dr) (n:Nat):pairsTo d (n+1)=pairsTo d n++[pairD d n]:=by
 unfold pairsTo;rw[List.range_succ,List.map_append];rfl
noncomputable def vM6:PV→PV
 | .int x=>.int (x%1000000)
 |p=>p
noncomputable def vSz:PV→PV
 | .int x=>.int (1+x%7)
 |p=>p
theorem fmap_true {l:List PV}{f:PV→PV}:(l.filter fun _=>true).map f=l.map f:=by rw[List.filter_eq_self.mpr (fun _ _=>rfl)]
theorem natsL_get {l:List Nat}{i n:Nat} (h:l[i]? = some n):(natsL l)[((i:Nat):Int).toNat]? = some (.int (n:Int)):=by
 rw[Int.toNat_natCast];unfold natsL;rw[List.getElem?_map,h];rfl
theorem natsL_app (l m:List Nat):natsL l++natsL m=natsL (l++m):=by unfold natsL;simp
section
variable {W:Wd}{k:Nat}{σ:Sig}{env:Env}{P:FM→Prop}{x y:List Nat}
theorem law_drawn_C (D:L1 W){fa ta wa:Addr}{script:List Int}{K:PV→Sig→Prop} (F:Fn W fa "_law_drawn" (defAt 23)) (Ft:Fn W ta "_law_typed" (defAt 21)) (Gt:W.mg "_law_typed"=some (.ref ta)) (Fw:Fn W wa "_law_written" (defAt 22)) (Gw:W.mg "_law_written"=some (.ref wa))
  (hs:script.length≤100000) (h:∀ d:Dr,DrOK d→K (.tup [.lst (natsL (szs d)),.lst (stsL (typsTo d 7)),.lst (pairsTo d 7),.str (wholeD d),.int ((cel d 6%18:Nat):Int)]) σ):CC W (k+2) (.ref fa) [.lst (intsL script)] [] [] σ K:=by
 refine e5_1 (F.fn) ?_;intro doc pm an cd ct f1
 have T:=D.T
 refine CC_fcs T f1 [("script",.lst (intsL script),none)] 0 (bind1 (n:="script") (fun v=>by rfl) ⟨rfl,rfl⟩) rfl ⟨rfl,trivial⟩ (by rfl) rfl fun (L:Nat) hL=>?_
 refine XS_setl T ?_
 refine(gen ?_:E _ _ _ _ _ _)
 intro K₁ hK₁
 refine(E_ListM ?_:E _ _ _ _ _ _)
 iterate 7 refine(EL_int ?_:EL _ _ _ _ _ _ _)
 refine EL_nil ⟨by decide,fun (cl:Nat) hcl=>?_⟩
 have hLc:L<cl:=fcs_fresh hcl
 subst hK₁
 refine⟨_,_,_,fcs_gt' hLc,?_⟩
 have hcells:∀ {l:List PV}{m:Str→Option PV},fcs (σ.upd cl (.list l)) L m [] cl=some (.list l):=fun {l m}=>(fcs_gt hLc).trans (upd_same _ _ _)
 refine XS_cut (fun σ'=>∃ m xs,σ'=fcs (σ.upd cl (.list (intsL xs))) L m []∧xs.length=7∧m "cells"=some (.ref cl)) (X_For (q₀:=.rng 0 (script.length:Int)) T (inums 0 script.length) (fun _=>True) (fun i σ'=>∃ m xs,σ'=fcs (σ.upd cl (.list (intsL xs))) L m []∧xs.length=7∧m "cells"=some (.ref cl)∧m "script"=some (.lst (intsL script))) ?_ (fun _ _ _=>trivial) ?_ ?_) ?_
 ·refine E_Call [] (kp:=.machine) (E_tn T D.B (n:="range") (by simp) ?_)
  refine EL_cons (E_Call [] (kp:=.machine) (E_bn T D.B (n:="len") (by simp) ?_))
  refine EL_cons (E_l ?_)
  have hli:(intsL script).length=script.length:=by unfold intsL;rw[List.length_map]
  refine EL_nil (EK_nil ⟨KP_blt,C_len_lst (by exact Nat.le_of_lt (cC (Nat.le_of_eq hli) (cC hs (by decide)))) ?_⟩)
  rw[hli]
  exact EL_nil (EK_nil ⟨KP_typ,C_range1 T ⟨rfl,Itbl.rng0 (by exact Nat.le_trans (by assumption) (by decide)),_,[35,282,119,26,203,79,260841],rfl,rfl,rfl,rfl⟩⟩)
 ·intro i p σ' hp zz1;refine e2_4 zz1 ?_;clear zz1;intro m xs zz2 hxl hm1 hm2;subst zz2
  refine e0_2 (int_at hp) ?_;intro hi' zz1;subst zz1
  rw[show(0:Int)+(i:Nat)=((i:Nat):Int) by exact Int.zero_add _]
  refine AT_name (S_l T ?_)
  refine e1_1 (⟨script[i],List.getElem?_eq_getElem hi'⟩:∃ v,script[i]? = some v) ?_;intro v hv
  have hvs:(intsL script)[((i:Nat):Int).toNat]? = some (.int v):=by
   rw[Int.toNat_natCast];unfold intsL;rw[List.getElem?_map,hv];rfl
  have hj7:i%7<7:=Nat.mod_lt _ (by decide)
  refine e1_1 (⟨xs[i%7]'(by exact cB hj7 (Nat.le_of_eq hxl.symm)),List.getElem?_eq_getElem (by exact cB hj7 (Nat.le_of_eq hxl.symm))⟩:∃ u,xs[i%7]? = some u) ?_;intro u hu
  have hus:(intsL xs)[((i%7:Nat):Int).toNat]? = some (.int u):=by
   rw[Int.toNat_natCast];unfold intsL;rw[List.getElem?_map,hu];rfl
  refine gen fun K₁ hK₁=>?_
  refine XS_cons (X_AssignSub ?_)
  refine E_BinOp (E_Sub (E_l ?_ ((fset_ne (by decide)).trans hm1)))
  refine E_BinOp (E_l (E_int (mod_ii (by decide) ?_)))
  rw[show((i:Nat):Int)%7=((i%7:Nat):Int) by exact rfl]
  refine⟨Sbs.ref hcells,get_ref hcells (by exact Int.natCast_nonneg _) (by exact lec (Nat.le_of_lt (Nat.mod_lt _ (by decide))) (by decide)) hus ?_⟩
  refine E_Sub (E_l ?_ ((fset_ne (by decide)).trans hm2))
  refine E_l ?_
  refine⟨Sbs.lst,get_lst (by exact Int.natCast_nonneg _) (by exact lec (Nat.le_trans (Nat.le_of_lt hi') hs) (by decide)) hvs (add_ii ?_)⟩
  refine E_l ?_ ((fset_ne (by decide)).trans hm1)
  refine E_BinOp (E_l (E_int (mod_ii (by decide) ?_)))
  rw[show((i:Nat):Int)%7=((i%7:Nat):Int) by exact rfl]
  have hil:(intsL xs).length=7:=by unfold intsL;rw[List.length_map,hxl]
  refine set_ref T hcells (by exact Int.natCast_nonneg _) (by rw[hil];lia) (by exact lec (Nat.le_of_lt (Nat.mod_lt _ (by decide))) (by decide)) ?_
  rw[fcs_gt' hLc,upd_upd,Int.toNat_natCast]
  refine XS_nil ?_
  subst hK₁
  refine⟨fset m "i" (.int (i:Int)),xs.set (i%7) (u+v),?_,by rw[List.length_set];exact hxl,(fset_ne (by decide)).trans hm1,(fset_ne (by decide)).trans hm2⟩
  unfold intsL;rw[List.map_set]
 ·intro σ' zz1;refine e2_4 zz1 ?_;clear zz1;intro m xs zz2 hxl hm1 hm2;subst zz2
  exact XS_nil ⟨rfl,m,xs,rfl,hxl,hm1⟩
 intro _ zz1;refine e2_3 zz1 ?_;clear zz1;intro m xs zz2 hxl hm1;subst zz2
 have hil:(intsL xs).length=7:=by unfold intsL;rw[List.length_map,hxl]
 refine e1_1 (⟨_,rfl⟩:∃ d:Dr,d=xs.map fun x=>(x%1000000).toNat) ?_;intro d hd
 have hdok:DrOK d:=by
  subst hd
  refine⟨by rw[List.length_map,hxl],fun c hc=>?_⟩
  refine e1_2 (List.mem_map.mp hc) ?_;intro x _ zz1;subst zz1
  exact(Int.toNat_lt (Int.emod_nonneg _ (by decide))).mpr (Int.emod_lt_of_pos _ (by decide))
 have hdm:(intsL xs).map vM6=natsL d:=by
  subst hd
  unfold intsL natsL
  rw[List.map_map,List.map_map]
  refine List.map_congr_left fun x _=>?_
  show PV.int (x%1000000)=PV.int (((x%1000000).toNat:Nat):Int)
  rw[Int.toNat_of_nonneg (by lia)]
 refine XS_Makes T (intsL xs) (fun σ=>σ cl=some (.list (intsL xs))) (natsL d) (E_l ?_ hm1)
 refine⟨_,_,_,rfl,Itbl.ref,hcells,Makes1 T (fun _=>true) vM6 (by rw[fmap_true,hdm]) (by rw[hil];decide) (fun D' L' e1 e2 acc m=>ins_old e1 e2 hcells) (fun D' L' e1 e2=>⟨fun p hp acc m=>CI_nil ⟨rfl,rfl⟩,fun p hp _ acc m=>?_⟩),?_⟩
 ·refine e1_2 (List.mem_map.mp hp) ?_;intro v _ zz1;subst zz1
  refine E_BinOp (E_m ?_ (fset_same _ _ _))
  refine(E_BinOp ?_:E _ _ _ _ _ _)
  refine(E_int ?_:E _ _ _ _ _ _)
  refine(E_int ?_:E _ _ _ _ _ _)
  refine pow_ii (by decide) (by decide) ?_
  exact mod_ii (by decide) ⟨rfl,rfl⟩
 clear hd hdm hm1 hil hcells hxl hcl
 have hfin:=h d hdok
 clear h
 generalize hτ:σ.upd cl (.list (intsL xs))=τ
 have hτr:res L τ=σ:=by rw[← hτ,res_upd_ge (show L≤cl by exact Nat.le_of_lt hLc),res_fresh hL]
 have hτn:∀ b:Nat,cl<b→τ b=none:=fun b hb=>by
  rw[← hτ,upd_ne (show b≠cl by exact Nat.ne_of_gt (by assumption))]
  exact hL b (show L≤b by exact Nat.le_of_lt (cA hLc hb))
 have hτc:τ cl≠none:=by rw[← hτ,upd_same];simp
 clear hτ
 have hdl:(natsL d).length=7:=by unfold natsL;rw[List.length_map,hdok.len]
 refine XS_Makes T (natsL (d.take 6)) (fun _=>True) (natsL (szs d)) (E_SliceL T (E_l ?_ (fset_same _ _ _)))
 refine EP_none (EP_some (E_int ⟨_,rfl,rfl,_,.inl rfl,by rw[hdl];decide,?_⟩))
 rw[show(6:Int)=((6:Nat):Int) from rfl,slc_to,show(natsL d).take 6=natsL (d.take 6) by unfold natsL;rw[List.map_take]]
 refine⟨_,_,_,rfl,Itbl.lst,trivial,Makes1 T (fun _=>true) vSz ?_ (by unfold natsL;rw[List.length_map,List.length_take,hdok.len];decide) (fun _ _ _ _ _ _=>trivial) (fun D' L' e1 e2=>⟨fun p hp acc m=>CI_nil ⟨rfl,rfl⟩,fun p hp _ acc m=>?_⟩),?_⟩
 ·rw[fmap_true];unfold natsL szs;rw[List.map_map,List.map_map]
  refine List.map_congr_left fun x _=>?_
  show PV.int (1+(x:Int)%7)=PV.int (((1+x%7:Nat)):Int)
  rw[show(1:Int)+(x:Int)%7=(((1+x%7:Nat)):Int) by exact rfl]
 ·refine e1_2 (List.mem_map.mp hp) ?_;intro v _ zz1;subst zz1
  refine E_BinOp (E_int (E_BinOp (E_m ?_ (fset_same _ _ _))))
  exact E_int (mod_ii (by decide) (add_ii ⟨rfl,rfl⟩))
 refine XS_cons (X_AssignSwap T ["typed","pairs","whole"] (?_:E _ _ _ _ _ _))
 refine(E_Tuple ?_:E _ _ _ _ _ _)
 refine(EL_cons' ?_ ?_:EL _ _ _ _ _ _ _)
 ·rfl
 refine(E_ListM ?_:E _ _ _ _ _ _)
 refine EL_nil ⟨by simp,fun (tl:Nat) htl=>?_⟩
 have hLt:L<tl:=fcs_fresh htl
 have hct:cl<tl:=by
  rcases Nat.lt_or_ge cl tl with q |q
  ·exact q
  ·have:=htl cl q
   rw[fcs_gt (show L<cl from hLc)] at this
   exact absurd this hτc
 rw[fcs_gt' hLt]
 refine(EL_cons' ?_ ?_:EL _ _ _ _ _ _ _)
 ·rfl
 refine(E_ListM ?_:E _ _ _ _ _ _)
 refine EL_nil ⟨by simp,fun (pl:Nat) hpl=>?_⟩
 have hLp:L<pl:=fcs_fresh hpl
 have htp:tl<pl:=by
  rcases Nat.lt_or_ge tl pl with q |q
  ·exact q
  ·have:=hpl tl q
   rw[fcs_gt hLt,upd_same] at this
   cases this
 rw[fcs_gt' hLp]
 refine(EL_strL [] ?_ ?_:EL _ _ _ _ _ _ _)
 ·decide +kernel
 refine EL_nil ⟨by simp,_,rfl,rfl,?_⟩
 refine S_l T (S_l T (S_l T ?_))
 have hne:tl≠pl:=Nat.ne_of_lt htp
 have ht2:∀ {l l':List PV}{m:Str→Option PV},fcs ((τ.upd tl (.list l)).upd pl (.list l')) L m [] tl=some (.list l):=fun {l l' m}=>(fcs_gt hLt).trans ((upd_ne hne).trans (upd_same _ _ _))
 have hp2:∀ {l l':List PV}{m:Str→Option PV},fcs ((τ.upd tl (.list l)).upd pl (.list l')) L m [] pl=some (.list l'):=fun {l l' m}=>(fcs_gt hLp).trans (upd_same _ _ _)
 have hzl:∀ i,(stsL (typsTo d i)).length=i:=fun i=>by unfold stsL typsTo;rw[List.length_map,List.length_map,List.length_range]
 have hzp:∀ i,(pairsTo d i).length=i:=fun i=>by unfold pairsTo;rw[List.length_map,List.length_range]
 have h6:=cel6_get hdok
 have hsl:=szs_len hdok
 refine XS_cut (fun σ'=>∃ m,σ'=fcs ((τ.upd tl (.list (stsL (typsTo d 7)))).upd pl (.list (pairsTo d 7))) L m []∧m "typed"=some (.ref tl)∧m "pairs"=some (.ref pl)∧m "whole"=some (.str (wholeTo d 7))∧m "cells"=some (.lst (natsL d))∧m "sizes"=some (.lst (natsL (szs d))))
  (X_For (q₀:=.rng 0 7) T (inums 0 7) (fun _=>True) (fun i σ'=>∃ m,σ'=fcs ((τ.upd tl (.list (stsL (typsTo d i)))).upd pl (.list (pairsTo d i))) L m []∧m "typed"=some (.ref tl)∧m "pairs"=some (.ref pl)∧m "whole"=some (.str (wholeTo d i))∧m "cells"=some (.lst (natsL d))∧m "sizes"=some (.lst (natsL (szs d)))∧i≤7) ?_ (fun _ _ _=>trivial) ?_ ?_) ?_
 ·refine E_Call [] (kp:=.machine) (E_tn T D.B (n:="range") (by simp) ?_)
  exact EL_cons (E_int (EL_nil (EK_nil ⟨KP_typ,C_range1 T ⟨rfl,Itbl.rng0 (n:=7) (by decide),_,rfl,rfl,rfl,rfl,rfl,rfl,Nat.zero_le _⟩⟩)))
 ·intro i p σ' hp zz1;refine e1_7 zz1 ?_;clear zz1;intro m zz2 hm1 hm2 hm3 hm4 hm5 hi;subst zz2
  refine e0_2 (int_at hp) ?_;intro hi' zz1;subst zz1
  rw[show(0:Int)+(i:Nat)=((i:Nat):Int) by exact Int.zero_add _]
  refine AT_name (S_l T ?_)
  refine gen fun K₁ hK₁=>?_
  refine e0_3 (szk_get hdok hi') ?_;intro hz1 hz2 hz3
  refine e0_2 (celk_get hdok hi') ?_;intro hc1 hc2
  have htl':=typD_len hdok hi'
  have hsl':=shoD_len hdok hi'
  have hwl:=wholeTo_len hdok i hi
  have hwr:=wriD_len hdok hi'
  refine XS_setl T (E_Sub' ?_ ?_:E _ _ _ _ _ _)
  ·intro _ _;rfl
  refine E_strL strT ?_
  refine E_BinOp (E_BinOp (E_Sub (E_l ?_ ((fset_ne (by decide)).trans hm4))))
  refine E_int ⟨Sbs.lst,get_lst (by decide) (by decide) (natsL_get (i:=6) h6.1) ?_⟩
  refine E_l ?_
  refine add_ii (E_int (mod_ii (by decide) ?_))
  rw[show((cel d 6:Nat):Int)+(i:Nat)=((cel d 6+i:Nat):Int) by exact rfl,show(((cel d 6+i:Nat):Int))%7=(((cel d 6+i)%7:Nat):Int) by exact rfl]
  have hs7:(cel d 6+i)%7<strT.length:=Nat.mod_lt _ (by decide)
  refine⟨Sbs.str,get_str (c:=strg d i) (by exact Int.natCast_nonneg _) (by exact lec (Nat.le_of_lt (Nat.mod_lt _ (by decide))) (by decide)) (by rw[Int.toNat_natCast];unfold strg;rw[List.getD_eq_getElem?_getD,List.getElem?_eq_getElem hs7];rfl) ⟨_,_,_,rfl,?_⟩⟩
  refine XS_cons (X_AssignTup (E_Call [] (kp:=.frame) (E_gl T Gt ?_)))
  refine EL_cons (E_Sub (E_BinOp (E_l ?_ ((fset_ne (by decide)).trans ((fset_ne (by decide)).trans hm5)))))
  refine E_l ?_ ((fset_ne (by decide)).trans ((fset_ne (by decide)).trans hm5))
  refine add_ll T (by unfold natsL;rw[List.length_map,hsl];decide) (E_l ?_ ((fset_ne (by decide)).trans (fset_same _ _ _)))
  rw[natsL_app]
  refine⟨Sbs.lst,get_lst (by exact Int.natCast_nonneg _) (by exact ltc hi' (by decide)) (natsL_get hz1) ?_⟩
  refine EL_cons (E_BinOp (E_BinOp (E_Sub (E_BinOp (E_SliceL T (E_l ?_ ((fset_ne (by decide)).trans ((fset_ne (by decide)).trans hm4))))))))
  refine EP_none (EP_some (E_int ⟨_,rfl,rfl,_,.inl rfl,by rw[hdl];decide,?_⟩))
  rw[slc_to,show(natsL d).take 6=natsL (d.take 6) by unfold natsL;rw[List.map_take]]
  refine E_l ?_ ((fset_ne (by decide)).trans ((fset_ne (by decide)).trans hm4))
  refine add_ll T (by unfold natsL;rw[List.length_map,List.length_map,List.length_take,hdok.len];decide) (E_l ?_ ((fset_ne (by decide)).trans (fset_same _ _ _)))
  rw[natsL_app]
  refine⟨Sbs.lst,get_lst (by exact Int.natCast_nonneg _) (by exact ltc hi' (by decide)) (natsL_get hc1) ?_⟩
  refine E_int (div_ii (by decide) (by decide) (E_BinOp (E_int (E_l ?_ ((fset_ne (by decide)).trans (fset_same _ _ _))))))
  refine mul_ii ?_ (.of_left (intBits_le_64 (by decide) (by decide)))
  refine add_ii ?_
  rw[show((celk d i:Nat):Int)/7+3*(i:Nat)=((celk d i/7+3*i:Nat):Int) by exact rfl]
  refine EL_nil (EK_nil ⟨FnC.kp Ft,(law_typed_C (k:=k) D Ft (by exact Nat.le_of_lt (cC hz3 (by decide))) ?_).call⟩)
  refine AT_tup T rfl ?_
  refine AT_name (S_l T ?_)
  refine AT_name (S_l T ?_)
  have m5:∀ {X:PySem.Str}{u v z q:PV},X≠"k"→X≠"strange"→X≠"word"→X≠"shown"→(fset (fset (fset (fset m "k" u) "strange" v) "word" z) "shown" q) X=m X:=fun {X u v z q} a b c e=>by rw[fset_ne e,fset_ne c,fset_ne b,fset_ne a]
  have mk:∀ {u v z q:PV},(fset (fset (fset (fset m "k" u) "strange" v) "word" z) "shown" q) "k"=some u:=fun {u v z q}=>(fset_ne (by decide)).trans ((fset_ne (by decide)).trans ((fset_ne (by decide)).trans (fset_same _ _ _)))
  have ms:∀ {u v z q:PV},(fset (fset (fset (fset m "k" u) "strange" v) "word" z) "shown" q) "strange"=some v:=fun {u v z q}=>(fset_ne (by decide)).trans ((fset_ne (by decide)).trans (fset_same _ _ _))
  have mw:∀ {u v z q:PV},(fset (fset (fset (fset m "k" u) "strange" v) "word" z) "shown" q) "word"=some z:=fun {u v z q}=>(fset_ne (by decide)).trans (fset_same _ _ _)
  have hm1':=(m5 (X:="typed") (u:=.int (i:Int)) (v:=.str [strg d i]) (z:=.str (typS (szk d i) (celk d i/7+3*i) (szk d i)).1) (q:=.str (typS (szk d i) (celk d i/7+3*i) (szk d i)).2.1) (by decide) (by decide) (by decide) (by decide)).trans hm1
  have hm2':=(m5 (X:="pairs") (u:=.int (i:Int)) (v:=.str [strg d i]) (z:=.str (typS (szk d i) (celk d i/7+3*i) (szk d i)).1) (q:=.str (typS (szk d i) (celk d i/7+3*i) (szk d i)).2.1) (by decide) (by decide) (by decide) (by decide)).trans hm2
  have hm3':=(m5 (X:="whole") (u:=.int (i:Int)) (v:=.str [strg d i]) (z:=.str (typS (szk d i) (celk d i/7+3*i) (szk d i)).1) (q:=.str (typS (szk d i) (celk d i/7+3*i) (szk d i)).2.1) (by decide) (by decide) (by decide) (by decide)).trans hm3
  have hm4':=(m5 (X:="cells") (u:=.int (i:Int)) (v:=.str [strg d i]) (z:=.str (typS (szk d i) (celk d i/7+3*i) (szk d i)).1) (q:=.str (typS (szk d i) (celk d i/7+3*i) (szk d i)).2.1) (by decide) (by decide) (by decide) (by decide)).trans hm4
  have hm5':=(m5 (X:="sizes") (u:=.int (i:Int)) (v:=.str [strg d i]) (z:=.str (typS (szk d i) (celk d i/7+3*i) (szk d i)).1) (q:=.str (typS (szk d i) (celk d i/7+3*i) (szk d i)).2.1) (by decide) (by decide) (by decide) (by decide)).trans hm5
  have hk':=mk (u:=.int (i:Int)) (v:=.str [strg d i]) (z:=.str (typS (szk d i) (celk d i/7+3*i) (szk d i)).1) (q:=.str (typS (szk d i) (celk d i/7+3*i) (szk d i)).2.1)
  have hs':=ms (u:=.int (i:Int)) (v:=.str [strg d i]) (z:=.str (typS (szk d i) (celk d i/7+3*i) (szk d i)).1) (q:=.str (typS (szk d i) (celk d i/7+3*i) (szk d i)).2.1)
  have hw':=mw (u:=.int (i:Int)) (v:=.str [strg d i]) (z:=.str (typS (szk d i) (celk d i/7+3*i) (szk d i)).1) (q:=.str (typS (szk d i) (celk d i/7+3*i) (szk d i)).2.1)
  have hsh':(fset (fset (fset (fset m "k" (.int (i:Int))) "strange" (.str [strg d i])) "word" (.str (typS (szk d i) (celk d i/7+3*i) (szk d i)).1)) "shown" (.str (typS (szk d i) (celk d i/7+3*i) (szk d i)).2.1)) "shown"=some (.str (typS (szk d i) (celk d i/7+3*i) (szk d i)).2.1):=fset_same _ _ _
  clear hm1 hm2 hm3 hm4 hm5 m5 mk ms mw
  have etyp:(typS (szk d i) (celk d i/7+3*i) (szk d i)).1++[strg d i]=typD d i:=rfl
  have esho:(typS (szk d i) (celk d i/7+3*i) (szk d i)).2.1++[strg d i]=shoD d i:=rfl
  have ltyp:(typS (szk d i) (celk d i/7+3*i) (szk d i)).1.length+1=(typD d i).length:=by rw[← etyp];simp
  have lsho:(typS (szk d i) (celk d i/7+3*i) (szk d i)).2.1.length+1=(shoD d i).length:=by rw[← esho];simp
  generalize (typS (szk d i) (celk d i/7+3*i) (szk d i)).1=tw at *
  generalize (typS (szk d i) (celk d i/7+3*i) (szk d i)).2.1=sw at *
  refine(?_:XS W _ _ _ (fcs ((τ.upd tl (.list (stsL (typsTo d i)))).upd pl (.list (pairsTo d i))) L (fset (fset (fset (fset m "k" (.int (i:Int))) "strange" (.str [strg d i])) "word" (.str tw)) "shown" (.str sw)) []) _)
  generalize fset (fset (fset (fset m "k" (.int (i:Int))) "strange" (.str [strg d i])) "word" (.str tw)) "shown" (.str sw)=m' at *
  refine XS_expr (E_Meth [] (kp:=.machine) (E_l ?_ hm1'))
  refine GM_ref ht2 PySem.F.slot_list_append PySem.F.type_list_append ?_
  refine EL_cons (E_BinOp (E_l ?_ hw'))
  refine E_l ?_ hs'
  refine add_ss (by simp;exact Nat.le_of_lt (cA (Nat.lt_add_of_pos_right (by decide)) (cC (Nat.le_of_eq ltyp) (cC htl' (by decide))))) ?_
  rw[etyp]
  refine EL_nil (EK_nil ⟨KP_blt,C_append T ht2 (by rw[hzl];exact Nat.le_of_lt (cA hi' (by decide))) ⟨rfl,?_⟩⟩)
  rw[fcs_gt' hLt,upd_comm hne,upd_upd,show stsL (typsTo d i)++[PV.str (typD d i)]=stsL (typsTo d (i+1)) by rw[typsTo_succ];unfold stsL;rw[List.map_append];rfl,upd_comm hne.symm]
  refine XS_expr (E_Meth [] (kp:=.machine) (E_l ?_ hm2'))
  refine GM_ref hp2 PySem.F.slot_list_append PySem.F.type_list_append ?_
  refine EL_cons (E_Tuple ?_)
  refine EL_cons (E_BinOp (E_l ?_ hsh'))
  refine E_l ?_ hs'
  refine add_ss (by simp;exact Nat.le_of_lt (cA (Nat.lt_add_of_pos_right (by decide)) (cC (Nat.le_of_eq lsho) (cC hsl' (by decide))))) ?_
  rw[esho]
  refine EL_cons (E_BinOp (E_BinOp ?_))
  refine E_strL [115] ?_
  refine E_Sub (E_BinOp (E_l ?_ hm5'))
  refine E_l ?_ hm5'
  refine add_ll T (by unfold natsL;rw[List.length_map,hsl];decide) (E_l ?_ hk')
  rw[natsL_app]
  refine⟨Sbs.lst,get_lst (by exact Int.natCast_nonneg _) (by exact ltc hi' (by decide)) (natsL_get hz1) ?_⟩
  refine mul_si (by exact Nat.le_of_lt (cC hz3 (by decide))) (E_l ?_ hs')
  refine add_ss (by simp;exact Nat.le_of_lt (cC hz3 (by decide))) ?_
  refine EL_nil ⟨by simp,EL_nil (EK_nil ⟨KP_blt,C_append T hp2 (by rw[hzp];exact Nat.le_of_lt (cA hi' (by decide))) ⟨rfl,?_⟩⟩)⟩
  rw[fcs_gt' hLp,upd_upd,show pairsTo d i++[PV.tup [.str (shoD d i),.str (List.replicate (szk d i) 115++[strg d i])]]=pairsTo d (i+1) by rw[pairsTo_succ];rfl]
  refine XS_setl T (E_BinOp (E_l ?_ hm3'))
  refine E_Call [] (kp:=.frame) (E_gl T Gw ?_)
  refine EL_cons (E_Sub (E_l ?_ hm1'))
  refine E_l ?_ hk'
  refine⟨Sbs.ref ht2,get_ref (p:=.str (typD d i)) ht2 (by exact Int.natCast_nonneg _) (by exact ltc hi' (by decide)) ?_ ?_⟩
  ·rw[Int.toNat_natCast]
   unfold stsL typsTo
   rw[List.getElem?_map,List.getElem?_map,List.getElem?_range (by exact Nat.lt_add_of_pos_right (by decide))];rfl
  refine EL_cons (E_BinOp (E_BinOp (E_BinOp (E_Sub (E_l ?_ hm4')))))
  refine E_int ⟨Sbs.lst,get_lst (by decide) (by decide) (natsL_get (i:=6) h6.1) ?_⟩
  refine E_int (div_ii (by decide) (by decide) ?_)
  refine(E_BinOp ?_:E _ _ _ _ _ _)
  refine(E_int ?_:E _ _ _ _ _ _)
  refine E_l ?_ hk'
  have hi4:(Builtin.Int.intBits 4:Int)=3:=by decide +kernel
  have h27:(2:Int)^27=134217728:=by decide
  refine pow_ii (by exact Int.natCast_nonneg _) (by rw[hi4,h27];lia) ?_
  rw[Int.toNat_natCast]
  have hp4:(4:Int)^i=((4^i:Nat):Int):=by simp
  have hp5:(4:Nat)^i≤16384:=Nat.le_trans (Nat.pow_le_pow_right (by decide) (show i≤7 by assumption)) (by decide)
  have hp6:0<(4:Nat)^i:=Nat.pow_pos (by decide)
  rw[hp4]
  refine div_ii (by lia) (by exact lec hp5 (by decide)) (E_int (mod_ii (by decide) ?_))
  rw[show((cel d 6:Nat):Int)/18/((4^i:Nat):Int)%4=((wayD d i:Nat):Int) by unfold wayD;push_cast;rfl]
  refine(EL_cons' ?_ ?_:EL _ _ _ _ _ _ _)
  ·rfl
  refine(E_Sub' ?_ ?_:E _ _ _ _ _ _)
  ·intro _ _;rfl
  refine E_strL whiT ?_
  refine E_BinOp (E_BinOp (E_Sub (E_l ?_ hm4')))
  refine E_int ⟨Sbs.lst,get_lst (by decide) (by decide) (natsL_get (i:=6) h6.1) ?_⟩
  refine E_l ?_ hk'
  refine add_ii (E_int (mod_ii (by decide) ?_))
  rw[show((cel d 6:Nat):Int)+(i:Nat)=((cel d 6+i:Nat):Int) by exact rfl,show(((cel d 6+i:Nat):Int))%4=(((cel d 6+i)%4:Nat):Int) by exact rfl]
  have h4:(cel d 6+i)%4<whiT.length:=Nat.mod_lt _ (by decide)
  refine⟨Sbs.str,get_str (c:=whiT.getD ((cel d 6+i)%4) 0) (by exact Int.natCast_nonneg _) (by exact lec (Nat.le_of_lt (Nat.mod_lt _ (by decide))) (by decide)) (by rw[Int.toNat_natCast,List.getD_eq_getElem?_getD,List.getElem?_eq_getElem h4];rfl) ?_⟩
  refine EL_nil (EK_nil ⟨FnC.kp Fw,(law_written_C (k:=k) D Fw (by exact Nat.le_of_lt (cC htl' (by decide))) (Nat.mod_lt _ (by decide)) (by simp) ?_).call⟩)
  refine add_ss (by show _+(wriD d i).length≤_;exact Nat.le_trans (Nat.add_le_add (Nat.le_trans hwl (Nat.mul_le_mul_left _ (Nat.le_of_lt hi'))) hwr) (by decide)) ⟨_,_,_,rfl,XS_nil ?_⟩
  subst hK₁
  refine⟨fset m' "whole" (.str (wholeTo d i++wriD d i)),rfl,(fset_ne (by decide)).trans hm1',(fset_ne (by decide)).trans hm2',?_,(fset_ne (by decide)).trans hm4',(fset_ne (by decide)).trans hm5',hi'⟩
  rw[fset_same,wholeTo_succ]
 ·intro σ' zz1;refine e1_7 zz1 ?_;clear zz1;intro m zz2 hm1 hm2 hm3 hm4 hm5 hi;subst zz2
  rw[inums_len] at hm3
  exact XS_nil ⟨rfl,m,rfl,hm1,hm2,hm3,hm4,hm5⟩
 intro _ zz1;refine e1_6 zz1 ?_;clear zz1;intro m zz2 hm1 hm2 hm3 hm4 hm5;subst zz2
 refine XS_ret (E_Tuple ?_)
 refine EL_cons (E_l ?_ hm5)
 refine EL_cons (E_freeze (E_l ⟨tl,_,rfl,ht2,?_⟩ hm1))
 rw[fcs_del hLt]
 have e1:((τ.upd tl (.list (stsL (typsTo d 7)))).upd pl (.list (pairsTo d 7))).del tl=τ.upd pl (.list (pairsTo d 7)):=by
  rw[upd_comm hne];exact upd_del ((upd_ne hne).trans (hτn tl hct))
 rw[e1]
 refine EL_cons (E_freeze (E_l ⟨pl,_,rfl,(fcs_gt hLp).trans (upd_same _ _ _),?_⟩ hm2))
 rw[fcs_del hLp,upd_del (hτn pl (Nat.lt_trans hct htp))]
 have hw7:=wholeTo_len hdok 7 (by decide)
 refine EL_cons (E_SliceStr T (E_l ?_ hm3))
 refine EP_none (EP_some (E_USub (E_int ⟨rfl,_,rfl,_,rfl,by exact Nat.le_trans (Nat.le_trans hw7 (Nat.mul_le_mul_left _ (Nat.le_refl _))) (by decide),?_⟩)))
 rw[slc_init]
 refine EL_cons (E_BinOp (E_Sub (E_l ?_ hm4)))
 refine E_int ⟨Sbs.lst,get_lst (by decide) (by decide) (natsL_get (i:=6) h6.1) ?_⟩
 refine E_int (mod_ii (by decide) ?_)
 rw[show((cel d 6:Nat):Int)%18=((cel d 6%18:Nat):Int) by exact rfl]
 refine EL_nil ⟨by simp,?_⟩
 show K _ _
 rw[fcs_resr,hτr]
 exact hfin
end
theorem drels_vals {prog:Program}{w:World}{F:FM}{hs:PySem.Str→Int} (hh:hs=hashStr w):∀ {l:List (PySem.Str×PV)}{es:List DictEntry},DRels F hs l es→∃ kvs:List (PySem.Str×Value),kvs.map (·.1)=l.map (·.1)∧(∀ e∈es,∃ k,(PySem.strKind prog w).is k e.key=true∧e.hash=(PySem.strKind prog w).hash k) ∧
  Pairs (PySem.strKind prog w) es kvs∧∀ (i:Nat) x p,l[i]? = some (x,p)→∃ v,kvs[i]? = some (x,v)∧VRel F p v
 |[],es,h=>by
  obtain rfl:es=[]:=h
  exact⟨[],rfl,fun e he=>(by cases he),.nil,fun i x p hp=>by simp at hp⟩
 |(x,p)::l,es,h=>by
  refine e3_3 h ?_;try clear h;intro t v r zz1 hv hr;subst zz1
  refine e1_4 (drels_vals (prog:=prog) hh hr) ?_;intro kvs h1 h2 h3 h4
  have hi:(PySem.strKind prog w).is x (.str x t)=true:=by show(x==x)=true;simp
  refine⟨(x,v)::kvs,by simp[h1],fun e he=>?_,.cons hi rfl h3,fun i y q hp=>?_⟩
  ·rcases List.mem_cons.mp he with rfl |he
   ·exact⟨x,hi,by rw[hh];rfl⟩
   ·exact h2 e he
  ·cases i with
   |zero=>cases hp;exact⟨v,rfl,hv⟩
   |succ i=>exact h4 i y q hp
section
variable {W:Wd}{k:Nat}{σ:Sig}{env:Env}{P:FM→Prop}{x y z:List Nat}
theorem C_items (T:Top W){hs:PySem.Str→Int}{l:List (PySem.Str×PV)}{K:PV→Sig→Prop} (hh:hs=hashStr W.w) (nd:(l.map (·.1)).Nodup) (h:K (.dit hs l) σ):C W k (.blt "dict.items") [.dct hs l] [] [] σ K:=C1 fun v va=>.grow T h fun A hA s S hpat Q q=>by
 obtain ⟨e,a,es,n,e1,f,z,r⟩:=hpat
 obtain rfl:v=.builtin "dict.items":=e
 subst e1
 refine e1_4 (drels_vals (prog:=W.prog) hh r) ?_;intro kvs h1 h2 h3 h4
 have hD:s.heap.DictAt (PySem.strKind W.prog W.w) a kvs n:=⟨_,es,f.2.1,⟨rfl,rfl,rfl⟩,rfl,fun e he=>h2 e (Array.mem_toList_iff.mpr he),h3,by rw[h1];exact nd⟩
 refine call_meetsIn PySem.F.slot_dict_items ⟨_,f.2.1,rfl⟩ PySem.F.entry_dict_items (PySem.F.args_dict_items_1 _) (meets_dict_items (PySem.strKind W.prog W.w) a z) ⟨⟨_,hD.dictOf⟩,q _ _ s.toks sle_push ?_⟩
 have k1:=fle_grow (σ:=σ) (sle_push (h:=s.heap) (o:={ cls:=.type "dict_items",data:=.fields #[.ref a] }))
 exact⟨_,a,es,n,rfl,fz_new S (by intro z;cases z),k1 _ _ f,z,DRels.mono2 (fun a o _ x=>k1 a o x) r⟩
noncomputable def dpairs (l:List (PySem.Str×PV)):List PV:=l.map fun e=>.tup [.str e.1.cps.toList,e.2]
theorem Itbl.dit {hs:PySem.Str→Int}{l:List (PySem.Str×PV)} (hh:hs=hashStr W.w) (nd:(l.map (·.1)).Nodup):Itbl W (.dit hs l) (dpairs l) (fun _=>True) true:=fun A hA σ s S _ v hv Q E q=>by
 refine e4_5 hv ?_;try clear hv;intro r a es n zz1 f g z d;subst zz1
 have dAt:∀ {σ:Sig}{h:Heap},Fz σ h a ⟨.type "dict",Option.none,.dict es n,#[]⟩→DRels (Fz σ h) hs l es.toList→∃ kvs:List (PySem.Str×Value),h.DictAt (PySem.strKind W.prog W.w) a kvs n∧kvs.length=l.length∧∀ (i:Nat) x p,l[i]? = some (x,p)→∃ v,kvs[i]? = some (x,v)∧VRel (Fz σ h) p v:=fun {σ h} f r=>by
  refine e1_4 (drels_vals (prog:=W.prog) hh r) ?_;intro kvs h1 h2 h3 h4
  exact⟨kvs,⟨_,es,f.2.1,⟨rfl,rfl,rfl⟩,rfl,fun e he=>h2 e (Array.mem_toList_iff.mpr he),h3,by rw[h1];exact nd⟩,by have:=congrArg List.length h1;simpa using this,h4⟩
 refine e1_3 (dAt g d) ?_;intro kvs hD hlen _
 refine wpAny_pyIter_items ⟨_,f.2.1,rfl,rfl⟩ hD ?_
 rw[hlen]
 refine q _ (fun F=>F a ⟨.type "dict",Option.none,.dict es n,#[]⟩∧DRels F hs l es.toList) (fun i h=>∃ ok ov,IsItemIter h s.heap.objs.size a i l.length n ok ov) (fun i v h=>∃ T ok ov,v=.ref T∧IsItemIterOut h s.heap.objs.size a i l.length n ok ov T) rfl ?_ ⟨_,_,Heap.get?_push_size _ rfl⟩ ⟨g,d⟩
 exact {
  kind:=fun hpat c hc=>by
   obtain rfl:=List.mem_singleton.mp hc
   refine e2_1 hpat ?_;try clear hpat;intro ok ov ho
   exact⟨_,ho,rfl⟩
  kindM:=fun hpat c hc=>by
   obtain rfl:=List.mem_singleton.mp hc
   refine e3_2 hpat ?_;try clear hpat;intro T ok ov _ ho
   exact⟨_,ho,rfl⟩
  keep:=fun hpat e=>by
   refine e2_1 hpat ?_;try clear hpat;intro ok ov ho
   exact⟨ok,ov,(e _ (List.mem_singleton.mpr rfl)).trans ho⟩
  held:=fun _ c hc=>by cases hc
  mono:=fun m hpat=>⟨m _ _ rfl hpat.1,DRels.mono2 m hpat.2⟩
  item:=fun {i p} hp A hA σ s' S' _ hpat hat Q E q=>by
   refine e2_1 hat ?_;try clear hat;intro ok ov hat
   refine e1_3 (dAt hpat.1 hpat.2) ?_;intro kvs hD hlen h4
   refine e1_2 (by
    unfold dpairs at hp
    rw[List.getElem?_map] at hp
    cases he:l[i]? with
    |none=>rw[he] at hp;cases hp
    |some xp=>rw[he] at hp;exact⟨xp,rfl,Option.some.inj hp⟩:∃ xp,l[i]? = some xp∧PV.tup [.str xp.1.cps.toList,xp.2]=p) ?_;intro xp hx zz1;subst zz1
   refine e1_2 (h4 i xp.1 xp.2 hx) ?_;intro v hv rv
   rw[← hlen] at hat
   refine wpAny_pyNext_items_item hat hD hv fun key h' g1 g2 g3 g4 g5=>?_
   rw[hlen] at g2
   refine e1_1 (Value.isStrOf_shape g1) ?_;intro t zz1;subst zz1
   have hx:ExtW [s.heap.objs.size] [] s'.heap h':=.one g5
   have Fi:FLi (Fz σ s'.heap) (Fz σ h'):=fz_ext g5 hat rfl
   refine q _ h' s'.toks ⟨_,_,_,rfl,g2⟩ hx (fun c hc=>by cases hc) ?_
   refine⟨s'.heap.objs.size,#[.str xp.1 t,v],0,rfl,⟨S'.fresh _ (Nat.le_refl _),g3,by intro z;cases z⟩,⟨_,_,rfl,⟨t,?_⟩,v,_,rfl,rv.mono2 Fi,rfl⟩⟩
   rw[Array.toArray_toList]
  done:=fun A hA σ s' S' _ hpat hat Q E q=>by
   refine e2_1 hat ?_;try clear hat;intro ok ov hat
   refine e1_3 (dAt hpat.1 hpat.2) ?_;intro kvs hD hlen h4
   have hdl:(dpairs l).length=l.length:=List.length_map _
   rw[← hlen] at hat
   refine wpAny_pyNext_items_end hA hat hD (by rw[hdl,← hlen];simp) fun h' hx=>q h' s'.toks (.one hx) fun c hc=>by cases hc
  self:=fun A s' hpat Q E q=>by
   refine e2_1 hpat ?_;try clear hpat;intro ok ov hat
   refine wpAny_pyIter_slot ⟨_,hat,rfl⟩ PySem.F.slot_dict_itemiterator_iter (wpAny_call_entry PySem.F.slot_dict_itemiterator_iter ⟨_,hat,rfl⟩ dit_entry_iter ?_ (PySem.F.args_dict_itemiterator_iter_1 _))
   exact wpAny_pure ⟨_,rfl,"dict_itemiterator",_,⟨_,hat,rfl⟩,PySem.F.slot_dict_itemiterator_next.lookup,q⟩
  own:=fun t A s' v ht hmid Q E q=>by
   refine e3_2 hmid ?_;try clear hmid;intro T ok ov zz1 hat;subst zz1
   cases t with
   |Tuple elts n pos =>
    exact wpAny_letOwnedTupleGo_items hat fun h' g1 g2=>q h' ⟨_,_,g1⟩ fun c o q1 _ e=>g2.extBut c o (fun w=>q1 (by simp[w])) e
   |_=>exact absurd (ht rfl) Bool.false_ne_true }
theorem nsSet_push {A:Around}{E:Value→Shared→Prop}{s:Shared}{d:Addr}{es:Array DictEntry}{ep:Nat}{name:PySem.Str}{v:Value}{Q:Unit→Shared→Prop} (hD:s.heap.get? d=some (dObj es ep)) (hk:StrKeys es) (hi:es.findIdx? (·.key.isStr name)=none)
  (h:∀ h' t,h'.get? d=some (dObj (es.push ⟨hashStr W.w name,.str name t,v⟩) (ep+1))→Heap.SameBut d s.heap h'→Q () { s with heap:=h',toks:=s.toks+1 }):wpAny (model W.prog W.w) A (nsSet d name v) Q E s:=by
 unfold nsSet strHash
 refine wpAny_bind (wpAny_bind (wpAny_askSetting (wpAny_pure (wpAny_bind (wpAny_mkText (wpAny_bind (wpAny_loadPart hD ?_)))))))
 have hany:=strKeys_noRef hk
 simp only[aRefKeyMayBeTheName_eq,aRefKeyMayBeTheNameByArray,hany,Bool.and_false,Bool.false_eq_true,if_false]
 refine wpAny_updatePart hD ?_
 refine h _ s.toks ?_ (Heap.SameBut.update ..)
 have e:Obj.putName name (hashStr W.w name) (.str name s.toks) v (dObj es ep)=dObj (es.push ⟨hashStr W.w name,.str name s.toks,v⟩) (ep+1):=by simp only[Obj.putName_eq,Obj.putNameByArray,hi] <;> rfl
 rw[← e]
 exact Heap.get?_update_self _ hD (by show(Obj.putName name (hashStr W.w name) (.str name s.toks) v (dObj es ep)).isFreed=false;rw[e];rfl)
end
theorem bounds_all (n:Nat):sliceBounds none none none n=(0,(n:Int),1):=rfl
theorem mapSeq_to {F:Array Value→Array Value}{xs ys:Array Value}{n:Nat} (h:F xs=ys):∃ n',Obj.mapSeq F (listOf xs n)=listOf ys n':=by
 subst h
 exact⟨_,by simp only[Obj.mapSeq];rfl⟩
theorem setItem_all {prog:Program}{w:World}{A:Around}{E:Value→Shared→Prop}{s:Shared}{l sl b:Addr}{xs ys:Array Value}{n m:Nat}{Q:Unit→Shared→Prop} (ho:s.heap.get? l=some (listOf xs n)) (hs:s.heap.IsSliceOf sl .none .none .none)
  (hb:s.heap.get? b=some (listOf ys m)) (hlb:l≠b) (h1:xs.size≤1000000) (h2:ys.size≤1000000)
  (hQ:∀ h' n',h'.get? l=some (listOf ys n')→Heap.SameBut l s.heap h'→Q () { s with heap:=h' }) :
  wpAny (model prog w) A (setItem (.ref l) (.ref sl) (.ref b)) Q E s:=by
 have hl:s.heap.IsList l xs:=⟨_,ho,rfl,n,rfl⟩
 have hbT:s.TypeIs (.ref b) "list":=⟨_,hb,rfl⟩
 refine e1_3 (id hs) ?_;intro os hos hcs hds
 have hTs:s.TypeIs (.ref sl) "slice":=⟨os,hos,hcs⟩
 unfold setItem
 try with_reducible refine wpAny_holding ?_
 first |refine wpAny_bind (wpAny_pure ?_) |skip
 refine wpAny_bind (wpAny_sequenceKey hl.typeIs (by decide) ?_)
 refine wpAny_bind (wpAny_callSpecial?_slot (name:=Str.ofString "__setitem__") hl.typeIs slot_list_setitem
  (wpAny_call_entry slot_list_setitem hl.typeIs entry_list_setitem ?_ (args_list_setitem _ _ _)))
 show wpAny _ _ (Builtin.List.listSubscript? (.ref sl) >>= _) _ _ s
 refine wpAny_bind ?_
 unfold Builtin.List.listSubscript?
 refine wpAny_bind (wpAny_specialOf hTs slice_no_index ?_)
 simp only[Option.isNone_none,if_true]
 refine wpAny_pure ?_
 show wpAny _ _ (typeOf (.ref sl) >>= _) _ _ s
 refine wpAny_bind (wpAny_typeOf hTs ?_)
 rw[if_neg (by decide)]
 rw[listSliceParts_eq]
 refine wpAny_bind (wpAny_bind (wpAny_field hos hds (x:=.none) rfl (wpAny_bind (wpAny_listPart .none ?_))))
 rw[if_neg (by decide)]
 refine wpAny_bind (wpAny_field hos hds (x:=.none) rfl (wpAny_bind (wpAny_listPart .none ?_)))
 refine wpAny_bind (wpAny_field hos hds (x:=.none) rfl (wpAny_bind (wpAny_listPart .none (wpAny_pure ?_))))
 rw[show Builtin.List.listSameRef (.ref l) (.ref b)=false by show(l==b)=false;simpa using hlb]
 rw[if_neg (by decide)]
 refine wpAny_bind ?_
 unfold Builtin.List.listAllItems
 refine wpAny_bind (wpAny_typeOf hbT ?_)
 rw[if_pos (by decide)]
 unfold Builtin.List.listItems
 refine wpAny_bind (wpAny_seqItems hb rfl (wpAny_pure ?_))
 refine wpAny_bind (wpAny_bind (wpAny_seqItems ho rfl (wpAny_pure ?_)))
 refine wpAny_bind (wpAny_of_eq (sliceIndices_raw none none none xs.size (by simp)) ?_)
 rw[bounds_all]
 dsimp only
 rw[if_pos (by decide)]
 refine wpAny_bind (wpAny_rule ?_)
 rw[if_neg (by rw[show Builtin.List.listTooLong (xs.size+ys.size)=false by unfold Builtin.List.listTooLong;rw[sizeLine_eq];exact decide_eq_false (by lia)];decide)]
 have e:∀ zs:Array Value,zs=xs→zs.extract 0 (0:Int).toNat++ys++zs.extract (max 0 ((xs.size:Nat):Int)).toNat zs.size=ys:=fun zs hz=>by
  subst hz
  rw[show(max 0 ((zs.size:Nat):Int)).toNat=zs.size by lia]
  simp
 refine e1_1 (mapSeq_to (F:=fun zs=>zs.extract 0 (0:Int).toNat++ys++zs.extract (max 0 ((xs.size:Nat):Int)).toNat zs.size) (n:=n) (e xs rfl)) ?_;intro n' hm
 have hfin:(s.heap.update l (Obj.mapSeq (fun zs=>zs.extract 0 (0:Int).toNat++ys++zs.extract (max 0 ((xs.size:Nat):Int)).toNat zs.size))).get? l=some (listOf ys n'):=by
  rw[Heap.get?_update_self _ ho (by rw[hm];rfl),hm]
 refine wpAny_bind (listUpdate_at ho rfl ?_ (by rw[sizeLine_eq];exact Nat.le_of_lt (cC h1 (by decide))) (by rw[e xs rfl,sizeLine_eq];lia))
 refine wpAny_bind (wpAny_letGo ?_)
 first
  |exact wpAny_bind (wpAny_pure (wpAny_pure ⟨.none,rfl,wpAny_pure (hQ _ n' hfin (Heap.SameBut.update ..))⟩))
  |exact wpAny_pure ⟨.none,rfl,wpAny_pure (hQ _ n' hfin (Heap.SameBut.update ..))⟩
section
variable {W:Wd}{k:Nat}{σ:Sig}{env:Env}{P:FM→Prop}{x y:List Nat}
theorem X_AssignAll (T:Top W){o value:Expr}{p pos pos':Pos}{K:AFlow→Sig→Prop}
  (h:E W k env value σ fun v σ₁=>E W k env o σ₁ fun q σ₂=>∃ a l m,q=.ref a∧v=.lst m∧σ₂ a=some (.list l)∧l.length≤1000000∧m.length≤1000000∧K .next (σ₂.upd a (.list m)))
  (hs:autoParam (swapsWith value (some (.Subscript o (.Slice none none none p) pos')) pos.line env=Pure.pure false) tR):X W k env (.Assign [.Subscript o (.Slice none none none p) pos'] value pos) σ K:=fun A hA s hs' hP=>by
 refine wpAny_Assign_Subscript (G.use h A hA s hs' hP (fun u s₁ v σ₁ a1 a2 a3 a4=>G.use a4 A hA s₁ a1 trivial (fun w s₂ q σ₂ b1 b2 b3 hpat=>?_) fun _ _ x=>x) fun _ _ x=>x) hs
 refine e3_6 hpat ?_;try clear hpat;intro a l m zz1 zz2 hσ hl hm hK;subst zz1;subst zz2
 obtain rfl:w=.ref a:=b3
 refine e3_3 (a3.mono b2) ?_;intro b ys n' zz1 f r;subst zz1
 refine wpAny_Slice ?_
 rw[evalPart_none]
 refine wpAny_pure (wpAny_pure (wpAny_pure ?_))
 have k1:=sle_push (h:=s₂.heap) (o:={ cls:=.type "slice",data:=.fields #[.none,.none,.none] })
 have S3:=b1.grow T (tk:=s₂.toks) k1
 refine e2_2 (S3.hr _ _ hσ) ?_;intro vs n ho r'
 have e1:=r.length
 have e2:=r'.length
 rw[Array.length_toList] at e1 e2
 have hne:σ₂ a≠none:=by rw[hσ];simp
 have hab:a≠b:=fun z=>by rw[z,f.1] at hne;exact hne rfl
 refine setItem_all ho (Heap.IsSliceOf.new ..) (k1 _ _ f.2.1) hab (by exact cD (Nat.le_of_eq e2) hl) (by exact cD (Nat.le_of_eq e1) hm) fun h' n'' hg hsb=>?_
 have F1:FLe (Fz σ₂ s₂.heap) (Fz (σ₂.upd a (.list m)) h'):=(fle_grow k1).trans (fle_upd hne hsb)
 exact⟨.next,_,S3.update (ao:=.list m) (tk:=s₂.toks) T.lim hσ (fun b q=>by cases q) hsb ⟨ys,n'',hg,r.mono F1⟩ S3.tk,(a2.trans b2).trans F1,rfl,hK⟩
theorem whileN_G (T:Top W){test:Expr}{body orelse:List Stmt} (J:Nat→Sig→Prop){K:AFlow→Sig→Prop}
  (turn:∀ n σ,J n σ→Mine.T W k env test σ fun b σ'=>if b then XS W k env body σ' fun fl σ₃=>match fl with | .next | .cont=>∃ m,m<n∧J m σ₃ | .brk=>K .next σ₃ | .ret r=>K (.ret r) σ₃ else XS W k env orelse σ' K)
  {F₀:FM}:∀ A,Room A k→∀ n s,(∃ σ,St W σ s∧FLe F₀ (FrOf σ s)∧J n σ) →
   codeAny (model W.prog W.w) A (.whileLoop test body orelse env) (fun r s'=>match r with | .ok f=>∃ fl σ',St W σ' s'∧FLe F₀ (FrOf σ' s')∧LRel (FrOf σ' s') fl f∧K fl σ' | .error _=>False) s:=fun A hA n s hI=>by
 refine codeAny_whileLoop (fun n s=>∃ σ,St W σ s∧FLe F₀ (FrOf σ s)∧J n σ) (fun n s hI=>?_) n hI
 refine e1_3 hI ?_;try clear hI;intro σ S hF hJ
 refine G.use (turn n σ hJ) A hA s S trivial (fun b s₁ b' σ₁ a1 a2 a3 a4=>?_) fun _ _ x=>x.elim
 cases a3
 cases b with
 |false=>exact G.use a4 A hA s₁ a1 trivial (fun f s₂ fl σ₂ b1 b2 b3 b4=>⟨fl,σ₂,b1,(hF.trans a2).trans b2,b3,b4⟩) fun _ _ x=>x.elim
 |true =>
  refine G.use a4 A hA s₁ a1 trivial (fun f s₂ fl σ₂ b1 b2 b3 b4=>?_) fun _ _ x=>x.elim
  have hFF:=(hF.trans a2).trans b2
  cases fl with
  |next=>cases b3;refine e1_2 b4 ?_;try clear b4;intro m hm hj;exact⟨m,hm,σ₂,b1,hFF,hj⟩
  |cont=>cases b3;refine e1_2 b4 ?_;try clear b4;intro m hm hj;exact⟨m,hm,σ₂,b1,hFF,hj⟩
  |brk=>cases b3;exact⟨.next,σ₂,b1,hFF,rfl,b4⟩
  |ret r=>refine e1_2 b3 ?_;try clear b3;intro w zz1 hr;subst zz1;exact⟨.ret r,σ₂,b1,hFF,⟨w,rfl,hr⟩,b4⟩
theorem X_While (T:Top W){test:Expr}{body orelse:List Stmt}{pos:Pos} (J:Nat→Sig→Prop) (n:Nat){K:AFlow→Sig→Prop} (h0:J n σ)
  (turn:∀ n σ,J n σ→Mine.T W k env test σ fun b σ'=>if b then XS W k env body σ' fun fl σ₃=>match fl with | .next | .cont=>∃ m,m<n∧J m σ₃ | .brk=>K .next σ₃ | .ret r=>K (.ret r) σ₃ else XS W k env orelse σ' K):X W k env (.While test body orelse pos) σ K:=fun A hA s hs hP=>by
 refine wpAny_While (codeAny_mono (whileN_G T J turn (F₀:=FrOf σ s) A hA n s ⟨σ,hs,FLe.refl _,h0⟩) fun r s' hr=>?_)
 cases r with
 |ok f=>exact hr
 |error e=>exact hr.elim
theorem D_inst (T:Top W){a C d f:Addr}{fs:Str→Option PV}{n:Nat}{i:PV}{K:Unit→Sig→Prop} (hf:findIn W.K (.ref C) "__delitem__"=some (some (.ref f))) (ht:typeIn W.K (.ref f)=some (.type "function"))
  (hq:mroIn W.K C (.type "collections.deque")=some false) (hσ:σ a=some (.inst C d fs n)) (h:Mine.C W k (.ref f) [.ref a,i] [] [] σ fun _ σ'=>K () σ') :
  ∀ v w,G W k (fun F=>VRel F (.ref a) v∧VRel F i w) REq (delItem v w) σ K:=fun v w A hA s hs hpat=>by
 refine e0_2 hpat ?_;try clear hpat;intro e1 e2
 obtain rfl:v=.ref a:=e1
 refine e0_2 (hs.hr _ _ hσ) ?_;intro ha _
 have tyA:∀ {Q:Value→Shared→Prop},Q (.ref C) s→wpAny (model W.prog W.w) A (typeOf (.ref a)) Q (fun _ _=>False) s:=fun {Q} q=>by
  unfold typeOf
  exact wpAny_bind (wpAny_loadPart ha (wpAny_pure q))
 unfold delItem
 refine wpAny_holding (wpAny_bind ?_)
 unfold sequenceKey
 refine wpAny_bind (tyA ?_)
 unfold seqItemTypes
 refine wpAny_bind (wpAny_bind ((looks_mroIn (hs.kin T) hq).here ?_))
 simp only[Bool.false_eq_true,if_false,Bool.not_false,if_true]
 refine wpAny_pure (wpAny_pure ?_)
 unfold callSpecial? specialOf
 refine wpAny_bind (wpAny_bind (wpAny_bind (tyA ((looks_findIn (hs.kin T) hf).here ?_))))
 refine wpAny_holding (wpAny_bind ?_)
 unfold bindSpecial
 refine wpAny_bind ((looks_typeIn (hs.kin T) ht).here ?_)
 rw[if_pos (by decide)]
 refine wpAny_pure ?_
 refine wpAny_bind (G.use (h (.ref f) [.ref a,w] []) A hA s hs ⟨(Eq.refl _:Value.ref f=Value.ref f),⟨_,_,rfl,(Eq.refl _:Value.ref a=Value.ref a),_,_,rfl,e2,rfl⟩,rfl⟩ (fun r s₁ p σ₁ a1 a2 a3 a4=>wpAny_pure (wpAny_pure ⟨(),σ₁,a1,a2,rfl,a4⟩)) fun _ _ x=>x)
theorem X_DelSub {o i:Expr}{p pos:Pos}{K:AFlow→Sig→Prop} (h:E W k env o σ fun q σ₁=>E W k env i σ₁ fun j σ₂=>∀ v w,G W k (fun F=>VRel F q v∧VRel F j w) REq (delItem v w) σ₂ fun _ σ₃=>K .next σ₃):X W k env (.Delete [.Subscript o i p] pos) σ K:=fun A hA s hs hP =>
 wpAny_Delete (wpAny_deleteEach_cons (wpAny_delete_Subscript (G.use h A hA s hs hP (fun v s₁ q σ₁ a1 a2 a3 a4=>G.use a4 A hA s₁ a1 trivial (fun w s₂ j σ₂ b1 b2 b3 b4 =>
  G.use (b4 v w) A hA s₂ b1 ⟨a3.mono b2,b3⟩ (fun _ s₃ _ σ₃ c1 c2 c3 c4=>wpAny_deleteEach_nil ⟨.next,σ₃,c1,(a2.trans b2).trans c2,rfl,c4⟩) fun _ _ x=>x) fun _ _ x=>x) fun _ _ x=>x)))
theorem Makes1t (T:Top W){elt iter:Expr}{x y:Str}{px py tp:Pos}{n:Nat}{ifs:List Expr}{scope:Scope}{pos:Pos}{cl:List (Str×Addr)}{items:List PV}{SrcS:Sig→Prop}{σ₁:Sig} (keep:PV→Bool) (val:PV→PV){r:List PV} (hr:(items.filter keep).map val=r)
  (hz:items.length≤1000000) (hit:∀ p∈items,∃ a b,p=.tup [a,b]) (hsrc:∀ D L,Fresh σ₁ D→D<L→∀ acc m,SrcS (ins σ₁ D L acc m))
  (h:∀ D L,Fresh σ₁ D→D<L→(∀ a b,PV.tup [a,b]∈items→∀ acc m,CI W k (cenvOf scope cl L env) ifs (ins σ₁ D L acc (fset (fset m x a) y b)) fun c σ'=>σ'=ins σ₁ D L acc (fset (fset m x a) y b)∧c=keep (.tup [a,b])) ∧
    ∀ a b,PV.tup [a,b]∈items→keep (.tup [a,b])=true→∀ acc m,E W k (cenvOf scope cl L env) elt (ins σ₁ D L acc (fset (fset m x a) y b)) fun q σ'=>σ'=ins σ₁ D L acc (fset (fset m x a) y b)∧q=val (.tup [a,b]))
  (hnc:autoParam ((scope.names.all fun x => !(x.2 == .cell))=true) tR) (hk:autoParam (scope.kind=.function) tR) (hx:autoParam (scope.names.lookup x=some .local) tR) (hy:autoParam (scope.names.lookup y=some .local) tR) :
  Makes W k elt (.Tuple [.Name x px,.Name y py] n tp) ifs [⟨.Tuple [.Name x px,.Name y py] n tp,iter,ifs,0⟩] scope pos items SrcS cl env σ₁ r:=fun D L e1 e2=>by
 subst hr
 refine⟨fun i σ'=>i≤items.length∧∃ m,σ'=ins σ₁ D L (((items.take i).filter keep).map val) m,?_,fun σ' hpat=>by
  obtain ⟨_,m,e⟩:=hpat
  rw[List.take_length] at e
  subst e
  exact⟨m,ins_D e2,ins_L,res_ins e1 e2⟩⟩
 exact {
  start:=⟨Nat.zero_le _,fun _=>none,by rw[cellsUpd_none hnc];rfl⟩
  src:=fun i σ' ⟨_,m,e⟩=>e▸hsrc D L e1 e2 _ _
  turn:=fun i p σ' hp hpat=>by
   obtain ⟨hi,m,e⟩:=hpat
   subst e
   have hm:p∈items:=List.mem_of_getElem? hp
   have hlt:i<items.length:=by
    rcases Nat.lt_or_ge i items.length with q |q
    ·exact q
    ·rw[List.getElem?_eq_none q] at hp;cases hp
   refine e2_1 (hit p hm) ?_;intro a b zz1;subst zz1
   refine AT_tup T rfl ?_
   refine AT_name (S_local T (by show scope.kind=_;exact hk) (lookup_relabel_local hx) ins_L ?_)
   refine AT_name (S_local T (by show scope.kind=_;exact hk) (lookup_relabel_local hy) (upd_same _ _ _) ?_)
   show CI W k _ ifs (((ins σ₁ D L _ m).upd L (.frame (fset m x a))).upd L (.frame (fset (fset m x a) y b))) _
   rw[ins_set,ins_set]
   refine((h D L e1 e2).1 a b hm _ m).imp fun c σ'' ⟨e1',e2'⟩=>?_
   subst e1' e2'
   cases hk':keep (.tup [a,b]) with
   |false=>exact⟨hlt,fset (fset m x a) y b,by rw[take_succ_fm hp,hk'];simp⟩
   |true =>
    rw[if_pos rfl]
    refine CB_elt T rfl (((h D L e1 e2).2 a b hm hk' _ m).imp fun q σ₃ ⟨e1',e2'⟩=>?_)
    subst e1' e2'
    refine⟨_,ins_D e2,?_,hlt,fset (fset m x a) y b,by rw[ins_acc e2,take_succ_fm hp,hk',if_pos rfl]⟩
    rw[List.length_map]
    exact Nat.le_trans (List.length_filter_le _ _) (Nat.le_trans (List.length_take_le _ _) (Nat.le_trans hi hz)) }
end
structure Hdr2 (W:Wd) (N:HdrCls W) where
 dl:Addr
 dlM:MethIs W N.C "__delitem__" dl "Headers.__delitem__" (methAt 7 4)
 gt:Addr
 gtM:MethD W N.C "get" gt "Headers.get" (methAt 7 8) #[.none]
 ks:Addr
 ksM:MethIs W N.C "keys" ks "Headers.keys" (methAt 7 9)
 dq:mroIn W.K N.C (.type "collections.deque")=some false
 fp:Addr
 fpG:W.mg "_formatparam"=some (.ref fp)
 ft:Tok
 fpF:FnD W fp "_formatparam" (defAt 6) #[.none,.int 1 ft]
noncomputable def fpL (v:List Nat):List Nat:=replL (replL v [92] [92,92]) [34] [92,34]
section
variable {W:Wd}{k:Nat}{σ:Sig}{env:Env}{P:FM→Prop}{x y z:List Nat}
theorem T_andE {x y:Expr}{pos:Pos}{p q:Bool}{K:Bool→Sig→Prop} (h1:T W k env x σ fun b σ₁=>b=p∧σ₁=σ) (h2:T W k env y σ fun b σ₁=>b=q∧σ₁=σ) (h:K (p&&q) σ):T W k env (.BoolOp .And [x,y] pos) σ K :=
 T_and (h1.imp fun b σ₁ hh=>by
  refine e0_2 hh ?_;try clear hh;intro e1 e2
  subst e1 e2
  cases b
  ·exact h
  ·exact h2.imp fun c σ₂ hh=>by
    refine e0_2 hh ?_;try clear hh;intro e1 e2
    subst e1 e2
    exact h)
theorem fp_C (D:L1 W){N:HdrCls W} (M:Hdr2 W N){K:PV→Sig→Prop} (hx:x.length≤100000) (hy:y.length≤100000) (hy0:y≠[]) (h1:(replL y [92] [92,92]).length≤100000) (h2:(fpL y).length≤100000) (h:K (.str (((x++[61,34])++fpL y)++[34])) σ):CC W (k+1) (.ref M.fp) [.str x,.str y] [] [] σ K:=by
 obtain ⟨Tt,doc,pm,an,cd,ct,f1,ot,nt,ht1,ht2,ht3⟩:=M.fpF.fn
 have T:=D.T
 refine CC_fcs T f1 [("param",.str x,none),("value",.str y,none),("quote",.int 1,none)] 0 (fun vs ws A hA s hs hpat=>?_) rfl ⟨rfl,rfl,rfl,trivial⟩ (by rfl) rfl fun (L:Nat) hL=>?_
 ·refine e0_2 hpat ?_;try clear hpat;intro zz1 e3;obtain ⟨v,r,e1,h1,v2,r2,e2,h2,e4⟩:=zz1
  subst e1 e2
  obtain rfl:r2=[]:=e4
  have hB:BindsTo s (fnX (nameOf (defAt 6)) "_formatparam" (paramsOf (defAt 6)) (bodyOf (defAt 6)) (scopeOf (defAt 6)) [] (.ref Tt) .none doc pm an cd ct) ⟨[v,v2],([]:List Str).zip ws⟩ [("param",v),("value",v2),("quote",.int 1 M.ft)] :=
   BindsTo.of_defaults rfl (hs.base ht1 ht2).2.1 ht3 rfl rfl
  refine hB _ _ _ _ ?_
  exact⟨[("param",.str x),("value",.str y),("quote",.int 1)],σ,hs,FLe.refl _,⟨v,_,rfl,h1,v2,_,rfl,h2,_,[],rfl,⟨M.ft,rfl⟩,rfl⟩,rfl,rfl⟩
 have hy1:0<y.length:=List.length_pos_iff.mpr hy0
 refine XS_if (T_andE (p:=true) (q:=true) (T_Compare (E_l (E_none (isnot_none_str (truthy_bool ⟨rfl,rfl⟩))))) (T_Compare (E_Call [] (kp:=.machine) (E_bn T D.B (n:="len") (by simp) ?_))) ?_)
 ·refine EL_cons (E_l ?_)
  refine EL_nil (EK_nil ⟨KP_blt,C_len_str (by exact Nat.le_of_lt (cC hy (by decide))) ?_⟩)
  exact E_int (gt_ii (truthy_bool ⟨decide_eq_true (by exact(@Int.ofNat_lt 0 _).mpr hy1),rfl⟩))
 refine(?_:XS W _ _ _ _ _)
 refine XS_if (T_or (T_val (E_l (truthy_int ?_))))
 rw[if_pos (by decide)]
 refine(?_:XS W _ _ _ _ _)
 refine XS_setl T (EE.h ?_:E _ _ _ _ _ _)
 refine EE_Meth [] (kp:=.machine) (EE.h ?_:E _ _ _ _ _ _)
 refine EE_Meth [] (kp:=.machine) (E_l (GM_str PySem.F.slot_str_replace PySem.F.type_str_replace ?_))
 refine EL_two [92] [92,92] fun u v hu hv huv=>EK_nil ⟨KP_blt,C_replace hu hv huv (by simp) (by simp;lia) ?_⟩
 refine GM_str PySem.F.slot_str_replace PySem.F.type_str_replace ?_
 refine EL_two [34] [92,34] fun u v hu hv huv=>EK_nil ⟨KP_blt,C_replace hu hv huv (by simp) (by simp;lia) ⟨_,_,_,rfl,?_⟩⟩
 refine XS_ret (E_Joined ?_)
 refine E_Fmt (E_l ⟨x,rfl,by exact Nat.le_of_lt (cC hx (by decide)),x,rfl,by simp;exact Nat.le_of_lt (cC hx (by decide)),?_⟩)
 refine E_strL [61,34] ⟨_,rfl,by simp;exact Nat.le_of_lt (cC hx (by decide)),?_⟩
 refine E_Fmt (E_l ⟨fpL y,rfl,by exact Nat.le_of_lt (cC h2 (by decide)),_,rfl,by simp;exact Nat.le_trans (Nat.add_le_add hx (Nat.add_le_add (Nat.add_le_add h2 (Nat.le_refl _)) (Nat.le_refl _))) (by decide),?_⟩)
 refine E_strL [34] ⟨_,rfl,by simp;exact Nat.le_trans (Nat.add_le_add hx (Nat.add_le_add (Nat.add_le_add (Nat.add_le_add h2 (Nat.le_refl _)) (Nat.le_refl _)) (Nat.le_refl _))) (by decide),?_⟩
 show K _ _
 rw[fcs_res hL]
 exact h
noncomputable def delL (es:List (List Nat×List Nat)) (n:List Nat):List (List Nat×List Nat):=es.filter fun e => !decide (lowerL e.1=n)
noncomputable def fstL (es:List (List Nat×List Nat)) (n:List Nat):Option (List Nat):=(es.find? fun e=>decide (lowerL e.1=n)).map (·.2)
noncomputable def kD (n:List Nat):PV→Bool
 | .tup [.str a,.str _] => !decide (lowerL a=n)
 |_=>false
theorem ents_delL (es:List (List Nat×List Nat)) (n:List Nat):((ents es).filter (kD n)).map (fun p=>p)=ents (delL es n):=by
 unfold ents delL
 induction es with
 |nil=>rfl
 |cons e es ih =>
  simp only[List.map_id'] at ih ⊢
  rw[List.map_cons,List.filter_cons,List.filter_cons]
  show(if (!decide (lowerL e.1=n))=true then _ else _)=_
  by_cases h:lowerL e.1=n
  ·rw[if_neg (by simp[h]),if_neg (by simp[h]),ih]
  ·rw[if_pos (by simp[h]),if_pos (by simp[h]),List.map_cons,ih]
theorem delL_len (es:List (List Nat×List Nat)) (n:List Nat):(delL es n).length≤es.length:=List.length_filter_le _ _
noncomputable def vK:PV→PV
 | .tup [a,_]=>a
 |p=>p
theorem HdrOK.below {N:HdrCls W}{H:HdrA}{es:List (List Nat×List Nat)}{L:Nat} (O:HdrOK N.C H σ) (hL:Fresh (hds H es σ) L):H.a<L∧H.l<L:=by
 have key:∀ b o,hds H es σ b=some o→b<L:=fun b o e=>by
  rcases Nat.lt_or_ge b L with q |q
  ·exact q
  ·have:=hL b q;rw[e] at this;cases this
 exact⟨key _ _ ((upd_ne O.al).trans O.at_),key _ _ (upd_same _ _ _)⟩
theorem dl_C (D:L1 W){N:HdrCls W} (M:Hdr2 W N){H:HdrA}{es:List (List Nat×List Nat)}{K:PV→Sig→Prop} (O:HdrOK N.C H σ) (hx:okN (lowerL x)) (hzx:x.length≤1000000) (hzx':(lowerL x).length≤1000000) (hz:es.length≤100000) (he:∀ e∈es,e.1.length≤1000000)
  (h:K .none (hds H (delL es (lowerL x)) σ)):CC W (k+2) (.ref M.dl) [.ref H.a,.str x] [] [] (hds H es σ) K:=by
 refine e5_1 (M.dlM.fn.fn) ?_;intro doc pm an cd ct f1
 have T:=D.T
 have hal:=O.al
 refine CC_fcs T f1 [("self",.ref H.a,none),("name",.str x,some 0)] 1 (bind2 (n:="self") (m:="name") (fun v w=>by rfl) ⟨rfl,rfl⟩) rfl ⟨rfl,⟨rfl,fun L=>rfl⟩,trivial⟩ (by rfl) rfl fun (L:Nat) hL=>?_
 have hb:=O.below hL
 have hOL:∀ {m cs},HdrOK N.C H (fcs (hds H es σ) L m cs):=fun {m cs}=>⟨(fcs_lt hb.1).trans ((upd_ne hal).trans O.at_),O.al⟩
 have hgl:∀ {m cs},fcs (hds H es σ) L m cs H.l=some (.list (ents es)):=fun {m cs}=>(fcs_lt hb.2).trans (upd_same _ _ _)
 refine XS_setc T 0 (E_cv (k:=k) D N (E_l ⟨rfl,hOL,?_⟩))
 refine E_Meth [] (kp:=.machine) (E_c 0 (GM_str PySem.F.slot_str_lower PySem.F.type_str_lower ?_))
 refine EL_nil (EK_nil ⟨KP_blt,C_lower (by exact Nat.le_trans (by assumption) (by decide)) ?_⟩)
 refine E_bool ⟨_,true,rfl,rfl,hx,hzx',_,_,_,rfl,Nat.le_of_ble_eq_true rfl,?_⟩
 have hel:(ents es).length≤1000000:=by unfold ents;rw[List.length_map];exact Nat.le_of_lt (cC hz (by decide))
 refine XS_cons (X_AssignAll T (E_Makes T (ents es) (fun σ=>σ H.l=some (.list (ents es))) (ents (delL es (lowerL x))) ?_))
 refine E_Attr (E_l (OA_inst T N.X N.no hOL.at_ rfl (by intro n z;cases z) ?_))
 refine⟨Itbl.ref,hgl,Makes1 T (kD (lowerL x)) (fun p=>p) (ents_delL _ _) hel (fun D' L' e1 e2 acc m=>ins_old e1 e2 hgl) (fun D' L' e1 e2=>⟨fun p hp acc m=>?_,fun p hp _ acc m=>E_m ⟨rfl,rfl⟩ (fset_same _ _ _)⟩),?_⟩
 ·refine e1_2 (List.mem_map.mp hp) ?_;intro e hee zz1;subst zz1
  refine CI_one (T_Compare (E_Meth [] (kp:=.machine) ?_))
  refine E_Sub (E_m ?_ (fset_same _ _ _))
  refine E_int ⟨Sbs.tup,get_tup (by decide) (by decide) rfl ?_⟩
  refine GM_str PySem.F.slot_str_lower PySem.F.type_str_lower ?_
  refine EL_nil (EK_nil ⟨KP_blt,C_lower (by have:=he e hee;exact Nat.le_trans (by assumption) (by decide)) ?_⟩)
  refine E_f 0 e1 e2 ?_
  exact ne_ss (truthy_bool ⟨rfl,rfl⟩)
 refine E_Attr (E_l (OA_inst T N.X N.no hOL.at_ rfl (by intro n z;cases z) ?_))
 have hdl:(ents (delL es (lowerL x))).length≤1000000:=by
  have:=delL_len es (lowerL x)
  unfold ents;rw[List.length_map];exact Nat.le_of_lt (cC this (cC hz (by decide)))
 refine⟨H.l,_,_,rfl,rfl,hgl,hel,hdl,?_⟩
 refine XS_nil ?_
 show K _ _
 rw[fcs_lt' hb.2,fcs_resr]
 have e:(hds H es σ).upd H.l (.list (ents (delL es (lowerL x))))=hds H (delL es (lowerL x)) σ:=upd_upd
 rw[e]
 have hf:Fresh (hds H (delL es (lowerL x)) σ) L:=fun b hb'=>by
  have:=hL b hb'
  unfold hds at this ⊢
  rw[upd_ne (Nat.ne_of_gt (Nat.lt_of_lt_of_le hb.2 hb'))] at this ⊢
  exact this
 rw[res_fresh hf]
 exact h
theorem fstL_none {es:List (List Nat×List Nat)}{n:List Nat} (h:∀ (j:Nat) e,es[j]? = some e→lowerL e.1≠n):fstL es n=none:=by
 unfold fstL
 rw[List.find?_eq_none.mpr]
 ·rfl
 ·intro e he
  refine e1_1 (List.getElem?_of_mem he) ?_;intro j hj
  simpa using h j e hj
theorem fstL_some:∀ {es:List (List Nat×List Nat)}{n:List Nat}{i:Nat}{e:List Nat×List Nat},es[i]? = some e→lowerL e.1=n→(∀ (j:Nat) e,j<i→es[j]? = some e→lowerL e.1≠n)→fstL es n=some e.2
 |e::es,n,0,e',h,hn,_=>by cases h;unfold fstL;rw[List.find?_cons_of_pos (by simpa using hn)];rfl
 |e::es,n,i+1,e',h,hn,hj=>by
  have h0:=hj 0 e (Nat.succ_pos _) rfl
  have ih:=fstL_some (es:=es) (n:=n) (i:=i) h hn fun j e hji he=>hj (j+1) e (Nat.succ_lt_succ hji) he
  unfold fstL at ih ⊢
  rw[List.find?_cons_of_neg (by simpa using h0)]
  exact ih
theorem get_C0 (D:L1 W){N:HdrCls W} (M:Hdr2 W N){H:HdrA}{es:List (List Nat×List Nat)}{q:PV}{args:List PV}{K:PV→Sig→Prop} (O:HdrOK N.C H σ) (hx:okN (lowerL x)) (hzx:x.length≤1000000) (hzx':(lowerL x).length≤1000000) (hz:es.length≤100000) (he:∀ e∈es,e.1.length≤1000000)
  (hargs:args=[.ref H.a,.str x]∧q=.none∨args=[.ref H.a,.str x,q])
  (h:K (match fstL es (lowerL x) with |some y=>.str y |none=>q) (hds H es σ)):CC W (k+2) (.ref M.gt) args [] [] (hds H es σ) K:=by
 obtain ⟨Tt,doc,pm,an,cd,ct,f1,ot,nt,ht1,ht2,ht3⟩:=M.gtM.fn.fn
 have T:=D.T
 have hal:=O.al
 refine CC_fcs T f1 [("self",.ref H.a,none),("name",.str x,none),("default",q,none)] 0 (fun vs ws A hA s hs hpat=>?_) rfl ⟨rfl,rfl,rfl,trivial⟩ (by rfl) rfl fun (L:Nat) hL=>?_
 ·have ht:=(hs.base ht1 ht2).2.1
  rcases hargs with ⟨rfl,rfl⟩ |rfl
  ·refine e0_2 hpat ?_;try clear hpat;intro zz1 e3;obtain ⟨v,r,e1,h1,v2,r2,e2,h2,e4⟩:=zz1
   subst e1 e2
   obtain rfl:r2=[]:=e4
   have hB:BindsTo s (fnX (nameOf (methAt 7 8)) "Headers.get" (paramsOf (methAt 7 8)) (bodyOf (methAt 7 8)) (scopeOf (methAt 7 8)) [] (.ref Tt) .none doc pm an cd ct) ⟨[v,v2],([]:List Str).zip ws⟩ [("self",v),("name",v2),("default",.none)] :=
    BindsTo.of_defaults rfl ht ht3 rfl rfl
   refine hB _ _ _ _ ?_
   exact⟨[("self",.ref H.a),("name",.str x),("default",.none)],_,hs,FLe.refl _,⟨v,_,rfl,h1,v2,_,rfl,h2,.none,[],rfl,(Eq.refl _:Value.none=Value.none),rfl⟩,rfl,rfl⟩
  ·refine e0_2 hpat ?_;try clear hpat;intro zz1 e3;obtain ⟨v,r,e1,h1,v2,r2,e2,h2,v3,r3,e5,h3,e4⟩:=zz1
   subst e1 e2 e5
   obtain rfl:r3=[]:=e4
   have hB:BindsTo s (fnX (nameOf (methAt 7 8)) "Headers.get" (paramsOf (methAt 7 8)) (bodyOf (methAt 7 8)) (scopeOf (methAt 7 8)) [] (.ref Tt) .none doc pm an cd ct) ⟨[v,v2,v3],([]:List Str).zip ws⟩ [("self",v),("name",v2),("default",v3)] :=
    BindsTo.of_defaults rfl ht ht3 rfl rfl
   refine hB _ _ _ _ ?_
   exact⟨[("self",.ref H.a),("name",.str x),("default",q)],_,hs,FLe.refl _,⟨v,_,rfl,h1,v2,_,rfl,h2,v3,[],rfl,h3,rfl⟩,rfl,rfl⟩
 have hb:=O.below hL
 have hOL:∀ {m cs},HdrOK N.C H (fcs (hds H es σ) L m cs):=fun {m cs}=>⟨(fcs_lt hb.1).trans ((upd_ne hal).trans O.at_),O.al⟩
 have hgl:∀ {m cs},fcs (hds H es σ) L m cs H.l=some (.list (ents es)):=fun {m cs}=>(fcs_lt hb.2).trans (upd_same _ _ _)
 refine XS_setl T (E_cv (k:=k) D N (E_l ⟨rfl,hOL,?_⟩))
 refine E_Meth [] (kp:=.machine) (E_l (GM_str PySem.F.slot_str_lower PySem.F.type_str_lower ?_))
 refine EL_nil (EK_nil ⟨KP_blt,C_lower (by exact Nat.le_trans (by assumption) (by decide)) ?_⟩)
 refine E_bool ⟨_,true,rfl,rfl,hx,hzx',_,_,_,rfl,?_⟩
 refine XS_cons (X_For (q₀:=.ref H.l) T (ents es) (fun σ=>σ H.l=some (.list (ents es))) (fun i σ'=>∃ m,σ'=fcs (hds H es σ) L m []∧m "name"=some (.str (lowerL x))∧m "default"=some q∧∀ (j:Nat) e,j<i→es[j]? = some e→lowerL e.1≠lowerL x) ?_ ?_ ?_ ?_)
 ·refine E_Attr (E_l (OA_inst T N.X N.no hOL.at_ rfl (by intro n z;cases z) ?_))
  exact⟨rfl,Itbl.ref,_,rfl,rfl,rfl,fun j e hj=>absurd hj (Nat.not_lt_zero _)⟩
 ·intro i σ' zz1;refine e1_2 zz1 ?_;clear zz1;intro m zz2 _;subst zz2
  exact hgl
 ·intro i p σ' hp zz1;refine e1_4 zz1 ?_;clear zz1;intro m zz2 hm1 hm2 hj;subst zz2
  unfold ents at hp
  rw[List.getElem?_map] at hp
  refine e1_2 (by
   cases q:es[i]? with
   |none=>rw[q] at hp;cases hp
   |some e=>rw[q] at hp;exact⟨e,rfl,Option.some.inj hp⟩:∃ e,es[i]? = some e∧PV.tup [.str e.1,.str e.2]=p) ?_;intro e hee zz1;subst zz1
  refine AT_tup T rfl ?_
  refine AT_name (S_l T ?_)
  refine AT_name (S_l T ?_)
  refine XS_if (T_Compare (E_Meth [] (kp:=.machine) (E_l ?_ ((fset_ne (by decide)).trans (fset_same _ _ _)))))
  refine GM_str PySem.F.slot_str_lower PySem.F.type_str_lower ?_
  refine EL_nil (EK_nil ⟨KP_blt,C_lower (by have:=he e (List.mem_of_getElem? hee);exact Nat.le_trans (by assumption) (by decide)) ?_⟩)
  refine E_l ?_ ((fset_ne (by decide)).trans ((fset_ne (by decide)).trans hm1))
  refine eq_ss (truthy_bool ?_)
  by_cases hc:lowerL e.1=lowerL x
  ·rw[decide_eq_true hc]
   refine(?_:XS W _ _ _ _ _)
   refine XS_ret (E_l ?_ (fset_same _ _ _))
   show K _ _
   rw[fcs_resr,res_fresh (fun b hb'=>hL b hb')]
   rw[fstL_some hee hc hj] at h
   exact h
  ·rw[decide_eq_false hc]
   refine(?_:XS W _ _ _ _ _)
   refine XS_nil (XS_nil ⟨_,rfl,(fset_ne (by decide)).trans ((fset_ne (by decide)).trans hm1),(fset_ne (by decide)).trans ((fset_ne (by decide)).trans hm2),fun j e' hji he'=>?_⟩)
   rcases Nat.lt_succ_iff_lt_or_eq.mp hji with q |rfl
   ·exact hj j e' q he'
   ·rw[hee] at he';cases he';exact hc
 ·intro σ' zz1;refine e1_4 zz1 ?_;clear zz1;intro m zz2 hm1 hm2 hj;subst zz2
  refine XS_nil (XS_ret (E_l ?_ hm2))
  show K _ _
  rw[fcs_resr,res_fresh (fun b hb'=>hL b hb')]
  have:fstL es (lowerL x)=none:=fstL_none fun j e hje=>hj j e (by
   unfold ents;rw[List.length_map]
   rcases Nat.lt_or_ge j es.length with q |q
   ·exact q
   ·rw[List.getElem?_eq_none q] at hje;cases hje) hje
  rw[this] at h
  exact h
theorem keys_C (D:L1 W){N:HdrCls W} (M:Hdr2 W N){H:HdrA}{es:List (List Nat×List Nat)}{K:PV→Sig→Prop} (O:HdrOK N.C H σ) (hz:es.length≤100000)
  (h:K (.lst (stsL (es.map (·.1)))) (hds H es σ)):CC W (k+2) (.ref M.ks) [.ref H.a] [] [] (hds H es σ) K:=by
 refine e5_1 (M.ksM.fn.fn) ?_;intro doc pm an cd ct f1
 have T:=D.T
 have hal:=O.al
 refine CC_fcs T f1 [("self",.ref H.a,none)] 0 (bind1 (n:="self") (fun v=>by rfl) ⟨rfl,rfl⟩) rfl ⟨rfl,trivial⟩ (by rfl) rfl fun (L:Nat) hL=>?_
 have hb:=O.below hL
 have hOL:∀ {m cs},HdrOK N.C H (fcs (hds H es σ) L m cs):=fun {m cs}=>⟨(fcs_lt hb.1).trans ((upd_ne hal).trans O.at_),O.al⟩
 have hgl:∀ {m cs},fcs (hds H es σ) L m cs H.l=some (.list (ents es)):=fun {m cs}=>(fcs_lt hb.2).trans (upd_same _ _ _)
 refine XS_ret (E_Makes T (ents es) (fun σ=>σ H.l=some (.list (ents es))) (stsL (es.map (·.1))) ?_)
 refine E_Attr (E_l (OA_inst T N.X N.no hOL.at_ rfl (by intro n z;cases z) ?_))
 refine⟨Itbl.ref,hgl,Makes1t T (fun _=>true) vK ?_ (by unfold ents;rw[List.length_map];exact Nat.le_of_lt (cC hz (by decide))) (fun p hp=>?_) (fun D' L' e1 e2 acc m=>ins_old e1 e2 hgl) (fun D' L' e1 e2=>⟨fun a b hp acc m=>CI_nil ⟨rfl,rfl⟩,fun a b hp _ acc m=>E_m ⟨rfl,rfl⟩ ((fset_ne (by decide)).trans (fset_same _ _ _))⟩),?_⟩
 ·rw[List.filter_eq_self.mpr (fun _ _=>rfl)]
  unfold ents stsL
  rw[List.map_map,List.map_map];rfl
 ·refine e1_2 (List.mem_map.mp hp) ?_;intro e hee zz1;subst zz1
  exact⟨_,_,rfl⟩
 ·show K _ _
  rw[fcs_res hL]
  exact h
noncomputable abbrev Prm:=PySem.Str×Option (List Nat)
noncomputable def prmV (p:Prm):PySem.Str×PV:=(p.1,match p.2 with |none=>.none |some v=>.str v)
noncomputable def prmL (p:Prm):List Nat:=match p.2 with
 |none=>replL p.1.cps.toList [95] [45]
 |some v=>((replL p.1.cps.toList [95] [45]++[61,34])++fpL v)++[34]
structure PrmOK (p:Prm):Prop where
 k:okN p.1.cps.toList
 kl:p.1.cps.toList.length≤1000
 kr:(replL p.1.cps.toList [95] [45]).length≤1000
 v:∀ v,p.2=some v→okV v∧v≠[]∧v.length≤1000∧(replL v [92] [92,92]).length≤10000∧(fpL v).length≤10000
theorem strKeys_push {es:Array DictEntry} (hk:StrKeys es){hs:Int}{x:PySem.Str}{t:Tok}{v:Value}:StrKeys (es.push ⟨hs,.str x t,v⟩):=hk.push _ _ _ _
theorem no_key {es:Array DictEntry}{name:PySem.Str} (h:∀ e∈es.toList,∃ x t,e.key=.str x t∧x≠name):es.findIdx? (·.key.isStr name)=none:=by
 rw[Array.findIdx?_eq_none_iff]
 intro e he
 refine e2_2 (h e (Array.mem_toList_iff.mpr he)) ?_;intro x t hk hx
 rw[hk]
 show(x==name)=false
 simpa using hx
theorem sets_push {A:Around}{Q:Unit→Shared→Prop}:∀ (kws:List (PySem.Str×Value)){es:Array DictEntry}{ep:Nat}{d:Addr}{s:Shared},s.heap.get? d=some (dObj es ep)→StrKeys es→(∀ e∈es.toList,∃ x t,e.key=.str x t∧x ∉ kws.map (·.1))→(kws.map (·.1)).Nodup →
  (∀ h' es' ep' tk,h'.get? d=some (dObj es' ep')→Heap.SameBut d s.heap h'→(∃ r,es'.toList=es.toList++r∧r.map (fun e=>(e.hash,e.val))=kws.map (fun e=>(hashStr W.w e.1,e.2))∧∀ (i:Nat) e,r[i]? = some e→∃ x t,e.key=.str x t∧(kws.map (·.1))[i]? = some x)→Q () { s with heap:=h',toks:=tk }) →
  wpAny (model W.prog W.w) A (forIn kws () (fun kv _=>nsSet d kv.1 kv.2 >>= fun _=>Pure.pure (ForInStep.yield ()))) Q (fun _ _=>False) s
 |[],es,ep,d,s,hD,hk,hno,nd,q=>by
  rw[List.forIn_nil]
  exact wpAny_pure (q s.heap es ep s.toks hD ⟨rfl,fun _ _=>rfl⟩ ⟨[],by simp,rfl,fun i e he=>by simp at he⟩)
 |(x,v)::kws,es,ep,d,s,hD,hk,hno,nd,q=>by
  rw[List.forIn_cons]
  rw[List.map_cons,List.nodup_cons] at nd
  have hno':∀ e∈es.toList,∃ y t,e.key=.str y t∧y≠x:=fun e he=>by
   refine e2_2 (hno e he) ?_;intro y t h1 h2
   exact⟨y,t,h1,fun z=>h2 (by rw[z];exact List.mem_cons_self ..)⟩
  refine wpAny_bind (wpAny_bind (nsSet_push hD hk (no_key hno') fun h' t hg hsb=>wpAny_pure ?_))
  refine sets_push kws hg (strKeys_push hk) (fun e he=>?_) nd.2 fun h'' es' ep' tk g1 g2 g3=>?_
  ·rw[Array.toList_push] at he
   rcases List.mem_append.mp he with he |he
   ·refine e2_2 (hno e he) ?_;intro y t h1 h2
    exact⟨y,t,h1,fun z=>h2 (List.mem_cons_of_mem _ z)⟩
   ·obtain rfl:=List.mem_singleton.mp he
    exact⟨x,t,rfl,nd.1⟩
  ·refine e1_3 g3 ?_;try clear g3;intro r e1 e2 e3
   rw[Array.toList_push] at e1
   refine q h'' es' ep' tk g1 ⟨g2.1.trans hsb.1,fun b hb=>(g2.2 b hb).trans (hsb.2 b hb)⟩ ⟨⟨hashStr W.w x,.str x t,v⟩::r,by rw[e1];simp,by rw[List.map_cons,e2];rfl,fun i e he=>?_⟩
   cases i with
   |zero=>cases he;exact⟨x,t,rfl,rfl⟩
   |succ i =>
    refine e2_2 (e3 i e he) ?_;intro y u h1 h2
    exact⟨y,u,h1,h2⟩
theorem drels_of {F:FM}{hs:PySem.Str→Int}:∀ {l:List (PySem.Str×PV)}{kws:List (PySem.Str×Value)}{r:List DictEntry},VRels F (l.map (·.2)) (kws.map (·.2))→kws.map (·.1)=l.map (·.1)→r.map (fun e=>(e.hash,e.val))=kws.map (fun e=>(hs e.1,e.2)) →
  (∀ (i:Nat) e,r[i]? = some e→∃ x t,e.key=.str x t∧(kws.map (·.1))[i]? = some x)→DRels F hs l r
 |[],kws,r,h1,h2,h3,h4=>by
  cases kws with
  |nil=>cases r with
   |nil=>rfl
   |cons _ _=>cases h3
  |cons _ _=>cases h2
 |(x,p)::l,kws,r,h1,h2,h3,h4=>by
  cases kws with
  |nil=>cases h2
  |cons kv kws =>
   cases r with
   |nil=>cases h3
   |cons e r =>
    obtain ⟨x',v⟩:=kv
    refine e2_3 h1 ?_;try clear h1;intro v' ws e1 hv hr
    rw[List.map_cons] at e1
    cases e1
    rw[List.map_cons,List.map_cons,List.cons.injEq] at h2
    rw[List.map_cons,List.map_cons,List.cons.injEq,Prod.mk.injEq] at h3
    refine e2_2 (h4 0 e rfl) ?_;intro y t k1 k2
    have k2:some x'=some y:=k2
    cases k2
    obtain rfl:x'=x:=h2.1
    obtain ⟨eh,ek,ev⟩:=e
    have q1:eh=hs x':=h3.1.1
    have q2:ev=v:=h3.1.2
    have q3:ek=.str x' t:=k1
    subst q1 q2 q3
    exact⟨t,ev,r,rfl,hv,drels_of hr h2.2 h3.2 fun i e he=>by
     refine e2_2 (h4 (i+1) e he) ?_;intro y u g1 g2
     exact⟨y,u,g1,g2⟩⟩
noncomputable def kn4:List PySem.Str:=["as_two","of","by","on"]
theorem ah2_C (D:L1 W){N:HdrCls W} (M:Hdr2 W N){H:HdrA}{es:List (List Nat×List Nat)}{r b o:List Nat}{K:PV→Sig→Prop} (ps:List Prm) (hps:ps=[(("as_two":PySem.Str),some r),(("of":PySem.Str),none),(("by":PySem.Str),some b),(("on":PySem.Str),some o)]) (hok:∀ p∈ps,PrmOK p) (O:HdrOK N.C H σ) (hx:okN x) (hy:okV y) (hzx:x.length≤1000000) (hzy:y.length≤1000) (hz:es.length≤100000)
  (hl:lens [59,32] (y::ps.map prmL)≤16000000)
  (h:K .none (hds H (es++[(x,jn [59,32] (y::ps.map prmL))]) σ)):CC W (k+2) (.ref N.ah) [.ref H.a,.str x,.str y] kn4 [.str r,.none,.str b,.str o] (hds H es σ) K:=by
 refine e5_1 (N.ahM.fn.fn) ?_;intro doc pm an cd ct f1
 have T:=D.T
 have hal:=O.al
 have hnd:((ps.map prmV).map (·.1)).Nodup:=by subst hps;show kn4.Nodup;decide
 refine CC_fcs T f1 [("self",.ref H.a,none),("_name",.str x,none),("_value",.str y,none),("_params",.dct (hashStr W.w) (ps.map prmV),none)] 0 (fun vs ws=>?_) rfl ⟨rfl,rfl,rfl,rfl,trivial⟩ (by rfl) rfl fun (L:Nat) hL=>?_
 ·refine .grow (b:=[(("self":Str),PV.ref H.a),("_name",.str x),("_value",.str y),("_params",.dct (hashStr W.w) (ps.map prmV))]) T ⟨rfl,rfl⟩ fun A hA s hs hpat Q q=>?_
  refine e0_2 hpat ?_;try clear hpat;intro zz1 hws;obtain ⟨v,r1,e1,h1,w,r2,e2,h2,u,r3,e3,h3,e4⟩:=zz1
  subst e1 e2 e3
  obtain rfl:r3=[]:=e4
  have hws':=hws
  obtain ⟨w1,q1,rfl,g1,w2,q2,rfl,g2,w3,q3,rfl,g3,w4,q4,rfl,g4,e5⟩:=hws
  obtain rfl:q4=[]:=e5
  rw[show bindArgs (fnX (nameOf (methAt 7 16)) "Headers.add_header" (paramsOf (methAt 7 16)) (bodyOf (methAt 7 16)) (scopeOf (methAt 7 16)) [] .none .none doc pm an cd ct) ⟨[v,w,u],kn4.zip [w1,w2,w3,w4]⟩=(alloc { cls:=.type "dict",data:=.dict #[] } >>= fun d=>forIn [(("as_two":Str),w1),("of",w2),("by",w3),("on",w4)] () (fun kv _=>nsSet d kv.1 kv.2 >>= fun _=>Pure.pure (ForInStep.yield ())) >>= fun _=>Pure.pure [(("self":Str),v),("_name",w),("_value",u),("_params",.ref d)]:Sem (List (Str×Value))) by rfl]
  refine wpAny_bind (wpAny_alloc ?_)
  refine wpAny_bind (sets_push (W:=W) _ (es := #[]) (ep:=0) (Heap.get?_push_size _ rfl) (fun e he=>by simp at he) (fun e he=>by simp at he) (by show kn4.Nodup;decide) fun h' es' ep' tk k1 k2 k3=>wpAny_pure ?_)
  have hsl:SLe s.heap h':=fun a o' e=>by
   have hlt:=Heap.lt_size e
   rw[k2.2 a (Nat.ne_of_lt hlt)]
   exact Heap.get?_push_of_some _ e
  have hk:FLe (Fz (hds H es σ) s.heap) (Fz (hds H es σ) h'):=fle_grow hsl
  refine q _ h' tk hsl ⟨v,_,rfl,h1.mono hk,w,_,rfl,h2.mono hk,u,_,rfl,h3.mono hk,_,[],rfl,⟨_,es',ep',rfl,⟨hs.fresh _ (Nat.le_refl _),k1,by intro z;cases z⟩,?_,?_⟩,rfl⟩
  ·show decide (s.heap.objs.size=sysModules)=false
   exact decide_eq_false (Nat.ne_of_gt (Nat.lt_of_lt_of_le N.sys hs.sz))
  ·refine e1_3 k3 ?_;try clear k3;intro rr j1 j2 j3
   rw[show es'.toList=rr by rw[j1];rfl]
   subst hps
   exact drels_of (kws:=[(("as_two":Str),w1),("of",w2),("by",w3),("on",w4)]) (hws'.mono hk) rfl j2 j3
 have hb:=O.below hL
 have hOL:∀ {τ m cs},HdrOK N.C H τ→HdrOK N.C H (fcs τ L m cs):=fun {τ m cs} O=>⟨(fcs_lt hb.1).trans O.at_,O.al⟩
 have hOh:HdrOK N.C H (hds H es σ):=⟨(upd_ne hal).trans O.at_,hal⟩
 refine XS_setl T (E_ListM (EL_nil ⟨by simp,fun (pl:Nat) hpl=>?_⟩))
 have hLp:L<pl:=fcs_fresh hpl
 have hOp:∀ {l},HdrOK N.C H ((hds H es σ).upd pl l):=fun {l}=>⟨(upd_ne (Nat.ne_of_lt (Nat.lt_trans hb.1 hLp))).trans hOh.at_,hal⟩
 have hpl:∀ {l m},fcs ((hds H es σ).upd pl (.list l)) L m [] pl=some (.list l):=fun {l m}=>(fcs_gt hLp).trans (upd_same _ _ _)
 refine⟨_,_,_,fcs_gt' hLp,?_⟩
 refine XS_if (T_Compare (E_l (E_none (isnot_none_str (truthy_bool ?_)))))
 refine XS_setl T (E_cv (k:=k) D N (E_l ⟨rfl,hOL hOp,E_l (E_bool ⟨y,false,rfl,rfl,hy,by exact Nat.le_of_lt (cC hzy (by decide)),_,_,_,rfl,?_⟩)⟩))
 refine XS_expr (E_Meth [] (kp:=.machine) (E_l (GM_ref hpl PySem.F.slot_list_append PySem.F.type_list_append ?_)))
 refine EL_cons (E_l ?_)
 refine EL_nil (EK_nil ⟨KP_blt,C_append T hpl (by simp) ?_⟩)
 rw[fcs_gt' hLp,upd_upd]
 refine⟨rfl,XS_nil ?_⟩
 have hpn:ps.length≤4:=by rw[hps];exact Nat.le_refl _
 have hdl:(dpairs (ps.map prmV)).length=ps.length:=by unfold dpairs;rw[List.length_map,List.length_map]
 refine XS_cons (X_ForI (tup:=true) T (dpairs (ps.map prmV)) (fun _ _=>True) (fun _ i σ'=>∃ m,σ'=fcs ((hds H es σ).upd pl (.list (stsL (y::(ps.take i).map prmL)))) L m []∧m "self"=some (.ref H.a)∧m "_name"=some (.str x)∧m "parts"=some (.ref pl)) (EI_of ?_) (fun _ _ _ _=>trivial) ?_ ?_)
 ·refine E_Meth [] (kp:=.machine) (E_l (GM_dct ?_))
  exact EL_nil (EK_nil ⟨KP_blt,C_items T rfl hnd ⟨Itbl.dit rfl hnd,trivial,_,rfl,rfl,rfl,rfl⟩⟩)
 ·intro _ i p σ' hp zz1;refine e1_4 zz1 ?_;clear zz1;intro m zz2 hm1 hm2 hm3;subst zz2
  refine e1_2 (by
   unfold dpairs at hp
   rw[List.getElem?_map,List.getElem?_map] at hp
   cases q:ps[i]? with
   |none=>rw[q] at hp;cases hp
   |some pr=>rw[q] at hp;exact⟨pr,rfl,(Option.some.inj hp).symm⟩:∃ pr,ps[i]? = some pr∧p=.tup [.str pr.1.cps.toList,(prmV pr).2]) ?_;intro pr hpr zz1;subst zz1
  have hpo:=hok pr (List.mem_of_getElem? hpr)
  have hi:i<ps.length:=by
   rcases Nat.lt_or_ge i ps.length with q |q
   ·exact q
   ·rw[List.getElem?_eq_none q] at hpr;cases hpr
  have hnx:stsL (y::(ps.take i).map prmL)++[PV.str (prmL pr)]=stsL (y::(ps.take (i+1)).map prmL):=by
   unfold stsL
   rw[List.take_add_one,hpr,List.map_append,List.map_cons,List.map_cons,List.map_append];rfl
  have hlp:(stsL (y::(ps.take i).map prmL)).length≤1000000:=by
   unfold stsL;rw[List.length_map,List.length_cons,List.length_map,List.length_take];exact Nat.le_trans (Nat.add_le_add (Nat.le_trans (Nat.min_le_left _ _) (Nat.le_trans (Nat.le_of_lt hi) hpn)) (Nat.le_refl _)) (by decide)
  refine AT_tup T rfl ?_
  refine AT_name (S_l T ?_)
  refine AT_name (S_l T ?_)
  refine gen fun K₁ hK₁=>?_
  have n1:∀ {X:PySem.Str}{u v:PV},X≠"k"→X≠"v"→(fset (fset m "k" u) "v" v) X=m X:=fun {X u v} a b=>by rw[fset_ne b,fset_ne a]
  refine XS_setl T (E_cv (k:=k) D N (E_l ⟨rfl,hOL hOp,?_⟩ ((n1 (by decide) (by decide)).trans hm1)))
  refine E_l ?_ ((fset_ne (by decide)).trans (fset_same _ _ _))
  refine E_bool ⟨pr.1.cps.toList,true,rfl,rfl,hpo.k,by have:=hpo.kl;exact Nat.le_of_lt (cC this (by decide)),_,_,_,rfl,?_⟩
  have hkl:=hpo.kl
  have hkr:=hpo.kr
  obtain ⟨kn,kv⟩:=pr
  cases kv with
  |none =>
   refine XS_if (T_Compare (E_l ?_ ((fset_ne (by decide)).trans (fset_same _ _ _))))
   refine E_none (is_none_none (truthy_bool ?_))
   refine(?_:XS W _ _ _ _ _)
   refine XS_expr (E_Meth [] (kp:=.machine) (E_l ?_ ((fset_ne (by decide)).trans ((n1 (by decide) (by decide)).trans hm3))))
   refine GM_ref hpl PySem.F.slot_list_append PySem.F.type_list_append ?_
   refine EL_cons (EE.h ?_:E _ _ _ _ _ _)
   refine EE_Meth [] (kp:=.machine) (E_l ?_ (fset_same _ _ _))
   refine GM_str PySem.F.slot_str_replace PySem.F.type_str_replace ?_
   refine EL_two [95] [45] fun u v hu hv huv=>EK_nil ⟨KP_blt,C_replace hu hv huv (by simp) (by simp;simp at hkl;exact Nat.le_trans (Nat.add_le_add hkl (Nat.add_le_add hkl (Nat.le_refl _))) (by decide)) ?_⟩
   refine EL_nil (EK_nil ⟨KP_blt,C_append T hpl hlp ?_⟩)
   rw[fcs_gt' hLp,upd_upd]
   refine⟨rfl,XS_nil (XS_nil ?_)⟩
   subst hK₁
   exact⟨_,congrArg (fun l=>fcs ((hds H es σ).upd pl (.list l)) L _ []) hnx,(fset_ne (by decide)).trans ((n1 (by decide) (by decide)).trans hm1),(fset_ne (by decide)).trans ((n1 (by decide) (by decide)).trans hm2),(fset_ne (by decide)).trans ((n1 (by decide) (by decide)).trans hm3)⟩
  |some v =>
   refine e0_5 (hpo.v v rfl) ?_;intro v1 v2 v3 v4 v5
   refine XS_if (T_Compare (E_l ?_ ((fset_ne (by decide)).trans (fset_same _ _ _))))
   refine E_none (is_none_str (truthy_bool ?_))
   refine(?_:XS W _ _ _ _ _)
   refine XS_setl T (E_cv (k:=k) D N (E_l ⟨rfl,hOL hOp,?_⟩ ((fset_ne (by decide)).trans ((n1 (by decide) (by decide)).trans hm1))))
   refine E_l ?_ ((fset_ne (by decide)).trans (fset_same _ _ _))
   refine E_bool ⟨v,false,rfl,rfl,v1,by exact Nat.le_of_lt (cC v3 (by decide)),_,_,_,rfl,?_⟩
   refine XS_expr (E_Meth [] (kp:=.machine) (E_l ?_ ((fset_ne (by decide)).trans ((fset_ne (by decide)).trans ((n1 (by decide) (by decide)).trans hm3)))))
   refine GM_ref hpl PySem.F.slot_list_append PySem.F.type_list_append ?_
   refine EL_cons (E_Call [] (kp:=.frame) (E_gl T M.fpG ?_))
   refine EL_cons (EE.h ?_:E _ _ _ _ _ _)
   refine EE_Meth [] (kp:=.machine) (E_l ?_ ((fset_ne (by decide)).trans (fset_same _ _ _)))
   refine GM_str PySem.F.slot_str_replace PySem.F.type_str_replace ?_
   refine EL_two [95] [45] fun u w hu hw huw=>EK_nil ⟨KP_blt,C_replace hu hw huw (by simp) (by simp;simp at hkl;exact Nat.le_trans (Nat.add_le_add hkl (Nat.add_le_add hkl (Nat.le_refl _))) (by decide)) ?_⟩
   refine EL_cons (E_l ?_ (fset_same _ _ _))
   refine EL_nil (EK_nil ⟨?_,(fp_C (k:=k) D M (by exact Nat.le_of_lt (cC hkr (by decide))) (by exact Nat.le_of_lt (cC v3 (by decide))) v2 (by exact Nat.le_of_lt (cC v4 (by decide))) (by exact Nat.le_of_lt (cC v5 (by decide))) ?_).call⟩)
   ·refine e6_2 (M.fpF.fn) ?_;intro _ _ _ _ _ _ f _;exact f.kp
   refine EL_nil (EK_nil ⟨KP_blt,C_append T hpl hlp ?_⟩)
   rw[fcs_gt' hLp,upd_upd]
   refine⟨rfl,XS_nil (XS_nil ?_)⟩
   subst hK₁
   exact⟨_,congrArg (fun l=>fcs ((hds H es σ).upd pl (.list l)) L _ []) hnx,(fset_ne (by decide)).trans ((fset_ne (by decide)).trans ((n1 (by decide) (by decide)).trans hm1)),(fset_ne (by decide)).trans ((fset_ne (by decide)).trans ((n1 (by decide) (by decide)).trans hm2)),(fset_ne (by decide)).trans ((fset_ne (by decide)).trans ((n1 (by decide) (by decide)).trans hm3))⟩
 intro _ σ' zz1;refine e1_4 zz1 ?_;clear zz1;intro m zz2 hm1 hm2 hm3;subst zz2
 rw[hdl,List.take_length]
 refine XS_nil ?_
 refine XS_expr (E_Meth [] (kp:=.machine) (E_Attr (E_l ?_ hm1)))
 refine OA_inst T N.X N.no (hOL hOp).at_ rfl (by intro n z;cases z) ?_
 have hlp:H.l≠pl:=Nat.ne_of_lt (Nat.lt_trans hb.2 hLp)
 have hgl:∀ {m l},fcs ((hds H es σ).upd pl (.list l)) L m [] H.l=some (.list (ents es)):=fun {m l}=>(fcs_lt hb.2).trans ((upd_ne hlp).trans (upd_same _ _ _))
 refine GM_ref hgl PySem.F.slot_list_append PySem.F.type_list_append ?_
 refine EL_cons (E_Tuple ?_)
 refine EL_cons (E_cv (k:=k) D N (E_l ⟨rfl,hOL hOp,?_⟩ hm1))
 refine E_l ?_ hm2
 refine E_bool ⟨x,true,rfl,rfl,hx,hzx,?_⟩
 refine EL_cons (E_Meth [] (kp:=.machine) (E_strL [59,32] (GM_str PySem.F.slot_str_join PySem.F.type_str_join ?_)))
 refine EL_cons (E_l ?_ hm3)
 refine EL_nil (EK_nil ⟨KP_blt,C_joinL (l:=y::ps.map prmL) (.inr ⟨pl,rfl,hpl⟩) hl ?_⟩)
 refine EL_nil ⟨by simp,EL_nil (EK_nil ⟨KP_blt,C_append T hgl (by unfold ents;rw[List.length_map];exact Nat.le_trans (by assumption) (by decide)) ?_⟩)⟩
 rw[fcs_lt' hb.2,upd_comm hlp.symm]
 refine⟨rfl,XS_nil ?_⟩
 show K _ _
 rw[fcs_resr,res_upd_ge (Nat.le_of_lt hLp)]
 unfold hds
 rw[upd_upd,res_upd_lt hb.2]
 have hf:Fresh σ L:=fun b hb'=>by
  have:=hL b hb'
  unfold hds at this
  rwa [upd_ne (Nat.ne_of_gt (Nat.lt_of_lt_of_le hb.2 hb'))] at this
 rw[res_fresh hf]
 unfold hds at h
 rw[← ents_app] at h
 exact h
end
structure Prep (W:Wd) where
 ab1:Addr
 F1:Fn W ab1 "in_table_b1" (defAt 15)
 h1:W.mg "in_table_b1"=some (.ref ab1)
 b1:Addr
 hm1:W.mg "b1_set"=some (.ref b1)
 g:Int→Bool
 S1:SetF W b1 g
 am3:Addr
 F3:Fn W am3 "map_table_b3" (defAt 17)
 h3:W.mg "map_table_b3"=some (.ref am3)
 b3:Addr
 hm3:W.mg "b3_exceptions"=some (.ref b3)
 f:Int→Option (List Nat)
 S3:TabF W b3 f
 lp:Addr
 F:Fn W lp "_law_prepared" (defAt 20)
 G:W.mg "_law_prepared"=some (.ref lp)
 prepW:∀ p,p<32→prepL f g (wordC p)=lowerL (wordC p)
theorem flags_one:∀ p:Fin 32,((List.range 32).filter fun i=>(2^p.val).testBit i)=[p.val]:=by decide +kernel
theorem flagsL_one {p:Nat} (hp:p<32):flagsL (2^p)=[wordC p]:=by
 exact congrArg (List.map wordC) (flags_one ⟨p,hp⟩)
theorem okN_of {x:List Nat} (h:(x.all fun c=>decide (32≤c∧c≠127))=true):okN x:=fun c hc=>by
 have:=List.all_eq_true.mp h c hc
 exact of_decide_eq_true this
theorem okV_of {x:List Nat} (h:(x.all fun c=>decide (32≤c∧c≠127))=true):okV x:=fun c hc=>by
 have:=List.all_eq_true.mp h c hc
 exact⟨.inl (of_decide_eq_true this).1,(of_decide_eq_true this).2⟩
theorem one_shl (n:Nat):(1:Int)*2^((n:Int)).toNat=((2^n:Nat):Int):=by simp
noncomputable def both (C:Addr) (A:LexA) (H:HdrA) (pos:Nat) (ln:Int) (pbl:List (List Nat)) (es:List (List Nat×List Nat)) (σ:Sig):Sig:=lxs C A pos pbl ln (hds H es σ)
structure BothOK (C Ch:Addr) (A:LexA) (H:HdrA) (tx:List Nat) (σ:Sig):Prop where
 lex:LexOK C A tx σ
 hdr:HdrOK Ch H σ
 la:H.l≠A.a
 lb:H.l≠A.pb
 lp:H.l≠A.P
 lt:H.l≠A.tape
 aa:H.a≠A.a
 ab:H.a≠A.pb
 ap:H.a≠A.P
structure Out (H:HdrA) (L n:Nat):Prop where
 l:H.l<L∨L+n<H.l
 a:H.a<L∨L+n<H.a
section
variable {C Ch:Addr}{A:LexA}{H:HdrA}{tx:List Nat}{pos:Nat}{ln:Int}{pbl pbl':List (List Nat)}{es es':List (List Nat×List Nat)}{σ:Sig}{L:Nat}{m:Str→Option PV}{cs:List (Option PV)}
theorem both_hds (O:BothOK C Ch A H tx σ):both C A H pos ln pbl es σ=hds H es (lxs C A pos pbl ln σ):=by
 unfold both hds
 exact lxs_upd O.la O.lb O.lp
theorem hds_fcs (hH:H.l<L∨L+cs.length<H.l):hds H es (fcs σ L m cs)=fcs (hds H es σ) L m cs:=by
 unfold hds
 rcases hH with q |q
 ·exact fcs_lt' q
 ·exact fcs_gt' q
theorem fcs_out {a:Nat} (h:a<L∨L+cs.length<a):fcs σ L m cs a=σ a:=h.elim fcs_lt fcs_gt
theorem both_fcs (hA:A.below L) (hH:Out H L cs.length):both C A H pos ln pbl es (fcs σ L m cs)=fcs (both C A H pos ln pbl es σ) L m cs:=by
 unfold both
 rw[hds_fcs hH.l,lxs_fcs hA]
theorem HdrOK.fcs (O:HdrOK Ch H σ) (hH:Out H L cs.length):HdrOK Ch H (fcs σ L m cs):=⟨(fcs_out hH.a).trans O.at_,O.al⟩
theorem BothOK.fcs (O:BothOK C Ch A H tx σ) (hA:A.below L) (hH:Out H L cs.length):BothOK C Ch A H tx (fcs σ L m cs) :=
 ⟨O.lex.fcs hA.2.2.2,O.hdr.fcs hH,O.la,O.lb,O.lp,O.lt,O.aa,O.ab,O.ap⟩
theorem BothOK.lexh (O:BothOK C Ch A H tx σ):LexOK C A tx (hds H es σ):=O.lex.upd O.lt
theorem BothOK.hdrl (O:BothOK C Ch A H tx σ):HdrOK Ch H (lxs C A pos pbl ln σ):=⟨(lxs_else O.aa O.ab O.ap).trans O.hdr.at_,O.hdr.al⟩
end
section
variable {W:Wd}{k:Nat}{σ:Sig}{env:Env}{P:FM→Prop}{x y:List Nat}{A:LexA}{H:HdrA}{tx:List Nat}{pos:Nat}{ln:Int}{pbl:List (List Nat)}{es:List (List Nat×List Nat)}{L:Nat}{m:Str→Option PV}{cs:List (Option PV)}{K:PV→Sig→Prop}
theorem b_push (D:L1 W) (N:LexCls W){Ch:Addr} (O:BothOK N.C Ch A H tx σ) (hA:A.below L) (hH:Out H L cs.length) (hz:pbl.length≤100000)
  (h:K .none (fcs (both N.C A H pos ln (pbl++[x]) es σ) L m cs)):CC W (k+1) (.ref N.pt) [.ref A.a,.str x] [] [] (fcs (both N.C A H pos ln pbl es σ) L m cs) K:=by
 rw[← both_fcs hA hH]
 refine pt_C D N ((O.fcs hA hH).lexh) hz ?_
 show K _ (both N.C A H pos ln (pbl++[x]) es (fcs σ L m cs))
 rw[both_fcs hA hH];exact h
theorem b_pop (D:L1 W) (N:LexCls W){Ch:Addr} (O:BothOK N.C Ch A H tx σ) (hA:A.below L) (hH:Out H L cs.length) (hz:pbl.length≤100000)
  (h:K (.str x) (fcs (both N.C A H pos ln pbl es σ) L m cs)):CC W (k+1) (.ref N.gt) [.ref A.a] [] [] (fcs (both N.C A H pos ln (x::pbl) es σ) L m cs) K:=by
 rw[← both_fcs hA hH]
 refine gt_pop_C D N ((O.fcs hA hH).lexh) hz ?_
 show K _ (both N.C A H pos ln pbl es (fcs σ L m cs))
 rw[both_fcs hA hH];exact h
theorem b_get (D:L1 W) (N:LexCls W){Hc:HdrCls W} (M:Hdr2 W Hc) (O:BothOK N.C Hc.C A H tx σ) (hA:A.below L) (hH:Out H L cs.length) (hx:okN (lowerL x)) (hzx:x.length≤1000000) (hzx':(lowerL x).length≤1000000) (hz:es.length≤100000) (he:∀ e∈es,e.1.length≤1000000)
  (h:K (match fstL es (lowerL x) with |some y=>.str y |none=>.none) (fcs (both N.C A H pos ln pbl es σ) L m cs)):CC W (k+2) (.ref M.gt) [.ref H.a,.str x] [] [] (fcs (both N.C A H pos ln pbl es σ) L m cs) K:=by
 rw[← both_fcs hA hH,both_hds (O.fcs hA hH)]
 refine get_C0 D M (O.fcs hA hH).hdrl hx hzx hzx' hz he (.inl ⟨rfl,rfl⟩) ?_
 rw[← both_hds (O.fcs hA hH),both_fcs hA hH];exact h
theorem b_del (D:L1 W) (N:LexCls W){Hc:HdrCls W} (M:Hdr2 W Hc) (O:BothOK N.C Hc.C A H tx σ) (hA:A.below L) (hH:Out H L cs.length) (hx:okN (lowerL x)) (hzx:x.length≤1000000) (hzx':(lowerL x).length≤1000000) (hz:es.length≤100000) (he:∀ e∈es,e.1.length≤1000000)
  (h:K .none (fcs (both N.C A H pos ln pbl (delL es (lowerL x)) σ) L m cs)):CC W (k+2) (.ref M.dl) [.ref H.a,.str x] [] [] (fcs (both N.C A H pos ln pbl es σ) L m cs) K:=by
 rw[← both_fcs hA hH,both_hds (O.fcs hA hH)]
 refine dl_C D M (O.fcs hA hH).hdrl hx hzx hzx' hz he ?_
 rw[← both_hds (O.fcs hA hH),both_fcs hA hH];exact h
theorem b_add (D:L1 W) (N:LexCls W){Hc:HdrCls W} (M:Hdr2 W Hc){r b o:List Nat} (O:BothOK N.C Hc.C A H tx σ) (hA:A.below L) (hH:Out H L cs.length) (ps:List Prm) (hps:ps=[(("as_two":PySem.Str),some r),(("of":PySem.Str),none),(("by":PySem.Str),some b),(("on":PySem.Str),some o)]) (hok:∀ p∈ps,PrmOK p) (hx:okN x) (hy:okV y) (hzx:x.length≤1000000) (hzy:y.length≤1000) (hz:es.length≤100000)
  (hl:lens [59,32] (y::ps.map prmL)≤16000000)
  (h:K .none (fcs (both N.C A H pos ln pbl (es++[(x,jn [59,32] (y::ps.map prmL))]) σ) L m cs)):CC W (k+2) (.ref Hc.ah) [.ref H.a,.str x,.str y] kn4 [.str r,.none,.str b,.str o] (fcs (both N.C A H pos ln pbl es σ) L m cs) K:=by
 rw[← both_fcs hA hH,both_hds (O.fcs hA hH)]
 refine ah2_C D M ps hps hok (O.fcs hA hH).hdrl hx hy hzx hzy hz hl ?_
 rw[← both_hds (O.fcs hA hH),both_fcs hA hH];exact h
theorem b_a {C:Addr} (hA:A.below L):fcs (both C A H pos ln pbl es σ) L m cs A.a=some (.inst C A.d (lexF A.ws A.tape A.pb ln) 4):=(fcs_lt hA.1).trans lxs_a
theorem b_h {C Ch:Addr} (O:BothOK C Ch A H tx σ) (hH:Out H L cs.length):fcs (both C A H pos ln pbl es σ) L m cs H.a=some (.inst Ch H.d (hdF H.l) 1):=by
 rw[fcs_out hH.a]
 unfold both
 rw[lxs_else O.aa O.ab O.ap]
 exact(upd_ne O.hdr.al).trans O.hdr.at_
end
noncomputable def kk (n:Nat):Nat:=(([2,4,8,16]:List Nat).filter fun p=>decide (n%p=0)).length
noncomputable def plc (n:Nat):Nat:=([0,5,9,12]:List Nat).getD (n/2^kk n/2) 0+kk n
noncomputable def sizesV:List Nat:=[1,2,4,8,16,3,6,12,24,5,10,20,7,14,28]
noncomputable def runL (n:Nat):List Nat:=List.replicate n 92
noncomputable def wN (low n:Nat):List Nat:=wordC (low+plc n)
noncomputable def valL (n:Nat):List Nat:=[120,59,32,97,115,45,116,119,111,61,34]++runL (2*n)++[34,59,32,111,102,59,32,98,121,61,34,92,34,92,92,34,59,32,111,110,61,34,121,34]
noncomputable def nmE (low:Nat) (e:Nat×Bool):List Nat:=if e.2 then lowerL (wN low e.1) else wN low e.1
noncomputable def shE (low:Nat) (sh:List (Nat×Bool)):List (List Nat×List Nat):=sh.map fun e=>(nmE low e,valL e.1)
structure Jst where
 q:List Nat
 sh:List (Nat×Bool)
 came:List Nat
noncomputable def jstep (s:Jst):Jst:=match s.q with
 |[]=>s
 |n::q=>if s.sh.any fun e=>decide (e.1=n) then ⟨q++[2*n],s.sh.filter fun e => !decide (e.1=n),s.came++[n]⟩ else ⟨q,s.sh++[(n,decide ((s.came.length+1)%2=1))],s.came++[n]⟩
noncomputable def jit (s:Jst):Nat→Jst
 |0=>s
 |i+1=>jstep (jit s i)
theorem plc_ok:∀ n∈sizesV,n/2^kk n/2<4∧plc n≤14∧n≤28∧1≤n∧kk n≤4:=by decide
theorem plc_inj:∀ n∈sizesV,∀ m∈sizesV,plc n=plc m→n=m:=by decide
theorem word_ok:∀ p:Fin 32,(wordC p.val).length≤30∧(lowerL (wordC p.val)).length≤30∧((wordC p.val).all fun c=>decide (32≤c∧c≠127))=true∧((lowerL (wordC p.val)).all fun c=>decide (32≤c∧c≠127))=true∧lowerL (lowerL (wordC p.val))=lowerL (wordC p.val):=by decide +kernel
theorem word_inj:∀ p q:Fin 32,lowerL (wordC p.val)=lowerL (wordC q.val)→p=q:=by decide +kernel
theorem wN_eq {low:Nat} (hlow:low≤17){n m:Nat} (hn:n∈sizesV) (hm:m∈sizesV) (h:lowerL (wN low n)=lowerL (wN low m)):n=m:=by
 have h1:=(plc_ok n hn).2.1
 have h2:=(plc_ok m hm).2.1
 have:=word_inj ⟨low+plc n,by exact Nat.lt_of_le_of_lt (Nat.add_le_add hlow h1) (by decide)⟩ ⟨low+plc m,by exact Nat.lt_of_le_of_lt (Nat.add_le_add hlow h2) (by decide)⟩ h
 have:=congrArg Fin.val this
 exact plc_inj n hn m hm (by simpa using this)
theorem wN_ok {low:Nat} (hlow:low≤17){n:Nat} (hn:n∈sizesV):(wN low n).length≤30∧(lowerL (wN low n)).length≤30∧((wN low n).all fun c=>decide (32≤c∧c≠127))=true∧((lowerL (wN low n)).all fun c=>decide (32≤c∧c≠127))=true∧lowerL (lowerL (wN low n))=lowerL (wN low n):=by
 have h1:=(plc_ok n hn).2.1
 exact word_ok ⟨low+plc n,by exact Nat.lt_of_le_of_lt (Nat.add_le_add hlow h1) (by decide)⟩
theorem nmE_lower {low:Nat} (hlow:low≤17){e:Nat×Bool} (hn:e.1∈sizesV):lowerL (nmE low e)=lowerL (wN low e.1):=by
 unfold nmE
 split
 ·exact(wN_ok hlow hn).2.2.2.2
 ·rfl
theorem nmE_ok {low:Nat} (hlow:low≤17){e:Nat×Bool} (hn:e.1∈sizesV):(nmE low e).length≤30∧((nmE low e).all fun c=>decide (32≤c∧c≠127))=true:=by
 refine e0_5 (wN_ok hlow hn) ?_;intro a b c d _
 unfold nmE
 split
 ·exact⟨b,d⟩
 ·exact⟨a,c⟩
theorem val_split:∀ n∈sizesV,(splitL (valL n) [34])[1]? = some (runL (2*n))∧(valL n).length≤100∧((valL n).all fun c=>decide (32≤c∧c≠127))=true∧((valL n).all fun c=>decide (c<1114112))=true:=by decide +kernel
noncomputable def ps4 (n:Nat):List Prm:=[(("as_two":PySem.Str),some (runL n)),(("of":PySem.Str),none),(("by":PySem.Str),some [34,92]),(("on":PySem.Str),some [121])]
theorem ps4_val:∀ n∈sizesV,jn [59,32] ([120]::(ps4 n).map prmL)=valL n∧lens [59,32] ([120]::(ps4 n).map prmL)≤16000000:=by decide +kernel
noncomputable def prmB (p:Prm):Bool:=(p.1.cps.toList.all fun c=>decide (32≤c∧c≠127))&&decide (p.1.cps.toList.length≤1000)&&decide ((replL p.1.cps.toList [95] [45]).length≤1000)&&match p.2 with
 |none=>true
 |some v=>(v.all fun c=>decide (32≤c∧c≠127))&&decide (v≠[])&&decide (v.length≤1000)&&decide ((replL v [92] [92,92]).length≤10000)&&decide ((fpL v).length≤10000)
theorem prmOK_of {p:Prm} (h:prmB p=true):PrmOK p:=by
 unfold prmB at h
 simp only[Bool.and_eq_true,decide_eq_true_eq] at h
 refine e0_2 h ?_;try clear h;intro zz1 h4;refine e0_2 zz1 ?_;clear zz1;intro zz2 h3;refine e0_2 zz2 ?_;clear zz2;intro h1 h2
 refine⟨okN_of h1,h2,h3,fun v hv=>?_⟩
 rw[hv] at h4
 simp only[Bool.and_eq_true,decide_eq_true_eq] at h4
 refine e0_2 h4 ?_;try clear h4;intro zz1 e;refine e0_2 zz1 ?_;clear zz1;intro zz2 d;refine e0_2 zz2 ?_;clear zz2;intro zz3 c;refine e0_2 zz3 ?_;clear zz3;intro a b
 exact⟨okV_of a,b,c,d,e⟩
theorem ps4_ok:∀ n∈sizesV,∀ p∈ps4 n,prmB p=true:=by decide +kernel
structure JI (s:Jst):Prop where
 q:∀ n∈s.q,n∈sizesV
 ql:s.q.length≤6
 sh:∀ e∈s.sh,e.1∈sizesV
 sl:s.sh.length≤6
 cl:s.came.length≤11
 cm:s.q≠[]→s.came.length≤10
theorem shE_find {low:Nat} (hlow:low≤17){n:Nat} (hn:n∈sizesV):∀ {sh:List (Nat×Bool)},(∀ e∈sh,e.1∈sizesV)→fstL (shE low sh) (lowerL (wN low n))=if sh.any (fun e=>decide (e.1=n)) then some (valL n) else none
 |[],_=>rfl
 |e::sh,h=>by
  have ih:=shE_find hlow hn (sh:=sh) fun e he=>h e (List.mem_cons_of_mem _ he)
  have he:=h e (List.mem_cons_self ..)
  have hl:=nmE_lower (low:=low) hlow he
  unfold fstL shE at ih ⊢
  rw[List.map_cons,List.any_cons]
  by_cases q:e.1=n
  ·rw[List.find?_cons_of_pos (by show decide (lowerL (nmE low e)=_)=true;rw[hl,q];simp),decide_eq_true q,Bool.true_or,if_pos rfl,← q];rfl
  ·rw[List.find?_cons_of_neg (by show ¬ decide (lowerL (nmE low e)=_)=true;rw[hl];intro z;exact q (wN_eq hlow he hn (of_decide_eq_true z))),decide_eq_false q,Bool.false_or]
   exact ih
theorem shE_del {low:Nat} (hlow:low≤17){n:Nat} (hn:n∈sizesV):∀ {sh:List (Nat×Bool)},(∀ e∈sh,e.1∈sizesV)→delL (shE low sh) (lowerL (wN low n))=shE low (sh.filter fun e => !decide (e.1=n))
 |[],_=>rfl
 |e::sh,h=>by
  have ih:=shE_del hlow hn (sh:=sh) fun e he=>h e (List.mem_cons_of_mem _ he)
  have he:=h e (List.mem_cons_self ..)
  have hl:=nmE_lower (low:=low) hlow he
  unfold delL shE at ih ⊢
  rw[List.map_cons,List.filter_cons,List.filter_cons]
  show(if (!decide (lowerL (nmE low e)=_))=true then _ else _)=_
  rw[hl]
  by_cases q:e.1=n
  ·rw[if_neg (by rw[q];simp),if_neg (by simp[q]),ih]
  ·have:¬ lowerL (wN low e.1)=lowerL (wN low n):=fun z=>q (wN_eq hlow he hn z)
   rw[if_pos (by simp[this]),if_pos (by simp[q]),List.map_cons,ih]
noncomputable def kPow (n:Nat):PV→Bool
 | .int p=>decide ((n:Int)%p=0)
 |_=>false
theorem kPow_eq (n:Nat):((([2,4,8,16]:List Int).map PV.int).filter (kPow n)).length=kk n:=by
 unfold kk
 have h2:kPow n (.int 2)=decide (n%2=0):=decide_eq_decide.mpr (by exact @Int.ofNat_inj (n%2) 0)
 have h4:kPow n (.int 4)=decide (n%4=0):=decide_eq_decide.mpr (by exact @Int.ofNat_inj (n%4) 0)
 have h8:kPow n (.int 8)=decide (n%8=0):=decide_eq_decide.mpr (by exact @Int.ofNat_inj (n%8) 0)
 have h16:kPow n (.int 16)=decide (n%16=0):=decide_eq_decide.mpr (by exact @Int.ofNat_inj (n%16) 0)
 simp only[List.map_cons,List.map_nil,List.filter_cons,List.filter_nil,h2,h4,h8,h16]
 cases decide (n%2=0) <;> cases decide (n%4=0) <;> cases decide (n%8=0) <;> cases decide (n%16=0) <;> rfl
theorem natsL_snoc (l:List Nat) (n:Nat):natsL l++[.int (n:Int)]=natsL (l++[n]):=by unfold natsL;simp
theorem natsL_len (l:List Nat):(natsL l).length=l.length:=List.length_map _
theorem runL_len (n:Nat):(runL n).length=n:=by unfold runL;simp
theorem shE_snoc (low:Nat) (sh:List (Nat×Bool)) (e:Nat×Bool):shE low (sh++[e])=shE low sh++[(nmE low e,valL e.1)]:=by unfold shE;simp
section
variable {W:Wd}{k:Nat}{σ:Sig}{env:Env}{P:FM→Prop}{x y:List Nat}
theorem C_len_ref {a:Addr}{l:List PV}{K:PV→Sig→Prop} (hσ:σ a=some (.list l)) (hz:l.length≤1000000) (h:K (.int l.length) σ):C W k (.blt "len") [.ref a] [] [] σ K:=C1 fun v va=>.id h fun A hA s hs hpat Q q=>by
 refine e0_2 hpat ?_;try clear hpat;intro e e1
 obtain rfl:v=.builtin "len":=e
 obtain rfl:va=.ref a:=e1
 refine e2_2 (hs.hr _ _ hσ) ?_;intro vs n ho r
 have hl:=r.length
 rw[Array.length_toList] at hl
 exact Calls.call_len_list (isList_of ho) (by lia) (q _ _ rfl rfl rfl ⟨_,by rw[hl]⟩)
theorem both_upd {C:Addr}{A:LexA}{H:HdrA}{pos:Nat}{ln:Int}{pbl:List (List Nat)}{es:List (List Nat×List Nat)}{L:Nat}{m:Str→Option PV}{cs:List (Option PV)}{a:Nat}{o:AObj} (ha:L+cs.length<a) (h1:a≠A.a) (h2:a≠A.pb) (h3:a≠A.P) (h4:a≠H.l) :
  (fcs (both C A H pos ln pbl es σ) L m cs).upd a o=fcs (both C A H pos ln pbl es (σ.upd a o)) L m cs:=by
 rw[fcs_gt' ha]
 unfold both hds
 rw[upd_comm h4,lxs_upd h1 h2 h3]
theorem law_joined_C (D:L1 W) (N:LexCls W) (Hc:HdrCls W) (M:Hdr2 W Hc) (Pp:Prep W){fa:Addr}{A:LexA}{tx:List Nat}{pos:Nat}{ln:Int}{low:Nat}{K:PV→Sig→Prop} (F:Fn W fa "_law_joined" (defAt 24)) (O:LexOK N.C A tx σ) (hlow:low≤17) (s0:Jst) (h6:s0.q.length=6) (hs0:s0.sh=[]) (hc0:s0.came=[]) (hI:∀ i,i≤11→JI (jit s0 i)) (hend:(jit s0 11).q=[])
  (h:∀ (L d l:Nat) (i:Nat),Fresh (lxs N.C A pos (s0.q.map runL) ln σ) L→L<d→d+1<l→i≤11→(jit s0 i).q=[]→K (.tup [.ref (d+1),.lst (natsL (jit s0 i).came)]) (both N.C A ⟨d+1,d,l⟩ pos ln [] (shE low (jit s0 i).sh) ((σ.upd d (.part (d+1))).upd (d+1) (.inst Hc.C d (hdF l) 1)))) :
  CC W (k+4) (.ref fa) [.ref A.a,.int low] [] [] (lxs N.C A pos (s0.q.map runL) ln σ) K:=by
 refine e5_1 (F.fn) ?_;intro doc pm an cd ct f1
 have T:=D.T
 refine CC_fcsS T f1 [("lexer",.ref A.a,none),("low",.int low,none)] 1 (bind2 (n:="lexer") (m:="low") (fun v w=>by rfl) ⟨rfl,rfl⟩) rfl ⟨rfl,rfl,trivial⟩ (by rfl) rfl fun (L:Nat) hL=>?_
 have hA:=O.below hL
 have hfr:=O.fresh hL
 refine e0_4 (id hA) ?_;intro hA1 hA2 hA3 hA4
 refine(?_:XS W _ _ _ (fcs _ L _ [none]) _)
 refine XS_cons (X_AssignSwap T ["shelf","came","waiting"] (E_Tuple ?_))
 refine EL_cons (E_Call [] (kp:=.machine) (E_gl T Hc.G ?_))
 refine EL_nil (EK_nil ⟨Hc.kp _,(hmake_C (k:=k+1) D Hc fun (d:Nat) (l:Nat) hdf hdl=>?_).call⟩)
 have hLd:L+1<d:=fcs_fresh hdf
 have e0:hds ⟨d+1,d,l⟩ [] (((fcs (lxs N.C A pos (s0.q.map runL) ln σ) L (bm' (fun _=>none) [(("lexer":PySem.Str),PV.ref A.a,none),("low",.int low,none)]) [none]).upd d (.part (d+1))).upd (d+1) (.inst Hc.C d (hdF l) 1)) =
   fcs (both N.C A ⟨d+1,d,l⟩ pos ln (s0.q.map runL) [] ((σ.upd d (.part (d+1))).upd (d+1) (.inst Hc.C d (hdF l) 1))) L (bm' (fun _=>none) [(("lexer":PySem.Str),PV.ref A.a,none),("low",.int low,none)]) [none]:=by
  rw[fcs_gt' (show L+1<d from hLd),fcs_gt' (show L+1<d+1 by exact cA hLd (Nat.lt_add_of_pos_right (by decide))),← lxs_upd (by exact Nat.ne_of_gt (cA hA1 (ltk hLd))) (by exact Nat.ne_of_gt (cA hA2 (ltk hLd))) (by exact Nat.ne_of_gt (cA hA3 (ltk hLd))),← lxs_upd (by exact Nat.ne_of_gt (cA hA1 (cA (ltk hLd) (Nat.lt_add_of_pos_right (by decide))))) (by exact Nat.ne_of_gt (cA hA2 (cA (ltk hLd) (Nat.lt_add_of_pos_right (by decide))))) (by exact Nat.ne_of_gt (cA hA3 (cA (ltk hLd) (Nat.lt_add_of_pos_right (by decide))))),hds_fcs (.inr (show L+1<l by exact cA hLd (ltk hdl)))]
  congr 1
  unfold both hds
  exact(lxs_upd (show l≠A.a by exact Nat.ne_of_gt (cA hA1 (cA (ltk hLd) (ltk hdl)))) (show l≠A.pb by exact Nat.ne_of_gt (cA hA2 (cA (ltk hLd) (ltk hdl)))) (show l≠A.P by exact Nat.ne_of_gt (cA hA3 (cA (ltk hLd) (ltk hdl))))).symm
 rw[e0]
 clear e0 hdf
 have OB:∀ c:Nat,l<c→∀ cm:List Nat,BothOK N.C Hc.C A ⟨d+1,d,l⟩ tx ((((σ.upd d (.part (d+1))).upd (d+1) (.inst Hc.C d (hdF l) 1))).upd c (.list (natsL cm))):=fun c hc cm =>
  ⟨((O.upd (show d≠A.tape by exact Nat.ne_of_gt (cA hA4 (ltk hLd)))).upd (show d+1≠A.tape by exact Nat.ne_of_gt (cA hA4 (cA (ltk hLd) (Nat.lt_add_of_pos_right (by decide)))))).upd (show c≠A.tape by exact Nat.ne_of_gt (cA hA4 (cA (ltk hLd) (cA (ltk hdl) hc)))),⟨(upd_ne (show d+1≠c by exact Nat.ne_of_lt (cA hdl hc))).trans (upd_same _ _ _),show d+1≠l by exact Nat.ne_of_lt hdl⟩,show l≠A.a by exact Nat.ne_of_gt (cA hA1 (cA (ltk hLd) (ltk hdl))),show l≠A.pb by exact Nat.ne_of_gt (cA hA2 (cA (ltk hLd) (ltk hdl))),show l≠A.P by exact Nat.ne_of_gt (cA hA3 (cA (ltk hLd) (ltk hdl))),show l≠A.tape by exact Nat.ne_of_gt (cA hA4 (cA (ltk hLd) (ltk hdl))),show d+1≠A.a by exact Nat.ne_of_gt (cA hA1 (cA (ltk hLd) (Nat.lt_add_of_pos_right (by decide)))),show d+1≠A.pb by exact Nat.ne_of_gt (cA hA2 (cA (ltk hLd) (Nat.lt_add_of_pos_right (by decide)))),show d+1≠A.P by exact Nat.ne_of_gt (cA hA3 (cA (ltk hLd) (Nat.lt_add_of_pos_right (by decide))))⟩
 have hOut:∀ n,n≤1→Out ⟨d+1,d,l⟩ L n:=fun n hn=>⟨.inr (show L+n<l by exact Nat.lt_of_le_of_lt (Nat.add_le_add_left hn _) (cA hLd (ltk hdl))),.inr (show L+n<d+1 by exact Nat.lt_of_le_of_lt (Nat.add_le_add_left hn _) (cA hLd (Nat.lt_add_of_pos_right (by decide))))⟩
 refine(EL_cons' ?_ ?_:EL _ _ _ _ _ _ _)
 ·rfl
 refine E_ListM (EL_nil ⟨by simp,fun (c:Nat) hcf=>?_⟩)
 have hlc:l<c:=by
  rcases Nat.lt_or_ge l c with q |q
  ·exact q
  ·have:=hcf l q
   rw[fcs_gt (show L+1<l by exact cA hLd (ltk hdl))] at this
   unfold both at this
   rw[lxs_else (show l≠A.a by exact Nat.ne_of_gt (cA hA1 (cA (ltk hLd) (ltk hdl)))) (show l≠A.pb by exact Nat.ne_of_gt (cA hA2 (cA (ltk hLd) (ltk hdl)))) (show l≠A.P by exact Nat.ne_of_gt (cA hA3 (cA (ltk hLd) (ltk hdl))))] at this
   unfold hds at this
   rw[upd_same] at this;cases this
 rw[both_upd (show L+1<c by exact cA hLd (cA (ltk hdl) hlc)) (by exact Nat.ne_of_gt (cA hA1 (cA (ltk hLd) (cA (ltk hdl) hlc)))) (by exact Nat.ne_of_gt (cA hA2 (cA (ltk hLd) (cA (ltk hdl) hlc)))) (by exact Nat.ne_of_gt (cA hA3 (cA (ltk hLd) (cA (ltk hdl) hlc)))) (show c≠l by exact Nat.ne_of_gt hlc)]
 have hτc:((σ.upd d (.part (d+1))).upd (d+1) (.inst Hc.C d (hdF l) 1)) c=none:=(upd_ne (show c≠d+1 by exact Nat.ne_of_gt (cA hdl hlc))).trans ((upd_ne (show c≠d by exact Nat.ne_of_gt (cA (ltk hdl) hlc))).trans (hfr c (by show L≤c;exact Nat.le_of_lt (cA (ltk hLd) (cA (ltk hdl) hlc)))))
 have hK:∀ i,i≤11→(jit s0 i).q=[]→_:=fun i hi hq=>h L d l i hL (by exact ltk hLd) hdl hi hq
 have hbn:∀ a:Nat,L≤a→a≤L+1→((σ.upd d (.part (d+1))).upd (d+1) (.inst Hc.C d (hdF l) 1)) a=none:=fun a h1 h2=>(upd_ne (show a≠d+1 by exact Nat.ne_of_lt (cC h2 (cA hLd (Nat.lt_add_of_pos_right (by decide)))))).trans ((upd_ne (show a≠d by exact Nat.ne_of_lt (cC h2 hLd))).trans (hfr a h1))
 generalize ((σ.upd d (.part (d+1))).upd (d+1) (.inst Hc.C d (hdF l) 1))=τ at *
 generalize hH:(⟨d+1,d,l⟩:HdrA)=H at *
 have hHl:H.l=l:=by rw[← hH]
 have hHa:H.a=d+1:=by rw[← hH]
 have hcm:∀ {cm:List Nat} {pbl es m cs},cs.length≤1→fcs (both N.C A H pos ln pbl es (τ.upd c (.list (natsL cm)))) L m cs c=some (.list (natsL cm)):=fun {cm pbl es m cs} hcs=>by
  rw[fcs_gt (show L+cs.length<c by exact Nat.lt_of_le_of_lt (Nat.add_le_add_left hcs _) (cA hLd (cA (ltk hdl) hlc)))]
  unfold both
  rw[lxs_else (by exact Nat.ne_of_gt (cA hA1 (cA (ltk hLd) (cA (ltk hdl) hlc)))) (by exact Nat.ne_of_gt (cA hA2 (cA (ltk hLd) (cA (ltk hdl) hlc)))) (by exact Nat.ne_of_gt (cA hA3 (cA (ltk hLd) (cA (ltk hdl) hlc))))]
  unfold hds
  rw[upd_ne (by rw[hHl];exact Nat.ne_of_gt hlc),upd_same]
 refine EL_cons (E_int ?_)
 refine EL_nil ⟨by simp,_,rfl,rfl,?_⟩
 refine S_l T (S_l T (S_l T ?_))
 refine XS_cons (X_While T (fun n σ'=>∃ i m r,n=12-i∧i≤11∧σ'=fcs (both N.C A H pos ln ((jit s0 i).q.map runL) (shE low (jit s0 i).sh) (τ.upd c (.list (natsL (jit s0 i).came)))) L m [r]∧m "lexer"=some (.ref A.a)∧m "low"=some (.int low)∧m "shelf"=some (.ref H.a)∧m "came"=some (.ref c)∧m "waiting"=some (.int (jit s0 i).q.length)) 12 ?_ ?_)
 ·refine⟨0,fset (fset (fset (bm' (fun _=>none) [(("lexer":PySem.Str),PV.ref A.a,none),("low",.int low,none)]) "waiting" (.int 6)) "came" (.ref c)) "shelf" (.ref (d+1)),none,rfl,by decide,?_,rfl,rfl,?_,rfl,?_⟩
  ·show _=fcs (both N.C A H pos ln (s0.q.map runL) (shE low s0.sh) (τ.upd c (.list (natsL s0.came)))) L _ [none]
   rw[hs0,hc0];rfl
  ·rw[hHa];rfl
  ·show some (PV.int 6)=some (PV.int (s0.q.length:Nat))
   rw[h6];rfl
 intro n σ' zz1;refine e3_8 zz1 ?_;clear zz1;intro i m r zz2 hi zz3 hm1 hm2 hm3 hm4 hm5;subst zz2;subst zz3
 have hJ:=hI i hi
 refine T_andE (p:=decide (0<(jit s0 i).q.length)) (q:=decide ((jit s0 i).came.length<12)) (T_Compare (E_l ?_ hm5)) (T_Compare (E_Call [] (kp:=.machine) (E_bn T D.B (n:="len") (by simp) ?_))) ?_
 ·exact E_int (gt_ii (truthy_bool ⟨decide_eq_decide.mpr (by exact @Int.ofNat_lt 0 _),rfl⟩))
 ·refine EL_cons (E_l ?_ hm4)
  refine EL_nil (EK_nil ⟨KP_blt,C_len_ref (hcm (by simp)) (by rw[natsL_len];have:=hJ.cl;exact Nat.le_of_lt (cC this (by decide))) ?_⟩)
  rw[natsL_len]
  exact E_int (lt_ii (truthy_bool ⟨decide_eq_decide.mpr (by exact @Int.ofNat_lt _ 12),rfl⟩))
 have hcl12:(jit s0 i).came.length<12:=by have:=hJ.cl;exact cC this (by decide)
 rw[decide_eq_true hcl12,Bool.and_true]
 have hbelow:A.below L:=hA
 cases hq:(jit s0 i).q with
 |nil =>
  rw[show decide (0<([]:List Nat).length)=false from rfl,if_neg (by decide)]
  refine XS_nil ?_
  refine XS_ret (E_Tuple ?_)
  refine EL_cons (E_l ?_ hm3)
  refine EL_cons (E_freeze (E_l ⟨c,_,rfl,hcm (by simp),?_⟩ hm4))
  refine EL_nil ⟨by simp,?_⟩
  refine⟨both N.C A H pos ln [] (shE low (jit s0 i).sh) τ,m,[r],?_,fun a h1 h2=>?_,?_⟩
  ·rw[fcs_del (show L+1<c by exact cA hLd (cA (ltk hdl) hlc))]
   congr 1
   unfold both hds
   rw[List.map_nil,upd_comm (show c≠H.l by rw[hHl];exact Nat.ne_of_gt hlc),lxs_upd (by exact Nat.ne_of_gt (cA hA1 (cA (ltk hLd) (cA (ltk hdl) hlc)))) (by exact Nat.ne_of_gt (cA hA2 (cA (ltk hLd) (cA (ltk hdl) hlc)))) (by exact Nat.ne_of_gt (cA hA3 (cA (ltk hLd) (cA (ltk hdl) hlc))))]
   refine upd_del ?_
   rw[lxs_else (by exact Nat.ne_of_gt (cA hA1 (cA (ltk hLd) (cA (ltk hdl) hlc)))) (by exact Nat.ne_of_gt (cA hA2 (cA (ltk hLd) (cA (ltk hdl) hlc)))) (by exact Nat.ne_of_gt (cA hA3 (cA (ltk hLd) (cA (ltk hdl) hlc)))),upd_ne (by rw[hHl];exact Nat.ne_of_gt hlc)]
   exact hτc
  ·have h2:a≤L+1:=h2
   unfold both hds
   rw[lxs_else (by exact Nat.ne_of_gt (cB hA1 h1)) (by exact Nat.ne_of_gt (cB hA2 h1)) (by exact Nat.ne_of_gt (cB hA3 h1)),upd_ne (by rw[hHl];exact Nat.ne_of_lt (cC h2 (cA hLd (ltk hdl))))]
   exact hbn a h1 h2
  ·have:=hK i hi hq
   rw[hHa]
   exact this
 |cons n0 q0 =>
  rw[show decide (0<(n0::q0).length)=true from rfl,if_pos rfl]
  have hi11:i≤10:=by
   rcases Nat.lt_or_ge i 11 with z |z
   ·lia
   ·have:i=11:=by lia
    subst this
    rw[hend] at hq;cases hq
  have hn0:n0∈sizesV:=hJ.q n0 (by rw[hq];exact List.mem_cons_self ..)
  refine e0_5 (plc_ok n0 hn0) ?_;intro p1 p2 p3 p4 p5
  refine e0_5 (wN_ok hlow hn0) ?_;intro w1 w2 w3 w4 w5
  refine e0_4 (val_split n0 hn0) ?_;intro v1 v2 v3 v4
  have hfind:=shE_find hlow hn0 hJ.sh
  have hdel:=shE_del hlow hn0 hJ.sh
  have hstep:jit s0 (i+1)=if (jit s0 i).sh.any (fun e=>decide (e.1=n0)) then ⟨q0++[2*n0],(jit s0 i).sh.filter fun e => !decide (e.1=n0),(jit s0 i).came++[n0]⟩ else ⟨q0,(jit s0 i).sh++[(n0,decide (((jit s0 i).came.length+1)%2=1))],(jit s0 i).came++[n0]⟩:=by
   show jstep (jit s0 i)=_
   unfold jstep
   rw[hq]
  have hel:∀ e∈shE low (jit s0 i).sh,e.1.length≤1000000:=fun e he=>by
   refine e1_2 (List.mem_map.mp he) ?_;intro e' he' zz1;subst zz1
   have:=(nmE_ok hlow (hJ.sh e' he')).1
   show(nmE low e').length≤_
   exact Nat.le_of_lt (cC this (by decide))
  have hesl:(shE low (jit s0 i).sh).length≤100000:=by unfold shE;rw[List.length_map];have:=hJ.sl;exact Nat.le_of_lt (cC this (by decide))
  have hql:=hJ.ql
  have hcl:=hJ.cl
  rw[hq] at hql hm5
  have hql:q0.length+1≤6:=hql
  generalize hsh:(jit s0 i).sh=sh at *
  generalize hcame:(jit s0 i).came=cm at *
  refine gen fun K₁ hK₁=>?_
  rw[List.map_cons]
  refine XS_setc T 0 (E_Meth [] (kp:=.frame) (E_l ?_ hm1))
  refine GM_inst T N.X N.gtM.find N.gtM.ty (b_a hbelow) rfl ?_
  refine EL_nil (EK_nil ⟨N.gtM.kp,(b_pop (k:=k+2) D N (OB c hlc cm) hbelow (hOut _ (by simp)) (by rw[List.length_map];exact Nat.le_of_lt (cA (lekS hql) (by decide))) ⟨_,_,_,rfl,by simp,?_⟩).call⟩)
  refine(?_:XS W _ _ _ (fcs _ L m [some (.str (runL n0))]) _)
  have hr28:=runL_len n0
  refine XS_expr (E_Meth [] (kp:=.machine) (E_l ?_ hm4))
  refine GM_ref (hcm (by simp)) PySem.F.slot_list_append PySem.F.type_list_append ?_
  refine EL_cons (E_Call [] (kp:=.machine) (E_bn T D.B (n:="len") (by simp) ?_))
  refine EL_cons (E_c 0 ?_)
  refine EL_nil (EK_nil ⟨KP_blt,C_len_str (by exact Nat.le_of_lt (cC (Nat.le_of_eq hr28) (cC p3 (by decide)))) ?_⟩)
  rw[hr28]
  refine EL_nil (EK_nil ⟨KP_blt,C_append T (hcm (by simp)) (by rw[natsL_len];exact Nat.le_of_lt (cA hcl12 (by decide))) ⟨rfl,?_⟩⟩)
  rw[natsL_snoc,both_upd (show L+1<c by exact cA hLd (cA (ltk hdl) hlc)) (by exact Nat.ne_of_gt (cA hA1 (cA (ltk hLd) (cA (ltk hdl) hlc)))) (by exact Nat.ne_of_gt (cA hA2 (cA (ltk hLd) (cA (ltk hdl) hlc)))) (by exact Nat.ne_of_gt (cA hA3 (cA (ltk hLd) (cA (ltk hdl) hlc)))) (by rw[hHl];exact Nat.ne_of_gt hlc),upd_upd]
  refine XS_setl T (E_Call [] (kp:=.machine) (E_bn T D.B (n:="len") (by simp) ?_))
  refine(EL_cons' ?_ ?_:EL _ _ _ _ _ _ _)
  ·rfl
  refine E_Makes T (([2,4,8,16]:List Int).map PV.int) (fun _=>True) ((([2,4,8,16]:List Int).map PV.int).filter (kPow n0)) ?_
  refine(E_List ?_:E _ _ _ _ _ _)
  iterate 4 refine(EL_int ?_:EL _ _ _ _ _ _ _)
  refine EL_nil ⟨by decide,?_⟩
  refine⟨Itbl.lst,trivial,Makes1 T (kPow n0) (fun p=>p) (List.map_id' _) (by decide) (fun _ _ _ _ _ _=>trivial) (fun D' L' e1 e2=>⟨fun p hp acc m=>?_,fun p hp _ acc m=>E_m ⟨rfl,rfl⟩ (fset_same _ _ _)⟩),?_⟩
  ·refine e1_2 (List.mem_map.mp hp) ?_;intro pw hpw zz1;subst zz1
   have hpos:0<pw:=by
    simp only[List.mem_cons,List.not_mem_nil,or_false] at hpw
    rcases hpw with rfl |rfl |rfl |rfl <;> decide
   refine CI_one (T_Compare (E_BinOp (E_Call [] (kp:=.machine) (E_bn T D.B (n:="len") (by simp) ?_))))
   refine EL_cons (E_f 0 e1 e2 ?_)
   refine EL_nil (EK_nil ⟨KP_blt,C_len_str (by exact Nat.le_of_lt (cC (Nat.le_of_eq hr28) (cC p3 (by decide)))) ?_⟩)
   rw[hr28]
   refine E_m ?_ (fset_same _ _ _)
   refine mod_ii hpos (E_int (eq_ii (truthy_bool ⟨rfl,rfl⟩)))
  have hkl:=kPow_eq n0
  refine EL_nil (EK_nil ⟨KP_blt,C_len_lst (by rw[hkl];exact Nat.le_of_lt (cC p5 (by decide))) ?_⟩)
  rw[hkl]
  refine⟨_,_,_,rfl,?_⟩
  refine XS_setl T (E_Call [] (kp:=.frame) (E_gl T D.pfG ?_))
  refine(EL_cons' ?_ ?_:EL _ _ _ _ _ _ _)
  ·rfl
  refine(E_BinOp ?_:E _ _ _ _ _ _)
  refine(E_int ?_:E _ _ _ _ _ _)
  refine(E_BinOp ?_:E _ _ _ _ _ _)
  refine(E_BinOp ?_:E _ _ _ _ _ _)
  refine E_l ?_ ((fset_ne (by decide)).trans hm2)
  refine(E_Sub' ?_ ?_:E _ _ _ _ _ _)
  ·intro _ _;rfl
  refine(E_List ?_:E _ _ _ _ _ _)
  iterate 4 refine(EL_int ?_:EL _ _ _ _ _ _ _)
  refine EL_nil ⟨by decide,?_⟩
  refine E_BinOp (E_BinOp (E_Call [] (kp:=.machine) (E_bn T D.B (n:="len") (by simp) ?_)))
  refine EL_cons (E_c 0 ?_)
  refine EL_nil (EK_nil ⟨KP_blt,C_len_str (by exact Nat.le_of_lt (cC (Nat.le_of_eq hr28) (cC p3 (by decide)))) ?_⟩)
  rw[hr28]
  refine E_l ?_ (fset_same _ _ _)
  refine shr_ii (by exact Int.natCast_nonneg _) ?_
  rw[Int.toNat_natCast,show((n0:Nat):Int)/2^kk n0=((n0/2^kk n0:Nat):Int) by push_cast;rfl]
  refine E_int (div_ii (by decide) (by decide) ?_)
  rw[show((n0/2^kk n0:Nat):Int)/2=((n0/2^kk n0/2:Nat):Int) by push_cast;rfl]
  refine⟨Sbs.lst,get_lst (p:=.int (([0,5,9,12]:List Nat).getD (n0/2^kk n0/2) 0:Nat)) (by exact Int.natCast_nonneg _) (by exact ltc p1 (by decide)) ?_ ?_⟩
  ·rw[Int.toNat_natCast]
   have:n0/2^kk n0/2=0∨n0/2^kk n0/2=1∨n0/2^kk n0/2=2∨n0/2^kk n0/2=3:=four _ p1
   rcases this with e |e |e |e <;> (rw[e];rfl)
  refine add_ii (E_l ?_ (fset_same _ _ _))
  refine add_ii ?_
  rw[show(low:Int)+((([0,5,9,12]:List Nat).getD (n0/2^kk n0/2) 0:Nat):Int)+((kk n0:Nat):Int)=((low+plc n0:Nat):Int) by unfold plc;push_cast;exact Int.add_assoc _ _ _]
  have hp32:low+plc n0<32:=by exact Nat.lt_of_le_of_lt (Nat.add_le_add hlow p2) (by decide)
  refine shl_ii (by exact Int.natCast_nonneg _) (by exact lei (Nat.add_le_add hlow p2) (by decide)) (by decide) ?_
  rw[one_shl]
  refine EL_nil (EK_nil ⟨FnC.kp D.pfF,(pretty_flags_C (k:=k+2) D (Nat.ne_of_gt (Nat.two_pow_pos _)) (Nat.pow_lt_pow_right (by decide) hp32) ?_).call⟩)
  rw[flagsL_one hp32,show jn [44,32] [wordC (low+plc n0)]=wN low n0 from rfl]
  refine⟨_,_,_,rfl,?_⟩
  generalize hN:wN low n0=nm at *
  have g1:(fset (fset m "k" (.int (kk n0:Nat))) "name" (.str nm)) "shelf"=some (.ref H.a):=(fset_ne (by decide)).trans ((fset_ne (by decide)).trans hm3)
  have g2:(fset (fset m "k" (.int (kk n0:Nat))) "name" (.str nm)) "lexer"=some (.ref A.a):=(fset_ne (by decide)).trans ((fset_ne (by decide)).trans hm1)
  have g3:(fset (fset m "k" (.int (kk n0:Nat))) "name" (.str nm)) "low"=some (.int low):=(fset_ne (by decide)).trans ((fset_ne (by decide)).trans hm2)
  have g4:(fset (fset m "k" (.int (kk n0:Nat))) "name" (.str nm)) "came"=some (.ref c):=(fset_ne (by decide)).trans ((fset_ne (by decide)).trans hm4)
  have g5:(fset (fset m "k" (.int (kk n0:Nat))) "name" (.str nm)) "waiting"=some (.int (n0::q0).length):=(fset_ne (by decide)).trans ((fset_ne (by decide)).trans hm5)
  have g6:(fset (fset m "k" (.int (kk n0:Nat))) "name" (.str nm)) "name"=some (.str nm):=fset_same _ _ _
  refine(?_:XS W _ _ _ (fcs _ L (fset (fset m "k" (.int (kk n0:Nat))) "name" (.str nm)) _) _)
  generalize fset (fset m "k" (.int (kk n0:Nat))) "name" (.str nm)=m' at *
  clear hm1 hm2 hm3 hm4 hm5 p1
  have hO:=OB c hlc (cm++[n0])
  have hO1:Out H L ([some (PV.str (runL n0))]:List (Option PV)).length:=hOut 1 (by decide)
  refine XS_setl T (E_Meth [] (kp:=.frame) (E_l ?_ g1))
  refine GM_inst T Hc.X M.gtM.find M.gtM.ty (b_h hO hO1) rfl ?_
  refine EL_cons (E_l ?_ g6)
  have hkpG:∀ {σ},KP W .frame (.ref M.gt) σ:=fun {σ}=>by refine e6_2 (M.gtM.fn.fn) ?_;intro _ _ _ _ _ _ f _;exact f.kp
  refine EL_nil (EK_nil ⟨hkpG,(b_get (k:=k+1) D N M hO hbelow hO1 (okN_of w4) (by exact Nat.le_of_lt (cC w1 (by decide))) (by exact Nat.le_of_lt (cC w2 (by decide))) hesl hel ?_).call⟩)
  rw[hfind]
  cases hany:sh.any (fun e=>decide (e.1=n0)) with
  |false =>
   rw[hany] at hstep
   rw[if_neg (by decide)] at hstep
   refine⟨_,_,_,rfl,?_⟩
   refine XS_if (T_Compare (E_l ?_))
   refine E_none (is_none_none (truthy_bool ?_))
   refine(?_:XS W _ _ _ _ _)
   have q1:∀ {X:PySem.Str}{u:PV},X≠"held"→fset m' "held" u X=m' X:=fun {X u} a=>fset_ne a
   refine XS_cut (fun σ'=>∃ m2,σ'=fcs (both N.C A H pos ln (q0.map runL) (shE low sh) (τ.upd c (.list (natsL (cm++[n0]))))) L m2 [some (.str (runL n0))]∧m2 "shelf"=some (.ref H.a)∧m2 "lexer"=some (.ref A.a)∧m2 "low"=some (.int low)∧m2 "came"=some (.ref c)∧m2 "waiting"=some (.int (n0::q0).length)∧m2 "laid"=some (.str (nmE low (n0,decide ((cm.length+1)%2=1))))) (X_Assign (E_IfExp (T_Compare (E_BinOp (E_Call [] (kp:=.machine) (E_bn T D.B (n:="len") (by simp) ?_)))))) ?_
   ·refine EL_cons (E_l ?_ ((q1 (by decide)).trans g4))
    refine EL_nil (EK_nil ⟨KP_blt,C_len_ref (hcm (by simp)) (by rw[natsL_len,List.length_append];simp;exact Nat.le_of_lt (cA hcl12 (by decide))) ?_⟩)
    rw[natsL_len,List.length_append,List.length_singleton]
    refine E_int (mod_ii (by decide) (E_int (eq_ii (truthy_bool ?_))))
    rw[show decide (((cm.length+1:Nat):Int)%2=1)=decide ((cm.length+1)%2=1) from decide_eq_decide.mpr (by exact @Int.ofNat_inj ((cm.length+1)%2) 1)]
    have fin:∀ p,p=PV.str (nmE low (n0,decide ((cm.length+1)%2=1)))→∃ m2,fcs (both N.C A H pos ln (q0.map runL) (shE low sh) (τ.upd c (.list (natsL (cm++[n0]))))) L (fset (fset m' "held" .none) "laid" p) [some (.str (runL n0))]=fcs (both N.C A H pos ln (q0.map runL) (shE low sh) (τ.upd c (.list (natsL (cm++[n0]))))) L m2 [some (.str (runL n0))]∧m2 "shelf"=some (.ref H.a)∧m2 "lexer"=some (.ref A.a)∧m2 "low"=some (.int low)∧m2 "came"=some (.ref c)∧m2 "waiting"=some (.int (n0::q0).length)∧m2 "laid"=some (.str (nmE low (n0,decide ((cm.length+1)%2=1)))):=fun p hp =>
     ⟨_,rfl,(fset_ne (by decide)).trans ((q1 (by decide)).trans g1),(fset_ne (by decide)).trans ((q1 (by decide)).trans g2),(fset_ne (by decide)).trans ((q1 (by decide)).trans g3),(fset_ne (by decide)).trans ((q1 (by decide)).trans g4),(fset_ne (by decide)).trans ((q1 (by decide)).trans g5),by rw[fset_same,hp]⟩
    cases hodd:decide ((cm.length+1)%2=1) with
    |true =>
     rw[if_pos rfl]
     rw[hodd] at fin
     refine E_Sub (E_Call [] (kp:=.frame) (E_gl T Pp.G ?_))
     refine EL_cons (E_l ?_ ((q1 (by decide)).trans g6))
     have hpw:prepL Pp.f Pp.g nm=lowerL nm:=by rw[← hN];exact Pp.prepW _ hp32
     have hshl:(shownL Pp.g nm).length≤nm.length:=List.length_filter_le _ _
     refine EL_nil (EK_nil ⟨FnC.kp Pp.F,(law_prepared_C (k:=k+1) T D.B Pp.F Pp.F1 Pp.h1 Pp.hm1 Pp.S1 Pp.F3 Pp.h3 Pp.hm3 Pp.S3 (by exact Nat.le_of_lt (cC w1 (by decide))) (by rw[hpw];exact Nat.le_of_lt (cC w2 (by decide))) ?_).call⟩)
     rw[hpw]
     refine E_int ⟨Sbs.tup,get_tup (by decide) (by decide) rfl (S_l T ⟨rfl,fin _ ?_⟩)⟩
     show PV.str (lowerL nm)=PV.str (lowerL (wN low n0))
     rw[hN]
    |false =>
     rw[if_neg (by decide)]
     rw[hodd] at fin
     refine E_l (S_l T ⟨rfl,fin _ ?_⟩) ((q1 (by decide)).trans g6)
     show PV.str nm=PV.str (wN low n0)
     rw[hN]
   ·intro _ zz1;refine e1_7 zz1 ?_;clear zz1;intro m2 zz2 k1 k2 k3 k4 k5 k6;subst zz2
    refine e0_2 (nmE_ok hlow (e:=(n0,decide ((cm.length+1)%2=1))) hn0) ?_;intro n1 n2
    refine e0_2 (ps4_val n0 hn0) ?_;intro pv1 pv2
    refine XS_setl T (E_IfExp (T_Compare (E_Meth kn4 (kp:=.frame) (E_l ?_ k1))))
    refine GM_inst T Hc.X Hc.ahM.find Hc.ahM.ty (b_h hO hO1) rfl ?_
    refine EL_cons (E_l ?_ k6)
    refine EL_cons (E_strL [120] ?_)
    refine EL_nil ?_
    refine EK_cons (E_c 0 ?_)
    refine EK_cons (E_none ?_)
    refine EK_cons (E_strL [34,92] ?_)
    refine EK_cons (E_strL [121] ?_)
    refine EK_nil ⟨Hc.ahM.kp,(b_add (k:=k+1) D N M hO hbelow hO1 (ps4 n0) rfl (fun p hp=>prmOK_of (ps4_ok n0 hn0 p hp)) (okN_of n2) (okV_of (by decide)) (by exact Nat.le_of_lt (cC n1 (by decide))) (by simp) hesl pv2 ?_).call⟩
    rw[pv1]
    refine E_none (is_none_none (truthy_bool ?_))
    rw[if_pos rfl]
    refine E_BinOp (E_l ?_ k5)
    refine E_int (sub_ii ⟨_,_,_,rfl,XS_nil (XS_nil ?_)⟩)
    subst hK₁
    refine⟨12-(i+1),by exact Nat.sub_lt_sub_left (cC hi (by decide)) (Nat.lt_succ_self _),i+1,fset m2 "waiting" (.int (((n0::q0).length:Nat)-1)),some (.str (runL n0)),rfl,by lia,?_,(fset_ne (by decide)).trans k2,(fset_ne (by decide)).trans k3,(fset_ne (by decide)).trans k1,(fset_ne (by decide)).trans k4,?_⟩
    ·rw[hstep,shE_snoc]
    ·rw[fset_same,hstep,List.length_cons]
     show some (PV.int (((q0.length+1:Nat):Int)-1))=some (PV.int ((q0.length:Nat):Int))
     rw[show((q0.length+1:Nat):Int)-1=((q0.length:Nat):Int) by exact Int.add_sub_cancel (q0.length:Int) 1]
  |true =>
   rw[hany] at hstep
   rw[if_pos rfl] at hstep
   refine⟨_,_,_,rfl,?_⟩
   refine XS_if (T_Compare (E_l ?_))
   refine E_none (is_none_str (truthy_bool ?_))
   refine(?_:XS W _ _ _ _ _)
   have q1:∀ {X:PySem.Str}{u:PV},X≠"held"→fset m' "held" u X=m' X:=fun {X u} a=>fset_ne a
   refine XS_cons (X_DelSub (E_l ?_ ((q1 (by decide)).trans g1)))
   refine E_l ?_ ((q1 (by decide)).trans g6)
   refine D_inst T M.dlM.find M.dlM.ty M.dq (b_h hO hO1) ?_
   refine(b_del (k:=k+1) D N M hO hbelow hO1 (okN_of w4) (by exact Nat.le_of_lt (cC w1 (by decide))) (by exact Nat.le_of_lt (cC w2 (by decide))) hesl hel ?_).call
   rw[hdel]
   refine XS_expr (E_Meth [] (kp:=.frame) (E_l ?_ ((q1 (by decide)).trans g2)))
   refine GM_inst T N.X N.ptM.find N.ptM.ty (b_a hbelow) rfl ?_
   refine EL_cons (E_Sub (E_Meth [] (kp:=.machine) (E_l ?_ (fset_same _ _ _))))
   refine GM_str PySem.F.slot_str_split PySem.F.type_str_split ?_
   refine EL_cons (E_strL [34] ?_)
   refine EL_nil (EK_nil ⟨KP_blt,C_split T (by simp) (by exact Nat.le_trans (Nat.add_le_add v2 (Nat.le_refl _)) (by decide)) ?_⟩)
   refine E_int ⟨Sbs.lst,get_lst (p:=.str (runL (2*n0))) (by decide) (by decide) (by unfold stsL;rw[List.getElem?_map];exact congrArg (Option.map PV.str) v1) ?_⟩
   refine EL_nil (EK_nil ⟨N.ptM.kp,(b_push (k:=k+2) D N hO hbelow hO1 (by rw[List.length_map];exact Nat.le_of_lt (cA (lekS hql) (by decide))) ⟨rfl,XS_nil (XS_nil ?_)⟩).call⟩)
   subst hK₁
   refine⟨12-(i+1),by exact Nat.sub_lt_sub_left (cC hi (by decide)) (Nat.lt_succ_self _),i+1,fset m' "held" (.str (valL n0)),some (.str (runL n0)),rfl,by lia,?_,(q1 (by decide)).trans g2,(q1 (by decide)).trans g3,(q1 (by decide)).trans g1,(q1 (by decide)).trans g4,(q1 (by decide)).trans (g5.trans ?_)⟩
   ·rw[hstep,List.map_append];rfl
   ·rw[hstep,List.length_append];rfl
theorem St.hold {s:Shared} (S:St W σ s) (T:Top W){h':Heap} (hk:SLe s.heap h'){a:Addr} (ha:s.heap.objs.size≤a) (hp:Pr h' a):St W (σ.upd a .own) { s with heap:=h' }∧FLe (Fz σ s.heap) (Fz (σ.upd a .own) h'):=by
 have F:FLe (Fz σ s.heap) (Fz (σ.upd a .own) h'):=fun c o hq=>by
  refine e0_3 hq ?_;try clear hq;intro q1 q2 q3
  exact⟨(upd_ne (Nat.ne_of_lt (Nat.lt_of_lt_of_le (Heap.lt_size q2) ha))).trans q1,hk _ _ q2,q3⟩
 have S3:St W σ { s with heap:=h' }:=S.grow T (tk:=s.toks) hk
 have keep:∀ a,(∃ o,s.heap.get? a=some o)→h'.get? a=s.heap.get? a:=fun a ⟨o,e⟩=>by rw[e];exact hk a o e
 refine⟨⟨fun b bo e=>?_,S3.old,fun b hb=>?_,S3.sz,S3.lim,S3.os,S3.gens,S3.tk,S.tab.keep (fun a o _=>F a o) (keep _ S.tab.there)⟩,F⟩
 ·by_cases q:b=a
  ·subst q;rw[upd_same] at e;cases e;exact hp
  ·rw[upd_ne q] at e
   refine(S.hr b bo e).keep F (keep b (S.hr b bo e).there) fun C d fs n z=>?_
   obtain ⟨z1,o',z2⟩:=S.dict_there (z▸e)
   exact⟨keep d ⟨o',z2⟩,upd_ne (Nat.ne_of_lt (Nat.lt_of_lt_of_le (Heap.lt_size z2) ha))⟩
 ·by_cases q:b=a
  ·subst q;exact Nat.le_trans S.sz ha
  ·exact S.above b (by rw[upd_ne q] at hb;exact hb)
theorem sub_own {s:Shared} (S:St W σ s){a:Addr} (h:σ a=some .own):Sub (σ.del a) σ:=by
 refine⟨fun b o e=>?_,fun b C d fs n e=>?_⟩
 ·unfold Sig.del at e;split at e
  ·cases e
  ·exact e
 ·unfold Sig.del at e;split at e
  ·cases e
  ·have hd:=(S.dict_there e).1
   have:d≠a:=fun z=>by rw[z,h] at hd;cases hd
   unfold Sig.del;rw[if_neg this];exact hd
noncomputable def zips (l m:List PV):List PV:=List.zipWith (fun a b=>PV.tup [a,b]) l m
theorem zips_at {l m:List PV}{i:Nat}{p:PV} (h:(zips l m)[i]? = some p):∃ a b,l[i]? = some a∧m[i]? = some b∧p=.tup [a,b]:=by
 unfold zips at h
 rw[List.getElem?_zipWith] at h
 cases ha:l[i]? with
 |none=>rw[ha] at h;cases h
 |some a =>
  cases hb:m[i]? with
  |none=>rw[ha,hb] at h;cases h
  |some b=>rw[ha,hb] at h;cases h;exact⟨a,b,rfl,rfl,rfl⟩
theorem zip_end {prog:Program}{w:World}{A:Around}{E:Value→Shared→Prop}{s:Shared}{z TI TO i1 i2 l1:Addr}{k1:Nat}{xs:Array Value}{Q:Option Value→Shared→Prop} (hh:A.handled=none) (D1:i1≠z) (D2:l1≠z)
  (hz:IsZip s.heap z TI TO .none) (hTI:IsPair s.heap TI (.ref i1) (.ref i2)) (h1:s.heap.IsListIter i1 l1 k1) (hl1:s.heap.IsList l1 xs) (hend:xs[k1]? = none)
  (hQ:∀ h',(∀ c o,c≠z→c≠i1→s.heap.get? c=some o→h'.get? c=some o)→Q none { s with heap:=h' }):wpAny (model prog w) A (pyNext (.ref z)) Q E s:=by
 have hT:s.TypeIs (.ref z) "zip":=⟨_,hz,rfl⟩
 have body:wpAny (model prog w) A.in1 (Builtin.«zip.__next__» ⟨[.ref z],[]⟩) (fun _ _=>False) (fun e s'=>∃ a,e=.ref a∧(∃ o,s'.heap.get? a=some o∧o.cls=.type "StopIteration")∧Q none s') s:=by
  show wpAny _ _ (field (.ref z) 2 >>= _) _ _ _
  refine wpAny_bind (wpAny_field hz rfl (x:=.bool false) rfl ?_)
  show wpAny _ _ (field (.ref z) 3 >>= _) _ _ _
  refine wpAny_bind (wpAny_field hz rfl (x:=.ref TI) rfl ?_)
  refine wpAny_bind (wpAny_seqItems hTI rfl ?_)
  show wpAny _ _ (Builtin.SmallTypes.ownedTupleIsFree (.ref z) >>= _) _ _ _
  refine wpAny_bind ?_
  unfold Builtin.SmallTypes.ownedTupleIsFree
  refine wpAny_bind (wpAny_field hz rfl (x:=.none) rfl (wpAny_pure ?_))
  simp only[if_true]
  refine wpAny_bind (wpAny_rule ?_)
  refine wpAny_bind (wpAny_field hz rfl (x:=.ref TO) rfl ?_)
  refine wpAny_bind (wpAny_setField_rec hz (by simp) fun h₁ hz₁ hs₁=>?_)
  replace hz₁:IsZip h₁ z TI TO .ellipsis:=hz₁
  refine wpAny_bind ?_
  simp only[List.zipIdx_cons,List.zipIdx_nil,List.forIn_cons,List.forIn_nil]
  refine wpAny_bind (wpAny_bind (wpAny_onRaise ?_))
  show wpAny _ _ (Builtin.SmallTypes.nextOf (.ref i1) >>= _) _ _ _
  refine wpAny_bind (wpAny_nextOf_list_end hh (h1.extBut hs₁.extBut D1) (hl1.extBut hs₁.extBut D2) hend fun h₂ e hs₂ he=>?_)
  refine e1_2 he ?_;try clear he;intro oe hoe hce
  have hz₂:IsZip h₂ z TI TO .ellipsis:=hs₂ _ _ D1.symm hz₁
  have hez:e≠z:=fun x=>by subst x;rw[hz₂] at hoe;cases hoe;simp at hce
  exact wpAny_setField_rec hz₂ (by simp) fun h₃ _ hs₃=>⟨e,rfl,⟨oe,hs₃.extBut _ _ hez hoe,hce⟩,hQ h₃ fun c o c1 c3 x=>hs₃.extBut _ _ c1 (hs₂ _ _ c3 (hs₁.extBut _ _ c1 x))⟩
 unfold pyNext
 refine wpAny_bind (wpAny_attempt (wpAny_callSpecial?_slot (name:=Str.ofString "__next__") hT PySem.F.slot_zip_next
  (wpAny_call_entry PySem.F.slot_zip_next hT PySem.F.entry_zip_next (wpAny_mono body (fun _ _ z=>z.elim) fun e s' hpat=>?_) (PySem.F.args_zip_next_1 _))))
 refine e1_3 hpat ?_;try clear hpat;intro a zz1 zz2 hq;subst zz1;refine e1_2 zz2 ?_;clear zz2;intro o ho hc
 refine wpAny_bind (wpAny_isInstance (T:="StopIteration") (b:=true) ⟨o,ho,hc⟩ isSubtype_stop ?_)
 exact wpAny_pure hq
theorem iter_zip {z TI TO i1 i2 l1 l2:Addr}{l m:List PV} (D:ZipApart z TI TO i1 i2 l1 l2) (hlm:l.length≤m.length):Iter W z [z,i1,i2] [TO] (zips l m) (fun σ=>σ TO=some .own)
  (fun F=>F TI { cls:=.type "tuple",data:=.seq #[.ref i1,.ref i2] }∧(∃ vs n,F l1 (listOf vs n)∧VRels F l vs.toList)∧∃ vs n,F l2 (listOf vs n)∧VRels F m vs.toList)
  (fun i h=>IsZip h z TI TO .none∧h.IsListIter i1 l1 i∧h.IsListIter i2 l2 i) (fun i v h=>∃ T,v=.ref T∧IsZip h z TI TO (rawInt T)∧h.IsListIter i1 l1 i∧h.IsListIter i2 l2 i) true where
 kind:=fun {i h} hpat c hc=>by
  refine e0_3 hpat ?_;try clear hpat;intro h1 zz1 zz2;refine e1_3 zz1 ?_;clear zz1;intro o2 h2 c2 _;refine e1_3 zz2 ?_;clear zz2;intro o3 h3 c3 _
  simp only[List.mem_cons,List.not_mem_nil,or_false] at hc
  rcases hc with rfl |rfl |rfl
  ·exact⟨_,h1,rfl⟩
  ·exact⟨_,h2,by rw[c2];rfl⟩
  ·exact⟨_,h3,by rw[c3];rfl⟩
 kindM:=fun {i v h} hpat c hc=>by
  refine e1_4 hpat ?_;try clear hpat;intro T _ h1 zz1 zz2;refine e1_3 zz1 ?_;clear zz1;intro o2 h2 c2 _;refine e1_3 zz2 ?_;clear zz2;intro o3 h3 c3 _
  simp only[List.mem_cons,List.not_mem_nil,or_false] at hc
  rcases hc with rfl |rfl |rfl
  ·exact⟨_,h1,rfl⟩
  ·exact⟨_,h2,by rw[c2];rfl⟩
  ·exact⟨_,h3,by rw[c3];rfl⟩
 keep:=fun {i h h'} hpat e=>by
  refine e0_3 hpat ?_;try clear hpat;intro h1 zz1 zz2;refine e1_2 zz1 ?_;clear zz1;intro o2 h2 r2;refine e1_2 zz2 ?_;clear zz2;intro o3 h3 r3
  exact⟨(e z (by simp)).trans h1,⟨o2,(e i1 (by simp)).trans h2,r2⟩,⟨o3,(e i2 (by simp)).trans h3,r3⟩⟩
 held:=fun h c hc=>by obtain rfl:=List.mem_singleton.mp hc;exact h
 mono:=fun hm hpat=>by
  refine e0_3 hpat ?_;try clear hpat;intro a zz1 zz2;refine e2_2 zz1 ?_;clear zz1;intro vs n b c;refine e2_2 zz2 ?_;clear zz2;intro ws n' d e
  exact⟨hm _ _ rfl a,⟨vs,n,hm _ _ rfl b,c.mono2 hm⟩,⟨ws,n',hm _ _ rfl d,e.mono2 hm⟩⟩
 item:=fun {i p} hp A hA σ s S hs hpat hat Q E q=>by
  refine e0_3 hpat ?_;try clear hpat;intro a zz1 zz2;refine e2_2 zz1 ?_;clear zz1;intro vs n b c;refine e2_2 zz2 ?_;clear zz2;intro ws n' d e
  refine e0_3 hat ?_;try clear hat;intro h1 h2 h3
  refine e2_3 (zips_at hp) ?_;intro x y hx hy zz1;subst zz1
  refine e1_2 (vrels_at c hx) ?_;intro v hv rv
  refine e1_2 (vrels_at e hy) ?_;intro w hw rw'
  refine e2_1 (S.hr _ _ hs) ?_;intro ta tb hTO
  refine wpAny_pyNext_zip_item D h1 a.2.1 hTO h2 h3 (isList_of b.2.1) (isList_of d.2.1) hv hw fun h' g1 g2 g3 g4 g5 g6 g7=>?_
  have hx:ExtW [z,i1,i2] [TO] s.heap h':=fun c o q1 q2 e=>g7 c o (fun w=>q1 (by simp[w])) (fun w=>q2 (by simp[w])) (fun w=>q1 (by simp[w])) (fun w=>q1 (by simp[w])) e
  have Fi:FLi (Fz σ s.heap) (Fz σ h'):=fun a' o' qq hq=>by
   refine e0_3 hq ?_;try clear hq;intro e1 e2 e3
   refine⟨e1,hx a' o' (fun z'=>?_) (fun z'=>?_) e2,e3⟩
   ·simp only[List.mem_cons,List.not_mem_nil,or_false] at z'
    refine e1_3 h2 ?_;try clear h2;intro o2 h2 c2 _
    refine e1_3 h3 ?_;try clear h3;intro o3 h3 c3 _
    rcases z' with rfl |rfl |rfl
    ·rw[h1] at e2;cases e2;cases qq
    ·rw[h2] at e2;cases e2;rw[c2] at qq;cases qq
    ·rw[h3] at e2;cases e2;rw[c3] at qq;cases qq
   ·obtain rfl:=List.mem_singleton.mp z'
    rw[hs] at e1;cases e1
  refine q _ h' s.toks ⟨_,rfl,g1,g3,g4⟩ hx (fun c hc=>by obtain rfl:=List.mem_singleton.mp hc;exact⟨_,_,g2⟩) ?_
  exact⟨s.heap.objs.size,#[v,w],0,rfl,⟨S.fresh _ (Nat.le_refl _),g5,by intro z;cases z⟩,⟨v,_,rfl,rv.mono2 Fi,w,_,rfl,rw'.mono2 Fi,rfl⟩⟩
 done:=fun A hA σ s S hs hpat hat Q E q=>by
  refine e0_3 hpat ?_;try clear hpat;intro a zz1 zz2;refine e2_2 zz1 ?_;clear zz1;intro vs n b c;refine e2_2 zz2 ?_;clear zz2;intro ws n' d e
  refine e0_3 hat ?_;try clear hat;intro h1 h2 h3
  refine e2_1 (S.hr _ _ hs) ?_;intro ta tb hTO
  have hend:vs[(zips l m).length]? = none:=by
   have e1:=c.length
   rw[Array.length_toList] at e1
   unfold zips
   rw[List.length_zipWith,Nat.min_eq_left hlm,← e1];simp
  refine zip_end hA D.i1z D.l1z h1 a.2.1 h2 (isList_of b.2.1) hend fun h' g7=>?_
  refine q h' s.toks (fun c o q1 q2 e=>g7 c o (fun w=>q1 (by simp[w])) (fun w=>q1 (by simp[w])) e) fun c hc=>?_
  obtain rfl:=List.mem_singleton.mp hc
  exact⟨ta,tb,g7 _ _ D.TOz D.TOi1 hTO⟩
 self:=fun A s hat Q E q=>wpAny_pyIter_zip hat.1 q
 own:=fun t A s v ht hmid Q E q=>by
  refine e1_4 hmid ?_;try clear hmid;intro T zz1 h1 h2 h3;subst zz1
  cases t with
  |Tuple elts n pos =>
   refine wpAny_letOwnedTupleGo_zip h1 fun h' g1 g2=>q h' ⟨g1,h2.extBut g2.extBut D.i1z,h3.extBut g2.extBut D.i2z⟩ fun c o q1 _ e=>g2.extBut c o (fun w=>q1 (by simp[w])) e
  |_=>exact absurd (ht rfl) Bool.false_ne_true
theorem EI_zip (T:Top W){p' pos:Pos}{es:List Expr}{l m:List PV}{K:List Addr→Sig→Prop} (hlm:l.length≤m.length)
  (h:E W k env (.Name "zip" p') σ fun f σ₀=>f=.typ "zip"∧EL W k env pos es σ₀ fun ps σ₁=>ps=[.lst l,.lst m]∧∀ TO,Fresh σ₁ TO→K [TO] (σ₁.upd TO .own))
  (h0:autoParam ((backTo pos (starEach es env)).any (·.1)=false) tR):EI W k env (.Call (.Name "zip" p') es [] pos) (zips l m) (fun pr σ=>∀ c∈pr,σ c=some .own) true σ K:=fun A hA s hs=>by
 show wpAny _ A (do callWith pos (← eval (.Name "zip" p') env) [] (backTo pos (starEach es env)) (backToKw pos (keywordEach [] env))) _ _ s
 refine wpAny_bind (G.use h A hA s hs trivial (fun v s₁ f σ₁ a1 a2 a3 hpat=>?_) fun _ _ x=>x)
 refine e0_2 hpat ?_;try clear hpat;intro zz1 a4;subst zz1
 obtain rfl:v=.type "zip":=a3
 refine callWith_wp (kp:=.machine) (.inr (.inl rfl)) h0 rfl (G.use a4 A hA s₁ a1 trivial (fun ps s₂ pp σ₂ b1 b2 b3 hpat=>?_) fun _ _ x=>x)
 refine e0_2 hpat ?_;try clear hpat;intro zz1 hK;subst zz1
 refine wpAny_pure ⟨fun Q' hq=>wpAny_pure hq,?_⟩
 obtain ⟨v1,r1,rfl,hv1,v2,r2,rfl,hv2,e5⟩:=b3
 obtain rfl:r2=[]:=e5
 refine e3_3 hv1 ?_;try clear hv1;intro l1 vs n zz1 f1 g1;subst zz1
 refine e3_3 hv2 ?_;try clear hv2;intro l2 ws n' zz1 f2 g2;subst zz1
 have T1:=isList_of f1.2.1
 have T2:=isList_of f2.2.1
 refine call_zip_2 T1 T2 fun h' z1 z2 z3 z4 z5 z6 z7 Q hQ=>wpAny_pyIter_zip z1 ?_
 have L1:l1<s₂.heap.objs.size:=Heap.lt_size f1.2.1
 have L2:l2<s₂.heap.objs.size:=Heap.lt_size f2.2.1
 have ne:∀ {a b:Nat},a<b→a≠b:=fun h=>Nat.ne_of_lt h
 have D:ZipApart (s₂.heap.objs.size+4) (s₂.heap.objs.size+2) (s₂.heap.objs.size+3) s₂.heap.objs.size (s₂.heap.objs.size+1) l1 l2:=by
  constructor <;> (intro z;have z:(_:Nat)=_:=z;lia)
 have hfr:Fresh σ₂ s₂.heap.objs.size:=b1.fresh
 refine e0_2 (b1.hold T z7 (Nat.le_add_right _ 3) ⟨_,_,z3⟩) ?_;intro S4 F3
 have hbig:∀ {c:Nat},s₂.heap.objs.size≤c→∀ o,¬ FrOf σ s c o:=fun {c} hc o x=>Nat.lt_irrefl _ (Nat.lt_of_lt_of_le (Heap.lt_size ((a2.trans b2) _ _ x).2.1) hc)
 have hnew:∀ c:Nat,s₂.heap.objs.size≤c→c≠s₂.heap.objs.size+3→(σ₂.upd (s₂.heap.objs.size+3) .own) c=none:=fun c h1 h2=>(upd_ne h2).trans (hfr c h1)
 have I1:Iter W (s₂.heap.objs.size+4) [s₂.heap.objs.size+4,s₂.heap.objs.size,s₂.heap.objs.size+1] [s₂.heap.objs.size+3] (zips l m) (fun σ=>∀ c∈[s₂.heap.objs.size+3],σ c=some .own) _ _ _ true :=
  have this:=iter_zip (W:=W) D hlm
  { this with held:=fun h c hc=>h c hc,item:=fun hp A hA σ s S h=>this.item hp A hA σ s S (h _ (by simp)),done:=fun A hA σ s S h=>this.done A hA σ s S (h _ (by simp)) }
 refine hQ _ [s₂.heap.objs.size+4,s₂.heap.objs.size,s₂.heap.objs.size+1] [s₂.heap.objs.size+3] _ _ _ _ _ S4 ((a2.trans b2).trans F3) I1 ⟨z1,z4,z5⟩ ⟨⟨hnew _ (Nat.le_add_right _ 2) (fun z=>by have z:s₂.heap.objs.size+2=s₂.heap.objs.size+3:=z;lia),z2,by intro z;cases z⟩,⟨vs,n,F3 _ _ f1,g1.mono F3⟩,⟨ws,n',F3 _ _ f2,g2.mono F3⟩⟩ (by simp) (fun c hc=>?_) (fun c hc=>?_) (hK _ (fun b hb=>hfr b (Nat.le_trans (Nat.le_add_right _ 3) hb)))
 ·simp only[List.mem_cons,List.not_mem_nil,or_false] at hc
  rcases hc with rfl |rfl |rfl
  ·exact⟨hnew _ (Nat.le_add_right _ 4) (fun z=>by have z:s₂.heap.objs.size+4=s₂.heap.objs.size+3:=z;lia),Nat.le_trans b1.sz (Nat.le_add_right _ 4),hbig (Nat.le_add_right _ 4)⟩
  ·exact⟨hnew _ (Nat.le_refl _) (fun z=>by have z:s₂.heap.objs.size=s₂.heap.objs.size+3:=z;lia),b1.sz,hbig (Nat.le_refl _)⟩
  ·exact⟨hnew _ (Nat.le_add_right _ 1) (fun z=>by have z:s₂.heap.objs.size+1=s₂.heap.objs.size+3:=z;lia),Nat.le_trans b1.sz (Nat.le_add_right _ 1),hbig (Nat.le_add_right _ 1)⟩
 ·obtain rfl:=List.mem_singleton.mp hc
  exact hbig (Nat.le_add_right _ 3)
theorem compS (T:Top W){elt iter:Expr}{x:Str}{px:Pos}{scope:Scope}{pos:Pos}{cl:List (Str×Addr)}{items:List PV}{SrcS:Sig→Prop}{σ₁:Sig} (B:Nat→Sig→Prop) (val:Nat→PV){D L:Nat} (h0:B 0 σ₁) (hL:D<L) (hz:items.length≤1000000)
  (hsrc:∀ i b,B i b→∀ acc m,SrcS (ins b D L acc m))
  (elts:∀ i p b,items[i]? = some p→B i b→∀ acc m,E W k (cenvOf scope cl L env) elt (ins b D L acc (fset m x p)) fun q σ'=>(∃ b',B (i+1) b'∧σ'=ins b' D L acc (fset m x p))∧q=val i)
  (hnc:autoParam ((scope.names.all fun x => !(x.2 == .cell))=true) tR) (hk:autoParam (scope.kind=.function) tR) (hx:autoParam (scope.names.lookup x=some .local) tR) :
  CompIn W k elt (.Name x px) [] [⟨.Name x px,iter,[],0⟩] scope pos items SrcS (cenvOf scope cl L env) D σ₁ (fun i σ'=>i≤items.length∧∃ b m,B i b∧σ'=ins b D L ((List.range i).map val) m) where
 start:=⟨Nat.zero_le _,σ₁,fun _=>none,h0,by rw[cellsUpd_none hnc];rfl⟩
 src:=fun i σ' ⟨hi,b,m,hb,e⟩=>e▸hsrc i b hb _ _
 turn:=fun i p σ' hp hpat=>by
  obtain ⟨hi,b,m,hb,e⟩:=hpat
  subst e
  have hlt:i<items.length:=by
   rcases Nat.lt_or_ge i items.length with q |q
   ·exact q
   ·rw[List.getElem?_eq_none q] at hp;cases hp
  refine AT_name (S_local T (by show scope.kind=_;exact hk) (lookup_relabel_local hx) ins_L ?_)
  show CI W k _ [] ((ins b D L _ m).upd L (.frame (fset m x p))) _
  rw[ins_set]
  refine CI_nil ?_
  rw[if_pos rfl]
  refine CB_elt T rfl ((elts i p b hp hb _ m).imp fun q σ₃ ⟨⟨b',hb',e1⟩,e2⟩=>?_)
  subst e1 e2
  refine⟨_,ins_D hL,?_,hlt,b',fset m x p,hb',by rw[ins_acc hL,List.range_succ,List.map_append];rfl⟩
  rw[List.length_map,List.length_range];exact Nat.le_of_lt (cB hlt hz)
theorem E_MakesS (T:Top W){elt iter:Expr}{x:Str}{px:Pos}{scope:Scope}{pos:Pos}{cl:List (Str×Addr)} (items:List PV) (SrcS:Sig→Prop) (B:Nat→Sig→Prop) (val:Nat→PV){K:PV→Sig→Prop} (hz:items.length≤1000000)
  (h:E W k env iter σ fun q σ₁=>Itbl W q items SrcS∧B 0 σ₁∧SrcS σ₁∧(∀ D L,Fresh σ₁ D→D<L→Fresh σ₁ L→(∀ i b,B i b→∀ acc m,SrcS (ins b D L acc m))∧(∀ b,B items.length b→Fresh b D) ∧
   ∀ i p b,items[i]? = some p→B i b→∀ acc m,E W k (cenvOf scope cl L env) elt (ins b D L acc (fset m x p)) fun q σ'=>(∃ b',B (i+1) b'∧σ'=ins b' D L acc (fset m x p))∧q=val i)∧∀ b,B items.length b→K (.lst ((List.range items.length).map val)) b)
  (hnc:autoParam ((scope.names.all fun x => !(x.2 == .cell))=true) tR) (hx:autoParam (scope.names.lookup x=some .local) tR)
  (hclos:autoParam (closureFor scope env=Pure.pure cl) tR) (hkind:autoParam (scope.kind=.function) tR) (hnames:autoParam (∀ x∈scope.names,x.2=.local→scope.names.lookup x.1=some .local) tD)
  (hfold:autoParam (∀ x,foldedSetIterable iter env x=Pure.pure x) tI):E W k env (.ListComp elt [⟨.Name x px,iter,[],0⟩] scope pos) σ K :=
 E_ListComp T items SrcS (h.imp fun q σ₁ hh=>by
  refine e0_5 hh ?_;try clear hh;intro a1 a0 a2 a3 a4
  refine⟨a1,a2,fun D L e1 e2 e3=>?_⟩
  refine e0_3 (a3 D L e1 e2 e3) ?_;intro b1 b2 b3
  refine⟨_,compS T B val a0 e2 hz b1 b3 hnc hkind hx,fun σ' hpat=>?_⟩
  obtain ⟨_,b,m,hb,e⟩:=hpat
  subst e
  refine⟨_,m,ins_D e2,ins_L,?_⟩
  rw[res_ins (b2 b hb) e2]
  exact a4 b hb) hclos hkind hnames hfold
theorem XS_MakesS (T:Top W){xt x:Str}{elt iter:Expr}{px:Pos}{stmts:List Stmt}{scope:Scope}{pos p' pos':Pos}{cl:List (Str×Addr)}{L:Nat}{m₀:Str→Option PV}{cs₀:List (Option PV)} (items:List PV) (SrcS:Sig→Prop) (B:Nat→Sig→Prop) (m:Str→Option PV) (cs:List (Option PV)) (val:Nat→PV){K:AFlow→Sig→Prop} (hz:items.length≤1000000)
  (h:E W k env iter (fcs σ L m₀ cs₀) fun q σ₁=>Itbl W q items SrcS∧(∃ b,B 0 b∧σ₁=fcs b L m cs)∧SrcS σ₁∧(∀ D L',Fresh σ₁ D→D<L'→Fresh σ₁ L'→(∀ i b,B i b→∀ acc m',SrcS (ins (fcs b L m cs) D L' acc m'))∧(∀ b,B items.length b→Fresh (fcs b L m cs) D) ∧
   ∀ i p b,items[i]? = some p→B i b→∀ acc m',E W k (cenvOf scope cl L' env) elt (ins (fcs b L m cs) D L' acc (fset m' x p)) fun q σ'=>(∃ b',B (i+1) b'∧σ'=ins (fcs b' L m cs) D L' acc (fset m' x p))∧q=val i) ∧
   ∀ b,B items.length b→XS W k env stmts (fcs b L (fset m xt (.lst ((List.range items.length).map val))) cs) K)
  (hL:autoParam (env.locals=L) tR) (hk:autoParam (env.scope.kind=.function) tR) (hl:autoParam (env.kindOf xt=some .local) tR)
  (hnc:autoParam ((scope.names.all fun x => !(x.2 == .cell))=true) tR) (hx:autoParam (scope.names.lookup x=some .local) tR)
  (hsw:autoParam (swapsWith (.ListComp elt [⟨.Name x px,iter,[],0⟩] scope p') (some (.Name xt pos')) pos.line env=Pure.pure true) tR)
  (hclos:autoParam (closureFor scope env=Pure.pure cl) tR) (hkind:autoParam (scope.kind=.function) tR) (hnames:autoParam (∀ x∈scope.names,x.2=.local→scope.names.lookup x.1=some .local) tD)
  (hfold:autoParam (∀ x,foldedSetIterable iter env x=Pure.pure x) tI):XS W k env (.Assign [.Name xt pos'] (.ListComp elt [⟨.Name x px,iter,[],0⟩] scope p') pos::stmts) (fcs σ L m₀ cs₀) K:=by
 subst hL
 refine XS_cons (X_AssignComp T items SrcS (h.imp fun q σ₁ hpat=>?_) hsw hclos hkind hnames hfold)
 refine e0_5 hpat ?_;try clear hpat;intro a1 zz1 a2 a3 a5;refine e1_2 zz1 ?_;clear zz1;intro b0 hb0 zz2;subst zz2
 refine⟨a1,a2,fun D L' e1 e2 e3=>?_⟩
 refine e0_3 (a3 D L' e1 e2 e3) ?_;intro b1 b2 b3
 refine⟨_,compS T (fun i s=>∃ b,B i b∧s=fcs b env.locals m cs) val ⟨b0,hb0,rfl⟩ e2 hz ?_ ?_ hnc hkind hx,fun σ' hpat=>?_⟩
 ·intro i _ zz1 acc m';refine e1_2 zz1 ?_;clear zz1;intro b hb zz2;subst zz2
  exact b1 i b hb acc m'
 ·intro i p _ hp zz1 acc m';refine e1_2 zz1 ?_;clear zz1;intro b hb zz2;subst zz2
  refine(b3 i p b hp hb acc m').imp fun q σ' hq=>?_
  refine e0_2 hq ?_;try clear hq;intro zz1 e';refine e1_2 zz1 ?_;clear zz1;intro b' hb' e
  exact⟨⟨_,⟨b',hb',rfl⟩,e⟩,e'⟩
 obtain ⟨_,_,m',⟨b,hb,rfl⟩,e⟩:=hpat
 subst e
 refine⟨_,m',ins_D e2,ins_L,?_⟩
 rw[res_ins (b2 b hb) e2]
 have hfr:=fcs_fresh e1
 have hLD:env.locals<D:=Nat.lt_of_le_of_lt (Nat.le_add_right _ _) hfr
 have hLL:env.locals<L':=Nat.lt_trans hLD e2
 refine S_local T hk hl ((upd_ne (Nat.ne_of_lt hLL)).trans fcs_L) ?_
 refine⟨m',(upd_ne (Nat.ne_of_gt hLL)).trans (upd_same _ _ _),?_⟩
 rw[upd_comm (Nat.ne_of_gt hLL),res_upd_ge (Nat.le_of_lt e2),fcs_setL,res_fresh (fcs_freshm (b2 b hb))]
 exact a5 b hb
def TOr (W:Wd) (k:Nat) (env:Env):List Expr→Sig→(Bool→Sig→Prop)→Prop
 |[],σ,K=>K false σ
 |x::r,σ,K=>T W k env x σ fun b σ₁=>if b then K true σ₁ else TOr W k env r σ₁ K
theorem TOr.wp:∀ {xs:List Expr}{σ:Sig}{K:Bool→Sig→Prop},TOr W k env xs σ K→∀ A,Room A k→∀ s,St W σ s→wpAny (model W.prog W.w) A (allTrue .Or xs env) (fun v s'=>∃ b σ',St W σ' s'∧FLe (FrOf σ s) (FrOf σ' s')∧REq (FrOf σ' s') b v∧K b σ') (fun _ _=>False) s
 |[],σ,K,h,A,hA,s,hs=>wpAny_allTrue_Or_nil ⟨false,σ,hs,FLe.refl _,rfl,h⟩
 |x::r,σ,K,h,A,hA,s,hs=>wpAny_allTrue_Or_cons (G.use h A hA s hs trivial (fun v s' d σ₄ d1 d2 d3 d4=>by
  cases d3
  cases v with
  |true=>exact⟨_,σ₄,d1,d2,rfl,d4⟩
  |false=>exact wpAny_mono (TOr.wp d4 A hA s' d1) (fun v s'' hpat=>by refine e2_4 hpat ?_;try clear hpat;intro b σ' e1 e2 e3 e4;exact⟨b,σ',e1,d2.trans e2,e3,e4⟩) fun _ _ x=>x) fun _ _ x=>x)
theorem T_orN {xs:List Expr}{pos:Pos}{K:Bool→Sig→Prop} (h:TOr W k env xs σ K):T W k env (.BoolOp .Or xs pos) σ K:=fun A hA s hs hP=>wpAny_isTrue_BoolOp (TOr.wp h A hA s hs)
theorem E_and2 {x y:Expr}{pos:Pos}{K:PV→Sig→Prop} (h:E W k env x σ fun p σ₁=>O1 W k REq truthy p σ₁ fun b σ₂=>if b then E W k env y σ₂ K else K p σ₂):E W k env (.BoolOp .And [x,y] pos) σ K:=fun A hA s hs hP=>by
 show wpAny _ A (eval x env >>= fun v=>_) _ _ s
 refine wpAny_bind (G.use h A hA s hs trivial (fun v s₁ p σ₁ a1 a2 a3 a4=>wpAny_bind (wpAny_standAt (wpAny_bind (wpAny_holding (G.use (a4 v) A hA s₁ a1 a3 (fun b s₂ b' σ₂ b1 b2 b3 b4=>?_) fun _ _ x=>x))))) fun _ _ x=>x)
 cases b3
 cases b with
 |false=>exact wpAny_pure ⟨p,σ₂,b1,a2.trans b2,a3.mono b2,b4⟩
 |true =>
  show wpAny _ A (eval y env) _ _ _
  exact G.use b4 A hA s₂ b1 trivial (fun v s₃ q σ₃ c1 c2 c3 c4=>⟨q,σ₃,c1,(a2.trans b2).trans c2,c3,c4⟩) fun _ _ x=>x
end
noncomputable def wsT:List Nat:=[61,59,32]
noncomputable def rsV (n:Nat):Nat→List Nat
 |0=>valL n
 |i+1=>(lexS wsT (rsV n i)).2
noncomputable def partsV (n:Nat):List (List Nat):=[[120],[97,115,45,116,119,111],runL n,[111,102],[98,121],[34,92],[111,110],[121],[]]
theorem parts_ok:∀ n∈sizesV,((List.range 9).map fun i=>(lexS wsT (rsV n i)).1)=partsV n:=by decide +kernel
noncomputable def othW (p:Nat):List Nat:=if wordC p=lowerL (wordC p) then upperL (wordC p) else lowerL (wordC p)
theorem oth_ok:∀ p:Fin 32,lowerL (othW p.val)=lowerL (wordC p.val)∧(othW p.val).length≤30:=by decide +kernel
theorem parts_plain:∀ n∈sizesV,(partsV n).all (fun x=>x.all (· < 1114112))=true:=by decide +kernel
theorem runL_two (n:Nat):runL n++runL n=runL (2*n):=by unfold runL;rw[List.replicate_append_replicate];congr 1;lia
theorem plains_sts:∀ {l:List (List Nat)},(∀ x∈l,x.all (· < 1114112)=true)→plains (stsL l)=true
 |[],_=>rfl
 |x::l,h=>by
  show(plain (.str x)&&plains (stsL l))=true
  rw[plains_sts (fun y hy=>h y (List.mem_cons_of_mem _ hy)),Bool.and_true]
  exact h x (List.mem_cons_self ..)
theorem plain_sts {l:List (List Nat)} (h:∀ x∈l,x.all (· < 1114112)=true):plain (.lst (stsL l))=true:=plains_sts h
theorem depthAll_sts:∀ l:List (List Nat),PyData.depthAll (pds (stsL l))≤1
 |[]=>Nat.zero_le _
 |x::l=>by
  have:=depthAll_sts l
  show PyData.depthAll (pd (.str x)::pds (stsL l))≤1
  exact Nat.max_le.mpr ⟨Nat.zero_le _,this⟩
theorem depth_sts (l:List (List Nat)):(pd (.lst (stsL l))).depth≤64:=by
 have:=depthAll_sts l
 show(PyData.list (pds (stsL l))).depth≤64
 simp only[PyData.depth]
 exact Nat.le_trans (Nat.add_le_add this (Nat.le_refl _)) (by decide)
def LexA.off (A:LexA) (L n:Nat):Prop:=L+n<A.a∧L+n<A.pb∧L+n<A.P∧L+n<A.tape
section
variable {C Ch:Addr}{A:LexA}{H:HdrA}{tx:List Nat}{pos:Nat}{ln:Int}{pbl:List (List Nat)}{es:List (List Nat×List Nat)}{σ:Sig}
theorem lxs_off {L:Nat}{m:Str→Option PV}{cs:List (Option PV)} (h:A.off L cs.length):lxs C A pos pbl ln (fcs σ L m cs)=fcs (lxs C A pos pbl ln σ) L m cs:=by
 unfold lxs
 rw[fcs_gt' h.2.2.1,fcs_gt' h.2.1,fcs_gt' h.1]
theorem LexOK.off (h:LexOK C A tx σ){L:Nat}{m:Str→Option PV}{cs:List (Option PV)} (hA:A.off L cs.length):LexOK C A tx (Mine.fcs σ L m cs):=by
 refine e2_2 (h.tape) ?_;intro fs n e r
 exact⟨⟨fs,n,(fcs_gt hA.2.2.2).trans e,r⟩,h.ta,h.tb,h.tp,h.ab,h.ap,h.bp⟩
theorem lxs_ins {D L':Nat}{acc:List PV}{m:Str→Option PV} (h:A.below D) (hD:D<L'):lxs C A pos pbl ln (ins σ D L' acc m)=ins (lxs C A pos pbl ln σ) D L' acc m:=by
 have n1:∀ {b:Nat},b<D→L'≠b∧D≠b:=fun {b} hb=>⟨Nat.ne_of_gt (Nat.lt_trans hb hD),Nat.ne_of_gt hb⟩
 unfold ins
 rw[lxs_upd (n1 h.1).1 (n1 h.2.1).1 (n1 h.2.2.1).1,lxs_upd (n1 h.1).2 (n1 h.2.1).2 (n1 h.2.2.1).2]
theorem LexOK.ins (h:LexOK C A tx σ){D L':Nat}{acc:List PV}{m:Str→Option PV} (hA:A.tape<D) (hD:D<L'):LexOK C A tx (Mine.ins σ D L' acc m):=by
 unfold Mine.ins
 exact(h.upd (Nat.ne_of_gt hA)).upd (Nat.ne_of_gt (Nat.lt_trans hA hD))
theorem lexBase_fcs {L tpb:Nat}{m:Str→Option PV}{cs:List (Option PV)} (h1:L+cs.length<A.td) (h2:L+cs.length<A.tape) (h3:L+cs.length<tpb) (h4:L+cs.length<A.d):lexBase C A tpb tx (fcs σ L m cs)=fcs (lexBase C A tpb tx σ) L m cs:=by
 unfold lexBase
 rw[fcs_gt' h1,fcs_gt' h2,fcs_gt' h3,fcs_gt' h4]
theorem lexBase_upd {tpb b:Nat}{o:AObj} (h1:b≠A.td) (h2:b≠A.tape) (h3:b≠tpb) (h4:b≠A.d):lexBase C A tpb tx (σ.upd b o)=(lexBase C A tpb tx σ).upd b o:=by
 unfold lexBase
 rw[upd_comm h1,upd_comm h2,upd_comm h3,upd_comm h4]
theorem lexBase_ok {tpb:Nat} (h1:A.P<A.td) (h2:A.tape=A.td+1) (h3:A.tape<tpb) (h4:tpb<A.d) (h5:A.a=A.d+1) (h6:A.a<A.pb):LexOK C A tx (lexBase C A tpb tx σ) where
 tape:=⟨_,_,(upd_ne (show A.tape≠A.d by exact Nat.ne_of_lt (cA h3 h4))).trans ((upd_ne (show A.tape≠tpb by exact Nat.ne_of_lt (by assumption))).trans (upd_same _ _ _)),rfl⟩
 ta:=Nat.ne_of_lt (cA h3 (cA h4 (eqk h5)))
 tb:=Nat.ne_of_lt (cA h3 (cA h4 (cA (eqk h5) h6)))
 tp:=Nat.ne_of_gt (cA h1 (eqk h2))
 ab:=by exact Nat.ne_of_lt (by assumption)
 ap:=Nat.ne_of_gt (cA h1 (cA (eqk h2) (cA h3 (cA h4 (eqk h5)))))
 bp:=Nat.ne_of_gt (cA h1 (cA (eqk h2) (cA h3 (cA h4 (cA (eqk h5) h6)))))
theorem lexBase_else {tpb b:Nat} (h1:b≠A.td) (h2:b≠A.tape) (h3:b≠tpb) (h4:b≠A.d):lexBase C A tpb tx σ b=σ b:=by
 unfold lexBase
 rw[upd_ne h4,upd_ne h3,upd_ne h2,upd_ne h1]
end
section
variable {W:Wd}{k:Nat}{σ:Sig}{env:Env}{P:FM→Prop}{x y:List Nat}{H:HdrA}{es:List (List Nat×List Nat)}{L:Nat}{m:Str→Option PV}{cs:List (Option PV)}{K:PV→Sig→Prop}
theorem s_ga (D:L1 W) (N:HdrCls W) (O:HdrOK N.C H σ) (hH:Out H L cs.length) (hx:okN (lowerL x)) (hzx:x.length≤1000000) (hzx':(lowerL x).length≤1000000) (hz:es.length≤100000) (he:∀ e∈es,e.1.length≤1000000)
  (h:K (.lst (stsL (getL es (lowerL x)))) (fcs (hds H es σ) L m cs)):CC W (k+2) (.ref N.ga) [.ref H.a,.str x] [] [] (fcs (hds H es σ) L m cs) K:=by
 rw[← hds_fcs hH.l]
 refine ga_C D N (O.fcs hH) hx hzx hzx' hz he ?_
 rw[hds_fcs hH.l];exact h
theorem s_ah (D:L1 W) (N:HdrCls W) (O:HdrOK N.C H σ) (hH:Out H L cs.length) (hx:okN x) (hy:okV y) (hzx:x.length≤1000000) (hzy:y.length≤1000000) (hz:es.length≤100000)
  (h:K .none (fcs (hds H (es++[(x,y)]) σ) L m cs)):CC W (k+2) (.ref N.ah) [.ref H.a,.str x,.str y] [] [] (fcs (hds H es σ) L m cs) K:=by
 rw[← hds_fcs hH.l]
 refine ah_C D N (O.fcs hH) hx hy hzx hzy hz ?_
 rw[hds_fcs hH.l];exact h
theorem s_get (D:L1 W){N:HdrCls W} (M:Hdr2 W N){q:PV}{args:List PV} (O:HdrOK N.C H σ) (hH:Out H L cs.length) (hx:okN (lowerL x)) (hzx:x.length≤1000000) (hzx':(lowerL x).length≤1000000) (hz:es.length≤100000) (he:∀ e∈es,e.1.length≤1000000)
  (hargs:args=[.ref H.a,.str x]∧q=.none∨args=[.ref H.a,.str x,q])
  (h:K (match fstL es (lowerL x) with |some y=>.str y |none=>q) (fcs (hds H es σ) L m cs)):CC W (k+2) (.ref M.gt) args [] [] (fcs (hds H es σ) L m cs) K:=by
 rw[← hds_fcs hH.l]
 refine get_C0 D M (O.fcs hH) hx hzx hzx' hz he hargs ?_
 rw[hds_fcs hH.l];exact h
theorem s_del (D:L1 W){N:HdrCls W} (M:Hdr2 W N) (O:HdrOK N.C H σ) (hH:Out H L cs.length) (hx:okN (lowerL x)) (hzx:x.length≤1000000) (hzx':(lowerL x).length≤1000000) (hz:es.length≤100000) (he:∀ e∈es,e.1.length≤1000000)
  (h:K .none (fcs (hds H (delL es (lowerL x)) σ) L m cs)):CC W (k+2) (.ref M.dl) [.ref H.a,.str x] [] [] (fcs (hds H es σ) L m cs) K:=by
 rw[← hds_fcs hH.l]
 refine dl_C D M (O.fcs hH) hx hzx hzx' hz he ?_
 rw[hds_fcs hH.l];exact h
theorem s_h {Ch:Addr} (O:HdrOK Ch H σ) (hH:Out H L cs.length):fcs (hds H es σ) L m cs H.a=some (.inst Ch H.d (hdF H.l) 1) :=
 (fcs_out hH.a).trans ((upd_ne O.al).trans O.at_)
end
theorem shE_get {low:Nat} (hlow:low≤17){n:Nat} (hn:n∈sizesV):∀ {sh:List (Nat×Bool)},(∀ e∈sh,e.1∈sizesV)→getL (shE low sh) (lowerL (wN low n))=(sh.filter fun e=>decide (e.1=n)).map fun _=>valL n
 |[],_=>rfl
 |e::sh,h=>by
  have ih:=shE_get hlow hn (sh:=sh) fun e he=>h e (List.mem_cons_of_mem _ he)
  have he:=h e (List.mem_cons_self ..)
  have hl:=nmE_lower (low:=low) hlow he
  unfold getL shE at ih ⊢
  rw[List.map_cons,List.filter_cons,List.filter_cons]
  show List.map _ (if decide (lowerL (nmE low e)=_)=true then _ else _)=_
  rw[hl]
  by_cases q:e.1=n
  ·rw[if_pos (by rw[q];simp),if_pos (by simp[q]),List.map_cons,List.map_cons,ih,← q]
  ·have:¬ lowerL (wN low e.1)=lowerL (wN low n):=fun z=>q (wN_eq hlow he hn z)
   rw[if_neg (by simp[this]),if_neg (by simp[q]),ih]
theorem getL_app (es fs:List (List Nat×List Nat)) (n:List Nat):getL (es++fs) n=getL es n++getL fs n:=by unfold getL;rw[List.filter_append,List.map_append]
theorem delL_app (es fs:List (List Nat×List Nat)) (n:List Nat):delL (es++fs) n=delL es n++delL fs n:=by unfold delL;rw[List.filter_append]
theorem fstL_app (es fs:List (List Nat×List Nat)) (n:List Nat):fstL (es++fs) n=(fstL es n).or (fstL fs n):=by
 unfold fstL
 rw[List.find?_append]
 cases es.find? fun e=>decide (lowerL e.1=n) <;> rfl
theorem getL_del (es:List (List Nat×List Nat)) (n:List Nat):getL (delL es n) n=[]∧fstL (delL es n) n=none:=by
 have h:∀ e∈delL es n,¬ lowerL e.1=n:=fun e he=>by
  have:=(List.mem_filter.mp he).2
  simpa using this
 constructor
 ·unfold getL
  rw[List.filter_eq_nil_iff.mpr]
  ·rfl
  ·intro e he;simpa using h e he
 ·unfold fstL
  rw[List.find?_eq_none.mpr]
  ·rfl
  ·intro e he;simpa using h e he
structure Pst where
 q:List Nat
 odd:List Nat
noncomputable def pstep (s:Pst):Pst:=match s.q with
 |[]=>s
 |n::q=>if n%2=0 then ⟨q++[n/2,n/2],s.odd⟩ else ⟨q,s.odd++[n]⟩
noncomputable def pit (s:Pst):Nat→Pst
 |0=>s
 |i+1=>pstep (pit s i)
theorem half_ok:∀ n:Fin 29,(lexS [10,9,13,32] (runL n.val)).1=runL (n.val/2):=by decide +kernel
theorem pit_ok {ps:List Nat} (h:∀ n∈ps,n≤28):∀ i,(∀ n∈(pit ⟨ps,[]⟩ i).q,n≤28)∧(pit ⟨ps,[]⟩ i).q.length≤ps.length+i∧(pit ⟨ps,[]⟩ i).odd.length≤i
 |0=>⟨h,Nat.le_refl _,Nat.le_refl _⟩
 |i+1=>by
  refine e0_3 (pit_ok h i) ?_;intro h1 h2 h3
  show(∀ n∈(pstep (pit ⟨ps,[]⟩ i)).q,n≤28)∧(pstep (pit ⟨ps,[]⟩ i)).q.length≤ps.length+(i+1)∧(pstep (pit ⟨ps,[]⟩ i)).odd.length≤i+1
  unfold pstep
  cases hq:(pit ⟨ps,[]⟩ i).q with
  |nil=>exact⟨by rw[hq];simp,by rw[hq];simp,by lia⟩
  |cons n q =>
   rw[hq] at h1 h2
   have hn:=h1 n (List.mem_cons_self ..)
   have h2:q.length+1≤ps.length+i:=h2
   dsimp only
   split
   ·refine⟨fun m hm=>?_,by simp;lia,by show(pit ⟨ps,[]⟩ i).odd.length≤_;exact Nat.le_of_lt (cC h3 (Nat.lt_add_of_pos_right (by decide)))⟩
    rcases List.mem_append.mp hm with q |q
    ·exact h1 m (List.mem_cons_of_mem _ q)
    ·simp only[List.mem_cons,List.not_mem_nil,or_false] at q
     rcases q with rfl |rfl <;> exact Nat.le_trans (Nat.div_le_self _ _) hn
   ·exact⟨fun m hm=>h1 m (List.mem_cons_of_mem _ hm),by show q.length≤_;lia,by simp;exact h3⟩
theorem lxs_fresh {C:Addr}{A:LexA}{tx:List Nat}{pos pos':Nat}{pbl pbl':List (List Nat)}{ln ln':Int}{τ:Sig} (O:LexOK C A tx τ){D:Nat} (h:Fresh (lxs C A pos pbl ln τ) D):Fresh (lxs C A pos' pbl' ln' τ) D:=fun b hb=>by
 refine e0_4 (O.below h) ?_;intro h1 h2 h3 _
 have:=h b hb
 rw[lxs_else (by exact Nat.ne_of_gt (cB h1 hb)) (by exact Nat.ne_of_gt (cB h2 hb)) (by exact Nat.ne_of_gt (cB h3 hb))] at this ⊢
 exact this
section
variable {W:Wd}{k:Nat}{σ:Sig}{env:Env}{P:FM→Prop}{x y:List Nat}
theorem E_half (D:L1 W) (N:LexCls W){la lc:Addr} (Nest:NestOK W la lc) (lG:W.mg "_law_lexer"=some (.ref la)){p' p1 p2 apos:Pos}{e:Expr}{K:PV→Sig→Prop}
  (h:E W (k+4) env e σ fun p σ₁=>∃ x,p=.str x∧x.length≤1000000∧K (.str (lexS [10,9,13,32] x).1) σ₁)
  (hk:autoParam (env.scope.kind=.function) tR) (hx:autoParam (env.kindOf "_law_lexer"=some .globalImplicit) tR) (hg:autoParam (env.globals=mainGlobals) tR)
  (he:autoParam (starEach [e] env=[(false,eval e env)]) tR)
  (hl:autoParam ((apos.endLine==p2.line)=true) tR):E W (k+4) env (.Call (.Attribute (.Call (.Name "_law_lexer" p') [e] [] p1) "get_token" apos) [] [] p2) σ K:=by
 have T:=D.T
 refine G.subM vmono ?_
 refine E_Meth (kp:=.frame) [] ?_ rfl (by intro _;rfl) rfl hl rfl rfl rfl
 refine E_Call (kp:=.frame) [] (E_gl T lG ?_ hk hx hg) rfl ?_ rfl rfl
 ·refine EL_cons (h.imp fun p σ₁ hpat=>?_) (by show starEach [e] env=_;rw[he];rfl)
  refine e1_3 hpat ?_;try clear hpat;intro x zz1 hz hK;subst zz1
  refine EL_nil (EK_nil ⟨by refine e4_1 (Nest.fn) ?_;intro _ _ _ _ f;exact f.kp,(law_lexer_C (k:=k+1) D N Nest fun A tpb hws hPf q1 q2 q3 q4 q5 q6=>?_).call⟩)
  have OB:=lexBase_ok (C:=N.C) (A:=A) (tx:=x) (σ:=σ₁) (tpb:=tpb) q1 q2 q3 q4 q5 q6
  refine GM_inst T N.X N.gtM.find N.gtM.ty lxs_a rfl ?_
  have h92:isW A.ws 92=false:=by rw[hws];decide
  refine EL_nil (EK_nil ⟨N.gtM.kp,?_⟩)
  have h1:lxs N.C A 0 [] 1 (lexBase N.C A tpb x σ₁)=lxs N.C A 0 [] (lnAt x 0) (lexBase N.C A tpb x σ₁):=by rfl
  rw[h1]
  refine(gt_C (k:=k) D N h92 OB (by decide) hz fun pos' hd' hp'=>?_).call
  rw[hws,List.drop_zero]
  refine⟨σ₁,fun s S=>?_,hK⟩
  have e1:res A.P (lxs N.C A pos' [] (lnAt x pos') (lexBase N.C A tpb x σ₁))=σ₁:=by
   have q1:A.P<A.td:=q1
   have q2:A.tape=A.td+1:=q2
   have q3:A.tape<tpb:=q3
   have q4:tpb<A.d:=q4
   have q5:A.a=A.d+1:=q5
   have q6:A.a<A.pb:=q6
   unfold lxs lexBase
   rw[res_upd_ge (by exact Nat.le_of_lt (cA q1 (cA (eqk q2) (cA q3 (cA q4 (eqk q5)))))),res_upd_ge (by exact Nat.le_of_lt (cA q1 (cA (eqk q2) (cA q3 (cA q4 (cA (eqk q5) q6)))))),res_upd_ge (by exact Nat.le_refl _),res_upd_ge (by exact Nat.le_of_lt (cA q1 (cA (eqk q2) (cA q3 q4)))),res_upd_ge (by exact Nat.le_of_lt (cA q1 (cA (eqk q2) q3))),res_upd_ge (by exact Nat.le_of_lt (cA q1 (eqk q2))),res_upd_ge (by exact Nat.le_of_lt q1),res_fresh hPf]
  have hs:=sub_res S A.P
  rw[e1] at hs
  exact hs
 ·rw[he];rfl
theorem law_parted_C (D:L1 W) (N:LexCls W){fa la lc:Addr} (Nest:NestOK W la lc) (lG:W.mg "_law_lexer"=some (.ref la)){A:LexA}{tx:List Nat}{pos:Nat}{ln:Int}{ps:List Nat}{K:PV→Sig→Prop} (F:Fn W fa "_law_parted" (defAt 26)) (O:LexOK N.C A tx σ) (hps:∀ n∈ps,n≤28) (hpl:ps.length≤20)
  (h:K (.lst (natsL (pit ⟨ps,[]⟩ 48).odd)) (lxs N.C A pos ((pit ⟨ps,[]⟩ 48).q.map runL) ln σ)) :
  CC W (k+5) (.ref fa) [.ref A.a,.lst (natsL ps)] [] [] (lxs N.C A pos [] ln σ) K:=by
 refine e5_1 (F.fn) ?_;intro doc pm an cd ct f1
 have T:=D.T
 refine CC_fcs T f1 [("lexer",.ref A.a,some 0),("parts",.lst (natsL ps),none)] 2 (bind2 (n:="lexer") (m:="parts") (fun v w=>by rfl) ⟨rfl,rfl⟩) rfl ⟨⟨rfl,fun L=>rfl⟩,rfl,trivial⟩ (by rfl) rfl fun (L:Nat) hL=>?_
 have hA:=O.below hL
 have hfr:=O.fresh hL
 refine e0_4 (id hA) ?_;intro hA1 hA2 hA3 hA4
 refine(?_:XS W _ _ _ (fcs _ L _ [some (.ref A.a),none]) _)
 refine XS_cons (X_AssignSwap T ["odd","waiting"] (E_Tuple ?_))
 refine(EL_cons' ?_ ?_:EL _ _ _ _ _ _ _)
 ·rfl
 refine E_ListM (EL_nil ⟨by simp,fun (c:Nat) hcf=>?_⟩)
 have hLc:L+2<c:=fcs_fresh hcf
 have e0:(fcs (lxs N.C A pos [] ln σ) L (bm' (fun _=>none) [(("lexer":PySem.Str),PV.ref A.a,some 0),("parts",.lst (natsL ps),none)]) [some (.ref A.a),none]).upd c (.list []) =
   fcs (lxs N.C A pos [] ln (σ.upd c (.list (natsL [])))) L (bm' (fun _=>none) [(("lexer":PySem.Str),PV.ref A.a,some 0),("parts",.lst (natsL ps),none)]) [some (.ref A.a),none]:=by
  rw[fcs_gt' (show L+2<c from hLc),← lxs_upd (by exact Nat.ne_of_gt (cA hA1 (ltk hLc))) (by exact Nat.ne_of_gt (cA hA2 (ltk hLc))) (by exact Nat.ne_of_gt (cA hA3 (ltk hLc)))];rfl
 rw[e0]
 clear e0
 have OC:∀ od:List Nat,LexOK N.C A tx (σ.upd c (.list (natsL od))):=fun od=>O.upd (by exact Nat.ne_of_gt (cA hA4 (ltk hLc)))
 have hcc:∀ {od:List Nat} {pbl m cs},cs.length≤2→fcs (lxs N.C A pos pbl ln (σ.upd c (.list (natsL od)))) L m cs c=some (.list (natsL od)):=fun {od pbl m cs} hcs=>by
  rw[fcs_gt (show L+cs.length<c by exact Nat.lt_of_le_of_lt (Nat.add_le_add_left hcs _) hLc),lxs_else (by exact Nat.ne_of_gt (cA hA1 (ltk hLc))) (by exact Nat.ne_of_gt (cA hA2 (ltk hLc))) (by exact Nat.ne_of_gt (cA hA3 (ltk hLc))),upd_same]
 have hm1:(bm' (fun _=>none) [(("lexer":PySem.Str),PV.ref A.a,some 0),("parts",.lst (natsL ps),none)]) "parts"=some (.lst (natsL ps)):=rfl
 generalize (bm' (fun _=>none) [(("lexer":PySem.Str),PV.ref A.a,some 0),("parts",.lst (natsL ps),none)])=m0 at *
 have hfrD:∀ {od:List Nat} {pbl pbl' m cs D'},Fresh (fcs (lxs N.C A pos pbl ln (σ.upd c (.list (natsL od)))) L m cs) D'→Fresh (fcs (lxs N.C A pos pbl' ln (σ.upd c (.list (natsL od)))) L m cs) D'∧A.below D':=fun {od pbl pbl' m cs D'} e1=>by
  rw[← lxs_fcs hA] at e1 ⊢
  exact⟨lxs_fresh ((OC od).fcs hA4) e1,((OC od).fcs hA4).below e1⟩
 refine EL_cons (E_Call [] (kp:=.machine) (E_bn T D.B (n:="len") (by simp) ?_))
 refine EL_cons (E_MakesS T (natsL ps) (fun _=>True) (fun i b=>b=fcs (lxs N.C A pos ((ps.take i).map runL) ln (σ.upd c (.list (natsL [])))) L m0 [some (.ref A.a),none]) (fun _=>.none) (by rw[natsL_len];exact Nat.le_of_lt (cC hpl (by decide))) (E_l ?_ hm1))
 refine⟨Itbl.lst,by rw[List.take_zero];rfl,trivial,fun D' L' e1 e2 e3=>⟨fun _ _ _ _ _=>trivial,?_,?_⟩,?_⟩
 ·intro b zz1;subst zz1
  exact(hfrD e1).1
 ·intro i p b hp zz1 acc m';subst zz1
  refine e1_2 (by
   unfold natsL at hp
   rw[List.getElem?_map] at hp
   cases q:ps[i]? with
   |none=>rw[q] at hp;cases hp
   |some n=>rw[q] at hp;exact⟨n,rfl,(Option.some.inj hp).symm⟩:∃ n,ps[i]? = some n∧p=.int (n:Int)) ?_;intro n hn zz1;subst zz1
  refine e0_2 (hfrD (pbl':=(ps.take i).map runL) e1) ?_;intro hfrb hbel
  refine E_Meth [] (kp:=.frame) (E_f 0 hfrb e2 ?_)
  refine GM_inst T N.X N.ptM.find N.ptM.ty (ins_old hfrb e2 ((fcs_lt hA1).trans lxs_a)) rfl ?_
  refine(EL_cons' ?_ ?_:EL _ _ _ _ _ _ _)
  ·rfl
  refine(E_BinOp ?_:E _ _ _ _ _ _)
  refine E_strL [92] ?_
  refine E_m ?_ (fset_same _ _ _)
  have hn28:=hps n (List.mem_of_getElem? hn)
  refine mul_si (by exact Nat.le_of_lt (cC hn28 (by decide))) (EL_nil (EK_nil ⟨N.ptM.kp,?_⟩))
  rw[← lxs_fcs hA,← lxs_ins hbel e2]
  refine(pt_C (k:=k+3) D N (((OC []).fcs hA4).ins hbel.2.2.2 e2) (by rw[List.length_map,List.length_take];exact Nat.le_trans (Nat.le_trans (Nat.min_le_right _ _) hpl) (by decide)) ?_).call
  rw[lxs_ins hbel e2,lxs_fcs hA,show(ps.take i).map runL++[List.replicate n 92]=(ps.take (i+1)).map runL by rw[List.take_add_one,hn,List.map_append];rfl]
  exact⟨⟨_,rfl,rfl⟩,rfl⟩
 intro b zz1;subst zz1
 have hnl:(natsL ps).length=ps.length:=natsL_len ps
 rw[hnl,List.take_length]
 refine EL_nil (EK_nil ⟨KP_blt,C_len_lst (by rw[List.length_map,List.length_range];exact Nat.le_of_lt (cC hpl (by decide))) ?_⟩)
 rw[List.length_map,List.length_range]
 refine EL_nil ⟨by simp,_,rfl,rfl,?_⟩
 refine S_l T (S_l T ?_)
 have hpk:=fun i=>pit_ok (ps:=ps) hps i
 refine XS_cons (X_For (q₀:=.rng 0 48) T (inums 0 48) (fun _=>True) (fun i σ'=>∃ m r,σ'=fcs (lxs N.C A pos ((pit ⟨ps,[]⟩ i).q.map runL) ln (σ.upd c (.list (natsL (pit ⟨ps,[]⟩ i).odd)))) L m [some (.ref A.a),r]∧m "odd"=some (.ref c)∧m "waiting"=some (.int (pit ⟨ps,[]⟩ i).q.length)∧i≤48) ?_ (fun _ _ _=>trivial) ?_ ?_)
 ·refine E_Call [] (kp:=.machine) (E_tn T D.B (n:="range") (by simp) ?_)
  exact EL_cons (E_int (EL_nil (EK_nil ⟨KP_typ,C_range1 T ⟨rfl,Itbl.rng0 (n:=48) (by decide),_,_,rfl,fset_same _ _ _,(fset_ne (by decide)).trans (fset_same _ _ _),Nat.zero_le _⟩⟩)))
 ·intro i p σ' hp zz1;refine e2_4 zz1 ?_;clear zz1;intro m r zz2 hm1 hm2 hi;subst zz2
  refine e0_2 (int_at hp) ?_;intro hi' zz1;subst zz1
  refine e0_3 (hpk i) ?_;intro p1 p2 p3
  refine AT_name (S_l T ?_)
  refine gen fun K₁ hK₁=>?_
  have hstep:pit ⟨ps,[]⟩ (i+1)=pstep (pit ⟨ps,[]⟩ i):=rfl
  refine XS_if (T_Compare (E_l ?_ ((fset_ne (by decide)).trans hm2)))
  refine E_int (gt_ii (truthy_bool ?_))
  cases hq:(pit ⟨ps,[]⟩ i).q with
  |nil =>
   rw[decide_eq_false (show ¬ ((([]:List Nat).length:Nat):Int)>0 by simp)]
   refine(?_:XS W _ _ _ _ _)
   refine XS_nil (XS_nil ?_)
   subst hK₁
   have e:pit ⟨ps,[]⟩ (i+1)=pit ⟨ps,[]⟩ i:=by rw[hstep];unfold pstep;rw[hq]
   refine⟨fset m "turn" (.int (0+(i:Nat))),r,?_,(fset_ne (by decide)).trans hm1,?_,hi'⟩
   ·rw[e,hq]
   ·rw[e];exact(fset_ne (by decide)).trans hm2
  |cons n q =>
   rw[hq] at p1 p2 hm2
   have hn28:=p1 n (List.mem_cons_self ..)
   have p2:q.length+1≤ps.length+i:=p2
   have hr:=runL_len n
   have hr2:=runL_len (n/2)
   rw[decide_eq_true (show(((n::q).length:Nat):Int)>0 by simp)]
   refine(?_:XS W _ _ _ _ _)
   generalize hod:(pit ⟨ps,[]⟩ i).odd=od at *
   rw[List.map_cons]
   refine XS_cons (X_AssignSwap T ["run","waiting"] (E_Tuple ?_))
   refine EL_cons (E_Meth [] (kp:=.frame) (E_c 0 ?_))
   refine GM_inst T N.X N.gtM.find N.gtM.ty ((fcs_lt hA1).trans lxs_a) rfl ?_
   refine EL_nil (EK_nil ⟨N.gtM.kp,?_⟩)
   rw[← lxs_fcs hA]
   refine(gt_pop_C (k:=k+3) D N ((OC od).fcs hA4) (by rw[List.length_map];exact Nat.le_trans (Nat.le_trans (Nat.le_of_lt (lekS p2)) (Nat.add_le_add hpl (Nat.le_of_lt hi'))) (by decide)) ?_).call
   rw[lxs_fcs hA]
   refine EL_cons (E_BinOp (E_l ?_ ((fset_ne (by decide)).trans hm2)))
   refine E_int (sub_ii (EL_nil ⟨by simp,_,rfl,rfl,?_⟩))
   refine S_l T (S_l T ?_)
   have g1:(fset (fset (fset m "turn" (.int (0+(i:Nat)))) "waiting" (.int (((n::q).length:Nat)-1))) "run" (.str (runL n))) "odd"=some (.ref c):=(fset_ne (by decide)).trans ((fset_ne (by decide)).trans ((fset_ne (by decide)).trans hm1))
   have g2:(fset (fset (fset m "turn" (.int (0+(i:Nat)))) "waiting" (.int (((n::q).length:Nat)-1))) "run" (.str (runL n))) "waiting"=some (.int (q.length:Nat)):=(fset_ne (by decide)).trans ((fset_same _ _ _).trans (by rw[List.length_cons,show((q.length+1:Nat):Int)-1=((q.length:Nat):Int) by exact Int.add_sub_cancel (q.length:Int) 1]))
   have g3:(fset (fset (fset m "turn" (.int (0+(i:Nat)))) "waiting" (.int (((n::q).length:Nat)-1))) "run" (.str (runL n))) "run"=some (.str (runL n)):=fset_same _ _ _
   refine(?_:XS W _ _ _ (fcs _ L (fset (fset (fset m "turn" (.int (0+(i:Nat)))) "waiting" (.int (((n::q).length:Nat)-1))) "run" (.str (runL n))) _) _)
   generalize fset (fset (fset m "turn" (.int (0+(i:Nat)))) "waiting" (.int (((n::q).length:Nat)-1))) "run" (.str (runL n))=m' at *
   refine XS_setc T 1 (E_half (k:=k) D N Nest lG (E_l ?_ g3))
   refine⟨_,rfl,by exact Nat.le_of_lt (cC (Nat.le_of_eq hr) (cC hn28 (by decide))),?_⟩
   rw[half_ok ⟨n,by exact cC hn28 (by decide)⟩]
   refine⟨_,_,_,rfl,by simp,?_⟩
   refine(?_:XS W _ _ _ (fcs _ L m' [some (.ref A.a),some (.str (runL (n/2)))]) _)
   refine XS_if (T_Compare (E_BinOp (E_c 1 ?_)))
   refine E_c 1 ?_
   refine add_ss (by lia) ?_
   rw[runL_two]
   refine E_l ?_ g3
   refine eq_ss (truthy_bool ?_)
   by_cases hev:n%2=0
   ·have e2:2*(n/2)=n:=Nat.mul_div_cancel' (Nat.dvd_of_mod_eq_zero hev)
    rw[e2,decide_eq_true rfl]
    refine(?_:XS W _ _ _ _ _)
    refine XS_setl T (E_BinOp (E_l ?_ g2))
    refine E_Call [] (kp:=.machine) (E_bn T D.B (n:="len") (by simp) ?_)
    refine EL_cons (E_MakesS T (inums 0 2) (fun _=>True) (fun j b=>b=fcs (lxs N.C A pos (q.map runL++List.replicate j (runL (n/2))) ln (σ.upd c (.list (natsL od)))) L m' [some (.ref A.a),some (.str (runL (n/2)))]) (fun _=>.none) (by rw[inums_len];decide) ?_)
    refine E_Call [] (kp:=.machine) (E_tn T D.B (n:="range") (by simp) ?_)
    refine EL_cons (E_int (EL_nil (EK_nil ⟨KP_typ,C_range1 T ⟨Itbl.rng0 (n:=2) (by decide),by rw[List.replicate_zero,List.append_nil],trivial,fun D' L' e1 e2 e3=>⟨fun _ _ _ _ _=>trivial,?_,?_⟩,?_⟩⟩)))
    ·intro b zz1;subst zz1
     exact(hfrD e1).1
    ·intro j p b hp zz1 acc m'';subst zz1
     refine e0_2 (int_at hp) ?_;intro hj2 zz1;subst zz1
     refine e0_2 (hfrD (pbl':=q.map runL++List.replicate j (runL (n/2))) e1) ?_;intro hfrb hbel
     refine E_Meth [] (kp:=.frame) (E_f 0 hfrb e2 ?_)
     refine GM_inst T N.X N.ptM.find N.ptM.ty (ins_old hfrb e2 ((fcs_lt hA1).trans lxs_a)) rfl ?_
     refine EL_cons (E_f 1 hfrb e2 ?_)
     refine EL_nil (EK_nil ⟨N.ptM.kp,?_⟩)
     rw[← lxs_fcs hA,← lxs_ins hbel e2]
     refine(pt_C (k:=k+3) D N (((OC od).fcs hA4).ins hbel.2.2.2 e2) (by rw[List.length_append,List.length_map,List.length_replicate];exact Nat.le_trans (Nat.add_le_add (Nat.le_trans (Nat.le_of_lt (lekS p2)) (Nat.add_le_add hpl (Nat.le_of_lt hi'))) (Nat.le_of_lt hj2)) (by decide)) ?_).call
     rw[lxs_ins hbel e2,lxs_fcs hA,List.append_assoc,show List.replicate j (runL (n/2))++[runL (n/2)]=List.replicate (j+1) (runL (n/2)) from(List.replicate_succ').symm]
     exact⟨⟨_,rfl,rfl⟩,rfl⟩
    intro b zz1;subst zz1
    refine EL_nil (EK_nil ⟨KP_blt,C_len_lst (by rw[List.length_map,List.length_range,inums_len];decide) ?_⟩)
    rw[List.length_map,List.length_range,inums_len]
    refine add_ii ⟨_,_,_,rfl,XS_nil (XS_nil (XS_nil ?_))⟩
    subst hK₁
    have e:pit ⟨ps,[]⟩ (i+1)=⟨q++[n/2,n/2],od⟩:=by rw[hstep];unfold pstep;rw[hq];dsimp only;rw[if_pos hev,hod]
    refine⟨fset m' "waiting" (.int ((q.length:Nat)+((2:Nat):Int))),some (.str (runL (n/2))),?_,(fset_ne (by decide)).trans g1,?_,hi'⟩
    ·rw[e,List.map_append];rfl
    ·rw[e,fset_same,List.length_append];rfl
   ·have e2:¬ runL (2*(n/2))=runL n:=fun z=>by
     have:=congrArg List.length z
     rw[runL_len,runL_len] at this
     lia
    rw[decide_eq_false e2]
    refine(?_:XS W _ _ _ _ _)
    refine XS_expr (E_Meth [] (kp:=.machine) (E_l ?_ g1))
    refine GM_ref (hcc (by simp)) PySem.F.slot_list_append PySem.F.type_list_append ?_
    refine EL_cons (E_BinOp (E_BinOp (E_int (E_Call [] (kp:=.machine) (E_bn T D.B (n:="len") (by simp) ?_)))))
    refine EL_cons (E_c 1 ?_)
    refine EL_nil (EK_nil ⟨KP_blt,C_len_str (by lia) ?_⟩)
    rw[hr2]
    refine mul_ii ?_ (.of_left (intBits_le_64 (by decide) (by decide)))
    refine E_int (add_ii ?_)
    rw[show(2:Int)*((n/2:Nat):Int)+1=((n:Nat):Int) by lia]
    refine EL_nil (EK_nil ⟨KP_blt,C_append T (hcc (by simp)) (by rw[natsL_len];exact Nat.le_of_lt (cC p3 (cA hi' (by decide)))) ⟨rfl,?_⟩⟩)
    rw[natsL_snoc,fcs_gt' (show L+2<c from hLc),← lxs_upd (by exact Nat.ne_of_gt (cA hA1 (ltk hLc))) (by exact Nat.ne_of_gt (cA hA2 (ltk hLc))) (by exact Nat.ne_of_gt (cA hA3 (ltk hLc))),upd_upd]
    refine XS_nil (XS_nil (XS_nil ?_))
    subst hK₁
    have e:pit ⟨ps,[]⟩ (i+1)=⟨q,od++[n]⟩:=by rw[hstep];unfold pstep;rw[hq];dsimp only;rw[if_neg hev,hod]
    refine⟨m',some (.str (runL (n/2))),?_,g1,?_,hi'⟩
    ·rw[e]
    ·rw[e];exact g2
 ·intro σ' zz1;refine e2_4 zz1 ?_;clear zz1;intro m r zz2 hm1 hm2 hi;subst zz2
  rw[inums_len]
  refine XS_nil (XS_ret (E_freeze (E_l ⟨c,_,rfl,hcc (by simp),?_⟩ hm1)))
  show K _ _
  rw[fcs_del (show L+2<c from hLc),fcs_resr]
  have e1:(lxs N.C A pos ((pit ⟨ps,[]⟩ 48).q.map runL) ln (σ.upd c (.list (natsL (pit ⟨ps,[]⟩ 48).odd)))).del c=lxs N.C A pos ((pit ⟨ps,[]⟩ 48).q.map runL) ln σ:=by
   rw[lxs_upd (by exact Nat.ne_of_gt (cA hA1 (ltk hLc))) (by exact Nat.ne_of_gt (cA hA2 (ltk hLc))) (by exact Nat.ne_of_gt (cA hA3 (ltk hLc)))]
   exact upd_del ((lxs_else (by exact Nat.ne_of_gt (cA hA1 (ltk hLc))) (by exact Nat.ne_of_gt (cA hA2 (ltk hLc))) (by exact Nat.ne_of_gt (cA hA3 (ltk hLc)))).trans (hfr c (by show L≤c;exact Nat.le_of_lt (ltk hLc))))
  rw[e1,lxs_res hA,res_fresh hfr]
  exact h
theorem lexF_ws {ws ws':List Nat}{tape pb:Addr}{ln:Int}:fset (lexF ws tape pb ln) "whitespace" (.str ws')=lexF ws' tape pb ln:=by
 funext y
 unfold lexF fset
 by_cases h1:y="pushback"
 ·subst h1;rw[if_neg (by decide),if_pos rfl,if_pos rfl]
 ·by_cases h2:y="whitespace"
  ·subst h2;rw[if_pos rfl,if_neg (by decide),if_pos rfl]
  ·simp[h1,h2]
theorem law_taken_C (D:L1 W) (N:LexCls W) (Hc:HdrCls W) (M:Hdr2 W Hc){fa la lc:Addr} (Nest:NestOK W la lc) (lG:W.mg "_law_lexer"=some (.ref la)){H:HdrA}{low n:Nat}{K:PV→Sig→Prop} (F:Fn W fa "_law_taken" (defAt 25)) (O:HdrOK Hc.C H σ) (hlow:low≤17) (hn:n∈sizesV){sh:List (Nat×Bool)} (hsh:∀ e∈sh,e.1∈sizesV) (hsl:sh.length≤6) (hone:(sh.filter fun e=>decide (e.1=n)).length=1)
  (h:K (.bool true) (hds H (shE low (sh.filter fun e => !decide (e.1=n))) σ)) :
  CC W (k+5) (.ref fa) [.ref H.a,.str (wN low n),.str (runL n)] [] [] (hds H (shE low sh) σ) K:=by
 refine e5_1 (F.fn) ?_;intro doc pm an cd ct f1
 have T:=D.T
 refine CC_fcs T f1 [("shelf",.ref H.a,none),("name",.str (wN low n),none),("run",.str (runL n),none)] 1 (bind3 (n:="shelf") (m:="name") (l:="run") (fun v w u=>by rfl) ⟨rfl,rfl⟩) rfl ⟨rfl,rfl,rfl,trivial⟩ (by rfl) rfl fun (L:Nat) hL=>?_
 have hb:=O.below hL
 have hOut:∀ n,Out H L n:=fun n=>⟨.inl hb.2,.inl hb.1⟩
 refine e0_5 (plc_ok n hn) ?_;intro p1 p2 p3 p4 p5
 refine e0_5 (wN_ok hlow hn) ?_;intro w1 w2 w3 w4 w5
 refine e0_4 (val_split n hn) ?_;intro v1 v2 v3 v4
 have hp32:low+plc n<32:=by exact Nat.lt_of_le_of_lt (Nat.add_le_add hlow p2) (by decide)
 refine e0_2 (oth_ok ⟨low+plc n,hp32⟩) ?_;intro o1 o2
 have o1:lowerL (othW (low+plc n))=lowerL (wN low n):=o1
 have o2:(othW (low+plc n)).length≤30:=o2
 have hr28:=runL_len n
 have hfr:Fresh σ L:=fun b hb'=>by
  have:=hL b hb'
  unfold hds at this
  rwa [upd_ne (Nat.ne_of_gt (Nat.lt_of_lt_of_le hb.2 hb'))] at this
 refine(?_:XS W _ _ _ (fcs _ L _ [none]) _)
 refine XS_cons (X_AssignSwap T ["value","other"] (E_Tuple ?_))
 refine(EL_cons' ?_ ?_:EL _ _ _ _ _ _ _)
 ·rfl
 refine(E_BinOp ?_:E _ _ _ _ _ _)
 refine(E_BinOp ?_:E _ _ _ _ _ _)
 refine(E_BinOp ?_:E _ _ _ _ _ _)
 refine E_strL [120,59,32,97,115,45,116,119,111,61,34] ?_
 refine E_l ?_
 refine add_ss (by simp;exact Nat.le_trans (Nat.add_le_add (Nat.le_refl _) (Nat.le_trans (Nat.le_of_eq hr28) p3)) (by decide)) (E_l ?_)
 refine add_ss (by simp;lia) ?_
 refine E_strL [34,59,32,111,102,59,32,98,121,61,34,92,34,92,92,34,59,32,111,110,61,34,121,34] ?_
 refine add_ss (by simp;exact Nat.le_trans (Nat.add_le_add (Nat.le_trans (Nat.le_of_eq hr28) p3) (Nat.le_trans (Nat.le_of_eq hr28) p3)) (by decide)) ?_
 rw[show [120,59,32,97,115,45,116,119,111,61,34]++runL n++runL n++[34,59,32,111,102,59,32,98,121,61,34,92,34,92,92,34,59,32,111,110,61,34,121,34]=valL n by
  unfold valL;rw[← runL_two,List.append_assoc ([120,59,32,97,115,45,116,119,111,61,34]:List Nat)]]
 refine EL_cons (gen ?_:E _ _ _ _ _ _)
 intro K₁ hK₁
 refine E_IfExp (T_Compare (E_l ?_))
 refine E_Meth [] (kp:=.machine) (E_l (GM_str PySem.F.slot_str_lower PySem.F.type_str_lower ?_))
 refine EL_nil (EK_nil ⟨KP_blt,C_lower (by exact Nat.le_of_lt (cC w1 (by decide))) (eq_ss (truthy_bool ?_))⟩)
 have hoth:(if wN low n=lowerL (wN low n) then upperL (wN low n) else lowerL (wN low n))=othW (low+plc n):=rfl
 have fin:K₁ (.str (othW (low+plc n))) (fcs (hds H (shE low sh) σ) L (bm' (fun _=>none) [(("shelf":PySem.Str),PV.ref H.a,none),("name",.str (wN low n),none),("run",.str (runL n),none)]) [none]):=by
  subst hK₁
  refine EL_nil ⟨by simp,_,rfl,rfl,?_⟩
  refine S_l T (S_l T ?_)
  have m1:(fset (fset (bm' (fun _=>none) [(("shelf":PySem.Str),PV.ref H.a,none),("name",.str (wN low n),none),("run",.str (runL n),none)]) "other" (.str (othW (low+plc n)))) "value" (.str (valL n))) "shelf"=some (.ref H.a):=rfl
  have m2:(fset (fset (bm' (fun _=>none) [(("shelf":PySem.Str),PV.ref H.a,none),("name",.str (wN low n),none),("run",.str (runL n),none)]) "other" (.str (othW (low+plc n)))) "value" (.str (valL n))) "name"=some (.str (wN low n)):=rfl
  have m3:(fset (fset (bm' (fun _=>none) [(("shelf":PySem.Str),PV.ref H.a,none),("name",.str (wN low n),none),("run",.str (runL n),none)]) "other" (.str (othW (low+plc n)))) "value" (.str (valL n))) "run"=some (.str (runL n)):=rfl
  have m4:(fset (fset (bm' (fun _=>none) [(("shelf":PySem.Str),PV.ref H.a,none),("name",.str (wN low n),none),("run",.str (runL n),none)]) "other" (.str (othW (low+plc n)))) "value" (.str (valL n))) "other"=some (.str (othW (low+plc n))):=rfl
  have m5:(fset (fset (bm' (fun _=>none) [(("shelf":PySem.Str),PV.ref H.a,none),("name",.str (wN low n),none),("run",.str (runL n),none)]) "other" (.str (othW (low+plc n)))) "value" (.str (valL n))) "value"=some (.str (valL n)):=rfl
  refine(?_:XS W _ _ _ (fcs _ L (fset (fset (bm' (fun _=>none) [(("shelf":PySem.Str),PV.ref H.a,none),("name",.str (wN low n),none),("run",.str (runL n),none)]) "other" (.str (othW (low+plc n)))) "value" (.str (valL n))) [none]) _)
  generalize (fset (fset (bm' (fun _=>none) [(("shelf":PySem.Str),PV.ref H.a,none),("name",.str (wN low n),none),("run",.str (runL n),none)]) "other" (.str (othW (low+plc n)))) "value" (.str (valL n)))=m at *
  refine XS_setc T 0 (E_Call [] (kp:=.frame) (E_gl T lG ?_))
  refine EL_cons (E_l ?_ m5)
  refine EL_nil (EK_nil ⟨by refine e4_1 (Nest.fn) ?_;intro _ _ _ _ f;exact f.kp,(law_lexer_C (k:=k+1) D N Nest fun A tpb hws hPf q1 q2 q3 q4 q5 q6=>?_).call⟩)
  have hLP:L+1<A.P:=fcs_fresh hPf
  clear hPf
  have q1:A.P<A.td:=q1
  have q2:A.tape=A.td+1:=q2
  have q3:A.tape<tpb:=q3
  have q4:tpb<A.d:=q4
  have q5:A.a=A.d+1:=q5
  have q6:A.a<A.pb:=q6
  have hoff:∀ n,n≤1→A.off L n:=fun n hn=>⟨by exact Nat.lt_of_le_of_lt (Nat.add_le_add_left hn _) (cA hLP (cA q1 (cA (eqk q2) (cA q3 (cA q4 (eqk q5)))))),by exact Nat.lt_of_le_of_lt (Nat.add_le_add_left hn _) (cA hLP (cA q1 (cA (eqk q2) (cA q3 (cA q4 (cA (eqk q5) q6)))))),by exact Nat.lt_of_le_of_lt (Nat.add_le_add_left hn _) hLP,by exact Nat.lt_of_le_of_lt (Nat.add_le_add_left hn _) (cA hLP (cA q1 (eqk q2)))⟩
  have e1:lxs N.C A 0 [] 1 (lexBase N.C A tpb (valL n) (fcs (hds H (shE low sh) σ) L m [none]))=fcs (lxs N.C A 0 [] 1 (hds H (shE low sh) (lexBase N.C A tpb (valL n) σ))) L m [none]:=by
   rw[lexBase_fcs (show L+1<A.td by exact cA hLP q1) (show L+1<A.tape by exact cA hLP (cA q1 (eqk q2))) (show L+1<tpb by exact cA hLP (cA q1 (cA (eqk q2) q3))) (show L+1<A.d by exact cA hLP (cA q1 (cA (eqk q2) (cA q3 q4)))),lxs_off (hoff 1 (Nat.le_refl _))]
   unfold hds
   rw[lexBase_upd (by exact Nat.ne_of_lt (cA hb.2 (cA (ltk hLP) q1))) (by exact Nat.ne_of_lt (cA hb.2 (cA (ltk hLP) (cA q1 (eqk q2))))) (by exact Nat.ne_of_lt (cA hb.2 (cA (ltk hLP) (cA q1 (cA (eqk q2) q3))))) (by exact Nat.ne_of_lt (cA hb.2 (cA (ltk hLP) (cA q1 (cA (eqk q2) (cA q3 q4))))))]
  rw[e1]
  refine⟨_,_,_,rfl,by simp,?_⟩
  refine(?_:XS W _ _ _ (fcs _ L m [some (.ref A.a)]) _)
  have OB:=lexBase_ok (C:=N.C) (A:=A) (tx:=valL n) (σ:=σ) (tpb:=tpb) q1 q2 q3 q4 q5 q6
  refine XS_cons (X_AssignAttr (E_strL wsT (E_c 0 ?_)))
  refine SA_inst T N.X (N.no "whitespace" (by simp)) ((fcs_gt (hoff 1 (Nat.le_refl _)).1).trans lxs_a) (by decide) 4 (.inr ⟨(fun z=>by cases (show some (PV.str A.ws)=none from z)),rfl⟩) ?_
  rw[lexF_ws,fcs_gt' (hoff 1 (Nat.le_refl _)).1]
  refine e1_1 (⟨_,rfl⟩:∃ A':LexA,A'={ A with ws:=wsT }) ?_;intro A' hA'
  have e2:(lxs N.C A 0 [] 1 (hds H (shE low sh) (lexBase N.C A tpb (valL n) σ))).upd A.a (.inst N.C A.d (lexF wsT A.tape A.pb 1) 4)=lxs N.C A' 0 [] (lnAt (valL n) 0) (hds H (shE low sh) (lexBase N.C A' tpb (valL n) σ)):=by
   subst hA'
   unfold lxs
   rw[upd_upd];rfl
  rw[e2]
  have OB':LexOK N.C A' (valL n) (lexBase N.C A' tpb (valL n) σ):=by subst hA';exact⟨OB.tape,OB.ta,OB.tb,OB.tp,OB.ab,OB.ap,OB.bp⟩
  have hoff':∀ n,n≤1→A'.off L n:=by subst hA';exact hoff
  have hws':A'.ws=wsT:=by subst hA';rfl
  have hAa:A.a=A'.a:=by subst hA';rfl
  have q1':A'.P<A'.td∧A'.tape=A'.td+1∧A'.tape<tpb∧tpb<A'.d∧A'.a=A'.d+1∧A'.a<A'.pb∧L+1<A'.P:=by subst hA';exact⟨q1,q2,q3,q4,q5,q6,hLP⟩
  rw[hAa]
  clear e1 e2 hA' OB hoff hws q1 q2 q3 q4 q5 q6 hLP hAa
  refine e0_7 q1' ?_;try clear q1';intro q1 q2 q3 q4 q5 q6 hLP
  have hHl:H.l≠A'.a∧H.l≠A'.pb∧H.l≠A'.P∧H.l≠A'.tape:=⟨by exact Nat.ne_of_lt (cA hb.2 (cA (ltk hLP) (cA q1 (cA (eqk q2) (cA q3 (cA q4 (eqk q5))))))),by exact Nat.ne_of_lt (cA hb.2 (cA (ltk hLP) (cA q1 (cA (eqk q2) (cA q3 (cA q4 (cA (eqk q5) q6))))))),by exact Nat.ne_of_lt (cA hb.2 (ltk hLP)),by exact Nat.ne_of_lt (cA hb.2 (cA (ltk hLP) (cA q1 (eqk q2))))⟩
  have OH:LexOK N.C A' (valL n) (hds H (shE low sh) (lexBase N.C A' tpb (valL n) σ)):=OB'.upd hHl.2.2.2
  have hvl:(valL n).length≤100:=v2
  have h92:isW A'.ws 92=false:=by rw[hws'];decide
  refine XS_MakesS T (inums 0 9) (fun _=>True) (fun i b=>∃ pos,pos≤100+2*i∧(valL n).drop pos=rsV n i∧b=lxs N.C A' pos [] (lnAt (valL n) pos) (hds H (shE low sh) (lexBase N.C A' tpb (valL n) σ))) m [some (.ref A'.a)] (fun i=>.str ((partsV n).getD i [])) (by rw[inums_len];decide) ?_
  refine E_Call [] (kp:=.machine) (E_tn T D.B (n:="range") (by simp) ?_)
  refine EL_cons (E_int (EL_nil (EK_nil ⟨KP_typ,C_range1 T ⟨Itbl.rng0 (n:=9) (by decide),⟨_,⟨0,by exact Nat.le_trans (Nat.le_of_lt (by decide)) (Nat.le_add_right _ _),rfl,rfl⟩,rfl⟩,trivial,fun D' L' e1 e2 e3=>⟨fun _ _ _ _ _=>trivial,?_,?_⟩,?_⟩⟩)))
  ·intro b zz1;refine e1_3 zz1 ?_;clear zz1;intro pos _ _ zz2;subst zz2
   rw[← lxs_off (cs:=[some (.ref A'.a)]) (hoff' 1 (Nat.le_refl _))] at e1 ⊢
   exact lxs_fresh (OH.off (cs:=[some (.ref A'.a)]) (hoff' 1 (Nat.le_refl _))) e1
  ·intro i p b hp zz1 acc m';refine e1_3 zz1 ?_;clear zz1;intro pos hpos hdrop zz2;subst zz2
   refine e0_2 (int_at hp) ?_;intro hi9 zz1;subst zz1
   have hfrb:Fresh (fcs (lxs N.C A' pos [] (lnAt (valL n) pos) (hds H (shE low sh) (lexBase N.C A' tpb (valL n) σ))) L m [some (.ref A'.a)]) D':=by
    rw[← lxs_off (cs:=[some (.ref A'.a)]) (hoff' 1 (Nat.le_refl _))] at e1 ⊢
    exact lxs_fresh (OH.off (cs:=[some (.ref A'.a)]) (hoff' 1 (Nat.le_refl _))) e1
   have hbel:A'.below D':=by
    rw[← lxs_off (cs:=[some (.ref A'.a)]) (hoff' 1 (Nat.le_refl _))] at hfrb
    exact(OH.off (cs:=[some (.ref A'.a)]) (hoff' 1 (Nat.le_refl _))).below hfrb
   refine E_Meth [] (kp:=.frame) (E_f 0 hfrb e2 ?_)
   refine GM_inst T N.X N.gtM.find N.gtM.ty (ins_old hfrb e2 ((fcs_gt (hoff' 1 (Nat.le_refl _)).1).trans lxs_a)) rfl ?_
   refine EL_nil (EK_nil ⟨N.gtM.kp,?_⟩)
   rw[← lxs_off (cs:=[some (.ref A'.a)]) (hoff' 1 (Nat.le_refl _)),← lxs_ins hbel e2]
   have htok:(lexS A'.ws ((valL n).drop pos)).1=(partsV n).getD i []:=by
    rw[hws',hdrop,← parts_ok n hn,List.getD_eq_getElem?_getD,List.getElem?_map,List.getElem?_range (by assumption)];rfl
   have hp1:pos≤1500000:=by exact Nat.le_trans (Nat.le_trans hpos (Nat.add_le_add (Nat.le_refl _) (Nat.mul_le_mul_left _ (Nat.le_of_lt hi9)))) (by decide)
   have hl1:(valL n).length≤1000000:=by exact Nat.le_of_lt (cC v2 (by decide))
   refine(gt_C (k:=k) D N h92 ((OH.off (cs:=[some (.ref A'.a)]) (hoff' 1 (Nat.le_refl _))).ins hbel.2.2.2 e2) hp1 hl1 fun pos' hd' hp'=>?_).call
   rw[htok,lxs_ins hbel e2,lxs_off (cs:=[some (.ref A'.a)]) (hoff' 1 (Nat.le_refl _))]
   refine⟨⟨_,⟨pos',?_,?_,rfl⟩,rfl⟩,rfl⟩
   ·have hmx:max pos (valL n).length≤100+2*i:=Nat.max_le.mpr ⟨hpos,by exact Nat.le_trans v2 (Nat.le_add_right _ _)⟩
    lia
   ·rw[hd',hws',hdrop];rfl
  intro b zz1;refine e1_3 zz1 ?_;clear zz1;intro pos _ _ zz2;subst zz2
  rw[inums_len,show(List.range 9).map (fun i=>PV.str ((partsV n).getD i []))=stsL (partsV n) from rfl]
  have OHd:HdrOK Hc.C H (lxs N.C A' pos [] (lnAt (valL n) pos) (lexBase N.C A' tpb (valL n) σ)):=⟨by
   rw[lxs_else (by exact Nat.ne_of_lt (cA hb.1 (cA (ltk hLP) (cA q1 (cA (eqk q2) (cA q3 (cA q4 (eqk q5)))))))) (by exact Nat.ne_of_lt (cA hb.1 (cA (ltk hLP) (cA q1 (cA (eqk q2) (cA q3 (cA q4 (cA (eqk q5) q6)))))))) (by exact Nat.ne_of_lt (cA hb.1 (ltk hLP))),lexBase_else (by exact Nat.ne_of_lt (cA hb.1 (cA (ltk hLP) q1))) (by exact Nat.ne_of_lt (cA hb.1 (cA (ltk hLP) (cA q1 (eqk q2))))) (by exact Nat.ne_of_lt (cA hb.1 (cA (ltk hLP) (cA q1 (cA (eqk q2) q3))))) (by exact Nat.ne_of_lt (cA hb.1 (cA (ltk hLP) (cA q1 (cA (eqk q2) (cA q3 q4))))))];exact O.at_,O.al⟩
  have e3:lxs N.C A' pos [] (lnAt (valL n) pos) (hds H (shE low sh) (lexBase N.C A' tpb (valL n) σ))=hds H (shE low sh) (lxs N.C A' pos [] (lnAt (valL n) pos) (lexBase N.C A' tpb (valL n) σ)):=by
   unfold hds
   rw[lxs_upd hHl.1 hHl.2.1 hHl.2.2.1]
  rw[e3]
  have hres:res L (lxs N.C A' pos [] (lnAt (valL n) pos) (lexBase N.C A' tpb (valL n) σ))=σ:=by
   unfold lxs lexBase
   rw[res_upd_ge (by exact Nat.le_of_lt (cA (ltk hLP) (cA q1 (cA (eqk q2) (cA q3 (cA q4 (eqk q5))))))),res_upd_ge (by exact Nat.le_of_lt (cA (ltk hLP) (cA q1 (cA (eqk q2) (cA q3 (cA q4 (cA (eqk q5) q6))))))),res_upd_ge (by exact Nat.le_of_lt (ltk hLP)),res_upd_ge (by exact Nat.le_of_lt (cA (ltk hLP) (cA q1 (cA (eqk q2) (cA q3 q4))))),res_upd_ge (by exact Nat.le_of_lt (cA (ltk hLP) (cA q1 (cA (eqk q2) q3)))),res_upd_ge (by exact Nat.le_of_lt (cA (ltk hLP) (cA q1 (eqk q2)))),res_upd_ge (by exact Nat.le_of_lt (cA (ltk hLP) q1)),res_fresh hfr]
  generalize lxs N.C A' pos [] (lnAt (valL n) pos) (lexBase N.C A' tpb (valL n) σ)=X at *
  clear e3
  have k1:=(fset_ne (m:=m) (p:=PV.lst (stsL (partsV n))) (by decide:("shelf":PySem.Str)≠"parts")).trans m1
  have k2:=(fset_ne (m:=m) (p:=PV.lst (stsL (partsV n))) (by decide:("name":PySem.Str)≠"parts")).trans m2
  have k3:=(fset_ne (m:=m) (p:=PV.lst (stsL (partsV n))) (by decide:("run":PySem.Str)≠"parts")).trans m3
  have k4:=(fset_ne (m:=m) (p:=PV.lst (stsL (partsV n))) (by decide:("other":PySem.Str)≠"parts")).trans m4
  have k5:=(fset_ne (m:=m) (p:=PV.lst (stsL (partsV n))) (by decide:("value":PySem.Str)≠"parts")).trans m5
  have k6:fset m "parts" (PV.lst (stsL (partsV n))) "parts"=some (PV.lst (stsL (partsV n))):=fset_same _ _ _
  generalize fset m "parts" (PV.lst (stsL (partsV n)))=m' at *
  have hO1:Out H L ([some (PV.ref A'.a)]:List (Option PV)).length:=hOut 1
  have hkpG:∀ {σ},KP W .frame (.ref M.gt) σ:=fun {σ}=>by refine e6_2 (M.gtM.fn.fn) ?_;intro _ _ _ _ _ _ f _;exact f.kp
  have hel:∀ e∈shE low sh,e.1.length≤1000000:=fun e he=>by
   refine e1_2 (List.mem_map.mp he) ?_;intro e' he' zz1;subst zz1
   have:=(nmE_ok hlow (hsh e' he')).1
   show(nmE low e').length≤_
   exact Nat.le_of_lt (cC this (by decide))
  have hesl:(shE low sh).length≤100000:=by unfold shE;rw[List.length_map];exact Nat.le_of_lt (cC hsl (by decide))
  have hel':∀ e∈shE low sh++[(wN low n,runL n)],e.1.length≤1000000:=fun e he=>by
   rcases List.mem_append.mp he with q |q
   ·exact hel e q
   ·obtain rfl:=List.mem_singleton.mp q;show(wN low n).length≤_;exact Nat.le_of_lt (cC w1 (by decide))
  have hesl':(shE low sh++[(wN low n,runL n)]).length≤100000:=by rw[List.length_append];unfold shE at hesl ⊢;rw[List.length_map] at hesl ⊢;simp;exact Nat.le_of_lt (cC hsl (by decide))
  have hget:getL (shE low sh) (lowerL (wN low n))=[valL n]:=by
   rw[shE_get hlow hn hsh]
   refine e1_1 (List.length_eq_one_iff.mp hone) ?_;intro e he
   rw[he];rfl
  have hanyv:sh.any (fun e=>decide (e.1=n))=true:=by
   rw[List.any_eq_true]
   refine e1_1 (List.length_eq_one_iff.mp hone) ?_;intro e he
   have:e∈sh.filter fun e=>decide (e.1=n):=by rw[he];exact List.mem_singleton.mpr rfl
   exact⟨e,(List.mem_filter.mp this).1,(List.mem_filter.mp this).2⟩
  have hpv:plain (.lst (stsL [valL n]))=true:=plain_sts fun x hx=>by obtain rfl:=List.mem_singleton.mp hx;exact v4
  have hrp:(runL n).all (· < 1114112)=true:=by unfold runL;simp
  refine XS_if (T_orN ?_)
  show Mine.T W _ _ _ _ _
  refine T_Compare ?_
  refine E_Meth [] (kp:=.frame) (E_l ?_ k1)
  refine GM_inst T Hc.X Hc.gaM.find Hc.gaM.ty (s_h OHd hO1) rfl ?_
  refine EL_cons (E_l ?_ k2)
  refine EL_nil (EK_nil ⟨Hc.gaM.kp,(s_ga (k:=k+2) D Hc OHd hO1 (okN_of w4) (by exact Nat.le_of_lt (cC w1 (by decide))) (by exact Nat.le_of_lt (cC w2 (by decide))) hesl hel ?_).call⟩)
  rw[hget]
  refine E_List (EL_cons (E_l ?_ k5))
  refine EL_nil ⟨by simp,ne_same hpv (depth_sts _) (truthy_bool ?_)⟩
  rw[if_neg (by decide)]
  show Mine.T W _ _ _ _ _
  refine T_Compare ?_
  refine E_l ?_ k6
  refine(E_List ?_:E _ _ _ _ _ _)
  refine(EL_strL [120] ?_ ?_:EL _ _ _ _ _ _ _)
  ·decide +kernel
  refine(EL_strL [97,115,45,116,119,111] ?_ ?_:EL _ _ _ _ _ _ _)
  ·decide +kernel
  refine EL_cons (E_l ?_ k3)
  refine(EL_strL [111,102] ?_ ?_:EL _ _ _ _ _ _ _)
  ·decide +kernel
  refine(EL_strL [98,121] ?_ ?_:EL _ _ _ _ _ _ _)
  ·decide +kernel
  refine(EL_strL [34,92] ?_ ?_:EL _ _ _ _ _ _ _)
  ·decide +kernel
  refine(EL_strL [111,110] ?_ ?_:EL _ _ _ _ _ _ _)
  ·decide +kernel
  refine(EL_strL [121] ?_ ?_:EL _ _ _ _ _ _ _)
  ·decide +kernel
  refine(EL_strL [] ?_ ?_:EL _ _ _ _ _ _ _)
  ·decide +kernel
  refine EL_nil ⟨by simp,?_⟩
  refine ne_same (p:=.lst (stsL (partsV n))) (plain_sts fun x hx=>List.all_eq_true.mp (parts_plain n hn) x hx) (depth_sts _) (truthy_bool ?_)
  rw[if_neg (by decide)]
  refine(?_:XS W _ _ _ _ _)
  refine XS_nil ?_
  refine XS_if (T_orN ?_)
  show Mine.T W _ _ _ _ _
  refine T_Compare ?_
  refine E_Meth [] (kp:=.frame) (E_l ?_ k1)
  refine GM_inst T Hc.X Hc.ahM.find Hc.ahM.ty (s_h OHd hO1) rfl ?_
  refine EL_cons (E_l ?_ k2)
  refine EL_cons (E_l ?_ k3)
  refine EL_nil (EK_nil ⟨Hc.ahM.kp,(s_ah (k:=k+2) D Hc OHd hO1 (okN_of w3) (fun c hc=>?_) (by exact Nat.le_of_lt (cC w1 (by decide))) (by exact Nat.le_of_lt (cC (Nat.le_of_eq hr28) (cC p3 (by decide)))) hesl ?_).call⟩)
  ·obtain rfl:=(List.mem_replicate.mp hc).2
   exact⟨.inl (by decide),by decide⟩
  refine E_none (isnot_none_none (truthy_bool ?_))
  rw[if_neg (by decide)]
  show Mine.T W _ _ _ _ _
  refine T_Compare ?_
  refine E_Meth [] (kp:=.frame) (E_l ?_ k1)
  refine GM_inst T Hc.X Hc.gaM.find Hc.gaM.ty (s_h OHd hO1) rfl ?_
  refine EL_cons (E_l ?_ k4)
  refine EL_nil (EK_nil ⟨Hc.gaM.kp,(s_ga (k:=k+2) D Hc OHd hO1 (by rw[o1];exact okN_of w4) (by lia) (by rw[o1];exact Nat.le_of_lt (cC w2 (by decide))) hesl' hel' ?_).call⟩)
  rw[o1,getL_app,hget,show getL [(wN low n,runL n)] (lowerL (wN low n))=[runL n] by unfold getL;simp]
  refine E_List (EL_cons (E_l ?_ k5))
  refine EL_cons (E_l ?_ k3)
  refine EL_nil ⟨by simp,ne_same (p:=.lst (stsL [valL n,runL n])) (plain_sts fun x hx=>?_) (depth_sts _) (truthy_bool ?_)⟩
  ·simp only[List.mem_cons,List.not_mem_nil,or_false] at hx
   rcases hx with rfl |rfl
   ·exact v4
   ·exact hrp
  rw[if_neg (by decide)]
  show Mine.T W _ _ _ _ _
  refine T_Compare ?_
  refine E_Meth [] (kp:=.frame) (E_l ?_ k1)
  refine GM_inst T Hc.X M.gtM.find M.gtM.ty (s_h OHd hO1) rfl ?_
  refine EL_cons (E_l ?_ k4)
  refine EL_nil (EK_nil ⟨hkpG,(s_get (k:=k+2) D M (q:=.none) OHd hO1 (by rw[o1];exact okN_of w4) (by lia) (by rw[o1];exact Nat.le_of_lt (cC w2 (by decide))) hesl' hel' (.inl ⟨rfl,rfl⟩) ?_).call⟩)
  rw[o1,fstL_app,shE_find hlow hn hsh,hanyv,if_pos rfl]
  refine E_l ?_ k5
  refine ne_ss (truthy_bool ?_)
  rw[decide_eq_true rfl,Bool.not_true,if_neg (by decide)]
  refine(?_:XS W _ _ _ _ _)
  refine XS_nil ?_
  refine XS_cons (X_DelSub (E_l ?_ k1))
  refine E_l ?_ k4
  refine D_inst T M.dlM.find M.dlM.ty M.dq (s_h OHd hO1) ?_
  refine(s_del (k:=k+2) D M OHd hO1 (by rw[o1];exact okN_of w4) (by lia) (by rw[o1];exact Nat.le_of_lt (cC w2 (by decide))) hesl' hel' ?_).call
  have hdel:delL (shE low sh++[(wN low n,runL n)]) (lowerL (wN low n))=shE low (sh.filter fun e => !decide (e.1=n)):=by
   rw[delL_app,shE_del hlow hn hsh,show delL [(wN low n,runL n)] (lowerL (wN low n))=[] by unfold delL;simp,List.append_nil]
  have hgd:=getL_del (shE low sh++[(wN low n,runL n)]) (lowerL (wN low n))
  have hdlen:=delL_len (shE low sh++[(wN low n,runL n)]) (lowerL (wN low n))
  have hel2:∀ e∈delL (shE low sh++[(wN low n,runL n)]) (lowerL (wN low n)),e.1.length≤1000000:=fun e he=>hel' e (List.mem_filter.mp he).1
  rw[o1]
  generalize hds2:delL (shE low sh++[(wN low n,runL n)]) (lowerL (wN low n))=es2 at *
  refine XS_ret (E_and2 (E_Compare (E_Meth [] (kp:=.frame) (E_l ?_ k1))))
  refine GM_inst T Hc.X Hc.gaM.find Hc.gaM.ty (s_h OHd hO1) rfl ?_
  refine EL_cons (E_l ?_ k2)
  refine EL_nil (EK_nil ⟨Hc.gaM.kp,(s_ga (k:=k+2) D Hc OHd hO1 (okN_of w4) (by exact Nat.le_of_lt (cC w1 (by decide))) (by exact Nat.le_of_lt (cC w2 (by decide))) (by exact cD hdlen hesl') hel2 ?_).call⟩)
  rw[hgd.1]
  refine E_List (EL_nil ⟨by simp,eq_same (p:=.lst (stsL [])) (plain_sts fun x hx=>by cases hx) (depth_sts _) (truthy_bool ?_)⟩)
  rw[if_pos rfl]
  refine E_Compare (E_Meth [] (kp:=.frame) (E_l ?_ k1))
  refine GM_inst T Hc.X M.gtM.find M.gtM.ty (s_h OHd hO1) rfl ?_
  refine EL_cons (E_l ?_ k2)
  refine EL_cons (E_l ?_ k3)
  refine EL_nil (EK_nil ⟨hkpG,(s_get (k:=k+2) D M (q:=.str (runL n)) OHd hO1 (okN_of w4) (by exact Nat.le_of_lt (cC w1 (by decide))) (by exact Nat.le_of_lt (cC w2 (by decide))) (by exact cD hdlen hesl') hel2 (.inr rfl) ?_).call⟩)
  rw[hgd.2]
  refine E_l ?_ k3
  refine eq_ss ?_
  rw[decide_eq_true rfl]
  show K _ _
  rw[fcs_resr,hdel]
  have e4:res L (hds H (shE low (sh.filter fun e => !decide (e.1=n))) X)=hds H (shE low (sh.filter fun e => !decide (e.1=n))) σ:=by
   unfold hds
   rw[res_upd_lt hb.2,hres]
  rw[e4]
  exact h
 by_cases hc:wN low n=lowerL (wN low n)
 ·rw[decide_eq_true hc,if_pos rfl]
  rw[if_pos hc] at hoth
  refine E_Meth [] (kp:=.machine) (E_l (GM_str PySem.F.slot_str_upper PySem.F.type_str_upper ?_))
  refine EL_nil (EK_nil ⟨KP_blt,C_upper (by exact Nat.le_of_lt (cC w1 (by decide))) ?_⟩)
  rw[hoth];exact fin
 ·rw[decide_eq_false hc,if_neg (by decide)]
  rw[if_neg hc] at hoth
  refine E_Meth [] (kp:=.machine) (E_l (GM_str PySem.F.slot_str_lower PySem.F.type_str_lower ?_))
  refine EL_nil (EK_nil ⟨KP_blt,C_lower (by exact Nat.le_of_lt (cC w1 (by decide))) ?_⟩)
  rw[hoth];exact fin
noncomputable def namesText:List Nat:="OPTIMIZED NEWLOCALS VARARGS VARKEYWORDS NESTED GENERATOR NOFREE COROUTINE ITERABLE_COROUTINE ASYNC_GENERATOR".toList.map Char.toNat
theorem names_split:splitL namesText [32]=names10:=by decide +kernel
theorem and_one (a:Nat):Builtin.bitAnd (a:Int) 1=((a%2:Nat):Int):=by
 rw[show(1:Int)=((1:Nat):Int) from rfl,bitAnd_pp (Int.natCast_nonneg _) (Int.natCast_nonneg _),Int.toNat_natCast,Int.toNat_natCast,Nat.and_one_is_mod]
noncomputable def kBit (v:Nat):PV→Bool
 | .int k=>v.testBit k.toNat
 |_=>false
noncomputable def vWord:PV→PV
 | .int k=>.str (wordC k.toNat)
 |p=>p
theorem names_eq (v:Nat):((inums 0 32).filter (kBit v)).map vWord=stsL (flagsL v):=by
 unfold inums flagsL stsL
 rw[List.filter_map,List.map_map,List.map_map]
 have hk:(kBit v ∘ fun j:Nat=>PV.int (0+(j:Nat)))=fun i:Nat=>v.testBit i:=funext fun j=>by
  show v.testBit ((0:Int)+(j:Nat)).toNat=_
  rw[show((0:Int)+(j:Nat)).toNat=j by exact z0 _]
 rw[hk]
 refine List.map_congr_left fun i _=>?_
 show PV.str (wordC ((0:Int)+(i:Nat)).toNat)=PV.str (wordC i)
 rw[show((0:Int)+(i:Nat)).toNat=i by exact z0 _]
theorem law_names_C (D:L1 W){a:Addr}{v:Nat}{K:PV→Sig→Prop} (F:Fn W a "_law_names" (defAt 27)) (h:K (.lst (stsL (flagsL v))) σ):CC W (k+1) (.ref a) [.int v] [] [] σ K:=by
 refine e5_1 (F.fn) ?_;intro doc pm an cd ct f1
 have T:=D.T
 refine CC_fcs T f1 [("number",.int v,some 0)] 2 (bind1 (n:="number") (fun v=>by rfl) ⟨rfl,rfl⟩) rfl ⟨⟨rfl,fun L=>rfl⟩,trivial⟩ (by rfl) rfl fun (L:Nat) hL=>?_
 refine XS_setc T 1 (E_strL namesText ⟨_,_,_,rfl,Nat.le_of_ble_eq_true rfl,?_⟩)
 refine(?_:XS W _ _ _ (fcs σ L _ [some (.int v),some (.str namesText)]) _)
 refine XS_ret (E_Makes T (inums 0 32) (fun _=>True) (stsL (flagsL v)) ?_)
 refine E_Call [] (kp:=.machine) (E_tn T D.B (n:="range") (by simp) ?_)
 refine EL_cons (E_int (EL_nil (EK_nil ⟨KP_typ,C_range1 T ⟨Itbl.rng0 (n:=32) (by decide),trivial,Makes1 T (kBit v) vWord (names_eq v) (by rw[inums_len];decide) (fun _ _ _ _ _ _=>trivial) (fun D' L' e1 e2=>⟨fun p hp acc m=>?_,fun p hp _ acc m'=>?_⟩),?_⟩⟩)))
 ·refine e1_1 (List.getElem?_of_mem hp) ?_;intro i hi
  refine e0_2 (int_at hi) ?_;intro hi2 zz1;subst zz1
  rw[show(0:Int)+(i:Nat)=((i:Nat):Int) by exact Int.zero_add _]
  refine CI_one (T_val (E_BinOp (E_BinOp (E_f 0 e1 e2 ?_))))
  refine E_m ?_ (fset_same _ _ _)
  refine shr_ii (by exact Int.natCast_nonneg _) ?_
  rw[Int.toNat_natCast,show((v:Nat):Int)/2^i=((v/2^i:Nat):Int) by push_cast;rfl]
  refine E_int (and_ii (truthy_int ⟨rfl,?_⟩))
  rw[and_one]
  show((((v/2^i%2:Nat)):Int) != 0)=v.testBit ((i:Nat):Int).toNat
  rw[Int.toNat_natCast,Nat.testBit_eq_decide_div_mod_eq]
  have:v/2^i%2=0∨v/2^i%2=1:=Nat.mod_two_eq_zero_or_one _
  rcases this with e |e <;> (rw[e];rfl)
 ·refine e1_1 (List.getElem?_of_mem hp) ?_;intro i hi
  refine e0_2 (int_at hi) ?_;intro hi2 zz1;subst zz1
  rw[show(0:Int)+(i:Nat)=((i:Nat):Int) by exact Int.zero_add _]
  refine E_IfExp (T_Compare (E_m ?_ (fset_same _ _ _)))
  refine E_int (lt_ii (truthy_bool ?_))
  by_cases h1:i<10
  ·rw[decide_eq_true (show(i:Int)<10 by exact z2 (by assumption) (by decide)),if_pos rfl]
   refine E_Sub (E_Meth [] (kp:=.machine) (E_f 1 e1 e2 ?_))
   refine GM_str PySem.F.slot_str_split PySem.F.type_str_split ?_
   refine EL_cons (E_strL [32] ?_)
   refine EL_nil (EK_nil ⟨KP_blt,C_split T (by simp) (by decide +kernel) ?_⟩)
   rw[names_split]
   refine E_m ?_ (fset_same _ _ _)
   refine⟨Sbs.lst,get_lst (p:=.str (wordC i)) (by exact Int.natCast_nonneg _) (by exact z2 (by assumption) (by decide)) ?_ ⟨rfl,?_⟩⟩
   ·rw[Int.toNat_natCast]
    unfold stsL wordC
    have hl:i<names10.length:=h1
    rw[if_pos h1,List.getElem?_map,List.getElem?_eq_getElem hl,List.getD_eq_getElem?_getD,List.getElem?_eq_getElem hl]
    rfl
   ·show _=PV.str (wordC ((i:Nat):Int).toNat)
    rw[Int.toNat_natCast]
  ·rw[decide_eq_false (show ¬ (i:Int)<10 by lia),if_neg (by decide)]
   refine E_Call [] (kp:=.machine) (E_bn T D.B (n:="hex") (by simp) ?_)
   refine EL_cons (E_BinOp (E_int (E_m ?_ (fset_same _ _ _))))
   refine shl_ii (by exact Int.natCast_nonneg _) (by exact lei (Nat.le_of_lt hi2) (by decide)) (by decide) ?_
   rw[show(1:Int)*2^((i:Int)).toNat=((2^i:Nat):Int) by simp]
   refine EL_nil (EK_nil ⟨KP_blt,C_hex (by have:=hex_len ⟨i,hi2⟩;dsimp only at this;exact Nat.le_trans (by assumption) (by decide)) ⟨rfl,?_⟩⟩)
   show _=PV.str (wordC ((i:Nat):Int).toNat)
   rw[Int.toNat_natCast]
   unfold wordC
   rw[if_neg h1]
 ·show K _ _
  rw[fcs_res hL]
  exact h
theorem in_il {l:List Int}{i:Int}{K:PV→Sig→Prop} (h:K (.bool (l.any (· == i))) σ):O2 W k VRel (compareOp .In) (.int i) (.lst (intsL l)) σ K:=fun va vb=>.id h fun A hA s hs hpat Q q=>by
 obtain ⟨⟨t,rfl⟩,a,vs,n,rfl,f,r⟩:=hpat
 have ho:s.heap.IsList a vs.toList.toArray:=by rw[Array.toArray_toList];exact isList_of f.2.1
 exact in_list_ints ho (intsAre_of r) (q _ _ rfl rfl rfl rfl)
theorem notin_il {l:List Int}{i:Int}{K:PV→Sig→Prop} (h:K (.bool (!l.any (· == i))) σ):O2 W k VRel (compareOp .NotIn) (.int i) (.lst (intsL l)) σ K:=fun va vb=>.id h fun A hA s hs hpat Q q=>by
 obtain ⟨⟨t,rfl⟩,a,vs,n,rfl,f,r⟩:=hpat
 have ho:s.heap.IsList a vs.toList.toArray:=by rw[Array.toArray_toList];exact isList_of f.2.1
 exact notin_list_ints ho (intsAre_of r) (q _ _ rfl rfl rfl rfl)
end
section
variable {W:Wd}{k:Nat}{σ:Sig}{env:Env}{P:FM→Prop}
theorem Makes2z (T:Top W){elt iter iter2:Expr}{x y z:Str}{px py pz tp:Pos}{n:Nat}{ifs:List Expr}{scope:Scope}{pos:Pos}{cl:List (Str×Addr)}{items items2:List PV}{SrcS:Sig→Prop}{σ₁:Sig} (keep:PV→PV→Bool) (val:PV→PV→PV){r:List PV}
  (hr:(items.flatMap fun p=>(items2.filter (keep p)).map (val p))=r) (hz:r.length≤1000000) (hit:∀ p∈items2,∃ a b,p=.tup [a,b])
  (hsrc:∀ D L,Fresh σ₁ D→D<L→∀ acc m,SrcS (ins σ₁ D L acc m))
  (it2:∀ D L,Fresh σ₁ D→D<L→∀ acc m,EI W k (cenvOf scope cl L env) iter2 items2 (fun pr σ=>∀ c∈pr,σ c=some .own) true (ins σ₁ D L acc m) fun pr σ'=>∃ TO,Fresh (ins σ₁ D L acc m) TO∧pr=[TO]∧σ'=(ins σ₁ D L acc m).upd TO .own)
  (h:∀ L:Nat,∀ p∈items,∀ a b,PV.tup [a,b]∈items2→∀ (S:Sig) m,S L=some (.frame m)→(∀ a o,σ₁ a=some o→S a=some o)→m x=some p→m y=some a→m z=some b →
    (CI W k (cenvOf scope cl L env) ifs S fun c σ'=>σ'=S∧c=keep p (.tup [a,b])) ∧
    (keep p (.tup [a,b])=true→E W k (cenvOf scope cl L env) elt S fun v σ'=>σ'=S∧v=val p (.tup [a,b])))
  (hxy:autoParam (x≠y∧x≠z∧y≠z) tD) (hnc:autoParam ((scope.names.all fun x => !(x.2 == .cell))=true) tR) (hk:autoParam (scope.kind=.function) tR) (hx:autoParam (scope.names.lookup x=some .local) tR) (hy:autoParam (scope.names.lookup y=some .local) tR) (hzz:autoParam (scope.names.lookup z=some .local) tR)
  (hfold:autoParam (∀ L v,foldedSetIterable iter2 (cenvOf scope cl L env) v=Pure.pure v) tI) :
  Makes W k elt (.Name x px) [] [⟨.Name x px,iter,[],0⟩,⟨.Tuple [.Name y py,.Name z pz] n tp,iter2,ifs,0⟩] scope pos items SrcS cl env σ₁ r:=fun (D:Nat) (L:Nat) e1 (e2:D<L)=>by
 subst hr
 refine⟨fun i σ'=>i≤items.length∧∃ m,σ'=ins σ₁ D L ((items.take i).flatMap fun p=>(items2.filter (keep p)).map (val p)) m,?_,fun σ' hpat=>by
  obtain ⟨_,m,e⟩:=hpat
  rw[List.take_length] at e
  subst e
  exact⟨m,ins_D e2,ins_L,res_ins e1 e2⟩⟩
 exact {
  start:=⟨Nat.zero_le _,fun _=>none,by rw[cellsUpd_none hnc];rfl⟩
  src:=fun i σ' hpat=>by obtain ⟨_,m,e⟩:=hpat;exact e▸hsrc D L e1 e2 _ _
  turn:=fun i p σ' hp hpat=>by
   obtain ⟨hi,m,e⟩:=hpat
   subst e
   have hm:p∈items:=List.mem_of_getElem? hp
   have hlt:i<items.length:=by
    rcases Nat.lt_or_ge i items.length with q |q
    ·exact q
    ·rw[List.getElem?_eq_none q] at hp;cases hp
   refine AT_name (S_local T (by show scope.kind=_;exact hk) (lookup_relabel_local hx) ins_L ?_)
   show CI W k _ [] ((ins σ₁ D L _ m).upd L (.frame (fset m x p))) _
   rw[ins_set]
   refine CI_nil ?_
   rw[if_pos rfl]
   refine G.subM (fun _ _ _ _ _ h=>h) ?_
   refine CB_forI (tup:=true) T rfl items2 (fun pr σ=>∀ c∈pr,σ c=some .own) (fun pr j σ'=>∃ m TO,m x=some p∧L<TO∧pr=[TO]∧σ'=(ins σ₁ D L (((items.take i).flatMap fun p=>(items2.filter (keep p)).map (val p))++((items2.take j).filter (keep p)).map (val p)) m).upd TO .own) ?_ ?_ ?_ ?_ rfl (hfold L)
   ·refine fun A hA s hs=>wpAny_mono (it2 D L e1 e2 _ (fset m x p) A hA s hs) (fun v s' hpat=>fun Q hQ=>hpat Q fun I wr pr SrcF At Mid σ₁' s₂ S2 F2 It hat hsrc hI hw hp hJ=>hQ I wr pr SrcF At Mid σ₁' s₂ S2 F2 It hat hsrc hI hw hp ?_) fun _ _ x=>x
    refine e1_3 hJ ?_;try clear hJ;intro (TO:Nat) t1 t2 t3
    refine⟨fset m x p,TO,fset_same _ _ _,?_,t2,by rw[t3];simp⟩
    rcases Nat.lt_or_ge L TO with q |q
    ·exact q
    ·have:=t1 L q;rw[ins_L] at this;cases this
   ·intro pr j σ'' zz1 c hc;refine e2_4 zz1 ?_;clear zz1;intro m TO _ _ zz2 e;subst zz2
    obtain rfl:=List.mem_singleton.mp hc
    rw[e];exact upd_same _ _ _
   ·intro pr j q σ'' hq zz1;refine e2_4 zz1 ?_;clear zz1;intro m TO hmx hTO zz2 e;subst zz2
    have hm2:q∈items2:=List.mem_of_getElem? hq
    refine e2_1 (hit q hm2) ?_;intro a b zz1;subst zz1
    have hLT:L≠TO:=Nat.ne_of_lt hTO
    have hS:∀ acc m,((ins σ₁ D L acc m).upd TO .own) L=some (.frame m):=fun acc m=>(upd_ne hLT).trans ins_L
    have hup:∀ acc m x p,((ins σ₁ D L acc m).upd TO .own).upd L (.frame (fset m x p))=(ins σ₁ D L acc (fset m x p)).upd TO .own:=fun acc m x p=>by rw[upd_comm hLT.symm,ins_set]
    subst e
    refine AT_tup T rfl ?_
    refine AT_name (S_local T (by show scope.kind=_;exact hk) (lookup_relabel_local hy) (hS _ _) ?_)
    refine AT_name (S_local T (by show scope.kind=_;exact hk) (lookup_relabel_local hzz) (upd_same _ _ _) ?_)
    show CI W k _ ifs ((((ins σ₁ D L _ m).upd TO .own).upd L (.frame (fset m y a))).upd L (.frame (fset (fset m y a) z b))) _
    rw[hup,hup]
    have hx':fset (fset m y a) z b x=some p:=(fset_ne hxy.2.1).trans ((fset_ne hxy.1).trans hmx)
    have hy':fset (fset m y a) z b y=some a:=(fset_ne hxy.2.2).trans (fset_same _ _ _)
    have hold:∀ acc m c o,σ₁ c=some o→((ins σ₁ D L acc m).upd TO .own) c=some o:=fun acc m (c:Nat) o e=>by
     have hc:c<D:=by
      rcases Nat.lt_or_ge c D with q |q
      ·exact q
      ·have:=e1 c q;rw[e] at this;cases this
     exact(upd_ne (Nat.ne_of_lt (Nat.lt_trans hc (Nat.lt_trans e2 hTO)))).trans (ins_old e1 e2 e)
    refine e0_2 (h L p hm a b hm2 _ _ (hS (((items.take i).flatMap fun p=>(items2.filter (keep p)).map (val p))++((items2.take j).filter (keep p)).map (val p)) _) (hold _ _) hx' hy' (fset_same _ _ _)) ?_;intro h1 h2
    refine h1.imp fun c σ₂ hpat=>?_
    refine e0_2 hpat ?_;try clear hpat;intro b1 b2
    subst b1 b2
    cases hk':keep p (.tup [a,b]) with
    |false=>exact⟨_,TO,hx',hTO,rfl,by rw[take_succ_fm hq,hk'];simp⟩
    |true =>
     rw[if_pos rfl]
     refine CB_elt T rfl ((h2 hk').imp fun v σ₃ hpat=>?_)
     refine e0_2 hpat ?_;try clear hpat;intro c1 c2
     subst c1 c2
     have hDT:TO≠D:=Nat.ne_of_gt (Nat.lt_trans e2 hTO)
     refine⟨_,(upd_ne hDT.symm).trans (ins_D e2),?_,_,TO,hx',hTO,rfl,by rw[upd_comm hDT,ins_acc e2,take_succ_fm hq,hk',if_pos rfl,List.append_assoc]⟩
     rw[List.length_append]
     have h1:=flatMap_bound (g:=fun p=>(items2.filter (keep p)).map (val p)) hp
     have h2:=filter_map_take_len (items:=items2) (keep:=keep p) (val:=val p) (i:=j)
     have h1:((items.take i).flatMap fun p=>(items2.filter (keep p)).map (val p)).length+((items2.filter (keep p)).map (val p)).length≤(items.flatMap fun p=>(items2.filter (keep p)).map (val p)).length:=h1
     lia
   ·intro pr σ'' zz1;refine e2_4 zz1 ?_;clear zz1;intro m TO hmx hTO zz2 e;subst zz2
    have hn:∀ acc m,ins σ₁ D L acc m TO=none:=fun acc m=>by
     unfold ins
     rw[upd_ne (Nat.ne_of_gt hTO),upd_ne (Nat.ne_of_gt (Nat.lt_trans e2 hTO))]
     exact e1 TO (Nat.le_of_lt (Nat.lt_trans e2 hTO))
    refine⟨_,fun s S=>?_,hlt,m,by rw[flatMap_take hp]⟩
    have:=sub_own (a:=TO) S (by rw[e];exact upd_same _ _ _)
    rw[e,upd_del (hn _ _),List.take_length] at this
    rw[e,List.take_length]
    exact this }
theorem E_MakesSz (T:Top W){elt iter:Expr}{x y:Str}{px py tp:Pos}{n:Nat}{scope:Scope}{pos:Pos}{cl:List (Str×Addr)} (items:List PV) (val:Nat→PV){K:PV→Sig→Prop} (hz:items.length≤1000000) (hit:∀ p∈items,∃ a b,p=.tup [a,b])
  (h:EI W k env iter items (fun pr σ=>∀ c∈pr,σ c=some .own) true σ fun pr σ₁=>∃ (TO:Addr) (B:Nat→Sig→Prop),pr=[TO]∧B 0 σ₁∧(∀ i b,B i b→b TO=some .own)∧(∀ D L,Fresh σ₁ D→D<L→Fresh σ₁ L→(∀ b,B items.length b→Fresh b D) ∧
   ∀ i a c b,items[i]? = some (.tup [a,c])→B i b→∀ acc m,E W k (cenvOf scope cl L env) elt (ins b D L acc (fset (fset m x a) y c)) fun q σ'=>(∃ b',B (i+1) b'∧σ'=ins b' D L acc (fset (fset m x a) y c))∧q=val i)∧∀ b,B items.length b→K (.lst ((List.range items.length).map val)) b)
  (hnc:autoParam ((scope.names.all fun x => !(x.2 == .cell))=true) tR) (hx:autoParam (scope.names.lookup x=some .local) tR) (hy:autoParam (scope.names.lookup y=some .local) tR)
  (hclos:autoParam (closureFor scope env=Pure.pure cl) tR) (hkind:autoParam (scope.kind=.function) tR) (hnames:autoParam (∀ x∈scope.names,x.2=.local→scope.names.lookup x.1=some .local) tD)
  (hfold:autoParam (∀ x,foldedSetIterable iter env x=Pure.pure x) tI):E W k env (.ListComp elt [⟨.Tuple [.Name x px,.Name y py] n tp,iter,[],0⟩] scope pos) σ K:=by
 refine E_ListCompI T (tup:=true) items (fun pr σ=>∀ c∈pr,σ c=some .own) ?_ rfl hclos hkind hnames hfold
 refine fun A hA s hs=>wpAny_mono (h A hA s hs) (fun v s' hpat=>fun Q hQ=>hpat Q fun I wr pr SrcF At Mid σ₁ s₂ S2 F2 It hat hsrc hI hw hp hJ=>hQ I wr pr SrcF At Mid σ₁ s₂ S2 F2 It hat hsrc hI hw hp fun (D:Nat) (L:Nat) e1 (e2:D<L) e3=>?_) fun _ _ x=>x
 refine e2_5 hJ ?_;try clear hJ;intro (TO:Nat) B zz1 hB0 hBT hin hfin;subst zz1
 refine e0_2 (hin D L e1 e2 e3) ?_;intro h1 h2
 have hTD:TO<D:=by
  rcases Nat.lt_or_ge TO D with q |q
  ·exact q
  ·have:=e1 TO q;rw[hBT 0 _ hB0] at this;cases this
 refine⟨fun i σ'=>i≤items.length∧∃ b m,B i b∧σ'=ins b D L ((List.range i).map val) m,?_,fun σ' hpat=>?_⟩
 ·exact {
   start:=⟨Nat.zero_le _,σ₁,fun _=>none,hB0,by rw[cellsUpd_none hnc];rfl⟩
   src:=fun i σ' hpat c hc=>by
    obtain ⟨_,b,m,hb,e⟩:=hpat
    obtain rfl:=List.mem_singleton.mp hc
    subst e
    unfold ins
    rw[upd_ne (Nat.ne_of_lt (Nat.lt_trans hTD e2)),upd_ne (Nat.ne_of_lt hTD)]
    exact hBT i b hb
   turn:=fun i p σ' hp hpat=>by
    obtain ⟨hi,b,m,hb,e⟩:=hpat
    subst e
    have hlt:i<items.length:=by
     rcases Nat.lt_or_ge i items.length with q |q
     ·exact q
     ·rw[List.getElem?_eq_none q] at hp;cases hp
    refine e2_1 (hit p (List.mem_of_getElem? hp)) ?_;intro a c zz1;subst zz1
    refine AT_tup T rfl ?_
    refine AT_name (S_local T (by show scope.kind=_;exact hkind) (lookup_relabel_local hx) ins_L ?_)
    refine AT_name (S_local T (by show scope.kind=_;exact hkind) (lookup_relabel_local hy) (upd_same _ _ _) ?_)
    show CI W k _ [] (((ins b D L _ m).upd L (.frame (fset m x a))).upd L (.frame (fset (fset m x a) y c))) _
    rw[ins_set,ins_set]
    refine CI_nil ?_
    rw[if_pos rfl]
    refine CB_elt T rfl ((h2 i a c b hp hb _ m).imp fun q σ₃ hpat=>?_)
    refine e0_2 hpat ?_;try clear hpat;intro zz1 e2';refine e1_2 zz1 ?_;clear zz1;intro b' hb' e1
    subst e1 e2'
    refine⟨_,ins_D e2,?_,hlt,b',_,hb',by rw[ins_acc e2,List.range_succ,List.map_append];rfl⟩
    rw[List.length_map,List.length_range]
    exact Nat.le_trans hi hz }
 ·obtain ⟨_,b,m,hb,e⟩:=hpat
  subst e
  refine⟨_,m,ins_D e2,ins_L,?_⟩
  rw[res_ins (h1 b hb) e2]
  exact hfin b hb
end
noncomputable def cOK (o n:Nat):Bool:=(decide (n/o=1) ||decide (n/o=2) ||decide (n/o=4))&&decide (n%o=0)
noncomputable def cntL (l:List Nat) (o:Nat):Nat:=((l.filter (cOK o)).map (· / o)).sum
noncomputable def cntD (d:Dr) (o:Nat):Nat:=cntL (szs d) o
noncomputable def prtD (d:Dr):List Nat:=(List.range 4).flatMap fun i=>((List.range 5).filter fun k=>(cntD d (2*i+1)).testBit k).map fun k=>(2*i+1)*2^k
noncomputable def lowD (d:Dr):Nat:=cel d 6%18
noncomputable def flgD (d:Dr):Nat:=(cntD d 1+cntD d 3*2^5+cntD d 5*2^9+cntD d 7*2^12)*2^lowD d
noncomputable def jD (d:Dr) (i:Nat):Jst:=jit ⟨szs d,[],[]⟩ i
noncomputable def lastL (came prt:List Nat):List (Nat×Nat):=(List.range came.length).flatMap fun i=>(prt.filter fun p=>decide (p=came.getD i 0) && !(came.drop (i+1)).contains p).map fun p=>(i,p)
noncomputable def onesD (d:Dr):List Nat:=List.replicate (cntD d 1) 1++List.replicate (cntD d 3) 3++List.replicate (cntD d 5) 5++List.replicate (cntD d 7) 7
structure Facts2 (f:Int→Option (List Nat)) (g:Int→Bool) (d:Dr) (rs:Nat→List Nat):Prop where
 r0:rs 0=wholeD d
 r7:rs 7=[]
 lex:∀ k,k<7→lexS [10,9,13,32] (rs k)=(typD d k,rs (k+1))
 prep:∀ k,k<6→shownL g (typD d k)=shoD d k∧prepL f g (typD d k)=preD d k
 small:∀ k,k<7→(typD d k).all (· < 1114112)=true
 smallS:∀ k,k<6→(shoD d k).all (· < 1114112)=true∧(preD d k).all (· < 1114112)=true
 join:∀ i,i≤11→JI (jD d i)
 jend:(jD d 11).q=[]
 came6:(jD d 11).came.take 6=szs d
 cle:∀ o,cntD d o≤42
 fl0:flgD d≠0
 fl1:flgD d<2^32
 flS:splitL (jn [44,32] (flagsL (flgD d))) [44,32]=flagsL (flgD d)
 flN:flagsL (flgD d)=(prtD d).map (wN (lowD d))
 keys:(jD d 11).sh=(lastL (jD d 11).came (prtD d)).map fun e=>(e.2,decide (e.1%2=0))
 nd:(prtD d).Nodup
 pm:((jD d 11).sh.map (·.1)).Perm (prtD d)
 pq:(pit ⟨prtD d,[]⟩ 48).q=[]
 po:(pit ⟨prtD d,[]⟩ 48).odd.Perm (onesD d)
theorem jit_end {s:Jst}{i:Nat} (h:(jit s i).q=[]):∀ {j:Nat},i≤j→jit s j=jit s i:=by
 intro j hj
 induction j with
 |zero=>rw[Nat.le_zero.mp hj]
 |succ j ih =>
  rcases Nat.lt_or_ge i (j+1) with q |q
  ·have e:=ih (Nat.lt_succ_iff.mp q)
   show jstep (jit s j)=_
   rw[e]
   unfold jstep
   rw[h]
  ·rw[Nat.le_antisymm hj q]
theorem natsL_ints (l:List Nat):natsL l=intsL (l.map fun n:Nat=>(n:Int)):=by unfold natsL intsL;rw[List.map_map];rfl
theorem natsL_at {l:List Nat}{i:Nat}{p:PV} (h:(natsL l)[i]? = some p):∃ n,l[i]? = some n∧p=.int (n:Int):=by
 unfold natsL at h
 rw[List.getElem?_map] at h
 cases q:l[i]? with
 |none=>rw[q] at h;cases h
 |some n=>rw[q] at h;exact⟨n,rfl,(Option.some.inj h).symm⟩
theorem natsL_mem {l:List Nat}{p:PV} (h:p∈natsL l):∃ n,n∈l∧p=.int (n:Int):=by
 refine e1_2 (List.mem_map.mp h) ?_;intro n h1 h2
 exact⟨n,h1,h2.symm⟩
theorem sum_ints:∀ l:List Nat,(l.map fun n:Nat=>(n:Int)).sum=((l.sum:Nat):Int)
 |[]=>rfl
 |n::l=>by rw[List.map_cons,List.sum_cons,List.sum_cons,sum_ints l];push_cast;rfl
noncomputable def kCnt (o:Nat):PV→Bool
 | .int n=>([1,2,4]:List Int).any (· == n/(o:Int))&&decide (n%(o:Int)=0)
 |_=>false
noncomputable def vCnt (o:Nat):PV→PV
 | .int n=>.int (n/(o:Int))
 |p=>p
theorem kCnt_eq (o n:Nat):kCnt o (.int (n:Int))=cOK o n:=by
 have e:((n:Int)/(o:Int))=((n/o:Nat):Int):=(Int.natCast_ediv n o).symm
 have e1:decide ((n:Int)%(o:Int)=0)=decide (n%o=0):=decide_eq_decide.mpr (by rw[← Int.natCast_emod];exact Int.natCast_eq_zero)
 have e2:∀ c:Nat,(((c:Nat):Int)==((n/o:Nat):Int))=decide (n/o=c):=fun c=>by
  rw[Bool.eq_iff_iff,beq_iff_eq,decide_eq_true_eq]
  constructor
  ·intro h;exact(Int.ofNat.inj h).symm
  ·intro h;rw[h]
 unfold cOK
 show(([1,2,4]:List Int).any (· == (n:Int)/(o:Int))&&decide ((n:Int)%(o:Int)=0))=_
 rw[e,e1]
 show(((((1:Nat):Int)==((n/o:Nat):Int)) ||((((2:Nat):Int)==((n/o:Nat):Int)) ||((((4:Nat):Int)==((n/o:Nat):Int)) ||false)))&&decide (n%o=0))=_
 rw[e2,e2,e2,Bool.or_false,Bool.or_assoc]
theorem cnt_eq (o:Nat):∀ l:List Nat,((natsL l).filter (kCnt o)).map (vCnt o)=natsL ((l.filter (cOK o)).map (· / o))
 |[]=>rfl
 |n::l=>by
  have ih:=cnt_eq o l
  show List.map _ (List.filter _ (PV.int (n:Int)::natsL l))=_
  rw[List.filter_cons,List.filter_cons,kCnt_eq]
  cases h:cOK o n
  ·rw[if_neg (by decide),if_neg (by decide)];exact ih
  ·rw[if_pos rfl,if_pos rfl,List.map_cons,ih]
   show PV.int _::_=PV.int _::_
   rw[Int.natCast_ediv];rfl
noncomputable def vOdd (d:Dr):PV→PV
 | .int o=>.int (cntD d o.toNat:Nat)
 |p=>p
noncomputable def kPrt (d:Dr):PV→PV→Bool
 | .int i,.int k=>(cntD d (2*i.toNat+1)).testBit k.toNat
 |_,_=>false
noncomputable def vPrt:PV→PV→PV
 | .int i,.int k=>.int (((2*i.toNat+1)*2^k.toNat:Nat):Int)
 |p,_=>p
theorem inums0 (n:Nat):inums 0 n=natsL (List.range n):=by
 unfold inums natsL
 simp
theorem prt_eq (d:Dr):((inums 0 4).flatMap fun p=>((inums 0 5).filter (kPrt d p)).map (vPrt p))=natsL (prtD d):=by
 have h:∀ (i:Nat) (l:List Nat),((natsL l).filter (kPrt d (.int (i:Int)))).map (vPrt (.int (i:Int)))=natsL ((l.filter fun k=>(cntD d (2*i+1)).testBit k).map fun k=>(2*i+1)*2^k):=fun i l=>by
  unfold natsL
  rw[List.filter_map,List.map_map,List.map_map]
  rfl
 have h2:∀ l:List Nat,((natsL l).flatMap fun p=>((inums 0 5).filter (kPrt d p)).map (vPrt p))=natsL (l.flatMap fun i=>((List.range 5).filter fun k=>(cntD d (2*i+1)).testBit k).map fun k=>(2*i+1)*2^k):=fun l=>by
  induction l with
  |nil=>rfl
  |cons i l ih =>
   show List.flatMap _ (PV.int (i:Int)::natsL l)=_
   rw[List.flatMap_cons,ih,List.flatMap_cons,← natsL_app,inums0 5,h]
 rw[inums0 4]
 exact h2 _
noncomputable def kLast (came:List Nat):PV→PV→Bool
 | .int i,.tup [.int p,_]=>decide (p=((came.getD i.toNat 0:Nat):Int)) && !((came.drop (i.toNat+1)).map fun n:Nat=>(n:Int)).any (· == p)
 |_,_=>false
noncomputable def vLast:PV→PV→PV
 | .int i,.tup [_,q]=>.tup [.int i,q]
 |p,_=>p
noncomputable def lastP (low:Nat) (l:List (Nat×Nat)):List PV:=l.map fun e=>.tup [.int (e.1:Int),.str (wN low e.2)]
theorem any_cast (l:List Nat) (p:Nat):(l.map fun n:Nat=>(n:Int)).any (· == (p:Int))=l.contains p:=by
 induction l with
 |nil=>rfl
 |cons n l ih =>
  rw[List.map_cons,List.any_cons,ih,List.contains_cons]
  congr 1
  rw[Bool.eq_iff_iff,beq_iff_eq,beq_iff_eq]
  constructor
  ·intro h;exact(Int.ofNat.inj h).symm
  ·intro h;rw[h]
theorem last_eq (low:Nat) (came prt:List Nat):((inums 0 came.length).flatMap fun p=>((zips (natsL prt) (stsL (prt.map (wN low)))).filter (kLast came p)).map (vLast p))=lastP low (lastL came prt):=by
 have hz:zips (natsL prt) (stsL (prt.map (wN low)))=prt.map fun p:Nat=>PV.tup [.int (p:Int),.str (wN low p)]:=by
  induction prt with
  |nil=>rfl
  |cons p prt ih =>
   show PV.tup [_,_]::zips (natsL prt) (stsL (prt.map (wN low)))=_
   rw[ih];rfl
 have h:∀ i:Nat,((zips (natsL prt) (stsL (prt.map (wN low)))).filter (kLast came (.int (i:Int)))).map (vLast (.int (i:Int)))=lastP low ((prt.filter fun p=>decide (p=came.getD i 0) && !(came.drop (i+1)).contains p).map fun p=>(i,p)):=fun i=>by
  rw[hz,List.filter_map,List.map_map]
  unfold lastP
  rw[List.map_map]
  have e:∀ p:Nat,(kLast came (.int (i:Int)) ∘ fun p:Nat=>PV.tup [.int (p:Int),.str (wN low p)]) p=(decide (p=came.getD i 0) && !(came.drop (i+1)).contains p):=fun p=>by
   show(decide ((p:Int)=((came.getD ((i:Int)).toNat 0:Nat):Int)) && !((came.drop (((i:Int)).toNat+1)).map fun n:Nat=>(n:Int)).any (· == (p:Int)))=_
   rw[Int.toNat_natCast,any_cast]
   congr 1
   exact decide_eq_decide.mpr Int.ofNat_inj
  rw[show(kLast came (.int (i:Int)) ∘ fun p:Nat=>PV.tup [.int (p:Int),.str (wN low p)])=(fun p=>decide (p=came.getD i 0) && !(came.drop (i+1)).contains p) from funext e]
  rfl
 have h2:∀ l:List Nat,((natsL l).flatMap fun p=>((zips (natsL prt) (stsL (prt.map (wN low)))).filter (kLast came p)).map (vLast p))=lastP low (l.flatMap fun i=>(prt.filter fun p=>decide (p=came.getD i 0) && !(came.drop (i+1)).contains p).map fun p=>(i,p)):=fun l=>by
  induction l with
  |nil=>rfl
  |cons i l ih =>
   show List.flatMap _ (PV.int (i:Int)::natsL l)=_
   rw[List.flatMap_cons,ih,List.flatMap_cons,h]
   unfold lastP
   rw[List.map_append]
 rw[inums0]
 exact h2 _
noncomputable def vName:PV→PV
 | .tup [.int i,.str n]=>.str (if i%2=0 then lowerL n else n)
 |p=>p
theorem name_eq (low:Nat) (l:List (Nat×Nat)):((lastP low l).filter fun _=>true).map vName=stsL (l.map fun e=>nmE low (e.2,decide (e.1%2=0))):=by
 rw[fmap_true]
 unfold lastP stsL
 rw[List.map_map,List.map_map]
 refine List.map_congr_left fun e _=>?_
 show PV.str (if ((e.1:Nat):Int)%2=0 then _ else _)=PV.str (if decide (e.1%2=0)=true then _ else _)
 congr 1
 by_cases h:e.1%2=0
 ·rw[if_pos (by lia),if_pos (decide_eq_true h)]
 ·rw[if_neg (by lia),if_neg (by rw[decide_eq_false h];decide)]
theorem plains_of:∀ {l:List PV},(∀ p∈l,plain p=true)→plains l=true
 |[],_=>rfl
 |p::l,h=>by
  show(plain p&&plains l)=true
  rw[plains_of (fun q hq=>h q (List.mem_cons_of_mem _ hq)),Bool.and_true]
  exact h p (List.mem_cons_self ..)
theorem depthAll_of {n:Nat}:∀ {l:List PV},(∀ p∈l,(pd p).depth≤n)→PyData.depthAll (pds l)≤n
 |[],_=>Nat.zero_le _
 |p::l,h=>by
  have h1:=h p (List.mem_cons_self ..)
  have h2:=depthAll_of (n:=n) (l:=l) fun q hq=>h q (List.mem_cons_of_mem _ hq)
  show PyData.depthAll (pd p::pds l)≤n
  exact Nat.max_le.mpr ⟨h1,h2⟩
theorem depth_of {l:List PV} (h:∀ p∈l,(pd p).depth≤60):(pd (.lst l)).depth≤64:=by
 have:=depthAll_of h
 show(PyData.list (pds l)).depth≤64
 simp only[PyData.depth]
 exact Nat.le_trans (Nat.add_le_add this (Nat.le_refl _)) (by decide)
theorem plain_nats (l:List Nat):plain (.lst (natsL l))=true:=plains_of fun p hp=>by refine e1_2 (natsL_mem hp) ?_;intro n _ zz1;subst zz1;rfl
theorem depth_nats (l:List Nat):(pd (.lst (natsL l))).depth≤64:=depth_of fun p hp=>by refine e1_2 (natsL_mem hp) ?_;intro n _ zz1;subst zz1;exact Nat.zero_le _
theorem count_nodup:∀ {l:List Nat},l.Nodup→∀ {n},n∈l→l.count n=1
 |[],_,_,hm=>by cases hm
 |m::l,h,n,hm=>by
  refine e0_2 (List.nodup_cons.mp h) ?_;intro h1 h2
  rw[List.count_cons]
  by_cases q:m=n
  ·subst q
   rw[List.count_eq_zero.mpr h1];simp
  ·have:n∈l:=by
    rcases List.mem_cons.mp hm with e |e
    ·exact absurd e.symm q
    ·exact e
   rw[count_nodup h2 this];simp[q]
section
variable {f:Int→Option (List Nat)}{g:Int→Bool}{d:Dr}{rs:Nat→List Nat}
theorem plain_pairs (F:Facts2 f g d rs):plain (.lst (pairsTo d 6))=true∧(pd (.lst (pairsTo d 6))).depth≤64:=by
 have h:∀ p∈pairsTo d 6,∃ k,k<6∧p=.tup [.str (shoD d k),.str (preD d k)]:=fun p hp=>by
  refine e1_2 (List.mem_map.mp hp) ?_;intro k hk zz1;subst zz1
  exact⟨k,List.mem_range.mp hk,rfl⟩
 refine⟨plains_of fun p hp=>?_,depth_of fun p hp=>?_⟩
 ·refine e1_2 (h p hp) ?_;intro k hk zz1;subst zz1
  refine e0_2 (F.smallS k hk) ?_;intro h1 h2
  show(plain (.str _)&&(plain (.str _)&&true))=true
  rw[show plain (.str (shoD d k))=true from h1,show plain (.str (preD d k))=true from h2];rfl
 ·refine e1_2 (h p hp) ?_;intro k hk zz1;subst zz1
  show(PyData.tuple [pd (.str _),pd (.str _)]).depth≤60
  exact Nat.le_of_ble_eq_true rfl
theorem Facts2.prm (F:Facts2 f g d rs):∀ p∈prtD d,p∈sizesV:=fun p hp=>by
 have:=F.pm.mem_iff.mpr hp
 refine e1_2 (List.mem_map.mp this) ?_;intro e he zz1;subst zz1
 exact(F.join 11 (Nat.le_refl _)).sh e he
theorem Facts2.prl (F:Facts2 f g d rs):(prtD d).length≤6:=by
 have:=F.pm.length_eq
 rw[List.length_map] at this
 rw[← this]
 exact(F.join 11 (Nat.le_refl _)).sl
noncomputable def shAt (d:Dr) (i:Nat):List (Nat×Bool):=(jD d 11).sh.filter fun e => !((prtD d).take i).contains e.1
theorem Facts2.one (F:Facts2 f g d rs){i n:Nat} (h:(prtD d)[i]? = some n):((shAt d i).filter fun e=>decide (e.1=n)).length=1∧(shAt d i).filter (fun e => !decide (e.1=n))=shAt d (i+1):=by
 have hlt:i<(prtD d).length:=by
  rcases Nat.lt_or_ge i (prtD d).length with q |q
  ·exact q
  ·rw[List.getElem?_eq_none q] at h;cases h
 have hn:n ∉ (prtD d).take i:=fun hm=>by
  obtain ⟨j,hj,hj2⟩:=List.mem_iff_getElem.mp hm
  rw[List.length_take] at hj
  have hji:j<i:=Nat.lt_of_lt_of_le hj (Nat.min_le_left _ _)
  have hjl:j<(prtD d).length:=Nat.lt_trans hji hlt
  rw[List.getElem_take] at hj2
  have h2:=h
  rw[List.getElem?_eq_getElem hlt] at h2
  have:(prtD d)[j]=(prtD d)[i]:=hj2.trans (Option.some.inj h2).symm
  exact List.pairwise_iff_getElem.mp F.nd j i hjl hlt hji this
 constructor
 ·unfold shAt
  rw[List.filter_filter]
  have e:((jD d 11).sh.filter fun e=>(decide (e.1=n)) && !((prtD d).take i).contains e.1)=(jD d 11).sh.filter fun e=>decide (e.1=n):=by
   refine List.filter_congr fun e _=>?_
   by_cases q:e.1=n
   ·rw[decide_eq_true q,Bool.true_and,q]
    simpa using hn
   ·rw[decide_eq_false q,Bool.false_and]
  rw[e]
  have hc:((jD d 11).sh.map (·.1)).count n=1:=by
   rw[F.pm.count_eq]
   exact count_nodup F.nd (List.mem_of_getElem? h)
  rw[← hc,List.count,List.countP_map,List.countP_eq_length_filter]
  rfl
 ·unfold shAt
  rw[List.filter_filter]
  refine List.filter_congr fun e _=>?_
  rw[List.take_add_one,h]
  show _ = !((prtD d).take i++[n]).contains e.1
  rw[List.contains_eq_mem,List.contains_eq_mem]
  by_cases q:e.1=n
  ·rw[decide_eq_true q]
   simp[q]
  ·rw[decide_eq_false q]
   simp[q]
end
section
variable {C Ch:Addr}{A:LexA}{H:HdrA}{tx:List Nat}{pos:Nat}{ln:Int}{pbl:List (List Nat)}{es:List (List Nat×List Nat)}{σ:Sig}
theorem both_off {L:Nat}{m:Str→Option PV}{cs:List (Option PV)} (h:A.off L cs.length) (hl:L+cs.length<H.l):both C A H pos ln pbl es (fcs σ L m cs)=fcs (both C A H pos ln pbl es σ) L m cs:=by
 unfold both hds
 rw[fcs_gt' hl,lxs_off h]
theorem hds_ins {D L':Nat}{acc:List PV}{m:Str→Option PV} (h:H.l<D) (hD:D<L'):hds H es (ins σ D L' acc m)=ins (hds H es σ) D L' acc m:=by
 unfold hds ins
 rw[upd_comm (Nat.ne_of_gt (Nat.lt_trans h hD)),upd_comm (Nat.ne_of_gt h)]
theorem HdrOK.ins (h:HdrOK Ch H σ){D L':Nat}{acc:List PV}{m:Str→Option PV} (h1:H.a<D) (hD:D<L'):HdrOK Ch H (Mine.ins σ D L' acc m):=by
 refine⟨?_,h.al⟩
 unfold Mine.ins
 rw[upd_ne (Nat.ne_of_lt (Nat.lt_trans h1 hD)),upd_ne (Nat.ne_of_lt h1)]
 exact h.at_
end
theorem countL_one (x:List Nat) (c:Nat):countL x [c]=(x.count c:Nat):=by
 unfold countL
 rw[show st [c]=⟨#[c]⟩ from rfl,count_cnt]
 show cnt c x.toArray.toList=_
 rw[List.toList_toArray]
 induction x with
 |nil=>rfl
 |cons d x ih =>
  rw[List.count_cons,cnt_cons,ih]
  by_cases h:d=c
  ·subst h;simp;lia
  ·simp[h]
theorem jn_len:∀ l:List (List Nat),(∀ x∈l,x.length≤30)→(jn [44,32] l).length≤32*l.length
 |[],_=>Nat.le_refl _
 |[x],h=>by
  have:=h x (List.mem_cons_self ..)
  show x.length≤32*1
  exact Nat.le_trans (by assumption) (by decide)
 |x::y::r,h=>by
  have h1:=h x (List.mem_cons_self ..)
  have h2:=jn_len (y::r) (fun z hz=>h z (List.mem_cons_of_mem _ hz))
  have e:(x++[44,32]++jn [44,32] (y::r)).length=x.length+2+(jn [44,32] (y::r)).length:=by rw[List.length_append,List.length_append];rfl
  show(x++[44,32]++jn [44,32] (y::r)).length≤_
  rw[e,show(x::y::r).length=(y::r).length+1 from rfl]
  lia
theorem word_small:∀ p:Fin 32,(wordC p.val).all (· < 1114112)=true∧(lowerL (wordC p.val)).all (· < 1114112)=true:=by decide +kernel
theorem wN_small {low:Nat} (hlow:low≤17){n:Nat} (hn:n∈sizesV):(wN low n).all (· < 1114112)=true∧(lowerL (wN low n)).all (· < 1114112)=true:=by
 have h1:=(plc_ok n hn).2.1
 exact word_small ⟨low+plc n,by exact Nat.lt_of_le_of_lt (Nat.add_le_add hlow h1) (by decide)⟩
theorem ones_sorted (d:Dr):(onesD d).Pairwise (· ≤ ·):=by
 have hr:∀ n c:Nat,(List.replicate n c).Pairwise (· ≤ ·):=fun n c=>List.pairwise_replicate.mpr (.inr (Nat.le_refl _))
 unfold onesD
 refine List.pairwise_append.mpr ⟨List.pairwise_append.mpr ⟨List.pairwise_append.mpr ⟨hr _ _,hr _ _,?_⟩,hr _ _,?_⟩,hr _ _,?_⟩
 ·intro a ha b hb
  rw[(List.mem_replicate.mp ha).2,(List.mem_replicate.mp hb).2];decide
 ·intro a ha b hb
  rw[(List.mem_replicate.mp hb).2]
  rcases List.mem_append.mp ha with h |h <;> (rw[(List.mem_replicate.mp h).2];decide)
 ·intro a ha b hb
  rw[(List.mem_replicate.mp hb).2]
  rcases List.mem_append.mp ha with h |h
  ·rcases List.mem_append.mp h with h |h <;> (rw[(List.mem_replicate.mp h).2];decide)
  ·rw[(List.mem_replicate.mp h).2];decide
theorem ones_uniq (d:Dr){l:List Int} (h:l.Pairwise (· ≤ ·)) (hp:l.Perm ((onesD d).map fun n:Nat=>(n:Int))):l=(onesD d).map fun n:Nat=>(n:Int) :=
 List.Perm.eq_of_pairwise (fun a b _ _ h1 h2=>Int.le_antisymm h1 h2) h (List.pairwise_map.mpr ((ones_sorted d).imp fun h=>by exact_mod_cast h)) hp
theorem replicate_flat (n:Nat) (p:PV):(List.replicate n [p]).flatten=List.replicate n p:=by
 induction n with
 |zero=>rfl
 |succ n ih=>rw[List.replicate_succ,List.flatten_cons,ih];rfl
noncomputable def vPrep2 (f:Int→Option (List Nat)) (g:Int→Bool):PV→PV
 | .str x=>.tup [.str (shownL g x),.str (prepL f g x)]
 |p=>p
theorem prep2_eq {f:Int→Option (List Nat)}{g:Int→Bool}{d:Dr}{rs:Nat→List Nat} (F:Facts2 f g d rs):((stsL (typsTo d 6)).filter fun _=>true).map (vPrep2 f g)=pairsTo d 6:=by
 rw[fmap_true]
 unfold stsL typsTo pairsTo
 rw[List.map_map,List.map_map]
 refine List.map_congr_left fun k hk=>?_
 refine e0_2 (F.prep k (List.mem_range.mp hk)) ?_;intro h1 h2
 show PV.tup [.str (shownL g (typD d k)),.str (prepL f g (typD d k))]=_
 rw[h1,h2];rfl
section
variable {W:Wd}{k:Nat}{σ:Sig}{env:Env}{P:FM→Prop}{x y:List Nat}
theorem law_C (D:L1 W) (N:LexCls W) (Hc:HdrCls W) (M:Hdr2 W Hc) (Pp:Prep W){fa fd ta wa la lc fj fk fp fn:Addr}{script:List Int} (F:Fn W fa "law" (defAt 28)) (Fd:Fn W fd "_law_drawn" (defAt 23)) (Gd:W.mg "_law_drawn"=some (.ref fd)) (Ft:Fn W ta "_law_typed" (defAt 21)) (Gt:W.mg "_law_typed"=some (.ref ta)) (Fw:Fn W wa "_law_written" (defAt 22)) (Gw:W.mg "_law_written"=some (.ref wa))
  (Nest:NestOK W la lc) (lG:W.mg "_law_lexer"=some (.ref la)) (Fj:Fn W fj "_law_joined" (defAt 24)) (Gj:W.mg "_law_joined"=some (.ref fj)) (Fk:Fn W fk "_law_taken" (defAt 25)) (Gk:W.mg "_law_taken"=some (.ref fk)) (Fp:Fn W fp "_law_parted" (defAt 26)) (Gp:W.mg "_law_parted"=some (.ref fp)) (Fn':Fn W fn "_law_names" (defAt 27)) (Gn:W.mg "_law_names"=some (.ref fn))
  (hs:script.length≤100000) (facts:∀ d:Dr,DrOK d→∃ rs,Facts2 Pp.f Pp.g d rs):CC W (k+6) (.ref fa) [.lst (intsL script)] [] [] σ (fun p _=>p=.bool true):=by
 refine e5_1 (F.fn) ?_;intro doc pm an cd ct f1
 have T:=D.T
 refine CC_fcs T f1 [("script",.lst (intsL script),none)] 7 (bind1 (n:="script") (fun v=>by rfl) ⟨rfl,rfl⟩) rfl ⟨rfl,trivial⟩ (by rfl) rfl fun (L:Nat) hL=>?_
 refine(?_:XS W _ _ _ (fcs σ L _ [none,none,none,none,none,none,none]) _)
 refine XS_cons (X_AssignTup (E_Call [] (kp:=.frame) (E_gl T Gd ?_)))
 refine EL_cons (E_l ?_)
 refine EL_nil (EK_nil ⟨FnC.kp Fd,(law_drawn_C (k:=k+3) D Fd Ft Gt Fw Gw hs fun d hd=>?_).call⟩)
 refine e1_1 (facts d hd) ?_;intro rs Fx
 refine AT_tup T rfl ?_
 refine AT_name (S_c T 0 ?_)
 refine AT_name (S_l T ?_)
 refine AT_name (S_l T ?_)
 refine AT_name (S_l T ?_)
 refine AT_name (S_l T ?_)
 refine(?_:XS W _ _ _ (fcs σ L _ [some (.lst (natsL (szs d))),none,none,none,none,none,none]) _)
 have hwz:(wholeD d).length≤1000:=by
  have:=wholeTo_len hd 7 (by decide)
  unfold wholeD;rw[List.length_take];exact Nat.le_trans (Nat.min_le_right _ _) (Nat.le_trans this (by decide))
 have hlow:lowD d≤17:=by unfold lowD;lia
 have hmm:∃ m:Str→Option PV,m "typed"=some (.lst (stsL (typsTo d 7)))∧m "pairs"=some (.lst (pairsTo d 7))∧m "whole"=some (.str (wholeD d))∧m "low"=some (.int (lowD d:Nat))∧m=(fset (fset (fset (fset (bm' (fun _=>none) [(("script":Str),PV.lst (intsL script),none)]) "typed" (.lst (stsL (typsTo d 7)))) "pairs" (.lst (pairsTo d 7))) "whole" (.str (wholeD d))) "low" (.int (cel d 6%18:Nat))):=⟨_,rfl,rfl,rfl,rfl,rfl⟩
 refine e1_5 hmm ?_;try clear hmm;intro m0 a1 a2 a3 a4 em
 rw[← em]
 clear em
 refine XS_setc T 1 (E_Call [] (kp:=.frame) (E_gl T lG ?_))
 refine EL_cons (E_l ?_ a3)
 refine EL_nil (EK_nil ⟨by refine e4_1 (Nest.fn) ?_;intro _ _ _ _ f;exact f.kp,(law_lexer_C (k:=k+2) D N Nest fun A tpb hws hPf q1 q2 q3 q4 q5 q6=>?_).call⟩)
 have hLP:L+7<A.P:=fcs_fresh hPf
 clear hPf
 have q1:A.P<A.td:=q1
 have q2:A.tape=A.td+1:=q2
 have q3:A.tape<tpb:=q3
 have q4:tpb<A.d:=q4
 have q5:A.a=A.d+1:=q5
 have q6:A.a<A.pb:=q6
 have hoff:A.off L 7:=⟨by exact cA hLP (cA q1 (cA (eqk q2) (cA q3 (cA q4 (eqk q5))))),by exact cA hLP (cA q1 (cA (eqk q2) (cA q3 (cA q4 (cA (eqk q5) q6))))),by exact hLP,by exact cA hLP (cA q1 (eqk q2))⟩
 rw[lexBase_fcs (show L+7<A.td by exact cA hLP q1) (show L+7<A.tape by exact cA hLP (cA q1 (eqk q2))) (show L+7<tpb by exact cA hLP (cA q1 (cA (eqk q2) q3))) (show L+7<A.d by exact cA hLP (cA q1 (cA (eqk q2) (cA q3 q4)))),lxs_off hoff]
 have O:LexOK N.C A (wholeD d) (lexBase N.C A tpb (wholeD d) σ):=lexBase_ok q1 q2 q3 q4 q5 q6
 generalize lexBase N.C A tpb (wholeD d) σ=τ at O
 clear q1 q2 q3 q4 q5 q6 hLP
 refine⟨_,_,_,rfl,by simp,?_⟩
 refine(?_:XS W _ _ _ (fcs _ L _ [some (.lst (natsL (szs d))),some (.ref A.a),none,none,none,none,none]) _)
 have h92:isW A.ws 92=false:=by rw[hws];decide
 have hAa:∀ {p q l m cs},cs.length=7→fcs (lxs N.C A p q l τ) L m cs A.a=some (.inst N.C A.d (lexF A.ws A.tape A.pb l) 4):=fun {p q l m cs} hc=>(fcs_gt (by rw[hc];exact hoff.1)).trans lxs_a
 have hfrx:∀ {p q l p' q' l' m D'}{cs:List (Option PV)},cs.length=7→Fresh (fcs (lxs N.C A p q l τ) L m cs) D'→Fresh (fcs (lxs N.C A p' q' l' τ) L m cs) D'∧A.below D':=fun {p q l p' q' l' m D' cs} hc e1=>by
  have ho:A.off L cs.length:=by rw[hc];exact hoff
  rw[← lxs_off ho] at e1 ⊢
  exact⟨lxs_fresh (O.off ho) e1,(O.off ho).below e1⟩
 refine XS_MakesS T (inums 0 6) (fun _=>True) (fun i b=>∃ pos,pos≤1000+2*i∧(wholeD d).drop pos=rs i∧b=lxs N.C A pos [] (lnAt (wholeD d) pos) τ) m0 [some (.lst (natsL (szs d))),some (.ref A.a),none,none,none,none,none] (fun i=>.str (typD d i)) (by rw[inums_len];decide) ?_
 refine E_Call [] (kp:=.machine) (E_tn T D.B (n:="range") (by simp) ?_)
 refine EL_cons (E_int (EL_nil (EK_nil ⟨KP_typ,C_range1 T ⟨Itbl.rng0 (n:=6) (by decide),⟨_,⟨0,by exact Nat.le_trans (Nat.le_of_lt (by decide)) (Nat.le_add_right _ _),Fx.r0.symm,rfl⟩,rfl⟩,trivial,fun D' L' e1 e2 e3=>⟨fun _ _ _ _ _=>trivial,?_,?_⟩,?_⟩⟩)))
 ·intro b zz1;refine e1_3 zz1 ?_;clear zz1;intro pos _ _ zz2;subst zz2
  exact(hfrx (by rfl) e1).1
 ·intro i p b hp zz1 acc m';refine e1_3 zz1 ?_;clear zz1;intro pos hpos hdrop zz2;subst zz2
  refine e0_2 (int_at hp) ?_;intro hi6 zz1;subst zz1
  refine e0_2 (hfrx (p':=pos) (q':=[]) (l':=lnAt (wholeD d) pos) (by rfl) e1) ?_;intro hfrb hbel
  refine E_Meth [] (kp:=.frame) (E_f 1 hfrb e2 ?_)
  refine GM_inst T N.X N.gtM.find N.gtM.ty (ins_old hfrb e2 (hAa rfl)) rfl ?_
  refine EL_nil (EK_nil ⟨N.gtM.kp,?_⟩)
  rw[← lxs_off (by exact hoff),← lxs_ins hbel e2]
  have htok:=Fx.lex i (by exact cA hi6 (by decide))
  have hp1:pos≤1500000:=by exact Nat.le_trans (Nat.le_trans hpos (Nat.add_le_add (Nat.le_refl _) (Nat.mul_le_mul_left _ (Nat.le_of_lt hi6)))) (by decide)
  refine(gt_C (k:=k+1) D N h92 ((O.off (by exact hoff)).ins hbel.2.2.2 e2) hp1 (by exact Nat.le_trans hwz (by decide)) fun pos' hd' hp'=>?_).call
  rw[hws,hdrop,htok] at hd' ⊢
  rw[lxs_ins hbel e2,lxs_off (by exact hoff)]
  refine⟨⟨_,⟨pos',?_,hd',rfl⟩,rfl⟩,rfl⟩
  have hmx:max pos (wholeD d).length≤1000+2*i:=Nat.max_le.mpr ⟨hpos,by exact Nat.le_trans hwz (Nat.le_add_right _ _)⟩
  lia
 intro b zz1;refine e1_3 zz1 ?_;clear zz1;intro pos hpos hdrop zz2;subst zz2
 rw[inums_len] at hpos hdrop ⊢
 rw[show(List.range 6).map (fun i=>PV.str (typD d i))=stsL (typsTo d 6) from rfl]
 have hg0:fset m0 "got" (.lst (stsL (typsTo d 6))) "got"=some (.lst (stsL (typsTo d 6))):=fset_same _ _ _
 replace a1:=(fset_ne (m:=m0) (p:=PV.lst (stsL (typsTo d 6))) (by decide:("typed":PySem.Str)≠"got")).trans a1
 replace a2:=(fset_ne (m:=m0) (p:=PV.lst (stsL (typsTo d 6))) (by decide:("pairs":PySem.Str)≠"got")).trans a2
 replace a3:=(fset_ne (m:=m0) (p:=PV.lst (stsL (typsTo d 6))) (by decide:("whole":PySem.Str)≠"got")).trans a3
 replace a4:=(fset_ne (m:=m0) (p:=PV.lst (stsL (typsTo d 6))) (by decide:("low":PySem.Str)≠"got")).trans a4
 generalize fset m0 "got" (.lst (stsL (typsTo d 6)))=m at *
 clear m0
 have hsl:(natsL (szs d)).length=6:=by rw[natsL_len,szs_len hd]
 have htl:∀ x∈typsTo d 6,x.length≤15∧x.all (· < 1114112)=true∧(∃ k,k<6∧x=typD d k):=fun x hx=>by
  refine e1_2 (List.mem_map.mp hx) ?_;intro k hk zz1;subst zz1
  have hk:=List.mem_range.mp hk
  exact⟨typD_len hd (by exact cA hk (by decide)),Fx.small k (by exact cA hk (by decide)),k,hk,rfl⟩
 refine XS_if (T_orN ?_)
 show Mine.T W _ _ _ _ _
 refine T_Compare (E_l ?_ hg0)
 refine E_SliceL T (E_l ?_ a1)
 refine EP_none (EP_some (E_int ⟨_,rfl,rfl,_,.inl rfl,by unfold stsL typsTo;rw[List.length_map,List.length_map];decide,?_⟩))
 rw[show(6:Int)=((6:Nat):Int) from rfl,slc_to,show(stsL (typsTo d 7)).take 6=stsL (typsTo d 6) by rw[typsTo_succ];rfl]
 refine ne_same (plain_sts fun x hx=>(htl x hx).2.1) (depth_sts _) (truthy_bool ?_)
 rw[if_neg (by decide)]
 show Mine.T W _ _ _ _ _
 refine T_Compare (E_Makes T (stsL (typsTo d 6)) (fun _=>True) (pairsTo d 6) (E_l ?_ hg0))
 refine⟨Itbl.lst,trivial,Makes1 T (fun _=>true) (vPrep2 Pp.f Pp.g) (prep2_eq Fx) (by unfold stsL typsTo;rw[List.length_map,List.length_map];decide) (fun _ _ _ _ _ _=>trivial) (fun D' L' e1 e2=>⟨fun p hp acc m=>CI_nil ⟨rfl,rfl⟩,fun p hp _ acc m'=>?_⟩),?_⟩
 ·refine e1_2 (List.mem_map.mp hp) ?_;intro x hx zz1;subst zz1
  obtain ⟨h1,h2,j,hj,rfl⟩:=htl x hx
  refine E_Call [] (kp:=.frame) (E_gl T Pp.G ?_)
  refine EL_cons (E_m ?_ (fset_same _ _ _))
  have hpz:(prepL Pp.f Pp.g (typD d j)).length≤1000000:=by
   refine e0_3 (szk_get hd (k:=j) (by exact cA hj (by decide))) ?_;intro _ h4 h5
   rw[(Fx.prep j hj).2];unfold preD;rw[List.length_append,List.length_replicate];simp;exact Nat.le_of_lt (cC h5 (by decide))
  refine EL_nil (EK_nil ⟨FnC.kp Pp.F,(law_prepared_C (k:=k+3) T D.B Pp.F Pp.F1 Pp.h1 Pp.hm1 Pp.S1 Pp.F3 Pp.h3 Pp.hm3 Pp.S3 (by exact Nat.le_of_lt (cC h1 (by decide))) hpz ⟨rfl,rfl⟩).call⟩)
 refine E_SliceL T (E_l ?_ a2)
 refine EP_none (EP_some (E_int ⟨_,rfl,rfl,_,.inl rfl,by unfold pairsTo;rw[List.length_map];decide,?_⟩))
 rw[slc_to,show(pairsTo d 7).take 6=pairsTo d 6 by rw[pairsTo_succ];rfl]
 refine ne_same (plain_pairs Fx).1 (plain_pairs Fx).2 (truthy_bool ?_)
 rw[if_neg (by decide)]
 show Mine.T W _ _ _ _ _
 refine T_Compare (E_MakesS T (natsL (szs d)) (fun _=>True) (fun i b=>b=fcs (lxs N.C A pos (((szs d).take i).map runL) (lnAt (wholeD d) pos) τ) L m [some (.lst (natsL (szs d))),some (.ref A.a),none,none,none,none,none]) (fun _=>.none) (by rw[hsl];decide) (E_c 0 ?_))
 refine⟨Itbl.lst,by rw[List.take_zero];rfl,trivial,fun D' L' e1 e2 e3=>⟨fun _ _ _ _ _=>trivial,?_,?_⟩,?_⟩
 ·intro b zz1;subst zz1
  exact(hfrx (by rfl) e1).1
 ·intro i p b hp zz1 acc m';subst zz1
  refine e1_2 (natsL_at hp) ?_;intro n hn zz1;subst zz1
  refine e0_2 (szs_le n (List.mem_of_getElem? hn)) ?_;intro hn1 hn7
  refine e0_2 (hfrx (p':=pos) (q':=((szs d).take i).map runL) (l':=lnAt (wholeD d) pos) (by rfl) e1) ?_;intro hfrb hbel
  refine E_Meth [] (kp:=.frame) (E_f 1 hfrb e2 ?_)
  refine GM_inst T N.X N.ptM.find N.ptM.ty (ins_old hfrb e2 (hAa rfl)) rfl ?_
  refine(EL_cons' ?_ ?_:EL _ _ _ _ _ _ _)
  ·rfl
  refine(E_BinOp ?_:E _ _ _ _ _ _)
  refine E_strL [92] ?_
  refine E_m ?_ (fset_same _ _ _)
  refine mul_si (by exact Nat.le_of_lt (cC hn7 (by decide))) (EL_nil (EK_nil ⟨N.ptM.kp,?_⟩))
  rw[← lxs_off (by exact hoff),← lxs_ins hbel e2]
  refine(pt_C (k:=k+4) D N ((O.off (by exact hoff)).ins hbel.2.2.2 e2) (by rw[List.length_map,List.length_take,szs_len hd];exact Nat.le_trans (Nat.le_trans (Nat.min_le_right _ _) (Nat.le_refl _)) (by decide)) ?_).call
  rw[lxs_ins hbel e2,lxs_off (by exact hoff),show((szs d).take i).map runL++[List.replicate n 92]=((szs d).take (i+1)).map runL by rw[List.take_add_one,hn,List.map_append];rfl]
  exact⟨⟨_,rfl,rfl⟩,rfl⟩
 intro b zz1;subst zz1
 rw[hsl,List.take_of_length_le (by rw[szs_len hd];decide)]
 refine(E_BinOp ?_:E _ _ _ _ _ _)
 refine(E_List ?_:E _ _ _ _ _ _)
 refine(EL_cons' ?_ ?_:EL _ _ _ _ _ _ _)
 ·rfl
 refine(E_none ?_:E _ _ _ _ _ _)
 refine EL_nil ⟨by simp,?_⟩
 refine(E_int ?_:E _ _ _ _ _ _)
 refine mul_li (n:=6) T (by simp) (by decide) (by decide) ?_
 refine ne_same (p:=.lst [.none,.none,.none,.none,.none,.none]) (by decide) (by decide) (truthy_bool ?_)
 rw[if_neg (by decide)]
 refine(?_:XS W _ _ _ _ _)
 refine XS_nil ?_
 refine XS_cons (X_AssignTup (E_Call [] (kp:=.frame) (E_gl T Gj ?_)))
 refine EL_cons (E_c 1 (EL_cons (E_l ?_ a4)))
 refine EL_nil (EK_nil ⟨FnC.kp Fj,?_⟩)
 rw[← lxs_off (by exact hoff)]
 refine(law_joined_C (k:=k+1) D N Hc M Pp Fj (O.off (by exact hoff)) hlow ⟨szs d,[],[]⟩ (szs_len hd) rfl rfl Fx.join Fx.jend fun (L':Nat) (d':Nat) (l:Nat) i hfr' hLd hdl hi hq=>?_).call
 have hLL:L+7<L':=by rw[lxs_off (by exact hoff)] at hfr';exact fcs_fresh hfr'
 refine e0_4 ((O.off (by exact hoff)).below hfr') ?_;intro b1 b2 b3 b4
 have b1:A.a<L':=b1
 have b2:A.pb<L':=b2
 have b3:A.P<L':=b3
 have b4:A.tape<L':=b4
 have hJ:jit ⟨szs d,[],[]⟩ i=jD d 11:=(jit_end hq hi).symm
 rw[hJ,fcs_gt' (by show L+7<d';exact cA hLL hLd),fcs_gt' (by show L+7<d'+1;exact cA hLL (cA hLd (Nat.lt_add_of_pos_right (by decide))))]
 clear hfr' hq hJ
 refine e1_1 (⟨_,rfl⟩:∃ H:HdrA,H=⟨d'+1,d',l⟩) ?_;intro H eH
 rw[← eH,both_off (by exact hoff) (by rw[eH];show L+7<l;exact cA hLL (cA hLd (ltk hdl)))]
 have OB:BothOK N.C Hc.C A H (wholeD d) ((τ.upd d' (.part (d'+1))).upd (d'+1) (.inst Hc.C d' (hdF l) 1)):=by
  subst eH
  exact⟨(O.upd (by exact Nat.ne_of_gt (cA q3 (cA q4 (cA (eqk q5) (cA q6 (cA b2 hLd))))))).upd (by exact Nat.ne_of_gt (cA q3 (cA q4 (cA (eqk q5) (cA q6 (cA b2 (cA hLd (Nat.lt_add_of_pos_right (by decide))))))))),⟨upd_same _ _ _,by show d'+1≠l;exact Nat.ne_of_lt hdl⟩,by show l≠_;exact Nat.ne_of_gt (cA q6 (cA b2 (cA hLd (ltk hdl)))),by show l≠_;exact Nat.ne_of_gt (cA b2 (cA hLd (ltk hdl))),by show l≠_;exact Nat.ne_of_gt (cA q1 (cA (eqk q2) (cA q3 (cA q4 (cA (eqk q5) (cA q6 (cA b2 (cA hLd (ltk hdl))))))))),by show l≠_;exact Nat.ne_of_gt (cA q3 (cA q4 (cA (eqk q5) (cA q6 (cA b2 (cA hLd (ltk hdl))))))),by show d'+1≠_;exact Nat.ne_of_gt (cA q6 (cA b2 (cA hLd (Nat.lt_add_of_pos_right (by decide))))),by show d'+1≠_;exact Nat.ne_of_gt (cA b2 (cA hLd (Nat.lt_add_of_pos_right (by decide)))),by show d'+1≠_;exact Nat.ne_of_gt (cA q1 (cA (eqk q2) (cA q3 (cA q4 (cA (eqk q5) (cA q6 (cA b2 (cA hLd (Nat.lt_add_of_pos_right (by decide))))))))))⟩
 have hHl:L+7<H.l:=by rw[eH];show L+7<l;exact cA hLL (cA hLd (ltk hdl))
 have hHa:L+7<H.a:=by rw[eH];show L+7<d'+1;exact cA hLL (cA hLd (Nat.lt_add_of_pos_right (by decide)))
 rw[show(PV.ref (d'+1))=.ref H.a by rw[eH]]
 generalize (τ.upd d' (.part (d'+1))).upd (d'+1) (.inst Hc.C d' (hdF l) 1)=τ2 at OB
 clear eH hdl hLd hLL b1 b2 b3 b4 O hfrx hAa
 refine AT_tup T rfl ?_
 refine AT_name (S_c T 2 ?_)
 refine AT_name (S_c T 3 ?_)
 refine(?_:XS W _ _ _ (fcs _ L m [some (.lst (natsL (szs d))),some (.ref A.a),some (.ref H.a),some (.lst (natsL (jD d 11).came)),none,none,none]) _)
 refine XS_setc T 4 (E_Makes T (([1,3,5,7]:List Int).map PV.int) (fun _=>True) (natsL [cntD d 1,cntD d 3,cntD d 5,cntD d 7]) ?_)
 refine(E_List ?_:E _ _ _ _ _ _)
 iterate 4 refine(EL_int ?_:EL _ _ _ _ _ _ _)
 refine EL_nil ⟨by simp,Itbl.lst,trivial,Makes1c T (vOdd d) rfl (by simp) (fun _ _ _ _ _ _ _=>trivial) (fun (D':Nat) (L':Nat) e1 e2 p hp acc m'=>?_),?_⟩
 ·refine e1_3 (by
   simp only[List.map_cons,List.map_nil,List.mem_cons,List.not_mem_nil,or_false] at hp
   rcases hp with rfl |rfl |rfl |rfl
   ·exact⟨1,by decide,by decide,rfl⟩
   ·exact⟨3,by decide,by decide,rfl⟩
   ·exact⟨5,by decide,by decide,rfl⟩
   ·exact⟨7,by decide,by decide,rfl⟩:∃ o:Nat,0<o∧o<9∧p=.int (o:Int)) ?_;intro o ho ho9 zz1;subst zz1
  have hLD:L+7<D':=fcs_fresh e1
  refine E_Call [] (kp:=.machine) (E_bn T D.B (n:="sum") (by simp) ?_)
  refine EL_cons (E_Makes T (natsL (szs d)) (fun _=>True) (natsL (((szs d).filter (cOK o)).map (· / o))) ?_)
  refine E_name (L_cell (c:=L+1) (p:=.lst (natsL (szs d))) rfl rfl rfl ((fcs_lt (show L+1<L' by exact cA (Nat.add_lt_add_left (by decide) _) (cA hLD e2))).trans ((upd_ne (show L+1≠D' by exact Nat.ne_of_lt (cA (Nat.add_lt_add_left (by decide) _) hLD))).trans (fcs_c (i:=0) rfl))) ?_) (by decide)
  refine⟨Itbl.lst,trivial,Makes1 T (kCnt o) (vCnt o) (cnt_eq o _) (by rw[hsl];decide) (fun _ _ _ _ _ _=>trivial) (fun (D2:Nat) (L2:Nat) g1 g2=>⟨fun p hp acc m=>?_,fun p hp _ acc2 m2=>?_⟩),?_⟩
  ·refine e1_2 (natsL_mem hp) ?_;intro n hn zz1;subst zz1
   refine CI_one (T_andE (p:=([1,2,4]:List Int).any (· == (n:Int)/(o:Int))) (q:=decide ((n:Int)%(o:Int)=0)) (T_Compare (E_BinOp (E_m ?_ (fset_same _ _ _)))) (T_Compare (E_BinOp (E_m ?_ (fset_same _ _ _)))) ⟨rfl,rfl⟩)
   ·refine E_f 0 g1 g2 ?_
    refine div_ii (by exact(@Int.ofNat_lt 0 _).mpr ho) (by exact ltc ho9 (by decide)) ?_
    refine(E_List ?_:E _ _ _ _ _ _)
    iterate 3 refine(EL_int ?_:EL _ _ _ _ _ _ _)
    exact EL_nil ⟨by simp,in_il (l:=[1,2,4]) (truthy_bool ⟨rfl,rfl⟩)⟩
   ·refine E_f 0 g1 g2 ?_
    refine mod_ii (by exact(@Int.ofNat_lt 0 _).mpr ho) ?_
    exact E_int (eq_ii (truthy_bool ⟨rfl,rfl⟩))
  ·refine e1_2 (natsL_mem hp) ?_;intro n hn zz1;subst zz1
   refine E_BinOp (E_m ?_ (fset_same _ _ _))
   refine E_f 0 g1 g2 ?_
   exact div_ii (by exact(@Int.ofNat_lt 0 _).mpr ho) (by exact ltc ho9 (by decide)) ⟨rfl,rfl⟩
  refine EL_nil (EK_nil ⟨KP_blt,?_⟩)
  rw[natsL_ints]
  refine C_sum T ⟨rfl,?_⟩
  rw[sum_ints]
  show _=PV.int ((cntD d ((o:Int)).toNat:Nat):Int)
  rw[Int.toNat_natCast];rfl
 refine⟨_,_,_,rfl,by simp,?_⟩
 refine(?_:XS W _ _ _ (fcs _ L m [some (.lst (natsL (szs d))),some (.ref A.a),some (.ref H.a),some (.lst (natsL (jD d 11).came)),some (.lst (natsL [cntD d 1,cntD d 3,cntD d 5,cntD d 7])),none,none]) _)
 have hc42:∀ o,cntD d o<1000:=fun o=>Nat.lt_of_le_of_lt (Fx.cle o) (by decide)
 have hprl:=Fx.prl
 have hprm:=Fx.prm
 refine XS_setc T 5 (E_Makes T (inums 0 4) (fun _=>True) (natsL (prtD d)) ?_)
 refine E_Call [] (kp:=.machine) (E_tn T D.B (n:="range") (by simp) ?_)
 refine EL_cons (E_int ?_)
 refine EL_nil (EK_nil ⟨KP_typ,C_range1 T ⟨Itbl.rng0 (n:=4) (by decide),trivial,Makes2 T (fun _=>inums 0 5) (fun _=>.rng 0 5) (kPrt d) vPrt (prt_eq d) (by rw[natsL_len];exact Nat.le_of_lt (cC hprl (by decide))) (fun _ _ _ _ _ _=>trivial) (fun _ _ _ _ _ _=>trivial) (Src2:=fun _=>True) (fun D' L' e1 e2 p hp acc m hm=>?_) (fun D' L' e1 e2=>⟨fun p hp q hq acc m hm1 hm2=>?_,fun p hp q hq hk acc m hm1 hm2=>?_⟩),?_⟩⟩)
 ·refine E_Call [] (kp:=.machine) (E_tn T D.B (n:="range") (by simp) ?_)
  exact EL_cons (E_int (EL_nil (EK_nil ⟨KP_typ,C_range1 T ⟨rfl,rfl,Itbl.rng0 (n:=5) (by decide)⟩⟩)))
 ·refine e1_1 (List.getElem?_of_mem hp) ?_;intro i hi
  refine e0_2 (int_at hi) ?_;intro hi2 zz1;subst zz1
  refine e1_1 (List.getElem?_of_mem hq) ?_;intro j hj
  refine e0_2 (int_at hj) ?_;intro hj2 zz1;subst zz1
  rw[Int.zero_add] at hm1 hm2
  refine CI_one (T_val (E_BinOp (E_BinOp (E_Sub (E_f 4 e1 e2 ?_)))))
  refine E_m ?_ hm1
  have hg:(natsL [cntD d 1,cntD d 3,cntD d 5,cntD d 7])[((i:Nat):Int).toNat]? = some (.int (cntD d (2*i+1):Nat)):=by
   rw[Int.toNat_natCast]
   have:i=0∨i=1∨i=2∨i=3:=four _ hi2
   rcases this with rfl |rfl |rfl |rfl <;> rfl
  refine⟨Sbs.lst,get_lst (by exact Int.natCast_nonneg _) (by exact ltc hi2 (by decide)) hg ?_⟩
  refine E_m ?_ hm2
  refine shr_ii (by exact Int.natCast_nonneg _) ?_
  rw[Int.toNat_natCast,show((cntD d (2*i+1):Nat):Int)/2^j=((cntD d (2*i+1)/2^j:Nat):Int) by push_cast;rfl]
  refine E_int (and_ii (truthy_int ⟨rfl,?_⟩))
  rw[and_one,Int.zero_add,Int.zero_add]
  show((((cntD d (2*i+1)/2^j%2:Nat)):Int) != 0)=(cntD d (2*((i:Nat):Int).toNat+1)).testBit ((j:Nat):Int).toNat
  rw[Int.toNat_natCast,Int.toNat_natCast,Nat.testBit_eq_decide_div_mod_eq]
  have:cntD d (2*i+1)/2^j%2=0∨cntD d (2*i+1)/2^j%2=1:=Nat.mod_two_eq_zero_or_one _
  rcases this with e |e <;> (rw[e];rfl)
 ·refine e1_1 (List.getElem?_of_mem hp) ?_;intro i hi
  refine e0_2 (int_at hi) ?_;intro hi2 zz1;subst zz1
  refine e1_1 (List.getElem?_of_mem hq) ?_;intro j hj
  refine e0_2 (int_at hj) ?_;intro hj2 zz1;subst zz1
  rw[Int.zero_add] at hm1 hm2
  refine E_BinOp (E_BinOp (E_BinOp (E_int (E_m ?_ hm1))))
  refine mul_ii ?_ (.of_left (intBits_le_64 (by decide) (by decide)))
  refine E_int (add_ii (E_m ?_ hm2))
  refine shl_ii (by exact Int.natCast_nonneg _) (by exact lei (Nat.le_of_lt hj2) (by decide)) (by exact Nat.lt_of_le_of_lt (Nat.add_le_add (Nat.mul_le_mul_left 2 (Nat.le_of_lt hi2)) (Nat.le_refl 1)) (by decide):2*i+1<2^64) ⟨rfl,?_⟩
  rw[Int.zero_add,Int.zero_add]
  show _=PV.int (((2*((i:Nat):Int).toNat+1)*2^((j:Nat):Int).toNat:Nat):Int)
  rw[Int.toNat_natCast,Int.toNat_natCast];push_cast;rfl
 refine⟨_,_,_,rfl,by simp,?_⟩
 refine(?_:XS W _ _ _ (fcs _ L m [some (.lst (natsL (szs d))),some (.ref A.a),some (.ref H.a),some (.lst (natsL (jD d 11).came)),some (.lst (natsL [cntD d 1,cntD d 3,cntD d 5,cntD d 7])),some (.lst (natsL (prtD d))),none]) _)
 refine XS_setl T (gen fun K₁ hK₁=>?_)
 refine E_BinOp (E_BinOp (E_BinOp (E_BinOp (E_Sub (E_c 4 ?_)))))
 refine E_int ⟨Sbs.lst,get_lst (p:=.int (cntD d 1:Nat)) (by decide) (by decide) rfl ?_⟩
 refine E_BinOp (E_Sub (E_c 4 ?_))
 refine E_int ⟨Sbs.lst,get_lst (p:=.int (cntD d 3:Nat)) (by decide) (by decide) rfl ?_⟩
 have hcn:∀ o,((cntD d o:Nat):Int).natAbs<2^64:=fun o=>by rw[Int.natAbs_natCast];exact Nat.lt_of_lt_of_le (hc42 o) (by decide)
 refine E_int (shl_ii (by decide) (by decide) (hcn _) (add_ii ?_))
 refine E_BinOp (E_Sub (E_c 4 ?_))
 refine E_int ⟨Sbs.lst,get_lst (p:=.int (cntD d 5:Nat)) (by decide) (by decide) rfl ?_⟩
 refine E_int (shl_ii (by decide) (by decide) (hcn _) (add_ii ?_))
 refine E_BinOp (E_Sub (E_c 4 ?_))
 refine E_int ⟨Sbs.lst,get_lst (p:=.int (cntD d 7:Nat)) (by decide) (by decide) rfl ?_⟩
 refine E_int (shl_ii (by decide) (by decide) (hcn _) (add_ii ?_))
 refine E_l ?_ a4
 rw[show((cntD d 1:Nat):Int)+((cntD d 3:Nat):Int)*2^((5:Int)).toNat+((cntD d 5:Nat):Int)*2^((9:Int)).toNat+((cntD d 7:Nat):Int)*2^((12:Int)).toNat=((cntD d 1+cntD d 3*2^5+cntD d 5*2^9+cntD d 7*2^12:Nat):Int) by push_cast;rfl]
 refine shl_ii (by exact Int.natCast_nonneg _) (by exact lei hlow (by decide)) ?_ ?_
 ·rw[Int.natAbs_natCast]
  have h1:=hc42 1
  have h2:=hc42 3
  have h3:=hc42 5
  have h4:=hc42 7
  lia
 rw[Int.toNat_natCast,show((cntD d 1+cntD d 3*2^5+cntD d 5*2^9+cntD d 7*2^12:Nat):Int)*2^lowD d=((flgD d:Nat):Int) by unfold flgD;push_cast;rfl]
 subst hK₁
 refine⟨_,_,_,rfl,?_⟩
 have hfg:fset m "flags" (.int (flgD d:Nat)) "flags"=some (.int (flgD d:Nat)):=fset_same _ _ _
 replace a1:=(fset_ne (m:=m) (p:=PV.int (flgD d:Nat)) (by decide:("typed":PySem.Str)≠"flags")).trans a1
 replace a3:=(fset_ne (m:=m) (p:=PV.int (flgD d:Nat)) (by decide:("whole":PySem.Str)≠"flags")).trans a3
 clear hg0 a2 a4
 generalize fset m "flags" (.int (flgD d:Nat))=m1 at *
 clear m
 have hfl32:(flagsL (flgD d)).length≤32:=by rw[Fx.flN,List.length_map];exact Nat.le_of_lt (cC hprl (by decide))
 have hfm:∀ x∈flagsL (flgD d),x.length≤30:=fun x hx=>by
  rw[Fx.flN] at hx
  refine e1_2 (List.mem_map.mp hx) ?_;intro p hp zz1;subst zz1
  exact(wN_ok hlow (hprm p hp)).1
 have hjl:=jn_len (flagsL (flgD d)) hfm
 refine XS_setc T 6 (gen fun K₁ hK₁=>?_)
 refine E_Meth [] (kp:=.machine) (E_Call [] (kp:=.frame) (E_gl T D.pfG ?_))
 refine EL_cons (E_l ?_ hfg)
 refine EL_nil (EK_nil ⟨FnC.kp D.pfF,(pretty_flags_C (k:=k+4) D Fx.fl0 Fx.fl1 ?_).call⟩)
 refine GM_str PySem.F.slot_str_split PySem.F.type_str_split ?_
 refine EL_cons (E_strL [44,32] ?_)
 refine EL_nil (EK_nil ⟨KP_blt,C_split T (by simp) (by exact Nat.le_trans (Nat.add_le_add (Nat.le_trans hjl (Nat.mul_le_mul_left _ hfl32)) (Nat.le_refl _)) (by decide)) ?_⟩)
 rw[Fx.flS,Fx.flN]
 subst hK₁
 refine⟨_,_,_,rfl,by simp,?_⟩
 refine(?_:XS W _ _ _ (fcs _ L m1 [some (.lst (natsL (szs d))),some (.ref A.a),some (.ref H.a),some (.lst (natsL (jD d 11).came)),some (.lst (natsL [cntD d 1,cntD d 3,cntD d 5,cntD d 7])),some (.lst (natsL (prtD d))),some (.lst (stsL ((prtD d).map (wN (lowD d)))))]) _)
 have hcml:=(Fx.join 11 (Nat.le_refl _)).cl
 have hlastl:(lastL (jD d 11).came (prtD d)).length≤6:=by
  have h1:=(Fx.join 11 (Nat.le_refl _)).sl
  rw[Fx.keys,List.length_map] at h1
  exact h1
 have hzit:∀ p∈zips (natsL (prtD d)) (stsL ((prtD d).map (wN (lowD d)))),∃ n:Nat,n∈prtD d∧p=.tup [.int (n:Int),.str (wN (lowD d) n)]:=fun p hp=>by
  refine e1_1 (List.getElem?_of_mem hp) ?_;intro i hi
  refine e2_3 (zips_at hi) ?_;intro a b h1 h2 zz1;subst zz1
  refine e1_2 (natsL_at h1) ?_;intro n h3 zz1;subst zz1
  unfold stsL at h2
  rw[List.getElem?_map,List.getElem?_map,h3] at h2
  exact⟨n,List.mem_of_getElem? h3,by rw[← Option.some.inj h2]⟩
 refine XS_Makes T (inums 0 (jD d 11).came.length) (fun _=>True) (lastP (lowD d) (lastL (jD d 11).came (prtD d))) ?_
 refine E_Call [] (kp:=.machine) (E_tn T D.B (n:="range") (by simp) ?_)
 refine EL_cons (E_Call [] (kp:=.machine) (E_bn T D.B (n:="len") (by simp) ?_))
 refine EL_cons (E_c 3 ?_)
 refine EL_nil (EK_nil ⟨KP_blt,C_len_lst (by rw[natsL_len];exact Nat.le_of_lt (cC hcml (by decide))) ?_⟩)
 rw[natsL_len]
 refine EL_nil (EK_nil ⟨KP_typ,C_range1 T ⟨_,_,_,rfl,Itbl.rng0 (by exact Nat.le_of_lt (cC hcml (by decide))),trivial,Makes2z T (kLast (jD d 11).came) vLast (last_eq _ _ _) (by unfold lastP;rw[List.length_map];exact Nat.le_of_lt (cC hlastl (by decide))) (fun p hp=>by refine e1_2 (hzit p hp) ?_;intro n _ zz1;subst zz1;exact⟨_,_,rfl⟩) (fun _ _ _ _ _ _=>trivial) (fun D' L' e1 e2 acc m'=>?_) (fun L' p hp a b hab S m' hSL hSo hmi hmp hmn=>?_),?_⟩⟩)
 ·refine EI_zip T (by rw[natsL_len];unfold stsL;rw[List.length_map,List.length_map];exact Nat.le_refl _) (E_tn T D.B (n:="zip") (by simp) ⟨rfl,?_⟩)
  refine EL_cons (E_f 5 e1 e2 ?_)
  refine EL_cons (E_f 6 e1 e2 ?_)
  exact EL_nil ⟨rfl,fun TO hTO=>⟨TO,hTO,rfl,rfl⟩⟩
 ·refine e1_1 (List.getElem?_of_mem hp) ?_;intro i hi
  refine e0_2 (int_at hi) ?_;intro hi2 zz1;subst zz1
  refine e1_2 (hzit _ hab) ?_;intro n hn e
  refine e0_2 (by cases e;exact⟨rfl,rfl⟩:a=.int (n:Int)∧b=.str (wN (lowD d) n)) ?_;intro zz1 zz2;subst zz1;subst zz2
  rw[Int.zero_add] at hmi ⊢
  have hgc:(jD d 11).came[i]? = some ((jD d 11).came.getD i 0):=by rw[List.getD_eq_getElem?_getD,List.getElem?_eq_getElem hi2];rfl
  have hcc:=hSo _ _ (fcs_c (i:=3) (c:=some (.lst (natsL (jD d 11).came))) rfl)
  refine⟨CI_one (T_andE (p:=decide ((n:Int)=(((jD d 11).came.getD i 0:Nat):Int))) (q := !(((jD d 11).came.drop (i+1)).map fun n:Nat=>(n:Int)).any (· == (n:Int))) (T_Compare ?_) (T_Compare ?_) ⟨rfl,rfl⟩),fun _=>?_⟩
  ·refine E_name (L_local rfl rfl hSL hmp ?_) (by decide)
   refine E_Sub (E_name (L_cell rfl rfl rfl hcc ?_) (by decide))
   refine E_name (L_local rfl rfl hSL hmi ?_) (by decide)
   exact⟨Sbs.lst,get_lst (by exact Int.natCast_nonneg _) (by exact lec (Nat.le_trans (Nat.le_of_lt hi2) hcml) (by decide)) (natsL_get hgc) (eq_ii (truthy_bool ⟨rfl,rfl⟩))⟩
  ·refine E_name (L_local rfl rfl hSL hmp ?_) (by decide)
   refine E_SliceL T (E_name (L_cell rfl rfl rfl hcc ?_) (by decide))
   refine EP_some (E_BinOp (E_name (L_local rfl rfl hSL hmi ?_) (by decide)))
   refine E_int (add_ii ⟨_,rfl,EP_none ⟨rfl,_,.inl rfl,by rw[natsL_len];exact Nat.le_of_lt (cC hcml (by decide)),?_⟩⟩)
   rw[show((i:Nat):Int)+1=((i+1:Nat):Int) by push_cast;rfl,slc_from,show(natsL (jD d 11).came).drop (i+1)=intsL (((jD d 11).came.drop (i+1)).map fun n:Nat=>(n:Int)) by rw[← natsL_ints];unfold natsL;rw[List.map_drop]]
   exact notin_il (truthy_bool ⟨rfl,rfl⟩)
  ·refine E_Tuple (EL_cons (E_name (L_local rfl rfl hSL hmi ?_) (by decide)))
   refine EL_cons (E_name (L_local rfl rfl hSL hmn ?_) (by decide))
   exact EL_nil ⟨by simp,rfl,rfl⟩
 have hla:fset m1 "last" (.lst (lastP (lowD d) (lastL (jD d 11).came (prtD d)))) "last"=some (.lst (lastP (lowD d) (lastL (jD d 11).came (prtD d)))):=fset_same _ _ _
 replace a1:=(fset_ne (m:=m1) (p:=PV.lst (lastP (lowD d) (lastL (jD d 11).came (prtD d)))) (by decide:("typed":PySem.Str)≠"last")).trans a1
 replace a3:=(fset_ne (m:=m1) (p:=PV.lst (lastP (lowD d) (lastL (jD d 11).came (prtD d)))) (by decide:("whole":PySem.Str)≠"last")).trans a3
 replace hfg:=(fset_ne (m:=m1) (p:=PV.lst (lastP (lowD d) (lastL (jD d 11).came (prtD d)))) (by decide:("flags":PySem.Str)≠"last")).trans hfg
 generalize fset m1 "last" (.lst (lastP (lowD d) (lastL (jD d 11).came (prtD d))))=m at *
 clear m1
 have hO7:Out H L 7:=⟨.inr hHl,.inr hHa⟩
 refine XS_if (T_orN ?_)
 show Mine.T W _ _ _ _ _
 refine T_Compare (E_SliceL T (E_c 3 ?_))
 refine EP_none (EP_some (E_int ⟨_,rfl,rfl,_,.inl rfl,by rw[natsL_len];exact Nat.le_of_lt (cC hcml (by decide)),?_⟩))
 rw[slc_to,show(natsL (jD d 11).came).take 6=natsL (szs d) by rw[← Fx.came6];unfold natsL;rw[List.map_take]]
 refine E_c 0 ?_
 refine ne_same (plain_nats _) (depth_nats _) (truthy_bool ?_)
 rw[if_neg (by decide)]
 show Mine.T W _ _ _ _ _
 refine T_Compare (E_c 6 ?_)
 refine E_Call [] (kp:=.frame) (E_gl T Gn ?_)
 refine EL_cons (E_l ?_ hfg)
 refine EL_nil (EK_nil ⟨FnC.kp Fn',(law_names_C (k:=k+4) D Fn' ?_).call⟩)
 rw[Fx.flN]
 refine ne_same (plain_sts fun x hx=>?_) (depth_sts _) (truthy_bool ?_)
 ·refine e1_2 (List.mem_map.mp hx) ?_;intro p hp zz1;subst zz1
  exact(wN_small hlow (hprm p hp)).1
 rw[if_neg (by decide)]
 show Mine.T W _ _ _ _ _
 refine T_Compare (E_Meth [] (kp:=.frame) (E_c 2 ?_))
 refine GM_inst T Hc.X M.ksM.find M.ksM.ty (by rw[both_hds OB];exact s_h OB.hdrl hO7) rfl ?_
 refine EL_nil (EK_nil ⟨M.ksM.kp,?_⟩)
 rw[both_hds OB,← hds_fcs (.inr hHl)]
 refine(keys_C (k:=k+3) D M (OB.hdrl.fcs hO7) (by unfold shE;rw[List.length_map];have:=(Fx.join 11 (Nat.le_refl _)).sl;exact Nat.le_of_lt (cC this (by decide))) ?_).call
 rw[hds_fcs (.inr hHl),← both_hds OB]
 have hks:(shE (lowD d) (jD d 11).sh).map (·.1)=(lastL (jD d 11).came (prtD d)).map fun e=>nmE (lowD d) (e.2,decide (e.1%2=0)):=by
  rw[Fx.keys];unfold shE;rw[List.map_map,List.map_map];rfl
 rw[hks]
 have hlm:∀ e∈lastL (jD d 11).came (prtD d),e.2∈sizesV:=fun e he=>by
  have:(e.2,decide (e.1%2=0))∈(jD d 11).sh:=by rw[Fx.keys];exact List.mem_map_of_mem (f:=fun e:Nat×Nat=>(e.2,decide (e.1%2=0))) he
  exact(Fx.join 11 (Nat.le_refl _)).sh _ this
 refine E_Makes T (lastP (lowD d) (lastL (jD d 11).came (prtD d))) (fun _=>True) (stsL ((lastL (jD d 11).came (prtD d)).map fun e=>nmE (lowD d) (e.2,decide (e.1%2=0)))) (E_l ?_ hla)
 refine⟨Itbl.lst,trivial,Makes1t T (fun _=>true) vName (name_eq _ _) (by unfold lastP;rw[List.length_map];exact Nat.le_of_lt (cC hlastl (by decide))) (fun p hp=>by refine e1_2 (List.mem_map.mp hp) ?_;intro e _ zz1;subst zz1;exact⟨_,_,rfl⟩) (fun _ _ _ _ _ _=>trivial) (fun D' L' e1 e2=>⟨fun a b hab acc m'=>CI_nil ⟨rfl,rfl⟩,fun a b hab _ acc m'=>?_⟩),?_⟩
 ·refine e1_2 (List.mem_map.mp hab) ?_;intro e he e'
  refine e0_2 (by cases e';exact⟨rfl,rfl⟩:a=.int (e.1:Int)∧b=.str (wN (lowD d) e.2)) ?_;intro zz1 zz2;subst zz1;subst zz2
  refine E_IfExp (T_Compare (E_BinOp (E_m ?_ ((fset_ne (by decide)).trans (fset_same _ _ _)))))
  refine E_int (mod_ii (by decide) (E_int (eq_ii (truthy_bool ?_))))
  have hwl:=(wN_ok hlow (hlm e he)).1
  by_cases q:((e.1:Nat):Int)%2=0
  ·rw[decide_eq_true q,if_pos rfl]
   refine E_Meth [] (kp:=.machine) (E_m ?_ (fset_same _ _ _))
   refine GM_str PySem.F.slot_str_lower PySem.F.type_str_lower ?_
   refine EL_nil (EK_nil ⟨KP_blt,C_lower (by exact Nat.le_of_lt (cC hwl (by decide))) ⟨rfl,?_⟩⟩)
   show _=PV.str (if _ then _ else _)
   rw[if_pos q]
  ·rw[decide_eq_false q,if_neg (by decide)]
   refine E_m ⟨rfl,?_⟩ (fset_same _ _ _)
   show _=PV.str (if _ then _ else _)
   rw[if_neg q]
 refine ne_same (plain_sts fun x hx=>?_) (depth_sts _) (truthy_bool ?_)
 ·refine e1_2 (List.mem_map.mp hx) ?_;intro e he zz1;subst zz1
  have:=wN_small hlow (hlm e he)
  unfold nmE
  split
  ·exact this.2
  ·exact this.1
 rw[if_neg (by decide)]
 refine(?_:XS W _ _ _ _ _)
 refine XS_nil ?_
 refine XS_if (T_Compare ?_)
 refine E_MakesSz T (zips (natsL (prtD d)) (stsL ((prtD d).map (wN (lowD d))))) (fun _=>.bool true) ?_ (fun p hp=>by refine e1_2 (hzit p hp) ?_;intro n _ zz1;subst zz1;exact⟨_,_,rfl⟩) ?_
 ·unfold zips;rw[List.length_zipWith,natsL_len];lia
 have hzl:(zips (natsL (prtD d)) (stsL ((prtD d).map (wN (lowD d))))).length=(prtD d).length:=by
  unfold zips stsL;rw[List.length_zipWith,natsL_len,List.length_map,List.length_map,Nat.min_self]
 refine EI_zip T (by rw[natsL_len];unfold stsL;rw[List.length_map,List.length_map];exact Nat.le_refl _) (E_tn T D.B (n:="zip") (by simp) ⟨rfl,?_⟩)
 refine EL_cons (E_c 5 ?_)
 refine EL_cons (E_c 6 ?_)
 refine EL_nil ⟨rfl,fun (TO:Nat) hTO=>?_⟩
 have hLT:L+7<TO:=fcs_fresh hTO
 have hbT:∀ {b:Nat}{o:AObj},fcs (both N.C A H pos (lnAt (wholeD d) pos) [] (shE (lowD d) (jD d 11).sh) τ2) L m [some (.lst (natsL (szs d))),some (.ref A.a),some (.ref H.a),some (.lst (natsL (jD d 11).came)),some (.lst (natsL [cntD d 1,cntD d 3,cntD d 5,cntD d 7])),some (.lst (natsL (prtD d))),some (.lst (stsL ((prtD d).map (wN (lowD d)))))] b=some o→b<TO:=fun {b o} e=>by
  rcases Nat.lt_or_ge b TO with q |q
  ·exact q
  ·have:=hTO b q;rw[e] at this;cases this
 have hTA:=(OB.lexh (es:=shE (lowD d) (jD d 11).sh)).below (L:=TO) (fcs_freshσ hTO)
 have hTHa:H.a<TO:=hbT ((fcs_gt hHa).trans (by rw[both_hds OB];exact(upd_ne OB.hdr.al).trans (OB.hdrl.at_)))
 have hTHl:H.l<TO:=hbT ((fcs_gt hHl).trans (by rw[both_hds OB];exact upd_same _ _ _))
 refine e0_4 (id hTA) ?_;intro c1 c2 c3 c4
 rw[both_upd (by exact hLT) (Nat.ne_of_gt c1) (Nat.ne_of_gt c2) (Nat.ne_of_gt c3) (Nat.ne_of_gt hTHl)]
 have OB3:BothOK N.C Hc.C A H (wholeD d) (τ2.upd TO .own):=⟨OB.lex.upd (Nat.ne_of_gt c4),⟨(upd_ne (Nat.ne_of_lt hTHa)).trans OB.hdr.at_,OB.hdr.al⟩,OB.la,OB.lb,OB.lp,OB.lt,OB.aa,OB.ab,OB.ap⟩
 have hown:(τ2.upd TO .own) TO=some .own:=upd_same _ _ _
 clear hTO hbT
 generalize τ2.upd TO .own=τ3 at OB3 hown
 clear OB
 refine⟨TO,fun i b=>b=fcs (both N.C A H pos (lnAt (wholeD d) pos) [] (shE (lowD d) (shAt d i)) τ3) L m [some (.lst (natsL (szs d))),some (.ref A.a),some (.ref H.a),some (.lst (natsL (jD d 11).came)),some (.lst (natsL [cntD d 1,cntD d 3,cntD d 5,cntD d 7])),some (.lst (natsL (prtD d))),some (.lst (stsL ((prtD d).map (wN (lowD d)))))],rfl,?_,?_,fun (D':Nat) (L':Nat) e1 e2 e3=>⟨?_,?_⟩,?_⟩
 ·dsimp only
  rw[show shAt d 0=(jD d 11).sh by unfold shAt;rw[List.filter_eq_self.mpr];intro e _;rfl]
 ·intro i b zz1;subst zz1
  rw[fcs_gt hLT]
  unfold both hds
  rw[lxs_else (Nat.ne_of_gt c1) (Nat.ne_of_gt c2) (Nat.ne_of_gt c3),upd_ne (Nat.ne_of_gt hTHl)]
  exact hown
 ·intro b zz1 b' hb';subst zz1
  have:=e1 b' hb'
  have hDa:H.l<D':=by
   rcases Nat.lt_or_ge H.l D' with q |q
   ·exact q
   ·have:=e1 H.l q;rw[fcs_gt hHl,both_hds OB3] at this;unfold hds at this;rw[upd_same] at this;cases this
  have hLD:L+7<D':=fcs_fresh e1
  rw[fcs_gt (Nat.lt_of_lt_of_le hLD hb'),both_hds OB3] at this ⊢
  unfold hds at this ⊢
  rw[upd_ne (Nat.ne_of_gt (Nat.lt_of_lt_of_le hDa hb'))] at this ⊢
  exact this
 ·intro i a b b' hp zz1 acc m';subst zz1
  have hDl:H.l<D':=by
   rcases Nat.lt_or_ge H.l D' with q |q
   ·exact q
   ·have:=e1 H.l q;rw[fcs_gt hHl,both_hds OB3] at this;unfold hds at this;rw[upd_same] at this;cases this
  have hDa:H.a<D':=by
   rcases Nat.lt_or_ge H.a D' with q |q
   ·exact q
   ·have:=e1 H.a q;rw[fcs_gt hHa,both_hds OB3] at this;rw[show hds H (shE (lowD d) (jD d 11).sh) _ H.a=_ from(upd_ne OB3.hdr.al).trans OB3.hdrl.at_] at this;cases this
  have hLD:L+7<D':=fcs_fresh e1
  refine e1_2 (by
   refine e2_3 (zips_at hp) ?_;intro a' b' h1 h2 e
   refine e1_2 (natsL_at h1) ?_;intro n h3 zz1;subst zz1
   unfold stsL at h2
   rw[List.getElem?_map,List.getElem?_map,h3] at h2
   exact⟨n,h3,by rw[e,← Option.some.inj h2]⟩:∃ n,(prtD d)[i]? = some n∧PV.tup [a,b]=.tup [.int (n:Int),.str (wN (lowD d) n)]) ?_;intro n hn e
  refine e0_2 (by cases e;exact⟨rfl,rfl⟩:a=.int (n:Int)∧b=.str (wN (lowD d) n)) ?_;intro zz1 zz2;subst zz1;subst zz2
  have hnV:=hprm n (List.mem_of_getElem? hn)
  refine e0_2 (Fx.one hn) ?_;intro o1 o2
  have hn28:=(plc_ok n hnV).2.2.1
  have hcl:∀ {x:Nat}{o:AObj},x≤L+7→fcs (both N.C A H pos (lnAt (wholeD d) pos) [] (shE (lowD d) (shAt d i)) τ3) L m [some (.lst (natsL (szs d))),some (.ref A.a),some (.ref H.a),some (.lst (natsL (jD d 11).came)),some (.lst (natsL [cntD d 1,cntD d 3,cntD d 5,cntD d 7])),some (.lst (natsL (prtD d))),some (.lst (stsL ((prtD d).map (wN (lowD d)))))] x=some o→ins (fcs (both N.C A H pos (lnAt (wholeD d) pos) [] (shE (lowD d) (shAt d i)) τ3) L m [some (.lst (natsL (szs d))),some (.ref A.a),some (.ref H.a),some (.lst (natsL (jD d 11).came)),some (.lst (natsL [cntD d 1,cntD d 3,cntD d 5,cntD d 7])),some (.lst (natsL (prtD d))),some (.lst (stsL ((prtD d).map (wN (lowD d)))))]) D' L' acc (fset (fset m' "part" (.int n)) "name" (.str (wN (lowD d) n))) x=some o:=fun {x o} hx e=>by
   have h1:x<D':=Nat.lt_of_le_of_lt hx hLD
   have h2:x<L':=Nat.lt_trans h1 e2
   unfold ins
   rw[upd_ne (Nat.ne_of_lt h2),upd_ne (Nat.ne_of_lt h1)]
   exact e
  refine E_Call [] (kp:=.frame) (E_gl T Gk ?_)
  refine EL_cons (E_name (L_cell rfl rfl rfl (hcl (by lia) (fcs_c (i:=2) (c:=some (.ref H.a)) rfl)) ?_) (by decide))
  refine EL_cons (E_m ?_ (fset_same _ _ _))
  refine(EL_cons' ?_ ?_:EL _ _ _ _ _ _ _)
  ·rfl
  refine(E_BinOp ?_:E _ _ _ _ _ _)
  refine E_strL [92] ?_
  refine E_m ?_ ((fset_ne (by decide)).trans (fset_same _ _ _))
  refine mul_si (by exact Nat.le_of_lt (cC hn28 (by decide))) (EL_nil (EK_nil ⟨FnC.kp Fk,?_⟩))
  rw[both_hds OB3,← hds_fcs (.inr hHl),← hds_ins hDl e2]
  have hsub:∀ e∈shAt d i,e∈(jD d 11).sh:=fun e he=>(List.mem_filter.mp he).1
  refine(law_taken_C (k:=k) D N Hc M Nest lG Fk (((OB3.hdrl).fcs hO7).ins hDa e2) hlow hnV (fun e he=>(Fx.join 11 (Nat.le_refl _)).sh e (hsub e he)) (Nat.le_trans (List.length_filter_le _ _) (Fx.join 11 (Nat.le_refl _)).sl) o1 ?_).call
  rw[o2,hds_ins hDl e2,hds_fcs (.inr hHl),← both_hds OB3]
  exact⟨⟨_,rfl,rfl⟩,rfl⟩
 intro b zz1;subst zz1
 rw[hzl]
 refine(E_BinOp ?_:E _ _ _ _ _ _)
 refine(E_List ?_:E _ _ _ _ _ _)
 refine(EL_cons' ?_ ?_:EL _ _ _ _ _ _ _)
 ·rfl
 refine(E_bool ?_:E _ _ _ _ _ _)
 refine EL_nil ⟨by simp,?_⟩
 refine E_Call [] (kp:=.machine) (E_bn T D.B (n:="len") (by simp) ?_)
 refine EL_cons (E_c 5 ?_)
 refine EL_nil (EK_nil ⟨KP_blt,C_len_lst (by rw[natsL_len];exact Nat.le_of_lt (cC hprl (by decide))) ?_⟩)
 rw[natsL_len]
 refine mul_li T (by simp) (by simp;exact Nat.le_of_lt (cC hprl (by decide))) (by exact Nat.le_of_lt (cC hprl (by decide))) ?_
 rw[replicate_flat,show(List.range (prtD d).length).map (fun _=>PV.bool true)=List.replicate (prtD d).length (.bool true) by rw[List.map_const'];rw[List.length_range]]
 refine ne_same (plains_of fun p hp=>by rw[(List.mem_replicate.mp hp).2];rfl) (depth_of fun p hp=>by rw[(List.mem_replicate.mp hp).2];decide) (truthy_bool ?_)
 refine(?_:XS W _ _ _ _ _)
 refine XS_nil ?_
 clear hzl hla hfg hprm hzit hlastl
 generalize shE (lowD d) (shAt d (prtD d).length)=ES
 refine XS_setl T (gen fun K₁ hK₁=>?_)
 refine E_BinOp (E_BinOp (E_BinOp ?_))
 refine(E_BinOp ?_:E _ _ _ _ _ _)
 refine(E_List ?_:E _ _ _ _ _ _)
 refine(EL_int ?_:EL _ _ _ _ _ _ _)
 refine EL_nil ⟨by simp,E_Sub (E_c 4 ?_)⟩
 refine E_int ⟨Sbs.lst,get_lst (p:=.int (cntD d 1:Nat)) (by decide) (by decide) rfl ?_⟩
 refine mul_li T (by simp) (by have:=hc42 1;simp;exact Nat.le_of_lt (cA this (by decide))) (by have:=hc42 1;exact Nat.le_of_lt (cA this (by decide))) ?_
 refine(E_BinOp ?_:E _ _ _ _ _ _)
 refine(E_List ?_:E _ _ _ _ _ _)
 refine(EL_int ?_:EL _ _ _ _ _ _ _)
 refine EL_nil ⟨by simp,E_Sub (E_c 4 ?_)⟩
 refine E_int ⟨Sbs.lst,get_lst (p:=.int (cntD d 3:Nat)) (by decide) (by decide) rfl ?_⟩
 refine mul_li T (by simp) (by have:=hc42 3;simp;exact Nat.le_of_lt (cA this (by decide))) (by have:=hc42 3;exact Nat.le_of_lt (cA this (by decide))) ?_
 rw[replicate_flat,replicate_flat]
 refine add_ll T (by rw[List.length_replicate,List.length_replicate];have:=hc42 1;have:=hc42 3;exact Nat.le_trans (Nat.add_le_add (Nat.le_of_lt ‹cntD d 1<1000›) (Nat.le_of_lt ‹cntD d 3<1000›)) (by decide)) ?_
 refine(E_BinOp ?_:E _ _ _ _ _ _)
 refine(E_List ?_:E _ _ _ _ _ _)
 refine(EL_int ?_:EL _ _ _ _ _ _ _)
 refine EL_nil ⟨by simp,E_Sub (E_c 4 ?_)⟩
 refine E_int ⟨Sbs.lst,get_lst (p:=.int (cntD d 5:Nat)) (by decide) (by decide) rfl ?_⟩
 refine mul_li T (by simp) (by have:=hc42 5;simp;exact Nat.le_of_lt (cA this (by decide))) (by have:=hc42 5;exact Nat.le_of_lt (cA this (by decide))) ?_
 rw[replicate_flat]
 refine add_ll T (by rw[List.length_append,List.length_replicate,List.length_replicate,List.length_replicate];have:=hc42 1;have:=hc42 3;have:=hc42 5;exact Nat.le_trans (Nat.add_le_add (Nat.add_le_add (Nat.le_of_lt ‹cntD d 1<1000›) (Nat.le_of_lt ‹cntD d 3<1000›)) (Nat.le_of_lt ‹cntD d 5<1000›)) (by decide)) ?_
 refine(E_BinOp ?_:E _ _ _ _ _ _)
 refine(E_List ?_:E _ _ _ _ _ _)
 refine(EL_int ?_:EL _ _ _ _ _ _ _)
 refine EL_nil ⟨by simp,E_Sub (E_c 4 ?_)⟩
 refine E_int ⟨Sbs.lst,get_lst (p:=.int (cntD d 7:Nat)) (by decide) (by decide) rfl ?_⟩
 refine mul_li T (by simp) (by have:=hc42 7;simp;exact Nat.le_of_lt (cA this (by decide))) (by have:=hc42 7;exact Nat.le_of_lt (cA this (by decide))) ?_
 rw[replicate_flat]
 refine add_ll T (by rw[List.length_append,List.length_append,List.length_replicate,List.length_replicate,List.length_replicate,List.length_replicate];have:=hc42 1;have:=hc42 3;have:=hc42 5;have:=hc42 7;exact Nat.le_trans (Nat.add_le_add (Nat.add_le_add (Nat.add_le_add (Nat.le_of_lt ‹cntD d 1<1000›) (Nat.le_of_lt ‹cntD d 3<1000›)) (Nat.le_of_lt ‹cntD d 5<1000›)) (Nat.le_of_lt ‹cntD d 7<1000›)) (by decide)) ?_
 rw[show List.replicate (cntD d 1) (PV.int 1)++List.replicate (cntD d 3) (PV.int 3)++List.replicate (cntD d 5) (PV.int 5)++List.replicate (cntD d 7) (PV.int 7)=intsL ((onesD d).map fun n:Nat=>(n:Int)) by
  rw[← natsL_ints];unfold natsL onesD
  rw[List.map_append,List.map_append,List.map_append,List.map_replicate,List.map_replicate,List.map_replicate,List.map_replicate];rfl]
 subst hK₁
 refine⟨_,_,_,rfl,?_⟩
 have hon:fset m "ones" (.lst (intsL ((onesD d).map fun n:Nat=>(n:Int)))) "ones"=some (.lst (intsL ((onesD d).map fun n:Nat=>(n:Int)))):=fset_same _ _ _
 replace a1:=(fset_ne (m:=m) (p:=PV.lst (intsL ((onesD d).map fun n:Nat=>(n:Int)))) (by decide:("typed":PySem.Str)≠"ones")).trans a1
 replace a3:=(fset_ne (m:=m) (p:=PV.lst (intsL ((onesD d).map fun n:Nat=>(n:Int)))) (by decide:("whole":PySem.Str)≠"ones")).trans a3
 generalize fset m "ones" (.lst (intsL ((onesD d).map fun n:Nat=>(n:Int))))=m1 at *
 clear m
 refine XS_if (T_Compare ?_)
 refine E_Call [] (kp:=.machine) (E_bn T D.B (n:="sorted") (by simp) ?_)
 refine EL_cons (E_Call [] (kp:=.frame) (E_gl T Gp ?_))
 refine EL_cons (E_c 1 (EL_cons (E_c 5 ?_)))
 refine EL_nil (EK_nil ⟨FnC.kp Fp,?_⟩)
 have hp28:∀ n∈prtD d,n≤28:=fun n hn=>(plc_ok n (Fx.prm n hn)).2.2.1
 have hO3:LexOK N.C A (wholeD d) (fcs (hds H ES τ3) L m1 [some (.lst (natsL (szs d))),some (.ref A.a),some (.ref H.a),some (.lst (natsL (jD d 11).came)),some (.lst (natsL [cntD d 1,cntD d 3,cntD d 5,cntD d 7])),some (.lst (natsL (prtD d))),some (.lst (stsL ((prtD d).map (wN (lowD d)))))]):=(OB3.lexh).off (by exact hoff)
 unfold both
 rw[← lxs_off (by exact hoff)]
 refine(law_parted_C (k:=k) D N Nest lG Fp hO3 hp28 (by exact Nat.le_of_lt (cC hprl (by decide))) ?_).call
 rw[Fx.pq,List.map_nil,natsL_ints (pit ⟨prtD d,[]⟩ 48).odd]
 refine EL_nil (EK_nil ⟨KP_blt,?_⟩)
 refine C_sorted (l:=(pit ⟨prtD d,[]⟩ 48).odd.map fun n:Nat=>(n:Int)) T (by rw[List.length_map];exact Nat.lt_of_le_of_lt (pit_ok hp28 48).2.2 (by decide)) fun l' hl1 hl2=>?_
 rw[ones_uniq d hl2 (hl1.trans (Fx.po.map _)),lxs_off (by exact hoff)]
 refine E_l ?_ hon
 rw[← natsL_ints]
 refine ne_same (plain_nats _) (depth_nats _) (truthy_bool ?_)
 refine(?_:XS W _ _ _ _ _)
 refine XS_nil ?_
 have hL6:=Fx.lex 6 (by decide)
 refine XS_ret (E_Compare (E_List ?_))
 refine EL_cons (E_Meth [] (kp:=.frame) (E_c 1 ?_))
 refine GM_inst T N.X N.gtM.find N.gtM.ty ((fcs_gt hoff.1).trans lxs_a) rfl ?_
 refine EL_nil (EK_nil ⟨N.gtM.kp,?_⟩)
 rw[← lxs_off (by exact hoff)]
 refine(gt_C (k:=k+1) D N h92 hO3 (by exact Nat.le_trans (Nat.le_trans hpos (Nat.add_le_add (Nat.le_refl _) (Nat.mul_le_mul_left _ (Nat.le_refl _)))) (by decide)) (by exact Nat.le_of_lt (cC hwz (by decide))) fun pos' hd' hp'=>?_).call
 rw[hws,hdrop,hL6] at hd' ⊢
 rw[lxs_off (by exact hoff)]
 have hmx:max pos (wholeD d).length≤1012:=Nat.max_le.mpr ⟨by exact Nat.le_trans (Nat.le_trans hpos (Nat.add_le_add (Nat.le_refl _) (Nat.mul_le_mul_left _ (Nat.le_refl _)))) (by decide),by exact Nat.le_of_lt (cC hwz (by decide))⟩
 have hpp:pos'≤1014:=by exact Nat.le_trans (Nat.le_trans hp' (Nat.add_le_add hmx (Nat.le_refl _))) (by decide)
 refine EL_cons (E_Meth [] (kp:=.frame) (E_c 1 ?_))
 refine GM_inst T N.X N.gtM.find N.gtM.ty ((fcs_gt hoff.1).trans lxs_a) rfl ?_
 refine EL_nil (EK_nil ⟨N.gtM.kp,?_⟩)
 rw[← lxs_off (by exact hoff)]
 refine(gt_C (k:=k+1) D N h92 hO3 (by exact Nat.le_of_lt (cC hpp (by decide))) (by exact Nat.le_of_lt (cC hwz (by decide))) fun pos2 hd2 hp2=>?_).call
 rw[hd',Fx.r7,show lexS A.ws []=([],[]) from rfl] at hd2 ⊢
 rw[lxs_off (by exact hoff)]
 refine EL_cons (E_Attr (E_c 1 ?_))
 refine OA_inst T N.X (N.no _ (by simp)) ((fcs_gt hoff.1).trans lxs_a) rfl (by intro n z;cases z) ?_
 refine EL_nil ⟨by simp,?_⟩
 refine(E_List ?_:E _ _ _ _ _ _)
 refine EL_cons (E_Sub (E_l ?_ a1))
 refine E_int ⟨Sbs.lst,get_lst (p:=.str (typD d 6)) (by decide) (by decide) rfl ?_⟩
 refine EL_cons (E_strL [] ?_)
 refine(EL_cons' ?_ ?_:EL _ _ _ _ _ _ _)
 ·rfl
 refine(E_BinOp ?_:E _ _ _ _ _ _)
 refine(E_int ?_:E _ _ _ _ _ _)
 refine E_Meth [] (kp:=.machine) (E_l ?_ a3)
 refine GM_str PySem.F.slot_str_count PySem.F.type_str_count ?_
 refine EL_cons (E_strL [10] ?_)
 refine EL_nil (EK_nil ⟨KP_blt,C_count ?_⟩)
 refine add_ii ?_
 rw[countL_one]
 refine EL_nil ⟨by simp,?_⟩
 have hln:lnAt (wholeD d) pos2=1+((wholeD d).count 10:Nat):=by
  unfold lnAt
  rw[List.take_of_length_le]
  have:=congrArg List.length hd2
  rw[List.length_drop] at this
  have:(wholeD d).length-pos2=0:=this
  exact Nat.le_of_sub_eq_zero this
 rw[hln]
 refine eq_same ?_ ?_ rfl
 ·show(plain (.str (typD d 6))&&_)=true
  rw[show plain (.str (typD d 6))=true from Fx.small 6 (by decide)]
  rfl
 ·show(PyData.list [pd (.str (typD d 6)),pd (.str []),pd (.int _)]).depth≤64
  exact Nat.le_of_ble_eq_true rfl
end
noncomputable abbrev wsL:List Nat:=[10,9,13,32]
theorem lexU_row {e:Nat→List Nat}:∀ (w tok r:List Nat),(∀ c∈w,e c=[92,c]∨(e c=[c]∧isW wsL c=false∧c≠92))→lexU wsL tok (w.flatMap e++r)=lexU wsL (tok++w) r
 |[],tok,r,_=>by simp
 |c::w,tok,r,h=>by
  have ih:=lexU_row (e:=e) w (tok++[c]) r (fun x hx=>h x (List.mem_cons_of_mem _ hx))
  rw[List.flatMap_cons,List.append_assoc]
  rcases h c (List.mem_cons_self ..) with h1 |⟨h1,h2,h3⟩
  ·rw[h1]
   show lexU wsL tok (92::(c::(w.flatMap e++r)))=_
   rw[lexU_92 (by decide)]
   show lexU wsL (tok++[c]) (w.flatMap e++r)=_
   rw[ih,List.append_assoc];rfl
  ·rw[h1]
   show lexU wsL tok (c::(w.flatMap e++r))=_
   rw[lexU_c _ _ h2 h3,ih,List.append_assoc];rfl
theorem lexQ_row {e:Nat→List Nat}:∀ (w tok r:List Nat),(∀ c∈w,e c=[92,c]∨(e c=[c]∧c≠34∧c≠92))→lexQ tok (w.flatMap e++r)=lexQ (tok++w) r
 |[],tok,r,_=>by simp
 |c::w,tok,r,h=>by
  have ih:=lexQ_row (e:=e) w (tok++[c]) r (fun x hx=>h x (List.mem_cons_of_mem _ hx))
  rw[List.flatMap_cons,List.append_assoc]
  rcases h c (List.mem_cons_self ..) with h1 |⟨h1,h2,h3⟩
  ·rw[h1]
   show lexQ tok (92::(c::(w.flatMap e++r)))=_
   rw[lexQ_92]
   show lexQ (tok++[c]) (w.flatMap e++r)=_
   rw[ih,List.append_assoc];rfl
  ·rw[h1]
   show lexQ tok (c::(w.flatMap e++r))=_
   rw[lexQ_c _ _ h2 h3,ih,List.append_assoc];rfl
theorem esc_lt {way c:Nat} (h:way<2):escL way c=[92,c]:=by unfold escL;rw[if_pos (.inl h)]
theorem esc_2 (c:Nat):escL 2 c=[92,c]∨(escL 2 c=[c]∧c≠34∧c≠92):=by
 unfold escL
 by_cases h:c∈keptT.getD 2 []
 ·exact .inl (if_pos (.inr h))
 ·refine .inr ⟨if_neg (fun z=>z.elim (fun q=>absurd q (by decide)) h),?_,?_⟩
  ·intro zz1;subst zz1;exact h (by decide)
  ·intro zz1;subst zz1;exact h (by decide)
theorem esc_3 (c:Nat):escL 3 c=[92,c]∨(escL 3 c=[c]∧isW wsL c=false∧c≠92):=by
 unfold escL
 by_cases h:c∈keptT.getD 3 []
 ·exact .inl (if_pos (.inr h))
 ·refine .inr ⟨if_neg (fun z=>z.elim (fun q=>absurd q (by decide)) h),?_,?_⟩
  ·unfold isW
   refine decide_eq_false fun z=>h ?_
   simp only[List.mem_cons,List.not_mem_nil,or_false] at z
   rcases z with rfl |rfl |rfl |rfl <;> decide
  ·intro zz1;subst zz1;exact h (by decide)
theorem lexS_w {wh:Nat} (h:isW wsL wh=true) (r:List Nat):lexS wsL (wh::r)=lexS wsL r:=by simp[lexS,h]
theorem lexS_34 (r:List Nat):lexS wsL (34::r)=lexQ [] r:=by
 have:isW wsL 34=false:=by decide
 simp[lexS,this]
theorem lexS_92 (r:List Nat):lexS wsL (92::r)=lexU wsL (r.take 1) (r.drop 1):=by
 have:isW wsL 92=false:=by decide
 simp[lexS,this]
theorem lexS_c {c:Nat} (r:List Nat) (h1:isW wsL c=false) (h2:c≠34) (h3:c≠92):lexS wsL (c::r)=lexU wsL [c] r:=by simp[lexS,h1,h2,h3]
def okW (w:List Nat):Prop:=∃ c r,w=c::r∧c≠34
theorem lexS_bare {w r:List Nat}{way wh:Nat} (hw:okW w) (hway:way=0∨way=3) (h:isW wsL wh=true):lexS wsL (wh::(slashL w way++r))=lexU wsL w r:=by
 rw[lexS_w h]
 refine e2_2 hw ?_;try clear hw;intro c w zz1 hc;subst zz1
 have hrow:∀ tok,lexU wsL tok (w.flatMap (escL way)++r)=lexU wsL (tok++w) r:=fun tok=>lexU_row w tok r fun x hx=>by
  rcases hway with rfl |rfl
  ·exact .inl (esc_lt (by decide))
  ·exact esc_3 x
 unfold slashL
 rw[List.flatMap_cons,List.append_assoc]
 have hc:escL way c=[92,c]∨(escL way c=[c]∧isW wsL c=false∧c≠92):=by
  rcases hway with rfl |rfl
  ·exact .inl (esc_lt (by decide))
  ·exact esc_3 c
 rcases hc with q |⟨q1,q2,q4⟩
 ·rw[q]
  show lexS wsL (92::(c::(w.flatMap (escL way)++r)))=_
  rw[lexS_92]
  exact hrow [c]
 ·rw[q1]
  show lexS wsL (c::(w.flatMap (escL way)++r))=_
  rw[lexS_c _ q2 (by assumption) q4]
  exact hrow [c]
theorem lexS_quoted {w r:List Nat}{way:Nat} (hway:way=1∨way=2):lexS wsL (34::(slashL w way++r))=lexQ w r:=by
 rw[lexS_34]
 exact lexQ_row w [] r fun x hx=>by
  rcases hway with rfl |rfl
  ·exact .inl (esc_lt (by decide))
  ·exact esc_2 x
theorem lex_word {w:List Nat}{way wh:Nat} (hw:okW w) (hway:way<4) (h:isW wsL wh=true) (rest:List Nat):lexS wsL (writtenL w way [wh]++rest)=(w,rest):=by
 have:way=1∨way=2∨(way=0∨way=3):=four2 _ hway
 rcases this with rfl |rfl |h3
 ·show lexS wsL ((34::slashL w 1)++[34]++rest)=_
  rw[List.append_assoc,List.cons_append,lexS_quoted (.inl rfl)]
  exact lexQ_34 _ _
 ·show lexS wsL ((wh::34::slashL w 2)++[34]++rest)=_
  rw[List.append_assoc,List.cons_append,lexS_w h,List.cons_append,lexS_quoted (.inr rfl)]
  exact lexQ_34 _ _
 ·have e:writtenL w way [wh]=(wh::slashL w way)++[wh]:=by
   unfold writtenL
   rw[if_neg (by lia),if_neg (by lia)];rfl
  rw[e,List.append_assoc,List.cons_append,lexS_bare hw h3 h]
  exact lexU_w _ _ h
theorem lex_last {w:List Nat}{way wh:Nat} (hw:okW w) (hway:way<4) (h:isW wsL wh=true):lexS wsL (writtenL w way [wh]).dropLast=(w,[]):=by
 have uN:∀ t:List Nat,lexU wsL t []=(t,[]):=fun t=>rfl
 have qN:∀ t:List Nat,lexQ t []=(t,[]):=fun t=>rfl
 have:way=1∨way=2∨(way=0∨way=3):=four2 _ hway
 rcases this with rfl |rfl |h3
 ·show lexS wsL ((34::slashL w 1)++[34]).dropLast=_
  rw[List.dropLast_concat]
  have:=lexS_quoted (w:=w) (r:=[]) (way:=1) (.inl rfl)
  rw[List.append_nil] at this
  rw[this,qN]
 ·show lexS wsL ((wh::34::slashL w 2)++[34]).dropLast=_
  rw[List.dropLast_concat,lexS_w h]
  have:=lexS_quoted (w:=w) (r:=[]) (way:=2) (.inr rfl)
  rw[List.append_nil] at this
  rw[this,qN]
 ·have e:writtenL w way [wh]=(wh::slashL w way)++[wh]:=by
   unfold writtenL
   rw[if_neg (by lia),if_neg (by lia)];rfl
  rw[e,List.dropLast_concat]
  have:=lexS_bare (r:=[]) hw h3 h
  rw[List.append_nil] at this
  rw[this,uN]
noncomputable def restD (d:Dr) (k:Nat):List Nat:=if k<7 then ((List.range' k (7-k)).flatMap (wriD d)).dropLast else []
theorem whi_w (d:Dr) (k:Nat):∃ wh,whi d k=[wh]∧isW wsL wh=true:=by
 have:(cel d 6+k)%4=0∨(cel d 6+k)%4=1∨(cel d 6+k)%4=2∨(cel d 6+k)%4=3:=by exact four _ (Nat.mod_lt _ (by decide))
 unfold whi
 rcases this with e |e |e |e <;> (rw[e];exact⟨_,rfl,by decide⟩)
theorem written_ne (w:List Nat) (way:Nat) (white:List Nat) (h:white≠[]):writtenL w way white≠[]:=by
 unfold writtenL
 split
 ·simp
 ·split <;> simp[h]
theorem restD_lex (d:Dr) (hne:∀ k,k<7→okW (typD d k)) (k:Nat) (hk:k<7):lexS wsL (restD d k)=(typD d k,restD d (k+1)):=by
 refine e1_2 (whi_w d k) ?_;intro wh hw1 hw2
 have h1:=hne k hk
 have hw:wriD d k=writtenL (typD d k) (wayD d k) [wh]:=by unfold wriD;rw[hw1]
 have hway:wayD d k<4:=Nat.mod_lt _ (by decide)
 unfold restD
 rw[if_pos hk]
 by_cases h4:k=6
 ·subst h4
  rw[if_neg (by decide),show List.range' 6 (7-6)=[6] from rfl,List.flatMap_cons,List.flatMap_nil,List.append_nil,hw]
  exact lex_last h1 hway hw2
 ·rw[if_pos (by exact(by decide:∀ k,k<7→¬k=6→k+1<7) k hk h4),show 7-k=(7-(k+1))+1 by exact(by decide:∀ k,k<7→7-k=7-(k+1)+1) k hk,List.range'_succ,List.flatMap_cons]
  have hne2:(List.range' (k+1) (7-(k+1))).flatMap (wriD d)≠[]:=by
   rw[show 7-(k+1)=(7-(k+2))+1 by exact(by decide:∀ k,k<7→¬k=6→7-(k+1)=7-(k+2)+1) k hk h4,List.range'_succ,List.flatMap_cons]
   refine e1_2 (whi_w d (k+1)) ?_;intro wh' hw1' _
   intro z
   exact written_ne _ _ _ (by rw[hw1'];simp) (List.append_eq_nil_iff.mp z).1
  rw[List.dropLast_append_of_ne_nil hne2,hw]
  exact lex_word h1 hway hw2 _
theorem restD_0 (d:Dr):restD d 0=wholeD d:=by
 unfold restD wholeD
 rw[if_pos (by decide),(List.dropLast_eq_take ..).symm]
 rfl
structure FG (f:Int→Option (List Nat)) (g:Int→Bool):Prop where
 sgn:∀ k:Fin 20,(!g ((sT.getD k.val 0:Nat))&&decide (b3L f (sT.getD k.val 0)=[115]))=true
 eszett:(!g ((223:Nat))&&decide (b3L f 223=[115,115]))=true
 unseen:∀ u:Fin 54,((unsS u.val).all fun y:Nat=>g y)=true
 strange:∀ i:Fin 7,(!g ((strT.getD i.val 0:Nat))&&decide (b3L f (strT.getD i.val 0)=[strT.getD i.val 0]))=true
 prepW:∀ p:Fin 32,prepL f g (wordC p.val)=lowerL (wordC p.val)
theorem sgn_ok:∀ k:Fin 20,sT.getD k.val 0<1114112∧sT.getD k.val 0≠34:=by decide
theorem uns_ok:∀ u:Fin 54,(unsS u.val).all (· < 1114112)=true:=by decide
theorem strT_ok:∀ i:Fin 7,strT.getD i.val 0<1114112:=by decide
section
variable {f:Int→Option (List Nat)}{g:Int→Bool}
theorem prepL_app (x y:List Nat):prepL f g (x++y)=prepL f g x++prepL f g y:=by
 unfold prepL
 rw[List.filter_append,List.map_append,List.flatten_append]
theorem shownL_app (x y:List Nat):shownL g (x++y)=shownL g x++shownL g y:=by unfold shownL;rw[List.filter_append]
theorem prepL_one {c:Nat}{r:List Nat} (h1:g c=false) (h2:b3L f c=r):prepL f g [c]=r∧shownL g [c]=[c]:=by
 unfold prepL shownL
 rw[List.filter_cons,h1]
 simp[h2]
theorem prepL_uns {x:List Nat} (h:(x.all fun y:Nat=>g y)=true):prepL f g x=[]∧shownL g x=[]:=by
 have e:x.filter (fun c:Nat => !g c)=[]:=List.filter_eq_nil_iff.mpr fun y hy=>by rw[List.all_eq_true.mp h y hy];decide
 unfold prepL shownL
 rw[e];exact⟨rfl,rfl⟩
theorem nb {a b:Bool} (h:(!a&&b)=true):a=false∧b=true:=by cases a <;> cases b <;> simp_all
theorem signS_ok (H:FG f g) (n left:Nat) (hn:n<20):shownL g (signS n left).1=(signS n left).1∧prepL f g (signS n left).1=List.replicate (left-(signS n left).2) 115∧(signS n left).2≤left-1∧(signS n left).1.all (· < 1114112)=true:=by
 unfold signS
 split
 ·refine e0_2 (nb H.eszett) ?_;intro h1 h2
  refine e0_2 (prepL_one (f:=f) (g:=g) (c:=223) h1 (of_decide_eq_true h2)) ?_;intro h3 h4
  refine⟨h4,?_,Nat.sub_le_sub_left (by decide) left,rfl⟩
  rw[h3,show left-(left-2)=2 from Nat.sub_sub_self (by rename_i z;exact z.1)];rfl
 ·split
  ·refine e0_2 (nb (H.sgn ⟨n,hn⟩)) ?_;intro h1 h2
   refine e0_2 (prepL_one (f:=f) (g:=g) (c:=sT.getD n 0) h1 (of_decide_eq_true h2)) ?_;intro h3 h4
   refine⟨h4,?_,Nat.le_refl _,?_⟩
   ·rw[h3,show left-(left-1)=1 from Nat.sub_sub_self (by rename_i z;exact z)];rfl
   ·show(decide (_<_)&&true)=true
    rw[Bool.and_true];exact decide_eq_true (sgn_ok ⟨n,hn⟩).1
  ·refine⟨rfl,?_,by rename_i z;rw[Nat.eq_zero_of_not_pos z];exact Nat.le_refl _,rfl⟩
   rw[Nat.sub_self];rfl
theorem typS_ok (H:FG f g) (size n:Nat):∀ i,shownL g (typS size n i).1=(typS size n i).2.1∧prepL f g (typS size n i).1=List.replicate (size-(typS size n i).2.2) 115∧(typS size n i).2.2≤size-i∧(typS size n i).1.all (· < 1114112)=true∧(typS size n i).2.1.all (· < 1114112)=true
 |0=>⟨rfl,by show _=List.replicate (size-size) 115;rw[Nat.sub_self];rfl,Nat.le_refl _,rfl,rfl⟩
 |i+1=>by
  refine e0_5 (typS_ok H size n i) ?_;intro h1 h2 h3 h4 h5
  refine e0_4 (signS_ok H ((n+7*i)%20) (typS size n i).2.2 (Nat.mod_lt _ (by decide))) ?_;intro k1 k2 k3 k4
  refine e0_2 (prepL_uns (f:=f) (H.unseen ⟨(n/20+5*i)%54,Nat.mod_lt _ (by decide)⟩)) ?_;intro u1 u2
  have u3:=uns_ok ⟨(n/20+5*i)%54,Nat.mod_lt _ (by decide)⟩
  dsimp only at u1 u2 u3
  unfold typS
  dsimp only
  generalize signS ((n+7*i)%20) (typS size n i).2.2=s at *
  generalize unsS ((n/20+5*i)%54)=u at *
  generalize typS size n i=t at *
  refine⟨?_,?_,Nat.le_trans k3 (Nat.sub_le_sub_right h3 1),?_,?_⟩
  ·rw[shownL_app,shownL_app,h1,k1,u2,List.append_nil]
  ·rw[prepL_app,prepL_app,h2,k2,u1,List.append_nil,List.replicate_append_replicate]
   rw[Nat.sub_add_sub_cancel (Nat.le_trans h3 (Nat.sub_le ..)) (Nat.le_trans k3 (Nat.sub_le ..))]
  ·rw[List.all_append,List.all_append,h4,k4,u3];rfl
  ·rw[List.all_append,h5,k4];rfl
theorem typS_head (size n:Nat) (hs:1≤size):∀ i,okW (typS size n (i+1)).1
 |0=>by
  show okW ([]++(signS ((n+7*0)%20) size).1++unsS ((n/20+5*0)%54))
  unfold signS
  split
  ·exact⟨223,_,rfl,by decide⟩
  ·rw[if_pos (show 0<size from hs)]
   exact⟨_,_,rfl,(sgn_ok ⟨(n+7*0)%20,Nat.mod_lt _ (by decide)⟩).2⟩
 |i+1=>by
  refine e2_2 (typS_head size n hs i) ?_;intro c r h1 h2
  show okW ((typS size n (i+1)).1++_++_)
  rw[h1]
  exact⟨c,_,rfl,h2⟩
theorem strg_ok (d:Dr) (k:Nat):∃ i:Fin 7,strg d k=strT.getD i.val 0:=⟨⟨(cel d 6+k)%7,Nat.mod_lt _ (by decide)⟩,rfl⟩
theorem typD_ok (H:FG f g){d:Dr} (hd:DrOK d){k:Nat} (hk:k<7):shownL g (typD d k)=shoD d k∧prepL f g (typD d k)=preD d k∧(typD d k).all (· < 1114112)=true∧(shoD d k).all (· < 1114112)=true∧(preD d k).all (· < 1114112)=true∧okW (typD d k):=by
 refine e0_3 (szk_get hd hk) ?_;intro _ h1 h2
 refine e1_1 (strg_ok d k) ?_;intro i hi
 refine e0_2 (nb (H.strange i)) ?_;intro s1 s2
 have s3:(strg d k)<1114112:=by rw[hi];exact strT_ok i
 rw[← hi] at s1 s2
 refine e0_2 (prepL_one s1 (of_decide_eq_true s2)) ?_;intro s4 s5
 refine e0_5 (typS_ok H (szk d k) (celk d k/7+3*k) (szk d k)) ?_;intro t1 t2 t3 t4 t5
 have s6:[strg d k].all (· < 1114112)=true:=by rw[List.all_cons,decide_eq_true s3];rfl
 unfold typD shoD preD
 refine⟨by rw[shownL_app,t1,s5],?_,by rw[List.all_append,t4,s6];rfl,by rw[List.all_append,t5,s6];rfl,?_,?_⟩
 ·rw[prepL_app,t2,s4]
  rw[Nat.sub_self] at t3;rw[Nat.eq_zero_of_le_zero t3];rfl
 ·rw[List.all_append,s6,Bool.and_true]
  refine List.all_eq_true.mpr fun x hx=>?_
  rw[(List.mem_replicate.mp hx).2];decide
 ·refine e2_2 (typS_head (szk d k) (celk d k/7+3*k) h1 (szk d k-1)) ?_;intro c r q1 q2
  rw[show szk d k-1+1=szk d k from Nat.sub_add_cancel h1] at q1
  rw[q1]
  exact⟨c,_,rfl,q2⟩
end
noncomputable def un (o n:Nat):Nat:=if n%o=0∧n/o∈([1,2,4,8,16]:List Nat) then n/o else 0
noncomputable def odds:List Nat:=[1,3,5,7]
noncomputable def capO (o:Nat):Nat:=if o=1 then 24 else if o=3 then 12 else 6
noncomputable def sumU (o:Nat) (l:List Nat):Nat:=(l.map (un o)).sum
theorem sumU_app (o:Nat) (l m:List Nat):sumU o (l++m)=sumU o l+sumU o m:=by unfold sumU;rw[List.map_append,List.sum_append]
theorem sumU_cons (o n:Nat) (l:List Nat):sumU o (n::l)=un o n+sumU o l:=by unfold sumU;rw[List.map_cons,List.sum_cons]
theorem sumU_perm {o:Nat}{l m:List Nat} (h:l.Perm m):sumU o l=sumU o m:=(h.map (un o)).sum_nat
theorem dbl_ok:∀ n∈sizesV,(∀ o∈odds,2*un o n≤capO o)→2*n∈sizesV∧∀ o∈odds,un o (2*n)=2*un o n:=by decide
theorem un_small:∀ n∈([1,2,3,4,5,6,7]:List Nat),n∈sizesV∧∀ o∈odds,un o n=(if cOK o n then n/o else 0)∧6*un o n≤capO o:=by decide
theorem small_mem {n:Nat} (h:1≤n∧n≤7):n∈([1,2,3,4,5,6,7]:List Nat):=by
 exact(by decide:∀ n,n<8→1≤n→n∈([1,2,3,4,5,6,7]:List Nat)) n (Nat.lt_succ_of_le h.2) h.1
theorem sum_filter (p:Nat→Bool) (f:Nat→Nat):∀ l:List Nat,((l.filter p).map f).sum=(l.map fun x=>if p x then f x else 0).sum
 |[]=>rfl
 |x::l=>by
  have ih:=sum_filter p f l
  rw[List.filter_cons,List.map_cons,List.sum_cons,← ih]
  cases p x
  ·simp
  ·simp
theorem cnt_un {o:Nat} (ho:o∈odds):∀ {l:List Nat},(∀ n∈l,1≤n∧n≤7)→cntL l o=sumU o l:=fun {l} h=>by
 unfold cntL sumU
 rw[sum_filter]
 congr 1
 exact List.map_congr_left fun n hn=>(((un_small n (small_mem (h n hn))).2 o ho).1).symm
theorem sum_cap {o:Nat} (ho:o∈odds):∀ {l:List Nat},(∀ n∈l,1≤n∧n≤7)→6*sumU o l≤l.length*capO o
 |[],_=>by simp[sumU]
 |n::l,h=>by
  have h1:=sum_cap ho (l:=l) fun m hm=>h m (List.mem_cons_of_mem _ hm)
  have h2:=((un_small n (small_mem (h n (List.mem_cons_self ..)))).2 o ho).2
  rw[sumU_cons,List.length_cons,Nat.mul_add,Nat.add_mul,Nat.one_mul];lia
noncomputable def lastS (came S:List Nat):List (Nat×Bool):=(List.range came.length).flatMap fun i=>if S.contains (came.getD i 0) && !(came.drop (i+1)).contains (came.getD i 0) then [(came.getD i 0,decide (i%2=0))] else []
theorem flatMap_eq {α β:Type}{f g:α→List β}:∀ {l:List α},(∀ x∈l,f x=g x)→l.flatMap f=l.flatMap g
 |[],_=>rfl
 |x::l,h=>by rw[List.flatMap_cons,List.flatMap_cons,h x (List.mem_cons_self ..),flatMap_eq fun y hy=>h y (List.mem_cons_of_mem _ hy)]
theorem lastS_snoc (came S:List Nat) (n:Nat):lastS (came++[n]) S=((List.range came.length).flatMap fun i=>if S.contains (came.getD i 0)&&(!(came.drop (i+1)).contains (came.getD i 0) && !(came.getD i 0==n)) then [(came.getD i 0,decide (i%2=0))] else [])++(if S.contains n then [(n,decide (came.length%2=0))] else []):=by
 unfold lastS
 rw[List.length_append,List.length_singleton,List.range_succ,List.flatMap_append,List.flatMap_cons,List.flatMap_nil,List.append_nil]
 congr 1
 ·refine flatMap_eq fun i hi=>?_
  have hi:=List.mem_range.mp hi
  have e1:(came++[n]).getD i 0=came.getD i 0:=by rw[List.getD_eq_getElem?_getD,List.getElem?_append_left hi,List.getD_eq_getElem?_getD]
  have e2:(came++[n]).drop (i+1)=came.drop (i+1)++[n]:=List.drop_append_of_le_length hi
  rw[e1,e2,show ∀ c,(came.drop (i+1)++[n]).contains c=((came.drop (i+1)).contains c ||(c==n)) from fun c=>by
   rw[Bool.eq_iff_iff,Bool.or_eq_true,List.contains_iff_mem,List.contains_iff_mem,List.mem_append,List.mem_singleton,beq_iff_eq],Bool.not_or]
 ·have e1:(came++[n]).getD came.length 0=n:=by rw[List.getD_eq_getElem?_getD,List.getElem?_append_right (Nat.le_refl _),Nat.sub_self];rfl
  have e2:(came++[n]).drop (came.length+1)=[]:=List.drop_of_length_le (by rw[List.length_append];exact Nat.le_refl _)
  rw[e1,e2]
  simp
structure JV (l:List Nat) (s:Jst):Prop where
 q:∀ n∈s.q,n∈sizesV
 sh:∀ e∈s.sh,e.1∈sizesV
 phi:s.came.length+2*s.q.length+s.sh.length=12
 tot:s.q.length+s.sh.length≤6
 uns:∀ o∈odds,sumU o s.q+sumU o (s.sh.map (·.1))=sumU o l
 nd:(s.sh.map (·.1)).Nodup
 pre:∃ r,s.came++s.q=l++r
 ord:s.sh=lastS s.came (s.sh.map (·.1))
theorem any_mem {sh:List (Nat×Bool)}{n:Nat}:(sh.any fun e=>decide (e.1=n))=true ↔ n∈sh.map (·.1):=by
 rw[List.any_eq_true,List.mem_map]
 constructor
 ·intro zz1;refine e1_2 zz1 ?_;clear zz1;intro e he h;exact⟨e,he,of_decide_eq_true h⟩
 ·intro zz1;refine e1_2 zz1 ?_;clear zz1;intro e he h;exact⟨e,he,decide_eq_true h⟩
theorem filter_perm {S:List Nat} (h:S.Nodup){n:Nat} (hn:n∈S):S.Perm (n::S.filter (· != n)):=by
 rw[← h.erase_eq_filter]
 exact List.perm_cons_erase hn
theorem sh_filter (sh:List (Nat×Bool)) (n:Nat):(sh.filter fun e => !decide (e.1=n)).map (·.1)=(sh.map (·.1)).filter (· != n):=by
 rw[List.filter_map]
 rfl
theorem jv_step {l:List Nat} (hcap:∀ o∈odds,sumU o l≤capO o){s:Jst} (h:JV l s):JV l (jstep s):=by
 unfold jstep
 cases hq:s.q with
 |nil=>exact h
 |cons n q =>
  dsimp only
  have hn:n∈sizesV:=h.q n (by rw[hq];exact List.mem_cons_self ..)
  have hq':∀ m∈q,m∈sizesV:=fun m hm=>h.q m (by rw[hq];exact List.mem_cons_of_mem _ hm)
  have hphi:=h.phi
  have htot:=h.tot
  rw[hq,List.length_cons] at hphi htot
  have huns:=h.uns
  rw[hq] at huns
  refine e1_1 (h.pre) ?_;intro r hr
  rw[hq] at hr
  split
  ·rename_i hany
   have hmem:=any_mem.mp hany
   have hpm:=filter_perm h.nd hmem
   have hlen:=hpm.length_eq
   rw[List.length_cons,List.length_map] at hlen
   have hsu:∀ o,sumU o (s.sh.map (·.1))=un o n+sumU o ((s.sh.map (·.1)).filter (· != n)):=fun o=>by rw[sumU_perm hpm,sumU_cons]
   refine e0_2 (dbl_ok n hn fun o ho=>by
    have h1:=huns o ho
    rw[sumU_cons,hsu] at h1
    exact Nat.le_trans (by rw[← h1,Nat.two_mul];exact Nat.add_le_add (Nat.le_add_right ..) (Nat.le_add_right ..)) (hcap o ho)) ?_;intro hdbl hund
   have hfl:(s.sh.filter fun e => !decide (e.1=n)).length=((s.sh.map (·.1)).filter (· != n)).length:=by rw[← sh_filter,List.length_map]
   refine⟨fun m hm=>?_,fun e he=>h.sh e (List.mem_filter.mp he).1,?_,?_,fun o ho=>?_,?_,⟨r++[2*n],?_⟩,?_⟩
   ·rcases List.mem_append.mp hm with q |q
    ·exact hq' m q
    ·rw[List.mem_singleton.mp q];exact hdbl
   ·show(s.came++[n]).length+2*(q++[2*n]).length+(s.sh.filter fun e => !decide (e.1=n)).length=12
    rw[hlen] at hphi
    rw[hfl,List.length_append,List.length_append,List.length_singleton,List.length_singleton,Nat.add_right_comm _ 1,Nat.add_right_comm _ 1];exact hphi
   ·show(q++[2*n]).length+(s.sh.filter fun e => !decide (e.1=n)).length≤6
    rw[hlen] at htot
    rw[hfl,List.length_append,List.length_singleton];exact Nat.le_of_succ_le htot
   ·show sumU o (q++[2*n])+sumU o ((s.sh.filter fun e => !decide (e.1=n)).map (·.1))=_
    have h1:=huns o ho
    rw[sumU_cons,hsu] at h1
    rw[sh_filter,sumU_app,sumU_cons,hund o ho]
    show sumU o q+(2*un o n)+_=_
    rw[← h1,Nat.two_mul,← Nat.add_assoc,← Nat.add_assoc,Nat.add_comm (un o n) (sumU o q)]
   ·show((s.sh.filter fun e => !decide (e.1=n)).map (·.1)).Nodup
    rw[sh_filter];exact h.nd.sublist List.filter_sublist
   ·show s.came++[n]++(q++[2*n])=_
    rw[← List.append_assoc,← List.append_assoc,← hr,List.append_assoc s.came];rfl
   ·show s.sh.filter (fun e => !decide (e.1=n))=lastS (s.came++[n]) ((s.sh.filter fun e => !decide (e.1=n)).map (·.1))
    rw[sh_filter,lastS_snoc]
    have e1:((s.sh.map (·.1)).filter (· != n)).contains n=false:=by
     rw[Bool.eq_false_iff,ne_eq,List.contains_iff_mem,List.mem_filter]
     intro z;simp at z
    rw[e1,if_neg (by decide),List.append_nil]
    have e2:=congrArg (List.filter fun e:Nat×Bool => !decide (e.1=n)) h.ord
    rw[e2]
    conv=>lhs;unfold lastS
    rw[List.filter_flatMap]
    refine flatMap_eq fun i _=>?_
    generalize s.came.getD i 0=c
    by_cases q:c=n
    ·subst q
     have hR:∀ (a b:Bool) (x:Nat×Bool),(if (a&&(b && !(c==c)))=true then [x] else [])=[]:=fun a b x=>by simp
     rw[hR]
     split <;> simp
    ·have e3:((s.sh.map (·.1)).filter (· != n)).contains c=(s.sh.map (·.1)).contains c:=by
      rw[Bool.eq_iff_iff,List.contains_iff_mem,List.contains_iff_mem,List.mem_filter]
      simp[q]
     rw[e3,show(c==n)=false by simpa using q,Bool.not_false,Bool.and_true]
     split
     ·simp[q]
     ·rfl
  ·rename_i hany
   have hnm:n ∉ s.sh.map (·.1):=fun z=>hany (any_mem.mpr z)
   refine⟨hq',fun e he=>?_,?_,?_,fun o ho=>?_,?_,⟨r,?_⟩,?_⟩
   ·rcases List.mem_append.mp he with q |q
    ·exact h.sh e q
    ·rw[List.mem_singleton.mp q];exact hn
   ·show(s.came++[n]).length+2*q.length+(s.sh++[_]).length=12
    rw[List.length_append,List.length_append,List.length_singleton,List.length_singleton];lia
   ·show q.length+(s.sh++[_]).length≤6
    rw[List.length_append,List.length_singleton,Nat.add_comm s.sh.length,← Nat.add_assoc];exact htot
   ·show sumU o q+sumU o ((s.sh++[(n,decide ((s.came.length+1)%2=1))]).map fun e:Nat×Bool=>e.1)=_
    have h1:=huns o ho
    rw[sumU_cons] at h1
    rw[List.map_append,sumU_app]
    show sumU o q+(_+un o n)=_
    rw[← h1,← Nat.add_assoc,Nat.add_comm _ (un o n),← Nat.add_assoc]
   ·show((s.sh++[(n,decide ((s.came.length+1)%2=1))]).map fun e:Nat×Bool=>e.1).Nodup
    rw[List.map_append]
    refine List.nodup_append.mpr ⟨h.nd,by simp,fun a ha b hb=>?_⟩
    obtain rfl:=List.mem_singleton.mp hb
    intro z
    exact hnm (z▸ha)
   ·show s.came++[n]++q=_
    rw[← hr,List.append_assoc];rfl
   ·show s.sh++[(n,decide ((s.came.length+1)%2=1))]=lastS (s.came++[n]) ((s.sh++[(n,decide ((s.came.length+1)%2=1))]).map (·.1))
    rw[lastS_snoc,List.map_append]
    have hc:∀ (S:List Nat) c,(S++[n]).contains c=(S.contains c ||(c==n)):=fun S c=>by
     rw[Bool.eq_iff_iff,Bool.or_eq_true,List.contains_iff_mem,List.contains_iff_mem,List.mem_append,List.mem_singleton,beq_iff_eq]
    rw[show List.map (fun e:Nat×Bool=>e.1) [(n,decide ((s.came.length+1)%2=1))]=[n] from rfl]
    have hcn:∀ S:List Nat,(S++[n]).contains n=true:=fun S=>by rw[hc];simp
    rw[hcn,if_pos rfl,show decide ((s.came.length+1)%2=1)=decide (s.came.length%2=0) from decide_eq_decide.mpr (by lia)]
    congr 1
    refine h.ord.trans ?_
    unfold lastS
    refine flatMap_eq fun i _=>?_
    generalize s.came.getD i 0=c
    rw[hc]
    by_cases q:c=n
    ·subst q
     have:(s.sh.map (·.1)).contains c=false:=by
      rw[Bool.eq_false_iff,ne_eq,List.contains_iff_mem];exact hnm
     rw[this]
     simp
    ·rw[show(c==n)=false by simpa using q,Bool.or_false,Bool.not_false,Bool.and_true]
theorem jv_it {l:List Nat} (hl:l.length=6) (hs:∀ n∈l,1≤n∧n≤7):∀ i,JV l (jit ⟨l,[],[]⟩ i)
 |0=>⟨fun n hn=>(un_small n (small_mem (hs n hn))).1,(fun e he=>by cases he),by show 0+2*l.length+0=12;lia,by show l.length+0≤6;exact Nat.le_trans (Nat.add_le_add (Nat.le_of_eq hl) (Nat.le_refl _)) (by decide),fun o _=>by show sumU o l+0=_;lia,by show([]:List Nat).Nodup;simp,⟨[],by show []++l=_;simp⟩,rfl⟩
 |i+1=>jv_step (fun o ho=>by have:=sum_cap ho hs;rw[hl] at this;lia) (jv_it hl hs i)
theorem jit_came {l:List Nat}:∀ i,(jit ⟨l,[],[]⟩ i).q≠[]→(jit ⟨l,[],[]⟩ i).came.length=i
 |0,_=>rfl
 |i+1,h=>by
  have h0:(jit ⟨l,[],[]⟩ i).q≠[]:=fun z=>h (by
   show(jstep (jit ⟨l,[],[]⟩ i)).q=[]
   unfold jstep
   rw[z];exact z)
  have ih:=jit_came i h0
  show(jstep (jit ⟨l,[],[]⟩ i)).came.length=_
  unfold jstep
  cases hq:(jit ⟨l,[],[]⟩ i).q with
  |nil=>exact absurd hq h0
  |cons n q =>
   dsimp only
   split
   ·show(_++[n]).length=_;rw[List.length_append,ih];rfl
   ·show(_++[n]).length=_;rw[List.length_append,ih];rfl
end Mine
namespace Mine
open PySem.StrLaws
theorem at_iff (X:List Nat) (k:Nat):At (st X) (st [44,32]) X.length k ↔ (X.drop k).take 2=[44,32]:=by
 unfold At
 rw[subAt_eq,show(st [44,32]).length=2 from rfl]
 show(k+2≤X.length∧((X.drop k).take 2==[44,32])=true) ↔ _
 rw[beq_iff_eq]
 refine⟨fun h=>h.2,fun h=>⟨?_,h⟩⟩
 have:=congrArg List.length h
 rw[List.length_take,List.length_drop] at this
 have e:([44,32]:List Nat).length=2:=rfl
 lia
theorem sub_take (X:List Nat) (a b:Nat):(Builtin.Str.strSub (st X) a b).cps.toList=(X.drop a).take (b-a):=by rw[strSub_toList];rfl
theorem not_at {X w r:List Nat}{a k:Nat} (h:X.drop a=w++r) (hw:44 ∉ w) (h1:a≤k) (h2:k<a+w.length):¬ At (st X) (st [44,32]) X.length k:=fun z=>by
 rw[at_iff] at z
 have e:X.drop k=(w.drop (k-a))++r:=by
  have:X.drop k=(X.drop a).drop (k-a):=by rw[List.drop_drop];congr 1;exact(Nat.add_sub_of_le h1).symm
  rw[this,h,List.drop_append_of_le_length (by lia)]
 rw[e] at z
 cases hd:w.drop (k-a) with
 |nil =>
  have:=congrArg List.length hd
  rw[List.length_drop] at this
  simp at this;lia
 |cons c t =>
  rw[hd] at z
  have hc:c=44:=by simpa using congrArg List.head? z
  have:c∈w:=List.mem_of_mem_drop (by rw[hd];exact List.mem_cons_self ..)
  rw[hc] at this
  exact hw this
theorem parts_jn (X:List Nat):∀ (ws:List (List Nat)) (a:Nat) (cuts:List Nat) (f:Nat),ws≠[]→(∀ w∈ws,44 ∉ w)→a≤X.length→X.drop a=jn [44,32] ws→ChainG (st X) (st [44,32]) X.length a cuts f→(∀ k,f≤k→¬ At (st X) (st [44,32]) X.length k)→(partsFrom (st X) 2 a cuts).map (fun z:Str=>z.cps.toList)=ws
 |[],_,_,_,h,_,_,_,_,_=>absurd rfl h
 |[w],a,cuts,f,_,hw,hax,hX,hC,hn=>by
  have hX:X.drop a=w++[]:=by rw[hX];exact(List.append_nil w).symm
  have hlen:X.length=a+w.length:=by
   have:=congrArg List.length hX
   rw[List.length_drop,List.length_append] at this
   simp at this
   lia
  cases cuts with
  |nil =>
   show [(Builtin.Str.strSub (st X) a (st X).length).cps.toList]=_
   rw[sub_take,show(st X).length=X.length from str_len X,hX,List.append_nil,List.take_of_length_le (by lia)]
  |cons c r =>
   refine e0_3 hC ?_;try clear hC;intro h1 h2 _
   have h3:c+2≤X.length:=h2.1
   exact absurd h2 (not_at hX (hw w (List.mem_singleton.mpr rfl)) h1 (by exact cB (lekS h3) (Nat.le_of_eq hlen)))
 |w::w2::r,a,cuts,f,_,hw,hax,hX,hC,hn=>by
  have hX1:X.drop a=w++([44,32]++jn [44,32] (w2::r)):=by rw[hX,← List.append_assoc];rfl
  have hdw:X.drop (a+w.length)=[44,32]++jn [44,32] (w2::r):=by rw[← List.drop_drop,hX1,List.drop_left]
  have hAt:At (st X) (st [44,32]) X.length (a+w.length):=(at_iff _ _).mpr (by rw[hdw];rfl)
  have hdw2:X.drop (a+w.length+2)=jn [44,32] (w2::r):=by rw[← List.drop_drop,hdw];rfl
  have hw0:=hw w (List.mem_cons_self ..)
  cases cuts with
  |nil =>
   have e:f=a:=hC
   subst e
   exact absurd hAt (hn _ (by exact Nat.le_add_right _ _))
  |cons c cs =>
   refine e0_4 hC ?_;try clear hC;intro h1 h2 h3 h4
   have hc:c=a+w.length:=by
    rcases Nat.lt_trichotomy c (a+w.length) with q |q |q
    ·exact absurd h2 (not_at hX1 hw0 h1 q)
    ·exact q
    ·exact absurd hAt (h3 _ (by exact Nat.le_add_right _ _) q)
   subst hc
   have hle:a+w.length+2≤X.length:=hAt.1
   have ih:=parts_jn X (w2::r) (a+w.length+2) cs f (by simp) (fun x hx=>hw x (List.mem_cons_of_mem _ hx)) hle hdw2 h4 hn
   show(Builtin.Str.strSub (st X) a (a+w.length)).cps.toList::(partsFrom (st X) 2 (a+w.length+2) cs).map (fun z:Str=>z.cps.toList)=_
   rw[ih,sub_take,Nat.add_sub_cancel_left,hX1,List.take_left]
theorem split_jn {ws:List (List Nat)} (h0:ws≠[]) (hw:∀ w∈ws,44 ∉ w):splitL (jn [44,32] ws) [44,32]=ws:=by
 generalize hX:jn [44,32] ws=X
 have hl:(st X).length=X.length:=str_len X
 refine e1_2 (occ_tight (st X) (st [44,32]) (by decide)) ?_;intro f hG hn
 rw[hl] at hG hn
 have key:=parts_jn X ws 0 _ f h0 hw (Nat.zero_le _) (by rw[List.drop_zero,hX]) hG hn
 unfold splitL Txt.split
 split
 ·rename_i hc
  rw[Bool.or_eq_true,decide_eq_true_eq,decide_eq_true_eq] at hc
  have hlt:X.length<2:=by
   rcases hc with h |h
   ·have e2:(st [44,32]).length=2:=rfl
    exact cC (Nat.le_of_eq hl.symm) (cB h (Nat.le_of_eq e2))
   ·have e1:Builtin.Str.strKind (st [44,32])=1:=by decide +kernel
    rw[e1] at h
    unfold Builtin.Str.strKind at h
    exfalso
    revert h
    split
    ·lia
    ·split <;> lia
  match ws,h0,hX with
  |[w],_,hX =>
   have:w=X:=by rw[← hX];rfl
   rw[this]
   show [(st X).cps.toList]=[X]
   simp[st]
  |w::w2::r,_,hX =>
   have:=congrArg List.length hX
   have e:(jn [44,32] (w::w2::r)).length=w.length+2+(jn [44,32] (w2::r)).length:=by
    show(w++[44,32]++jn [44,32] (w2::r)).length=_
    rw[List.length_append,List.length_append];rfl
   lia
 ·split
  ·rename_i he
   have e0:Builtin.Str.occurrences (st X) (st [44,32]) 0 (st X).length ((st X).length+1)=[]:=List.isEmpty_iff.mp he
   rw[hl] at e0
   rw[e0] at key
   have e1:partsFrom (st X) 2 0 []=[st X]:=by
    show [Builtin.Str.strSub (st X) 0 (st X).length]=_
    rw[sub_whole]
   rw[e1] at key
   exact key
  ·rw[partsBetween_eq,hl]
   exact key
end Mine
namespace Mine
theorem bits5:∀ b0 b1 b2 b3 b4:Bool,∀ k:Fin 5,Nat.testBit ((if b0 then 1 else 0)+((if b1 then 2 else 0)+((if b2 then 4 else 0)+((if b3 then 8 else 0)+(if b4 then 16 else 0))))) k.val=[b0,b1,b2,b3,b4].getD k.val false:=by decide
theorem sizesV_nd:sizesV.Nodup:=by decide
theorem sum_shelf {S:List Nat} (hn:S.Nodup) (hS:∀ n∈S,n∈sizesV) (o:Nat):sumU o S=(sizesV.map fun x=>if S.contains x then un o x else 0).sum:=by
 have hp:S.Perm (sizesV.filter fun x=>S.contains x):=by
  refine(List.perm_ext_iff_of_nodup hn (sizesV_nd.sublist List.filter_sublist)).mpr fun a=>?_
  rw[List.mem_filter,List.contains_iff_mem]
  exact⟨fun h=>⟨hS a h,h⟩,fun h=>h.2⟩
 rw[sumU_perm hp,← sum_filter]
 rfl
theorem off_sizes {S:List Nat} (hS:∀ n∈S,n∈sizesV){n:Nat} (h:n ∉ sizesV):S.contains n=false:=by
 rw[Bool.eq_false_iff,ne_eq,List.contains_iff_mem]
 exact fun z=>h (hS n z)
theorem sum_drop {f:Nat→Nat}{p:Nat→Bool} (h:∀ x,p x=false→f x=0):∀ {l:List Nat},(l.map f).sum=((l.filter p).map f).sum
 |[]=>rfl
 |x::l=>by
  rw[List.map_cons,List.sum_cons,List.filter_cons,sum_drop h]
  cases hp:p x with
  |true=>rw[if_pos rfl,List.map_cons,List.sum_cons]
  |false=>rw[if_neg Bool.false_ne_true,h x hp,Nat.zero_add]
theorem if_zero {b:Bool}{n:Nat} (h:n=0):(if b then n else 0)=0:=by rw[h];cases b <;> rfl
theorem decide_zero {n:Nat} (h:(n != 0)=false):n=0:=by simpa using h
theorem bits_shelf {S:List Nat} (hn:S.Nodup) (hS:∀ n∈S,n∈sizesV){o:Nat} (ho:o∈odds):∀ k,k<5→(sumU o S).testBit k=S.contains (o*2^k):=fun k hk=>by
 have h1:sumU o S=(if S.contains (o*2^0) then 1 else 0)+((if S.contains (o*2^1) then 2 else 0)+((if S.contains (o*2^2) then 4 else 0)+((if S.contains (o*2^3) then 8 else 0)+(if S.contains (o*2^4) then 16 else 0)))):=by
  rw[sum_shelf hn hS]
  rw[sum_drop (fun x hx=>if_zero (decide_zero hx))]
  generalize hb:S.contains=b at *
  simp only[odds,List.mem_cons,List.not_mem_nil,or_false] at ho
  have z:=fun n h=>hb▸off_sizes hS (n:=n) h
  rcases ho with rfl |rfl |rfl |rfl
  ·rfl
  ·rw[z (3*2^4) (by decide)];rfl
  ·rw[z (5*2^3) (by decide),z (5*2^4) (by decide)];rfl
  ·rw[z (7*2^3) (by decide),z (7*2^4) (by decide)];rfl
 rw[h1,bits5 _ _ _ _ _ ⟨k,hk⟩]
 have:k=0∨k=1∨k=2∨k=3∨k=4:=by lia
 rcases this with rfl |rfl |rfl |rfl |rfl <;> rfl
theorem flatMap_sub {α β:Type}{f g:α→List β} (h:∀ x,(f x).Sublist (g x)):∀ l:List α,(l.flatMap f).Sublist (l.flatMap g)
 |[]=>.slnil
 |x::l=>by rw[List.flatMap_cons,List.flatMap_cons];exact(h x).append (flatMap_sub h l)
theorem prtD_nd (d:Dr):(prtD d).Nodup:=by
 have h:((List.range 4).flatMap fun i=>(List.range 5).map fun k=>(2*i+1)*2^k).Nodup:=by decide
 exact h.sublist (flatMap_sub (fun i=>List.filter_sublist.map _) _)
theorem sizes_form:∀ n∈sizesV,∃ i:Fin 4,∃ k:Fin 5,n=(2*i.val+1)*2^k.val:=by decide
theorem odds_i:∀ i:Fin 4,2*i.val+1∈odds:=by decide
theorem prt_perm {d:Dr}{S:List Nat} (hn:S.Nodup) (hS:∀ n∈S,n∈sizesV) (hs:∀ o∈odds,sumU o S=cntD d o):S.Perm (prtD d):=by
 refine(List.perm_ext_iff_of_nodup hn (prtD_nd d)).mpr fun a=>?_
 unfold prtD
 rw[List.mem_flatMap]
 constructor
 ·intro ha
  refine e2_1 (sizes_form a (hS a ha)) ?_;intro i k zz1;subst zz1
  refine⟨i.val,List.mem_range.mpr i.isLt,List.mem_map.mpr ⟨k.val,List.mem_filter.mpr ⟨List.mem_range.mpr k.isLt,?_⟩,rfl⟩⟩
  rw[← hs _ (odds_i i),bits_shelf hn hS (odds_i i) _ k.isLt,List.contains_iff_mem]
  exact ha
 ·intro zz1;refine e1_2 zz1 ?_;clear zz1;intro i hi h2
  refine e1_2 (List.mem_map.mp h2) ?_;intro k hk zz1;subst zz1
  refine e0_2 (List.mem_filter.mp hk) ?_;intro h3 h4
  have ho:=odds_i ⟨i,List.mem_range.mp hi⟩
  dsimp only at ho
  rw[← hs _ ho,bits_shelf hn hS ho _ (List.mem_range.mp h3),List.contains_iff_mem] at h4
  exact h4
theorem plc_form:∀ i:Fin 4,∀ k:Fin 5,plc ((2*i.val+1)*2^k.val)=([0,5,9,12]:List Nat).getD i.val 0+k.val:=by decide
theorem range_cut {c w:Nat} (hw:w≤5) (hc:c<2^w):(List.range 5).filter (fun k=>c.testBit k)=(List.range w).filter fun k=>c.testBit k:=by
 have e:(5:Nat)=w+(5-w):=(Nat.add_sub_of_le hw).symm
 rw[e,List.range_add,List.filter_append]
 have:((List.range (5-w)).map (w + ·)).filter (fun k=>c.testBit k)=[]:=List.filter_eq_nil_iff.mpr fun k hk=>by
  refine e1_2 (List.mem_map.mp hk) ?_;intro j _ zz1;subst zz1
  rw[Nat.testBit_lt_two_pow (Nat.lt_of_lt_of_le hc (Nat.pow_le_pow_right (by decide) (Nat.le_add_right _ _)))];decide
 rw[this,List.append_nil]
theorem bits_two {a b w n:Nat} (hb:b<2^w):(List.range (w+n)).filter (fun j=>(2^w*a+b).testBit j)=(List.range w).filter (fun j=>b.testBit j)++((List.range n).filter fun j=>a.testBit j).map (w + ·):=by
 rw[List.range_add,List.filter_append,List.filter_map]
 congr 1
 ·refine List.filter_congr fun j hj=>?_
  rw[Nat.testBit_two_pow_mul_add _ hb,if_pos (List.mem_range.mp hj)]
 ·congr 1
  refine List.filter_congr fun j hj=>?_
  show(2^w*a+b).testBit (w+j)=_
  rw[Nat.testBit_two_pow_mul_add _ hb,if_neg (by lia),Nat.add_sub_cancel_left]
theorem bits_low {X low:Nat} (hX:X<2^15) (hlow:low≤17):(List.range 32).filter (fun j=>(X*2^low).testBit j)=((List.range 15).filter fun j=>X.testBit j).map (low + ·):=by
 have e:(32:Nat)=low+(15+(17-low)):=by exact by rw[← Nat.add_assoc,Nat.add_right_comm,Nat.add_sub_of_le hlow]
 have h:=bits_two (a:=X) (b:=0) (w:=low) (n:=15+(17-low)) (Nat.two_pow_pos _)
 rw[e,show X*2^low=2^low*X+0 by rw[Nat.mul_comm,Nat.add_zero],h]
 have h1:(List.range low).filter (fun j=>Nat.testBit 0 j)=[]:=List.filter_eq_nil_iff.mpr fun j _=>by rw[Nat.zero_testBit];decide
 have h2:=bits_two (a:=0) (b:=X) (w:=15) (n:=17-low) hX
 rw[Nat.mul_zero,Nat.zero_add] at h2
 have h3:(List.range (17-low)).filter (fun j=>Nat.testBit 0 j)=[]:=List.filter_eq_nil_iff.mpr fun j _=>by rw[Nat.zero_testBit];decide
 rw[h1,h2,h3,List.map_nil,List.append_nil,List.nil_append]
theorem prt_rows (d:Dr):prtD d=((List.range 5).filter fun k=>(cntD d 1).testBit k).map (fun k=>(2*0+1)*2^k)++(((List.range 5).filter fun k=>(cntD d 3).testBit k).map (fun k=>(2*1+1)*2^k)++(((List.range 5).filter fun k=>(cntD d 5).testBit k).map (fun k=>(2*2+1)*2^k)++(((List.range 5).filter fun k=>(cntD d 7).testBit k).map (fun k=>(2*3+1)*2^k)++[]))):=rfl
theorem row_plc (i:Fin 4) (c:Nat):(((List.range 5).filter fun k=>c.testBit k).map fun k=>(2*i.val+1)*2^k).map plc=((List.range 5).filter fun k=>c.testBit k).map (([0,5,9,12]:List Nat).getD i.val 0 + ·):=by
 rw[List.map_map]
 refine List.map_congr_left fun k hk=>?_
 exact plc_form i ⟨k,List.mem_range.mp (List.mem_filter.mp hk).1⟩
theorem flg_plc (d:Dr) (h1:cntD d 1<2^5) (h3:cntD d 3<2^4) (h5:cntD d 5<2^3) (h7:cntD d 7<2^3):(List.range 15).filter (fun j=>(cntD d 1+cntD d 3*2^5+cntD d 5*2^9+cntD d 7*2^12).testBit j)=(prtD d).map plc:=by
 have e:cntD d 1+cntD d 3*2^5+cntD d 5*2^9+cntD d 7*2^12=2^5*(2^4*(2^3*cntD d 7+cntD d 5)+cntD d 3)+cntD d 1:=by lia
 rw[e,show(15:Nat)=5+(4+(3+3)) from rfl,bits_two h1,bits_two h3,bits_two h5,prt_rows]
 simp only[List.map_append,List.map_nil,List.append_nil]
 have r0:=row_plc 0 (cntD d 1)
 have r1:=row_plc 1 (cntD d 3)
 have r2:=row_plc 2 (cntD d 5)
 have r3:=row_plc 3 (cntD d 7)
 rw[range_cut (by decide) h3] at r1 ⊢
 rw[range_cut (by decide) h5] at r2 ⊢
 rw[range_cut (by decide) h7] at r3 ⊢
 rw[show((List.range 5).filter fun k=>(cntD d 1).testBit k).map (fun k=>(2*0+1)*2^k)=((List.range 5).filter fun k=>(cntD d 1).testBit k).map (fun k=>(2*(0:Fin 4).val+1)*2^k) from rfl,r0]
 rw[show((List.range 4).filter fun k=>(cntD d 3).testBit k).map (fun k=>(2*1+1)*2^k)=((List.range 4).filter fun k=>(cntD d 3).testBit k).map (fun k=>(2*(1:Fin 4).val+1)*2^k) from rfl,r1]
 rw[show((List.range 3).filter fun k=>(cntD d 5).testBit k).map (fun k=>(2*2+1)*2^k)=((List.range 3).filter fun k=>(cntD d 5).testBit k).map (fun k=>(2*(2:Fin 4).val+1)*2^k) from rfl,r2]
 rw[show((List.range 3).filter fun k=>(cntD d 7).testBit k).map (fun k=>(2*3+1)*2^k)=((List.range 3).filter fun k=>(cntD d 7).testBit k).map (fun k=>(2*(3:Fin 4).val+1)*2^k) from rfl,r3]
 rw[List.map_map,List.map_map,List.map_map]
 congr 1
 ·conv=>lhs;rw[← List.map_id ((List.range 5).filter _)]
  refine List.map_congr_left fun k _=>?_
  show k=0+k
  lia
 ·congr 1
  congr 1
  ·refine List.map_congr_left fun k _=>?_
   show 5+(4+k)=9+k
   lia
  ·refine List.map_congr_left fun k _=>?_
   show 5+(4+(3+k))=12+k
   lia
theorem word_no:∀ p:Fin 32,44 ∉ wordC p.val:=by decide +kernel
noncomputable def wk (n:Nat):Nat:=2*2^kk n-1
noncomputable def sumW (l:List Nat):Nat:=(l.map wk).sum
theorem sumW_cons (n:Nat) (l:List Nat):sumW (n::l)=wk n+sumW l:=by unfold sumW;rw[List.map_cons,List.sum_cons]
theorem sumW_app (l m:List Nat):sumW (l++m)=sumW l+sumW m:=by unfold sumW;rw[List.map_append,List.sum_append]
theorem half_sz:∀ n∈sizesV,(n%2=0→n/2∈sizesV∧wk n=1+2*wk (n/2)∧∀ o∈odds,un o n=2*un o (n/2))∧(¬ n%2=0→wk n=1∧n∈odds∧∀ o∈odds,un o n=if n=o then 1 else 0):=by decide
theorem wk_un:∀ n∈sizesV,wk n≤2*(un 1 n+un 3 n+un 5 n+un 7 n)∧1≤wk n:=by decide
theorem four_un:∀ n∈([1,2,3,4,5,6,7]:List Nat),un 1 n+un 3 n+un 5 n+un 7 n≤4:=by decide
theorem sumW_un:∀ {l:List Nat},(∀ n∈l,n∈sizesV)→sumW l≤2*(sumU 1 l+sumU 3 l+sumU 5 l+sumU 7 l)
 |[],_=>Nat.zero_le _
 |n::l,h=>by
  have h1:=sumW_un (l:=l) fun m hm=>h m (List.mem_cons_of_mem _ hm)
  have h2:=(wk_un n (h n (List.mem_cons_self ..))).1
  rw[sumW_cons,sumU_cons,sumU_cons,sumU_cons,sumU_cons];lia
theorem sumU_four:∀ {l:List Nat},(∀ n∈l,1≤n∧n≤7)→sumU 1 l+sumU 3 l+sumU 5 l+sumU 7 l≤4*l.length
 |[],_=>Nat.zero_le _
 |n::l,h=>by
  have h1:=sumU_four (l:=l) fun m hm=>h m (List.mem_cons_of_mem _ hm)
  have h2:=four_un n (small_mem (h n (List.mem_cons_self ..)))
  rw[List.length_cons,sumU_cons,sumU_cons,sumU_cons,sumU_cons];lia
theorem pit_inv {ps:List Nat}{w:Nat} (hps:∀ n∈ps,n∈sizesV) (hw:sumW ps≤w):∀ i,(∀ n∈(pit ⟨ps,[]⟩ i).q,n∈sizesV)∧(∀ n∈(pit ⟨ps,[]⟩ i).odd,n∈odds)∧sumW (pit ⟨ps,[]⟩ i).q≤w-i∧∀ o∈odds,(pit ⟨ps,[]⟩ i).odd.count o+sumU o (pit ⟨ps,[]⟩ i).q=sumU o ps
 |0=>⟨hps,(fun n hn=>by cases hn),hw,fun o _=>Nat.zero_add _⟩
 |i+1=>by
  refine e0_4 (pit_inv hps hw i) ?_;intro h1 h2 h3 h4
  show(∀ n∈(pstep (pit ⟨ps,[]⟩ i)).q,n∈sizesV)∧(∀ n∈(pstep (pit ⟨ps,[]⟩ i)).odd,n∈odds)∧sumW (pstep (pit ⟨ps,[]⟩ i)).q≤w-(i+1)∧∀ o∈odds,(pstep (pit ⟨ps,[]⟩ i)).odd.count o+sumU o (pstep (pit ⟨ps,[]⟩ i)).q=sumU o ps
  unfold pstep
  cases hq:(pit ⟨ps,[]⟩ i).q with
  |nil =>
   rw[hq] at h4
   refine⟨?_,h2,?_,?_⟩
   ·rw[hq];intro n hn;cases hn
   ·rw[hq];exact Nat.zero_le _
   ·rw[hq];exact h4
  |cons n q =>
   rw[hq] at h1 h3 h4
   refine e0_2 (half_sz n (h1 n (List.mem_cons_self ..))) ?_;intro k1 k2
   have hwn:=(wk_un n (h1 n (List.mem_cons_self ..))).2
   rw[sumW_cons] at h3
   dsimp only
   split
   ·rename_i hev
    refine e0_3 (k1 hev) ?_;intro a1 a2 a3
    refine⟨fun m hm=>?_,h2,?_,fun o ho=>?_⟩
    ·rcases List.mem_append.mp hm with z |z
     ·exact h1 m (List.mem_cons_of_mem _ z)
     ·simp only[List.mem_cons,List.not_mem_nil,or_false] at z
      rcases z with rfl |rfl <;> exact a1
    ·show sumW (q++[n/2,n/2])≤_
     rw[sumW_app,sumW_cons,sumW_cons,show sumW []=0 from rfl]
     show _≤(w-i)-1
     refine Nat.le_sub_of_add_le (Nat.le_trans (Nat.le_of_eq ?_) h3)
     rw[a2,Nat.two_mul,Nat.add_comm 1,Nat.add_right_comm _ 1 (sumW q),Nat.add_comm (sumW q)];rfl
    ·have:=h4 o ho
     rw[sumU_cons,a3 o ho] at this
     show(pit ⟨ps,[]⟩ i).odd.count o+sumU o (q++[n/2,n/2])=_
     rw[sumU_app,sumU_cons,sumU_cons,show sumU o []=0 from rfl];lia
   ·rename_i hev
    refine e0_3 (k2 hev) ?_;intro a1 a2 a3
    refine⟨fun m hm=>h1 m (List.mem_cons_of_mem _ hm),fun m hm=>?_,?_,fun o ho=>?_⟩
    ·rcases List.mem_append.mp hm with z |z
     ·exact h2 m z
     ·rw[List.mem_singleton.mp z];exact a2
    ·show sumW q≤(w-i)-1
     exact Nat.le_sub_of_add_le (Nat.le_trans (Nat.le_of_eq (by rw[a1,Nat.add_comm])) h3)
    ·have:=h4 o ho
     rw[sumU_cons,a3 o ho] at this
     show((pit ⟨ps,[]⟩ i).odd++[n]).count o+sumU o q=_
     rw[List.count_append,List.count_cons,List.count_nil]
     by_cases e:n=o
     ·subst e
      rw[if_pos rfl] at this
      simp;lia
     ·rw[if_neg e] at this
      simp[e];lia
theorem ones_count (d:Dr) (a:Nat):(onesD d).count a=(if a=1 then cntD d 1 else 0)+(if a=3 then cntD d 3 else 0)+(if a=5 then cntD d 5 else 0)+(if a=7 then cntD d 7 else 0):=by
 have e:∀ b:Nat,((b==a)=true)=(a=b):=fun b=>by rw[beq_iff_eq];exact propext eq_comm
 unfold onesD
 rw[List.count_append,List.count_append,List.count_append,List.count_replicate,List.count_replicate,List.count_replicate,List.count_replicate]
 simp only[e]
theorem lastL_eq {came prt S:List Nat} (hp:S.Perm prt) (hn:prt.Nodup):(lastL came prt).map (fun e=>(e.2,decide (e.1%2=0)))=lastS came S:=by
 have key:∀ (c:Nat) (b:Bool) (l:List Nat),l.Nodup→l.filter (fun p=>decide (p=c) && !((fun p:Nat=>if p=c then !b else false) p))=if l.contains c&&b then [c] else []:=fun c b l hl=>by
  induction l with
  |nil=>rfl
  |cons x l ih =>
   refine e0_2 (List.nodup_cons.mp hl) ?_;intro h1 h2
   rw[List.filter_cons,ih h2,List.contains_cons]
   by_cases q:x=c
   ·subst q
    have hx:l.contains x=false:=by rw[Bool.eq_false_iff,ne_eq,List.contains_iff_mem];exact h1
    rw[hx]
    cases b <;> simp
   ·rw[show(c==x)=false by simpa using fun z:c=x=>q z.symm]
    simp[q]
 unfold lastL lastS
 rw[List.map_flatMap]
 refine flatMap_eq fun i _=>?_
 generalize came.getD i 0=c
 have e1:prt.filter (fun p=>decide (p=c) && !(came.drop (i+1)).contains p)=if S.contains c && !(came.drop (i+1)).contains c then [c] else []:=by
  rw[show S.contains c=prt.contains c by rw[Bool.eq_iff_iff,List.contains_iff_mem,List.contains_iff_mem];exact hp.mem_iff]
  rw[← key c _ prt hn]
  refine List.filter_congr fun p _=>?_
  by_cases q:p=c
  ·subst q;simp
  ·simp[q]
 rw[e1]
 split <;> rfl
section
variable {f:Int→Option (List Nat)}{g:Int→Bool}
theorem facts_of (H:FG f g){d:Dr} (hd:DrOK d):∃ rs,Facts2 f g d rs:=by
 have hs:∀ n∈szs d,1≤n∧n≤7:=szs_le
 have hl:=szs_len hd
 have hJ:=jv_it hl hs
 have hcnt:∀ o∈odds,sumU o (szs d)=cntD d o:=fun o ho=>(cnt_un ho hs).symm
 have hcap:∀ o∈odds,cntD d o≤capO o:=fun o ho=>by have:=sum_cap ho hs;rw[hl,hcnt o ho] at this;lia
 have hend:(jD d 11).q=[]:=by
  cases hq:(jD d 11).q with
  |nil=>rfl
  |cons n q =>
   have h1:=jit_came (l:=szs d) 11 (by show(jD d 11).q≠[];rw[hq];simp)
   have h2:=(hJ 11).phi
   have h3:(jit ⟨szs d,[],[]⟩ 11).q=n::q:=hq
   rw[h1,h3,List.length_cons] at h2
   lia
 have hE:=hJ 11
 have hS:∀ n∈(jD d 11).sh.map (·.1),n∈sizesV:=fun n hn=>by
  refine e1_2 (List.mem_map.mp hn) ?_;intro e he zz1;subst zz1
  exact hE.sh e he
 have hun:∀ o∈odds,sumU o ((jD d 11).sh.map (·.1))=cntD d o:=fun o ho=>by
  have:=hE.uns o ho
  rw[hcnt o ho] at this
  have hq:(jit ⟨szs d,[],[]⟩ 11).q=[]:=hend
  rw[hq,show sumU o []=0 from rfl,Nat.zero_add] at this
  exact this
 have hpm:=prt_perm hE.nd hS hun
 have hprt:∀ p∈prtD d,p∈sizesV:=fun p hp=>hS p (hpm.mem_iff.mpr hp)
 have hunp:∀ o∈odds,sumU o (prtD d)=cntD d o:=fun o ho=>by rw[← sumU_perm hpm];exact hun o ho
 have c1:=hcap 1 (by decide)
 have c3:=hcap 3 (by decide)
 have c5:=hcap 5 (by decide)
 have c7:=hcap 7 (by decide)
 rw[show capO 1=24 from rfl] at c1
 rw[show capO 3=12 from rfl] at c3
 rw[show capO 5=6 from rfl] at c5
 rw[show capO 7=6 from rfl] at c7
 have hlow:lowD d≤17:=by unfold lowD;lia
 have hX:cntD d 1+cntD d 3*2^5+cntD d 5*2^9+cntD d 7*2^12<2^15:=by lia
 have hfl:flagsL (flgD d)=(prtD d).map (wN (lowD d)):=by
  unfold flagsL flgD
  rw[bits_low hX hlow,flg_plc d (by lia) (by lia) (by lia) (by lia),List.map_map,List.map_map]
  rfl
 have hW:sumW (prtD d)≤48:=by
  have h1:=sumW_un hprt
  rw[hunp 1 (by decide),hunp 3 (by decide),hunp 5 (by decide),hunp 7 (by decide)] at h1
  have h2:=sumU_four hs
  rw[hcnt 1 (by decide),hcnt 3 (by decide),hcnt 5 (by decide),hcnt 7 (by decide),hl] at h2
  exact Nat.le_trans (Nat.le_trans h1 (Nat.mul_le_mul_left _ (Nat.le_trans h2 (Nat.mul_le_mul_left _ (Nat.le_refl _))))) (by decide)
 refine e0_4 (pit_inv hprt hW 48) ?_;intro p1 p2 p3 p4
 have hpq:(pit ⟨prtD d,[]⟩ 48).q=[]:=by
  cases hq:(pit ⟨prtD d,[]⟩ 48).q with
  |nil=>rfl
  |cons n q =>
   rw[hq] at p1 p3
   have:=(wk_un n (p1 n (List.mem_cons_self ..))).2
   rw[sumW_cons] at p3
   lia
 have hne:prtD d≠[]:=fun z=>by
  have h1:∀ o∈odds,cntD d o=0:=fun o ho=>by rw[← hunp o ho,z];rfl
  match hsz:szs d,hl with
  |n::r,_ =>
   have h2:∀ n∈([1,2,3,4,5,6,7]:List Nat),∃ o∈odds,0<un o n:=by decide
   refine e1_2 (h2 n (small_mem (hs n (by rw[hsz];exact List.mem_cons_self ..)))) ?_;intro o ho h3
   have h4:=h1 o ho
   rw[← hcnt o ho,hsz,sumU_cons] at h4
   lia
 have hflne:flagsL (flgD d)≠[]:=by rw[hfl];intro z;exact hne (List.map_eq_nil_iff.mp z)
 exact⟨restD d,{
  r0:=restD_0 d
  r7:=rfl
  lex:=restD_lex d fun k hk=>(typD_ok H hd hk).2.2.2.2.2
  prep:=fun k hk=>⟨(typD_ok H hd (by exact cA hk (by decide))).1,(typD_ok H hd (by exact cA hk (by decide))).2.1⟩
  small:=fun k hk=>(typD_ok H hd hk).2.2.1
  smallS:=fun k hk=>⟨(typD_ok H hd (by exact cA hk (by decide))).2.2.2.1,(typD_ok H hd (by exact cA hk (by decide))).2.2.2.2.1⟩
  join:=fun i hi=>by
   have h:=hJ i
   have h1:=h.phi
   have h2:=h.tot
   refine⟨h.q,by show(jit ⟨szs d,[],[]⟩ i).q.length≤6;lia,h.sh,by show(jit ⟨szs d,[],[]⟩ i).sh.length≤6;lia,?_,fun hq=>?_⟩
   ·show(jit ⟨szs d,[],[]⟩ i).came.length≤11
    have h3:∀ i,i≤11→(jit ⟨szs d,[],[]⟩ i).came.length≤i:=fun i=>by
     induction i with
     |zero=>intro _;exact Nat.le_refl _
     |succ i ih =>
      intro hi
      have:=ih (by exact Nat.le_of_lt (lekS hi))
      show(jstep (jit ⟨szs d,[],[]⟩ i)).came.length≤_
      unfold jstep
      split
      ·exact Nat.le_of_lt (cC this (Nat.lt_add_of_pos_right (by decide)))
      ·split
       ·show(_++[_]).length≤_;rw[List.length_append,List.length_singleton];lia
       ·show(_++[_]).length≤_;rw[List.length_append,List.length_singleton];lia
    exact Nat.le_trans (h3 i hi) hi
   ·show(jit ⟨szs d,[],[]⟩ i).came.length≤10
    have h4:0<(jit ⟨szs d,[],[]⟩ i).q.length:=List.length_pos_iff.mpr hq
    lia
  jend:=hend
  came6:=by
   refine e1_1 (hE.pre) ?_;intro r hr
   have hq:(jit ⟨szs d,[],[]⟩ 11).q=[]:=hend
   rw[hq,List.append_nil] at hr
   show(jit ⟨szs d,[],[]⟩ 11).came.take 6=_
   rw[hr,← hl,List.take_left]
  cle:=fun o=>by
   have h1:∀ l:List Nat,(∀ n∈l,n≤7)→cntL l o≤7*l.length:=fun l hl=>by
    unfold cntL
    rw[sum_filter]
    induction l with
    |nil=>exact Nat.zero_le _
    |cons n l ih =>
     have h2:=ih fun m hm=>hl m (List.mem_cons_of_mem _ hm)
     have h3:n/o≤7:=Nat.le_trans (Nat.div_le_self _ _) (hl n (List.mem_cons_self ..))
     rw[List.map_cons,List.sum_cons,List.length_cons]
     split <;> lia
   have:=h1 (szs d) fun n hn=>(hs n hn).2
   rw[hl] at this
   exact this
  fl0:=fun z=>hflne (by rw[z];decide)
  fl1:=by
   unfold flgD
   refine Nat.lt_of_lt_of_le (Nat.mul_lt_mul_of_pos_right hX (Nat.two_pow_pos _)) ?_
   rw[← Nat.pow_add]
   exact Nat.pow_le_pow_right (by decide) (by exact Nat.le_trans (Nat.add_le_add (Nat.le_refl _) hlow) (by decide))
  flS:=split_jn hflne fun w hw=>by
   unfold flagsL at hw
   refine e1_2 (List.mem_map.mp hw) ?_;intro i hi zz1;subst zz1
   exact word_no ⟨i,List.mem_range.mp (List.mem_filter.mp hi).1⟩
  flN:=hfl
  keys:=by
   rw[lastL_eq hpm (prtD_nd d)]
   exact hE.ord
  nd:=prtD_nd d
  pm:=hpm
  pq:=hpq
  po:=by
   refine List.perm_iff_count.mpr fun a=>?_
   rw[ones_count]
   by_cases ha:a∈odds
   ·have h1:=p4 a ha
    rw[hpq,show sumU a []=0 from rfl,Nat.add_zero,hunp a ha] at h1
    rw[h1]
    simp only[odds,List.mem_cons,List.not_mem_nil,or_false] at ha
    rcases ha with rfl |rfl |rfl |rfl <;> simp
   ·have h1:(pit ⟨prtD d,[]⟩ 48).odd.count a=0:=List.count_eq_zero.mpr fun z=>ha (p2 a z)
    rw[h1]
    simp only[odds,List.mem_cons,List.not_mem_nil,or_false,not_or] at ha
    rw[if_neg ha.1,if_neg ha.2.1,if_neg ha.2.2.1,if_neg ha.2.2.2] }⟩
end
noncomputable abbrev BRes (α:Type):=Except Value α×Pos×Shared
noncomputable def bigAgain (run:Ctx→Sem Fin→Pos→Shared→Option (BRes Fin)) (den:Code→Sem Fin):Nat→Ctx→Pos→Shared→Option (Result×Shared)
 |0,_,_,_=>none
 |n+1,Γ,p,s=>match run Γ (den Γ.code) p s with
  |none=>none
  |some (r,p',s')=>match r with
   | .error e=>some (.error e,s')
   | .ok (.done f)=>some (.ok f,s')
   | .ok (.again c)=>match c.quiet with
    |true=>bigAgain run den n (Γ.goto c) p' s'
    |false=>none
noncomputable def big (den:Code→Sem Fin) (prog:Program) (w:World):Nat→∀ (α:Type),Ctx→Sem α→Pos→Shared→Option (BRes α)
 |0,_,_,_,_,_=>none
 |n+1,α,Γ,x,p,s=>match x with
  | .pure a=>some (.ok a,p,s)
  | .raise e=>some (.error e,p,s)
  | .rule _ k=>big den prog w n α Γ (k ()) p s
  | .at p' k=>big den prog w n α Γ (k ()) p' s
  | .load a _ k=>match s.heap.get? a with
   |some o=>big den prog w n α Γ (k o) p s
   |none=>none
  | .update a _ f k=>match (s.heap.get? a).isSome with
   |true=>big den prog w n α Γ (k ()) p { s with heap:=s.heap.update a f }
   |false=>none
  | .loadIfAlive a k=>big den prog w n α Γ (k (s.heap.get? a)) p s
  | .point _ k=>big den prog w n α Γ (k ()) p s
  | .alloc o k=>big den prog w n α Γ (k s.heap.objs.size) p { s with heap:=s.heap.push o }
  | .fresh k=>big den prog w n α Γ (k s.toks) p { s with toks:=s.toks+1 }
  | .ask k=>big den prog w n α Γ (k ⟨prog,w.params⟩) p s
  | .call c h _ _ k=>match bigAgain (big den prog w n Fin) den n (Γ.enter c h p) p s with
   |none=>none
   |some (r,s')=>big den prog w n α Γ (k r) p s'
  | .handled own k=>big den prog w n α Γ (k (match own with |true=>Γ.own |false=>Γ.handled)) p s
  | .stack k=>big den prog w n α Γ (k ((Γ.code,p)::Γ.below)) p s
  | .thread k=>big den prog w n α Γ (k 0) p s
  |_=>none
def BPost {α:Type} (Q:α→Pos→Shared→Prop) (E:Value→Pos→Shared→Prop):BRes α→Prop
 |(.ok a,p,s)=>Q a p s
 |(.error e,p,s)=>E e p s
theorem big_sound {den:Code→Sem Fin}{prog:Program}{w:World}:∀ (n:Nat) (α:Type) (Γ:Ctx) (x:Sem α) (p:Pos) (s:Shared) (r:BRes α),big den prog w n α Γ x p s=some r →
  ∀ (Q:α→Pos→Shared→Prop) (E:Value→Pos→Shared→Prop),BPost Q E r→Sem.wp ⟨den,prog,w⟩ Γ x Q E p s
 |0,_,_,_,_,_,_,h=>by cases h
 |n+1,α,Γ,x,p,s,r,h=>by
  intro Q E q
  have IH:=big_sound (den:=den) (prog:=prog) (w:=w) n
  have IA:∀ (m:Nat) (Γ:Ctx) (p:Pos) (s:Shared) (r:Result) (s':Shared),bigAgain (big den prog w n Fin) den m Γ p s=some (r,s')→∀ R:Result→Shared→Prop,R r s'→Runs ⟨den,prog,w⟩ Γ p (den Γ.code) [] s (.ret r) s':=by
   intro m
   induction m with
   |zero=>intro Γ p s r s' h;cases h
   |succ m ihm =>
    intro Γ p s r s' h R hR
    rw[bigAgain] at h
    cases h1:big den prog w n Fin Γ (den Γ.code) p s with
    |none=>rw[h1] at h;cases h
    |some x =>
     obtain ⟨rr,p',s₁⟩:=x
     rw[h1] at h
     have key:=IH Fin Γ (den Γ.code) p s (rr,p',s₁) h1 (Sem.finPost ⟨den,prog,w⟩ Γ fun r' s''=>r'=r∧s''=s') fun e _ s''=>Except.error e=r∧s''=s'
     have fin:Sem.wp ⟨den,prog,w⟩ Γ (den Γ.code) (Sem.finPost ⟨den,prog,w⟩ Γ fun r' s''=>r'=r∧s''=s') (fun e _ s''=>Except.error e=r∧s''=s') p s:=by
      refine key ?_
      cases rr with
      |error e=>refine e0_2 (by simpa using h:Except.error e=r∧s₁=s') ?_;intro zz1 zz2;subst zz1;subst zz2;exact⟨rfl,rfl⟩
      |ok f =>
       cases f with
       |done f=>refine e0_2 (by simpa using h:Except.ok f=r∧s₁=s') ?_;intro zz1 zz2;subst zz1;subst zz2;exact⟨rfl,rfl⟩
       |again c =>
        dsimp only at h
        cases hq:c.quiet with
        |false=>rw[hq] at h;cases h
        |true =>
         rw[hq] at h
         exact⟨hq,r,s',ihm (Γ.goto c) p' s₁ r s' h (fun _ _=>True) trivial,rfl,rfl⟩
     refine e2_3 ((Sem.wp_iff_runs _ _ _ _ _ _).mp fin) ?_;intro r' s'' hr zz1 zz2;subst zz1;subst zz2
     exact hr
  cases x with
  |pure a=>obtain rfl:=Option.some.inj h;exact q
  |raise e=>obtain rfl:=Option.some.inj h;exact q
  |rule tag k=>rw[Sem.wp_rule];exact IH _ _ _ _ _ _ h Q E q
  | «at» p' k=>rw[Sem.wp_at];exact IH _ _ _ _ _ _ h Q E q
  |load a part k =>
   rw[Sem.wp_load]
   change (match s.heap.get? a with
    |some o=>big den prog w n α Γ (k o) p s
    |none=>none)=some r at h
   cases e:s.heap.get? a with
   |none=>rw[e] at h;cases h
   |some o=>rw[e] at h;exact⟨o,rfl,IH _ _ _ _ _ _ h Q E q⟩
  |update a part f k =>
   rw[Sem.wp_update]
   change (match (s.heap.get? a).isSome with
    |true=>big den prog w n α Γ (k ()) p { s with heap:=s.heap.update a f }
    |false=>none)=some r at h
   cases e:(s.heap.get? a).isSome with
   |false=>rw[e] at h;cases h
   |true=>rw[e] at h;exact⟨rfl,IH _ _ _ _ _ _ h Q E q⟩
  |loadIfAlive a k=>rw[Sem.wp_loadIfAlive];exact IH _ _ _ _ _ _ h Q E q
  |point l k=>rw[Sem.wp_point];exact IH _ _ _ _ _ _ h Q E q
  |alloc o k=>rw[Sem.wp_alloc];exact IH _ _ _ _ _ _ h Q E q
  |fresh k=>rw[Sem.wp_fresh];exact IH _ _ _ _ _ _ h Q E q
  |ask k=>rw[Sem.wp_ask];exact IH _ _ _ _ _ _ h Q E q
  |call c hd g l k =>
   rw[Sem.wp_call]
   change (match bigAgain (big den prog w n Fin) den n (Γ.enter c hd p) p s with
    |none=>none
    |some (r,s')=>big den prog w n α Γ (k r) p s')=some r at h
   cases e:bigAgain (big den prog w n Fin) den n (Γ.enter c hd p) p s with
   |none=>rw[e] at h;cases h
   |some x =>
    obtain ⟨r',s'⟩:=x
    rw[e] at h
    exact⟨r',s',IA _ _ _ _ _ _ e (fun _ _=>True) trivial,IH _ _ _ _ _ _ h Q E q⟩
  |handled own k=>rw[Sem.wp_handled];cases own <;> exact IH _ _ _ _ _ _ h Q E q
  |stack k=>rw[Sem.wp_stack];exact IH _ _ _ _ _ _ h Q E q
  |thread k=>rw[Sem.wp_thread];exact IH _ _ _ _ _ _ h Q E q
  |_=>exact absurd h (fun z=>nomatch z)
namespace Hp
noncomputable section
noncomputable def wS (l:Array Nat):Str:=⟨l⟩
noncomputable def tyO (t:String) (l:Array Value):Obj:=⟨.type t,none,.fields l,#[]⟩
noncomputable def tpO (l:Array Value) (n:Nat):Obj:=⟨.type "tuple",none,.seq l n,#[]⟩
noncomputable def cdO (l:Array Value):Obj:=⟨.type "code",none,.fields l,#[]⟩
noncomputable def nfO (l:Array Value):Obj:=⟨.none,none,.fields l,#[]⟩
noncomputable def fnO (f:FuncData):Obj:=⟨.type "function",none,.func f,#[]⟩
noncomputable def nuO (f:FuncData):Obj:=⟨.none,none,.func f,#[]⟩
noncomputable def dcO (l:Array DictEntry) (n:Nat):Obj:=⟨.type "dict",none,.dict l n,#[]⟩
noncomputable def kx (P:Params) (s:Str) (n:Nat) (v:Value):DictEntry:=⟨PyData.keyHash P s,.str s n,v⟩
def w0:Str:=wS #[47,99,108,97,105,109,47,99,117,116,46,112,121]
def w1:Str:=wS #[99,112,121,51,49,51,46,119,115,103,105,114,101,102,46,104,101,97,100,101,114,115]
def w2:Str:=wS #[95,102,111,114,109,97,116,112,97,114,97,109]
def w3:Str:=wS #[95,118,97,108,117,101,95,100,105,115,97,108,108,111,119,101,100,95,114,101]
def w4:Str:=wS #[95,110,97,109,101,95,100,105,115,97,108,108,111,119,101,100,95,114,101]
def w5:Str:=wS #[112,114,101,116,116,121,95,102,108,97,103,115]
def w6:Str:=wS #[95,95,97,110,110,111,116,97,116,105,111,110,115,95,95]
def w7:Str:=wS #[108,97,119,95,117,99,48,48,53,54,95,48,50]
def w8:Str:=wS #[95,95,112,97,99,107,97,103,101,95,95]
def w9:Str:=wS #[95,95,108,111,97,100,101,114,95,95]
def w10:Str:=wS #[95,110,101,116,114,99,108,101,120]
def w11:Str:=wS #[95,95,115,116,97,116,105,99,95,97,116,116,114,105,98,117,116,101,115,95,95]
def w12:Str:=wS #[95,95,98,117,105,108,116,105,110,115,95,95]
def w13:Str:=wS #[95,95,100,111,99,95,95]
def w14:Str:=wS #[67,79,77,80,73,76,69,82,95,70,76,65,71,95,78,65,77,69,83]
def w15:Str:=wS #[72,101,97,100,101,114,115]
def w16:Str:=wS #[105,110,95,116,97,98,108,101,95,98,49]
def w17:Str:=wS #[95,108,97,119,95,112,114,101,112,97,114,101,100]
def w18:Str:=wS #[99,112,121,51,49,51,46,115,116,114,105,110,103,112,114,101,112]
def w19:Str:=wS #[95,99,111,110,118,101,114,116,95,115,116,114,105,110,103,95,116,121,112,101]
def w20:Str:=wS #[95,95,110,97,109,101,95,95]
def w21:Str:=wS #[95,95,115,112,101,99,95,95]
def w22:Str:=wS #[95,95,99,97,99,104,101,100,95,95]
def w23:Str:=wS #[32,83,82,69,32,50,46,50,46,50,32,67,111,112,121,114,105,103,104,116,32,40,99,41,32,49,57,57,55,45,50,48,48,50,32,98,121,32,83,101,99,114,101,116,32,76,97,98,115,32,65,66,32]
def w24:Str:=wS #[109,97,112,95,116,97,98,108,101,95,98,51]
def w25:Str:=wS #[95,95,102,105,114,115,116,108,105,110,101,110,111,95,95]
def w26:Str:=wS #[95,95,105,110,105,116,95,95]
def w27:Str:=wS #[95,95,119,101,97,107,114,101,102,95,95]
def w28:Str:=wS #[95,108,97,119,95,119,114,105,116,116,101,110]
def w29:Str:=wS #[116,115,112,101,99,105,97,108,115]
def w30:Str:=wS #[72,101,97,100,101,114,115,46,95,99,111,110,118,101,114,116,95,115,116,114,105,110,103,95,116,121,112,101]
def w31:Str:=wS #[95,108,97,119,95,108,101,120,101,114]
def w32:Str:=wS #[99,112,121,51,49,51,46,110,101,116,114,99]
def w33:Str:=wS #[95,95,102,105,108,101,95,95]
def w34:Str:=wS #[95,119,97,108,108]
def w35:Str:=wS #[95,108,97,119,95,106,111,105,110,101,100]
def w36:Str:=wS #[95,108,97,119,95,112,97,114,116,101,100]
def w37:Str:=wS #[115,101,108,102]
def w38:Str:=wS #[95,108,97,119,95,116,121,112,101,100]
def w39:Str:=wS #[95,108,97,119,95,100,114,97,119,110]
def w40:Str:=wS #[95,108,97,119,95,116,97,107,101,110]
def w41:Str:=wS #[95,108,97,119,95,110,97,109,101,115]
def w42:Str:=wS #[95,115,114,101]
def w43:Str:=wS #[95,95,100,105,99,116,95,95]
def w44:Str:=wS #[95,110,101,116,114,99,108,101,120,46,112,117,115,104,95,116,111,107,101,110]
def w45:Str:=wS #[95,95,109,111,100,117,108,101,95,95]
def w46:Str:=wS #[95,95,99,111,110,116,97,105,110,115,95,95]
def w47:Str:=wS #[95,110,101,116,114,99,108,101,120,46,95,114,101,97,100,95,99,104,97,114]
def w48:Str:=wS #[72,101,97,100,101,114,115,46,95,95,99,111,110,116,97,105,110,115,95,95]
def w49:Str:=wS #[95,110,101,116,114,99,108,101,120,46,103,101,116,95,116,111,107,101,110]
def w50:Str:=wS #[72,101,97,100,101,114,115,46,95,95,115,101,116,105,116,101,109,95,95]
def w51:Str:=wS #[72,101,97,100,101,114,115,46,95,95,100,101,108,105,116,101,109,95,95]
def w52:Str:=wS #[72,101,97,100,101,114,115,46,95,95,103,101,116,105,116,101,109,95,95]
def w53:Str:=wS #[95,95,115,101,116,105,116,101,109,95,95]
def w54:Str:=wS #[95,95,100,101,108,105,116,101,109,95,95]
def w55:Str:=wS #[95,95,103,101,116,105,116,101,109,95,95]
def w56:Str:=wS #[72,101,97,100,101,114,115,46,115,101,116,100,101,102,97,117,108,116]
def w57:Str:=wS #[72,101,97,100,101,114,115,46,97,100,100,95,104,101,97,100,101,114]
def w58:Str:=wS #[115,101,116,100,101,102,97,117,108,116]
def w59:Str:=wS #[112,117,115,104,95,116,111,107,101,110]
def w60:Str:=wS #[95,110,101,116,114,99,108,101,120,46,95,95,105,110,105,116,95,95]
def w61:Str:=wS #[115,117,98,109,111,100,117,108,101,95,115,101,97,114,99,104,95,108,111,99,97,116,105,111,110,115]
def w62:Str:=wS #[97,100,100,95,104,101,97,100,101,114]
def w63:Str:=wS #[95,117,110,105,110,105,116,105,97,108,105,122,101,100,95,115,117,98,109,111,100,117,108,101,115]
def w64:Str:=wS #[72,101,97,100,101,114,115,46,95,95,98,121,116,101,115,95,95]
def w65:Str:=wS #[95,114,101,97,100,95,99,104,97,114]
def w66:Str:=wS #[103,101,116,95,116,111,107,101,110]
def w67:Str:=wS #[95,95,114,101,112,114,95,95]
def w68:Str:=wS #[72,101,97,100,101,114,115,46,95,95,105,110,105,116,95,95]
def w69:Str:=wS #[72,101,97,100,101,114,115,46,95,95,114,101,112,114,95,95]
def w70:Str:=wS #[72,101,97,100,101,114,115,46,103,101,116,95,97,108,108]
def w71:Str:=wS #[95,95,98,121,116,101,115,95,95]
def w72:Str:=wS #[72,101,97,100,101,114,115,46,95,95,108,101,110,95,95]
def w73:Str:=wS #[72,101,97,100,101,114,115,46,95,95,115,116,114,95,95]
def w74:Str:=wS #[72,101,97,100,101,114,115,46,118,97,108,117,101,115]
def w75:Str:=wS #[72,101,97,100,101,114,115,46,105,116,101,109,115]
def w76:Str:=wS #[98,51,95,101,120,99,101,112,116,105,111,110,115]
def w77:Str:=wS #[95,95,109,97,105,110,95,95]
def w78:Str:=wS #[103,101,116,95,97,108,108]
def w79:Str:=wS #[72,101,97,100,101,114,115,46,107,101,121,115]
def w80:Str:=wS #[110,97,109,101]
def w81:Str:=wS #[95,102,114,111,122,101,110,95,105,109,112,111,114,116,108,105,98]
def w82:Str:=wS #[95,95,108,101,110,95,95]
def w83:Str:=wS #[95,95,115,116,114,95,95]
def w84:Str:=wS #[72,101,97,100,101,114,115,46,103,101,116]
def w85:Str:=wS #[60,109,111,100,117,108,101,62]
def w86:Str:=wS #[118,97,108,117,101,115]
def w87:Str:=wS #[117,110,105,99,111,100,101,95,116,111,108,111,119,101,114]
def w88:Str:=wS #[66,117,105,108,116,105,110,73,109,112,111,114,116,101,114]
def w89:Str:=wS #[98,49,95,115,101,116]
def w90:Str:=wS #[117,110,105,99,111,100,101,95,105,115,99,97,115,101,100]
def w91:Str:=wS #[99,112,121,51,49,51,46,100,105,115]
def w92:Str:=wS #[99,111,112,121,114,105,103,104,116]
def w93:Str:=wS #[105,116,101,109,115]
def w94:Str:=wS #[97,115,99,105,105,95,116,111,108,111,119,101,114]
def w95:Str:=wS #[95,115,101,116,95,102,105,108,101,97,116,116,114]
def w96:Str:=wS #[97,115,99,105,105,95,105,115,99,97,115,101,100]
def w97:Str:=wS #[108,111,97,100,101,114,95,115,116,97,116,101]
def w98:Str:=wS #[108,97,119]
def w99:Str:=wS #[107,101,121,115]
def w100:Str:=wS #[103,101,116,99,111,100,101,115,105,122,101]
def w101:Str:=wS #[95,95,113,117,97,108,110,97,109,101,95,95]
def w102:Str:=wS #[99,111,109,112,105,108,101]
def w103:Str:=wS #[77,111,100,117,108,101,83,112,101,99]
def w104:Str:=wS #[103,101,116]
def w105:Str:=wS #[98,117,105,108,116,105,110,115]
def w106:Str:=wS #[116,101,109,112,108,97,116,101]
def w107:Str:=wS #[98,117,105,108,116,45,105,110]
def w108:Str:=wS #[118,97,108,117,101]
def w109:Str:=wS #[77,65,88,82,69,80,69,65,84]
def w110:Str:=wS #[77,65,88,71,82,79,85,80,83]
def w111:Str:=wS #[67,79,68,69,83,73,90,69]
def w112:Str:=wS #[95,99,97,99,104,101,100]
def o0 (P:Params):Obj:=dcO #[kx P w20 1 (.str w105 160),kx P w13 2 (.builtin "builtins.__doc__:str#opaque"),kx P w8 3 (.builtin "builtins.__package__:str#opaque"),kx P w9 4 (.builtin "builtins.__loader__:shared#opaque"),kx P w21 5 (.builtin "builtins.__spec__#opaque"),kx P ⟨#[95,95,98,117,105,108,100,95,99,108,97,115,115,95,95]⟩ 6 (.builtin "__build_class__"),kx P ⟨#[95,95,105,109,112,111,114,116,95,95]⟩ 7 (.builtin "__import__"),kx P ⟨#[97,98,115]⟩ 8 (.builtin "abs"),kx P ⟨#[97,108,108]⟩ 9 (.builtin "all"),kx P ⟨#[97,110,121]⟩ 10 (.builtin "any"),kx P ⟨#[97,115,99,105,105]⟩ 11 (.builtin "ascii"),kx P ⟨#[98,105,110]⟩ 12 (.builtin "bin"),kx P ⟨#[98,114,101,97,107,112,111,105,110,116]⟩ 13 (.builtin "breakpoint"),kx P ⟨#[99,97,108,108,97,98,108,101]⟩ 14 (.builtin "callable"),kx P ⟨#[99,104,114]⟩ 15 (.builtin "chr"),kx P w102 16 (.builtin "compile"),kx P ⟨#[100,101,108,97,116,116,114]⟩ 17 (.builtin "delattr"),kx P ⟨#[100,105,114]⟩ 18 (.builtin "dir"),kx P ⟨#[100,105,118,109,111,100]⟩ 19 (.builtin "divmod"),kx P ⟨#[101,118,97,108]⟩ 20 (.builtin "eval"),kx P ⟨#[101,120,101,99]⟩ 21 (.builtin "exec"),kx P ⟨#[102,111,114,109,97,116]⟩ 22 (.builtin "format"),kx P ⟨#[103,101,116,97,116,116,114]⟩ 23 (.builtin "getattr"),kx P ⟨#[103,108,111,98,97,108,115]⟩ 24 (.builtin "globals"),kx P ⟨#[104,97,115,97,116,116,114]⟩ 25 (.builtin "hasattr"),kx P ⟨#[104,97,115,104]⟩ 26 (.builtin "hash"),kx P ⟨#[104,101,120]⟩ 27 (.builtin "hex"),kx P ⟨#[105,100]⟩ 28 (.builtin "id"),kx P ⟨#[105,110,112,117,116]⟩ 29 (.builtin "input"),kx P ⟨#[105,115,105,110,115,116,97,110,99,101]⟩ 30 (.builtin "isinstance"),kx P ⟨#[105,115,115,117,98,99,108,97,115,115]⟩ 31 (.builtin "issubclass"),kx P ⟨#[105,116,101,114]⟩ 32 (.builtin "iter"),kx P ⟨#[97,105,116,101,114]⟩ 33 (.builtin "aiter"),kx P ⟨#[108,101,110]⟩ 34 (.builtin "len"),kx P ⟨#[108,111,99,97,108,115]⟩ 35 (.builtin "locals"),kx P ⟨#[109,97,120]⟩ 36 (.builtin "max"),kx P ⟨#[109,105,110]⟩ 37 (.builtin "min"),kx P ⟨#[110,101,120,116]⟩ 38 (.builtin "next"),kx P ⟨#[97,110,101,120,116]⟩ 39 (.builtin "anext"),kx P ⟨#[111,99,116]⟩ 40 (.builtin "oct"),kx P ⟨#[111,114,100]⟩ 41 (.builtin "ord"),kx P ⟨#[112,111,119]⟩ 42 (.builtin "pow"),kx P ⟨#[112,114,105,110,116]⟩ 43 (.builtin "print"),kx P ⟨#[114,101,112,114]⟩ 44 (.builtin "repr"),kx P ⟨#[114,111,117,110,100]⟩ 45 (.builtin "round"),kx P ⟨#[115,101,116,97,116,116,114]⟩ 46 (.builtin "setattr"),kx P ⟨#[115,111,114,116,101,100]⟩ 47 (.builtin "sorted"),kx P ⟨#[115,117,109]⟩ 48 (.builtin "sum"),kx P ⟨#[118,97,114,115]⟩ 49 (.builtin "vars"),kx P ⟨#[78,111,110,101]⟩ 50 .none,kx P ⟨#[69,108,108,105,112,115,105,115]⟩ 51 .ellipsis,kx P ⟨#[78,111,116,73,109,112,108,101,109,101,110,116,101,100]⟩ 52 .notImplemented,kx P ⟨#[70,97,108,115,101]⟩ 53 (.bool false),kx P ⟨#[84,114,117,101]⟩ 54 (.bool true),kx P ⟨#[98,111,111,108]⟩ 55 (.type "bool"),kx P ⟨#[109,101,109,111,114,121,118,105,101,119]⟩ 56 (.type "memoryview"),kx P ⟨#[98,121,116,101,97,114,114,97,121]⟩ 57 (.type "bytearray"),kx P ⟨#[98,121,116,101,115]⟩ 58 (.type "bytes"),kx P ⟨#[99,108,97,115,115,109,101,116,104,111,100]⟩ 59 (.type "classmethod"),kx P ⟨#[99,111,109,112,108,101,120]⟩ 60 (.type "complex"),kx P ⟨#[100,105,99,116]⟩ 61 (.type "dict"),kx P ⟨#[101,110,117,109,101,114,97,116,101]⟩ 62 (.type "enumerate"),kx P ⟨#[102,105,108,116,101,114]⟩ 63 (.type "filter"),kx P ⟨#[102,108,111,97,116]⟩ 64 (.type "float"),kx P ⟨#[102,114,111,122,101,110,115,101,116]⟩ 65 (.type "frozenset"),kx P ⟨#[112,114,111,112,101,114,116,121]⟩ 66 (.type "property"),kx P ⟨#[105,110,116]⟩ 67 (.type "int"),kx P ⟨#[108,105,115,116]⟩ 68 (.type "list"),kx P ⟨#[109,97,112]⟩ 69 (.type "map"),kx P ⟨#[111,98,106,101,99,116]⟩ 70 (.type "object"),kx P ⟨#[114,97,110,103,101]⟩ 71 (.type "range"),kx P ⟨#[114,101,118,101,114,115,101,100]⟩ 72 (.type "reversed"),kx P ⟨#[115,101,116]⟩ 73 (.type "set"),kx P ⟨#[115,108,105,99,101]⟩ 74 (.type "slice"),kx P ⟨#[115,116,97,116,105,99,109,101,116,104,111,100]⟩ 75 (.type "staticmethod"),kx P ⟨#[115,116,114]⟩ 76 (.type "str"),kx P ⟨#[115,117,112,101,114]⟩ 77 (.type "super"),kx P ⟨#[116,117,112,108,101]⟩ 78 (.type "tuple"),kx P ⟨#[116,121,112,101]⟩ 79 (.type "type"),kx P ⟨#[122,105,112]⟩ 80 (.type "zip"),kx P ⟨#[95,95,100,101,98,117,103,95,95]⟩ 81 (.bool true),kx P ⟨#[66,97,115,101,69,120,99,101,112,116,105,111,110]⟩ 82 (.type "BaseException"),kx P ⟨#[66,97,115,101,69,120,99,101,112,116,105,111,110,71,114,111,117,112]⟩ 83 (.type "BaseExceptionGroup"),kx P ⟨#[69,120,99,101,112,116,105,111,110]⟩ 84 (.type "Exception"),kx P ⟨#[71,101,110,101,114,97,116,111,114,69,120,105,116]⟩ 85 (.type "GeneratorExit"),kx P ⟨#[75,101,121,98,111,97,114,100,73,110,116,101,114,114,117,112,116]⟩ 86 (.type "KeyboardInterrupt"),kx P ⟨#[83,121,115,116,101,109,69,120,105,116]⟩ 87 (.type "SystemExit"),kx P ⟨#[65,114,105,116,104,109,101,116,105,99,69,114,114,111,114]⟩ 88 (.type "ArithmeticError"),kx P ⟨#[65,115,115,101,114,116,105,111,110,69,114,114,111,114]⟩ 89 (.type "AssertionError"),kx P ⟨#[65,116,116,114,105,98,117,116,101,69,114,114,111,114]⟩ 90 (.type "AttributeError"),kx P ⟨#[66,117,102,102,101,114,69,114,114,111,114]⟩ 91 (.type "BufferError"),kx P ⟨#[69,79,70,69,114,114,111,114]⟩ 92 (.type "EOFError"),kx P ⟨#[73,109,112,111,114,116,69,114,114,111,114]⟩ 93 (.type "ImportError"),kx P ⟨#[76,111,111,107,117,112,69,114,114,111,114]⟩ 94 (.type "LookupError"),kx P ⟨#[77,101,109,111,114,121,69,114,114,111,114]⟩ 95 (.type "MemoryError"),kx P ⟨#[78,97,109,101,69,114,114,111,114]⟩ 96 (.type "NameError"),kx P ⟨#[79,83,69,114,114,111,114]⟩ 97 (.type "OSError"),kx P ⟨#[82,101,102,101,114,101,110,99,101,69,114,114,111,114]⟩ 98 (.type "ReferenceError"),kx P ⟨#[82,117,110,116,105,109,101,69,114,114,111,114]⟩ 99 (.type "RuntimeError"),kx P ⟨#[83,116,111,112,65,115,121,110,99,73,116,101,114,97,116,105,111,110]⟩ 100 (.type "StopAsyncIteration"),kx P ⟨#[83,116,111,112,73,116,101,114,97,116,105,111,110]⟩ 101 (.type "StopIteration"),kx P ⟨#[83,121,110,116,97,120,69,114,114,111,114]⟩ 102 (.type "SyntaxError"),kx P ⟨#[83,121,115,116,101,109,69,114,114,111,114]⟩ 103 (.type "SystemError"),kx P ⟨#[84,121,112,101,69,114,114,111,114]⟩ 104 (.type "TypeError"),kx P ⟨#[86,97,108,117,101,69,114,114,111,114]⟩ 105 (.type "ValueError"),kx P ⟨#[87,97,114,110,105,110,103]⟩ 106 (.type "Warning"),kx P ⟨#[70,108,111,97,116,105,110,103,80,111,105,110,116,69,114,114,111,114]⟩ 107 (.type "FloatingPointError"),kx P ⟨#[79,118,101,114,102,108,111,119,69,114,114,111,114]⟩ 108 (.type "OverflowError"),kx P ⟨#[90,101,114,111,68,105,118,105,115,105,111,110,69,114,114,111,114]⟩ 109 (.type "ZeroDivisionError"),kx P ⟨#[66,121,116,101,115,87,97,114,110,105,110,103]⟩ 110 (.type "BytesWarning"),kx P ⟨#[68,101,112,114,101,99,97,116,105,111,110,87,97,114,110,105,110,103]⟩ 111 (.type "DeprecationWarning"),kx P ⟨#[69,110,99,111,100,105,110,103,87,97,114,110,105,110,103]⟩ 112 (.type "EncodingWarning"),kx P ⟨#[70,117,116,117,114,101,87,97,114,110,105,110,103]⟩ 113 (.type "FutureWarning"),kx P ⟨#[73,109,112,111,114,116,87,97,114,110,105,110,103]⟩ 114 (.type "ImportWarning"),kx P ⟨#[80,101,110,100,105,110,103,68,101,112,114,101,99,97,116,105,111,110,87,97,114,110,105,110,103]⟩ 115 (.type "PendingDeprecationWarning"),kx P ⟨#[82,101,115,111,117,114,99,101,87,97,114,110,105,110,103]⟩ 116 (.type "ResourceWarning"),kx P ⟨#[82,117,110,116,105,109,101,87,97,114,110,105,110,103]⟩ 117 (.type "RuntimeWarning"),kx P ⟨#[83,121,110,116,97,120,87,97,114,110,105,110,103]⟩ 118 (.type "SyntaxWarning"),kx P ⟨#[85,110,105,99,111,100,101,87,97,114,110,105,110,103]⟩ 119 (.type "UnicodeWarning"),kx P ⟨#[85,115,101,114,87,97,114,110,105,110,103]⟩ 120 (.type "UserWarning"),kx P ⟨#[66,108,111,99,107,105,110,103,73,79,69,114,114,111,114]⟩ 121 (.type "BlockingIOError"),kx P ⟨#[67,104,105,108,100,80,114,111,99,101,115,115,69,114,114,111,114]⟩ 122 (.type "ChildProcessError"),kx P ⟨#[67,111,110,110,101,99,116,105,111,110,69,114,114,111,114]⟩ 123 (.type "ConnectionError"),kx P ⟨#[70,105,108,101,69,120,105,115,116,115,69,114,114,111,114]⟩ 124 (.type "FileExistsError"),kx P ⟨#[70,105,108,101,78,111,116,70,111,117,110,100,69,114,114,111,114]⟩ 125 (.type "FileNotFoundError"),kx P ⟨#[73,110,116,101,114,114,117,112,116,101,100,69,114,114,111,114]⟩ 126 (.type "InterruptedError"),kx P ⟨#[73,115,65,68,105,114,101,99,116,111,114,121,69,114,114,111,114]⟩ 127 (.type "IsADirectoryError"),kx P ⟨#[78,111,116,65,68,105,114,101,99,116,111,114,121,69,114,114,111,114]⟩ 128 (.type "NotADirectoryError"),kx P ⟨#[80,101,114,109,105,115,115,105,111,110,69,114,114,111,114]⟩ 129 (.type "PermissionError"),kx P ⟨#[80,114,111,99,101,115,115,76,111,111,107,117,112,69,114,114,111,114]⟩ 130 (.type "ProcessLookupError"),kx P ⟨#[84,105,109,101,111,117,116,69,114,114,111,114]⟩ 131 (.type "TimeoutError"),kx P ⟨#[73,110,100,101,110,116,97,116,105,111,110,69,114,114,111,114]⟩ 132 (.type "IndentationError"),kx P ⟨#[95,73,110,99,111,109,112,108,101,116,101,73,110,112,117,116,69,114,114,111,114]⟩ 133 (.type "_IncompleteInputError"),kx P ⟨#[73,110,100,101,120,69,114,114,111,114]⟩ 134 (.type "IndexError"),kx P ⟨#[75,101,121,69,114,114,111,114]⟩ 135 (.type "KeyError"),kx P ⟨#[77,111,100,117,108,101,78,111,116,70,111,117,110,100,69,114,114,111,114]⟩ 136 (.type "ModuleNotFoundError"),kx P ⟨#[78,111,116,73,109,112,108,101,109,101,110,116,101,100,69,114,114,111,114]⟩ 137 (.type "NotImplementedError"),kx P ⟨#[80,121,116,104,111,110,70,105,110,97,108,105,122,97,116,105,111,110,69,114,114,111,114]⟩ 138 (.type "PythonFinalizationError"),kx P ⟨#[82,101,99,117,114,115,105,111,110,69,114,114,111,114]⟩ 139 (.type "RecursionError"),kx P ⟨#[85,110,98,111,117,110,100,76,111,99,97,108,69,114,114,111,114]⟩ 140 (.type "UnboundLocalError"),kx P ⟨#[85,110,105,99,111,100,101,69,114,114,111,114]⟩ 141 (.type "UnicodeError"),kx P ⟨#[66,114,111,107,101,110,80,105,112,101,69,114,114,111,114]⟩ 142 (.type "BrokenPipeError"),kx P ⟨#[67,111,110,110,101,99,116,105,111,110,65,98,111,114,116,101,100,69,114,114,111,114]⟩ 143 (.type "ConnectionAbortedError"),kx P ⟨#[67,111,110,110,101,99,116,105,111,110,82,101,102,117,115,101,100,69,114,114,111,114]⟩ 144 (.type "ConnectionRefusedError"),kx P ⟨#[67,111,110,110,101,99,116,105,111,110,82,101,115,101,116,69,114,114,111,114]⟩ 145 (.type "ConnectionResetError"),kx P ⟨#[84,97,98,69,114,114,111,114]⟩ 146 (.type "TabError"),kx P ⟨#[85,110,105,99,111,100,101,68,101,99,111,100,101,69,114,114,111,114]⟩ 147 (.type "UnicodeDecodeError"),kx P ⟨#[85,110,105,99,111,100,101,69,110,99,111,100,101,69,114,114,111,114]⟩ 148 (.type "UnicodeEncodeError"),kx P ⟨#[85,110,105,99,111,100,101,84,114,97,110,115,108,97,116,101,69,114,114,111,114]⟩ 149 (.type "UnicodeTranslateError"),kx P ⟨#[69,120,99,101,112,116,105,111,110,71,114,111,117,112]⟩ 150 (.type "ExceptionGroup"),kx P ⟨#[69,110,118,105,114,111,110,109,101,110,116,69,114,114,111,114]⟩ 151 (.type "OSError"),kx P ⟨#[73,79,69,114,114,111,114]⟩ 152 (.type "OSError"),kx P ⟨#[111,112,101,110]⟩ 153 (.builtin "open"),kx P ⟨#[113,117,105,116]⟩ 154 (.builtin "builtins.quit#opaque"),kx P ⟨#[101,120,105,116]⟩ 155 (.builtin "builtins.exit#opaque"),kx P w92 156 (.builtin "builtins.copyright#opaque"),kx P ⟨#[99,114,101,100,105,116,115]⟩ 157 (.builtin "builtins.credits#opaque"),kx P ⟨#[108,105,99,101,110,115,101]⟩ 158 (.builtin "builtins.license#opaque"),kx P ⟨#[104,101,108,112]⟩ 159 (.builtin "builtins.help#opaque")] 159
def o1 (P:Params):Obj:=dcO #[kx P w105 162 (.ref 4),kx P w77 163 (.ref 5),kx P w42 244 (.ref 12)] 3
noncomputable def o2 (P:Params):Obj:=⟨.none,none,.dict #[kx P ⟨#[105,109,112,111,114,116,46,108,111,97,100,101,100,46,95,115,114,101]⟩ 183 (.bool true),kx P ⟨#[99,108,97,115,115,46,95,102,114,111,122,101,110,95,105,109,112,111,114,116,108,105,98,46,66,117,105,108,116,105,110,73,109,112,111,114,116,101,114]⟩ 185 (.ref 14),kx P ⟨#[119,97,116,99,104,101,100,46,105,109,112,111,114,116]⟩ 206 (.ref 18),kx P ⟨#[99,108,97,115,115,46,95,102,114,111,122,101,110,95,105,109,112,111,114,116,108,105,98,46,77,111,100,117,108,101,83,112,101,99]⟩ 216 (.ref 22),kx P ⟨#[115,121,115,46,109,111,100,117,108,101,115,46,98,111,111,107,101,100,45,101,112,111,99,104]⟩ 245 (.int 3 0),kx P ⟨#[105,109,112,111,114,116,46,108,97,116,101,114,45,108,97,105,100,46,95,115,114,101]⟩ 270 (.bool true),kx P ⟨#[119,97,116,99,104,101,100,46,108,105,98,114,97,114,121]⟩ 272 (.ref 27),kx P ⟨#[119,97,116,99,104,101,100,46,108,105,98,114,97,114,121,45,111,98,106,101,99,116,115]⟩ 0 (.str ⟨#[12]⟩ 0),kx P ⟨#[119,97,116,99,104,101,100,46,108,105,98,114,97,114,121,45,100,101,101,112,46,95,115,114,101]⟩ 273 (.str ⟨#[4,0,0,11,4,0,0,11,4,0,0,3,4,0,0,11,8,4,100,105,99,116,2]⟩ 0)] 9,#[]⟩
def o3 (P:Params):Obj:=dcO #[kx P w20 165 (.str w77 164),kx P w13 166 .none,kx P w8 167 .none,kx P w9 168 (.builtin "__main__.__loader__#opaque"),kx P w21 169 .none,kx P w6 170 (.ref 6),kx P w12 171 (.ref 4),kx P w33 173 (.str w0 172),kx P w22 174 .none,kx P w42 275 (.ref 12)] 10
noncomputable def o4:Obj:=⟨.type "module",(some 0),.plain,#[]⟩
noncomputable def o5:Obj:=⟨.type "module",(some 3),.plain,#[]⟩
def o6:Obj:=dcO #[] 0
def o7:Obj:=tpO #[] 0
def o8:Obj:=nfO #[]
def o9:Obj:=cdO #[.str w85 176,.str w85 177,.str w0 178,.int 1 0,.int 0 0,.int 0 0,.int 0 0,.int 0 0,.ref 7,.bool false,.int 175 0,.ref 8,.none,.none,.none,.none,.int 179 0,.int 1 0,.str w0 180]
noncomputable def o10:Obj:=⟨.type "frame",none,.plain,#[(some (.ref 9)),(some (.ref 3)),(some (.ref 3)),none,(some (.str w77 164)),none,(some (.ref 0))]⟩
def o11 (P:Params):Obj:=dcO #[kx P w20 247 (.str w42 246),kx P w13 248 .none,kx P w8 250 (.str ⟨#[]⟩ 249),kx P w9 251 (.ref 14),kx P w21 252 (.ref 26),kx P w102 253 (.builtin "_sre.compile"),kx P w106 254 (.builtin "_sre.template"),kx P w100 255 (.builtin "_sre.getcodesize"),kx P w96 256 (.builtin "_sre.ascii_iscased"),kx P w90 257 (.builtin "_sre.unicode_iscased"),kx P w94 258 (.builtin "_sre.ascii_tolower"),kx P w87 259 (.builtin "_sre.unicode_tolower"),kx P ⟨#[77,65,71,73,67]⟩ 261 (.int 20230612 260),kx P w111 263 (.int 4 262),kx P w109 265 (.int 4294967295 264),kx P w110 267 (.int 1073741823 266),kx P w92 269 (.str w23 268)] 17
noncomputable def o12:Obj:=⟨.type "module",(some 11),.plain,#[]⟩
def o13 (P:Params):Obj:=dcO #[kx P w45 189 (.str w81 186),kx P w25 190 (.int 971 187),kx P w13 191 (.builtin "_frozen_importlib.BuiltinImporter.__doc__:str#opaque"),kx P ⟨#[95,79,82,73,71,73,78]⟩ 192 (.str w107 188),kx P ⟨#[102,105,110,100,95,115,112,101,99]⟩ 193 (.builtin "_frozen_importlib.BuiltinImporter.find_spec#opaque"),kx P ⟨#[99,114,101,97,116,101,95,109,111,100,117,108,101]⟩ 194 (.builtin "_frozen_importlib.BuiltinImporter.create_module#opaque"),kx P ⟨#[101,120,101,99,95,109,111,100,117,108,101]⟩ 195 (.builtin "_frozen_importlib.BuiltinImporter.exec_module#opaque"),kx P ⟨#[103,101,116,95,99,111,100,101]⟩ 196 (.builtin "_frozen_importlib.BuiltinImporter.get_code#opaque"),kx P ⟨#[103,101,116,95,115,111,117,114,99,101]⟩ 197 (.builtin "_frozen_importlib.BuiltinImporter.get_source#opaque"),kx P ⟨#[105,115,95,112,97,99,107,97,103,101]⟩ 198 (.builtin "_frozen_importlib.BuiltinImporter.is_package#opaque"),kx P ⟨#[108,111,97,100,95,109,111,100,117,108,101]⟩ 199 (.builtin "_frozen_importlib.BuiltinImporter.load_module#opaque"),kx P w11 200 (.ref 15),kx P w43 202 (.ref 16),kx P w27 204 (.ref 17)] 14
noncomputable def o14:Obj:=⟨.type "type",none,.cls ⟨w88,[.type "object"],[.ref 14,.type "object"],13,w88,true,[],[],false,none,false⟩,#[]⟩
def o15:Obj:=tpO #[] 0
def o16:Obj:=tyO "getset_descriptor" #[.str w43 201,.ref 14,.builtin "function.__dict__",.builtin "function.__dict__#set"]
def o17:Obj:=tyO "getset_descriptor" #[.str w27 203,.ref 14,.builtin "ExceptionGroup.__weakref__",.none]
noncomputable def o18:Obj:=⟨.none,none,.seq #[.int 13 0,.str ⟨#[6,189,10,95,95,109,111,100,117,108,101,95,95,6,186,17,95,102,114,111,122,101,110,95,105,109,112,111,114,116,108,105,98,6,190,15,95,95,102,105,114,115,116,108,105,110,101,110,111,95,95,4,187,0,971,6,191,7,95,95,100,111,99,95,95,9,52,95,102,114,111,122,101,110,95,105,109,112,111,114,116,108,105,98,46,66,117,105,108,116,105,110,73,109,112,111,114,116,101,114,46,95,95,100,111,99,95,95,58,115,116,114,35,111,112,97,113,117,101,6,192,7,95,79,82,73,71,73,78,6,188,8,98,117,105,108,116,45,105,110,6,193,9,102,105,110,100,95,115,112,101,99,9,50,95,102,114,111,122,101,110,95,105,109,112,111,114,116,108,105,98,46,66,117,105,108,116,105,110,73,109,112,111,114,116,101,114,46,102,105,110,100,95,115,112,101,99,35,111,112,97,113,117,101,6,194,13,99,114,101,97,116,101,95,109,111,100,117,108,101,9,54,95,102,114,111,122,101,110,95,105,109,112,111,114,116,108,105,98,46,66,117,105,108,116,105,110,73,109,112,111,114,116,101,114,46,99,114,101,97,116,101,95,109,111,100,117,108,101,35,111,112,97,113,117,101,6,195,11,101,120,101,99,95,109,111,100,117,108,101,9,52,95,102,114,111,122,101,110,95,105,109,112,111,114,116,108,105,98,46,66,117,105,108,116,105,110,73,109,112,111,114,116,101,114,46,101,120,101,99,95,109,111,100,117,108,101,35,111,112,97,113,117,101,6,196,8,103,101,116,95,99,111,100,101,9,49,95,102,114,111,122,101,110,95,105,109,112,111,114,116,108,105,98,46,66,117,105,108,116,105,110,73,109,112,111,114,116,101,114,46,103,101,116,95,99,111,100,101,35,111,112,97,113,117,101,6,197,10,103,101,116,95,115,111,117,114,99,101,9,51,95,102,114,111,122,101,110,95,105,109,112,111,114,116,108,105,98,46,66,117,105,108,116,105,110,73,109,112,111,114,116,101,114,46,103,101,116,95,115,111,117,114,99,101,35,111,112,97,113,117,101,6,198,10,105,115,95,112,97,99,107,97,103,101,9,51,95,102,114,111,122,101,110,95,105,109,112,111,114,116,108,105,98,46,66,117,105,108,116,105,110,73,109,112,111,114,116,101,114,46,105,115,95,112,97,99,107,97,103,101,35,111,112,97,113,117,101,6,199,11,108,111,97,100,95,109,111,100,117,108,101,9,52,95,102,114,111,122,101,110,95,105,109,112,111,114,116,108,105,98,46,66,117,105,108,116,105,110,73,109,112,111,114,116,101,114,46,108,111,97,100,95,109,111,100,117,108,101,35,111,112,97,113,117,101,6,200,21,95,95,115,116,97,116,105,99,95,97,116,116,114,105,98,117,116,101,115,95,95,4,0,0,15,6,202,8,95,95,100,105,99,116,95,95,4,0,0,16,6,204,11,95,95,119,101,97,107,114,101,102,95,95,4,0,0,17]⟩ 0,.bool true,.bool true,.str ⟨#[]⟩ 205,.int 21 0,.str ⟨#[6,227,10,95,95,109,111,100,117,108,101,95,95,6,217,17,95,102,114,111,122,101,110,95,105,109,112,111,114,116,108,105,98,6,228,15,95,95,102,105,114,115,116,108,105,110,101,110,111,95,95,4,218,0,562,6,229,7,95,95,100,111,99,95,95,9,47,95,102,114,111,122,101,110,95,105,109,112,111,114,116,108,105,98,46,77,111,100,117,108,101,83,112,101,99,46,95,95,100,111,99,95,95,58,115,116,114,35,111,112,97,113,117,101,6,230,8,95,95,105,110,105,116,95,95,9,44,95,102,114,111,122,101,110,95,105,109,112,111,114,116,108,105,98,46,77,111,100,117,108,101,83,112,101,99,46,95,95,105,110,105,116,95,95,35,111,112,97,113,117,101,6,231,8,95,95,114,101,112,114,95,95,9,44,95,102,114,111,122,101,110,95,105,109,112,111,114,116,108,105,98,46,77,111,100,117,108,101,83,112,101,99,46,95,95,114,101,112,114,95,95,35,111,112,97,113,117,101,6,232,6,95,95,101,113,95,95,9,42,95,102,114,111,122,101,110,95,105,109,112,111,114,116,108,105,98,46,77,111,100,117,108,101,83,112,101,99,46,95,95,101,113,95,95,35,111,112,97,113,117,101,6,233,6,99,97,99,104,101,100,9,42,95,102,114,111,122,101,110,95,105,109,112,111,114,116,108,105,98,46,77,111,100,117,108,101,83,112,101,99,46,99,97,99,104,101,100,35,111,112,97,113,117,101,6,234,6,112,97,114,101,110,116,9,42,95,102,114,111,122,101,110,95,105,109,112,111,114,116,108,105,98,46,77,111,100,117,108,101,83,112,101,99,46,112,97,114,101,110,116,35,111,112,97,113,117,101,6,235,12,104,97,115,95,108,111,99,97,116,105,111,110,9,48,95,102,114,111,122,101,110,95,105,109,112,111,114,116,108,105,98,46,77,111,100,117,108,101,83,112,101,99,46,104,97,115,95,108,111,99,97,116,105,111,110,35,111,112,97,113,117,101,6,236,21,95,95,115,116,97,116,105,99,95,97,116,116,114,105,98,117,116,101,115,95,95,4,0,0,23,6,238,8,95,95,100,105,99,116,95,95,4,0,0,24,6,240,11,95,95,119,101,97,107,114,101,102,95,95,4,0,0,25,6,241,8,95,95,104,97,115,104,95,95,0]⟩ 0,.bool true,.bool true,.str ⟨#[]⟩ 242] 1,#[]⟩
noncomputable def o19:Obj:=⟨.type "list",none,.seq #[] 0,#[]⟩
def o20 (P:Params):Obj:=dcO #[kx P w80 208 (.str w42 207),kx P ⟨#[108,111,97,100,101,114]⟩ 209 (.ref 14),kx P ⟨#[111,114,105,103,105,110]⟩ 210 (.str w107 184),kx P w97 211 .none,kx P w61 212 .none,kx P w63 213 (.ref 19),kx P w95 214 (.bool false),kx P w112 215 .none,kx P ⟨#[95,105,110,105,116,105,97,108,105,122,105,110,103]⟩ 243 (.bool false)] 9
def o21 (P:Params):Obj:=dcO #[kx P w45 227 (.str w81 217),kx P w25 228 (.int 562 218),kx P w13 229 (.builtin "_frozen_importlib.ModuleSpec.__doc__:str#opaque"),kx P w26 230 (.builtin "_frozen_importlib.ModuleSpec.__init__#opaque"),kx P w67 231 (.builtin "_frozen_importlib.ModuleSpec.__repr__#opaque"),kx P ⟨#[95,95,101,113,95,95]⟩ 232 (.builtin "_frozen_importlib.ModuleSpec.__eq__#opaque"),kx P ⟨#[99,97,99,104,101,100]⟩ 233 (.builtin "_frozen_importlib.ModuleSpec.cached#opaque"),kx P ⟨#[112,97,114,101,110,116]⟩ 234 (.builtin "_frozen_importlib.ModuleSpec.parent#opaque"),kx P ⟨#[104,97,115,95,108,111,99,97,116,105,111,110]⟩ 235 (.builtin "_frozen_importlib.ModuleSpec.has_location#opaque"),kx P w11 236 (.ref 23),kx P w43 238 (.ref 24),kx P w27 240 (.ref 25),kx P ⟨#[95,95,104,97,115,104,95,95]⟩ 241 .none] 13
noncomputable def o22:Obj:=⟨.type "type",none,.cls ⟨w103,[.type "object"],[.ref 22,.type "object"],21,w103,true,[],[],false,none,false⟩,#[]⟩
def o23:Obj:=tpO #[.str w112 219,.str w95 220,.str w63 221,.str ⟨#[108,111,97,100,101,114]⟩ 222,.str w97 223,.str w80 224,.str ⟨#[111,114,105,103,105,110]⟩ 225,.str w61 226] 0
def o24:Obj:=tyO "getset_descriptor" #[.str w43 237,.ref 22,.builtin "function.__dict__",.builtin "function.__dict__#set"]
def o25:Obj:=tyO "getset_descriptor" #[.str w27 239,.ref 22,.builtin "ExceptionGroup.__weakref__",.none]
noncomputable def o26:Obj:=⟨.ref 22,(some 20),.plain,#[]⟩
noncomputable def o27:Obj:=⟨.none,none,.seq #[.int 11 0,.str ⟨#[6,247,8,95,95,110,97,109,101,95,95,6,246,4,95,115,114,101,6,248,7,95,95,100,111,99,95,95,0,6,250,11,95,95,112,97,99,107,97,103,101,95,95,6,249,0,6,251,10,95,95,108,111,97,100,101,114,95,95,4,0,0,14,6,252,8,95,95,115,112,101,99,95,95,4,0,0,26,6,253,7,99,111,109,112,105,108,101,9,12,95,115,114,101,46,99,111,109,112,105,108,101,6,254,8,116,101,109,112,108,97,116,101,9,13,95,115,114,101,46,116,101,109,112,108,97,116,101,6,255,11,103,101,116,99,111,100,101,115,105,122,101,9,16,95,115,114,101,46,103,101,116,99,111,100,101,115,105,122,101,6,256,13,97,115,99,105,105,95,105,115,99,97,115,101,100,9,18,95,115,114,101,46,97,115,99,105,105,95,105,115,99,97,115,101,100,6,257,15,117,110,105,99,111,100,101,95,105,115,99,97,115,101,100,9,20,95,115,114,101,46,117,110,105,99,111,100,101,95,105,115,99,97,115,101,100,6,258,13,97,115,99,105,105,95,116,111,108,111,119,101,114,9,18,95,115,114,101,46,97,115,99,105,105,95,116,111,108,111,119,101,114,6,259,15,117,110,105,99,111,100,101,95,116,111,108,111,119,101,114,9,20,95,115,114,101,46,117,110,105,99,111,100,101,95,116,111,108,111,119,101,114,6,261,5,77,65,71,73,67,4,260,0,20230612,6,263,8,67,79,68,69,83,73,90,69,4,262,0,4,6,265,9,77,65,88,82,69,80,69,65,84,4,264,0,4294967295,6,267,9,77,65,88,71,82,79,85,80,83,4,266,0,1073741823,6,269,9,99,111,112,121,114,105,103,104,116,6,268,53,32,83,82,69,32,50,46,50,46,50,32,67,111,112,121,114,105,103,104,116,32,40,99,41,32,49,57,57,55,45,50,48,48,50,32,98,121,32,83,101,99,114,101,116,32,76,97,98,115,32,65,66,32]⟩ 0,.bool true,.bool false,.str w42 271] 0,#[]⟩
def o11a (P:Params):Obj:=dcO #[kx P w20 247 (.str w42 246),kx P w13 248 .none,kx P w8 250 (.str ⟨#[]⟩ 249),kx P w9 251 (.builtin "off-the-table:_sre.__loader__:shared#opaque"),kx P w21 252 (.builtin "off-the-table:_sre.__spec__:shared#opaque"),kx P w102 253 (.builtin "_sre.compile"),kx P w106 254 (.builtin "off-the-table:_sre.template:shared#opaque"),kx P w100 255 (.builtin "off-the-table:_sre.getcodesize:shared#opaque"),kx P w96 256 (.builtin "off-the-table:_sre.ascii_iscased:shared#opaque"),kx P w90 257 (.builtin "off-the-table:_sre.unicode_iscased:shared#opaque"),kx P w94 258 (.builtin "off-the-table:_sre.ascii_tolower:shared#opaque"),kx P w87 259 (.builtin "off-the-table:_sre.unicode_tolower:shared#opaque"),kx P ⟨#[77,65,71,73,67]⟩ 261 (.int 20230612 260),kx P w111 263 (.int 4 262),kx P w109 265 (.int 4294967295 264),kx P w110 267 (.int 1073741823 266),kx P w92 269 (.str w23 268)] 17
def o28:Obj:=tpO #[] 0
def o29:Obj:=nfO #[]
def o30:Obj:=cdO #[.str w85 277,.str w85 278,.str w0 279,.int 1 0,.int 0 0,.int 0 0,.int 0 0,.int 0 0,.ref 28,.bool false,.int 276 0,.ref 29,.none,.none,.none,.none,.int 280 0,.int 1 0,.str w0 281]
noncomputable def o31:Obj:=⟨.type "frame",none,.plain,#[(some (.ref 30)),(some (.ref 3)),(some (.ref 3)),none,(some (.str w77 164)),none,(some (.ref 0))]⟩
def o3a (P:Params):Obj:=dcO #[kx P w20 165 (.str w1 289),kx P w13 166 .none,kx P w8 167 .none,kx P w9 168 (.builtin "__main__.__loader__#opaque"),kx P w21 169 .none,kx P w6 170 (.ref 6),kx P w12 171 (.ref 4),kx P w33 173 (.str w0 172),kx P w22 174 .none,kx P w42 275 (.ref 12),kx P w34 288 (.ref 38),kx P w29 324 (.ref 43),kx P w4 350 (.ref 48),kx P w3 384 (.ref 53),kx P w2 394 (.ref 61)] 15
def o29a:Obj:=nfO #[.int 2 0,.int 0 0,.ref 37,.int 9 0,.int 0 0,.ref 60]
def o32:Obj:=tpO #[] 0
def o33:Obj:=nfO #[]
def o34:Obj:=tpO #[.str ⟨#[107]⟩ 285] 0
def o35:Obj:=tpO #[] 0
def o36:Obj:=nuO ⟨w34,w34,paramsOf (defAt 1),.stmts (bodyOf (defAt 1)),scopeOf (defAt 1),0,[],.none,.none,.none,.none,none,.none,.none,0⟩
def o37:Obj:=cdO #[.str w34 282,.str w34 283,.str w0 284,.int 2 0,.int 1 0,.int 0 0,.int 0 0,.int 3 0,.ref 32,.bool true,.int 276 0,.ref 33,.none,.ref 34,.ref 35,.ref 36,.int 286 0,.int 2 0,.str w0 287]
def o38:Obj:=fnO ⟨w34,w34,paramsOf (defAt 1),.stmts (bodyOf (defAt 1)),scopeOf (defAt 1),3,[],.none,.none,.none,.str w77 164,none,.ref 37,.none,0⟩
noncomputable def o39:Obj:=⟨.type "list",none,.seq #[.int 14 294,.int 14 295,.int 4 296,.int 1 297,.int 1 298,.int 9 299,.int 0 300,.int 4227896069 301,.int 939524097 302,.int 0 303,.int 0 304,.int 0 305,.int 0 306,.int 0 307,.int 0 308,.int 13 309,.int 11 310,.int 9 311,.int 0 312,.int 4227896069 313,.int 939524097 314,.int 0 315,.int 0 316,.int 0 317,.int 0 318,.int 0 319,.int 0 320,.int 1 321] 0,#[]⟩
def o40:Obj:=dcO #[] 0
def o41:Obj:=tpO #[.none] 0
def o42:Obj:=tpO #[.int 14 0,.int 14 0,.int 4 0,.int 1 0,.int 1 0,.int 9 0,.int 0 0,.int 4227896069 0,.int 939524097 0,.int 0 0,.int 0 0,.int 0 0,.int 0 0,.int 0 0,.int 0 0,.int 13 0,.int 11 0,.int 9 0,.int 0 0,.int 4227896069 0,.int 939524097 0,.int 0 0,.int 0 0,.int 0 0,.int 0 0,.int 0 0,.int 0 0,.int 1 0] 0
def o43:Obj:=tyO "re.Pattern" #[.str ⟨#[91,32,92,40,92,41,60,62,64,44,59,58,92,92,34,47,92,91,92,93,92,63,61,93]⟩ 292,.int 32 323,.int 0 0,.none,.none,.ref 42,.int 0 0]
noncomputable def o44:Obj:=⟨.type "list",none,.seq #[.int 14 328,.int 10 329,.int 4 330,.int 1 331,.int 1 332,.int 22 333,.int 0 334,.int 31 335,.int 16 336,.int 127 337,.int 0 338,.int 13 339,.int 7 340,.int 22 341,.int 0 342,.int 31 343,.int 16 344,.int 127 345,.int 0 346,.int 1 347] 0,#[]⟩
def o45:Obj:=dcO #[] 0
def o46:Obj:=tpO #[.none] 0
def o47:Obj:=tpO #[.int 14 0,.int 10 0,.int 4 0,.int 1 0,.int 1 0,.int 22 0,.int 0 0,.int 31 0,.int 16 0,.int 127 0,.int 0 0,.int 13 0,.int 7 0,.int 22 0,.int 0 0,.int 31 0,.int 16 0,.int 127 0,.int 0 0,.int 1 0] 0
def o48:Obj:=tyO "re.Pattern" #[.str ⟨#[91,92,120,48,48,45,92,120,49,70,92,120,55,70,93]⟩ 326,.int 32 349,.int 0 0,.none,.none,.ref 47,.int 0 0]
noncomputable def o49:Obj:=⟨.type "list",none,.seq #[.int 14 354,.int 14 355,.int 4 356,.int 1 357,.int 1 358,.int 9 359,.int 4294966783 360,.int 0 361,.int 0 362,.int 2147483648 363,.int 0 364,.int 0 365,.int 0 366,.int 0 367,.int 0 368,.int 13 369,.int 11 370,.int 9 371,.int 4294966783 372,.int 0 373,.int 0 374,.int 2147483648 375,.int 0 376,.int 0 377,.int 0 378,.int 0 379,.int 0 380,.int 1 381] 0,#[]⟩
def o50:Obj:=dcO #[] 0
def o51:Obj:=tpO #[.none] 0
def o52:Obj:=tpO #[.int 14 0,.int 14 0,.int 4 0,.int 1 0,.int 1 0,.int 9 0,.int 4294966783 0,.int 0 0,.int 0 0,.int 2147483648 0,.int 0 0,.int 0 0,.int 0 0,.int 0 0,.int 0 0,.int 13 0,.int 11 0,.int 9 0,.int 4294966783 0,.int 0 0,.int 0 0,.int 2147483648 0,.int 0 0,.int 0 0,.int 0 0,.int 0 0,.int 0 0,.int 1 0] 0
def o53:Obj:=tyO "re.Pattern" #[.str ⟨#[91,92,120,48,48,45,92,120,48,56,92,120,48,65,45,92,120,49,70,92,120,55,70,93]⟩ 352,.int 32 383,.int 0 0,.none,.none,.ref 52,.int 0 0]
def o54:Obj:=tpO #[.none,.int 1 385] 0
def o55:Obj:=tpO #[] 0
def o56:Obj:=nfO #[]
def o57:Obj:=tpO #[.str ⟨#[112,97,114,97,109]⟩ 389,.str w108 390,.str ⟨#[113,117,111,116,101]⟩ 391] 0
def o58:Obj:=tpO #[] 0
def o59:Obj:=nuO ⟨w2,w2,paramsOf (defAt 6),.stmts (bodyOf (defAt 6)),scopeOf (defAt 6),0,[],.none,.none,.none,.none,none,.none,.none,0⟩
def o60:Obj:=cdO #[.str w2 386,.str w2 387,.str w0 388,.int 9 0,.int 3 0,.int 0 0,.int 0 0,.int 3 0,.ref 55,.bool true,.int 276 0,.ref 56,.none,.ref 57,.ref 58,.ref 59,.int 392 0,.int 9 0,.str w0 393]
def o61:Obj:=fnO ⟨w2,w2,paramsOf (defAt 6),.stmts (bodyOf (defAt 6)),scopeOf (defAt 6),3,[],.ref 54,.none,.none,.str w1 289,none,.ref 60,.none,0⟩
def o3b (P:Params):Obj:=dcO #[kx P w20 165 (.str w91 552),kx P w13 166 .none,kx P w8 167 .none,kx P w9 168 (.builtin "__main__.__loader__#opaque"),kx P w21 169 .none,kx P w6 170 (.ref 6),kx P w12 171 (.ref 4),kx P w33 173 (.str w0 172),kx P w22 174 .none,kx P w42 275 (.ref 12),kx P w34 288 (.ref 38),kx P w29 324 (.ref 43),kx P w4 350 (.ref 48),kx P w3 384 (.ref 53),kx P w2 394 (.ref 61),kx P w15 551 (.ref 182)] 16
def o29b:Obj:=nfO #[.int 2 0,.int 0 0,.ref 37,.int 9 0,.int 0 0,.ref 60,.int 18 0,.int 0 0,.ref 67]
def o62:Obj:=tpO #[] 0
def o63:Obj:=tyO "builtin_function_or_method" #[.builtin "type.__prepare__",.type "type"]
def o64 (P:Params):Obj:=dcO #[kx P w45 402 (.str w1 289),kx P w101 404 (.str w15 403),kx P w25 406 (.int 18 405),kx P w26 416 (.ref 76),kx P w19 426 (.ref 83),kx P w82 433 (.ref 90),kx P w53 442 (.ref 97),kx P w54 448 (.ref 102),kx P w55 456 (.ref 109),kx P w46 464 (.ref 116),kx P w78 470 (.ref 121),kx P w104 481 (.ref 129),kx P w99 487 (.ref 134),kx P w86 493 (.ref 139),kx P w93 500 (.ref 146),kx P w67 507 (.ref 153),kx P w83 513 (.ref 158),kx P w71 520 (.ref 165),kx P w58 529 (.ref 172),kx P w62 542 (.ref 179),kx P w11 544 (.ref 180)] 21
def o65:Obj:=tpO #[] 0
def o66:Obj:=nfO #[.int 20 0,.int 4 0,.ref 75,.int 30 0,.int 4 0,.ref 82,.int 38 0,.int 4 0,.ref 89,.int 41 0,.int 4 0,.ref 96,.int 45 0,.int 4 0,.ref 101,.int 49 0,.int 4 0,.ref 108,.int 52 0,.int 4 0,.ref 115,.int 55 0,.int 4 0,.ref 120,.int 59 0,.int 4 0,.ref 128,.int 66 0,.int 4 0,.ref 133,.int 69 0,.int 4 0,.ref 138,.int 72 0,.int 4 0,.ref 145,.int 75 0,.int 4 0,.ref 152,.int 78 0,.int 4 0,.ref 157,.int 81 0,.int 4 0,.ref 164,.int 84 0,.int 4 0,.ref 171,.int 87 0,.int 4 0,.ref 178]
def o67:Obj:=cdO #[.str w15 397,.str w15 398,.str w0 399,.int 18 0,.int 0 0,.int 0 0,.int 0 0,.int 0 0,.ref 65,.bool false,.int 276 0,.ref 66,.none,.none,.none,.none,.int 400 0,.int 18 0,.str w0 401]
noncomputable def o68:Obj:=⟨.type "frame",none,.plain,#[(some (.ref 67)),(some (.ref 3)),(some (.ref 64)),none,(some (.str w1 289)),none,(some (.ref 0))]⟩
def o69:Obj:=tpO #[.none] 0
def o70:Obj:=tpO #[] 0
def o71:Obj:=nfO #[]
def o72:Obj:=tpO #[.str w37 410,.str ⟨#[104,101,97,100,101,114,115]⟩ 411,.str ⟨#[107]⟩ 412,.str ⟨#[118]⟩ 413] 0
def o73:Obj:=tpO #[] 0
def o74:Obj:=nuO ⟨w26,w68,paramsOf (methAt 7 0),.stmts (bodyOf (methAt 7 0)),scopeOf (methAt 7 0),0,[],.none,.none,.none,.none,none,.none,.none,0⟩
def o75:Obj:=cdO #[.str w26 407,.str w68 408,.str w0 409,.int 20 0,.int 2 0,.int 0 0,.int 0 0,.int 3 0,.ref 70,.bool true,.int 276 0,.ref 71,.none,.ref 72,.ref 73,.ref 74,.int 414 0,.int 20 0,.str w0 415]
def o76:Obj:=fnO ⟨w26,w68,paramsOf (methAt 7 0),.stmts (bodyOf (methAt 7 0)),scopeOf (methAt 7 0),3,[],.ref 69,.none,.none,.str w1 289,none,.ref 75,.none,0⟩
def o77:Obj:=tpO #[] 0
def o78:Obj:=nfO #[]
def o79:Obj:=tpO #[.str w37 420,.str w108 421,.str w80 422,.str ⟨#[114,101,103,101,120]⟩ 423] 0
def o80:Obj:=tpO #[] 0
def o81:Obj:=nuO ⟨w19,w30,paramsOf (methAt 7 1),.stmts (bodyOf (methAt 7 1)),scopeOf (methAt 7 1),0,[],.none,.none,.none,.none,none,.none,.none,0⟩
def o82:Obj:=cdO #[.str w19 417,.str w30 418,.str w0 419,.int 30 0,.int 2 0,.int 0 0,.int 1 0,.int 3 0,.ref 77,.bool true,.int 276 0,.ref 78,.none,.ref 79,.ref 80,.ref 81,.int 424 0,.int 30 0,.str w0 425]
def o83:Obj:=fnO ⟨w19,w30,paramsOf (methAt 7 1),.stmts (bodyOf (methAt 7 1)),scopeOf (methAt 7 1),3,[],.none,.none,.none,.str w1 289,none,.ref 82,.none,0⟩
def o84:Obj:=tpO #[] 0
def o85:Obj:=nfO #[]
def o86:Obj:=tpO #[.str w37 430] 0
def o87:Obj:=tpO #[] 0
def o88:Obj:=nuO ⟨w82,w72,paramsOf (methAt 7 2),.stmts (bodyOf (methAt 7 2)),scopeOf (methAt 7 2),0,[],.none,.none,.none,.none,none,.none,.none,0⟩
def o89:Obj:=cdO #[.str w82 427,.str w72 428,.str w0 429,.int 38 0,.int 1 0,.int 0 0,.int 0 0,.int 3 0,.ref 84,.bool true,.int 276 0,.ref 85,.none,.ref 86,.ref 87,.ref 88,.int 431 0,.int 38 0,.str w0 432]
def o90:Obj:=fnO ⟨w82,w72,paramsOf (methAt 7 2),.stmts (bodyOf (methAt 7 2)),scopeOf (methAt 7 2),3,[],.none,.none,.none,.str w1 289,none,.ref 89,.none,0⟩
def o91:Obj:=tpO #[] 0
def o92:Obj:=nfO #[]
def o93:Obj:=tpO #[.str w37 437,.str w80 438,.str ⟨#[118,97,108]⟩ 439] 0
def o94:Obj:=tpO #[] 0
def o95:Obj:=nuO ⟨w53,w50,paramsOf (methAt 7 3),.stmts (bodyOf (methAt 7 3)),scopeOf (methAt 7 3),0,[],.none,.none,.none,.none,none,.none,.none,0⟩
def o96:Obj:=cdO #[.str w53 434,.str w50 435,.str w0 436,.int 41 0,.int 3 0,.int 0 0,.int 0 0,.int 3 0,.ref 91,.bool true,.int 276 0,.ref 92,.none,.ref 93,.ref 94,.ref 95,.int 440 0,.int 41 0,.str w0 441]
def o97:Obj:=fnO ⟨w53,w50,paramsOf (methAt 7 3),.stmts (bodyOf (methAt 7 3)),scopeOf (methAt 7 3),3,[],.none,.none,.none,.str w1 289,none,.ref 96,.none,0⟩
def o98:Obj:=tpO #[] 0
def o99:Obj:=nfO #[]
def o100:Obj:=nuO ⟨w54,w51,paramsOf (methAt 7 4),.stmts (bodyOf (methAt 7 4)),scopeOf (methAt 7 4),0,[],.none,.none,.none,.none,none,.none,.none,0⟩
def o101:Obj:=cdO #[.str w54 443,.str w51 444,.str w0 445,.int 45 0,.int 2 0,.int 0 0,.int 0 0,.int 3 0,.ref 98,.bool true,.int 276 0,.ref 99,.none,.none,.none,.ref 100,.int 446 0,.int 45 0,.str w0 447]
def o102:Obj:=fnO ⟨w54,w51,paramsOf (methAt 7 4),.stmts (bodyOf (methAt 7 4)),scopeOf (methAt 7 4),3,[],.none,.none,.none,.str w1 289,none,.ref 101,.none,0⟩
def o103:Obj:=tpO #[] 0
def o104:Obj:=nfO #[]
def o105:Obj:=tpO #[.str w37 452,.str w80 453] 0
def o106:Obj:=tpO #[] 0
def o107:Obj:=nuO ⟨w55,w52,paramsOf (methAt 7 5),.stmts (bodyOf (methAt 7 5)),scopeOf (methAt 7 5),0,[],.none,.none,.none,.none,none,.none,.none,0⟩
def o108:Obj:=cdO #[.str w55 449,.str w52 450,.str w0 451,.int 49 0,.int 2 0,.int 0 0,.int 0 0,.int 3 0,.ref 103,.bool true,.int 276 0,.ref 104,.none,.ref 105,.ref 106,.ref 107,.int 454 0,.int 49 0,.str w0 455]
def o109:Obj:=fnO ⟨w55,w52,paramsOf (methAt 7 5),.stmts (bodyOf (methAt 7 5)),scopeOf (methAt 7 5),3,[],.none,.none,.none,.str w1 289,none,.ref 108,.none,0⟩
def o110:Obj:=tpO #[] 0
def o111:Obj:=nfO #[]
def o112:Obj:=tpO #[.str w37 460,.str w80 461] 0
def o113:Obj:=tpO #[] 0
def o114:Obj:=nuO ⟨w46,w48,paramsOf (methAt 7 6),.stmts (bodyOf (methAt 7 6)),scopeOf (methAt 7 6),0,[],.none,.none,.none,.none,none,.none,.none,0⟩
def o115:Obj:=cdO #[.str w46 457,.str w48 458,.str w0 459,.int 52 0,.int 2 0,.int 0 0,.int 0 0,.int 3 0,.ref 110,.bool true,.int 276 0,.ref 111,.none,.ref 112,.ref 113,.ref 114,.int 462 0,.int 52 0,.str w0 463]
def o116:Obj:=fnO ⟨w46,w48,paramsOf (methAt 7 6),.stmts (bodyOf (methAt 7 6)),scopeOf (methAt 7 6),3,[],.none,.none,.none,.str w1 289,none,.ref 115,.none,0⟩
def o117:Obj:=tpO #[] 0
def o118:Obj:=nfO #[]
def o119:Obj:=nuO ⟨w78,w70,paramsOf (methAt 7 7),.stmts (bodyOf (methAt 7 7)),scopeOf (methAt 7 7),0,[],.none,.none,.none,.none,none,.none,.none,0⟩
def o120:Obj:=cdO #[.str w78 465,.str w70 466,.str w0 467,.int 55 0,.int 2 0,.int 0 0,.int 0 0,.int 3 0,.ref 117,.bool true,.int 276 0,.ref 118,.none,.none,.none,.ref 119,.int 468 0,.int 55 0,.str w0 469]
def o121:Obj:=fnO ⟨w78,w70,paramsOf (methAt 7 7),.stmts (bodyOf (methAt 7 7)),scopeOf (methAt 7 7),3,[],.none,.none,.none,.str w1 289,none,.ref 120,.none,0⟩
def o122:Obj:=tpO #[.none] 0
def o123:Obj:=tpO #[] 0
def o124:Obj:=nfO #[]
def o125:Obj:=tpO #[.str w37 474,.str w80 475,.str ⟨#[100,101,102,97,117,108,116]⟩ 476,.str ⟨#[107]⟩ 477,.str ⟨#[118]⟩ 478] 0
def o126:Obj:=tpO #[] 0
def o127:Obj:=nuO ⟨w104,w84,paramsOf (methAt 7 8),.stmts (bodyOf (methAt 7 8)),scopeOf (methAt 7 8),0,[],.none,.none,.none,.none,none,.none,.none,0⟩
def o128:Obj:=cdO #[.str w104 471,.str w84 472,.str w0 473,.int 59 0,.int 3 0,.int 0 0,.int 0 0,.int 3 0,.ref 123,.bool true,.int 276 0,.ref 124,.none,.ref 125,.ref 126,.ref 127,.int 479 0,.int 59 0,.str w0 480]
def o129:Obj:=fnO ⟨w104,w84,paramsOf (methAt 7 8),.stmts (bodyOf (methAt 7 8)),scopeOf (methAt 7 8),3,[],.ref 122,.none,.none,.str w1 289,none,.ref 128,.none,0⟩
def o130:Obj:=tpO #[] 0
def o131:Obj:=nfO #[]
def o132:Obj:=nuO ⟨w99,w79,paramsOf (methAt 7 9),.stmts (bodyOf (methAt 7 9)),scopeOf (methAt 7 9),0,[],.none,.none,.none,.none,none,.none,.none,0⟩
def o133:Obj:=cdO #[.str w99 482,.str w79 483,.str w0 484,.int 66 0,.int 1 0,.int 0 0,.int 0 0,.int 3 0,.ref 130,.bool true,.int 276 0,.ref 131,.none,.none,.none,.ref 132,.int 485 0,.int 66 0,.str w0 486]
def o134:Obj:=fnO ⟨w99,w79,paramsOf (methAt 7 9),.stmts (bodyOf (methAt 7 9)),scopeOf (methAt 7 9),3,[],.none,.none,.none,.str w1 289,none,.ref 133,.none,0⟩
def o135:Obj:=tpO #[] 0
def o136:Obj:=nfO #[]
def o137:Obj:=nuO ⟨w86,w74,paramsOf (methAt 7 10),.stmts (bodyOf (methAt 7 10)),scopeOf (methAt 7 10),0,[],.none,.none,.none,.none,none,.none,.none,0⟩
def o138:Obj:=cdO #[.str w86 488,.str w74 489,.str w0 490,.int 69 0,.int 1 0,.int 0 0,.int 0 0,.int 3 0,.ref 135,.bool true,.int 276 0,.ref 136,.none,.none,.none,.ref 137,.int 491 0,.int 69 0,.str w0 492]
def o139:Obj:=fnO ⟨w86,w74,paramsOf (methAt 7 10),.stmts (bodyOf (methAt 7 10)),scopeOf (methAt 7 10),3,[],.none,.none,.none,.str w1 289,none,.ref 138,.none,0⟩
def o140:Obj:=tpO #[] 0
def o141:Obj:=nfO #[]
def o142:Obj:=tpO #[.str w37 497] 0
def o143:Obj:=tpO #[] 0
def o144:Obj:=nuO ⟨w93,w75,paramsOf (methAt 7 11),.stmts (bodyOf (methAt 7 11)),scopeOf (methAt 7 11),0,[],.none,.none,.none,.none,none,.none,.none,0⟩
def o145:Obj:=cdO #[.str w93 494,.str w75 495,.str w0 496,.int 72 0,.int 1 0,.int 0 0,.int 0 0,.int 3 0,.ref 140,.bool true,.int 276 0,.ref 141,.none,.ref 142,.ref 143,.ref 144,.int 498 0,.int 72 0,.str w0 499]
def o146:Obj:=fnO ⟨w93,w75,paramsOf (methAt 7 11),.stmts (bodyOf (methAt 7 11)),scopeOf (methAt 7 11),3,[],.none,.none,.none,.str w1 289,none,.ref 145,.none,0⟩
def o147:Obj:=tpO #[] 0
def o148:Obj:=nfO #[]
def o149:Obj:=tpO #[.str w37 504] 0
def o150:Obj:=tpO #[] 0
def o151:Obj:=nuO ⟨w67,w69,paramsOf (methAt 7 12),.stmts (bodyOf (methAt 7 12)),scopeOf (methAt 7 12),0,[],.none,.none,.none,.none,none,.none,.none,0⟩
def o152:Obj:=cdO #[.str w67 501,.str w69 502,.str w0 503,.int 75 0,.int 1 0,.int 0 0,.int 0 0,.int 3 0,.ref 147,.bool true,.int 276 0,.ref 148,.none,.ref 149,.ref 150,.ref 151,.int 505 0,.int 75 0,.str w0 506]
def o153:Obj:=fnO ⟨w67,w69,paramsOf (methAt 7 12),.stmts (bodyOf (methAt 7 12)),scopeOf (methAt 7 12),3,[],.none,.none,.none,.str w1 289,none,.ref 152,.none,0⟩
def o154:Obj:=tpO #[] 0
def o155:Obj:=nfO #[]
def o156:Obj:=nuO ⟨w83,w73,paramsOf (methAt 7 13),.stmts (bodyOf (methAt 7 13)),scopeOf (methAt 7 13),0,[],.none,.none,.none,.none,none,.none,.none,0⟩
def o157:Obj:=cdO #[.str w83 508,.str w73 509,.str w0 510,.int 78 0,.int 1 0,.int 0 0,.int 0 0,.int 3 0,.ref 154,.bool true,.int 276 0,.ref 155,.none,.none,.none,.ref 156,.int 511 0,.int 78 0,.str w0 512]
def o158:Obj:=fnO ⟨w83,w73,paramsOf (methAt 7 13),.stmts (bodyOf (methAt 7 13)),scopeOf (methAt 7 13),3,[],.none,.none,.none,.str w1 289,none,.ref 157,.none,0⟩
def o159:Obj:=tpO #[] 0
def o160:Obj:=nfO #[]
def o161:Obj:=tpO #[.str w37 517] 0
def o162:Obj:=tpO #[] 0
def o163:Obj:=nuO ⟨w71,w64,paramsOf (methAt 7 14),.stmts (bodyOf (methAt 7 14)),scopeOf (methAt 7 14),0,[],.none,.none,.none,.none,none,.none,.none,0⟩
def o164:Obj:=cdO #[.str w71 514,.str w64 515,.str w0 516,.int 81 0,.int 1 0,.int 0 0,.int 0 0,.int 3 0,.ref 159,.bool true,.int 276 0,.ref 160,.none,.ref 161,.ref 162,.ref 163,.int 518 0,.int 81 0,.str w0 519]
def o165:Obj:=fnO ⟨w71,w64,paramsOf (methAt 7 14),.stmts (bodyOf (methAt 7 14)),scopeOf (methAt 7 14),3,[],.none,.none,.none,.str w1 289,none,.ref 164,.none,0⟩
def o166:Obj:=tpO #[] 0
def o167:Obj:=nfO #[]
def o168:Obj:=tpO #[.str w37 524,.str w80 525,.str w108 526] 0
def o169:Obj:=tpO #[] 0
def o170:Obj:=nuO ⟨w58,w56,paramsOf (methAt 7 15),.stmts (bodyOf (methAt 7 15)),scopeOf (methAt 7 15),0,[],.none,.none,.none,.none,none,.none,.none,0⟩
def o171:Obj:=cdO #[.str w58 521,.str w56 522,.str w0 523,.int 84 0,.int 3 0,.int 0 0,.int 0 0,.int 3 0,.ref 166,.bool true,.int 276 0,.ref 167,.none,.ref 168,.ref 169,.ref 170,.int 527 0,.int 84 0,.str w0 528]
def o172:Obj:=fnO ⟨w58,w56,paramsOf (methAt 7 15),.stmts (bodyOf (methAt 7 15)),scopeOf (methAt 7 15),3,[],.none,.none,.none,.str w1 289,none,.ref 171,.none,0⟩
def o173:Obj:=tpO #[] 0
def o174:Obj:=nfO #[]
def o175:Obj:=tpO #[.str w37 533,.str ⟨#[95,110,97,109,101]⟩ 534,.str ⟨#[95,118,97,108,117,101]⟩ 535,.str ⟨#[95,112,97,114,97,109,115]⟩ 536,.str ⟨#[112,97,114,116,115]⟩ 537,.str ⟨#[107]⟩ 538,.str ⟨#[118]⟩ 539] 0
def o176:Obj:=tpO #[] 0
def o177:Obj:=nuO ⟨w62,w57,paramsOf (methAt 7 16),.stmts (bodyOf (methAt 7 16)),scopeOf (methAt 7 16),0,[],.none,.none,.none,.none,none,.none,.none,0⟩
def o178:Obj:=cdO #[.str w62 530,.str w57 531,.str w0 532,.int 87 0,.int 3 0,.int 0 0,.int 0 0,.int 11 0,.ref 173,.bool true,.int 276 0,.ref 174,.none,.ref 175,.ref 176,.ref 177,.int 540 0,.int 87 0,.str w0 541]
def o179:Obj:=fnO ⟨w62,w57,paramsOf (methAt 7 16),.stmts (bodyOf (methAt 7 16)),scopeOf (methAt 7 16),3,[],.none,.none,.none,.str w1 289,none,.ref 178,.none,0⟩
def o180:Obj:=tpO #[.str ⟨#[95,104,101,97,100,101,114,115]⟩ 543] 0
def o181 (P:Params):Obj:=dcO #[kx P w45 402 (.str w1 289),kx P w25 406 (.int 18 405),kx P w26 416 (.ref 76),kx P w19 426 (.ref 83),kx P w82 433 (.ref 90),kx P w53 442 (.ref 97),kx P w54 448 (.ref 102),kx P w55 456 (.ref 109),kx P w46 464 (.ref 116),kx P w78 470 (.ref 121),kx P w104 481 (.ref 129),kx P w99 487 (.ref 134),kx P w86 493 (.ref 139),kx P w93 500 (.ref 146),kx P w67 507 (.ref 153),kx P w83 513 (.ref 158),kx P w71 520 (.ref 165),kx P w58 529 (.ref 172),kx P w62 542 (.ref 179),kx P w11 544 (.ref 180),kx P w43 546 (.ref 183),kx P w27 548 (.ref 184),kx P w13 549 .none] 4
noncomputable def o182:Obj:=⟨.type "type",none,.cls ⟨w15,[.type "object"],[.ref 182,.type "object"],181,w15,true,[],[],false,none,false⟩,#[none,none,(some (.str w15 395)),(some (.str w15 403)),(some (.builtin "object.__new__")),(some (.bool true))]⟩
def o183:Obj:=tyO "getset_descriptor" #[.str w43 545,.ref 182,.builtin "function.__dict__",.builtin "function.__dict__#set"]
def o184:Obj:=tyO "getset_descriptor" #[.str w27 547,.ref 182,.builtin "ExceptionGroup.__weakref__",.none]
def o185:Obj:=tyO "super" #[.ref 182,.ref 182,.ref 182]
def o186:Obj:=tyO "builtin_function_or_method" #[.builtin "object.__init_subclass__",.ref 182]
def o3c (P:Params):Obj:=dcO #[kx P w20 165 (.str w91 552),kx P w13 166 .none,kx P w8 167 .none,kx P w9 168 (.builtin "__main__.__loader__#opaque"),kx P w21 169 .none,kx P w6 170 (.ref 6),kx P w12 171 (.ref 4),kx P w33 173 (.str w0 172),kx P w22 174 .none,kx P w42 275 (.ref 12),kx P w34 288 (.ref 38),kx P w29 324 (.ref 43),kx P w4 350 (.ref 48),kx P w3 384 (.ref 53),kx P w2 394 (.ref 61),kx P w15 551 (.ref 182),kx P w14 584 (.ref 187)] 17
def o187:Obj:=dcO #[⟨1,.int 1 554,.str ⟨#[79,80,84,73,77,73,90,69,68]⟩ 555⟩,⟨2,.int 2 556,.str ⟨#[78,69,87,76,79,67,65,76,83]⟩ 557⟩,⟨4,.int 4 558,.str ⟨#[86,65,82,65,82,71,83]⟩ 559⟩,⟨8,.int 8 560,.str ⟨#[86,65,82,75,69,89,87,79,82,68,83]⟩ 561⟩,⟨16,.int 16 562,.str ⟨#[78,69,83,84,69,68]⟩ 563⟩,⟨32,.int 32 564,.str ⟨#[71,69,78,69,82,65,84,79,82]⟩ 565⟩,⟨64,.int 64 566,.str ⟨#[78,79,70,82,69,69]⟩ 567⟩,⟨128,.int 128 568,.str ⟨#[67,79,82,79,85,84,73,78,69]⟩ 569⟩,⟨256,.int 256 570,.str ⟨#[73,84,69,82,65,66,76,69,95,67,79,82,79,85,84,73,78,69]⟩ 571⟩,⟨512,.int 512 572,.str ⟨#[65,83,89,78,67,95,71,69,78,69,82,65,84,79,82]⟩ 573⟩] 10
def o3d (P:Params):Obj:=dcO #[kx P w20 165 (.str w18 655),kx P w13 166 .none,kx P w8 167 .none,kx P w9 168 (.builtin "__main__.__loader__#opaque"),kx P w21 169 .none,kx P w6 170 (.ref 6),kx P w12 171 (.ref 4),kx P w33 173 (.str w0 172),kx P w22 174 .none,kx P w42 275 (.ref 12),kx P w34 288 (.ref 38),kx P w29 324 (.ref 43),kx P w4 350 (.ref 48),kx P w3 384 (.ref 53),kx P w2 394 (.ref 61),kx P w15 551 (.ref 182),kx P w14 584 (.ref 187),kx P w5 594 (.ref 194),kx P w10 654 (.ref 232)] 19
def o29c:Obj:=nfO #[.int 2 0,.int 0 0,.ref 37,.int 9 0,.int 0 0,.ref 60,.int 18 0,.int 0 0,.ref 67,.int 102 0,.int 0 0,.ref 193,.int 115 0,.int 0 0,.ref 200]
def o188:Obj:=tpO #[] 0
def o189:Obj:=nfO #[]
def o190:Obj:=tpO #[.str ⟨#[102,108,97,103,115]⟩ 588,.str ⟨#[110,97,109,101,115]⟩ 589,.str ⟨#[105]⟩ 590,.str ⟨#[102,108,97,103]⟩ 591] 0
def o191:Obj:=tpO #[] 0
def o192:Obj:=nuO ⟨w5,w5,paramsOf (defAt 10),.stmts (bodyOf (defAt 10)),scopeOf (defAt 10),0,[],.none,.none,.none,.none,none,.none,.none,0⟩
def o193:Obj:=cdO #[.str w5 585,.str w5 586,.str w0 587,.int 102 0,.int 1 0,.int 0 0,.int 0 0,.int 3 0,.ref 188,.bool true,.int 276 0,.ref 189,.none,.ref 190,.ref 191,.ref 192,.int 592 0,.int 102 0,.str w0 593]
def o194:Obj:=fnO ⟨w5,w5,paramsOf (defAt 10),.stmts (bodyOf (defAt 10)),scopeOf (defAt 10),3,[],.none,.none,.none,.str w91 552,none,.ref 193,.none,0⟩
def o195:Obj:=tpO #[] 0
def o196:Obj:=tyO "builtin_function_or_method" #[.builtin "type.__prepare__",.type "type"]
def o197 (P:Params):Obj:=dcO #[kx P w45 604 (.str w32 595),kx P w101 606 (.str w10 605),kx P w25 608 (.int 115 607),kx P w26 616 (.ref 208),kx P w65 624 (.ref 215),kx P w66 634 (.ref 222),kx P w59 642 (.ref 229),kx P w11 647 (.ref 230)] 8
def o198:Obj:=tpO #[] 0
def o199:Obj:=nfO #[.int 117 0,.int 4 0,.ref 207,.int 123 0,.int 4 0,.ref 214,.int 129 0,.int 4 0,.ref 221,.int 156 0,.int 4 0,.ref 228]
def o200:Obj:=cdO #[.str w10 599,.str w10 600,.str w0 601,.int 115 0,.int 0 0,.int 0 0,.int 0 0,.int 0 0,.ref 198,.bool false,.int 276 0,.ref 199,.none,.none,.none,.none,.int 602 0,.int 115 0,.str w0 603]
noncomputable def o201:Obj:=⟨.type "frame",none,.plain,#[(some (.ref 200)),(some (.ref 3)),(some (.ref 197)),none,(some (.str w32 595)),none,(some (.ref 0))]⟩
def o202:Obj:=tpO #[] 0
def o203:Obj:=nfO #[]
def o204:Obj:=tpO #[.str w37 612,.str ⟨#[102,112]⟩ 613] 0
def o205:Obj:=tpO #[] 0
def o206:Obj:=nuO ⟨w26,w60,paramsOf (methAt 12 0),.stmts (bodyOf (methAt 12 0)),scopeOf (methAt 12 0),0,[],.none,.none,.none,.none,none,.none,.none,0⟩
def o207:Obj:=cdO #[.str w26 609,.str w60 610,.str w0 611,.int 117 0,.int 2 0,.int 0 0,.int 0 0,.int 3 0,.ref 202,.bool true,.int 276 0,.ref 203,.none,.ref 204,.ref 205,.ref 206,.int 614 0,.int 117 0,.str w0 615]
def o208:Obj:=fnO ⟨w26,w60,paramsOf (methAt 12 0),.stmts (bodyOf (methAt 12 0)),scopeOf (methAt 12 0),3,[],.none,.none,.none,.str w32 595,none,.ref 207,.none,0⟩
def o209:Obj:=tpO #[] 0
def o210:Obj:=nfO #[]
def o211:Obj:=tpO #[.str w37 620,.str ⟨#[99,104]⟩ 621] 0
def o212:Obj:=tpO #[] 0
def o213:Obj:=nuO ⟨w65,w47,paramsOf (methAt 12 1),.stmts (bodyOf (methAt 12 1)),scopeOf (methAt 12 1),0,[],.none,.none,.none,.none,none,.none,.none,0⟩
def o214:Obj:=cdO #[.str w65 617,.str w47 618,.str w0 619,.int 123 0,.int 1 0,.int 0 0,.int 0 0,.int 3 0,.ref 209,.bool true,.int 276 0,.ref 210,.none,.ref 211,.ref 212,.ref 213,.int 622 0,.int 123 0,.str w0 623]
def o215:Obj:=fnO ⟨w65,w47,paramsOf (methAt 12 1),.stmts (bodyOf (methAt 12 1)),scopeOf (methAt 12 1),3,[],.none,.none,.none,.str w32 595,none,.ref 214,.none,0⟩
def o216:Obj:=tpO #[] 0
def o217:Obj:=nfO #[]
def o218:Obj:=tpO #[.str w37 628,.str ⟨#[116,111,107,101,110]⟩ 629,.str ⟨#[102,105,116,101,114]⟩ 630,.str ⟨#[99,104]⟩ 631] 0
def o219:Obj:=tpO #[] 0
def o220:Obj:=nuO ⟨w66,w49,paramsOf (methAt 12 2),.stmts (bodyOf (methAt 12 2)),scopeOf (methAt 12 2),0,[],.none,.none,.none,.none,none,.none,.none,0⟩
def o221:Obj:=cdO #[.str w66 625,.str w49 626,.str w0 627,.int 129 0,.int 1 0,.int 0 0,.int 0 0,.int 3 0,.ref 216,.bool true,.int 276 0,.ref 217,.none,.ref 218,.ref 219,.ref 220,.int 632 0,.int 129 0,.str w0 633]
def o222:Obj:=fnO ⟨w66,w49,paramsOf (methAt 12 2),.stmts (bodyOf (methAt 12 2)),scopeOf (methAt 12 2),3,[],.none,.none,.none,.str w32 595,none,.ref 221,.none,0⟩
def o223:Obj:=tpO #[] 0
def o224:Obj:=nfO #[]
def o225:Obj:=tpO #[.str w37 638,.str ⟨#[116,111,107,101,110]⟩ 639] 0
def o226:Obj:=tpO #[] 0
def o227:Obj:=nuO ⟨w59,w44,paramsOf (methAt 12 3),.stmts (bodyOf (methAt 12 3)),scopeOf (methAt 12 3),0,[],.none,.none,.none,.none,none,.none,.none,0⟩
def o228:Obj:=cdO #[.str w59 635,.str w44 636,.str w0 637,.int 156 0,.int 2 0,.int 0 0,.int 0 0,.int 3 0,.ref 223,.bool true,.int 276 0,.ref 224,.none,.ref 225,.ref 226,.ref 227,.int 640 0,.int 156 0,.str w0 641]
def o229:Obj:=fnO ⟨w59,w44,paramsOf (methAt 12 3),.stmts (bodyOf (methAt 12 3)),scopeOf (methAt 12 3),3,[],.none,.none,.none,.str w32 595,none,.ref 228,.none,0⟩
def o230:Obj:=tpO #[.str ⟨#[105,110,115,116,114,101,97,109]⟩ 643,.str ⟨#[108,105,110,101,110,111]⟩ 644,.str ⟨#[112,117,115,104,98,97,99,107]⟩ 645,.str ⟨#[119,104,105,116,101,115,112,97,99,101]⟩ 646] 0
def o231 (P:Params):Obj:=dcO #[kx P w45 604 (.str w32 595),kx P w25 608 (.int 115 607),kx P w26 616 (.ref 208),kx P w65 624 (.ref 215),kx P w66 634 (.ref 222),kx P w59 642 (.ref 229),kx P w11 647 (.ref 230),kx P w43 649 (.ref 233),kx P w27 651 (.ref 234),kx P w13 652 .none] 4
noncomputable def o232:Obj:=⟨.type "type",none,.cls ⟨w10,[.type "object"],[.ref 232,.type "object"],231,w10,true,[],[],false,none,false⟩,#[none,none,(some (.str w10 597)),(some (.str w10 605)),(some (.builtin "object.__new__")),(some (.bool true))]⟩
def o233:Obj:=tyO "getset_descriptor" #[.str w43 648,.ref 232,.builtin "function.__dict__",.builtin "function.__dict__#set"]
def o234:Obj:=tyO "getset_descriptor" #[.str w27 650,.ref 232,.builtin "ExceptionGroup.__weakref__",.none]
def o235:Obj:=tyO "super" #[.ref 232,.ref 232,.ref 232]
def o236:Obj:=tyO "builtin_function_or_method" #[.builtin "object.__init_subclass__",.ref 232]
def o3e (P:Params):Obj:=dcO #[kx P w20 165 (.str w18 655),kx P w13 166 .none,kx P w8 167 .none,kx P w9 168 (.builtin "__main__.__loader__#opaque"),kx P w21 169 .none,kx P w6 170 (.ref 6),kx P w12 171 (.ref 4),kx P w33 173 (.str w0 172),kx P w22 174 .none,kx P w42 275 (.ref 12),kx P w34 288 (.ref 38),kx P w29 324 (.ref 43),kx P w4 350 (.ref 48),kx P w3 384 (.ref 53),kx P w2 394 (.ref 61),kx P w15 551 (.ref 182),kx P w14 584 (.ref 187),kx P w5 594 (.ref 194),kx P w10 654 (.ref 232),kx P w89 716 (.ref 244)] 20
noncomputable def o237:Obj:=⟨.type "list",none,.seq #[.int 173 657,.int 847 658,.int 6150 659,.int 6155 660,.int 6156 661,.int 6157 662,.int 8203 663,.int 8204 664,.int 8205 665,.int 8288 666,.int 65279 667] 0,#[]⟩
def o238:Obj:=tyO "range" #[.int 65024 668,.int 65040 669,.int 1 670]
noncomputable def o239:Obj:=⟨.type "list",none,.seq #[.int 65024 673,.int 65025 674,.int 65026 675,.int 65027 676,.int 65028 677,.int 65029 678,.int 65030 679,.int 65031 680,.int 65032 681,.int 65033 682,.int 65034 683,.int 65035 684,.int 65036 685,.int 65037 686,.int 65038 687,.int 65039 688] 18,#[]⟩
def o240:Obj:=tyO "range_iterator" #[.int 65040 0,.int 0 0,.int 1 0]
def o241:Obj:=tpO #[] 0
def o242:Obj:=tyO "StopIteration" #[.ref 241,.none,.none,.none,.bool false,.none]
noncomputable def o243:Obj:=⟨.type "list",none,.seq #[.int 173 657,.int 847 658,.int 6150 659,.int 6155 660,.int 6156 661,.int 6157 662,.int 8203 663,.int 8204 664,.int 8205 665,.int 8288 666,.int 65279 667,.int 65024 673,.int 65025 674,.int 65026 675,.int 65027 676,.int 65028 677,.int 65029 678,.int 65030 679,.int 65031 680,.int 65032 681,.int 65033 682,.int 65034 683,.int 65035 684,.int 65036 685,.int 65037 686,.int 65038 687,.int 65039 688] 0,#[]⟩
noncomputable def o244 (P:Params):Obj:=⟨.type "set",none,.set #[(65024,.int 65024 673),(65025,.int 65025 674),(65026,.int 65026 675),(65027,.int 65027 676),(65028,.int 65028 677),(65029,.int 65029 678),(6150,.int 6150 659),(65030,.int 65030 679),(65031,.int 65031 680),(65032,.int 65032 681),(65033,.int 65033 682),(6155,.int 6155 660),(6156,.int 6156 661),(6157,.int 6157 662),(8203,.int 8203 663),(8204,.int 8204 664),(8205,.int 8205 665),(65034,.int 65034 683),(65035,.int 65035 684),(65036,.int 65036 685),(65037,.int 65037 686),(65038,.int 65038 687),(65039,.int 65039 688),(173,.int 173 657),(847,.int 847 658),(8288,.int 8288 666),(65279,.int 65279 667)] 29 ⟨127,#[0,1,2,3,4,5,6,7,8,9,10,11,12,13,14,15,16,17,18,19,20,21,22,45,79,96,127],#[],0,!P.followText "set-order",2,true⟩,#[]⟩
def o245:Obj:=tyO "list_iterator" #[.none,.int 27 0]
def o246:Obj:=tpO #[] 0
def o247:Obj:=tyO "StopIteration" #[.ref 246,.none,.none,.none,.bool false,.none]
def o3f (P:Params):Obj:=dcO #[kx P w20 165 (.str w18 655),kx P w13 166 .none,kx P w8 167 .none,kx P w9 168 (.builtin "__main__.__loader__#opaque"),kx P w21 169 .none,kx P w6 170 (.ref 6),kx P w12 171 (.ref 4),kx P w33 173 (.str w0 172),kx P w22 174 .none,kx P w42 275 (.ref 12),kx P w34 288 (.ref 38),kx P w29 324 (.ref 43),kx P w4 350 (.ref 48),kx P w3 384 (.ref 53),kx P w2 394 (.ref 61),kx P w15 551 (.ref 182),kx P w14 584 (.ref 187),kx P w5 594 (.ref 194),kx P w10 654 (.ref 232),kx P w89 716 (.ref 244),kx P w16 723 (.ref 254)] 21
def o29d:Obj:=nfO #[.int 2 0,.int 0 0,.ref 37,.int 9 0,.int 0 0,.ref 60,.int 18 0,.int 0 0,.ref 67,.int 102 0,.int 0 0,.ref 193,.int 115 0,.int 0 0,.ref 200,.int 160 0,.int 0 0,.ref 253]
def o248:Obj:=tpO #[] 0
def o249:Obj:=nfO #[]
def o250:Obj:=tpO #[.str ⟨#[99,111,100,101]⟩ 720] 0
def o251:Obj:=tpO #[] 0
def o252:Obj:=nuO ⟨w16,w16,paramsOf (defAt 15),.stmts (bodyOf (defAt 15)),scopeOf (defAt 15),0,[],.none,.none,.none,.none,none,.none,.none,0⟩
def o253:Obj:=cdO #[.str w16 717,.str w16 718,.str w0 719,.int 160 0,.int 1 0,.int 0 0,.int 0 0,.int 3 0,.ref 248,.bool true,.int 276 0,.ref 249,.none,.ref 250,.ref 251,.ref 252,.int 721 0,.int 160 0,.str w0 722]
def o254:Obj:=fnO ⟨w16,w16,paramsOf (defAt 15),.stmts (bodyOf (defAt 15)),scopeOf (defAt 15),3,[],.none,.none,.none,.str w18 655,none,.ref 253,.none,0⟩
def o3g (P:Params):Obj:=dcO #[kx P w20 165 (.str w18 655),kx P w13 166 .none,kx P w8 167 .none,kx P w9 168 (.builtin "__main__.__loader__#opaque"),kx P w21 169 .none,kx P w6 170 (.ref 6),kx P w12 171 (.ref 4),kx P w33 173 (.str w0 172),kx P w22 174 .none,kx P w42 275 (.ref 12),kx P w34 288 (.ref 38),kx P w29 324 (.ref 43),kx P w4 350 (.ref 48),kx P w3 384 (.ref 53),kx P w2 394 (.ref 61),kx P w15 551 (.ref 182),kx P w14 584 (.ref 187),kx P w5 594 (.ref 194),kx P w10 654 (.ref 232),kx P w89 716 (.ref 244),kx P w16 723 (.ref 254),kx P w76 2674 (.ref 255)] 22
def o3h (P:Params):Obj:=dcO #[kx P w20 165 (.str w7 2683),kx P w13 166 .none,kx P w8 167 .none,kx P w9 168 (.builtin "__main__.__loader__#opaque"),kx P w21 169 .none,kx P w6 170 (.ref 6),kx P w12 171 (.ref 4),kx P w33 173 (.str w0 172),kx P w22 174 .none,kx P w42 275 (.ref 12),kx P w34 288 (.ref 38),kx P w29 324 (.ref 43),kx P w4 350 (.ref 48),kx P w3 384 (.ref 53),kx P w2 394 (.ref 61),kx P w15 551 (.ref 182),kx P w14 584 (.ref 187),kx P w5 594 (.ref 194),kx P w10 654 (.ref 232),kx P w89 716 (.ref 244),kx P w16 723 (.ref 254),kx P w76 2674 (.ref 255),kx P w24 2682 (.ref 300),kx P w31 2695 (.ref 307),kx P w17 2701 (.ref 312)] 25
def o29e:Obj:=nfO #[.int 2 0,.int 0 0,.ref 37,.int 9 0,.int 0 0,.ref 60,.int 18 0,.int 0 0,.ref 67,.int 102 0,.int 0 0,.ref 193,.int 115 0,.int 0 0,.ref 200,.int 160 0,.int 0 0,.ref 253,.int 163 0,.int 0 0,.ref 299,.int 169 0,.int 0 0,.ref 306,.int 178 0,.int 0 0,.ref 311]
def o294:Obj:=tpO #[] 0
def o295:Obj:=nfO #[]
def o296:Obj:=tpO #[.str ⟨#[99,111,100,101]⟩ 2678,.str ⟨#[114]⟩ 2679] 0
def o297:Obj:=tpO #[] 0
def o298:Obj:=nuO ⟨w24,w24,paramsOf (defAt 17),.stmts (bodyOf (defAt 17)),scopeOf (defAt 17),0,[],.none,.none,.none,.none,none,.none,.none,0⟩
def o299:Obj:=cdO #[.str w24 2675,.str w24 2676,.str w0 2677,.int 163 0,.int 1 0,.int 0 0,.int 0 0,.int 3 0,.ref 294,.bool true,.int 276 0,.ref 295,.none,.ref 296,.ref 297,.ref 298,.int 2680 0,.int 163 0,.str w0 2681]
def o300:Obj:=fnO ⟨w24,w24,paramsOf (defAt 17),.stmts (bodyOf (defAt 17)),scopeOf (defAt 17),3,[],.none,.none,.none,.str w18 655,none,.ref 299,.none,0⟩
def o301:Obj:=tpO #[] 0
def o302:Obj:=nfO #[]
def o303:Obj:=tpO #[.str ⟨#[116,101,120,116]⟩ 2688,.str ⟨#[116,97,112,101]⟩ 2689,.str ⟨#[114,101,97,100]⟩ 2690] 0
def o304:Obj:=tpO #[.str ⟨#[116,101,120,116]⟩ 2691,.str ⟨#[112,108,97,99,101]⟩ 2692] 0
def o305:Obj:=nuO ⟨w31,w31,paramsOf (defAt 19),.stmts (bodyOf (defAt 19)),scopeOf (defAt 19),0,[],.none,.none,.none,.none,none,.none,.none,0⟩
def o306:Obj:=cdO #[.str w31 2685,.str w31 2686,.str w0 2687,.int 169 0,.int 1 0,.int 0 0,.int 0 0,.int 3 0,.ref 301,.bool true,.int 276 0,.ref 302,.none,.ref 303,.ref 304,.ref 305,.int 2693 0,.int 169 0,.str w0 2694]
def o307:Obj:=fnO ⟨w31,w31,paramsOf (defAt 19),.stmts (bodyOf (defAt 19)),scopeOf (defAt 19),3,[],.none,.none,.none,.str w7 2683,none,.ref 306,.none,0⟩
def o308:Obj:=tpO #[] 0
def o309:Obj:=nfO #[]
def o310:Obj:=nuO ⟨w17,w17,paramsOf (defAt 20),.stmts (bodyOf (defAt 20)),scopeOf (defAt 20),0,[],.none,.none,.none,.none,none,.none,.none,0⟩
def o311:Obj:=cdO #[.str w17 2696,.str w17 2697,.str w0 2698,.int 178 0,.int 1 0,.int 0 0,.int 0 0,.int 3 0,.ref 308,.bool true,.int 276 0,.ref 309,.none,.none,.none,.ref 310,.int 2699 0,.int 178 0,.str w0 2700]
def o312:Obj:=fnO ⟨w17,w17,paramsOf (defAt 20),.stmts (bodyOf (defAt 20)),scopeOf (defAt 20),3,[],.none,.none,.none,.str w7 2683,none,.ref 311,.none,0⟩
def o3i (P:Params):Obj:=dcO #[kx P w20 165 (.str w7 2683),kx P w13 166 .none,kx P w8 167 .none,kx P w9 168 (.builtin "__main__.__loader__#opaque"),kx P w21 169 .none,kx P w6 170 (.ref 6),kx P w12 171 (.ref 4),kx P w33 173 (.str w0 172),kx P w22 174 .none,kx P w42 275 (.ref 12),kx P w34 288 (.ref 38),kx P w29 324 (.ref 43),kx P w4 350 (.ref 48),kx P w3 384 (.ref 53),kx P w2 394 (.ref 61),kx P w15 551 (.ref 182),kx P w14 584 (.ref 187),kx P w5 594 (.ref 194),kx P w10 654 (.ref 232),kx P w89 716 (.ref 244),kx P w16 723 (.ref 254),kx P w76 2674 (.ref 255),kx P w24 2682 (.ref 300),kx P w31 2695 (.ref 307),kx P w17 2701 (.ref 312),kx P w38 2707 (.ref 317),kx P w28 2713 (.ref 322),kx P w39 2719 (.ref 327),kx P w35 2725 (.ref 332),kx P w40 2731 (.ref 337),kx P w36 2737 (.ref 342),kx P w41 2743 (.ref 347),kx P w98 2749 (.ref 352)] 33
def o29f:Obj:=nfO #[.int 2 0,.int 0 0,.ref 37,.int 9 0,.int 0 0,.ref 60,.int 18 0,.int 0 0,.ref 67,.int 102 0,.int 0 0,.ref 193,.int 115 0,.int 0 0,.ref 200,.int 160 0,.int 0 0,.ref 253,.int 163 0,.int 0 0,.ref 299,.int 169 0,.int 0 0,.ref 306,.int 178 0,.int 0 0,.ref 311,.int 181 0,.int 0 0,.ref 316,.int 193 0,.int 0 0,.ref 321,.int 197 0,.int 0 0,.ref 326,.int 211 0,.int 0 0,.ref 331,.int 226 0,.int 0 0,.ref 336,.int 237 0,.int 0 0,.ref 341,.int 248 0,.int 0 0,.ref 346,.int 251 0,.int 0 0,.ref 351]
def o313:Obj:=tpO #[] 0
def o314:Obj:=nfO #[]
def o315:Obj:=nuO ⟨w38,w38,paramsOf (defAt 21),.stmts (bodyOf (defAt 21)),scopeOf (defAt 21),0,[],.none,.none,.none,.none,none,.none,.none,0⟩
def o316:Obj:=cdO #[.str w38 2702,.str w38 2703,.str w0 2704,.int 181 0,.int 2 0,.int 0 0,.int 0 0,.int 3 0,.ref 313,.bool true,.int 276 0,.ref 314,.none,.none,.none,.ref 315,.int 2705 0,.int 181 0,.str w0 2706]
def o317:Obj:=fnO ⟨w38,w38,paramsOf (defAt 21),.stmts (bodyOf (defAt 21)),scopeOf (defAt 21),3,[],.none,.none,.none,.str w7 2683,none,.ref 316,.none,0⟩
def o318:Obj:=tpO #[] 0
def o319:Obj:=nfO #[]
def o320:Obj:=nuO ⟨w28,w28,paramsOf (defAt 22),.stmts (bodyOf (defAt 22)),scopeOf (defAt 22),0,[],.none,.none,.none,.none,none,.none,.none,0⟩
def o321:Obj:=cdO #[.str w28 2708,.str w28 2709,.str w0 2710,.int 193 0,.int 3 0,.int 0 0,.int 0 0,.int 3 0,.ref 318,.bool true,.int 276 0,.ref 319,.none,.none,.none,.ref 320,.int 2711 0,.int 193 0,.str w0 2712]
def o322:Obj:=fnO ⟨w28,w28,paramsOf (defAt 22),.stmts (bodyOf (defAt 22)),scopeOf (defAt 22),3,[],.none,.none,.none,.str w7 2683,none,.ref 321,.none,0⟩
def o323:Obj:=tpO #[] 0
def o324:Obj:=nfO #[]
def o325:Obj:=nuO ⟨w39,w39,paramsOf (defAt 23),.stmts (bodyOf (defAt 23)),scopeOf (defAt 23),0,[],.none,.none,.none,.none,none,.none,.none,0⟩
def o326:Obj:=cdO #[.str w39 2714,.str w39 2715,.str w0 2716,.int 197 0,.int 1 0,.int 0 0,.int 0 0,.int 3 0,.ref 323,.bool true,.int 276 0,.ref 324,.none,.none,.none,.ref 325,.int 2717 0,.int 197 0,.str w0 2718]
def o327:Obj:=fnO ⟨w39,w39,paramsOf (defAt 23),.stmts (bodyOf (defAt 23)),scopeOf (defAt 23),3,[],.none,.none,.none,.str w7 2683,none,.ref 326,.none,0⟩
def o328:Obj:=tpO #[] 0
def o329:Obj:=nfO #[]
def o330:Obj:=nuO ⟨w35,w35,paramsOf (defAt 24),.stmts (bodyOf (defAt 24)),scopeOf (defAt 24),0,[],.none,.none,.none,.none,none,.none,.none,0⟩
def o331:Obj:=cdO #[.str w35 2720,.str w35 2721,.str w0 2722,.int 211 0,.int 2 0,.int 0 0,.int 0 0,.int 3 0,.ref 328,.bool true,.int 276 0,.ref 329,.none,.none,.none,.ref 330,.int 2723 0,.int 211 0,.str w0 2724]
def o332:Obj:=fnO ⟨w35,w35,paramsOf (defAt 24),.stmts (bodyOf (defAt 24)),scopeOf (defAt 24),3,[],.none,.none,.none,.str w7 2683,none,.ref 331,.none,0⟩
def o333:Obj:=tpO #[] 0
def o334:Obj:=nfO #[]
def o335:Obj:=nuO ⟨w40,w40,paramsOf (defAt 25),.stmts (bodyOf (defAt 25)),scopeOf (defAt 25),0,[],.none,.none,.none,.none,none,.none,.none,0⟩
def o336:Obj:=cdO #[.str w40 2726,.str w40 2727,.str w0 2728,.int 226 0,.int 3 0,.int 0 0,.int 0 0,.int 3 0,.ref 333,.bool true,.int 276 0,.ref 334,.none,.none,.none,.ref 335,.int 2729 0,.int 226 0,.str w0 2730]
def o337:Obj:=fnO ⟨w40,w40,paramsOf (defAt 25),.stmts (bodyOf (defAt 25)),scopeOf (defAt 25),3,[],.none,.none,.none,.str w7 2683,none,.ref 336,.none,0⟩
def o338:Obj:=tpO #[] 0
def o339:Obj:=nfO #[]
def o340:Obj:=nuO ⟨w36,w36,paramsOf (defAt 26),.stmts (bodyOf (defAt 26)),scopeOf (defAt 26),0,[],.none,.none,.none,.none,none,.none,.none,0⟩
def o341:Obj:=cdO #[.str w36 2732,.str w36 2733,.str w0 2734,.int 237 0,.int 2 0,.int 0 0,.int 0 0,.int 3 0,.ref 338,.bool true,.int 276 0,.ref 339,.none,.none,.none,.ref 340,.int 2735 0,.int 237 0,.str w0 2736]
def o342:Obj:=fnO ⟨w36,w36,paramsOf (defAt 26),.stmts (bodyOf (defAt 26)),scopeOf (defAt 26),3,[],.none,.none,.none,.str w7 2683,none,.ref 341,.none,0⟩
def o343:Obj:=tpO #[] 0
def o344:Obj:=nfO #[]
def o345:Obj:=nuO ⟨w41,w41,paramsOf (defAt 27),.stmts (bodyOf (defAt 27)),scopeOf (defAt 27),0,[],.none,.none,.none,.none,none,.none,.none,0⟩
def o346:Obj:=cdO #[.str w41 2738,.str w41 2739,.str w0 2740,.int 248 0,.int 1 0,.int 0 0,.int 0 0,.int 3 0,.ref 343,.bool true,.int 276 0,.ref 344,.none,.none,.none,.ref 345,.int 2741 0,.int 248 0,.str w0 2742]
def o347:Obj:=fnO ⟨w41,w41,paramsOf (defAt 27),.stmts (bodyOf (defAt 27)),scopeOf (defAt 27),3,[],.none,.none,.none,.str w7 2683,none,.ref 346,.none,0⟩
def o348:Obj:=tpO #[] 0
def o349:Obj:=nfO #[]
def o350:Obj:=nuO ⟨w98,w98,paramsOf (defAt 28),.stmts (bodyOf (defAt 28)),scopeOf (defAt 28),0,[],.none,.none,.none,.none,none,.none,.none,0⟩
def o351:Obj:=cdO #[.str w98 2744,.str w98 2745,.str w0 2746,.int 251 0,.int 1 0,.int 0 0,.int 0 0,.int 3 0,.ref 348,.bool true,.int 276 0,.ref 349,.none,.none,.none,.ref 350,.int 2747 0,.int 251 0,.str w0 2748]
def o352:Obj:=fnO ⟨w98,w98,paramsOf (defAt 28),.stmts (bodyOf (defAt 28)),scopeOf (defAt 28),3,[],.none,.none,.none,.str w7 2683,none,.ref 351,.none,0⟩
def qa (r:List Obj):List Obj:=o4::o5::o6::o7::o8::o9::o10::r
def qb (P:Params) (r:List Obj):List Obj:=o12::o13 P::o14::o15::o16::o17::o18::o19::o20 P::o21 P::o22::o23::o24::o25::o26::o27::r
def qc (r:List Obj):List Obj:=o32::o33::o34::o35::o36::o37::o38::o39::o40::o41::o42::o43::o44::o45::o46::o47::o48::o49::o50::o51::o52::o53::o54::o55::o56::o57::o58::o59::o60::o61::r
def qd (P:Params) (r:List Obj):List Obj:=o62::o63::o64 P::o65::o66::o67::o68::o69::o70::o71::o72::o73::o74::o75::o76::o77::o78::o79::o80::o81::o82::o83::o84::o85::o86::o87::o88::o89::o90::o91::o92::o93::o94::o95::o96::o97::o98::o99::o100::o101::o102::o103::o104::o105::o106::o107::o108::o109::o110::o111::o112::o113::o114::o115::o116::o117::o118::o119::o120::o121::o122::o123::o124::o125::o126::o127::o128::o129::o130::o131::o132::o133::o134::o135::o136::o137::o138::o139::o140::o141::o142::o143::o144::o145::o146::o147::o148::o149::o150::o151::o152::o153::o154::o155::o156::o157::o158::o159::o160::o161::o162::o163::o164::o165::o166::o167::o168::o169::o170::o171::o172::o173::o174::o175::o176::o177::o178::o179::o180::o181 P::o182::o183::o184::o185::o186::r
def qf (P:Params) (r:List Obj):List Obj:=o188::o189::o190::o191::o192::o193::o194::o195::o196::o197 P::o198::o199::o200::o201::o202::o203::o204::o205::o206::o207::o208::o209::o210::o211::o212::o213::o214::o215::o216::o217::o218::o219::o220::o221::o222::o223::o224::o225::o226::o227::o228::o229::o230::o231 P::o232::o233::o234::o235::o236::r
def qg (P:Params) (r:List Obj):List Obj:=o237::o238::o239::o240::o241::o242::o243::o244 P::o245::o246::o247::r
def qh (r:List Obj):List Obj:=o248::o249::o250::o251::o252::o253::o254::r
def qx (x:Nat→Obj) (r:List Obj):List Obj:=x 0::x 1::x 2::x 3::x 4::x 5::x 6::x 7::x 8::x 9::x 10::x 11::x 12::x 13::x 14::x 15::x 16::x 17::x 18::x 19::x 20::x 21::x 22::x 23::x 24::x 25::x 26::x 27::x 28::x 29::x 30::x 31::x 32::x 33::x 34::x 35::x 36::x 37::x 38::r
def qy (r:List Obj):List Obj:=o294::o295::o296::o297::o298::o299::o300::o301::o302::o303::o304::o305::o306::o307::o308::o309::o310::o311::o312::r
def qz (r:List Obj):List Obj:=o313::o314::o315::o316::o317::o318::o319::o320::o321::o322::o323::o324::o325::o326::o327::o328::o329::o330::o331::o332::o333::o334::o335::o336::o337::o338::o339::o340::o341::o342::o343::o344::o345::o346::o347::o348::o349::o350::o351::o352::r
def hi (P:Params):Heap:=⟨⟨o0 P::o1 P::o2 P::o3 P::qa (o11 P::qb P ([]))⟩,{}⟩
def h0 (P:Params):Heap:=⟨⟨o0 P::o1 P::o2 P::o3 P::qa (o11a P::qb P ([]))⟩,{}⟩
def hm (P:Params):Heap:=⟨⟨o0 P::o1 P::o2 P::o3 P::qa (o11a P::qb P (o28::o29::o30::[]))⟩,{}⟩
def hb (P:Params):Heap:=⟨⟨o0 P::o1 P::o2 P::o3 P::qa (o11a P::qb P (o28::o29::o30::o31::[]))⟩,{}⟩
def h6 (P:Params):Heap:=⟨⟨o0 P::o1 P::o2 P::o3a P::qa (o11a P::qb P (o28::o29a::o30::o31::qc ([])))⟩,{}⟩
def h8 (P:Params):Heap:=⟨⟨o0 P::o1 P::o2 P::o3b P::qa (o11a P::qb P (o28::o29b::o30::o31::qc (qd P ([]))))⟩,{}⟩
def h9 (P:Params):Heap:=⟨⟨o0 P::o1 P::o2 P::o3c P::qa (o11a P::qb P (o28::o29b::o30::o31::qc (qd P (o187::[]))))⟩,{}⟩
def h13 (P:Params):Heap:=⟨⟨o0 P::o1 P::o2 P::o3d P::qa (o11a P::qb P (o28::o29c::o30::o31::qc (qd P (o187::qf P ([])))))⟩,{}⟩
def h14 (P:Params):Heap:=⟨⟨o0 P::o1 P::o2 P::o3e P::qa (o11a P::qb P (o28::o29c::o30::o31::qc (qd P (o187::qf P (qg P ([]))))))⟩,{}⟩
def h15 (P:Params):Heap:=⟨⟨o0 P::o1 P::o2 P::o3f P::qa (o11a P::qb P (o28::o29d::o30::o31::qc (qd P (o187::qf P (qg P (qh ([])))))))⟩,{}⟩
def h16 (P:Params) (x:Nat→Obj):Heap:=⟨⟨o0 P::o1 P::o2 P::o3g P::qa (o11a P::qb P (o28::o29d::o30::o31::qc (qd P (o187::qf P (qg P (qh (qx x ([]))))))))⟩,{}⟩
def h20 (P:Params) (x:Nat→Obj):Heap:=⟨⟨o0 P::o1 P::o2 P::o3h P::qa (o11a P::qb P (o28::o29e::o30::o31::qc (qd P (o187::qf P (qg P (qh (qx x (qy ([])))))))))⟩,{}⟩
def h28 (P:Params) (x:Nat→Obj):Heap:=⟨⟨o0 P::o1 P::o2 P::o3i P::qa (o11a P::qb P (o28::o29f::o30::o31::qc (qd P (o187::qf P (qg P (qh (qx x (qy (qz ([]))))))))))⟩,{}⟩
end
end Hp
set_option tactic.hygienic true
set_option hygiene true
noncomputable def Γ0:Ctx:=⟨.builtin "claim.caller" {},none,none,[],none⟩
noncomputable def envT:Env:={ scope:=PySem.Challenge.pw_uc0056_02.main.scope,locals:=mainNs,globals:=mainNs,cells:=[],code:=.ref 30,frame:=some 31 }
noncomputable def bodyT:List Stmt:=(List.range' 1 28).map defAt
noncomputable def ΓT:Ctx:=Γ0.enter (.body bodyT envT) none default
noncomputable abbrev bigT (w:World){α:Type} (x:Sem α) (p:Pos) (s:Shared):Option (BRes α):=big (denote treeTable) PySem.Challenge.pw_uc0056_02 w 100000 α ΓT x p s
noncomputable abbrev row1:="special-get-raises"
theorem den_q:denote treeTable=PySem.W.Fast.tw11892475500146522536 PySem.W.Fast.tw14364793385576792824:=by
 rw[PySem.W.Fast.te11892475500146522536,PySem.W.Fast.te14364793385576792824]
theorem run_a (w:World) (os:OsState) (p:Pos):bigT w (execs ((List.range' 1 6).map defAt) envT) p ⟨Hp.hb w.params,#[],{},282,os⟩=some (.ok .next,⟨9,0,17,20⟩,⟨Hp.h6 w.params,#[],{},395,os⟩):=by
 unfold bigT
 rw[den_q,PySem.W.Fast.te12563942051412417395]
 kernel_rfl
theorem run_b (w:World) (os:OsState) (p:Pos):bigT w (execs ((List.range' 7 2).map defAt) envT) p ⟨Hp.h6 w.params,#[],{},395,os⟩=some (.ok .next,⟨100,0,100,8⟩,⟨Hp.h8 w.params,#[],{},554,os⟩):=by
 unfold bigT
 rw[den_q,PySem.W.Fast.te12563942051412417395]
 kernel_rfl
theorem run_c (w:World) (os:OsState) (p:Pos):∀ b,bigT (w.withFollow row1 b) (execs [defAt 9] envT) p ⟨Hp.h8 w.params,#[],{},554,os⟩=some (.ok .next,⟨101,0,101,19⟩,⟨Hp.h9 w.params,#[],{},585,os⟩):=by
 unfold bigT
 rw[den_q,PySem.W.Fast.te12563942051412417395]
 intro b
 cases b <;> kernel_rfl
theorem run_d (w:World) (os:OsState) (p:Pos):bigT w (execs ((List.range' 10 4).map defAt) envT) p ⟨Hp.h9 w.params,#[],{},585,os⟩=some (.ok .next,⟨158,0,158,8⟩,⟨Hp.h13 w.params,#[],{},657,os⟩):=by
 unfold bigT
 rw[den_q,PySem.W.Fast.te12563942051412417395]
 kernel_rfl
theorem run_e (w:World) (os:OsState) (p:Pos):∀ b,bigT (w.withFollow row1 b) (execs [defAt 14] envT) p ⟨Hp.h13 w.params,#[],{},657,os⟩=some (.ok .next,⟨159,0,159,6⟩,⟨Hp.h14 w.params,#[],{},717,os⟩):=by
 unfold bigT
 rw[den_q,PySem.W.Fast.te12563942051412417395]
 intro b
 cases b <;> kernel_rfl
theorem run_f (w:World) (os:OsState) (p:Pos):bigT w (execs [defAt 15] envT) p ⟨Hp.h14 w.params,#[],{},717,os⟩=some (.ok .next,⟨160,0,161,30⟩,⟨Hp.h15 w.params,#[],{},724,os⟩):=by
 unfold bigT
 rw[den_q,PySem.W.Fast.te12563942051412417395]
 kernel_rfl
theorem run_g (w:World) (os:OsState) (p:Pos) (x:Nat→Obj):bigT w (execs ((List.range' 17 4).map defAt) envT) p ⟨Hp.h16 w.params x,#[],{},2675,os⟩=some (.ok .next,⟨178,0,180,96⟩,⟨Hp.h20 w.params x,#[],{},2702,os⟩):=by
 unfold bigT
 rw[den_q,PySem.W.Fast.te12563942051412417395]
 kernel_rfl
theorem run_h (w:World) (os:OsState) (p:Pos) (x:Nat→Obj):bigT w (execs ((List.range' 21 8).map defAt) envT) p ⟨Hp.h20 w.params x,#[],{},2702,os⟩=some (.ok .next,⟨251,0,270,104⟩,⟨Hp.h28 w.params x,#[],{},2750,os⟩):=by
 unfold bigT
 rw[den_q,PySem.W.Fast.te12563942051412417395]
 kernel_rfl
set_option tactic.hygienic false
set_option hygiene false
noncomputable abbrev pwT:=PySem.Challenge.pw_uc0056_02
theorem run_0 (w:World):importEnds treeTable (opening pwT) w 1000 (start (opening pwT)).1 (start (opening pwT)).2=some ⟨Hp.hi w.params,#[],{},276,(start (opening pwT)).1.os⟩:=by
 rw[PySem.W.Fast.te10274390034422433532,PySem.W.Fast.te1435165496053646825,PySem.W.Fast.te14364793385576792824]
 kernel_rfl
theorem fence_0 (w:World) (os:OsState):fenceModules? pwT ⟨Hp.hi w.params,#[],{},276,os⟩=some ⟨Hp.h0 w.params,#[],{},276,os⟩:=by
 rw[PySem.W.Fast.te14289696077712309145]
 kernel_rfl
theorem body_eq:behindTheImports pwT=bodyT:=by kernel_rfl
noncomputable def ΓS:Ctx:=⟨.builtin "claim.caller" {},none,none,[],none⟩
theorem run_p (w:World) (os:OsState):big (denote treeTable) pwT w 1000 _ ΓS (moduleCode pwT.main) default ⟨Hp.h0 w.params,#[],{},276,os⟩=some (.ok (.ref 30),default,⟨Hp.hm w.params,#[],{},282,os⟩):=by
 rw[den_q,PySem.W.Fast.te17154629097778926822]
 kernel_rfl
theorem run_q (w:World) (os:OsState):big (denote treeTable) pwT w 1000 _ ΓS (newBodyFrame (.ref 30) mainNs mainNs) default ⟨Hp.hm w.params,#[],{},282,os⟩=some (.ok 31,default,⟨Hp.hb w.params,#[],{},282,os⟩):=by
 rw[den_q,PySem.W.Fast.te12822647523644345616]
 kernel_rfl
theorem run_r (w:World) (os:OsState):bigT w (blockStart bodyT envT) default ⟨Hp.hb w.params,#[],{},282,os⟩=some (.ok (),default,⟨Hp.hb w.params,#[],{},282,os⟩):=by
 unfold bigT
 rw[den_q,PySem.W.Fast.te1066825118222455980]
 kernel_rfl
noncomputable def HL (base L:List Obj):Heap:=⟨⟨base++L⟩,{}⟩
noncomputable def SL (base L:List Obj) (k:Nat) (os:OsState):Shared:=⟨HL base L,#[],{},k,os⟩
noncomputable def dO (es:Array DictEntry) (n:Nat):Obj:=⟨.type "dict",none,.dict es n,#[]⟩
section
variable {base L:List Obj}{i k n:Nat}{os:OsState}{es:Array DictEntry}
theorem HL_push (o:Obj):(HL base L).push o=HL base (L++[o]):=by
 unfold HL Heap.push
 simp
theorem HL_size:(HL base L).objs.size=base.length+L.length:=by unfold HL;simp
theorem HL_get (h:L[i]? = some (dO es n)):(HL base L).get? (base.length+i)=some (dO es n):=by
 have:(HL base L).objs[base.length+i]? = some (dO es n):=by
  unfold HL
  simp[List.getElem?_append_right,h]
 unfold Heap.get?
 rw[this]
 rfl
theorem HL_upd {o:Obj} (f:Obj→Obj) (h:L[i]? = some o):(HL base L).update (base.length+i) f=HL base (L.set i (f o)):=by
 unfold HL Heap.update
 simp only[List.modify_toArray,Heap.mk.injEq,Array.mk.injEq,and_true]
 apply List.ext_getElem?
 intro j
 rw[List.getElem?_modify]
 by_cases q:j<base.length
 ·rw[List.getElem?_append_left q,List.getElem?_append_left q]
  have:¬ base.length+i=j:=by lia
  simp[this]
 ·have q:=Nat.not_lt.mp q
  rw[List.getElem?_append_right q,List.getElem?_append_right q]
  by_cases e:base.length+i=j
  ·subst e
   obtain ⟨lt,e⟩:=List.getElem?_eq_some_iff.mp h
   simp[h,lt,e]
  ·have:¬ i=j-base.length:=by lia
   simp[e,this]
end
def EntT (e:DictEntry) (kv:Int×List Nat):Prop:=∃ t t',e=⟨hashInt kv.1,.int kv.1 t,.str ⟨kv.2.toArray⟩ t'⟩
def Ents:List DictEntry→List (Int×List Nat)→Prop
 |[],[]=>True
 |e::es,kv::kvs=>EntT e kv∧Ents es kvs
 |_,_=>False
theorem Ents.length:∀ {es:List DictEntry}{kvs:List (Int×List Nat)},Ents es kvs→es.length=kvs.length
 |[],[],_=>rfl
 |_::_,_::_,h=>by rw[List.length_cons,List.length_cons,Ents.length h.2]
 |[],_::_,h=>h.elim
 |_::_,[],h=>h.elim
theorem Ents.append:∀ {es fs:List DictEntry}{kvs jvs:List (Int×List Nat)},Ents es kvs→Ents fs jvs→Ents (es++fs) (kvs++jvs)
 |[],_,[],_,_,h=>h
 |_::_,_,_::_,_,h,h'=>⟨h.1,Ents.append h.2 h'⟩
 |[],_,_::_,_,h,_=>h.elim
 |_::_,_,[],_,h,_=>h.elim
theorem Ents.mem:∀ {es:List DictEntry}{kvs:List (Int×List Nat)}{e:DictEntry},Ents es kvs→e∈es→∃ kv∈kvs,EntT e kv
 |_::_,kv::_,e,h,m=>by
  rcases List.mem_cons.mp m with rfl |m
  ·exact⟨kv,List.mem_cons_self,h.1⟩
  ·obtain ⟨x,hx,y⟩:=Ents.mem h.2 m
   exact⟨x,List.mem_cons_of_mem _ hx,y⟩
 |[],_,_,_,m=>by cases m
 |_::_,[],_,h,_=>h.elim
theorem Ents.get:∀ {es:List DictEntry}{kvs:List (Int×List Nat)}{i:Nat}{e:DictEntry},Ents es kvs→es[i]? = some e→∃ kv,kvs[i]? = some kv∧EntT e kv
 |_::_,kv::_,0,e,h,m=>by cases m;exact⟨kv,rfl,h.1⟩
 |_::_,_::_,i+1,e,h,m=>Ents.get (i:=i) h.2 m
 |[],_,_,_,_,m=>by simp at m
 |_::_,[],_,_,h,_=>h.elim
theorem Ents.keys {es:Array DictEntry}{kvs:List (Int×List Nat)} (h:Ents es.toList kvs):PySem.IntKeys es:=fun e he=>by
 obtain ⟨kv,_,t,t',rfl⟩:=h.mem (Array.mem_toList_iff.mpr he)
 exact⟨_,_,rfl,rfl⟩
theorem Ents.none {es:Array DictEntry}{kvs:List (Int×List Nat)}{k:Int} (h:Ents es.toList kvs) (hk:k ∉ kvs.map (·.1)):es.findIdx? (fun e=>Value.isInt k e.key)=none:=by
 rw[Array.findIdx?_eq_none_iff]
 intro e he
 obtain ⟨kv,hm,t,t',rfl⟩:=h.mem (Array.mem_toList_iff.mpr he)
 cases q:Value.isInt k (.int kv.1 t) with
 |false=>rfl
 |true=>exact absurd (List.mem_map.mpr ⟨kv,hm,by simpa [Value.isInt] using q⟩) hk
section
variable {prog:Program}{w:World}{A:Around}{E:Value→Shared→Prop}{base L:List Obj}{i k n:Nat}{os:OsState}{es:Array DictEntry}{kvs:List (Int×List Nat)}
theorem put_new {key:Int}{t:Tok}{v:Value}{Q:Unit→Shared→Prop} (h:L[i]? = some (dO es n)) (hk:Ents es.toList kvs) (hn:key ∉ kvs.map (·.1)) (hz:es.size≤1000)
  (hQ:Q () (SL base (L.set i (dO (es.push ⟨hashInt key,.int key t,v⟩) (n+1))) k os)) :
  wpAny (model prog w) A (dictPut (base.length+i) (hashInt key) (.int key t) v) Q E (SL base L k os):=by
 unfold dictPut
 refine wpAny_bind (wpAny_dictFind_int (s:=SL base L k os) (HL_get h) rfl hk.keys ?_)
 rw[hk.none hn]
 refine wpAny_updateDictKeys (s:=SL base L k os) (HL_get h) rfl ?_ (Nat.le_trans hz (by rw[sizeLine_eq];decide))
 unfold SL
 dsimp only
 rw[HL_upd _ h]
 exact hQ
theorem set_new {key:Int}{t:Tok}{v:Value}{Q:Unit→Shared→Prop} (h:L[i]? = some (dO es n)) (hk:Ents es.toList kvs) (hn:key ∉ kvs.map (·.1)) (hz:es.size≤1000)
  (hQ:Q () (SL base (L.set i (dO (es.push ⟨hashInt key,.int key t,v⟩) (n+1))) (k+1) os)) :
  wpAny (model prog w) A (dictSet (base.length+i) (.int key t) v) Q E (SL base L k os):=by
 unfold dictSet
 refine wpAny_holding (wpAny_bind (wpAny_pyHash_int ?_))
 unfold dictSetHashed
 refine wpAny_holding (wpAny_bind (wpAny_dictFind_int (s:=SL base L (k+1) os) (HL_get h) rfl hk.keys ?_))
 rw[hk.none hn]
 refine wpAny_bind (wpAny_rule (wpAny_updateDictKeys (s:=SL base L (k+1) os) (HL_get h) rfl ?_ (Nat.le_trans hz (by rw[sizeLine_eq];decide))))
 unfold SL
 dsimp only
 rw[HL_upd _ h]
 exact hQ
def CInt (t:Sem Value) (i:Int):Prop:=∀ (M:Model) (A:Around) (Q:Value→Shared→Prop) (E:Value→Shared→Prop) (s:Shared),Q (.int i s.toks) { s with toks:=s.toks+1 }→wpAny M A t Q E s
def CStr (t:Sem Value) (x:List Nat):Prop:=∀ (M:Model) (A:Around) (Q:Value→Shared→Prop) (E:Value→Shared→Prop) (s:Shared),Q (.str ⟨x.toArray⟩ s.toks) { s with toks:=s.toks+1 }→wpAny M A t Q E s
def Prs:List (Sem Value×Sem Value)→List (Int×List Nat)→Prop
 |[],[]=>True
 |p::ps,kv::kvs=>(CInt p.1 kv.1∧CStr p.2 kv.2)∧Prs ps kvs
 |_,_=>False
theorem Prs.length:∀ {es:List (Sem Value×Sem Value)}{kvs:List (Int×List Nat)},Prs es kvs→es.length=kvs.length
 |[],[],_=>rfl
 |_::_,_::_,h=>by rw[List.length_cons,List.length_cons,Prs.length h.2]
 |[],_::_,h=>h.elim
 |_::_,[],h=>h.elim
theorem fresh_key {acc kvs:List (Int×List Nat)}{kv:Int×List Nat} (hn:((acc++kv::kvs).map (·.1)).Nodup):kv.1 ∉ acc.map (·.1):=by
 rw[List.map_append,List.map_cons,List.nodup_append] at hn
 exact fun h=>hn.2.2 _ h _ List.mem_cons_self rfl
theorem sub_long {Q:PUnit→Shared→Prop}:∀ (ps:List (Sem Value×Sem Value)) (kvs acc:List (Int×List Nat)) (L:List Obj) (k n:Nat) (es:Array DictEntry),Prs ps kvs→L[i]? = some (dO es n)→Ents es.toList acc→((acc++kvs).map (·.1)).Nodup→acc.length+kvs.length≤1000 →
  (∀ es' n',Ents es'.toList (acc++kvs)→Q PUnit.unit (SL base (L.set i (dO es' n')) (k+3*kvs.length) os)) →
  wpAny (model prog w) A (forIn ps PUnit.unit fun (x:Sem Value×Sem Value) (_:PUnit)=>(do
   let kv ← x.1
   let vv ← holding [kv] x.2
   holding [kv,vv] (dictSet (base.length+i) kv vv)
   pure (ForInStep.yield PUnit.unit):Sem (ForInStep PUnit))) Q E (SL base L k os)
 |[],[],acc,L,k,n,es,_,hL,he,hn,hz,hQ=>by
  rw[List.forIn_nil]
  have:=hQ es n (by simpa using he)
  rw[show L.set i (dO es n)=L from by
   obtain ⟨lt,e⟩:=List.getElem?_eq_some_iff.mp hL
   rw[← e];exact List.set_getElem_self lt] at this
  exact wpAny_pure (by simpa using this)
 |p::ps,kv::kvs,acc,L,k,n,es,hp,hL,he,hn,hz,hQ=>by
  rw[List.forIn_cons]
  have hes:=he.length
  rw[List.length_cons] at hz
  refine wpAny_bind (wpAny_bind (hp.1.1 _ _ _ _ _ ?_))
  refine wpAny_bind (wpAny_holding (hp.1.2 _ _ _ _ _ ?_))
  refine wpAny_bind (wpAny_holding (set_new (k:=k+1+1) hL he (fresh_key hn) (by simp only[Array.length_toList] at hes;lia) (wpAny_pure ?_)))
  obtain ⟨lt,_⟩:=List.getElem?_eq_some_iff.mp hL
  refine sub_long ps kvs (acc++[kv]) _ _ _ _ hp.2 (List.getElem?_set_self lt) (by rw[Array.toList_push];exact he.append ⟨⟨_,_,rfl⟩,trivial⟩) (by simpa using hn) (by simp;lia) fun es' n' h'=>?_
  have:=hQ es' n' (by simpa using h')
  rw[List.set_set]
  simpa [Nat.mul_add,Nat.add_assoc,Nat.add_comm,Nat.add_left_comm] using this
 |[],_::_,_,_,_,_,_,h,_,_,_,_,_=>h.elim
 |_::_,[],_,_,_,_,_,h,_,_,_,_,_=>h.elim
def Vls:List (Value×Value)→List (Int×List Nat)→Prop
 |[],[]=>True
 |p::ps,kv::kvs=>(∃ t t',p=(.int kv.1 t,.str ⟨kv.2.toArray⟩ t'))∧Vls ps kvs
 |_,_=>False
theorem pairs_ev {Q:List (Value×Value)→Shared→Prop}:∀ (ps:List (Sem Value×Sem Value)) (kvs:List (Int×List Nat)) (L:List Obj) (k:Nat) (Q:List (Value×Value)→Shared→Prop),Prs ps kvs→(∀ vs,Vls vs kvs→Q vs (SL base L (k+2*kvs.length) os))→wpAny (model prog w) A (evalPairs ps) Q E (SL base L k os)
 |[],[],L,k,Q,_,h=>evalPairs_nil (h [] trivial)
 |p::ps,kv::kvs,L,k,Q,hp,h=>by
  refine evalPairs_cons (hp.1.1 _ _ _ _ _ (hp.1.2 _ _ _ _ _ ?_))
  refine pairs_ev (Q:=fun _ _=>True) ps kvs L (k+1+1) _ hp.2 fun vs hv=>?_
  have:=h ((.int kv.1 k,.str ⟨kv.2.toArray⟩ (k+1))::vs) ⟨⟨_,_,rfl⟩,hv⟩
  simpa [Nat.mul_add,Nat.add_assoc,Nat.add_comm,Nat.add_left_comm,SL] using this
 |[],_::_,_,_,_,h,_=>h.elim
 |_::_,[],_,_,_,h,_=>h.elim
theorem sub_short {Q:PUnit→Shared→Prop}:∀ (ps:List (Value×Value)) (kvs acc:List (Int×List Nat)) (L:List Obj) (k n:Nat) (es:Array DictEntry),Vls ps kvs→L[i]? = some (dO es n)→Ents es.toList acc→((acc++kvs).map (·.1)).Nodup→acc.length+kvs.length≤1000 →
  (∀ es' n',Ents es'.toList (acc++kvs)→Q PUnit.unit (SL base (L.set i (dO es' n')) (k+kvs.length) os)) →
  wpAny (model prog w) A (forIn ps PUnit.unit fun (x:Value×Value) (_:PUnit)=>(do
   dictSet (base.length+i) x.1 x.2
   pure (ForInStep.yield PUnit.unit):Sem (ForInStep PUnit))) Q E (SL base L k os)
 |[],[],acc,L,k,n,es,_,hL,he,hn,hz,hQ=>by
  rw[List.forIn_nil]
  have:=hQ es n (by simpa using he)
  rw[show L.set i (dO es n)=L from by
   obtain ⟨lt,e⟩:=List.getElem?_eq_some_iff.mp hL
   rw[← e];exact List.set_getElem_self lt] at this
  exact wpAny_pure (by simpa using this)
 |p::ps,kv::kvs,acc,L,k,n,es,hp,hL,he,hn,hz,hQ=>by
  rw[List.forIn_cons]
  have hes:=he.length
  rw[List.length_cons] at hz
  obtain ⟨⟨t,t',rfl⟩,hp⟩:=hp
  refine wpAny_bind (wpAny_bind (set_new hL he (fresh_key hn) (by simp only[Array.length_toList] at hes;lia) (wpAny_pure ?_)))
  obtain ⟨lt,_⟩:=List.getElem?_eq_some_iff.mp hL
  refine sub_short ps kvs (acc++[kv]) _ _ _ _ hp (List.getElem?_set_self lt) (by rw[Array.toList_push];exact he.append ⟨⟨_,_,rfl⟩,trivial⟩) (by simpa using hn) (by simp;lia) fun es' n' h'=>?_
  have:=hQ es' n' (by simpa using h')
  rw[List.set_set]
  simpa [Nat.mul_add,Nat.add_assoc,Nat.add_comm,Nat.add_left_comm] using this
 |[],_::_,_,_,_,_,_,h,_,_,_,_,_=>h.elim
 |_::_,[],_,_,_,_,_,h,_,_,_,_,_=>h.elim
theorem sub_new {ps:List (Sem Value×Sem Value)}{Q:Addr→Shared→Prop} (hp:Prs ps kvs) (hn:(kvs.map (·.1)).Nodup) (hz:kvs.length≤1000)
  (hQ:∀ es n,Ents es.toList kvs→Q (base.length+L.length) (SL base (L++[dO es n]) (k+3*kvs.length) os)):wpAny (model prog w) A (subDict ps) Q E (SL base L k os):=by
 unfold subDict
 refine wpAny_bind (wpAny_alloc ?_)
 show wpAny _ _ _ _ _ _
 unfold SL
 dsimp only
 rw[HL_push,HL_size]
 show wpAny _ _ _ _ _ (SL base (L++[dO #[] 0]) k os)
 have h0:(L++[dO #[] 0])[L.length]? = some (dO #[] 0):=by simp
 have hs:∀ o:Obj,(L++[dO #[] 0]).set L.length o=L++[o]:=fun o=>by simp
 refine wpAny_bind (wpAny_holding ?_)
 split
 ·refine wpAny_bind (pairs_ev (Q:=fun _ _=>True) ps kvs _ _ _ hp fun vs hv=>?_)
  refine wpAny_holding (wpAny_bind (sub_short vs kvs [] _ _ _ _ hv h0 trivial (by simpa using hn) (by simpa using hz) fun es' n' h'=>wpAny_pure (wpAny_pure ?_)))
  rw[hs]
  have:=hQ es' n' (by simpa using h')
  rw[show k+2*kvs.length+kvs.length=k+3*kvs.length from by lia]
  exact this
 ·refine wpAny_bind (wpAny_rule (wpAny_bind (sub_long ps kvs [] _ _ _ _ hp h0 trivial (by simpa using hn) (by simpa using hz) fun es' n' h'=>wpAny_pure (wpAny_pure ?_))))
  rw[hs]
  exact hQ es' n' (by simpa using h')
end
section
variable {prog:Program}{w:World}{A:Around}{E:Value→Shared→Prop}{base L:List Obj}{j k n nm:Nat}{os:OsState}{es em:Array DictEntry}{kvs kvm:List (Int×List Nat)}
theorem typeIs_dict (h:L[j]? = some (dO es n)):(SL base L k os).TypeIs (.ref (base.length+j)) "dict":=⟨_,HL_get h,rfl⟩
theorem merge_new {Q:Unit→Shared→Prop} (hb:sysModules<base.length) (h0:L[0]? = some (dO em nm)) (hj:L[j+1]? = some (dO es n)) (hm:Ents em.toList kvm) (he:Ents es.toList kvs) (hne:em.size≠0)
  (hn:((kvm++kvs).map (·.1)).Nodup) (hz:kvm.length+kvs.length≤1000) (hQ:∀ em' nm',Ents em'.toList (kvm++kvs)→Q () (SL base (L.set 0 (dO em' nm')) k os)) :
  wpAny (model prog w) A (mergeMapping base.length (.ref (base.length+(j+1))) false) Q E (SL base L k os):=by
 unfold mergeMapping
 refine wpAny_bind (wpAny_isInstance (typeIs_dict hj) isSubtype_dict_dict ?_)
 rw[if_pos rfl]
 refine wpAny_bind (wpAny_specialOf (typeIs_dict hj) F.slot_dict_iter.lookup (wpAny_bind (wpAny_pure ?_)))
 simp only[beq_self_eq_true]
 have hsys:((base.length+(j+1))==sysModules)=false:=beq_eq_false_iff_ne.mpr (Nat.ne_of_gt (Nat.lt_of_lt_of_le hb (Nat.le_add_right _ _)))
 simp only[hsys,Bool.false_eq_true,if_false]
 refine wpAny_bind (wpAny_dictEntries (o:=dO em nm) (HL_get (i:=0) h0) rfl ?_)
 rw[if_neg (by simpa using hne)]
 refine wpAny_bind (wpAny_dictEntries (o:=dO es n) (HL_get hj) rfl ?_)
 refine wpAny_bind (wpAny_dictEpoch (o:=dO es n) (HL_get hj) rfl ?_)
 have hel:=he.length
 simp only[Array.length_toList] at hel
 have hml:=hm.length
 simp only[Array.length_toList] at hml
 obtain ⟨l0,_⟩:=List.getElem?_eq_some_iff.mp h0
 refine wpAny_bind ?_
 rw[List.range_eq_range']
 refine wpAny_forIn_list _ (fun rest _ s'=>∃ i em' nm',rest=List.range' i (es.size-i)∧i≤es.size∧s'=SL base (L.set 0 (dO em' nm')) k os∧Ents em'.toList (kvm++kvs.take i)) _ ?_ ?_ _ _
  ⟨0,em,nm,by simp,Nat.zero_le _,by rw[show L.set 0 (dO em nm)=L from by
   obtain ⟨lt,e⟩:=List.getElem?_eq_some_iff.mp h0
   rw[← e];exact List.set_getElem_self lt],by simpa using hm⟩
 ·rintro x rest b s' ⟨i,em',nm',hr,hi,rfl,hm'⟩
  have hlt:i<es.size:=by
   rcases Nat.lt_or_ge i es.size with h |h
   ·exact h
   ·rw[Nat.sub_eq_zero_of_le h] at hr;simp at hr
  obtain ⟨rfl,hrest⟩:x=i∧rest=List.range' (i+1) (es.size-(i+1)):=by
   have e:es.size-i=(es.size-(i+1))+1:=sub_s hlt
   rw[e,List.range'_succ] at hr
   injection hr with h1 h2
   exact⟨h1,h2⟩
  have hj':∀ o,(L.set 0 o)[j+1]? = some (dO es n):=fun o=>by rw[List.getElem?_set_ne (by lia)];exact hj
  have h0':(L.set 0 (dO em' nm'))[0]? = some (dO em' nm'):=List.getElem?_set_self l0
  refine wpAny_bind (wpAny_dictEntries (o:=dO es n) (HL_get (hj' _)) rfl ?_)
  have hxe:es[x]? = some es[x]:=Array.getElem?_eq_getElem hlt
  rw[hxe]
  obtain ⟨kv,hkv,t,t',hE⟩:=he.get (i:=x) (e:=es[x]) (by simp[hlt])
  dsimp only
  rw[hE]
  dsimp only
  have hml':=hm'.length
  simp only[Array.length_toList,List.length_append,List.length_take] at hml'
  have hsplit:kvs=kvs.take x++kv::kvs.drop (x+1):=by
   obtain ⟨q,e⟩:=List.getElem?_eq_some_iff.mp hkv
   rw[← e,List.getElem_cons_drop]
   exact(List.take_append_drop x kvs).symm
  have hnot:kv.1 ∉ (kvm++kvs.take x).map (·.1):=by
   refine fresh_key (kvs:=kvs.drop (x+1)) ?_
   rw[List.append_assoc,← hsplit]
   exact hn
  refine wpAny_bind (wpAny_holding ?_)
  refine put_new (i:=0) h0' hm' hnot (by lia) ?_
  refine wpAny_bind (wpAny_dictEpoch (o:=dO es n) (HL_get (by rw[List.set_set];exact hj' _)) rfl ?_)
  rw[if_neg (by simp)]
  refine wpAny_pure ⟨x+1,_,_,hrest,hlt,by rw[List.set_set],?_⟩
  rw[Array.toList_push,List.take_add_one,hkv,← List.append_assoc]
  exact hm'.append ⟨⟨_,_,rfl⟩,trivial⟩
 ·rintro b s' ⟨i,em',nm',hr,hi,rfl,hm'⟩
  have hin:i=es.size:=by
   rcases Nat.lt_or_ge i es.size with h |h
   ·have e:es.size-i=(es.size-(i+1))+1:=sub_s h
    rw[e,List.range'_succ] at hr;exact nomatch hr
   ·exact Nat.le_antisymm hi h
  rw[hin,hel,List.take_length] at hm'
  exact wpAny_pure (hQ _ _ hm')
noncomputable def flushT (run:List (Sem Value×Sem Value)) (main:Option Addr):Sem (Option Addr) :=
 if run.isEmpty=true then pure main else match main with
  |none=>do
   let l ← subDict run
   pure (some l)
  |some d=>do
   let sub ← holding [Value.ref d] (subDict run)
   (holding [Value.ref d,Value.ref sub] (mergeMapping d (Value.ref sub) false)).onRaise fun x=>do
    let _ ← holding [Value.ref d,x] (runValue (Code.builtin "proto.let_go" { }))
    pure ()
   pure (some d)
def JT (base:List Obj) (k:Nat) (os:OsState) (kd:List (Int×List Nat)) (main:Option Addr) (s:Shared):Prop :=
 (kd=[]∧main=none∧s=SL base [] k os)∨(main=some base.length∧∃ L em nm,s=SL base L (k+3*kd.length) os∧L[0]? = some (dO em nm)∧Ents em.toList kd∧kd≠[]∧L.length=(kd.length+16)/17)
theorem flush_ok {run:List (Sem Value×Sem Value)}{kd kr:List (Int×List Nat)}{main:Option Addr}{s:Shared} (hb:sysModules<base.length) (hj:JT base k os kd main s) (hp:Prs run kr) (hr:kr≠[]) (h17:kd.length%17=0) (hl:kr.length≤17)
  (hn:((kd++kr).map (·.1)).Nodup) (hz:kd.length+kr.length≤1000){Q:Option Addr→Shared→Prop} (hQ:∀ m s',JT base k os (kd++kr) m s'→Q m s'):wpAny (model prog w) A (flushT run main) Q E s:=by
 have hlen:=hp.length
 have hpos:0<kr.length:=List.length_pos_iff.mpr hr
 have hnr:(kr.map (·.1)).Nodup:=by rw[List.map_append,List.nodup_append] at hn;exact hn.2.1
 have hne:¬ run.isEmpty=true:=by
  cases run with
  |nil=>rw[List.length_nil] at hlen;lia
  |cons=>simp
 unfold flushT
 rw[if_neg hne]
 rcases hj with ⟨rfl,rfl,rfl⟩ |⟨rfl,L,em,nm,rfl,h0,he,hk,hL⟩
 ·refine wpAny_bind (sub_new hp hnr (by exact Nat.le_trans (by assumption) (by decide)) fun es n h=>wpAny_pure (hQ _ _ (.inr ⟨rfl,[dO es n],es,n,?_,rfl,h,hr,?_⟩)))
  ·rfl
  ·simp only[List.nil_append,List.length_cons,List.length_nil];lia
 ·obtain ⟨l0,_⟩:=List.getElem?_eq_some_iff.mp h0
  obtain ⟨j,hj⟩:∃ j,L.length=j+1:=⟨L.length-1,by exact(Nat.sub_add_cancel l0).symm⟩
  have hkp:0<kd.length:=List.length_pos_iff.mpr hk
  have hel:=he.length
  simp only[Array.length_toList] at hel
  refine wpAny_bind (wpAny_holding (sub_new hp hnr (by exact Nat.le_trans (by assumption) (by decide)) fun es n h=>?_))
  have hj':(L++[dO es n])[j+1]? = some (dO es n):=by rw[← hj];simp
  rw[hj]
  refine wpAny_bind (wpAny_onRaise (wpAny_holding (merge_new (L:=L++[dO es n]) (em:=em) (nm:=nm) (n:=n) (es:=es) hb (by rw[List.getElem?_append_left l0];exact h0) hj' he h (by rw[hel];exact Nat.ne_of_gt hkp) hn hz fun em' nm' h'=>wpAny_pure (hQ _ _ (.inr ⟨rfl,(L++[dO es n]).set 0 (dO em' nm'),em',nm',?_,List.getElem?_set_self (by rw[List.length_append];exact Nat.add_pos_left l0 _),h',by simp[hr],?_⟩)))))
  ·rw[List.length_append,Nat.mul_add,Nat.add_assoc]
  ·rw[List.length_set,List.length_append,List.length_append,List.length_singleton];lia
theorem display_new {ps:List (Sem Value×Sem Value)}{Q:Value→Shared→Prop} (hb:sysModules<base.length) (hp:Prs ps kvs) (hne:kvs≠[]) (hn:(kvs.map (·.1)).Nodup) (hz:kvs.length≤1000)
  (hQ:∀ L em nm,L[0]? = some (dO em nm)→Ents em.toList kvs→L.length=(kvs.length+16)/17→Q (.ref base.length) (SL base L (k+3*kvs.length) os)) :
  wpAny (model prog w) A (dictDisplay (ps.map fun p=>(some p.1,p.2))) Q E (SL base [] k os):=by
 unfold dictDisplay
 dsimp only
 refine wpAny_bind (wpAny_forIn_list _ (fun rest b s=>∃ kd kr ks ps',kvs=kd++kr++ks∧rest=(ps'.map fun p=>(some p.1,p.2))∧Prs ps' ks∧Prs b.2 kr∧kr.length<17∧kd.length%17=0∧JT base k os kd b.1 s) _ ?_ ?_ _ _
  ⟨[],[],kvs,ps,rfl,rfl,hp,by exact trivial,by decide,rfl,.inl ⟨rfl,rfl,rfl⟩⟩)
 ·rintro x rest ⟨main,run⟩ s ⟨kd,kr,ks,ps',e1,e2,h1,h2,h3,h4,h5⟩
  cases ps' with
  |nil=>cases e2
  |cons p ps' =>
   cases ks with
   |nil=>exact h1.elim
   |cons kv ks =>
    rw[List.map_cons] at e2
    injection e2 with ex er
    subst ex er
    dsimp only at h2 ⊢
    have hpr:Prs (run++[(p.1,p.2)]) (kr++[kv]):=by
     clear e1 h3 h5 hp hn hz hQ hne
     revert kr
     induction run with
     |nil=>intro kr h;cases kr with
      |nil=>exact⟨h1.1,trivial⟩
      |cons=>exact h.elim
     |cons q run ih=>intro kr h;cases kr with
      |nil=>exact h.elim
      |cons=>exact⟨h.1,ih _ h.2⟩
    have hlr:=hpr.length
    have hkl:kvs.length=kd.length+(kr.length+1+ks.length):=by rw[e1];simp;lia
    split
    ·rename_i h17
     have h17:(kr++[kv]).length=17:=by rw[← hlr];simpa using h17
     have hmid:((kd++(kr++[kv])).map (·.1)).Nodup:=by
      have:kvs=(kd++(kr++[kv]))++ks:=by rw[e1];simp
      rw[this,List.map_append,List.nodup_append] at hn
      exact hn.1
     have hlk:(kd++(kr++[kv])).length≤1000:=by simp at h17 ⊢;lia
     refine wpAny_bind ?_
     refine(?_:wpAny _ _ (flushT (run++[(p.1,p.2)]) main) _ _ _)
     refine flush_ok hb h5 hpr (by simp) h4 (by exact z9 (by assumption) (by decide)) hmid (by simpa using hlk) fun m s' hJ=>wpAny_pure ?_
     exact⟨kd++(kr++[kv]),[],ks,ps',by rw[e1];simp,rfl,h1.2,trivial,by decide,by rw[List.length_append,h17];lia,hJ⟩
    ·rename_i h17
     have h17:¬ (kr++[kv]).length=17:=by rw[← hlr];simpa using h17
     refine wpAny_pure ⟨kd,kr++[kv],ks,ps',by rw[e1];simp,rfl,h1.2,hpr,by simp at h17 ⊢;lia,h4,h5⟩
 ·rintro ⟨main,run⟩ s ⟨kd,kr,ks,ps',e1,e2,h1,h2,h3,h4,h5⟩
  have hps:ps'=[]:=by
   cases ps' with
   |nil=>rfl
   |cons=>cases e2
  subst hps
  cases ks with
  |cons=>exact h1.elim
  |nil =>
   rw[List.append_nil] at e1
   subst e1
   dsimp only at h2 ⊢
   refine wpAny_bind ?_
   refine(?_:wpAny _ _ (flushT run main) _ _ _)
   have fin:∀ m s',JT base k os (kd++kr) m s'→wpAny (model prog w) A (match m with |some d=>(pure (Value.ref d):Sem Value) |none=>newDict) Q E s':=by
    rintro m s' (⟨e,_⟩ |⟨rfl,L,em,nm,rfl,g1,g2,g3,g4⟩)
    ·exact absurd e hne
    ·exact wpAny_pure (hQ _ _ _ g1 g2 g4)
   by_cases hr:kr=[]
   ·subst hr
    cases run with
    |nil =>
     show wpAny _ _ (pure main) _ _ _
     refine wpAny_pure (fin _ _ ?_)
     rw[List.append_nil]
     exact h5
    |cons=>exact h2.elim
   ·exact flush_ok hb h5 h2 hr h4 (by exact z6 (by assumption) (by decide)) hn (by simpa using hz) fun m s' hJ=>fin m s' hJ
end
set_option tactic.hygienic true
set_option hygiene true
noncomputable def dict10:List (Option PySem.Expr)×List PySem.Expr×Pos:=match defAt 16 with | .Assign _ (.Dict ks vs p) _=>(ks,vs,p) |_=>([],[],default)
noncomputable def keys10:List (Option PySem.Expr):=dict10.1
noncomputable def vals10:List PySem.Expr:=dict10.2.1
noncomputable def pos10:Pos:=dict10.2.2
noncomputable abbrev Row10:=(Int×Nat×Pos)×Str×Nat×Pos
noncomputable def kvRow:Option PySem.Expr→PySem.Expr→Option Row10
 |some (.Constant (.int k) n p),.Constant (.str x) m q=>some ((k,n,p),x,m,q)
 |_,_=>none
noncomputable def rows10:List Row10:=(keys10.zip vals10).filterMap fun x=>kvRow x.1 x.2
noncomputable def mkK (r:Row10):Option PySem.Expr:=some (.Constant (.int r.1.1) r.1.2.1 r.1.2.2)
noncomputable def mkV (r:Row10):PySem.Expr:=.Constant (.str r.2.1) r.2.2.1 r.2.2.2
noncomputable def mkE (r:Row10):Int×List Nat:=(r.1.1,r.2.1.cps.toList)
theorem keysR:keys10=rows10.map mkK:=by kernel_rfl
theorem valsR:vals10=rows10.map mkV:=by kernel_rfl
theorem prs_of {env:Env}{pos:Pos}:∀ rs:List Row10,∃ ps,(evalEachOpt (rs.map mkK) env).zip ((evalEach (rs.map mkV) env).map fun v=>(do let x ← v;standAt pos;pure x:Sem Value))=ps.map (fun p:Sem Value×Sem Value=>(some p.1,p.2))∧Prs ps (rs.map mkE)
 |[]=>⟨[],rfl,trivial⟩
 |r::rs=>by
  refine e1_2 (prs_of (env:=env) (pos:=pos) rs) ?_;intro ps e hp
  refine⟨(eval (.Constant (.int r.1.1) r.1.2.1 r.1.2.2) env,do let y ← eval (mkV r) env;standAt pos;pure y)::ps,?_,⟨?_,?_⟩,hp⟩
  ·rw[List.map_cons,List.map_cons,List.map_cons,← e]
   rfl
  ·intro M A Q E s hq
   exact wpAny_Constant_int (env:=env) (k:=r.1.2.1) (pos:=r.1.2.2) hq
  ·intro M A Q E s hq
   exact wpAny_bind (wpAny_Constant_str (env:=env) (k:=r.2.2.1) (pos:=r.2.2.2) (wpAny_bind (wpAny_standAt (wpAny_pure hq))))
noncomputable def b3kv:List (Int×List Nat):=rows10.map mkE
noncomputable def incr:List (Int×List Nat)→Bool
 |a::b::r=>decide (a.1<b.1)&&incr (b::r)
 |_=>true
theorem incr_pw:∀ {l:List (Int×List Nat)},incr l=true→(l.map (·.1)).Pairwise (· < ·)
 |[],_=>List.Pairwise.nil
 |[a],_=>by simp
 |a::b::r,h=>by
  have h:(decide (a.1<b.1)&&incr (b::r))=true:=h
  rw[Bool.and_eq_true,decide_eq_true_eq] at h
  have ih:=incr_pw h.2
  rw[List.map_cons,List.map_cons]
  rw[List.map_cons] at ih
  refine List.Pairwise.cons (fun c hc=>?_) ih
  rcases List.mem_cons.mp hc with rfl |hc
  ·exact h.1
  ·exact Int.lt_trans h.1 ((List.pairwise_cons.mp ih).1 c hc)
theorem inc10:incr b3kv=true:=by decide +kernel
theorem nodup10:(b3kv.map (·.1)).Nodup:=(incr_pw inc10).imp (fun h=>Int.ne_of_lt h)
theorem len10:b3kv.length=650:=by decide +kernel
noncomputable def xs39 (x:Nat→Obj):List Obj:=[x 0,x 1,x 2,x 3,x 4,x 5,x 6,x 7,x 8,x 9,x 10,x 11,x 12,x 13,x 14,x 15,x 16,x 17,x 18,x 19,x 20,x 21,x 22,x 23,x 24,x 25,x 26,x 27,x 28,x 29,x 30,x 31,x 32,x 33,x 34,x 35,x 36,x 37,x 38]
theorem xs39_eq (L:List Obj) (h:L.length=39):L=xs39 fun i=>L.getD i (dO #[] 0):=by
 have:xs39 (fun i=>L.getD i (dO #[] 0))=(List.range 39).map fun i=>L.getD i (dO #[] 0):=rfl
 rw[this]
 apply List.ext_getElem?
 intro i
 rw[List.getElem?_map]
 by_cases q:i<39
 ·rw[List.getElem?_range q,Option.map_some,List.getD_eq_getElem?_getD,List.getElem?_eq_getElem (by exact cB q (Nat.le_of_eq h.symm))]
  rfl
 ·rw[List.getElem?_eq_none (by lia),List.getElem?_eq_none (by simp;lia)]
  rfl
theorem run_s (w:World) (os:OsState) (Γ:Ctx) (p:Pos) (x:Nat→Obj):big (denote treeTable) pwT w 1000 _ Γ (storeName envT "b3_exceptions" (.ref 255)) p ⟨⟨⟨(Hp.h15 w.params).objs.toList++xs39 x⟩,{}⟩,#[],{},2674,os⟩=some (.ok (),p,⟨Hp.h16 w.params x,#[],{},2675,os⟩):=by
 rw[den_q]
 kernel_rfl
def TabX (x:Nat→Obj):Prop:=∃ em nm,x 0=dO em nm∧Ents em.toList b3kv
theorem st10_eq:∃ p1 p2,defAt 16=.Assign [.Name "b3_exceptions" p1] (.Dict keys10 vals10 pos10) p2:=⟨_,_,rfl⟩
structure AnyT (w:World) (st:Stmt) (P:Shared→Prop) (s:Shared):Prop where
 h:∀ A,wpAny (model pwT w) A (exec st envT) (fun f s=>f=.next∧P s) (fun _ _=>False) s
theorem piece10 (w:World) (os:OsState):AnyT w (defAt 16) (fun s=>∃ x,TabX x∧s=⟨Hp.h16 w.params x,#[],{},2675,os⟩) ⟨Hp.h15 w.params,#[],{},724,os⟩:=by
 constructor
 intro A
 obtain ⟨p1,p2,e⟩:=st10_eq
 rw[e]
 have hl:(Hp.h15 w.params).objs.toList.length=255:=rfl
 have hb:sysModules<(Hp.h15 w.params).objs.toList.length:=by rw[hl];decide
 obtain ⟨ps,hps,hp⟩:=prs_of (env:=envT) (pos:=pos10) rows10
 refine wpAny_Assign_Name ?_
 rw[arm_eval_Dict,keysR,valsR,hps]
 refine wpAny_bind (wpAny_standAt ?_)
 have hs:(⟨Hp.h15 w.params,#[],{},724,os⟩:Shared)=SL (Hp.h15 w.params).objs.toList [] 724 os:=rfl
 rw[hs]
 have hne:b3kv≠[]:=fun q=>by have:=len10;rw[q] at this;cases this
 refine display_new hb hp hne nodup10 (by rw[show(rows10.map mkE).length=650 from len10];decide) fun L em nm h0 he hL=>?_
 rw[show(rows10.map mkE).length=650 from len10] at hL ⊢
 rw[hl,xs39_eq L hL]
 intro Γ p hΓ
 have hm:model pwT w=⟨denote treeTable,pwT,w⟩:=by unfold model;rw[table_eq_tree]
 rw[hm]
 refine big_sound _ _ _ _ _ _ _ (run_s w os Γ p _) _ _ ⟨rfl,_,⟨em,nm,?_,he⟩,rfl⟩
 rw[List.getD_eq_getElem?_getD,h0]
 rfl
set_option tactic.hygienic false
set_option hygiene false
theorem model_eq (w:World):model pwT w=⟨denote treeTable,pwT,w⟩:=by unfold model;rw[table_eq_tree]
section
variable {M:Model}{Γ:Ctx}{env:Env}{Q:Flow→Pos→Shared→Prop}{E:Value→Pos→Shared→Prop}
theorem wp_execs_app:∀ (l rest:List Stmt) (p:Pos) (s:Shared),Sem.wp M Γ (execs l env) (fun f p' s'=>f=.next∧Sem.wp M Γ (execs rest env) Q E p' s') (fun _ _ _=>False) p s→Sem.wp M Γ (execs (l++rest) env) Q E p s
 |[],rest,p,s,h=>by
  have h:(Flow.next=Flow.next∧Sem.wp M Γ (execs rest env) Q E p s):=h
  exact h.2
 |st::l,rest,p,s,h=>by
  rw[List.cons_append,execs_cons,Sem.wp_bind'] at *
  refine Sem.wp_mono M Γ _ (fun f p' s' h'=>?_) (fun _ _ _ h'=>h'.elim) p s h
  cases f with
  |next=>exact wp_execs_app l rest p' s' h'
  |_=>exact nomatch (show _∧_ from h').1
end
noncomputable def inA (Γ:Ctx):Around:=⟨Γ.handled,frameCount Γ.below+Γ.code.weight,none,none,Γ.code.cUnits+unitsOf Γ.below⟩
theorem in_inA (Γ:Ctx):Γ.In (inA Γ):=⟨rfl,Nat.le_refl _,fun _ h=>(nomatch h),fun _ h=>(nomatch h),Nat.le_refl _⟩
theorem body_split:bodyT=((List.range' 1 6).map defAt)++(((List.range' 7 2).map defAt)++([defAt 9]++(((List.range' 10 4).map defAt)++([defAt 14]++([defAt 15]++([defAt 16]++(((List.range' 17 4).map defAt)++((List.range' 21 8).map defAt)))))))):=rfl
theorem use_run {w:World}{Γ:Ctx}{n:Nat}{α:Type}{x:Sem α}{a:α}{p p':Pos}{s s':Shared}{Q:α→Pos→Shared→Prop}{E:Value→Pos→Shared→Prop} (h:big (denote treeTable) pwT w n α Γ x p s=some (.ok a,p',s')) (hQ:Q a p' s'):Sem.wp (model pwT w) Γ x Q E p s:=by
 rw[model_eq]
 exact big_sound _ _ _ _ _ _ _ h Q E hQ
structure WT (w:World) (l:List Stmt) (Q:Flow→Pos→Shared→Prop) (E:Value→Pos→Shared→Prop) (p:Pos) (s:Shared):Prop where
 h:Sem.wp (model pwT w) ΓT (execs l envT) Q E p s
section
variable {w:World}{l rest:List Stmt}{st:Stmt}{p p':Pos}{s s':Shared}{Q:Flow→Pos→Shared→Prop}{E:Value→Pos→Shared→Prop}
theorem WT.chain (h:bigT w (execs l envT) p s=some (.ok .next,p',s')) (hQ:WT w rest Q E p' s'):WT w (l++rest) Q E p s:=⟨wp_execs_app l rest p s (use_run h ⟨rfl,hQ.h⟩)⟩
theorem WT.last (h:bigT w (execs l envT) p s=some (.ok .next,p',s')) (hQ:Q .next p' s'):WT w l Q E p s:=⟨use_run h hQ⟩
theorem WT.step {P:Shared→Prop} (h:AnyT w st P s) (hQ:∀ p' s',P s'→WT w rest Q E p' s'):WT w ([st]++rest) Q E p s:=by
 refine⟨wp_execs_app _ _ _ _ ?_⟩
 rw[execs_cons,Sem.wp_bind']
 refine Sem.wp_mono _ _ _ (fun f p' s' h'=>?_) (fun _ _ _ h'=>h') _ _ (h.h _ ΓT _ (in_inA ΓT))
 obtain ⟨rfl,h'⟩:=h'
 show Sem.wp _ _ (execs [] envT) _ _ _ _
 rw[execs_nil,Sem.wp_pure']
 exact⟨rfl,(hQ _ _ h').h⟩
end
theorem body_wp (w:World) (os:OsState){E:Value→Pos→Shared→Prop}{Q:Flow→Pos→Shared→Prop} (p:Pos) (hQ:∀ x p',TabX x→Q .next p' ⟨Hp.h28 w.params x,#[],{},2750,os⟩) :
  WT w bodyT Q E p ⟨Hp.hb w.params,#[],{},282,os⟩:=by
 have wf:=World.withFollow_self w row1
 have rc:=run_c w os ⟨100,0,100,8⟩ (w.params.followText row1)
 have re:=run_e w os ⟨158,0,158,8⟩ (w.params.followText row1)
 rw[wf] at rc re
 rw[body_split]
 refine WT.chain (run_a w os p) (WT.chain (run_b w os _) (WT.chain rc (WT.chain (run_d w os _) (WT.chain re (WT.chain (run_f w os _) (WT.step (piece10 w os) fun p' s' h'=>?_))))))
 obtain ⟨x,hx,rfl⟩:=h'
 exact WT.chain (run_g w os _ x) (WT.last (run_h w os _ x) (hQ x _ hx))
theorem den_body (tb:String→Option Builtin) (b:List Stmt) (env:Env):denote tb (.body b env)=(do blockStart b env;let f ← (execs b env).onRaise (leaving env);pure (Fin.done f)):=rfl
theorem top_wp (w:World) (os:OsState){R:Result→Shared→Prop} (hR:∀ x,TabX x→R (.ok (.ret .none)) ⟨Hp.h28 w.params x,#[],{},2750,os⟩) :
  Sem.wp (model pwT w) ΓS (topStub pwT).cur (Sem.finPost (model pwT w) ΓS R) (fun e _ s'=>R (.error e) s') default ⟨Hp.h0 w.params,#[],{},276,os⟩:=by
 unfold topStub
 dsimp only
 rw[body_eq,Sem.wp_bind']
 refine use_run (run_p w os) ?_
 rw[Sem.wp_bind']
 refine use_run (run_q w os) ?_
 rw[Sem.wp_bind']
 unfold run
 rw[Sem.wp_call]
 have key:Sem.wp (model pwT w) ΓT (denote table (.body bodyT envT)) (Sem.finPost (model pwT w) ΓT fun r s=>r=.ok .next∧∃ x,TabX x∧s=⟨Hp.h28 w.params x,#[],{},2750,os⟩) (fun e _ s'=>False) default ⟨Hp.hb w.params,#[],{},282,os⟩:=by
  rw[den_body,Sem.wp_bind']
  refine use_run (run_r w os) ?_
  rw[Sem.wp_bind',Sem.wp_onRaise]
  exact(body_wp w os _ fun x p' hx=>⟨rfl,x,hx,rfl⟩).h
 have key':=(Sem.wp_iff_runs _ _ _ (fun r s=>r=.ok .next∧∃ x,TabX x∧s=⟨Hp.h28 w.params x,#[],{},2750,os⟩) _ _).mp (Sem.wp_mono _ _ _ (fun _ _ _ h=>h) (fun _ _ _ h=>h.elim) _ _ key)
 obtain ⟨r,s',hr,rfl,x,hx,rfl⟩:=key'
 refine⟨.ok .next,_,hr,?_⟩
 exact hR x hx
theorem halted_last {den:Code→Sem Fin}{p:Program}{w:World}{o:Outcome}:∀ (n:Nat) (s:Shared) (t:Thread) (s':Shared),runN den p w n s t=.halted o s'→∃ m s₂ t₂,runN den p w m s t=.running s₂ t₂∧step den p w s₂ t₂=.halt o s'
 |0,_,_,_,h=>by cases h
 |n+1,s,t,s',h=>by
  simp only[runN] at h
  cases hs:step den p w s t with
  |halt o₂ s₂=>rw[hs] at h;cases h;exact⟨0,s,t,rfl,hs⟩
  |go s₂ t₂ =>
   rw[hs] at h
   obtain ⟨m,s₃,t₃,h1,h2⟩:=halted_last n s₂ t₂ s' h
   exact⟨m+1,s₃,t₃,by simp only[runN,hs];exact h1,h2⟩
noncomputable def doneB:Step→Bool
 | .halt (.done _) _=>true
 |_=>false
theorem through_of {den:Code→Sem Fin}{p:Program}{w:World}{s s':Shared}{t:Thread}{f:Flow} (h:step den p w s t=.halt (.done f) s'):through t=true:=by
 have hd:doneB (step den p w s t)=true:=by rw[h];rfl
 clear h
 obtain ⟨heap,gens,drawn,toks,os⟩:=s
 obtain ⟨cur,code,pos,stack⟩:=t
 cases cur with
 |pure fin =>
  cases fin with
  |again c=>exact absurd hd (by exact Bool.false_ne_true)
  |done f =>
   cases stack with
   |nil=>rfl
   |cons fr r=>cases fr <;> exact absurd hd Bool.false_ne_true
 |raise e =>
  cases stack with
  |nil =>
   refine absurd hd ?_
   unfold step finish
   dsimp only
   split <;> exact Bool.false_ne_true
  |cons fr r=>cases fr <;> exact absurd hd Bool.false_ne_true
 |finish e =>
  refine absurd hd ?_
  unfold step
  dsimp only
  split <;> exact Bool.false_ne_true
 |load a part k =>
  refine absurd hd ?_
  unfold step
  dsimp only
  cases heap.get? a <;> exact Bool.false_ne_true
 |update a part f k =>
  refine absurd hd ?_
  unfold step
  dsimp only
  split <;> exact Bool.false_ne_true
 |choose src n k =>
  refine absurd hd ?_
  unfold step
  dsimp only
  split <;> exact Bool.false_ne_true
 |genState g k =>
  refine absurd hd ?_
  unfold step
  dsimp only
  cases gens[g]? <;> exact Bool.false_ne_true
 |_=>first |exact absurd hd Bool.false_ne_true |(refine absurd hd ?_;unfold step;dsimp only;repeat' split) <;> exact Bool.false_ne_true
theorem forget_nil {s s':Shared} (h:s.forget=s'.forget) (g:s'.gens = #[]):s=s':=by
 obtain ⟨heap,gens,drawn,toks,os⟩:=s
 obtain ⟨heap',gens',drawn',toks',os'⟩:=s'
 unfold Shared.forget at h
 simp only[Shared.mk.injEq] at h
 obtain ⟨rfl,h2,rfl,rfl,rfl⟩:=h
 dsimp only at g
 subst g
 have:gens.size=0:=by simpa using congrArg Array.size h2
 rw[Array.eq_empty_of_size_eq_zero this]
theorem top_runs {M:Model}{c:Code}{t:Sem Fin}{p:Pos}{s:Shared}{P:Shared→Prop} (hreg:s.asleep) (hP:∀ s',P s'→s'.gens = #[])
  (h:Sem.wp M ⟨c,none,none,[],none⟩ t (Sem.finPost M ⟨c,none,none,[],none⟩ fun r s'=>r=.ok (.ret .none)∧P s') (fun e _ s'=>Except.error e=(.ok (.ret .none):Result)∧P s') p s) :
  ∃ n t' s',schedN M.den M.prog M.w n (.single s ⟨t,c,p,[]⟩)=.running (.single s' t')∧through t'=true∧P s':=by
 have hl:∀ s',P s'→leftWithCleanup s'.gens=false:=fun s' h'=>by rw[hP s' h'];simp[leftWithCleanup]
 have h':Sem.wp M ⟨c,none,none,[],none⟩ t (Sem.finPost M ⟨c,none,none,[],none⟩ fun r s'=>(r=.ok (.ret .none)∧P s')∧leftWithCleanup s'.gens=false) (fun e _ s'=>(Except.error e=(.ok (.ret .none):Result)∧P s')∧leftWithCleanup s'.gens=false) p s :=
  (Sem.wp_iff_runs M _ t (fun r s'=>(r=.ok (.ret .none)∧P s')∧leftWithCleanup s'.gens=false) p s).mpr (by
   obtain ⟨r,s',h1,h2⟩:=(Sem.wp_iff_runs M _ t (fun r s'=>r=.ok (.ret .none)∧P s') p s).mp h
   exact⟨r,s',h1,h2,hl _ h2.2⟩)
 obtain ⟨n,r,s',hn,rfl,hp⟩:=(wp_iff_halts (R:=fun r s'=>r=.ok (.ret .none)∧P s') t p s).mp h'
 have hends:(outcomeOf (.ok (.ret .none))).ends=true:=rfl
 obtain ⟨s'',hr,hf,hc⟩:=runNI_real M.den M.prog M.w hn hends
 have hne:∀ k s₂,PySem.runN M.den M.prog M.w k s ⟨t,c,p,[]⟩ ≠ .halted (.unsupported "lifetime:generator-with-cleanup-left-suspended") s₂:=by
  intro k s₂ hk
  have a:=runN_mono M.den M.prog M.w n k s _ _ s'' hr
  have b:=runN_mono M.den M.prog M.w k n s _ _ s₂ hk
  rw[Nat.add_comm,b] at a
  cases a
 obtain ⟨m,s₂,t₂,h1,h2⟩:=halted_last n s _ s'' hr
 obtain rfl:=step_halt_same _ _ _ _ _ _ _ h2
 have he:=forget_nil hf (hP _ hp)
 subst he
 refine⟨m,t₂,_,?_,through_of h2,hp⟩
 rw[schedN_eq_runN M.den M.prog M.w s ⟨t,c,p,[]⟩ hreg ⟨hc,hne⟩ m,h1]
 rfl
noncomputable abbrev S0 (w:World) (os:OsState):Shared:=⟨Hp.h0 w.params,#[],{},276,os⟩
noncomputable abbrev S28 (w:World) (os:OsState) (x:Nat→Obj):Shared:=⟨Hp.h28 w.params x,#[],{},2750,os⟩
theorem top_ran (w:World) (os:OsState):∃ x,TabX x∧∃ n t,schedN (denote table) pwT w n (.single (S0 w os) (topStub pwT))=.running (.single (S28 w os x) t)∧through t=true:=by
 obtain ⟨n,t',s',h1,h2,x,hx,rfl⟩:=top_runs (M:=model pwT w) (s:=S0 w os) (P:=fun s=>∃ x,TabX x∧s=S28 w os x) (t:=(topStub pwT).cur) (c:=.builtin "claim.caller" {}) (p:=default) ⟨rfl,rfl⟩ (fun s' hpat=>by obtain ⟨x,_,e⟩:=hpat;rw[e]) (top_wp w os (R:=fun r s'=>r=.ok (.ret .none)∧∃ x,TabX x∧s'=S28 w os x) fun x hx=>⟨rfl,x,hx,rfl⟩)
 exact⟨x,hx,n,t',h1,h2⟩
noncomputable abbrev modsT:List Str:=importedModules pwT.main.body
theorem lk_statics (P:Params) (x:Nat→Obj):staticsOk modsT (Hp.h0 P) (Hp.h28 P x)=true:=by kernel_rfl
theorem lk_names (P:Params) (x:Nat→Obj):namesBound pwT (Hp.h28 P x)=true:=by kernel_rfl
theorem lk_laid (P:Params) (x:Nat→Obj):laidKept (Hp.h0 P) (Hp.h28 P x)=true:=by kernel_rfl
theorem lk_acc (P:Params) (x:Nat→Obj):(Hp.h28 P x).accountedOkI modsT=true:=by kernel_rfl
theorem lk_ns (P:Params) (x:Nat→Obj):((Hp.h28 P x).isNs mainGlobals&&(Hp.h28 P x).isNs builtinsNs&&(Hp.h28 P x).bmainOk)=true:=by kernel_rfl
theorem lk_blt (P:Params) (x:Nat→Obj):(Hp.h28 P x).bltView=bltViewBooted:=by kernel_rfl
theorem old_kept (P:Params) (x:Nat→Obj):∀ b o,(Hp.h0 P).get? b=some o→b≠mainNs→b≠cStatics→(Hp.h28 P x).get? b=some o:=by
 intro b o h h3 h2
 have e:∀ b,b<28→b≠3→b≠2→(Hp.h28 P x).objs[b]? = (Hp.h0 P).objs[b]? := by
  intro b hb n3 n2
  have l1:(Hp.h28 P x).objs.toList.take 2=(Hp.h0 P).objs.toList.take 2:=rfl
  have l2:((Hp.h28 P x).objs.toList.drop 4).take 24=(Hp.h0 P).objs.toList.drop 4:=rfl
  rw[← Array.getElem?_toList,← Array.getElem?_toList]
  by_cases q:b<2
  ·have:=congrArg (·[b]?) l1
   simpa [List.getElem?_take,q] using this
  ·obtain ⟨k,rfl⟩:∃ k,b=4+k:=⟨b-4,by lia⟩
   have:=congrArg (·[k]?) l2
   simp only[List.getElem?_take,show k<24 by lia,if_true,List.getElem?_drop] at this
   exact this
 have hb:b<28:=Heap.lt_size h
 have:=e b hb h3 h2
 unfold Heap.get? at h ⊢
 rw[this]
 exact h
theorem topRan (w:World) (os:OsState):∃ x,TabX x∧TopRan pwT w (S0 w os) (S28 w os x):=by
 obtain ⟨x,hx,hr⟩:=top_ran w os
 have hns:=lk_ns w.params x
 simp only[Bool.and_eq_true] at hns
 obtain ⟨⟨hg,hb⟩,hm⟩:=hns
 refine⟨x,hx,hr,rfl,Shared.rest_eq rfl,fun b o h hn=>old_kept w.params x b o h (fun q=>hn (.inl q)) (fun q=>hn (.inr (.inl q))),Heap.accountedI_of_ok (lk_acc _ _),statics_of_ok (lk_statics _ _),Pin.keysAreStrs_of hg,fun y hy=>(Pin.builtinOf_eq hb y).trans (Heap.of_bltView hb (lk_blt _ _) y hy),?_,fun g hg=>absurd (Array.mem_toList_iff.mpr hg) (List.not_mem_nil),names_of_bound (lk_names _ _),laid_of_kept (lk_laid _ _)⟩
 obtain ⟨bm,ob,a,_,c,d,f,_⟩:=Heap.bmainOk_spec hm
 exact⟨bm,ob,(Pin.globalOf_eq hg _).trans a,c,d,f⟩
noncomputable def os0:OsState:=(start (opening pwT)).1.os
theorem after_0 (w:World):AfterRun (opening pwT) w ⟨Hp.hi w.params,#[],{},276,os0⟩:=by
 have h:=run_0 w
 rw[← table_eq_tree] at h
 exact AfterImport.of_importEnds h
set_option tactic.hygienic true
set_option hygiene true
abbrev Keep (P:Params) (x:Nat→Obj) (H:Heap):Prop:=∀ b o,(Hp.h28 P x).get? b=some o→H.get? b=some o
noncomputable def fdOf (o:Obj):FuncData:=match o.data with | .func fd=>fd |_=>default
noncomputable def isS:Option Value→Str→Bool
 |some (.str y _),q=>y==q
 |_,_=>false
noncomputable def codeOk (oc:Obj) (q:Str):Bool:=oc.cls == .type "code"&&match oc.data with | .fields vs=>isS vs[1]? q |_=>false
noncomputable def fnE (o:Obj) (q:Str) (st:Stmt) (dfl:Value) (c:Addr):FuncData:=fnX (nameOf st) q (paramsOf st) (bodyOf st) (scopeOf st) [] dfl .none (fdOf o).doc (fdOf o).pyModule (fdOf o).annotations (.ref c) (fdOf o).closureTuple
theorem fnAt_of {P:Params}{x:Nat→Obj}{W:Wd} (k:Keep P x W.h₁){a c:Addr}{o oc:Obj}{q:Str}{st:Stmt}{dfl:Value} (e1:(Hp.h28 P x).get? a=some o) (e2:(Hp.h28 P x).get? c=some oc) (e3:o.data=.func (fnE o q st dfl c))
  (e4:(o.cls == .type "function"&&codeOk oc q && !(scopeOf st).isCoroutine && !(scopeOf st).isGenerator)=true):FnAt W a (fnE o q st dfl c) (bodyOf st):=by
 simp only[Bool.and_eq_true,beq_iff_eq,Bool.not_eq_true'] at e4
 obtain ⟨⟨⟨f1,f2⟩,f3⟩,f4⟩:=e4
 unfold codeOk at f2
 simp only[Bool.and_eq_true,beq_iff_eq] at f2
 obtain ⟨f5,f6⟩:=f2
 refine⟨⟨o,k _ _ e1,by rw[f1];exact(fun z=>by cases z),e3⟩,rfl,?_,f3,f4,rfl⟩
 cases hv:oc.data with
 |fields vs =>
  rw[hv] at f6
  have f6:isS vs[1]? q=true:=f6
  cases hy:vs[1]? with
  |none=>rw[hy] at f6;exact absurd f6 Bool.false_ne_true
  |some v =>
   rw[hy] at f6
   cases v with
   |str y t =>
    have f6:(y==q)=true:=f6
    exact⟨c,oc,vs,t,rfl,k _ _ e2,by rw[f5];exact(fun z=>by cases z),hv,by rw[hy,beq_iff_eq.mp f6];rfl⟩
   |_=>exact absurd f6 Bool.false_ne_true
 |_=>rw[hv] at f6;exact absurd f6 Bool.false_ne_true
theorem Fn.of {W:Wd}{a c:Addr}{o:Obj}{q:Str}{st:Stmt} (h:FnAt W a (fnE o q st .none c) (bodyOf st)):Fn W a q st:=⟨⟨_,_,_,_,_,h⟩⟩
theorem fn61 (P:Params) (x:Nat→Obj) (W:Wd) (k:Keep P x W.h₁):FnAt W 61 (fnE Hp.o61 "_formatparam" (defAt 6) (.ref 54) 60) (bodyOf (defAt 6)) :=
 fnAt_of k (o:=Hp.o61) (oc:=Hp.o60) (by kernel_rfl) (by kernel_rfl) (by kernel_rfl) (by kernel_rfl)
theorem fn76 (P:Params) (x:Nat→Obj) (W:Wd) (k:Keep P x W.h₁):FnAt W 76 (fnE Hp.o76 "Headers.__init__" (methAt 7 0) (.ref 69) 75) (bodyOf (methAt 7 0)) :=
 fnAt_of k (o:=Hp.o76) (oc:=Hp.o75) (by kernel_rfl) (by kernel_rfl) (by kernel_rfl) (by kernel_rfl)
theorem fn83 (P:Params) (x:Nat→Obj) (W:Wd) (k:Keep P x W.h₁):FnAt W 83 (fnE Hp.o83 "Headers._convert_string_type" (methAt 7 1) (.none) 82) (bodyOf (methAt 7 1)) :=
 fnAt_of k (o:=Hp.o83) (oc:=Hp.o82) (by kernel_rfl) (by kernel_rfl) (by kernel_rfl) (by kernel_rfl)
theorem fn102 (P:Params) (x:Nat→Obj) (W:Wd) (k:Keep P x W.h₁):FnAt W 102 (fnE Hp.o102 "Headers.__delitem__" (methAt 7 4) (.none) 101) (bodyOf (methAt 7 4)) :=
 fnAt_of k (o:=Hp.o102) (oc:=Hp.o101) (by kernel_rfl) (by kernel_rfl) (by kernel_rfl) (by kernel_rfl)
theorem fn121 (P:Params) (x:Nat→Obj) (W:Wd) (k:Keep P x W.h₁):FnAt W 121 (fnE Hp.o121 "Headers.get_all" (methAt 7 7) (.none) 120) (bodyOf (methAt 7 7)) :=
 fnAt_of k (o:=Hp.o121) (oc:=Hp.o120) (by kernel_rfl) (by kernel_rfl) (by kernel_rfl) (by kernel_rfl)
theorem fn129 (P:Params) (x:Nat→Obj) (W:Wd) (k:Keep P x W.h₁):FnAt W 129 (fnE Hp.o129 "Headers.get" (methAt 7 8) (.ref 122) 128) (bodyOf (methAt 7 8)) :=
 fnAt_of k (o:=Hp.o129) (oc:=Hp.o128) (by kernel_rfl) (by kernel_rfl) (by kernel_rfl) (by kernel_rfl)
theorem fn134 (P:Params) (x:Nat→Obj) (W:Wd) (k:Keep P x W.h₁):FnAt W 134 (fnE Hp.o134 "Headers.keys" (methAt 7 9) (.none) 133) (bodyOf (methAt 7 9)) :=
 fnAt_of k (o:=Hp.o134) (oc:=Hp.o133) (by kernel_rfl) (by kernel_rfl) (by kernel_rfl) (by kernel_rfl)
theorem fn179 (P:Params) (x:Nat→Obj) (W:Wd) (k:Keep P x W.h₁):FnAt W 179 (fnE Hp.o179 "Headers.add_header" (methAt 7 16) (.none) 178) (bodyOf (methAt 7 16)) :=
 fnAt_of k (o:=Hp.o179) (oc:=Hp.o178) (by kernel_rfl) (by kernel_rfl) (by kernel_rfl) (by kernel_rfl)
theorem fn194 (P:Params) (x:Nat→Obj) (W:Wd) (k:Keep P x W.h₁):FnAt W 194 (fnE Hp.o194 "pretty_flags" (defAt 10) (.none) 193) (bodyOf (defAt 10)) :=
 fnAt_of k (o:=Hp.o194) (oc:=Hp.o193) (by kernel_rfl) (by kernel_rfl) (by kernel_rfl) (by kernel_rfl)
theorem fn208 (P:Params) (x:Nat→Obj) (W:Wd) (k:Keep P x W.h₁):FnAt W 208 (fnE Hp.o208 "_netrclex.__init__" (methAt 12 0) (.none) 207) (bodyOf (methAt 12 0)) :=
 fnAt_of k (o:=Hp.o208) (oc:=Hp.o207) (by kernel_rfl) (by kernel_rfl) (by kernel_rfl) (by kernel_rfl)
theorem fn215 (P:Params) (x:Nat→Obj) (W:Wd) (k:Keep P x W.h₁):FnAt W 215 (fnE Hp.o215 "_netrclex._read_char" (methAt 12 1) (.none) 214) (bodyOf (methAt 12 1)) :=
 fnAt_of k (o:=Hp.o215) (oc:=Hp.o214) (by kernel_rfl) (by kernel_rfl) (by kernel_rfl) (by kernel_rfl)
theorem fn222 (P:Params) (x:Nat→Obj) (W:Wd) (k:Keep P x W.h₁):FnAt W 222 (fnE Hp.o222 "_netrclex.get_token" (methAt 12 2) (.none) 221) (bodyOf (methAt 12 2)) :=
 fnAt_of k (o:=Hp.o222) (oc:=Hp.o221) (by kernel_rfl) (by kernel_rfl) (by kernel_rfl) (by kernel_rfl)
theorem fn229 (P:Params) (x:Nat→Obj) (W:Wd) (k:Keep P x W.h₁):FnAt W 229 (fnE Hp.o229 "_netrclex.push_token" (methAt 12 3) (.none) 228) (bodyOf (methAt 12 3)) :=
 fnAt_of k (o:=Hp.o229) (oc:=Hp.o228) (by kernel_rfl) (by kernel_rfl) (by kernel_rfl) (by kernel_rfl)
theorem fn254 (P:Params) (x:Nat→Obj) (W:Wd) (k:Keep P x W.h₁):FnAt W 254 (fnE Hp.o254 "in_table_b1" (defAt 15) (.none) 253) (bodyOf (defAt 15)) :=
 fnAt_of k (o:=Hp.o254) (oc:=Hp.o253) (by kernel_rfl) (by kernel_rfl) (by kernel_rfl) (by kernel_rfl)
theorem fn300 (P:Params) (x:Nat→Obj) (W:Wd) (k:Keep P x W.h₁):FnAt W 300 (fnE Hp.o300 "map_table_b3" (defAt 17) (.none) 299) (bodyOf (defAt 17)) :=
 fnAt_of k (o:=Hp.o300) (oc:=Hp.o299) (by kernel_rfl) (by kernel_rfl) (by kernel_rfl) (by kernel_rfl)
theorem fn307 (P:Params) (x:Nat→Obj) (W:Wd) (k:Keep P x W.h₁):FnAt W 307 (fnE Hp.o307 "_law_lexer" (defAt 19) (.none) 306) (bodyOf (defAt 19)) :=
 fnAt_of k (o:=Hp.o307) (oc:=Hp.o306) (by kernel_rfl) (by kernel_rfl) (by kernel_rfl) (by kernel_rfl)
theorem fn312 (P:Params) (x:Nat→Obj) (W:Wd) (k:Keep P x W.h₁):FnAt W 312 (fnE Hp.o312 "_law_prepared" (defAt 20) (.none) 311) (bodyOf (defAt 20)) :=
 fnAt_of k (o:=Hp.o312) (oc:=Hp.o311) (by kernel_rfl) (by kernel_rfl) (by kernel_rfl) (by kernel_rfl)
theorem fn317 (P:Params) (x:Nat→Obj) (W:Wd) (k:Keep P x W.h₁):FnAt W 317 (fnE Hp.o317 "_law_typed" (defAt 21) (.none) 316) (bodyOf (defAt 21)) :=
 fnAt_of k (o:=Hp.o317) (oc:=Hp.o316) (by kernel_rfl) (by kernel_rfl) (by kernel_rfl) (by kernel_rfl)
theorem fn322 (P:Params) (x:Nat→Obj) (W:Wd) (k:Keep P x W.h₁):FnAt W 322 (fnE Hp.o322 "_law_written" (defAt 22) (.none) 321) (bodyOf (defAt 22)) :=
 fnAt_of k (o:=Hp.o322) (oc:=Hp.o321) (by kernel_rfl) (by kernel_rfl) (by kernel_rfl) (by kernel_rfl)
theorem fn327 (P:Params) (x:Nat→Obj) (W:Wd) (k:Keep P x W.h₁):FnAt W 327 (fnE Hp.o327 "_law_drawn" (defAt 23) (.none) 326) (bodyOf (defAt 23)) :=
 fnAt_of k (o:=Hp.o327) (oc:=Hp.o326) (by kernel_rfl) (by kernel_rfl) (by kernel_rfl) (by kernel_rfl)
theorem fn332 (P:Params) (x:Nat→Obj) (W:Wd) (k:Keep P x W.h₁):FnAt W 332 (fnE Hp.o332 "_law_joined" (defAt 24) (.none) 331) (bodyOf (defAt 24)) :=
 fnAt_of k (o:=Hp.o332) (oc:=Hp.o331) (by kernel_rfl) (by kernel_rfl) (by kernel_rfl) (by kernel_rfl)
theorem fn337 (P:Params) (x:Nat→Obj) (W:Wd) (k:Keep P x W.h₁):FnAt W 337 (fnE Hp.o337 "_law_taken" (defAt 25) (.none) 336) (bodyOf (defAt 25)) :=
 fnAt_of k (o:=Hp.o337) (oc:=Hp.o336) (by kernel_rfl) (by kernel_rfl) (by kernel_rfl) (by kernel_rfl)
theorem fn342 (P:Params) (x:Nat→Obj) (W:Wd) (k:Keep P x W.h₁):FnAt W 342 (fnE Hp.o342 "_law_parted" (defAt 26) (.none) 341) (bodyOf (defAt 26)) :=
 fnAt_of k (o:=Hp.o342) (oc:=Hp.o341) (by kernel_rfl) (by kernel_rfl) (by kernel_rfl) (by kernel_rfl)
theorem fn347 (P:Params) (x:Nat→Obj) (W:Wd) (k:Keep P x W.h₁):FnAt W 347 (fnE Hp.o347 "_law_names" (defAt 27) (.none) 346) (bodyOf (defAt 27)) :=
 fnAt_of k (o:=Hp.o347) (oc:=Hp.o346) (by kernel_rfl) (by kernel_rfl) (by kernel_rfl) (by kernel_rfl)
theorem fn352 (P:Params) (x:Nat→Obj) (W:Wd) (k:Keep P x W.h₁):FnAt W 352 (fnE Hp.o352 "law" (defAt 28) (.none) 351) (bodyOf (defAt 28)) :=
 fnAt_of k (o:=Hp.o352) (oc:=Hp.o351) (by kernel_rfl) (by kernel_rfl) (by kernel_rfl) (by kernel_rfl)
noncomputable def lookT (l:List (Int×List Nat)) (i:Int):Option (List Nat):=(l.find? fun kv=>kv.1==i).map (·.2)
def Sees (v:Option Value) (r:Option (List Nat)):Prop:=match r with
 |some x=>∃ t,v=some (.str (st x) t)
 |none=>v=none
theorem look_ents:∀ {es:List DictEntry}{l:List (Int×List Nat)},Ents es l→∀ i:Int,Sees ((es.find? fun e=>Value.isInt i e.key).map (·.val)) (lookT l i)
 |[],[],_,i=>(rfl:(none:Option Value)=none)
 |e::es,kv::l,h,i=>by
  obtain ⟨⟨t,t',rfl⟩,h2⟩:=h
  have ih:=look_ents h2 i
  unfold lookT at ih ⊢
  rw[List.find?_cons,List.find?_cons]
  dsimp only
  have e1:Value.isInt i (.int kv.1 t)=(kv.1==i):=rfl
  rw[e1]
  cases q:(kv.1==i)
  ·exact ih
  ·exact⟨t',rfl⟩
 |[],_::_,h,_=>h.elim
 |_::_,[],h,_=>h.elim
theorem tabF_of {W:Wd}{d:Addr}{em:Array DictEntry}{nm:Nat}{l:List (Int×List Nat)} (hs:(d==sysModules)=false) (h:W.h₁.get? d=some (dO em nm)) (E:Ents em.toList l):TabF W d (lookT l):=by
 refine⟨hs,⟨_,h,(fun z=>by cases z),rfl⟩,fun i=>findBy Value.isInt em i,⟨_,em,nm,h,⟨rfl,rfl,rfl⟩,rfl,fun e he=>?_,fun k=>rfl⟩,fun i=>?_⟩
 ·obtain ⟨kv,_,t,t',rfl⟩:=E.mem (Array.mem_toList_iff.mpr he)
  exact⟨kv.1,by show(kv.1==kv.1)=true;exact beq_self_eq_true _,rfl⟩
 ·have:=look_ents E i
  have e:findBy Value.isInt em i=(em.toList.find? fun e=>Value.isInt i e.key).map (·.val):=by unfold findBy;rw[Array.find?_toList]
  rw[← e] at this
  exact this
noncomputable def kvsOf (o:Obj):List (Int×List Nat):=match o.data with
 | .dict es _=>es.toList.map fun e=>match e.key,e.val with | .int k _,.str x _=>(k,x.cps.toList) |_,_=>(0,[])
 |_=>[]
noncomputable def okE (e:DictEntry):Bool:=match e.key,e.val with | .int k _,.str x _=>e.hash==hashInt k |_,_=>false
theorem ents_of:∀ {es:List DictEntry},es.all okE=true→Ents es (es.map fun e=>match e.key,e.val with | .int k _,.str x _=>(k,x.cps.toList) |_,_=>(0,[]))
 |[],_=>trivial
 |e::es,h=>by
  rw[List.all_cons,Bool.and_eq_true] at h
  refine⟨?_,ents_of h.2⟩
  obtain ⟨hh,kk,vv⟩:=e
  have h1:=h.1
  cases kk with
  |int k t =>
   cases vv with
   |str x t' =>
    have h1:(hh==hashInt k)=true:=h1
    obtain ⟨⟨cs⟩⟩:=x
    obtain rfl:hh=hashInt k:=beq_iff_eq.mp h1
    exact⟨t,t',rfl⟩
   |_=>exact absurd h1 Bool.false_ne_true
  |_=>exact absurd h1 Bool.false_ne_true
noncomputable def setEs (o:Obj):List (Int×Value):=match o.data with | .set es _ _=>es.toList |_=>[]
theorem setF_of {W:Wd}{d:Addr}{es:Array (Int×Value)}{ep:Nat}{t:SetTable} (h:W.h₁.get? d=some ⟨.type "set",none,.set es ep t,#[]⟩) (h1:(es.toList.all fun e=>(match e.2 with | .int k _=>e.1==hashInt k |_=>false))=true)
  (h2:(decide (es.size<scanBound)&&t.fits es.size)=true):SetF W d fun k=>es.toList.any fun e=>Value.isInt k e.2:=by
 simp only[Bool.and_eq_true,decide_eq_true_eq] at h2
 refine⟨⟨_,h,fun z=>by cases z⟩,es.size,⟨_,es,ep,t,h,⟨rfl,rfl,rfl⟩,rfl,fun e he=>?_,fun k=>?_,h2.1,h2.2,rfl⟩⟩
 ·have:=List.all_eq_true.mp h1 e he
  split at this
  ·rename_i k tk hk
   exact⟨⟨k,by rw[hk];show(k==k)=true;exact beq_self_eq_true _,beq_iff_eq.mp this⟩,by rw[hk];rfl⟩
  ·cases this
 ·rw[List.any_eq_true]
  rfl
noncomputable def KF (P:Params):Frag:=[(76,Hp.o76),(83,Hp.o83),(102,Hp.o102),(121,Hp.o121),(129,Hp.o129),(134,Hp.o134),(179,Hp.o179),(181,Hp.o181 P),(182,Hp.o182),(208,Hp.o208),(215,Hp.o215),(222,Hp.o222),(229,Hp.o229),(231,Hp.o231 P),(232,Hp.o232)]
theorem kf_at (P:Params) (x:Nat→Obj):((KF P).map (·.1)).map (Hp.h28 P x).get? = (KF P).map fun p=>some p.2:=by kernel_rfl
theorem kf_in (P:Params) (x:Nat→Obj):(KF P).In (Hp.h28 P x):=Frag.in_of rfl (kf_at P x)
theorem kf_cls (P:Params):((KF P).all fun p => !(p.2.cls == .none))=true:=by kernel_rfl
theorem lookup_mem' {K:Frag}{a:Addr}{o:Obj} (h:K.lookup a=some o):(a,o)∈K:=by
 induction K with
 |nil=>cases h
 |cons p r ih =>
  obtain ⟨b,y⟩:=p
  simp only[List.lookup] at h
  split at h
  ·rename_i q;cases h;rw[beq_iff_eq.mp q];exact List.mem_cons_self
  ·exact List.mem_cons_of_mem _ (ih h)
structure Ext (P:Params) (x:Nat→Obj) (H:Heap):Prop where
 k:Keep P x H
 z:302<H.objs.size
 l:∃ o,H.get? (H.objs.size-1)=some o
noncomputable abbrev mgT (P:Params) (x:Nat→Obj):Str→Option Value:=(Hp.h28 P x).nsMap mainGlobals
noncomputable abbrev mbT (P:Params) (x:Nat→Obj):Str→Option Value:=(Hp.h28 P x).nsMap builtinsNs
noncomputable def WW (w:World) (x:Nat→Obj) (os:OsState) (H:Heap) (z:302<H.objs.size):Wd :=
 { K:=KF w.params,prog:=pwT,w:=w,h₁:=H,os:=os,mg:=mgT w.params x,mb:=mbT w.params x,tP:=302,tpos:=readDef.pos,tq:="_law_lexer.<locals>.read",tlt:=z,kn:=fun _=>True,knm:=fun _ _=>trivial }
theorem nsT (P:Params) (x:Nat→Obj):(Hp.h28 P x).Ns mainGlobals (mgT P x)∧(Hp.h28 P x).Ns builtinsNs (mbT P x):=by
 have h:=lk_ns P x
 simp only[Bool.and_eq_true] at h
 exact⟨.of_isNs h.1.1,.of_isNs h.1.2⟩
theorem lim_is (P:Params) (x:Nat→Obj):((Hp.h28 P x).isNs cStatics,(Hp.h28 P x).nsMap cStatics "sys.recursionlimit")=(true,none):=by kernel_rfl
theorem get_g (P:Params) (x:Nat→Obj):(Hp.h28 P x).get? mainGlobals=some (Hp.o3i P):=by kernel_rfl
theorem get_b (P:Params) (x:Nat→Obj):(Hp.h28 P x).get? builtinsNs=some (Hp.o0 P):=by kernel_rfl
theorem ns_keeps {h h':Heap}{a:Addr}{m:Str→Option Value} (x:h.Ns a m) (k:∀ b o,h.get? b=some o→h'.get? b=some o):h'.Ns a m:=by obtain ⟨o,es,ep,e,r⟩:=x;exact⟨o,es,ep,k _ _ e,r⟩
section
variable {w:World}{x:Nat→Obj}{os:OsState}{H:Heap} (X:Ext w.params x H)
include X
theorem topT:Top (WW w x os H X.z):=by
 refine⟨X.l,(kf_in _ x).keeps X.k,fun a o h=>?_,?_,⟨_,X.k _ _ (get_g _ x),(fun z=>by cases z)⟩,ns_keeps (nsT _ x).1 X.k,⟨_,X.k _ _ (get_b _ x),(fun z=>by cases z)⟩,ns_keeps (nsT _ x).2 X.k⟩
 ·have:=List.all_eq_true.mp (kf_cls w.params) _ (lookup_mem' h)
  intro z
  simp[z] at this
 ·have h:=lim_is w.params x
  exact⟨_,ns_keeps (.of_isNs (Prod.mk.inj h).1) X.k,(Prod.mk.inj h).2⟩
theorem bltsT:Blts (WW w x os H X.z):=by
 have h1:((["ord","chr","len","hex","iter","sum","sorted"]:List String).map fun n=>(mgT w.params x (Str.ofString n),mbT w.params x (Str.ofString n)))=(["ord","chr","len","hex","iter","sum","sorted"]:List String).map fun n=>(none,some (.builtin n)):=by kernel_rfl
 have h2:((["range","str","list","type","zip"]:List String).map fun n=>(mgT w.params x (Str.ofString n),mbT w.params x (Str.ofString n)))=(["range","str","list","type","zip"]:List String).map fun n=>(none,some (.type n)):=by kernel_rfl
 exact⟨fun n hn=>Prod.mk.inj (List.map_inj_left.mp h1 n hn),fun n hn=>Prod.mk.inj (List.map_inj_left.mp h2 n hn)⟩
end
set_option tactic.hygienic false
set_option hygiene false
theorem kg (P:Params):((clsIn (KF P) 232).any (fun c=>c.hasDict)&&(clsIn (KF P) 182).any (fun c=>c.hasDict)&&plainOver (KF P) 232&&plainOver (KF P) 182&&makesIn (KF P) 232&&makesIn (KF P) 182)=true:=by kernel_rfl
theorem findsL (P:Params):(findIn (KF P) (.ref 232) "__getattribute__",findIn (KF P) (.ref 232) "__getattr__",findIn (KF P) (.ref 232) "__setattr__",findIn (KF P) (.ref 232) "__init__",findIn (KF P) (.ref 232) "_read_char",findIn (KF P) (.ref 232) "get_token",findIn (KF P) (.ref 232) "push_token") =
 (some (some (.builtin "object.__getattribute__")),some none,some (some (.builtin "object.__setattr__")),some (some (.ref 208)),some (some (.ref 215)),some (some (.ref 222)),some (some (.ref 229))):=by kernel_rfl
theorem findsH (P:Params):(findIn (KF P) (.ref 182) "__getattribute__",findIn (KF P) (.ref 182) "__getattr__",findIn (KF P) (.ref 182) "__setattr__",findIn (KF P) (.ref 182) "_headers") =
 (some (some (.builtin "object.__getattribute__")),some none,some (some (.builtin "object.__setattr__")),some none):=by kernel_rfl
noncomputable def hNames:List String:=["__init__","_convert_string_type","get_all","add_header","__delitem__","get","keys"]
noncomputable def hAddrs:List Addr:=[76,83,121,179,102,129,134]
noncomputable def hRef (a:Addr):Option (Option Value):=some (some (.ref a))
noncomputable def hFind (P:Params) (n:String):Option (Option Value):=findIn (KF P) (.ref 182) (Str.ofString n)
theorem findsM (P:Params):hNames.map (hFind P)=hAddrs.map hRef:=by kernel_rfl
noncomputable def hFun (_:Addr):Option Value:=some (.type "function")
noncomputable def hTy (P:Params) (a:Addr):Option Value:=typeIn (KF P) (.ref a)
theorem tysM (P:Params):hAddrs.map (hTy P)=hAddrs.map hFun:=by kernel_rfl
theorem deqM (P:Params):mroIn (KF P) 182 (.type "collections.deque")=some false:=by kernel_rfl
theorem findsN (P:Params):((["lineno","instream","whitespace","pushback","read"]:List String).map fun n=>findIn (KF P) (.ref 232) (Str.ofString n))=(["lineno","instream","whitespace","pushback","read"]:List String).map fun n=>some none:=by kernel_rfl
theorem tysT (P:Params):(typeIn (KF P) (.ref 208),typeIn (KF P) (.ref 215),typeIn (KF P) (.ref 222),typeIn (KF P) (.ref 229)) =
 (some (.type "function"),some (.type "function"),some (.type "function"),some (.type "function")):=by kernel_rfl
theorem rcT' (P:Params):(specialIn (KF P) (.ref 215) "__get__",takesIn (KF P) (.ref 215))=(some (some (.builtin "function.__get__")),some false):=by kernel_rfl
theorem callsT (P:Params):(specialIn (KF P) (.ref 232) "__call__",specialIn (KF P) (.ref 182) "__call__")=(some (some (.builtin "type.__call__")),some (some (.builtin "type.__call__"))):=by kernel_rfl
noncomputable def gNames:List String:=["COMPILER_FLAG_NAMES","pretty_flags","_netrclex","b1_set","in_table_b1","b3_exceptions","map_table_b3","_name_disallowed_re","_value_disallowed_re","Headers","_formatparam","_law_lexer","_law_prepared","_law_typed","_law_written","_law_drawn","_law_joined","_law_taken","_law_parted","_law_names","law"]
noncomputable def gAddrs:List Addr:=[187,194,232,244,254,255,300,48,53,182,61,307,312,317,322,327,332,337,342,347,352]
noncomputable def gRef (a:Addr):Option Value:=some (.ref a)
noncomputable def gMg (P:Params) (x:Nat→Obj) (n:String):Option Value:=(Hp.h28 P x).nsMap mainGlobals (Str.ofString n)
theorem globsT (P:Params) (x:Nat→Obj):gNames.map (gMg P x)=gAddrs.map gRef:=by kernel_rfl
theorem gt187 (P:Params) (x:Nat→Obj):(Hp.h28 P x).get? 187=some Hp.o187:=by kernel_rfl
theorem gt232 (P:Params) (x:Nat→Obj):(Hp.h28 P x).get? 232=some Hp.o232:=by kernel_rfl
theorem gt244 (P:Params) (x:Nat→Obj):(Hp.h28 P x).get? 244=some (Hp.o244 P):=by kernel_rfl
theorem gt47 (P:Params) (x:Nat→Obj):(Hp.h28 P x).get? 47=some Hp.o47:=by kernel_rfl
theorem gt48 (P:Params) (x:Nat→Obj):(Hp.h28 P x).get? 48=some Hp.o48:=by kernel_rfl
theorem gt52 (P:Params) (x:Nat→Obj):(Hp.h28 P x).get? 52=some Hp.o52:=by kernel_rfl
theorem gt53 (P:Params) (x:Nat→Obj):(Hp.h28 P x).get? 53=some Hp.o53:=by kernel_rfl
theorem gt54 (P:Params) (x:Nat→Obj):(Hp.h28 P x).get? 54=some Hp.o54:=by kernel_rfl
theorem gt69 (P:Params) (x:Nat→Obj):(Hp.h28 P x).get? 69=some Hp.o69:=by kernel_rfl
theorem gt122 (P:Params) (x:Nat→Obj):(Hp.h28 P x).get? 122=some Hp.o122:=by kernel_rfl
theorem gt182 (P:Params) (x:Nat→Obj):(Hp.h28 P x).get? 182=some Hp.o182:=by kernel_rfl
theorem gt302 (P:Params) (x:Nat→Obj):(Hp.h28 P x).get? 302=some Hp.o302:=by kernel_rfl
theorem gt306 (P:Params) (x:Nat→Obj):(Hp.h28 P x).get? 306=some Hp.o306:=by kernel_rfl
theorem gt4 (P:Params) (x:Nat→Obj):(Hp.h28 P x).get? 4=some Hp.o4:=by kernel_rfl
theorem gt255 (P:Params) (x:Nat→Obj){em:Array DictEntry}{nm:Nat} (h:x 0=dO em nm):(Hp.h28 P x).get? 255=some (dO em nm):=by
 have e:(Hp.h28 P x).objs[255]? = some (x 0):=by kernel_rfl
 unfold Heap.get?
 rw[e,h]
 rfl
noncomputable def pD:Params:={ strHash:=fun _=>0,shareClass:=fun _=>0,mergeTok:=fun t=>t,idOf:=fun _=>0,idOfShared:=fun _ _=>0,followText:=fun _=>true,idOfImm:=fun _=>0 }
noncomputable def cfnT':List (Int×List Nat):=kvsOf Hp.o187
noncomputable def b1T' (k:Int):Bool:=(setEs (Hp.o244 pD)).any fun e=>Value.isInt k e.2
theorem cfnW':∀ i:Fin 32,wordOf (lookT cfnT') i.val=wordC i.val:=by decide +kernel
noncomputable def findN (n:Nat) (l:List (Int×List Nat)):Option (List Nat):=l.rec none fun kv _ r=>cond (Nat.beq kv.1.toNat n) (some kv.2) r
theorem look_N (n:Nat):∀ {l:List (Int×List Nat)},l.all (fun kv=>decide (0≤kv.1))=true→lookT l n=findN n l
 |[],_=>rfl
 |kv::l,h=>by
  rw[List.all_cons,Bool.and_eq_true,decide_eq_true_eq] at h
  have ih:=look_N n h.2
  unfold lookT at ih ⊢
  rw[List.find?_cons]
  show Option.map _ (match (kv.1==(n:Int)) with |true=>_ |false=>_)=cond (Nat.beq kv.1.toNat n) (some kv.2) (findN n l)
  have e:(kv.1==(n:Int))=Nat.beq kv.1.toNat n:=by
   rw[Bool.eq_iff_iff,beq_iff_eq,Nat.beq_eq]
   have:=h.1
   lia
  rw[e]
  cases Nat.beq kv.1.toNat n
  ·exact ih
  ·rfl
theorem pos10':b3kv.all (fun kv=>decide (0≤kv.1))=true:=by decide +kernel
noncomputable def f3N (i:Int):Option (List Nat):=findN i.toNat b3kv
theorem b3N (c:Nat):b3L (lookT b3kv) c=b3L f3N c:=by
 unfold b3L
 rw[look_N c pos10']
 rfl
theorem fgS:∀ k:Fin 20,(!b1T' ((sT.getD k.val 0:Nat))&&decide (b3L f3N (sT.getD k.val 0)=[115]))=true:=by decide +kernel
theorem fgE:(!b1T' ((223:Nat))&&decide (b3L f3N 223=[115,115]))=true:=by decide +kernel
theorem fgU:∀ u:Fin 54,((unsS u.val).all fun y:Nat=>b1T' y)=true:=by decide +kernel
theorem fgR:∀ i:Fin 7,(!b1T' ((strT.getD i.val 0:Nat))&&decide (b3L f3N (strT.getD i.val 0)=[strT.getD i.val 0]))=true:=by decide +kernel
theorem low10:b3kv.all (fun kv=>decide (128≤kv.1))=true:=by decide +kernel
theorem look_low:∀ {l:List (Int×List Nat)},l.all (fun kv=>decide (128≤kv.1))=true→∀ c:Nat,c<128→lookT l c=none
 |[],_,_,_=>rfl
 |kv::l,h,c,hc=>by
  rw[List.all_cons,Bool.and_eq_true,decide_eq_true_eq] at h
  have ih:=look_low h.2 c hc
  unfold lookT at ih ⊢
  rw[List.find?_cons]
  have e:(kv.1==(c:Int))=false:=by
   rw[beq_eq_false_iff_ne]
   have:=h.1
   lia
  rw[e]
  exact ih
theorem b1low:∀ c:Fin 128,b1T' (c.val:Nat)=false:=by decide +kernel
theorem prep_low:∀ x:List Nat,x.all (fun c=>decide (c<128))=true→prepL (lookT b3kv) b1T' x=prepL (fun _=>none) (fun _=>false) x
 |[],_=>rfl
 |c::x,h=>by
  rw[List.all_cons,Bool.and_eq_true,decide_eq_true_eq] at h
  have ih:=prep_low x h.2
  unfold prepL at ih ⊢
  have h1:b1T' (c:Nat)=false:=b1low ⟨c,h.1⟩
  have h2:b3L (lookT b3kv) c=b3L (fun _=>none) c:=by unfold b3L;rw[look_low low10 c h.1]
  rw[List.filter_cons,List.filter_cons,h1]
  show(List.map _ (c::_)).flatten=(List.map _ (c::_)).flatten
  rw[List.map_cons,List.map_cons,List.flatten_cons,List.flatten_cons,h2,ih]
theorem word_low:∀ p:Fin 32,((wordC p.val).all fun c=>decide (c<128))=true:=by decide +kernel
theorem word_prep:∀ p:Fin 32,prepL (fun _=>none) (fun _=>false) (wordC p.val)=lowerL (wordC p.val):=by decide +kernel
theorem fgT:FG (lookT b3kv) b1T':=by
 refine⟨?_,?_,fgU,?_,fun p=>(prep_low _ (word_low p)).trans (word_prep p)⟩
 ·intro k
  rw[b3N]
  exact fgS k
 ·have:=b3N 223
  have e:b3L (lookT b3kv) 223=b3L f3N 223:=this
  rw[e]
  exact fgE
 ·intro i
  rw[b3N]
  exact fgR i
theorem zip_at {α:Type}{f:String→α}{g:Addr→α}{ns:List String}{as:List Addr} (h:ns.map f=as.map g) (i:Nat){n:String}{a:Addr} (h1:ns[i]? = some n) (h2:as[i]? = some a):f n=g a:=by
 have:=congrArg (·[i]?) h
 simp only[List.getElem?_map,h1,h2,Option.map_some,Option.some.injEq] at this
 exact this
section
variable {w:World}{x:Nat→Obj}{os:OsState}{H:Heap} (X:Ext w.params x H)
include X
theorem gl187:(WW w x os H X.z).mg "COMPILER_FLAG_NAMES"=some (.ref 187):=zip_at (globsT w.params x) 0 rfl rfl
theorem gl194:(WW w x os H X.z).mg "pretty_flags"=some (.ref 194):=zip_at (globsT w.params x) 1 rfl rfl
theorem gl232:(WW w x os H X.z).mg "_netrclex"=some (.ref 232):=zip_at (globsT w.params x) 2 rfl rfl
theorem gl244:(WW w x os H X.z).mg "b1_set"=some (.ref 244):=zip_at (globsT w.params x) 3 rfl rfl
theorem gl254:(WW w x os H X.z).mg "in_table_b1"=some (.ref 254):=zip_at (globsT w.params x) 4 rfl rfl
theorem gl255:(WW w x os H X.z).mg "b3_exceptions"=some (.ref 255):=zip_at (globsT w.params x) 5 rfl rfl
theorem gl300:(WW w x os H X.z).mg "map_table_b3"=some (.ref 300):=zip_at (globsT w.params x) 6 rfl rfl
theorem gl48:(WW w x os H X.z).mg "_name_disallowed_re"=some (.ref 48):=zip_at (globsT w.params x) 7 rfl rfl
theorem gl53:(WW w x os H X.z).mg "_value_disallowed_re"=some (.ref 53):=zip_at (globsT w.params x) 8 rfl rfl
theorem gl182:(WW w x os H X.z).mg "Headers"=some (.ref 182):=zip_at (globsT w.params x) 9 rfl rfl
theorem gl61:(WW w x os H X.z).mg "_formatparam"=some (.ref 61):=zip_at (globsT w.params x) 10 rfl rfl
theorem gl307:(WW w x os H X.z).mg "_law_lexer"=some (.ref 307):=zip_at (globsT w.params x) 11 rfl rfl
theorem gl312:(WW w x os H X.z).mg "_law_prepared"=some (.ref 312):=zip_at (globsT w.params x) 12 rfl rfl
theorem gl317:(WW w x os H X.z).mg "_law_typed"=some (.ref 317):=zip_at (globsT w.params x) 13 rfl rfl
theorem gl322:(WW w x os H X.z).mg "_law_written"=some (.ref 322):=zip_at (globsT w.params x) 14 rfl rfl
theorem gl327:(WW w x os H X.z).mg "_law_drawn"=some (.ref 327):=zip_at (globsT w.params x) 15 rfl rfl
theorem gl332:(WW w x os H X.z).mg "_law_joined"=some (.ref 332):=zip_at (globsT w.params x) 16 rfl rfl
theorem gl337:(WW w x os H X.z).mg "_law_taken"=some (.ref 337):=zip_at (globsT w.params x) 17 rfl rfl
theorem gl342:(WW w x os H X.z).mg "_law_parted"=some (.ref 342):=zip_at (globsT w.params x) 18 rfl rfl
theorem gl347:(WW w x os H X.z).mg "_law_names"=some (.ref 347):=zip_at (globsT w.params x) 19 rfl rfl
theorem cfnTab:TabF (WW w x os H X.z) 187 (lookT cfnT'):=tabF_of (em:=_) (nm:=_) (by decide) (X.k _ _ (gt187 _ x)) (ents_of (by kernel_rfl))
theorem b1Set:SetF (WW w x os H X.z) 244 b1T':=setF_of (X.k _ _ (gt244 _ x)) (by kernel_rfl) (by kernel_rfl)
theorem b3Tab (hx:TabX x):TabF (WW w x os H X.z) 255 (lookT b3kv):=by
 obtain ⟨em,nm,h,E⟩:=hx
 exact tabF_of (by decide) (X.k _ _ (gt255 _ x h)) E
theorem nmPat:PatF (WW w x os H X.z) 48 nameCode:=⟨⟨_,_,47,_,_,_,X.k _ _ (gt48 _ x),rfl,rfl,rfl,rfl,rfl,rfl,X.k _ _ (gt47 _ x),(fun z=>by cases z),rfl,by kernel_rfl⟩,⟨by kernel_rfl,rfl,rfl⟩⟩
theorem vlPat:PatF (WW w x os H X.z) 53 valueCode:=⟨⟨_,_,52,_,_,_,X.k _ _ (gt53 _ x),rfl,rfl,rfl,rfl,rfl,rfl,X.k _ _ (gt52 _ x),(fun z=>by cases z),rfl,by kernel_rfl⟩,⟨by kernel_rfl,rfl,rfl⟩⟩
noncomputable def l1T:L1 (WW w x os H X.z) where
 T:=topT X
 B:=bltsT X
 cfn:=187
 cfnG:=gl187 X
 cfnF:=lookT cfnT'
 cfnT:=cfnTab X
 cfnW:=fun i hi=>cfnW' ⟨i,hi⟩
 pf:=194
 pfG:=gl194 X
 pfF:=.of (fn194 _ x _ X.k)
theorem clsL:ClsIs (WW w x os H X.z) 232:=by
 have h:=kg w.params
 simp only[Bool.and_eq_true] at h
 obtain ⟨⟨⟨⟨⟨h1,h2⟩,h3⟩,h4⟩,h5⟩,h6⟩:=h
 have e:=findsL w.params
 simp only[Prod.mk.injEq] at e
 obtain ⟨cd,q1,q2⟩:=any_some h1
 exact⟨⟨cd,q1,q2⟩,e.1,e.2.1,e.2.2.1,h3,h5⟩
theorem clsH:ClsIs (WW w x os H X.z) 182:=by
 have h:=kg w.params
 simp only[Bool.and_eq_true] at h
 obtain ⟨⟨⟨⟨⟨h1,h2⟩,h3⟩,h4⟩,h5⟩,h6⟩:=h
 have e:=findsH w.params
 simp only[Prod.mk.injEq] at e
 obtain ⟨cd,q1,q2⟩:=any_some h2
 exact⟨⟨cd,q1,q2⟩,e.1,e.2.1,e.2.2.1,h4,h6⟩
theorem kpL (σ:Sig):KP (WW w x os H X.z) .machine (.ref 232) σ :=
 KP_cls (X.k _ _ (gt232 _ x)) (fun z=>by cases z) rfl (fun h hk=>looks_specialIn hk (Prod.mk.inj (callsT w.params)).1) (topT X)
theorem kpH (σ:Sig):KP (WW w x os H X.z) .machine (.ref 182) σ :=
 KP_cls (X.k _ _ (gt182 _ x)) (fun z=>by cases z) rfl (fun h hk=>looks_specialIn hk (Prod.mk.inj (callsT w.params)).2) (topT X)
noncomputable def lexT:LexCls (WW w x os H X.z) where
 C:=232
 G:=gl232 X
 X:=clsL X
 kp:=kpL X
 no:=fun n hn=>List.map_inj_left.mp (findsN w.params) n hn
 ini:=208
 iniM:=⟨(Prod.mk.inj (Prod.mk.inj (Prod.mk.inj (Prod.mk.inj (findsL w.params)).2).2).2).1,(Prod.mk.inj (tysT w.params)).1,.of (fn208 _ x _ X.k)⟩
 rc:=215
 rcM:=⟨(Prod.mk.inj (Prod.mk.inj (Prod.mk.inj (Prod.mk.inj (Prod.mk.inj (findsL w.params)).2).2).2).2).1,(Prod.mk.inj (Prod.mk.inj (tysT w.params)).2).1,.of (fn215 _ x _ X.k)⟩
 rcG:=(Prod.mk.inj (rcT' w.params)).1
 rcT:=(Prod.mk.inj (rcT' w.params)).2
 gt:=222
 gtM:=⟨(Prod.mk.inj (Prod.mk.inj (Prod.mk.inj (Prod.mk.inj (Prod.mk.inj (Prod.mk.inj (findsL w.params)).2).2).2).2).2).1,(Prod.mk.inj (Prod.mk.inj (Prod.mk.inj (tysT w.params)).2).2).1,.of (fn222 _ x _ X.k)⟩
 pt:=229
 ptM:=⟨(Prod.mk.inj (Prod.mk.inj (Prod.mk.inj (Prod.mk.inj (Prod.mk.inj (Prod.mk.inj (findsL w.params)).2).2).2).2).2).2,(Prod.mk.inj (Prod.mk.inj (Prod.mk.inj (tysT w.params)).2).2).2,.of (fn229 _ x _ X.k)⟩
omit X in
theorem hF (i:Nat){n:String}{a:Addr} (h1:hNames[i]? = some n) (h2:hAddrs[i]? = some a):findIn (KF w.params) (.ref 182) (Str.ofString n)=some (some (.ref a)):=zip_at (findsM w.params) i h1 h2
omit X in
theorem hT (a:Addr) (h:a∈hAddrs):typeIn (KF w.params) (.ref a)=some (.type "function"):=List.map_inj_left.mp (tysM w.params) a h
theorem iniD:FnD (WW w x os H X.z) 76 "Headers.__init__" (methAt 7 0) #[.none]:=⟨69,_,_,_,_,_,fn76 _ x _ X.k,_,_,X.k _ _ (gt69 _ x),(fun z=>by cases z),rfl⟩
theorem getD:FnD (WW w x os H X.z) 129 "Headers.get" (methAt 7 8) #[.none]:=⟨122,_,_,_,_,_,fn129 _ x _ X.k,_,_,X.k _ _ (gt122 _ x),(fun z=>by cases z),rfl⟩
theorem fpD:FnD (WW w x os H X.z) 61 "_formatparam" (defAt 6) #[.none,.int 1 385]:=⟨54,_,_,_,_,_,fn61 _ x _ X.k,_,_,X.k _ _ (gt54 _ x),(fun z=>by cases z),rfl⟩
noncomputable def hdrT:HdrCls (WW w x os H X.z) where
 C:=182
 G:=gl182 X
 X:=clsH X
 kp:=kpH X
 no:=(Prod.mk.inj (Prod.mk.inj (Prod.mk.inj (findsH w.params)).2).2).2
 ini:=76
 iniM:=⟨hF 0 rfl rfl,hT 76 (by decide),iniD X⟩
 cv:=83
 cvM:=⟨hF 1 rfl rfl,hT 83 (by decide),.of (fn83 _ x _ X.k)⟩
 ga:=121
 gaM:=⟨hF 2 rfl rfl,hT 121 (by decide),.of (fn121 _ x _ X.k)⟩
 ah:=179
 ahM:=⟨hF 3 rfl rfl,hT 179 (by decide),.of (fn179 _ x _ X.k)⟩
 nm:=48
 nmG:=gl48 X
 nmP:=nmPat X
 vl:=53
 vlG:=gl53 X
 vlP:=vlPat X
 sys:=Nat.lt_trans (by decide:sysModules<302) X.z
noncomputable def hdr2T:Hdr2 (WW w x os H X.z) (hdrT X) where
 dl:=102
 dlM:=⟨hF 4 rfl rfl,hT 102 (by decide),.of (fn102 _ x _ X.k)⟩
 gt:=129
 gtM:=⟨hF 5 rfl rfl,hT 129 (by decide),getD X⟩
 ks:=134
 ksM:=⟨hF 6 rfl rfl,hT 134 (by decide),.of (fn134 _ x _ X.k)⟩
 dq:=deqM w.params
 fp:=61
 fpG:=gl61 X
 ft:=385
 fpF:=fpD X
noncomputable def prepT (hx:TabX x):Prep (WW w x os H X.z) where
 ab1:=254
 F1:=.of (fn254 _ x _ X.k)
 h1:=gl254 X
 b1:=244
 hm1:=gl244 X
 g:=b1T'
 S1:=b1Set X
 am3:=300
 F3:=.of (fn300 _ x _ X.k)
 h3:=gl300 X
 b3:=255
 hm3:=gl255 X
 f:=lookT b3kv
 S3:=b3Tab X hx
 lp:=312
 F:=.of (fn312 _ x _ X.k)
 G:=gl312 X
 prepW:=fun p hp=>fgT.prepW ⟨p,hp⟩
theorem tabTopT:TabTop (WW w x os H X.z) 306:=by
 have hb:(mgT w.params x "__builtins__",(302:Addr)==cStatics,(mainGlobals:Addr)==302)=(some (.ref 4),false,false):=by kernel_rfl
 simp only[Prod.mk.injEq,beq_eq_false_iff_ne] at hb
 exact⟨⟨_,_,_,_,_,_,_,_,_,X.k _ _ (gt306 _ x),rfl,rfl,rfl,rfl,rfl,rfl,rfl,rfl,(show(306:Nat)≠302 by decide)⟩,X.k _ _ (gt302 _ x),⟨4,_,hb.1,(show(4:Nat)≠builtinsNs by decide),(show(4:Nat)≠mainGlobals by decide),(show(4:Nat)≠302 by decide),X.k _ _ (gt4 _ x),rfl,rfl,rfl⟩,hb.2.1,hb.2.2⟩
theorem nestT:NestOK (WW w x os H X.z) 307 306:=⟨⟨_,_,_,_,fn307 _ x _ X.k⟩,tabTopT X,rfl,rfl⟩
end
section
variable {w:World}{x:Nat→Obj}{os:OsState}{H:Heap} (X:Ext w.params x H) (hx:TabX x)
include X hx
theorem law_T {script:List Int} (hs:script.length≤63){σ:Sig}:CC (WW w x os H X.z) 6 (.ref 352) [.lst (intsL script)] [] [] σ (fun p _=>p=.bool true) :=
 law_C (k:=0) (l1T X) (lexT X) (hdrT X) (hdr2T X) (prepT X hx) (.of (fn352 _ x _ X.k)) (.of (fn327 _ x _ X.k)) (gl327 X) (.of (fn317 _ x _ X.k)) (gl317 X) (.of (fn322 _ x _ X.k)) (gl322 X) (nestT X) (gl307 X) (.of (fn332 _ x _ X.k)) (gl332 X) (.of (fn337 _ x _ X.k)) (gl337 X) (.of (fn342 _ x _ X.k)) (gl342 X) (.of (fn347 _ x _ X.k)) (gl347 X)
  (by exact Nat.le_trans (by assumption) (by decide)) (fun d hd=>facts_of fgT hd)
theorem st_T {s:Shared} (hh:s.heap=H) (hos:s.os=os) (hg:s.gens = #[]) (ht:1≤s.toks):St (WW w x os H X.z) (fun _=>none) s:=by
 have T:=topT (os:=os) X
 subst hh
 exact⟨fun a o h=>(nomatch h),OldK.refl _,fun a h=>absurd rfl h,Nat.le_refl _,T.lim,hos,.of_eq hg,ht,trivial,#[],X.k _ _ (gt302 _ x),.inl rfl⟩
end
set_option tactic.hygienic true
set_option hygiene true
noncomputable abbrev rowT:OpenRow:=PySem.Challenge.rw_uc0056_02.row
theorem defLaw:pwT.theDef "law"=some (paramsOf (defAt 28),bodyOf (defAt 28),scopeOf (defAt 28)):=by kernel_rfl
theorem dflLaw:((paramsOf (defAt 28)).defaults=[]∧(paramsOf (defAt 28)).kwonlyargs=[]∧(paramsOf (defAt 28)).kw_defaults=[]):=⟨by kernel_rfl,by kernel_rfl,by kernel_rfl⟩
theorem gt352 (P:Params) (x:Nat→Obj):(Hp.h28 P x).get? 352=some Hp.o352:=by kernel_rfl
theorem law_is (P:Params) (x:Nat→Obj):isTheDefsW pwT (Hp.h28 P x) "law":=by
 have h:=lk_ns P x
 simp only[Bool.and_eq_true] at h
 refine⟨352,_,_,paramsOf (defAt 28),bodyOf (defAt 28),scopeOf (defAt 28),?_,gt352 P x,rfl,defLaw,by kernel_rfl,by kernel_rfl,rfl,rfl,rfl,rfl,rfl,rfl,.inl ⟨dflLaw.1,rfl⟩,[],?_,.inl ⟨rfl,rfl⟩⟩
 ·exact(Pin.globalOf_eq h.1.1 _).trans (zip_at (globsT P x) 20 rfl rfl)
 ·rw[dflLaw.2.1,dflLaw.2.2];rfl
theorem pre_is {args:List WData} (h:rowT.toRowW.claim.pre args=true):∃ script:List Int,args=[.list (script.map .int)]∧script.length≤63:=by
 obtain ⟨h1,h2⟩:=Bool.and_eq_true_iff.mp h
 replace h1:WShape.hasAll [] args [.list .int]=true:=h1
 replace h2:WTm.holds [] (.and (.not (.lt (.lit (.int 63)) (.len (.arg 0)))) (.lit (.bool true))) { args:=args }=true:=h2
 match args,h1,h2 with
 |[],h1,_=>simp[WShape.hasAll] at h1
 |d::r,h1,h2 =>
  simp only[WShape.hasAll,Bool.and_eq_true] at h1
  obtain ⟨h3,h4⟩:=h1
  obtain ⟨xs,rfl,h5⟩:=hasW_list h3
  obtain ⟨ns,rfl⟩:=items_int h5
  match r,h4,h2 with
  |_::_,h4,_=>simp[WShape.hasAll] at h4
  |[],_,h2 =>
   refine⟨ns,rfl,?_⟩
   by_cases q:ns.length≤63
   ·exact q
   ·have q':(63:Int)<(ns.length:Nat):=by omega
    simp[WTm.holds,WTm.value,less?,Num.less?,q'] at h2
theorem rel_ints {P:Params}{h:Heap}{F:FM}:∀ {script:List Int}{vs:List Value},WellAll P h vs (script.map .int)→VRels F (intsL script) vs
 |[],vs,W=>by cases W;exact(rfl:([]:List Value)=[])
 |i::r,vs,W=>by
  obtain ⟨v,vs',rfl,a,b⟩:=wellAll_cons_inv W
  cases a with
  |int _ t=>exact⟨_,_,rfl,⟨t,rfl⟩,rel_ints b⟩
theorem bareT:pwT.bare:=⟨rfl,rfl,rfl,rfl,rfl,by decide +kernel⟩
theorem opensT:opensWell pwT=true:=by decide +kernel
theorem promT:rowT.toRowW.promised:=⟨[.list []],by decide +kernel,by decide +kernel⟩
theorem post_T (args ds:List WData) (R:WRecords):(WShape.has R (.bool true) .bool&&WTm.holds R (.eq .res (.lit (.bool true))) { args:=args,res:=some (.bool true),after:=ds })=true:=by
 rw[show WShape.has R (.bool true) .bool=true from rfl,Bool.true_and]
 simp[WTm.holds,WTm.value,same_self]
theorem last_of {R:WRecords}{cl:Str→Option Addr}{P:Params}{ord:List DictEntry→List DictEntry}{xs:List WData}{s s₁:Shared}{vs:List Value} (h:layAllW R cl P ord [.list xs] s=some (vs,s₁)):∃ o,s₁.heap.get? (s₁.heap.objs.size-1)=some o:=by
 obtain ⟨a,q,h1,h2,h3⟩:=layAllW_cons h
 obtain ⟨q',h4,h5⟩:=layW_list h1
 cases h2
 cases h3
 subst h5
 refine⟨{ cls:=.type "list",data:=.seq q'.1.toArray },?_⟩
 ·rw[show(q'.2.heap.push { cls:=.type "list",data:=.seq q'.1.toArray }).objs.size-1=q'.2.heap.objs.size by rw[Heap.size_push];rfl]
  exact Heap.get?_push_size _ rfl
theorem ints_toks {R:WRecords}{cl:Str→Option Addr}{P:Params}{ord:List DictEntry→List DictEntry}:∀ {ns:List Int}{s:Shared}{r:List Value×Shared},layAllW R cl P ord (ns.map .int) s=some r→s.toks≤r.2.toks
 |[],s,r,h=>by cases h;exact Nat.le_refl _
 |n::ns,s,r,h=>by
  obtain ⟨a,q,h1,h2,h3⟩:=layAllW_cons h
  cases h1
  cases h3
  exact Nat.le_trans (Nat.le_succ _) (ints_toks h2)
theorem toks_of {R:WRecords}{cl:Str→Option Addr}{P:Params}{ord:List DictEntry→List DictEntry}{ns:List Int}{s s₁:Shared}{vs:List Value} (h:layAllW R cl P ord [.list (ns.map .int)] s=some (vs,s₁)):s.toks≤s₁.toks:=by
 obtain ⟨a,q,h1,h2,h3⟩:=layAllW_cons h
 obtain ⟨q',h4,h5⟩:=layW_list h1
 cases h2
 cases h3
 subst h5
 have:=ints_toks h4
 exact this
theorem call_T (w:World){x:Nat→Obj} (hx:TabX x){s₀ s₁:Shared} (hs₀:s₀=S28 w os0 x){script:List Int} (hl:script.length≤63){vs:List Value}{as:List Addr} (L:Laid rowT.toRowW.records w s₀ s₁ [.list (script.map .int)] vs as) :
  wpAny (model pwT w) callerA (PySem.call (.ref 352) vs) (fun v s'=>GoodWG rowT.toRowW.claim (classAt s₀.heap) (ExcName.means s₀.heap) [.list (script.map .int)] s₁ (.ok (.ret v)) s')
   (fun e s'=>GoodWG rowT.toRowW.claim (classAt s₀.heap) (ExcName.means s₀.heap) [.list (script.map .int)] s₁ (.error e) s') s₁:=by
 obtain ⟨ord,_,hlaid⟩:=L.laid
 have X:Ext w.params x s₁.heap:=by
  subst hs₀
  exact⟨L.keeps,Nat.lt_trans (by decide) (Heap.lt_size (L.keeps _ _ (gt352 _ x))),last_of hlaid⟩
 have hg:s₁.gens = #[]:=L.gens
 have ht:1≤s₁.toks:=Nat.le_trans (by subst hs₀;exact(show 1≤2750 by decide)) (toks_of hlaid)
 have S:=st_T X hx (s:=s₁) rfl (os:=s₁.os) rfl hg ht
 obtain ⟨v,vs',rfl,a,b⟩:=wellAll_cons_inv L.well
 cases b
 cases a with
 |list h1 h2 =>
  rename_i ad ws
  refine wpAny_call (codeAny_mono (law_T X hx hl (σ:=fun _=>none) (.ref 352) _ [] callerA ⟨rfl,by decide,by decide⟩ s₁ S (Eq.refl (Value.ref 352)) ⟨_,[],rfl,⟨_,_,0,rfl,⟨rfl,h1,fun z=>by cases z⟩,rel_ints h2⟩,rfl⟩ (rfl:([]:List Value)=[])) fun r s' z=>?_)
  unfold CPost at z
  cases r with
  |error e=>exact z.elim
  |ok f =>
   cases f with
   |ret v =>
    obtain ⟨p,σ',S',_,hv,rfl⟩:=z
    obtain rfl:v=.bool true:=hv
    exact⟨.inl ⟨_,.bool true,[],rfl,fun _=>rfl,.bool true,post_T _ _ _,fun _=>⟨List.nodup_nil,fun _ h=>by cases h⟩⟩,S'.old,S'.os,S'.gens⟩
   |next=>exact z.elim
   |brk=>exact z.elim
   |cont=>exact z.elim
theorem asleep_T (w:World) (x:Nat→Obj):(S28 w os0 x).asleep:=⟨rfl,rfl⟩
theorem identT:∀ a b,rowT.toRowW.claim.ident a b=true:=by
 have k:frees rowT.toRowW=true:=by decide +kernel
 obtain ⟨_,hu,ha,hap,_⟩:=frees_parts k
 exact ident_freeW hu ha hap
theorem from_T (w:World){x:Nat→Obj} (hx:TabX x) (free:Addr→Prop) (gens:Prop):rowT.toRowW.claim.CallFrom (callStub rowT.name) w free gens (fun h'=>rowT.writes=true→namesKept pwT rowT.keeps (S28 w os0 x).heap h'∧∀ x'∈rowT.toRowW.claim.records,∀ a,classAt (S28 w os0 x).heap x'.1=some a→recordClass h' a x'.1 (x'.2.map (·.1))=true) (S28 w os0 x):=by
 refine ClaimW.callFrom_of_specG (c:=rowT.toRowW.claim) (tree:=fun vs=>do match ← nsGet mainNs rowT.name with
   |some f=>do ret (← PySem.call f vs)
   |none=>unsupported "claim.caller:no-such-global") (asleep_T w x) rfl fun args hpre hlay ord hord=>?_
 obtain ⟨script,rfl,hl⟩:=pre_is hpre
 obtain ⟨⟨vs,s₁⟩,hlaid⟩:=Option.isSome_iff_exists.mp (layAllW_isSome (R:=[]) (cl:=classAt (S28 w os0 x).heap) (P:=w.params) (ord:=ord) (fun _ h=>(nomatch h)) [.list (script.map .int)] rowT.args (S28 w os0 x) (pre_splitW hpre).1)
 have keeps:=layAllW_keeps _ _ _ hlaid
 have hal:=layAllW_rest _ _ _ hlaid
 obtain ⟨as,hrd,hin,hold⟩:=reads_layAllW hord _ _ _ hlaid hlay s₁.heap (fun _ _ e=>e)
 have L:Laid rowT.toRowW.records w (S28 w os0 x) s₁ [.list (script.map .int)] vs as:=⟨⟨ord,hord,hlaid⟩,hrd,hin,hold,keeps,hal.1,hal.2.2.1⟩
 have hc:=call_T w hx rfl hl L
 have hns:s₁.heap.Ns mainGlobals (mgT w.params x):=ns_keeps (nsT _ x).1 keeps
 have hf:mgT w.params x rowT.name=some (.ref 352):=zip_at (globsT w.params x) 20 rfl rfl
 refine⟨vs,s₁,hlaid,wpAny_bind (wpAny_nsGet hns ?_)⟩
 rw[hf]
 refine wpAny_bind (wpAny_mono hc (fun v s' g=>wpAny_pure ?_) fun e s' g=>?_)
 ·have z:=g.laid (c:=rowT.toRowW.claim) rfl rfl identT L
  exact⟨_,rfl,z.1,z.2.1,z.2.2,fun q=>(Bool.false_ne_true q).elim⟩
 ·have z:=g.laid (c:=rowT.toRowW.claim) rfl rfl identT L
  exact⟨z.1,z.2.1,z.2.2,fun q=>(Bool.false_ne_true q).elim⟩
theorem looks_1:sreFenced pwT.main=true:=by kernel_rfl
theorem looks_2:((moduleNames pwT.main.body).isEmpty ||lookedIntoSs (moduleNames pwT.main.body) pwT.main.body)=true:=by kernel_rfl
theorem looks_3:namesResolve pwT=true:=by kernel_rfl
theorem looks_4:pwT.boundNames.all (fun n => !worldNames.contains n)=true:=by kernel_rfl
theorem reads_1:readsOut pwT pwT.main.body "vars"=false:=by kernel_rfl
theorem reads_2:readsOut pwT pwT.main.body "dir"=false:=by kernel_rfl
theorem reads_3:readsOut pwT pwT.main.body "locals"=false:=by kernel_rfl
theorem strict_T:(!(importedModules pwT.main.body).all cThrough.contains)=false:=by kernel_rfl
theorem nr_app (lk:Look):∀ a b:List Stmt,noRoadLSs lk (a++b)=(noRoadLSs lk a&&noRoadLSs lk b)
 |[],b=>rfl
 |s::a,b=>by
  show(noRoadLS lk s&&noRoadLSs lk (a++b))=((noRoadLS lk s&&noRoadLSs lk a)&&noRoadLSs lk b)
  rw[nr_app lk a b,Bool.and_assoc]
theorem nr_1:noRoadLSs { strict:=false,foot:=none,bare:=[] } (pwT.main.body.take 17)=true:=by kernel_rfl
theorem nr_2:noRoadLSs { strict:=false,foot:=none,bare:=[] } (pwT.main.body.drop 17)=true:=by kernel_rfl
theorem nr_T:noRoadLSs { strict:=false,foot:=none,bare:=[] } pwT.main.body=true:=by
 have h:=nr_app { strict:=false,foot:=none,bare:=[] } (pwT.main.body.take 17) (pwT.main.body.drop 17)
 rw[nr_1,nr_2,List.take_append_drop] at h
 exact h
theorem bare_T:(["vars","dir","locals"]:List Str).filter (readsOut pwT pwT.main.body)=[]:=by
 rw[List.filter_cons,reads_1,List.filter_cons,reads_2,List.filter_cons,reads_3]
 rfl
theorem looks_5:(noRoadLSs { strict := !(importedModules pwT.main.body).all cThrough.contains,foot:=none,bare:=(["vars","dir","locals"]:List Str).filter (readsOut pwT pwT.main.body) } pwT.main.body)=true:=by
 rw[strict_T,bare_T]
 exact nr_T
theorem looks_6:(namesMeet pwT pwT.main.body fun _ n=>attrL n)=true:=by kernel_rfl
theorem looks_T:looksOpen pwT=true:=by
 unfold looksOpen
 rw[looks_1,looks_2,looks_3,looks_4,looks_5,looks_6]
 rfl
theorem said_1:rowT.partSaid=true:=by
 unfold OpenRow.partSaid
 rw[show looksOpen rowT.prog=true from looks_T]
 kernel_rfl
theorem said_2:rowT.wellSaid=true:=by
 unfold OpenRow.wellSaid
 rw[said_1]
 kernel_rfl
theorem said_3:(noRoadLSs { strict:=true,foot:=some PySem.Challenge.rw_uc0056_02.bound',writes:=PySem.Challenge.rw_uc0056_02.writes,may:=PySem.Challenge.rw_uc0056_02.may } PySem.Challenge.rw_uc0056_02.footing)=true:=by kernel_rfl
theorem said_T:PySem.Challenge.rw_uc0056_02.wellSaid=true:=by
 unfold OpenLaw.wellSaid
 rw[show PySem.Challenge.rw_uc0056_02.row.wellSaid=true from said_2,said_3]
 kernel_rfl
theorem holds_T:PySem.Challenge.rw_uc0056_02.Holds:=by
 refine⟨said_T,said_2,promT,⟨bareT,opensT,rfl⟩,promT.witness,fun w=>⟨⟨_,after_0 w⟩,fun s' hs'=>?_⟩⟩
 obtain rfl:=AfterImport.unique hs' (after_0 w)
 obtain ⟨x,hx,hT⟩:=topRan w os0
 refine⟨S0 w os0,fence_0 w os0,rfl,S28 w os0 x,hT,fun n hn=>?_,(fun _ h=>(nomatch h)),(fun _ h=>(nomatch h)),?_⟩
 ·replace hn:n∈[Str.ofString "law"]:=hn
  obtain rfl:n=Str.ofString "law":=List.mem_singleton.mp hn
  exact law_is w.params x
 ·have h:=from_T w hx (fun b=>rowT.writes=true∧madeByTheTop (S0 w os0) (S28 w os0 x) b) (rowT.writes=false)
  exact h
end Mine
theorem PySem.Challenge.cw_uc0056_02_holds : PySem.Challenge.rw_uc0056_02.Holds :=
  Mine.holds_T
