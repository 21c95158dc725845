import PyProof.Rows.All
import KE.KLam
import KE.KPairComp
import Wide.FinOn
import OpenK.AllK
import Wide.All
import Lean
import PySem.Challenge.RW_pm0047_01
set_option Elab.async false
set_option linter.unusedVariables false
set_option linter.unusedSimpArgs false
section
namespace Mine
theorem zea.{u0} {α:Sort u0} {P:α→Prop} {Q:α→Prop} {G:Prop} (h:∃ a:α,P a∧Q a) (k:∀ a:α,P a→Q a→G):G:=h.elim fun a q1=>k a q1.1 q1.2
theorem za {P:Prop} {Q:Prop} {G:Prop} (h:P∧Q) (k:P→Q→G):G:=k h.1 h.2
theorem ze.{u0} {α:Sort u0} {P:α→Prop} {G:Prop} (h:∃ a:α,P a) (k:∀ a:α,P a→G):G:=h.elim fun a q1=>k a q1
theorem ze2a.{u0,u1} {α:Sort u0} {β:Sort u1} {P:α→β→Prop} {Q:α→β→Prop} {G:Prop} (h:∃ a:α,∃ b:β,P a b∧Q a b) (k:∀ a:α,∀ b:β,P a b→Q a b→G):G:=h.elim fun a q1=>q1.elim fun b q2=>k a b q2.1 q2.2
theorem zae.{u0} {α:Sort u0} {P:Prop} {Q:α→Prop} {G:Prop} (h:P∧∃ a:α,Q a) (k:P→∀ a:α,Q a→G):G:=h.2.elim fun a q1=>k h.1 a q1
theorem ze2a2.{u0,u1} {α:Sort u0} {β:Sort u1} {P:α→β→Prop} {Q:α→β→Prop} {R:α→β→Prop} {G:Prop} (h:∃ a:α,∃ b:β,P a b∧Q a b∧R a b) (k:∀ a:α,∀ b:β,P a b→Q a b→R a b→G):G:=h.elim fun a q1=>q1.elim fun b q2=>k a b q2.1 q2.2.1 q2.2.2
theorem zae2a3.{u0,u1} {α:Sort u0} {β:Sort u1} {P:Prop} {Q:α→β→Prop} {R:α→β→Prop} {S:α→β→Prop} {T:α→β→Prop} {G:Prop} (h:P∧∃ a:α,∃ b:β,Q a b∧R a b∧S a b∧T a b) (k:P→∀ a:α,∀ b:β,Q a b→R a b→S a b→T a b→G):G:=h.2.elim fun a q1=>q1.elim fun b q2=>k h.1 a b q2.1 q2.2.1 q2.2.2.1 q2.2.2.2
theorem ze2.{u0,u1} {α:Sort u0} {β:Sort u1} {P:α→β→Prop} {G:Prop} (h:∃ a:α,∃ b:β,P a b) (k:∀ a:α,∀ b:β,P a b→G):G:=h.elim fun a q1=>q1.elim fun b q2=>k a b q2
theorem zea2.{u0} {α:Sort u0} {P:α→Prop} {Q:α→Prop} {R:α→Prop} {G:Prop} (h:∃ a:α,P a∧Q a∧R a) (k:∀ a:α,P a→Q a→R a→G):G:=h.elim fun a q1=>k a q1.1 q1.2.1 q1.2.2
theorem ze2a3.{u0,u1} {α:Sort u0} {β:Sort u1} {P:α→β→Prop} {Q:α→β→Prop} {R:α→β→Prop} {S:α→β→Prop} {G:Prop} (h:∃ a:α,∃ b:β,P a b∧Q a b∧R a b∧S a b) (k:∀ a:α,∀ b:β,P a b→Q a b→R a b→S a b→G):G:=h.elim fun a q1=>q1.elim fun b q2=>k a b q2.1 q2.2.1 q2.2.2.1 q2.2.2.2
theorem ze3a.{u0,u1,u2} {α:Sort u0} {β:Sort u1} {γ:Sort u2} {P:α→β→γ→Prop} {Q:α→β→γ→Prop} {G:Prop} (h:∃ a:α,∃ b:β,∃ c:γ,P a b c∧Q a b c) (k:∀ a:α,∀ b:β,∀ c:γ,P a b c→Q a b c→G):G:=h.elim fun a q1=>q1.elim fun b q2=>q2.elim fun c q3=>k a b c q3.1 q3.2
theorem ze3a3.{u0,u1,u2} {α:Sort u0} {β:Sort u1} {γ:Sort u2} {P:α→β→γ→Prop} {Q:α→β→γ→Prop} {R:α→β→γ→Prop} {S:α→β→γ→Prop} {G:Prop} (h:∃ a:α,∃ b:β,∃ c:γ,P a b c∧Q a b c∧R a b c∧S a b c) (k:∀ a:α,∀ b:β,∀ c:γ,P a b c→Q a b c→R a b c→S a b c→G):G:=h.elim fun a q1=>q1.elim fun b q2=>q2.elim fun c q3=>k a b c q3.1 q3.2.1 q3.2.2.1 q3.2.2.2
theorem za2 {P:Prop} {Q:Prop} {R:Prop} {G:Prop} (h:P∧Q∧R) (k:P→Q→R→G):G:=k h.1 h.2.1 h.2.2
theorem za3ea.{u0} {α:Sort u0} {P:Prop} {Q:Prop} {R:Prop} {S:α→Prop} {T:α→Prop} {G:Prop} (h:P∧Q∧R∧∃ a:α,S a∧T a) (k:P→Q→R→∀ a:α,S a→T a→G):G:=h.2.2.2.elim fun a q1=>k h.1 h.2.1 h.2.2.1 a q1.1 q1.2
theorem za4 {P:Prop} {Q:Prop} {R:Prop} {S:Prop} {T:Prop} {G:Prop} (h:P∧Q∧R∧S∧T) (k:P→Q→R→S→T→G):G:=k h.1 h.2.1 h.2.2.1 h.2.2.2.1 h.2.2.2.2
theorem ze3a2.{u0,u1,u2} {α:Sort u0} {β:Sort u1} {γ:Sort u2} {P:α→β→γ→Prop} {Q:α→β→γ→Prop} {R:α→β→γ→Prop} {G:Prop} (h:∃ a:α,∃ b:β,∃ c:γ,P a b c∧Q a b c∧R a b c) (k:∀ a:α,∀ b:β,∀ c:γ,P a b c→Q a b c→R a b c→G):G:=h.elim fun a q1=>q1.elim fun b q2=>q2.elim fun c q3=>k a b c q3.1 q3.2.1 q3.2.2
theorem ze3.{u0,u1,u2} {α:Sort u0} {β:Sort u1} {γ:Sort u2} {P:α→β→γ→Prop} {G:Prop} (h:∃ a:α,∃ b:β,∃ c:γ,P a b c) (k:∀ a:α,∀ b:β,∀ c:γ,P a b c→G):G:=h.elim fun a q1=>q1.elim fun b q2=>q2.elim fun c q3=>k a b c q3
theorem zea3.{u0} {α:Sort u0} {P:α→Prop} {Q:α→Prop} {R:α→Prop} {S:α→Prop} {G:Prop} (h:∃ a:α,P a∧Q a∧R a∧S a) (k:∀ a:α,P a→Q a→R a→S a→G):G:=h.elim fun a q1=>k a q1.1 q1.2.1 q1.2.2.1 q1.2.2.2
theorem zea4ea.{u0,u1} {α:Sort u0} {β:Sort u1} {P:α→Prop} {Q:α→Prop} {R:α→Prop} {S:α→Prop} {T:α→β→Prop} {U:α→β→Prop} {G:Prop} (h:∃ a:α,P a∧Q a∧R a∧S a∧∃ b:β,T a b∧U a b) (k:∀ a:α,P a→Q a→R a→S a→∀ b:β,T a b→U a b→G):G:=h.elim fun a q1=>q1.2.2.2.2.elim fun b q2=>k a q1.1 q1.2.1 q1.2.2.1 q1.2.2.2.1 b q2.1 q2.2
theorem zae3.{u0,u1,u2} {α:Sort u0} {β:Sort u1} {γ:Sort u2} {P:Prop} {Q:α→β→γ→Prop} {G:Prop} (h:P∧∃ a:α,∃ b:β,∃ c:γ,Q a b c) (k:P→∀ a:α,∀ b:β,∀ c:γ,Q a b c→G):G:=h.2.elim fun a q1=>q1.elim fun b q2=>q2.elim fun c q3=>k h.1 a b c q3
theorem ze2a2e2a2.{u0,u1,u2,u3} {α:Sort u0} {β:Sort u1} {γ:Sort u2} {δ:Sort u3} {P:α→β→Prop} {Q:α→β→Prop} {R:α→β→γ→δ→Prop} {S:α→β→γ→δ→Prop} {T:α→β→γ→δ→Prop} {G:Prop} (h:∃ a:α,∃ b:β,P a b∧Q a b∧∃ c:γ,∃ d:δ,R a b c d∧S a b c d∧T a b c d) (k:∀ a:α,∀ b:β,P a b→Q a b→∀ c:γ,∀ d:δ,R a b c d→S a b c d→T a b c d→G):G:=h.elim fun a q1=>q1.elim fun b q2=>q2.2.2.elim fun c q3=>q3.elim fun d q4=>k a b q2.1 q2.2.1 c d q4.1 q4.2.1 q4.2.2
theorem ze4a3.{u0,u1,u2,u3} {α:Sort u0} {β:Sort u1} {γ:Sort u2} {δ:Sort u3} {P:α→β→γ→δ→Prop} {Q:α→β→γ→δ→Prop} {R:α→β→γ→δ→Prop} {S:α→β→γ→δ→Prop} {G:Prop} (h:∃ a:α,∃ b:β,∃ c:γ,∃ d:δ,P a b c d∧Q a b c d∧R a b c d∧S a b c d) (k:∀ a:α,∀ b:β,∀ c:γ,∀ d:δ,P a b c d→Q a b c d→R a b c d→S a b c d→G):G:=h.elim fun a q1=>q1.elim fun b q2=>q2.elim fun c q3=>q3.elim fun d q4=>k a b c d q4.1 q4.2.1 q4.2.2.1 q4.2.2.2
theorem zae2a2.{u0,u1} {α:Sort u0} {β:Sort u1} {P:Prop} {Q:α→β→Prop} {R:α→β→Prop} {S:α→β→Prop} {G:Prop} (h:P∧∃ a:α,∃ b:β,Q a b∧R a b∧S a b) (k:P→∀ a:α,∀ b:β,Q a b→R a b→S a b→G):G:=h.2.elim fun a q1=>q1.elim fun b q2=>k h.1 a b q2.1 q2.2.1 q2.2.2
theorem za4ea.{u0} {α:Sort u0} {P:Prop} {Q:Prop} {R:Prop} {S:Prop} {T:α→Prop} {U:α→Prop} {G:Prop} (h:P∧Q∧R∧S∧∃ a:α,T a∧U a) (k:P→Q→R→S→∀ a:α,T a→U a→G):G:=h.2.2.2.2.elim fun a q1=>k h.1 h.2.1 h.2.2.1 h.2.2.2.1 a q1.1 q1.2
theorem ze2a2e2a2e2a2.{u0,u1,u2,u3,u4,u5} {α:Sort u0} {β:Sort u1} {γ:Sort u2} {δ:Sort u3} {ε:Sort u4} {ζ:Sort u5} {P:α→β→Prop} {Q:α→β→Prop} {R:α→β→γ→δ→Prop} {S:α→β→γ→δ→Prop} {T:α→β→γ→δ→ε→ζ→Prop} {U:α→β→γ→δ→ε→ζ→Prop} {V:α→β→γ→δ→ε→ζ→Prop} {G:Prop} (h:∃ a:α,∃ b:β,P a b∧Q a b∧∃ c:γ,∃ d:δ,R a b c d∧S a b c d∧∃ e:ε,∃ f:ζ,T a b c d e f∧U a b c d e f∧V a b c d e f) (k:∀ a:α,∀ b:β,P a b→Q a b→∀ c:γ,∀ d:δ,R a b c d→S a b c d→∀ e:ε,∀ f:ζ,T a b c d e f→U a b c d e f→V a b c d e f→G):G:=h.elim fun a q1=>q1.elim fun b q2=>q2.2.2.elim fun c q3=>q3.elim fun d q4=>q4.2.2.elim fun e q5=>q5.elim fun f q6=>k a b q2.1 q2.2.1 c d q4.1 q4.2.1 e f q6.1 q6.2.1 q6.2.2
theorem ze2a4.{u0,u1} {α:Sort u0} {β:Sort u1} {P:α→β→Prop} {Q:α→β→Prop} {R:α→β→Prop} {S:α→β→Prop} {T:α→β→Prop} {G:Prop} (h:∃ a:α,∃ b:β,P a b∧Q a b∧R a b∧S a b∧T a b) (k:∀ a:α,∀ b:β,P a b→Q a b→R a b→S a b→T a b→G):G:=h.elim fun a q1=>q1.elim fun b q2=>k a b q2.1 q2.2.1 q2.2.2.1 q2.2.2.2.1 q2.2.2.2.2
theorem zea2ea.{u0,u1} {α:Sort u0} {β:Sort u1} {P:α→Prop} {Q:α→Prop} {R:α→β→Prop} {S:α→β→Prop} {G:Prop} (h:∃ a:α,P a∧Q a∧∃ b:β,R a b∧S a b) (k:∀ a:α,P a→Q a→∀ b:β,R a b→S a b→G):G:=h.elim fun a q1=>q1.2.2.elim fun b q2=>k a q1.1 q1.2.1 b q2.1 q2.2
theorem zae2a3e2a2e2a2.{u0,u1,u2,u3,u4,u5} {α:Sort u0} {β:Sort u1} {γ:Sort u2} {δ:Sort u3} {ε:Sort u4} {ζ:Sort u5} {P:Prop} {Q:α→β→Prop} {R:α→β→Prop} {S:α→β→Prop} {T:α→β→γ→δ→Prop} {U:α→β→γ→δ→Prop} {V:α→β→γ→δ→ε→ζ→Prop} {W:α→β→γ→δ→ε→ζ→Prop} {X:α→β→γ→δ→ε→ζ→Prop} {G:Prop} (h:P∧∃ a:α,∃ b:β,Q a b∧R a b∧S a b∧∃ c:γ,∃ d:δ,T a b c d∧U a b c d∧∃ e:ε,∃ f:ζ,V a b c d e f∧W a b c d e f∧X a b c d e f) (k:P→∀ a:α,∀ b:β,Q a b→R a b→S a b→∀ c:γ,∀ d:δ,T a b c d→U a b c d→∀ e:ε,∀ f:ζ,V a b c d e f→W a b c d e f→X a b c d e f→G):G:=h.2.elim fun a q1=>q1.elim fun b q2=>q2.2.2.2.elim fun c q3=>q3.elim fun d q4=>q4.2.2.elim fun e q5=>q5.elim fun f q6=>k h.1 a b q2.1 q2.2.1 q2.2.2.1 c d q4.1 q4.2.1 e f q6.1 q6.2.1 q6.2.2
theorem zaea.{u0} {α:Sort u0} {P:Prop} {Q:α→Prop} {R:α→Prop} {G:Prop} (h:P∧∃ a:α,Q a∧R a) (k:P→∀ a:α,Q a→R a→G):G:=h.2.elim fun a q1=>k h.1 a q1.1 q1.2
theorem za3 {P:Prop} {Q:Prop} {R:Prop} {S:Prop} {G:Prop} (h:P∧Q∧R∧S) (k:P→Q→R→S→G):G:=k h.1 h.2.1 h.2.2.1 h.2.2.2
theorem i2.{u0,u1} {α:Type u0} {β:Type u1} {a c:α} {b d:β} {M:α→β→Prop} (h:some (a,b) = some (c,d)) (k:M a b):M c d:=by
 injection h with h;injection h with h1 h2;subst h1;subst h2;exact k
end Mine
end
section
set_option tactic.hygienic false
open PySem
set_option maxRecDepth 100000
namespace Mine
open PySem.Builtin PySem.Builtin.Re
namespace RxF
theorem plainAttrs_pat:PlainAttrs "re.Pattern" :=
 ⟨⟨"object.__getattribute__",by rw [typeLookup_type,builtinLookup_eq_fast];kernel_rfl,by decide +kernel⟩,by rw [typeLookup_type,builtinLookup_eq_fast];kernel_rfl⟩
theorem slot_search:Slot "re.Pattern" "search" "re.Pattern.search" :=
 .of (owner:="re.Pattern") (n:="search") (by rw [typeLookup_type,builtinLookup_eq_fast];kernel_rfl) (by decide +kernel) (by decide +kernel) (by decide +kernel)
   (by first | exact .inl (by decide +kernel) | exact .inr (by decide +kernel)) (by rw [isSubtype_type];kernel_rfl)
theorem type_search:typeOf (.builtin "re.Pattern.search") = pure (.type "method_descriptor"):=by show builtinType _ = _;rw [builtinType_eq_fast];kernel_rfl
theorem entry_search:entryFor table "re.Pattern.search" = some Builtin.«re.Pattern.search»:=entryFor_of_tree (by kernel_rfl)
theorem args_search (a b:Value):argsOk "re.Pattern.search" ⟨[a,b],[]⟩:=by
 unfold argsOk;kernel_rfl
end RxF
noncomputable def rx1:Array Nat:=#[14,10,4,1,1,22,0,31,16,127,0,13,7,22,0,31,16,127,0,1]
noncomputable def rx2:Array Nat:=#[14,14,4,1,1,9,4294966783,0,0,2147483648,0,0,0,0,0,13,11,9,4294966783,0,0,2147483648,0,0,0,0,0,1]
noncomputable def okCh (c:Nat):Bool:=32≤c&&c < 127
noncomputable def Out (r:Except String (Bool × Sre.Seen)):Prop:=∃ seen,r = .ok (false,seen)
theorem set1 (c:Nat) (h:okCh c = true) (seen:Sre.Seen):Out (Sre.inSet rx1 c rx1.size 5 true seen):=by
 unfold okCh at h
 simp only [Bool.and_eq_true,decide_eq_true_eq] at h
 have h2:(decide (c≤31)) = false:=by simpa using (by lia:31 < c)
 have h3:(c==127) = false:=by simpa using (by lia:c≠127)
 refine ⟨?_,?_⟩
 rotate_left
 · show Sre.inSet rx1 c 20 5 true seen = _
   show (if ((decide (0≤c))&&decide (c≤31)) = true then _ else Sre.inSet rx1 c 19 8 true _) = _
   rw [h2,Bool.and_false,if_neg (by decide)]
   show (if (c==127) = true then _ else Sre.inSet rx1 c 18 10 true _) = _
   rw [h3,if_neg (by decide)]
   rfl
theorem bits2:∀ c:Fin 127,32≤c.val→(rx2.getD (5 + (1 + c.val / 32)) 0).testBit (c.val % 32) = false:=by decide +kernel
theorem set2 (c:Nat) (h:okCh c = true) (seen:Sre.Seen):Out (Sre.inSet rx2 c rx2.size 5 true seen):=by
 unfold okCh at h
 simp only [Bool.and_eq_true,decide_eq_true_eq] at h
 have hb:=bits2 ⟨c,h.2⟩ h.1
 refine ⟨?_,?_⟩
 rotate_left
 · show Sre.inSet rx2 c 28 5 true seen = _
   show (if (decide (c < 256)&&(rx2.getD (5 + (1 + c / 32)) 0).testBit (c % 32)) = true then _ else Sre.inSet rx2 c 27 14 true _) = _
   rw [hb,Bool.and_false,if_neg (by decide)]
   rfl
theorem admitted_none {m:Sre.M} {code:Array Nat} (hc:m.code = code) (hset:∀ c,okCh c = true→∀ seen,Out (Sre.inSet code c code.size 5 true seen)) (ht:∀ i,i < m.lim→okCh (m.text.getD i 0) = true) :
   ∀ fuel s seen,∃ seen',Sre.M.admitted m fuel s seen = .ok (none,seen'):=by
 intro fuel
 induction fuel with
 | zero=>intro s seen;exact ⟨seen,rfl⟩
 | succ n ih =>
   intro s seen
   show ∃ seen',(if s ≥ m.lim then _ else _) = _
   by_cases hs:s ≥ m.lim
   · rw [if_pos hs];exact ⟨seen,rfl⟩
   · rw [if_neg hs,hc]
     obtain ⟨seen2,e⟩:=hset _ (ht s (by lia)) seen
     rw [e]
     exact ih _ _
theorem search_says (g:Nat) (text:Array Nat) (ht:∀ i,i < text.size→okCh (text.getD i 0) = true) {code:Array Nat} (hcode:code = rx1∨code = rx2) :
   ∃ m,Sre.forSearch code text g 0 text.size false = m∧m.answer = some false∧m.frames = []∧m.outcome = none:=by
 have key:∀ (m:Sre.M),m.code = code→m.text = text→m.lim = text.size→m.frames = []→m.outcome = none→(m.attemptFrom 0 true).answer = some false∧(m.attemptFrom 0 true).frames = []∧(m.attemptFrom 0 true).outcome = none:=by
   intro m h1 h2 h3 h4 h5
   have h6:m.hasFirstSet = true:=by
     unfold Sre.M.hasFirstSet
     rw [h1]
     rcases hcode with rfl | rfl<;>rfl
   have hset:∀ c,okCh c = true→∀ seen,Out (Sre.inSet code c code.size 5 true seen):=by
     rcases hcode with rfl | rfl
     · exact set1
     · exact set2
   obtain ⟨seen',e⟩:=admitted_none h1 hset (fun i hi=>by rw [h2];exact ht i (h3 ▸ hi)) (m.lim + 1 - 0) 0 m.seen
   have ha:m.attemptFrom 0 true = { m with seen:=seen' }.say false:=by
     show (if (!m.hasFirstSet) = true then _ else _) = _
     rw [h6,if_neg (by decide),e]
   rw [ha]
   exact ⟨rfl,h4,h5⟩
 rcases hcode with rfl | rfl
 · refine ⟨_,rfl,?_⟩
   unfold Sre.forSearch
   show (ite ((decide (0 > text.size)||decide (text.size - 0 < 1)) = true) _ _:Sre.M).answer = _∧(ite ((decide (0 > text.size)||decide (text.size - 0 < 1)) = true) _ _:Sre.M).frames = _∧(ite ((decide (0 > text.size)||decide (text.size - 0 < 1)) = true) _ _:Sre.M).outcome = _
   split
   · exact ⟨rfl,rfl,rfl⟩
   · exact key _ rfl rfl rfl rfl rfl
 · refine ⟨_,rfl,?_⟩
   unfold Sre.forSearch
   show (ite ((decide (0 > text.size)||decide (text.size - 0 < 1)) = true) _ _:Sre.M).answer = _∧(ite ((decide (0 > text.size)||decide (text.size - 0 < 1)) = true) _ _:Sre.M).frames = _∧(ite ((decide (0 > text.size)||decide (text.size - 0 < 1)) = true) _ _:Sre.M).outcome = _
   split
   · exact ⟨rfl,rfl,rfl⟩
   · exact key _ rfl rfl rfl rfl rfl
theorem run_failed {m:Sre.M} (h1:m.answer = some false) (h2:m.frames = []) (h3:m.outcome = none):m.runFor 4 = { m with outcome:=some .failed }:=by
 have hs:m.step = { m with outcome:=some .failed }:=by
   unfold Sre.M.step
   rw [h3,h1,h2]
   rfl
 show (if m.outcome.isSome = true then m else Sre.M.runFor 3 m.step) = _
 rw [h3,hs]
 rfl
noncomputable def PatAt (h:Heap) (p:Addr) (code:Array Nat):Prop :=
 ∃ o vs cc oc its n,h.get? p = some o∧o.cls = .type "re.Pattern"∧o.dict = none∧o.data = .fields vs∧reRawNat (vs.getD 6 .none) = 0∧vs.getD 5 .none = .ref cc∧h.get? cc = some oc∧oc.data = .seq its n∧(its.map reRawOf).map (·.toNat) = code
section
variable {prog:Program} {w:World} {A:Around} {E:Value→Shared→Prop} {s:Shared}
theorem rules_ok {b:Nat→PUnit→Sem (ForInStep PUnit)} {Q:PUnit→Shared→Prop} (hb:∀ i r (Q:ForInStep PUnit→Shared→Prop),Q (.yield ⟨⟩) s→wpAny (model prog w) A (b i r) Q E s) (h:Q ⟨⟩ s):∀ l:List Nat,wpAny (model prog w) A (forIn l PUnit.unit b) Q E s
 | []=>wpAny_pure h
 | i::r=>by
   rw [List.forIn_cons]
   exact wpAny_bind (hb i _ _ (rules_ok hb h r))
theorem toEnd_none {m:Sre.M} (h1:m.answer = some false) (h2:m.frames = []) (h3:m.outcome = none) {Q:Option Sre.M→Shared→Prop} (h:Q none s):wpAny (model prog w) A (reRunToEnd m) Q E s:=by
 unfold reRunToEnd
 have hd:reDrive (2 ^ 64) m = pure { m with outcome:=some .failed }:=by
   have e:(2 ^ 64:Nat) = (2 ^ 64 - 1) + 1:=by decide
   rw [e]
   show (if (m.runFor 4).outcome.isSome = true then pure (m.runFor 4) else _) = _
   rw [run_failed h1 h2 h3]
   rfl
 rw [hd]
 refine wpAny_bind (wpAny_pure ?_)
 refine wpAny_bind (wpAny_mono (Q:=fun J s'=>s' = s) (rules_ok (fun i r Q hq=>?_) rfl _) (fun J s' hs=>?_) fun J J x=>x)
 · dsimp only
   split
   · exact wpAny_bind (wpAny_rule (wpAny_pure hq))
   · exact wpAny_pure hq
 subst hs
 exact wpAny_pure h
theorem named_1 (v:Value):reNamed "re.Pattern.search" "search" ["string","pos","endpos"] 1 [v] [] = pure [some v,none,none]:=by rfl
theorem call_search {p:Addr} {code:Array Nat} {x:Str} {t:Tok} (hp:PatAt s.heap p code) (hcode:code = rx1∨code = rx2) (hx:∀ i,i < x.cps.size→okCh (x.cps.getD i 0) = true) (hl:x.length≤2 ^ 62) {Q:Value→Shared→Prop} (h:Q .none s) :
   wpAny (model prog w) A (call (.builtin "re.Pattern.search") [.ref p,.str x t]) Q E s:=by
 obtain ⟨o,vs,cc,oc,its,n,h1,h2,h2',h3,h4,h5,h6,h7,h8⟩:=hp
 have hT:s.TypeIs (.ref p) "re.Pattern":=⟨o,h1,h2⟩
 refine wpAny_call_entry RxF.slot_search hT RxF.entry_search ?_ (RxF.args_search _ _)
 unfold Builtin.«re.Pattern.search»
 refine wpAny_bind ?_
 unfold reTarget
 dsimp only
 rw [named_1]
 refine wpAny_bind (wpAny_pure ?_)
 dsimp only
 refine wpAny_bind (wpAny_pure ?_)
 refine wpAny_bind (wpAny_pure ?_)
 refine wpAny_bind (wpAny_fieldsOf h1 h3 ?_)
 have ht:reTextOf (.str x t) = pure (x.cps,0):=rfl
 rw [ht]
 refine wpAny_bind (wpAny_pure ?_)
 dsimp only
 rw [h4]
 simp only [beq_self_eq_true,Bool.true_and,show ((0:Nat)==1) = false from rfl,Bool.false_eq_true,if_false,Bool.and_false,Bool.false_and]
 have hn:reNoCollectionInside (.str x t) 0 = pure ():=rfl
 rw [hn]
 refine wpAny_bind (wpAny_pure ?_)
 rw [h5]
 unfold reRawItems
 refine wpAny_bind (wpAny_bind (wpAny_seqItems h6 h7 (wpAny_pure ?_)))
 refine wpAny_pure ?_
 simp only [Option.getD_some]
 rw [h8]
 have e0:Min.min (0:Int).toNat x.cps.size = 0:=by simp
 have e1:Min.min ((2:Int) ^ 63 - 1).toNat x.cps.size = x.cps.size:=by
   have:((2:Int) ^ 63 - 1).toNat = 9223372036854775807:=by decide
   rw [this]
   have hl':x.cps.size≤2 ^ 62:=hl
   exact Nat.min_eq_right (Nat.le_trans hl' (by decide))
 unfold reAnswer
 dsimp only
 rw [e0,e1]
 obtain ⟨m,hm,a1,a2,a3⟩:=search_says (reRawNat (vs.getD 2 .none)) x.cps hx hcode
 rw [hm]
 exact wpAny_bind (toEnd_none a1 a2 a3 (wpAny_pure ⟨_,rfl,h⟩))
end
end Mine
end
section
set_option tactic.hygienic false
open PySem
namespace Mine
inductive D where
 | none | bool (b:Bool) | int (i:Int) | str (s:Str)
 | tup (l:List D) | lst (l:List D) | dct (l:List (Str × Str)) | hdr (k:Nat)
 deriving Inhabited
noncomputable abbrev Sg:=List (List (Str × Str))
noncomputable abbrev Ro:=List (Str × D)
noncomputable def lim:Nat:=1000000
noncomputable def strOk (x:Str):Bool:=decide (x.length≤lim)
noncomputable def big (i:Int):Bool:=decide (i.natAbs < 2 ^ 62)
noncomputable def truthD:D→Option Bool
 | .none=>some false
 | .bool b=>some b
 | .int i=>some (i != 0)
 | .str s=>some (s.length != 0)
 | .tup l=>some (!l.isEmpty)
 | .lst l=>some (!l.isEmpty)
 | _=>none
mutual
noncomputable def eqD:D→D→Option Bool
 | .none,.none=>some true
 | .bool a,.bool b=>some (a==b)
 | .int a,.int b=>some (a==b)
 | .str a,.str b=>some (a==b)
 | .str _,.none=>some false
 | .none,.str _=>some false
 | .tup a,.tup b=>eqL a b
 | .lst a,.lst b=>eqL a b
 | _,_=>none
noncomputable def eqL:List D→List D→Option Bool
 | [],[]=>some true
 | a::as,b::bs =>
   match eqD a b,eqL as bs with
   | some x,some y=>some (x&&y)
   | _,_=>none
 | [],_::_=>some false
 | _::_,[]=>some false
end
mutual
noncomputable def dep:D→Nat
 | .tup l=>depL l + 1
 | .lst l=>depL l + 1
 | _=>0
noncomputable def depL:List D→Nat
 | []=>0
 | d::r=>max (dep d) (depL r)
end
noncomputable def intsOf:List D→Option (List Int)
 | []=>some []
 | .int i::r=>(intsOf r).map (i::·)
 | _=>none
noncomputable def strsOf:List D→Option (List Str)
 | []=>some []
 | .str x::r=>(strsOf r).map (x::·)
 | _=>none
noncomputable def signs (x:Str):List D:=x.cps.toList.map fun c=>.str ⟨#[c]⟩
noncomputable def place (n:Nat) (i:Int):Option Nat :=
 if 0≤i then (if i < n then some i.toNat else none) else if -(n:Int)≤i then some (i + n).toNat else none
noncomputable def anyD (x:D):List D→Option Bool
 | []=>some false
 | y::r=>match eqD y x,anyD x r with
   | some a,some b=>some (a||b)
   | _,_=>none
noncomputable def picks (n:Nat) (lo hi st:Option Int):List Nat:=Builtin.Str.strSliceIndices lo hi (st.getD 1) n
noncomputable def sliceS (x:Str) (lo hi st:Option Int):Str :=
 if (st.getD 1==1&&(picks x.length lo hi st).length==x.length) = true then x else ⟨((picks x.length lo hi st).filterMap (x.cps[·]?)).toArray⟩
noncomputable def binD (op:Operator) (a b:D):Option D :=
 match op,a,b with
 | .Add,.int x,.int y=>some (.int (x + y))
 | .Add,.str x,.str y=>if (x++y).length≤lim then some (.str (x++y)) else none
 | .Sub,.int x,.int y=>some (.int (x - y))
 | .Mult,.int x,.int y=>if big x&&big y then some (.int (x * y)) else none
 | .Mult,.lst x,.int y=>if 0≤y∧x.length * y.toNat≤lim∧y≤lim then some (.lst (List.replicate y.toNat x).flatten) else none
 | .FloorDiv,.int x,.int y=>if 0 < y∧y < 1000 then some (.int (x / y)) else none
 | .Mod,.int x,.int y=>if 0 < y then some (.int (x % y)) else none
 | _,_,_=>none
noncomputable def cmpD (op:CmpOp) (a b:D):Option Bool :=
 if dep a > 20∨dep b > 20 then none else
 match op,a,b with
 | .Eq,a,b=>eqD a b
 | .NotEq,a,b=>(eqD a b).map (!·)
 | .GtE,.int x,.int y=>some (decide (y≤x))
 | .In,.str x,.str y=>some (Txt.contains y x)
 | .In,x,.tup l=>anyD x l
 | .NotIn,x,.lst l=>(anyD x l).map (!·)
 | .Is,.none,.none=>some true
 | .Is,.lst _,.none=>some false
 | .Is,.str _,.none=>some false
 | _,_,_=>none
noncomputable def itemD (a i:D):Option D :=
 match a,i with
 | .str x,.int i=>(place x.length i).bind fun k=>(x.cps[k]?).map fun c=>.str ⟨#[c]⟩
 | .lst l,.int i=>(place l.length i).bind fun k=>l[k]?
 | .tup l,.int i=>(place l.length i).bind fun k=>l[k]?
 | .dct l,.str x=>(l.lookup x).map .str
 | _,_=>none
noncomputable def sliceD (a:D) (lo hi st:Option Int):Option D :=
 if st = some 0 then none else
 match a with
 | .str x=>if (sliceS x lo hi st).length≤lim then some (.str (sliceS x lo hi st)) else none
 | .lst l=>some (.lst ((picks l.length lo hi st).filterMap (l[·]?)))
 | .tup l=>(match lo,hi,st with
   | some a,none,none=>if 1≤a∧a≤l.length then some (.tup (l.drop a.toNat)) else none
   | _,_,_=>none)
 | _=>none
noncomputable abbrev Summ:=List D→Sg→Option (D × Sg)
structure Tbl where
 fn:Str→Option Summ
 mt:Str→Option Summ
 new:Option Summ
noncomputable abbrev Kd:=Str→Option NameKind
noncomputable def bindK {α β:Type} (x:Option (α × Sg)) (f:α→Sg→Option (β × Sg)):Option (β × Sg) :=
 match x with
 | some (a,g)=>f a g
 | none=>none
noncomputable def bindF {α β:Type} (x:Option (α × Sg)) (f:α→Sg→Option β):Option β :=
 match x with
 | some (a,g)=>f a g
 | none=>none
noncomputable def evs (ev:Expr→Sg→Option (D × Sg)):List Expr→Sg→Option (List D × Sg)
 | [],g=>some ([],g)
 | .Starred e _::r,g=>bindK (ev e g) fun d g =>
     match d with
     | .tup l=>bindK (evs ev r g) fun ds g=>some (l++ds,g)
     | .lst l=>bindK (evs ev r g) fun ds g=>some (l++ds,g)
     | _=>none
 | e::r,g=>bindK (ev e g) fun d g=>bindK (evs ev r g) fun ds g=>some (d::ds,g)
noncomputable def evOpt (ev:Expr→Sg→Option (D × Sg)):Option Expr→Sg→Option (Option Int × Sg)
 | none,g=>some (none,g)
 | some e,g=>bindK (ev e g) fun d g=>match d with | .int i=>if big i then some (some i,g) else none | _=>none
noncomputable def allK (tr:Expr→Sg→Option (Bool × Sg)):List Expr→Sg→Option (Bool × Sg)
 | [],g=>some (true,g)
 | e::r,g=>bindK (tr e g) fun b g=>if b then allK tr r g else some (false,g)
noncomputable def anyK (tr:Expr→Sg→Option (Bool × Sg)):List Expr→Sg→Option (Bool × Sg)
 | [],g=>some (false,g)
 | e::r,g=>bindK (tr e g) fun b g=>if b then some (true,g) else anyK tr r g
noncomputable def rangeD (a b c:Int):List D:=(List.range (if 0 < c then (b - a + c - 1) / c else (a - b - c - 1) / (-c)).toNat).map fun (k:Nat)=>.int (a + c * (k:Int))
noncomputable def rangeSrc (a b c:Int):Option (List D) :=
 if c != 0&&Builtin.Range.small a b c&&!Builtin.divisionGoesByPylong (b - a) c&&(Builtin.Range.rangeSize a b c==((rangeD a b c).length:Int))&&decide ((rangeD a b c).length≤lim) then some (rangeD a b c) else none
noncomputable def namesOf:List Expr→Option (List Str)
 | []=>some []
 | .Name x _::r=>(namesOf r).map (x::·)
 | _=>none
noncomputable def tgt (t:Expr) (d:D):Option (List (Str × D)) :=
 match t with
 | .Name x _=>some [(x,d)]
 | .Tuple [.Name x _,.Name y _] _ _=>if x==y then none else
   match d with
   | .tup [a,b]=>some [(x,a),(y,b)]
   | _=>none
 | _=>none
noncomputable def namesT:Expr→Option (List Str)
 | .Name x _=>some [x]
 | .Tuple [.Name x _,.Name y _] _ _=>if x==y then none else some [x,y]
 | _=>none
noncomputable def freeIn (sc:Scope) (ro:Ro):Ro:=ro.filter fun p=>sc.names.lookup p.1==some .free
noncomputable def scopeOk (sc:Scope) (kd:Kd) (x:Str):Bool :=
 (sc.kind==.function&&sc.names.lookup ("_split_list":Str) != some .globalImplicit)&&sc.names.all (fun p=>p.2 != .cell&&(p.2 != .local||sc.names.lookup p.1==some .local)&&(p.2 != .free||kd p.1==some .cell||kd p.1==some .free))&&(sc.names.lookup x==some .local&&!sc.isCoroutine&&!sc.isGenerator)
noncomputable def scopeOkT (sc:Scope) (kd:Kd) (t:Expr):Bool :=
 match namesT t with
 | some (x::ns)=>scopeOk sc kd x&&ns.all (scopeOk sc kd)
 | _=>false
noncomputable def itemsD:D→Option (List D)
 | .str x=>some (signs x)
 | .lst l=>some l
 | .tup l=>some l
 | _=>none
noncomputable def pairsD:List D→List D→List D
 | a::as,b::bs=>.tup [a,b]::pairsD as bs
 | _,_=>[]
noncomputable def dispD:List (Option Expr)→List Expr→Option (List (Str × Str))
 | [],[]=>some []
 | some (.Constant (.str a) _ _)::ks,.Constant (.str b) _ _::vs=>(dispD ks vs).bind fun l=>if strOk b&&!(l.any fun p=>p.1==a) then some ((a,b)::l) else none
 | _,_=>none
noncomputable def compK (tr el:Ro→Sg→Option (D × Sg)) (t:Expr) (base:Ro):List D→Sg→Option (List D × Sg)
 | [],g=>some ([],g)
 | d::ds,g =>
   match tgt t d with
   | none=>none
   | some b =>
     bindK (tr (b++base) g) fun ok g =>
       match ok with
       | .bool true=>bindK (el (b++base) g) fun y g=>bindK (compK tr el t base ds g) fun ys g=>some (y::ys,g)
       | .bool false=>compK tr el t base ds g
       | _=>none
noncomputable def notSuper:Expr→Bool
 | .Call (.Name x _) _ _ _=>x != ("super":Str)
 | _=>true
noncomputable def plainE:Expr→Bool
 | .Starred ..=>false
 | _=>true
noncomputable def firstPlain:List Expr→Bool
 | []=>true
 | e::_=>plainE e
noncomputable def builtinF (f:Str):Bool:=f==("len":Str)||f==("sum":Str)||f==("max":Str)||f==("min":Str)||f==("Headers":Str)
noncomputable def fnC (S:Option Summ) (ys:List D) (g:Sg):Option (D × Sg):=match S with
 | some s=>s ys g
 | none=>none
noncomputable def lowM (x:Str) (g:Sg):Option (D × Sg):=if strOk x = true then some (.str x,g) else none
noncomputable def joinM (x:Str) (ts:Option (List Str)) (g:Sg):Option (D × Sg):=match ts with
 | some ts=>if (JoinOk x ts&&strOk (Txt.join x ts)) = true then some (.str (Txt.join x ts),g) else none
 | none=>none
noncomputable def splitStr (x y:Str) (g:Sg):Option (D × Sg):=if (y.length==0) = true then none else if (Txt.split x y).length≤lim∧(Txt.split x y).all strOk = true then some (.lst ((Txt.split x y).map .str),g) else none
noncomputable def indexM (l:List Nat) (g:Sg):Option (D × Sg):=match l with
 | i::_=>some (.int i,g)
 | []=>none
noncomputable def strM (m:Str) (x:Str) (ys:List D) (g:Sg):Option (D × Sg):=match ys with
 | []=>if (m==("lower":Str)) = true then lowM (Txt.lower x) g else if (m==("upper":Str)) = true then lowM (Txt.upper x) g else none
 | [.lst l]=>if (m==("join":Str)) = true then joinM x (strsOf l) g else none
 | [.str y]=>if (m==("split":Str)) = true then splitStr x y g else if (m==("index":Str)) = true then indexM (Builtin.Str.occurrences x y 0 x.length 1) g else none
 | _=>none
noncomputable def pmeth (T:Tbl) (m:Str) (x:D) (ys:List D) (g:Sg):Option (D × Sg) :=
 match x with
 | .hdr k=>fnC (T.mt m) (.hdr k::ys) g
 | .str x=>strM m x ys g
 | _=>none
noncomputable def lenC (ys:List D) (g:Sg):Option (D × Sg):=match ys with
 | [.str x]=>some (.int x.length,g)
 | [.lst l]=>some (.int l.length,g)
 | [.tup l]=>some (.int l.length,g)
 | _=>none
noncomputable def sumC (ys:List D) (g:Sg):Option (D × Sg):=match ys with
 | [.lst l]=>(intsOf l).map fun is=>(.int is.sum,g)
 | _=>none
noncomputable def pcall (T:Tbl) (f:Str) (ys:List D) (g:Sg):Option (D × Sg) :=
 if (f==("len":Str)) = true then lenC ys g
 else if (f==("sum":Str)) = true then sumC ys g
 else if ((["max","min","range","zip","enumerate","str","type","Headers"]:List Str).contains f) = true then none
 else fnC (T.fn f) ys g
noncomputable def partD (tr:D→Sg→Option (Bool × Sg)):List D→Sg→Option ((List D × List D) × Sg)
 | [],g=>some (([],[]),g)
 | d::ds,g=>bindK (tr d g) fun b g=>bindK (partD tr ds g) fun p g=>some (if b then (d::p.1,p.2) else (p.1,d::p.2),g)
mutual
noncomputable def pev (T:Tbl):Nat→Kd→Ro→Expr→Sg→Option (D × Sg)
 | 0,_,_,_,_=>none
 | n + 1,kd,ro,e,g =>
   match e with
   | .Constant .none _ _=>some (.none,g)
   | .Constant (.bool b) _ _=>some (.bool b,g)
   | .Constant (.int i) _ _=>some (.int i,g)
   | .Constant (.str s) _ _=>if strOk s then some (.str s,g) else none
   | .Name x _=>if x==("__debug__":Str)||x==("__classdict__":Str) then none else (ro.lookup x).map (·,g)
   | .BoolOp .And [a,b] _=>bindK (pev T n kd ro a g) fun x g =>
       match truthD x with
       | some true=>pev T n kd ro b g
       | some false=>some (x,g)
       | none=>none
   | .BoolOp .Or [a,b] _=>bindK (pev T n kd ro a g) fun x g =>
       match truthD x with
       | some true=>some (x,g)
       | some false=>pev T n kd ro b g
       | none=>none
   | .BinOp a op b _=>bindK (pev T n kd ro a g) fun x g=>bindK (pev T n kd ro b g) fun y g=>(binD op x y).map (·,g)
   | .UnaryOp .Not a _=>bindK (pev T n kd ro a g) fun x g=>(truthD x).map fun b=>(.bool (!b),g)
   | .UnaryOp .USub a _=>bindK (pev T n kd ro a g) fun x g=>match x with | .int i=>some (.int (-i),g) | _=>none
   | .IfExp t a b _=>bindK (pt T n kd ro t g) fun c g=>if c then pev T n kd ro a g else pev T n kd ro b g
   | .Dict ks vs _=>if ks.length≤12&&ks.length != 0 then (dispD ks vs).map fun l=>(.dct l,g) else none
   | .List es _=>bindK (evs (pev T n kd ro) es g) fun ds g=>if ds.length≤lim then some (.lst ds,g) else none
   | .Tuple es _ _=>bindK (evs (pev T n kd ro) es g) fun ds g=>if ds.length≤lim then some (.tup ds,g) else none
   | .Compare a [op] [b] _=>bindK (pev T n kd ro a g) fun x g=>bindK (pev T n kd ro b g) fun y g=>(cmpD op x y).map fun c=>(.bool c,g)
   | .Subscript a (.Slice lo hi st _) _=>bindK (pev T n kd ro a g) fun x g =>
       bindK (evOpt (pev T n kd ro) lo g) fun l g=>bindK (evOpt (pev T n kd ro) hi g) fun h g=>bindK (evOpt (pev T n kd ro) st g) fun s g =>
         (sliceD x l h s).map (·,g)
   | .Subscript a i _=>bindK (pev T n kd ro a g) fun x g=>bindK (pev T n kd ro i g) fun y g =>
       match x with
       | .hdr _=>match T.mt "__getitem__" with | some f=>f [x,y] g | none=>none
       | _=>(itemD x y).map (·,g)
   | .ListComp el [⟨t,it,ifs,0⟩] sc _ =>
       if !scopeOkT sc kd t then none else
       bindK (psrc T n kd ro it g) fun ds g =>
         bindK (compK (fun ro g=>match ifs with
               | []=>some (.bool true,g)
               | [c]=>bindK (pt T n (fun x=>sc.names.lookup x) ro c g) fun b g=>some (.bool b,g)
               | _=>none)
             (fun ro g=>pev T n (fun x=>sc.names.lookup x) ro el g) t (freeIn sc ro) ds g)
           fun ys g=>if ys.length≤lim then some (.lst ys,g) else none
   | .Call (.Attribute o m q) as [] p =>
       if notSuper o&&q.endLine==p.line&&decide (as.length < 20)&&as.all plainE then bindK (pev T n kd ro o g) fun x g=>bindK (evs (pev T n kd ro) as g) fun ys g=>pmeth T m x ys g
       else none
   | .Call (.Name f _) as [] _ =>
       if kd f != some .globalImplicit||f==("__debug__":Str) then none else
       if f==("_split_list":Str) then
         match as with
         | [src,.Lambda ⟨[],[⟨x,none,_⟩],none,[],[],none,[]⟩ body sc _] =>
           if !scopeOk sc kd x then none else
           bindK (pspl T n kd ro src g) fun ds g =>
             bindK (partD (fun d g=>bindK (pev T n (fun y=>sc.names.lookup y) ((x,d)::freeIn sc ro) body g) fun r g=>(truthD r).map (·,g)) ds g) fun p g =>
               some (.tup [.lst p.1,.lst p.2],g)
         | _=>none
       else if f==("Headers":Str) then
         match as with
         | [.List es _]=>bindK (evs (pev T n kd ro) es g) fun ds g=>if ds.length≤lim then (match T.new with | some s=>s [.lst ds] g | none=>none) else none
         | _=>none
       else if !firstPlain as then none
       else if builtinF f&&!(as.all plainE&&decide (as.length < 20)) then none
       else bindK (evs (pev T n kd ro) as g) fun ys g=>pcall T f ys g
   | _=>none
noncomputable def pt (T:Tbl):Nat→Kd→Ro→Expr→Sg→Option (Bool × Sg)
 | 0,_,_,_,_=>none
 | n + 1,kd,ro,e,g =>
   match e with
   | .UnaryOp .Not a _=>bindK (pt T n kd ro a g) fun b g=>some (!b,g)
   | .BoolOp .And vs _=>allK (fun e g=>pt T n kd ro e g) vs g
   | .BoolOp .Or vs _=>anyK (fun e g=>pt T n kd ro e g) vs g
   | .IfExp t a b _=>bindK (pt T n kd ro t g) fun c g=>if c then pt T n kd ro a g else pt T n kd ro b g
   | .Compare a [op] [b] _=>bindK (pev T n kd ro a g) fun x g=>bindK (pev T n kd ro b g) fun y g=>(cmpD op x y).map (·,g)
   | .Compare ..=>none
   | e=>bindK (pev T n kd ro e g) fun x g=>(truthD x).map (·,g)
noncomputable def psrc (T:Tbl):Nat→Kd→Ro→Expr→Sg→Option (List D × Sg)
 | 0,_,_,_,_=>none
 | n + 1,kd,ro,e,g =>
   match e with
   | .Call (.Name f _) as [] _ =>
     if f==("range":Str) then
       if kd f != some .globalImplicit||!as.all plainE then none else
       bindK (evs (pev T n kd ro) as g) fun ys g =>
         match ys with
         | [.int b]=>(rangeSrc 0 b 1).map (·,g)
         | [.int a,.int b]=>(rangeSrc a b 1).map (·,g)
         | [.int a,.int b,.int c]=>(rangeSrc a b c).map (·,g)
         | _=>none
     else bindK (pev T n kd ro e g) fun d g=>(itemsD d).map (·,g)
   | e=>bindK (pev T n kd ro e g) fun d g=>(itemsD d).map (·,g)
noncomputable def pspl (T:Tbl):Nat→Kd→Ro→Expr→Sg→Option (List D × Sg)
 | 0,_,_,_,_=>none
 | n + 1,kd,ro,e,g =>
   match e with
   | .Call (.Name f _) [a,b] [] _ =>
     if f==("zip":Str) then
       if kd f != some .globalImplicit then none else
       bindK (pev T n kd ro a g) fun x g=>bindK (pev T n kd ro b g) fun y g =>
         match x,y with
         | .lst l,.lst m=>some (pairsD l m,g)
         | _,_=>none
     else none
   | e=>bindK (pev T n kd ro e g) fun d g=>(itemsD d).map (·,g)
end
inductive EV where
 | val (d:D)
 | own (l:List D)
 deriving Inhabited
noncomputable abbrev Fo:=List (Str × EV)
noncomputable def rmOwn:Fo→Ro
 | []=>[]
 | (x,.val d)::r=>(x,d)::rmOwn r
 | (_,.own _)::r=>rmOwn r
noncomputable def frz:Fo→Ro
 | []=>[]
 | (x,.val d)::r=>(x,d)::frz r
 | (x,.own l)::r=>(x,.lst l)::frz r
noncomputable def frzF:Fo→Fo
 | []=>[]
 | (x,.val d)::r=>(x,.val d)::frzF r
 | (x,.own l)::r=>(x,.val (.lst l))::frzF r
noncomputable def setE (x:Str) (v:EV):Fo→Fo
 | []=>[(x,v)]
 | (y,u)::r=>if y==x then (y,v)::r else (y,u)::setE x v r
noncomputable def setEs:List (Str × D)→Fo→Fo
 | [],fo=>fo
 | (x,d)::r,fo=>setEs r (setE x (.val d) fo)
mutual
noncomputable def flat:D→Bool
 | .none=>true | .bool _=>true | .int _=>true | .str _=>true
 | .tup l=>flatL l
 | _=>false
noncomputable def flatL:List D→Bool
 | []=>true
 | d::r=>flat d&&flatL r
end
inductive Fl where
 | next (fo:Fo) (g:Sg)
 | ret (d:D) (g:Sg)
 deriving Inhabited
noncomputable def evX (ev:Ro→Expr→Sg→Option (D × Sg)) (fo:Fo) (e:Expr) (g:Sg):Option (D × Fo × Sg) :=
 match ev (rmOwn fo) e g with
 | some (d,g)=>some (d,fo,g)
 | none=>match ev (frz fo) e g with
   | some (d,g)=>some (d,if flat d then fo else frzF fo,g)
   | none=>none
noncomputable def canSet (kd:Kd) (x:Str):Bool:=kd x==some .local||kd x==some .cell
noncomputable def forK (body:Fo→Sg→Option Fl) (kd:Kd) (t:Expr):List D→Fo→Sg→Option Fl
 | [],fo,g=>some (.next fo g)
 | d::ds,fo,g =>
   match tgt t d with
   | none=>none
   | some b =>
     if b.all fun p=>canSet kd p.1 then
       match body (setEs b fo) g with
       | some (.next fo g)=>forK body kd t ds fo g
       | r=>r
     else none
noncomputable def whileK (test:Fo→Sg→Option (Bool × Sg)) (body:Fo→Sg→Option Fl):Nat→Fo→Sg→Option Fl
 | 0,_,_=>none
 | k + 1,fo,g =>
   match test fo g with
   | some (true,g)=>(match body fo g with
     | some (.next fo g)=>whileK test body k fo g
     | r=>r)
   | some (false,g)=>some (.next fo g)
   | none=>none
noncomputable def setAt (l:List D) (i d:D):Option (List D) :=
 match i with
 | .int i=>if 0≤i then (place l.length i).map fun k=>l.set k d else none
 | _=>none
noncomputable def putT (T:Tbl) (n:Nat) (kd:Kd):List Expr→List D→Fo→Sg→Option (Fo × Sg)
 | [],[],fo,g=>some (fo,g)
 | .Name x _::ts,d::ds,fo,g=>if canSet kd x then putT T n kd ts ds (setE x (.val d) fo) g else none
 | .Subscript (.Name x _) i _::ts,d::ds,fo,g =>
   if x==("__debug__":Str) then none else
   match fo.lookup x with
   | some (.own l)=>match pev T n kd (rmOwn fo) i g with
     | some (i,g)=>if flat d then (match setAt l i d with
       | some l=>putT T n kd ts ds (setE x (.own l) fo) g
       | none=>none) else none
     | none=>none
   | _=>none
 | _,_,_,_=>none
noncomputable def swapF (kd:Kd) (ts vs:List Expr):Option (Option (List Str)) :=
 if !(ts.length==2||ts.length==3)||vs.length != ts.length then some none
 else if vs.any fun | .Starred ..=>true | _=>false then some none
 else
   let line:=(ts.head?.map (·.pos.line)).getD 0
   let names:=ts.filterMap fun
     | .Name id pos=>if kd id==some .local&&pos.line==line then some id else none
     | _=>none
   if names.length != ts.length||names.eraseDups.length != names.length then some none
   else if vs.all (foldedForSure 8) then some none
   else if vs.all (constantsAlone 8) then none
   else some (some names)
noncomputable def splitM (mu:List Str):List Expr→List Expr→Option (List Str × List Expr × Str × List Expr × List Str × List Expr)
 | .Name x _::ts,.List es p::r=>if mu.contains x then (namesOf ts).map fun n2=>([],[],x,es,n2,r) else (splitM mu ts r).map fun q=>(x::q.1,.List es p::q.2.1,q.2.2)
 | .Name x _::ts,e::r=>(splitM mu ts r).map fun q=>(x::q.1,e::q.2.1,q.2.2)
 | _,_=>none
noncomputable def isTuple:Expr→Bool
 | .Tuple ..=>true
 | _=>false
mutual
noncomputable def pexec (T:Tbl) (mu:List Str):Nat→Kd→Stmt→Fo→Sg→Option Fl
 | 0,_,_,_,_=>none
 | n + 1,kd,st,fo,g =>
   match st with
   | .Assign [.Name x _] e _ =>
     if !canSet kd x then none else
     match evX (pev T n kd) fo e g with
     | some (d,fo,g)=>some (.next (setE x (.val d) fo) g)
     | none=>none
   | .Assign [.Tuple ts _ _] (.Tuple es k p) _ =>
     match swapF kd ts es,splitM mu ts es with
     | some none,some (n1,e1,z,e0,n2,e2) =>
       if !(canSet kd z&&n1.all (canSet kd)&&n2.all (canSet kd)&&es.all plainE&&n2.length==e2.length&&decide (es.length < 20)) then none else
       bindF (evs (pev T n kd (rmOwn fo)) e1 g) fun d1 g=>bindF (evs (pev T n kd (rmOwn fo)) e0 g) fun d0 g=>bindF (evs (pev T n kd (rmOwn fo)) e2 g) fun d2 g =>
         if d0.length≤lim then some (.next (setEs (n2.zip d2) (setE z (.own d0) (setEs (n1.zip d1) fo))) g) else none
     | some none,none =>
       (match evX (pev T n kd) fo (.Tuple es k p) g with
       | some (.tup ds,fo,g)=>(putT T n kd ts ds fo g).map fun p=>.next p.1 p.2
       | _=>none)
     | some (some names),_ =>
       (match evX (pev T n kd) fo (.Tuple es k p) g with
       | some (.tup ds,fo,g)=>if namesOf ts==some names&&decide names.Nodup&&names.all (canSet kd)&&names.length==ds.length then some (.next (setEs (names.zip ds) fo) g) else none
       | _=>none)
     | none,_=>none
   | .Assign [.Tuple ts _ _] e _ =>
     match evX (pev T n kd) fo e g with
     | some (.tup ds,fo,g)=>(putT T n kd ts ds fo g).map fun p=>.next p.1 p.2
     | _=>none
   | .Assign [.Subscript o i _] e _ =>
     match evX (pev T n kd) fo e g with
     | some (d,fo,g)=>(match pev T n kd (rmOwn fo) o g with
       | some (.hdr k,g)=>(match pev T n kd (rmOwn fo) i g with
         | some (j,g)=>(match T.mt "__setitem__" with
           | some f=>(match f [.hdr k,j,d] g with
             | some (_,g)=>some (.next fo g)
             | none=>none)
           | none=>none)
         | none=>none)
       | _=>none)
     | none=>none
   | .Return (some e) _=>match pev T n kd (frz fo) e g with
     | some (d,g)=>some (.ret d g)
     | none=>none
   | .If t a b _=>match pt T n kd (rmOwn fo) t g with
     | some (c,g)=>if c then pexecs T mu n kd a fo g else pexecs T mu n kd b fo g
     | none=>none
   | .For t it body [] _=>if (namesT t).isNone then none else match psrc T n kd (rmOwn fo) it g with
     | some (ds,g)=>forK (fun fo g=>pexecs T mu n kd body fo g) kd t ds fo g
     | none=>none
   | .While t body [] _=>whileK (fun fo g=>pt T n kd (rmOwn fo) t g) (fun fo g=>pexecs T mu n kd body fo g) 100000 fo g
   | _=>none
noncomputable def pexecs (T:Tbl) (mu:List Str):Nat→Kd→List Stmt→Fo→Sg→Option Fl
 | 0,_,_,_,_=>none
 | _ + 1,_,[],fo,g=>some (.next fo g)
 | n + 1,kd,st::r,fo,g =>
   match pexec T mu n kd st fo g with
   | some (.next fo g)=>pexecs T mu n kd r fo g
   | x=>x
end
theorem plain_ne {e:Expr} (h:plainE e = true) (x:Expr) (p:Pos) (he:e = .Starred x p):False:=by
 subst he;exact Bool.noConfusion (show false = true from h)
theorem lk_hit {α:Type} {β:Type} [BEq α] {x a:α} {b:β} {r:List (α × β)} (h:(x==a) = true):List.lookup x ((a,b)::r) = some b :=
 congrArg (fun c=>match c with | true=>some b | false=>List.lookup x r) h
theorem lk_miss {α:Type} {β:Type} [BEq α] {x a:α} {b:β} {r:List (α × β)} (h:(x==a) = false):List.lookup x ((a,b)::r) = List.lookup x r :=
 congrArg (fun c=>match c with | true=>some b | false=>List.lookup x r) h
end Mine
end
section
set_option tactic.hygienic false
open PySem
namespace Mine
noncomputable abbrev HI:=List (Addr × Addr × Addr)
noncomputable def adr:HI→List Addr
 | []=>[]
 | t::r=>t.1::t.2.1::t.2.2::adr r
theorem adr_append (a b:HI):adr (a++b) = adr a++adr b:=by
 induction a with
 | nil=>rfl
 | cons t r ih=>show t.1::t.2.1::t.2.2::adr (r++b) = _;rw [ih];rfl
theorem mem_adr_of {t:Addr × Addr × Addr} {io:HI} (h:t∈io):t.1∈adr io∧t.2.1∈adr io∧t.2.2∈adr io:=by
 induction io with
 | nil=>cases h
 | cons u r ih =>
   rcases List.mem_cons.mp h with rfl | h
   · exact ⟨.head _,.tail _ (.head _),.tail _ (.tail _ (.head _))⟩
   · have:=ih h;exact ⟨.tail _ (.tail _ (.tail _ this.1)),.tail _ (.tail _ (.tail _ this.2.1)),.tail _ (.tail _ (.tail _ this.2.2))⟩
structure Cst where
 prog:Program
 w:World
 H:Heap
 vt:List Addr
 mg:Str→Option Value
 mb:Str→Option Value
 cls:Addr
 spc:List (Addr × Addr × Str)
 vtOk:List Addr→Heap→Prop
 vtKeep:∀ (V V':List Addr) (h h':Heap),vtOk V h→(∀ b∈vt,∀ o,h.get? b = some o→h'.get? b = some o)→(∀ a o vs,h.get? a = some o→o.data = .fields vs→a∉V→h'.get? a = some o∧a∉V')→vtOk V' h'
noncomputable def PTup (h:Heap) (a:Addr) (vs:Array Value):Prop:=∃ n,h.get? a = some { cls:=.type "tuple",data:=.seq vs n }
theorem PTup.isTuple {h:Heap} {a:Addr} {vs} (x:PTup h a vs):h.IsTuple a vs:=let ⟨n,e⟩:=x;⟨_,e,rfl,n,rfl⟩
noncomputable def DctAt (C:Cst) (h:Heap) (a:Addr) (l:List (Str × Str)):Prop :=
 ∃ f,h.MapOf (strKind C.prog C.w) a f∧∀ x y,l.lookup x = some y→y.length≤lim∧∃ t,f x = some (.str y t)
theorem DctAt.at {C:Cst} {h h':Heap} {a:Addr} {l} (x:DctAt C h a l) (hk:∀ o,h.get? a = some o→h'.get? a = some o):DctAt C h' a l:=by
 refine zea x fun f e1q hf=>?_;clear x;obtain ⟨o,es,ep,ho,r⟩:=e1q
 exact ⟨f,⟨o,es,ep,hk _ ho,r⟩,hf⟩
variable (C:Cst)
mutual
noncomputable def Has (V:List Addr) (io:HI) (h:Heap):D→Value→Prop
 | .none,v=>v = .none
 | .bool b,v=>v = .bool b
 | .int i,v=>∃ t,v = .int i t
 | .str x,v=>x.length≤lim∧∃ t,v = .str x t
 | .tup l,v=>l.length≤lim∧∃ a vs,v = .ref a∧a∉V∧PTup h a vs∧HasL V io h l vs.toList
 | .lst l,v=>l.length≤lim∧∃ a vs,v = .ref a∧a∉V∧h.PlainList a vs∧HasL V io h l vs.toList
 | .dct l,v=>∃ a,v = .ref a∧a∉V∧DctAt C h a l
 | .hdr k,v=>∃ t,io[k]? = some t∧v = .ref t.1
noncomputable def HasL (V:List Addr) (io:HI) (h:Heap):List D→List Value→Prop
 | [],vs=>vs = []
 | d::ds,vs=>∃ v r,vs = v::r∧Has V io h d v∧HasL V io h ds r
end
inductive TupV (V:List Addr) (io:HI) (h:Heap) (l:List D) (v:Value):Prop
 | mk (hl:l.length≤lim) (a:Addr) (vs:Array Value) (e:v = .ref a) (ha:a∉V) (ht:PTup h a vs) (hs:HasL C V io h l vs.toList)
inductive LstV (V:List Addr) (io:HI) (h:Heap) (l:List D) (v:Value):Prop
 | mk (hl:l.length≤lim) (a:Addr) (vs:Array Value) (e:v = .ref a) (ha:a∉V) (ht:h.PlainList a vs) (hs:HasL C V io h l vs.toList)
inductive ConsV (V:List Addr) (io:HI) (h:Heap) (d:D) (ds:List D) (vs:List Value):Prop
 | mk (v:Value) (r:List Value) (e:vs = v::r) (hd:Has C V io h d v) (hr:HasL C V io h ds r)
theorem Has.tup {C:Cst} {V:List Addr} {io:HI} {h:Heap} {l:List D} {v:Value} (x:Has C V io h (.tup l) v):TupV C V io h l v:=by
 refine zae2a3 x fun h1 a vs h2 h3 h4 h5=>?_;clear x
 exact ⟨h1,a,vs,h2,h3,h4,h5⟩
theorem Has.lst {C:Cst} {V:List Addr} {io:HI} {h:Heap} {l:List D} {v:Value} (x:Has C V io h (.lst l) v):LstV C V io h l v:=by
 refine zae2a3 x fun h1 a vs h2 h3 h4 h5=>?_;clear x
 exact ⟨h1,a,vs,h2,h3,h4,h5⟩
theorem Has.int {C:Cst} {V:List Addr} {io:HI} {h:Heap} {i:Int} {v:Value} (x:Has C V io h (.int i) v):∃ t,v = .int i t:=by
 exact x
theorem Has.str {C:Cst} {V:List Addr} {io:HI} {h:Heap} {i:Str} {v:Value} (x:Has C V io h (.str i) v):i.length≤lim∧∃ t,v = .str i t:=by
 exact x
theorem HasL.cons {C:Cst} {V:List Addr} {io:HI} {h:Heap} {d:D} {ds:List D} {vs:List Value} (x:HasL C V io h (d::ds) vs):ConsV C V io h d ds vs:=by
 refine ze2a2 x fun v r e h1 h2=>?_;clear x
 exact ⟨v,r,e,h1,h2⟩
mutual
theorem Has.mono {V V':List Addr} {io io':HI} {h h':Heap} (hk:∀ a o,h.get? a = some o→a∉V→h'.get? a = some o∧a∉V') (hp:∀ (k:Nat) t,io[k]? = some t→io'[k]? = some t) :
   ∀ {d:D} {v:Value},Has C V io h d v→Has C V' io' h' d v
 | .none,_,x=>x
 | .bool _,_,x=>x
 | .int _,_,x=>x
 | .str _,_,x=>x
 | .tup l,_,x=>by
   refine zae2a3 x fun hl a vs e3q ha e5q hs=>?_;clear x;subst e3q;obtain ⟨n,ho⟩:=e5q
   exact ⟨hl,a,vs,rfl,(hk a _ ho ha).2,⟨n,(hk a _ ho ha).1⟩,HasL.mono hk hp hs⟩
 | .lst l,_,x=>by
   refine zae2a3 x fun hl a vs e3q ha e5q hs=>?_;clear x;subst e3q;obtain ⟨n,ho⟩:=e5q
   exact ⟨hl,a,vs,rfl,(hk a _ ho ha).2,⟨n,(hk a _ ho ha).1⟩,HasL.mono hk hp hs⟩
 | .dct l,_,x=>by
   refine zea2 x fun a e1q ha hd=>?_;clear x;subst e1q
   have hd':=hd
   refine zea hd' fun f e1q hf=>?_;clear hd';obtain ⟨o,es,ep,ho,r⟩:=e1q
   exact ⟨a,rfl,(hk a o ho ha).2,hd.at fun o' e=>(hk a o' e ha).1⟩
 | .hdr k,_,x=>by
   refine zea x fun t ht e=>?_;clear x
   exact ⟨t,hp k t ht,e⟩
theorem HasL.mono {V V':List Addr} {io io':HI} {h h':Heap} (hk:∀ a o,h.get? a = some o→a∉V→h'.get? a = some o∧a∉V') (hp:∀ (k:Nat) t,io[k]? = some t→io'[k]? = some t) :
   ∀ {ds:List D} {vs:List Value},HasL C V io h ds vs→HasL C V' io' h' ds vs
 | [],_,x=>x
 | d::ds,_,x=>by
   refine ze2a2 x fun v r e2q h1 h2=>?_;clear x;subst e2q
   exact ⟨v,r,rfl,Has.mono hk hp h1,HasL.mono hk hp h2⟩
end
theorem HasL.length {V:List Addr} {io:HI} {h:Heap}:∀ {ds:List D} {vs:List Value},HasL C V io h ds vs→vs.length = ds.length
 | [],_,x=>by subst x;rfl
 | _::ds,_,x=>by
   refine ze2a2 x fun v r e2q J h2=>?_;clear x;subst e2q
   simp [HasL.length h2]
theorem HasL.get {V:List Addr} {io:HI} {h:Heap}:∀ {ds:List D} {vs:List Value} {k:Nat} {d:D},HasL C V io h ds vs→ds[k]? = some d→∃ v,vs[k]? = some v∧Has C V io h d v
 | [],_,_,_,_,e=>by simp at e
 | d::ds,_,0,d',x,e=>by
   refine ze2a2 x fun v r e2q h1 J=>?_;clear x;subst e2q
   simp at e;subst e
   exact ⟨v,rfl,h1⟩
 | _::ds,_,k + 1,d',x,e=>by
   refine ze2a2 x fun v r e2q J h2=>?_;clear x;subst e2q
   simp at e
   refine zea (HasL.get h2 e) fun u hu hd=>?_
   exact ⟨u,by simpa using hu,hd⟩
theorem HasL.append {V:List Addr} {io:HI} {h:Heap}:∀ {ds es:List D} {vs us:List Value},HasL C V io h ds vs→HasL C V io h es us→HasL C V io h (ds++es) (vs++us)
 | [],_,_,_,x,y=>by subst x;simpa using y
 | _::ds,_,_,_,x,y=>by
   refine ze2a2 x fun v r e2q h1 h2=>?_;clear x;subst e2q
   exact ⟨v,r++_,rfl,h1,HasL.append h2 y⟩
theorem HasL.picks {V:List Addr} {io:HI} {h:Heap} {ds:List D} {vs:List Value} (x:HasL C V io h ds vs):∀ ks:List Nat,HasL C V io h (ks.filterMap (ds[·]?)) (ks.filterMap (vs[·]?))
 | []=>by simp [HasL]
 | k::ks=>by
   have ih:=HasL.picks x ks
   have hlen:=HasL.length C x
   simp only [List.filterMap_cons]
   induction e:ds[k]? using Option.casesOn with
   | none =>
     have:vs[k]? = none:=by
       rw [List.getElem?_eq_none_iff] at e ⊢;lia
     rw [this];simpa using ih
   | some d =>
     refine zea (HasL.get C x e) fun v hv hd=>?_
     rw [hv]
     exact ⟨v,_,rfl,hd,ih⟩
structure HdrAt (V:List Addr) (h:Heap) (t:Addr × Addr × Addr) (ps:List (Str × Str)):Prop where
 inst:h.get? t.1 = some (PySem.W.instObj C.cls t.2.1)
 dict:∃ hs tk n,h.get? t.2.1 = some (PySem.W.dictOf [⟨hs,.str ("_headers":Str) tk,.ref t.2.2⟩] n)
 list:∃ vs,h.PlainList t.2.2 vs∧HasL C V [] h (ps.map fun p=>.tup [.str p.1,.str p.2]) vs.toList
 len:ps.length≤lim
noncomputable def VV (io:HI) (Z:List Addr):List Addr:=C.vt++adr io++Z
structure St (Z:List Addr) (io:HI) (g:Sg) (h:Heap):Prop where
 len:io.length = g.length
 at':∀ (k:Nat) t ps,io[k]? = some t→g[k]? = some ps→HdrAt C (VV C io Z) h t ps
 nodup:(adr io).Nodup
 below:∀ b∈adr io,C.H.get? b = none
 vt:C.vtOk (VV C io Z) h
structure Sok (Z:List Addr) (io:HI) (g:Sg) (s:Shared):Prop where
 base:∀ a o,C.H.get? a = some o→s.heap.get? a = some o
 st:St C Z io g s.heap
 zal:∀ z∈Z,∃ o,s.heap.get? z = some o
 zd:∀ z∈Z,z∉C.vt∧z∉adr io∧C.H.get? z = none
 val:∀ z∈C.vt,∃ o,s.heap.get? z = some o
theorem St.alive {Z:List Addr} {io:HI} {g:Sg} {h:Heap} (x:St C Z io g h):∀ b∈adr io,∃ o,h.get? b = some o:=by
 have key:∀ (l:HI),(∀ t∈l,∃ k:Nat,io[k]? = some t)→∀ b∈adr l,∃ o,h.get? b = some o:=by
   intro l
   induction l with
   | nil=>intro _ b hb;cases hb
   | cons t r ih =>
     intro hl b hb
     refine ze (hl t (.head _)) fun k hk=>?_
     have hlt:k < io.length:=by
       rcases List.getElem?_eq_some_iff.mp hk with ⟨h',_⟩;exact h'
     have hg:k < g.length:=x.len ▸ hlt
     have HH:=x.at' k t g[k] hk (by simp [hg])
     simp only [adr,List.mem_cons] at hb
     rcases hb with rfl | rfl | rfl | hb
     · exact ⟨_,HH.inst⟩
     · refine ze3 HH.dict fun J J J e=>?_;exact ⟨_,e⟩
     · refine zea HH.list fun J e1q J=>?_;obtain ⟨_,e⟩:=e1q;exact ⟨_,e⟩
     · exact ih (fun t ht=>hl t (.tail _ ht)) b hb
 exact key io fun t ht=>List.mem_iff_getElem?.mp ht
structure Grow (io io':HI) (s s':Shared):Prop where
 same:∃ h' tk,s' = { s with heap:=h',toks:=tk }
 keep:∀ b o,s.heap.get? b = some o→b∉C.vt→b∉adr io→s'.heap.get? b = some o
 alive:∀ b o,s.heap.get? b = some o→∃ o',s'.heap.get? b = some o'
 pre:∀ (k:Nat) t,io[k]? = some t→io'[k]? = some t
 fresh:∀ b∈adr io',b∈adr io∨s.heap.get? b = none
theorem Grow.refl {io:HI} {s:Shared}:Grow C io io s s:=⟨⟨_,_,rfl⟩,fun J J e J J=>e,fun J o e=>⟨o,e⟩,fun J J e=>e,fun J h=>.inl h⟩
theorem Grow.trans {io io' io'':HI} {s s' s'':Shared} (x:Grow C io io' s s') (y:Grow C io' io'' s' s''):Grow C io io'' s s'':=by
 refine ⟨?_,fun b o e hv ha=>?_,fun b o e=>?_,fun k t e=>y.pre k t (x.pre k t e),fun b hb=>?_⟩
 · refine ze2 x.same fun h1 t1 e1=>?_
   refine ze2 y.same fun h2 t2 e2=>?_
   exact ⟨h2,t2,by rw [e2,e1]⟩
 · refine y.keep b o (x.keep b o e hv ha) hv fun hm=>?_
   rcases x.fresh b hm with h | h
   · exact ha h
   · rw [e] at h;injection h
 · refine ze (x.alive b o e) fun o' e'=>?_
   exact y.alive b o' e'
 · rcases y.fresh b hb with h | h
   · exact x.fresh b h
   · refine .inr ?_
     induction e:s.heap.get? b using Option.casesOn with
     | none=>rfl
     | some o=>refine ze (x.alive b o e) fun o' e'=>?_;rw [e'] at h;injection h
theorem Grow.keepAt {io io':HI} {s s':Shared} (x:Grow C io io' s s') {b:Addr} {o:Obj} {Z:List Addr} (e:s.heap.get? b = some o) (hv:b∉VV C io Z):s'.heap.get? b = some o∧b∉VV C io' Z:=by
 simp only [VV,List.mem_append,not_or] at hv ⊢
 refine ⟨x.keep b o e hv.1.1 hv.1.2,⟨⟨hv.1.1,fun hm=>?_⟩,hv.2⟩⟩
 rcases x.fresh b hm with h | h
 · exact hv.1.2 h
 · rw [e] at h;injection h
theorem Grow.has {io io':HI} {s s':Shared} (x:Grow C io io' s s') {Z:List Addr} {d:D} {v:Value} (h:Has C (VV C io Z) io s.heap d v):Has C (VV C io' Z) io' s'.heap d v :=
 Has.mono C (fun J J e hv=>x.keepAt C e hv) x.pre h
theorem Grow.hasL {io io':HI} {s s':Shared} (x:Grow C io io' s s') {Z:List Addr} {d:List D} {v:List Value} (h:HasL C (VV C io Z) io s.heap d v):HasL C (VV C io' Z) io' s'.heap d v :=
 HasL.mono C (fun J J e hv=>x.keepAt C e hv) x.pre h
theorem Keeps.grow {io:HI} {s s':Shared} (k:Keeps s s'):Grow C io io s s':=by
 refine ze2a k fun h' tk e2q hk=>?_;clear k;subst e2q
 exact ⟨⟨h',tk,rfl⟩,fun b o e J J=>hk b o e,fun b o e=>⟨o,hk b o e⟩,fun J J e=>e,fun J h=>.inl h⟩
theorem HdrAt.keeps {V:List Addr} {h h':Heap} {t} {ps} (x:HdrAt C V h t ps) (hk:∀ b o,h.get? b = some o→h'.get? b = some o):HdrAt C V h' t ps where
 inst:=hk _ _ x.inst
 dict:=let ⟨a,b,c,e⟩:=x.dict;⟨a,b,c,hk _ _ e⟩
 list:=let ⟨vs,⟨n,e⟩,hl⟩:=x.list;⟨vs,⟨n,hk _ _ e⟩,HasL.mono C (fun a o e ha=>⟨hk a o e,ha⟩) (fun J J e=>e) hl⟩
 len:=x.len
theorem Keeps.sok {Z:List Addr} {io:HI} {g:Sg} {s s':Shared} (k:Keeps s s') (x:Sok C Z io g s):Sok C Z io g s':=by
 refine ze2a k fun h' tk e2q hk=>?_;clear k;subst e2q
 exact ⟨fun a o e=>hk a o (x.base a o e),⟨x.st.len,fun k t ps h1 h2=>(x.st.at' k t ps h1 h2).keeps C hk,x.st.nodup,x.st.below,C.vtKeep _ _ _ _ x.st.vt (fun b J o e=>hk b o e) (fun a o J e J ha=>⟨hk a o e,ha⟩)⟩,fun z hz=>let ⟨o,e⟩:=x.zal z hz;⟨o,hk _ _ e⟩,x.zd,fun z hz=>let ⟨o,e⟩:=x.val z hz;⟨o,hk _ _ e⟩⟩
theorem HdrAt.less {V V':List Addr} {h:Heap} {t} {ps} (x:HdrAt C V h t ps) (hv:∀ a,a∉V→a∉V'):HdrAt C V' h t ps where
 inst:=x.inst
 dict:=x.dict
 list:=let ⟨vs,e,hl⟩:=x.list;⟨vs,e,HasL.mono C (fun a o e ha=>⟨e,hv a ha⟩) (fun J J e=>e) hl⟩
 len:=x.len
theorem Sok.less {Z Z':List Addr} {io:HI} {g:Sg} {s:Shared} (x:Sok C Z io g s) (hz:∀ z∈Z',z∈Z):Sok C Z' io g s where
 base:=x.base
 st:=⟨x.st.len,fun k t ps h1 h2=>(x.st.at' k t ps h1 h2).less C fun a ha hm=>ha (by
   simp only [VV,List.mem_append] at hm ⊢
   rcases hm with hm | hm
   · exact .inl hm
   · exact .inr (hz a hm)),x.st.nodup,x.st.below,C.vtKeep _ _ _ _ x.st.vt (fun J J J e=>e) (fun a o J e J ha=>⟨e,fun hm=>ha (by
   simp only [VV,List.mem_append] at hm ⊢
   rcases hm with hm | hm
   · exact .inl hm
   · exact .inr (hz a hm))⟩)⟩
 zal:=fun z h=>x.zal z (hz z h)
 zd:=fun z h=>x.zd z (hz z h)
 val:=x.val
theorem Has.less {Z Z':List Addr} {io:HI} {h:Heap} {d:D} {v:Value} (x:Has C (VV C io Z) io h d v) (hz:∀ z∈Z',z∈Z):Has C (VV C io Z') io h d v :=
 Has.mono C (fun a o e ha=>⟨e,fun hm=>ha (by
   simp only [VV,List.mem_append] at hm ⊢
   rcases hm with hm | hm
   · exact .inl hm
   · exact .inr (hz a hm))⟩) (fun J J e=>e) x
theorem Keeps.refl {s:Shared}:Keeps s s:=⟨_,_,rfl,fun J J e=>e⟩
theorem Keeps.toks {s:Shared} {k:Nat}:Keeps s { s with toks:=k }:=⟨_,_,rfl,fun J J e=>e⟩
theorem Keeps.push {s:Shared} {o:Obj} {k:Nat}:Keeps s { s with heap:=s.heap.push o,toks:=k }:=⟨_,_,rfl,fun J J e=>Heap.get?_push_of_some _ e⟩
theorem Keeps.trans {s s' s'':Shared} (x:Keeps s s') (y:Keeps s' s''):Keeps s s'':=by
 refine ze2a x fun h1 t1 e2q k1=>?_;clear x;subst e2q
 refine ze2a y fun h2 t2 e2q k2=>?_;clear y;subst e2q
 exact ⟨h2,t2,rfl,fun b o e=>k2 b o (k1 b o e)⟩
structure AOk (A:Around) (n:Nat):Prop where
 hh:A.handled = none
 dp:A.depth + n≤900
 un:A.units + 8 * n≤9000
theorem AOk.le {A:Around} {n m:Nat} (x:AOk A n) (h:m≤n):AOk A m:=⟨x.hh,by have:=x.dp;lia,by have:=x.un;lia⟩
structure AOkC (A:Around) (n:Nat):Prop where
 hh:A.handled = none
 dp:A.depth + n≤900
 un:A.units + 8 * n≤9005
theorem AOkC.le {A:Around} {n m:Nat} (x:AOkC A n) (h:m≤n):AOkC A m:=⟨x.hh,by have:=x.dp;lia,by have:=x.un;lia⟩
theorem AOk.c {A:Around} {n:Nat} (x:AOk A n):AOkC A n:=⟨x.hh,x.dp,by have:=x.un;lia⟩
theorem AOk.c1 {A:Around} {n:Nat} (x:AOk A n):AOkC A.in1 n:=⟨x.hh,x.dp,by have:=x.un;show A.units + 1 + 8 * n≤9005;lia⟩
inductive Post (Z:List Addr) (io:HI) (s:Shared) (d:D) (g':Sg) (v:Value) (s':Shared):Prop
 | mk (io':HI) (x:Grow C io io' s s') (k:Sok C Z io' g' s') (h:Has C (VV C io' Z) io' s'.heap d v)
inductive PostL (Z:List Addr) (io:HI) (s:Shared) (ds:List D) (g':Sg) (vs:List Value) (s':Shared):Prop
 | mk (io':HI) (x:Grow C io io' s s') (k:Sok C Z io' g' s') (h:HasL C (VV C io' Z) io' s'.heap ds vs)
inductive PostB (Z:List Addr) (io:HI) (s:Shared) (b:Bool) (g':Sg) (c:Bool) (s':Shared):Prop
 | mk (e:c = b) (io':HI) (x:Grow C io io' s s') (k:Sok C Z io' g' s')
noncomputable def Pure (V:List Addr) (io:HI) (s:Shared) (d:D) (v:Value) (s':Shared):Prop:=Keeps s s'∧Has C V io s'.heap d v
noncomputable abbrev noE:Value→Shared→Prop:=fun J J=>False
end Mine
end
section
open PySem
namespace Mine
variable {C:Cst}
theorem lim_le:lim≤sizeLine:=by decide
theorem keepsToks {s:Shared} (k:Nat):Keeps s { s with toks:=k }:=⟨_,_,rfl,fun J J e=>e⟩
/-! equality -/
theorem no_opt {α:Type} {c:α} {p:Prop} (h:(Option.none:Option α) = some c):p:=nomatch h
inductive EqV:D→D→Bool→Prop
 | nn:EqV .none .none true
 | ns (y:Str):EqV .none (.str y) false
 | sn (x:Str):EqV (.str x) .none false
 | bb (x y:Bool):EqV (.bool x) (.bool y) (x==y)
 | ii (x y:Int):EqV (.int x) (.int y) (x==y)
 | ss (x y:Str):EqV (.str x) (.str y) (x==y)
 | tt {l m:List D} {c:Bool}:eqL l m = some c→EqV (.tup l) (.tup m) c
 | ll {l m:List D} {c:Bool}:eqL l m = some c→EqV (.lst l) (.lst m) c
theorem eqV {a b:D} {c:Bool} (e:eqD a b = some c):EqV a b c:=by
 induction a using D.casesOn with
 | none=>induction b using D.casesOn<;>first | exact no_opt e | (rw [← Option.some.inj (show some _ = some c from e)];constructor)
 | bool x=>induction b using D.casesOn<;>first | exact no_opt e | (rw [← Option.some.inj (show some _ = some c from e)];constructor)
 | int x=>induction b using D.casesOn<;>first | exact no_opt e | (rw [← Option.some.inj (show some _ = some c from e)];constructor)
 | str x=>induction b using D.casesOn<;>first | exact no_opt e | (rw [← Option.some.inj (show some _ = some c from e)];constructor)
 | tup l=>induction b using D.casesOn<;>first | exact no_opt e | exact .tt e
 | lst l=>induction b using D.casesOn<;>first | exact no_opt e | exact .ll e
 | dct l=>induction b using D.casesOn<;>exact no_opt e
 | hdr k=>induction b using D.casesOn<;>exact no_opt e
theorem eqD_tup {l:List D} {b:D} {c:Bool} (e:eqD (.tup l) b = some c):∃ m,b = .tup m∧eqL l m = some c:=by
 induction b using D.casesOn<;>first | exact no_opt e | exact ⟨_,rfl,e⟩
theorem eqD_lst {l:List D} {b:D} {c:Bool} (e:eqD (.lst l) b = some c):∃ m,b = .lst m∧eqL l m = some c:=by
 induction b using D.casesOn<;>first | exact no_opt e | exact ⟨_,rfl,e⟩
theorem eqL_cons {a b:D} {as bs:List D} {c:Bool} (e:eqL (a::as) (b::bs) = some c):∃ p q,eqD a b = some p∧eqL as bs = some q∧(p&&q) = c:=by
 replace e:(match eqD a b,eqL as bs with | some x,some y=>some (x&&y) | _,_=>none) = some c:=e
 generalize eqD a b = x at e
 generalize eqL as bs = y at e
 induction x using Option.casesOn with
 | none=>exact no_opt e
 | some p =>
   induction y using Option.casesOn with
   | none=>exact no_opt e
   | some q=>exact ⟨p,q,rfl,rfl,Option.some.inj e⟩
theorem eqL_step {a b:D} {as bs:List D} {p q:Bool} (h1:eqD a b = some p) (h2:eqL as bs = some q):eqL (a::as) (b::bs) = some (p&&q):=by
 show (match eqD a b,eqL as bs with | some x,some y=>some (x&&y) | _,_=>none) = _
 rw [h1,h2]
theorem seq_inj {h:Heap} {a:Addr} {k:String} {vs vs':Array Value} (x:∃ n,h.get? a = some { cls:=.type k,data:=.seq vs n }) (y:∃ n,h.get? a = some { cls:=.type k,data:=.seq vs' n }):vs = vs':=by
 refine ze x fun n e=>ze y fun n' e'=>?_
 rw [e] at e'
 injection e' with e'
 injection e' with _ _ e' _
 injection e'
mutual
theorem eqD_same {V V':List Addr} {io io':HI} {h:Heap}:∀ {a b:D} {v:Value} {c:Bool},Has C V io h a v→Has C V' io' h b v→eqD a b = some c→c = true
 | .none,b,v,c,x,y,e=>by
   replace x:v = .none:=x
   subst x
   cases eqV e with
   | nn=>rfl
   | ns s=>refine zae (Has.str y) fun _ t e=>?_;injection e
 | .bool p,b,v,c,x,y,e=>by
   replace x:v = .bool p:=x
   subst x
   cases eqV e with
   | bb _ q=>replace y:Value.bool p = .bool q:=y;injection y with y;rw [y];exact beq_self_eq_true _
 | .int p,b,v,c,x,y,e=>by
   refine ze (Has.int x) fun t e1=>?_
   cases eqV e with
   | ii _ q=>refine ze (Has.int y) fun u e2=>?_;rw [e1] at e2;injection e2 with e2;rw [e2];exact beq_self_eq_true _
 | .str p,b,v,c,x,y,e=>by
   refine zae (Has.str x) fun _ t e1=>?_
   cases eqV e with
   | sn=>replace y:v = .none:=y;rw [e1] at y;injection y
   | ss _ q=>refine zae (Has.str y) fun _ u e2=>?_;rw [e1] at e2;injection e2 with e2;rw [e2];exact beq_self_eq_true _
 | .tup l,b,v,c,x,y,e=>by
   refine zea (eqD_tup e) fun m eb e2=>?_
   subst eb
   obtain ⟨_,a,vs,e1,_,ht,hs⟩:=Has.tup x
   obtain ⟨_,a',vs',e1',_,ht',hs'⟩:=Has.tup y
   rw [e1] at e1'
   injection e1' with e1'
   subst e1'
   cases seq_inj ht ht'
   exact eqL_same hs hs' e2
 | .lst l,b,v,c,x,y,e=>by
   refine zea (eqD_lst e) fun m eb e2=>?_
   subst eb
   obtain ⟨_,a,vs,e1,_,ht,hs⟩:=Has.lst x
   obtain ⟨_,a',vs',e1',_,ht',hs'⟩:=Has.lst y
   rw [e1] at e1'
   injection e1' with e1'
   subst e1'
   cases seq_inj ht ht'
   exact eqL_same hs hs' e2
 | .dct _,b,v,c,x,y,e=>nomatch eqV e
 | .hdr _,b,v,c,x,y,e=>nomatch eqV e
theorem eqL_same {V V':List Addr} {io io':HI} {h:Heap}:∀ {a b:List D} {vs:List Value} {c:Bool},HasL C V io h a vs→HasL C V' io' h b vs→eqL a b = some c→c = true
 | [],[],_,c,x,y,e=>(Option.some.inj (show some true = some c from e)).symm
 | [],_::_,_,c,x,y,e=>by
   refine ze2a y fun J J h J=>?_;rw [show _ = [] from x] at h;injection h
 | _::_,[],_,c,x,y,e=>by
   refine ze2a x fun J J h J=>?_;rw [show _ = [] from y] at h;injection h
 | a::as,b::bs,_,c,x,y,e=>by
   refine ze2a2 x fun v r e2q x1 x2=>?_;clear x;subst e2q
   refine ze2a2 y fun v' r' e' y1 y2=>?_;clear y
   injection e' with e'1 e'2;subst e'1;subst e'2
   refine ze2a2 (eqL_cons e) fun p q e1 e2 e3=>?_
   rw [← e3,eqD_same x1 y1 e1,eqL_same x2 y2 e2];rfl
end
theorem eqL_all:∀ {a b:List D} {c:Bool},eqL a b = some c→(∀ (j:Nat) x y,a[j]? = some x→b[j]? = some y→∃ q,eqD x y = some q) ∧
   c = ((List.range (min a.length b.length)).all (fun j=>match a[j]?,b[j]? with | some x,some y=>(eqD x y).getD false | _,_=>false)&&a.length==b.length)
 | [],[],c,e=>⟨fun j x y h=>by simp at h,(Option.some.inj (show some true = some c from e)).symm⟩
 | [],b::bs,c,e=>⟨fun j x y h=>by simp at h,(Option.some.inj (show some false = some c from e)).symm.trans (by simp)⟩
 | a::as,[],c,e=>⟨fun j x y _ h=>by simp at h,(Option.some.inj (show some false = some c from e)).symm.trans (by simp)⟩
 | a::as,b::bs,c,e=>by
   refine ze2a2 (eqL_cons e) fun p q e1 e2 e=>?_
   refine za (eqL_all e2) fun h1 h2=>?_
   refine ⟨fun j x y hx hy=>?_,?_⟩
   · induction j using Nat.casesOn with
     | zero=>simp at hx hy;subst hx hy;exact ⟨p,e1⟩
     | succ j=>simp at hx hy;exact h1 j x y hx hy
   · have hm:min (a::as).length (b::bs).length = min as.length bs.length + 1:=by simp only [List.length_cons];lia
     rw [← e,h2,hm,List.range_succ_eq_map,List.all_cons,List.all_map]
     have h0:(match (a::as)[0]?,(b::bs)[0]? with | some x,some y=>(eqD x y).getD false | _,_=>false) = p:=by
       show (eqD a b).getD false = p
       rw [e1];rfl
     have hl:((a::as).length==(b::bs).length) = (as.length==bs.length):=by
       rw [Bool.eq_iff_iff];simp
     rw [h0,hl,Bool.and_assoc]
     rfl
noncomputable def eqAtJ (a b:List D) (j:Nat):Bool:=match a[j]?,b[j]? with | some x,some y=>(eqD x y).getD false | _,_=>false
mutual
theorem eqD_at {V V':List Addr} {io io':HI}:∀ {a b:D} {va vb:Value} {c:Bool} {A:Around} {s:Shared},eqD a b = some c→Has C V io s.heap a va→Has C V' io' s.heap b vb→A.units + dep a < cLine→SeqAt.EqAt A s va vb c
 | .none,b,va,vb,c,A,s,e,x,y,hu=>by
   replace x:va = .none:=x
   subst x
   cases eqV e with
   | nn=>replace y:vb = .none:=y;subst y;exact SeqAt.EqAt.same _
   | ns=>refine zae (Has.str y) fun _ t e2=>?_;rw [e2];exact SeqAt.EqAt.none_str _ _
 | .bool p,b,va,vb,c,A,s,e,x,y,hu=>by
   replace x:va = .bool p:=x
   subst x
   cases eqV e with
   | bb _ q=>replace y:vb = .bool q:=y;subst y;exact SeqAt.EqAt.bool_bool _ _
 | .int p,b,va,vb,c,A,s,e,x,y,hu=>by
   refine ze (Has.int x) fun t e1=>?_
   cases eqV e with
   | ii _ q=>refine ze (Has.int y) fun u e2=>?_;rw [e1,e2];exact SeqAt.EqAt.int_int _ _ _ _
 | .str p,b,va,vb,c,A,s,e,x,y,hu=>by
   refine zae (Has.str x) fun _ t e1=>?_
   cases eqV e with
   | sn=>replace y:vb = .none:=y;rw [e1,y];exact SeqAt.EqAt.str_none _ _
   | ss _ q=>refine zae (Has.str y) fun _ u e2=>?_;rw [e1,e2];exact SeqAt.EqAt.str_str _ _ _ _
 | .tup l,b,va,vb,c,A,s,e,x,y,hu=>by
   by_cases hab:va = vb
   · subst hab
     rw [eqD_same (C:=C) x y e];exact SeqAt.EqAt.same _
   · refine zea (eqD_tup e) fun m eb e2=>?_
     subst eb
     obtain ⟨_,a,vs,e3,_,ht,hs⟩:=Has.tup x
     obtain ⟨_,a',vs',e4,_,ht',hs'⟩:=Has.tup y
     have hu':A.in1.units + depL l < cLine:=by
       have hu:A.units + (depL l + 1) < cLine:=hu
       show A.units + 1 + depL l < cLine
       lia
     have hlen:vs.size = l.length:=HasL.length C hs
     have hlen':vs'.size = m.length:=HasL.length C hs'
     rw [e3,e4,(eqL_all e2).2,← hlen,← hlen']
     refine SeqAt.EqAt.of_refs (fun h=>hab (by rw [e3,e4,h])) ?_
     exact SeqAt.RcAt.tuples (e:=eqAtJ l m) ht.isTuple ht'.isTuple (by lia) (eqL_at e2 hs hs' hu')
 | .lst l,b,va,vb,c,A,s,e,x,y,hu=>by
   by_cases hab:va = vb
   · subst hab
     rw [eqD_same (C:=C) x y e];exact SeqAt.EqAt.same _
   · refine zea (eqD_lst e) fun m eb e2=>?_
     subst eb
     obtain ⟨_,a,vs,e3,_,ht,hs⟩:=Has.lst x
     obtain ⟨_,a',vs',e4,_,ht',hs'⟩:=Has.lst y
     have hu':A.in1.units + depL l < cLine:=by
       have hu:A.units + (depL l + 1) < cLine:=hu
       show A.units + 1 + depL l < cLine
       lia
     have hlen:vs.size = l.length:=HasL.length C hs
     have hlen':vs'.size = m.length:=HasL.length C hs'
     rw [e3,e4,(eqL_all e2).2,← hlen,← hlen']
     refine SeqAt.EqAt.of_refs (fun h=>hab (by rw [e3,e4,h])) ?_
     by_cases hsz:vs.size = vs'.size
     · have:=SeqAt.RcAt.lists (e:=eqAtJ l m) ht.isList ht'.isList hsz (by lia) (eqL_at e2 hs hs' hu')
       rw [hsz,Nat.min_self]
       rw [hsz] at this
       rw [beq_self_eq_true,Bool.and_true]
       exact this
     · have hne:(vs.size==vs'.size) = false:=by simpa using hsz
       rw [hne,Bool.and_false]
       exact SeqAt.RcAt.lists_lengths ht.isList ht'.isList (by simpa using hsz) (by lia)
 | .dct _,b,_,_,_,_,_,e,_,_,_=>nomatch eqV e
 | .hdr _,b,_,_,_,_,_,e,_,_,_=>nomatch eqV e
theorem eqL_at {V V':List Addr} {io io':HI}:∀ {a b:List D} {va vb:List Value} {c:Bool} {A:Around} {s:Shared},eqL a b = some c→HasL C V io s.heap a va→HasL C V' io' s.heap b vb→A.units + depL a < cLine →
   ∀ j (h1:j < va.length) (h2:j < vb.length),SeqAt.EqAt A s va[j] vb[j] (eqAtJ a b j)
 | [],_,va,vb,c,A,s,e,x,y,hu,j,h1,h2=>by rw [show va = [] from x] at h1;exact absurd h1 (Nat.not_lt_zero _)
 | _::_,[],va,vb,c,A,s,e,x,y,hu,j,h1,h2=>by rw [show vb = [] from y] at h2;exact absurd h2 (Nat.not_lt_zero _)
 | a::as,b::bs,va,vb,c,A,s,e,x,y,hu,j,h1,h2=>by
   refine ze2a2 x fun v r e2q x1 x2=>?_;clear x;subst e2q
   refine ze2a2 y fun v' r' e2q y1 y2=>?_;clear y;subst e2q
   replace hu:A.units + max (dep a) (depL as) < cLine:=hu
   refine ze2a2 (eqL_cons e) fun p q e1 e2 e3=>?_
   induction j using Nat.casesOn with
   | zero =>
     have h0:eqAtJ (a::as) (b::bs) 0 = p:=by show (eqD a b).getD false = p;rw [e1];rfl
     rw [h0]
     exact eqD_at e1 x1 y1 (A:=A) (by lia)
   | succ j=>exact eqL_at e2 x2 y2 (A:=A) (by lia) j (Nat.lt_of_succ_lt_succ h1) (Nat.lt_of_succ_lt_succ h2)
end
end Mine
end
section
set_option tactic.hygienic false
open PySem
namespace Mine
variable {C:Cst}
section
variable {A:Around} {E:Value→Shared→Prop} {s:Shared} {V:List Addr} {io:HI}
theorem truthD_ok {d:D} {b:Bool} {v:Value} (e:truthD d = some b) (h:Has C V io s.heap d v):wpAny (model C.prog C.w) A (truthy v) (fun c s'=>c = b∧Keeps s s') E s:=by
 induction d using D.casesOn with
 | none =>
   subst h
   replace e:=Option.some.inj (show some _ = some b from e);subst e
   exact PyProof.Rows.truthy_none ⟨rfl,Keeps.refl⟩
 | bool c =>
   subst h
   replace e:=Option.some.inj (show some _ = some b from e);subst e
   exact wpAny_truthy_bool ⟨rfl,Keeps.refl⟩
 | int i =>
   refine ze h fun t e1q=>?_;clear h;subst e1q
   replace e:=Option.some.inj (show some _ = some b from e);subst e
   exact PyProof.Rows.truthy_int ⟨rfl,Keeps.refl⟩
 | str x =>
   refine zae h fun hl t e2q=>?_;clear h;subst e2q
   replace e:=Option.some.inj (show some _ = some b from e);subst e
   unfold lim at hl
   refine P.truthy_str (by lia) ⟨?_,keepsToks _⟩
   rw [Bool.eq_iff_iff];simp
 | tup l =>
   refine zae2a3 h fun hl a vs e3q ha ht hs=>?_;clear h;subst e3q
   replace e:=Option.some.inj (show some _ = some b from e);subst e
   have hlen:=HasL.length C hs
   unfold lim at hl
   simp only [Array.length_toList] at hlen
   refine PyProof.Rows.truthy_tuple ht.isTuple (by lia) ⟨?_,keepsToks _⟩
   rw [Bool.eq_iff_iff];simp [Array.isEmpty,← Array.size_eq_zero_iff,hlen,List.isEmpty_iff]
 | lst l =>
   refine zae2a3 h fun hl a vs e3q ha ht hs=>?_;clear h;subst e3q
   replace e:=Option.some.inj (show some _ = some b from e);subst e
   have hlen:=HasL.length C hs
   unfold lim at hl
   simp only [Array.length_toList] at hlen
   refine wpAny_truthy_list ht.isList (by lia) ⟨?_,keepsToks _⟩
   rw [Bool.eq_iff_iff];simp [Array.isEmpty,← Array.size_eq_zero_iff,hlen,List.isEmpty_iff]
 | dct l=>injection e
 | hdr k=>injection e
theorem anyD_cons {x y:D} {r:List D} {c:Bool} (e:anyD x (y::r) = some c):∃ p q,eqD y x = some p∧anyD x r = some q∧(p||q) = c:=by
 replace e:(match eqD y x,anyD x r with | some x,some y=>some (x||y) | _,_=>none) = some c:=e
 generalize eqD y x = x at e
 generalize anyD _ r = y at e
 induction x using Option.casesOn with
 | none=>exact no_opt e
 | some p =>
   induction y using Option.casesOn with
   | none=>exact no_opt e
   | some q=>exact ⟨p,q,rfl,rfl,Option.some.inj e⟩
theorem anyD_step {x y:D} {r:List D} {p q:Bool} (h1:eqD y x = some p) (h2:anyD x r = some q):anyD x (y::r) = some (p||q):=by
 show (match eqD y x,anyD x r with | some x,some y=>some (x||y) | _,_=>none) = _
 rw [h1,h2]
theorem anyD_all {x:D}:∀ {l:List D} {c:Bool},anyD x l = some c→(∀ (j:Nat) y,l[j]? = some y→∃ q,eqD y x = some q)∧c = l.any (fun y=>(eqD y x).getD false)
 | [],c,e=>⟨fun _ _ e=>by simp at e,(Option.some.inj (show some false = some c from e)).symm⟩
 | y::r,c,e=>by
   refine ze2a2 (anyD_cons e) fun p q e1 e2 e=>?_
   refine za (anyD_all e2) fun h1 h2=>⟨fun j z hz=>?_,?_⟩
   · induction j using Nat.casesOn with
     | zero=>simp at hz;subst hz;exact ⟨p,e1⟩
     | succ j=>exact h1 j z hz
   · rw [← e,h2,List.any_cons,e1];rfl
theorem dep_le:∀ {l:List D} {j:Nat} {y:D},l[j]? = some y→dep y≤depL l
 | [],_,_,e=>by simp at e
 | d::r,0,y,e=>by simp at e;subst e;exact Nat.le_max_left _ _
 | d::r,j + 1,y,e=>Nat.le_trans (dep_le (l:=r) (j:=j) e) (Nat.le_max_right _ _)
theorem has_none {io:HI} {V:List Addr} {h:Heap} {b:D} (x:Has C V io h b .none):b = .none:=by
 induction b using D.casesOn with
 | none=>rfl
 | bool=>injection x
 | int=>refine ze x fun _ e=>?_;injection e
 | str=>refine zae x fun _ _ e=>?_;injection e
 | tup=>refine zae2a3 x fun _ _ _ e _ _ _=>?_;injection e
 | lst=>refine zae2a3 x fun _ _ _ e _ _ _=>?_;injection e
 | dct=>refine zea2 x fun _ e _ _=>?_;injection e
 | hdr=>refine zea x fun _ _ e=>?_;injection e
theorem has_bool {io:HI} {V:List Addr} {h:Heap} {b:D} {p:Bool} (x:Has C V io h b (.bool p)):b = .bool p:=by
 induction b using D.casesOn with
 | none=>injection x
 | bool=>injection x with x;rw [x]
 | int=>refine ze x fun _ e=>?_;injection e
 | str=>refine zae x fun _ _ e=>?_;injection e
 | tup=>refine zae2a3 x fun _ _ _ e _ _ _=>?_;injection e
 | lst=>refine zae2a3 x fun _ _ _ e _ _ _=>?_;injection e
 | dct=>refine zea2 x fun _ e _ _=>?_;injection e
 | hdr=>refine zea x fun _ _ e=>?_;injection e
theorem has_int {io:HI} {V:List Addr} {h:Heap} {b:D} {p:Int} {t:Tok} (x:Has C V io h b (.int p t)):b = .int p:=by
 induction b using D.casesOn with
 | none=>injection x
 | bool=>injection x
 | int=>refine ze x fun _ e=>?_;injection e with e;rw [e]
 | str=>refine zae x fun _ _ e=>?_;injection e
 | tup=>refine zae2a3 x fun _ _ _ e _ _ _=>?_;injection e
 | lst=>refine zae2a3 x fun _ _ _ e _ _ _=>?_;injection e
 | dct=>refine zea2 x fun _ e _ _=>?_;injection e
 | hdr=>refine zea x fun _ _ e=>?_;injection e
theorem has_str {io:HI} {V:List Addr} {h:Heap} {b:D} {p:Str} {t:Tok} (x:Has C V io h b (.str p t)):b = .str p:=by
 induction b using D.casesOn with
 | none=>injection x
 | bool=>injection x
 | int=>refine ze x fun _ e=>?_;injection e
 | str=>refine zae x fun _ _ e=>?_;injection e with e;rw [e]
 | tup=>refine zae2a3 x fun _ _ _ e _ _ _=>?_;injection e
 | lst=>refine zae2a3 x fun _ _ _ e _ _ _=>?_;injection e
 | dct=>refine zea2 x fun _ e _ _=>?_;injection e
 | hdr=>refine zea x fun _ _ e=>?_;injection e
theorem same_opt {α:Type} {x:Option α} {p q:α} (e:x = some p) (e':x = some q):p = q:=Option.some.inj (e.symm.trans e')
theorem tup_eqD {l:List D} {b:D} {c:Bool} (e:eqD b (.tup l) = some c):∃ m,b = .tup m∧eqL m l = some c:=by
 induction b using D.casesOn<;>first | exact no_opt e | exact ⟨_,rfl,e⟩
theorem lst_eqD {l:List D} {b:D} {c:Bool} (e:eqD b (.lst l) = some c):∃ m,b = .lst m∧eqL m l = some c:=by
 induction b using D.casesOn<;>first | exact no_opt e | exact ⟨_,rfl,e⟩
mutual
theorem eqD_cong {V V':List Addr} {io io':HI} {h:Heap}:∀ {a b x:D} {v:Value} {p q:Bool},Has C V io h a v→Has C V' io' h b v→eqD a x = some p→eqD b x = some q→p = q
 | .none,b,x,v,p,q,ha,hb,e,e'=>by
   rw [show v = .none from ha] at hb
   rw [has_none hb] at e';exact same_opt e e'
 | .bool _,b,x,v,p,q,ha,hb,e,e'=>by
   rw [show v = .bool _ from ha] at hb
   rw [has_bool hb] at e';exact same_opt e e'
 | .int _,b,x,v,p,q,ha,hb,e,e'=>by
   refine ze ha fun t ha=>?_
   rw [ha] at hb
   rw [has_int hb] at e';exact same_opt e e'
 | .str _,b,x,v,p,q,ha,hb,e,e'=>by
   refine zae ha fun _ t ha=>?_
   rw [ha] at hb
   rw [has_str hb] at e';exact same_opt e e'
 | .tup l,b,x,v,p,q,ha,hb,e,e'=>by
   refine zea (eqD_tup e) fun m ex e=>?_
   subst ex
   refine zea (tup_eqD e') fun l' eb e'=>?_
   subst eb
   obtain ⟨_,a,vs,e1,_,ht,hs⟩:=Has.tup ha
   obtain ⟨_,a',vs',e1',_,ht',hs'⟩:=Has.tup hb
   rw [e1] at e1'
   injection e1' with e1'
   subst e1'
   cases seq_inj ht ht'
   exact eqL_cong hs hs' e e'
 | .lst l,b,x,v,p,q,ha,hb,e,e'=>by
   refine zea (eqD_lst e) fun m ex e=>?_
   subst ex
   refine zea (lst_eqD e') fun l' eb e'=>?_
   subst eb
   obtain ⟨_,a,vs,e1,_,ht,hs⟩:=Has.lst ha
   obtain ⟨_,a',vs',e1',_,ht',hs'⟩:=Has.lst hb
   rw [e1] at e1'
   injection e1' with e1'
   subst e1'
   cases seq_inj ht ht'
   exact eqL_cong hs hs' e e'
 | .dct _,b,x,v,p,q,ha,hb,e,e'=>nomatch eqV e
 | .hdr _,b,x,v,p,q,ha,hb,e,e'=>nomatch eqV e
theorem eqL_cong {V V':List Addr} {io io':HI} {h:Heap}:∀ {a b x:List D} {vs:List Value} {p q:Bool},HasL C V io h a vs→HasL C V' io' h b vs→eqL a x = some p→eqL b x = some q→p = q
 | [],[],x,_,p,q,ha,hb,e,e'=>same_opt e e'
 | [],_::_,x,_,p,q,ha,hb,e,e'=>by
   refine ze2a hb fun J J h J=>?_;rw [show _ = [] from ha] at h;injection h
 | _::_,[],x,_,p,q,ha,hb,e,e'=>by
   refine ze2a ha fun J J h J=>?_;rw [show _ = [] from hb] at h;injection h
 | a::as,b::bs,[],_,p,q,ha,hb,e,e'=>same_opt (show some false = some p from e) e'
 | a::as,b::bs,x::xs,_,p,q,ha,hb,e,e'=>by
   refine ze2a2 ha fun v r e2q x1 x2=>?_;clear ha;subst e2q
   refine ze2a2 hb fun v' r' e'' y1 y2=>?_;clear hb
   injection e'' with e''1 e''2;subst e''1;subst e''2
   refine ze2a2 (eqL_cons e) fun p1 p2 e1 e2 e=>?_
   refine ze2a2 (eqL_cons e') fun q1 q2 e3 e4 e'=>?_
   rw [← e,← e',eqD_cong x1 y1 e1 e3,eqL_cong x2 y2 e2 e4]
end
open Classical in
theorem any_at {x:D} {l:List D} {c:Bool} {vx:Value} {vs:Array Value} (e:anyD x l = some c) (hx:Has C V io s.heap x vx) (hl:HasL C V io s.heap l vs.toList) (hu:A.units + depL l < cLine) :
   ∃ f:Value→Bool,(∀ y,y∈vs→SeqAt.EqAt A s y vx (f y))∧vs.any f = c∧∀ (j:Nat) d v,l[j]? = some d→vs[j]? = some v→∃ q,eqD d x = some q∧f v = q:=by
 refine za (anyD_all e) fun h1 h2=>?_
 have hlen:=HasL.length C hl
 let f:Value→Bool:=fun v=>decide (∃ d∈l,Has C V io s.heap d v∧eqD d x = some true)
 have key:∀ (j:Nat) d v,l[j]? = some d→vs[j]? = some v→∃ q,eqD d x = some q∧f v = q:=by
   intro j d v hd hv
   refine ze (h1 j d hd) fun q hq=>?_
   refine ⟨q,hq,?_⟩
   refine zea (HasL.get C hl hd) fun v' hv' hdv=>?_
   have:v' = v:=by simpa [hv] using hv'.symm
   subst this
   induction q using Bool.casesOn with
   | true=>exact decide_eq_true ⟨d,List.mem_of_getElem? hd,hdv,hq⟩
   | false =>
     refine decide_eq_false fun ⟨d',_,h3,h4⟩=>?_
     have:=eqD_cong hdv h3 hq h4
     injection this
 refine ⟨f,fun y hy=>?_,?_,key⟩
 · obtain ⟨j,hj,rfl⟩:=Array.mem_iff_getElem.mp hy
   have hjl:l[j]? = some (l[j]'(by simpa [← hlen] using hj)):=by simp
   refine zea (key j _ vs[j] hjl (by simp)) fun q hq hf=>?_
   refine zea (HasL.get C hl hjl) fun v hv hd=>?_
   have:v = vs[j]:=by simpa [hj] using hv.symm
   subst this
   rw [hf]
   exact eqD_at hq hd hx (A:=A) (by have:=dep_le hjl;lia)
 · rw [h2,← Array.any_toList,List.any_eq,List.any_eq]
   rw [Bool.eq_iff_iff]
   simp only [decide_eq_true_eq]
   constructor
   · rintro ⟨v,hv,hf⟩
     obtain ⟨j,hj,rfl⟩:=List.mem_iff_getElem.mp hv
     have hjl:l[j]? = some (l[j]'(by simpa [← hlen] using hj)):=by simp
     have hvj:vs[j]? = some vs.toList[j]:=by rw [← Array.getElem?_toList];exact List.getElem?_eq_getElem hj
     refine zea (key j _ _ hjl hvj) fun q hq hf'=>?_
     exact ⟨_,List.mem_of_getElem? hjl,by rw [hq,← hf',hf];rfl⟩
   · rintro ⟨d,hd,hf⟩
     obtain ⟨j,hj,rfl⟩:=List.mem_iff_getElem.mp hd
     have hjl:l[j]? = some l[j]:=by simp [hj]
     refine zea (HasL.get C hl hjl) fun v hv J=>?_
     refine zea (key j _ v hjl (by simpa using hv)) fun q hq hf'=>?_
     refine ⟨v,List.mem_of_getElem? hv,?_⟩
     rw [hq] at hf;rw [hf'];simpa using hf
theorem if_some_v {α:Type} {c:Prop} [Decidable c] {x:Option α} {r:α} (h:(if c then x else none) = some r):c∧x = some r:=by
 by_cases hc:c
 · rw [if_pos hc] at h;exact ⟨hc,h⟩
 · rw [if_neg hc] at h;exact no_opt h
theorem if_none_v {α:Type} {c:Prop} [Decidable c] {x:Option α} {r:α} (h:(if c then none else x) = some r):¬c∧x = some r:=by
 by_cases hc:c
 · rw [if_pos hc] at h;exact no_opt h
 · rw [if_neg hc] at h;exact ⟨hc,h⟩
theorem iff_none {α:Type} {c:Bool} {x:Option α} {r:α} (h:(if c = true then none else x) = some r):c = false∧x = some r:=by
 induction c using Bool.casesOn with
 | true=>exact no_opt h
 | false=>exact ⟨rfl,h⟩
inductive CmpV:CmpOp→D→D→Bool→Prop
 | eq {a b:D} {c:Bool}:eqD a b = some c→CmpV .Eq a b c
 | ne {a b:D} {c:Bool}:eqD a b = some c→CmpV .NotEq a b (!c)
 | ge (x y:Int):CmpV .GtE (.int x) (.int y) (decide (y≤x))
 | ins (x y:Str):CmpV .In (.str x) (.str y) (Txt.contains y x)
 | int {x:D} {l:List D} {c:Bool}:anyD x l = some c→CmpV .In x (.tup l) c
 | nil {x:D} {l:List D} {c:Bool}:anyD x l = some c→CmpV .NotIn x (.lst l) (!c)
 | isN:CmpV .Is .none .none true
 | isL (l:List D):CmpV .Is (.lst l) .none false
 | isS (x:Str):CmpV .Is (.str x) .none false
noncomputable def cmpE (op:CmpOp) (a b:D):Option Bool :=
 match op,a,b with
 | .Eq,a,b=>eqD a b
 | .NotEq,a,b=>(eqD a b).map (!·)
 | .GtE,.int x,.int y=>some (decide (y≤x))
 | .In,.str x,.str y=>some (Txt.contains y x)
 | .In,x,.tup l=>anyD x l
 | .NotIn,x,.lst l=>(anyD x l).map (!·)
 | .Is,.none,.none=>some true
 | .Is,.lst _,.none=>some false
 | .Is,.str _,.none=>some false
 | _,_,_=>none
theorem cmpD_def {op:CmpOp} {a b:D}:cmpD op a b = if dep a > 20∨dep b > 20 then none else cmpE op a b:=rfl
theorem cmpE_v {op:CmpOp} {a b:D} {c:Bool} (e:cmpE op a b = some c):CmpV op a b c:=by
 induction op using CmpOp.casesOn with
 | Eq=>exact .eq e
 | NotEq =>
   refine zea (Option.map_eq_some_iff.mp (show (eqD a b).map (!·) = some c from e)) fun q h1 h2=>?_
   subst h2
   exact .ne h1
 | GtE=>induction a using D.casesOn<;>first | exact no_opt e | (induction b using D.casesOn<;>first | (cases e;exact .ge _ _) | exact no_opt e)
 | Is=>induction b using D.casesOn<;>first | (induction a using D.casesOn<;>first | (cases e;exact .isN) | (cases e;exact .isL _) | (cases e;exact .isS _) | exact no_opt e) | exact no_opt e
 | In=>induction b using D.casesOn<;>first | (induction a using D.casesOn<;>exact .int e) | (induction a using D.casesOn<;>first | (cases e;exact .ins _ _) | exact no_opt e)
 | NotIn =>
   induction b using D.casesOn with
   | lst l =>
     have e:(anyD a l).map (!·) = some c:=by induction a using D.casesOn<;>exact e
     refine zea (Option.map_eq_some_iff.mp e) fun q h1 h2=>?_
     subst h2
     exact .nil h1
   | _=>induction a using D.casesOn<;>exact no_opt e
 | _=>exact no_opt e
theorem cmpV {op:CmpOp} {a b:D} {c:Bool} (e:cmpD op a b = some c):(dep a≤20∧dep b≤20)∧CmpV op a b c:=by
 rw [cmpD_def] at e
 by_cases hd:dep a > 20∨dep b > 20
 · rw [if_pos hd] at e;injection e
 rw [if_neg hd] at e
 exact ⟨⟨Nat.not_lt.mp fun h=>hd (.inl h),Nat.not_lt.mp fun h=>hd (.inr h)⟩,cmpE_v e⟩
theorem units_in {l:List D} (hd:depL l + 1≤20) (hu:A.units + 40 < cLine):A.in1.units + depL l < cLine:=by
 show A.units + 1 + depL l < cLine
 lia
theorem eqOp_ok {a b:D} {c:Bool} {va vb:Value} (e:eqD a b = some c) (ha:Has C V io s.heap a va) (hb:Has C V io s.heap b vb) (hda:dep a≤20) (hu:A.units + 40 < cLine) :
   wpAny (model C.prog C.w) A (compareOp .Eq va vb) (fun v s'=>v = .bool c∧Keeps s s') E s:=by
 have fin:∀ {c':Bool},c' = c→(Value.bool c' = Value.bool c∧Keeps s s):=fun h=>⟨by rw [h],Keeps.refl⟩
 induction eqV e using EqV.casesOn with
 | nn=>subst ha hb;exact SeqAt.RcAt.none_none _ _ _ _ (fin rfl)
 | ns y=>subst ha;refine zae hb fun J t e2q=>?_;clear hb;subst e2q;exact SeqAt.RcAt.none_str _ _ _ _ _ _ (fin rfl)
 | sn x=>subst hb;refine zae ha fun J t e2q=>?_;clear ha;subst e2q;exact SeqAt.RcAt.str_none _ _ _ _ _ _ (fin rfl)
 | bb x y=>subst ha hb;exact SeqAt.RcAt.bool_bool _ _ _ _ _ _ (fin rfl)
 | ii x y=>refine ze ha fun t e1q=>?_;clear ha;subst e1q;refine ze hb fun u e1q=>?_;clear hb;subst e1q;exact SeqAt.RcAt.int_int _ _ _ _ _ _ _ _ (fin rfl)
 | ss x y=>refine zae ha fun J t e2q=>?_;clear ha;subst e2q;refine zae hb fun J u e2q=>?_;clear hb;subst e2q;exact SeqAt.RcAt.str_str _ _ _ _ _ _ _ _ (fin rfl)
 | @tt l m _ e =>
   refine zae2a3 ha fun J a vs e3q J ht hs=>?_;clear ha;subst e3q
   refine zae2a3 hb fun J a' vs' e3q J ht' hs'=>?_;clear hb;subst e3q
   have hlen:=HasL.length C hs
   have hlen':=HasL.length C hs'
   replace hlen:vs.size = l.length:=hlen
   replace hlen':vs'.size = m.length:=hlen'
   refine SeqAt.RcAt.tuples (e:=eqAtJ l m) ht.isTuple ht'.isTuple (by lia) (eqL_at e hs hs' (units_in hda hu)) _ _ _ _ (fin ?_)
   rw [(eqL_all e).2,← hlen,← hlen'];rfl
 | @ll l m _ e =>
   refine zae2a3 ha fun J a vs e3q J ht hs=>?_;clear ha;subst e3q
   refine zae2a3 hb fun J a' vs' e3q J ht' hs'=>?_;clear hb;subst e3q
   have hlen:=HasL.length C hs
   have hlen':=HasL.length C hs'
   replace hlen:vs.size = l.length:=hlen
   replace hlen':vs'.size = m.length:=hlen'
   by_cases hsz:vs.size = vs'.size
   · refine SeqAt.RcAt.lists (e:=eqAtJ l m) ht.isList ht'.isList hsz (by lia) (eqL_at e hs hs' (units_in hda hu)) _ _ _ _ (fin ?_)
     rw [(eqL_all e).2,← hlen,← hlen',hsz,Nat.min_self,beq_self_eq_true,Bool.and_true];rfl
   · refine SeqAt.RcAt.lists_lengths ht.isList ht'.isList (by simpa using hsz) (by lia) _ _ _ _ (fin ?_)
     have hne:(vs.size==vs'.size) = false:=by simpa using hsz
     rw [(eqL_all e).2,← hlen,← hlen',hne,Bool.and_false]
theorem neOp_ok {a b:D} {c:Bool} {va vb:Value} (e:eqD a b = some c) (ha:Has C V io s.heap a va) (hb:Has C V io s.heap b vb) (hda:dep a≤20) (hu:A.units + 40 < cLine) :
   wpAny (model C.prog C.w) A (compareOp .NotEq va vb) (fun v s'=>v = .bool (!c)∧Keeps s s') E s:=by
 have fin:∀ {c':Bool},c' = c→(Value.bool (!c') = Value.bool (!c)∧Keeps s s):=fun h=>⟨by rw [h],Keeps.refl⟩
 induction eqV e using EqV.casesOn with
 | nn=>subst ha hb;exact SeqAt.RcNeAt.none_none _ _ _ _ (fin rfl)
 | ns y=>subst ha;refine zae hb fun J t e2q=>?_;clear hb;subst e2q;exact SeqAt.RcNeAt.none_str _ _ _ _ _ _ (fin rfl)
 | sn x=>subst hb;refine zae ha fun J t e2q=>?_;clear ha;subst e2q;exact SeqAt.RcNeAt.str_none _ _ _ _ _ _ (fin rfl)
 | bb x y=>subst ha hb;exact SeqAt.RcNeAt.bool_bool _ _ _ _ _ _ (fin rfl)
 | ii x y=>refine ze ha fun t e1q=>?_;clear ha;subst e1q;refine ze hb fun u e1q=>?_;clear hb;subst e1q;exact SeqAt.RcNeAt.int_int _ _ _ _ _ _ _ _ (fin rfl)
 | ss x y=>refine zae ha fun J t e2q=>?_;clear ha;subst e2q;refine zae hb fun J u e2q=>?_;clear hb;subst e2q;exact SeqAt.RcNeAt.str_str _ _ _ _ _ _ _ _ (fin rfl)
 | @tt l m _ e =>
   refine zae2a3 ha fun J a vs e3q J ht hs=>?_;clear ha;subst e3q
   refine zae2a3 hb fun J a' vs' e3q J ht' hs'=>?_;clear hb;subst e3q
   have hlen:=HasL.length C hs
   have hlen':=HasL.length C hs'
   replace hlen:vs.size = l.length:=hlen
   replace hlen':vs'.size = m.length:=hlen'
   refine SeqAt.RcNeAt.tuples (e:=eqAtJ l m) ht.isTuple ht'.isTuple (by lia) (eqL_at e hs hs' (units_in hda hu)) _ _ _ _ (fin ?_)
   rw [(eqL_all e).2,← hlen,← hlen'];rfl
 | @ll l m _ e =>
   refine zae2a3 ha fun J a vs e3q J ht hs=>?_;clear ha;subst e3q
   refine zae2a3 hb fun J a' vs' e3q J ht' hs'=>?_;clear hb;subst e3q
   have hlen:=HasL.length C hs
   have hlen':=HasL.length C hs'
   replace hlen:vs.size = l.length:=hlen
   replace hlen':vs'.size = m.length:=hlen'
   by_cases hsz:vs.size = vs'.size
   · refine SeqAt.RcNeAt.lists (e:=eqAtJ l m) ht.isList ht'.isList hsz (by lia) (eqL_at e hs hs' (units_in hda hu)) _ _ _ _ (fin ?_)
     rw [(eqL_all e).2,← hlen,← hlen',hsz,Nat.min_self,beq_self_eq_true,Bool.and_true];rfl
   · refine SeqAt.RcNeAt.lists_lengths ht.isList ht'.isList (by simpa using hsz) (by lia) _ _ _ _ (fin (c':=false) ?_)
     have hne:(vs.size==vs'.size) = false:=by simpa using hsz
     rw [(eqL_all e).2,← hlen,← hlen',hne,Bool.and_false]
theorem cmpD_ok {op:CmpOp} {a b:D} {c:Bool} {va vb:Value} (e:cmpD op a b = some c) (ha:Has C V io s.heap a va) (hb:Has C V io s.heap b vb) (hu:A.units + 40 < cLine) :
   wpAny (model C.prog C.w) A (compareOp op va vb) (fun v s'=>v = .bool c∧Keeps s s') E s:=by
 refine za (cmpV e) fun e0q hv=>?_;obtain ⟨hda,hdb⟩:=e0q
 clear e
 have fin:∀ {c':Bool},c' = c→(Value.bool c' = Value.bool c∧Keeps s s):=fun h=>⟨by rw [h],Keeps.refl⟩
 induction hv using CmpV.casesOn with
 | eq e=>exact eqOp_ok e ha hb hda hu
 | ne e=>exact neOp_ok e ha hb hda hu
 | ge x y=>refine ze ha fun t e1q=>?_;clear ha;subst e1q;refine ze hb fun u e1q=>?_;clear hb;subst e1q;exact PyProof.Rows.ge_int (fin rfl)
 | ins x y=>refine zae ha fun J t e2q=>?_;clear ha;subst e2q;refine zae hb fun J u e2q=>?_;clear hb;subst e2q;exact P.in_str (fin rfl)
 | int e =>
   refine zae2a3 hb fun J a vs e3q J ht hs=>?_;clear hb;subst e3q
   refine zea2 (any_at (A:=A.in1) e ha hs (units_in hdb hu)) fun f hf hany J=>?_
   exact SeqAt.in_tupleAt f ht.isTuple hf (fin hany)
 | nil e =>
   refine zae2a3 hb fun J a vs e3q J ht hs=>?_;clear hb;subst e3q
   refine zea2 (any_at (A:=A.in1) e ha hs (units_in hdb hu)) fun f hf hany J=>?_
   exact SeqAt.notIn_listAt f ht.isList hf (fin (by rw [hany]))
 | isN=>subst ha hb;exact is_none (fin rfl)
 | isL l=>obtain ⟨_,a,vs,rfl,_⟩:=ha;subst hb;exact is_none (fin rfl)
 | isS x=>refine zae ha fun J t e2q=>?_;clear ha;subst e2q;subst hb;exact is_none (fin rfl)
end
end Mine
end
section
set_option tactic.hygienic false
open PySem
namespace Mine
variable {C:Cst}
section
variable {A:Around} {E:Value→Shared→Prop} {s:Shared} {Z:List Addr} {io:HI}
theorem fresh_notin {g:Sg} (k:Sok C Z io g s):s.heap.objs.size∉VV C io Z:=by
 intro h
 simp only [VV,List.mem_append] at h
 have key:∀ b,(∃ o,s.heap.get? b = some o)→b≠s.heap.objs.size:=fun b ⟨o,e⟩ hb=>Nat.lt_irrefl _ (hb ▸ Heap.lt_size e)
 rcases h with (h | h) | h
 · exact key _ (k.val _ h) rfl
 · exact key _ (k.st.alive C _ h) rfl
 · exact key _ (k.zal _ h) rfl
theorem keepsHas {s':Shared} (k:Keeps s s') {V:List Addr} {d:D} {v:Value} (h:Has C V io s.heap d v):Has C V io s'.heap d v:=by
 refine ze2a k fun h' tk e2q hk=>?_;clear k;subst e2q
 exact Has.mono C (fun a o e ha=>⟨hk a o e,ha⟩) (fun J J e=>e) h
theorem keepsHasL {s':Shared} (k:Keeps s s') {V:List Addr} {d:List D} {v:List Value} (h:HasL C V io s.heap d v):HasL C V io s'.heap d v:=by
 refine ze2a k fun h' tk e2q hk=>?_;clear k;subst e2q
 exact HasL.mono C (fun a o e ha=>⟨hk a o e,ha⟩) (fun J J e=>e) h
theorem has_newList {g:Sg} (k:Sok C Z io g s) {ds:List D} {vs:List Value} (hl:ds.length≤lim) (h:HasL C (VV C io Z) io s.heap ds vs) {n tk:Nat} :
   Keeps s { s with heap:=s.heap.push { cls:=.type "list",data:=.seq vs.toArray n },toks:=tk }∧Has C (VV C io Z) io (s.heap.push { cls:=.type "list",data:=.seq vs.toArray n }) (.lst ds) (.ref s.heap.objs.size):=by
 have kp:Keeps s { s with heap:=s.heap.push { cls:=.type "list",data:=.seq vs.toArray n },toks:=tk }:=Keeps.push
 refine ⟨kp,?_⟩
 exact ⟨hl,_,_,rfl,fresh_notin k,⟨n,Heap.get?_push_size _ rfl⟩,by simpa using keepsHasL kp h⟩
theorem has_newTuple {g:Sg} (k:Sok C Z io g s) {ds:List D} {vs:List Value} (hl:ds.length≤lim) (h:HasL C (VV C io Z) io s.heap ds vs) {n tk:Nat} :
   Keeps s { s with heap:=s.heap.push { cls:=.type "tuple",data:=.seq vs.toArray n },toks:=tk }∧Has C (VV C io Z) io (s.heap.push { cls:=.type "tuple",data:=.seq vs.toArray n }) (.tup ds) (.ref s.heap.objs.size):=by
 have kp:Keeps s { s with heap:=s.heap.push { cls:=.type "tuple",data:=.seq vs.toArray n },toks:=tk }:=Keeps.push
 refine ⟨kp,?_⟩
 exact ⟨hl,_,_,rfl,fresh_notin k,⟨n,Heap.get?_push_size _ rfl⟩,by simpa using keepsHasL kp h⟩
theorem replicate_fold {α:Type} (n:Nat) (l:List α):List.foldl (fun x1 x2=>x1++x2) #[] (List.replicate n l.toArray) = (List.replicate n l).flatten.toArray:=by
 have:∀ (n:Nat) (acc:Array α),List.foldl (fun x1 x2=>x1++x2) acc (List.replicate n l.toArray) = acc++(List.replicate n l).flatten.toArray:=by
   intro n
   induction n with
   | zero=>intro acc;simp
   | succ n ih =>
     intro acc
     rw [List.replicate_succ,List.foldl_cons,ih,List.replicate_succ,List.flatten_cons]
     simp [Array.append_assoc]
 simpa using this n #[]
theorem HasL.flat {V:List Addr} {h:Heap} {ds:List D} {vs:List Value} (x:HasL C V io h ds vs):∀ n:Nat,HasL C V io h (List.replicate n ds).flatten (List.replicate n vs).flatten
 | 0=>by simp [HasL]
 | n + 1=>by simp only [List.replicate_succ,List.flatten_cons];exact HasL.append C x (HasL.flat x n)
theorem flat_len {α:Type} (n:Nat) (l:List α):(List.replicate n l).flatten.length = l.length * n:=by
 induction n with
 | zero=>simp
 | succ n ih=>simp only [List.replicate_succ,List.flatten_cons,List.length_append,ih,Nat.mul_succ];lia
theorem intBits_small {a:Int} (h:a.natAbs < 2 ^ 62):¬ (Builtin.Int.intBits a > shortFactorBits):=by
 unfold Builtin.Int.intBits shortFactorBits
 by_cases h0:a.natAbs = 0
 · have:a = 0:=by lia
   subst this;decide
 · have:=(Nat.log2_lt h0).mpr h
   split<;>lia
inductive BinV:Operator→D→D→D→Prop
 | add (x y:Int):BinV .Add (.int x) (.int y) (.int (x + y))
 | adds (x y:Str) (h:(x++y).length≤lim):BinV .Add (.str x) (.str y) (.str (x++y))
 | sub (x y:Int):BinV .Sub (.int x) (.int y) (.int (x - y))
 | mul (x y:Int) (h:(big x&&big y) = true):BinV .Mult (.int x) (.int y) (.int (x * y))
 | mull (x:List D) (y:Int) (h:0≤y∧x.length * y.toNat≤lim∧y≤lim):BinV .Mult (.lst x) (.int y) (.lst (List.replicate y.toNat x).flatten)
 | mod (x y:Int) (h:0 < y):BinV .Mod (.int x) (.int y) (.int (x % y))
 | div (x y:Int) (h:0 < y∧y < 1000):BinV .FloorDiv (.int x) (.int y) (.int (x / y))
theorem bin_v {op:Operator} {a b d:D} (e:binD op a b = some d):BinV op a b d:=by
 induction op using Operator.casesOn with
 | Add =>
   induction a using D.casesOn with
   | int x=>induction b using D.casesOn with
     | int y=>(injection e with e;subst e);exact .add _ _
     | _=>exact no_opt e
   | str x=>induction b using D.casesOn with
     | str y=>refine za (if_some_v (c:=(x++y).length≤lim) e) fun h e=>?_;(injection e with e;subst e);exact .adds _ _ h
     | _=>exact no_opt e
   | _=>exact no_opt e
 | Sub =>
   induction a using D.casesOn with
   | int x=>induction b using D.casesOn with
     | int y=>(injection e with e;subst e);exact .sub _ _
     | _=>exact no_opt e
   | _=>exact no_opt e
 | Mult =>
   induction a using D.casesOn with
   | int x=>induction b using D.casesOn with
     | int y=>refine za (if_some_v (c:=(big x&&big y) = true) e) fun h e=>?_;(injection e with e;subst e);exact .mul _ _ h
     | _=>exact no_opt e
   | lst x=>induction b using D.casesOn with
     | int y=>refine za (if_some_v (c:=0≤y∧x.length * y.toNat≤lim∧y≤lim) e) fun h e=>?_;(injection e with e;subst e);exact .mull _ _ h
     | _=>exact no_opt e
   | _=>exact no_opt e
 | Mod =>
   induction a using D.casesOn with
   | int x=>induction b using D.casesOn with
     | int y=>refine za (if_some_v (c:=0 < y) e) fun h e=>?_;(injection e with e;subst e);exact .mod _ _ h
     | _=>exact no_opt e
   | _=>exact no_opt e
 | FloorDiv =>
   induction a using D.casesOn with
   | int x=>induction b using D.casesOn with
     | int y=>refine za (if_some_v (c:=0 < y∧y < 1000) e) fun h e=>?_;(injection e with e;subst e);exact .div _ _ h
     | _=>exact no_opt e
   | _=>exact no_opt e
 | _=>exact no_opt e
set_option tactic.hygienic true in
theorem binD_ok {g:Sg} (k:Sok C Z io g s) {op:Operator} {a b d:D} {va vb:Value} (e:binD op a b = some d) (ha:Has C (VV C io Z) io s.heap a va) (hb:Has C (VV C io Z) io s.heap b vb) :
   wpAny (model C.prog C.w) A (binaryOp op va vb) (fun v s'=>Keeps s s'∧Has C (VV C io Z) io s'.heap d v) E s:=by
 have hv:=bin_v e
 clear e
 induction hv using BinV.casesOn
 · -- int + int
   refine ze ha fun t e1q=>?_;clear ha;subst e1q;refine ze hb fun u e1q=>?_;clear hb;subst e1q
   exact PyProof.Rows.add_int ⟨keepsToks _,_,rfl⟩
 · -- str + str
   rename_i x y hl
   refine zae ha fun J t e2q=>?_;clear ha;subst e2q;refine zae hb fun J u e2q=>?_;clear hb;subst e2q
   have hl':x.length + y.length≤lim:=by
     have:(x++y).length = x.length + y.length:=Str.length_append x y
     lia
   exact PyProof.Rows.add_str (fun t' tk=>⟨keepsToks _,hl,_,rfl⟩) (Nat.le_trans hl' lim_le)
 · refine ze ha fun t e1q=>?_;clear ha;subst e1q;refine ze hb fun u e1q=>?_;clear hb;subst e1q
   exact PyProof.Rows.sub_int ⟨keepsToks _,_,rfl⟩
 · rename_i hl
   refine ze ha fun t e1q=>?_;clear ha;subst e1q;refine ze hb fun u e1q=>?_;clear hb;subst e1q
   simp only [big,Bool.and_eq_true,decide_eq_true_eq] at hl
   refine PyProof.Rows.mul_int ⟨keepsToks _,_,rfl⟩ ?_
   unfold IntMulOk
   have:=intBits_small hl.1
   simp [this]
 · rename_i x y hl
   refine zae2a3 ha fun J l vs e3q J e5q hs=>?_;clear ha;subst e3q;obtain ⟨n,ht⟩:=e5q;refine ze hb fun u e1q=>?_;clear hb;subst e1q
   refine za2 hl fun h0 h1 h2=>?_;clear hl
   have hn:=HasL.length C hs
   simp only [Array.length_toList] at hn
   unfold lim at h2
   have hb1:x.length * y.toNat≤sizeLine:=Nat.le_trans h1 lim_le
   refine wpAny_binaryOp_repeat_ref (T:="list") (U:="int") (by decide) ⟨_,ht,rfl⟩ (fun s'=>typeIs_int s' y u) noFill_list_mul F.fills_int_mul F.slot_int_rmul repeat_list F.slot_int_index.lookup
     (call_meets F.slot_int_rmul (typeIs_int s y u) F.entry_int_rmul (F.args_int_rmul_2 _ _) (int___rmul___int_list y u l vs n)
       ⟨ht,rfl,⟨_,ht,rfl⟩,call_meets F.slot_list_mul ⟨_,ht,rfl⟩ F.entry_list_mul (F.args_list_mul_2 _ _)
         (AutoListH.list___mul___list_int_3 l vs n y u (by simp [Builtin.List.listFitsIndex];lia) (by rw [hn];rw [sizeLine_eq] at hb1;lia) (by simp [Builtin.List.listTooLong];rw [hn];lia))
         ⟨ht,?_⟩⟩)
   have:=has_newList k (tk:=s.toks) (n:=0) (ds:=(List.replicate y.toNat x).flatten) (vs:=(List.replicate y.toNat vs.toList).flatten) (by rw [flat_len];exact h1) (HasL.flat hs _)
   have e3:List.foldl (fun x1 x2=>x1++x2) #[] (List.replicate (if vs.isEmpty = true then 0 else y.toNat) vs) = (List.replicate y.toNat vs.toList).flatten.toArray:=by
     by_cases hv:vs.isEmpty = true
     · have:vs = #[]:=by simpa [Array.isEmpty_iff] using hv
       subst this
       simp
     · rw [if_neg hv]
       have:=replicate_fold y.toNat vs.toList
       simpa using this
   rw [e3]
   exact this
 · rename_i x y hl
   refine ze ha fun t e1q=>?_;clear ha;subst e1q;refine ze hb fun u e1q=>?_;clear hb;subst e1q
   refine PyProof.Rows.mod_int' (by lia) ⟨keepsToks _,s.toks,?_⟩
   rw [Int.fmod_eq_emod_of_nonneg _ (by lia)]
 · rename_i x y hl
   refine ze ha fun t e1q=>?_;clear ha;subst e1q;refine ze hb fun u e1q=>?_;clear hb;subst e1q
   refine PyProof.Rows.floordiv_int (by lia) ⟨keepsToks _,s.toks,?_⟩ (.inl (PyProof.noPylong_small (by lia)))
   rw [Int.fdiv_eq_ediv_of_nonneg _ (by lia)]
theorem place_seq {n:Nat} {i:Int} {k:Nat} (e:place n i = some k):seqIndex? i n = some k:=by
 unfold place at e
 unfold seqIndex?
 split at e
 · rename_i h0
   split at e<;>simp only [reduceCtorEq,Option.some.injEq] at e
   subst e
   have:¬ i < 0:=by lia
   simp only [this,if_false]
   rw [if_pos];simp;lia
 · rename_i h0
   split at e<;>simp only [reduceCtorEq,Option.some.injEq] at e
   subst e
   have:i < 0:=by lia
   simp only [this,if_true]
   rw [if_pos];simp;lia
theorem place_lt {n:Nat} {i:Int} {k:Nat} (e:place n i = some k):k < n∧-(n:Int)≤i∧i < n:=by
 unfold place at e
 split at e<;>(split at e<;>simp only [reduceCtorEq,Option.some.injEq] at e)<;>lia
inductive ItemV:D→D→D→Prop
 | sign (x:Str) (i:Int) (k:Nat) (c:Nat) (hk:place x.length i = some k) (hc:x.cps[k]? = some c):ItemV (.str x) (.int i) (.str ⟨#[c]⟩)
 | tup (l:List D) (i:Int) (k:Nat) (d:D) (hk:place l.length i = some k) (hd:l[k]? = some d):ItemV (.tup l) (.int i) d
 | lst (l:List D) (i:Int) (k:Nat) (d:D) (hk:place l.length i = some k) (hd:l[k]? = some d):ItemV (.lst l) (.int i) d
 | dct (l:List (Str × Str)) (x y:Str) (hy:l.lookup x = some y):ItemV (.dct l) (.str x) (.str y)
theorem item_v0 {a i d:D} (e:itemD a i = some d):ItemV a i d:=by
 induction a using D.casesOn with
 | str x=>induction i using D.casesOn with
   | int i =>
     refine zea (Option.bind_eq_some_iff.mp (show (place x.length i).bind (fun k=>(x.cps[k]?).map fun c=>D.str ⟨#[c]⟩) = some d from e)) fun k hk e=>?_
     refine zea (Option.map_eq_some_iff.mp e) fun c hc e2q=>?_;subst e2q
     exact .sign _ _ _ _ hk hc
   | _=>exact no_opt e
 | lst l=>induction i using D.casesOn with
   | int i =>
     refine zea (Option.bind_eq_some_iff.mp (show (place l.length i).bind (fun k=>l[k]?) = some d from e)) fun k hk e=>?_
     exact .lst _ _ _ _ hk e
   | _=>exact no_opt e
 | tup l=>induction i using D.casesOn with
   | int i =>
     refine zea (Option.bind_eq_some_iff.mp (show (place l.length i).bind (fun k=>l[k]?) = some d from e)) fun k hk e=>?_
     exact .tup _ _ _ _ hk e
   | _=>exact no_opt e
 | dct l=>induction i using D.casesOn with
   | str x =>
     refine zea (Option.map_eq_some_iff.mp (show (l.lookup x).map D.str = some d from e)) fun y hy e2q=>?_;subst e2q
     exact .dct _ _ _ hy
   | _=>exact no_opt e
 | _=>exact no_opt e
set_option tactic.hygienic true in
theorem itemD_ok {a i d:D} {va vi:Value} (e:itemD a i = some d) (ha:Has C (VV C io Z) io s.heap a va) (hi:Has C (VV C io Z) io s.heap i vi) :
   wpAny (model C.prog C.w) A (getItem va vi) (fun v s'=>Keeps s s'∧Has C (VV C io Z) io s'.heap d v) E s:=by
 have hv:=item_v0 e
 clear e
 cases hv
 · -- a sign of a text
   rename_i x i k c hk hc
   refine zae ha fun hl t e2q=>?_;clear ha;subst e2q;refine ze hi fun u e1q=>?_;clear hi;subst e1q
   have hp:=place_lt hk
   unfold lim at hl
   refine PyProof.Rows.getItem_str (c:=c) (by simp;lia) (by rw [place_seq hk];exact hc) ⟨keepsToks _,by simp [Str.length,lim],_,rfl⟩
 · rename_i l i k hk hd
   refine zae2a3 ha fun hl a vs e3q J ht hs=>?_;clear ha;subst e3q;refine ze hi fun u e1q=>?_;clear hi;subst e1q
   have hn:=HasL.length C hs
   simp only [Array.length_toList] at hn
   have hp:=place_lt hk
   unfold lim at hl
   refine zea (HasL.get C hs hd) fun v hv hdv=>?_
   refine PyProof.Rows.getItem_tuple ht.isTuple (by lia) (by lia) (by rw [hn];exact place_seq hk) (by simpa using hv) ⟨Keeps.refl,hdv⟩
 · rename_i l i k hk hd
   refine zae2a3 ha fun hl a vs e3q J ht hs=>?_;clear ha;subst e3q;refine ze hi fun u e1q=>?_;clear hi;subst e1q
   have hn:=HasL.length C hs
   simp only [Array.length_toList] at hn
   have hp:=place_lt hk
   unfold lim at hl
   refine zea (HasL.get C hs hd) fun v hv hdv=>?_
   by_cases h0:0≤i
   · refine wpAny_getItem_list ht.isList h0 (by lia) (x:=v) ?_ ⟨Keeps.refl,hdv⟩
     unfold place at hk
     rw [if_pos h0,if_pos (by lia)] at hk
     injection hk with hk;subst hk
     simpa using hv
   · refine wpAny_getItem_list_neg ht.isList (by lia) (by lia) (by lia) (x:=v) ?_ ⟨Keeps.refl,hdv⟩
     unfold place at hk
     rw [if_neg h0,if_pos (by lia)] at hk
     injection hk with hk;subst hk
     rw [hn];simpa using hv
 · rename_i l x y hy
   refine zea2ea ha fun a e1q J f hm hf=>?_;clear ha;subst e1q;refine zae hi fun J u e2q=>?_;clear hi;subst e2q
   refine zae (hf x y hy) fun hyl t ht=>?_
   refine wpAny_getItem_of (knd:=strKind C.prog C.w) (k:=x) ?_ hm ht ⟨keepsToks _,hyl,_,rfl⟩
   simp [strKind,Value.isStrOf]
set_option tactic.hygienic true in
theorem sliceD_ok {g:Sg} (k:Sok C Z io g s) {a d:D} {va:Value} {sl:Addr} {l u st:Option (Int × Tok)} (e:sliceD a (l.map (·.1)) (u.map (·.1)) (st.map (·.1)) = some d) (ha:Has C (VV C io Z) io s.heap a va)
   (hs:s.heap.IsSlice sl l u st):wpAny (model C.prog C.w) A (getItem va (.ref sl)) (fun v s'=>Keeps s s'∧Has C (VV C io Z) io s'.heap d v) E s:=by
 replace e:=if_none_v (show (if _ then none else _) = some d from e)
 have h0:=e.1
 replace e:=e.2
 have part:∀ p:Option (Int × Tok),IsPart (partValue p) (p.map (·.1)):=fun p=>by
   induction p using Option.casesOn with
   | none=>exact .none
   | some q=>exact .int _ _
 induction a using D.casesOn<;>first | exact no_opt e | skip
 · rename_i x
   refine za (if_some_v (show (if _ then some _ else none) = some d from e)) fun hl e=>?_
   injection e with e;subst e
   refine zae ha fun hlx t e2q=>?_;clear ha;subst e2q
   refine wpAny_getItem_str_slice hs (by induction st using Option.casesOn<;>simp_all) (post_val_or_str ⟨Nat.le_trans hl lim_le,fun t' kk=>⟨keepsToks _,hl,t',rfl⟩⟩)
 · rename_i x
   induction l using Option.casesOn with
   | none=>simp at e
   | some l =>
     induction u using Option.casesOn with
     | some u=>simp at e
     | none =>
       induction st using Option.casesOn with
       | some st=>simp at e
       | none =>
         obtain ⟨i,ti⟩:=l
         simp only [Option.map_some,Option.map_none] at e
         split at e<;>simp only [reduceCtorEq,Option.some.injEq] at e
         rename_i hi
         subst e
         obtain ⟨hlx,a,vs,rfl,_,ht,hh⟩:=Has.tup ha
         have hn:=HasL.length C hh
         simp only [Array.length_toList] at hn
         have hsl:s.heap.IsSliceOf sl (.int ((i.toNat:Nat):Int) ti) .none .none:=by
           rw [Int.toNat_of_nonneg (by lia)];exact hs
         refine PyProof.Rows.getItem_tuple_from ht.isTuple hsl (by lia) (by lia) ?_ (by have:=lim_le;lia)
         have hd:HasL C (VV C io Z) io s.heap (x.drop i.toNat) (vs.toList.drop i.toNat):=by
           have key:∀ (n:Nat) (ds:List D) (ws:List Value),HasL C (VV C io Z) io s.heap ds ws→HasL C (VV C io Z) io s.heap (ds.drop n) (ws.drop n):=by
             intro n
             induction n with
             | zero=>intro ds ws h;simpa using h
             | succ n ih =>
               intro ds ws h
               induction ds using List.casesOn with
               | nil=>subst h;simp [HasL]
               | cons d ds=>obtain ⟨v,r,rfl,_,h2⟩:=HasL.cons h;simpa using ih ds r h2
           exact key _ _ _ hh
         exact has_newTuple k (tk:=s.toks) (n:=0) (by rw [List.length_drop];lia) hd
 · rename_i x
   simp only [Option.some.injEq] at e
   subst e
   obtain ⟨hlx,a,vs,rfl,_,ht,hh⟩:=Has.lst ha
   have hn:=HasL.length C hh
   simp only [Array.length_toList] at hn
   have e1:slicePick vs (l.map (·.1)) (u.map (·.1)) (st.map (·.1)) = ((picks x.length (l.map (·.1)) (u.map (·.1)) (st.map (·.1))).filterMap (vs.toList[·]?)).toArray:=by
     rw [← hn]
     unfold slicePick picks
     simp only [Array.getElem?_toList]
     rfl
   refine wpAny_getItem_list_slice ht.isList hs (part l) (part u) (part st) h0 ?_ (by have:=lim_le;lia)
   rw [e1]
   refine has_newList k (tk:=s.toks) (n:=0) ?_ (HasL.picks C hh _)
   have h1:=slicePick_size_le vs (l.map (·.1)) (u.map (·.1)) (st.map (·.1))
   rw [e1,List.size_toArray] at h1
   have h2:=HasL.length C (HasL.picks C hh (picks x.length (l.map (·.1)) (u.map (·.1)) (st.map (·.1))))
   lia
end
end Mine
end
section
set_option tactic.hygienic false
open PySem
namespace Mine
structure RootOk (C:Cst):Prop where
 g:C.H.Ns mainGlobals C.mg
 b:C.H.Ns builtinsNs C.mb
 bi:∀ x:Str,x≠"__name__"→C.mb x = bootBuiltins x
 nolimit:C.H.NoLimit
 nob:∀ x∈(["len","sum","max","min","range","zip","enumerate","str"]:List Str),C.mg x = none
 nob2:∀ x∈(["type","list"]:List Str),C.mg x = none
 vtH:∀ b∈C.vt,C.H.get? b = none
structure EnvOk (C:Cst) (kd:Kd) (Z:List Addr) (io:HI) (env:Env) (ro:Ro) (h:Heap):Prop where
 kdo:∀ x,env.kindOf x = kd x∨(kd x = some .free∧env.kindOf x = some .cell)
 fn:env.scope.kind = .function
 gl:env.globals = mainGlobals
 bi:env.builtins = builtinsNs
 lz:env.locals∈Z
 nsx:∃ m,h.Ns env.locals m∧∀ x d,ro.lookup x = some d→kd x = some .local→∃ v,m x = some v∧Has C (VV C io Z) io h d v
 cel:∀ x d,ro.lookup x = some d→kd x≠some .local→(kd x = some .cell∨kd x = some .free)∧∃ c v,env.cells.lookup x = some c∧h.IsCell c (some v)∧Has C (VV C io Z) io h d v
 all:∀ x,(kd x = some .cell∨kd x = some .free)→∃ c v,env.cells.lookup x = some c∧h.IsCell c v∧c∈Z
 cd:kd ("_split_list":Str) = some .globalImplicit→∃ c P q,(c,P,q)∈C.spc∧env.code = .ref c∧env.qual = q
variable {C:Cst}
theorem Grow.env {kd:Kd} {Z:List Addr} {io io':HI} {g:Sg} {s s':Shared} (x:Grow C io io' s s') (k:Sok C Z io g s) {env:Env} {ro:Ro} (e:EnvOk C kd Z io env ro s.heap):EnvOk C kd Z io' env ro s'.heap where
 kdo:=e.kdo
 fn:=e.fn
 gl:=e.gl
 bi:=e.bi
 lz:=e.lz
 cd:=e.cd
 nsx:=by
   refine zea e.nsx fun m hn hv=>?_
   have hz:=k.zd _ e.lz
   refine ⟨m,hn.at' fun o ho=>x.keep _ o ho hz.1 hz.2.1,fun y d hy hk=>?_⟩
   refine zea (hv y d hy hk) fun v hv1 hv2=>?_
   exact ⟨v,hv1,x.has C hv2⟩
 cel:=fun y d hy hk=>by
   refine zae2a2 (e.cel y d hy hk) fun h1 c v hc e4q hh=>?_;obtain ⟨o,ho,hd⟩:=e4q
   refine ze2a2 (e.all y h1) fun c' v' hc' J hz=>?_
   rw [hc] at hc';(injection hc' with hc';subst hc')
   exact ⟨h1,c,v,hc,⟨o,x.keep _ o ho (k.zd _ hz).1 (k.zd _ hz).2.1,hd⟩,x.has C hh⟩
 all:=fun y hk=>by
   refine ze2a2 (e.all y hk) fun c v hc e3q hz=>?_;obtain ⟨o,ho,hd⟩:=e3q
   exact ⟨c,v,hc,⟨o,x.keep _ o ho (k.zd _ hz).1 (k.zd _ hz).2.1,hd⟩,hz⟩
theorem Keeps.env {kd:Kd} {Z:List Addr} {io:HI} {g:Sg} {s s':Shared} (x:Keeps s s') (k:Sok C Z io g s) {env:Env} {ro:Ro} (e:EnvOk C kd Z io env ro s.heap):EnvOk C kd Z io env ro s'.heap:=(Keeps.grow C x).env k e
noncomputable def CallOk (C:Cst) (lv:Nat) (f:Value) (S:Summ):Prop :=
 ∀ ds g d g',S ds g = some (d,g')→∀ A Z io s vs,AOkC A lv→Sok C Z io g s→HasL C (VV C io Z) io s.heap ds vs →
   wpAny (model C.prog C.w) A (call f vs) (Post C Z io s d g') noE s
noncomputable def NewOk (C:Cst) (lv:Nat) (S:Summ):Prop :=
 ∀ ds g d g',S [.lst ds] g = some (d,g')→∀ A Z io io1 s0 s a vs,AOkC A lv→Grow C io io1 s0 s→Sok C Z io1 g s→s0.heap.get? a = none→s.heap.PlainList a vs→C.H.get? a = none→a∉VV C io1 Z→HasL C (VV C io1 Z) io1 s.heap ds vs.toList→ds.length≤lim →
   wpAny (model C.prog C.w) A (call (.ref C.cls) [.ref a]) (Post C Z io s0 d g') noE s
noncomputable def HdrShape (C:Cst) (h:Heap) (x dx l:Addr):Prop :=
 h.get? x = some (PySem.W.instObj C.cls dx)∧∃ hs tk n,h.get? dx = some (PySem.W.dictOf [⟨hs,.str ("_headers":Str) tk,.ref l⟩] n)
structure MethOk (C:Cst) (m:Str) (a:Addr):Prop where
 get:∀ A E (s:Shared) x dx l,(∀ b o,C.H.get? b = some o→s.heap.get? b = some o)→HdrShape C s.heap x dx l→∀ pl Q,Q (.ref a,[.ref x]) s→wpAny (model C.prog C.w) A (getMethod (.ref x) m pl) Q E s
 sub:m = ("__getitem__":Str)→∀ A E (s:Shared) x dx l,(∀ b o,C.H.get? b = some o→s.heap.get? b = some o)→HdrShape C s.heap x dx l→∀ value slice i Q,(∀ o,subscripted slice false o i = operate [o,i] (getItem o i))→(∀ l u st p,slice≠.Slice l u st p) →
   wpAny (model C.prog C.w) A.in1 (call (.ref a) [.ref x,i]) Q E s→wpAny (model C.prog C.w) A (PyProof.Rows.subscriptTail value slice (.ref x) i) Q E s
 len:m = ("__len__":Str)→∀ A E (s:Shared) x dx l,(∀ b o,C.H.get? b = some o→s.heap.get? b = some o)→HdrShape C s.heap x dx l→∀ Q,
   wpAny (model C.prog C.w) A.in1 (call (.ref a) [.ref x]) (fun v s'=>∃ n t,v = .int n t∧0≤n∧n < 2 ^ 62∧∀ t k,Q (.int n t) { s' with toks:=k }) E s→wpAny (model C.prog C.w) A (call (.builtin "len") [.ref x]) Q E s
 set:m = ("__setitem__":Str)→∀ A E (s:Shared) x dx l,(∀ b o,C.H.get? b = some o→s.heap.get? b = some o)→HdrShape C s.heap x dx l→∀ i v Q,
   wpAny (model C.prog C.w) A (call (.ref a) [.ref x,i,v]) (fun J s'=>Q () s') E s→wpAny (model C.prog C.w) A (setItem (.ref x) i v) Q E s
 del:m = ("__delitem__":Str)→∀ A E (s:Shared) x dx l,(∀ b o,C.H.get? b = some o→s.heap.get? b = some o)→HdrShape C s.heap x dx l→∀ i Q,
   wpAny (model C.prog C.w) A (call (.ref a) [.ref x,i]) (fun J s'=>Q () s') E s→wpAny (model C.prog C.w) A (delItem (.ref x) i) Q E s
structure TblOk (C:Cst) (lv:Nat) (T:Tbl):Prop where
 fn:∀ f S,T.fn f = some S→∃ a o fd,C.mg f = some (.ref a)∧C.H.get? a = some o∧o.data = .func fd∧CallOk C lv (.ref a) S
 mt:∀ m S,T.mt m = some S→∃ a o fd,C.H.get? a = some o∧o.data = .func fd∧CallOk C lv (.ref a) S∧MethOk C m a
 new:∀ S,T.new = some S→C.mg "Headers" = some (.ref C.cls)∧NewOk C lv S ∧
   ∀ h:Heap,(∀ b o,C.H.get? b = some o→h.get? b = some o)→PySem.W.Looks (model C.prog C.w) h (keeperOf (.ref C.cls)) .machine
section
variable {A:Around} {s:Shared} {Z:List Addr} {io:HI} {kd:Kd} {env:Env} {ro:Ro} {g:Sg}
theorem post_pure {d:D} {v:Value} {s':Shared} (k:Sok C Z io g s) (h:Keeps s s'∧Has C (VV C io Z) io s'.heap d v):Post C Z io s d g v s' :=
 ⟨io,Keeps.grow C h.1,Keeps.sok C h.1 k,h.2⟩
theorem Post.after {io':HI} {s' s'':Shared} {d:D} {g':Sg} {v:Value} (x:Grow C io io' s s') (h:Post C Z io' s' d g' v s''):Post C Z io s d g' v s'':=by
 obtain ⟨io'',y,k,hh⟩:=h
 exact ⟨io'',x.trans C y,k,hh⟩
theorem PostB.after {io':HI} {s' s'':Shared} {d:Bool} {g':Sg} {v:Bool} (x:Grow C io io' s s') (h:PostB C Z io' s' d g' v s''):PostB C Z io s d g' v s'':=by
 obtain ⟨e,io'',y,k⟩:=h
 exact ⟨e,io'',x.trans C y,k⟩
theorem kind_global {f:Str} (e:EnvOk C kd Z io env ro s.heap) (h:kd f = some .globalImplicit):env.kindOf f = some .globalImplicit:=by
 rcases e.kdo f with h1 | h1
 · rw [h1,h]
 · rw [h] at h1;cases h1.1
theorem name_ok {x:Str} {pos:Pos} {d:D} (e:EnvOk C kd Z io env ro s.heap) (k:Sok C Z io g s) (hl:ro.lookup x = some d) (h1:(x==("__debug__":Str)) = false) (h2:(x==("__classdict__":Str)) = false) :
   wpAny (model C.prog C.w) A (eval (.Name x pos) env) (Post C Z io s d g) noE s:=by
 refine wpAny_Name ?_ h1
 by_cases hk:kd x = some .local
 · refine zea e.nsx fun m hn hv=>?_
   refine zea (hv x d hl hk) fun v hm hh=>?_
   refine wpAny_loadName_local e.fn ?_ hn hm (post_pure k ⟨Keeps.refl,hh⟩)
   rcases e.kdo x with h | h
   · rw [h,hk]
   · rw [hk] at h;cases h.1
 · refine zae2a2 (e.cel x d hl hk) fun hk' c v hc hcell hh=>?_
   have hpost:Post C Z io s d g v s:=post_pure k ⟨Keeps.refl,hh⟩
   rcases e.kdo x with h | h
   · rcases hk' with hk' | hk'
     · exact wpAny_loadName_cell e.fn (h.trans hk') hc hcell hpost
     · exact wpAny_loadName_free e.fn (h.trans hk') hc hcell hpost h2
   · exact wpAny_loadName_cell e.fn h.2 hc hcell hpost
theorem global_ok {f:Str} {pos:Pos} {v:Value} {Q:Value→Shared→Prop} {E:Value→Shared→Prop} (r:RootOk C) (e:EnvOk C kd Z io env ro s.heap) (k:Sok C Z io g s) (hk:kd f = some .globalImplicit) (hf:C.mg f = some v) (hd:(f==("__debug__":Str)) = false) (h:Q v s) :
   wpAny (model C.prog C.w) A (eval (.Name f pos) env) Q E s :=
 Calls.Name_function_global e.fn (kind_global e hk) (Calls.loadGlobal_global (env:=env) (by rw [e.gl];exact r.g.keeps k.base) hf h) hd
end
end Mine
end
section
set_option tactic.hygienic false
open PySem
namespace Mine
variable {C:Cst}
noncomputable def SoundE (C:Cst) (lv:Nat) (kd:Kd) (ro:Ro) (e:Expr) (g:Sg) (d:D) (g':Sg):Prop :=
 ∀ A env Z io s,AOk A lv→EnvOk C kd Z io env ro s.heap→Sok C Z io g s→wpAny (model C.prog C.w) A (eval e env) (Post C Z io s d g') noE s
noncomputable def SoundT (C:Cst) (lv:Nat) (kd:Kd) (ro:Ro) (e:Expr) (g:Sg) (b:Bool) (g':Sg):Prop :=
 ∀ A env Z io s,AOk A lv→EnvOk C kd Z io env ro s.heap→Sok C Z io g s→wpAny (model C.prog C.w) A (isTrue e env (eval e env)) (PostB C Z io s b g') noE s
noncomputable def EvSound (C:Cst) (lv:Nat) (kd:Kd) (ro:Ro) (ev:Expr→Sg→Option (D × Sg)):Prop:=∀ e g d g',ev e g = some (d,g')→SoundE C lv kd ro e g d g'
noncomputable def TrSound (C:Cst) (lv:Nat) (kd:Kd) (ro:Ro) (tr:Expr→Sg→Option (Bool × Sg)):Prop:=∀ e g b g',tr e g = some (b,g')→SoundT C lv kd ro e g b g'
theorem bindK_some {α β:Type} {x:Option (α × Sg)} {f:α→Sg→Option (β × Sg)} {r:β × Sg} (h:bindK x f = some r):∃ a g,x = some (a,g)∧f a g = some r:=by
 induction x using Option.casesOn with
 | none=>injection h
 | some p=>exact ⟨p.1,p.2,rfl,h⟩
theorem noE_mono {α:Type} {M:Model} {A:Around} {t:Sem α} {Q Q':α→Shared→Prop} {E:Value→Shared→Prop} {s:Shared} (h:wpAny M A t Q noE s) (hQ:∀ a s,Q a s→Q' a s):wpAny M A t Q' E s :=
 wpAny_mono h hQ fun J J x=>x.elim
section
variable {lv:Nat} {A:Around} {s:Shared} {Z:List Addr} {io:HI} {kd:Kd} {env:Env} {ro:Ro} {g:Sg} {ev:Expr→Sg→Option (D × Sg)} {tr:Expr→Sg→Option (Bool × Sg)}
theorem starEach_plain {e:Expr} {rest:List Expr} {env:Env} (h:∀ x p,e≠.Starred x p):starEach (e::rest) env = (false,eval e env)::starEach rest env:=by
 induction e using Expr.casesOn<;>first | rfl | exact absurd rfl (h _ _)
theorem star_list {a:Addr} {vs:Array Value} {Q:List Value→Shared→Prop} {E:Value→Shared→Prop} (T:String) (hT:T = "list"∨T = "tuple") {n:Nat} (ha:s.heap.get? a = some { cls:=.type T,data:=.seq vs n }) (hz:vs.size≤sizeLine)
   (h:∀ s',Keeps s s'→Q vs.toList s'):PySem.W.StarOf (model C.prog C.w) A E (.ref a) Q s:=by
 have hT':s.TypeIs (.ref a) T:=⟨_,ha,rfl⟩
 have z:wpAny (model C.prog C.w) A (collect (.ref a)) Q E s:=wpAny_collect_seq a hT ha rfl rfl (fun h' hk=>h _ ⟨h',s.toks,rfl,hk⟩) hz
 unfold PySem.W.StarOf notIterableAtAll
 rcases hT with rfl | rfl
 · exact wpAny_bind (wpAny_specialOf hT' PySem.F.slot_list_iter.lookup (wpAny_pure ⟨rfl,z⟩))
 · exact wpAny_bind (wpAny_specialOf hT' PySem.F.slot_tuple_iter.lookup (wpAny_pure ⟨rfl,z⟩))
theorem evs_ok (hev:EvSound C lv kd ro ev):∀ (es:List Expr) {g ds g'},evs ev es g = some (ds,g')→∀ {A:Around} {env:Env} {Z io s} {pos:Pos},AOk A lv→EnvOk C kd Z io env ro s.heap→Sok C Z io g s →
   wpAny (model C.prog C.w) A (spliced (backTo pos (starEach es env))) (PostL C Z io s ds g') noE s:=by
 intro es
 induction es with
 | nil =>
   intro g ds g' h A env Z io s pos ha he hk
   injection (show some (([]:List D),g) = some (ds,g') from h) with h
   injection h with e0 e1
   subst e0;subst e1
   exact wpAny_items_nil ⟨io,Grow.refl C,hk,rfl⟩
 | cons e r ih =>
   intro g ds g' h A env Z io s pos ha he hk
   have plain:(∀ x p,e≠.Starred x p)→(evs ev (e::r) g = bindK (ev e g) fun d g=>bindK (evs ev r g) fun ds g=>some (d::ds,g))→wpAny (model C.prog C.w) A (spliced (backTo pos (starEach (e::r) env))) (PostL C Z io s ds g') noE s:=by
     intro hp heq
     rw [heq] at h
     refine ze2a (bindK_some h) fun d g1 h1 h2=>?_
     refine ze2a (bindK_some h2) fun ds' g2 h3 h4=>?_
     apply i2 h4
     refine wpAny_items_cons (noE_mono (hev e g d g1 h1 A env Z io s ha he hk) fun v s1 ⟨io1,x1,k1,hh⟩=>?_) (starEach_plain hp)
     refine noE_mono (ih h3 ha (x1.env hk he) k1) fun vs s2 ⟨io2,x2,k2,hh2⟩=>?_
     exact ⟨io2,x1.trans C x2,k2,by exact ⟨v,vs,rfl,x2.has C hh,hh2⟩⟩
   induction e using Expr.casesOn with
   | Starred e p =>
     refine ze2a (bindK_some h) fun d g1 h1 h2=>?_
     have go:∀ (T:String) (l:List D),T = "list"∨T = "tuple"→(bindK (evs ev r g1) fun ds g=>some (l++ds,g)) = some (ds,g')→(∀ (io1:HI) (s1:Shared) (v:Value),Has C (VV C io1 Z) io1 s1.heap d v→l.length≤lim∧∃ (a:Addr) (vs:Array Value) (n:Nat),v = .ref a∧s1.heap.get? a = some { cls:=.type T,data:=.seq vs n }∧HasL C (VV C io1 Z) io1 s1.heap l vs.toList) →
         wpAny (model C.prog C.w) A (spliced (backTo pos (starEach (.Starred e p::r) env))) (PostL C Z io s ds g') noE s:=by
       intro T l hT h2 hd
       refine ze2a (bindK_some h2) fun ds' g2 h3 h4=>?_
       apply i2 h4
       refine PySem.W.items_star (noE_mono (hev e g d g1 h1 A env Z io s ha he hk) fun v s1 ⟨io1,x1,k1,hh⟩=>?_)
       obtain ⟨hl,a,vs,n,rfl,hget,hs⟩:=hd io1 s1 v hh
       have hn:=HasL.length C hs
       simp only [Array.length_toList] at hn
       refine star_list T hT hget (by have:=lim_le;lia) fun s2 kp=>?_
       have x2:=Keeps.grow C (io:=io1) kp
       refine noE_mono (ih h3 ha (x2.env k1 (x1.env hk he)) (Keeps.sok C kp k1)) fun vs' s3 ⟨io3,x3,k3,hh3⟩=>?_
       exact ⟨io3,(x1.trans C x2).trans C x3,k3,HasL.append C (x3.hasL C (x2.hasL C hs)) hh3⟩
     induction d using D.casesOn with
     | tup l =>
       refine go "tuple" l (.inr rfl) h2 fun io1 s1 v hh=>?_
       obtain ⟨hl,a,vs,rfl,_,⟨n,ht⟩,hs⟩:=Has.tup hh
       exact ⟨hl,a,vs,n,rfl,ht,hs⟩
     | lst l =>
       refine go "list" l (.inl rfl) h2 fun io1 s1 v hh=>?_
       obtain ⟨hl,a,vs,rfl,_,⟨n,ht⟩,hs⟩:=Has.lst hh
       exact ⟨hl,a,vs,n,rfl,ht,hs⟩
     | _=>injection h2
   | _=>exact plain (fun J J=>nofun) rfl
theorem callWith_looks {f:Value} {pos:Pos} {first:List Value} {args:List (Bool × Sem Value)} {Q:Value→Shared→Prop} {E:Value→Shared→Prop} {P:Heap→Prop} (hst:args.any (·.1) = false) (hn:args.length≤30)
   (hk:∀ h,P h→PySem.W.Looks (model C.prog C.w) h (keeperOf f) .machine)
   (h:wpAny (model C.prog C.w) A (evalArgs f true args []) (fun a s₁=>P s₁.heap∧wpAny (model C.prog C.w) A (call f (first++a.pos) a.kw) Q E s₁) E s):wpAny (model C.prog C.w) A (callWith pos f first args []) Q E s:=by
 unfold callWith
 refine wpAny_bind (wpAny_holding (wpAny_mono h (fun a s₁ h₁=>wpAny_bind (wpAny_standAt ?_)) fun J J x=>x))
 have L:=hk _ h₁.1
 generalize hs:(args.any (·.1)||([]:List (Option Str × Sem Value)).any (·.1.isNone)) = st
 rw [hst] at hs
 replace hs:false = st:=hs
 subst hs
 refine wpAny_bind (L.here ?_)
 exact wpAny_bind (wpAny_mono h₁.2 (fun r s₂ hr=>wpAny_bind (wpAny_holding (wpAny_point (wpAny_pure hr)))) fun J J x=>x)
theorem evalArgs_of {f:Value} {es:List Expr} {pos:Pos} {Q:Args→Shared→Prop} {E:Value→Shared→Prop} (h1:firstPlain es = true)
   (h:wpAny (model C.prog C.w) A (spliced (backTo pos (starEach es env))) (fun vs s'=>Q ⟨vs,[]⟩ s') E s):wpAny (model C.prog C.w) A (evalArgs f true (backTo pos (starEach es env)) []) Q E s:=by
 induction es using List.casesOn with
 | nil =>
   unfold evalArgs
   show wpAny (model C.prog C.w) A (spliced [] >>= _) Q E s
   refine wpAny_bind (wpAny_mono h (fun vs s' h'=>?_) fun J J x=>x)
   refine wpAny_holding ?_
   exact wpAny_bind (wpAny_pure (wpAny_bind (wpAny_pure (wpAny_pure h'))))
 | cons e r =>
   have hp:∀ x p,e≠.Starred x p:=plain_ne h1
   rw [starEach_plain hp] at h ⊢
   exact Calls.evalArgs_plain h
end
end Mine
end
section
set_option tactic.hygienic false
open PySem
namespace Mine
variable {C:Cst}
section
variable {lv:Nat} {A:Around} {s:Shared} {Z:List Addr} {io:HI} {kd:Kd} {env:Env} {ro:Ro} {g:Sg} {T:Tbl}
theorem anyStar:∀ (es:List Expr),es.all plainE = true→∀ (pos:Pos) (env:Env),(backTo pos (starEach es env)).any (·.1) = false
 | [],_,_,_=>rfl
 | e::r,h,pos,env=>by
   simp only [List.all_cons,Bool.and_eq_true] at h
   rw [starEach_plain (plain_ne h.1)]
   show (false||(backTo pos (starEach r env)).any (·.1)) = false
   rw [anyStar r h.2 pos env];rfl
theorem allStar:∀ (es:List Expr),es.all plainE = true→∀ (pos:Pos) (env:Env),(backTo pos (starEach es env)).all (fun x=>!x.1) = true
 | [],_,_,_=>rfl
 | e::r,h,pos,env=>by
   simp only [List.all_cons,Bool.and_eq_true] at h
   rw [starEach_plain (plain_ne h.1)]
   show (true&&(backTo pos (starEach r env)).all (fun x=>!x.1)) = true
   rw [allStar r h.2 pos env];rfl
theorem firstPlain_all {es:List Expr} (h:es.all plainE = true):firstPlain es = true:=by
 induction es using List.casesOn with
 | nil=>rfl
 | cons e r=>simp only [List.all_cons,Bool.and_eq_true] at h;exact h.1
theorem builtinE_ok (r:RootOk C) {f:Str} {id:String} (hb:bootBuiltins f = some (.builtin id)) (hm:C.mg f = none) (hn:f≠"__name__") (hd:(f==("__debug__":Str)) = false) {p pos:Pos} {as:List Expr} {ys:List D} {g1 g':Sg} {d:D}
   (hall:as.all plainE = true) (hkd:kd f = some .globalImplicit) (he:EnvOk C kd Z io env ro s.heap) (hk:Sok C Z io g s)
   (hargs:∀ pos,wpAny (model C.prog C.w) A (spliced (backTo pos (starEach as env))) (PostL C Z io s ys g1) noE s)
   (hcall:∀ io1 s1 vs,Sok C Z io1 g1 s1→HasL C (VV C io1 Z) io1 s1.heap ys vs→wpAny (model C.prog C.w) A (call (.builtin id) vs) (Post C Z io1 s1 d g') noE s1) :
   wpAny (model C.prog C.w) A (eval (.Call (.Name f p) as [] pos) env) (Post C Z io s d g') noE s:=by
 refine PyProof.Rows.Call_ ?_ rfl
 refine Calls.Name_function_global he.fn (kind_global he hkd) (Calls.loadGlobal_builtin (env:=env) (by rw [he.gl];exact r.g.keeps hk.base) hm (by rw [he.bi];exact r.b.keeps hk.base) ((r.bi f hn).trans hb) ?_) hd
 refine Calls.callWith_builtin (anyStar as hall _ _) (evalArgs_of (firstPlain_all hall) ?_)
 refine noE_mono (hargs pos) fun vs s1 ⟨io1,x1,k1,hh⟩=>?_
 exact noE_mono (hcall io1 s1 vs k1 hh) fun v s2 h2=>h2.after x1
theorem ints_of {V:List Addr} {h:Heap}:∀ {l:List D} {is:List Int} {vs:List Value},intsOf l = some is→HasL C V io h l vs→∃ xs:List (Int × Tok),vs = xs.map (fun p=>Value.int p.1 p.2)∧xs.map (·.1) = is
 | [],is,vs,e,x=>by
   replace e:=Option.some.inj (show some [] = some is from e)
   replace x:vs = []:=x
   subst e x
   exact ⟨[],rfl,rfl⟩
 | d::r,is,vs,e,x=>by
   induction d using D.casesOn<;>first | exact no_opt e | skip
   refine zea (Option.map_eq_some_iff.mp (show (intsOf r).map (_::·) = some is from e)) fun is' e' e2q=>?_;clear e;subst e2q
   obtain ⟨v,r',rfl,h1,h2⟩:=HasL.cons x
   refine ze (Has.int h1) fun t e1q=>?_;subst e1q
   refine zea (ints_of e' h2) fun xs e1q h3=>?_;subst e1q
   exact ⟨(_,t)::xs,rfl,by rw [List.map_cons,h3]⟩
theorem strs_of {V:List Addr} {h:Heap}:∀ {l:List D} {is:List Str} {vs:List Value},strsOf l = some is→HasL C V io h l vs→∃ xs:List (Str × Tok),vs = strValues xs∧xs.map (·.1) = is
 | [],is,vs,e,x=>by
   replace e:=Option.some.inj (show some [] = some is from e)
   replace x:vs = []:=x
   subst e x
   exact ⟨[],rfl,rfl⟩
 | d::r,is,vs,e,x=>by
   induction d using D.casesOn<;>first | exact no_opt e | skip
   refine zea (Option.map_eq_some_iff.mp (show (strsOf r).map (_::·) = some is from e)) fun is' e' e2q=>?_;clear e;subst e2q
   obtain ⟨v,r',rfl,h1,h2⟩:=HasL.cons x
   refine zae (Has.str h1) fun _ t e2q=>?_;subst e2q
   refine zea (strs_of e' h2) fun xs e1q h3=>?_;subst e1q
   exact ⟨(_,t)::xs,rfl,by rw [List.map_cons,h3]⟩
theorem hasL_strs {V:List Addr} {h:Heap}:∀ (xs:List (Str × Tok)),(∀ p∈xs,p.1.length≤lim)→HasL C V io h (xs.map fun p=>D.str p.1) (strValues xs)
 | [],_=>by simp [HasL,strValues]
 | p::r,hl=>by
   simp only [List.map_cons,HasL,strValues]
   exact ⟨_,_,rfl,by exact ⟨hl p (.head _),_,rfl⟩,hasL_strs r fun q hq=>hl q (.tail _ hq)⟩
theorem hdr_at {io:HI} {g:Sg} (k:Sok C Z io g s) {i:Nat} {t} (h:io[i]? = some t):∃ ps,g[i]? = some ps:=by
 have h1:i < io.length:=(List.getElem?_eq_some_iff.mp h).1
 have h2:i < g.length:=k.st.len ▸ h1
 exact ⟨g[i],by simp [h2]⟩
theorem one_v {ys:List D} {r:D} (h:ys = [r]) {vs:List Value} {V:List Addr} {io:HI} {hp:Heap} (hv:HasL C V io hp ys vs):∃ v,vs = [v]∧Has C V io hp r v:=by
 subst h
 obtain ⟨v,r,rfl,h1,rfl⟩:=HasL.cons hv
 exact ⟨v,rfl,h1⟩
inductive LenV (g:Sg) (r:D × Sg):List D→Prop
 | str (x:Str) (h:some (D.int x.length,g) = some r):LenV g r [.str x]
 | lst (l:List D) (h:some (D.int l.length,g) = some r):LenV g r [.lst l]
 | tup (l:List D) (h:some (D.int l.length,g) = some r):LenV g r [.tup l]
theorem len_v {ys:List D} {g:Sg} {r:D × Sg} (h:lenC ys g = some r):LenV g r ys:=by
 rcases ys with _ | ⟨d,l⟩
 · exact no_opt h
 induction l using List.casesOn with
 | nil=>induction d using D.casesOn<;>first | exact no_opt h | exact .str _ h | exact .lst _ h | exact .tup _ h
 | cons e l=>induction d using D.casesOn<;>exact no_opt h
theorem sum_v {ys:List D} {g:Sg} {r:D × Sg} (h:sumC ys g = some r):∃ l is,ys = [.lst l]∧intsOf l = some is∧r = (.int is.sum,g):=by
 rcases ys with _ | ⟨d,l⟩
 · exact no_opt h
 induction l using List.casesOn with
 | nil =>
   induction d using D.casesOn with
   | lst l =>
     change (intsOf l).map (fun is=>(D.int is.sum,g)) = some r at h
     induction hi:intsOf l using Option.casesOn with
     | none=>rw [hi] at h;exact no_opt h
     | some is=>rw [hi] at h;(injection h with h;subst h);exact ⟨_,_,rfl,hi,rfl⟩
   | _=>exact no_opt h
 | cons e l=>induction d using D.casesOn<;>exact no_opt h
theorem fn_v {S:Option Summ} {ys:List D} {g:Sg} {r:D × Sg} (h:fnC S ys g = some r):∃ s,S = some s∧s ys g = some r:=by
 induction S using Option.casesOn with
 | none=>exact no_opt h
 | some s=>exact ⟨s,rfl,h⟩
set_option tactic.hygienic true in
theorem pcall_len {ys:List D} {d:D} {g':Sg} (h:lenC ys g = some (d,g')) (hk:Sok C Z io g s) {vs:List Value} (hv:HasL C (VV C io Z) io s.heap ys vs) :
   wpAny (model C.prog C.w) A (call (.builtin "len") vs) (Post C Z io s d g') noE s:=by
 have hlm:lim = 1000000:=rfl
 have hl:=len_v h
 clear h
 induction hl using LenV.casesOn<;>rename_i h<;>(apply i2 h)<;>(refine zea (one_v rfl hv) fun v e1q hx=>?_;subst e1q)
 · refine zae (Has.str hx) fun hl t e2q=>?_;subst e2q
   exact P.len_str (by lia) (post_pure hk ⟨keepsToks _,by exact ⟨_,rfl⟩⟩)
 · obtain ⟨hl,a,ws,rfl,_,ht,hs⟩:=Has.lst hx
   have hn:=HasL.length C hs
   simp only [Array.length_toList] at hn
   refine PyProof.Rows.len_list ht.isList (by lia) (post_pure hk ⟨keepsToks _,?_⟩)
   exact ⟨_,by rw [hn]⟩
 · obtain ⟨hl,a,ws,rfl,_,ht,hs⟩:=Has.tup hx
   have hn:=HasL.length C hs
   simp only [Array.length_toList] at hn
   refine PyProof.Rows.len_tuple ht.isTuple (by lia) (post_pure hk ⟨keepsToks _,?_⟩)
   exact ⟨_,by rw [hn]⟩
theorem pcall_sum {ys:List D} {d:D} {g':Sg} (h:sumC ys g = some (d,g')) (ha:AOk A lv) (hk:Sok C Z io g s) {vs:List Value} (hv:HasL C (VV C io Z) io s.heap ys vs) :
   wpAny (model C.prog C.w) A (call (.builtin "sum") vs) (Post C Z io s d g') noE s:=by
 refine ze2a2 (sum_v h) fun l is hy hi e=>?_
 refine za (Prod.mk.inj e) fun e0q e1q=>?_;subst e0q;subst e1q
 refine zea (one_v hy hv) fun v e1q hx=>?_;subst e1q
 obtain ⟨hl,a,ws,rfl,_,ht,hs⟩:=Has.lst hx
 refine zea (ints_of hi hs) fun xs he hxs=>?_
 have hws:ws = intItems xs.toArray:=by
   have e0:ws.toList.toArray = ws:=Array.toArray_toList
   rw [← e0,he];simp [intItems]
 have hl':s.heap.IsList a (intItems xs.toArray):=hws ▸ ht.isList
 refine sum_intListG ha.hh hl' fun h' tk t' hkk=>?_
 refine post_pure hk ⟨⟨h',tk,rfl,hkk⟩,?_⟩
 refine ⟨t',?_⟩
 rw [preSum_eq,List.take_of_length_le (by simp)]
 simp [hxs]
end
end Mine
end
section
set_option tactic.hygienic false
open PySem
set_option maxRecDepth 100000
namespace Mine
variable {C:Cst}
section
variable {lv:Nat} {A:Around} {s:Shared} {Z:List Addr} {io:HI} {kd:Kd} {env:Env} {ro:Ro} {g:Sg} {T:Tbl}
theorem base_notSuper {o:Expr} {m:Str} (h:notSuper o = true) (env:Env) (whole:Sem Value):attributeBase o m env whole = whole:=by
 induction o using Expr.casesOn with
 | Call f as kw pos =>
   induction f using Expr.casesOn with
   | Name id p1 =>
     induction as using List.casesOn with
     | cons _ _=>rfl
     | nil =>
       induction kw using List.casesOn with
       | cons _ _=>rfl
       | nil =>
         show ite ((id != ("super":Str)||_||_||_) = true) _ _ = _
         rw [show (id != ("super":Str)) = true from h]
         exact if_pos rfl
   | _=>rfl
 | _=>rfl
theorem methE_ok {o:Expr} {m:Str} {q p:Pos} {as:List Expr} {x:D} {ys:List D} {g1 g2 g':Sg} {d:D}
   (hns:notSuper o = true) (hline:(q.endLine==p.line) = true) (hlen:as.length < 20) (hall:as.all plainE = true)
   (ho:wpAny (model C.prog C.w) A (eval o env) (Post C Z io s x g1) noE s)
   (hargs:∀ io1 s1 pos,Grow C io io1 s s1→Sok C Z io1 g1 s1→wpAny (model C.prog C.w) A (spliced (backTo pos (starEach as env))) (PostL C Z io1 s1 ys g2) noE s1)
   (f:Value) (hf:(∃ id,f = .builtin id)∨∃ a o fd,f = .ref a∧C.H.get? a = some o∧o.data = .func fd)
   (hget:∀ io1 (s1:Shared) vx,Sok C Z io1 g1 s1→Has C (VV C io1 Z) io1 s1.heap x vx→∀ pl (Q:Value × List Value→Shared→Prop),Q (f,[vx]) s1→wpAny (model C.prog C.w) A (getMethod vx m pl) Q noE s1)
   (hcall:∀ io1 (s1:Shared) vx vs,Sok C Z io1 g2 s1→Has C (VV C io1 Z) io1 s1.heap x vx→HasL C (VV C io1 Z) io1 s1.heap ys vs→wpAny (model C.prog C.w) A (call f (vx::vs)) (Post C Z io1 s1 d g') noE s1) :
   wpAny (model C.prog C.w) A (eval (.Call (.Attribute o m q) as [] p) env) (Post C Z io s d g') noE s:=by
 rw [arm_eval_Call,base_notSuper hns]
 refine wpAny_bind (noE_mono ho fun vx s1 ⟨io1,x1,k1,hh⟩=>?_)
 refine wpAny_bind (wpAny_standAt ?_)
 have hfew:((backTo p (starEach as env)).all (fun x=>!x.1)&&(backToKw p (keywordEach [] env)).all (fun x=>x.1.isSome)
     && decide (as.length + ([]:List Keyword).length + (if ([]:List (Option Str × Sem Value)).isEmpty then 0 else 1) < 30)) = true:=by
   rw [allStar as hall]
   show (true&&decide (as.length + 0 + 0 < 30)) = true
   rw [Bool.true_and,decide_eq_true_eq];lia
 have hform:methodCallForm (as.length + ([]:List Keyword).length) (backTo p (starEach as env)) (backToKw p (keywordEach [] env)) = true:=hfew
 have hpos:methodCallPos true o env q p = pure p:=by unfold methodCallPos;simp [hline]
 unfold methodCall
 rw [hform]
 refine wpAny_bind (wpAny_holding (hget io1 s1 vx k1 hh _ _ ?_))
 refine wpAny_bind (wpAny_of_eq hpos ?_)
 have hargs':wpAny (model C.prog C.w) A (evalArgs f true (backTo p (starEach as env)) []) (fun a s2=>(∃ vs,a = ⟨vs,[]⟩∧PostL C Z io1 s1 ys g2 vs s2)) noE s1 :=
   evalArgs_of (firstPlain_all hall) (noE_mono (hargs io1 s1 p x1 k1) fun vs s2 h2=>⟨vs,rfl,h2⟩)
 show wpAny (model C.prog C.w) A (callWith p f [vx] (backTo p (starEach as env)) []) _ _ s1
 rcases hf with ⟨id,rfl⟩ | ⟨a,o',fd,rfl,hget',hfd⟩
 · refine Calls.callWith_builtin (anyStar as hall _ _) (noE_mono hargs' ?_)
   rintro _ s2 ⟨vs,rfl,io2,x2,k2,hh2⟩
   exact noE_mono (hcall io2 s2 vx vs k2 (x2.has C hh) hh2) fun v s3 h3=>h3.after (x1.trans C x2)
 · refine Calls.callWith_function (o:=o') (fd:=fd) (noE_mono hargs' ?_)
   rintro _ s2 ⟨vs,rfl,io2,x2,k2,hh2⟩
   exact ⟨⟨k2.base _ _ hget',hfd⟩,noE_mono (hcall io2 s2 vx vs k2 (x2.has C hh) hh2) fun v s3 h3=>h3.after (x1.trans C x2)⟩
theorem getStr {m:Str} {id:String} (slot:Slot "str" m id) (hty:typeOf (.builtin id) = pure (.type "method_descriptor")) {x:Str} {t:Tok} {pl:Sem Bool} {Q:Value × List Value→Shared→Prop} {E:Value→Shared→Prop} (h:Q (.builtin id,[.str x t]) s) :
   wpAny (model C.prog C.w) A (getMethod (.str x t) m pl) Q E s :=
 getMethod_builtin (typeIs_str _ _ _) F.plainAttrs_str slot hty (fun J e=>nomatch e) h
inductive StrV (m:Str) (x:Str) (g:Sg) (r:D × Sg):List D→Prop
 | lower (hm:m = "lower") (hok:strOk (Txt.lower x) = true) (hr:r = (.str (Txt.lower x),g)):StrV m x g r []
 | upper (hm:m = "upper") (hok:strOk (Txt.upper x) = true) (hr:r = (.str (Txt.upper x),g)):StrV m x g r []
 | join (l:List D) (ts:List Str) (hm:m = "join") (hts:strsOf l = some ts) (hj:JoinOk x ts = true) (hok:strOk (Txt.join x ts) = true) (hr:r = (.str (Txt.join x ts),g)):StrV m x g r [.lst l]
 | split (y:Str) (hm:m = "split") (hy:(y.length==0) = false) (hlen:(Txt.split x y).length≤lim) (hall:(Txt.split x y).all strOk = true) (hr:r = (.lst ((Txt.split x y).map .str),g)):StrV m x g r [.str y]
 | index (y:Str) (i:Nat) (l:List Nat) (hm:m = "index") (ho:Builtin.Str.occurrences x y 0 x.length 1 = i::l) (hr:r = (.int i,g)):StrV m x g r [.str y]
theorem low_v {x:Str} {g:Sg} {r:D × Sg} (h:lowM x g = some r):strOk x = true∧r = (.str x,g):=by
 refine za (if_some_v h) fun h1 h=>?_
 exact ⟨h1,(Option.some.inj h).symm⟩
theorem join_v {x:Str} {o:Option (List Str)} {g:Sg} {r:D × Sg} (h:joinM x o g = some r):∃ ts,o = some ts∧JoinOk x ts = true∧strOk (Txt.join x ts) = true∧r = (.str (Txt.join x ts),g):=by
 induction o using Option.casesOn with
 | none=>exact no_opt h
 | some ts =>
   refine za (if_some_v (c:=(JoinOk x ts&&strOk (Txt.join x ts)) = true) h) fun h1 h=>?_
   rw [Bool.and_eq_true] at h1
   exact ⟨ts,rfl,h1.1,h1.2,(Option.some.inj h).symm⟩
theorem index_v {l:List Nat} {g:Sg} {r:D × Sg} (h:indexM l g = some r):∃ i t,l = i::t∧r = (.int i,g):=by
 induction l using List.casesOn with
 | nil=>exact no_opt h
 | cons i t=>exact ⟨i,t,rfl,(Option.some.inj h).symm⟩
theorem str_v {m x:Str} {ys:List D} {g:Sg} {r:D × Sg} (h:strM m x ys g = some r):StrV m x g r ys:=by
 induction ys using List.casesOn with
 | nil =>
   change (if (m==("lower":Str)) = true then lowM (Txt.lower x) g else if (m==("upper":Str)) = true then lowM (Txt.upper x) g else none) = some r at h
   by_cases c:(m==("lower":Str)) = true
   · rw [if_pos c] at h
     refine za (low_v h) fun h1 h2=>?_
     exact .lower (eq_of_beq c) h1 h2
   rw [if_neg c] at h
   refine za (if_some_v h) fun c h=>?_
   refine za (low_v h) fun h1 h2=>?_
   exact .upper (eq_of_beq c) h1 h2
 | cons y l =>
   induction l using List.casesOn with
   | cons z l=>induction y using D.casesOn<;>exact no_opt h
   | nil =>
     induction y using D.casesOn with
     | lst l =>
       refine za (if_some_v (c:=(m==("join":Str)) = true) h) fun c h=>?_
       refine zea3 (join_v h) fun ts h1 h2 h3 h4=>?_
       exact .join _ _ (eq_of_beq c) h1 h2 h3 h4
     | str y =>
       change (if (m==("split":Str)) = true then splitStr x y g else if (m==("index":Str)) = true then indexM (Builtin.Str.occurrences x y 0 x.length 1) g else none) = some r at h
       by_cases c:(m==("split":Str)) = true
       · rw [if_pos c] at h
         refine za (iff_none h) fun h1 h=>?_
         refine za (if_some_v h) fun h2 h=>?_
         exact .split _ (eq_of_beq c) h1 h2.1 h2.2 (Option.some.inj h).symm
       rw [if_neg c] at h
       refine za (if_some_v h) fun c h=>?_
       refine ze2a (index_v h) fun i t h1 h2=>?_
       exact .index _ _ _ (eq_of_beq c) h1 h2
     | _=>exact no_opt h
theorem str_arg {y:Str} {Z:List Addr} {io:HI} {s:Shared} {vs:List Value} (hv:HasL C (VV C io Z) io s.heap [.str y] vs):y.length≤lim∧∃ u,vs = [.str y u]:=by
 refine ze2a2 hv fun v r e2q e3q e4q=>?_;clear hv;subst e2q;obtain ⟨hl,u,rfl⟩:=e3q;subst e4q
 exact ⟨hl,u,rfl⟩
theorem pmeth_str {m:Str} {x:Str} {ys:List D} {d:D} {g':Sg} (h:strM m x ys g = some (d,g')) :
   ∃ id,Slot "str" m id∧typeOf (.builtin id) = pure (.type "method_descriptor")∧g' = g ∧
   ∀ A Z io (s:Shared) t vs,AOk A lv→Sok C Z io g s→x.length≤lim→HasL C (VV C io Z) io s.heap ys vs→wpAny (model C.prog C.w) A (call (.builtin id) (.str x t::vs)) (Post C Z io s d g) noE s:=by
 have hlm:lim = 1000000:=rfl
 have hsl:sizeLine = 2 ^ 24:=sizeLine_eq
 have hv:=str_v h
 clear h
 induction hv using StrV.casesOn with
 | lower hm hok hr =>
   subst hm
   refine za (Prod.mk.inj hr.symm) fun e0q e1q=>?_;subst e0q;subst e1q
   simp only [strOk,decide_eq_true_eq] at hok
   refine ⟨_,F.slot_str_lower,by kernel_rfl,rfl,fun A Z io s t vs ha hk hx hv=>?_⟩
   subst hv
   exact SC.lower (by simp only [Builtin.Str.tooLong,decide_eq_false_iff_not];lia) (post_pure hk ⟨keepsToks _,by exact ⟨hok,_,rfl⟩⟩)
 | upper hm hok hr =>
   subst hm
   refine za (Prod.mk.inj hr.symm) fun e0q e1q=>?_;subst e0q;subst e1q
   simp only [strOk,decide_eq_true_eq] at hok
   refine ⟨_,F.slot_str_upper,by kernel_rfl,rfl,fun A Z io s t vs ha hk hx hv=>?_⟩
   subst hv
   exact SC.upper (by simp only [Builtin.Str.tooLong,decide_eq_false_iff_not];lia) (post_pure hk ⟨keepsToks _,by exact ⟨hok,_,rfl⟩⟩)
 | join l ts hm hts hj hok hr =>
   subst hm
   refine za (Prod.mk.inj hr.symm) fun e0q e1q=>?_;subst e0q;subst e1q
   simp only [strOk,decide_eq_true_eq] at hok
   refine ⟨_,F.slot_str_join,by kernel_rfl,rfl,fun A Z io s t vs ha hk hx hv=>?_⟩
   refine ze2a2 hv fun v r e2q e3q e4q=>?_;clear hv;subst e2q;obtain ⟨_,a,ws,rfl,_,ht,hs⟩:=e3q;subst e4q
   refine zea (strs_of hts hs) fun xs he hxs=>?_
   have e0:ws.toList.toArray = ws:=Array.toArray_toList
   have hl':s.heap.IsList a (strValues xs).toArray:=by rw [← he,e0];exact ht.isList
   exact SC.join hl' hxs hj fun t' k=>post_pure hk ⟨keepsToks _,by exact ⟨hok,_,rfl⟩⟩
 | index y i l hm ho hr =>
   subst hm
   refine za (Prod.mk.inj hr.symm) fun e0q e1q=>?_;subst e0q;subst e1q
   refine ⟨_,F.slot_str_index,by kernel_rfl,rfl,fun A Z io s t vs ha hk hx hv=>?_⟩
   refine zae (str_arg hv) fun hyl u e2q=>?_;subst e2q
   exact SC.index ho (post_pure hk ⟨keepsToks _,by exact ⟨_,rfl⟩⟩)
 | split y hm hy' hlen hall hr =>
   subst hm
   refine za (Prod.mk.inj hr.symm) fun e0q e1q=>?_;subst e0q;subst e1q
   refine ⟨_,F.slot_str_split,by kernel_rfl,rfl,fun A Z io s t vs ha hk hx hv=>?_⟩
   refine zae (str_arg hv) fun hyl u e2q=>?_;subst e2q
   have fin:∀ (l:List (Str × Tok)) (k:Nat),l.map (·.1) = Txt.split x y→Post C Z io s (.lst ((Txt.split x y).map .str)) g (.ref s.heap.objs.size) { s with toks:=k,heap:=s.heap.push { cls:=.type "list",data:=.seq (strValues l).toArray } }:=by
     intro l k hl
     have hb:∀ p∈l,p.1.length≤lim:=fun p hp=>by
       have:p.1∈Txt.split x y:=hl ▸ List.mem_map_of_mem hp
       have:=List.all_eq_true.mp hall _ this
       simpa [strOk] using this
     have e1:(Txt.split x y).map D.str = l.map fun p=>D.str p.1:=by rw [← hl,List.map_map];rfl
     rw [e1]
     refine post_pure hk (has_newList hk (n:=0) (tk:=k) ?_ (hasL_strs l hb))
     have:=congrArg List.length hl
     simp only [List.length_map] at this ⊢;lia
   induction h1:(decide (x.length < y.length)||decide (Builtin.Str.strKind x < Builtin.Str.strKind y)) using Bool.casesOn
   · induction hf:(Builtin.Str.occurrences x y 0 x.length (x.length + 1)).isEmpty using Bool.casesOn
     · have hsp:Txt.split x y = Builtin.Str.partsBetween x (Builtin.Str.occurrences x y 0 x.length (x.length + 1)) y.length:=(if_neg (ne_true_of_eq_false h1)).trans (if_neg (ne_true_of_eq_false hf))
       refine call_meets F.slot_str_split (typeIs_str _ _ _) F.entry_str_split (F.args_str_split_2 _ _) (meets_str_split_sep x y t u h1 hy' hf (by lia) (by rw [← hsp];lia)) ?_
       show wants (Post C Z io s _ g) noE _ { s with toks:=_,heap:=s.heap.push { cls:=.type "list",data:=.seq (strsFrom s.toks (Builtin.Str.partsBetween x (Builtin.Str.occurrences x y 0 x.length (x.length + 1)) y.length)).toArray } }
       rw [strsFrom_eq]
       exact fin (numbered s.toks _) _ ((numbered_texts _ _).trans hsp.symm)
     · exact call_meets F.slot_str_split (typeIs_str _ _ _) F.entry_str_split (F.args_str_split_2 _ _) (meets_str_split_not_found x y t u h1 hy' hf)
         (fin [(x,t)] s.toks ((if_neg (ne_true_of_eq_false h1)).trans (if_pos hf)).symm)
   · exact call_meets F.slot_str_split (typeIs_str _ _ _) F.entry_str_split (F.args_str_split_2 _ _) (meets_str_split_cannot_occur x y t u h1)
       (fin [(x,t)] s.toks (if_pos h1).symm)
end
end Mine
end
section
set_option tactic.hygienic false
open PySem
set_option maxRecDepth 100000
namespace Mine
variable {C:Cst}
structure Touch (F:List Addr) (s s':Shared):Prop where
 same:∃ h' tk,s' = { s with heap:=h',toks:=tk }
 keep:∀ b o,s.heap.get? b = some o→b∉F→s'.heap.get? b = some o
 alive:∀ b∈F,(∃ o,s.heap.get? b = some o)→∃ o,s'.heap.get? b = some o
theorem Touch.same_but {a:Addr} {s:Shared} {h':Heap} {tk:Nat} (x:Heap.SameBut a s.heap h') (ha:∃ o,h'.get? a = some o):Touch [a] s { s with heap:=h',toks:=tk } :=
 ⟨⟨h',tk,rfl⟩,fun b o e hb=>by simp only [List.mem_singleton] at hb;exact (x.2 b hb).trans e,fun b hb J=>by simp only [List.mem_singleton] at hb;subst hb;exact ha⟩
section
variable {Z:List Addr} {io io':HI} {g:Sg} {F:List Addr} {s₁ s s':Shared}
theorem Touch.has (x:Touch F s s') (hF:∀ f∈F,f∈Z) {d:D} {v:Value} (h:Has C (VV C io Z) io s.heap d v):Has C (VV C io Z) io s'.heap d v :=
 Has.mono C (fun a o e ha=>⟨x.keep a o e fun hm=>ha (by simp only [VV,List.mem_append];exact .inr (hF a hm)),ha⟩) (fun J J e=>e) h
theorem Touch.hasL (x:Touch F s s') (hF:∀ f∈F,f∈Z) {d:List D} {v:List Value} (h:HasL C (VV C io Z) io s.heap d v):HasL C (VV C io Z) io s'.heap d v :=
 HasL.mono C (fun a o e ha=>⟨x.keep a o e fun hm=>ha (by simp only [VV,List.mem_append];exact .inr (hF a hm)),ha⟩) (fun J J e=>e) h
theorem Touch.sok (x:Touch F s s') (hF:∀ f∈F,f∈Z) (k:Sok C Z io g s):Sok C Z io g s' where
 base:=fun a o e=>x.keep a o (k.base a o e) fun hm=>by
   have:=(k.zd a (hF a hm)).2.2
   rw [e] at this;injection this
 st:=by
   have nadr:∀ b∈adr io,b∉F:=fun b hb hm=>(k.zd b (hF b hm)).2.1 hb
   refine ⟨k.st.len,fun i t ps h1 h2=>?_,k.st.nodup,k.st.below,C.vtKeep _ _ _ _ k.st.vt (fun b hb o e=>x.keep b o e fun hm=>(k.zd b (hF b hm)).1 hb) (fun a o J e J ha=>⟨x.keep a o e fun hm=>ha (by simp only [VV,List.mem_append];exact .inr (hF a hm)),ha⟩)⟩
   have HH:=k.st.at' i t ps h1 h2
   have hm:=mem_adr_of (List.mem_of_getElem? h1)
   refine ⟨x.keep _ _ HH.inst (nadr _ hm.1),?_,?_,HH.len⟩
   · refine ze3 HH.dict fun a b c e=>?_
     exact ⟨a,b,c,x.keep _ _ e (nadr _ hm.2.1)⟩
   · refine zea HH.list fun vs e1q hl=>?_;obtain ⟨n,e⟩:=e1q
     exact ⟨vs,⟨n,x.keep _ _ e (nadr _ hm.2.2)⟩,HasL.mono C (fun a o e ha=>⟨x.keep a o e fun hm=>ha (by simp only [VV,List.mem_append];exact .inr (hF a hm)),ha⟩) (fun J J e=>e) hl⟩
 zal:=fun z hz=>by
   refine ze (k.zal z hz) fun o e=>?_
   by_cases hf:z∈F
   · exact x.alive z hf ⟨o,e⟩
   · exact ⟨o,x.keep z o e hf⟩
 zd:=k.zd
 val:=fun z hz=>by
   refine ze (k.val z hz) fun o e=>?_
   exact ⟨o,x.keep z o e fun hm=>(k.zd z (hF z hm)).1 hz⟩
theorem Grow.touch (x:Grow C io io' s₁ s) (t:Touch F s s') (hf:∀ f∈F,s₁.heap.get? f = none):Grow C io io' s₁ s' where
 same:=by
   refine ze2 x.same fun h1 t1 e1=>?_
   refine ze2 t.same fun h2 t2 e2=>?_
   exact ⟨h2,t2,by rw [e2,e1]⟩
 keep:=fun b o e hv ha=>t.keep b o (x.keep b o e hv ha) fun hm=>by rw [hf b hm] at e;injection e
 alive:=fun b o e=>by
   refine ze (x.alive b o e) fun o' e'=>?_
   by_cases hm:b∈F
   · exact t.alive b hm ⟨o',e'⟩
   · exact ⟨o',t.keep b o' e' hm⟩
 pre:=x.pre
 fresh:=x.fresh
theorem Sok.more (k:Sok C Z io g s) {z:Addr} (hz:s.heap.get? z = none) {s':Shared} (kp:Keeps s s') (ha:∃ o,s'.heap.get? z = some o):Sok C (z::Z) io g s':=by
 have k':=Keeps.sok C kp k
 refine ⟨k'.base,⟨k'.st.len,fun i t ps h1 h2=>?_,k'.st.nodup,k'.st.below,C.vtKeep _ _ _ _ k.st.vt (fun b J o e=>kp.elim fun h' q=>q.elim fun tk q=>q.1 ▸ q.2 b o e) (fun a o J e J ha=>⟨kp.elim fun h' q=>q.elim fun tk q=>q.1 ▸ q.2 a o e,fun hm=>by
   simp only [VV,List.mem_append,List.mem_cons] at hm ha
   rcases hm with hm | rfl | hm
   · exact ha (.inl hm)
   · rw [hz] at e;injection e
   · exact ha (.inr hm)⟩)⟩,fun y hy=>?_,fun y hy=>?_,k'.val⟩
 · have HH:=k.st.at' i t ps h1 h2
   have HH':=k'.st.at' i t ps h1 h2
   refine ⟨HH'.inst,HH'.dict,?_,HH.len⟩
   refine zea HH.list fun vs e1q hl=>?_;obtain ⟨n,e⟩:=e1q
   refine ze2a kp fun h' tk e2q hk=>?_;clear kp;subst e2q
   refine ⟨vs,⟨n,hk _ _ e⟩,HasL.mono C (fun a o e ha=>⟨hk a o e,fun hm=>?_⟩) (fun J J e=>e) hl⟩
   simp only [VV,List.mem_append,List.mem_cons] at hm ha
   rcases hm with hm | rfl | hm
   · exact ha (.inl hm)
   · rw [hz] at e;injection e
   · exact ha (.inr hm)
 · rcases List.mem_cons.mp hy with rfl | hy
   · exact ha
   · exact k'.zal y hy
 · rcases List.mem_cons.mp hy with rfl | hy
   · refine ⟨fun hm=>?_,fun hm=>?_,?_⟩
     · refine ze (k.val _ hm) fun o e=>?_;rw [hz] at e;injection e
     · refine ze (k.st.alive C _ hm) fun o e=>?_;rw [hz] at e;injection e
     · induction e:C.H.get? y using Option.casesOn with
       | none=>rfl
       | some o=>have:=k.base _ _ e;rw [hz] at this;injection this
   · exact k.zd y hy
theorem Sok.more_many {ws:List Addr} (k:Sok C Z io g s) {s':Shared} (kp:Keeps s s') (hw:∀ w∈ws,s.heap.get? w = none∧∃ o,s'.heap.get? w = some o):Sok C (ws++Z) io g s':=by
 induction ws with
 | nil=>exact Keeps.sok C kp k
 | cons w r ih =>
   have k1:=ih fun x hx=>hw x (.tail _ hx)
   refine za (hw w (.head _)) fun h1 h2=>?_
   refine ⟨k1.base,⟨k1.st.len,fun i t ps e1 e2=>?_,k1.st.nodup,k1.st.below,C.vtKeep _ _ _ _ k.st.vt (fun b J o e=>kp.elim fun h' q=>q.elim fun tk q=>q.1 ▸ q.2 b o e) (fun a o J e J ha=>⟨kp.elim fun h' q=>q.elim fun tk q=>q.1 ▸ q.2 a o e,fun hm=>by
     simp only [VV,List.mem_append,List.cons_append,List.mem_cons] at hm ha
     rcases hm with hm | rfl | hm | hm
     · exact ha (.inl hm)
     · rw [h1] at e;injection e
     · rw [(hw a (.tail _ hm)).1] at e;injection e
     · exact ha (.inr hm)⟩)⟩,fun y hy=>?_,fun y hy=>?_,k1.val⟩
   · have HH:=k.st.at' i t ps e1 e2
     have HH':=k1.st.at' i t ps e1 e2
     refine ⟨HH'.inst,HH'.dict,?_,HH.len⟩
     refine zea HH.list fun vs e1q hl=>?_;obtain ⟨n,e⟩:=e1q
     refine ze2a kp fun h' tk e2q hk=>?_;clear kp;subst e2q
     refine ⟨vs,⟨n,hk _ _ e⟩,HasL.mono C (fun a o e ha=>⟨hk a o e,fun hm=>?_⟩) (fun J J e=>e) hl⟩
     simp only [VV,List.mem_append,List.cons_append,List.mem_cons] at hm ha
     rcases hm with hm | rfl | hm | hm
     · exact ha (.inl hm)
     · rw [h1] at e;injection e
     · rw [(hw a (.tail _ hm)).1] at e;injection e
     · exact ha (.inr hm)
   · rcases List.mem_cons.mp hy with rfl | hy
     · exact h2
     · exact k1.zal y hy
   · rcases List.mem_cons.mp hy with rfl | hy
     · refine ⟨fun hm=>?_,fun hm=>?_,?_⟩
       · refine ze (k.val _ hm) fun o e=>?_;rw [h1] at e;injection e
       · refine ze (k.st.alive C _ hm) fun o e=>?_;rw [h1] at e;injection e
       · induction e:C.H.get? y using Option.casesOn with
         | none=>rfl
         | some o=>have:=k.base _ _ e;rw [h1] at this;injection this
     · exact k1.zd y hy
end
noncomputable def PlainIter (h:Heap) (I:Addr):Prop:=∃ n o vs,h.get? I = some o∧o.cls = .type n∧o.data = .fields vs ∧
 (["enumerate","zip","dict_itemiterator","dict_reverseitemiterator","odict_iterator","itertools.zip_longest","itertools.pairwise"]:List String).contains n = false
theorem go_plain {prog:Program} {w:World} {A:Around} {E:Value→Shared→Prop} {s:Shared} {I:Addr} {t:Expr} {v:Value} {Q:Unit→Shared→Prop} (h:PlainIter s.heap I) (hQ:Q () s):wpAny (model prog w) A (letOwnedTupleGo t (.ref I) v) Q E s:=by
 refine ze3a3 h fun n o vs ho hc hd hn=>?_;clear h
 have key:∀ a:Addr,wpAny (model prog w) A (load I >>= fun o=>match o.cls,o.data with
     | .type n,.fields vs=>if (["enumerate","zip","dict_itemiterator","dict_reverseitemiterator","odict_iterator","itertools.zip_longest","itertools.pairwise"].contains n&&vs[0]?==some (rawInt a)) = true then (do rule "for.unpacks-the-owned-tuple";updateField I 0 .none) else pure ()
     | _,_=>pure ()) Q E s:=fun a=>by
   refine wpAny_bind (wpAny_load ho ?_)
   rw [hc,hd]
   dsimp only
   rw [hn,Bool.false_and,if_neg (by decide)]
   exact wpAny_pure hQ
 induction t using Expr.casesOn<;>first | exact wpAny_pure hQ | (induction v using Value.casesOn<;>first | exact wpAny_pure hQ | exact key _)
inductive Src (C:Cst) (A:Around) (X Z:List Addr) (io:HI) (ds:List D) (s₁:Shared) (it:Value) (s₂:Shared):Prop
 | mk (I:Addr) (fp wr:List Addr) (P:Nat→Value→Prop) (StI:Nat→Heap→Prop) (e:it = .ref I) (W:Walks C.prog C.w A I fp wr ds.length P StI) (h0:StI 0 s₂.heap) (k:Keeps s₁ s₂) (hw:∀ b∈wr,s₁.heap.get? b = none∧∃ o,s₂.heap.get? b = some o)
   (hf:∀ b∈fp,b∈wr∨∃ o,s₁.heap.get? b = some o∧b∉VV C io X) (hP:∀ i v,i < ds.length→P i v→∃ d,ds[i]? = some d∧Has C (VV C io Z) io s₁.heap d v) (hl:ds.length≤lim) (ha:∀ i h,StI i h→∀ b∈wr,∃ o,h.get? b = some o)
   (hg:∀ i h,StI i h→PlainIter h I)
noncomputable def cloF (cells:List (Str × Addr)):List (Str × NameKind)→List (Str × Addr)→List (Str × Addr)
 | [],acc=>acc
 | (n,k)::r,acc=>if k==NameKind.free then cloF cells r ((n,(cells.lookup n).getD 0)::acc) else cloF cells r acc
theorem closureFor_ok {scope:Scope} {env:Env} (h:∀ p∈scope.names,p.2 = .free→∃ c,env.cells.lookup p.1 = some c):closureFor scope env = pure (cloF env.cells scope.names []):=by
 unfold closureFor
 have:∀ (l:List (Str × NameKind)) (acc:List (Str × Addr)),(∀ p∈l,p.2 = .free→∃ c,env.cells.lookup p.1 = some c) →
     (forIn l acc fun x r=>match x with
       | (name,kind)=>if (kind==NameKind.free) = true then (do let y ← cellOf env name;pure (ForInStep.yield ((name,y)::r))) else (pure (ForInStep.yield r):Sem _)) = pure (cloF env.cells l acc):=by
   intro l
   induction l with
   | nil=>intro acc _;rfl
   | cons p r ih =>
     intro acc hl
     obtain ⟨n,k⟩:=p
     rw [List.forIn_cons]
     by_cases hk:(k==NameKind.free) = true
     · refine ze (hl (n,k) (.head _) (by simpa using hk)) fun c hc=>?_
       have e1:cellOf env n = pure c:=by unfold cellOf;simp only at hc;rw [hc]
       simp only [hk,if_true,e1]
       have:=ih ((n,c)::acc) fun p hp=>hl p (.tail _ hp)
       simp only [cloF,hk,if_true,hc,Option.getD_some]
       exact this
     · simp only [hk,if_false,cloF]
       exact ih acc fun p hp=>hl p (.tail _ hp)
 have e:=this scope.names [] h
 exact (congrArg (fun t=>t >>= fun cs=>(pure cs:Sem _)) e).trans rfl
theorem cloF_lookup {cells:List (Str × Addr)} {x:Str}:∀ (l:List (Str × NameKind)) (acc:List (Str × Addr)),(l.lookup x = some .free∨(∃ c,acc.lookup x = some c∧cells.lookup x = some c))→(∀ c,acc.lookup x = some c→cells.lookup x = some c)→(∃ c,cells.lookup x = some c)→(cloF cells l acc).lookup x = cells.lookup x
 | [],acc,h,ha,hc=>by
   rcases h with h | ⟨c,h1,h2⟩
   · injection h
   · show acc.lookup x = _;rw [h1,h2]
 | (n,k)::r,acc,h,ha,⟨c,hc⟩=>by
   unfold cloF
   by_cases hk:(k==NameKind.free) = true
   · rw [if_pos hk]
     by_cases hx:(x==n) = true
     · have:x = n:=by simpa using hx
       subst this
       refine cloF_lookup r _ (.inr ⟨c,by simp [List.lookup,hc],hc⟩) ?_ ⟨c,hc⟩
       intro c' h'
       simp [List.lookup,hc] at h';rw [hc,h']
     · have hx':(x==n) = false:=by simpa using hx
       refine cloF_lookup r _ ?_ ?_ ⟨c,hc⟩
       · rcases h with h | ⟨c',h1,h2⟩
         · left;simpa [List.lookup,hx'] using h
         · right;exact ⟨c',by simpa [List.lookup,hx'] using h1,h2⟩
       · intro c' h';exact ha c' (by simpa [List.lookup,hx'] using h')
   · rw [if_neg hk]
     refine cloF_lookup r acc ?_ ha ⟨c,hc⟩
     rcases h with h | h
     · by_cases hx:(x==n) = true
       · simp only [List.lookup,hx,Option.some.injEq] at h;subst h;exact absurd rfl hk
       · have hx':(x==n) = false:=by simpa using hx
         left;simpa [List.lookup,hx'] using h
     · exact .inr h
end Mine
end
section
set_option tactic.hygienic false
open PySem
set_option maxRecDepth 100000
namespace Mine
variable {C:Cst}
section
variable {Z:List Addr} {io io':HI} {g:Sg} {F:List Addr} {s₁ s s':Shared}
theorem Grow.hasF (x:Grow C io io' s₁ s) (hF:∀ f∈F,s₁.heap.get? f = none) {d:D} {v:Value} (h:Has C (VV C io Z) io s₁.heap d v):Has C (VV C io' (F++Z)) io' s.heap d v :=
 Has.mono C (fun a o e ha=>by
   refine za (x.keepAt C e ha) fun h1 h2=>?_
   refine ⟨h1,fun hm=>?_⟩
   simp only [VV,List.mem_append] at hm h2
   rcases hm with hm | hm | hm
   · exact h2 (.inl hm)
   · rw [hF a hm] at e;injection e
   · exact h2 (.inr hm)) x.pre h
theorem Sok.drop (k:Sok C (F++Z) io g s) (same:∃ h' tk,s' = { s with heap:=h',toks:=tk }) (hk:∀ b o,s.heap.get? b = some o→b∉F→s'.heap.get? b = some o) (hd:∀ f∈F,f∉Z):Sok C Z io g s':=by
 have kz:=k.less C (Z':=Z) fun z hz=>List.mem_append_right _ hz
 have kd:∀ f∈F,f∉C.vt∧f∉adr io∧C.H.get? f = none:=fun f hf=>k.zd f (List.mem_append_left _ hf)
 refine ⟨fun a o e=>hk a o (k.base a o e) fun hm=>?_,⟨k.st.len,fun i t ps h1 h2=>?_,k.st.nodup,k.st.below,C.vtKeep _ _ _ _ k.st.vt (fun b hb o e=>hk b o e fun hm=>(kd b hm).1 hb) (fun a o J e J ha=>by
   simp only [VV,List.mem_append,not_or] at ha ⊢
   exact ⟨hk a o e ha.2.1,ha.1,ha.2.2⟩)⟩,fun z hz=>?_,kz.zd,fun z hz=>?_⟩
 · have:=(kd a hm).2.2
   rw [e] at this;injection this
 · have HH:=k.st.at' i t ps h1 h2
   have hm:=mem_adr_of (List.mem_of_getElem? h1)
   have nadr:∀ b∈adr io,b∉F:=fun b hb hm=>(kd b hm).2.1 hb
   refine ⟨hk _ _ HH.inst (nadr _ hm.1),?_,?_,HH.len⟩
   · refine ze3 HH.dict fun a b c e=>?_
     exact ⟨a,b,c,hk _ _ e (nadr _ hm.2.1)⟩
   · refine zea HH.list fun vs e1q hl=>?_;obtain ⟨n,e⟩:=e1q
     refine ⟨vs,⟨n,hk _ _ e (nadr _ hm.2.2)⟩,HasL.mono C (fun a o e ha=>?_) (fun J J e=>e) hl⟩
     simp only [VV,List.mem_append,not_or] at ha ⊢
     exact ⟨hk a o e ha.2.1,ha.1,ha.2.2⟩
 · refine ze (k.zal z (List.mem_append_right _ hz)) fun o e=>?_
   exact ⟨o,hk z o e fun hm=>hd z hm hz⟩
 · refine ze (k.val z hz) fun o e=>?_
   exact ⟨o,hk z o e fun hm=>(kd z hm).1 hz⟩
theorem Has.drop {d:D} {v:Value} (h:Has C (VV C io (F++Z)) io s.heap d v) (hk:∀ b o,s.heap.get? b = some o→b∉F→s'.heap.get? b = some o):Has C (VV C io Z) io s'.heap d v :=
 Has.mono C (fun a o e ha=>by
   simp only [VV,List.mem_append,not_or] at ha ⊢
   exact ⟨hk a o e ha.2.1,ha.1,ha.2.2⟩) (fun J J e=>e) h
theorem HasL.drop {d:List D} {v:List Value} (h:HasL C (VV C io (F++Z)) io s.heap d v) (hk:∀ b o,s.heap.get? b = some o→b∉F→s'.heap.get? b = some o):HasL C (VV C io Z) io s'.heap d v :=
 HasL.mono C (fun a o e ha=>by
   simp only [VV,List.mem_append,not_or] at ha ⊢
   exact ⟨hk a o e ha.2.1,ha.1,ha.2.2⟩) (fun J J e=>e) h
theorem Grow.drop (x:Grow C io io' s₁ s) (same:∃ h' tk,s' = { s with heap:=h',toks:=tk }) (hk:∀ b o,s.heap.get? b = some o→b∉F→s'.heap.get? b = some o) (hf:∀ f∈F,s₁.heap.get? f = none):Grow C io io' s₁ s' where
 same:=by
   refine ze2 x.same fun h1 t1 e1=>?_
   refine ze2 same fun h2 t2 e2=>?_;clear same
   exact ⟨h2,t2,by rw [e2,e1]⟩
 keep:=fun b o e hv ha=>hk b o (x.keep b o e hv ha) fun hm=>by rw [hf b hm] at e;injection e
 alive:=fun b o e=>by
   refine ze (x.alive b o e) fun o' e'=>?_
   exact ⟨o',hk b o' e' fun hm=>by rw [hf b hm] at e;injection e⟩
 pre:=x.pre
 fresh:=x.fresh
end
theorem relabel_lookup {scope:Scope} {env:Env} (y:Str):(relabel scope env).names.lookup y = scope.names.lookup y∨(scope.names.lookup y = some .free∧(relabel scope env).names.lookup y = some .cell):=by
 unfold relabel
 show (scope.names.map _).lookup y = _∨_
 induction scope.names with
 | nil=>left;rfl
 | cons p r ih =>
   obtain ⟨n,k⟩:=p
   simp only [List.map_cons]
   by_cases hy:(y==n) = true
   · by_cases hc:(k==NameKind.free&&env.scope.kind==.function&&env.kindOf n==some .cell) = true
     · right
       rw [if_pos hc]
       simp only [List.lookup,hy]
       simp only [Bool.and_eq_true,beq_iff_eq] at hc
       exact ⟨by rw [hc.1.1],by first | trivial | rfl⟩
     · left
       rw [if_neg hc]
       simp only [List.lookup,hy]
   · have hy':(y==n) = false:=by simpa using hy
     by_cases hc:(k==NameKind.free&&env.scope.kind==.function&&env.kindOf n==some .cell) = true
     · rw [if_pos hc];simp only [List.lookup,hy'];exact ih
     · rw [if_neg hc];simp only [List.lookup,hy'];exact ih
theorem freeIn_lookup {sc:Scope} {x:Str} {d:D}:∀ {ro:Ro},(freeIn sc ro).lookup x = some d→sc.names.lookup x = some .free∧ro.lookup x = some d
 | [],h=>by injection h
 | (y,e)::r,h=>by
   unfold freeIn at h
   simp only [List.filter_cons] at h
   by_cases hy:(sc.names.lookup y==some .free) = true
   · rw [if_pos hy] at h
     by_cases hx:(x==y) = true
     · have:x = y:=by simpa using hx
       subst this
       simp only [List.lookup,beq_self_eq_true,Option.some.injEq] at h
       subst h
       exact ⟨by simpa using hy,by simp [List.lookup]⟩
     · have hx':(x==y) = false:=by simpa using hx
       simp only [List.lookup,hx'] at h
       refine za (freeIn_lookup (sc:=sc) (ro:=r) h) fun h1 h2=>?_
       exact ⟨h1,by simpa [List.lookup,hx'] using h2⟩
   · rw [if_neg hy] at h
     refine za (freeIn_lookup (sc:=sc) (ro:=r) h) fun h1 h2=>?_
     refine ⟨h1,?_⟩
     have hx':(x==y) = false:=by
       induction hq:x==y using Bool.casesOn with
       | false=>rfl
       | true =>
         have:x = y:=by simpa using hq
         subst this
         rw [h1] at hy;exact absurd (by decide) hy
     simpa [List.lookup,hx'] using h2
theorem lookup_app {β:Type} {y:Str} {v:β}:∀ {a r:List (Str × β)},(a++r).lookup y = some v→a.lookup y = some v∨(a.lookup y = none∧r.lookup y = some v)
 | [],r,h=>.inr ⟨rfl,h⟩
 | (z,u)::a,r,h=>by
   by_cases hb:(y==z) = true
   · simp only [List.cons_append,List.lookup,hb] at h ⊢
     exact .inl h
   · have hb':(y==z) = false:=by simpa using hb
     simp only [List.cons_append,List.lookup,hb'] at h ⊢
     exact lookup_app h
theorem env_block {kd:Kd} {Z F:List Addr} {io io':HI} {g:Sg} {env env':Env} {ro:Ro} {scope:Scope} {s₁ s:Shared} {b:List (Str × D)} {m:Str→Option Value} (he:EnvOk C kd Z io env ro s₁.heap) (hk:Sok C Z io g s₁) (x₁:Grow C io io' s₁ s)
   (hF:∀ f∈F,s₁.heap.get? f = none) (hcell:∀ y∈scope.names,y.2≠.cell) (hkind:scope.kind = .function∧¬scope.names.lookup ("_split_list":Str) = some .globalImplicit)
   (hfree:∀ p∈scope.names,p.2 = .free→kd p.1 = some .cell∨kd p.1 = some .free)
   (h1:∀ y,env'.kindOf y = scope.names.lookup y∨(scope.names.lookup y = some .free∧env'.kindOf y = some .cell)) (h2:env'.scope.kind = .function) (h3:env'.globals = env.globals) (h4:env'.builtins = env.builtins) (h5:env'.cells = cloF env.cells scope.names [])
   (hl:env'.locals∈F) (hn:s.heap.Ns env'.locals m) (hb:∀ y d,b.lookup y = some d→scope.names.lookup y = some .local∧∃ v,m y = some v∧Has C (VV C io' (F++Z)) io' s.heap d v) :
   EnvOk C (fun y=>scope.names.lookup y) (F++Z) io' env' (b++freeIn scope ro) s.heap:=by
 have names:∀ {y:Str} {k:NameKind},scope.names.lookup y = some k→(y,k)∈scope.names:=fun {y k} h=>by
   have:∀ l:List (Str × NameKind),l.lookup y = some k→(y,k)∈l:=by
     intro l
     induction l with
     | nil=>intro h;injection h
     | cons p r ih =>
       intro h
       obtain ⟨n,k'⟩:=p
       by_cases hy:(y==n) = true
       · simp only [List.lookup,hy,Option.some.injEq] at h
         have:y = n:=by simpa using hy
         subst this;subst h;exact .head _
       · have hy':(y==n) = false:=by simpa using hy
         simp only [List.lookup,hy'] at h
         exact .tail _ (ih h)
   exact this _ h
 have lk:∀ y,scope.names.lookup y = some .free→∃ c w,env.cells.lookup y = some c∧env'.cells.lookup y = some c∧s₁.heap.IsCell c w∧c∈Z∧s.heap.IsCell c w:=fun y hy=>by
   refine ze2a2 (he.all y (hfree _ (names hy) rfl)) fun c w hc e3q hz=>?_;obtain ⟨o,ho,hd⟩:=e3q
   refine ⟨c,w,hc,?_,⟨o,ho,hd⟩,hz,⟨o,x₁.keep _ o ho (hk.zd _ hz).1 (hk.zd _ hz).2.1,hd⟩⟩
   rw [h5,cloF_lookup _ _ (.inl hy) (fun c h=>by injection h) ⟨c,hc⟩,hc]
 refine ⟨h1,h2,h3.trans he.gl,h4.trans he.bi,List.mem_append_left _ hl,⟨m,hn,fun y d' hy hkd=>?_⟩,fun y d' hy hkd=>?_,fun y hy=>?_,fun h=>absurd h hkind.2⟩
 · rcases lookup_app hy with h | ⟨_,h⟩
   · refine zaea (hb y d' h) fun J v q1 q2=>?_
     exact ⟨v,q1,q2⟩
   · have:=(freeIn_lookup h).1
     rw [hkd] at this;(injection this with this;injection this)
 · rcases lookup_app hy with h | ⟨_,h⟩
   · exact absurd (hb y d' h).1 hkd
   · refine za (freeIn_lookup h) fun hf hr=>?_
     have hkd':=hfree _ (names hf) rfl
     refine zae2a2 (he.cel y d' hr (by rcases hkd' with h | h<;>(simp only at h;rw [h];nofun))) fun J c w hc hcell' hh=>?_
     refine ze2a4 (lk y hf) fun c' w' e1 e2 e3 e4 e5=>?_
     rw [hc] at e1;(injection e1 with e1;subst e1)
     refine zea hcell' fun o ho hd=>?_;clear hcell'
     exact ⟨.inr hf,c,w,e2,⟨o,x₁.keep _ o ho (hk.zd _ e4).1 (hk.zd _ e4).2.1,hd⟩,x₁.hasF hF hh⟩
 · rcases hy with hy | hy
   · exact absurd rfl (hcell _ (names hy))
   · refine ze2a4 (lk y hy) fun c w e1 e2 e3 e4 e5=>?_
     exact ⟨c,w,e2,e5,List.mem_append_right _ e4⟩
end Mine
end
section
set_option tactic.hygienic false
open PySem
set_option maxRecDepth 100000
namespace Mine
variable {C:Cst}
noncomputable def testsOf (ifs:List Expr) (env:Env):Sem Bool:=forIn ifs true fun c r=>if r = true then do let ok ← isTrue c env (eval c env);pure (ForInStep.yield ok) else pure (ForInStep.yield r)
theorem compLoop_gen {prog:Program} {w:World} {A:Around} {s:Shared} {elt target iter:Expr} {ifs:List Expr} {scope:Scope} {pos:Pos} {it acc:Value} {env:Env} {R:Result→Shared→Prop} (I:Nat→Shared→Prop)
   (turn:∀ n s,I n s→wpAny (model prog w) A (pyNext it) (fun r s₁=>match r with
     | none=>R (.ok .next) s₁
     | some v=>wpAny (model prog w) A (letOwnedTupleGo target it v) (fun _ s₀=>wpAny (model prog w) A (assign target env v) (fun _ s₂ =>
         wpAny (model prog w) A (testsOf ifs env) (fun ok s₃ =>
           if ok = true then wpAny (model prog w) A (eval elt env) (fun x s₄ =>
             wpAny (model prog w) A (call (.builtin "list.append") [acc,x]) (fun _ s₅=>∃ m,m < n∧I m s₅) (notedBy (model prog w) A env fun e s'=>R (.error e) s') s₄) (notedBy (model prog w) A env fun e s'=>R (.error e) s') s₃
           else ∃ m,m < n∧I m s₃) (notedBy (model prog w) A env fun e s'=>R (.error e) s') s₂) (notedBy (model prog w) A env fun e s'=>R (.error e) s') s₀) (notedBy (model prog w) A env fun e s'=>R (.error e) s') s₁) (notedBy (model prog w) A env fun e s'=>R (.error e) s') s)
   (n:Nat) (h:I n s):codeAny (model prog w) A (.compLoop (.ListComp elt [⟨target,iter,ifs,0⟩] scope pos) 0 it acc env) R s:=by
 refine codeAny_loop rfl I (fun n s hI=>wpAny_noted ?_) n h
 show wpAny _ A (compTurn (.ListComp elt [⟨target,iter,ifs,0⟩] scope pos) 0 it acc env) _ _ s
 rw [compTurn_list]
 refine wpAny_bind (wpAny_standAt (wpAny_bind (wpAny_mono (turn n s hI) (fun r s₁ h₁=>?_) fun J J h'=>h')))
 match r,h₁ with
 | none,h₁=>exact wpAny_pure h₁
 | some v,h₁ =>
   refine wpAny_bind (wpAny_mono h₁ (fun _ s₀ h₀=>wpAny_bind (wpAny_mono h₀ (fun _ s₂ h₂=>wpAny_bind (wpAny_mono h₂ (fun ok s₃ h₃=>?_) fun J J h'=>h')) fun J J h'=>h')) fun J J h'=>h')
   match ok,h₃ with
   | false,h₃=>exact wpAny_pure ⟨rfl,h₃⟩
   | true,h₃=>exact wpAny_bind (wpAny_bind (wpAny_mono h₃ (fun x s₄ h₄=>wpAny_bind (wpAny_mono h₄ (fun _ s₅ h₅=>wpAny_pure (wpAny_pure ⟨rfl,h₅⟩)) fun J J h'=>h')) fun J J h'=>h'))
theorem tgt_first {e:Expr} {r:List Expr} {k:Nat} {p:Pos} {d:D} {b:List (Str × D)} (h:tgt (.Tuple (e::r) k p) d = some b):∃ x q,e = .Name x q:=by
 induction e using Expr.casesOn<;>first | exact ⟨_,_,rfl⟩ | injection h
theorem tgt_second {x:Str} {q:Pos} {e:Expr} {r:List Expr} {k:Nat} {p:Pos} {d:D} {b:List (Str × D)} (h:tgt (.Tuple (.Name x q::e::r) k p) d = some b):∃ x q,e = .Name x q:=by
 induction e using Expr.casesOn<;>first | exact ⟨_,_,rfl⟩ | injection h
theorem pair_inv {d:D} {x y:Str} {b:List (Str × D)} (h:(match d with | .tup [a,c]=>some [(x,a),(y,c)] | _=>none) = some b):∃ a c,d = .tup [a,c]∧b = [(x,a),(y,c)]:=by
 induction d using D.casesOn with
 | tup l =>
   rcases l with _ | ⟨a,_ | ⟨c,_ | ⟨e,r⟩⟩⟩
   · injection h
   · injection h
   · (injection h with h;subst h);exact ⟨_,_,rfl,rfl⟩
   · injection h
 | _=>injection h
theorem tgt_inv {t:Expr} {d:D} {b:List (Str × D)} (h:tgt t d = some b):(∃ x p,t = .Name x p∧b = [(x,d)])∨∃ x px y py k p d1 d2,t = .Tuple [.Name x px,.Name y py] k p∧(x==y) = false∧d = .tup [d1,d2]∧b = [(x,d1),(y,d2)]:=by
 induction t using Expr.casesOn with
 | Name x p=>(injection h with h;subst h);exact .inl ⟨_,_,rfl,rfl⟩
 | Tuple l k p =>
   induction l using List.casesOn with
   | nil=>injection h
   | cons e r =>
     refine ze2 (tgt_first h) fun x px e2q=>?_;subst e2q
     induction r using List.casesOn with
     | nil=>injection h
     | cons e r =>
       refine ze2 (tgt_second h) fun y py e2q=>?_;subst e2q
       induction r using List.casesOn with
       | cons e r=>injection h
       | nil =>
         change (if (x==y) = true then none else _) = some b at h
         induction hxy:(x==y) using Bool.casesOn with
         | true=>rw [hxy,if_pos rfl] at h;injection h
         | false =>
           rw [hxy,if_neg (by decide)] at h
           refine ze2a (pair_inv h) fun a c h1 h2=>?_
           exact .inr ⟨_,_,_,_,_,_,_,_,rfl,hxy,h1,h2⟩
 | _=>injection h
theorem target_ok {prog:Program} {w:World} {A:Around} {E:Value→Shared→Prop} {s:Shared} {V:List Addr} {io:HI} {cenv:Env} {t:Expr} {ns:List Str} {b:List (Str × D)} {d:D} {v:Value} {m:Str→Option Value} (hh:A.handled = none)
   (hns:namesT t = some ns) (hb:tgt t d = some b) (hloc:∀ y∈ns,cenv.kindOf y = some .local) (hpl:(cenv.scope.kind==.class||(cenv.scope.kind==.module&&cenv.locals != cenv.globals)) = false) (hn:s.heap.Ns cenv.locals m) (hd:Has C V io s.heap d v)
   {Q:Unit→Shared→Prop} (h:∀ h' (tk:Nat) m',h'.Ns cenv.locals m'→(∀ y d',b.lookup y = some d'→y∈ns∧∃ v',m' y = some v'∧Has C V io s.heap d' v')→(∀ c o,c≠cenv.locals→s.heap.get? c = some o→h'.get? c = some o)→Q () { s with heap:=h',toks:=tk }) :
   wpAny (model prog w) A (assign t cenv v) Q E s:=by
 rcases tgt_inv hb with ⟨x,px,rfl,rfl⟩ | ⟨x,px,y,py,k,p,d1,d2,rfl,hxy,rfl,rfl⟩
 · injection hns with hns;subst hns
   refine wpAny_assign_Name (wpAny_storeName_local (hloc x (.head _)) hn (fun h' hn' hs'=>h h' _ _ hn' (fun y d' hy=>?_) fun c o hc e=>hs'.extBut c o hc e) hpl)
   by_cases hyx:(y==x) = true
   · have hyx':y = x:=by simpa using hyx
     subst hyx'
     simp only [List.lookup,hyx,Option.some.injEq] at hy
     subst hy
     exact ⟨.head _,v,by simp,hd⟩
   · have hyx':(y==x) = false:=by simpa using hyx
     simp [List.lookup,hyx'] at hy
 · change (if (x==y) = true then none else some [x,y]) = some ns at hns
   rw [hxy,if_neg (by decide)] at hns
   injection hns with hns;subst hns
   · · refine zae2a3e2a2e2a2 hd fun J a vs e3q J ht v1 r1 e1 q1 v2 r2 e2 q2 e3=>?_;clear hd;subst e3q
       subst e3 e2
       have hvs:vs = #[v1,v2]:=by rw [← Array.toArray_toList (xs:=vs),e1]
       subst hvs
       have hxy':x≠y:=by simpa using hxy
       refine PySem.W.kcp_assign hh ht.isTuple (hloc x (.head _)) (hloc y (.tail _ (.head _))) hpl hn fun h' tk hn' hk=>h h' tk _ hn' (fun z d' hz=>?_) hk
       by_cases hzx:z = x
       · subst hzx
         simp only [List.lookup,beq_self_eq_true,Option.some.injEq] at hz
         subst hz
         exact ⟨.head _,v1,by simp [hxy'],q1⟩
       · have hzx':(z==x) = false:=by simpa using hzx
         by_cases hzy:z = y
         · subst hzy
           simp only [List.lookup,hzx',beq_self_eq_true,Option.some.injEq] at hz
           subst hz
           exact ⟨.tail _ (.head _),v2,by simp,q2⟩
         · have hzy':(z==y) = false:=by simpa using hzy
           simp [List.lookup,hzx',hzy'] at hz
inductive CompInv (C:Cst) (io:HI) (s₁:Shared) (Z1:List Addr) (StI:Nat→Heap→Prop) (D Cc:Addr) (P:List Mine.D→Sg→Option (List Mine.D × Sg)) (ds ys:List Mine.D) (g':Sg) (n:Nat) (s:Shared):Prop
 | mk (io':HI) (gi:Sg) (i:Nat) (mi:Str→Option Value) (done rest:List Mine.D) (vs:Array Value) (hn:n + i = ds.length + 1) (hi:i≤ds.length) (x:Grow C io io' s₁ s) (k:Sok C Z1 io' gi s) (hs:StI i s.heap) (hD:s.heap.PlainList D vs)
   (hL:HasL C (VV C io' Z1) io' s.heap done vs.toList) (hN:s.heap.Ns Cc mi) (hr:P (ds.drop i) gi = some (rest,g')) (hy:ys = done++rest) (hl:done.length≤i)
theorem compK_cons {tr el:Ro→Sg→Option (D × Sg)} {t:Expr} {base:Ro} {d:D} {ds:List D} {g:Sg} {r:List D × Sg} (h:compK tr el t base (d::ds) g = some r) :
   ∃ b,tgt t d = some b∧(bindK (tr (b++base) g) fun ok g=>match ok with | .bool true=>bindK (el (b++base) g) fun y g=>bindK (compK tr el t base ds g) fun ys g=>some (y::ys,g) | .bool false=>compK tr el t base ds g | _=>none) = some r:=by
 replace h:(match tgt t d with | none=>none | some b=>bindK (tr (b++base) g) fun ok g=>match ok with | .bool true=>bindK (el (b++base) g) fun y g=>bindK (compK tr el t base ds g) fun ys g=>some (y::ys,g) | .bool false=>compK tr el t base ds g | _=>none) = some r:=h
 induction hb:tgt t d using Option.casesOn with
 | none=>rw [hb] at h;exact no_opt h
 | some b=>rw [hb] at h;exact ⟨b,rfl,h⟩
theorem comp_loop {lv:Nat} {A:Around} {Z:List Addr} {io:HI} {kd:Kd} {env:Env} {ro:Ro} {g g':Sg} {X:List Addr} {elt iter t:Expr} {ns:List Str} {ifs:List Expr} {scope:Scope} {pos:Pos} {ds ys:List D} {s₁ s₂ s₃:Shared} {itv:Value} {tr el:Ro→Sg→Option (D × Sg)} {D Cc:Addr} {cenv:Env} {m:Str→Option Value} {R:Result→Shared→Prop}
   (ha:AOk A lv) (hk:Sok C Z io g s₁) (he:EnvOk C kd Z io env ro s₁.heap) (src:Src C A X Z io ds s₁ itv s₂)
   (hcell:∀ y∈scope.names,y.2≠.cell) (hkind:scope.kind = .function∧¬scope.names.lookup ("_split_list":Str) = some .globalImplicit) (hns:namesT t = some ns) (hx:∀ x∈ns,scope.names.lookup x = some .local)
   (hfree:∀ p∈scope.names,p.2 = .free→kd p.1 = some .cell∨kd p.1 = some .free)
   (hrun:compK tr el t (freeIn scope ro) ds g = some (ys,g'))
   (htr:∀ ro g b g',tr ro g = some (.bool b,g')→∀ env' Z' io' s,EnvOk C (fun y=>scope.names.lookup y) Z' io' env' ro s.heap→Sok C Z' io' g s→wpAny (model C.prog C.w) A (testsOf ifs env') (PostB C Z' io' s b g') noE s)
   (hel:∀ ro g d g',el ro g = some (d,g')→∀ env' Z' io' s,EnvOk C (fun y=>scope.names.lookup y) Z' io' env' ro s.heap→Sok C Z' io' g s→wpAny (model C.prog C.w) A (eval elt env') (Post C Z' io' s d g') noE s)
   (h1:∀ y,cenv.kindOf y = scope.names.lookup y∨(scope.names.lookup y = some .free∧cenv.kindOf y = some .cell)) (h2:cenv.scope.kind = .function) (h3:cenv.globals = env.globals) (h4:cenv.builtins = env.builtins) (h5:cenv.cells = cloF env.cells scope.names [])
   (h6:cenv.locals = Cc) (hD1:s₁.heap.get? D = none) (hC1:s₁.heap.get? Cc = none) (hD2:s₂.heap.get? D = none) (hC2:s₂.heap.get? Cc = none) (hDC:D≠Cc) (k23:Keeps s₂ s₃) (hD:s₃.heap.PlainList D #[]) (hn:s₃.heap.Ns Cc m)
   (hR:∀ s' io' m',Grow C io io' s₁ s'→Sok C (Cc::Z) io' g' s'→Has C (VV C io' (Cc::Z)) io' s'.heap (.lst ys) (.ref D)→s'.heap.Ns Cc m'→R (.ok .next) s') :
   codeAny (model C.prog C.w) A (.compLoop (.ListComp elt [⟨t,iter,ifs,0⟩] scope pos) 0 itv (.ref D) cenv) R s₃:=by
 obtain ⟨I,fp,wr,P,StI,rfl,W,hst,k12,hwr,hfp,hP,hlen,hal,hgo⟩:=src
 have k13:=Keeps.trans k12 k23
 have hnew:∀ f∈Cc::D::wr,s₁.heap.get? f = none:=fun f hf=>by
   rcases List.mem_cons.mp hf with rfl | hf
   · exact hC1
   · rcases List.mem_cons.mp hf with rfl | hf
     · exact hD1
     · exact (hwr f hf).1
 have hzz:∀ f∈Cc::D::wr,f∉Z:=fun f hf hz=>by
   refine ze (hk.zal f hz) fun o e=>?_
   rw [hnew f hf] at e;injection e
 have wCD:∀ b∈wr,b≠Cc∧b≠D:=fun b hb=>by
   refine ze ((hwr b hb).2) fun o e=>?_
   exact ⟨fun h=>(by rw [h,hC2] at e;injection e),fun h=>(by rw [h,hD2] at e;injection e)⟩
 have k0:Sok C ((Cc::D::wr)++Z) io g s₃:=by
   refine Sok.more_many hk k13 fun w hw=>⟨hnew w hw,?_⟩
   rcases List.mem_cons.mp hw with rfl | hw
   · refine ze3a hn fun o J J e J=>?_;clear hn;exact ⟨o,e⟩
   · rcases List.mem_cons.mp hw with rfl | hw
     · refine ze hD fun n e=>?_;clear hD;exact ⟨_,e⟩
     · refine ze2a k23 fun h' tk e2q hkk=>?_;clear k23;subst e2q
       refine ze ((hwr w hw).2) fun o e=>?_
       exact ⟨o,hkk _ _ e⟩
 have fpOk:∀ {io':HI} {s:Shared},Grow C io io' s₁ s→∀ b∈fp,b∈wr∨∃ o,s₁.heap.get? b = some o∧b≠Cc∧b≠D:=fun J b hb=>by
   rcases hfp b hb with h | ⟨o,e,_⟩
   · exact .inl h
   · exact .inr ⟨o,e,fun h=>(by rw [h,hC1] at e;injection e),fun h=>(by rw [h,hD1] at e;injection e)⟩
 have st0:StI 0 s₃.heap:=by
   refine ze2a k23 fun h' tk e2q hkk=>?_;clear k23;subst e2q
   exact W.frame _ _ _ hst fun b J o e=>hkk b o e
 let Inv:Nat→Shared→Prop:=CompInv C io s₁ ((Cc::D::wr)++Z) StI D Cc (compK tr el t (freeIn scope ro)) ds ys g'
 refine compLoop_gen Inv ?_ (ds.length + 1) ⟨io,g,0,m,[],ys,#[],rfl,Nat.zero_le _,Keeps.grow C k13,k0,st0,hD,by simp [HasL],hn,by simpa using hrun,rfl,Nat.le_refl _⟩
 rintro n s ⟨io',gi,i,mi,done,rest,vs,hni,hi,x₁,ki,sti,hDi,hLi,hni',hrest,hys,hdl⟩
 by_cases hlt:i < ds.length
 · refine W.item i _ _ _ hlt sti fun v hp tkp hPv hstp hkp=>?_
   refine zea (hP i v hlt hPv) fun d hd hdv=>?_
   have hdrop:ds.drop i = d::ds.drop (i + 1):=by
     rw [List.drop_eq_getElem_cons hlt]
     have:ds[i] = d:=by simpa [hlt] using hd
     rw [this]
   have tw:Touch wr s { s with heap:=hp,toks:=tkp }:=⟨⟨hp,tkp,rfl⟩,fun b o e hb=>hkp b o hb e,fun b hb J=>hal _ _ hstp b hb⟩
   have sub_wr:∀ f∈wr,f∈(Cc::D::wr)++Z:=fun f hf=>List.mem_append_left _ (.tail _ (.tail _ hf))
   have x₂:Grow C io io' s₁ { s with heap:=hp,toks:=tkp }:=x₁.touch tw fun f hf=>(hwr f hf).1
   have k2:=tw.sok sub_wr ki
   have L2:=tw.hasL sub_wr hLi
   have D2:Heap.PlainList hp D vs:=hDi.at fun o e=>tw.keep D o e fun hm=>(wCD D hm).2 rfl
   have N2:Heap.Ns hp Cc mi:=hni'.at' fun o e=>tw.keep Cc o e fun hm=>(wCD Cc hm).1 rfl
   have hxk:∀ x∈ns,cenv.kindOf x = some .local:=fun x hxm=>by
     rcases h1 x with h | h
     · rw [h,hx x hxm]
     · rw [hx x hxm] at h;cases h.1
   have hpl:(cenv.scope.kind==.class||(cenv.scope.kind==.module&&cenv.locals != cenv.globals)) = false:=by rw [h2];rfl
   rw [hdrop] at hrest
   refine zea (compK_cons hrest) fun bt hbt hrest=>?_
   refine go_plain (hgo _ _ hstp) ?_
   have hvd0:Has C (VV C io' ((Cc::D::wr)++Z)) io' hp d v:=x₂.hasF hnew hdv
   refine target_ok (s:={ s with heap:=hp,toks:=tkp }) ha.hh hns hbt hxk hpl (h6 ▸ N2) hvd0 fun h3' tk3 m3 hn3 hb3 hk3=>?_
   rw [h6] at hn3 hk3
   have t3:Touch [Cc] { s with heap:=hp,toks:=tkp } { s with heap:=h3',toks:=tk3 }:=⟨⟨h3',tk3,rfl⟩,fun b o e hb=>hk3 b o (by simpa using hb) e,fun b hb J=>by simp only [List.mem_singleton] at hb;subst hb;refine ze3a hn3 fun o J J e J=>?_;clear hn3;exact ⟨o,e⟩⟩
   have sub_C:∀ f∈[Cc],f∈(Cc::D::wr)++Z:=fun f hf=>by simp only [List.mem_singleton] at hf;subst hf;exact .head _
   have x₃:=x₂.touch t3 fun f hf=>by simp only [List.mem_singleton] at hf;subst hf;exact hC1
   have k3:=t3.sok sub_C k2
   have L3:=t3.hasL sub_C L2
   have D3:Heap.PlainList h3' D vs:=D2.at fun o e=>t3.keep D o e (by simp [hDC])
   have st3:StI (i + 1) h3':=W.frame _ _ _ hstp fun b hb o e=>t3.keep b o e (by
     simp only [List.mem_singleton]
     rcases fpOk x₂ b hb with h | ⟨_,_,h,_⟩
     · exact (wCD b h).1
     · exact h)
   have e3:EnvOk C (fun y=>scope.names.lookup y) ((Cc::D::wr)++Z) io' cenv (bt++freeIn scope ro) h3' :=
     env_block (s:={ s with heap:=h3',toks:=tk3 }) he hk x₃ hnew hcell hkind hfree h1 h2 h3 h4 h5 (h6 ▸ .head _) (h6.symm ▸ hn3) fun y d' hy=>by
       refine zaea (hb3 y d' hy) fun q1 v' q2 q3=>?_
       exact ⟨hx y q1,v',q2,t3.has sub_C q3⟩
   refine ze2a (bindK_some hrest) fun ok g1 htr1 hrest=>?_
   have test:∀ b,ok = .bool b→wpAny (model C.prog C.w) A (testsOf ifs cenv) (PostB C ((Cc::D::wr)++Z) io' { s with heap:=h3',toks:=tk3 } b g1) noE { s with heap:=h3',toks:=tk3 }:=fun b hb=>by
     subst hb
     exact htr _ _ _ _ htr1 cenv _ io' _ e3 k3
   have keepD:∀ {io'':HI} {s4:Shared} {h:Heap} {tk:Nat},Grow C io' io'' { s with heap:=h,toks:=tk } s4→Sok C ((Cc::D::wr)++Z) io' g1 { s with heap:=h,toks:=tk }∨Sok C ((Cc::D::wr)++Z) io' gi { s with heap:=h,toks:=tk }→∀ b o,b∈(Cc::D::wr)++Z→h.get? b = some o→s4.heap.get? b = some o:=fun x4 hs b o hb e=>by
     rcases hs with hs | hs<;>exact x4.keep b o e (hs.zd b hb).1 (hs.zd b hb).2.1
   have fpKeep:∀ {io'':HI} {s4:Shared} {h:Heap} {tk:Nat},Grow C io' io'' { s with heap:=h,toks:=tk } s4→Grow C io io' s₁ { s with heap:=h,toks:=tk }→(∀ b∈(Cc::D::wr)++Z,b∉C.vt∧b∉adr io')→∀ b∈fp,∀ o,h.get? b = some o→s4.heap.get? b = some o:=fun x4 x3 hz b hb o e=>by
     rcases hfp b hb with h | ⟨o',e',hv⟩
     · have:=hz b (List.mem_append_left _ (.tail _ (.tail _ h)))
       exact x4.keep b o e this.1 this.2
     · have:=(x3.keepAt C e' hv).2
       simp only [VV,List.mem_append,not_or] at this
       exact x4.keep b o e this.1.1 this.1.2
   have zz:∀ b∈(Cc::D::wr)++Z,b∉C.vt∧b∉adr io':=fun b hb=>⟨(k3.zd b hb).1,(k3.zd b hb).2.1⟩
   cases ok with
   | bool b =>
     refine noE_mono (test b rfl) ?_
     rintro ok' s4 ⟨rfl,io4,x4,k4⟩
     have x14:=x₃.trans C x4
     have D4:s4.heap.PlainList D vs:=D3.at fun o e=>x4.keep D o e (zz D (.tail _ (.head _))).1 (zz D (.tail _ (.head _))).2
     have N4:∃ m4,s4.heap.Ns Cc m4:=⟨_,hn3.at' fun o e=>x4.keep Cc o e (zz Cc (.head _)).1 (zz Cc (.head _)).2⟩
     obtain ⟨m4,N4⟩:=N4
     have st4:StI (i + 1) s4.heap:=W.frame _ _ _ st3 (fpKeep x4 x₃ zz)
     have L4:=x4.hasL C L3
     have e4:=x4.env k3 e3
     induction ok' using Bool.casesOn with
     | false =>
       rw [if_neg (by decide)]
       exact ⟨n - 1,by lia,io4,g1,i + 1,m4,done,rest,vs,by lia,by lia,x14,k4,st4,D4,L4,N4,hrest,hys,by lia⟩
     | true =>
       rw [if_pos rfl]
       refine ze2a (bindK_some hrest) fun y g2 hel1 hrest=>?_
       refine ze2a (bindK_some hrest) fun rest' g3 hrest' hfin=>?_
       simp only [Option.some.injEq,Prod.mk.injEq] at hfin
       obtain ⟨rfl,rfl⟩:=hfin
       refine noE_mono (hel _ _ _ _ hel1 cenv _ io4 s4 e4 k4) ?_
       rintro yv s5 ⟨io5,x5,k5,hy⟩
       have x15:=x14.trans C x5
       have zz4:∀ b∈(Cc::D::wr)++Z,b∉C.vt∧b∉adr io4:=fun b hb=>⟨(k4.zd b hb).1,(k4.zd b hb).2.1⟩
       have D5:s5.heap.PlainList D vs:=D4.at fun o e=>x5.keep D o e (zz4 D (.tail _ (.head _))).1 (zz4 D (.tail _ (.head _))).2
       have N5:=N4.at' fun o e=>x5.keep Cc o e (zz4 Cc (.head _)).1 (zz4 Cc (.head _)).2
       have st5:StI (i + 1) s5.heap:=W.frame _ _ _ st4 fun b hb o e=>by
         rcases hfp b hb with h | ⟨o',e',hv⟩
         · have:=zz4 b (List.mem_append_left _ (.tail _ (.tail _ h)))
           exact x5.keep b o e this.1 this.2
         · have:=(x14.keepAt C e' hv).2
           simp only [VV,List.mem_append,not_or] at this
           exact x5.keep b o e this.1.1 this.1.2
       have L5:=x5.hasL C L4
       have hvn:=HasL.length C L5
       simp only [Array.length_toList] at hvn
       refine wpAny_list_append_plain D5 (fun h6' D6 hs6=>?_) (by have:=lim_le;lia)
       have t6:Touch [D] s5 { s5 with heap:=h6' }:=Touch.same_but hs6 (let ⟨n,e⟩:=D6;⟨_,e⟩)
       have sub_D:∀ f∈[D],f∈(Cc::D::wr)++Z:=fun f hf=>by simp only [List.mem_singleton] at hf;subst hf;exact .tail _ (.head _)
       have x16:=x15.touch t6 fun f hf=>by simp only [List.mem_singleton] at hf;subst hf;exact hD1
       have k6:=t6.sok sub_D k5
       have L6:=t6.hasL sub_D L5
       have y6:=t6.has sub_D hy
       have N6:Heap.Ns h6' Cc m4:=N5.at' fun o e=>t6.keep Cc o e (by simp [Ne.symm hDC])
       have st6:StI (i + 1) h6':=W.frame _ _ _ st5 fun b hb o e=>t6.keep b o e (by
         simp only [List.mem_singleton]
         rcases fpOk x₂ b hb with h | ⟨_,_,_,h⟩
         · exact (wCD b h).2
         · exact h)
       refine ⟨n - 1,by lia,io5,g2,i + 1,m4,done++[y],rest',vs.push yv,by lia,by lia,x16,k6,st6,D6,?_,N6,hrest',by rw [hys];simp,by simp;lia⟩
       rw [Array.toList_push]
       exact HasL.append C L6 (by simp only [HasL];exact ⟨yv,[],rfl,y6,rfl⟩)
   | _=>exact no_opt hrest
 · have hin:i = ds.length:=by lia
   subst hin
   refine W.done _ _ _ sti fun hp tkp hkp=>?_
   have hrest':rest = []∧gi = g':=by
     rw [List.drop_length] at hrest
     injection (show some (([]:List Mine.D),gi) = some (rest,g') from hrest) with hrest
     injection hrest with e1 e2
     exact ⟨e1.symm,e2⟩
   refine za hrest' fun e0q e1q=>?_;clear hrest';subst e0q;subst e1q
   rw [List.append_nil] at hys
   subst hys
   have hsame:∃ h' tk,({ s with heap:=hp,toks:=tkp }:Shared) = { s with heap:=h',toks:=tk }:=⟨hp,tkp,rfl⟩
   have kDrop:∀ b o,s.heap.get? b = some o→b∉D::wr→hp.get? b = some o:=fun b o e hb=>hkp b o (fun hm=>hb (.tail _ hm)) e
   have ki':Sok C ((D::wr)++(Cc::Z)) io' gi s:=ki.less C fun z hz=>by
     simp only [List.mem_append,List.mem_cons] at hz ⊢;rcases hz with (h | h) | h | h<;>simp [h]
   have hdd:∀ f∈D::wr,f∉Cc::Z:=fun f hf hm=>by
     rcases List.mem_cons.mp hm with rfl | hm
     · rcases List.mem_cons.mp hf with h | h
       · exact hDC h.symm
       · exact (wCD _ h).1 rfl
     · exact hzz f (.tail _ hf) hm
   have x₂:=x₁.drop (F:=D::wr) hsame kDrop fun f hf=>hnew f (.tail _ hf)
   refine hR _ io' mi x₂ (ki'.drop hsame kDrop hdd) ?_ (hni'.at' fun o e=>hkp Cc o (fun hm=>(wCD Cc hm).1 rfl) e)
   have hvn:=HasL.length C hLi
   simp only [Array.length_toList] at hvn
   show _∧Exists _
   refine ⟨by lia,D,vs,rfl,?_,hDi.at fun o e=>hkp D o (fun hm=>(wCD D hm).2 rfl) e,?_⟩
   · intro hm
     have:=ki.zd D (.tail _ (.head _))
     simp only [VV,List.mem_append,List.mem_cons] at hm
     rcases hm with (h | h) | h | h
     · exact this.1 h
     · exact this.2.1 h
     · exact hDC h
     · exact hzz D (.tail _ (.head _)) h
   · have L':HasL C (VV C io' ((D::wr)++(Cc::Z))) io' s.heap ys vs.toList:=HasL.mono C (fun a o e ha=>⟨e,fun hm=>ha (by
       simp only [VV,List.mem_append,List.mem_cons] at hm ⊢
       rcases hm with (hm | hm) | (hm | hm) | hm | hm<;>simp [hm])⟩) (fun J J e=>e) hLi
     exact HasL.drop (s':={ s with heap:=hp,toks:=tkp }) L' kDrop
end Mine
end
section
set_option tactic.hygienic false
open PySem
set_option maxRecDepth 100000
namespace Mine
variable {C:Cst}
inductive SrcPost (C:Cst) (A:Around) (X Z:List Addr) (io:HI) (s:Shared) (ds:List D) (g':Sg) (v:Value) (s':Shared):Prop
 | mk (io':HI) (x:Grow C io io' s s') (k:Sok C Z io' g' s') (h:wpAny (model C.prog C.w) A (pyIter v) (fun it s''=>Src C A X Z io' ds s' it s'') noE s')
section
variable {lv:Nat} {A:Around} {Z:List Addr} {io:HI} {g:Sg} {s:Shared}
theorem get?_size_none (h:Heap):h.get? h.objs.size = none:=by
 induction e:h.get? h.objs.size using Option.casesOn with
 | none=>rfl
 | some o=>exact absurd (Heap.lt_size e) (Nat.lt_irrefl _)
theorem plainIter_list {h:Heap} {I l:Addr} {i:Nat} (x:h.IsListIter I l i):PlainIter h I:=let ⟨o,e,c,d⟩:=x;⟨_,o,_,e,c,d,by decide⟩
theorem plainIter_tuple {h:Heap} {I l:Addr} {i:Nat} (x:h.IsTupleIter I l i):PlainIter h I:=let ⟨o,e,c,d⟩:=x;⟨_,o,_,e,c,d,by decide⟩
theorem src_listX {X:List Addr} {ds:List D} {a:Addr} {vs:Array Value} (ha:AOk A lv) (hl:ds.length≤lim) (hv:a∉VV C io X) (hp:s.heap.PlainList a vs) (hs:HasL C (VV C io Z) io s.heap ds vs.toList) :
   wpAny (model C.prog C.w) A (pyIter (.ref a)) (fun it s''=>Src C A X Z io ds s it s'') noE s:=by
 have hp':=hp
 refine ze hp' fun n e=>?_;clear hp'
 have hlt:=Heap.lt_size e
 have hil:s.heap.IsList a vs:=⟨_,e,rfl,n,rfl⟩
 refine wpAny_pyIter_list hil ?_
 have hn:=HasL.length C hs
 simp only [Array.length_toList] at hn
 refine ⟨_,_,[s.heap.objs.size],_,_,rfl,hn ▸ Walks.list ha.hh s.heap.objs.size a (Nat.ne_of_lt hlt) vs,⟨⟨_,Heap.get?_push_size _ rfl,rfl,rfl⟩,hil.push _⟩,Keeps.push (k:=s.toks),fun b hb=>?_,fun b hb=>?_,fun i v hi hv'=>?_,hl,fun i h st b hb=>?_,fun i h st=>plainIter_list st.1⟩
 · simp only [List.mem_singleton] at hb;subst hb
   exact ⟨get?_size_none _,_,Heap.get?_push_size _ rfl⟩
 · rcases List.mem_cons.mp hb with rfl | hb
   · exact .inl (.head _)
   · simp only [List.mem_singleton] at hb;subst hb
     exact .inr ⟨_,e,hv⟩
 · refine zea (HasL.get C hs (List.getElem?_eq_getElem hi)) fun v' h1 h2=>?_
   rw [Array.getElem?_toList,hv',Option.some.injEq] at h1
   subst h1
   exact ⟨_,List.getElem?_eq_getElem hi,h2⟩
 · simp only [List.mem_singleton] at hb;subst hb
   refine zea st.1 fun o e J=>?_;exact ⟨o,e⟩
theorem src_list {ds:List D} {v:Value} (ha:AOk A lv) (h:Has C (VV C io Z) io s.heap (.lst ds) v) :
   wpAny (model C.prog C.w) A (pyIter v) (fun it s''=>Src C A Z Z io ds s it s'') noE s:=by
 refine zae2a3 h fun hl a vs e3q hv hp hs=>?_;clear h;subst e3q
 exact src_listX ha hl hv hp hs
theorem src_tup {ds:List D} {v:Value} (ha:AOk A lv) (h:Has C (VV C io Z) io s.heap (.tup ds) v) :
   wpAny (model C.prog C.w) A (pyIter v) (fun it s''=>Src C A Z Z io ds s it s'') noE s:=by
 refine zae2a3 h fun hl a vs e3q hv hp hs=>?_;clear h;subst e3q
 have hp':=hp
 refine ze hp' fun n e=>?_;clear hp'
 have hlt:=Heap.lt_size e
 refine wpAny_pyIter_tuple hp.isTuple ?_
 have hn:=HasL.length C hs
 simp only [Array.length_toList] at hn
 refine ⟨_,_,[s.heap.objs.size],_,_,rfl,hn ▸ Walks.tuple ha.hh s.heap.objs.size a (Nat.ne_of_lt hlt) vs,⟨⟨_,Heap.get?_push_size _ rfl,rfl,rfl⟩,⟨_,Heap.get?_push_of_some _ e,rfl,n,rfl⟩⟩,Keeps.push (k:=s.toks),fun b hb=>?_,fun b hb=>?_,fun i v hi hv'=>?_,hl,fun i h st b hb=>?_,fun i h st=>plainIter_tuple st.1⟩
 · simp only [List.mem_singleton] at hb;subst hb
   exact ⟨get?_size_none _,_,Heap.get?_push_size _ rfl⟩
 · rcases List.mem_cons.mp hb with rfl | hb
   · exact .inl (.head _)
   · simp only [List.mem_singleton] at hb;subst hb
     exact .inr ⟨_,e,hv⟩
 · refine zea (HasL.get C hs (List.getElem?_eq_getElem hi)) fun v' h1 h2=>?_
   rw [Array.getElem?_toList,hv',Option.some.injEq] at h1
   subst h1
   exact ⟨_,List.getElem?_eq_getElem hi,h2⟩
 · simp only [List.mem_singleton] at hb;subst hb
   refine zea st.1 fun o e J=>?_;exact ⟨o,e⟩
theorem signs_get {x:Str} {i:Nat} {c:Nat} (h:x.cps[i]? = some c):(signs x)[i]? = some (.str ⟨#[c]⟩):=by
 unfold signs
 rw [List.getElem?_map,Array.getElem?_toList,h];rfl
theorem src_str {x:Str} {v:Value} (ha:AOk A lv) (h:Has C (VV C io Z) io s.heap (.str x) v) :
   wpAny (model C.prog C.w) A (pyIter v) (fun it s''=>Src C A Z Z io (signs x) s it s'') noE s:=by
 refine zae h fun hl t e2q=>?_;clear h;subst e2q
 have hsz:(signs x).length = x.cps.size:=by simp [signs]
 have go:∀ (o:Obj) (St:Nat→Heap→Prop),Walks C.prog C.w A s.heap.objs.size [s.heap.objs.size] [s.heap.objs.size] x.cps.size (SignAt x) St→St 0 (s.heap.push o)→o.isFreed = false→(∀ i h,St i h→PlainIter h s.heap.objs.size) →
     Src C A Z Z io (signs x) s (.ref s.heap.objs.size) { s with heap:=s.heap.push o }:=fun o St hW hst ho hal=>by
   refine ⟨_,_,[s.heap.objs.size],_,_,rfl,hsz.symm ▸ hW,hst,Keeps.push (k:=s.toks),fun b hb=>?_,fun b hb=>?_,fun i v hi hv'=>?_,by rw [hsz];exact hl,fun i h st b hb=>?_,fun i h st=>hal i h st⟩
   · simp only [List.mem_singleton] at hb;subst hb
     exact ⟨get?_size_none _,_,Heap.get?_push_size _ ho⟩
   · exact .inl hb
   · refine ze2a hv' fun c u hc e3q=>?_;clear hv';subst e3q
     exact ⟨_,signs_get hc,by exact ⟨(by show 1≤lim;decide),u,rfl⟩⟩
   · simp only [List.mem_singleton] at hb;subst hb
     refine ze3a (hal _ _ st) fun J o J e J=>?_;exact ⟨o,e⟩
 induction hx:x.cps.all (· < 128) using Bool.casesOn
 · exact wpAny_pyIter_wide hx (go _ _ (Walks.strWide ha.hh _ x t) ⟨_,Heap.get?_push_size _ rfl,rfl,rfl⟩ rfl fun i h st=>let ⟨o,e,c,d⟩:=st;⟨_,o,_,e,c,d,by decide⟩)
 · exact wpAny_pyIter_ascii hx (go _ _ (Walks.strAscii ha.hh _ x t) ⟨_,Heap.get?_push_size _ rfl,rfl,rfl⟩ rfl fun i h st=>let ⟨o,e,c,d⟩:=st;⟨_,o,_,e,c,d,by decide⟩)
theorem src_items {d:D} {ds:List D} {v:Value} (ha:AOk A lv) (hd:itemsD d = some ds) (h:Has C (VV C io Z) io s.heap d v) :
   wpAny (model C.prog C.w) A (pyIter v) (fun it s''=>Src C A Z Z io ds s it s'') noE s:=by
 induction d using D.casesOn<;>first | exact no_opt hd | (injection hd with hd;subst hd)
 · exact src_str ha h
 · exact src_tup ha h
 · exact src_list ha h
theorem src_range {a b c:Int} {t u v:Tok} {r:Addr} {ds:List D} (ha:AOk A lv) (h:rangeSrc a b c = some ds) (hr:IsRange s.heap r a b c t u v) :
   wpAny (model C.prog C.w) A (pyIter (.ref r)) (fun it s''=>Src C A Z Z io ds s it s'') noE s:=by
 unfold rangeSrc at h
 split at h
 case isFalse=>injection h
 case isTrue hc =>
   simp only [Option.some.injEq] at h
   subst h
   simp only [Bool.and_eq_true,bne_iff_ne,ne_eq,Bool.not_eq_true',beq_iff_eq,decide_eq_true_eq] at hc
   refine za hc fun e0q hl=>?_;clear hc;obtain ⟨⟨⟨h0,hsm⟩,hpl⟩,hsz⟩:=e0q
   refine wpAny_pyIter_range hr hsm ?_
   refine ⟨_,_,[s.heap.objs.size],_,_,rfl,Walks.range ha.hh s.heap.objs.size a c _,?_,Keeps.push (k:=s.toks),fun b hb=>?_,fun b hb=>?_,fun i v hi hv'=>?_,hl,fun i h st b hb=>?_,fun i h st=>⟨_,_,_,st,rfl,rfl,by decide⟩⟩
   · have e1:(a + ((0:Nat):Int) * c) = a:=by simp
     have e2:(((rangeD a b c).length:Int) - ((0:Nat):Int)) = Builtin.Range.rangeSize a b c:=by rw [hsz];simp
     rw [e1,e2]
     exact Heap.get?_push_size _ rfl
   · simp only [List.mem_singleton] at hb;subst hb
     exact ⟨get?_size_none _,_,Heap.get?_push_size _ rfl⟩
   · exact .inl hb
   · refine ze hv' fun t' e1q=>?_;clear hv';subst e1q
     refine ⟨.int (a + c * (i:Int)),?_,?_⟩
     · unfold rangeD at hi ⊢
       rw [List.length_map,List.length_range] at hi
       rw [List.getElem?_map,List.getElem?_range hi];rfl
     · exact ⟨t',by rw [Int.mul_comm]⟩
   · simp only [List.mem_singleton] at hb;subst hb
     exact ⟨_,st⟩
end
end Mine
end
section
set_option tactic.hygienic false
open PySem
set_option maxRecDepth 100000
namespace Mine
variable {C:Cst}
section
variable {lv:Nat} {A:Around} {Z:List Addr} {io:HI} {kd:Kd} {env:Env} {ro:Ro} {g0 g g':Sg} {s:Shared}
theorem comp_ok {X:List Addr} {elt iter t:Expr} {ns:List Str} {ifs:List Expr} {scope:Scope} {pos pos':Pos} {ds ys:List D} {tr el:Ro→Sg→Option (D × Sg)} {use:Option (Value→Sem Unit)} {Q:Value→Shared→Prop}
   (ha:AOk A lv) (hk:Sok C Z io g0 s) (he:EnvOk C kd Z io env ro s.heap)
   (hit:wpAny (model C.prog C.w) A (eval iter env) (SrcPost C A X Z io s ds g) noE s) (hs:∀ x,foldedSetIterable iter env x = pure x)
   (hcell:∀ y∈scope.names,y.2≠.cell) (hkind:scope.kind = .function∧¬scope.names.lookup ("_split_list":Str) = some .globalImplicit) (hns:namesT t = some ns) (hx:∀ x∈ns,scope.names.lookup x = some .local)
   (hnames:∀ y∈scope.names,y.2 = .local→scope.names.lookup y.1 = some .local)
   (hfree:∀ p∈scope.names,p.2 = .free→kd p.1 = some .cell∨kd p.1 = some .free)
   (hrun:compK tr el t (freeIn scope ro) ds g = some (ys,g')) (hyl:ys.length≤lim)
   (htr:∀ ro g b g',tr ro g = some (.bool b,g')→∀ env' Z' io' s,EnvOk C (fun y=>scope.names.lookup y) Z' io' env' ro s.heap→Sok C Z' io' g s→wpAny (model C.prog C.w) A (testsOf ifs env') (PostB C Z' io' s b g') noE s)
   (hel:∀ ro g d g',el ro g = some (d,g')→∀ env' Z' io' s,EnvOk C (fun y=>scope.names.lookup y) Z' io' env' ro s.heap→Sok C Z' io' g s→wpAny (model C.prog C.w) A (eval elt env') (Post C Z' io' s d g') noE s)
   (hR:∀ D Cc s' io' m',Grow C io io' s s'→Sok C (Cc::Z) io' g' s'→Has C (VV C io' (Cc::Z)) io' s'.heap (.lst ys) (.ref D)→s'.heap.Ns Cc m'→s.heap.get? Cc = none→compPost (model C.prog C.w) A noE use Q (.ref D) Cc (.ok .next) s') :
   wpAny (model C.prog C.w) A (comprehension (.ListComp elt [⟨t,iter,ifs,0⟩] scope pos) scope env pos' (newList []) false (eval iter env) use) Q noE s:=by
 have hcl:closureFor scope env = pure (cloF env.cells scope.names []):=closureFor_ok fun p hp hpf=>by
   refine ze2a (he.all p.1 (hfree p hp hpf)) fun c v h1 _=>?_
   exact ⟨c,h1⟩
 refine wpAny_comprehension_free (by rfl) hs hcl hkind.1 hnames (noE_mono hit fun v s1 ⟨io1,x1,k1,hsrc⟩=>?_)
 refine noE_mono hsrc fun it s2 src=>?_
 have src':=src
 obtain ⟨I,fp,wr,P,StI,rfl,W,hst,k12,hwr,hfp,hP,hlen,hal,hgo⟩:=src'
 refine wpAny_newObj_type (wpAny_newFunctionEnv hcell (by intro y hy;simp at hy) (fun h₁ hns₁ hsb₁=>?_) hkind.1)
 dsimp only at hns₁ hsb₁ ⊢
 generalize hH2:s2.heap.push { cls:=.type "list",dict:=none,data:=.seq ([]:List Value).toArray } = H2 at hns₁ hsb₁ ⊢
 have hC:H2.objs.size = s2.heap.objs.size + 1:=by rw [← hH2,Heap.size_push]
 have hDC:s2.heap.objs.size≠H2.objs.size:=by rw [hC];exact Nat.ne_of_lt (Nat.lt_succ_self _)
 have fresh:∀ a,s2.heap.objs.size≤a→s2.heap.get? a = none:=fun a hle=>by
   induction e:s2.heap.get? a using Option.casesOn with
   | none=>rfl
   | some o'=>exact absurd (Heap.lt_size e) (Nat.not_lt.mpr hle)
 have up1:∀ a,s2.heap.get? a = none→s1.heap.get? a = none:=fun a e=>by
   refine ze2a k12 fun h' tk e2q hkk=>?_;clear k12;subst e2q
   induction e':s1.heap.get? a using Option.casesOn with
   | none=>rfl
   | some o=>have:=hkk a o e';rw [e] at this;injection this
 have up0:∀ a,s1.heap.get? a = none→s.heap.get? a = none:=fun a e=>by
   induction e':s.heap.get? a using Option.casesOn with
   | none=>rfl
   | some o=>refine ze (x1.alive a o e') fun o' h=>?_;rw [e] at h;injection h
 have hD2:s2.heap.get? s2.heap.objs.size = none:=fresh _ (Nat.le_refl _)
 have hC2:s2.heap.get? H2.objs.size = none:=fresh _ (by rw [hC];exact Nat.le_succ _)
 have old:∀ b o,s2.heap.get? b = some o→h₁.get? b = some o:=fun b o e=>by
   have hlt:=Heap.lt_size e
   exact hsb₁.extBut b o (by rw [hC];exact Nat.ne_of_lt (Nat.lt_succ_of_lt hlt)) (Heap.get?_push_of_some _ (hH2 ▸ Heap.get?_push_of_some _ e))
 have hacc:h₁.get? s2.heap.objs.size = some { cls:=.type "list",dict:=none,data:=.seq ([]:List Value).toArray }:=hsb₁.extBut _ _ hDC (Heap.get?_push_of_some _ (hH2 ▸ Heap.get?_push_size _ rfl))
 have k23:Keeps s2 { s2 with heap:=h₁,toks:=s2.toks + ([]:List (Str × Value)).length }:=⟨_,_,rfl,old⟩
 have he1:=x1.env hk he
 have loop:=comp_loop (elt:=elt) (iter:=iter) (pos:=pos) (D:=s2.heap.objs.size) (Cc:=H2.objs.size) (R:=compPost (model C.prog C.w) A noE use Q (.ref s2.heap.objs.size) H2.objs.size)
   (cenv:={ newEnv scope H2.objs.size env.globals (cloF env.cells scope.names []) env.qual none .none (some env) builtinsNs with scope:=relabel scope env })
   ha k1 he1 src hcell hkind hns hx hfree hrun htr hel (fun y=>relabel_lookup y) (by show (relabel scope env).kind = _;unfold relabel;exact hkind.1) rfl rfl rfl rfl (up1 _ hD2) (up1 _ hC2) hD2 hC2 hDC k23 ⟨_,hacc⟩ hns₁
   (fun s' io' m' xg kg hh hn=>hR _ _ _ _ _ (x1.trans C xg) kg hh hn (up0 _ (up1 _ hC2)))
 refine codeAny_compStart_list loop ?_
 exact W.self 0 _ _ _ (W.frame _ _ _ hst fun b _ o e=>old b o e) loop
end
end Mine
end
section
set_option tactic.hygienic false
open PySem
set_option maxRecDepth 100000
namespace Mine
variable {C:Cst} {lv:Nat} {kd:Kd} {ro:Ro} {g g1 g2 g':Sg}
theorem sE_none {k p}:SoundE C lv kd ro (.Constant .none k p) g .none g:=fun A env Z io s ha he hk=>wpAny_Constant_none (post_pure hk ⟨Keeps.refl,by simp [Has]⟩)
theorem sE_bool {b k p}:SoundE C lv kd ro (.Constant (.bool b) k p) g (.bool b) g:=fun A env Z io s ha he hk=>wpAny_Constant_bool (post_pure hk ⟨Keeps.refl,by simp [Has]⟩)
theorem sE_int {i k p}:SoundE C lv kd ro (.Constant (.int i) k p) g (.int i) g:=fun A env Z io s ha he hk=>wpAny_Constant_int (post_pure hk ⟨Keeps.toks,by exact ⟨_,rfl⟩⟩)
theorem sE_str {x:Str} {k p} (h:strOk x = true):SoundE C lv kd ro (.Constant (.str x) k p) g (.str x) g:=fun A env Z io s ha he hk =>
 wpAny_Constant_str (post_pure hk ⟨Keeps.toks,by exact ⟨by simpa [strOk] using h,_,rfl⟩⟩)
theorem sE_name {x:Str} {p} {d:D} (hl:ro.lookup x = some d) (h:¬(x==("__debug__":Str)||x==("__classdict__":Str)) = true):SoundE C lv kd ro (.Name x p) g d g:=fun A env Z io s ha he hk=>by
 simp only [Bool.or_eq_true,not_or,Bool.not_eq_true] at h
 exact name_ok he hk hl h.1 h.2
theorem sE_and {a b:Expr} {p} {x d:D} {c:Bool} (h1:SoundE C lv kd ro a g x g1) (ht:truthD x = some c) (h2:if c then SoundE C lv kd ro b g1 d g' else d = x∧g' = g1):SoundE C lv kd ro (.BoolOp .And [a,b] p) g d g':=fun A env Z io s ha he hk=>by
 refine wpAny_And2 (noE_mono (h1 A env Z io s ha he hk) fun v s1 ⟨io1,x1,k1,hh⟩=>?_)
 refine noE_mono (truthD_ok (E:=noE) ht hh) fun c' s2 ⟨hc,kp⟩=>?_
 subst hc
 have x2:=x1.trans C (Keeps.grow C kp)
 induction c' using Bool.casesOn with
 | true=>exact noE_mono (h2 A env Z io1 s2 ha (Keeps.env kp k1 (x1.env hk he)) (Keeps.sok C kp k1)) fun v s3 h3=>h3.after x2
 | false =>
   refine za h2 fun e0q e1q=>?_;clear h2;subst e0q;subst e1q
   exact ⟨io1,x2,Keeps.sok C kp k1,keepsHas kp hh⟩
theorem sE_or {a b:Expr} {p} {x d:D} {c:Bool} (h1:SoundE C lv kd ro a g x g1) (ht:truthD x = some c) (h2:if c then d = x∧g' = g1 else SoundE C lv kd ro b g1 d g'):SoundE C lv kd ro (.BoolOp .Or [a,b] p) g d g':=fun A env Z io s ha he hk=>by
 refine wpAny_Or2 (noE_mono (h1 A env Z io s ha he hk) fun v s1 ⟨io1,x1,k1,hh⟩=>?_)
 refine noE_mono (truthD_ok (E:=noE) ht hh) fun c' s2 ⟨hc,kp⟩=>?_
 subst hc
 have x2:=x1.trans C (Keeps.grow C kp)
 induction c' using Bool.casesOn with
 | false=>exact noE_mono (h2 A env Z io1 s2 ha (Keeps.env kp k1 (x1.env hk he)) (Keeps.sok C kp k1)) fun v s3 h3=>h3.after x2
 | true =>
   refine za h2 fun e0q e1q=>?_;clear h2;subst e0q;subst e1q
   exact ⟨io1,x2,Keeps.sok C kp k1,keepsHas kp hh⟩
theorem two {a b:Expr} {x y d:D} (h1:SoundE C lv kd ro a g x g1) (h2:SoundE C lv kd ro b g1 y g2) {f:Value→Value→Sem Value} {A:Around} {env:Env} {Z:List Addr} {io:HI} {s:Shared}
   (ha:AOk A lv) (he:EnvOk C kd Z io env ro s.heap) (hk:Sok C Z io g s)
   (hf:∀ io2 (s2:Shared) v u,Sok C Z io2 g2 s2→Has C (VV C io2 Z) io2 s2.heap x v→Has C (VV C io2 Z) io2 s2.heap y u→wpAny (model C.prog C.w) A (f v u) (Post C Z io2 s2 d g') noE s2) :
   wpAny (model C.prog C.w) A (eval a env) (fun v s1=>wpAny (model C.prog C.w) A (eval b env) (fun u s2=>wpAny (model C.prog C.w) A (f v u) (Post C Z io s d g') noE s2) noE s1) noE s:=by
 refine noE_mono (h1 A env Z io s ha he hk) fun v s1 ⟨io1,x1,k1,hh⟩=>?_
 refine noE_mono (h2 A env Z io1 s1 ha (x1.env hk he) k1) fun u s2 ⟨io2,x2,k2,hu⟩=>?_
 exact noE_mono (hf io2 s2 v u k2 (x2.has C hh) hu) fun r s3 h3=>h3.after (x1.trans C x2)
theorem sE_bin {a b:Expr} {op p} {x y d:D} (h1:SoundE C lv kd ro a g x g1) (h2:SoundE C lv kd ro b g1 y g2) (e:binD op x y = some d):SoundE C lv kd ro (.BinOp a op b p) g d g2:=fun A env Z io s ha he hk =>
 wpAny_BinOp (two h1 h2 ha he hk fun io2 s2 v u k2 hv hu=>noE_mono (binD_ok (E:=noE) k2 e hv hu) fun r s3 h3=>post_pure k2 h3)
theorem units_ok {A:Around} (ha:AOk A lv):A.units + 40 < cLine:=by
 have:=ha.un
 have h:cLine = 9900:=rfl
 lia
theorem sE_cmp {a b:Expr} {op p} {x y:D} {c:Bool} (h1:SoundE C lv kd ro a g x g1) (h2:SoundE C lv kd ro b g1 y g2) (e:cmpD op x y = some c) (hm:behindInMarks op b = false):SoundE C lv kd ro (.Compare a [op] [b] p) g (.bool c) g2:=fun A env Z io s ha he hk =>
 wpAny_Compare1 (two h1 h2 ha he hk fun io2 s2 v u k2 hv hu=>noE_mono (cmpD_ok (E:=noE) e hv hu (units_ok ha)) fun r s3 h3=>post_pure k2 ⟨h3.2,by exact h3.1⟩) hm
theorem sE_not {a:Expr} {p} {x:D} {c:Bool} (h1:SoundE C lv kd ro a g x g1) (e:truthD x = some c):SoundE C lv kd ro (.UnaryOp .Not a p) g (.bool (!c)) g1:=fun A env Z io s ha he hk=>by
 refine wpAny_UnaryOp (noE_mono (h1 A env Z io s ha he hk) fun v s1 ⟨io1,x1,k1,hh⟩=>?_)
 refine not_value (noE_mono (truthD_ok (E:=noE) e hh) fun c' s2 ⟨hc,kp⟩=>?_)
 subst hc
 exact ⟨io1,x1.trans C (Keeps.grow C kp),Keeps.sok C kp k1,by simp [Has]⟩
theorem sE_neg {a:Expr} {p} {i:Int} (h1:SoundE C lv kd ro a g (.int i) g1):SoundE C lv kd ro (.UnaryOp .USub a p) g (.int (-i)) g1:=fun A env Z io s ha he hk=>by
 refine wpAny_UnaryOp (noE_mono (h1 A env Z io s ha he hk) fun v s1 ⟨io1,x1,k1,hh⟩=>?_)
 refine ze hh fun t e1q=>?_;clear hh;subst e1q
 have kp:Keeps s1 { s1 with toks:=s1.toks + 1 }:=Keeps.toks
 exact PyProof.Rows.neg_int ⟨io1,x1.trans C (Keeps.grow C kp),Keeps.sok C kp k1,by exact ⟨_,rfl⟩⟩
theorem sE_if {t a b:Expr} {p} {c:Bool} {d:D} (h1:SoundT C lv kd ro t g c g1) (h2:SoundE C lv kd ro (if c then a else b) g1 d g'):SoundE C lv kd ro (.IfExp t a b p) g d g':=fun A env Z io s ha he hk=>by
 refine wpAny_IfExp (noE_mono (h1 A env Z io s ha he hk) fun c' s1 ⟨hc,io1,x1,k1⟩=>?_)
 subst hc
 have:=h2 A env Z io1 s1 ha (x1.env hk he) k1
 induction c' using Bool.casesOn<;>exact noE_mono this fun v s3 h3=>h3.after x1
theorem sE_list {es:List Expr} {p} {ds:List D} {ev:Expr→Sg→Option (D × Sg)} (hev:EvSound C lv kd ro ev) (h:evs ev es g = some (ds,g')) (hl:ds.length≤lim):SoundE C lv kd ro (.List es p) g (.lst ds) g':=fun A env Z io s ha he hk=>by
 refine PyProof.Rows.List_ (noE_mono (evs_ok hev es h ha he hk) fun vs s1 ⟨io1,x1,k1,hh⟩=>?_)
 have z:=has_newList k1 (tk:=s1.toks) (n:=0) hl hh
 have hn:=HasL.length C hh
 exact wpAny_newObj_type ⟨io1,x1.trans C (Keeps.grow C z.1),Keeps.sok C z.1 k1,z.2⟩ (by show vs.toArray.size≤sizeLine;rw [List.size_toArray];have:=lim_le;lia)
theorem sE_tup {es:List Expr} {k p} {ds:List D} {ev:Expr→Sg→Option (D × Sg)} (hev:EvSound C lv kd ro ev) (h:evs ev es g = some (ds,g')) (hl:ds.length≤lim):SoundE C lv kd ro (.Tuple es k p) g (.tup ds) g':=fun A env Z io s ha he hk=>by
 refine PyProof.Rows.Tuple_ (noE_mono (evs_ok hev es h ha he hk) fun vs s1 ⟨io1,x1,k1,hh⟩=>?_)
 have z:=has_newTuple k1 (tk:=s1.toks) (n:=0) hl hh
 have hn:=HasL.length C hh
 exact wpAny_newObj_type ⟨io1,x1.trans C (Keeps.grow C z.1),Keeps.sok C z.1 k1,z.2⟩ (by show vs.toArray.size≤sizeLine;rw [List.size_toArray];have:=lim_le;lia)
theorem subscripted_plain {slice:Expr} (h:∀ l u st p,slice≠.Slice l u st p) (o i:Value):subscripted slice false o i = operate [o,i] (getItem o i):=by
 induction slice using Expr.casesOn<;>first | rfl | exact absurd rfl (h _ _ _ _)
theorem tail_item {A:Around} {V:List Addr} {io:HI} {s:Shared} {x y d:D} {v u:Value} {value slice:Expr} {Q:Value→Shared→Prop} (e:itemD x y = some d) (hx:Has C V io s.heap x v)
   (hsl:∀ l u st p,slice≠.Slice l u st p) (hg:wpAny (model C.prog C.w) A (getItem v u) Q noE s):wpAny (model C.prog C.w) A (PyProof.Rows.subscriptTail value slice v u) Q noE s:=by
 have hs:subscripted slice false v u = operate [v,u] (getItem v u):=subscripted_plain hsl v u
 induction x using D.casesOn<;>induction y using D.casesOn<;>first | exact no_opt e | skip
 · refine zae hx fun J t e2q=>?_;clear hx;subst e2q
   exact PyProof.Rows.tail_any (typeIs_str _ _ _) PyProof.Rows.slot_str_getitem.lookup hg hs
 · refine zae2a3 hx fun J a vs e3q J ht J=>?_;clear hx;subst e3q
   exact PyProof.Rows.tail_any (T:="tuple") (by refine ze ht fun n e=>?_;clear ht;exact ⟨_,e,rfl⟩) PyProof.Rows.slot_tuple_getitem.lookup hg hs
 · refine zae2a3 hx fun J a vs e3q J ht J=>?_;clear hx;subst e3q
   exact PyProof.Rows.tail_any (T:="list") (by refine ze ht fun n e=>?_;clear ht;exact ⟨_,e,rfl⟩) slot_list_getitem.lookup hg hs
 · refine zea2ea hx fun a e1q J f hm J=>?_;clear hx;subst e1q
   exact PyProof.Rows.tail_any (T:="dict") hm.typeIs F.slot_dict_getitem.lookup hg hs
theorem sE_item {a b:Expr} {p} {x y d:D} (h1:SoundE C lv kd ro a g x g1) (h2:SoundE C lv kd ro b g1 y g2) (e:itemD x y = some d) (hsl:∀ l u st p,b≠.Slice l u st p):SoundE C lv kd ro (.Subscript a b p) g d g2:=fun A env Z io s ha he hk =>
 PyProof.Rows.Subscript_ (two h1 h2 ha he hk fun io2 s2 v u k2 hv hu=>tail_item e hv hsl (noE_mono (itemD_ok (E:=noE) e hv hu) fun r s3 h3=>post_pure k2 h3))
theorem sE_hitem {T:Tbl} {S:Summ} (tb:TblOk C lv T) (hS:T.mt "__getitem__" = some S) {a b:Expr} {p} {i:Nat} {y d:D} (h1:SoundE C lv kd ro a g (.hdr i) g1) (h2:SoundE C lv kd ro b g1 y g2) (e:S [.hdr i,y] g2 = some (d,g')) (hsl:∀ l u st p,b≠.Slice l u st p):SoundE C lv kd ro (.Subscript a b p) g d g':=fun A env Z io s ha he hk =>
 PyProof.Rows.Subscript_ (two h1 h2 ha he hk fun io2 s2 v u k2 hv hu=>by
   refine ze3a3 (tb.mt _ _ hS) fun a' o' fd hget hfd hcall hm=>?_
   have hv':=hv
   refine zea hv' fun t ht e2q=>?_;clear hv';subst e2q
   refine ze (hdr_at k2 ht) fun ps hps=>?_
   have HH:=k2.st.at' _ t ps ht hps
   refine hm.sub rfl A noE s2 t.1 t.2.1 t.2.2 k2.base ⟨HH.inst,HH.dict⟩ a b u _ (fun o=>subscripted_plain hsl o u) hsl ?_
   exact hcall _ _ _ _ e A.in1 Z io2 s2 _ ha.c1 k2 (by exact ⟨_,_,rfl,by exact ⟨t,ht,rfl⟩,_,_,rfl,hu,rfl⟩))
end Mine
end
section
set_option tactic.hygienic false
open PySem
set_option maxRecDepth 100000
namespace Mine
variable {C:Cst} {lv:Nat} {kd:Kd} {ro:Ro} {g g1 g2 g':Sg} {T:Tbl}
theorem sE_meth {ev:Expr→Sg→Option (D × Sg)} (tb:TblOk C lv T) (hev:EvSound C lv kd ro ev) {o:Expr} {m:Str} {q p:Pos} {as:List Expr} {x d:D} {ys:List D}
   (hns:notSuper o = true) (hline:(q.endLine==p.line) = true) (hlen:as.length < 20) (hall:as.all plainE = true)
   (h1:SoundE C lv kd ro o g x g1) (h2:evs ev as g1 = some (ys,g2)) (h3:pmeth T m x ys g2 = some (d,g')):SoundE C lv kd ro (.Call (.Attribute o m q) as [] p) g d g':=fun A env Z io s ha he hk=>by
 have args:∀ io1 s1 pos,Grow C io io1 s s1→Sok C Z io1 g1 s1→wpAny (model C.prog C.w) A (spliced (backTo pos (starEach as env))) (PostL C Z io1 s1 ys g2) noE s1:=fun io1 s1 pos x1 k1=>evs_ok hev as h2 ha (x1.env hk he) k1
 induction x using D.casesOn with
 | hdr k =>
   refine zea (fn_v (show fnC (T.mt m) (.hdr k::ys) g2 = some (d,g') from h3)) fun S hS h3=>?_
   refine ze3a3 (tb.mt _ _ hS) fun a' o' fd hget hfd hcall hm=>?_
   refine methE_ok hns hline hlen hall (h1 A env Z io s ha he hk) args (.ref a') (.inr ⟨a',o',fd,rfl,hget,hfd⟩) (fun io1 s1 vx k1 hx pl Q hQ=>?_) fun io1 s1 vx vs k1 hx hvs=>?_
   · simp only [Has] at hx
     refine zea hx fun t ht e2q=>?_;clear hx;subst e2q
     refine ze (hdr_at k1 ht) fun ps hps=>?_
     have HH:=k1.st.at' _ t ps ht hps
     exact hm.get A noE s1 t.1 t.2.1 t.2.2 k1.base ⟨HH.inst,HH.dict⟩ pl Q hQ
   · exact hcall _ _ _ _ h3 A Z io1 s1 _ ha.c k1 (by exact ⟨_,_,rfl,hx,hvs⟩)
 | str x =>
   refine zea3 (pmeth_str (C:=C) (lv:=lv) (show strM m x ys g2 = some (d,g') from h3)) fun id slot hty e3q hcall=>?_;subst e3q
   refine methE_ok hns hline hlen hall (h1 A env Z io s ha he hk) args (.builtin id) (.inl ⟨id,rfl⟩) (fun io1 s1 vx k1 hx pl Q hQ=>?_) fun io1 s1 vx vs k1 hx hvs=>?_
   · refine zae hx fun J t e2q=>?_;clear hx;subst e2q
     exact getStr slot hty hQ
   · refine zae hx fun hl t e2q=>?_;clear hx;subst e2q
     exact hcall A Z io1 s1 t vs ha k1 hl hvs
 | _=>exact no_opt h3
end Mine
end
section
set_option tactic.hygienic false
open PySem
set_option maxRecDepth 100000
namespace Mine
variable {C:Cst} {lv:Nat} {kd:Kd} {ro:Ro} {g g1 g2 g':Sg} {T:Tbl}
theorem starEach_length:∀ (es:List Expr) (env:Env),(starEach es env).length = es.length
 | [],_=>rfl
 | e::r,env=>by induction e using Expr.casesOn<;>exact congrArg Nat.succ (starEach_length r env)
theorem backTo_length (es:List Expr) (env:Env) (p:Pos):(backTo p (starEach es env)).length = es.length:=by
 unfold backTo
 rw [List.length_map,starEach_length]
theorem sE_call {ev:Expr→Sg→Option (D × Sg)} (r:RootOk C) (tb:TblOk C lv T) (hev:EvSound C lv kd ro ev) {f:Str} {q p:Pos} {as:List Expr} {d:D} {ys:List D}
   (hkd:kd f = some .globalImplicit) (hd:(f==("__debug__":Str)) = false) (hfp:firstPlain as = true) (hbp:(builtinF f&&!(as.all plainE&&decide (as.length < 20))) = false)
   (h2:evs ev as g = some (ys,g2)) (h3:pcall T f ys g2 = some (d,g')):SoundE C lv kd ro (.Call (.Name f q) as [] p) g d g':=fun A env Z io s ha he hk=>by
 have args:∀ pos,wpAny (model C.prog C.w) A (spliced (backTo pos (starEach as env))) (PostL C Z io s ys g2) noE s:=fun pos=>evs_ok hev as h2 ha he hk
 have plain:builtinF f = true→as.all plainE = true:=fun hb=>by rw [hb] at hbp;simp only [Bool.true_and,Bool.not_eq_false',Bool.and_eq_true] at hbp;exact hbp.1
 have few:builtinF f = true→as.length < 20:=fun hb=>by rw [hb] at hbp;simp only [Bool.true_and,Bool.not_eq_false',Bool.and_eq_true,decide_eq_true_eq] at hbp;exact hbp.2
 have bi:∀ (id:String) (bn:bootBuiltins f = some (.builtin id)),f∈(["len","sum","max","min","range","zip","enumerate","str"]:List Str)→f≠"__name__"→builtinF f = true →
     (∀ io1 (s1:Shared) vs,Sok C Z io1 g2 s1→HasL C (VV C io1 Z) io1 s1.heap ys vs→wpAny (model C.prog C.w) A (call (.builtin id) vs) (Post C Z io1 s1 d g') noE s1) →
     wpAny (model C.prog C.w) A (eval (.Call (.Name f q) as [] p) env) (Post C Z io s d g') noE s:=fun id bn hm hn hb hc =>
   builtinE_ok r bn (r.nob f hm) hn hd (plain hb) hkd he hk args hc
 unfold pcall at h3
 by_cases hlen:(f==("len":Str)) = true
 · rw [if_pos hlen] at h3
   have hlen:=eq_of_beq hlen
   exact bi "len" (by subst hlen;decide +kernel) (by subst hlen;decide) (by subst hlen;decide) (by subst hlen;decide) fun io1 s1 vs k1 hv=>pcall_len h3 k1 hv
 rw [if_neg hlen] at h3
 by_cases hsum:(f==("sum":Str)) = true
 · rw [if_pos hsum] at h3
   have hsum:=eq_of_beq hsum
   exact bi "sum" (by subst hsum;decide +kernel) (by subst hsum;decide) (by subst hsum;decide) (by subst hsum;decide) fun io1 s1 vs k1 hv=>pcall_sum h3 ha k1 hv
 rw [if_neg hsum] at h3
 refine za (iff_none h3) fun J h3=>?_
 refine zea (fn_v h3) fun S hS h3=>?_
 refine ze3a3 (tb.fn f S hS) fun a o fd hmg hget hfd hcall=>?_
 refine PyProof.Rows.Call_ (global_ok r he hk hkd hmg hd ?_) rfl
 refine Calls.callWith_function (o:=o) (fd:=fd) (evalArgs_of hfp (noE_mono (args p) fun vs s1 ⟨io1,x1,k1,hh⟩=>⟨⟨k1.base _ _ hget,hfd⟩,?_⟩))
 exact noE_mono (hcall _ _ _ _ h3 A Z io1 s1 vs ha.c k1 hh) fun v s3 h=>h.after x1
theorem sE_new {T:Tbl} {S:Summ} {ev:Expr→Sg→Option (D × Sg)} (r:RootOk C) (tb:TblOk C lv T) (hS:T.new = some S) (hev:EvSound C lv kd ro ev) {q lp p:Pos} {es:List Expr} {ds:List D} {d:D} {g1:Sg} (hkd:kd ("Headers":Str) = some .globalImplicit) (h2:evs ev es g = some (ds,g1)) (hl:ds.length≤lim)
   (h3:S [.lst ds] g1 = some (d,g')):SoundE C lv kd ro (.Call (.Name "Headers" q) [.List es lp] [] p) g d g':=fun A env Z io s ha he hk=>by
 refine za2 (tb.new S hS) fun hmg hcall hlk=>?_
 refine PyProof.Rows.Call_ (global_ok r he hk hkd hmg (by decide) ?_) rfl
 refine callWith_looks (P:=fun h=>∀ b o,C.H.get? b = some o→h.get? b = some o) (anyStar [.List es lp] rfl _ _) (by rw [backTo_length];show 1≤30;lia) hlk (evalArgs_of rfl (wpAny_items_cons (PyProof.Rows.List_ (noE_mono (evs_ok hev es h2 ha he hk) fun vs s1 ⟨io1,x1,k1,hh⟩=>?_)) (starEach_plain fun J J=>nofun)))
 have hn:=HasL.length C hh
 refine wpAny_newObj_type (wpAny_items_nil ?_) (by show vs.toArray.size≤sizeLine;rw [List.size_toArray];have:=lim_le;lia)
 have kp:Keeps s1 { s1 with heap:=s1.heap.push { cls:=.type "list",data:=.seq vs.toArray } }:=Keeps.push (k:=s1.toks)
 have k2:=Keeps.sok C kp k1
 have h0:s.heap.get? s1.heap.objs.size = none:=by
   induction e:s.heap.get? s1.heap.objs.size using Option.casesOn with
   | none=>rfl
   | some o=>refine ze (x1.alive _ o e) fun o' e'=>?_;exact absurd (Heap.lt_size e') (Nat.lt_irrefl _)
 have hH0:C.H.get? s1.heap.objs.size = none:=by
   induction e:C.H.get? s1.heap.objs.size using Option.casesOn with
   | none=>rfl
   | some o=>exact absurd (Heap.lt_size (k1.base _ _ e)) (Nat.lt_irrefl _)
 exact ⟨k2.base,hcall _ _ _ _ h3 A Z io io1 s _ s1.heap.objs.size vs.toArray ha.c (x1.trans C (Keeps.grow C kp)) k2 h0 ⟨_,Heap.get?_push_size _ rfl⟩ hH0 (fresh_notin k1) (keepsHasL kp (by simpa using hh)) hl⟩
theorem part_ok {ev:Expr→Sg→Option (D × Sg)} (hev:EvSound C lv kd ro ev) {e:Option Expr} {i:Option Int} (h:evOpt ev e g = some (i,g')) {A:Around} {env:Env} {Z:List Addr} {io:HI} {s:Shared} (ha:AOk A lv) (he:EnvOk C kd Z io env ro s.heap) (hk:Sok C Z io g s) :
   wpAny (model C.prog C.w) A (evalPart e env) (fun v s'=>∃ p:Option (Int × Tok),v = partValue p∧p.map (·.1) = i∧∃ io',Grow C io io' s s'∧Sok C Z io' g' s') noE s:=by
 induction e using Option.casesOn with
 | none =>
   injection (show some ((none:Option Int),g) = some (i,g') from h) with h;injection h with e0q e1q;subst e0q;subst e1q
   rw [evalPart_none]
   exact wpAny_pure ⟨none,rfl,rfl,io,Grow.refl C,hk⟩
 | some e =>
   refine ze2a (bindK_some h) fun d g1 h1 h2=>?_
   rw [evalPart_some]
   refine noE_mono (hev e g d g1 h1 A env Z io s ha he hk) fun v s1 ⟨io1,x1,k1,hh⟩=>?_
   induction d using D.casesOn with
   | int j =>
     refine za (if_some_v (show (if big j = true then some (some j,g1) else none) = some (i,g') from h2)) fun _ h2=>?_
     apply i2 h2
     refine ze hh fun t e1q=>?_;clear hh;subst e1q
     exact ⟨some (j,t),rfl,rfl,io1,x1,k1⟩
   | _=>injection h2
theorem sE_slice {ev:Expr→Sg→Option (D × Sg)} (hev:EvSound C lv kd ro ev) {a:Expr} {lo hi st:Option Expr} {p q:Pos} {x d:D} {l h t:Option Int} {g3 g4:Sg} (h1:SoundE C lv kd ro a g x g1)
   (e1:evOpt ev lo g1 = some (l,g2)) (e2:evOpt ev hi g2 = some (h,g3)) (e3:evOpt ev st g3 = some (t,g4)) (e:sliceD x l h t = some d):SoundE C lv kd ro (.Subscript a (.Slice lo hi st p) q) g d g4:=fun A env Z io s ha he hk=>by
 refine PyProof.Rows.Subscript_ (noE_mono (h1 A env Z io s ha he hk) fun v s1 ⟨io1,x1,k1,hh⟩=>wpAny_Slice ?_)
 refine noE_mono (part_ok hev e1 ha (x1.env hk he) k1) fun v2 s2 ⟨p2,hv2,hp2,io2,x2,k2⟩=>?_
 refine noE_mono (part_ok hev e2 ha (x2.env k1 (x1.env hk he)) k2) fun v3 s3 ⟨p3,hv3,hp3,io3,x3,k3⟩=>?_
 refine noE_mono (part_ok hev e3 ha (x3.env k2 (x2.env k1 (x1.env hk he))) k3) fun v4 s4 ⟨p4,hv4,hp4,io4,x4,k4⟩=>?_
 subst hv2 hv3 hv4 hp2 hp3 hp4
 have kp:Keeps s4 { s4 with heap:=s4.heap.push { cls:=.type "slice",data:=.fields #[partValue p2,partValue p3,partValue p4] } }:=Keeps.push (k:=s4.toks)
 have hs:Heap.IsSlice (s4.heap.push { cls:=.type "slice",data:=.fields #[partValue p2,partValue p3,partValue p4] }) s4.heap.objs.size p2 p3 p4:=⟨_,Heap.get?_push_size _ rfl,rfl,rfl⟩
 have hx:=keepsHas kp (x4.has C (x3.has C (x2.has C hh)))
 have k5:=Keeps.sok C kp k4
 have x5:=((x1.trans C x2).trans C (x3.trans C x4)).trans C (Keeps.grow C kp)
 have hg:=noE_mono (E:=noE) (sliceD_ok (A:=A) (E:=noE) k5 e hx hs) fun v s6 h6=>(post_pure k5 h6).after x5
 have hsub:∀ (o i:Value),∃ ops,subscripted (.Slice lo hi st p) false o i = operate ops (getItem o i):=fun o i=>by induction st using Option.casesOn<;>exact ⟨_,rfl⟩
 refine ze (hsub v (.ref s4.heap.objs.size)) fun ops hops=>?_
 replace e:=(if_none_v (show (if _ then none else _) = some d from e)).2
 induction x using D.casesOn<;>first | exact no_opt e | skip
 · refine zae hx fun J t e2q=>?_;clear hx;subst e2q
   exact PyProof.Rows.tail_any (typeIs_str _ _ _) PyProof.Rows.slot_str_getitem.lookup hg hops
 · refine zae2a3 hx fun J a vs e3q J ht J=>?_;clear hx;subst e3q
   exact PyProof.Rows.tail_any (T:="tuple") (by refine ze ht fun n e=>?_;clear ht;exact ⟨_,e,rfl⟩) PyProof.Rows.slot_tuple_getitem.lookup hg hops
 · refine zae2a3 hx fun J a vs e3q J ht J=>?_;clear hx;subst e3q
   exact PyProof.Rows.tail_any (T:="list") (by refine ze ht fun n e=>?_;clear ht;exact ⟨_,e,rfl⟩) slot_list_getitem.lookup hg hops
theorem sT_value {e:Expr} {x:D} {c:Bool} (h1:SoundE C lv kd ro e g x g1) (ht:truthD x = some c)
   (he':∀ (env:Env) (whole:Sem Value),isTrue e env whole = (do let v ← whole;standAt e.pos;holding [v] (truthy v))):SoundT C lv kd ro e g c g1:=fun A env Z io s ha he hk=>by
 refine wpAny_isTrue_value (noE_mono (h1 A env Z io s ha he hk) fun v s1 ⟨io1,x1,k1,hh⟩=>?_) (he' env _)
 refine noE_mono (truthD_ok (E:=noE) ht hh) fun c' s2 ⟨hc,kp⟩=>?_
 exact ⟨hc,io1,x1.trans C (Keeps.grow C kp),Keeps.sok C kp k1⟩
theorem sT_not {a:Expr} {p} {b:Bool} (h:SoundT C lv kd ro a g b g1):SoundT C lv kd ro (.UnaryOp .Not a p) g (!b) g1:=fun A env Z io s ha he hk =>
 wpAny_isTrue_Not (noE_mono (h A env Z io s ha he hk) fun c s1 ⟨hc,io1,x1,k1⟩=>⟨by rw [hc],io1,x1,k1⟩)
theorem sT_cmp {a b:Expr} {op p} {x y:D} {c:Bool} (h1:SoundE C lv kd ro a g x g1) (h2:SoundE C lv kd ro b g1 y g2) (e:cmpD op x y = some c) (hm:behindInMarks op b = false):SoundT C lv kd ro (.Compare a [op] [b] p) g c g2:=fun A env Z io s ha he hk=>by
 refine wpAny_isTrue_Compare1 ?_ hm
 refine noE_mono (h1 A env Z io s ha he hk) fun v s1 ⟨io1,x1,k1,hh⟩=>?_
 refine noE_mono (h2 A env Z io1 s1 ha (x1.env hk he) k1) fun u s2 ⟨io2,x2,k2,hu⟩=>?_
 refine noE_mono (cmpD_ok (E:=noE) e (x2.has C hh) hu (units_ok ha)) fun r s3 ⟨hr,kp⟩=>?_
 subst hr
 exact wpAny_truthy_bool ⟨rfl,io2,(x1.trans C x2).trans C (Keeps.grow C kp),Keeps.sok C kp k2⟩
theorem sT_if {t a b:Expr} {p} {c d:Bool} (h1:SoundT C lv kd ro t g c g1) (h2:SoundT C lv kd ro (if c then a else b) g1 d g'):SoundT C lv kd ro (.IfExp t a b p) g d g':=fun A env Z io s ha he hk=>by
 rw [arm_isTrue_IfExp]
 refine wpAny_bind (noE_mono (h1 A env Z io s ha he hk) fun c' s1 ⟨hc,io1,x1,k1⟩=>?_)
 subst hc
 have:=h2 A env Z io1 s1 ha (x1.env hk he) k1
 induction c' using Bool.casesOn<;>exact noE_mono this fun v s3 h3=>h3.after x1
theorem sT_and {tr:Expr→Sg→Option (Bool × Sg)} (htr:TrSound C lv kd ro tr) {p:Pos}:∀ (vs:List Expr) {g g'} {c:Bool},allK tr vs g = some (c,g')→∀ {A env Z io s},AOk A lv→EnvOk C kd Z io env ro s.heap→Sok C Z io g s→wpAny (model C.prog C.w) A (allTrue .And vs env) (PostB C Z io s c g') noE s
 | [],g,g',c,h,A,env,Z,io,s,ha,he,hk=>by
   injection (show some (true,g) = some (c,g') from h) with h;injection h with e0q e1q;subst e0q;subst e1q
   exact wpAny_allTrue_And_nil ⟨rfl,io,Grow.refl C,hk⟩
 | e::r,g,g',c,h,A,env,Z,io,s,ha,he,hk=>by
   refine ze2a (bindK_some h) fun b g1 h1 h2=>?_
   refine wpAny_allTrue_And_cons (noE_mono (htr e g b g1 h1 A env Z io s ha he hk) fun c' s1 ⟨hc,io1,x1,k1⟩=>?_)
   subst hc
   induction c' using Bool.casesOn with
   | true=>rw [if_pos rfl] at h2;exact noE_mono (sT_and htr (p:=p) r h2 ha (x1.env hk he) k1) fun v s3 h3=>h3.after x1
   | false =>
     rw [if_neg Bool.false_ne_true] at h2
     apply i2 h2
     exact ⟨rfl,io1,x1,k1⟩
theorem sT_or {tr:Expr→Sg→Option (Bool × Sg)} (htr:TrSound C lv kd ro tr) {p:Pos}:∀ (vs:List Expr) {g g'} {c:Bool},anyK tr vs g = some (c,g')→∀ {A env Z io s},AOk A lv→EnvOk C kd Z io env ro s.heap→Sok C Z io g s→wpAny (model C.prog C.w) A (allTrue .Or vs env) (PostB C Z io s c g') noE s
 | [],g,g',c,h,A,env,Z,io,s,ha,he,hk=>by
   injection (show some (false,g) = some (c,g') from h) with h;injection h with e0q e1q;subst e0q;subst e1q
   exact wpAny_allTrue_Or_nil ⟨rfl,io,Grow.refl C,hk⟩
 | e::r,g,g',c,h,A,env,Z,io,s,ha,he,hk=>by
   refine ze2a (bindK_some h) fun b g1 h1 h2=>?_
   refine wpAny_allTrue_Or_cons (noE_mono (htr e g b g1 h1 A env Z io s ha he hk) fun c' s1 ⟨hc,io1,x1,k1⟩=>?_)
   subst hc
   induction c' using Bool.casesOn with
   | false =>
     rw [if_neg Bool.false_ne_true] at h2
     exact noE_mono (sT_or htr (p:=p) r h2 ha (x1.env hk he) k1) fun v s3 h3=>h3.after x1
   | true =>
     rw [if_pos rfl] at h2
     apply i2 h2
     exact ⟨rfl,io1,x1,k1⟩
end Mine
end
section
set_option tactic.hygienic false
open PySem
set_option maxRecDepth 100000
namespace Mine
variable {C:Cst} {lv:Nat} {kd:Kd} {ro:Ro} {g g1 g2 g':Sg} {T:Tbl}
inductive DispV:List (Option Expr)→List Expr→List (Str × Str)→Prop
 | nil:DispV [] [] []
 | cons (a:Str) (k1:Nat) (p1:Pos) (ks:List (Option Expr)) (b:Str) (k2:Nat) (p2:Pos) (vs:List Expr) (l:List (Str × Str)) (hl:dispD ks vs = some l) (hb:strOk b = true) (hn:(l.any fun p=>p.1==a) = false):DispV (some (.Constant (.str a) k1 p1)::ks) (.Constant (.str b) k2 p2::vs) ((a,b)::l)
theorem disp_c {a:Str} {k1:Nat} {p1:Pos} {ks:List (Option Expr)} {b:Str} {k2:Nat} {p2:Pos} {vs:List Expr} {l:List (Str × Str)} (h:dispD (some (.Constant (.str a) k1 p1)::ks) (.Constant (.str b) k2 p2::vs) = some l):DispV (some (.Constant (.str a) k1 p1)::ks) (.Constant (.str b) k2 p2::vs) l:=by
 change (dispD ks vs).bind (fun l=>if (strOk b&&!(l.any fun p=>p.1==a)) = true then some ((a,b)::l) else none) = some l at h
 induction hl:dispD ks vs using Option.casesOn with
 | none=>rw [hl] at h;exact no_opt h
 | some l' =>
   rw [hl] at h
   refine za (if_some_v (c:=(strOk b&&!(l'.any fun p=>p.1==a)) = true) h) fun hc h=>?_
   injection h with h;subst h
   rw [Bool.and_eq_true] at hc
   exact .cons _ _ _ _ _ _ _ _ _ hl hc.1 (by simpa using hc.2)
theorem disp_v {ks:List (Option Expr)} {vs:List Expr} {l:List (Str × Str)} (h:dispD ks vs = some l):DispV ks vs l:=by
 induction ks using List.casesOn with
 | nil=>induction vs using List.casesOn with
   | nil=>(injection h with h;subst h);exact .nil
   | cons v vs=>exact no_opt h
 | cons k ks =>
   induction k using Option.casesOn with
   | none=>exact no_opt h
   | some e =>
     induction e using Expr.casesOn with
     | Constant c k1 p1 =>
       induction c using Const.casesOn with
       | str a =>
         induction vs using List.casesOn with
         | nil=>exact no_opt h
         | cons v vs =>
           induction v using Expr.casesOn with
           | Constant c k2 p2=>induction c using Const.casesOn<;>first | exact no_opt h | exact disp_c h
           | _=>exact no_opt h
       | _=>exact no_opt h
     | _=>exact no_opt h
theorem dispD_ok {A:Around} {env:Env} {pos:Pos}:∀ (ks:List (Option Expr)) (vs:List Expr) {l:List (Str × Str)},dispD ks vs = some l →
   ks.all (·.isSome) = true∧ks.length = vs.length∧(l.map (·.1)).Nodup∧(∀ p∈l,p.2.length≤lim) ∧
   ∀ s:Shared,wpAny (model C.prog C.w) A (evalPairs (pairTrees ks vs env pos)) (fun r s1=>∃ kvs:List (Str × Str × Tok),kvs.map (fun p=>(p.1,p.2.1)) = l∧Carries (strKind C.prog C.w) r (kvs.map fun p=>(p.1,Value.str p.2.1 p.2.2))∧∃ t,s1 = { s with toks:=t }) noE s:=by
 intro ks
 induction ks with
 | nil =>
   intro vs l h
   cases disp_v h
   exact ⟨rfl,rfl,List.nodup_nil,(fun J h=>(by cases h)),fun s=>pairTrees_nil_walk ⟨[],rfl,trivial,_,rfl⟩⟩
 | cons k ks ih =>
   intro vs l h
   have hv:=disp_v h
   clear h
   cases hv with
   | cons a k1 p1 _ b k2 p2 vs l' hl' hb hn =>
     refine za4 (ih vs hl') fun i1 i2 i3 i4 i5=>?_
     refine ⟨by simp [i1],by simp [i2],?_,?_,fun s=>?_⟩
     · rw [List.map_cons,List.nodup_cons]
       refine ⟨fun hm=>?_,i3⟩
       refine zea (List.mem_map.mp hm) fun q hq hqa=>?_
       rw [List.any_eq_false] at hn;exact hn q hq (beq_iff_eq.mpr hqa)
     · intro p hp
       rcases List.mem_cons.mp hp with rfl | hp
       · simpa [strOk] using hb
       · exact i4 p hp
     · refine pairTrees_cons_walk (wpAny_Constant_str (wpAny_Constant_str ?_))
       refine noE_mono (i5 _) ?_
       rintro r s1 ⟨kvs,e1,e2,t,rfl⟩
       refine ⟨(a,b,s.toks + 1)::kvs,by simp [e1],?_,t,rfl⟩
       show _∧_∧_
       exact ⟨by simp [strKind,Value.isStrOf],(by first | trivial | rfl),e2⟩
theorem merged_nodup {kvs:List (Str × Value)}:∀ (acc:List (Str × Value)),((acc++kvs).map (·.1)).Nodup→merged acc kvs = acc++kvs:=by
 induction kvs with
 | nil=>intro acc _;simp [merged]
 | cons p r ih =>
   intro acc h
   have hn:acc.any (fun kv=>decide (kv.1 = p.1)) = false:=by
     rw [List.any_eq_false]
     intro q hq
     simp only [decide_eq_true_eq]
     intro he
     rw [List.map_append,List.nodup_append] at h
     exact h.2.2 q.1 (List.mem_map_of_mem hq) p.1 (by simp) he
   have e1:stored acc p.1 p.2 = acc++[p]:=by
     unfold stored;rw [hn];rfl
   show merged (stored acc p.1 p.2) r = _
   rw [e1,ih _ (by simpa using h)]
   simp
theorem sE_dict {ks:List (Option Expr)} {vs:List Expr} {p:Pos} {l:List (Str × Str)} (hd:dispD ks vs = some l) (hn:(decide (ks.length≤12)&&ks.length != 0) = true):SoundE C lv kd ro (.Dict ks vs p) g (.dct l) g:=fun A env Z io s ha he hk=>by
 simp only [Bool.and_eq_true,decide_eq_true_eq,bne_iff_ne,ne_eq] at hn
 refine za4 (dispD_ok (C:=C) (A:=A) (env:=env) (pos:=p) ks vs hd) fun i1 i2 i3 i4 i5=>?_
 refine wpAny_Dict_walk (knd:=strKind C.prog C.w) i1 i2 (fun h0=>hn.2 (by rw [h0];rfl)) (by lia) ?_
 refine noE_mono (i5 _) ?_
 rintro r s1 ⟨kvs,e1,e2,t,rfl⟩
 refine ⟨_,e2,Heap.DictOf.new _,fun h' hdo hsb=>?_⟩
 have hnd:((([]:List (Str × Value))++kvs.map fun (p:Str × Str × Tok)=>(p.1,Value.str p.2.1 p.2.2)).map fun (p:Str × Value)=>p.1).Nodup:=by
   have:(l.map fun (p:Str × Str)=>p.1) = (kvs.map fun (p:Str × Str × Tok)=>(p.1,Value.str p.2.1 p.2.2)).map fun (p:Str × Value)=>p.1:=by rw [← e1,List.map_map,List.map_map];rfl
   rw [List.nil_append,← this];exact i3
 rw [merged_nodup [] hnd,List.nil_append] at hdo
 show Post C Z io s (.dct l) g _ { s with heap:=h',toks:=t + r.length }
 have kp:Keeps s { s with heap:=h',toks:=t + r.length }:=⟨_,_,rfl,fun b o e=>hsb.extBut b o (Nat.ne_of_lt (Heap.lt_size e)) (Heap.get?_push_of_some _ e)⟩
 refine post_pure hk ⟨kp,?_⟩
 refine ⟨_,rfl,fresh_notin hk,_,hdo.mapOf,fun x y hxy=>?_⟩
 have hm:(x,y)∈l:=by
   clear i1 i2 i3 i4 i5 hd hdo e1
   induction l with
   | nil=>injection hxy
   | cons q r ih =>
     obtain ⟨a,b⟩:=q
     induction hq:(x==a) using Bool.casesOn with
     | true =>
       rw [lk_hit hq] at hxy
       rw [beq_iff_eq.mp hq,Option.some.inj hxy];exact .head _
     | false=>rw [lk_miss hq] at hxy;exact .tail _ (ih hxy)
 refine ⟨i4 _ hm,?_⟩
 rw [← e1] at hm
 refine zea (List.mem_map.mp hm) fun q hq hqe=>?_
 simp only [Prod.mk.injEq] at hqe
 refine za hqe fun e0q e1q=>?_;clear hqe;subst e0q;subst e1q
 obtain ⟨i,hi,hqi⟩:=List.mem_iff_getElem.mp hq
 refine ⟨q.2.2,valueAt_of_get (i:=i) hnd ?_⟩
 simp [hi,hqi]
theorem comp_env {sc:Scope} {x:Str} (h:scopeOk sc kd x = true):(sc.kind = .function∧¬sc.names.lookup ("_split_list":Str) = some .globalImplicit)∧(∀ y∈sc.names,y.2≠.cell)∧(∀ y∈sc.names,y.2 = .local→sc.names.lookup y.1 = some .local)∧(∀ p∈sc.names,p.2 = .free→kd p.1 = some .cell∨kd p.1 = some .free)∧sc.names.lookup x = some .local:=by
 unfold scopeOk at h
 simp only [Bool.and_eq_true,beq_iff_eq,List.all_eq_true,Bool.or_eq_true,bne_iff_ne,ne_eq] at h
 refine za h fun e0q h3=>?_;clear h;obtain ⟨h1,h2⟩:=e0q
 refine ⟨h1,fun y hy=>(h2 y hy).1.1,fun y hy hl=>?_,fun p hp hf=>?_,h3.1.1⟩
 · rcases (h2 y hy).1.2 with h | h
   · exact absurd hl h
   · exact h
 · rcases (h2 p hp).2 with (h | h) | h
   · exact absurd hf h
   · exact .inl h
   · exact .inr h
set_option tactic.hygienic true in
theorem comp_envT {sc:Scope} {t:Expr} (h:scopeOkT sc kd t = true):(sc.kind = .function∧¬sc.names.lookup ("_split_list":Str) = some .globalImplicit)∧(∀ y∈sc.names,y.2≠.cell)∧(∀ y∈sc.names,y.2 = .local→sc.names.lookup y.1 = some .local)∧(∀ p∈sc.names,p.2 = .free→kd p.1 = some .cell∨kd p.1 = some .free)∧∃ ns,namesT t = some ns∧∀ y∈ns,sc.names.lookup y = some .local:=by
 unfold scopeOkT at h
 induction hns:namesT t using Option.casesOn with
 | none=>rw [hns] at h;injection h
 | some l =>
   rw [hns] at h
   induction l using List.casesOn with
   | nil=>injection h
   | cons x ns =>
     replace h:(scopeOk sc kd x&&ns.all (scopeOk sc kd)) = true:=h
     rw [Bool.and_eq_true,List.all_eq_true] at h
     refine za4 (comp_env h.1) fun h1 h2 h3 h4 h5=>⟨h1,h2,h3,h4,_,rfl,fun y hy=>?_⟩
     rcases List.mem_cons.mp hy with rfl | hy
     · exact h5
     · exact (comp_env (h.2 y hy)).2.2.2.2
theorem scope_gen {sc:Scope} {x:Str} (h:scopeOk sc kd x = true):sc.isCoroutine = false∧sc.isGenerator = false:=by
 unfold scopeOk at h
 simp only [Bool.and_eq_true,Bool.not_eq_true'] at h
 exact ⟨h.2.1.2,h.2.2⟩
noncomputable def SoundSrc (C:Cst) (lv:Nat) (kd:Kd) (ro:Ro) (e:Expr) (g:Sg) (ds:List D) (g':Sg):Prop :=
 ∀ A env Z io s,AOk A lv→EnvOk C kd Z io env ro s.heap→Sok C Z io g s→wpAny (model C.prog C.w) A (eval e env) (SrcPost C A Z Z io s ds g') noE s
structure CompOk (C:Cst) (lv:Nat) (elt:Expr) (ifs:List Expr) (scope:Scope) (tr el:Ro→Sg→Option (D × Sg)):Prop where
 tr:∀ A,AOk A lv→∀ ro g b g',tr ro g = some (.bool b,g')→∀ env' Z' io' s,EnvOk C (fun y=>scope.names.lookup y) Z' io' env' ro s.heap→Sok C Z' io' g s→wpAny (model C.prog C.w) A (testsOf ifs env') (PostB C Z' io' s b g') noE s
 el:∀ A,AOk A lv→∀ ro g d g',el ro g = some (d,g')→∀ env' Z' io' s,EnvOk C (fun y=>scope.names.lookup y) Z' io' env' ro s.heap→Sok C Z' io' g s→wpAny (model C.prog C.w) A (eval elt env') (Post C Z' io' s d g') noE s
theorem tests_ok {ifs:List Expr} {scope:Scope} {trx:Ro→Expr→Sg→Option (Bool × Sg)} (htr:∀ ro,TrSound C lv (fun y=>scope.names.lookup y) ro (trx ro)) :
   ∀ A,AOk A lv→∀ ro g b g',(match ifs with | []=>some (D.bool true,g) | [c]=>bindK (trx ro c g) fun b g=>some (.bool b,g) | _=>none) = some (.bool b,g')→∀ env' Z' io' s,EnvOk C (fun y=>scope.names.lookup y) Z' io' env' ro s.heap→Sok C Z' io' g s→wpAny (model C.prog C.w) A (testsOf ifs env') (PostB C Z' io' s b g') noE s:=by
 intro A ha ro g b g' h env' Z' io' s he hk
 unfold testsOf
 match ifs,h with
 | [],h =>
   simp only [Option.some.injEq,Prod.mk.injEq,D.bool.injEq] at h
   refine za h fun e0q e1q=>?_;clear h;subst e0q;subst e1q
   rw [List.forIn_nil]
   exact wpAny_pure ⟨rfl,io',Grow.refl C,hk⟩
 | [c],h =>
   refine ze2a (bindK_some h) fun b' g1 h1 h2=>?_
   simp only [Option.some.injEq,Prod.mk.injEq,D.bool.injEq] at h2
   refine za h2 fun e0q e1q=>?_;clear h2;subst e0q;subst e1q
   rw [List.forIn_cons]
   refine wpAny_bind ?_
   rw [if_pos rfl]
   refine wpAny_bind (noE_mono (htr ro c g b' g1 h1 A env' Z' io' s ha he hk) fun ok s1 h1=>wpAny_pure ?_)
   show wpAny _ _ (forIn [] ok _) _ _ _
   rw [List.forIn_nil]
   exact wpAny_pure h1
theorem folded_none {iter:Expr} {env:Env} (hs:∀ elts k p,iter≠.Set elts k p) (v:Value):foldedSetIterable iter env v = pure v:=by
 induction iter using Expr.casesOn<;>first | rfl | exact absurd rfl (hs _ _ _)
theorem sE_comp {elt iter t:Expr} {ifs:List Expr} {sc:Scope} {p:Pos} {ds ys:List D} {tr el:Ro→Sg→Option (D × Sg)} (hsc:scopeOkT sc kd t = true)
   (hsrc:SoundSrc C lv kd ro iter g ds g1) (hs:∀ elts k p,iter≠.Set elts k p) (hok:CompOk C lv elt ifs sc tr el)
   (hrun:compK tr el t (freeIn sc ro) ds g1 = some (ys,g2)) (hyl:ys.length≤lim):SoundE C lv kd ro (.ListComp elt [⟨t,iter,ifs,0⟩] sc p) g (.lst ys) g2:=fun A env Z io s ha he hk=>by
 refine za4ea (comp_envT hsc) fun h1 h2 h3 h4 ns hns h5=>?_
 rw [eval_ListComp]
 refine comp_ok (use:=none) ha hk he (hsrc A env Z io s ha he hk) (folded_none hs) h2 h1 hns h5 h3 h4 hrun hyl (hok.tr A ha) (hok.el A ha) ?_
 intro D' Cc s' io' m' xg kg hh hn hnone
 refine ⟨m',hn,fun h' hsb=>?_⟩
 have hkk:∀ b o,s'.heap.get? b = some o→b∉[Cc]→h'.get? b = some o:=fun b o e hb=>hsb.extBut b o (by simpa using hb) e
 have same:∃ h'' tk,({ s' with heap:=h' }:Shared) = { s' with heap:=h'',toks:=tk }:=⟨h',s'.toks,rfl⟩
 refine ⟨io',xg.drop (F:=[Cc]) same hkk fun f hf=>by simp only [List.mem_singleton] at hf;subst hf;exact hnone,Sok.drop (F:=[Cc]) kg same hkk fun f hf hz=>?_,Has.drop (F:=[Cc]) (s:=s') (s':={ s' with heap:=h' }) hh hkk⟩
 simp only [List.mem_singleton] at hf;subst hf
 refine ze (hk.zal f hz) fun o e=>?_
 rw [hnone] at e;injection e
theorem src_rangeE {ev:Expr→Sg→Option (D × Sg)} (r:RootOk C) (hev:EvSound C lv kd ro ev) {q p:Pos} {as:List Expr} {ys ds:List D} {a b c:Int}
   (hkd:kd ("range":Str) = some .globalImplicit) (hall:as.all plainE = true) (h2:evs ev as g = some (ys,g')) (hr:rangeSrc a b c = some ds) (hys:(ys = [.int b]∧a = 0∧c = 1)∨(ys = [.int a,.int b]∧c = 1)∨ys = [.int a,.int b,.int c]) :
   SoundSrc C lv kd ro (.Call (.Name "range" q) as [] p) g ds g':=fun A env Z io s ha he hk=>by
 refine PyProof.Rows.Call_ ?_ rfl
 refine Calls.Name_function_global he.fn (kind_global he hkd) (Calls.loadGlobal_builtin (env:=env) (by rw [he.gl];exact r.g.keeps hk.base) (r.nob _ (by decide)) (by rw [he.bi];exact r.b.keeps hk.base) ((r.bi _ (by decide)).trans (show bootBuiltins "range" = some (.type "range") by decide +kernel)) ?_) (by decide)
 refine callWith_type (anyStar as hall _ _) (evalArgs_of (firstPlain_all hall) (noE_mono (evs_ok hev as h2 ha he hk) fun vs s1 ⟨io1,x1,k1,hh⟩=>?_))
 have fin:∀ (rg:Addr) (s2:Shared) (t u v:Tok),Keeps s1 s2→IsRange s2.heap rg a b c t u v→SrcPost C A Z Z io s ds g' (.ref rg) s2:=fun rg s2 t u v kp hir =>
   ⟨io1,x1.trans C (Keeps.grow C kp),Keeps.sok C kp k1,src_range ha hr hir⟩
 rcases hys with ⟨rfl,rfl,rfl⟩ | ⟨rfl,rfl⟩ | rfl
 · simp only [HasL,Has] at hh
   refine ze2a2 hh fun J J e2q e3q e4q=>?_;clear hh;subst e2q;obtain ⟨t,rfl⟩:=e3q;subst e4q
   exact call_range_1 (fin _ _ _ _ _ Keeps.push (Heap.get?_push_size _ rfl))
 · simp only [HasL,Has] at hh
   refine ze2a2e2a2 hh fun J J e2q e3q J J e6q e7q e8q=>?_;clear hh;subst e2q;obtain ⟨t,rfl⟩:=e3q;subst e6q;obtain ⟨u,rfl⟩:=e7q;subst e8q
   exact call_range_2 (fin _ _ _ _ _ Keeps.push (Heap.get?_push_size _ rfl))
 · simp only [HasL,Has] at hh
   refine ze2a2e2a2e2a2 hh fun J J e2q e3q J J e6q e7q J J e10q e11q e12q=>?_;clear hh;subst e2q;obtain ⟨t,rfl⟩:=e3q;subst e6q;obtain ⟨u,rfl⟩:=e7q;subst e10q;obtain ⟨v,rfl⟩:=e11q;subst e12q
   unfold rangeSrc at hr
   split at hr
   case isFalse=>injection hr
   case isTrue hc =>
     simp only [Bool.and_eq_true,bne_iff_ne,ne_eq,Bool.not_eq_true',beq_iff_eq,decide_eq_true_eq] at hc
     exact call_range_3 hc.1.1.1.1 (fin _ _ _ _ _ (Keeps.push (k:=s1.toks)) (Heap.get?_push_size _ rfl)) (.inl hc.1.1.2)
end Mine
end
section
set_option tactic.hygienic false
open PySem
set_option maxRecDepth 100000
namespace Mine
noncomputable def notT:Expr→Bool
 | .UnaryOp .Not _ _=>false
 | .BoolOp ..=>false
 | .IfExp ..=>false
 | .Compare ..=>false
 | _=>true
/-! what an answer of the evaluator can come from,one row for each form -/
section
variable {T:Tbl} {n:Nat} {kd:Kd} {ro:Ro}
inductive PevV (T:Tbl) (n:Nat) (kd:Kd) (ro:Ro) (g:Sg) (r:D × Sg):Expr→Prop
 | c0 (k:Nat) (p:Pos) (h:some (D.none,g) = some r):PevV T n kd ro g r (.Constant .none k p)
 | cb (b:Bool) (k:Nat) (p:Pos) (h:some (D.bool b,g) = some r):PevV T n kd ro g r (.Constant (.bool b) k p)
 | ci (i:Int) (k:Nat) (p:Pos) (h:some (D.int i,g) = some r):PevV T n kd ro g r (.Constant (.int i) k p)
 | cs (s:Str) (k:Nat) (p:Pos) (h:(if strOk s then some (D.str s,g) else none) = some r):PevV T n kd ro g r (.Constant (.str s) k p)
 | name (x:Str) (p:Pos) (h:(if x==("__debug__":Str)||x==("__classdict__":Str) then none else (ro.lookup x).map (·,g)) = some r):PevV T n kd ro g r (.Name x p)
 | and (a b:Expr) (p:Pos) (h:(bindK (pev T n kd ro a g) fun x g=>match truthD x with
     | some true=>pev T n kd ro b g
     | some false=>some (x,g)
     | none=>none) = some r):PevV T n kd ro g r (.BoolOp .And [a,b] p)
 | or (a b:Expr) (p:Pos) (h:(bindK (pev T n kd ro a g) fun x g=>match truthD x with
     | some true=>some (x,g)
     | some false=>pev T n kd ro b g
     | none=>none) = some r):PevV T n kd ro g r (.BoolOp .Or [a,b] p)
 | bin (a:Expr) (op:Operator) (b:Expr) (p:Pos) (h:(bindK (pev T n kd ro a g) fun x g=>bindK (pev T n kd ro b g) fun y g=>(binD op x y).map (·,g)) = some r):PevV T n kd ro g r (.BinOp a op b p)
 | not (a:Expr) (p:Pos) (h:(bindK (pev T n kd ro a g) fun x g=>(truthD x).map fun b=>(D.bool (!b),g)) = some r):PevV T n kd ro g r (.UnaryOp .Not a p)
 | neg (a:Expr) (p:Pos) (h:(bindK (pev T n kd ro a g) fun x g=>match x with | .int i=>some (D.int (-i),g) | _=>none) = some r):PevV T n kd ro g r (.UnaryOp .USub a p)
 | ife (t a b:Expr) (p:Pos) (h:(bindK (pt T n kd ro t g) fun c g=>if c then pev T n kd ro a g else pev T n kd ro b g) = some r):PevV T n kd ro g r (.IfExp t a b p)
 | dict (ks:List (Option Expr)) (vs:List Expr) (p:Pos) (h:(if ks.length≤12&&ks.length != 0 then (dispD ks vs).map fun l=>(D.dct l,g) else none) = some r):PevV T n kd ro g r (.Dict ks vs p)
 | list (es:List Expr) (p:Pos) (h:(bindK (evs (pev T n kd ro) es g) fun ds g=>if ds.length≤lim then some (D.lst ds,g) else none) = some r):PevV T n kd ro g r (.List es p)
 | tup (es:List Expr) (k:Nat) (p:Pos) (h:(bindK (evs (pev T n kd ro) es g) fun ds g=>if ds.length≤lim then some (D.tup ds,g) else none) = some r):PevV T n kd ro g r (.Tuple es k p)
 | cmp (a:Expr) (op:CmpOp) (b:Expr) (p:Pos) (h:(bindK (pev T n kd ro a g) fun x g=>bindK (pev T n kd ro b g) fun y g=>(cmpD op x y).map fun c=>(D.bool c,g)) = some r):PevV T n kd ro g r (.Compare a [op] [b] p)
 | slice (a:Expr) (lo hi st:Option Expr) (q p:Pos) (h:(bindK (pev T n kd ro a g) fun x g =>
       bindK (evOpt (pev T n kd ro) lo g) fun l g=>bindK (evOpt (pev T n kd ro) hi g) fun h g=>bindK (evOpt (pev T n kd ro) st g) fun s g =>
         (sliceD x l h s).map (·,g)) = some r):PevV T n kd ro g r (.Subscript a (.Slice lo hi st q) p)
 | item (a i:Expr) (p:Pos) (h:(bindK (pev T n kd ro a g) fun x g=>bindK (pev T n kd ro i g) fun y g =>
       match x with
       | .hdr _=>match T.mt "__getitem__" with | some f=>f [x,y] g | none=>none
       | _=>(itemD x y).map (·,g)) = some r):PevV T n kd ro g r (.Subscript a i p)
 | comp (el t it:Expr) (ifs:List Expr) (sc:Scope) (p:Pos) (h:(if !scopeOkT sc kd t then none else
       bindK (psrc T n kd ro it g) fun ds g =>
         bindK (compK (fun ro g=>match ifs with
               | []=>some (.bool true,g)
               | [c]=>bindK (pt T n (fun x=>sc.names.lookup x) ro c g) fun b g=>some (.bool b,g)
               | _=>none)
             (fun ro g=>pev T n (fun x=>sc.names.lookup x) ro el g) t (freeIn sc ro) ds g)
           fun ys g=>if ys.length≤lim then some (D.lst ys,g) else none) = some r):PevV T n kd ro g r (.ListComp el [⟨t,it,ifs,0⟩] sc p)
 | meth (o:Expr) (m:Str) (q:Pos) (as:List Expr) (p:Pos) (h:(if notSuper o&&q.endLine==p.line&&decide (as.length < 20)&&as.all plainE then bindK (pev T n kd ro o g) fun x g=>bindK (evs (pev T n kd ro) as g) fun ys g=>pmeth T m x ys g
       else none) = some r):PevV T n kd ro g r (.Call (.Attribute o m q) as [] p)
 | spl (src body:Expr) (x:Str) (an:Pos) (sc:Scope) (lp q p:Pos) (h0:kd ("_split_list":Str) = some .globalImplicit) (h1:scopeOk sc kd x = true) (h:(bindK (pspl T n kd ro src g) fun ds g =>
             bindK (partD (fun d g=>bindK (pev T n (fun y=>sc.names.lookup y) ((x,d)::freeIn sc ro) body g) fun r g=>(truthD r).map (·,g)) ds g) fun p g =>
               some (D.tup [.lst p.1,.lst p.2],g)) = some r):PevV T n kd ro g r (.Call (.Name "_split_list" q) [src,.Lambda ⟨[],[⟨x,none,an⟩],none,[],[],none,[]⟩ body sc lp] [] p)
 | hdr (es:List Expr) (lq q p:Pos) (h0:kd ("Headers":Str) = some .globalImplicit) (h:(bindK (evs (pev T n kd ro) es g) fun ds g=>if ds.length≤lim then (match T.new with | some s=>s [.lst ds] g | none=>none) else none) = some r):PevV T n kd ro g r (.Call (.Name "Headers" q) [.List es lq] [] p)
 | call (f:Str) (q:Pos) (as:List Expr) (p:Pos) (h0:kd f = some .globalImplicit) (hd:(f==("__debug__":Str)) = false) (h1:firstPlain as = true) (h2:(builtinF f&&!(as.all plainE&&decide (as.length < 20))) = false) (h:(bindK (evs (pev T n kd ro) as g) fun ys g=>pcall T f ys g) = some r):PevV T n kd ro g r (.Call (.Name f q) as [] p)
noncomputable def splC (T:Tbl) (n:Nat) (kd:Kd) (ro:Ro) (g:Sg) (as:List Expr):Option (D × Sg) :=
 match as with
 | [src,.Lambda ⟨[],[⟨x,none,_⟩],none,[],[],none,[]⟩ body sc _] =>
   if !scopeOk sc kd x then none else
   bindK (pspl T n kd ro src g) fun ds g =>
     bindK (partD (fun d g=>bindK (pev T n (fun y=>sc.names.lookup y) ((x,d)::freeIn sc ro) body g) fun r g=>(truthD r).map (·,g)) ds g) fun p g =>
       some (.tup [.lst p.1,.lst p.2],g)
 | _=>none
noncomputable def hdrC (T:Tbl) (n:Nat) (kd:Kd) (ro:Ro) (g:Sg) (as:List Expr):Option (D × Sg) :=
 match as with
 | [.List es _]=>bindK (evs (pev T n kd ro) es g) fun ds g=>if ds.length≤lim then (match T.new with | some s=>s [.lst ds] g | none=>none) else none
 | _=>none
theorem spl_v {g:Sg} {r:D × Sg} {as:List Expr} {q p:Pos} (h0:kd ("_split_list":Str) = some .globalImplicit) (h:splC T n kd ro g as = some r):PevV T n kd ro g r (.Call (.Name "_split_list" q) as [] p):=by
 rcases as with _ | ⟨src,l⟩
 · exact no_opt h
 rcases l with _ | ⟨e,l⟩
 · exact no_opt h
 induction e using Expr.casesOn with
 | Lambda a body sc lp =>
   obtain ⟨po,ar,va,ko,kdf,kw,df⟩:=a
   rcases po with _ | ⟨o,po⟩
   · rcases ar with _ | ⟨⟨x,an,ap⟩,ar⟩
     · exact no_opt h
     rcases an with _ | an
     · rcases ar with _ | ⟨o,ar⟩
       · rcases va with _ | va
         · rcases ko with _ | ⟨o,ko⟩
           · rcases kdf with _ | ⟨o,kdf⟩
             · rcases kw with _ | kw
               · rcases df with _ | ⟨o,df⟩
                 · rcases l with _ | ⟨o,l⟩
                   · refine za (iff_none (c:=!scopeOk sc kd x) h) fun h1 h=>?_
                     exact .spl _ _ _ _ _ _ _ _ h0 (by simpa using h1) h
                   · exact no_opt h
                 · exact no_opt h
               · exact no_opt h
             · exact no_opt h
           · exact no_opt h
         · exact no_opt h
       · exact no_opt h
     · exact no_opt h
   · exact no_opt h
 | _=>exact no_opt h
theorem hdr_v {g:Sg} {r:D × Sg} {as:List Expr} {q p:Pos} (h0:kd ("Headers":Str) = some .globalImplicit) (h:hdrC T n kd ro g as = some r):PevV T n kd ro g r (.Call (.Name "Headers" q) as [] p):=by
 rcases as with _ | ⟨e,l⟩
 · exact no_opt h
 induction e using Expr.casesOn with
 | List es lq =>
   rcases l with _ | ⟨o,l⟩
   · exact .hdr _ _ _ _ h0 h
   · exact no_opt h
 | _=>exact no_opt h
theorem call_v {g:Sg} {r:D × Sg} {as:List Expr} {f:Str} {q p:Pos} (h:(if (kd f != some .globalImplicit||f==("__debug__":Str)) = true then none else if (f==("_split_list":Str)) = true then splC T n kd ro g as else if (f==("Headers":Str)) = true then hdrC T n kd ro g as
     else if (!firstPlain as) = true then none else if (builtinF f&&!(as.all plainE&&decide (as.length < 20))) = true then none else bindK (evs (pev T n kd ro) as g) fun ys g=>pcall T f ys g) = some r):PevV T n kd ro g r (.Call (.Name f q) as [] p):=by
 refine za (iff_none h) fun h0 h'=>?_
 clear h
 simp only [Bool.or_eq_false_iff,bne_eq_false_iff_eq] at h0
 by_cases c1:(f==("_split_list":Str)) = true
 · rw [if_pos c1] at h'
   have:=eq_of_beq c1
   subst this
   exact spl_v h0.1 h'
 rw [if_neg c1] at h'
 by_cases c2:(f==("Headers":Str)) = true
 · rw [if_pos c2] at h'
   have:=eq_of_beq c2
   subst this
   exact hdr_v h0.1 h'
 rw [if_neg c2] at h'
 refine za (iff_none h') fun h1 h=>?_
 refine za (iff_none h) fun h2 h=>?_
 exact .call _ _ _ _ h0.1 h0.2 (by simpa using h1) h2 h
theorem pev_v {e:Expr} {g:Sg} {r:D × Sg} (h:pev T (n + 1) kd ro e g = some r):PevV T n kd ro g r e:=by
 induction e using Expr.casesOn with
 | Constant c k p=>induction c using Const.casesOn<;>first | exact no_opt h | exact .c0 _ _ h | exact .cb _ _ _ h | exact .ci _ _ _ h | exact .cs _ _ _ h
 | Name x p=>exact .name _ _ h
 | BoolOp op vs p =>
   induction op using BoolOp.casesOn<;>rcases vs with _ | ⟨a,_ | ⟨b,_ | ⟨c,r⟩⟩⟩<;>first | exact no_opt h | exact .and _ _ _ h | exact .or _ _ _ h
 | BinOp a op b p=>exact .bin _ _ _ _ h
 | UnaryOp op a p=>induction op using UnaryOp.casesOn<;>first | exact no_opt h | exact .not _ _ h | exact .neg _ _ h
 | IfExp t a b p=>exact .ife _ _ _ _ h
 | Dict ks vs p=>exact .dict _ _ _ h
 | List es p=>exact .list _ _ h
 | Tuple es k p=>exact .tup _ _ _ h
 | Compare a ops cs p =>
   rcases ops with _ | ⟨op,_ | ⟨op2,ops⟩⟩
   · exact no_opt h
   · rcases cs with _ | ⟨b,_ | ⟨b2,cs⟩⟩
     · exact no_opt h
     · exact .cmp _ _ _ _ h
     · exact no_opt h
   · exact no_opt h
 | Subscript a i p=>induction i using Expr.casesOn<;>first | exact .slice _ _ _ _ _ _ h | exact .item _ _ _ h
 | ListComp el gens sc p =>
   rcases gens with _ | ⟨⟨t,it,ifs,as⟩,l⟩
   · exact no_opt h
   · rcases as with (_ | _) | _<;>rcases l with _ | ⟨g2,l⟩<;>first | exact .comp _ _ _ _ _ _ h | exact no_opt h
 | Call f as kws p =>
   induction kws using List.casesOn with
   | nil=>induction f using Expr.casesOn<;>first | exact no_opt h | exact .meth _ _ _ _ _ h | exact call_v h
   | cons k r=>induction f using Expr.casesOn<;>exact no_opt h
 | _=>exact no_opt h
inductive PtV (T:Tbl) (n:Nat) (kd:Kd) (ro:Ro) (g:Sg) (r:Bool × Sg):Expr→Prop
 | not (a:Expr) (p:Pos) (h:(bindK (pt T n kd ro a g) fun b g=>some (!b,g)) = some r):PtV T n kd ro g r (.UnaryOp .Not a p)
 | and (vs:List Expr) (p:Pos) (h:allK (fun e g=>pt T n kd ro e g) vs g = some r):PtV T n kd ro g r (.BoolOp .And vs p)
 | or (vs:List Expr) (p:Pos) (h:anyK (fun e g=>pt T n kd ro e g) vs g = some r):PtV T n kd ro g r (.BoolOp .Or vs p)
 | ife (t a b:Expr) (p:Pos) (h:(bindK (pt T n kd ro t g) fun c g=>if c then pt T n kd ro a g else pt T n kd ro b g) = some r):PtV T n kd ro g r (.IfExp t a b p)
 | cmp (a:Expr) (op:CmpOp) (b:Expr) (p:Pos) (h:(bindK (pev T n kd ro a g) fun x g=>bindK (pev T n kd ro b g) fun y g=>(cmpD op x y).map (·,g)) = some r):PtV T n kd ro g r (.Compare a [op] [b] p)
 | val (e:Expr) (h0:notT e = true) (h:(bindK (pev T n kd ro e g) fun x g=>(truthD x).map (·,g)) = some r):PtV T n kd ro g r e
theorem pt_v {e:Expr} {g:Sg} {r:Bool × Sg} (h:pt T (n + 1) kd ro e g = some r):PtV T n kd ro g r e:=by
 induction e using Expr.casesOn with
 | BoolOp op vs p =>
   induction op using BoolOp.casesOn with
   | And=>exact .and _ _ h
   | Or=>exact .or _ _ h
 | UnaryOp op a p=>induction op using UnaryOp.casesOn<;>first | exact .not _ _ h | exact .val _ rfl h
 | IfExp t a b p=>exact .ife _ _ _ _ h
 | Compare a ops cs p =>
   rcases ops with _ | ⟨op,_ | ⟨op2,ops⟩⟩
   · exact no_opt h
   · rcases cs with _ | ⟨b,_ | ⟨b2,cs⟩⟩
     · exact no_opt h
     · exact .cmp _ _ _ _ h
     · exact no_opt h
   · exact no_opt h
 | _=>exact .val _ rfl h
noncomputable def rangeY (ys:List D) (g:Sg):Option (List D × Sg):=match ys with
 | [.int b]=>(rangeSrc 0 b 1).map (·,g)
 | [.int a,.int b]=>(rangeSrc a b 1).map (·,g)
 | [.int a,.int b,.int c]=>(rangeSrc a b c).map (·,g)
 | _=>none
inductive RangeV (g:Sg) (r:List D × Sg):List D→Prop
 | r1 (b:Int) (h:(rangeSrc 0 b 1).map (·,g) = some r):RangeV g r [.int b]
 | r2 (a b:Int) (h:(rangeSrc a b 1).map (·,g) = some r):RangeV g r [.int a,.int b]
 | r3 (a b c:Int) (h:(rangeSrc a b c).map (·,g) = some r):RangeV g r [.int a,.int b,.int c]
theorem range_v {g:Sg} {r:List D × Sg} {ys:List D} (h:rangeY ys g = some r):RangeV g r ys:=by
 rcases ys with _ | ⟨d1,l⟩
 · exact no_opt h
 induction d1 using D.casesOn with
 | int a =>
   rcases l with _ | ⟨d2,l⟩
   · exact .r1 _ h
   induction d2 using D.casesOn with
   | int b =>
     rcases l with _ | ⟨d3,l⟩
     · exact .r2 _ _ h
     induction d3 using D.casesOn with
     | int c =>
       rcases l with _ | ⟨d4,l⟩
       · exact .r3 _ _ _ h
       · exact no_opt h
     | _=>exact no_opt h
   | _=>exact no_opt h
 | _=>exact no_opt h
inductive PsrcV (T:Tbl) (n:Nat) (kd:Kd) (ro:Ro) (g:Sg) (r:List D × Sg):Expr→Prop
 | range (q:Pos) (as:List Expr) (p:Pos) (h0:kd ("range":Str) = some .globalImplicit) (h1:as.all plainE = true) (h:(bindK (evs (pev T n kd ro) as g) rangeY) = some r):PsrcV T n kd ro g r (.Call (.Name "range" q) as [] p)
 | val (e:Expr) (h:(bindK (pev T n kd ro e g) fun d g=>(itemsD d).map (·,g)) = some r):PsrcV T n kd ro g r e
theorem srcC_v {g:Sg} {r:List D × Sg} {as:List Expr} {f:Str} {q p:Pos} (h:(if (f==("range":Str)) = true then (if (kd f != some .globalImplicit||!as.all plainE) = true then none else bindK (evs (pev T n kd ro) as g) rangeY)
   else bindK (pev T n kd ro (.Call (.Name f q) as [] p) g) fun d g=>(itemsD d).map (·,g)) = some r):PsrcV T n kd ro g r (.Call (.Name f q) as [] p):=by
 by_cases c:(f==("range":Str)) = true
 · rw [if_pos c] at h
   have:=eq_of_beq c
   subst this
   refine za (iff_none h) fun h0 h'=>?_
   simp only [Bool.or_eq_false_iff,bne_eq_false_iff_eq,Bool.not_eq_false'] at h0
   exact .range _ _ _ h0.1 h0.2 h'
 · rw [if_neg c] at h
   exact .val _ h
theorem psrc_v {e:Expr} {g:Sg} {r:List D × Sg} (h:psrc T (n + 1) kd ro e g = some r):PsrcV T n kd ro g r e:=by
 induction e using Expr.casesOn with
 | Call f as kws p =>
   induction f using Expr.casesOn with
   | Name f q =>
     induction kws using List.casesOn with
     | nil=>exact srcC_v h
     | cons k r=>exact .val _ h
   | _=>exact .val _ h
 | _=>exact .val _ h
noncomputable def zipY (x y:D) (g:Sg):Option (List D × Sg):=match x,y with
 | .lst l,.lst m=>some (pairsD l m,g)
 | _,_=>none
theorem zip_v {x y:D} {g:Sg} {r:List D × Sg} (h:zipY x y g = some r):∃ l m,x = .lst l∧y = .lst m∧r = (pairsD l m,g):=by
 induction x using D.casesOn with
 | lst l=>induction y using D.casesOn with
   | lst m=>(injection h with h;subst h);exact ⟨_,_,rfl,rfl,rfl⟩
   | _=>exact no_opt h
 | _=>exact no_opt h
inductive PsplV (T:Tbl) (n:Nat) (kd:Kd) (ro:Ro) (g:Sg) (r:List D × Sg):Expr→Prop
 | zip (q:Pos) (a b:Expr) (p:Pos) (h0:kd ("zip":Str) = some .globalImplicit) (h:(bindK (pev T n kd ro a g) fun x g=>bindK (pev T n kd ro b g) fun y g=>zipY x y g) = some r):PsplV T n kd ro g r (.Call (.Name "zip" q) [a,b] [] p)
 | val (e:Expr) (h:(bindK (pev T n kd ro e g) fun d g=>(itemsD d).map (·,g)) = some r):PsplV T n kd ro g r e
theorem splZ_v {g:Sg} {r:List D × Sg} {a b:Expr} {f:Str} {q p:Pos} (h:(if (f==("zip":Str)) = true then (if (kd f != some .globalImplicit) = true then none else bindK (pev T n kd ro a g) fun x g=>bindK (pev T n kd ro b g) fun y g=>zipY x y g)
   else none) = some r):PsplV T n kd ro g r (.Call (.Name f q) [a,b] [] p):=by
 by_cases c:(f==("zip":Str)) = true
 · rw [if_pos c] at h
   have:=eq_of_beq c
   subst this
   refine za (iff_none h) fun h0 h'=>?_
   simp only [bne_eq_false_iff_eq] at h0
   exact .zip _ _ _ _ h0 h'
 · rw [if_neg c] at h
   exact no_opt h
theorem pspl_v {e:Expr} {g:Sg} {r:List D × Sg} (h:pspl T (n + 1) kd ro e g = some r):PsplV T n kd ro g r e:=by
 induction e using Expr.casesOn with
 | Call f as kws p =>
   induction f using Expr.casesOn with
   | Name f q =>
     rcases as with _ | ⟨a,_ | ⟨b,_ | ⟨c,l⟩⟩⟩
     · exact .val _ h
     · exact .val _ h
     · induction kws using List.casesOn with
       | nil=>exact splZ_v h
       | cons k r=>exact .val _ h
     · exact .val _ h
   | _=>exact .val _ h
 | _=>exact .val _ h
end
end Mine
end
section
set_option tactic.hygienic false
open PySem
set_option maxRecDepth 100000
namespace Mine
section
variable {T:Tbl} {mu:List Str} {n:Nat} {kd:Kd} {fo:Fo} {g:Sg} {fl:Fl}
inductive PexV (T:Tbl) (mu:List Str) (n:Nat) (kd:Kd) (fo:Fo) (g:Sg) (fl:Fl):Stmt→Prop
 | name (x:Str) (q:Pos) (e:Expr) (p:Pos) (d:D) (fo1:Fo) (g1:Sg) (h0:canSet kd x = true) (he:evX (pev T n kd) fo e g = some (d,fo1,g1)) (hf:fl = .next (setE x (.val d) fo1) g1):PexV T mu n kd fo g fl (.Assign [.Name x q] e p)
 | own (ts:List Expr) (k1:Nat) (q:Pos) (es:List Expr) (k:Nat) (p p':Pos) (n1:List Str) (e1:List Expr) (z:Str) (e0:List Expr) (n2:List Str) (e2:List Expr) (d1:List D) (g1:Sg) (d0:List D) (g2:Sg) (d2:List D) (g3:Sg)
     (hw:swapF kd ts es = some none) (hs:splitM mu ts es = some (n1,e1,z,e0,n2,e2))
     (hc:(canSet kd z&&n1.all (canSet kd)&&n2.all (canSet kd)&&es.all plainE&&n2.length==e2.length&&decide (es.length < 20)) = true)
     (h1:evs (pev T n kd (rmOwn fo)) e1 g = some (d1,g1)) (h0:evs (pev T n kd (rmOwn fo)) e0 g1 = some (d0,g2)) (h2:evs (pev T n kd (rmOwn fo)) e2 g2 = some (d2,g3)) (hl:d0.length≤lim)
     (hf:fl = .next (setEs (n2.zip d2) (setE z (.own d0) (setEs (n1.zip d1) fo))) g3):PexV T mu n kd fo g fl (.Assign [.Tuple ts k1 q] (.Tuple es k p) p')
 | tup (ts:List Expr) (k1:Nat) (q:Pos) (es:List Expr) (k:Nat) (p p':Pos) (ds:List D) (fo1:Fo) (g1:Sg) (fo2:Fo) (g2:Sg) (hw:swapF kd ts es = some none) (he:evX (pev T n kd) fo (.Tuple es k p) g = some (.tup ds,fo1,g1))
     (hp:putT T n kd ts ds fo1 g1 = some (fo2,g2)) (hf:fl = .next fo2 g2):PexV T mu n kd fo g fl (.Assign [.Tuple ts k1 q] (.Tuple es k p) p')
 | swap (ts:List Expr) (k1:Nat) (q:Pos) (es:List Expr) (k:Nat) (p p':Pos) (names:List Str) (ds:List D) (fo1:Fo) (g1:Sg) (hw:swapF kd ts es = some (some names)) (he:evX (pev T n kd) fo (.Tuple es k p) g = some (.tup ds,fo1,g1))
     (hc:(namesOf ts==some names&&decide names.Nodup&&names.all (canSet kd)&&names.length==ds.length) = true) (hf:fl = .next (setEs (names.zip ds) fo1) g1):PexV T mu n kd fo g fl (.Assign [.Tuple ts k1 q] (.Tuple es k p) p')
 | tup2 (ts:List Expr) (k1:Nat) (q:Pos) (e:Expr) (p':Pos) (ds:List D) (fo1:Fo) (g1:Sg) (fo2:Fo) (g2:Sg) (hne:isTuple e = false) (he:evX (pev T n kd) fo e g = some (.tup ds,fo1,g1))
     (hp:putT T n kd ts ds fo1 g1 = some (fo2,g2)) (hf:fl = .next fo2 g2):PexV T mu n kd fo g fl (.Assign [.Tuple ts k1 q] e p')
 | item (o i:Expr) (q:Pos) (e:Expr) (p:Pos) (d:D) (fo1:Fo) (g1:Sg) (k:Nat) (g2:Sg) (j:D) (g3:Sg) (S:Summ) (r:D) (g4:Sg) (he:evX (pev T n kd) fo e g = some (d,fo1,g1)) (ho:pev T n kd (rmOwn fo1) o g1 = some (.hdr k,g2))
     (hi:pev T n kd (rmOwn fo1) i g2 = some (j,g3)) (hS:T.mt "__setitem__" = some S) (hs:S [.hdr k,j,d] g3 = some (r,g4)) (hf:fl = .next fo1 g4):PexV T mu n kd fo g fl (.Assign [.Subscript o i q] e p)
 | ret (e:Expr) (p:Pos) (d:D) (g1:Sg) (he:pev T n kd (frz fo) e g = some (d,g1)) (hf:fl = .ret d g1):PexV T mu n kd fo g fl (.Return (some e) p)
 | ifs (t:Expr) (a b:List Stmt) (p:Pos) (c:Bool) (g1:Sg) (he:pt T n kd (rmOwn fo) t g = some (c,g1)) (h:(if c then pexecs T mu n kd a fo g1 else pexecs T mu n kd b fo g1) = some fl):PexV T mu n kd fo g fl (.If t a b p)
 | fors (t it:Expr) (body:List Stmt) (p:Pos) (ds:List D) (g1:Sg) (he:psrc T n kd (rmOwn fo) it g = some (ds,g1)) (h:forK (fun fo g=>pexecs T mu n kd body fo g) kd t ds fo g1 = some fl):PexV T mu n kd fo g fl (.For t it body [] p)
 | whiles (t:Expr) (body:List Stmt) (p:Pos) (h:whileK (fun fo g=>pt T n kd (rmOwn fo) t g) (fun fo g=>pexecs T mu n kd body fo g) 100000 fo g = some fl):PexV T mu n kd fo g fl (.While t body [] p)
noncomputable def valK (x:Option (D × Fo × Sg)) (F:D→Fo→Sg→Option Fl):Option Fl:=match x with
 | some (d,fo,g)=>F d fo g
 | none=>none
theorem valK_v {x:Option (D × Fo × Sg)} {F:D→Fo→Sg→Option Fl} (h:valK x F = some fl):∃ d fo g,x = some (d,fo,g)∧F d fo g = some fl:=by
 induction x using Option.casesOn with
 | none=>exact no_opt h
 | some r=>exact ⟨r.1,r.2.1,r.2.2,rfl,h⟩
noncomputable def tupK (x:Option (D × Fo × Sg)) (F:List D→Fo→Sg→Option Fl):Option Fl:=match x with
 | some (.tup ds,fo,g)=>F ds fo g
 | _=>none
theorem tupK_v {x:Option (D × Fo × Sg)} {F:List D→Fo→Sg→Option Fl} (h:tupK x F = some fl):∃ ds fo g,x = some (.tup ds,fo,g)∧F ds fo g = some fl:=by
 rcases x with _ | ⟨d,fo1,g1⟩
 · exact no_opt h
 · induction d using D.casesOn with
   | tup ds=>exact ⟨_,_,_,rfl,h⟩
   | _=>exact no_opt h
noncomputable def hdrK (x:Option (D × Sg)) (F:Nat→Sg→Option Fl):Option Fl:=match x with
 | some (.hdr k,g)=>F k g
 | _=>none
theorem hdrK_v {x:Option (D × Sg)} {F:Nat→Sg→Option Fl} (h:hdrK x F = some fl):∃ k g,x = some (.hdr k,g)∧F k g = some fl:=by
 rcases x with _ | ⟨d,g1⟩
 · exact no_opt h
 · induction d using D.casesOn with
   | hdr k=>exact ⟨_,_,rfl,h⟩
   | _=>exact no_opt h
noncomputable def dK (x:Option (D × Sg)) (F:D→Sg→Option Fl):Option Fl:=match x with
 | some (d,g)=>F d g
 | none=>none
theorem dK_v {x:Option (D × Sg)} {F:D→Sg→Option Fl} (h:dK x F = some fl):∃ d g,x = some (d,g)∧F d g = some fl:=by
 induction x using Option.casesOn with
 | none=>exact no_opt h
 | some r=>exact ⟨r.1,r.2,rfl,h⟩
noncomputable def bK (x:Option (Bool × Sg)) (F:Bool→Sg→Option Fl):Option Fl:=match x with
 | some (d,g)=>F d g
 | none=>none
theorem bK_v {x:Option (Bool × Sg)} {F:Bool→Sg→Option Fl} (h:bK x F = some fl):∃ d g,x = some (d,g)∧F d g = some fl:=by
 induction x using Option.casesOn with
 | none=>exact no_opt h
 | some r=>exact ⟨r.1,r.2,rfl,h⟩
noncomputable def lK (x:Option (List D × Sg)) (F:List D→Sg→Option Fl):Option Fl:=match x with
 | some (d,g)=>F d g
 | none=>none
theorem lK_v {x:Option (List D × Sg)} {F:List D→Sg→Option Fl} (h:lK x F = some fl):∃ d g,x = some (d,g)∧F d g = some fl:=by
 induction x using Option.casesOn with
 | none=>exact no_opt h
 | some r=>exact ⟨r.1,r.2,rfl,h⟩
noncomputable def sumK (x:Option Summ) (F:Summ→Option Fl):Option Fl:=match x with
 | some f=>F f
 | none=>none
theorem sumK_v {x:Option Summ} {F:Summ→Option Fl} (h:sumK x F = some fl):∃ f,x = some f∧F f = some fl:=by
 induction x using Option.casesOn with
 | none=>exact no_opt h
 | some f=>exact ⟨f,rfl,h⟩
theorem put_v {x:Option (Fo × Sg)} (h:x.map (fun p=>Fl.next p.1 p.2) = some fl):∃ fo g,x = some (fo,g)∧fl = .next fo g:=by
 induction x using Option.casesOn with
 | none=>exact no_opt h
 | some r=>(injection h with h;subst h);exact ⟨r.1,r.2,rfl,rfl⟩
theorem bindF_v {α β:Type} {x:Option (α × Sg)} {f:α→Sg→Option β} {r:β} (h:bindF x f = some r):∃ a g,x = some (a,g)∧f a g = some r:=by
 induction x using Option.casesOn with
 | none=>exact no_opt h
 | some y=>exact ⟨y.1,y.2,rfl,h⟩
noncomputable def tupC (T:Tbl) (mu:List Str) (n:Nat) (kd:Kd) (fo:Fo) (g:Sg) (ts es:List Expr) (k:Nat) (p:Pos):Option (Option (List Str))→Option (List Str × List Expr × Str × List Expr × List Str × List Expr)→Option Fl
 | some none,some (n1,e1,z,e0,n2,e2) =>
   if !(canSet kd z&&n1.all (canSet kd)&&n2.all (canSet kd)&&es.all plainE&&n2.length==e2.length&&decide (es.length < 20)) then none else
   bindF (evs (pev T n kd (rmOwn fo)) e1 g) fun d1 g=>bindF (evs (pev T n kd (rmOwn fo)) e0 g) fun d0 g=>bindF (evs (pev T n kd (rmOwn fo)) e2 g) fun d2 g =>
     if d0.length≤lim then some (.next (setEs (n2.zip d2) (setE z (.own d0) (setEs (n1.zip d1) fo))) g) else none
 | some none,none=>tupK (evX (pev T n kd) fo (.Tuple es k p) g) fun ds fo g=>(putT T n kd ts ds fo g).map fun p=>.next p.1 p.2
 | some (some names),_=>tupK (evX (pev T n kd) fo (.Tuple es k p) g) fun ds fo g=>if namesOf ts==some names&&decide names.Nodup&&names.all (canSet kd)&&names.length==ds.length then some (.next (setEs (names.zip ds) fo) g) else none
 | none,_=>none
theorem tupC_v {ts es:List Expr} {k1 k:Nat} {q p p':Pos} (h:tupC T mu n kd fo g ts es k p (swapF kd ts es) (splitM mu ts es) = some fl):PexV T mu n kd fo g fl (.Assign [.Tuple ts k1 q] (.Tuple es k p) p'):=by
 induction hw:swapF kd ts es using Option.casesOn with
 | none=>rw [hw] at h;exact no_opt h
 | some o =>
   induction o using Option.casesOn with
   | none =>
     induction hs:splitM mu ts es using Option.casesOn with
     | none =>
       rw [hw,hs] at h
       refine ze3a (tupK_v h) fun ds fo1 g1 he h=>?_
       refine ze2a (put_v h) fun fo2 g2 hp hf=>?_
       exact .tup _ _ _ _ _ _ _ _ _ _ _ _ hw he hp hf
     | some r =>
       obtain ⟨n1,e1,z,e0,n2,e2⟩:=r
       rw [hw,hs] at h
       refine za (iff_none h) fun hc h=>?_
       refine ze2a (bindF_v h) fun d1 g1 h1 h=>?_
       refine ze2a (bindF_v h) fun d0 g2 h0 h=>?_
       refine ze2a (bindF_v h) fun d2 g3 h2 h=>?_
       refine za (if_some_v h) fun hl h=>?_
       exact .own _ _ _ _ _ _ _ _ _ _ _ _ _ _ _ _ _ _ _ hw hs (by simpa only [Bool.not_eq_false'] using hc) h1 h0 h2 hl (Option.some.inj h).symm
   | some names =>
     rw [hw] at h
     refine ze3a (tupK_v h) fun ds fo1 g1 he h=>?_
     refine za (if_some_v h) fun hc h=>?_
     exact .swap _ _ _ _ _ _ _ _ _ _ _ hw he hc (Option.some.inj h).symm
theorem tup2_v {ts:List Expr} {e:Expr} {k1:Nat} {q p':Pos} (hne:isTuple e = false) (h:(tupK (evX (pev T n kd) fo e g) fun ds fo g=>(putT T n kd ts ds fo g).map fun p=>Fl.next p.1 p.2) = some fl):PexV T mu n kd fo g fl (.Assign [.Tuple ts k1 q] e p'):=by
 refine ze3a (tupK_v h) fun ds fo1 g1 he h=>?_
 refine ze2a (put_v h) fun fo2 g2 hp hf=>?_
 exact .tup2 _ _ _ _ _ _ _ _ _ _ hne he hp hf
theorem name_v {x:Str} {e:Expr} {q p:Pos} (h:(if (!canSet kd x) = true then none else valK (evX (pev T n kd) fo e g) fun d fo g=>some (Fl.next (setE x (.val d) fo) g)) = some fl):PexV T mu n kd fo g fl (.Assign [.Name x q] e p):=by
 refine za (iff_none h) fun h0 h=>?_
 refine ze3a (valK_v h) fun d fo1 g1 he h=>?_
 exact .name _ _ _ _ _ _ _ (by simpa only [Bool.not_eq_false'] using h0) he (Option.some.inj h).symm
theorem item_v {o i e:Expr} {q p:Pos} (h:(valK (evX (pev T n kd) fo e g) fun d fo g=>hdrK (pev T n kd (rmOwn fo) o g) fun k g=>dK (pev T n kd (rmOwn fo) i g) fun j g=>sumK (T.mt "__setitem__") fun f=>dK (f [.hdr k,j,d] g) fun J g=>some (Fl.next fo g)) = some fl) :
   PexV T mu n kd fo g fl (.Assign [.Subscript o i q] e p):=by
 refine ze3a (valK_v h) fun d fo1 g1 he h=>?_
 refine ze2a (hdrK_v h) fun k g2 ho h=>?_
 refine ze2a (dK_v h) fun j g3 hi h=>?_
 refine zea (sumK_v h) fun S hS h=>?_
 refine ze2a (dK_v h) fun r g4 hs h=>?_
 exact .item _ _ _ _ _ _ _ _ _ _ _ _ _ _ _ he ho hi hS hs (Option.some.inj h).symm
theorem ret_v {e:Expr} {p:Pos} (h:(dK (pev T n kd (frz fo) e g) fun d g=>some (Fl.ret d g)) = some fl):PexV T mu n kd fo g fl (.Return (some e) p):=by
 refine ze2a (dK_v h) fun d g1 he h=>?_
 exact .ret _ _ _ _ he (Option.some.inj h).symm
theorem if_v {t:Expr} {a b:List Stmt} {p:Pos} (h:(bK (pt T n kd (rmOwn fo) t g) fun c g=>if c then pexecs T mu n kd a fo g else pexecs T mu n kd b fo g) = some fl):PexV T mu n kd fo g fl (.If t a b p):=by
 refine ze2a (bK_v h) fun c g1 he h=>?_
 exact .ifs _ _ _ _ _ _ he h
theorem for_v {t it:Expr} {body:List Stmt} {p:Pos} (h:(if (namesT t).isNone = true then none else lK (psrc T n kd (rmOwn fo) it g) fun ds g=>forK (fun fo g=>pexecs T mu n kd body fo g) kd t ds fo g) = some fl):PexV T mu n kd fo g fl (.For t it body [] p):=by
 refine za (iff_none h) fun J h=>?_
 refine ze2a (lK_v h) fun ds g1 he h=>?_
 exact .fors _ _ _ _ _ _ he h
theorem pex_v {st:Stmt} (h:pexec T mu (n + 1) kd st fo g = some fl):PexV T mu n kd fo g fl st:=by
 induction st using Stmt.casesOn with
 | Assign ts e p =>
   rcases ts with _ | ⟨t,l⟩
   · exact no_opt h
   induction t using Expr.casesOn with
   | Name x q =>
     rcases l with _ | ⟨t2,l⟩
     · exact name_v h
     · exact no_opt h
   | Tuple es k q =>
     rcases l with _ | ⟨t2,l⟩
     · induction e using Expr.casesOn<;>first | exact tupC_v h | exact tup2_v rfl h
     · exact no_opt h
   | Subscript o i q =>
     rcases l with _ | ⟨t2,l⟩
     · exact item_v h
     · exact no_opt h
   | _=>exact no_opt h
 | Return e p=>induction e using Option.casesOn with
   | none=>exact no_opt h
   | some e=>exact ret_v h
 | If t a b p=>exact if_v h
 | For t it body els p=>induction els using List.casesOn with
   | nil=>exact for_v h
   | cons a r=>exact no_opt h
 | While t body els p=>induction els using List.casesOn with
   | nil=>exact .whiles _ _ _ h
   | cons a r=>exact no_opt h
 | _=>exact no_opt h
theorem names_cons {t:Expr} {r:List Expr} {ns:List Str} (h:namesOf (t::r) = some ns):∃ x p m,t = .Name x p∧namesOf r = some m∧ns = x::m:=by
 induction t using Expr.casesOn with
 | Name x p =>
   change (namesOf r).map (x::·) = some ns at h
   induction hm:namesOf r using Option.casesOn with
   | none=>rw [hm] at h;exact no_opt h
   | some m=>rw [hm] at h;(injection h with h;subst h);exact ⟨_,_,_,rfl,rfl,rfl⟩
 | _=>exact no_opt h
noncomputable def ownK {α:Type} (x:Option EV) (F:List D→Option α):Option α:=match x with
 | some (.own l)=>F l
 | _=>none
theorem ownK_v {α:Type} {x:Option EV} {F:List D→Option α} {r:α} (h:ownK x F = some r):∃ l,x = some (.own l)∧F l = some r:=by
 induction x using Option.casesOn with
 | none=>exact no_opt h
 | some e=>induction e using EV.casesOn with
   | own l=>exact ⟨l,rfl,h⟩
   | val d=>exact no_opt h
noncomputable def dK2 {α:Type} (x:Option (D × Sg)) (F:D→Sg→Option α):Option α:=match x with
 | some (d,g)=>F d g
 | none=>none
theorem dK2_v {α:Type} {x:Option (D × Sg)} {F:D→Sg→Option α} {r:α} (h:dK2 x F = some r):∃ d g,x = some (d,g)∧F d g = some r:=by
 induction x using Option.casesOn with
 | none=>exact no_opt h
 | some y=>exact ⟨y.1,y.2,rfl,h⟩
noncomputable def lstK {α:Type} (x:Option (List D)) (F:List D→Option α):Option α:=match x with
 | some l=>F l
 | none=>none
theorem lstK_v {α:Type} {x:Option (List D)} {F:List D→Option α} {r:α} (h:lstK x F = some r):∃ l,x = some l∧F l = some r:=by
 induction x using Option.casesOn with
 | none=>exact no_opt h
 | some l=>exact ⟨l,rfl,h⟩
inductive PutV (T:Tbl) (n:Nat) (kd:Kd) (fo:Fo) (g:Sg) (r:Fo × Sg):List Expr→List D→Prop
 | nil (hr:r = (fo,g)):PutV T n kd fo g r [] []
 | name (x:Str) (q:Pos) (ts:List Expr) (d:D) (ds:List D) (h0:canSet kd x = true) (h:putT T n kd ts ds (setE x (.val d) fo) g = some r):PutV T n kd fo g r (.Name x q::ts) (d::ds)
 | sub (x:Str) (q:Pos) (i:Expr) (p:Pos) (ts:List Expr) (d:D) (ds:List D) (l:List D) (j:D) (g1:Sg) (l2:List D) (h0:(x==("__debug__":Str)) = false) (hl:fo.lookup x = some (.own l)) (hi:pev T n kd (rmOwn fo) i g = some (j,g1)) (hf:flat d = true)
     (hs:setAt l j d = some l2) (h:putT T n kd ts ds (setE x (.own l2) fo) g1 = some r):PutV T n kd fo g r (.Subscript (.Name x q) i p::ts) (d::ds)
theorem sub_v {x:Str} {q:Pos} {i:Expr} {p:Pos} {ts:List Expr} {d:D} {ds:List D} {r:Fo × Sg} (h:(if (x==("__debug__":Str)) = true then none else ownK (fo.lookup x) fun l=>dK2 (pev T n kd (rmOwn fo) i g) fun j g=>if flat d = true then (lstK (setAt l j d) fun l=>putT T n kd ts ds (setE x (.own l) fo) g) else none) = some r) :
   PutV T n kd fo g r (.Subscript (.Name x q) i p::ts) (d::ds):=by
 refine za (iff_none h) fun h0 h=>?_
 refine zea (ownK_v h) fun l hl h=>?_
 refine ze2a (dK2_v h) fun j g1 hi h=>?_
 refine za (if_some_v h) fun hf h=>?_
 refine zea (lstK_v h) fun l2 hs h=>?_
 exact .sub _ _ _ _ _ _ _ _ _ _ _ h0 hl hi hf hs h
set_option tactic.hygienic true in
theorem put_view {ts:List Expr} {ds:List D} {r:Fo × Sg} (h:putT T n kd ts ds fo g = some r):PutV T n kd fo g r ts ds:=by
 induction ts using List.casesOn with
 | nil=>induction ds using List.casesOn with
   | nil=>exact .nil (Option.some.inj h).symm
   | cons d ds=>exact no_opt h
 | cons t ts =>
   induction ds using List.casesOn with
   | nil=>induction t using Expr.casesOn<;>first | exact no_opt h | (rename_i o i p;induction o using Expr.casesOn<;>exact no_opt h)
   | cons d ds =>
     induction t using Expr.casesOn with
     | Name x q =>
       refine za (if_some_v (show (if canSet kd x = true then putT T n kd ts ds (setE x (.val d) fo) g else none) = some r from h)) fun h0 h=>?_
       exact .name _ _ _ _ _ h0 h
     | Subscript o i p=>induction o using Expr.casesOn<;>first | exact sub_v h | exact no_opt h
     | _=>exact no_opt h
inductive SplitV (mu:List Str):List Expr→List Expr→List Str × List Expr × Str × List Expr × List Str × List Expr→Prop
 | here (x:Str) (q:Pos) (ts es:List Expr) (p:Pos) (r:List Expr) (n2:List Str) (hn:namesOf ts = some n2):SplitV mu (.Name x q::ts) (.List es p::r) ([],[],x,es,n2,r)
 | next (x:Str) (q:Pos) (ts:List Expr) (e:Expr) (r:List Expr) (rr:List Str × List Expr × Str × List Expr × List Str × List Expr) (h:splitM mu ts r = some rr):SplitV mu (.Name x q::ts) (e::r) (x::rr.1,e::rr.2.1,rr.2.2)
theorem next_v {x:Str} {q:Pos} {ts:List Expr} {e:Expr} {r:List Expr} {rr:List Str × List Expr × Str × List Expr × List Str × List Expr} (h:((splitM mu ts r).map fun q=>(x::q.1,e::q.2.1,q.2.2)) = some rr):SplitV mu (.Name x q::ts) (e::r) rr:=by
 induction hq:splitM mu ts r using Option.casesOn with
 | none=>rw [hq] at h;exact no_opt h
 | some y=>rw [hq] at h;(injection h with h;subst h);exact .next _ _ _ _ _ _ hq
theorem split_view {ts es:List Expr} {rr:List Str × List Expr × Str × List Expr × List Str × List Expr} (h:splitM mu ts es = some rr):SplitV mu ts es rr:=by
 induction ts using List.casesOn with
 | nil=>exact no_opt h
 | cons t ts =>
   induction t using Expr.casesOn with
   | Name x q =>
     induction es using List.casesOn with
     | nil=>exact no_opt h
     | cons e r =>
       induction e using Expr.casesOn with
       | List es0 p =>
         change (if mu.contains x = true then (namesOf ts).map fun n2=>([],[],x,es0,n2,r) else (splitM mu ts r).map fun q=>(x::q.1,.List es0 p::q.2.1,q.2.2)) = some rr at h
         by_cases hc:mu.contains x = true
         · rw [if_pos hc] at h
           induction hn:namesOf ts using Option.casesOn with
           | none=>rw [hn] at h;exact no_opt h
           | some m=>rw [hn] at h;(injection h with h;subst h);exact .here _ _ _ _ _ _ _ hn
         · rw [if_neg hc] at h;exact next_v h
       | _=>exact next_v h
   | _=>exact no_opt h
end
end Mine
end
section
set_option tactic.hygienic false
open PySem
set_option maxRecDepth 100000
namespace Mine
variable {C:Cst} {lv:Nat} {kd:Kd} {ro:Ro} {g g1 g2 g':Sg} {T:Tbl}
theorem SoundE.up {lv':Nat} {e:Expr} {d:D} (x:SoundE C lv kd ro e g d g') (h:lv≤lv'):SoundE C lv' kd ro e g d g':=fun A env Z io s ha he hk=>x A env Z io s (ha.le h) he hk
theorem SoundT.up {lv':Nat} {e:Expr} {d:Bool} (x:SoundT C lv kd ro e g d g') (h:lv≤lv'):SoundT C lv' kd ro e g d g':=fun A env Z io s ha he hk=>x A env Z io s (ha.le h) he hk
theorem SoundSrc.up {lv':Nat} {e:Expr} {d:List D} (x:SoundSrc C lv kd ro e g d g') (h:lv≤lv'):SoundSrc C lv' kd ro e g d g':=fun A env Z io s ha he hk=>x A env Z io s (ha.le h) he hk
theorem EvSound.up {lv':Nat} {ev:Expr→Sg→Option (D × Sg)} (x:EvSound C lv kd ro ev) (h:lv≤lv'):EvSound C lv' kd ro ev:=fun e g d g' he=>(x e g d g' he).up h
theorem TrSound.up {lv':Nat} {tr:Expr→Sg→Option (Bool × Sg)} (x:TrSound C lv kd ro tr) (h:lv≤lv'):TrSound C lv' kd ro tr:=fun e g d g' he=>(x e g d g' he).up h
theorem CallOk.up {lv':Nat} {f:Value} {S:Summ} (x:CallOk C lv f S) (h:lv≤lv'):CallOk C lv' f S:=fun ds g d g' hs A Z io s vs ha hk hv=>x ds g d g' hs A Z io s vs (ha.le h) hk hv
theorem TblOk.up {lv':Nat} (x:TblOk C lv T) (h:lv≤lv'):TblOk C lv' T where
 fn:=fun f S hf=>let ⟨a,o,fd,h1,h2,h3,h4⟩:=x.fn f S hf;⟨a,o,fd,h1,h2,h3,h4.up h⟩
 mt:=fun f S hf=>let ⟨a,o,fd,h1,h2,h3,h4⟩:=x.mt f S hf;⟨a,o,fd,h1,h2,h3.up h,h4⟩
 new:=fun S hf=>let ⟨h1,h2,h3⟩:=x.new S hf;⟨h1,fun ds g d g' hs A Z io io1 s0 s a vs ha=>h2 ds g d g' hs A Z io io1 s0 s a vs (ha.le h),h3⟩
inductive ZipV (C:Cst) (Zi Z:List Addr) (io:HI) (ds:List D) (v:Value) (s:Shared):Prop
 | mk (z TI TO i1 i2 l1 l2:Addr) (xs ys:Array Value) (l m:List D) (e:v = .ref z) (ed:ds = pairsD l m) (za:ZipApart z TI TO i1 i2 l1 l2) (hz:IsZip s.heap z TI TO .none) (hI:IsPair s.heap TI (.ref i1) (.ref i2)) (hO:IsPair s.heap TO .none .none)
   (h1:s.heap.IsListIter i1 l1 0) (h2:s.heap.IsListIter i2 l2 0) (p1:s.heap.PlainList l1 xs∧HasL C (VV C io Z) io s.heap l xs.toList∧l1∉VV C io Z) (p2:s.heap.PlainList l2 ys∧HasL C (VV C io Z) io s.heap m ys.toList∧l2∉VV C io Z)
   (hl:l.length≤lim) (hm:m.length≤lim) (hi:∀ b∈[z,TI,TO,i1,i2],b∈Zi)
noncomputable def SplV (C:Cst) (Zi Z:List Addr) (io:HI) (ds:List D) (v:Value) (s:Shared):Prop:=(∃ d,itemsD d = some ds∧Has C (VV C io Z) io s.heap d v)∨ZipV C Zi Z io ds v s
noncomputable def SoundSpl (C:Cst) (lv:Nat) (kd:Kd) (ro:Ro) (e:Expr) (g:Sg) (ds:List D) (g':Sg):Prop :=
 ∀ A env Z io s,AOk A lv→EnvOk C kd Z io env ro s.heap→Sok C Z io g s→wpAny (model C.prog C.w) A (eval e env) (fun v s'=>∃ io' W,Grow C io io' s s'∧Sok C (W++Z) io' g' s'∧(∀ w∈W,s.heap.get? w = none)∧SplV C W (W++Z) io' ds v s') noE s
noncomputable def SplH (C:Cst) (T:Tbl):Prop:=∀ (lv:Nat) (ev:Kd→Ro→Expr→Sg→Option (D × Sg)),(∀ kd ro,EvSound C lv kd ro (ev kd ro))→∀ (kd:Kd) (ro:Ro) (src body:Expr) (x:Str) (an:Pos) (sc:Scope) (lp q p:Pos) (g g1 g2:Sg) (ds:List D) (pr:List D × List D),
 kd ("_split_list":Str) = some .globalImplicit→scopeOk sc kd x = true→plainE src = true→SoundSpl C (lv + 2) kd ro src g ds g1 →
 partD (fun d g=>bindK (ev (fun y=>sc.names.lookup y) ((x,d)::freeIn sc ro) body g) fun r g=>(truthD r).map (·,g)) ds g1 = some (pr,g2) →
 SoundE C (lv + 2) kd ro (.Call (.Name "_split_list" q) [src,.Lambda ⟨[],[⟨x,none,an⟩],none,[],[],none,[]⟩ body sc lp] [] p) g (.tup [.lst pr.1,.lst pr.2]) g2
theorem pev_notSet {n:Nat} {e:Expr} {r} (h:pev T n kd ro e g = some r):∀ elts k p,e≠.Set elts k p:=by
 intro elts k p he
 subst he
 induction n using Nat.casesOn<;>exact no_opt h
theorem behind_ok {n:Nat} {e:Expr} {r} {op:CmpOp} (h:pev T n kd ro e g = some r):behindInMarks op e = false:=by
 have:=pev_notSet h
 induction e using Expr.casesOn<;>first | rfl | exact absurd rfl (this _ _ _)
theorem pev_notSlice {n:Nat} {e:Expr} {r} (h:pev T n kd ro e g = some r):∀ l u st p,e≠.Slice l u st p:=by
 intro l u st p he
 subst he
 induction n using Nat.casesOn<;>exact no_opt h
theorem pev_plain {n:Nat} {e:Expr} {r} (h:pev T n kd ro e g = some r):plainE e = true:=by
 induction e using Expr.casesOn<;>first | rfl | (induction n using Nat.casesOn<;>exact no_opt h)
end Mine
end
section
set_option tactic.hygienic false
open PySem
set_option maxRecDepth 100000
namespace Mine
variable {C:Cst} {lv:Nat} {g g1 g2 g':Sg} {T:Tbl}
structure AllOk (C:Cst) (lv n:Nat) (T:Tbl):Prop where
 ev:∀ kd ro,EvSound C lv kd ro (pev T n kd ro)
 tr:∀ kd ro,TrSound C lv kd ro (pt T n kd ro)
 src:∀ kd ro e g ds g',psrc T n kd ro e g = some (ds,g')→SoundSrc C lv kd ro e g ds g'∧∀ elts k p,e≠.Set elts k p
 spl:∀ kd ro e g ds g',pspl T n kd ro e g = some (ds,g')→SoundSpl C lv kd ro e g ds g'∧plainE e = true
theorem if_none {α:Type} {c:Bool} {x:Option α} {r:α} (h:(if c = true then none else x) = some r):c = false∧x = some r:=by
 induction c using Bool.casesOn with
 | true=>simp at h
 | false=>exact ⟨rfl,by simpa using h⟩
theorem if_some {α:Type} {c:Prop} [Decidable c] {x:Option α} {r:α} (h:(if c then x else none) = some r):c∧x = some r:=by
 by_cases hc:c
 · rw [if_pos hc] at h;exact ⟨hc,h⟩
 · rw [if_neg hc] at h;injection h
theorem map_pair {α β:Type} {x:Option α} {g g':Sg} {f:α→β} {r:β} (h:x.map (fun a=>(f a,g)) = some (r,g')):∃ a,x = some a∧f a = r∧g = g':=by
 simp only [Option.map_eq_some_iff,Prod.mk.injEq] at h
 refine zea2 h fun a h1 h2 h3=>?_;clear h
 exact ⟨a,h1,h2,h3⟩
set_option tactic.hygienic true in
theorem ev_step (r:RootOk C) (tb:TblOk C lv T) (hspl:SplH C T) {n:Nat} (ih:AllOk C lv n T) (kd:Kd) (ro:Ro):EvSound C (lv + 2) kd ro (pev T (n + 1) kd ro):=by
 have up:lv≤lv + 2:=by lia
 have ev:∀ {e g d g'},pev T n kd ro e g = some (d,g')→SoundE C (lv + 2) kd ro e g d g':=fun h=>(ih.ev kd ro _ _ _ _ h).up up
 have tr:∀ {e g b g'},pt T n kd ro e g = some (b,g')→SoundT C (lv + 2) kd ro e g b g':=fun h=>(ih.tr kd ro _ _ _ _ h).up up
 have evS:EvSound C (lv + 2) kd ro (pev T n kd ro):=(ih.ev kd ro).up up
 intro e g d g' h
 have hv:=pev_v h
 clear h
 induction hv using PevV.casesOn<;>rename_i h
 · apply i2 h;exact sE_none
 · apply i2 h;exact sE_bool
 · apply i2 h;exact sE_int
 · refine za (if_some h) fun h1 h=>?_
   apply i2 h;exact sE_str h1
 · refine za (if_none h) fun h1 h=>?_
   refine zea2 (map_pair h) fun a h2 e2q e3q=>?_;subst e2q;subst e3q
   exact sE_name h2 (by rw [h1];decide)
 · refine ze2a (bindK_some h) fun x g1 h1 h=>?_
   induction ht:truthD x using Option.casesOn with
   | none=>rw [ht] at h;injection h
   | some c =>
     rw [ht] at h
     induction c using Bool.casesOn with
     | true=>exact sE_and (ev h1) ht (ev h)
     | false=>apply i2 h;exact sE_and (c:=false) (ev h1) ht ⟨rfl,rfl⟩
 · refine ze2a (bindK_some h) fun x g1 h1 h=>?_
   induction ht:truthD x using Option.casesOn with
   | none=>rw [ht] at h;injection h
   | some c =>
     rw [ht] at h
     induction c using Bool.casesOn with
     | true=>apply i2 h;exact sE_or (c:=true) (ev h1) ht ⟨rfl,rfl⟩
     | false=>exact sE_or (ev h1) ht (ev h)
 · refine ze2a (bindK_some h) fun x g1 h1 h=>?_
   refine ze2a (bindK_some h) fun y g2 h2 h=>?_
   refine zea2 (map_pair h) fun a h3 e2q e3q=>?_;subst e2q;subst e3q
   exact sE_bin (ev h1) (ev h2) h3
 · refine ze2a (bindK_some h) fun x g1 h1 h=>?_
   refine zea2 (map_pair h) fun a h3 e2q e3q=>?_;subst e2q;subst e3q
   exact sE_not (ev h1) h3
 · refine ze2a (bindK_some h) fun x g1 h1 h=>?_
   induction x using D.casesOn<;>first | exact no_opt h | skip
   apply i2 h;exact sE_neg (ev h1)
 · refine ze2a (bindK_some h) fun c g1 h1 h=>?_
   refine sE_if (tr h1) ?_
   induction c using Bool.casesOn<;>exact ev h
 · refine za (if_some h) fun h1 h=>?_
   refine zea2 (map_pair h) fun a h3 e2q e3q=>?_;subst e2q;subst e3q
   exact sE_dict h3 h1
 · refine ze2a (bindK_some h) fun ds g1 h1 h=>?_
   refine za (if_some h) fun h2 h=>?_
   apply i2 h
   exact sE_list evS h1 h2
 · refine ze2a (bindK_some h) fun ds g1 h1 h=>?_
   refine za (if_some h) fun h2 h=>?_
   apply i2 h
   exact sE_tup evS h1 h2
 · refine ze2a (bindK_some h) fun x g1 h1 h=>?_
   refine ze2a (bindK_some h) fun y g2 h2 h=>?_
   refine zea2 (map_pair h) fun a h3 e2q e3q=>?_;subst e2q;subst e3q
   exact sE_cmp (ev h1) (ev h2) h3 (behind_ok h2)
 · refine ze2a (bindK_some h) fun x g1 h1 h=>?_
   refine ze2a (bindK_some h) fun l g2 h2 h=>?_
   refine ze2a (bindK_some h) fun u g3 h3 h=>?_
   refine ze2a (bindK_some h) fun t g4 h4 h=>?_
   refine zea2 (map_pair h) fun a h5 e2q e3q=>?_;subst e2q;subst e3q
   exact sE_slice evS (ev h1) h2 h3 h4 h5
 · refine ze2a (bindK_some h) fun x g1 h1 h=>?_
   refine ze2a (bindK_some h) fun y g2 h2 h=>?_
   split at h
   · split at h
     · rename_i S hS
       exact sE_hitem (tb.up up) hS (ev h1) (ev h2) h (pev_notSlice h2)
     · injection h
   · refine zea2 (map_pair h) fun a h3 e2q e3q=>?_;subst e2q;subst e3q
     exact sE_item (ev h1) (ev h2) h3 (pev_notSlice h2)
 · refine za (if_none h) fun h0 h=>?_
   refine ze2a (bindK_some h) fun ds g1 h1 h=>?_
   refine ze2a (bindK_some h) fun ys g2 h2 h=>?_
   refine za (if_some h) fun h3 h=>?_
   apply i2 h
   have hs:=ih.src kd ro _ _ _ _ h1
   refine sE_comp (by simpa using h0) (hs.1.up up) hs.2 ⟨?_,?_⟩ h2 h3
   · exact tests_ok (trx:=fun ro c g=>pt T n _ ro c g) fun ro=>(ih.tr _ ro).up up
   · intro A ha ro g d g' h env' Z' io' s he hk
     exact ((ih.ev _ ro).up up) _ _ _ _ h A env' Z' io' s ha he hk
 · refine za (if_some h) fun h0 h=>?_
   simp only [Bool.and_eq_true,decide_eq_true_eq] at h0
   refine ze2a (bindK_some h) fun x g1 h1 h=>?_
   refine ze2a (bindK_some h) fun ys g2 h2 h=>?_
   exact sE_meth (tb.up up) evS h0.1.1.1 h0.1.1.2 h0.1.2 h0.2 (ev h1) h2 h
 · rename_i src body x an sc lp q p h0 h1
   refine ze2a (bindK_some h) fun ds g1 h2 h=>?_
   refine ze2a (bindK_some h) fun pr g2 h3 h=>?_
   apply i2 h
   have hsp:=ih.spl kd ro _ _ _ _ h2
   exact hspl lv (pev T n) ih.ev kd ro _ _ _ _ _ _ _ _ _ _ _ _ _ h0 h1 hsp.2 (fun A env Z io s ha he hk=>hsp.1 A env Z io s (ha.le up) he hk) h3
 · rename_i h0
   refine ze2a (bindK_some h) fun ds g1 h2 h=>?_
   refine za (if_some h) fun hl h=>?_
   induction hS:T.new using Option.casesOn with
   | none=>rw [hS] at h;injection h
   | some S =>
     rw [hS] at h
     exact sE_new r (tb.up up) hS evS h0 h2 hl h
 · rename_i h0 hd h1 h2
   refine ze2a (bindK_some h) fun ys g2 h3 h=>?_
   exact sE_call r (tb.up up) evS h0 hd h1 h2 h3 h
end Mine
end
section
set_option tactic.hygienic false
open PySem
set_option maxRecDepth 100000
namespace Mine
variable {C:Cst} {lv:Nat} {g g1 g2 g':Sg} {T:Tbl}
set_option tactic.hygienic true in
theorem tr_step {n:Nat} (ih:AllOk C lv n T) (kd:Kd) (ro:Ro):TrSound C (lv + 2) kd ro (pt T (n + 1) kd ro):=by
 have up:lv≤lv + 2:=by lia
 have ev:∀ {e g d g'},pev T n kd ro e g = some (d,g')→SoundE C (lv + 2) kd ro e g d g':=fun h=>(ih.ev kd ro _ _ _ _ h).up up
 have tr:∀ {e g b g'},pt T n kd ro e g = some (b,g')→SoundT C (lv + 2) kd ro e g b g':=fun h=>(ih.tr kd ro _ _ _ _ h).up up
 have trS:TrSound C (lv + 2) kd ro (pt T n kd ro):=(ih.tr kd ro).up up
 intro e g b g' h
 have hv:=pt_v h
 clear h
 cases hv<;>rename_i h
 · refine ze2a (bindK_some h) fun x g1 h1 h=>?_
   apply i2 h
   exact sT_not (tr h1)
 · exact fun A env Z io s ha he hk=>wpAny_isTrue_BoolOp (sT_and trS (p:=⟨0,0,0,0⟩) _ h ha he hk)
 · exact fun A env Z io s ha he hk=>wpAny_isTrue_BoolOp (sT_or trS (p:=⟨0,0,0,0⟩) _ h ha he hk)
 · refine ze2a (bindK_some h) fun c g1 h1 h=>?_
   refine sT_if (tr h1) ?_
   cases c<;>exact tr h
 · refine ze2a (bindK_some h) fun x g1 h1 h=>?_
   refine ze2a (bindK_some h) fun y g2 h2 h=>?_
   refine zea2 (map_pair h) fun a h3 e2q e3q=>?_;subst e2q;subst e3q
   exact sT_cmp (ev h1) (ev h2) h3 (behind_ok h2)
 · rename_i h0
   refine ze2a (bindK_some h) fun x g1 h1 h=>?_
   refine zea2 (map_pair h) fun a h3 e2q e3q=>?_;subst e2q;subst e3q
   refine sT_value (ev h1) h3 fun env whole=>?_
   cases e with
   | UnaryOp op x p=>cases op<;>first | rfl | injection h0
   | BoolOp op vs p=>injection h0
   | IfExp a b c p=>injection h0
   | Compare a ops cs p=>injection h0
   | _=>rfl
theorem src_plain {n:Nat} (ih:AllOk C lv n T) {kd:Kd} {ro:Ro} {e:Expr} {ds:List D} (h:(bindK (pev T n kd ro e g) fun d g=>(itemsD d).map (·,g)) = some (ds,g')) :
   SoundSrc C (lv + 2) kd ro e g ds g'∧∀ elts k p,e≠.Set elts k p:=by
 refine ze2a (bindK_some h) fun x g1 h1 h=>?_
 refine zea2 (map_pair h) fun a h3 e2q e3q=>?_;subst e2q;subst e3q
 refine ⟨fun A env Z io s ha he hk=>?_,pev_notSet h1⟩
 refine noE_mono (ih.ev kd ro _ _ _ _ h1 A env Z io s (ha.le (by lia)) he hk) fun v s1 ⟨io1,x1,k1,hh⟩=>?_
 exact ⟨io1,x1,k1,src_items ha h3 hh⟩
set_option tactic.hygienic true in
theorem src_step (r:RootOk C) {n:Nat} (ih:AllOk C lv n T) (kd:Kd) (ro:Ro) (e:Expr) (g:Sg) (ds:List D) (g':Sg) (h:psrc T (n + 1) kd ro e g = some (ds,g')):SoundSrc C (lv + 2) kd ro e g ds g'∧∀ elts k p,e≠.Set elts k p:=by
 have hv:=psrc_v h
 clear h
 induction hv using PsrcV.casesOn<;>rename_i h
 · rename_i q as p h0 h0'
   refine ze2a (bindK_some h) fun ys g1 h1 h=>?_
   refine ⟨?_,fun J J J=>nofun⟩
   have evS:EvSound C (lv + 2) kd ro (pev T n kd ro):=(ih.ev kd ro).up (by lia)
   have hy:=range_v h
   clear h
   induction hy using RangeV.casesOn<;>rename_i h
   · refine zea2 (map_pair h) fun a h3 e2q e3q=>?_;subst e2q;subst e3q
     exact src_rangeE r evS h0 h0' h1 h3 (.inl ⟨rfl,rfl,rfl⟩)
   · refine zea2 (map_pair h) fun a h3 e2q e3q=>?_;subst e2q;subst e3q
     exact src_rangeE r evS h0 h0' h1 h3 (.inr (.inl ⟨rfl,rfl⟩))
   · refine zea2 (map_pair h) fun a h3 e2q e3q=>?_;subst e2q;subst e3q
     exact src_rangeE r evS h0 h0' h1 h3 (.inr (.inr rfl))
 · exact src_plain ih h
theorem evs_cons_plain {ev:Expr→Sg→Option (D × Sg)} {e:Expr} {rest:List Expr} (h:plainE e = true):evs ev (e::rest) g = bindK (ev e g) fun d g=>bindK (evs ev rest g) fun ds g=>some (d::ds,g):=by
 induction e using Expr.casesOn<;>first | rfl | cases h
theorem apart_new {n l1 l2:Nat} (h1:l1 < n) (h2:l2 < n):ZipApart (n + 4) (n + 2) (n + 3) n (n + 1) l1 l2:=by
 constructor<;>(intro h;replace h:(_:Nat) = _:=h;lia)
theorem spl_plain {n:Nat} (ih:AllOk C lv n T) {kd:Kd} {ro:Ro} {e:Expr} {ds:List D} (h:(bindK (pev T n kd ro e g) fun d g=>(itemsD d).map (·,g)) = some (ds,g')) :
   SoundSpl C (lv + 2) kd ro e g ds g'∧plainE e = true:=by
 refine ze2a (bindK_some h) fun x g1 h1 h=>?_
 refine zea2 (map_pair h) fun a h3 e2q e3q=>?_;subst e2q;subst e3q
 refine ⟨fun A env Z io s ha he hk=>?_,pev_plain h1⟩
 refine noE_mono (ih.ev kd ro _ _ _ _ h1 A env Z io s (ha.le (by lia)) he hk) fun v s1 ⟨io1,x1,k1,hh⟩=>?_
 exact ⟨io1,[],x1,k1,by simp,.inl ⟨_,h3,hh⟩⟩
theorem fresh_ge {Z:List Addr} {io:HI} {s:Shared} (k:Sok C Z io g s) {b:Addr} (hb:s.heap.objs.size≤b):b∉VV C io Z∧C.H.get? b = none:=by
 have hn:s.heap.get? b = none:=by
   induction e:s.heap.get? b using Option.casesOn with
   | none=>rfl
   | some o=>exact absurd (Heap.lt_size e) (Nat.not_lt.mpr hb)
 refine ⟨fun hm=>?_,?_⟩
 · simp only [VV,List.mem_append] at hm
   rcases hm with (hm | hm) | hm
   · refine ze (k.val b hm) fun o e=>?_;rw [hn] at e;injection e
   · refine ze (k.st.alive C b hm) fun o e=>?_;rw [hn] at e;injection e
   · refine ze (k.zal b hm) fun o e=>?_;rw [hn] at e;injection e
 · induction e:C.H.get? b using Option.casesOn with
   | none=>rfl
   | some o=>have:=k.base b o e;rw [hn] at this;injection this
set_option tactic.hygienic true in
theorem spl_step (r:RootOk C) {n:Nat} (ih:AllOk C lv n T) (kd:Kd) (ro:Ro) (e:Expr) (g:Sg) (ds:List D) (g':Sg) (h:pspl T (n + 1) kd ro e g = some (ds,g')):SoundSpl C (lv + 2) kd ro e g ds g'∧plainE e = true:=by
 have hv:=pspl_v h
 clear h
 induction hv using PsplV.casesOn<;>rename_i h
 · rename_i q a b p h0
   refine ze2a (bindK_some h) fun x g1 h1 h=>?_
   refine ze2a (bindK_some h) fun y g2 h2 h=>?_
   have evS:EvSound C (lv + 2) kd ro (pev T n kd ro):=(ih.ev kd ro).up (by lia)
   refine ze2a2 (zip_v h) fun l m e2q e3q hr=>?_;subst e2q;subst e3q
   · simp only [Prod.mk.injEq] at hr;refine za hr fun e0q e1q=>?_;clear hr;subst e0q;subst e1q
     refine ⟨fun A env Z io s ha he hk=>?_,rfl⟩
     have hall:([a,b]:List Expr).all plainE = true:=by simp [pev_plain h1,pev_plain h2]
     have hes:evs (pev T n kd ro) [a,b] g = some ([.lst l,.lst m],g'):=by
       rw [evs_cons_plain (pev_plain h1),h1];show bindK (evs _ [b] _) _ = _
       rw [evs_cons_plain (pev_plain h2),h2];rfl
     refine PyProof.Rows.Call_ ?_ rfl
     refine Calls.Name_function_global he.fn (kind_global he h0) (Calls.loadGlobal_builtin (env:=env) (by rw [he.gl];exact r.g.keeps hk.base) (r.nob _ (by decide)) (by rw [he.bi];exact r.b.keeps hk.base) ((r.bi _ (by decide)).trans (show bootBuiltins "zip" = some (.type "zip") by decide +kernel)) ?_) (by decide)
     refine callWith_type (anyStar _ hall _ _) (evalArgs_of (firstPlain_all hall) (noE_mono (evs_ok evS _ hes ha he hk) fun vs s1 ⟨io1,x1,k1,hh⟩=>?_))
     refine ze2a2e2a2 hh fun J J e2q e3q J J e6q e7q e8q=>?_;clear hh;subst e2q;obtain ⟨hl1,a1,ws1,rfl,hv1,⟨n1,e1⟩,hs1⟩:=e3q;subst e6q;obtain ⟨hl2,a2,ws2,rfl,hv2,⟨n2,e2⟩,hs2⟩:=e7q;subst e8q
     refine call_zip_2 (xs:=ws1) (ys:=ws2) ⟨_,e1,rfl,_,rfl⟩ ⟨_,e2,rfl,_,rfl⟩ fun h' hz hTI hTO hi1 hi2 hsz hkk=>?_
     have kp:Keeps s1 { s1 with heap:=h' }:=⟨h',s1.toks,rfl,hkk⟩
     let W:List Addr:=[s1.heap.objs.size + 4,s1.heap.objs.size + 2,s1.heap.objs.size + 3,s1.heap.objs.size,s1.heap.objs.size + 1]
     have wge:∀ b∈W,s1.heap.objs.size≤b:=fun b hb=>by
       simp only [W,List.mem_cons,List.not_mem_nil,or_false] at hb
       rcases hb with rfl | rfl | rfl | rfl | rfl<;>first | exact Nat.le_refl _ | exact Nat.le_add_right _ _
     have wn:∀ b∈W,s1.heap.get? b = none:=fun b hb=>by
       induction e:s1.heap.get? b using Option.casesOn with
       | none=>rfl
       | some o=>exact absurd (Heap.lt_size e) (Nat.not_lt.mpr (wge b hb))
     have wa:∀ b∈W,∃ o,h'.get? b = some o:=fun b hb=>by
       simp only [W,List.mem_cons,List.not_mem_nil,or_false] at hb
       rcases hb with rfl | rfl | rfl | rfl | rfl
       · exact ⟨_,hz⟩
       · exact ⟨_,hTI⟩
       · exact ⟨_,hTO⟩
       · refine zea hi1 fun o e J=>?_;clear hi1;exact ⟨o,e⟩
       · refine zea hi2 fun o e J=>?_;clear hi2;exact ⟨o,e⟩
     have gW:=Keeps.grow C (io:=io1) kp
     have nW:∀ {a:Addr} {o:Obj},s1.heap.get? a = some o→a∉VV C io1 Z→a∉VV C io1 (W++Z):=fun e hv hm=>by
       simp only [VV,List.mem_append] at hm hv
       rcases hm with hm | hm | hm
       · exact hv (.inl hm)
       · rw [wn _ hm] at e;injection e
       · exact hv (.inr hm)
     have hL:∀ {l:List D} {vs:List Value},HasL C (VV C io1 Z) io1 s1.heap l vs→HasL C (VV C io1 (W++Z)) io1 h' l vs:=fun hh=>HasL.mono C (fun a o e hv=>⟨hkk a o e,nW e hv⟩) (fun J J e=>e) hh
     refine ⟨io1,W,x1.trans C gW,Sok.more_many k1 kp fun w hw=>⟨wn w hw,wa w hw⟩,fun w hw=>?_,.inr ⟨_,_,_,_,_,a1,a2,ws1,ws2,l,m,rfl,rfl,apart_new (Heap.lt_size e1) (Heap.lt_size e2),hz,hTI,hTO,hi1,hi2,⟨⟨_,hkk _ _ e1⟩,hL hs1,nW e1 hv1⟩,⟨⟨_,hkk _ _ e2⟩,hL hs2,nW e2 hv2⟩,hl1,hl2,fun b hb=>hb⟩⟩
     induction e:s.heap.get? w using Option.casesOn with
     | none=>rfl
     | some o=>refine ze (x1.alive w o e) fun o' e'=>?_;rw [wn w hw] at e';injection e'
 · exact spl_plain ih h
theorem all_ok (r:RootOk C) (hspl:SplH C T) (tb:TblOk C lv T):∀ n,AllOk C (lv + 2 * n) n T
 | 0=>by
   refine ⟨fun kd ro e g d g' h=>?_,fun kd ro e g d g' h=>?_,fun kd ro e g d g' h=>?_,fun kd ro e g d g' h=>?_⟩
   · exact no_opt h
   · exact no_opt h
   · exact no_opt h
   · exact no_opt h
 | n + 1=>by
   have ih:=all_ok r hspl tb n
   exact ⟨ev_step r (tb.up (Nat.le_add_right _ _)) hspl ih,tr_step ih,src_step r ih,spl_step r ih⟩
end Mine
end
section
set_option tactic.hygienic false
open PySem
set_option maxRecDepth 100000
namespace Mine
variable {C:Cst}
noncomputable def VarAt (kd:Kd) (env:Env) (h:Heap) (x:Str) (v:Value):Prop :=
 (kd x = some .local∧∃ m,h.Ns env.locals m∧m x = some v)∨(kd x = some .cell∧∃ c,env.cells.lookup x = some c∧h.IsCell c (some v))
noncomputable def EVal (C:Cst) (io:HI) (Z:List Addr) (O:List Addr) (h:Heap) (a:Addr):EV→Value→Prop
 | .val d,v=>Has C (VV C io Z) io h d v
 | .own l,v=>v = .ref a∧a∈O∧l.length≤lim∧∃ vs,h.PlainList a vs∧HasL C (VV C io Z) io h l vs.toList
structure Kp where
 p:Addr→Obj→Prop
 io:HI
structure Frm (C:Cst) (K:Kp) (kd:Kd) (s0:Shared) (io0:HI) (Z0:List Addr) (env:Env) (ad:Str→Addr) (O F:List Addr) (fo:Fo) (io:HI) (g:Sg) (s:Shared):Prop where
 grow:Grow C io0 io s0 s
 fresh:∀ f∈O++F,s0.heap.get? f = none
 sok:Sok C (O++(F++Z0)) io g s
 kdo:∀ x,env.kindOf x = kd x
 fn:env.scope.kind = .function
 bk:env.blockKind = .function
 gl:env.globals = mainGlobals
 bi:env.builtins = builtinsNs
 cd:kd ("_split_list":Str) = some .globalImplicit→∃ c P q,(c,P,q)∈C.spc∧env.code = .ref c∧env.qual = q
 lF:env.locals∈F
 ns:∃ m,s.heap.Ns env.locals m
 all:∀ x,kd x = some .cell→∃ c v,env.cells.lookup x = some c∧s.heap.IsCell c v∧c∈F∧c≠env.locals
 inj:∀ x y c,kd x = some .cell→kd y = some .cell→env.cells.lookup x = some c→env.cells.lookup y = some c→x = y
 nofree:∀ x,kd x≠some .free
 vals:∀ x ev,fo.lookup x = some ev→∃ v,VarAt kd env s.heap x v∧EVal C io (O++(F++Z0)) O s.heap (ad x) ev v
 olist:∀ a∈O,∃ vs,s.heap.PlainList a vs
 disj:∀ a∈O,a∉F++Z0
 apart:∀ x y l l',x≠y→fo.lookup x = some (.own l)→fo.lookup y = some (.own l')→ad x≠ad y
 nd:(fo.map (·.1)).Nodup
 kept:∀ b o,K.p b o→s.heap.get? b = some o∧b∉C.vt∧b∉adr io∧b∉O∧b∉F
 pref:∀ (k:Nat) t,K.io[k]? = some t→io[k]? = some t
theorem lookup_none_of {β:Type} {x:Str}:∀ {l:List (Str × β)},x∉l.map (·.1)→l.lookup x = none
 | [],_=>rfl
 | (y,v)::r,h=>by
   simp only [List.map_cons,List.mem_cons,not_or] at h
   have hb:(x==y) = false:=by simpa using h.1
   simp only [List.lookup,hb]
   exact lookup_none_of h.2
theorem mem_of_rm {x:Str}:∀ {fo:Fo},x∈(rmOwn fo).map (·.1)→x∈fo.map (·.1)
 | [],h=>h
 | (y,.val d)::r,h=>by
   simp only [rmOwn,List.map_cons,List.mem_cons] at h ⊢
   rcases h with h | h
   · exact .inl h
   · exact .inr (mem_of_rm h)
 | (y,.own d)::r,h=>by
   simp only [rmOwn,List.map_cons,List.mem_cons] at h ⊢
   exact .inr (mem_of_rm h)
theorem mem_of_lookup {β:Type} {x:Str} {v:β}:∀ {l:List (Str × β)},l.lookup x = some v→x∈l.map (·.1)
 | [],h=>by injection h
 | (y,w)::r,h=>by
   simp only [List.map_cons,List.mem_cons]
   by_cases hb:(x==y) = true
   · exact .inl (by simpa using hb)
   · have hb':(x==y) = false:=by simpa using hb
     simp only [List.lookup,hb'] at h
     exact .inr (mem_of_lookup h)
theorem rm_lookup {x:Str} {d:D}:∀ {fo:Fo},(fo.map (·.1)).Nodup→(rmOwn fo).lookup x = some d→fo.lookup x = some (.val d)
 | [],_,h=>by injection h
 | (y,.val e)::r,hn,h=>by
   simp only [List.map_cons,List.nodup_cons] at hn
   simp only [rmOwn] at h
   by_cases hb:(x==y) = true
   · simp only [List.lookup,hb,Option.some.injEq] at h ⊢;rw [h]
   · have hb':(x==y) = false:=by simpa using hb
     simp only [List.lookup,hb'] at h ⊢
     exact rm_lookup hn.2 h
 | (y,.own e)::r,hn,h=>by
   simp only [List.map_cons,List.nodup_cons] at hn
   simp only [rmOwn] at h
   have hx:=mem_of_rm (mem_of_lookup h)
   have hb':(x==y) = false:=by
     have:x≠y:=fun he=>hn.1 (he ▸ hx)
     simpa using this
   simp only [List.lookup,hb']
   exact rm_lookup hn.2 h
theorem frz_lookup {x:Str} {d:D}:∀ {fo:Fo},(frz fo).lookup x = some d→fo.lookup x = some (.val d)∨∃ l,d = .lst l∧fo.lookup x = some (.own l)
 | [],h=>by injection h
 | (y,.val e)::r,h=>by
   simp only [frz] at h
   by_cases hb:(x==y) = true
   · simp only [List.lookup,hb,Option.some.injEq] at h ⊢;exact .inl (by rw [h])
   · have hb':(x==y) = false:=by simpa using hb
     simp only [List.lookup,hb'] at h ⊢
     exact frz_lookup h
 | (y,.own e)::r,h=>by
   simp only [frz] at h
   by_cases hb:(x==y) = true
   · simp only [List.lookup,hb,Option.some.injEq] at h ⊢;exact .inr ⟨e,h.symm,rfl⟩
   · have hb':(x==y) = false:=by simpa using hb
     simp only [List.lookup,hb'] at h ⊢
     exact frz_lookup h
theorem frzF_lookup {x:Str} {ev:EV}:∀ {fo:Fo},(frzF fo).lookup x = some ev→∃ d,ev = .val d∧(frz fo).lookup x = some d
 | [],h=>by injection h
 | (y,.val e)::r,h=>by
   simp only [frzF,frz] at h ⊢
   by_cases hb:(x==y) = true
   · simp only [List.lookup,hb,Option.some.injEq] at h ⊢;exact ⟨_,h.symm,rfl⟩
   · have hb':(x==y) = false:=by simpa using hb
     simp only [List.lookup,hb'] at h ⊢
     exact frzF_lookup h
 | (y,.own e)::r,h=>by
   simp only [frzF,frz] at h ⊢
   by_cases hb:(x==y) = true
   · simp only [List.lookup,hb,Option.some.injEq] at h ⊢;exact ⟨_,h.symm,rfl⟩
   · have hb':(x==y) = false:=by simpa using hb
     simp only [List.lookup,hb'] at h ⊢
     exact frzF_lookup h
theorem frzF_keys:∀ (fo:Fo),(frzF fo).map (·.1) = fo.map (·.1)
 | []=>rfl
 | (y,.val e)::r=>by simp only [frzF,List.map_cons];rw [frzF_keys r]
 | (y,.own e)::r=>by simp only [frzF,List.map_cons];rw [frzF_keys r]
section
variable {K:Kp} {kd:Kd} {s0:Shared} {io0:HI} {Z0:List Addr} {env:Env} {ad:Str→Addr} {O F:List Addr} {fo:Fo} {io io':HI} {g g':Sg} {s s':Shared}
theorem Frm.envR (x:Frm C K kd s0 io0 Z0 env ad O F fo io g s):EnvOk C kd (O++(F++Z0)) io env (rmOwn fo) s.heap where
 kdo:=fun y=>.inl (x.kdo y)
 fn:=x.fn
 gl:=x.gl
 bi:=x.bi
 cd:=x.cd
 lz:=List.mem_append_right _ (List.mem_append_left _ x.lF)
 nsx:=by
   refine ze x.ns fun m hn=>?_
   refine ⟨m,hn,fun y d hy hk=>?_⟩
   refine zea (x.vals y _ (rm_lookup x.nd hy)) fun v hv he=>?_
   rcases hv with ⟨_,m',hn',hm'⟩ | ⟨hc,_⟩
   · refine ze3a3 hn fun o es ep e1 e2 J e3=>?_;clear hn
     refine ze3a3 hn' fun o' es' ep' e1' e2' J e3'=>?_;clear hn'
     rw [e1] at e1';(injection e1' with e1';subst e1')
     rw [e2] at e2';(injection e2' with e2'1 e2'2;subst e2'1;subst e2'2)
     exact ⟨v,by rw [← e3,e3',hm'],he⟩
   · rw [hk] at hc;(injection hc with hc;injection hc)
 cel:=fun y d hy hk=>by
   refine zea (x.vals y _ (rm_lookup x.nd hy)) fun v hv he=>?_
   rcases hv with ⟨hl,_⟩ | ⟨hc,c,h1,h2⟩
   · exact absurd hl hk
   · exact ⟨.inl hc,c,v,h1,h2,he⟩
 all:=fun y hk=>by
   rcases hk with hk | hk
   · refine ze2a3 (x.all y hk) fun c v h1 h2 h3 J=>?_
     exact ⟨c,v,h1,h2,List.mem_append_right _ (List.mem_append_left _ h3)⟩
   · exact absurd hk (x.nofree y)
theorem Frm.lessSok (x:Frm C K kd s0 io0 Z0 env ad O F fo io g s):Sok C (F++Z0) io g s:=x.sok.less C fun z hz=>List.mem_append_right _ hz
theorem Frm.ownVal (x:Frm C K kd s0 io0 Z0 env ad O F fo io g s) {a:Addr} (ha:a∈O):a∉VV C io (F++Z0):=by
 have:=x.sok.zd a (List.mem_append_left _ ha)
 intro hm
 have hm':(a∈C.vt∨a∈adr io)∨a∈F++Z0:=by
   rcases List.mem_append.mp hm with h | h
   · exact .inl (List.mem_append.mp h)
   · exact .inr h
 rcases hm' with (h | h) | h
 · exact this.1 h
 · exact this.2.1 h
 · exact x.disj a ha h
theorem Frm.frzVal (x:Frm C K kd s0 io0 Z0 env ad O F fo io g s) {y:Str} {d:D} (hy:(frz fo).lookup y = some d):∃ v,VarAt kd env s.heap y v∧Has C (VV C io (F++Z0)) io s.heap d v:=by
 rcases frz_lookup hy with h | ⟨l,rfl,h⟩
 · refine zea (x.vals y _ h) fun v hv he=>?_
   exact ⟨v,hv,Has.less C he fun z hz=>List.mem_append_right _ hz⟩
 · refine zea4ea (x.vals y _ h) fun v hv e2q ha hl vs hp hs=>?_;subst e2q
   refine ⟨_,hv,?_⟩
   exact ⟨hl,_,vs,rfl,x.ownVal ha,hp,HasL.mono C (fun a o e hn=>⟨e,fun hm=>hn (by
     rcases List.mem_append.mp hm with h | h
     · exact List.mem_append_left _ h
     · exact List.mem_append_right _ (List.mem_append_right _ h))⟩) (fun J J e=>e) hs⟩
theorem Frm.envZ (x:Frm C K kd s0 io0 Z0 env ad O F fo io g s):EnvOk C kd (F++Z0) io env (frz fo) s.heap where
 kdo:=fun y=>.inl (x.kdo y)
 fn:=x.fn
 gl:=x.gl
 bi:=x.bi
 cd:=x.cd
 lz:=List.mem_append_left _ x.lF
 nsx:=by
   refine ze x.ns fun m hn=>?_
   refine ⟨m,hn,fun y d hy hk=>?_⟩
   refine zea (x.frzVal hy) fun v hv he=>?_
   rcases hv with ⟨_,m',hn',hm'⟩ | ⟨hc,_⟩
   · refine ze3a3 hn fun o es ep e1 e2 J e3=>?_;clear hn
     refine ze3a3 hn' fun o' es' ep' e1' e2' J e3'=>?_;clear hn'
     rw [e1] at e1';(injection e1' with e1';subst e1')
     rw [e2] at e2';(injection e2' with e2'1 e2'2;subst e2'1;subst e2'2)
     exact ⟨v,by rw [← e3,e3',hm'],he⟩
   · rw [hk] at hc;(injection hc with hc;injection hc)
 cel:=fun y d hy hk=>by
   refine zea (x.frzVal hy) fun v hv he=>?_
   rcases hv with ⟨hl,_⟩ | ⟨hc,c,h1,h2⟩
   · exact absurd hl hk
   · exact ⟨.inl hc,c,v,h1,h2,he⟩
 all:=fun y hk=>by
   rcases hk with hk | hk
   · refine ze2a3 (x.all y hk) fun c v h1 h2 h3 J=>?_
     exact ⟨c,v,h1,h2,List.mem_append_left _ h3⟩
   · exact absurd hk (x.nofree y)
theorem VarAt.keep {h h':Heap} {y:Str} {v:Value} (x:VarAt kd env h y v) (hl:∀ o,h.get? env.locals = some o→h'.get? env.locals = some o) (hc:∀ c o,kd y = some .cell→env.cells.lookup y = some c→h.get? c = some o→h'.get? c = some o):VarAt kd env h' y v:=by
 rcases x with ⟨h1,m,hn,hm⟩ | ⟨h1,c,h2,o,h3,h4⟩
 · exact .inl ⟨h1,m,hn.at' hl,hm⟩
 · exact .inr ⟨h1,c,h2,o,hc c o h1 h2 h3,h4⟩
theorem Frm.step (x:Frm C K kd s0 io0 Z0 env ad O F fo io g s) (y:Grow C io io' s s') (k:Sok C (O++(F++Z0)) io' g' s'):Frm C K kd s0 io0 Z0 env ad O F fo io' g' s':=by
 have keep:∀ b∈O++(F++Z0),∀ o,s.heap.get? b = some o→s'.heap.get? b = some o:=fun b hb o e=>y.keep b o e (x.sok.zd b hb).1 (x.sok.zd b hb).2.1
 have inF:∀ b∈F,b∈O++(F++Z0):=fun b hb=>List.mem_append_right _ (List.mem_append_left _ hb)
 exact {
   grow:=x.grow.trans C y
   fresh:=x.fresh
   sok:=k
   kdo:=x.kdo
   fn:=x.fn
   bk:=x.bk
   gl:=x.gl
   bi:=x.bi
   cd:=x.cd
   lF:=x.lF
   ns:=let ⟨m,hn⟩:=x.ns;⟨m,hn.at' fun o e=>keep _ (inF _ x.lF) o e⟩
   all:=fun z hz=>let ⟨c,v,h1,⟨o,h2,h3⟩,h4,h5⟩:=x.all z hz;⟨c,v,h1,⟨o,keep _ (inF _ h4) o h2,h3⟩,h4,h5⟩
   inj:=x.inj
   nofree:=x.nofree
   vals:=fun z ev hz=>by
     refine zea (x.vals z ev hz) fun v hv he=>?_
     refine ⟨v,hv.keep (fun o e=>keep _ (inF _ x.lF) o e) (fun c o hk hc e=>?_),?_⟩
     · refine ze2a3 (x.all z hk) fun c' J h1 J h4 J=>?_
       rw [hc] at h1;(injection h1 with h1;subst h1)
       exact keep _ (inF _ h4) o e
     · induction ev using EV.casesOn with
       | val d=>exact y.has C he
       | own l =>
         refine za3ea he fun h1 h2 h3 vs e4q h5=>?_;clear he;obtain ⟨n,h4⟩:=e4q
         exact ⟨h1,h2,h3,vs,⟨n,keep _ (List.mem_append_left _ h2) _ h4⟩,y.hasL C h5⟩
   olist:=fun a ha=>let ⟨vs,n,e⟩:=x.olist a ha;⟨vs,n,keep _ (List.mem_append_left _ ha) _ e⟩
   disj:=x.disj
   apart:=x.apart
   nd:=x.nd
   kept:=fun b o hp=>by
     refine za3 (x.kept b o hp) fun h1 h2 h3 h4=>?_
     refine ⟨y.keep _ _ h1 h2 h3,h2,fun hm=>?_,h4⟩
     rcases y.fresh _ hm with h | h
     · exact h3 h
     · rw [h1] at h;injection h
   pref:=fun k t h=>y.pre k t (x.pref k t h) }
theorem Frm.freeze (x:Frm C K kd s0 io0 Z0 env ad O F fo io g s):Frm C K kd s0 io0 Z0 env ad [] F (frzF fo) io g s where
 grow:=x.grow
 fresh:=fun f hf=>x.fresh f (List.mem_append_right _ (by simpa using hf))
 sok:=by simpa using x.lessSok
 kdo:=x.kdo
 fn:=x.fn
 bk:=x.bk
 gl:=x.gl
 bi:=x.bi
 cd:=x.cd
 lF:=x.lF
 ns:=x.ns
 all:=x.all
 inj:=x.inj
 nofree:=x.nofree
 vals:=fun y ev hy=>by
   refine zea (frzF_lookup hy) fun d e1q h=>?_;subst e1q
   refine zea (x.frzVal h) fun v h1 h2=>?_
   exact ⟨v,h1,by simpa [EVal] using h2⟩
 olist:=fun a ha=>by cases ha
 disj:=fun a ha=>by cases ha
 apart:=fun y z l l' J h J=>by
   refine zea (frzF_lookup h) fun d hd J=>?_
   injection hd
 nd:=by rw [frzF_keys];exact x.nd
 kept:=fun b o hp=>let ⟨h1,h2,h3,h4,h5⟩:=x.kept b o hp;⟨h1,h2,h3,by simp,h5⟩
 pref:=x.pref
theorem Frm.ext {fo':Fo} (x:Frm C K kd s0 io0 Z0 env ad O F fo io g s) (h:∀ y,fo'.lookup y = fo.lookup y) (hn:(fo'.map (·.1)).Nodup):Frm C K kd s0 io0 Z0 env ad O F fo' io g s :=
 { x with vals:=fun y ev hy=>x.vals y ev (h y ▸ hy),apart:=fun y z l l' hne h1 h2=>x.apart y z l l' hne (h y ▸ h1) (h z ▸ h2),nd:=hn }
end
end Mine
end
section
set_option tactic.hygienic false
open PySem
set_option maxRecDepth 100000
namespace Mine
variable {C:Cst}
theorem setE_nil {z:Str} {v:EV}:setE z v [] = [(z,v)]:=rfl
theorem setE_cons {z w:Str} {u v:EV} {r:Fo}:setE z v ((w,u)::r) = if (w==z) = true then (w,v)::r else (w,u)::setE z v r:=rfl
theorem setE_lookup {z:Str} {v:EV} (y:Str):∀ (fo:Fo),(setE z v fo).lookup y = if y = z then some v else fo.lookup y
 | []=>by
   by_cases h:y = z
   · subst h;exact (lk_hit (beq_self_eq_true _)).trans (if_pos rfl).symm
   · have hb:(y==z) = false:=by simpa using h
     exact (lk_miss hb).trans (if_neg h).symm
 | (w,u)::r=>by
   rw [setE_cons]
   by_cases hw:(w==z) = true
   · have hw':w = z:=by simpa using hw
     subst hw'
     rw [if_pos hw]
     by_cases h:y = w
     · subst h;simp [List.lookup]
     · have hb:(y==w) = false:=by simpa using h
       simp [List.lookup,hb,h]
   · rw [if_neg hw]
     have hw':w≠z:=by simpa using hw
     by_cases h:(y==w) = true
     · have h':y = w:=by simpa using h
       subst h'
       simp [List.lookup,hw']
     · have hb:(y==w) = false:=by simpa using h
       simp only [List.lookup,hb]
       exact setE_lookup y r
theorem setE_keys {z x:Str} {v:EV}:∀ {fo:Fo},x∈(setE z v fo).map (·.1)→x = z∨x∈fo.map (·.1)
 | [],h=>by simpa [setE_nil] using h
 | (w,u)::r,h=>by
   rw [setE_cons] at h
   by_cases hw:(w==z) = true
   · rw [if_pos hw] at h;exact .inr h
   · rw [if_neg hw] at h
     simp only [List.map_cons,List.mem_cons] at h ⊢
     rcases h with h | h
     · exact .inr (.inl h)
     · rcases setE_keys h with h | h
       · exact .inl h
       · exact .inr (.inr h)
theorem setE_nodup {z:Str} {v:EV}:∀ {fo:Fo},(fo.map (·.1)).Nodup→((setE z v fo).map (·.1)).Nodup
 | [],_=>by simp [setE_nil]
 | (w,u)::r,h=>by
   rw [setE_cons]
   by_cases hw:(w==z) = true
   · rw [if_pos hw];simpa using h
   · rw [if_neg hw]
     simp only [List.map_cons,List.nodup_cons] at h ⊢
     refine ⟨fun hm=>?_,setE_nodup h.2⟩
     rcases setE_keys hm with hm | hm
     · exact hw (by simp [hm])
     · exact h.1 hm
mutual
theorem Has.flatMore {V V' O:List Addr} {io:HI} {h:Heap} (ho:∀ a∈O,∃ vs,h.PlainList a vs) (hv:∀ a,a∈V'→a∈V∨a∈O):∀ {d:D} {v:Value},flat d = true→Has C V io h d v→Has C V' io h d v
 | .none,_,_,x=>x
 | .bool _,_,_,x=>x
 | .int _,_,_,x=>x
 | .str _,_,_,x=>x
 | .tup l,_,hf,x=>by
   refine zae2a3 x fun hl a vs e3q ha e5q hs=>?_;clear x;subst e3q;obtain ⟨n,e⟩:=e5q
   refine ⟨hl,a,vs,rfl,fun hm=>?_,⟨n,e⟩,HasL.flatMore ho hv hf hs⟩
   rcases hv a hm with h | h
   · exact ha h
   · refine ze2 (ho a h) fun ws k e'=>?_
     rw [e] at e'
     have:=congrArg (fun o:Option Obj=>o.map (·.cls)) e'
     simp at this
 | .lst _,_,hf,_=>by injection hf
 | .dct _,_,hf,_=>by injection hf
 | .hdr _,_,hf,_=>by injection hf
theorem HasL.flatMore {V V' O:List Addr} {io:HI} {h:Heap} (ho:∀ a∈O,∃ vs,h.PlainList a vs) (hv:∀ a,a∈V'→a∈V∨a∈O):∀ {d:List D} {v:List Value},flatL d = true→HasL C V io h d v→HasL C V' io h d v
 | [],_,_,x=>x
 | d::r,_,hf,x=>by
   replace hf:=Bool.and_eq_true_iff.mp (show (flat d&&flatL r) = true from hf)
   refine ze2a2 x fun v vs e2q h1 h2=>?_;clear x;subst e2q
   exact ⟨v,vs,rfl,Has.flatMore ho hv hf.1 h1,HasL.flatMore ho hv hf.2 h2⟩
end
theorem vv_split {io:HI} {Z O:List Addr} {a:Addr} (h:a∈VV C io (O++Z)):a∈VV C io Z∨a∈O:=by
 rcases List.mem_append.mp h with h | h
 · exact .inl (List.mem_append_left _ h)
 · rcases List.mem_append.mp h with h | h
   · exact .inr h
   · exact .inl (List.mem_append_right _ h)
theorem flat_pairs:∀ (ps:List (Str × Str)),flatL (ps.map fun p=>D.tup [.str p.1,.str p.2]) = true
 | []=>rfl
 | p::r=>flat_pairs r
section
variable {K:Kp} {kd:Kd} {s0:Shared} {io0:HI} {Z0:List Addr} {env:Env} {ad:Str→Addr} {O F:List Addr} {fo:Fo} {io io':HI} {g g':Sg} {s s':Shared} {A:Around}
theorem Frm.thaw (x:Frm C K kd s0 io0 Z0 env ad O F fo io g s) (y:Grow C io io' s s') (k:Sok C (F++Z0) io' g' s'):Sok C (O++(F++Z0)) io' g' s'∧∀ a∈O,∃ vs,s'.heap.PlainList a vs:=by
 have ol:∀ a∈O,∃ vs,s'.heap.PlainList a vs:=fun a ha=>by
   refine ze2 (x.olist a ha) fun vs n e=>?_
   have:=x.sok.zd a (List.mem_append_left _ ha)
   exact ⟨vs,n,y.keep _ _ e this.1 this.2.1⟩
 refine ⟨⟨k.base,⟨k.st.len,fun i t ps h1 h2=>?_,k.st.nodup,k.st.below,C.vtKeep _ _ _ _ k.st.vt (fun J J J e=>e) (fun a o vs e hd hn=>⟨e,fun hm=>by
   rcases vv_split hm with h | h
   · exact hn h
   · refine ze2 (ol a h) fun ws n e2=>?_
     rw [e] at e2;(injection e2 with e2;subst e2);injection hd⟩)⟩,fun z hz=>?_,fun z hz=>?_,k.val⟩,ol⟩
 · have HH:=k.st.at' i t ps h1 h2
   refine zea HH.list fun vs hp hl=>?_
   exact ⟨HH.inst,HH.dict,⟨vs,hp,HasL.flatMore ol (fun a=>vv_split) (flat_pairs ps) hl⟩,HH.len⟩
 · rcases List.mem_append.mp hz with h | h
   · refine ze2 (ol z h) fun vs n e=>?_;exact ⟨_,e⟩
   · exact k.zal z h
 · rcases List.mem_append.mp hz with h | h
   · have:=x.sok.zd z (List.mem_append_left _ h)
     refine ⟨this.1,fun hm=>?_,this.2.2⟩
     rcases y.fresh z hm with h' | h'
     · exact this.2.1 h'
     · refine ze2 (x.olist z h) fun vs n e=>?_;rw [h'] at e;injection e
   · exact k.zd z h
theorem Frm.storeV (x:Frm C K kd s0 io0 Z0 env ad O F fo io g s) {z:Str} {v:Value} {ev:EV} {a:Addr} (hz:canSet kd z = true) (hev:EVal C io (O++(F++Z0)) O s.heap a ev v)
   (hap:∀ l,ev = .own l→∀ y l',y≠z→fo.lookup y = some (.own l')→a≠ad y) {Q:Unit→Shared→Prop} {E:Value→Shared→Prop}
   (h:∀ s',Frm C K kd s0 io0 Z0 env (fun y=>if y = z then a else ad y) O F (setE z ev fo) io g s'→(∀ b o,b∉F→s.heap.get? b = some o→s'.heap.get? b = some o)→(∀ y u,y≠z→VarAt kd env s.heap y u→VarAt kd env s'.heap y u)→VarAt kd env s'.heap z v→Q () s'):wpAny (model C.prog C.w) A (storeName env z v) Q E s:=by
 have inZ:∀ b∈F,b∈O++(F++Z0):=fun b hb=>List.mem_append_right _ (List.mem_append_left _ hb)
 have fin:∀ (b:Addr) (s':Shared),b∈F→Touch [b] s s'→(∃ m,s'.heap.Ns env.locals m)→(∀ y,kd y = some .cell→∃ c w,env.cells.lookup y = some c∧s'.heap.IsCell c w∧c∈F∧c≠env.locals) →
     (∀ y u,y≠z→VarAt kd env s.heap y u→VarAt kd env s'.heap y u)→VarAt kd env s'.heap z v→Q () s':=by
   intro b s' hb t hns hall hold hnew
   have hsub:∀ f∈[b],f∈O++(F++Z0):=fun f hf=>by simp only [List.mem_singleton] at hf;subst hf;exact inZ _ hb
   have keepO:∀ a'∈O,∀ o,s.heap.get? a' = some o→s'.heap.get? a' = some o:=fun a' ha o e=>t.keep a' o e fun hm=>by
     simp only [List.mem_singleton] at hm;subst hm
     exact x.disj a' ha (List.mem_append_left _ hb)
   have evk:∀ (a':Addr) (e:EV) (u:Value),EVal C io (O++(F++Z0)) O s.heap a' e u→EVal C io (O++(F++Z0)) O s'.heap a' e u:=fun a' e u he=>by
     induction e using EV.casesOn with
     | val d=>exact t.has hsub he
     | own l =>
       refine za3ea he fun h1 h2 h3 vs e4q h5=>?_;clear he;obtain ⟨n,h4⟩:=e4q
       exact ⟨h1,h2,h3,vs,⟨n,keepO _ h2 _ h4⟩,t.hasL hsub h5⟩
   refine h s' {
     grow:=x.grow.touch t fun f hf=>by simp only [List.mem_singleton] at hf;subst hf;exact x.fresh _ (List.mem_append_right _ hb)
     fresh:=x.fresh
     sok:=t.sok hsub x.sok
     kdo:=x.kdo
     fn:=x.fn
     bk:=x.bk
     gl:=x.gl
     bi:=x.bi
     cd:=x.cd
     lF:=x.lF
     ns:=hns
     all:=hall
     inj:=x.inj
     nofree:=x.nofree
     vals:=fun y e hy=>by
       rw [setE_lookup] at hy
       by_cases hyz:y = z
       · subst hyz
         rw [if_pos rfl,Option.some.injEq] at hy
         subst hy
         refine ⟨v,hnew,?_⟩
         rw [if_pos rfl]
         exact evk _ _ _ hev
       · rw [if_neg hyz] at hy
         refine zea (x.vals y e hy) fun u h1 h2=>?_
         refine ⟨u,hold y u hyz h1,?_⟩
         rw [if_neg hyz]
         exact evk _ _ _ h2
     olist:=fun a' ha=>let ⟨vs,n,e⟩:=x.olist a' ha;⟨vs,n,keepO _ ha _ e⟩
     disj:=x.disj
     apart:=fun y w l l' hne h1 h2=>by
       rw [setE_lookup] at h1 h2
       by_cases hyz:y = z
       · subst hyz
         rw [if_pos rfl,Option.some.injEq] at h1
         rw [if_neg (Ne.symm hne)] at h2
         rw [if_pos rfl,if_neg (Ne.symm hne)]
         exact hap l h1 w l' (Ne.symm hne) h2
       · rw [if_neg hyz] at h1
         rw [if_neg hyz]
         by_cases hwz:w = z
         · subst hwz
           rw [if_pos rfl,Option.some.injEq] at h2
           rw [if_pos rfl]
           exact Ne.symm (hap l' h2 y l hyz h1)
         · rw [if_neg hwz] at h2
           rw [if_neg hwz]
           exact x.apart y w l l' hne h1 h2
     nd:=setE_nodup x.nd
     kept:=fun b o hp=>let ⟨h1,h2,h3,h4,h5⟩:=x.kept b o hp;⟨t.keep _ _ h1 fun hm=>h5 (by simp only [List.mem_singleton] at hm;rw [hm];assumption),h2,h3,h4,h5⟩
     pref:=x.pref } (fun b' o hb' e=>t.keep b' o e (fun hm=>by simp only [List.mem_singleton] at hm;subst hm;exact hb' hb)) hold hnew
 unfold canSet at hz
 simp only [Bool.or_eq_true,beq_iff_eq] at hz
 by_cases hl:kd z = some .local
 · refine ze x.ns fun m hn=>?_
   refine wpAny_storeName_local ((x.kdo z).trans hl) hn (fun h' hn' hs'=>?_) (by rw [x.fn];rfl)
   have t:Touch [env.locals] s { s with heap:=h',toks:=s.toks + 1 }:=Touch.same_but hs' (let ⟨o,_,_,e,_⟩:=hn';⟨o,e⟩)
   refine fin env.locals _ x.lF t ⟨_,hn'⟩ (fun y hy=>?_) (fun y u hyz hv=>?_) (.inl ⟨hl,_,hn',by simp⟩)
   · refine ze2a3 (x.all y hy) fun c w h1 e3q h4 h5=>?_;obtain ⟨o,h2,h3⟩:=e3q
     exact ⟨c,w,h1,⟨o,t.keep c o h2 (by simpa using h5),h3⟩,h4,h5⟩
   · rcases hv with ⟨h1,m',hm',hu⟩ | ⟨h1,c,h2,o,h3,h4⟩
     · refine .inl ⟨h1,_,hn',?_⟩
       rw [if_neg hyz]
       refine ze3a3 hn fun o es ep e1 e2 J e3=>?_;clear hn
       refine ze3a3 hm' fun o' es' ep' e1' e2' J e3'=>?_;clear hm'
       rw [e1] at e1';(injection e1' with e1';subst e1')
       rw [e2] at e2';(injection e2' with e2'1 e2'2;subst e2'1;subst e2'2)
       rw [← e3,e3',hu]
     · refine ze2a3 (x.all y h1) fun c' J h1' J J h5=>?_
       rw [h2] at h1';(injection h1' with h1';subst h1')
       exact .inr ⟨h1,c,h2,o,t.keep c o h3 (by simpa using h5),h4⟩
 · have hc:kd z = some .cell:=by
     rcases hz with hz | hz
     · exact absurd hz hl
     · exact hz
   refine ze2a3 (x.all z hc) fun c w h1 h2 h4 h5=>?_
   refine wpAny_storeName_cell x.fn ((x.kdo z).trans hc) h1 h2 fun h' hcell hs'=>?_
   have t:Touch [c] s { s with heap:=h' }:=Touch.same_but (tk:=s.toks) hs' (let ⟨o,e,_⟩:=hcell;⟨o,e⟩)
   refine ze x.ns fun m hn=>?_
   refine fin c _ h4 t ⟨m,hn.at' fun o e=>t.keep _ o e (by simpa using Ne.symm h5)⟩ (fun y hy=>?_) (fun y u hyz hv=>?_) (.inr ⟨hc,c,h1,hcell⟩)
   · refine ze2a3 (x.all y hy) fun c' w' h1' e3q h4' h5'=>?_;obtain ⟨o,h2',h3'⟩:=e3q
     by_cases hcc:c' = c
     · subst hcc;exact ⟨c',_,h1',hcell,h4',h5'⟩
     · exact ⟨c',w',h1',⟨o,t.keep c' o h2' (by simpa using hcc),h3'⟩,h4',h5'⟩
   · rcases hv with ⟨h1',m',hm',hu⟩ | ⟨h1',c',h2',o,h3',h4'⟩
     · exact .inl ⟨h1',m',hm'.at' fun o e=>t.keep _ o e (by simpa using Ne.symm h5),hu⟩
     · have hcc:c'≠c:=fun he=>by subst he;exact hyz (x.inj y z c' h1' hc h2' h1)
       exact .inr ⟨h1',c',h2',o,t.keep c' o h3' (by simpa using hcc),h4'⟩
theorem Frm.store' (x:Frm C K kd s0 io0 Z0 env ad O F fo io g s) {z:Str} {v:Value} {ev:EV} {a:Addr} (hz:canSet kd z = true) (hev:EVal C io (O++(F++Z0)) O s.heap a ev v)
   (hap:∀ l,ev = .own l→∀ y l',y≠z→fo.lookup y = some (.own l')→a≠ad y) {Q:Unit→Shared→Prop} {E:Value→Shared→Prop}
   (h:∀ s',Frm C K kd s0 io0 Z0 env (fun y=>if y = z then a else ad y) O F (setE z ev fo) io g s'→(∀ b o,b∉F→s.heap.get? b = some o→s'.heap.get? b = some o)→(∀ y u,y≠z→VarAt kd env s.heap y u→VarAt kd env s'.heap y u)→Q () s'):wpAny (model C.prog C.w) A (storeName env z v) Q E s :=
 x.storeV hz hev hap fun s' x' k v J=>h s' x' k v
theorem Frm.store (x:Frm C K kd s0 io0 Z0 env ad O F fo io g s) {z:Str} {v:Value} {ev:EV} {a:Addr} (hz:canSet kd z = true) (hev:EVal C io (O++(F++Z0)) O s.heap a ev v)
   (hap:∀ l,ev = .own l→∀ y l',y≠z→fo.lookup y = some (.own l')→a≠ad y) {Q:Unit→Shared→Prop} {E:Value→Shared→Prop}
   (h:∀ s',Frm C K kd s0 io0 Z0 env (fun y=>if y = z then a else ad y) O F (setE z ev fo) io g s'→(∀ b o,b∉F→s.heap.get? b = some o→s'.heap.get? b = some o)→Q () s'):wpAny (model C.prog C.w) A (storeName env z v) Q E s :=
 x.store' hz hev hap fun s' x' k J=>h s' x' k
inductive EvXPost (C:Cst) (K:Kp) (kd:Kd) (s0:Shared) (io0:HI) (Z0:List Addr) (env:Env) (F:List Addr) (d:D) (fo':Fo) (g':Sg) (v:Value) (s':Shared):Prop
 | mk (ad':Str→Addr) (O':List Addr) (io':HI) (x:Frm C K kd s0 io0 Z0 env ad' O' F fo' io' g' s') (h:Has C (VV C io' (O'++(F++Z0))) io' s'.heap d v)
set_option tactic.hygienic true in
theorem evX_ok {lv:Nat} {ev:Ro→Expr→Sg→Option (D × Sg)} {e:Expr} {d:D} {fo':Fo} (hev:∀ ro g d g',ev ro e g = some (d,g')→SoundE C lv kd ro e g d g') (h:evX ev fo e g = some (d,fo',g')) (ha:AOk A lv) (x:Frm C K kd s0 io0 Z0 env ad O F fo io g s) :
   wpAny (model C.prog C.w) A (eval e env) (EvXPost C K kd s0 io0 Z0 env F d fo' g') noE s:=by
 unfold evX at h
 split at h
 · rename_i d1 g1 h1
   simp only [Option.some.injEq,Prod.mk.injEq] at h
   refine za2 h fun e0q e1q e2q=>?_;clear h;subst e0q;subst e1q;subst e2q
   refine noE_mono (hev _ _ _ _ h1 A env _ io s ha x.envR x.sok) fun v s1 ⟨io1,y,k,hh⟩=>?_
   exact ⟨ad,O,io1,x.step y k,hh⟩
 · split at h
   · rename_i d1 g1 h1
     simp only [Option.some.injEq,Prod.mk.injEq] at h
     refine za2 h fun e0q e1q e2q=>?_;clear h;subst e0q;subst e1q;subst e2q
     refine noE_mono (hev _ _ _ _ h1 A env _ io s ha x.envZ x.lessSok) fun v s1 ⟨io1,y,k,hh⟩=>?_
     by_cases hf:flat d1 = true
     · rw [if_pos hf]
       refine za (x.thaw y k) fun k' ol=>?_
       exact ⟨ad,O,io1,x.step y k',Has.flatMore ol (fun a=>vv_split) hf hh⟩
     · rw [if_neg hf]
       exact ⟨ad,[],io1,x.freeze.step y (by simpa using k),by simpa using hh⟩
   · injection h
end
end Mine
end
section
set_option tactic.hygienic false
open PySem
set_option maxRecDepth 100000
namespace Mine
variable {C:Cst}
theorem rm_frzF:∀ (fo:Fo),rmOwn (frzF fo) = frz fo
 | []=>rfl
 | (y,.val e)::r=>by simp only [frzF,rmOwn,frz];rw [rm_frzF r]
 | (y,.own e)::r=>by simp only [frzF,rmOwn,frz];rw [rm_frzF r]
section
variable {K:Kp} {kd:Kd} {s0:Shared} {io0:HI} {Z0:List Addr} {env:Env} {ad:Str→Addr} {O F:List Addr} {fo:Fo} {io io':HI} {g g':Sg} {s s':Shared} {A:Around} {L N:Nat} {T:Tbl}
theorem EVal.less {h:Heap} {Z Z':List Addr} {a:Addr} {ev:EV} {v:Value} (x:EVal C io Z O h a ev v) (hz:∀ z∈Z',z∈Z):EVal C io Z' O h a ev v:=by
 induction ev using EV.casesOn with
 | val d=>exact Has.less C x hz
 | own l =>
   refine za3ea x fun h1 h2 h3 vs h4 h5=>?_;clear x
   refine ⟨h1,h2,h3,vs,h4,HasL.mono C (fun a o e hn=>⟨e,fun hm=>hn ?_⟩) (fun J J e=>e) h5⟩
   rcases List.mem_append.mp hm with h | h
   · exact List.mem_append_left _ h
   · exact List.mem_append_right _ (hz _ h)
theorem Frm.more (x:Frm C K kd s0 io0 Z0 env ad O F fo io g s) {c:Addr} (y:Grow C io io' s s') (k:Sok C (c::(O++(F++Z0))) io' g' s') (hc:s.heap.get? c = none):Frm C K kd s0 io0 (c::Z0) env ad O F fo io' g' s':=by
 have k0:Sok C (O++(F++Z0)) io' g' s':=k.less C fun z hz=>.tail _ hz
 have x1:=x.step y k0
 have mem:∀ z,z∈O++(F++(c::Z0))→z∈[c]++(O++(F++Z0)):=fun z hz=>by
   simp only [List.mem_append,List.mem_cons,List.not_mem_nil,or_false] at hz ⊢
   rcases hz with h | h | h | h<;>simp [h]
 exact { x1 with
   sok:=k.less C fun z hz=>mem z hz
   vals:=fun z ev hz=>by
     refine zea (x.vals z ev hz) fun v hv he=>?_
     refine zea (x1.vals z ev hz) fun v' hv' J=>?_
     have keep:∀ b∈O++(F++Z0),∀ o,s.heap.get? b = some o→s'.heap.get? b = some o:=fun b hb o e=>y.keep b o e (x.sok.zd b hb).1 (x.sok.zd b hb).2.1
     have inF:∀ b∈F,b∈O++(F++Z0):=fun b hb=>List.mem_append_right _ (List.mem_append_left _ hb)
     refine ⟨v,hv.keep (fun o e=>keep _ (inF _ x.lF) o e) (fun c o hk hc e=>?_),?_⟩
     · refine ze2a3 (x.all z hk) fun c' J h1 J h4 J=>?_
       rw [hc] at h1;(injection h1 with h1;subst h1)
       exact keep _ (inF _ h4) o e
     · refine EVal.less (Z:=[c]++(O++(F++Z0))) ?_ mem
       induction ev using EV.casesOn with
       | val d=>exact y.hasF (F:=[c]) (fun f hf=>by simp only [List.mem_singleton] at hf;subst hf;exact hc) he
       | own l =>
         refine za3ea he fun h1 h2 h3 vs e4q h5=>?_;clear he;obtain ⟨n,h4⟩:=e4q
         refine ⟨h1,h2,h3,vs,⟨n,keep _ (List.mem_append_left _ h2) _ h4⟩,HasL.mono C (fun a o e ha=>?_) y.pre h5⟩
         refine za (y.keepAt C e ha) fun q1 q2=>?_
         refine ⟨q1,fun hm=>?_⟩
         rcases List.mem_append.mp hm with h | h
         · exact q2 (List.mem_append_left _ h)
         · rcases List.mem_append.mp h with h | h
           · simp only [List.mem_singleton] at h;subst h;rw [hc] at e;injection e
           · exact q2 (List.mem_append_right _ h)
   disj:=fun a ha hm=>by
     simp only [List.mem_append,List.mem_cons] at hm
     rcases hm with h | h | h
     · exact x.disj a ha (List.mem_append_left _ h)
     · subst h
       refine ze2 (x.olist a ha) fun vs n e=>?_
       rw [hc] at e;injection e
     · exact x.disj a ha (List.mem_append_right _ h) }
theorem Frm.drop1 {c:Addr} (x:Frm C K kd s0 io0 (c::Z0) env ad O F fo io g s) {h':Heap} (hs:Heap.SameBut c s.heap h') (hF:c∉F) (hZ:c∉Z0) (h0:s0.heap.get? c = none) (hK:∀ b o,K.p b o→b≠c):Frm C K kd s0 io0 Z0 env ad O F fo io g { s with heap:=h' }:=by
 have hO:c∉O:=fun hm=>x.disj c hm (by simp)
 have keep:∀ b o,s.heap.get? b = some o→b∉[c]→h'.get? b = some o:=fun b o e hb=>hs.extBut b o (by simpa using hb) e
 have same:∃ h'' tk,({ s with heap:=h' }:Shared) = { s with heap:=h'',toks:=tk }:=⟨h',s.toks,rfl⟩
 have mem:∀ z,z∈[c]++(O++(F++Z0))→z∈O++(F++(c::Z0)):=fun z hz=>by
   simp only [List.mem_append,List.mem_cons,List.not_mem_nil,or_false] at hz ⊢
   rcases hz with h | h | h | h<;>simp [h]
 have inF:∀ b∈F,b∉[c]:=fun b hb hm=>by simp only [List.mem_singleton] at hm;subst hm;exact hF hb
 exact { x with
   grow:=x.grow.drop (F:=[c]) same keep fun f hf=>by simp only [List.mem_singleton] at hf;subst hf;exact h0
   sok:=Sok.drop (F:=[c]) (x.sok.less C mem) same keep fun f hf hm=>by
     simp only [List.mem_singleton] at hf;subst hf
     simp only [List.mem_append] at hm
     rcases hm with h | h | h
     · exact hO h
     · exact hF h
     · exact hZ h
   ns:=let ⟨m,hn⟩:=x.ns;⟨m,hn.at' fun o e=>keep _ o e (inF _ x.lF)⟩
   all:=fun z hz=>let ⟨c',v,h1,⟨o,h2,h3⟩,h4,h5⟩:=x.all z hz;⟨c',v,h1,⟨o,keep _ o h2 (inF _ h4),h3⟩,h4,h5⟩
   vals:=fun z ev hz=>by
     refine zea (x.vals z ev hz) fun v hv he=>?_
     refine ⟨v,hv.keep (fun o e=>keep _ o e (inF _ x.lF)) (fun c' o hk hc e=>?_),?_⟩
     · refine ze2a3 (x.all z hk) fun c'' J h1 J h4 J=>?_
       rw [hc] at h1;(injection h1 with h1;subst h1)
       exact keep _ o e (inF _ h4)
     · have he':=EVal.less he mem
       induction ev using EV.casesOn with
       | val d=>exact Has.drop (F:=[c]) (s':={ s with heap:=h' }) he' keep
       | own l =>
         refine za3ea he' fun h1 h2 h3 vs e4q h5=>?_;clear he';obtain ⟨n,h4⟩:=e4q
         exact ⟨h1,h2,h3,vs,⟨n,keep _ _ h4 fun hm=>by simp only [List.mem_singleton] at hm;rw [hm] at h2;exact hO h2⟩,HasL.drop (F:=[c]) (s':={ s with heap:=h' }) h5 keep⟩
   olist:=fun a ha=>let ⟨vs,n,e⟩:=x.olist a ha;⟨vs,n,keep _ _ e fun hm=>by simp only [List.mem_singleton] at hm;subst hm;exact hO ha⟩
   disj:=fun a ha hm=>x.disj a ha (by
     simp only [List.mem_append,List.mem_cons] at hm ⊢
     rcases hm with h | h<;>simp [h])
   kept:=fun b o hp=>let ⟨h1,h2⟩:=x.kept b o hp;⟨keep _ _ h1 (by simpa using hK b o hp),h2⟩ }
inductive RetPost (C:Cst) (s0:Shared) (io0:HI) (Z0:List Addr) (d:D) (g:Sg) (v:Value) (s':Shared):Prop
 | mk (io:HI) (x:Grow C io0 io s0 s') (k:Sok C Z0 io g s') (h:Has C (VV C io Z0) io s'.heap d v)
inductive NextPost (C:Cst) (K:Kp) (kd:Kd) (s0:Shared) (io0:HI) (Z0:List Addr) (env:Env) (F:List Addr) (fo:Fo) (g:Sg) (s':Shared):Prop
 | mk (ad:Str→Addr) (O:List Addr) (io:HI) (x:Frm C K kd s0 io0 Z0 env ad O F fo io g s')
noncomputable def StPost (C:Cst) (K:Kp) (kd:Kd) (s0:Shared) (io0:HI) (Z0:List Addr) (env:Env) (F:List Addr):Fl→Flow→Shared→Prop
 | .next fo g,f,s'=>f = .next∧NextPost C K kd s0 io0 Z0 env F fo g s'
 | .ret d g,f,s'=>∃ v,f = .ret v∧RetPost C s0 io0 Z0 d g v s'
theorem store_val (x:Frm C K kd s0 io0 Z0 env ad O F fo io g s) {z:Str} {v:Value} {d:D} (hz:canSet kd z = true) (hd:Has C (VV C io (O++(F++Z0))) io s.heap d v) {Q:Unit→Shared→Prop} {E:Value→Shared→Prop}
   (h:∀ s',NextPost C K kd s0 io0 Z0 env F (setE z (.val d) fo) g s'→Q () s'):wpAny (model C.prog C.w) A (storeName env z v) Q E s :=
 x.store (ev:=.val d) (a:=ad z) hz hd (fun l hl=>by injection hl) fun s' x' J=>h s' ⟨_,O,io,x'⟩
theorem swaps_plain {e:Expr} {t:Option Expr} {ln:Nat} (h:∀ a b c p,e≠.ListComp a b c p) (h2:∀ a b c p,e≠.SetComp a b c p) (h3:∀ a b c d p,e≠.DictComp a b c d p):swapsWith e t ln env = pure false:=by
 unfold swapsWith
 induction e using Expr.casesOn<;>first | rfl | exact absurd rfl (h _ _ _ _) | exact absurd rfl (h2 _ _ _ _) | exact absurd rfl (h3 _ _ _ _ _)
theorem pev_notComp {n:Nat} {ro:Ro} {e:Expr} {r} (h:pev T n kd ro e g = some r):(∀ a b c p,e≠.SetComp a b c p)∧∀ a b c d p,e≠.DictComp a b c d p:=by
 refine ⟨fun a b c p he=>?_,fun a b c d p he=>?_⟩<;>subst he<;>induction n using Nat.casesOn<;>exact no_opt h
end
end Mine
end
section
set_option tactic.hygienic false
open PySem
set_option maxRecDepth 100000
namespace Mine
variable {C:Cst}
section
variable {K:Kp} {kd:Kd} {s0:Shared} {io0:HI} {Z0:List Addr} {env:Env} {ad:Str→Addr} {O F:List Addr} {fo:Fo} {io io':HI} {g g1 g':Sg} {s s':Shared} {A:Around} {L n:Nat} {T:Tbl}
noncomputable def trD (tr:Ro→Expr→Sg→Option (Bool × Sg)) (ifs:List Expr) (ro:Ro) (g:Sg):Option (D × Sg) :=
 match ifs with
 | []=>some (.bool true,g)
 | [c]=>bindK (tr ro c g) fun b g=>some (.bool b,g)
 | _=>none
set_option tactic.hygienic true in
theorem comp_parts {ro:Ro} {elt iter t:Expr} {ifs:List Expr} {sc:Scope} {p:Pos} {d:D} (h:pev T (n + 1) kd ro (.ListComp elt [⟨t,iter,ifs,0⟩] sc p) g = some (d,g')) :
   ∃ ds g1 ys,scopeOkT sc kd t = true∧psrc T n kd ro iter g = some (ds,g1)∧d = .lst ys∧ys.length≤lim ∧
     compK (trD (fun ro c g=>pt T n (fun x=>sc.names.lookup x) ro c g) ifs) (fun ro g=>pev T n (fun x=>sc.names.lookup x) ro elt g) t (freeIn sc ro) ds g1 = some (ys,g'):=by
 have hv:=pev_v h
 clear h
 cases hv
 rename_i h
 refine za (if_none h) fun h0 h=>?_
 refine ze2a (bindK_some h) fun ds g1 h1 h=>?_
 refine ze2a (bindK_some h) fun ys g2 h2 h=>?_
 refine za (if_some h) fun h3 h=>?_
 apply i2 h
 exact ⟨ds,g1,ys,by simpa using h0,h1,rfl,h3,h2⟩
theorem assign_comp (ok:AllOk C L n T) (ha:AOk A L) (x:Frm C K kd s0 io0 Z0 env ad O F fo io g s) {elt iter t:Expr} {ifs:List Expr} {sc:Scope} {p sp:Pos} {y:Str} {py:Pos} {d:D}
   (hz:canSet kd y = true) (h:pev T (n + 1) kd (rmOwn fo) (.ListComp elt [⟨t,iter,ifs,0⟩] sc p) g = some (d,g'))
   (hsw:swapsWith (.ListComp elt [⟨t,iter,ifs,0⟩] sc p) (some (.Name y py)) sp.line env = pure true) :
   wpAny (model C.prog C.w) A (exec (.Assign [.Name y py] (.ListComp elt [⟨t,iter,ifs,0⟩] sc p) sp) env) (StPost C K kd s0 io0 Z0 env F (.next (setE y (.val d) fo) g')) noE s:=by
 obtain ⟨ds,g1,ys,hsc,hsrc,rfl,hyl,hrun⟩:=comp_parts h
 refine za4ea (comp_envT hsc) fun h1 h2 h3 h4 ns hns h5=>?_
 have hs:=ok.src kd (rmOwn fo) _ _ _ _ hsrc
 rw [exec_Assign_Name_used _ _ _ _ hsw]
 refine wpAny_bind (wpAny_standAt (wpAny_bind ?_))
 show wpAny _ A (do let _ ← comprehension (.ListComp elt [⟨t,iter,ifs,0⟩] sc p) sc env _ (newList []) false (eval iter env) (some (assign (.Name y py) env))) _ _ s
 refine wpAny_bind (noE_mono (comp_ok (use:=some (assign (.Name y py) env)) (Q:=fun _ s'=>NextPost C K kd s0 io0 Z0 env F (setE y (.val (.lst ys)) fo) g' s') ha x.sok x.envR (hs.1 A env _ io s ha x.envR x.sok) (folded_none hs.2) h2 h1 hns h5 h3 h4 hrun hyl
   (tests_ok (trx:=fun ro c g=>pt T n _ ro c g) (fun ro=>ok.tr _ ro) A ha) (fun ro g d g' he env' Z' io' s hen hk=>(ok.ev _ ro) _ _ _ _ he A env' Z' io' s ha hen hk) ?_) fun _ s' hq=>wpAny_pure (wpAny_pure ⟨rfl,hq⟩))
 intro D' Cc s' io' m' xg kg hh hn hnone
 have x1:=x.more xg kg hnone
 show wpAny _ A (assign (.Name y py) env (.ref D')) _ _ _
 have cF:Cc∉F:=fun hm=>by
   refine ze (x.sok.zal Cc (List.mem_append_right _ (List.mem_append_left _ hm))) fun o e=>?_
   rw [hnone] at e;injection e
 have cZ:Cc∉Z0:=fun hm=>by
   refine ze (x.sok.zal Cc (List.mem_append_right _ (List.mem_append_right _ hm))) fun o e=>?_
   rw [hnone] at e;injection e
 have c0:s0.heap.get? Cc = none:=by
   induction e:s0.heap.get? Cc using Option.casesOn with
   | none=>rfl
   | some o=>refine ze (x.grow.alive Cc o e) fun o' e'=>?_;rw [hnone] at e';injection e'
 refine wpAny_assign_Name (x1.store (ev:=.val (.lst ys)) (a:=ad y) hz (Has.less C hh fun z hz=>by
   simp only [List.mem_append,List.mem_cons] at hz ⊢
   rcases hz with h | h | h | h<;>simp [h]) (fun l hl=>by injection hl) fun s2 x2 kp=>?_)
 exact ⟨_,hn.at' fun o e=>kp Cc o cF e,fun h' hsb=>⟨_,O,io',x2.drop1 hsb cF cZ c0 fun b o hp he=>by have:=(x.kept b o hp).1;rw [he,hnone] at this;injection this⟩⟩
theorem exec_name (ok:AllOk C L n T) (ha:AOk A L) (x:Frm C K kd s0 io0 Z0 env ad O F fo io g s) {e:Expr} {y:Str} {py sp:Pos} {d:D} {fo':Fo}
   (hz:canSet kd y = true) (h:evX (pev T n kd) fo e g = some (d,fo',g')) (hsw:swapsWith e (some (.Name y py)) sp.line env = pure false) :
   wpAny (model C.prog C.w) A (exec (.Assign [.Name y py] e sp) env) (StPost C K kd s0 io0 Z0 env F (.next (setE y (.val d) fo') g')) noE s:=by
 refine wpAny_Assign_Name (noE_mono (evX_ok (fun ro g d g' he=>ok.ev kd ro _ _ _ _ he) h ha x) fun v s1 ⟨ad1,O1,io1,x1,hh⟩=>?_) hsw
 exact store_val x1 hz hh fun s2 h2=>⟨rfl,h2⟩
end
end Mine
end
section
set_option tactic.hygienic false
open PySem
set_option maxRecDepth 100000
namespace Mine
variable {C:Cst}
section
variable {K:Kp} {kd:Kd} {s0:Shared} {io0:HI} {Z0:List Addr} {env:Env} {ad:Str→Addr} {O F:List Addr} {fo:Fo} {io io':HI} {g g1 g':Sg} {s s':Shared} {A:Around} {L n:Nat} {T:Tbl}
set_option tactic.hygienic true in
theorem pev_comp_form {ro:Ro} {elt:Expr} {gens:List Comprehension} {sc:Scope} {p:Pos} {r} (h:pev T n kd ro (.ListComp elt gens sc p) g = some r):∃ m t iter ifs,n = m + 1∧gens = [⟨t,iter,ifs,0⟩]∧∃ ys,r.1 = .lst ys:=by
 induction n using Nat.casesOn with
 | zero=>exact no_opt h
 | succ n =>
   have hv:=pev_v h
   clear h
   cases hv
   rename_i h
   refine za (if_none h) fun h0 h=>?_
   refine ze2a (bindK_some h) fun ds g1 h1 h=>?_
   refine ze2a (bindK_some h) fun ys g2 h2 h=>?_
   refine za (if_some h) fun h3 h=>?_
   simp only [Option.some.injEq] at h
   subst h
   exact ⟨n,_,_,_,rfl,rfl,ys,rfl⟩
theorem swaps_comp {elt:Expr} {gens:List Comprehension} {sc:Scope} {p:Pos} {y:Str} {py:Pos} {ln:Nat}:∃ b,swapsWith (.ListComp elt gens sc p) (some (.Name y py)) ln env = pure b:=⟨_,rfl⟩
set_option tactic.hygienic true in
theorem exec_assign (ok:∀ k,k≤n→AllOk C L k T) (ha:AOk A L) (x:Frm C K kd s0 io0 Z0 env ad O F fo io g s) {e:Expr} {y:Str} {py sp:Pos} {d:D} {fo':Fo}
   (hz:canSet kd y = true) (h:evX (pev T n kd) fo e g = some (d,fo',g')) :
   wpAny (model C.prog C.w) A (exec (.Assign [.Name y py] e sp) env) (StPost C K kd s0 io0 Z0 env F (.next (setE y (.val d) fo') g')) noE s:=by
 by_cases hc:∃ a b c p,e = .ListComp a b c p
 · obtain ⟨elt,gens,sc,p,rfl⟩:=hc
   refine ze (swaps_comp (env:=env) (elt:=elt) (gens:=gens) (sc:=sc) (p:=p) (y:=y) (py:=py) (ln:=sp.line)) fun b hb=>?_
   induction b using Bool.casesOn with
   | false=>exact exec_name (ok n (Nat.le_refl _)) ha x hz h hb
   | true =>
     unfold evX at h
     split at h
     · rename_i d1 g1 h1
       simp only [Option.some.injEq,Prod.mk.injEq] at h
       refine za2 h fun e0q e1q e2q=>?_;clear h;subst e0q;subst e1q;subst e2q
       obtain ⟨m,t,iter,ifs,rfl,rfl,_⟩:=pev_comp_form h1
       exact assign_comp (ok m (by lia)) ha x hz h1 hb
     · split at h
       · rename_i d1 g1 h1
         simp only [Option.some.injEq,Prod.mk.injEq] at h
         refine za2 h fun e0q e1q e2q=>?_;clear h;subst e0q;subst e1q;subst e2q
         obtain ⟨m,t,iter,ifs,rfl,rfl,ys,hys⟩:=pev_comp_form h1
         simp only at hys
         subst hys
         rw [if_neg (show ¬flat (.lst _) = true from Bool.false_ne_true)]
         exact assign_comp (ok m (by lia)) ha x.freeze hz (by rw [rm_frzF];exact h1) hb
       · injection h
 · have hev:(∃ ro r,pev T n kd ro e g = some r):=by
     unfold evX at h
     split at h
     · exact ⟨_,_,by assumption⟩
     · split at h
       · exact ⟨_,_,by assumption⟩
       · injection h
   refine ze2 hev fun ro r hr=>?_;clear hev
   have:=pev_notComp hr
   exact exec_name (ok n (Nat.le_refl _)) ha x hz h (swaps_plain (fun a b c p he=>hc ⟨a,b,c,p,he⟩) this.1 this.2)
theorem exec_return (ok:AllOk C L n T) (ha:AOk A L) (x:Frm C K kd s0 io0 Z0 env ad O F fo io g s) {e:Expr} {p:Pos} {d:D} (h:pev T n kd (frz fo) e g = some (d,g')) :
   wpAny (model C.prog C.w) A (exec (.Return (some e) p) env) (StPost C K kd s0 io0 Z0 env F (.ret d g')) noE s:=by
 refine wpAny_Return_some (noE_mono (ok.ev kd _ _ _ _ _ h A env _ io s ha x.envZ x.lessSok) fun v s1 ⟨io1,y,k,hh⟩=>?_)
 have x1:=x.freeze.step y (by simpa using k)
 exact ⟨v,rfl,io1,x1.grow,k.less C fun z hz=>List.mem_append_right _ hz,Has.less C hh fun z hz=>List.mem_append_right _ hz⟩
theorem exec_if (ok:AllOk C L n T) (ha:AOk A L) (x:Frm C K kd s0 io0 Z0 env ad O F fo io g s) {t:Expr} {a b:List Stmt} {p:Pos} {c:Bool} {fl:Fl} (h:pt T n kd (rmOwn fo) t g = some (c,g1))
   (hb:∀ io1 s1,Frm C K kd s0 io0 Z0 env ad O F fo io1 g1 s1→wpAny (model C.prog C.w) A (execs (if c then a else b) env) (StPost C K kd s0 io0 Z0 env F fl) noE s1) :
   wpAny (model C.prog C.w) A (exec (.If t a b p) env) (StPost C K kd s0 io0 Z0 env F fl) noE s:=by
 refine wpAny_If (noE_mono (ok.tr kd _ _ _ _ _ h A env _ io s ha x.envR x.sok) fun c' s1 ⟨hc,io1,y,k⟩=>?_)
 subst hc
 have:=hb io1 s1 (x.step y k)
 induction c' using Bool.casesOn<;>exact this
set_option tactic.hygienic true in
theorem while_ok {t:Expr} {body:List Stmt} (okt:∀ fo g c g',pt T n kd (rmOwn fo) t g = some (c,g')→∀ ad O io s,Frm C K kd s0 io0 Z0 env ad O F fo io g s→wpAny (model C.prog C.w) A (isTrue t env (eval t env)) (fun c' s'=>c' = c∧NextPost C K kd s0 io0 Z0 env F fo g' s') noE s)
   (bk:Fo→Sg→Option Fl) (okb:∀ fo g fl,bk fo g = some fl→∀ ad O io s,Frm C K kd s0 io0 Z0 env ad O F fo io g s→wpAny (model C.prog C.w) A (execs body env) (StPost C K kd s0 io0 Z0 env F fl) noE s) {p:Pos} {fl:Fl} {k:Nat}
   (h:whileK (fun fo g=>pt T n kd (rmOwn fo) t g) bk k fo g = some fl) (x:Frm C K kd s0 io0 Z0 env ad O F fo io g s) :
   wpAny (model C.prog C.w) A (exec (.While t body [] p) env) (StPost C K kd s0 io0 Z0 env F fl) noE s:=by
 refine wpAny_While ?_
 refine codeAny_whileLoop (fun k s=>∃ fo g,whileK (fun fo g=>pt T n kd (rmOwn fo) t g) bk k fo g = some fl∧NextPost C K kd s0 io0 Z0 env F fo g s) ?_ k ⟨fo,g,h,ad,O,io,x⟩
 rintro k s ⟨fo,g,h,ad,O,io,x⟩
 induction k using Nat.casesOn with
 | zero=>exact no_opt h
 | succ k =>
   simp only [whileK] at h
   split at h
   · rename_i g1 ht
     refine noE_mono (okt _ _ _ _ ht ad O io s x) ?_
     rintro c s1 ⟨rfl,ad1,O1,io1,x1⟩
     rw [if_pos rfl]
     split at h
     · rename_i fo2 g2 hb
       refine noE_mono (okb _ _ _ hb ad1 O1 io1 s1 x1) ?_
       rintro f s2 ⟨rfl,h2⟩
       exact ⟨k,Nat.lt_succ_self _,fo2,g2,h,h2⟩
     · rename_i r hb
       induction fl using Fl.casesOn with
       | next fo2 g2=>exact absurd h (hb _ _)
       | ret d g2 =>
         refine noE_mono (okb _ _ _ h ad1 O1 io1 s1 x1) ?_
         rintro f s2 ⟨v,rfl,h2⟩
         exact ⟨v,rfl,h2⟩
   · rename_i g1 ht
     refine noE_mono (okt _ _ _ _ ht ad O io s x) ?_
     rintro c s1 ⟨rfl,h1⟩
     simp only [Option.some.injEq] at h
     subst h
     rw [if_neg (by decide)]
     exact wpAny_execs_nil ⟨rfl,h1⟩
   · injection h
end
end Mine
end
section
set_option tactic.hygienic false
open PySem
set_option maxRecDepth 100000
namespace Mine
variable {C:Cst}
section
variable {K K':Kp} {kd:Kd} {s0:Shared} {io0:HI} {Z0 W:List Addr} {env:Env} {ad:Str→Addr} {O F:List Addr} {fo:Fo} {io io':HI} {g g1 g':Sg} {s s':Shared} {A:Around} {L n:Nat} {T:Tbl}
theorem Frm.touch (x:Frm C K kd s0 io0 Z0 env ad O F fo io g s) (t:Touch W s s') (hW:∀ w∈W,w∈Z0∧w∉O∧w∉F) (hK:∀ b o,K.p b o→b∉W) (h0:∀ w∈W,s0.heap.get? w = none):Frm C K kd s0 io0 Z0 env ad O F fo io g s':=by
 have hsub:∀ f∈W,f∈O++(F++Z0):=fun f hf=>List.mem_append_right _ (List.mem_append_right _ (hW f hf).1)
 have nF:∀ b∈F,b∉W:=fun b hb hm=>(hW b hm).2.2 hb
 have nO:∀ b∈O,b∉W:=fun b hb hm=>(hW b hm).2.1 hb
 exact { x with
   grow:=x.grow.touch t h0
   sok:=t.sok hsub x.sok
   ns:=let ⟨m,hn⟩:=x.ns;⟨m,hn.at' fun o e=>t.keep _ o e (nF _ x.lF)⟩
   all:=fun z hz=>let ⟨c',v,h1,⟨o,h2,h3⟩,h4,h5⟩:=x.all z hz;⟨c',v,h1,⟨o,t.keep _ o h2 (nF _ h4),h3⟩,h4,h5⟩
   vals:=fun z ev hz=>by
     refine zea (x.vals z ev hz) fun v hv he=>?_
     refine ⟨v,hv.keep (fun o e=>t.keep _ o e (nF _ x.lF)) (fun c' o hk hc e=>?_),?_⟩
     · refine ze2a3 (x.all z hk) fun c'' J h1 J h4 J=>?_
       rw [hc] at h1;(injection h1 with h1;subst h1)
       exact t.keep _ o e (nF _ h4)
     · induction ev using EV.casesOn with
       | val d=>exact t.has hsub he
       | own l =>
         refine za3ea he fun h1 h2 h3 vs e4q h5=>?_;clear he;obtain ⟨n,h4⟩:=e4q
         exact ⟨h1,h2,h3,vs,⟨n,t.keep _ _ h4 (nO _ h2)⟩,t.hasL hsub h5⟩
   olist:=fun a ha=>let ⟨vs,n,e⟩:=x.olist a ha;⟨vs,n,t.keep _ _ e (nO _ ha)⟩
   kept:=fun b o hp=>let ⟨h1,h2⟩:=x.kept b o hp;⟨t.keep _ _ h1 (hK b o hp),h2⟩ }
theorem Frm.moreW (x:Frm C K kd s0 io0 Z0 env ad O F fo io g s) (kp:Keeps s s') (hW:∀ w∈W,s.heap.get? w = none∧∃ o,s'.heap.get? w = some o):Frm C K kd s0 io0 (W++Z0) env ad O F fo io g s':=by
 have x1:=x.step (Keeps.grow C kp) (Keeps.sok C kp x.sok)
 have mem:∀ z,z∈O++(F++(W++Z0))→z∈W++(O++(F++Z0)):=fun z hz=>by
   simp only [List.mem_append] at hz ⊢
   rcases hz with h | h | h | h<;>simp [h]
 refine ze2a kp fun h' tk e2q hkk=>?_;clear kp;subst e2q
 have wn:∀ {a:Addr} {o:Obj},s.heap.get? a = some o→a∉W:=fun e hm=>by rw [(hW _ hm).1] at e;injection e
 exact { x1 with
   sok:=(Sok.more_many x.sok ⟨h',tk,rfl,hkk⟩ hW).less C mem
   vals:=fun z ev hz=>by
     refine zea (x.vals z ev hz) fun v hv he=>?_
     refine ⟨v,hv.keep (fun o e=>hkk _ o e) (fun c o hk hc e=>hkk _ o e),EVal.less (Z:=W++(O++(F++Z0))) ?_ mem⟩
     have up:∀ (a:Addr) (o:Obj),s.heap.get? a = some o→a∉VV C io (O++(F++Z0))→h'.get? a = some o∧a∉VV C io (W++(O++(F++Z0))):=fun a o e ha=>⟨hkk a o e,fun hm=>by
       rcases vv_split hm with h | h
       · exact ha h
       · exact wn e h⟩
     induction ev using EV.casesOn with
     | val d=>exact Has.mono C up (fun J J e=>e) he
     | own l =>
       refine za3ea he fun h1 h2 h3 vs e4q h5=>?_;clear he;obtain ⟨n,h4⟩:=e4q
       exact ⟨h1,h2,h3,vs,⟨n,hkk _ _ h4⟩,HasL.mono C up (fun J J e=>e) h5⟩
   disj:=fun a ha hm=>by
     simp only [List.mem_append] at hm
     rcases hm with h | h | h
     · exact x.disj a ha (List.mem_append_left _ h)
     · refine ze2 (x.olist a ha) fun vs n e=>?_
       exact wn e h
     · exact x.disj a ha (List.mem_append_right _ h) }
theorem Frm.dropW (x:Frm C K kd s0 io0 (W++Z0) env ad O F fo io g s) {h':Heap} {tk:Nat} (keep:∀ b o,s.heap.get? b = some o→b∉W→h'.get? b = some o) (hF:∀ w∈W,w∉F) (hZ:∀ w∈W,w∉Z0) (h0:∀ w∈W,s0.heap.get? w = none) (hK:∀ b o,K.p b o→b∉W):Frm C K kd s0 io0 Z0 env ad O F fo io g { s with heap:=h',toks:=tk }:=by
 have hO:∀ w∈W,w∉O:=fun w hw hm=>x.disj w hm (by simp [hw])
 have same:∃ h'' tk',({ s with heap:=h',toks:=tk }:Shared) = { s with heap:=h'',toks:=tk' }:=⟨h',tk,rfl⟩
 have mem:∀ z,z∈W++(O++(F++Z0))→z∈O++(F++(W++Z0)):=fun z hz=>by
   simp only [List.mem_append] at hz ⊢
   rcases hz with h | h | h | h<;>simp [h]
 have nF:∀ b∈F,b∉W:=fun b hb hm=>hF b hm hb
 have nO:∀ b∈O,b∉W:=fun b hb hm=>hO b hm hb
 exact { x with
   grow:=x.grow.drop (F:=W) same keep h0
   sok:=Sok.drop (F:=W) (x.sok.less C mem) same keep fun f hf hm=>by
     simp only [List.mem_append] at hm
     rcases hm with h | h | h
     · exact hO f hf h
     · exact hF f hf h
     · exact hZ f hf h
   ns:=let ⟨m,hn⟩:=x.ns;⟨m,hn.at' fun o e=>keep _ o e (nF _ x.lF)⟩
   all:=fun z hz=>let ⟨c',v,h1,⟨o,h2,h3⟩,h4,h5⟩:=x.all z hz;⟨c',v,h1,⟨o,keep _ o h2 (nF _ h4),h3⟩,h4,h5⟩
   vals:=fun z ev hz=>by
     refine zea (x.vals z ev hz) fun v hv he=>?_
     refine ⟨v,hv.keep (fun o e=>keep _ o e (nF _ x.lF)) (fun c' o hk hc e=>?_),?_⟩
     · refine ze2a3 (x.all z hk) fun c'' J h1 J h4 J=>?_
       rw [hc] at h1;(injection h1 with h1;subst h1)
       exact keep _ o e (nF _ h4)
     · have he':=EVal.less he mem
       induction ev using EV.casesOn with
       | val d=>exact Has.drop (F:=W) (s':={ s with heap:=h',toks:=tk }) he' keep
       | own l =>
         refine za3ea he' fun h1 h2 h3 vs e4q h5=>?_;clear he';obtain ⟨n,h4⟩:=e4q
         exact ⟨h1,h2,h3,vs,⟨n,keep _ _ h4 (nO _ h2)⟩,HasL.drop (F:=W) (s':={ s with heap:=h',toks:=tk }) h5 keep⟩
   olist:=fun a ha=>let ⟨vs,n,e⟩:=x.olist a ha;⟨vs,n,keep _ _ e (nO _ ha)⟩
   disj:=fun a ha hm=>x.disj a ha (by
     simp only [List.mem_append] at hm ⊢
     rcases hm with h | h<;>simp [h])
   kept:=fun b o hp=>let ⟨h1,h2⟩:=x.kept b o hp;⟨keep _ _ h1 (hK b o hp),h2⟩ }
theorem Frm.withK (x:Frm C K kd s0 io0 Z0 env ad O F fo io g s) (h:∀ b o,K'.p b o→s.heap.get? b = some o∧b∉C.vt∧b∉adr io∧b∉O∧b∉F) (hp:∀ (k:Nat) t,K'.io[k]? = some t→io[k]? = some t):Frm C K' kd s0 io0 Z0 env ad O F fo io g s:={ x with kept:=h,pref:=hp }
theorem tgt_store (ha:A.handled = none) (x:Frm C K kd s0 io0 Z0 env ad O F fo io g s) {t:Expr} {d:D} {b:List (Str × D)} {v:Value} (hb:tgt t d = some b) (hcs:∀ p∈b,canSet kd p.1 = true) (hd:Has C (VV C io (O++(F++Z0))) io s.heap d v) {Q:Unit→Shared→Prop} {E:Value→Shared→Prop}
   (h:∀ ad' s3,Frm C K kd s0 io0 Z0 env ad' O F (setEs b fo) io g s3→(∀ c o,c∉F→s.heap.get? c = some o→s3.heap.get? c = some o)→(∀ y u,(∀ p∈b,y≠p.1)→VarAt kd env s.heap y u→VarAt kd env s3.heap y u)→Q () s3):wpAny (model C.prog C.w) A (assign t env v) Q E s:=by
 rcases tgt_inv hb with ⟨z,pz,rfl,rfl⟩ | ⟨y,py,z,pz,k,p,d1,d2,rfl,hyz,rfl,rfl⟩
 · exact wpAny_assign_Name (x.store' (ev:=.val d) (a:=ad z) (hcs _ (.head _)) hd (fun l hl=>by injection hl) fun s3 x3 k3 v3=>h _ s3 x3 k3 fun y u hy=>v3 y u (hy _ (.head _)))
 · · · refine zae2a3e2a2e2a2 hd fun J a vs e3q J ht v1 r1 e1 q1 v2 r2 e2 q2 e3=>?_;clear hd;subst e3q
       subst e3 e2
       have hvs:vs = #[v1,v2]:=by rw [← Array.toArray_toList (xs:=vs),e1]
       subst hvs
       refine wpAny_assign_Tuple ha ht.isTuple rfl rfl fun h₁ he₁=>?_
       have kp:Keeps s { s with heap:=h₁ }:=⟨h₁,s.toks,rfl,fun b o e=>he₁ b o (Nat.ne_of_lt (Heap.lt_size e)) e⟩
       have x1:=x.step (Keeps.grow C kp) (Keeps.sok C kp x.sok)
       have q1':=keepsHas kp q1
       have q2':=keepsHas kp q2
       show wpAny _ _ (assignInOrder [assign (.Name y py) env,assign (.Name z pz) env] [v1,v2]) _ _ _
       refine PyProof.Rows.assignInOrder_cons (wpAny_assign_Name (x1.store' (ev:=.val d1) (a:=ad y) (hcs _ (.head _)) q1' (fun l hl=>by injection hl) fun s2 x2 k2 w2=>?_))
       have q2'':Has C (VV C io (O++(F++Z0))) io s2.heap d2 v2:=Has.mono C (fun a o e hn=>⟨k2 a o (fun hm=>hn (by
         exact List.mem_append_right _ (List.mem_append_right _ (List.mem_append_left _ hm)))) e,hn⟩) (fun J J e=>e) q2'
       refine PyProof.Rows.assignInOrder_cons (wpAny_assign_Name (x2.store' (ev:=.val d2) (a:=ad z) (hcs _ (.tail _ (.head _))) q2'' (fun l hl=>by injection hl) fun s3 x3 k3 w3=>PyProof.Rows.assignInOrder_nil (h _ s3 x3 (fun c o hc e=>k3 c o hc (k2 c o hc (he₁ c o (Nat.ne_of_lt (Heap.lt_size e)) e))) fun u w hu hv=>?_)))
       refine w3 u w (hu _ (.tail _ (.head _))) (w2 u w (hu _ (.head _)) (hv.keep (fun o e=>he₁ _ o (Nat.ne_of_lt (Heap.lt_size e)) e) fun c o J J e=>he₁ c o (Nat.ne_of_lt (Heap.lt_size e)) e))
inductive ForInv (C:Cst) (K1:Kp) (kd:Kd) (s0:Shared) (io0:HI) (Z1:List Addr) (env:Env) (F:List Addr) (StI:Nat→Heap→Prop) (P:List D→Fo→Sg→Option Fl) (ds:List D) (fl:Fl) (k:Nat) (s:Shared):Prop
 | mk (fo:Fo) (g:Sg) (ad:Str→Addr) (O:List Addr) (io:HI) (i:Nat) (hk:k + i = ds.length + 1) (hi:i≤ds.length) (hr:P (ds.drop i) fo g = some fl) (hs:StI i s.heap) (x:Frm C K1 kd s0 io0 Z1 env ad O F fo io g s)
theorem forK_cons {body:Fo→Sg→Option Fl} {t:Expr} {d:D} {ds:List D} {fo:Fo} {g:Sg} {r:Fl} (h:forK body kd t (d::ds) fo g = some r) :
   ∃ b,tgt t d = some b∧(b.all fun p=>canSet kd p.1) = true∧∃ f,body (setEs b fo) g = some f∧((∃ fo2 g2,f = .next fo2 g2∧forK body kd t ds fo2 g2 = some r)∨∃ d2 g2,f = .ret d2 g2∧r = .ret d2 g2):=by
 replace h:(match tgt t d with | none=>none | some b=>if (b.all fun p=>canSet kd p.1) = true then (match body (setEs b fo) g with | some (.next fo g)=>forK body kd t ds fo g | r=>r) else none) = some r:=h
 induction hb:tgt t d using Option.casesOn with
 | none=>rw [hb] at h;exact no_opt h
 | some b =>
   rw [hb] at h
   refine za (if_some_v h) fun hc h=>?_
   induction hf:body (setEs b fo) g using Option.casesOn with
   | none=>rw [hf] at h;exact no_opt h
   | some f =>
     rw [hf] at h
     refine ⟨b,rfl,hc,f,hf,?_⟩
     induction f using Fl.casesOn with
     | next fo2 g2=>exact .inl ⟨_,_,rfl,h⟩
     | ret d2 g2=>exact .inr ⟨_,_,rfl,(Option.some.inj h).symm⟩
set_option tactic.hygienic true in
theorem for_ok {X:List Addr} {iter t:Expr} {p:Pos} {body:List Stmt} {ds:List D} {bk:Fo→Sg→Option Fl} {fl:Fl} (hs:∀ elts k p,iter≠.Set elts k p)
   (okb:∀ (K:Kp) (Z0:List Addr) fo g fl,bk fo g = some fl→∀ ad O io s,Frm C K kd s0 io0 Z0 env ad O F fo io g s→wpAny (model C.prog C.w) A (execs body env) (StPost C K kd s0 io0 Z0 env F fl) noE s)
   (x:Frm C K kd s0 io0 Z0 env ad O F fo io g s) (hit:wpAny (model C.prog C.w) A (eval iter env) (SrcPost C A X (O++(F++Z0)) io s ds g1) noE s) (hX:∀ b∈O++F,b∈X) (ha:AOk A L) (h:forK bk kd t ds fo g1 = some fl) :
   wpAny (model C.prog C.w) A (exec (.For t iter body [] p) env) (StPost C K kd s0 io0 Z0 env F fl) noE s:=by
 refine wpAny_For (noE_mono hit fun v s1 ⟨io1,y,k1,hsrc⟩=>noE_mono hsrc fun it s2 src=>?_) (folded_none hs)
 have x1:=x.step y k1
 obtain ⟨I,fp,wr,P,StI,rfl,W,hst,k12,hwr,hfp',hP,hlen,hal,hgo⟩:=src
 have hfp:∀ b∈fp,b∈wr∨∃ o,s1.heap.get? b = some o∧b∉C.vt∧b∉adr io1∧b∉O∧b∉F:=fun b hb=>by
   rcases hfp' b hb with h | ⟨o,e,hv⟩
   · exact .inl h
   · simp only [VV,List.mem_append,not_or] at hv
     exact .inr ⟨o,e,hv.1.1,hv.1.2,fun hm=>hv.2 (hX b (List.mem_append_left _ hm)),fun hm=>hv.2 (hX b (List.mem_append_right _ hm))⟩
 have x2:=x1.moreW k12 hwr
 have wF:∀ w∈wr,w∉F:=fun w hw hm=>by
   refine ze (x1.sok.zal w (List.mem_append_right _ (List.mem_append_left _ hm))) fun o e=>?_
   rw [(hwr w hw).1] at e;injection e
 have wZ:∀ w∈wr,w∉Z0:=fun w hw hm=>by
   refine ze (x1.sok.zal w (List.mem_append_right _ (List.mem_append_right _ hm))) fun o e=>?_
   rw [(hwr w hw).1] at e;injection e
 have w0:∀ w∈wr,s0.heap.get? w = none:=fun w hw=>by
   induction e:s0.heap.get? w using Option.casesOn with
   | none=>rfl
   | some o=>refine ze (x1.grow.alive w o e) fun o' e'=>?_;rw [(hwr w hw).1] at e';injection e'
 have wK:∀ b o,K.p b o→b∉wr:=fun b o hp hm=>by
   have:=(x1.kept b o hp).1
   rw [(hwr _ hm).1] at this;injection this
 let K1:Kp:=⟨fun b o=>s1.heap.get? b = some o∧b∉C.vt∧b∉adr io1∧b∉O∧b∉F,io1⟩
 have kk:∀ b o,s1.heap.get? b = some o→s2.heap.get? b = some o:=by refine ze2a k12 fun h' tk e2q hkk=>?_;clear k12;subst e2q;exact hkk
 have K1w:∀ b o,K1.p b o→b∉wr:=fun b o hb hm=>by refine za hb fun e J=>?_;clear hb;rw [(hwr b hm).1] at e;injection e
 have KK1:∀ b o,K.p b o→K1.p b o:=fun b o hb=>x1.kept b o hb
 have x3:Frm C K1 kd s0 io0 (wr++Z0) env ad O F fo io1 g1 s2:=x2.withK (fun b o hb=>⟨kk b o hb.1,hb.2⟩) (fun J J e=>e)
 let Inv:Nat→Shared→Prop:=ForInv C K1 kd s0 io0 (wr++Z0) env F StI (forK bk kd t) ds fl
 refine codeAny_forLoop_any Inv ?_ (ds.length + 1)
   ⟨fo,g1,ad,O,io1,0,rfl,Nat.zero_le _,by simpa using h,hst,x3⟩
 rintro k s ⟨fo,g,ad,Oc,io,i,hki,hi,hrun,sti,xi⟩
 have wOc:∀ w∈wr,w∉Oc:=fun w hw hm=>xi.disj w hm (by simp [hw])
 by_cases hlt:i < ds.length
 · refine W.item i _ _ _ hlt sti fun v hp tkp hPv hstp hkp=>?_
   have tw:Touch wr s { s with heap:=hp,toks:=tkp }:=⟨⟨hp,tkp,rfl⟩,fun b o e hb=>hkp b o hb e,fun b hb J=>hal _ _ hstp b hb⟩
   have xj:=xi.touch tw (fun w hw=>⟨List.mem_append_left _ hw,wOc w hw,wF w hw⟩) K1w w0
   refine zea (hP i v hlt hPv) fun d hd hdv=>?_
   have hdrop:ds.drop i = d::ds.drop (i + 1):=by
     rw [List.drop_eq_getElem_cons hlt]
     have:ds[i] = d:=by simpa [hlt] using hd
     rw [this]
   rw [hdrop] at hrun
   refine zea2ea (forK_cons hrun) fun bt hbt hcs f1 hb hor=>?_
   · have hcs':∀ p∈bt,canSet kd p.1 = true:=List.all_eq_true.mp hcs
     refine go_plain (hgo _ _ hstp) ?_
     have hdv':Has C (VV C io (Oc++(F++(wr++Z0)))) io hp d v:=Has.mono C (fun a o e hn=>by
       have hn':=hn
       unfold VV at hn'
       simp only [List.mem_append,not_or] at hn'
       have hk1:K1.p a o:=⟨e,hn'.1.1,hn'.1.2,hn'.2.1,hn'.2.2.1⟩
       refine za4 (xj.kept a o hk1) fun q1 q2 q3 q4 q5=>?_
       refine ⟨q1,fun hm=>?_⟩
       unfold VV at hm
       simp only [List.mem_append] at hm
       rcases hm with (hm | hm) | hm | hm | hm | hm
       · exact q2 hm
       · exact q3 hm
       · exact q4 hm
       · exact q5 hm
       · exact K1w a o hk1 hm
       · exact hn'.2.2.2 hm) xj.pref hdv
     refine tgt_store ha.hh xj hbt hcs' hdv' fun ad3 s3 x3 kp3 J=>?_
     have hst3:StI (i + 1) s3.heap:=W.frame _ _ _ hstp fun b hb o e=>kp3 b o (fun hm=>by
       rcases hfp b hb with h | ⟨o',e',hv⟩
       · exact wF b h hm
       · exact hv.2.2.2 hm) e
     let K2:Kp:=⟨fun b o=>s3.heap.get? b = some o∧b∉C.vt∧b∉adr io∧b∉Oc∧b∉F,io⟩
     have x4:Frm C K2 kd s0 io0 (wr++Z0) env _ Oc F (setEs bt fo) io g s3:=x3.withK (fun b o hb=>hb) (fun J J e=>e)
     have K12:∀ b o,K1.p b o→K2.p b o:=fun b o hb=>x3.kept b o hb
     have back:∀ {ad O io s fo g},Frm C K2 kd s0 io0 (wr++Z0) env ad O F fo io g s→Frm C K1 kd s0 io0 (wr++Z0) env ad O F fo io g s∧StI (i + 1) s.heap:=fun {ad O io s fo g} xx=>by
       refine ⟨xx.withK (fun b o hb=>xx.kept b o (K12 b o hb)) (fun k t e=>xx.pref k t (x3.pref k t e)),W.frame _ _ _ hst3 fun b hb o e=>?_⟩
       refine (xx.kept b o ⟨e,?_⟩).1
       rcases hfp b hb with h | ⟨o',e',hv⟩
       · have:=x3.sok.zd b (by simp [h])
         exact ⟨this.1,this.2.1,wOc b h,wF b h⟩
       · exact (x3.kept b o' ⟨e',hv⟩).2
     rcases hor with ⟨fo2,g2,ef,hrun⟩ | ⟨d2,g2,ef,er⟩
     · rw [ef] at hb
       refine noE_mono (okb K2 _ _ _ _ hb _ _ _ _ x4) ?_
       rintro f s4 ⟨rfl,ad4,O4,io4,x5⟩
       refine za (back x5) fun b1 b2=>?_
       exact ⟨k - 1,by lia,fo2,g2,ad4,O4,io4,i + 1,by lia,by lia,hrun,b2,b1⟩
     · subst er
       rw [ef] at hb
       · refine noE_mono (okb K2 _ _ _ _ hb _ _ _ _ x4) ?_
         rintro f s4 ⟨v2,rfl,io4,q1,q2,q3⟩
         exact ⟨v2,rfl,io4,q1,q2.less C fun z hz=>List.mem_append_right _ hz,Has.less C q3 fun z hz=>List.mem_append_right _ hz⟩
 · have hin:i = ds.length:=by lia
   subst hin
   rw [List.drop_length] at hrun
   injection (show some (Fl.next fo g) = some fl from hrun) with hrun
   subst hrun
   refine W.done _ _ _ sti fun hp tkp hkp=>wpAny_execs_nil ⟨rfl,ad,Oc,io,?_⟩
   have xx:=xi.dropW (h':=hp) (tk:=tkp) (fun b o e hb=>hkp b o hb e) wF wZ w0 K1w
   exact xx.withK (fun b o hb=>xx.kept b o (KK1 b o hb)) (fun k t e=>xx.pref k t (x1.pref k t e))
end
end Mine
end
section
set_option tactic.hygienic false
open PySem
set_option maxRecDepth 100000
namespace Mine
variable {C:Cst}
section
variable {prog:Program} {w:World} {A:Around} {E:Value→Shared→Prop} {s:Shared}
theorem setItem_plain {l:Addr} {items:Array Value} {i:Int} {t:Tok} {v:Value} {Q:Unit→Shared→Prop} (hl:s.heap.PlainList l items) (h0:0≤i) (hf:Builtin.List.listFitsIndex i = true) (hn:i < items.size)
   (hQ:∀ h',h'.PlainList l (items.setIfInBounds i.toNat v)→Heap.SameBut l s.heap h'→Q () { s with heap:=h' }):wpAny (model prog w) A (setItem (.ref l) (.int i t) v) Q E s:=by
 refine ze hl fun n ho=>?_;clear hl
 have hT:s.TypeIs (.ref l) "list":=⟨_,ho,rfl⟩
 unfold setItem
 try with_reducible refine wpAny_holding ?_
 first | refine wpAny_bind (wpAny_pure ?_) | skip
 refine wpAny_bind (wpAny_sequenceKey hT (by decide) ?_)
 refine wpAny_bind (wpAny_callSpecial?_slot (name:=Str.ofString "__setitem__") hT slot_list_setitem (wpAny_call_entry slot_list_setitem hT entry_list_setitem ?_ (args_list_setitem _ _ _)))
 show wpAny _ _ (Builtin.List.listSubscript? (.int i t) >>= _) _ _ s
 refine wpAny_bind (wpAny_listSubscript_int hf ?_)
 refine ze (Int.eq_ofNat_of_zero_le h0) fun k e1q=>?_;subst e1q
 have hj:k < items.size:=by lia
 have hx:items[k]? = some items[k]:=Array.getElem?_eq_getElem hj
 show wpAny _ _ ((seqItemAt l k >>= fun r=>pure (r.map (k,·))) >>= _) _ _ s
 refine wpAny_bind (wpAny_bind (wpAny_seqItemAt ho rfl (wpAny_pure ?_)))
 rw [hx]
 show wpAny _ _ (setSeqItemAt l k v >>= _) _ _ s
 have z:(s.heap.update l (Obj.mapSeq (·.setIfInBounds k v))).PlainList l (items.setIfInBounds k v):=⟨_,Heap.get?_update_self _ ho rfl⟩
 have q:=hQ _ z (Heap.SameBut.update ..)
 refine wpAny_bind (wpAny_setSeqItemAt ho rfl ?_)
 first
   | exact wpAny_bind (wpAny_pure (wpAny_pure ⟨.none,rfl,wpAny_pure q⟩))
   | exact wpAny_pure ⟨.none,rfl,wpAny_pure q⟩
end
theorem fits_of {i:Int} (h0:0≤i) (h:i < 2 ^ 63):Builtin.List.listFitsIndex i = true:=fitsIndex_of h0 h
theorem HasL.set {V:List Addr} {io:HI} {h:Heap} {d:D} {v:Value} (hd:Has C V io h d v):∀ {ds:List D} {vs:List Value} (k:Nat),HasL C V io h ds vs→HasL C V io h (ds.set k d) (vs.set k v)
 | [],vs,k,x=>by subst x;simp [HasL]
 | e::r,vs,0,x=>by
   refine ze2a2 x fun u us e2q h1 h2=>?_;clear x;subst e2q
   simp only [List.set_cons_zero,HasL];exact ⟨v,us,rfl,hd,h2⟩
 | e::r,vs,k + 1,x=>by
   refine ze2a2 x fun u us e2q h1 h2=>?_;clear x;subst e2q
   simp only [List.set_cons_succ,HasL];exact ⟨u,_,rfl,h1,HasL.set hd k h2⟩
section
variable {K K':Kp} {kd:Kd} {s0:Shared} {io0:HI} {Z0 W:List Addr} {env:Env} {ad:Str→Addr} {O F:List Addr} {fo:Fo} {io io':HI} {g g1 g':Sg} {s s':Shared} {A:Around} {L n:Nat} {T:Tbl}
theorem Frm.setOwn (x:Frm C K kd s0 io0 Z0 env ad O F fo io g s) {z:Str} {l l':List D} {vs:Array Value} (hz:fo.lookup z = some (.own l)) (t:Touch [ad z] s s') (hp:s'.heap.PlainList (ad z) vs) (hl:l'.length≤lim)
   (hs:HasL C (VV C io (O++(F++Z0))) io s.heap l' vs.toList):Frm C K kd s0 io0 Z0 env ad O F (setE z (.own l') fo) io g s':=by
 refine zea3 (x.vals z _ hz) fun vz hvz hez hzO J=>?_
 have hsub:∀ f∈[ad z],f∈O++(F++Z0):=fun f hf=>by simp only [List.mem_singleton] at hf;subst hf;exact List.mem_append_left _ hzO
 have nF:∀ b∈F,b∉[ad z]:=fun b hb hm=>by simp only [List.mem_singleton] at hm;subst hm;exact x.disj _ hzO (List.mem_append_left _ hb)
 exact { x with
   grow:=x.grow.touch t fun f hf=>by simp only [List.mem_singleton] at hf;subst hf;exact x.fresh _ (List.mem_append_left _ hzO)
   sok:=t.sok hsub x.sok
   ns:=let ⟨m,hn⟩:=x.ns;⟨m,hn.at' fun o e=>t.keep _ o e (nF _ x.lF)⟩
   all:=fun y hy=>let ⟨c',v,h1,⟨o,h2,h3⟩,h4,h5⟩:=x.all y hy;⟨c',v,h1,⟨o,t.keep _ o h2 (nF _ h4),h3⟩,h4,h5⟩
   vals:=fun y ev hy=>by
     rw [setE_lookup] at hy
     have vk:∀ y u,VarAt kd env s.heap y u→VarAt kd env s'.heap y u:=fun y u hu=>hu.keep (fun o e=>t.keep _ o e (nF _ x.lF)) (fun c' o hk hc e=>by
       refine ze2a3 (x.all y hk) fun c'' J h1 J h4 J=>?_
       rw [hc] at h1;(injection h1 with h1;subst h1)
       exact t.keep _ o e (nF _ h4))
     by_cases hyz:y = z
     · subst hyz
       rw [if_pos rfl,Option.some.injEq] at hy
       subst hy
       exact ⟨vz,vk _ _ hvz,hez,hzO,hl,vs,hp,t.hasL hsub hs⟩
     · rw [if_neg hyz] at hy
       refine zea (x.vals y ev hy) fun u h1 h2=>?_
       refine ⟨u,vk _ _ h1,?_⟩
       induction ev using EV.casesOn with
       | val d=>exact t.has hsub h2
       | own m =>
         refine za3ea h2 fun q1 q2 q3 us e4q q5=>?_;clear h2;obtain ⟨k,q4⟩:=e4q
         refine ⟨q1,q2,q3,us,⟨k,t.keep _ _ q4 ?_⟩,t.hasL hsub q5⟩
         simpa using x.apart y z m l hyz hy hz
   olist:=fun a ha=>by
     by_cases he:a = ad z
     · subst he;exact ⟨vs,hp⟩
     · let ⟨us,k,e⟩:=x.olist a ha
       exact ⟨us,k,t.keep _ _ e (by simpa using he)⟩
   apart:=fun y w m m' hne h1 h2=>by
     rw [setE_lookup] at h1 h2
     by_cases hyz:y = z
     · subst hyz
       rw [if_neg (Ne.symm hne)] at h2
       exact x.apart y w l m' hne hz h2
     · rw [if_neg hyz] at h1
       by_cases hwz:w = z
       · subst hwz;exact x.apart y w m l hne h1 hz
       · rw [if_neg hwz] at h2;exact x.apart y w m m' hne h1 h2
   nd:=setE_nodup x.nd
   kept:=fun b o hb=>let ⟨h1,h2,h3,h4,h5⟩:=x.kept b o hb;⟨t.keep _ _ h1 (fun hm=>by simp only [List.mem_singleton] at hm;subst hm;exact h4 hzO),h2,h3,h4,h5⟩ }
theorem place_nat {n k:Nat} {i:Int} (h:place n i = some k) (h0:0≤i):i = (k:Int)∧k < n:=by
 unfold place at h
 rw [if_pos h0] at h
 split at h
 · simp only [Option.some.injEq] at h;lia
 · injection h
theorem var_ok (x:Frm C K kd s0 io0 Z0 env ad O F fo io g s) {z:Str} {p:Pos} {v:Value} (h:VarAt kd env s.heap z v) (hd:(z==("__debug__":Str)) = false) {Q:Value→Shared→Prop} {E:Value→Shared→Prop} (hq:Q v s) :
   wpAny (model C.prog C.w) A (eval (.Name z p) env) Q E s:=by
 refine wpAny_Name ?_ hd
 rcases h with ⟨h1,m,hn,hm⟩ | ⟨h1,c,hc,hv⟩
 · exact wpAny_loadName_local x.fn ((x.kdo z).trans h1) hn hm hq
 · exact wpAny_loadName_cell x.fn ((x.kdo z).trans h1) hc hv hq
set_option tactic.hygienic true in
theorem setAt_ok {l l':List D} {i d:D} (h:setAt l i d = some l'):∃ k:Nat,i = .int (k:Int)∧k < l.length∧l' = l.set k d:=by
 unfold setAt at h
 split at h
 · rename_i i
   refine za (if_some h) fun h0 h=>?_
   simp only [Option.map_eq_some_iff] at h
   refine zea h fun k hk e2q=>?_;clear h;subst e2q
   refine za (place_nat hk h0) fun e0q hlt=>?_;subst e0q
   exact ⟨k,rfl,hlt,rfl⟩
 · injection h
theorem putT_ok (ok:AllOk C L n T) (ha:AOk A L):∀ (ts:List Expr) (ds:List D) (fo:Fo) (g:Sg) (fo':Fo) (g':Sg),putT T n kd ts ds fo g = some (fo',g')→∀ (ad:Str→Addr) (O:List Addr) (io:HI) (s:Shared) (vs:List Value),
   Frm C K kd s0 io0 Z0 env ad O F fo io g s→HasL C (VV C io (O++(F++Z0))) io s.heap ds vs→wpAny (model C.prog C.w) A (assignInOrder ((assignEach ts env).map (·.2)) vs) (fun J s'=>NextPost C K kd s0 io0 Z0 env F fo' g' s') noE s:=by
 intro ts
 induction ts with
 | nil =>
   intro ds fo g fo' g' h ad O io s vs x hv
   cases put_view h with
   | nil hr =>
     injection hr with hr1 hr2;subst fo';subst g'
     subst hv
     exact wpAny_pure ⟨ad,O,io,x⟩
 | cons t ts ih =>
   intro ds fo g fo' g' h ad O io s vs x hv
   have hw:=put_view h
   clear h
   cases hw with
   | name z pz _ d ds hz h =>
     refine ze2a2 hv fun v r e2q hd hr=>?_;clear hv;subst e2q
     show wpAny _ A (holding r (assign (.Name z pz) env v) >>= fun J=>assignInOrder ((assignEach ts env).map (·.2)) r) _ _ _
     refine wpAny_bind (wpAny_holding (wpAny_assign_Name (x.store (ev:=.val d) (a:=ad z) hz hd (fun l hl=>by injection hl) fun s1 x1 kp=>?_)))
     refine ih ds _ _ _ _ h _ O io s1 r x1 (HasL.mono C (fun a o e hn=>⟨kp a o (fun hm=>hn ?_) e,hn⟩) (fun J J e=>e) hr)
     exact List.mem_append_right _ (List.mem_append_right _ (List.mem_append_left _ hm))
   | sub z pz i pi _ d ds l j g1 l2 hdb hz hi hf hs h =>
     refine ze2a2 hv fun v r e2q hd hr=>?_;clear hv;subst e2q
     refine zea2 (setAt_ok hs) fun k e1q hk e3q=>?_;subst e1q;subst e3q
     show wpAny _ A (holding r (assign (.Subscript (.Name z pz) i pi) env v) >>= fun J=>assignInOrder ((assignEach ts env).map (·.2)) r) _ _ _
     refine wpAny_bind (wpAny_holding ?_)
     rw [assign_Subscript]
     refine zea4ea (x.vals z _ hz) fun vz hvz e2q hzO hzl ws hp hws=>?_;subst e2q
     refine wpAny_bind (wpAny_holding (var_ok x hvz hdb ?_))
     refine wpAny_bind (wpAny_holding (noE_mono (ok.ev kd _ _ _ _ _ hi A env _ io s ha x.envR x.sok) fun vi s1 ⟨io1,y,k1,hvi⟩=>?_))
     have x1:=x.step y k1
     refine wpAny_bind (wpAny_standAt ?_)
     refine ze hvi fun ti e1q=>?_;clear hvi;subst e1q
     refine zea4ea (x1.vals z _ hz) fun vz1 hvz1 he1 hzO1 hzl1 ws1 hp1 hws1=>?_
     have hn1:=HasL.length C hws1
     simp only [Array.length_toList] at hn1
     have hlm:lim = 1000000:=rfl
     refine wpAny_bind (wpAny_holding (setItem_plain hp1 (Int.natCast_nonneg k) (fits_of (Int.natCast_nonneg k) (by lia)) (by lia) fun h2 hp2 hsb=>?_))
     refine wpAny_release ?_
     have t2:Touch [ad z] s1 { s1 with heap:=h2 }:=Touch.same_but (tk:=s1.toks) hsb (let ⟨n,e⟩:=hp2;⟨_,e⟩)
     have x2:=x1.setOwn (l':=l.set k d) hz t2 hp2 (by rw [List.length_set];exact hzl) (by
       rw [Int.toNat_natCast,Array.toList_setIfInBounds]
       exact HasL.set (y.has C hd) k hws1)
     refine ih ds _ _ _ _ h ad O io1 _ r x2 (t2.hasL (fun f hf=>?_) (y.hasL C hr))
     simp only [List.mem_singleton] at hf;subst hf;exact List.mem_append_left _ hzO
end
end Mine
end
section
set_option tactic.hygienic false
open PySem
set_option maxRecDepth 100000
namespace Mine
variable {C:Cst}
section
variable {K K':Kp} {kd:Kd} {s0:Shared} {io0:HI} {Z0 W:List Addr} {env:Env} {ad:Str→Addr} {O F:List Addr} {fo:Fo} {io io':HI} {g g1 g':Sg} {s s':Shared} {A:Around} {L n:Nat} {T:Tbl}
theorem swapF_ok (hk:∀ x,env.kindOf x = kd x) (hb:env.blockKind = .function) {ts vs:List Expr} {a c:Nat} {b d:Pos} {r:Option (List Str)} (h:swapF kd ts vs = some r):swappedStores [.Tuple ts a b] (.Tuple vs c d) env = pure r:=by
 have hkd:kd = env.kindOf:=funext fun x=>(hk x).symm
 subst hkd
 unfold swapF at h
 unfold swappedStores
 rw [hb]
 dsimp only at h ⊢
 show (if _ then _ else _) = _
 by_cases c1:(!(ts.length==2||ts.length==3)||vs.length != ts.length) = true
 · rw [if_pos c1,Option.some.injEq] at h
   subst h
   rw [if_pos (by rw [c1];rfl)]
 · rw [if_neg c1] at h
   rw [if_neg (by simpa using c1)]
   split at h
   · rename_i c2
     injection h with h;subst h
     exact if_pos c2
   · rename_i c2
     refine (if_neg c2).trans ?_
     split at h
     · rename_i c3
       injection h with h;subst h
       exact if_pos c3
     · rename_i c3
       refine (if_neg c3).trans ?_
       split at h
       · rename_i c4
         injection h with h;subst h
         exact if_pos c4
       · rename_i c4
         refine (if_neg c4).trans ?_
         split at h
         · injection h
         · rename_i c5
           injection h with h;subst h
           exact if_neg c5
theorem names_ok {st:Str→Value→Sem Unit} (hst:∀ (z:Str) (v:Value) (Q:Unit→Shared→Prop) (s:Shared),wpAny (model C.prog C.w) A (storeName env z v) Q noE s→wpAny (model C.prog C.w) A (st z v) Q noE s) :
   ∀ (ns:List Str) (ds:List D) (fo:Fo) (ad:Str→Addr) (s:Shared) (vs:List Value),(∀ z∈ns,canSet kd z = true)→ns.length = ds.length→Frm C K kd s0 io0 Z0 env ad O F fo io g s→HasL C (VV C io (O++(F++Z0))) io s.heap ds vs →
   wpAny (model C.prog C.w) A (assignInOrder (ns.map st) vs) (fun J s'=>NextPost C K kd s0 io0 Z0 env F (setEs (ns.zip ds) fo) g s') noE s
 | [],ds,fo,ad,s,vs,hz,hl,x,hv=>by
   induction ds using List.casesOn with
   | cons _ _=>simp at hl
   | nil=>subst hv;exact wpAny_pure ⟨ad,O,io,x⟩
 | z::ns,ds,fo,ad,s,vs,hz,hl,x,hv=>by
   induction ds using List.casesOn with
   | nil=>simp at hl
   | cons d ds =>
     refine ze2a2 hv fun v r e2q hd hr=>?_;clear hv;subst e2q
     show wpAny _ A (holding r (st z v) >>= fun J=>assignInOrder (ns.map st) r) _ _ _
     refine wpAny_bind (wpAny_holding (hst z v _ _ (x.store (ev:=.val d) (a:=ad z) (hz z (.head _)) hd (fun l hl=>by injection hl) fun s1 x1 kp=>?_)))
     refine names_ok hst ns ds _ _ s1 r (fun y hy=>hz y (.tail _ hy)) (by simpa using hl) x1 (HasL.mono C (fun a o e hn=>⟨kp a o (fun hm=>hn ?_) e,hn⟩) (fun J J e=>e) hr)
     exact List.mem_append_right _ (List.mem_append_right _ (List.mem_append_left _ hm))
theorem setEs_lookup (y:Str):∀ (l:List (Str × D)) (fo:Fo),(l.map (·.1)).Nodup→(setEs l fo).lookup y = match l.lookup y with | some d=>some (.val d) | none=>fo.lookup y
 | [],fo,_=>rfl
 | (z,d)::r,fo,hn=>by
   simp only [List.map_cons,List.nodup_cons] at hn
   rw [show setEs ((z,d)::r) fo = setEs r (setE z (.val d) fo) from rfl,setEs_lookup y r _ hn.2,setE_lookup]
   by_cases hy:y = z
   · subst hy
     have:r.lookup y = none:=lookup_none_of hn.1
     simp [this,List.lookup]
   · have hb:(y==z) = false:=by simpa using hy
     rw [lk_miss hb,if_neg hy]
theorem setEs_nodup:∀ (l:List (Str × D)) (fo:Fo),(fo.map (·.1)).Nodup→((setEs l fo).map (·.1)).Nodup
 | [],fo,h=>h
 | (z,d)::r,fo,h=>setEs_nodup r _ (setE_nodup h)
theorem lookup_reverse {β:Type} (y:Str):∀ (l:List (Str × β)),(l.map (·.1)).Nodup→l.reverse.lookup y = l.lookup y:=by
 have app:∀ (a b:List (Str × β)),(a++b).lookup y = match a.lookup y with | some d=>some d | none=>b.lookup y:=by
   intro a b
   induction a with
   | nil=>rfl
   | cons p r ih =>
     obtain ⟨k,v⟩:=p
     by_cases hk:(y==k) = true
     · simp [List.lookup,hk]
     · have hk':(y==k) = false:=by simpa using hk
       exact (lk_miss hk').trans (ih.trans (by rw [lk_miss hk']))
 intro l
 induction l with
 | nil=>intro _;rfl
 | cons p r ih =>
   obtain ⟨k,v⟩:=p
   intro hn
   simp only [List.map_cons,List.nodup_cons] at hn
   rw [List.reverse_cons,app,ih hn.2]
   by_cases hk:(y==k) = true
   · have hk':y = k:=by simpa using hk
     subst hk'
     rw [lookup_none_of hn.1]
     simp [List.lookup]
   · have hk':(y==k) = false:=by simpa using hk
     simp only [List.lookup,hk']
     induction r.lookup y using Option.casesOn<;>rfl
theorem rev_zip {α β:Type}:∀ (a:List α) (b:List β),a.length = b.length→a.reverse.zip b.reverse = (a.zip b).reverse
 | [],[],_=>rfl
 | [],_::_,h=>by simp at h
 | _::_,[],h=>by simp at h
 | x::a,y::b,h=>by
   have h':a.length = b.length:=by simpa using h
   rw [List.reverse_cons,List.reverse_cons,List.zip_append (by simpa using h'),rev_zip a b h']
   simp
theorem rev_nodup {α:Type} {l:List α} (h:l.Nodup):l.reverse.Nodup:=by
 unfold List.Nodup at *
 rw [List.pairwise_reverse]
 exact h.imp fun h=>Ne.symm h
theorem unpack_ok {ds:List D} {v:Value} (ha:AOk A L) (x:Frm C K kd s0 io0 Z0 env ad O F fo io g s) (hv:Has C (VV C io (O++(F++Z0))) io s.heap (.tup ds) v) {m:Nat} (hm:m = ds.length) {Q:List Value→Shared→Prop} {E:Value→Shared→Prop}
   (h:∀ s' vs,Frm C K kd s0 io0 Z0 env ad O F fo io g s'→HasL C (VV C io (O++(F++Z0))) io s'.heap ds vs→Q vs s'):wpAny (model C.prog C.w) A (unpackItems v m none) Q E s:=by
 refine zae2a3 hv fun hl a vs e3q hav ht hs=>?_;clear hv;subst e3q
 have hn:=HasL.length C hs
 simp only [Array.length_toList] at hn
 have:m = vs.size:=by lia
 subst this
 refine wpAny_unpackItems_tuple ha.hh ht.isTuple fun h' he=>?_
 have kp:Keeps s { s with heap:=h' }:=⟨h',s.toks,rfl,fun b o e=>he b o (Nat.ne_of_lt (Heap.lt_size e)) e⟩
 exact h _ _ (x.step (Keeps.grow C kp) (Keeps.sok C kp x.sok)) (keepsHasL kp hs)
theorem assign_tup_ok {ds:List D} {v:Value} (ha:AOk A L) (x:Frm C K kd s0 io0 Z0 env ad O F fo io g s) (hv:Has C (VV C io (O++(F++Z0))) io s.heap (.tup ds) v) {ts:List Expr} {k:Nat} {p:Pos} (hm:(assignEach ts env).length = ds.length) (hstar:(assignEach ts env).findIdx? (·.1) = none) {Q:Unit→Shared→Prop} {E:Value→Shared→Prop}
   (h:∀ s' vs,Frm C K kd s0 io0 Z0 env ad O F fo io g s'→HasL C (VV C io (O++(F++Z0))) io s'.heap ds vs→wpAny (model C.prog C.w) A (assignInOrder ((assignEach ts env).map (·.2)) vs) Q E s'):wpAny (model C.prog C.w) A (assign (.Tuple ts k p) env v) Q E s:=by
 refine zae2a3 hv fun hl a vs e3q hav ht hs=>?_;clear hv;subst e3q
 have hn:=HasL.length C hs
 simp only [Array.length_toList] at hn
 refine wpAny_assign_Tuple ha.hh ht.isTuple (by lia) hstar fun h' he=>?_
 have kp:Keeps s { s with heap:=h' }:=⟨h',s.toks,rfl,fun b o e=>he b o (Nat.ne_of_lt (Heap.lt_size e)) e⟩
 exact h _ _ (x.step (Keeps.grow C kp) (Keeps.sok C kp x.sok)) (keepsHasL kp hs)
theorem putT_shape:∀ (ts:List Expr) (ds:List D) (fo:Fo) (g:Sg) {r},putT T n kd ts ds fo g = some r→(assignEach ts env).length = ds.length∧(assignEach ts env).findIdx? (·.1) = none:=by
 intro ts
 induction ts with
 | nil=>intro ds fo g r h;cases put_view h;exact ⟨rfl,rfl⟩
 | cons t ts ih =>
   intro ds fo g r h
   have key:∀ {d:D} {ds:List D} {f:Value→Sem Unit} {L:List (Bool × (Value→Sem Unit))},L.length = ds.length∧L.findIdx? (·.1) = none→((false,f)::L).length = (d::ds).length∧((false,f)::L).findIdx? (·.1) = none:=fun ⟨h1,h2⟩=>by
     refine ⟨congrArg (· + 1) h1,?_⟩
     rw [List.findIdx?_cons,h2];rfl
   have hw:=put_view h
   clear h
   cases hw with
   | name z pz _ d ds hz h=>exact key (ih _ _ _ h)
   | sub z pz i pi _ d ds l j g1 l2 hdb hz hi hf hs h=>exact key (ih _ _ _ h)
theorem exec_tuple (ok:AllOk C L n T) (ha:AOk A L) (x:Frm C K kd s0 io0 Z0 env ad O F fo io g s) {ts:List Expr} {k:Nat} {p sp:Pos} {e:Expr} {ds:List D} {fo1 fo2:Fo} {g2:Sg}
   (h:evX (pev T n kd) fo e g = some (.tup ds,fo1,g1)) (hp:putT T n kd ts ds fo1 g1 = some (fo2,g2)) (hw:swappedStores [.Tuple ts k p] e env = pure none) :
   wpAny (model C.prog C.w) A (exec (.Assign [.Tuple ts k p] e sp) env) (StPost C K kd s0 io0 Z0 env F (.next fo2 g2)) noE s:=by
 refine PyProof.Rows.Assign_Tuple (noE_mono (evX_ok (fun ro g d g' he=>ok.ev kd ro _ _ _ _ he) h ha x) fun v s1 ⟨ad1,O1,io1,x1,hh⟩=>?_) (by unfold swapsWithSole swapsWith;induction e using Expr.casesOn<;>rfl) hw
 refine za (putT_shape (env:=env) _ _ _ _ hp) fun q1 q2=>?_
 refine assign_tup_ok ha x1 hh q1 q2 fun s2 vs x2 hv=>?_
 exact noE_mono (putT_ok ok ha ts ds fo1 g1 fo2 g2 hp ad1 O1 io1 s2 vs x2 hv) fun J s3 h3=>⟨rfl,h3⟩
theorem exec_swap (ok:AllOk C L n T) (ha:AOk A L) (x:Frm C K kd s0 io0 Z0 env ad O F fo io g s) {ts:List Expr} {k:Nat} {p sp:Pos} {e:Expr} {ds:List D} {fo1:Fo} {ns:List Str}
   (h:evX (pev T n kd) fo e g = some (.tup ds,fo1,g1)) (hw:swappedStores [.Tuple ts k p] e env = pure (some ns)) (hn:ns.Nodup) (hz:∀ z∈ns,canSet kd z = true) (hl:ns.length = ds.length) :
   wpAny (model C.prog C.w) A (exec (.Assign [.Tuple ts k p] e sp) env) (StPost C K kd s0 io0 Z0 env F (.next (setEs (ns.zip ds) fo1) g1)) noE s:=by
 refine PyProof.Rows.Assign_Tuple_swapped (noE_mono (evX_ok (fun ro g d g' he=>ok.ev kd ro _ _ _ _ he) h ha x) fun v s1 ⟨ad1,O1,io1,x1,hh⟩=>?_) (by unfold swapsWithSole swapsWith;induction e using Expr.casesOn<;>rfl) hw
 refine unpack_ok ha x1 hh hl fun s2 vs x2 hv=>?_
 have hrev:∀ (ds:List D) (vs:List Value),HasL C (VV C io1 (O1++(F++Z0))) io1 s2.heap ds vs→HasL C (VV C io1 (O1++(F++Z0))) io1 s2.heap ds.reverse vs.reverse:=by
   intro ds
   induction ds with
   | nil=>intro vs h;subst h;simp [HasL]
   | cons d r ih =>
     intro vs h
     refine ze2a2 h fun u us e2q h1 h2=>?_;clear h;subst e2q
     rw [List.reverse_cons,List.reverse_cons]
     exact HasL.append C (ih us h2) (by exact ⟨u,[],rfl,h1,rfl⟩)
 refine noE_mono (names_ok (st:=fun n=>bindName env n) (fun z v Q s h=>PyProof.Rows.bindName_ h) ns.reverse ds.reverse fo1 ad1 s2 vs.reverse (fun z h=>hz z (by simpa using h)) (by simpa using hl) x2 (hrev ds vs hv)) ?_
 rintro _ s3 ⟨ad3,O3,io3,x3⟩
 have e1:ns.reverse.zip ds.reverse = (ns.zip ds).reverse:=rev_zip ns ds hl
 have hk:((ns.zip ds).map (·.1)) = ns:=List.map_fst_zip (by lia)
 refine ⟨rfl,ad3,O3,io3,x3.ext (fun y=>?_) (setEs_nodup _ _ x2.nd)⟩
 rw [e1,setEs_lookup y _ _ (by rw [hk];exact hn),setEs_lookup y _ _ (by rw [List.map_reverse,hk];exact rev_nodup hn),lookup_reverse y _ (by rw [hk];exact hn)]
end
end Mine
end
section
set_option tactic.hygienic false
open PySem
set_option maxRecDepth 100000
namespace Mine
variable {C:Cst}
section
variable {K K':Kp} {kd:Kd} {s0:Shared} {io0:HI} {Z0 W:List Addr} {env:Env} {ad:Str→Addr} {O F:List Addr} {fo:Fo} {io io':HI} {g g1 g':Sg} {s s':Shared} {A:Around} {L n:Nat} {T:Tbl}
theorem exec_set (tb:TblOk C L T) {S:Summ} (hS:T.mt "__setitem__" = some S) (ok:AllOk C L n T) (ha:AOk A L) (x:Frm C K kd s0 io0 Z0 env ad O F fo io g s) {o i e:Expr} {p sp:Pos} {d j r:D} {k:Nat} {fo1:Fo} {g2 g3 g4:Sg}
   (h:evX (pev T n kd) fo e g = some (d,fo1,g1)) (ho:pev T n kd (rmOwn fo1) o g1 = some (.hdr k,g2)) (hi:pev T n kd (rmOwn fo1) i g2 = some (j,g3)) (hs:S [.hdr k,j,d] g3 = some (r,g4)) :
   wpAny (model C.prog C.w) A (exec (.Assign [.Subscript o i p] e sp) env) (StPost C K kd s0 io0 Z0 env F (.next fo1 g4)) noE s:=by
 refine wpAny_Assign_Subscript (noE_mono (evX_ok (fun ro g d g' he=>ok.ev kd ro _ _ _ _ he) h ha x) fun v s1 ⟨ad1,O1,io1,x1,hv⟩=>?_) (by unfold swapsWith;induction e using Expr.casesOn<;>rfl)
 refine noE_mono (ok.ev kd _ _ _ _ _ ho A env _ io1 s1 ha x1.envR x1.sok) fun ov s2 ⟨io2,y2,k2,hov⟩=>?_
 have x2:=x1.step y2 k2
 refine noE_mono (ok.ev kd _ _ _ _ _ hi A env _ io2 s2 ha x2.envR x2.sok) fun iv s3 ⟨io3,y3,k3,hiv⟩=>?_
 have x3:=x2.step y3 k3
 have hov3:=y3.has C hov
 have hv3:=y3.has C (y2.has C hv)
 refine ze3a3 (tb.mt _ _ hS) fun a oo fd hget hfd hcall hm=>?_
 have ho':=hov3
 refine zea ho' fun t ht e2q=>?_;clear ho';subst e2q
 refine ze (hdr_at k3 ht) fun ps hps=>?_
 have HH:=k3.st.at' _ t ps ht hps
 refine hm.set rfl A noE s3 t.1 t.2.1 t.2.2 k3.base ⟨HH.inst,HH.dict⟩ iv v _ ?_
 refine noE_mono (hcall _ _ _ _ hs A _ io3 s3 [.ref t.1,iv,v] ha.c k3 (by exact ⟨_,_,rfl,hov3,_,_,rfl,hiv,_,_,rfl,hv3,rfl⟩)) fun r' s4 ⟨io4,y4,k4,_⟩=>?_
 exact ⟨rfl,ad1,O1,io4,x3.step y4 k4⟩
theorem Frm.addOwn (x:Frm C K kd s0 io0 Z0 env ad O F fo io g s) (vs:List Value):Frm C K kd s0 io0 Z0 env ad (s.heap.objs.size::O) F fo io g { s with heap:=s.heap.push { cls:=.type "list",data:=.seq vs.toArray } }:=by
 have kp:Keeps s { s with heap:=s.heap.push { cls:=.type "list",data:=.seq vs.toArray } }:=Keeps.push (k:=s.toks)
 have hf:s.heap.get? s.heap.objs.size = none:=get?_size_none _
 have x1:=x.step (Keeps.grow C kp) (Keeps.sok C kp x.sok)
 have fr:=fresh_ge x.sok (Nat.le_refl s.heap.objs.size)
 have up:∀ (a:Addr) (o:Obj),s.heap.get? a = some o→a∉VV C io (O++(F++Z0))→Heap.get? (s.heap.push { cls:=.type "list",data:=.seq vs.toArray }) a = some o∧a∉VV C io ([s.heap.objs.size]++(O++(F++Z0))):=fun a o e hn=>⟨Heap.get?_push_of_some _ e,fun hm=>by
   rcases vv_split hm with h | h
   · exact hn h
   · simp only [List.mem_singleton] at h;subst h;rw [hf] at e;injection e⟩
 exact { x1 with
   fresh:=fun f hm=>by
     simp only [List.cons_append,List.mem_cons] at hm
     rcases hm with rfl | hm
     · induction e:s0.heap.get? s.heap.objs.size using Option.casesOn with
       | none=>rfl
       | some o=>refine ze (x.grow.alive _ o e) fun o' e'=>?_;rw [hf] at e';injection e'
     · exact x.fresh f hm
   sok:=Sok.more x.sok hf kp ⟨_,Heap.get?_push_size _ rfl⟩
   vals:=fun y ev hy=>by
     refine zea (x.vals y ev hy) fun v h1 h2=>?_
     refine ⟨v,h1.keep (fun o e=>Heap.get?_push_of_some _ e) (fun c o J J e=>Heap.get?_push_of_some _ e),?_⟩
     induction ev using EV.casesOn with
     | val d=>exact Has.mono C up (fun J J e=>e) h2
     | own l =>
       refine za3ea h2 fun q1 q2 q3 us e4q q5=>?_;clear h2;obtain ⟨k,q4⟩:=e4q
       exact ⟨q1,.tail _ q2,q3,us,⟨k,Heap.get?_push_of_some _ q4⟩,HasL.mono C up (fun J J e=>e) q5⟩
   olist:=fun a ha=>by
     rcases List.mem_cons.mp ha with rfl | ha
     · exact ⟨vs.toArray,_,Heap.get?_push_size _ rfl⟩
     · exact x1.olist a ha
   disj:=fun a ha hm=>by
     rcases List.mem_cons.mp ha with rfl | ha
     · refine ze (x.sok.zal _ (List.mem_append_right _ hm)) fun o e=>?_
       rw [hf] at e;injection e
     · exact x.disj a ha hm
   kept:=fun b o hb=>by
     refine za4 (x.kept b o hb) fun h1 h2 h3 h4 h5=>?_
     refine ⟨Heap.get?_push_of_some _ h1,h2,h3,fun hm=>?_,h5⟩
     rcases List.mem_cons.mp hm with rfl | hm
     · rw [hf] at h1;injection h1
     · exact h4 hm }
theorem evs_then {ev:Expr→Sg→Option (D × Sg)} {ro:Ro} {pos:Pos} {rest:List Expr} (hev:EvSound C L kd ro ev) (ha:AOk A L) {Z:List Addr} {Q:List Value→Shared→Prop}:∀ (es:List Expr) {g ds g'},evs ev es g = some (ds,g')→es.all plainE = true→∀ {io s},EnvOk C kd Z io env ro s.heap→Sok C Z io g s →
   (∀ vs s1,PostL C Z io s ds g' vs s1→wpAny (model C.prog C.w) A (spliced (backTo pos (starEach rest env))) (fun us s'=>Q (vs++us) s') noE s1)→wpAny (model C.prog C.w) A (spliced (backTo pos (starEach (es++rest) env))) Q noE s
 | [],g,ds,g',h,hp,io,s,he,hk,hq=>by
   injection (show some (([]:List D),g) = some (ds,g') from h) with h;injection h with e0q e1q;subst e0q;subst e1q
   simpa using hq [] s ⟨io,Grow.refl C,hk,rfl⟩
 | e::r,g,ds,g',h,hp,io,s,he,hk,hq=>by
   simp only [List.all_cons,Bool.and_eq_true] at hp
   rw [evs_cons_plain hp.1] at h
   refine ze2a (bindK_some h) fun d g1 h1 h=>?_
   refine ze2a (bindK_some h) fun ds' g2 h2 h=>?_
   injection h with h;injection h with e0q e1q;subst e0q;subst e1q
   have hne:∀ x p,e≠.Starred x p:=plain_ne hp.1
   refine wpAny_items_cons (noE_mono (hev e g d g1 h1 A env Z io s ha he hk) fun v s1 ⟨io1,x1,k1,hh⟩=>?_) (starEach_plain hne)
   refine evs_then hev ha r h2 hp.2 (x1.env hk he) k1 fun vs s2 ⟨io2,x2,k2,hh2⟩=>?_
   exact hq (v::vs) s2 ⟨io2,x1.trans C x2,k2,by exact ⟨v,vs,rfl,x2.has C hh,hh2⟩⟩
noncomputable def Sts (C:Cst) (A:Around) (env:Env):List (Value→Sem Unit)→List Str→Prop
 | [],[]=>True
 | st::r,z::ns=>(∀ (v:Value) (Q:Unit→Shared→Prop) (s:Shared),wpAny (model C.prog C.w) A (storeName env z v) Q noE s→wpAny (model C.prog C.w) A (st v) Q noE s)∧Sts C A env r ns
 | _,_=>False
theorem sts_of:∀ {ts:List Expr} {ns:List Str},namesOf ts = some ns→Sts C A env ((assignEach ts env).map (·.2)) ns
 | [],ns,h=>by (injection h with h;subst h);trivial
 | t::r,ns,h=>by
   refine ze3a2 (names_cons h) fun x p m e3q hm e5q=>?_;subst e3q;subst e5q
   exact ⟨fun v Q s h=>wpAny_assign_Name h,sts_of hm⟩
theorem names_then {rest:List (Value→Sem Unit)} {us:List Value} {Q:Unit→Shared→Prop}:∀ (sts:List (Value→Sem Unit)) (ns:List Str) (ds:List D) (fo:Fo) (ad:Str→Addr) (s:Shared) (vs:List Value),Sts C A env sts ns→(∀ z∈ns,canSet kd z = true)→ns.length = ds.length→Frm C K kd s0 io0 Z0 env ad O F fo io g s→HasL C (VV C io (O++(F++Z0))) io s.heap ds vs →
   (∀ ad' s',Frm C K kd s0 io0 Z0 env ad' O F (setEs (ns.zip ds) fo) io g s'→(∀ b o,b∉F→s.heap.get? b = some o→s'.heap.get? b = some o)→(∀ y l,(setEs (ns.zip ds) fo).lookup y = some (.own l)→fo.lookup y = some (.own l)∧ad' y = ad y)→wpAny (model C.prog C.w) A (assignInOrder rest us) Q noE s') →
   wpAny (model C.prog C.w) A (assignInOrder (sts++rest) (vs++us)) Q noE s
 | [],ns,ds,fo,ad,s,vs,hst,hz,hl,x,hv,hq=>by
   induction ns using List.casesOn with
   | cons _ _=>exact hst.elim
   | nil =>
     induction ds using List.casesOn with
     | cons _ _=>simp at hl
     | nil=>subst hv;exact hq ad s x (fun J J J e=>e) (fun y l h=>⟨h,rfl⟩)
 | st::sts,ns,ds,fo,ad,s,vs,hst,hz,hl,x,hv,hq=>by
   induction ns using List.casesOn with
   | nil=>exact hst.elim
   | cons z ns =>
     induction ds using List.casesOn with
     | nil=>simp at hl
     | cons d ds =>
       refine ze2a2 hv fun v r e2q hd hr=>?_;clear hv;subst e2q
       show wpAny _ A (holding (r++us) (st v) >>= fun J=>assignInOrder (sts++rest) (r++us)) _ _ _
       refine wpAny_bind (wpAny_holding (hst.1 v _ _ (x.store (ev:=.val d) (a:=ad z) (hz z (.head _)) hd (fun l hl=>by injection hl) fun s1 x1 kp=>?_)))
       refine names_then sts ns ds _ _ s1 r hst.2 (fun y hy=>hz y (.tail _ hy)) (by simpa using hl) x1 (HasL.mono C (fun a o e hn=>⟨kp a o (fun hm=>hn ?_) e,hn⟩) (fun J J e=>e) hr) fun ad' s' x' kp' hown=>?_
       · unfold VV
         exact List.mem_append_right _ (List.mem_append_right _ (List.mem_append_left _ hm))
       · refine hq ad' s' x' (fun b o hb e=>kp' b o hb (kp b o hb e)) fun y l hy=>?_
         refine za (hown y l hy) fun h1 h2=>?_
         rw [setE_lookup] at h1
         by_cases hyz:y = z
         · rw [if_pos hyz] at h1;(injection h1 with h1;injection h1)
         · rw [if_neg hyz] at h1 h2;exact ⟨h1,h2⟩
theorem splitM_shape {mu:List Str}:∀ (ts es:List Expr) {rr:List Str × List Expr × Str × List Expr × List Str × List Expr},splitM mu ts es = some rr→∃ t1 pz t2 pl,ts = t1++.Name rr.2.2.1 pz::t2∧namesOf t1 = some rr.1∧namesOf t2 = some rr.2.2.2.2.1∧es = rr.2.1++.List rr.2.2.2.1 pl::rr.2.2.2.2.2∧rr.1.length = rr.2.1.length:=by
 intro ts
 induction ts with
 | nil=>intro es rr h;exact no_opt h
 | cons t ts ih =>
   intro es rr h
   have hw:=split_view h
   clear h
   cases hw with
   | here x q ts es p r n2 hn=>exact ⟨[],q,ts,p,rfl,rfl,hn,rfl,rfl⟩
   | next x q ts e r rr h =>
     obtain ⟨t1,pz,t2,pl,rfl,h1,h2,rfl,h3⟩:=ih _ h
     refine ⟨.Name x q::t1,pz,t2,pl,rfl,?_,h2,rfl,congrArg (· + 1) h3⟩
     show (namesOf t1).map (x::·) = _
     rw [h1];rfl
end
end Mine
end
section
set_option tactic.hygienic false
open PySem
set_option maxRecDepth 100000
namespace Mine
variable {C:Cst}
section
variable {K K':Kp} {kd:Kd} {s0:Shared} {io0:HI} {Z0 W:List Addr} {env:Env} {ad:Str→Addr} {O F:List Addr} {fo:Fo} {io io':HI} {g g1 g':Sg} {s s':Shared} {A:Around} {L n:Nat} {T:Tbl}
theorem hasL_push {Z:List Addr} {ds:List D} {vs:List Value} {o:Obj} (h:HasL C (VV C io Z) io s.heap ds vs):HasL C (VV C io ([s.heap.objs.size]++Z)) io (s.heap.push o) ds vs :=
 HasL.mono C (fun a o e hn=>⟨Heap.get?_push_of_some _ e,fun hm=>by
   rcases vv_split hm with h | h
   · exact hn h
   · simp only [List.mem_singleton] at h;subst h
     rw [get?_size_none] at e;injection e⟩) (fun J J e=>e) h
theorem assignEach_names {r:List Expr}:∀ {t:List Expr} {ns:List Str},namesOf t = some ns→assignEach (t++r) env = assignEach t env++assignEach r env
 | [],ns,h=>rfl
 | t::r',ns,h=>by
   refine ze3a2 (names_cons h) fun x p m e3q hm e5q=>?_;subst e3q;subst e5q
   show (false,_)::assignEach (_++r) env = (false,_)::(assignEach _ env++assignEach r env)
   rw [assignEach_names hm]
theorem names_plain:∀ {t:List Expr} {ns:List Str},namesOf t = some ns→(assignEach t env).length = ns.length∧∀ p∈assignEach t env,p.1 = false
 | [],ns,h=>by (injection h with h;subst h);exact ⟨rfl,fun p hp=>by cases hp⟩
 | t::r',ns,h=>by
   refine ze3a2 (names_cons h) fun x p m e3q hm e5q=>?_;subst e3q;subst e5q
   refine za (names_plain hm) fun h1 h2=>?_
   refine ⟨by show (assignEach _ env).length + 1 = _;rw [h1];rfl,fun q hq=>?_⟩
   rcases List.mem_cons.mp hq with rfl | hq
   · rfl
   · exact h2 q hq
theorem evs_length {ev:Expr→Sg→Option (D × Sg)}:∀ (es:List Expr) {g ds g'},evs ev es g = some (ds,g')→es.all plainE = true→ds.length = es.length
 | [],g,ds,g',h,_=>by injection (show some (([]:List D),g) = some (ds,g') from h) with h;injection h with h;subst h;rfl
 | e::r,g,ds,g',h,hp=>by
   simp only [List.all_cons,Bool.and_eq_true] at hp
   rw [evs_cons_plain hp.1] at h
   refine ze2a (bindK_some h) fun d g1 h1 h=>?_
   refine ze2a (bindK_some h) fun ds' g2 h2 h=>?_
   apply i2 h
   simp [evs_length r h2 hp.2]
theorem exec_own {mu:List Str} (ok:AllOk C L n T) (ha:AOk A L) (x:Frm C K kd s0 io0 Z0 env ad O F fo io g s) {ts es:List Expr} {k k2:Nat} {p p2 sp:Pos} {n1 n2:List Str} {e1 e0 e2:List Expr} {z:Str} {d1 d0 d2:List D} {g1 g2 g3:Sg}
   (hsp:splitM mu ts es = some (n1,e1,z,e0,n2,e2)) (hw:swappedStores [.Tuple ts k p] (.Tuple es k2 p2) env = pure none) (hz:canSet kd z = true) (hn1:n1.all (canSet kd) = true) (hn2:n2.all (canSet kd) = true) (hpl:es.all plainE = true) (hl2:n2.length = e2.length) (hel:es.length < 20) (hlim:d0.length≤lim)
   (h1:evs (pev T n kd (rmOwn fo)) e1 g = some (d1,g1)) (h0:evs (pev T n kd (rmOwn fo)) e0 g1 = some (d0,g2)) (h2:evs (pev T n kd (rmOwn fo)) e2 g2 = some (d2,g3)) :
   wpAny (model C.prog C.w) A (exec (.Assign [.Tuple ts k p] (.Tuple es k2 p2) sp) env) (StPost C K kd s0 io0 Z0 env F (.next (setEs (n2.zip d2) (setE z (.own d0) (setEs (n1.zip d1) fo))) g3)) noE s:=by
 obtain ⟨t1,pz,t2,pl,rfl,q1,q2,rfl,q3⟩:∃ t1 pz t2 pl,ts = t1++.Name z pz::t2∧namesOf t1 = some n1∧namesOf t2 = some n2∧es = e1++.List e0 pl::e2∧n1.length = e1.length:=splitM_shape _ _ hsp
 have evS:=ok.ev kd (rmOwn fo)
 simp only [List.all_append,List.all_cons,Bool.and_eq_true] at hpl
 have l1:=evs_length _ h1 hpl.1
 have l2:=evs_length _ h2 hpl.2.2
 have hlm:lim = 1000000:=rfl
 refine PyProof.Rows.Assign_Tuple (PyProof.Rows.Tuple_ (evs_then evS ha e1 h1 hpl.1 x.envR x.sok fun vs1 s1 ⟨io1,y1,k1,hh1⟩=>?_)) rfl hw
 have x1:=x.step y1 k1
 refine wpAny_items_cons (PyProof.Rows.List_ (noE_mono (evs_ok evS e0 h0 ha x1.envR x1.sok) fun vs0 s2 ⟨io2,y2,k2',hh0⟩=>?_)) (starEach_plain fun J J=>nofun)
 have n0:=HasL.length C hh0
 refine wpAny_newObj_type ?_ (by show vs0.toArray.size≤sizeLine;rw [List.size_toArray];have:=lim_le;lia)
 have x2:=(x1.step y2 k2').addOwn vs0
 have hh1':=hasL_push (o:={ cls:=.type "list",data:=.seq vs0.toArray }) (y2.hasL C hh1)
 have hh0':=hasL_push (o:={ cls:=.type "list",data:=.seq vs0.toArray }) hh0
 have hp0:Heap.PlainList (s2.heap.push { cls:=.type "list",data:=.seq vs0.toArray }) s2.heap.objs.size vs0.toArray:=⟨_,Heap.get?_push_size _ rfl⟩
 have hafresh:∀ y l,fo.lookup y = some (.own l)→s2.heap.objs.size≠ad y:=fun y l hy he=>by
   refine zea3 ((x1.step y2 k2').vals y _ hy) fun v J J hO J=>?_
   refine ze2 ((x1.step y2 k2').olist _ hO) fun vs m e=>?_
   rw [← he,get?_size_none] at e;injection e
 refine noE_mono (evs_ok evS e2 h2 ha x2.envR x2.sok) fun vs2 s3 ⟨io3,y3,k3,hh2⟩=>?_
 have x3:=x2.step y3 k3
 have hh1'':=y3.hasL C hh1'
 have hh0'':=y3.hasL C hh0'
 have azd:=x2.sok.zd s2.heap.objs.size (.head _)
 have hp3:s3.heap.PlainList s2.heap.objs.size vs0.toArray:=hp0.at fun o e=>y3.keep _ o e azd.1 azd.2.1
 have m1:=HasL.length C hh1
 have m2:=HasL.length C hh2
 simp only [List.length_append,List.length_cons] at hel
 refine wpAny_newObj_type ?_ (by
   show (vs1++Value.ref s2.heap.objs.size::vs2).toArray.size≤sizeLine
   have:sizeLine = 2 ^ 24:=sizeLine_eq
   simp only [List.size_toArray,List.length_append,List.length_cons]
   lia)
 have kp4:Keeps s3 { s3 with heap:=s3.heap.push { cls:=.type "tuple",data:=.seq (vs1++Value.ref s2.heap.objs.size::vs2).toArray } }:=Keeps.push (k:=s3.toks)
 refine wpAny_assign_Tuple (items:=(vs1++Value.ref s2.heap.objs.size::vs2).toArray) ha.hh ⟨_,Heap.get?_push_size _ rfl,rfl,_,rfl⟩ ?_ ?_ fun h' he=>?_
 · rw [assignEach_names q1]
   show (assignEach t1 env++(false,_)::assignEach t2 env).length = _
   have w1:=(names_plain (env:=env) q1).1
   have w2:=(names_plain (env:=env) q2).1
   simp only [List.length_append,List.length_cons,List.size_toArray]
   lia
 · rw [List.findIdx?_eq_none_iff,assignEach_names q1]
   intro q hq
   rcases List.mem_append.mp hq with h | h
   · exact (names_plain q1).2 q h
   · rcases List.mem_cons.mp h with rfl | h
     · rfl
     · exact (names_plain q2).2 q h
 · have kp5:Keeps s3 { s3 with heap:=h' }:=Keeps.trans kp4 ⟨h',s3.toks,rfl,fun b o e=>he b o (Nat.ne_of_lt (Heap.lt_size e)) e⟩
   have x5:=x3.step (Keeps.grow C kp5) (Keeps.sok C kp5 x3.sok)
   have a1:=keepsHasL kp5 hh1''
   have a0:=keepsHasL kp5 hh0''
   have a2:=keepsHasL kp5 hh2
   have ap:Heap.PlainList h' s2.heap.objs.size vs0.toArray:=hp3.at fun o e=>by
     refine ze2a kp5 fun h6 tk6 e6 hk6=>?_;clear kp5
     injection e6 with e61 e62 e63 e64 e65;subst e61;clear e62;clear e63;subst e64;clear e65
     exact hk6 _ o e
   rw [assignEach_names q1]
   show wpAny _ A (assignInOrder ((assignEach t1 env++(false,assign (.Name z pz) env)::assignEach t2 env).map (·.2)) _) _ _ _
   rw [List.map_append,List.map_cons]
   show wpAny _ A (assignInOrder _ (vs1++Value.ref s2.heap.objs.size::vs2)) _ _ _
   have aF:s2.heap.objs.size∉F:=fun hm=>x2.disj _ (.head _) (List.mem_append_left _ hm)
   have inV:∀ {b:Addr} {io:HI},b∈F→b∈VV C io ((s2.heap.objs.size::O)++(F++Z0)):=fun hm=>by
     exact List.mem_append_right _ (List.mem_append_right _ (List.mem_append_left _ hm))
   refine names_then _ n1 d1 fo ad _ vs1 (sts_of q1) (fun y hy=>List.all_eq_true.mp hn1 y hy) (by lia) x5 a1 fun ad6 s6 x6 kp6 own6=>?_
   show wpAny _ A (holding vs2 (assign (.Name z pz) env (.ref s2.heap.objs.size)) >>= fun J=>assignInOrder ((assignEach t2 env).map (·.2)) vs2) _ _ _
   refine wpAny_bind (wpAny_holding (wpAny_assign_Name (x6.store (ev:=.own d0) (a:=s2.heap.objs.size) hz ⟨rfl,.head _,hlim,vs0.toArray,ap.at fun o e=>kp6 _ o aF e,HasL.mono C (fun a o e hn=>⟨kp6 a o (fun hm=>hn (inV hm)) e,hn⟩) (fun J J e=>e) a0⟩ (fun l hl y l' hyz hy=>by
     refine za (own6 y l' hy) fun b1 b2=>?_
     rw [b2]
     exact hafresh y l' b1) fun s7 x7 kp7=>?_)))
   have a2':HasL C (VV C io3 ((s2.heap.objs.size::O)++(F++Z0))) io3 s7.heap d2 vs2:=HasL.mono C (fun a o e hn=>⟨kp7 a o (fun hm=>hn (inV hm)) (kp6 a o (fun hm=>hn (inV hm)) e),hn⟩) (fun J J e=>e) a2
   have:=names_then (rest:=[]) (us:=[]) (Q:=fun J s'=>StPost C K kd s0 io0 Z0 env F (.next (setEs (n2.zip d2) (setE z (.own d0) (setEs (n1.zip d1) fo))) g3) .next s') _ n2 d2 _ _ s7 vs2 (sts_of (C:=C) (A:=A) (env:=env) q2) (fun y hy=>List.all_eq_true.mp hn2 y hy) (by lia) x7 a2' fun ad8 s8 x8 J J=>wpAny_pure ⟨rfl,ad8,_,io3,x8⟩
   simpa using this
end
end Mine
end
section
set_option tactic.hygienic false
open PySem
set_option maxRecDepth 100000
namespace Mine
variable {C:Cst}
noncomputable def SoundSt (C:Cst) (L:Nat) (kd:Kd) (st:Stmt) (fo:Fo) (g:Sg) (fl:Fl):Prop :=
 ∀ A K s0 io0 Z0 env ad O F io s,AOk A L→Frm C K kd s0 io0 Z0 env ad O F fo io g s→wpAny (model C.prog C.w) A (exec st env) (StPost C K kd s0 io0 Z0 env F fl) noE s
noncomputable def SoundSts (C:Cst) (L:Nat) (kd:Kd) (st:List Stmt) (fo:Fo) (g:Sg) (fl:Fl):Prop :=
 ∀ A K s0 io0 Z0 env ad O F io s,AOk A L→Frm C K kd s0 io0 Z0 env ad O F fo io g s→wpAny (model C.prog C.w) A (execs st env) (StPost C K kd s0 io0 Z0 env F fl) noE s
theorem not_swapped {ts:List Expr} {k:Nat} {p:Pos} {e:Expr} {env:Env} (h:isTuple e = false):swappedStores [.Tuple ts k p] e env = pure none:=by
 induction e using Expr.casesOn<;>first | rfl | injection h
section
variable {L:Nat} {T:Tbl} {mu:List Str}
theorem st_step {n:Nat} (tb:TblOk C L T) (ok:∀ k,k≤n→AllOk C L k T) (ihs:∀ kd st fo g fl,pexecs T mu n kd st fo g = some fl→SoundSts C L kd st fo g fl) (kd:Kd) (st:Stmt) (fo:Fo) (g:Sg) (fl:Fl)
   (h:pexec T mu (n + 1) kd st fo g = some fl):SoundSt C L kd st fo g fl:=by
 intro A K s0 io0 Z0 env ad O F io s ha x
 have okn:=ok n (Nat.le_refl _)
 have hv:=pex_v h
 clear h
 induction hv using PexV.casesOn with
 | name y q e p d fo1 g1 h0 he hf=>subst hf;exact exec_assign ok ha x h0 he
 | own ts k1 q es k p p' n1 e1 z e0 n2 e2 d1 g1 d0 g2 d2 g3 hsw hsp hc h1 h0 h2 hl hf =>
   subst hf
   simp only [Bool.and_eq_true,beq_iff_eq,decide_eq_true_eq] at hc
   exact exec_own okn ha x hsp (swapF_ok x.kdo x.bk hsw) hc.1.1.1.1.1 hc.1.1.1.1.2 hc.1.1.1.2 hc.1.1.2 hc.1.2 hc.2 hl h1 h0 h2
 | tup ts k1 q es k p p' ds fo1 g1 fo2 g2 hsw he hp hf=>subst hf;exact exec_tuple okn ha x he hp (swapF_ok x.kdo x.bk hsw)
 | swap ts k1 q es k p p' names ds fo1 g1 hsw he hc hf =>
   subst hf
   simp only [Bool.and_eq_true,beq_iff_eq,decide_eq_true_eq] at hc
   exact exec_swap okn ha x he (swapF_ok x.kdo x.bk hsw) hc.1.1.2 (fun z hz=>List.all_eq_true.mp hc.1.2 z hz) hc.2
 | tup2 ts k1 q e p' ds fo1 g1 fo2 g2 hne he hp hf=>subst hf;exact exec_tuple okn ha x he hp (not_swapped hne)
 | item o i q e p d fo1 g1 k g2 j g3 S r g4 he ho hi hS hs hf=>subst hf;exact exec_set tb hS okn ha x he ho hi hs
 | ret e p d g1 he hf=>subst hf;exact exec_return okn ha x he
 | ifs t a b p c g1 he h =>
   refine exec_if okn ha x he fun io1 s1 x1=>?_
   induction c using Bool.casesOn with
   | true=>exact ihs _ _ _ _ _ h A K s0 io0 Z0 env ad O F io1 s1 ha x1
   | false=>exact ihs _ _ _ _ _ h A K s0 io0 Z0 env ad O F io1 s1 ha x1
 | fors t it body p ds g1 he h =>
   have hs:=okn.src kd (rmOwn fo) _ _ _ _ he
   exact for_ok hs.2 (fun K Z0 fo g fl hb ad O io s x=>ihs _ _ _ _ _ hb A K s0 io0 Z0 env ad O F io s ha x) x (hs.1 A env _ io s ha x.envR x.sok) (fun b hb=>by
     rcases List.mem_append.mp hb with hb | hb
     · exact List.mem_append_left _ hb
     · exact List.mem_append_right _ (List.mem_append_left _ hb)) ha h
 | whiles t body p h =>
   exact while_ok (fun fo g c g' ht ad O io s x=>noE_mono (okn.tr kd _ _ _ _ _ ht A env _ io s ha x.envR x.sok) fun c' s1 ⟨hc,io1,y,k⟩=>⟨hc,ad,O,io1,x.step y k⟩)
     (fun fo g=>pexecs T mu n kd _ fo g) (fun fo g fl hb ad O io s x=>ihs _ _ _ _ _ hb A K s0 io0 Z0 env ad O F io s ha x) h x
theorem sts_step {n:Nat} (ihst:∀ kd st fo g fl,pexec T mu n kd st fo g = some fl→SoundSt C L kd st fo g fl) (ihs:∀ kd st fo g fl,pexecs T mu n kd st fo g = some fl→SoundSts C L kd st fo g fl) (kd:Kd) (sts:List Stmt) (fo:Fo) (g:Sg) (fl:Fl)
   (h:pexecs T mu (n + 1) kd sts fo g = some fl):SoundSts C L kd sts fo g fl:=by
 intro A K s0 io0 Z0 env ad O F io s ha x
 induction sts using List.casesOn with
 | nil =>
   injection h with h;subst h
   exact wpAny_execs_nil ⟨rfl,ad,O,io,x⟩
 | cons st r =>
   induction h1:pexec T mu n kd st fo g using Option.casesOn with
   | none =>
     have h:(match pexec T mu n kd st fo g with | some (.next fo g)=>pexecs T mu n kd r fo g | x=>x) = some fl:=h
     rw [h1] at h;exact no_opt h
   | some f =>
     have h:(match pexec T mu n kd st fo g with | some (.next fo g)=>pexecs T mu n kd r fo g | x=>x) = some fl:=h
     rw [h1] at h
     induction f using Fl.casesOn with
     | next fo1 g1 =>
       refine wpAny_execs_cons (noE_mono (ihst _ _ _ _ _ h1 A K s0 io0 Z0 env ad O F io s ha x) ?_)
       rintro f s1 ⟨rfl,ad1,O1,io1,x1⟩
       exact ihs _ _ _ _ _ h A K s0 io0 Z0 env ad1 O1 F io1 s1 ha x1
     | ret d g1 =>
       injection h with h;subst h
       refine wpAny_execs_cons (noE_mono (ihst _ _ _ _ _ h1 A K s0 io0 Z0 env ad O F io s ha x) ?_)
       rintro f s1 ⟨v,rfl,h2⟩
       exact ⟨v,rfl,h2⟩
theorem sts_ok {N:Nat} (tb:TblOk C L T) (ok:∀ k,k≤N→AllOk C L k T):∀ n,n≤N→(∀ kd st fo g fl,pexec T mu n kd st fo g = some fl→SoundSt C L kd st fo g fl)∧(∀ kd st fo g fl,pexecs T mu n kd st fo g = some fl→SoundSts C L kd st fo g fl)
 | 0,_=>⟨fun kd st fo g fl h=>no_opt h,fun kd st fo g fl h=>no_opt h⟩
 | n + 1,hn=>by
   have ih:=sts_ok tb ok n (by lia)
   exact ⟨st_step tb (fun k hk=>ok k (by lia)) ih.2,sts_step ih.1 ih.2⟩
end
end Mine
end
section
set_option tactic.hygienic false
open PySem
set_option maxRecDepth 100000
namespace Mine
variable {C:Cst}
theorem bindL_not {k:Str→Option NameKind} {x:Str}:∀ (b:List (Str × Value)) (m:Str→Option Value),x∉b.map (·.1)→bindL k b m x = m x
 | [],m,_=>rfl
 | (n,v)::r,m,h=>by
   simp only [List.map_cons,List.mem_cons,not_or] at h
   unfold bindL
   rw [bindL_not r _ h.2]
   split
   · exact if_neg h.1
   · rfl
theorem bindL_at {k:Str→Option NameKind} {x:Str} {v:Value} (hk:k x = some .local):∀ (b:List (Str × Value)) (m:Str→Option Value),(b.map (·.1)).Nodup→b.lookup x = some v→bindL k b m x = some v
 | [],m,_,h=>by injection h
 | (n,w)::r,m,hn,h=>by
   simp only [List.map_cons,List.nodup_cons] at hn
   unfold bindL
   by_cases hx:x = n
   · subst hx
     simp only [List.lookup,beq_self_eq_true,Option.some.injEq] at h
     subst h
     rw [bindL_not r _ hn.1,if_pos hk,if_pos rfl]
   · have hb:(x==n) = false:=by simpa using hx
     simp only [List.lookup,hb] at h
     exact bindL_at hk r _ hn.2 h
theorem bindC_not {k:Str→Option NameKind} {x:Str}:∀ (b:List (Str × Value)) (m:Str→Option Value),x∉b.map (·.1)→bindC k b m x = m x
 | [],m,_=>rfl
 | (n,v)::r,m,h=>by
   simp only [List.map_cons,List.mem_cons,not_or] at h
   unfold bindC
   rw [bindC_not r _ h.2]
   split
   · rfl
   · exact if_neg h.1
theorem bindC_at {k:Str→Option NameKind} {x:Str} {v:Value} (hk:k x≠some .local):∀ (b:List (Str × Value)) (m:Str→Option Value),(b.map (·.1)).Nodup→b.lookup x = some v→bindC k b m x = some v
 | [],m,_,h=>by injection h
 | (n,w)::r,m,hn,h=>by
   simp only [List.map_cons,List.nodup_cons] at hn
   unfold bindC
   by_cases hx:x = n
   · subst hx
     simp only [List.lookup,beq_self_eq_true,Option.some.injEq] at h
     subst h
     rw [bindC_not r _ hn.1,if_neg hk,if_pos rfl]
   · have hb:(x==n) = false:=by simpa using hx
     simp only [List.lookup,hb] at h
     exact bindC_at hk r _ hn.2 h
theorem cellsFrom_some {x:Str}:∀ (names:List (Str × NameKind)) (n:Nat) (acc:List (Str × Addr)),((x,NameKind.cell)∈names∨(acc.lookup x).isSome = true)→((cellsFrom n names acc).lookup x).isSome = true
 | [],n,acc,h=>by
   rcases h with h | h
   · cases h
   · exact h
 | (y,k)::r,n,acc,h=>by
   unfold cellsFrom
   by_cases hk:(k==NameKind.cell) = true
   · rw [if_pos hk]
     refine cellsFrom_some r _ _ ?_
     by_cases hx:(x==y) = true
     · exact .inr (by simp [List.lookup,hx])
     · have hx':(x==y) = false:=by simpa using hx
       rcases h with h | h
       · rcases List.mem_cons.mp h with h | h
         · (injection h with h1 h2;subst h1;subst h2);simp at hx
         · exact .inl h
       · exact .inr (by simpa [List.lookup,hx'] using h)
   · rw [if_neg hk]
     refine cellsFrom_some r _ _ ?_
     rcases h with h | h
     · rcases List.mem_cons.mp h with h | h
       · (injection h with h1 h2;subst h1;subst h2);simp at hk
       · exact .inl h
     · exact .inr h
structure FnAt (C:Cst) (a:Addr) (fd:FuncData) (body:List Stmt):Prop where
 get:∃ o,C.H.get? a = some o∧o.data = .func fd
 body:fd.body = .stmts body
 clo:fd.closure = []
 gl:fd.globals = mainGlobals
 bi:fd.builtins = builtinsNs
 cd:C.H.CodeRec fd.code fd.qualname
 kind:fd.scope.kind = .function
 co:fd.scope.isCoroutine = false
 gen:fd.scope.isGenerator = false
 nofree:∀ p∈fd.scope.names,p.2≠.free
 spl:fd.scope.names.lookup ("_split_list":Str) = some .globalImplicit→∃ c P,(c,P,fd.qualname++".<locals>.")∈C.spc∧fd.code = .ref c
noncomputable def valsOf (l:List (Str × D)):Fo:=l.map fun p=>(p.1,.val p.2)
theorem valsOf_keys:∀ (l:List (Str × D)),(valsOf l).map (·.1) = l.map (·.1)
 | []=>rfl
 | p::r=>by show p.1::(valsOf r).map (·.1) = _;rw [valsOf_keys r];rfl
theorem valsOf_lookup {y:Str} {ev:EV}:∀ {l:List (Str × D)},(valsOf l).lookup y = some ev→∃ d,ev = .val d∧l.lookup y = some d
 | [],h=>by injection h
 | (z,d)::r,h=>by
   show ∃ _,_
   by_cases hb:(y==z) = true
   · simp only [valsOf,List.map_cons,List.lookup,hb,Option.some.injEq] at h
     exact ⟨d,h.symm,by simp [List.lookup,hb]⟩
   · have hb':(y==z) = false:=by simpa using hb
     simp only [valsOf,List.map_cons,List.lookup,hb'] at h
     refine zea (valsOf_lookup (l:=r) h) fun d' h1 h2=>?_
     exact ⟨d',h1,by simpa [List.lookup,hb'] using h2⟩
theorem zip_lookup {V:List Addr} {io:HI} {h:Heap} {y:Str} {d:D}:∀ {l:List (Str × D)} {us:List Value},HasL C V io h (l.map (·.2)) us→l.lookup y = some d→∃ v,((l.map (·.1)).zip us).lookup y = some v∧Has C V io h d v
 | [],us,_,h=>by injection h
 | (z,e)::r,us,hu,hl=>by
   refine ze2a2 hu fun v vs e2q h1 h2=>?_;clear hu;subst e2q
   by_cases hb:(y==z) = true
   · simp only [List.lookup,hb,Option.some.injEq] at hl
     subst hl
     exact ⟨v,by simp [List.zip,List.lookup,hb],h1⟩
   · have hb':(y==z) = false:=by simpa using hb
     simp only [List.lookup,hb'] at hl
     refine zea (zip_lookup h2 hl) fun w q1 q2=>?_
     exact ⟨w,by simpa [List.zip,List.lookup,hb'] using q1,q2⟩
noncomputable def BindOk (C:Cst) (fd:FuncData) (bnd:List D→Option (List (Str × D))):Prop :=
 ∀ ds l,bnd ds = some l→∀ A Z io g s vs,Sok C Z io g s→HasL C (VV C io Z) io s.heap ds vs →
   wpAny (model C.prog C.w) A (bindArgs fd ⟨vs,[]⟩) (fun binds s1=>Keeps s s1∧∃ us,binds = (l.map (·.1)).zip us∧HasL C (VV C io Z) io s1.heap (l.map (·.2)) us) noE s
noncomputable def sumOf (T:Tbl) (mu:List Str) (N:Nat) (sc:Scope) (body:List Stmt) (bnd:List D→Option (List (Str × D))):Summ:=fun ds g =>
 match bnd ds with
 | none=>none
 | some l =>
   if decide (l.map (·.1)).Nodup&&l.all fun p=>canSet (fun x=>sc.names.lookup x) p.1 then
     match pexecs T mu N (fun x=>sc.names.lookup x) body (valsOf l) g with
     | some (.ret d g)=>some (d,g)
     | some (.next _ g)=>some (.none,g)
     | none=>none
   else none
set_option tactic.hygienic true in
theorem fn_ok {L N:Nat} {T:Tbl} {mu:List Str} (r:RootOk C) (tb:TblOk C L T) (ok:∀ k,k≤N→AllOk C L k T) {a:Addr} {fd:FuncData} {body:List Stmt} {bnd:List D→Option (List (Str × D))} (f:FnAt C a fd body) (hb:BindOk C fd bnd) :
   CallOk C (L + 1) (.ref a) (sumOf T mu N fd.scope body bnd):=by
 intro ds g d g' h A Z io s vs ha hk hv
 unfold sumOf at h
 split at h
 · injection h
 rename_i l hl
 refine za (if_some h) fun hc h=>?_
 simp only [Bool.and_eq_true,decide_eq_true_eq,List.all_eq_true] at hc
 refine za hc fun hnd hcs=>?_;clear hc
 refine zea f.get fun o ho hd=>?_
 have hmem:∀ {x:Str} {k:NameKind},fd.scope.names.lookup x = some k→(x,k)∈fd.scope.names:=fun h=>PySem.mem_of_lookup h
 refine wpAny_call (codeAny_call_function (by have:=ha.dp;show A.depth < 1000;lia) (hk.base _ _ ho) hd f.co f.gen f.body (f.cd.keeps hk.base) ?_)
 refine wpAny_mono (hb ds l hl A.in1 Z io g s vs hk hv) ?_ fun J J x=>x.elim
 rintro _ s1 ⟨kp1,us,rfl,hus⟩
 have k1:=Keeps.sok C kp1 hk
 have hlen:=HasL.length C hus
 rw [f.clo]
 have hcan:∀ x∈(l.map (·.1)).zip us,fd.scope.names.lookup x.1 = some .local∨(fd.scope.names.lookup x.1 = some .cell∧((cellsFrom (s1.heap.objs.size + 1) fd.scope.names []).lookup x.1).isSome = true):=fun x hx=>by
   have hx1:x.1∈l.map (·.1):=(List.of_mem_zip (a:=x.1) (b:=x.2) hx).1
   refine zea (List.mem_map.mp hx1) fun p hp hpe=>?_
   have:=hcs p hp
   unfold canSet at this
   simp only [Bool.or_eq_true,beq_iff_eq] at this
   rw [hpe] at this
   rcases this with h | h
   · exact .inl h
   · exact .inr ⟨h,cellsFrom_some _ _ _ (.inl (hmem h))⟩
 refine wpAny_newFunctionEnv_cells f.kind hcan fun env henv s2 xc=>?_
 have kp2:Keeps s1 s2:=by
   refine ze2a xc.done fun h' tk e hkk=>?_
   exact ⟨h',tk,e,hkk⟩
 have hL:s1.heap.objs.size≤env.locals:=xc.toInCall.fresh
 have hkof:∀ x,env.kindOf x = fd.scope.names.lookup x:=fun x=>by subst henv;rfl
 have hfresh:∀ c,env.locals≤c→s1.heap.get? c = none:=fun c hle=>by
   induction e:s1.heap.get? c using Option.casesOn with
   | none=>rfl
   | some o=>exact absurd (Heap.lt_size e) (Nat.not_lt.mpr (Nat.le_trans hL hle))
 have hcells:env.cells = cellsFrom (s1.heap.objs.size + 1) fd.scope.names []:=by subst henv;rfl
 let F:List Addr:=env.locals::fd.scope.names.filterMap fun p=>if p.2==NameKind.cell then env.cells.lookup p.1 else none
 have hF:∀ c∈F,env.locals≤c∧∃ o,s2.heap.get? c = some o:=fun c hcm=>by
   rcases List.mem_cons.mp hcm with rfl | hcm
   · refine ze3a xc.toInCall.ns fun o J J e J=>?_
     exact ⟨Nat.le_refl _,o,e⟩
   · refine zea (List.mem_filterMap.mp hcm) fun p J hp=>?_
     split at hp
     · refine zea (xc.cell _ _ hp) fun o e J=>?_
       exact ⟨Nat.le_of_lt (xc.above _ _ (PySem.mem_of_lookup hp)),o,e⟩
     · injection hp
 have hcell:∀ x,fd.scope.names.lookup x = some .cell→∃ c,env.cells.lookup x = some c∧c∈F:=fun x hx=>by
   have:=cellsFrom_some (x:=x) fd.scope.names (s1.heap.objs.size + 1) [] (.inl (hmem hx))
   rw [← hcells] at this
   refine ze (Option.isSome_iff_exists.mp this) fun c hc=>?_
   exact ⟨c,hc,.tail _ (List.mem_filterMap.mpr ⟨(x,.cell),hmem hx,by simpa using hc⟩)⟩
 have xf:Frm C ⟨fun J J=>False,[]⟩ (fun x=>fd.scope.names.lookup x) s1 io Z env (fun J=>0) [] F (valsOf l) io g s2:={
   grow:=Keeps.grow C kp2
   fresh:=fun c hcm=>hfresh c (hF c (by simpa using hcm)).1
   sok:=Sok.more_many k1 kp2 fun w hw=>⟨hfresh w (hF w hw).1,(hF w hw).2⟩
   kdo:=hkof
   fn:=by subst henv;exact f.kind
   bk:=by subst henv;simp [Env.blockKind,newEnv,f.kind]
   gl:=by subst henv;exact f.gl
   bi:=by subst henv;exact f.bi
   cd:=fun h=>by subst henv;refine ze2a (f.spl h) fun c P h1 h2=>?_;exact ⟨c,P,_,h1,h2,rfl⟩
   lF:=.head _
   ns:=⟨_,xc.toInCall.ns⟩
   all:=fun x hx=>by
     refine zea (hcell x hx) fun c hc hcF=>?_
     exact ⟨c,_,hc,xc.cell _ _ hc,hcF,fun he=>Nat.lt_irrefl _ (he ▸ xc.above _ _ (PySem.mem_of_lookup hc))⟩
   inj:=fun x y c J J h1 h2=>PySem.name_of_addr xc.apart (PySem.mem_of_lookup h1) (PySem.mem_of_lookup h2)
   nofree:=fun x hx=>f.nofree _ (hmem hx) rfl
   vals:=fun y ev hy=>by
     refine zea (valsOf_lookup hy) fun d e1q hyl=>?_;subst e1q
     refine zea (zip_lookup hus hyl) fun v q1 q2=>?_
     have hbn:(((l.map (·.1)).zip us).map (·.1)).Nodup:=by
       rw [List.map_fst_zip (by rw [hlen];simp)];exact hnd
     have hhas:Has C (VV C io (F++Z)) io s2.heap d v:=by
       have:=Has.mono C (V':=VV C io (F++Z)) (io':=io) (h':=s2.heap) (fun a o e hn=>by
         refine ze2a kp2 fun h' tk e2 hkk=>?_;clear kp2
         refine ⟨by rw [e2];exact hkk a o e,fun hm=>?_⟩
         rcases vv_split hm with h | h
         · exact hn h
         · rw [hfresh a (hF a h).1] at e;injection e) (fun J J e=>e) q2
       exact this
     refine ⟨v,?_,hhas⟩
     have hcy:canSet (fun x=>fd.scope.names.lookup x) y = true:=by
       have:y∈l.map (·.1):=mem_of_lookup hyl
       refine zea (List.mem_map.mp this) fun p hp hpe=>?_
       exact hpe ▸ hcs p hp
     unfold canSet at hcy
     simp only [Bool.or_eq_true,beq_iff_eq] at hcy
     by_cases hloc:fd.scope.names.lookup y = some .local
     · exact .inl ⟨hloc,_,xc.toInCall.ns,bindL_at ((hkof y).trans hloc) _ _ hbn q1⟩
     · have hc:fd.scope.names.lookup y = some .cell:=by
         rcases hcy with h | h
         · exact absurd h hloc
         · exact h
       refine zea (hcell y hc) fun c hcc J=>?_
       have:=xc.cell _ _ hcc
       rw [bindC_at (by rw [hkof,hc];decide) _ _ hbn q1] at this
       exact .inr ⟨hc,c,hcc,this⟩
   olist:=fun a ha=>by cases ha
   disj:=fun a ha=>by cases ha
   apart:=fun x y m m' J h1 J=>by
     refine zea (valsOf_lookup h1) fun d hd J=>?_
     injection hd
   nd:=by rw [valsOf_keys];exact hnd
   kept:=fun b o hb=>hb.elim
   pref:=fun k t e=>by simp at e }
 refine ⟨r.nolimit.keeps k1.base |>.keeps (by refine ze2a kp2 fun h' tk e hkk=>?_;clear kp2;rw [e];exact hkk),codeAny_func ?_⟩
 have ha':AOk (A.deeper env) L:=⟨ha.hh,by have:=ha.dp;show A.depth + 1 + L≤900;lia,by have:=ha.un;show A.units + 3 + 8 * L≤9000;lia⟩
 have main:=(sts_ok (mu:=mu) tb ok N (Nat.le_refl _)).2
 have kg:Grow C io io s s1:=Keeps.grow C kp1
 split at h
 · rename_i d1 g1 hx
   injection h with h;injection h with e0q e1q;subst e0q;subst e1q
   refine noE_mono (main _ _ _ _ _ hx _ _ _ _ _ _ _ _ _ _ _ ha' xf) ?_
   rintro fl s3 ⟨v,rfl,io3,q1,q2,q3⟩
   exact ⟨io3,kg.trans C q1,q2,q3⟩
 · rename_i fo1 g1 hx
   injection h with h;injection h with e0q e1q;subst e0q;subst e1q
   refine noE_mono (main _ _ _ _ _ hx _ _ _ _ _ _ _ _ _ _ _ ha' xf) ?_
   rintro fl s3 ⟨rfl,ad3,O3,io3,x3⟩
   exact ⟨io3,kg.trans C x3.grow,x3.sok.less C fun z hz=>List.mem_append_right _ (List.mem_append_right _ hz),by simp [Has]⟩
 · injection h
end Mine
end
section
open PySem
set_option maxRecDepth 100000
namespace Mine
variable {C:Cst}
noncomputable def plainBnd (ps:List Str) (ds:List D):Option (List (Str × D)):=if ds.length = ps.length then some (ps.zip ds) else none
theorem plain_bind {fd:FuncData} {ps:List Str} (h:∀ vs:List Value,vs.length = ps.length→bindArgs fd ⟨vs,[]⟩ = pure (ps.zip vs)):BindOk C fd (plainBnd ps):=by
 intro ds l hl A Z io g s vs hk hv
 refine za (if_some hl) fun hlen hl=>?_
 simp only [Option.some.injEq] at hl
 subst hl
 have hn:=HasL.length C hv
 rw [h vs (by lia)]
 refine wpAny_pure ⟨Keeps.refl,vs,?_,?_⟩
 · rw [List.map_fst_zip (by lia)]
 · rw [List.map_snd_zip (by lia)];exact hv
end Mine
end
section
set_option tactic.hygienic false
open PySem
set_option maxRecDepth 100000
namespace Mine
variable {C:Cst}
noncomputable def varBnd (x p:Str) (ds:List D):Option (List (Str × D)) :=
 match ds with
 | d::r=>if r.length≤lim then some [(x,d),(p,.tup r)] else none
 | []=>none
theorem var_bind {fd:FuncData} {x p:Str} (h:∀ (v:Value) (rest:List Value),bindArgs fd ⟨v::rest,[]⟩ = (newTuple rest >>= fun t=>pure [(x,v),(p,t)])):BindOk C fd (varBnd x p):=by
 intro ds l hl A Z io g s vs hk hv
 induction ds using List.casesOn with
 | nil=>simp [varBnd] at hl
 | cons d r =>
   refine za (if_some hl) fun hlen hl=>?_
   simp only [Option.some.injEq] at hl
   subst hl
   refine ze2a2 hv fun v rest e2q h1 h2=>?_;clear hv;subst e2q
   rw [h v rest]
   have hn:=HasL.length C h2
   have z:=has_newTuple hk (tk:=s.toks) (n:=0) hlen h2
   refine wpAny_bind (wpAny_newObj_type (wpAny_pure ⟨z.1,[v,.ref s.heap.objs.size],rfl,?_⟩) (by show rest.toArray.size≤sizeLine;rw [List.size_toArray];have:=lim_le;lia))
   exact ⟨v,_,rfl,keepsHas z.1 h1,_,_,rfl,z.2,rfl⟩
theorem replace_bind {name:Str} {body:List Stmt} {scope:Scope} {pm cd doc:Value} {x p:Str} {a1 a2:Option Expr} {p1 p2:Pos} (hxp:x≠p) (v:Value) (rest:List Value) :
   bindArgs (Calls.docDef name ⟨[],[⟨x,a1,p1⟩],some ⟨p,a2,p2⟩,[],[],none,[]⟩ body scope pm cd doc) ⟨v::rest,[]⟩ = (newTuple rest >>= fun t=>pure [(x,v),(p,t)]):=by
 have hs:seqItems? Value.none = pure none:=rfl
 unfold bindArgs Calls.docDef
 simp [hs,List.lookup]
end Mine
end
section
set_option tactic.hygienic false
open PySem
set_option maxRecDepth 100000
namespace Mine
noncomputable abbrev IsZipT (h:Heap) (z TI TO T:Addr) (b:Bool):Prop:=h.get? z = some { cls:=.type "zip",dict:=none,data:=.fields #[rawInt T,.bool b,.bool false,.ref TI,.ref TO],slots:=#[] }
section
variable {prog:Program} {w:World} {A:Around} {E:Value→Shared→Prop} {s:Shared}
theorem not_free {z TI TO T:Addr} {b:Bool} {Q:Bool→Shared→Prop} (hz:IsZipT s.heap z TI TO T b) (ha:∃ o,s.heap.get? T = some o)
   (hQ:∀ h',IsZipT h' z TI TO T true→Heap.SameBut z s.heap h'→Q false { s with heap:=h' }):wpAny (model prog w) A (Builtin.SmallTypes.ownedTupleIsFree (.ref z)) Q E s:=by
 refine ze ha fun o ho=>?_;clear ha
 unfold Builtin.SmallTypes.ownedTupleIsFree
 refine wpAny_bind (wpAny_field hz rfl (x:=rawInt T) rfl ?_)
 show wpAny _ _ (loadIfAlive T >>= _) _ _ _
 refine wpAny_bind ?_
 have ld:∀ {R:Option Obj→Shared→Prop},R (some o) s→wpAny (model prog w) A (loadIfAlive T) R E s:=fun {R} h Γ p hΓ=>by
   show Sem.wp _ _ (.loadIfAlive T .pure) _ _ _ _
   rw [Sem.wp_loadIfAlive,ho]
   exact h
 refine ld ?_
 show wpAny _ _ (field (.ref z) 1 >>= _) _ _ _
 refine wpAny_bind (wpAny_field hz rfl (x:=.bool b) rfl ?_)
 induction b using Bool.casesOn with
 | true =>
   show wpAny _ _ (pure false) _ _ _
   exact wpAny_pure (hQ _ hz (Heap.SameBut.refl ..))
 | false =>
   show wpAny _ _ (setField (.ref z) 1 (.bool true) >>= fun J=>pure false) _ _ _
   exact wpAny_bind (wpAny_setField_rec hz (by simp) fun h' hz' hs'=>wpAny_pure (hQ h' hz' hs'))
theorem zipT_item {z TI TO T i1 i2 l1 l2:Addr} {b:Bool} {k1 k2:Nat} {xs ys:Array Value} {x y:Value} {Q:Value→Shared→Prop} (D:ZipApart z TI TO i1 i2 l1 l2)
   (hz:IsZipT s.heap z TI TO T b) (hTI:IsPair s.heap TI (.ref i1) (.ref i2)) (hTa:∃ o,s.heap.get? T = some o)
   (h1:s.heap.IsListIter i1 l1 k1) (h2:s.heap.IsListIter i2 l2 k2) (hl1:s.heap.IsList l1 xs) (hl2:s.heap.IsList l2 ys) (hx:xs[k1]? = some x) (hy:ys[k2]? = some y)
   (hQ:∀ h',IsZipT h' z TI TO T true→h'.IsListIter i1 l1 (k1 + 1)→h'.IsListIter i2 l2 (k2 + 1)→IsPair h' s.heap.objs.size x y →
     (∀ c o,c≠z→c≠i1→c≠i2→s.heap.get? c = some o→h'.get? c = some o)→Q (.ref s.heap.objs.size) { s with heap:=h' }) :
   wpAny (model prog w) A (Builtin.«zip.__next__» ⟨[.ref z],[]⟩) (fun fin s'=>∃ v,fin = .done (.ret v)∧Q v s') E s:=by
 show wpAny _ _ (field (.ref z) 2 >>= _) _ _ _
 refine wpAny_bind (wpAny_field hz rfl (x:=.bool false) rfl ?_)
 show wpAny _ _ (field (.ref z) 3 >>= _) _ _ _
 refine wpAny_bind (wpAny_field hz rfl (x:=.ref TI) rfl ?_)
 refine wpAny_bind (wpAny_seqItems hTI rfl ?_)
 show wpAny _ _ (Builtin.SmallTypes.ownedTupleIsFree (.ref z) >>= _) _ _ _
 refine wpAny_bind (not_free hz hTa fun h₁ hz₁ hs₁=>?_)
 simp only [Bool.false_eq_true,if_false]
 refine wpAny_bind ?_
 rw [← Array.forIn_toList]
 simp only [List.forIn_cons,List.forIn_nil]
 have up1:∀ c o,c≠z→s.heap.get? c = some o→h₁.get? c = some o:=fun c o hc e=>hs₁.extBut c o hc e
 refine wpAny_bind (wpAny_bind (wpAny_holding ?_))
 show wpAny _ _ (Builtin.SmallTypes.nextOf (.ref i1) >>= fun v=>pure (some v)) _ _ _
 refine wpAny_bind (wpAny_nextOf_list_item (h1.extBut hs₁.extBut D.i1z) (hl1.extBut hs₁.extBut D.l1z) hx fun h₂ h1₂ hs₂=>wpAny_pure ?_)
 refine wpAny_pure ?_
 refine wpAny_bind (wpAny_bind (wpAny_holding ?_))
 show wpAny _ _ (Builtin.SmallTypes.nextOf (.ref i2) >>= fun v=>pure (some v)) _ _ _
 refine wpAny_bind (wpAny_nextOf_list_item ((h2.extBut hs₁.extBut D.i2z).extBut hs₂.extBut D.i12.symm) ((hl2.extBut hs₁.extBut D.l2z).extBut hs₂.extBut D.l2i1) hy fun h₃ h2₃ hs₃=>wpAny_pure ?_)
 refine wpAny_pure ?_
 refine wpAny_pure ?_
 refine wpAny_bind (wpAny_newTuple ?_ (by show 2≤sizeLine;rw [sizeLine_eq];decide))
 have hsz:h₃.objs.size = s.heap.objs.size:=by rw [hs₃.1,hs₂.1,hs₁.1]
 refine wpAny_pure ⟨_,rfl,?_⟩
 show Q (.ref h₃.objs.size) _
 rw [hsz]
 have up:∀ c o,c≠z→c≠i1→c≠i2→s.heap.get? c = some o→(h₃.push { cls:=.type "tuple",data:=.seq #[x,y] }).get? c = some o:=fun c o c1 c2 c3 e =>
   Heap.get?_push_of_some _ (hs₃.extBut c o c3 (hs₂.extBut c o c2 (hs₁.extBut c o c1 e)))
 refine hQ _ (Heap.get?_push_of_some _ (hs₃.extBut _ _ D.i2z.symm (hs₂.extBut _ _ D.i1z.symm hz₁))) ?_ ?_ ?_ up
 · exact (h1₂.extBut hs₃.extBut D.i12).at fun o e=>Heap.get?_push_of_some _ e
 · exact h2₃.at fun o e=>Heap.get?_push_of_some _ e
 · rw [← hsz];exact Heap.get?_push_size _ rfl
theorem zipT_end {z TI TO T i1 i2 l1 l2:Addr} {b:Bool} {k1 k2:Nat} {xs ys:Array Value} {Q:Fin→Shared→Prop} (hh:A.handled = none) (D:ZipApart z TI TO i1 i2 l1 l2)
   (hz:IsZipT s.heap z TI TO T b) (hTI:IsPair s.heap TI (.ref i1) (.ref i2)) (hTa:∃ o,s.heap.get? T = some o)
   (h1:s.heap.IsListIter i1 l1 k1) (h2:s.heap.IsListIter i2 l2 k2) (hl1:s.heap.IsList l1 xs) (hl2:s.heap.IsList l2 ys) (hend:xs[k1]? = none∨ys[k2]? = none)
   (hE:∀ h' e,(∀ c o,c≠z→c≠i1→c≠i2→s.heap.get? c = some o→h'.get? c = some o)→(∃ o,h'.get? e = some o∧o.cls = .type "StopIteration")→E (.ref e) { s with heap:=h' }) :
   wpAny (model prog w) A (Builtin.«zip.__next__» ⟨[.ref z],[]⟩) Q E s:=by
 show wpAny _ _ (field (.ref z) 2 >>= _) _ _ _
 refine wpAny_bind (wpAny_field hz rfl (x:=.bool false) rfl ?_)
 show wpAny _ _ (field (.ref z) 3 >>= _) _ _ _
 refine wpAny_bind (wpAny_field hz rfl (x:=.ref TI) rfl ?_)
 refine wpAny_bind (wpAny_seqItems hTI rfl ?_)
 show wpAny _ _ (Builtin.SmallTypes.ownedTupleIsFree (.ref z) >>= _) _ _ _
 refine wpAny_bind (not_free hz hTa fun h₁ hz₁ hs₁=>?_)
 simp only [Bool.false_eq_true,if_false]
 refine wpAny_bind ?_
 rw [← Array.forIn_toList]
 simp only [List.forIn_cons,List.forIn_nil]
 refine wpAny_bind (wpAny_bind (wpAny_holding ?_))
 show wpAny _ _ (Builtin.SmallTypes.nextOf (.ref i1) >>= fun v=>pure (some v)) _ _ _
 induction hx:xs[k1]? using Option.casesOn with
 | none =>
   exact wpAny_bind (wpAny_nextOf_list_end hh (h1.extBut hs₁.extBut D.i1z) (hl1.extBut hs₁.extBut D.l1z) hx fun h₂ e hs₂ he=>hE h₂ e (fun c o c1 c2 J x=>hs₂ _ _ c2 (hs₁.extBut _ _ c1 x)) he)
 | some x =>
   have hy:ys[k2]? = none:=by rcases hend with h | h;rw [hx] at h;injection h;exact h
   refine wpAny_bind (wpAny_nextOf_list_item (h1.extBut hs₁.extBut D.i1z) (hl1.extBut hs₁.extBut D.l1z) hx fun h₂ h1₂ hs₂=>wpAny_pure ?_)
   refine wpAny_pure ?_
   refine wpAny_bind (wpAny_bind (wpAny_holding ?_))
   show wpAny _ _ (Builtin.SmallTypes.nextOf (.ref i2) >>= fun v=>pure (some v)) _ _ _
   exact wpAny_bind (wpAny_nextOf_list_end hh ((h2.extBut hs₁.extBut D.i2z).extBut hs₂.extBut D.i12.symm) ((hl2.extBut hs₁.extBut D.l2z).extBut hs₂.extBut D.l2i1) hy fun h₃ e hs₃ he=>hE h₃ e (fun c o c1 c2 c3 x=>hs₃ _ _ c3 (hs₂.extBut _ _ c2 (hs₁.extBut _ _ c1 x))) he)
theorem next_zipT {z TI TO T i1 i2 l1 l2:Addr} {b:Bool} {k1 k2:Nat} {xs ys:Array Value} {x y:Value} {Q:Option Value→Shared→Prop} (D:ZipApart z TI TO i1 i2 l1 l2)
   (hz:IsZipT s.heap z TI TO T b) (hTI:IsPair s.heap TI (.ref i1) (.ref i2)) (hTa:∃ o,s.heap.get? T = some o)
   (h1:s.heap.IsListIter i1 l1 k1) (h2:s.heap.IsListIter i2 l2 k2) (hl1:s.heap.IsList l1 xs) (hl2:s.heap.IsList l2 ys) (hx:xs[k1]? = some x) (hy:ys[k2]? = some y)
   (hQ:∀ h',IsZipT h' z TI TO T true→h'.IsListIter i1 l1 (k1 + 1)→h'.IsListIter i2 l2 (k2 + 1)→IsPair h' s.heap.objs.size x y →
     (∀ c o,c≠z→c≠i1→c≠i2→s.heap.get? c = some o→h'.get? c = some o)→Q (some (.ref s.heap.objs.size)) { s with heap:=h' }) :
   wpAny (model prog w) A (pyNext (.ref z)) Q E s:=by
 have hT:s.TypeIs (.ref z) "zip":=⟨_,hz,rfl⟩
 unfold pyNext
 exact wpAny_bind (wpAny_attempt (wpAny_callSpecial?_slot (name:=Str.ofString "__next__") hT F.slot_zip_next
   (wpAny_call_entry F.slot_zip_next hT F.entry_zip_next
     (zipT_item D hz hTI hTa h1 h2 hl1 hl2 hx hy fun h' a1 a2 a3 a4 a5=>wpAny_pure (hQ h' a1 a2 a3 a4 a5)) (F.args_zip_next_1 _))))
theorem next_zipT_end {z TI TO T i1 i2 l1 l2:Addr} {b:Bool} {k1 k2:Nat} {xs ys:Array Value} {Q:Option Value→Shared→Prop} (hh:A.handled = none) (D:ZipApart z TI TO i1 i2 l1 l2)
   (hz:IsZipT s.heap z TI TO T b) (hTI:IsPair s.heap TI (.ref i1) (.ref i2)) (hTa:∃ o,s.heap.get? T = some o)
   (h1:s.heap.IsListIter i1 l1 k1) (h2:s.heap.IsListIter i2 l2 k2) (hl1:s.heap.IsList l1 xs) (hl2:s.heap.IsList l2 ys) (hend:xs[k1]? = none∨ys[k2]? = none)
   (hQ:∀ h',(∀ c o,c≠z→c≠i1→c≠i2→s.heap.get? c = some o→h'.get? c = some o)→Q none { s with heap:=h' }):wpAny (model prog w) A (pyNext (.ref z)) Q E s:=by
 have hT:s.TypeIs (.ref z) "zip":=⟨_,hz,rfl⟩
 unfold pyNext
 refine wpAny_bind (wpAny_attempt (wpAny_callSpecial?_slot (name:=Str.ofString "__next__") hT F.slot_zip_next
   (wpAny_call_entry F.slot_zip_next hT F.entry_zip_next (zipT_end hh D hz hTI hTa h1 h2 hl1 hl2 hend fun h' e hk he=>?_) (F.args_zip_next_1 _))))
 refine zea he fun o ho hc=>?_;clear he
 refine wpAny_bind (wpAny_isInstance (T:="StopIteration") (b:=true) ⟨o,ho,hc⟩ isSubtype_stop ?_)
 exact wpAny_pure (hQ _ hk)
end
end Mine
end
section
set_option tactic.hygienic false
open PySem
set_option maxRecDepth 100000
namespace Mine
variable {C:Cst}
noncomputable def ItemP (C:Cst) (Z:List Addr) (io:HI) (ds:List D) (s₁:Shared) (i:Nat) (v:Value) (h h':Heap):Prop :=
 (∃ d,ds[i]? = some d∧Has C (VV C io Z) io s₁.heap d v) ∨
 ∃ x y dx dy T,ds[i]? = some (.tup [dx,dy])∧v = .ref T∧h.get? T = none∧IsPair h' T x y∧Has C (VV C io Z) io s₁.heap dx x∧Has C (VV C io Z) io s₁.heap dy y
structure WalkA (C:Cst) (A:Around) (Z:List Addr) (io:HI) (ds:List D) (s₁:Shared) (I:Addr) (fp wr:List Addr) (St:Nat→Heap→Prop):Prop where
 frame:∀ i h h',St i h→(∀ b∈fp,∀ o,h.get? b = some o→h'.get? b = some o)→(∀ b o,h.get? b = some o→∃ o',h'.get? b = some o')→St i h'
 item:∀ i (s:Shared) (Q:Option Value→Shared→Prop) (E:Value→Shared→Prop),i < ds.length→St i s.heap →
   (∀ v h' tk,ItemP C Z io ds s₁ i v s.heap h'→St (i + 1) h'→(∀ b o,b∉wr→s.heap.get? b = some o→h'.get? b = some o)→Q (some v) { s with heap:=h',toks:=tk })→wpAny (model C.prog C.w) A (pyNext (.ref I)) Q E s
 done:∀ (s:Shared) (Q:Option Value→Shared→Prop) (E:Value→Shared→Prop),St ds.length s.heap →
   (∀ h' tk,(∀ b o,b∉wr→s.heap.get? b = some o→h'.get? b = some o)→Q none { s with heap:=h',toks:=tk })→wpAny (model C.prog C.w) A (pyNext (.ref I)) Q E s
 alive:∀ i h,St i h→∀ b∈wr,∃ o,h.get? b = some o
inductive SrcA (C:Cst) (A:Around) (Zi Z:List Addr) (io:HI) (ds:List D) (s₁:Shared) (it:Value) (s₂:Shared):Prop
 | mk (I:Addr) (fp wr wf:List Addr) (St:Nat→Heap→Prop) (e:it = .ref I) (W:WalkA C A Z io ds s₁ I fp wr St) (h0:St 0 s₂.heap) (k:Keeps s₁ s₂) (hw:∀ b∈wf,s₁.heap.get? b = none∧∃ o,s₂.heap.get? b = some o) (hr:∀ b∈wr,b∈wf∨b∈Zi)
   (hf:∀ b∈fp,b∈wf∨b∈Zi∨∃ o,s₁.heap.get? b = some o∧b∉VV C io Z)
section
variable {lv:Nat} {A:Around} {Z:List Addr} {io:HI} {g:Sg} {s:Shared}
theorem srcA_of {Zi:List Addr} {ds:List D} {it:Value} {s₁ s₂:Shared} (h:Src C A Z Z io ds s₁ it s₂):SrcA C A Zi Z io ds s₁ it s₂:=by
 obtain ⟨I,fp,wr,P,StI,rfl,W,hst,k12,hwr,hfp,hP,hlen,hal,hgo⟩:=h
 exact ⟨I,fp,wr,wr,StI,rfl,⟨fun i h h' st hk J=>W.frame i h h' st hk,fun i s Q E hi st hQ=>W.item i s Q E hi st fun v h' tk hPv st' hk=>hQ v h' tk (.inl (hP i v hi hPv)) st' hk,W.done,hal⟩,hst,k12,hwr,fun b hb=>.inl hb,fun b hb=>(hfp b hb).imp id .inr⟩
theorem pairsD_get:∀ {l m:List D} {i:Nat} {a b:D},l[i]? = some a→m[i]? = some b→(pairsD l m)[i]? = some (.tup [a,b])
 | [],_,_,_,_,h,_=>by simp at h
 | _::_,[],_,_,_,_,h=>by simp at h
 | x::l,y::m,0,a,b,h1,h2=>by simp at h1 h2;subst h1 h2;rfl
 | x::l,y::m,i + 1,a,b,h1,h2=>pairsD_get (l:=l) (m:=m) (i:=i) h1 h2
theorem pairsD_length:∀ (l m:List D),(pairsD l m).length = min l.length m.length
 | [],m=>by show 0 = min 0 m.length;exact (Nat.zero_min _).symm
 | _::_,[]=>by exact (Nat.min_zero _).symm
 | x::l,y::m=>by show (pairsD l m).length + 1 = min (l.length + 1) (m.length + 1);rw [pairsD_length l m];lia
theorem srcA_zip {Zi:List Addr} {ds:List D} {v:Value} (ha:AOk A lv) (h:ZipV C Zi Z io ds v s) :
   wpAny (model C.prog C.w) A (pyIter v) (fun it s''=>SrcA C A Zi Z io ds s it s'') noE s:=by
 obtain ⟨z,TI,TO,i1,i2,l1,l2,xs,ys,l,m,rfl,rfl,D,hz,hTI,hTO,h1,h2,⟨p1,q1,v1⟩,⟨p2,q2,v2⟩,ll,lm,hnew⟩:=h
 refine wpAny_pyIter_zip hz ?_
 have n1:=HasL.length C q1
 have n2:=HasL.length C q2
 simp only [Array.length_toList] at n1 n2
 refine ⟨z,[z,TI,TO,i1,i2,l1,l2],[z,TO,i1,i2],[],fun i h=>((IsZip h z TI TO .none)∨∃ T b,IsZipT h z TI TO T b∧∃ o,h.get? T = some o)∧IsPair h TI (.ref i1) (.ref i2)∧(∃ a b,IsPair h TO a b)∧h.IsListIter i1 l1 i∧h.IsListIter i2 l2 i∧h.IsList l1 xs∧h.IsList l2 ys,
   rfl,⟨?_,?_,?_,?_⟩,⟨.inl hz,hTI,⟨_,_,hTO⟩,h1,h2,p1.isList,p2.isList⟩,Keeps.refl,by simp,fun b hb=>.inr (hnew b ?_),fun b hb=>?_⟩
 · rintro i h h' ⟨hz,a1,⟨a,b,a2⟩,a3,a4,a5,a6⟩ hk hal
   refine ⟨?_,hk _ (by simp) _ a1,⟨a,b,hk _ (by simp) _ a2⟩,a3.at fun o e=>hk _ (by simp) o e,a4.at fun o e=>hk _ (by simp) o e,a5.at fun o e=>hk _ (by simp) o e,a6.at fun o e=>hk _ (by simp) o e⟩
   rcases hz with hz | ⟨T,b,hz,o,ho⟩
   · exact .inl (hk _ (by simp) _ hz)
   · exact .inr ⟨T,b,hk _ (by simp) _ hz,hal _ _ ho⟩
 · rintro i s' Q E hi ⟨hz,a1,⟨a,b,a2⟩,a3,a4,a5,a6⟩ hQ
   rw [pairsD_length] at hi
   have hix:i < xs.size:=by lia
   have hiy:i < ys.size:=by lia
   have item:∀ h',IsPair h' s'.heap.objs.size xs[i] ys[i]→ItemP C Z io (pairsD l m) s i (.ref s'.heap.objs.size) s'.heap h':=fun h' hp=>by
     refine zea (HasL.get C q1 (List.getElem?_eq_getElem (show i < l.length by lia))) fun vx e1 f1=>?_
     refine zea (HasL.get C q2 (List.getElem?_eq_getElem (show i < m.length by lia))) fun vy e2 f2=>?_
     rw [Array.getElem?_toList,Array.getElem?_eq_getElem hix,Option.some.injEq] at e1
     rw [Array.getElem?_toList,Array.getElem?_eq_getElem hiy,Option.some.injEq] at e2
     subst e1 e2
     exact .inr ⟨_,_,_,_,_,pairsD_get (List.getElem?_eq_getElem (by lia)) (List.getElem?_eq_getElem (by lia)),rfl,get?_size_none _,hp,f1,f2⟩
   rcases hz with hz | ⟨T,b',hz,hTa⟩
   · refine wpAny_pyNext_zip_item D hz a1 a2 a3 a4 a5 a6 (Array.getElem?_eq_getElem hix) (Array.getElem?_eq_getElem hiy) fun h' b1 b2 b3 b4 b5 b6 hk=>?_
     exact hQ _ h' s'.toks (item h' b5) ⟨.inr ⟨_,false,b1,_,b5⟩,hk _ _ D.TIz D.TITO D.TIi1 D.TIi2 a1,⟨_,_,b2⟩,b3,b4,a5.at fun o e=>hk _ o D.l1z D.l1TO D.l1i1 D.l1i2 e,a6.at fun o e=>hk _ o D.l2z D.l2TO D.l2i1 D.l2i2 e⟩
       fun c o hc e=>hk c o (fun x=>hc (by simp [x])) (fun x=>hc (by simp [x])) (fun x=>hc (by simp [x])) (fun x=>hc (by simp [x])) e
   · refine next_zipT D hz a1 hTa a3 a4 a5 a6 (Array.getElem?_eq_getElem hix) (Array.getElem?_eq_getElem hiy) fun h' b1 b3 b4 b5 hk=>?_
     refine hQ _ h' s'.toks (item h' b5) ⟨.inr ⟨T,true,b1,?_⟩,hk _ _ D.TIz D.TIi1 D.TIi2 a1,⟨a,b,hk _ _ D.TOz D.TOi1 D.TOi2 a2⟩,b3,b4,a5.at fun o e=>hk _ o D.l1z D.l1i1 D.l1i2 e,a6.at fun o e=>hk _ o D.l2z D.l2i1 D.l2i2 e⟩
       fun c o hc e=>hk c o (fun x=>hc (by simp [x])) (fun x=>hc (by simp [x])) (fun x=>hc (by simp [x])) e
     refine ze hTa fun o ho=>?_;clear hTa
     by_cases c1:T = z
     · rw [c1];exact ⟨_,b1⟩
     · by_cases c2:T = i1
       · refine zea b3 fun o' e J=>?_;clear b3;rw [c2];exact ⟨o',e⟩
       · by_cases c3:T = i2
         · refine zea b4 fun o' e J=>?_;clear b4;rw [c3];exact ⟨o',e⟩
         · exact ⟨o,hk _ _ c1 c2 c3 ho⟩
 · rintro s' Q E ⟨hz,a1,⟨a,b,a2⟩,a3,a4,a5,a6⟩ hQ
   have hend:xs[(pairsD l m).length]? = none∨ys[(pairsD l m).length]? = none:=by
     rw [pairsD_length]
     rcases Nat.le_total l.length m.length with h | h
     · exact .inl (Array.getElem?_eq_none (by lia))
     · exact .inr (Array.getElem?_eq_none (by lia))
   rcases hz with hz | ⟨T,b',hz,hTa⟩
   · exact wpAny_pyNext_zip_end ha.hh D hz a1 a2 a3 a4 a5 a6 hend fun h' hk=>hQ h' s'.toks fun c o hc e=>hk c o (fun x=>hc (by simp [x])) (fun x=>hc (by simp [x])) (fun x=>hc (by simp [x])) (fun x=>hc (by simp [x])) e
   · exact next_zipT_end ha.hh D hz a1 hTa a3 a4 a5 a6 hend fun h' hk=>hQ h' s'.toks fun c o hc e=>hk c o (fun x=>hc (by simp [x])) (fun x=>hc (by simp [x])) (fun x=>hc (by simp [x])) e
 · rintro i h ⟨hz,a1,⟨a,b,a2⟩,⟨o3,a3,_⟩,⟨o4,a4,_⟩,a5,a6⟩ b' hb
   simp only [List.mem_cons,List.not_mem_nil,or_false] at hb
   rcases hb with rfl | rfl | rfl | rfl
   · rcases hz with hz | ⟨T,_,hz,_⟩<;>exact ⟨_,hz⟩
   · exact ⟨_,a2⟩
   · exact ⟨_,a3⟩
   · exact ⟨_,a4⟩
 · simp only [List.mem_cons,List.not_mem_nil,or_false] at hb
   rcases hb with rfl | rfl | rfl | rfl<;>simp
 · simp only [List.mem_cons,List.not_mem_nil,or_false] at hb
   rcases hb with rfl | rfl | rfl | rfl | rfl | rfl | rfl
   · exact .inr (.inl (hnew _ (by simp)))
   · exact .inr (.inl (hnew _ (by simp)))
   · exact .inr (.inl (hnew _ (by simp)))
   · exact .inr (.inl (hnew _ (by simp)))
   · exact .inr (.inl (hnew _ (by simp)))
   · refine ze p1 fun n e=>?_;clear p1;exact .inr (.inr ⟨_,e,v1⟩)
   · refine ze p2 fun n e=>?_;clear p2;exact .inr (.inr ⟨_,e,v2⟩)
theorem srcA_ok {Zi:List Addr} {ds:List D} {v:Value} (ha:AOk A lv) (h:SplV C Zi Z io ds v s):wpAny (model C.prog C.w) A (pyIter v) (fun it s''=>SrcA C A Zi Z io ds s it s'') noE s:=by
 rcases h with ⟨d,hd,hh⟩ | h
 · exact noE_mono (src_items ha hd hh) fun it s2 h2=>srcA_of h2
 · exact srcA_zip ha h
theorem SplV.up {Zi F:List Addr} {io':HI} {s':Shared} {ds:List D} {v:Value} (h:SplV C Zi Z io ds v s) (x:Grow C io io' s s') (hZ:∀ b∈Zi,b∈Z) (k:Sok C Z io g s) (hF:∀ f∈F,s.heap.get? f = none):SplV C Zi (F++Z) io' ds v s':=by
 have keepZ:∀ b∈Zi,∀ o,s.heap.get? b = some o→s'.heap.get? b = some o:=fun b hb o e=>x.keep b o e (k.zd b (hZ b hb)).1 (k.zd b (hZ b hb)).2.1
 have up:∀ {a:Addr} {o:Obj},s.heap.get? a = some o→a∉VV C io Z→s'.heap.get? a = some o∧a∉VV C io' (F++Z):=fun {a o} e hv=>by
   refine za (x.keepAt C e hv) fun q1 q2=>?_
   refine ⟨q1,fun hm=>?_⟩
   rcases vv_split hm with hm | hm
   · exact q2 hm
   · rw [hF a hm] at e;injection e
 rcases h with ⟨d,hd,hh⟩ | ⟨z,TI,TO,i1,i2,l1,l2,xs,ys,l,m,rfl,rfl,D,hz,hTI,hTO,h1,h2,⟨⟨n1,p1⟩,q1,v1⟩,⟨⟨n2,p2⟩,q2,v2⟩,ll,lm,hnew⟩
 · exact .inl ⟨d,hd,x.hasF hF hh⟩
 · have hL:∀ {l:List Mine.D} {vs:List Value},HasL C (VV C io Z) io s.heap l vs→HasL C (VV C io' (F++Z)) io' s'.heap l vs:=fun hh=>HasL.mono C (fun a o e hv=>up e hv) x.pre hh
   have k1:=fun b hb=>keepZ b (hnew b hb)
   exact .inr ⟨z,TI,TO,i1,i2,l1,l2,xs,ys,l,m,rfl,rfl,D,k1 _ (by simp) _ hz,k1 _ (by simp) _ hTI,k1 _ (by simp) _ hTO,h1.at fun o e=>k1 _ (by simp) o e,h2.at fun o e=>k1 _ (by simp) o e,
     ⟨⟨n1,(up p1 v1).1⟩,hL q1,(up p1 v1).2⟩,⟨⟨n2,(up p2 v2).1⟩,hL q2,(up p2 v2).2⟩,ll,lm,hnew⟩
theorem SplV.len {Zi:List Addr} {ds:List D} {v:Value} (h:SplV C Zi Z io ds v s):ds.length≤lim:=by
 rcases h with ⟨d,hd,hh⟩ | ⟨z,TI,TO,i1,i2,l1,l2,xs,ys,l,m,rfl,rfl,D,hz,hTI,hTO,h1,h2,_,_,ll,lm,hnew⟩
 · induction d using D.casesOn<;>first | exact no_opt hd | (injection hd with hd;subst hd)
   · rw [show (signs _).length = _ from by unfold signs;rw [List.length_map,Array.length_toList]];exact hh.1
   · exact hh.1
   · exact hh.1
 · rw [pairsD_length];lia
end
end Mine
end
section
set_option tactic.hygienic false
open PySem
set_option maxRecDepth 100000
namespace Mine
variable {C:Cst}
theorem lam_bind {name qual:Str} {body:Expr} {sc:Scope} {cl:List (Str × Addr)} {pm cdv ct:Value} {x:Str} {an:Pos} (v:Value) :
   bindArgs (PySem.W.kla_fn name qual ⟨[],[⟨x,none,an⟩],none,[],[],none,[]⟩ body sc cl pm cdv ct) ⟨[v],[]⟩ = pure [(x,v)]:=by
 have hs:seqItems? Value.none = pure none:=rfl
 unfold bindArgs
 simp [hs,List.lookup]
theorem lam_call {lv:Nat} {A:Around} {Z FF:List Addr} {io io':HI} {kd:Kd} {env:Env} {ro:Ro} {g g1 g':Sg} {s₁ s:Shared} {name qual:Str} {x:Str} {an:Pos} {body:Expr} {sc:Scope} {cl:List (Str × Addr)} {pm ct:Value} {c' f:Addr} {ev:Ro→Expr→Sg→Option (D × Sg)} {d r:D} {v:Value}
   (rt:RootOk C) (ha:AOk A (lv + 1)) (he:EnvOk C kd Z io env ro s₁.heap) (k₁:Sok C Z io g1 s₁) (x₁:Grow C io io' s₁ s) (k:Sok C (FF++Z) io' g s) (hFF:∀ f∈FF,s₁.heap.get? f = none)
   (hsc:scopeOk sc kd x = true) (hco:sc.isCoroutine = false) (hgen:sc.isGenerator = false)
   (ho:s.heap.get? f = some (PySem.W.kla_obj name qual ⟨[],[⟨x,none,an⟩],none,[],[],none,[]⟩ body sc (cloF env.cells sc.names []) pm c' ct)) (hcd:s.heap.CodeRec (.ref c') qual)
   (hev:∀ ro,EvSound C lv (fun y=>sc.names.lookup y) ro (ev ro)) (hv:Has C (VV C io' (FF++Z)) io' s.heap d v) (h:ev ((x,d)::freeIn sc ro) body g = some (r,g')) :
   wpAny (model C.prog C.w) A (call (.ref f) [v]) (Post C (FF++Z) io' s r g') noE s:=by
 refine za4 (comp_env hsc) fun h1 h2 h3 h4 h5=>?_
 refine wpAny_call (PySem.W.kla_callFunE (by have:=ha.dp;show A.depth < 1000;lia) ho rfl hco hgen rfl hcd ?_)
 rw [lam_bind]
 refine wpAny_pure (wpAny_newFunctionEnv h2 (fun y hy=>by simp only [List.mem_singleton] at hy;subst hy;exact h5) (fun h₁ hns hsb=>⟨?_,PySem.W.kla_codeExpr ?_⟩) h1.1)
 · exact (rt.nolimit.keeps k.base).keeps fun b o e=>hsb.extBut b o (Nat.ne_of_lt (Heap.lt_size e)) (Heap.get?_push_of_some _ e)
 · have kp:Keeps s { s with heap:=h₁,toks:=s.toks + [(x,v)].length }:=⟨_,_,rfl,fun b o e=>hsb.extBut b o (Nat.ne_of_lt (Heap.lt_size e)) (Heap.get?_push_of_some _ e)⟩
   have hLn:s.heap.get? s.heap.objs.size = none:=get?_size_none _
   have k3:=Sok.more k hLn kp (by refine ze3a hns fun o J J e J=>?_;clear hns;exact ⟨o,e⟩)
   have hL1:s₁.heap.get? s.heap.objs.size = none:=by
     induction e:s₁.heap.get? s.heap.objs.size using Option.casesOn with
     | none=>rfl
     | some o=>refine ze (x₁.alive _ o e) fun o' e'=>?_;rw [hLn] at e';injection e'
   have x3:=x₁.trans C (Keeps.grow C kp)
   have hv3:Has C (VV C io' ((s.heap.objs.size::FF)++Z)) io' h₁ d v:=Has.mono C (fun a o e hn=>by
     refine ze2a kp fun h' tk e2 hkk=>?_;clear kp
     injection e2 with e21 e22 e23 e24 e25;subst e21;clear e22;clear e23;subst e24;clear e25
     refine ⟨hkk a o e,fun hm=>?_⟩
     rcases vv_split (O:=[s.heap.objs.size]) (Z:=FF++Z) hm with h | h
     · exact hn h
     · simp only [List.mem_singleton] at h;subst h;rw [hLn] at e;injection e) (fun J J e=>e) hv
   have e3:=env_block (F:=s.heap.objs.size::FF) (s:={ s with heap:=h₁,toks:=s.toks + [(x,v)].length })
     (env':=newEnv sc s.heap.objs.size mainGlobals (cloF env.cells sc.names []) (qual++".<locals>.") (some f) (.ref c') none builtinsNs) he k₁ x3
     (fun y hy=>by rcases List.mem_cons.mp hy with rfl | hy;exact hL1;exact hFF y hy) h2 h1 h4 (fun y=>.inl rfl) h1.1 he.gl.symm he.bi.symm rfl (b:=[(x,d)]) (.head _) hns (fun y d' hy=>by
       by_cases hyx:(y==x) = true
       · have hyx':y = x:=by simpa using hyx
         subst hyx'
         simp only [List.lookup,hyx,Option.some.injEq] at hy
         subst hy
         exact ⟨h5,v,by simp [List.lookup],hv3⟩
       · have hyx':(y==x) = false:=by simpa using hyx
         simp [List.lookup,hyx'] at hy)
   have ha':AOk (A.deeper (newEnv sc s.heap.objs.size mainGlobals (cloF env.cells sc.names []) (qual++".<locals>.") (some f) (.ref c') none builtinsNs)) lv:=⟨ha.hh,by have:=ha.dp;show A.depth + 1 + lv≤900;lia,by have:=ha.un;show A.units + 3 + 8 * lv≤9000;lia⟩
   refine noE_mono (hev _ _ _ _ _ h _ _ _ io' _ ha' e3 k3) fun rv s4 ⟨io4,x4,k4,h4⟩=>?_
   exact ⟨io4,(Keeps.grow C kp).trans C x4,k4.less C fun z hz=>.tail _ hz,Has.less C h4 fun z hz=>.tail _ hz⟩
end Mine
end
section
set_option tactic.hygienic false
open PySem
set_option maxRecDepth 100000
namespace Mine
variable {C:Cst}
section
variable {K K':Kp} {kd:Kd} {s0:Shared} {io0:HI} {Z0 W:List Addr} {env:Env} {ad:Str→Addr} {O F:List Addr} {fo:Fo} {io io':HI} {g g1 g':Sg} {s s':Shared} {A:Around} {L n:Nat} {T:Tbl}
theorem exec_append (x:Frm C K kd s0 io0 Z0 env ad O F fo io g s) {z:Str} {l:List D} {d:D} {e:Expr} {pz q p sp:Pos} (hz:fo.lookup z = some (.own l)) (hdb:(z==("__debug__":Str)) = false) (hline:(q.endLine==p.line) = true) (hpl:plainE e = true) (hll:l.length < lim)
   {Q:Flow→Shared→Prop}
   (he:∀ a,VarAt kd env s.heap z (.ref a)→wpAny (model C.prog C.w) A (eval e env) (fun v s1=>∃ io1 g1,Grow C io io1 s s1∧Sok C (O++(F++Z0)) io1 g1 s1∧Has C (VV C io1 (O++(F++Z0))) io1 s1.heap d v ∧
     ∀ s2,Frm C K kd s0 io0 Z0 env ad O F (setE z (.own (l++[d])) fo) io1 g1 s2→(∀ b o,b≠ad z→s1.heap.get? b = some o→s2.heap.get? b = some o)→Q .next s2) noE s) :
   wpAny (model C.prog C.w) A (exec (.Expr (.Call (.Attribute (.Name z pz) "append" q) [e] [] p) sp) env) Q noE s:=by
 refine zea4ea (x.vals z _ hz) fun vz hvz e2q hzO hzl ws hp hws=>?_;subst e2q
 have htrees:backTo p (starEach [e] env) = [(false,eval e env)]:=by
   rw [starEach_plain (plain_ne hpl)];rfl
 refine wpAny_Expr (wpAny_Call_append (base_notSuper rfl env _) (by rw [htrees];rfl) hline htrees (var_ok x hvz hdb ⟨_,ws,rfl,?_,noE_mono (he _ hvz) fun v s1 ⟨io1,g1,y,k,hv,hq⟩=>?_⟩)) ?_ rfl
 · refine ze hp fun n e=>?_;clear hp
   exact ⟨_,n,e,rfl,rfl,rfl⟩
 · have x1:=x.step y k
   refine zea4ea (x1.vals z _ hz) fun vz1 hvz1 he1 hzO1 hzl1 ws1 hp1 hws1=>?_
   have hn:=HasL.length C hws1
   simp only [Array.length_toList] at hn
   refine wpAny_list_append_plain hp1 (fun h2 hp2 hsb=>?_) (by have:=lim_le;lia)
   have t2:Touch [ad z] s1 { s1 with heap:=h2 }:=Touch.same_but (tk:=s1.toks) hsb (let ⟨n,e⟩:=hp2;⟨_,e⟩)
   refine hq _ (x1.setOwn (l':=l++[d]) hz t2 hp2 (by rw [List.length_append];exact hll) (by
     rw [Array.toList_push]
     exact HasL.append C hws1 (by exact ⟨v,[],rfl,hv,rfl⟩))) fun b o hb e=>t2.keep b o e (by simpa using hb)
 · unfold interactive;rw [x.fn];rfl
end
end Mine
end
section
open PySem
set_option maxRecDepth 100000
namespace Mine
variable {C:Cst}
section
variable {K K':Kp} {kd:Kd} {s0:Shared} {io0:HI} {Z0 W:List Addr} {env:Env} {ad:Str→Addr} {O F:List Addr} {fo:Fo} {io io':HI} {g g1 g':Sg} {s s':Shared} {A:Around} {L n:Nat} {T:Tbl}
theorem exec_newlist (x:Frm C K kd s0 io0 Z0 env ad O F fo io g s) {z:Str} {pz pl sp:Pos} (hz:canSet kd z = true) {Q:Flow→Shared→Prop}
   (hq:∀ ad' a s',s.heap.get? a = none→Frm C K kd s0 io0 Z0 env ad' (a::O) F (setE z (.own []) fo) io g s'→(∀ b o,b∉F→s.heap.get? b = some o→s'.heap.get? b = some o)→(∀ y u,y≠z→VarAt kd env s.heap y u→VarAt kd env s'.heap y u)→Q .next s') :
   wpAny (model C.prog C.w) A (exec (.Assign [.Name z pz] (.List [] pl) sp) env) Q noE s:=by
 refine wpAny_Assign_Name (PyProof.Rows.List_ (wpAny_items_nil (wpAny_newObj_type ?_ (by show 0≤sizeLine;exact Nat.zero_le _)))) rfl
 have x1:=x.addOwn []
 have hfr:∀ y l,fo.lookup y = some (.own l)→s.heap.objs.size≠ad y:=fun y l hy he=>by
   refine zea3 (x.vals y _ hy) fun v J J hO J=>?_
   refine ze2 (x.olist _ hO) fun vs m e=>?_
   rw [← he,get?_size_none] at e;injection e
 have kk:∀ b o,s.heap.get? b = some o→(s.heap.push { cls:=.type "list",data:=.seq ([]:List Value).toArray }).get? b = some o:=fun b o e=>Heap.get?_push_of_some _ e
 refine x1.store' (ev:=.own []) (a:=s.heap.objs.size) hz ⟨rfl,.head _,Nat.zero_le _,#[],⟨_,Heap.get?_push_size _ rfl⟩,by simp [HasL]⟩ (fun l hl y l' hyz hy=>hfr y l' hy) fun s2 x2 k2 v2=>?_
 refine hq _ _ s2 (get?_size_none _) x2 (fun b o hb e=>k2 b o hb (kk b o e)) fun y u hyz hu=>v2 y u hyz (hu.keep (fun o e=>kk _ o e) (fun c o J J e=>kk _ o e))
end
end Mine
end
section
set_option tactic.hygienic false
open PySem
set_option maxRecDepth 100000
namespace Mine
variable {C:Cst}
section
variable {K K':Kp} {kd kd2:Kd} {sb s0:Shared} {iob io0:HI} {Z W:List Addr} {env env2:Env} {ad:Str→Addr} {O F:List Addr} {fo:Fo} {io io':HI} {g gb g1 g':Sg} {s s':Shared} {A:Around} {lv L n:Nat} {T:Tbl} {ro:Ro}
theorem pred_ok {name qual:Str} {x y pn:Str} {an pp py q p:Pos} {body:Expr} {sc:Scope} {pm ct:Value} {c' f:Addr} {ev:Ro→Expr→Sg→Option (D × Sg)} {d r:D} {c:Bool}
   (rt:RootOk C) (ha:AOk A (lv + 1)) (he:EnvOk C kd Z iob env ro sb.heap) (kb:Sok C Z iob gb sb) (xb:Grow C iob io sb s) (hFF:∀ b∈O++F++W,sb.heap.get? b = none)
   (xf:Frm C K kd2 s0 io0 (W++Z) env2 ad O F fo io g s) (hp:VarAt kd2 env2 s.heap pn (.ref f)) (hdb:(pn==("__debug__":Str)) = false) (hyl:fo.lookup y = some (.val d)) (hdy:(y==("__debug__":Str)) = false)
   (hsc:scopeOk sc kd x = true) (hco:sc.isCoroutine = false) (hgen:sc.isGenerator = false)
   (ho:s.heap.get? f = some (PySem.W.kla_obj name qual ⟨[],[⟨x,none,an⟩],none,[],[],none,[]⟩ body sc (cloF env.cells sc.names []) pm c' ct)) (hcd:s.heap.CodeRec (.ref c') qual)
   (hev:∀ ro,EvSound C lv (fun y=>sc.names.lookup y) ro (ev ro)) (h:ev ((x,d)::freeIn sc ro) body g = some (r,g')) (ht:truthD r = some c) :
   wpAny (model C.prog C.w) A (isTrue (.Call (.Name pn pp) [.Name y py] [] p) env2 (eval (.Call (.Name pn pp) [.Name y py] [] p) env2)) (fun b s'=>b = c∧∃ io',Grow C io io' s s'∧Sok C (O++(F++(W++Z))) io' g' s') noE s:=by
 have hz:O++(F++(W++Z)) = (O++F++W)++Z:=by simp [List.append_assoc]
 refine zea (xf.vals y _ hyl) fun v hv hd=>?_
 have hd':Has C (VV C io ((O++F++W)++Z)) io s.heap d v:=hz ▸ hd
 have call:=lam_call (A:=A) (cl:=[]) rt ha he kb xb (hz ▸ xf.sok) hFF hsc hco hgen ho hcd hev hd' h
 have fin:∀ (rv:Value) (s1:Shared),Post C ((O++F++W)++Z) io s r g' rv s1→wpAny (model C.prog C.w) A (truthy rv) (fun b s'=>b = c∧∃ io',Grow C io io' s s'∧Sok C (O++(F++(W++Z))) io' g' s') noE s1:=by
   rintro rv s1 ⟨io1,x1,k1,hh⟩
   refine noE_mono (truthD_ok (E:=noE) ht hh) ?_
   rintro b s2 ⟨hb,kp⟩
   exact ⟨hb,io1,x1.trans C (Keeps.grow C kp),hz ▸ Keeps.sok C kp k1⟩
 refine wpAny_isTrue_value ?_ rfl
 refine PyProof.Rows.Call_ (var_ok xf hp hdb ?_) rfl
 refine Calls.callWith_function (o:=PySem.W.kla_obj name qual ⟨[],[⟨x,none,an⟩],none,[],[],none,[]⟩ body sc (cloF env.cells sc.names []) pm c' ct) (fd:=PySem.W.kla_fn name qual ⟨[],[⟨x,none,an⟩],none,[],[],none,[]⟩ body sc (cloF env.cells sc.names []) pm (.ref c') ct) ?_
 refine evalArgs_of (by rfl) (wpAny_items_cons (var_ok xf hv hdy (wpAny_items_nil ?_)) (starEach_plain fun _ _=>nofun))
 exact ⟨⟨ho,rfl⟩,noE_mono call fun rv s1 h1=>fin rv s1 h1⟩
end
end Mine
end
section
set_option tactic.hygienic false
open PySem
set_option maxRecDepth 100000
namespace Mine
variable {C:Cst}
noncomputable def splLoop (px ps p1 q1 p2 py q3 p3 pn q4 p4:Pos) (pi pf pxa pxb pxc se1 se2:Pos):Stmt :=
 .For (.Name "x" px) (.Name "s" ps) [.If (.Call (.Name "predicate" p1) [.Name "x" pxa] [] p2)
   [.Expr (.Call (.Attribute (.Name "yes" py) "append" q3) [.Name "x" pxb] [] p3) se1]
   [.Expr (.Call (.Attribute (.Name "no" pn) "append" q4) [.Name "x" pxc] [] p4) se2] pi] [] pf
section
variable {K:Kp} {kd kd2:Kd} {sb s0:Shared} {iob io0:HI} {Z W:List Addr} {env env2:Env} {ad:Str→Addr} {O F:List Addr} {fo:Fo} {io io':HI} {g gb g1 g2:Sg} {s s':Shared} {A:Around} {lv L n:Nat} {T:Tbl} {ro:Ro}
theorem partD_cons {tr:D→Sg→Option (Bool × Sg)} {d:D} {ds:List D} {pr:List D × List D} (h:partD tr (d::ds) g = some (pr,g2)) :
   ∃ b g1 pr',tr d g = some (b,g1)∧partD tr ds g1 = some (pr',g2)∧pr = (if b then (d::pr'.1,pr'.2) else (pr'.1,d::pr'.2)):=by
 refine ze2a (bindK_some h) fun b g3 h1 h=>?_
 refine ze2a (bindK_some h) fun p g4 h2 h=>?_
 apply i2 h
 exact ⟨b,g3,p,h1,h2,rfl⟩
theorem item_has {ds:List D} {i:Nat} {v:Value} {h h':Heap} {s₁:Shared} {d:D} {Z2 V:List Addr} {io1:HI} (hi:ItemP C Z2 io1 ds s₁ i v h h') (hd:ds[i]? = some d)
   (up:∀ a o,s₁.heap.get? a = some o→a∉VV C io1 Z2→h'.get? a = some o∧a∉V) (pre:∀ (k:Nat) t,io1[k]? = some t→io[k]? = some t) (hV:∀ a,h.get? a = none→a∉V):Has C V io h' d v:=by
 rcases hi with ⟨d',e,hh⟩ | ⟨x,y,dx,dy,T,e,rfl,hT,hp,hx,hy⟩
 · rw [hd] at e;(injection e with e;subst e)
   exact Has.mono C up pre hh
 · rw [hd] at e;(injection e with e;subst e)
   exact ⟨by show 2≤1000000;decide,T,#[x,y],rfl,hV T hT,⟨_,hp⟩,x,[y],rfl,Has.mono C up pre hx,y,[],rfl,Has.mono C up pre hy,rfl⟩
inductive SplInv (C:Cst) (K1:Kp) (kd2:Kd) (s0:Shared) (io0:HI) (Z1:List Addr) (env2:Env) (O F:List Addr) (St:Nat→Heap→Prop) (f:Addr) (P:List D→Sg→Option ((List D × List D) × Sg)) (ds:List D) (pr:List D × List D) (g2:Sg) (k:Nat) (s:Shared):Prop
 | mk (fo:Fo) (g:Sg) (ad:Str→Addr) (io:HI) (i:Nat) (Y N y' n':List D) (hk:k + i = ds.length + 1) (hi:i≤ds.length) (hr:P (ds.drop i) g = some ((y',n'),g2)) (eY:Y++y' = pr.1) (eN:N++n' = pr.2) (lY:Y.length≤i) (lN:N.length≤i)
   (hy:fo.lookup ("yes":Str) = some (EV.own Y)) (hn:fo.lookup ("no":Str) = some (EV.own N)) (hp:VarAt kd2 env2 s.heap "predicate" (.ref f)) (hs:St i s.heap) (x:Frm C K1 kd2 s0 io0 Z1 env2 ad O F fo io g s)
theorem splLoop_ok {px ps p1 q1 p2 py q3 p3 pn q4 p4 pi pf pxa pxb pxc se1 se2:Pos} {name qual:Str} {x:Str} {an:Pos} {body:Expr} {sc:Scope} {pm ct:Value} {c' f:Addr} {ev:Ro→Expr→Sg→Option (D × Sg)} {ds:List D} {pr:List D × List D} {vs:Value}
   (rt:RootOk C) (ha:AOk A (lv + 1)) (he:EnvOk C kd Z iob env ro sb.heap) (kb:Sok C Z iob gb sb) (hb0:Grow C iob io0 sb s0)
   (hsc:scopeOk sc kd x = true) (hco:sc.isCoroutine = false) (hgen:sc.isGenerator = false)
   (ho:s.heap.get? f = some (PySem.W.kla_obj name qual ⟨[],[⟨x,none,an⟩],none,[],[],none,[]⟩ body sc (cloF env.cells sc.names []) pm c' ct)) (hcd:s.heap.CodeRec (.ref c') qual)
   (hfv:f∉VV C io (O++(F++(W++Z)))) (hcv:c'∉VV C io (O++(F++(W++Z))))
   (hev:∀ ro,EvSound C lv (fun y=>sc.names.lookup y) ro (ev ro))
   (xf:Frm C K kd2 s0 io0 (W++Z) env2 ad O F fo io g s) (hW0:∀ w∈W,s0.heap.get? w = none) (hWF:∀ w∈W,w∉F) (hs0:∀ b,s0.heap.get? b = none→sb.heap.get? b = none)
   (hs:VarAt kd2 env2 s.heap "s" vs) (hp:VarAt kd2 env2 s.heap "predicate" (.ref f))
   (hy:fo.lookup ("yes":Str) = some (EV.own [])) (hn:fo.lookup ("no":Str) = some (EV.own [])) (hx:canSet kd2 "x" = true)
   (hsp:SplV C W (O++(F++(W++Z))) io ds vs s)
   (hl3:(q3.endLine==p3.line) = true) (hl4:(q4.endLine==p4.line) = true)
   (hpart:partD (fun d g=>bindK (ev ((x,d)::freeIn sc ro) body g) fun r g=>(truthD r).map (·,g)) ds g = some (pr,g2)) :
   wpAny (model C.prog C.w) A (exec (splLoop px ps p1 q1 p2 py q3 p3 pn q4 p4 pi pf pxa pxb pxc se1 se2) env2) (fun fl s'=>fl = .next∧∃ ad' fo' io',Frm C ⟨fun J J=>False,[]⟩ kd2 s0 io0 Z env2 ad' O F fo' io' g2 s' ∧
     fo'.lookup ("yes":Str) = some (EV.own pr.1)∧fo'.lookup ("no":Str) = some (EV.own pr.2)) noE s:=by
 refine wpAny_For (var_ok xf hs (by decide) (noE_mono (srcA_ok ha hsp) fun it s2 src=>?_)) (folded_none nofun)
 obtain ⟨I,fp,wr,wf,St,rfl,WA,hst,k12,hwf,hwr,hfp⟩:=src
 have hlen:=hsp.len
 have x2:=xf.moreW k12 hwf
 have wfF:∀ w∈wf,w∉F:=fun w hw hm=>by
   refine ze (xf.sok.zal w (List.mem_append_right _ (List.mem_append_left _ hm))) fun o e=>?_
   rw [(hwf w hw).1] at e;injection e
 have wf0:∀ w∈wf,s0.heap.get? w = none:=fun w hw=>by
   induction e:s0.heap.get? w using Option.casesOn with
   | none=>rfl
   | some o=>refine ze (xf.grow.alive w o e) fun o' e'=>?_;rw [(hwf w hw).1] at e';injection e'
 have kk:∀ b o,s.heap.get? b = some o→s2.heap.get? b = some o:=by refine ze2a k12 fun h' tk e2q hkk=>?_;clear k12;subst e2q;exact hkk
 let Z2:=O++(F++(W++Z))
 let K1:Kp:=⟨fun b o=>s.heap.get? b = some o∧b∉VV C io Z2,io⟩
 have vv:∀ {b:Addr},b∉VV C io Z2→b∉C.vt∧b∉adr io∧b∉O∧b∉F∧b∉W∧b∉Z:=fun {b} h=>by
   simp only [VV,Z2,List.mem_append,not_or] at h
   exact ⟨h.1.1,h.1.2,h.2.1,h.2.2.1,h.2.2.2.1,h.2.2.2.2⟩
 let WW:=wf++W
 have x3:Frm C K1 kd2 s0 io0 (WW++Z) env2 ad O F fo io g s2:=by
   show Frm C K1 kd2 s0 io0 ((wf++W)++Z) env2 ad O F fo io g s2
   rw [List.append_assoc]
   exact x2.withK (fun b o hb=>⟨kk b o hb.1,(vv hb.2).1,(vv hb.2).2.1,(vv hb.2).2.2.1,(vv hb.2).2.2.2.1⟩) (fun J J e=>e)
 have K1f:∀ b o,K1.p b o→b∉wf:=fun b o hb hm=>by have:=hb.1;rw [(hwf b hm).1] at this;injection this
 have K1W:∀ b o,K1.p b o→b∉WW:=fun b o hb hm=>by
   rcases List.mem_append.mp hm with h | h
   · exact K1f b o hb h
   · exact (vv hb.2).2.2.2.2.1 h
 have wrW:∀ b∈wr,b∈WW:=fun b hb=>List.mem_append.mpr (hwr b hb)
 have K1r:∀ b o,K1.p b o→b∉wr:=fun b o hb hm=>K1W b o hb (wrW b hm)
 have WF:∀ w∈WW,w∉F:=fun w hw=>by
   rcases List.mem_append.mp hw with h | h
   · exact wfF w h
   · exact hWF w h
 have W0:∀ w∈WW,s0.heap.get? w = none:=fun w hw=>by
   rcases List.mem_append.mp hw with h | h
   · exact wf0 w h
   · exact hW0 w h
 have fpW:∀ b∈fp,b∈WW∨∃ o,K1.p b o:=fun b hb=>by
   rcases hfp b hb with h | h | ⟨o,h1,h2⟩
   · exact .inl (List.mem_append_left _ h)
   · exact .inl (List.mem_append_right _ h)
   · exact .inr ⟨o,h1,h2⟩
 have hp2:VarAt kd2 env2 s2.heap "predicate" (.ref f):=hp.keep (fun o e=>kk _ o e) fun c o J J e=>kk _ o e
 let P:List D→Sg→Option ((List D × List D) × Sg):=partD fun d g=>bindK (ev ((x,d)::freeIn sc ro) body g) fun r g=>(truthD r).map (·,g)
 let Inv:Nat→Shared→Prop:=SplInv C K1 kd2 s0 io0 (WW++Z) env2 O F St f P ds pr g2
 refine codeAny_forLoop_any Inv ?_ (ds.length + 1)
   ⟨fo,g,ad,io,0,[],[],pr.1,pr.2,rfl,Nat.zero_le _,by simpa using hpart,rfl,rfl,Nat.zero_le _,Nat.zero_le _,hy,hn,hp2,hst,x3⟩
 rintro k s4 ⟨fo4,g4,ad4,io4,i,Y,N,y',n',hki,hi,hrun,eY,eN,lY,lN,hyl,hnl,hpv,sti,xi⟩
 have wO:∀ w∈WW,w∉O:=fun w hw hm=>xi.disj w hm (by simp [hw])
 by_cases hlt:i < ds.length
 · refine WA.item i _ _ _ hlt sti fun v hp' tkp hPv hstp hkp=>?_
   have tw:Touch wr s4 { s4 with heap:=hp',toks:=tkp }:=⟨⟨hp',tkp,rfl⟩,fun b o e hb=>hkp b o hb e,fun b hb J=>WA.alive _ _ hstp b hb⟩
   have xj:=xi.touch tw (fun w hw=>⟨List.mem_append_left _ (wrW w hw),wO w (wrW w hw),WF w (wrW w hw)⟩) K1r fun w hw=>W0 w (wrW w hw)
   have hd:ds[i]? = some ds[i]:=List.getElem?_eq_getElem hlt
   have hdrop:ds.drop i = ds[i]::ds.drop (i + 1):=List.drop_eq_getElem_cons hlt
   generalize ds[i] = d at hd hdrop
   rw [hdrop] at hrun
   refine ze3a2 (partD_cons hrun) fun b g5 pr' hb hrest hpr=>?_
   refine ze2a (bindK_some hb) fun r g6 hev1 hb=>?_
   refine zea2 (map_pair hb) fun b' hbt e2q e3q=>?_;subst e2q;subst e3q
   have alive4:∀ a∈VV C io4 (O++(F++(WW++Z))),∃ o,s4.heap.get? a = some o:=fun a hm=>by
     simp only [VV,List.mem_append] at hm
     rcases hm with (hm | hm) | hm
     · exact xi.sok.val a hm
     · exact xi.sok.st.alive C a hm
     · exact xi.sok.zal a (by simpa using hm)
   have hdv:Has C (VV C io4 (O++(F++(WW++Z)))) io4 hp' d v:=item_has hPv hd (fun a o e hn=>by
     refine za4 (xj.kept a o ⟨e,hn⟩) fun q1 q2 q3 q4 q5=>?_
     refine ⟨q1,fun hm=>?_⟩
     simp only [VV,List.mem_append] at hm
     rcases hm with (hm | hm) | hm | hm | hm | hm
     · exact q2 hm
     · exact q3 hm
     · exact q4 hm
     · exact q5 hm
     · exact K1W a o ⟨e,hn⟩ hm
     · exact (vv hn).2.2.2.2.2 hm) xj.pref fun a hn hm=>by refine ze (alive4 a hm) fun o e=>?_;rw [hn] at e;injection e
   show wpAny _ A (letOwnedTupleGo (.Name "x" px) (.ref I) v) _ _ _
   refine wpAny_pure ?_
   have nF:∀ b∈F,b∉wr:=fun b hb hm=>WF b (wrW b hm) hb
   have hpv':VarAt kd2 env2 hp' "predicate" (.ref f):=hpv.keep (fun o e=>hkp _ o (nF _ xi.lF) e) fun c o hk hc e=>by
     refine ze2a3 (xi.all _ hk) fun c' J h1 J h4 J=>?_
     rw [hc] at h1;(injection h1 with h1;subst h1)
     exact hkp _ o (nF _ h4) e
   refine wpAny_assign_Name (xj.store' (ev:=.val d) (a:=ad4 "x") hx hdv (fun l hl=>by injection hl) fun s5 x5 kp5 vk5=>?_)
   have hp5:=vk5 _ _ (by decide) hpv'
   have ho5:s5.heap.get? f = some (PySem.W.kla_obj name qual ⟨[],[⟨x,none,an⟩],none,[],[],none,[]⟩ body sc (cloF env.cells sc.names []) pm c' ct):=(x5.kept f _ ⟨ho,hfv⟩).1
   have hcd5:s5.heap.CodeRec (.ref c') qual:=by
     refine ze4a3 hcd fun c2 oc vs2 tq h1 h2 h3 h4=>?_;clear hcd
     injection h1 with h1;subst h1
     exact ⟨c',oc,vs2,tq,rfl,(x5.kept c' _ ⟨h2,hcv⟩).1,h3,h4⟩
   have xx:=setE_lookup (z:=("x":Str)) (v:=EV.val d) ("x":Str) fo4
   rw [if_pos rfl] at xx
   have xy:=(setE_lookup (z:=("x":Str)) (v:=EV.val d) ("yes":Str) fo4).trans (if_neg (by decide))
   have xn:=(setE_lookup (z:=("x":Str)) (v:=EV.val d) ("no":Str) fo4).trans (if_neg (by decide))
   refine wpAny_execs_cons (wpAny_If (noE_mono (pred_ok (q:=p2) (W:=WW) rt ha he kb (hb0.trans C x5.grow) (fun b hb=>by
     simp only [List.mem_append] at hb
     rcases hb with (h | h) | h
     · exact hs0 b (x5.fresh b (List.mem_append_left _ h))
     · exact hs0 b (x5.fresh b (List.mem_append_right _ h))
     · exact hs0 b (W0 b h)) x5 hp5 (by decide) xx (by decide) hsc hco hgen ho5 hcd5 hev hev1 hbt) ?_))
   rintro c6 s6 ⟨rfl,io6,y6,k6⟩
   have x6:=x5.step y6 k6
   have inF:∀ b∈F,b∈O++(F++(WW++Z)):=fun b hb=>List.mem_append_right _ (List.mem_append_left _ hb)
   have keep6:∀ b∈O++(F++(WW++Z)),∀ o,s5.heap.get? b = some o→s6.heap.get? b = some o:=fun b hb o e=>y6.keep b o e (x5.sok.zd b hb).1 (x5.sok.zd b hb).2.1
   have hp6:VarAt kd2 env2 s6.heap "predicate" (.ref f):=hp5.keep (fun o e=>keep6 _ (inF _ x5.lF) o e) fun c o hk hc e=>by
     refine ze2a3 (x5.all _ hk) fun c' J h1 J h4 J=>?_
     rw [hc] at h1;(injection h1 with h1;subst h1)
     exact keep6 _ (inF _ h4) o e
   have last:∀ {z:Str} {l:List D} {s7:Shared} {fo7:Fo} {io7 g7},(setE "x" (.val d) fo4).lookup z = some (.own l)→Frm C K1 kd2 s0 io0 (WW++Z) env2 (fun y=>if y = "x" then ad4 "x" else ad4 y) O F fo7 io7 g7 s7 →
       (∀ b o,b≠(if z = "x" then ad4 "x" else ad4 z)→s6.heap.get? b = some o→s7.heap.get? b = some o)→St (i + 1) s7.heap∧VarAt kd2 env2 s7.heap "predicate" (.ref f):=by
     intro z l s7 fo7 io7 g7 hz x7 k7
     refine zea3 (x6.vals z _ hz) fun vz J J hzO J=>?_
     have offO:∀ b o,b∉O→s6.heap.get? b = some o→s7.heap.get? b = some o:=fun b o hb e=>k7 b o (fun he=>hb (he ▸ hzO)) e
     refine ⟨WA.frame _ _ _ hstp (fun b hb o e=>?_) fun b o e=>?_,hp6.keep (fun o e=>offO _ o (fun hm=>x6.disj _ hm (List.mem_append_left _ x6.lF)) e) fun c o hk hc e=>?_⟩
     · rcases fpW b hb with h | ⟨o',h⟩
       · exact offO b o (wO b h) (keep6 b (by simp [h]) o (kp5 b o (WF b h) e))
       · have e1:=(xj.kept b o' h).1
         have e1':hp'.get? b = some o':=e1
         rw [e] at e1';(injection e1' with e1';subst e1')
         exact (x7.kept b _ h).1
     · by_cases hbF:b∈F
       · exact x7.sok.zal b (inF b hbF)
       · refine ze (y6.alive b o (kp5 b o hbF e)) fun o6 e6=>?_
         by_cases hbO:b∈O
         · exact x7.sok.zal b (List.mem_append_left _ hbO)
         · exact ⟨o6,offO b o6 hbO e6⟩
     · refine ze2a3 (x6.all _ hk) fun c' J h1 J h4 J=>?_
       rw [hc] at h1;(injection h1 with h1;subst h1)
       exact offO _ o (fun hm=>x6.disj _ hm (List.mem_append_left _ h4)) e
   have hx6:∀ {z:Str},∃ vx,VarAt kd2 env2 s6.heap "x" vx∧Has C (VV C io6 (O++(F++(WW++Z)))) io6 s6.heap d vx:=fun {z}=>x6.vals "x" _ xx
   refine zea (x6.vals "x" _ xx) fun vx hvx hdx=>?_
   have nx1:k - 1 < k:=by lia
   induction c6 using Bool.casesOn with
   | true =>
     rw [if_pos rfl]
     simp only [if_true] at hpr
     injection hpr with hpr1 hpr2;subst hpr1;subst hpr2
     refine wpAny_execs_cons (noE_mono (exec_append x6 (d:=d) (xy.trans hyl) (by decide) hl3 rfl (by lia) (Q:=fun fl s'=>fl = .next∧∃ m,m < k∧Inv m s')
       fun a J=>var_ok x6 hvx (by decide) ⟨io6,_,Grow.refl C,x6.sok,hdx,fun s7 x7 k7=>⟨rfl,k - 1,nx1,?_⟩⟩) ?_)
     · have l7:=last (xy.trans hyl) x7 k7
       refine ⟨_,_,_,_,i + 1,Y++[d],N,pr'.1,pr'.2,by lia,by lia,hrest,by rw [← eY];simp,eN,by rw [List.length_append];simp;lia,by lia,?_,?_,l7.2,l7.1,x7⟩
       · rw [setE_lookup,if_pos rfl]
       · rw [setE_lookup,if_neg (by decide)];exact xn.trans hnl
     · rintro fl s8 ⟨rfl,h8⟩
       exact wpAny_execs_nil (wpAny_execs_nil h8)
   | false =>
     rw [if_neg (by decide)]
     simp only [Bool.false_eq_true,if_false] at hpr
     injection hpr with hpr1 hpr2;subst hpr1;subst hpr2
     refine wpAny_execs_cons (noE_mono (exec_append x6 (d:=d) (xn.trans hnl) (by decide) hl4 rfl (by lia) (Q:=fun fl s'=>fl = .next∧∃ m,m < k∧Inv m s')
       fun a J=>var_ok x6 hvx (by decide) ⟨io6,_,Grow.refl C,x6.sok,hdx,fun s7 x7 k7=>⟨rfl,k - 1,nx1,?_⟩⟩) ?_)
     · have l7:=last (xn.trans hnl) x7 k7
       refine ⟨_,_,_,_,i + 1,Y,N++[d],pr'.1,pr'.2,by lia,by lia,hrest,eY,by rw [← eN];simp,by lia,by rw [List.length_append];simp;lia,?_,?_,l7.2,l7.1,x7⟩
       · rw [setE_lookup,if_neg (by decide)];exact xy.trans hyl
       · rw [setE_lookup,if_pos rfl]
     · rintro fl s8 ⟨rfl,h8⟩
       exact wpAny_execs_nil (wpAny_execs_nil h8)
 · have hin:i = ds.length:=by lia
   subst hin
   rw [List.drop_length] at hrun
   injection hrun with hrun;injection hrun with hrun1 hrun2;injection hrun1 with hrun11 hrun12;subst hrun11;subst hrun12;subst g4
   rw [List.append_nil] at eY eN
   subst eY eN
   refine WA.done _ _ _ sti fun hp' tkp hkp=>wpAny_execs_nil ⟨rfl,ad4,fo4,io4,?_,hyl,hnl⟩
   have hZ:∀ w∈WW,w∉Z:=fun w hw hm=>by
     refine ze (kb.zal w hm) fun o e=>?_
     refine ze (hb0.alive w o e) fun o' e'=>?_
     rw [W0 w hw] at e';injection e'
   exact (xi.dropW (h':=hp') (tk:=tkp) (fun b o e hb=>hkp b o (fun hm=>hb (wrW b hm)) e) WF hZ W0 K1W).withK (fun J J h=>h.elim) fun k t e=>by simp at e
end
end Mine
end
section
set_option tactic.hygienic false
open PySem PySem.W
set_option maxRecDepth 100000
namespace Mine
theorem codeAmong_add {pos pos':Pos} {c:Value} (l:List Value) (h:TriplesOk l):codeAmong pos (l++[rawInt pos'.line,rawInt pos'.col,c]) = match codeAmong pos l with | some x=>some x | none=>if pos'.line==pos.line&&pos'.col==pos.col then some c else none:=by
 fun_induction TriplesOk l with
 | case1 =>
   simp only [List.nil_append,codeAmong,rawInt]
   have e1:((pos'.line:Int)==(pos.line:Int)) = (pos'.line==pos.line):=by rw [Bool.eq_iff_iff];simp;lia
   have e2:((pos'.col:Int)==(pos.col:Int)) = (pos'.col==pos.col):=by rw [Bool.eq_iff_iff];simp;lia
   rw [e1,e2]
 | case2 a t b u x rest ih =>
   simp only [List.cons_append,codeAmong]
   split
   · rfl
   · exact ih h
 | case3 l h1 h2=>exact h.elim
noncomputable def VtOk (spc:List (Addr × Addr × Str)) (V:List Addr) (h:Heap):Prop:=∀ c P q,(c,P,q)∈spc→∃ ps,h.get? P = some (tabObj ps)∧TriplesOk ps.toList ∧
 ∀ pos,codeAmong pos ps.toList = none∨∃ c',codeAmong pos ps.toList = some (.ref c')∧h.CodeRec (.ref c') (q++"<lambda>")∧c'∉V
theorem VtOk.keep {spc:List (Addr × Addr × Str)} {vt:List Addr} (hv:∀ c P q,(c,P,q)∈spc→P∈vt):∀ (V V':List Addr) (h h':Heap),VtOk spc V h→(∀ b∈vt,∀ o,h.get? b = some o→h'.get? b = some o) →
   (∀ a o vs,h.get? a = some o→o.data = .fields vs→a∉V→h'.get? a = some o∧a∉V')→VtOk spc V' h':=by
 intro V V' h h' x k1 k2 c P q hm
 refine zea2 (x c P q hm) fun ps h1 h2 h3=>?_
 refine ⟨ps,k1 _ (hv c P q hm) _ h1,h2,fun pos=>?_⟩
 rcases h3 pos with h | ⟨c',e,⟨c2,o,vs,t,ec,eo,ed,ev⟩,hn⟩
 · exact .inl h
 · injection ec with ec;subst ec
   refine za (k2 c' o vs eo ed hn) fun q1 q2=>?_
   exact .inr ⟨c',e,⟨c',o,vs,t,rfl,q1,ed,ev⟩,q2⟩
noncomputable def splBody (pa pb pc pd pe pg px ps p1 q1 p2 py q3 p3 pn q4 p4 pi pf pxa pxb pxc se1 se2 r1 r2 r3 r4:Pos) (k:Nat):List Stmt :=
 [.Assign [.Name "yes" pa] (.List [] pb) pc,.Assign [.Name "no" pd] (.List [] pe) pg,splLoop px ps p1 q1 p2 py q3 p3 pn q4 p4 pi pf pxa pxb pxc se1 se2,.Return (some (.Tuple [.Name "yes" r1,.Name "no" r2] k r3)) r4]
variable {C:Cst}
inductive SplGlo (C:Cst):Prop
 | mk (a:Addr) (fd:FuncData) (pa:Pos) (pb:Pos) (pc:Pos) (pd:Pos) (pe:Pos) (pg:Pos) (px:Pos) (ps:Pos) (p1:Pos) (q1:Pos) (p2:Pos) (py:Pos) (q3:Pos) (p3:Pos) (pn:Pos) (q4:Pos) (p4:Pos) (pi:Pos) (pf:Pos) (pxa:Pos) (pxb:Pos) (pxc:Pos) (se1:Pos) (se2:Pos) (r1:Pos) (r2:Pos) (r3:Pos) (r4:Pos) (k:Nat)
   (e1:C.mg "_split_list" = some (.ref a)) (e2:FnAt C a fd (splBody pa pb pc pd pe pg px ps p1 q1 p2 py q3 p3 pn q4 p4 pi pf pxa pxb pxc se1 se2 r1 r2 r3 r4 k)) (e3:(q3.endLine==p3.line) = true) (e4:(q4.endLine==p4.line) = true) (e5:(∀ v w,bindArgs fd ⟨[v,w],[]⟩ = pure [(("s":Str),v),(("predicate":Str),w)])) (e6:(∀ y∈fd.scope.names,y.2≠.cell)) (e7:(∀ y∈(["s","predicate","yes","no","x"]:List Str),fd.scope.names.lookup y = some .local)) (e8:fd.scope.names.lookup ("_split_list":Str)≠some .globalImplicit)
structure SpOk (C:Cst):Prop where
 vt:∀ V h,C.vtOk V h↔VtOk C.spc V h
 vm:∀ c P q,(c,P,q)∈C.spc→P∈C.vt
 vs:∀ P∈C.vt,∃ c q,(c,P,q)∈C.spc
 inj:∀ t∈C.spc,∀ u∈C.spc,t.2.1 = u.2.1→t = u
 hd:∀ c P q,(c,P,q)∈C.spc→CodeHd C.H c P
 bm:∃ bm ob,C.mg "__builtins__" = some (.ref bm)∧bm≠builtinsNs∧bm≠mainGlobals∧C.H.get? bm = some ob∧ob.cls = .type "module"∧ob.dict = some builtinsNs∧ob.data = .plain
 glo:SplGlo C
theorem frz_own {x:Str} {l:List D}:∀ {fo:Fo},fo.lookup x = some (.own l)→(frz fo).lookup x = some (.lst l)
 | [],h=>by injection h
 | (y,.val e)::r,h=>by
   simp only [frz]
   by_cases hb:(x==y) = true
   · simp only [List.lookup,hb,Option.some.injEq] at h;injection h
   · have hb':(x==y) = false:=by simpa using hb
     simp only [List.lookup,hb'] at h ⊢
     exact frz_own h
 | (y,.own e)::r,h=>by
   simp only [frz]
   by_cases hb:(x==y) = true
   · simp only [List.lookup,hb,Option.some.injEq] at h ⊢;(injection h with h;subst e);rfl
   · have hb':(x==y) = false:=by simpa using hb
     simp only [List.lookup,hb'] at h ⊢
     exact frz_own h
section
variable {kd:Kd} {s s1:Shared} {io io1:HI} {Z W:List Addr} {env:Env} {g g1 g2:Sg} {A:Around} {lv:Nat} {ro:Ro}
theorem split_call {name qual:Str} {x:Str} {an:Pos} {body:Expr} {sc:Scope} {pm ct:Value} {a c' f:Addr} {fd:FuncData} {ev:Ro→Expr→Sg→Option (D × Sg)} {ds:List D} {pr:List D × List D} {v:Value}
   {pa pb pc pd pe pg px ps p1 q1 p2 py q3 p3 pn q4 p4 pi pf pxa pxb pxc se1 se2 r1 r2 r3 r4:Pos} {kk:Nat}
   (fn:FnAt C a fd (splBody pa pb pc pd pe pg px ps p1 q1 p2 py q3 p3 pn q4 p4 pi pf pxa pxb pxc se1 se2 r1 r2 r3 r4 kk)) (hl3:(q3.endLine==p3.line) = true) (hl4:(q4.endLine==p4.line) = true)
   (hb:∀ v w,bindArgs fd ⟨[v,w],[]⟩ = pure [(("s":Str),v),(("predicate":Str),w)]) (hcell:∀ y∈fd.scope.names,y.2≠.cell) (hnm:∀ y∈(["s","predicate","yes","no","x"]:List Str),fd.scope.names.lookup y = some .local)
   (hns:fd.scope.names.lookup ("_split_list":Str)≠some .globalImplicit)
   (rt:RootOk C) (ha:AOk A (lv + 2)) (he:EnvOk C kd Z io env ro s.heap) (kb:Sok C Z io g s) (x1:Grow C io io1 s s1) (k1:Sok C (W++Z) io1 g1 s1) (hW:∀ w∈W,s.heap.get? w = none) (hspl:SplV C W (W++Z) io1 ds v s1)
   (hsc:scopeOk sc kd x = true) (hco:sc.isCoroutine = false) (hgen:sc.isGenerator = false)
   (ho:s1.heap.get? f = some (PySem.W.kla_obj name qual ⟨[],[⟨x,none,an⟩],none,[],[],none,[]⟩ body sc (cloF env.cells sc.names []) pm c' ct)) (hcd:s1.heap.CodeRec (.ref c') qual)
   (hfv:f∉VV C io1 (W++Z)) (hcv:c'∉VV C io1 (W++Z)) (hev:∀ ro,EvSound C lv (fun y=>sc.names.lookup y) ro (ev ro))
   (hpart:partD (fun d g=>bindK (ev ((x,d)::freeIn sc ro) body g) fun r g=>(truthD r).map (·,g)) ds g1 = some (pr,g2)) :
   wpAny (model C.prog C.w) A (call (.ref a) [v,.ref f]) (Post C Z io s (.tup [.lst pr.1,.lst pr.2]) g2) noE s1:=by
 refine zea fn.get fun o hoa hd=>?_
 refine wpAny_call (codeAny_call_function (by have:=ha.dp;show A.depth < 1000;lia) (k1.base _ _ hoa) hd fn.co fn.gen fn.body (fn.cd.keeps k1.base) ?_)
 rw [hb,fn.clo]
 have hs:=hnm "s" (by decide)
 have hp:=hnm "predicate" (by decide)
 refine wpAny_pure (wpAny_newFunctionEnv hcell (fun y hy=>by
   simp only [List.mem_cons,List.not_mem_nil,or_false] at hy
   rcases hy with rfl | rfl
   · exact hs
   · exact hp) (fun h₁ hns1 hsb=>⟨?_,codeAny_func ?_⟩) fn.kind)
 · exact (rt.nolimit.keeps k1.base).keeps fun b o e=>hsb.extBut b o (Nat.ne_of_lt (Heap.lt_size e)) (Heap.get?_push_of_some _ e)
 · let L:=s1.heap.objs.size
   let s2:Shared:={ s1 with heap:=h₁,toks:=s1.toks + 2 }
   let env2:Env:=newEnv fd.scope L fd.globals [] (fd.qualname++".<locals>.") (some a) fd.code none fd.builtins
   have hkk:∀ b o,s1.heap.get? b = some o→h₁.get? b = some o:=fun b o e=>hsb.extBut b o (Nat.ne_of_lt (Heap.lt_size e)) (Heap.get?_push_of_some _ e)
   have kp:Keeps s1 s2:=⟨h₁,s1.toks + 2,rfl,hkk⟩
   have hLn:s1.heap.get? L = none:=get?_size_none _
   have hLa:∃ o,h₁.get? L = some o:=by refine ze3a hns1 fun o J J e J=>?_;clear hns1;exact ⟨o,e⟩
   have x2:=x1.trans C (Keeps.grow C kp)
   have hL0:s.heap.get? L = none:=by
     induction e:s.heap.get? L using Option.casesOn with
     | none=>rfl
     | some o=>refine ze (x1.alive _ o e) fun o' e'=>?_;rw [hLn] at e';injection e'
   have kof:∀ y,env2.kindOf y = fd.scope.names.lookup y:=fun y=>rfl
   have vsA:VarAt (fun y=>fd.scope.names.lookup y) env2 s2.heap "s" v:=.inl ⟨hs,_,hns1,by simp only [List.reverse_cons,List.reverse_nil,List.nil_append,List.cons_append,List.lookup,show (("s":Str)==("predicate":Str)) = false by decide,beq_self_eq_true]⟩
   have vp2:VarAt (fun y=>fd.scope.names.lookup y) env2 s2.heap "predicate" (.ref f):=.inl ⟨hp,_,hns1,by simp [List.lookup]⟩
   have nocell:∀ y,fd.scope.names.lookup y≠some .cell:=fun y hy=>hcell _ (PySem.mem_of_lookup hy) rfl
   have xf:Frm C ⟨fun J J=>False,[]⟩ (fun y=>fd.scope.names.lookup y) s io (W++Z) env2 (fun J=>0) [] [L] [] io1 g1 s2:={
     grow:=x2
     fresh:=fun c hc=>by simp only [List.nil_append,List.mem_singleton] at hc;subst hc;exact hL0
     sok:=Sok.more k1 hLn kp hLa
     kdo:=kof
     fn:=fn.kind
     bk:=by simp [env2,Env.blockKind,newEnv,fn.kind]
     gl:=fn.gl
     bi:=fn.bi
     cd:=fun h=>absurd h hns
     lF:=.head _
     ns:=⟨_,hns1⟩
     all:=fun y hy=>absurd hy (nocell y)
     inj:=fun y z c hy J J J=>absurd hy (nocell y)
     nofree:=fun y hy=>fn.nofree _ (PySem.mem_of_lookup hy) rfl
     vals:=fun y ev hy=>by injection hy
     olist:=fun a ha=>by cases ha
     disj:=fun a ha=>by cases ha
     apart:=fun y z m m' J h1 J=>by injection h1
     nd:=by simp
     kept:=fun b o hb=>hb.elim
     pref:=fun k t e=>by simp at e }
   have can:∀ y∈(["s","predicate","yes","no","x"]:List Str),canSet (fun y=>fd.scope.names.lookup y) y = true:=fun y hy=>by unfold canSet;simp only [hnm y hy];rfl
   have ha2:AOk (A.deeper env2) (lv + 1):=⟨ha.hh,by have:=ha.dp;show A.depth + 1 + (lv + 1)≤900;lia,by have:=ha.un;show A.units + 3 + 8 * (lv + 1)≤9000;lia⟩
   have main:wpAny (model C.prog C.w) (A.deeper env2) (execs (splBody pa pb pc pd pe pg px ps p1 q1 p2 py q3 p3 pn q4 p4 pi pf pxa pxb pxc se1 se2 r1 r2 r3 r4 kk) env2) (fun fl s'=>∃ v,fl = .ret v∧Post C Z io s (.tup [.lst pr.1,.lst pr.2]) g2 v s') noE s2:=?_
   · refine noE_mono main ?_
     rintro fl s3 ⟨v,rfl,h3⟩
     exact h3
   refine wpAny_execs_cons (exec_newlist (A:=A.deeper env2) xf (can "yes" (by decide)) fun ad3 a3 s3 n3 xf3 k3 v3=>?_)
   refine wpAny_execs_cons (exec_newlist (A:=A.deeper env2) xf3 (can "no" (by decide)) fun ad4 a4 s4 n4 xf4 k4 v4=>?_)
   have hkk4:∀ b o,s1.heap.get? b = some o→s4.heap.get? b = some o:=fun b o e=>by
     have hb:b∉[L]:=fun hm=>by simp only [List.mem_singleton] at hm;subst hm;rw [hLn] at e;injection e
     exact k4 b o hb (k3 b o hb (hkk b o e))
   have kp4:Keeps s1 s4:=by
     refine ze2 xf4.grow.same fun h4 t4 e4=>?_
     refine ze2 x1.same fun h1' t1 e1=>?_
     exact ⟨s4.heap,s4.toks,by rw [e4,e1],hkk4⟩
   have fr4:∀ b∈[a4,a3]++[L],s1.heap.get? b = none:=fun b hb=>by
     induction e:s1.heap.get? b using Option.casesOn with
     | none=>rfl
     | some o =>
       have hbL:b∉[L]:=fun hm=>by simp only [List.mem_singleton] at hm;subst hm;rw [hLn] at e;injection e
       simp only [List.mem_append,List.mem_cons,List.not_mem_nil,or_false] at hb
       rcases hb with (rfl | rfl) | rfl
       · have:=k3 _ o hbL (hkk _ o e);rw [n4] at this;injection this
       · have:=hkk _ o e;have n3':h₁.get? b = none:=n3;rw [n3'] at this;injection this
       · rw [hLn] at e;injection e
   have W1:∀ w∈W,∃ o,s1.heap.get? w = some o:=fun w hw=>k1.zal w (List.mem_append_left _ hw)
   have up:∀ {b:Addr} {o:Obj},s1.heap.get? b = some o→b∉VV C io1 (W++Z)→b∉VV C io1 ([a4,a3]++([L]++(W++Z))):=fun {b o} e hv hm=>by
     rw [← List.append_assoc] at hm
     rcases vv_split hm with hm | hm
     · exact hv hm
     · rw [fr4 b hm] at e;injection e
   have hsp4:SplV C W ([a4,a3]++([L]++(W++Z))) io1 ds v s4:=by
     rw [← List.append_assoc]
     exact hspl.up (Keeps.grow C kp4) (fun b hb=>List.mem_append_left _ hb) k1 fr4
   refine ze4a3 (id hcd) fun c2 oc vs2 tq ec hoc hdc hqc=>?_
   injection ec with ec;subst ec
   have hWL:∀ w∈W,w∉[L]:=fun w hw hm=>by
     refine ze (W1 w hw) fun o e=>?_
     simp only [List.mem_singleton] at hm;subst hm;rw [hLn] at e;injection e
   refine wpAny_execs_cons (noE_mono (splLoop_ok (A:=A.deeper env2) rt ha2 he kb (Grow.refl C) hsc hco hgen (hkk4 _ _ ho) (hcd.keeps hkk4) (up ho hfv) (up hoc hcv) hev xf4 hW hWL (fun b e=>e)
     (v4 _ _ (by decide) (v3 _ _ (by decide) vsA)) (v4 _ _ (by decide) (v3 _ _ (by decide) vp2)) ((setE_lookup _ _).trans (if_neg (by decide))) ((setE_lookup _ _).trans (if_pos rfl)) (can "x" (by decide)) hsp4 hl3 hl4 hpart) ?_)
   rintro fl s5 ⟨rfl,ad5,fo5,io5,xf5,hy5,hn5⟩
   refine zea (xf5.frzVal (frz_own hy5)) fun vy hvy hdy=>?_
   refine zea (xf5.frzVal (frz_own hn5)) fun vn hvn hdn=>?_
   refine wpAny_execs_cons (wpAny_Return_some (PyProof.Rows.Tuple_ (wpAny_items_cons (var_ok xf5 hvy (by decide) (wpAny_items_cons (var_ok xf5 hvn (by decide) (wpAny_items_nil ?_)))))))
   have hh:HasL C (VV C io5 ([L]++Z)) io5 s5.heap [.lst pr.1,.lst pr.2] [vy,vn]:=by
     exact ⟨vy,_,rfl,hdy,vn,_,rfl,hdn,rfl⟩
   have z:=has_newTuple xf5.lessSok (tk:=s5.toks) (n:=0) (by show 2≤1000000;decide) hh
   have kz:=Keeps.sok C z.1 xf5.lessSok
   exact wpAny_newObj_type ⟨_,rfl,io5,xf5.grow.trans C (Keeps.grow C z.1),kz.less C fun b hb=>List.mem_append_right _ hb,Has.less C z.2 fun b hb=>List.mem_append_right _ hb⟩ (by show 2≤sizeLine;rw [sizeLine_eq];decide)
end
end Mine
end
section
set_option tactic.hygienic false
open PySem PySem.W
set_option maxRecDepth 100000
namespace Mine
variable {C:Cst}
section
variable {kd:Kd} {s s1:Shared} {io io1:HI} {Z W:List Addr} {env:Env} {g g1 g2:Sg} {A:Around} {lv:Nat} {ro:Ro} {T:Tbl}
theorem vv_alive (k:Sok C Z io g s):∀ a∈VV C io Z,∃ o,s.heap.get? a = some o:=fun a hm=>by
 simp only [VV,List.mem_append] at hm
 rcases hm with (hm | hm) | hm
 · exact k.val a hm
 · exact k.st.alive C a hm
 · exact k.zal a hm
theorem Sok.table (rt:RootOk C) (k:Sok C Z io g s) {P:Addr} {ps:Array Value} (hPm:P∈C.vt) (hP:s.heap.get? P = some (tabObj ps)) {h':Heap} {tk:Tok} (hk:∀ b o,b≠P→s.heap.get? b = some o→h'.get? b = some o)
   (hP':∃ o,h'.get? P = some o) (hv:C.vtOk (VV C io Z) h'):Sok C Z io g { s with heap:=h',toks:=tk }∧Grow C io io s { s with heap:=h',toks:=tk }:=by
 have nH:∀ b o,C.H.get? b = some o→b≠P:=fun b o e he=>by rw [he,rt.vtH P hPm] at e;injection e
 have nV:∀ b,b∉VV C io Z→b≠P:=fun b hb he=>hb (by rw [he];simp [VV,hPm])
 refine ⟨⟨fun a o e=>hk a o (nH a o e) (k.base a o e),⟨k.st.len,fun i t ps' h1 h2=>?_,k.st.nodup,k.st.below,hv⟩,fun z hz=>?_,k.zd,fun z hz=>?_⟩,⟨⟨h',tk,rfl⟩,fun b o e hb J=>hk b o (fun he=>hb (he ▸ hPm)) e,fun b o e=>?_,fun J J e=>e,fun J h=>.inl h⟩⟩
 · have HH:=k.st.at' i t ps' h1 h2
   refine ze3 HH.dict fun hs tk' n hd=>?_
   refine zea HH.list fun vs e1q hh=>?_;obtain ⟨n2,hl⟩:=e1q
   refine ⟨hk _ _ (fun he=>?_) HH.inst,⟨hs,tk',n,hk _ _ (fun he=>?_) hd⟩,⟨vs,⟨n2,hk _ _ (fun he=>?_) hl⟩,HasL.mono C (fun a o e ha=>⟨hk a o (nV a ha) e,ha⟩) (fun J J e=>e) hh⟩,HH.len⟩
   · have:=HH.inst;rw [he,hP] at this;(injection this with this;injection this with this1 this2 this3 this4;injection this1)
   · rw [he,hP] at hd;(injection hd with hd;injection hd with hd1 hd2 hd3 hd4;injection hd1)
   · rw [he,hP] at hl;(injection hl with hl;injection hl with hl1 hl2 hl3 hl4;injection hl1)
 · obtain ⟨o,e⟩:=k.zal z hz
   exact ⟨o,hk z o (fun he=>(k.zd z hz).1 (he ▸ hPm)) e⟩
 · by_cases he:z = P
   · rw [he];exact hP'
   · obtain ⟨o,e⟩:=k.val z hz
     exact ⟨o,hk z o he e⟩
 · by_cases he:b = P
   · rw [he];exact hP'
   · exact ⟨o,hk b o he e⟩
theorem lam_made (sp:SpOk C) (rt:RootOk C) (hgl:env.globals = mainGlobals) {c P:Addr} (hspc:(c,P,env.qual)∈C.spc) (hcode:env.code = .ref c) (k:Sok C Z io g s) {x:Str} {an lp:Pos} {body:Expr} {sc:Scope}
   (hcl:∀ p∈sc.names,p.2 = .free→∃ c,env.cells.lookup p.1 = some c) {Q:Value→Shared→Prop}
   (hq:∀ f s' c' ct,Grow C io io s s'→Sok C Z io g s'→s'.heap.get? f = some (kla_obj "<lambda>" (env.qual++"<lambda>") ⟨[],[⟨x,none,an⟩],none,[],[],none,[]⟩ body sc (cloF env.cells sc.names []) ((C.mg "__name__").getD .none) c' ct) →
     s'.heap.CodeRec (.ref c') (env.qual++"<lambda>")→f∉VV C io Z→c'∉VV C io Z→Q (.ref f) s') :
   wpAny (model C.prog C.w) A (eval (.Lambda ⟨[],[⟨x,none,an⟩],none,[],[],none,[]⟩ body sc lp) env) Q noE s:=by
 have vt:=(sp.vt _ _).mp k.st.vt
 refine zea2 (vt c P _ hspc) fun ps hP ht hca=>?_
 have hPm:=sp.vm c P _ hspc
 have hPH:=rt.vtH P hPm
 obtain ⟨bm,ob,b1,b2,b3,b4,b5,b6,b7⟩:=sp.bm
 have hbP:bm≠P:=fun he=>by rw [he,hPH] at b4;injection b4
 have hgP:mainGlobals≠P:=fun he=>by
   refine ze3a rt.g fun o es ep e J=>?_
   rw [he,hPH] at e;injection e
 have hcd:=(sp.hd c P _ hspc).keeps k.base
 have hg:=rt.g.keeps k.base
 have hb:s.heap.BuiltinsAt C.mg P:=⟨bm,ob,b1,b2,b3,hbP,k.base _ _ b4,b5,b6,b7⟩
 have clo:closureFor sc env = pure (cloF env.cells sc.names []):=closureFor_ok hcl
 have old:∀ a∈VV C io Z,a < s.heap.objs.size:=fun a ha=>by refine ze (vv_alive k a ha) fun o e=>?_;exact Heap.lt_size e
 refine kla_eval rfl ?_
 rcases hca lp with hnf | ⟨c',hf,hrec,hc'⟩
 · refine kla_makeFunction (mg:=C.mg) clo hgl hg hcode hcd hP ht hnf hgP hb fun c' ctv h' tk hx hge hlt hrec htb=>?_
   have hk:∀ b o,b≠P→s.heap.get? b = some o→(h'.push (kla_obj "<lambda>" (env.qual++"<lambda>") ⟨[],[⟨x,none,an⟩],none,[],[],none,[]⟩ body sc (cloF env.cells sc.names []) ((C.mg "__name__").getD .none) c' ctv)).get? b = some o:=fun b o hb e=>Heap.get?_push_of_some _ (hx b o hb e)
   have hcv:c'∉VV C io Z:=fun hm=>Nat.lt_irrefl _ (Nat.lt_of_lt_of_le (old c' hm) hge)
   have hfv:h'.objs.size∉VV C io Z:=fun hm=>Nat.lt_irrefl _ (Nat.lt_trans (Nat.lt_of_lt_of_le (old _ hm) hge) hlt)
   have nV:∀ b,b∉VV C io Z→b≠P:=fun b hb he=>hb (by rw [he];simp [VV,hPm])
   refine za (Sok.table (tk:=tk) rt k hPm hP hk ⟨_,Heap.get?_push_of_some _ htb⟩ ((sp.vt _ _).mpr fun c2 P2 q2 hm=>by
     by_cases he:P2 = P
     · subst he
       have:=sp.inj _ hm _ hspc rfl
       injection this with this1 this2;subst c2;injection this2 with this21 this22;clear this21;subst this22
       refine ⟨_,Heap.get?_push_of_some _ htb,?_,fun pos=>?_⟩
       · rw [Array.toList_append];exact TriplesOk_snoc _ _ _ _ ht
       · rw [Array.toList_append]
         have:=codeAmong_add (pos:=pos) (pos':=lp) (c:=.ref c') ps.toList ht
         show codeAmong pos (ps.toList++[rawInt lp.line,rawInt lp.col,.ref c']) = none∨∃ c'_1,codeAmong pos (ps.toList++[rawInt lp.line,rawInt lp.col,.ref c']) = _∧_
         rw [this]
         rcases hca pos with e | ⟨c3,e,h3,h4⟩
         · rw [e]
           by_cases hpp:(lp.line==pos.line&&lp.col==pos.col) = true
           · rw [if_pos hpp];exact .inr ⟨c',rfl,hrec.push _,hcv⟩
           · rw [if_neg hpp];exact .inl rfl
         · rw [e]
           obtain ⟨c4,o,vs,t,ec,eo,ed,ev⟩:=h3
           injection ec with ec;subst ec
           exact .inr ⟨c3,rfl,⟨c3,o,vs,t,rfl,hk _ _ (nV _ h4) eo,ed,ev⟩,h4⟩
     · obtain ⟨ps2,e1,e2,e3⟩:=vt c2 P2 q2 hm
       refine ⟨ps2,hk _ _ he e1,e2,fun pos=>?_⟩
       rcases e3 pos with e | ⟨c3,e,⟨c4,o,vs,t,ec,eo,ed,ev⟩,h4⟩
       · exact .inl e
       · injection ec with ec;subst ec
         exact .inr ⟨c3,e,⟨c3,o,vs,t,rfl,hk _ _ (nV _ h4) eo,ed,ev⟩,h4⟩)) fun q1 q2=>?_
   exact hq _ _ c' ctv q2 q1 (Heap.get?_push_size _ rfl) (hrec.push _) hfv hcv
 · refine kla_makeFunctionHit (mg:=C.mg) clo hgl hg hcode hcd hP ht hf hb fun ctv h' tk hk hsz=>?_
   have kp:Keeps s { s with heap:=h'.push { cls:=.type "function",data:=.func (kla_fn "<lambda>" (env.qual++"<lambda>") ⟨[],[⟨x,none,an⟩],none,[],[],none,[]⟩ body sc (cloF env.cells sc.names []) ((C.mg "__name__").getD .none) (.ref c') ctv) },toks:=tk }:=⟨_,_,rfl,fun b o e=>Heap.get?_push_of_some _ (hk b o e)⟩
   exact hq _ _ c' ctv (Keeps.grow C kp) (Keeps.sok C kp k) (Heap.get?_push_size _ rfl) ((hrec.keeps hk).push _) (fun hm=>Nat.lt_irrefl _ (Nat.lt_of_lt_of_le (old _ hm) hsz)) hc'
theorem spl_ok (sp:SpOk C) (rt:RootOk C):SplH C T:=by
 intro lv ev hev kd ro src body x an sc lp q p g g1 g2 ds pr hkd hsc hpl hsrc hpart A env Z io s ha he hk
 obtain ⟨a,fd,pa,pb,pc,pd,pe,pg,px,ps,p1,q1,p2,py,q3,p3,pn,q4,p4,pi,pf,pxa,pxb,pxc,se1,se2,r1,r2,r3,r4,kk,hmg,fn,hl3,hl4,hb,hcell,hnm,hns⟩:=sp.glo
 refine zea fn.get fun o hoa hd=>?_
 refine za (scope_gen hsc) fun hco hgen=>?_
 refine za4 (comp_env hsc) fun e1 e2 e3 e4 e5=>?_
 refine ze3a2 (he.cd hkd) fun c P q' hspc hcode hqual=>?_
 subst hqual
 refine PyProof.Rows.Call_ (global_ok rt he hk hkd hmg (by decide) ?_) rfl
 refine Calls.callWith_function (o:=o) (fd:=fd) (evalArgs_of hpl (wpAny_items_cons (noE_mono (hsrc A env Z io s ha he hk) fun v s1 ⟨io1,W,x1,k1,hW,hspl⟩=>?_) (starEach_plain (plain_ne hpl))))
 refine wpAny_items_cons (lam_made sp rt he.gl hspc hcode k1 (fun y hy hf=>?_) fun f s2 c' ct x2 k2 ho hcd hfv hcv=>wpAny_items_nil ⟨⟨k2.base _ _ hoa,hd⟩,?_⟩) (starEach_plain fun J J=>nofun)
 · refine ze2a (he.all y.1 (e4 y hy hf)) fun c J h1 J=>?_
   exact ⟨c,h1⟩
 · have hspl2:SplV C W ([]++(W++Z)) io1 ds v s2:=hspl.up x2 (fun b hb=>List.mem_append_left _ hb) k1 (by simp)
   exact split_call fn hl3 hl4 hb hcell hnm hns rt ha he hk (x1.trans C x2) k2 hW (by simpa using hspl2) hsc hco hgen ho hcd hfv hcv (hev _) hpart
end
end Mine
end
section
set_option tactic.hygienic false
open PySem PySem.W
set_option maxRecDepth 100000
namespace Mine
variable {C:Cst}
structure HdrCls (C:Cst) (K:Frag):Prop where
 X:K.In C.H
 pg:plainGet K C.cls "x" = true
 hh:hasDictIn K C.cls = true
 own:findIn K (.ref C.cls) "_headers" = some none
 sq:noSeq K C.cls = true
theorem isStr_same (n:Str) (tk:Tok):(Value.str n tk).isStr n = true:=by show (n==n) = true;exact beq_self_eq_true n
theorem isStr_other {n m:Str} {tk:Tok} (h:n≠m):(Value.str n tk).isStr m = false:=by show (n==m) = false;simpa using h
theorem inst_at {h:Heap} {x dx l:Addr} (hs:HdrShape C h x dx l):∃ e n,e.key.isStr ("_headers":Str) = true∧e.val = .ref l∧InstAt h x (instObj C.cls dx) C.cls (some (dictOf [e] n))∧∃ tk,e.key = .str ("_headers":Str) tk:=by
 refine zae3 hs fun h1 hsh tk n h2=>?_;clear hs
 exact ⟨_,n,isStr_same _ _,rfl,⟨h1,rfl,rfl,h2⟩,tk,rfl⟩
section
variable {K:Frag} {A:Around} {E:Value→Shared→Prop} {s:Shared} {x dx l:Addr}
theorem own_get (k:HdrCls C K) (hb:∀ b o,C.H.get? b = some o→s.heap.get? b = some o) (hs:HdrShape C s.heap x dx l) {expr:Bool} {Q:Value→Shared→Prop} (h:Q (.ref l) { s with toks:=s.toks + 1 }) :
   wpAny (model C.prog C.w) A (getAttr (.ref x) "_headers" expr) Q E s:=by
 refine zae3 hs fun h1 hsh tk n h2=>?_;clear hs
 have I:InstAt s.heap x (instObj C.cls dx) C.cls (some (dictOf [⟨hsh,.str ("_headers":Str) tk,.ref l⟩] n)):=⟨h1,rfl,rfl,h2⟩
 exact get_value (k.X.keeps hb) I (plainGet_of k.pg).1 (findObj_own k.hh k.own rfl (by rw [lookIn_dict];simp [getL,isStr_same])) rfl h
theorem meth_get (k:HdrCls C K) (hb:∀ b o,C.H.get? b = some o→s.heap.get? b = some o) (hs:HdrShape C s.heap x dx l) {m:Str} {a:Addr} (hf:findIn K (.ref C.cls) m = some (some (.ref a))) (ht:isFn K (.ref a) = true) (hne:m≠("_headers":Str))
   {pl:Sem Bool} {Q:Value × List Value→Shared→Prop} (h:Q (.ref a,[.ref x]) s):wpAny (model C.prog C.w) A (getMethod (.ref x) m pl) Q E s:=by
 refine zae3 hs fun h1 hsh tk n h2=>?_;clear hs
 have I:InstAt s.heap x (instObj C.cls dx) C.cls (some (dictOf [⟨hsh,.str ("_headers":Str) tk,.ref l⟩] n)):=⟨h1,rfl,rfl,h2⟩
 refine method_fn (k.X.keeps hb) I (plainGet_of k.pg).1 (plainGet_of k.pg).2 hf (beq_iff_eq.mp ht) ?_ h
 show (lookIn m (dictOf _ n)).map _ = _
 rw [lookIn_dict]
 simp [getL,isStr_other (tk:=tk) (Ne.symm hne),DictEntry.refKey]
theorem meth_ok (k:HdrCls C K) {m:Str} {a:Addr} (hf:findIn K (.ref C.cls) m = some (some (.ref a))) (ht:isFn K (.ref a) = true) (hn:fnIn K a = true) (hne:m≠("_headers":Str)):MethOk C m a where
 get:=fun A E s x dx l hb hs pl Q h=>meth_get k hb hs hf ht hne h
 sub:=fun hm A E s x dx l hb hs value slice i Q h1 h2 h=>by
   subst hm
   refine ze2a3 (inst_at hs) fun e n J J I J=>?_
   have X:=k.X.keeps hb
   unfold fnIn at hn
   induction e:K.lookup a using Option.casesOn with
   | none=>rw [e] at hn;injection hn
   | some o =>
     rw [e] at hn
     obtain ⟨c0,d0,dt,w0⟩:=o
     induction dt using Data.casesOn<;>first | exact Bool.noConfusion (show false = true from hn) | skip
     unfold PyProof.Rows.subscriptTail getitemInPython
     refine wpAny_bind (wpAny_bind (wpAny_bind (I.type.here ((looks_findIn X hf).here ?_))))
     dsimp only
     refine wpAny_bind (wpAny_load (X _ _ e) (wpAny_pure ?_))
     dsimp only
     have hsl:subscripted slice true (.ref x) i = runValue (.builtin "lifetime.subscript" ⟨[.ref x,i],[]⟩):=by
       induction slice using Expr.casesOn<;>first | rfl | exact absurd rfl (h2 _ _ _ _)
     rw [hsl]
     refine wpAny_bind (wpAny_runValue (codeAny_builtin entry_sub ?_))
     unfold Builtin.«lifetime.subscript»
     refine wpAny_bind (special_fn X I hf (beq_iff_eq.mp ht) (wpAny_mono h (fun v s' z=>?_) fun J J z=>z))
     refine wpAny_pure ?_
     show wpAny _ A (letTemporaryGo value (.ref x) v >>= fun J=>pure v) Q E s'
     exact wpAny_bind (wpAny_letTemporaryGo (wpAny_pure z))
 len:=fun hm A E s x dx l hb hs Q h=>by
   subst hm
   refine ze2a3 (inst_at hs) fun e n J J I J=>?_
   have X:=k.X.keeps hb
   refine Calls.call_function_entry kind_len plain_len entry_len (args_len1 _) ?_
   unfold Builtin.«len»
   refine wpAny_bind (m:=oneArg "len" _) (wpAny_pure ?_)
   refine wpAny_bind (m:=callSpecial? (.ref x) (Str.ofString "__len__")) (special_fn X I hf (beq_iff_eq.mp ht) (wpAny_mono h (fun r s' hr=>?_) fun J J y=>y))
   refine ze2a3 hr fun n u e2q h0 h1 hq=>?_;clear hr;subst e2q
   refine wpAny_bind (wpAny_holding (wpAny_pure ?_))
   refine wpAny_bind (wpAny_letGo ?_)
   show wpAny _ _ (if n < 0 then _ else _) _ _ _
   rw [if_neg (by lia)]
   show wpAny _ _ (if n ≥ 2 ^ 63 then _ else _) _ _ _
   rw [if_neg (by lia)]
   exact wpAny_bind (wpAny_mkInt (wpAny_pure ⟨_,rfl,hq _ _⟩))
 set:=fun hm A E s x dx l hb hs i v Q h=>by
   subst hm
   refine ze2a3 (inst_at hs) fun e n J J I J=>?_
   have X:=k.X.keeps hb
   unfold setItem sequenceKey
   refine wpAny_holding (wpAny_bind (wpAny_bind (I.type.here ?_)))
   refine wpAny_bind ((anyM_none X k.sq).here ?_)
   rw [if_pos (show (!false) = true from rfl)]
   exact wpAny_pure (wpAny_bind (special_fn X I hf (beq_iff_eq.mp ht) (wpAny_mono h (fun J J z=>wpAny_pure z) fun J J z=>z)))
 del:=fun hm A E s x dx l hb hs i Q h=>by
   subst hm
   refine ze2a3 (inst_at hs) fun e n J J I J=>?_
   have X:=k.X.keeps hb
   unfold delItem sequenceKey
   refine wpAny_holding (wpAny_bind (wpAny_bind (I.type.here ?_)))
   refine wpAny_bind ((anyM_none X k.sq).here ?_)
   rw [if_pos (show (!false) = true from rfl)]
   exact wpAny_pure (wpAny_bind (special_fn X I hf (beq_iff_eq.mp ht) (wpAny_mono h (fun J J z=>wpAny_pure z) fun J J z=>z)))
end
end Mine
end
section
set_option tactic.hygienic false
open PySem PySem.W
set_option maxRecDepth 100000
namespace Mine
variable {C:Cst}
section
variable {M:Model} {A:Around} {E:Value→Shared→Prop} {s:Shared} {env:Env}
theorem callAttr {o:Expr} {m:Str} {q p:Pos} {as:List Expr} {kws:List Keyword} {Q:Value→Shared→Prop} (hns:notSuper o = true) (hline:(q.endLine==p.line) = true) (hlen:as.length < 20) (hall:as.all plainE = true)
   (hk:kws.length < 5) (hkn:(backToKw p (keywordEach kws env)).all (fun x=>x.1.isSome) = true)
   (h:wpAny M A (eval o env) (fun ov s1=>∀ pl,wpAny M A (getMethod ov m pl) (fun fr s2=>wpAny M A (callWith p fr.1 fr.2 (backTo p (starEach as env)) (backToKw p (keywordEach kws env))) Q E s2) E s1) E s) :
   wpAny M A (eval (.Call (.Attribute o m q) as kws p) env) Q E s:=by
 rw [arm_eval_Call,base_notSuper hns]
 refine wpAny_bind (wpAny_mono h (fun ov s1 h1=>?_) fun J J x=>x)
 refine wpAny_bind (wpAny_standAt ?_)
 have hform:methodCallForm (as.length + kws.length) (backTo p (starEach as env)) (backToKw p (keywordEach kws env)) = true:=by
   unfold methodCallForm
   rw [allStar as hall,hkn]
   simp only [Bool.and_eq_true,decide_eq_true_eq,true_and]
   split<;>lia
 have hpos:methodCallPos true o env q p = pure p:=by unfold methodCallPos;simp [hline]
 unfold methodCall
 rw [hform]
 refine wpAny_bind (wpAny_holding (wpAny_mono (h1 _) (fun fr s2 h2=>?_) fun J J x=>x))
 exact wpAny_bind (wpAny_of_eq hpos h2)
end
noncomputable def convBody (p1 p2 p3 p4 p5 p6 p7 p8 p9 p10 p11 p12 p13 p14 p15 p16 p17 p18 p19:Pos) (st1 st2:Stmt):List Stmt :=
 [.If (.Compare (.Call (.Name "type" p1) [.Name "value" p2] [] p3) [.Is] [.Name "str" p4] p5)
   [.Assign [.Name "regex" p6] (.IfExp (.Name "name" p7) (.Name "_name_disallowed_re" p8) (.Name "_value_disallowed_re" p9) p10) p11,
    .If (.Call (.Attribute (.Name "regex" p12) "search" p13) [.Name "value" p14] [] p15) [st1] [] p16,
    .Return (some (.Name "value" p17)) p18] [] p19,st2]
inductive ConvFn (C:Cst) (a:Addr):Prop
 | mk (fd:FuncData) (p1:Pos) (p2:Pos) (p3:Pos) (p4:Pos) (p5:Pos) (p6:Pos) (p7:Pos) (p8:Pos) (p9:Pos) (p10:Pos) (p11:Pos) (p12:Pos) (p13:Pos) (p14:Pos) (p15:Pos) (p16:Pos) (p17:Pos) (p18:Pos) (p19:Pos) (st1:Stmt) (st2:Stmt)
   (e1:FnAt C a fd (convBody p1 p2 p3 p4 p5 p6 p7 p8 p9 p10 p11 p12 p13 p14 p15 p16 p17 p18 p19 st1 st2)) (e2:(p13.endLine==p15.line) = true) (e3:(∀ x v b,bindArgs fd ⟨[x,v],[(("name":Str),b)]⟩ = pure [(("self":Str),x),(("value":Str),v),(("name":Str),b)])) (e4:(∀ y∈fd.scope.names,y.2≠.cell)) (e5:(∀ y∈(["self","value","name","regex"]:List Str),fd.scope.names.lookup y = some .local)) (e6:(∀ y∈(["type","str","_name_disallowed_re","_value_disallowed_re"]:List Str),fd.scope.names.lookup y = some .globalImplicit))
structure ConvOk (C:Cst) (a:Addr):Prop where
 fn:ConvFn C a
 pats:∃ b c,C.mg "_name_disallowed_re" = some (.ref b)∧C.mg "_value_disallowed_re" = some (.ref c)∧PatAt C.H b rx1∧PatAt C.H c rx2
theorem PatAt.keeps {h h':Heap} {p:Addr} {code:Array Nat} (x:PatAt h p code) (k:∀ b o,h.get? b = some o→h'.get? b = some o):PatAt h' p code:=by
 obtain ⟨o,vs,cc,oc,its,n,h1,h2,h3,h4,h5,h6,h7,h8⟩:=x
 exact ⟨o,vs,cc,oc,its,n,k _ _ h1,h2,h3,h4,h5,h6,k _ _ h7,h8⟩
noncomputable def clean (x:Str):Bool:=x.cps.all okCh&&strOk x
theorem clean_at {x:Str} (h:clean x = true):(∀ i,i < x.cps.size→okCh (x.cps.getD i 0) = true)∧x.length≤lim:=by
 unfold clean strOk at h
 simp only [Bool.and_eq_true,decide_eq_true_eq] at h
 refine ⟨fun i hi=>?_,h.2⟩
 have:=Array.all_eq_true.mp h.1 i hi
 rw [show x.cps.getD i 0 = x.cps[i] from by simp [Array.getD,hi]]
 exact this
section
variable {A:Around} {s:Shared} {Z:List Addr} {io:HI} {g:Sg}
theorem conv_run {a:Addr} (cv:ConvOk C a) (rt:RootOk C) (hdp:A.depth < 990) (hb:∀ b o,C.H.get? b = some o→s.heap.get? b = some o) {x:Value} {y:Str} {t:Tok} {b:Bool} (hy:clean y = true) :
   wpAny (model C.prog C.w) A (call (.ref a) [x,.str y t] [(("name":Str),.bool b)]) (fun v s'=>v = .str y t∧Keeps s s') noE s:=by
 obtain ⟨fd,p1,p2,p3,p4,p5,p6,p7,p8,p9,p10,p11,p12,p13,p14,p15,p16,p17,p18,p19,st1,st2,fn,hline,hbind,hcell,hloc,hglo⟩:=cv.fn
 refine ze2a3 cv.pats fun pb pc m1 m2 pat1 pat2=>?_
 refine zea fn.get fun o hoa hd=>?_
 refine za (clean_at hy) fun hc1 hc2=>?_
 refine wpAny_call (codeAny_call_function (by show A.depth < 1000;lia) (hb _ _ hoa) hd fn.co fn.gen fn.body (fn.cd.keeps hb) ?_)
 rw [hbind,fn.clo]
 refine wpAny_pure (wpAny_newFunctionEnv hcell (fun y hy=>by
   simp only [List.mem_cons,List.not_mem_nil,or_false] at hy
   rcases hy with rfl | rfl | rfl
   · exact hloc "self" (by decide)
   · exact hloc "value" (by decide)
   · exact hloc "name" (by decide)) (fun h₁ hns1 hsb=>⟨?_,codeAny_func ?_⟩) fn.kind)
 · exact (rt.nolimit.keeps hb).keeps fun b o e=>hsb.extBut b o (Nat.ne_of_lt (Heap.lt_size e)) (Heap.get?_push_of_some _ e)
 · let L:=s.heap.objs.size
   let env2:Env:=newEnv fd.scope L fd.globals [] (fd.qualname++".<locals>.") (some a) fd.code none fd.builtins
   have hkk:∀ b o,s.heap.get? b = some o→h₁.get? b = some o:=fun b o e=>hsb.extBut b o (Nat.ne_of_lt (Heap.lt_size e)) (Heap.get?_push_of_some _ e)
   have hb1:∀ b o,C.H.get? b = some o→h₁.get? b = some o:=fun b o e=>hkk b o (hb b o e)
   have hLn:s.heap.get? L = none:=get?_size_none _
   have kof:∀ y,env2.kindOf y = fd.scope.names.lookup y:=fun y=>rfl
   have hpl:(env2.scope.kind==.class||(env2.scope.kind==.module&&env2.locals != env2.globals)) = false:=by rw [show env2.scope.kind = .function from fn.kind];rfl
   have hg1:=rt.g.keeps hb1
   have hbu1:=rt.b.keeps hb1
   have main:wpAny (model C.prog C.w) (A.deeper env2) (execs (convBody p1 p2 p3 p4 p5 p6 p7 p8 p9 p10 p11 p12 p13 p14 p15 p16 p17 p18 p19 st1 st2) env2) (fun fl s'=>fl = .ret (.str y t)∧Keeps s s') noE { s with heap:=h₁,toks:=s.toks + 3 }:=?_
   · refine noE_mono main ?_
     rintro fl s3 ⟨rfl,h3⟩
     exact ⟨rfl,h3⟩
   have lk:∀ {n:Str} {v:Value} {h2:Heap} {tk:Tok} {m:Str→Option Value} {ps:Pos} {Q:Value→Shared→Prop} {E:Value→Shared→Prop},fd.scope.names.lookup n = some .local→(n==("__debug__":Str)) = false→h2.Ns L m→m n = some v→Q v { s with heap:=h2,toks:=tk }→wpAny (model C.prog C.w) (A.deeper env2) (eval (.Name n ps) env2) Q E { s with heap:=h2,toks:=tk } :=
     fun h1 h2 h3 h4 h5=>wpAny_Name (wpAny_loadName_local (s:={ s with heap:=_,toks:=_ }) fn.kind ((kof _).trans h1) h3 h4 h5) h2
   have val:(fun x_1:Str=>List.lookup x_1 ([(("self":Str),x),(("value":Str),Value.str y t),(("name":Str),Value.bool b)]:List (Str × Value)).reverse) "value" = some (.str y t):=by
     simp only [List.reverse_cons,List.reverse_nil,List.nil_append,List.cons_append,List.lookup,show (("value":Str)==("name":Str)) = false by decide,beq_self_eq_true]
   have nam:(fun x_1:Str=>List.lookup x_1 ([(("self":Str),x),(("value":Str),Value.str y t),(("name":Str),Value.bool b)]:List (Str × Value)).reverse) "name" = some (.bool b):=by
     simp only [List.reverse_cons,List.reverse_nil,List.nil_append,List.cons_append,List.lookup,beq_self_eq_true]
   refine wpAny_execs_cons (wpAny_If (wpAny_isTrue_Compare1 ?_ rfl))
   refine PyProof.Rows.Call_ ?_ rfl
   refine Calls.Name_function_global fn.kind ((kof _).trans (hglo _ (by decide))) (Calls.loadGlobal_builtin (env:=env2) (by rw [show env2.globals = mainGlobals from fn.gl];exact hg1) (rt.nob2 _ (by decide)) (by rw [show env2.builtins = builtinsNs from fn.bi];exact hbu1) ((rt.bi _ (by decide)).trans (show bootBuiltins "type" = some (.type "type") by decide +kernel)) ?_) (by decide)
   refine Pv.callWith_type1 (wpAny_items_cons (lk (hloc "value" (by decide)) (by decide) hns1 val (wpAny_items_nil ?_)))
   refine call_type_of (Tx:="str") rfl (by decide +kernel) ?_
   refine Calls.Name_function_global fn.kind ((kof _).trans (hglo _ (by decide))) (Calls.loadGlobal_builtin (env:=env2) (by rw [show env2.globals = mainGlobals from fn.gl];exact hg1) (rt.nob _ (by decide)) (by rw [show env2.builtins = builtinsNs from fn.bi];exact hbu1) ((rt.bi _ (by decide)).trans (show bootBuiltins "str" = some (.type "str") by decide +kernel)) ?_) (by decide)
   refine wpAny_is_self (by rfl) (wpAny_truthy_bool ?_)
   rw [if_pos rfl]
   have fin:∀ (pp:Addr) (code:Array Nat),PatAt C.H pp code→(code = rx1∨code = rx2)→wpAny (model C.prog C.w) (A.deeper env2) (storeName env2 "regex" (.ref pp)) (fun J s'=>wpAny (model C.prog C.w) (A.deeper env2) (execs [.If (.Call (.Attribute (.Name "regex" p12) "search" p13) [.Name "value" p14] [] p15) [st1] [] p16,
       .Return (some (.Name "value" p17)) p18] env2) (fun fl s'=>fl = .ret (.str y t)∧Keeps s s') noE s') noE { s with heap:=h₁,toks:=s.toks + 3 }:=fun pp code hpat hcode=>by
     refine wpAny_storeName_local (s:={ s with heap:=h₁,toks:=s.toks + 3 }) ((kof _).trans (hloc "regex" (by decide))) hns1 (fun h2 hn2 hs2=>?_) hpl
     have hk2:∀ b o,s.heap.get? b = some o→h2.get? b = some o:=fun b o e=>hs2.extBut b o (fun he=>by rw [show b = L from he,hLn] at e;injection e) (hkk b o e)
     have pat:=hpat.keeps (h':=h2) fun b o e=>hk2 b o (hb b o e)
     have pat':=pat
     obtain ⟨op,_,_,_,_,_,q1,q2,q3,_⟩:=pat'
     refine wpAny_execs_cons (wpAny_If (wpAny_isTrue_value (callAttr rfl hline (by show 1 < 20;lia) rfl (by decide) rfl (lk (hloc "regex" (by decide)) (by decide) hn2 (if_pos rfl) fun pl=>?_)) rfl))
     refine getMethod_builtin (T:="re.Pattern") ⟨op,q1,q2⟩ RxF.plainAttrs_pat RxF.slot_search RxF.type_search (fun a e=>by (injection e with e;subst e);exact ⟨op,q1,q3⟩) ?_
     refine Calls.callWith_builtin (anyStar _ rfl _ _) (evalArgs_of rfl (wpAny_items_cons (lk (hloc "value" (by decide)) (by decide) hn2 ((if_neg (by decide)).trans val) (wpAny_items_nil ?_))))
     refine call_search pat hcode hc1 (Nat.le_trans hc2 (by decide)) (PyProof.Rows.truthy_none ?_)
     rw [if_neg (by decide)]
     refine wpAny_execs_nil (wpAny_execs_cons (wpAny_Return_some (lk (hloc "value" (by decide)) (by decide) hn2 ((if_neg (by decide)).trans val) ⟨rfl,_,_,rfl,hk2⟩)))
   refine wpAny_execs_cons (wpAny_Assign_Name (wpAny_IfExp (wpAny_isTrue_value (lk (hloc "name" (by decide)) (by decide) hns1 nam (wpAny_truthy_bool ?_)) rfl)) rfl)
   cases b with
   | true =>
     refine Calls.Name_function_global fn.kind ((kof _).trans (hglo _ (by decide))) (Calls.loadGlobal_global (env:=env2) (by rw [show env2.globals = mainGlobals from fn.gl];exact hg1) m1 ?_) (by decide)
     exact noE_mono (fin pb rx1 pat1 (.inl rfl)) fun J s' h=>noE_mono h fun fl s'' h2=>by obtain ⟨rfl,h2⟩:=h2;exact ⟨rfl,h2⟩
   | false =>
     refine Calls.Name_function_global fn.kind ((kof _).trans (hglo _ (by decide))) (Calls.loadGlobal_global (env:=env2) (by rw [show env2.globals = mainGlobals from fn.gl];exact hg1) m2 ?_) (by decide)
     exact noE_mono (fin pc rx2 pat2 (.inr rfl)) fun J s' h=>noE_mono h fun fl s'' h2=>by obtain ⟨rfl,h2⟩:=h2;exact ⟨rfl,h2⟩
end
end Mine
end
section
set_option tactic.hygienic false
open PySem PySem.W
set_option maxRecDepth 100000
namespace Mine
noncomputable def Cst.bare (C:Cst):Cst:={ C with vt:=[],spc:=[],vtOk:=fun J J=>True,vtKeep:=fun J J J J J J J=>trivial }
variable {C:Cst}
mutual
theorem has_bare {V:List Addr} {io:HI} {h:Heap}:∀ {d:D} {v:Value},Has C.bare V io h d v↔Has C V io h d v
 | .none,v=>Iff.rfl
 | .bool _,v=>Iff.rfl
 | .int _,v=>Iff.rfl
 | .str _,v=>Iff.rfl
 | .tup l,v=>by
   exact ⟨fun x=>zae2a3 x fun h0 a vs h1 h2 h3 h4=>⟨h0,a,vs,h1,h2,h3,hasL_bare.mp h4⟩,fun x=>zae2a3 x fun h0 a vs h1 h2 h3 h4=>⟨h0,a,vs,h1,h2,h3,hasL_bare.mpr h4⟩⟩
 | .lst l,v=>by
   exact ⟨fun x=>zae2a3 x fun h0 a vs h1 h2 h3 h4=>⟨h0,a,vs,h1,h2,h3,hasL_bare.mp h4⟩,fun x=>zae2a3 x fun h0 a vs h1 h2 h3 h4=>⟨h0,a,vs,h1,h2,h3,hasL_bare.mpr h4⟩⟩
 | .dct l,v=>Iff.rfl
 | .hdr k,v=>Iff.rfl
theorem hasL_bare {V:List Addr} {io:HI} {h:Heap}:∀ {d:List D} {v:List Value},HasL C.bare V io h d v↔HasL C V io h d v
 | [],v=>Iff.rfl
 | d::r,v=>by
   exact ⟨fun x=>ze2a2 x fun v vs h1 h2 h3=>⟨v,vs,h1,has_bare.mp h2,hasL_bare.mp h3⟩,fun x=>ze2a2 x fun v vs h1 h2 h3=>⟨v,vs,h1,has_bare.mpr h2,hasL_bare.mpr h3⟩⟩
end
theorem RootOk.bare (r:RootOk C):RootOk C.bare where
 g:=r.g
 b:=r.b
 bi:=r.bi
 nolimit:=r.nolimit
 nob:=r.nob
 nob2:=r.nob2
 vtH:=fun b hb=>by cases hb
theorem FnAt.bare {a:Addr} {fd:FuncData} {body:List Stmt} (f:FnAt C a fd body) (h:fd.scope.names.lookup ("_split_list":Str)≠some .globalImplicit):FnAt C.bare a fd body where
 get:=f.get
 body:=f.body
 clo:=f.clo
 gl:=f.gl
 bi:=f.bi
 cd:=f.cd
 kind:=f.kind
 co:=f.co
 gen:=f.gen
 nofree:=f.nofree
 spl:=fun h'=>absurd h' h
section
variable {s s':Shared} {io io':HI} {Z:List Addr} {g:Sg}
theorem Sok.bare (r:RootOk C) (k:Sok C Z io g s):Sok C.bare (VV C io Z) [] [] s where
 base:=k.base
 st:=⟨rfl,fun i t ps h=>by simp at h,by simp [adr],fun b hb=>by simp [adr] at hb,trivial⟩
 zal:=vv_alive k
 zd:=fun z hz=>by
   refine ⟨(by intro h;cases h),(by intro h;cases h),?_⟩
   simp only [VV,List.mem_append] at hz
   rcases hz with (hz | hz) | hz
   · exact r.vtH z hz
   · exact k.st.below z hz
   · exact (k.zd z hz).2.2
 val:=fun z hz=>by cases hz
theorem Grow.keepsB (x:Grow C.bare [] io' s s'):Keeps s s':=by
 refine ze2 x.same fun h' tk e=>?_
 refine ⟨h',tk,e,fun b o hb=>?_⟩
 have:=x.keep b o hb (by intro h;cases h) (by intro h;cases h)
 rw [e] at this
 exact this
end
noncomputable def T0:Tbl:=⟨fun J=>none,fun J=>none,none⟩
theorem allOk_bare (r:RootOk C):∀ n,AllOk C.bare (0 + 2 * n) n T0 :=
 all_ok r.bare (fun lv ev J kd ro src body x an sc lp q p g g1 g2 ds pr hkd J J J J A env Z io s J he J=>by refine ze3a (he.cd hkd) fun J J J hm J=>?_;cases hm)
   ⟨fun J J h=>(by injection h),fun J J h=>(by injection h),fun J h=>(by injection h)⟩
section
variable {A:Around} {s:Shared} {Z:List Addr} {io:HI} {g:Sg}
theorem fun_enterC {L:Nat} {a:Addr} {fd:FuncData} {body:List Stmt} {pargs:List Value} {kargs:List (Str × Value)} {binds:List (Str × Value)} (r:RootOk C) (f:FnAt C a fd body) (hbind:∀ (A:Around) (E:Value→Shared→Prop) (Q:List (Str × Value)→Shared→Prop),Q binds s→wpAny (model C.prog C.w) A (bindArgs fd ⟨pargs,kargs⟩) Q E s)
   (hcs:∀ x∈binds,canSet (fun y=>fd.scope.names.lookup y) x.1 = true) (hbn:(binds.map (·.1)).Nodup) (ha:AOkC A (L + 1)) (hk:Sok C Z io g s) {l:List (Str × D)} (hnd:(l.map (·.1)).Nodup)
   (hl:∀ y d,l.lookup y = some d→∃ v,binds.lookup y = some v∧Has C (VV C io Z) io s.heap d v) {R:Value→Shared→Prop}
   (h:∀ env s2 F,Keeps s s2→(∀ x∈F,s.heap.get? x = none)→Frm C ⟨fun J J=>False,[]⟩ (fun x=>fd.scope.names.lookup x) s io Z env (fun J=>0) [] F (valsOf l) io g s2→(∀ y v,binds.lookup y = some v→VarAt (fun x=>fd.scope.names.lookup x) env s2.heap y v)→AOk (A.deeper env) L →
     wpAny (model C.prog C.w) (A.deeper env) (execs body env) (fun fl s'=>R (match fl with | .ret v=>v | _=>.none) s') noE s2) :
   codeAny (model C.prog C.w) A (.call (.ref a) ⟨pargs,kargs⟩) (fun r s'=>match r with | .ok (.ret v)=>R v s' | .ok _=>False | .error _=>False) s:=by
 refine zea f.get fun o ho hd=>?_
 have hmem:∀ {x:Str} {k:NameKind},fd.scope.names.lookup x = some k→(x,k)∈fd.scope.names:=fun h=>PySem.mem_of_lookup h
 refine codeAny_call_function (by have:=ha.dp;show A.depth < 1000;lia) (hk.base _ _ ho) hd f.co f.gen f.body (f.cd.keeps hk.base) ?_
 rw [f.clo]
 refine hbind _ _ _ ?_
 have k1:=hk
 have hcan:∀ x∈binds,fd.scope.names.lookup x.1 = some .local∨(fd.scope.names.lookup x.1 = some .cell∧((cellsFrom (s.heap.objs.size + 1) fd.scope.names []).lookup x.1).isSome = true):=fun x hx=>by
   have:=hcs x hx
   unfold canSet at this
   simp only [Bool.or_eq_true,beq_iff_eq] at this
   rcases this with h | h
   · exact .inl h
   · exact .inr ⟨h,cellsFrom_some _ _ _ (.inl (hmem h))⟩
 refine wpAny_newFunctionEnv_cells f.kind hcan fun env henv s2 xc=>?_
 have kp2:Keeps s s2:=by
   refine ze2a xc.done fun h' tk e hkk=>?_
   exact ⟨h',tk,e,hkk⟩
 have hL:s.heap.objs.size≤env.locals:=xc.toInCall.fresh
 have hkof:∀ x,env.kindOf x = fd.scope.names.lookup x:=fun x=>by subst henv;rfl
 have hfresh:∀ c,env.locals≤c→s.heap.get? c = none:=fun c hle=>by
   induction e:s.heap.get? c using Option.casesOn with
   | none=>rfl
   | some o=>exact absurd (Heap.lt_size e) (Nat.not_lt.mpr (Nat.le_trans hL hle))
 have hcells:env.cells = cellsFrom (s.heap.objs.size + 1) fd.scope.names []:=by subst henv;rfl
 let F:List Addr:=env.locals::fd.scope.names.filterMap fun p=>if p.2==NameKind.cell then env.cells.lookup p.1 else none
 have hF:∀ c∈F,env.locals≤c∧∃ o,s2.heap.get? c = some o:=fun c hcm=>by
   rcases List.mem_cons.mp hcm with rfl | hcm
   · refine ze3a xc.toInCall.ns fun o J J e J=>?_
     exact ⟨Nat.le_refl _,o,e⟩
   · refine zea (List.mem_filterMap.mp hcm) fun p J hp=>?_
     split at hp
     · refine zea (xc.cell _ _ hp) fun o e J=>?_
       exact ⟨Nat.le_of_lt (xc.above _ _ (PySem.mem_of_lookup hp)),o,e⟩
     · injection hp
 have hcell:∀ x,fd.scope.names.lookup x = some .cell→∃ c,env.cells.lookup x = some c∧c∈F:=fun x hx=>by
   have:=cellsFrom_some (x:=x) fd.scope.names (s.heap.objs.size + 1) [] (.inl (hmem hx))
   rw [← hcells] at this
   refine ze (Option.isSome_iff_exists.mp this) fun c hc=>?_
   exact ⟨c,hc,.tail _ (List.mem_filterMap.mpr ⟨(x,.cell),hmem hx,by simpa using hc⟩)⟩
 have hvar:∀ y v,binds.lookup y = some v→VarAt (fun x=>fd.scope.names.lookup x) env s2.heap y v:=fun y v hy=>by
   have hcy:=hcs (y,v) (PySem.mem_of_lookup hy)
   unfold canSet at hcy
   simp only [Bool.or_eq_true,beq_iff_eq] at hcy
   by_cases hloc:fd.scope.names.lookup y = some .local
   · exact .inl ⟨hloc,_,xc.toInCall.ns,bindL_at ((hkof y).trans hloc) _ _ hbn hy⟩
   · have hc:fd.scope.names.lookup y = some .cell:=by
       rcases hcy with h | h
       · exact absurd h hloc
       · exact h
     refine zea (hcell y hc) fun c hcc J=>?_
     have:=xc.cell _ _ hcc
     rw [bindC_at (by rw [hkof,hc];decide) _ _ hbn hy] at this
     exact .inr ⟨hc,c,hcc,this⟩
 have xf:Frm C ⟨fun J J=>False,[]⟩ (fun x=>fd.scope.names.lookup x) s io Z env (fun J=>0) [] F (valsOf l) io g s2:={
   grow:=Keeps.grow C kp2
   fresh:=fun c hcm=>hfresh c (hF c (by simpa using hcm)).1
   sok:=Sok.more_many k1 kp2 fun w hw=>⟨hfresh w (hF w hw).1,(hF w hw).2⟩
   kdo:=hkof
   fn:=by subst henv;exact f.kind
   bk:=by subst henv;simp [Env.blockKind,newEnv,f.kind]
   gl:=by subst henv;exact f.gl
   bi:=by subst henv;exact f.bi
   cd:=fun h=>by subst henv;refine ze2a (f.spl h) fun c P h1 h2=>?_;exact ⟨c,P,_,h1,h2,rfl⟩
   lF:=.head _
   ns:=⟨_,xc.toInCall.ns⟩
   all:=fun x hx=>by
     refine zea (hcell x hx) fun c hc hcF=>?_
     exact ⟨c,_,hc,xc.cell _ _ hc,hcF,fun he=>Nat.lt_irrefl _ (he ▸ xc.above _ _ (PySem.mem_of_lookup hc))⟩
   inj:=fun x y c J J h1 h2=>PySem.name_of_addr xc.apart (PySem.mem_of_lookup h1) (PySem.mem_of_lookup h2)
   nofree:=fun x hx=>f.nofree _ (hmem hx) rfl
   vals:=fun y ev hy=>by
     refine zea (valsOf_lookup hy) fun d e1q hyl=>?_;subst e1q
     refine zea (hl y d hyl) fun v q1 q2=>?_
     refine ⟨v,hvar y v q1,?_⟩
     exact Has.mono C (V':=VV C io (F++Z)) (io':=io) (h':=s2.heap) (fun a o e hn=>by
       refine ze2a kp2 fun h' tk e2 hkk=>?_;clear kp2
       refine ⟨by rw [e2];exact hkk a o e,fun hm=>?_⟩
       rcases vv_split hm with h | h
       · exact hn h
       · rw [hfresh a (hF a h).1] at e;injection e) (fun J J e=>e) q2
   olist:=fun a ha=>by cases ha
   disj:=fun a ha=>by cases ha
   apart:=fun x y m m' J h1 J=>by
     refine zea (valsOf_lookup h1) fun d hd J=>?_
     injection hd
   nd:=by rw [valsOf_keys];exact hnd
   kept:=fun b o hb=>hb.elim
   pref:=fun k t e=>by simp at e }
 refine ⟨(r.nolimit.keeps k1.base).keeps (by refine ze2a kp2 fun h' tk e hkk=>?_;clear kp2;rw [e];exact hkk),codeAny_func ?_⟩
 have ha':AOk (A.deeper env) L:=⟨ha.hh,by have:=ha.dp;show A.depth + 1 + L≤900;lia,by have:=ha.un;show A.units + 3 + 8 * L≤9000;lia⟩
 exact noE_mono (h env s2 F kp2 (fun c hc=>hfresh c (hF c hc).1) xf hvar ha') fun fl s3 h3=>h3
theorem fun_enter {L:Nat} {a:Addr} {fd:FuncData} {body:List Stmt} {pargs:List Value} {kargs:List (Str × Value)} {binds:List (Str × Value)} (r:RootOk C) (f:FnAt C a fd body) (hbind:∀ (A:Around) (E:Value→Shared→Prop) (Q:List (Str × Value)→Shared→Prop),Q binds s→wpAny (model C.prog C.w) A (bindArgs fd ⟨pargs,kargs⟩) Q E s)
   (hcs:∀ x∈binds,canSet (fun y=>fd.scope.names.lookup y) x.1 = true) (hbn:(binds.map (·.1)).Nodup) (ha:AOkC A (L + 1)) (hk:Sok C Z io g s) {l:List (Str × D)} (hnd:(l.map (·.1)).Nodup)
   (hl:∀ y d,l.lookup y = some d→∃ v,binds.lookup y = some v∧Has C (VV C io Z) io s.heap d v) {R:Value→Shared→Prop}
   (h:∀ env s2 F,Keeps s s2→(∀ x∈F,s.heap.get? x = none)→Frm C ⟨fun J J=>False,[]⟩ (fun x=>fd.scope.names.lookup x) s io Z env (fun J=>0) [] F (valsOf l) io g s2→(∀ y v,binds.lookup y = some v→VarAt (fun x=>fd.scope.names.lookup x) env s2.heap y v)→AOk (A.deeper env) L →
     wpAny (model C.prog C.w) (A.deeper env) (execs body env) (fun fl s'=>R (match fl with | .ret v=>v | _=>.none) s') noE s2) :
   wpAny (model C.prog C.w) A (call (.ref a) pargs kargs) R noE s :=
 wpAny_call (fun_enterC r f hbind hcs hbn ha hk hnd hl h)
end
end Mine
end
section
set_option tactic.hygienic false
open PySem PySem.W PySem.Calls PyProof.Rows
set_option maxRecDepth 100000
namespace Mine
variable {C:Cst}
section
variable {K:Frag} {A:Around} {env:Env} {s:Shared} {x dx l a:Addr}
structure HdrFns (C:Cst) (K:Frag) (fs:List (Str × Addr)):Prop where
 cls:HdrCls C K
 find:∀ m a,fs.lookup m = some a→findIn K (.ref C.cls) m = some (some (.ref a))∧isFn K (.ref a) = true∧fnIn K a = true
 ne:fs.lookup ("_headers":Str) = none
theorem conv_call {fs:List (Str × Addr)} (k:HdrFns C K fs) (hf:fs.lookup ("_convert_string_type":Str) = some a) (cv:ConvOk C a) (rt:RootOk C) (hdp:A.depth < 990) {ps q p pc pk:Pos} {kc:Nat} {b:Bool} {e:Expr} (hline:(q.endLine==p.line) = true) (hpe:plainE e = true)
   (hself:∀ (Q:Value→Shared→Prop),Q (.ref x) s→wpAny (model C.prog C.w) A (eval (.Name "self" ps) env) Q noE s) (hb:∀ b o,C.H.get? b = some o→s.heap.get? b = some o) (hs:HdrShape C s.heap x dx l) {Q:Value→Shared→Prop}
   (he:wpAny (model C.prog C.w) A (eval e env) (fun v s1=>∃ y t,v = .str y t∧clean y = true∧(∀ b o,C.H.get? b = some o→s1.heap.get? b = some o)∧∀ s2,Keeps s1 s2→Q (.str y t) s2) noE s) :
   wpAny (model C.prog C.w) A (eval (.Call (.Attribute (.Name "self" ps) "_convert_string_type" q) [e] [⟨some "name",.Constant (.bool b) kc pc,pk⟩] p) env) Q noE s:=by
 refine za2 (k.find _ _ hf) fun f1 f2 f3=>?_
 have cv':=cv
 obtain ⟨fd,p1,p2,p3,p4,p5,p6,p7,p8,p9,p10,p11,p12,p13,p14,p15,p16,p17,p18,p19,st1,st2,fn,_⟩:=cv'.fn
 refine zea fn.get fun o hoa hd=>?_
 refine callAttr rfl hline (by show 1 < 20;lia) (by simp [hpe]) (by show 1 < 5;lia) rfl (hself _ fun pl=>meth_get k.cls hb hs f1 f2 (by decide) ?_)
 refine callWith_function_kw (o:=o) (fd:=fd) (evalArgs_kw2 rfl (wpAny_items_cons (noE_mono he ?_) (starEach_plain (plain_ne hpe))) (starEach_plain (plain_ne hpe)))
 rintro v s1 ⟨y,t,rfl,hy,hb1,hq⟩
 refine wpAny_items_nil ?_
 refine wpAny_evalAll_cons (wpAny_bind (wpAny_pure (wpAny_bind (wpAny_standAt (wpAny_pure (wpAny_evalAll_nil ⟨⟨hb1 _ _ hoa,hd⟩,?_⟩))))))
 exact noE_mono (conv_run cv rt hdp hb1 hy) fun v s2 h2=>by
   obtain ⟨rfl,h2⟩:=h2
   exact hq s2 h2
end
end Mine
end
section
set_option tactic.hygienic false
open PySem PySem.W PySem.Calls PyProof.Rows
set_option maxRecDepth 100000
namespace Mine
/-! the evaluator,node by node -/
theorem bindK_eq {α β:Type} {x:Option (α × Sg)} {a:α} {g:Sg} {f:α→Sg→Option (β × Sg)} (h:x = some (a,g)):bindK x f = f a g:=by rw [h];rfl
theorem mapo_eq {α β:Type} {x:Option α} {a:α} {f:α→β} (h:x = some a):x.map f = some (f a):=by rw [h];rfl
section
variable {T:Tbl} {mu:List Str} {n:Nat} {kd:Kd} {ro:Ro} {fo fo1:Fo} {g g1 g2 g3 g4:Sg} {R:Option Fl} {r:List Stmt}
theorem ex_nil:pexecs T mu (n + 1) kd [] fo g = some (.next fo g):=rfl
noncomputable def nextK (x:Option Fl) (F:Fo→Sg→Option Fl):Option Fl:=match x with
 | some (.next fo g)=>F fo g
 | x=>x
theorem pexecs_cons {st:Stmt}:pexecs T mu (n + 1) kd (st::r) fo g = nextK (pexec T mu n kd st fo g) fun fo g=>pexecs T mu n kd r fo g:=rfl
theorem ex_cons {st:Stmt} (h:pexec T mu n kd st fo g = some (.next fo1 g1)) (hr:pexecs T mu n kd r fo1 g1 = R):pexecs T mu (n + 1) kd (st::r) fo g = R:=by
 rw [pexecs_cons,h];exact hr
theorem ex_ret {st:Stmt} {d:D} (h:pexec T mu n kd st fo g = some (.ret d g1)):pexecs T mu (n + 1) kd (st::r) fo g = some (.ret d g1):=by
 rw [pexecs_cons,h];rfl
theorem evX_rm {ev:Ro→Expr→Sg→Option (D × Sg)} {e:Expr} {d:D} (h:ev (rmOwn fo) e g = some (d,g1)):evX ev fo e g = some (d,fo,g1):=by
 unfold evX;rw [h]
theorem valK_eq {x:Option (D × Fo × Sg)} {d:D} {F:D→Fo→Sg→Option Fl} (h:x = some (d,fo,g)):valK x F = F d fo g:=by rw [h];rfl
theorem dK_eq {x:Option (D × Sg)} {d:D} {F:D→Sg→Option Fl} (h:x = some (d,g)):dK x F = F d g:=by rw [h];rfl
theorem bK_eq {x:Option (Bool × Sg)} {d:Bool} {F:Bool→Sg→Option Fl} (h:x = some (d,g)):bK x F = F d g:=by rw [h];rfl
theorem lK_eq {x:Option (List D × Sg)} {d:List D} {F:List D→Sg→Option Fl} (h:x = some (d,g)):lK x F = F d g:=by rw [h];rfl
theorem ifn_eq {α:Type} {c:Bool} {x:Option α} (h:c = false):(if c = true then none else x) = x:=by rw [h];rfl
theorem st_assign {x:Str} {px sp:Pos} {e:Expr} {d:D} (hx:canSet kd x = true) (h:pev T n kd (rmOwn fo) e g = some (d,g1)):pexec T mu (n + 1) kd (.Assign [.Name x px] e sp) fo g = some (.next (setE x (.val d) fo) g1):=by
 show (if (!canSet kd x) = true then none else valK (evX (pev T n kd) fo e g) fun d fo g=>some (Fl.next (setE x (.val d) fo) g)) = _
 exact (ifn_eq (by rw [hx];rfl)).trans (valK_eq (evX_rm h))
theorem st_return {p:Pos} {e:Expr} {d:D} (h:pev T n kd (frz fo) e g = some (d,g1)):pexec T mu (n + 1) kd (.Return (some e) p) fo g = some (.ret d g1):=by
 show dK (pev T n kd (frz fo) e g) (fun d g=>some (Fl.ret d g)) = _
 exact dK_eq h
theorem st_if {t:Expr} {a b:List Stmt} {p:Pos} {c:Bool} (h:pt T n kd (rmOwn fo) t g = some (c,g1)) (hr:pexecs T mu n kd (if c then a else b) fo g1 = R):pexec T mu (n + 1) kd (.If t a b p) fo g = R:=by
 show bK (pt T n kd (rmOwn fo) t g) (fun c g=>if c = true then pexecs T mu n kd a fo g else pexecs T mu n kd b fo g) = _
 refine (bK_eq h).trans ?_
 induction c using Bool.casesOn<;>exact hr
theorem st_for {t it:Expr} {body:List Stmt} {p:Pos} {ds:List D} (ht:(namesT t).isNone = false) (h:psrc T n kd (rmOwn fo) it g = some (ds,g1)) (hr:forK (fun fo g=>pexecs T mu n kd body fo g) kd t ds fo g1 = R):pexec T mu (n + 1) kd (.For t it body [] p) fo g = R:=by
 show (if (namesT t).isNone = true then none else lK (psrc T n kd (rmOwn fo) it g) fun ds g=>forK (fun fo g=>pexecs T mu n kd body fo g) kd t ds fo g) = _
 exact (ifn_eq ht).trans ((lK_eq h).trans hr)
theorem st_while {t:Expr} {body:List Stmt} {p:Pos} (hr:whileK (fun fo g=>pt T n kd (rmOwn fo) t g) (fun fo g=>pexecs T mu n kd body fo g) 100000 fo g = R):pexec T mu (n + 1) kd (.While t body [] p) fo g = R:=hr
theorem ev_none {k:Nat} {p:Pos}:pev T (n + 1) kd ro (.Constant .none k p) g = some (.none,g):=rfl
theorem ev_int {k:Nat} {p:Pos} {b:Int}:pev T (n + 1) kd ro (.Constant (.int b) k p) g = some (.int b,g):=rfl
theorem ev_str {k:Nat} {p:Pos} {b:Str} (h:strOk b = true):pev T (n + 1) kd ro (.Constant (.str b) k p) g = some (.str b,g):=by
 show (if strOk b = true then some (D.str b,g) else none) = _
 exact if_pos h
theorem pev_name {x:Str} {p:Pos} {d:D} (h:ro.lookup x = some d) (hx:(x==("__debug__":Str)||x==("__classdict__":Str)) = false):pev T (n + 1) kd ro (.Name x p) g = some (d,g):=by
 show (if (x==("__debug__":Str)||x==("__classdict__":Str)) = true then none else (ro.lookup x).map (·,g)) = _
 exact (ifn_eq hx).trans (mapo_eq h)
theorem ev_bin {op:Operator} {a b:Expr} {p:Pos} {x y d:D} (h1:pev T n kd ro a g = some (x,g1)) (h2:pev T n kd ro b g1 = some (y,g2)) (h:binD op x y = some d):pev T (n + 1) kd ro (.BinOp a op b p) g = some (d,g2):=by
 show (bindK (pev T n kd ro a g) fun x g=>bindK (pev T n kd ro b g) fun y g=>(binD op x y).map (·,g)) = _
 exact (bindK_eq h1).trans ((bindK_eq h2).trans (mapo_eq h))
theorem ev_neg {a:Expr} {p:Pos} {i:Int} (h1:pev T n kd ro a g = some (.int i,g1)):pev T (n + 1) kd ro (.UnaryOp .USub a p) g = some (.int (-i),g1):=by
 show (bindK (pev T n kd ro a g) fun x g=>match x with | .int i=>some (D.int (-i),g) | _=>none) = _
 exact bindK_eq h1
theorem ev_if {t a b:Expr} {p:Pos} {c:Bool} {d:D} (h1:pt T n kd ro t g = some (c,g1)) (h2:pev T n kd ro (if c then a else b) g1 = some (d,g2)):pev T (n + 1) kd ro (.IfExp t a b p) g = some (d,g2):=by
 show (bindK (pt T n kd ro t g) fun c g=>if c = true then pev T n kd ro a g else pev T n kd ro b g) = _
 refine (bindK_eq h1).trans ?_
 induction c using Bool.casesOn<;>exact h2
theorem ev_cmp {op:CmpOp} {a b:Expr} {p:Pos} {x y:D} {c:Bool} (h1:pev T n kd ro a g = some (x,g1)) (h2:pev T n kd ro b g1 = some (y,g2)) (h:cmpD op x y = some c):pev T (n + 1) kd ro (.Compare a [op] [b] p) g = some (.bool c,g2):=by
 show (bindK (pev T n kd ro a g) fun x g=>bindK (pev T n kd ro b g) fun y g=>(cmpD op x y).map fun c=>(D.bool c,g)) = _
 exact (bindK_eq h1).trans ((bindK_eq h2).trans (mapo_eq h))
theorem ev_and {a b:Expr} {p:Pos} {x d:D} {c:Bool} (h1:pev T n kd ro a g = some (x,g1)) (h:truthD x = some c) (h2:(if c then pev T n kd ro b g1 else some (x,g1)) = some (d,g2)):pev T (n + 1) kd ro (.BoolOp .And [a,b] p) g = some (d,g2):=by
 show (bindK (pev T n kd ro a g) fun x g=>match truthD x with
     | some true=>pev T n kd ro b g
     | some false=>some (x,g)
     | none=>none) = _
 refine (bindK_eq h1).trans ?_
 show (match truthD x with
     | some true=>pev T n kd ro b g1
     | some false=>some (x,g1)
     | none=>none) = _
 rw [h]
 induction c using Bool.casesOn<;>exact h2
theorem ev_dict {ks:List (Option Expr)} {vs:List Expr} {p:Pos} {l:List (Str × Str)} (h0:(ks.length≤12&&ks.length != 0) = true) (h:dispD ks vs = some l):pev T (n + 1) kd ro (.Dict ks vs p) g = some (.dct l,g):=by
 show (if (ks.length≤12&&ks.length != 0) = true then (dispD ks vs).map fun l=>(D.dct l,g) else none) = _
 exact (if_pos h0).trans (mapo_eq h)
theorem evs_nil:evs (pev T n kd ro) [] g = some ([],g):=rfl
theorem evs_more {e:Expr} {es:List Expr} {d:D} {ds:List D} (hp:plainE e = true) (h1:pev T n kd ro e g = some (d,g1)) (h2:evs (pev T n kd ro) es g1 = some (ds,g2)):evs (pev T n kd ro) (e::es) g = some (d::ds,g2) :=
 (evs_cons_plain hp).trans ((bindK_eq h1).trans (bindK_eq h2))
theorem evs_star {e:Expr} {p:Pos} {l:List D} (h1:pev T n kd ro e g = some (.tup l,g1)):evs (pev T n kd ro) [.Starred e p] g = some (l,g1):=by
 show (bindK (pev T n kd ro e g) fun d g=>match d with
     | .tup l=>bindK (evs (pev T n kd ro) [] g) fun ds g=>some (l++ds,g)
     | .lst l=>bindK (evs (pev T n kd ro) [] g) fun ds g=>some (l++ds,g)
     | _=>none) = _
 refine (bindK_eq h1).trans ?_
 show some (l++[],g1) = _
 rw [List.append_nil]
theorem evs_plain_star {e e2:Expr} {p:Pos} {d:D} {l:List D} (hp:plainE e2 = true) (h0:pev T n kd ro e2 g = some (d,g1)) (h1:pev T n kd ro e g1 = some (.tup l,g2)):evs (pev T n kd ro) [e2,.Starred e p] g = some (d::l,g2) :=
 (evs_cons_plain hp).trans ((bindK_eq h0).trans (bindK_eq (evs_star h1)))
theorem ev_list {es:List Expr} {p:Pos} {ds:List D} (h:evs (pev T n kd ro) es g = some (ds,g1)) (hl:ds.length≤lim):pev T (n + 1) kd ro (.List es p) g = some (.lst ds,g1):=by
 show (bindK (evs (pev T n kd ro) es g) fun ds g=>if ds.length≤lim then some (D.lst ds,g) else none) = _
 exact (bindK_eq h).trans (if_pos hl)
theorem ev_tup {es:List Expr} {k:Nat} {p:Pos} {ds:List D} (h:evs (pev T n kd ro) es g = some (ds,g1)) (hl:ds.length≤lim):pev T (n + 1) kd ro (.Tuple es k p) g = some (.tup ds,g1):=by
 show (bindK (evs (pev T n kd ro) es g) fun ds g=>if ds.length≤lim then some (D.tup ds,g) else none) = _
 exact (bindK_eq h).trans (if_pos hl)
theorem ev_slice {a:Expr} {lo hi st:Option Expr} {p q:Pos} {x d:D} {l h s:Option Int} (h1:pev T n kd ro a g = some (x,g1)) (h2:evOpt (pev T n kd ro) lo g1 = some (l,g2)) (h3:evOpt (pev T n kd ro) hi g2 = some (h,g3)) (h4:evOpt (pev T n kd ro) st g3 = some (s,g4))
   (e:sliceD x l h s = some d):pev T (n + 1) kd ro (.Subscript a (.Slice lo hi st p) q) g = some (d,g4):=by
 show (bindK (pev T n kd ro a g) fun x g=>bindK (evOpt (pev T n kd ro) lo g) fun l g=>bindK (evOpt (pev T n kd ro) hi g) fun h g=>bindK (evOpt (pev T n kd ro) st g) fun s g=>(sliceD x l h s).map (·,g)) = _
 exact (bindK_eq h1).trans ((bindK_eq h2).trans ((bindK_eq h3).trans ((bindK_eq h4).trans (mapo_eq e))))
theorem opt_none:evOpt (pev T n kd ro) none g = some (none,g):=rfl
theorem opt_some {e:Expr} {i:Int} (h:pev T n kd ro e g = some (.int i,g1)) (hb:big i = true):evOpt (pev T n kd ro) (some e) g = some (some i,g1):=by
 show (bindK (pev T n kd ro e g) fun d g=>match d with | .int i=>if big i = true then some (some i,g) else none | _=>none) = _
 refine (bindK_eq h).trans ?_
 show (if big i = true then some (some i,g1) else none) = _
 exact if_pos hb
theorem pev_item {a b:Expr} {q:Pos} (hs:∀ l u st p,b≠.Slice l u st p):pev T (n + 1) kd ro (.Subscript a b q) g = bindK (pev T n kd ro a g) fun x g=>bindK (pev T n kd ro b g) fun y g =>
   match x with
   | .hdr _=>match T.mt "__getitem__" with | some f=>f [x,y] g | none=>none
   | _=>(itemD x y).map (·,g):=by
 induction b using Expr.casesOn<;>first | rfl | exact absurd rfl (hs _ _ _ _)
theorem ev_item {a b:Expr} {q:Pos} {x y d:D} (hs:∀ l u st p,b≠.Slice l u st p) (h1:pev T n kd ro a g = some (x,g1)) (h2:pev T n kd ro b g1 = some (y,g2)) (hx:∀ k,x≠.hdr k) (e:itemD x y = some d):pev T (n + 1) kd ro (.Subscript a b q) g = some (d,g2):=by
 refine (pev_item hs).trans ((bindK_eq h1).trans ((bindK_eq h2).trans ?_))
 have e:(itemD x y).map (·,g2) = some (d,g2):=mapo_eq e
 induction x using D.casesOn<;>first | exact absurd rfl (hx _) | exact e
theorem ev_hitem {a b:Expr} {q:Pos} {k:Nat} {y d:D} {S:Summ} (hs:∀ l u st p,b≠.Slice l u st p) (hT:T.mt "__getitem__" = some S) (h1:pev T n kd ro a g = some (.hdr k,g1)) (h2:pev T n kd ro b g1 = some (y,g2)) (e:S [.hdr k,y] g2 = some (d,g3)):pev T (n + 1) kd ro (.Subscript a b q) g = some (d,g3):=by
 refine (pev_item hs).trans ((bindK_eq h1).trans ((bindK_eq h2).trans ?_))
 show (match T.mt "__getitem__" with | some f=>f [.hdr k,y] g2 | none=>none) = _
 rw [hT];exact e
noncomputable def trX (T:Tbl) (n:Nat) (sc:Scope) (ifs:List Expr) (ro:Ro) (g:Sg):Option (D × Sg):=match ifs with
 | []=>some (.bool true,g)
 | [c]=>bindK (pt T n (fun x=>sc.names.lookup x) ro c g) fun b g=>some (.bool b,g)
 | _=>none
theorem trX_eq {ifs:List Expr} {sc:Scope}:trX T n sc ifs = trD (fun ro c g=>pt T n (fun x=>sc.names.lookup x) ro c g) ifs:=by
 rcases ifs with _ | ⟨c,_ | ⟨c2,r⟩⟩<;>rfl
theorem ev_comp {el t it:Expr} {ifs:List Expr} {sc:Scope} {p:Pos} {ds ys:List D} (hsc:scopeOkT sc kd t = true) (h1:psrc T n kd ro it g = some (ds,g1))
   (h2:compK (trD (fun ro c g=>pt T n (fun x=>sc.names.lookup x) ro c g) ifs) (fun ro g=>pev T n (fun x=>sc.names.lookup x) ro el g) t (freeIn sc ro) ds g1 = some (ys,g2)) (hl:ys.length≤lim):pev T (n + 1) kd ro (.ListComp el [⟨t,it,ifs,0⟩] sc p) g = some (.lst ys,g2):=by
 rw [← trX_eq] at h2
 show (if (!scopeOkT sc kd t) = true then none else
       bindK (psrc T n kd ro it g) fun ds g =>
         bindK (compK (trX T n sc ifs)
             (fun ro g=>pev T n (fun x=>sc.names.lookup x) ro el g) t (freeIn sc ro) ds g)
           fun ys g=>if ys.length≤lim then some (D.lst ys,g) else none) = _
 exact (ifn_eq (by rw [hsc];rfl)).trans ((bindK_eq h1).trans ((bindK_eq h2).trans (if_pos hl)))
theorem pev_call {f:Str} {q p:Pos} {as:List Expr} (h0:(kd f != some .globalImplicit||f==("__debug__":Str)) = false) (h1:(f==("_split_list":Str)) = false) (h2:(f==("Headers":Str)) = false) (h3:firstPlain as = true) (h4:(builtinF f&&!(as.all plainE&&decide (as.length < 20))) = false) :
   pev T (n + 1) kd ro (.Call (.Name f q) as [] p) g = bindK (evs (pev T n kd ro) as g) fun ys g=>pcall T f ys g:=by
 show (if (kd f != some .globalImplicit||f==("__debug__":Str)) = true then none else if (f==("_split_list":Str)) = true then splC T n kd ro g as else if (f==("Headers":Str)) = true then hdrC T n kd ro g as
     else if (!firstPlain as) = true then none else if (builtinF f&&!(as.all plainE&&decide (as.length < 20))) = true then none else bindK (evs (pev T n kd ro) as g) fun ys g=>pcall T f ys g) = _
 have neg:∀ {c:Bool} {x y:Option (D × Sg)},c = false→(if c = true then x else y) = y:=fun h=>by rw [h];rfl
 exact (neg h0).trans ((neg h1).trans ((neg h2).trans ((neg (by rw [h3];rfl)).trans (neg h4))))
theorem ev_fn {f:Str} {q p:Pos} {as:List Expr} {ys:List D} {d:D} (hkd:kd f = some .globalImplicit) (hf:(f==("__debug__":Str)||f==("_split_list":Str)||f==("Headers":Str)) = false) (hfp:firstPlain as = true) (hb:builtinF f = false)
   (h:evs (pev T n kd ro) as g = some (ys,g1)) (hc:pcall T f ys g1 = some (d,g2)):pev T (n + 1) kd ro (.Call (.Name f q) as [] p) g = some (d,g2):=by
 simp only [Bool.or_eq_false_iff] at hf
 exact (pev_call (by rw [hkd,hf.1.1];rfl) hf.1.2 hf.2 hfp (by rw [hb];rfl)).trans ((bindK_eq h).trans hc)
theorem ev_bi {f:Str} {q p:Pos} {as:List Expr} {ys:List D} {d:D} (hkd:kd f = some .globalImplicit) (hf:(f==("__debug__":Str)||f==("_split_list":Str)||f==("Headers":Str)) = false) (hp:(as.all plainE&&decide (as.length < 20)) = true) (hfp:firstPlain as = true)
   (h:evs (pev T n kd ro) as g = some (ys,g1)) (hc:pcall T f ys g1 = some (d,g2)):pev T (n + 1) kd ro (.Call (.Name f q) as [] p) g = some (d,g2):=by
 simp only [Bool.or_eq_false_iff] at hf
 exact (pev_call (by rw [hkd,hf.1.1];rfl) hf.1.2 hf.2 hfp (by rw [hp,Bool.not_true,Bool.and_false])).trans ((bindK_eq h).trans hc)
theorem ev_meth {o:Expr} {m:Str} {q p:Pos} {as:List Expr} {x d:D} {ys:List D} (h0:(notSuper o&&q.endLine==p.line&&decide (as.length < 20)&&as.all plainE) = true) (h1:pev T n kd ro o g = some (x,g1)) (h2:evs (pev T n kd ro) as g1 = some (ys,g2)) (h3:pmeth T m x ys g2 = some (d,g3)) :
   pev T (n + 1) kd ro (.Call (.Attribute o m q) as [] p) g = some (d,g3):=by
 show (if (notSuper o&&q.endLine==p.line&&decide (as.length < 20)&&as.all plainE) = true then bindK (pev T n kd ro o g) fun x g=>bindK (evs (pev T n kd ro) as g) fun ys g=>pmeth T m x ys g else none) = _
 exact (if_pos h0).trans ((bindK_eq h1).trans ((bindK_eq h2).trans h3))
theorem psrc_plain {e:Expr} (hn:∀ f q as p,e≠.Call (.Name f q) as [] p):psrc T (n + 1) kd ro e g = bindK (pev T n kd ro e g) fun d g=>(itemsD d).map (·,g):=by
 induction e using Expr.casesOn with
 | Call f as kws p =>
   induction f using Expr.casesOn with
   | Name f q=>induction kws using List.casesOn with
     | nil=>exact absurd rfl (hn _ _ _ _)
     | cons k r=>rfl
   | _=>rfl
 | _=>rfl
theorem src_of {e:Expr} {d:D} {ds:List D} (hn:∀ f q as p,e≠.Call (.Name f q) as [] p) (h:pev T n kd ro e g = some (d,g1)) (hi:itemsD d = some ds):psrc T (n + 1) kd ro e g = some (ds,g1) :=
 (psrc_plain hn).trans ((bindK_eq h).trans (mapo_eq hi))
noncomputable def rangeL (ys:List D):Option (List D):=match ys with
 | [.int b]=>rangeSrc 0 b 1
 | [.int a,.int b]=>rangeSrc a b 1
 | [.int a,.int b,.int c]=>rangeSrc a b c
 | _=>none
theorem src_rng {q p:Pos} {as:List Expr} {ys ds:List D} (hk:(kd ("range":Str) != some .globalImplicit||!as.all plainE) = false) (h:evs (pev T n kd ro) as g = some (ys,g1)) (hr:rangeL ys = some ds) :
   psrc T (n + 1) kd ro (.Call (.Name "range" q) as [] p) g = some (ds,g1):=by
 show (if (kd ("range":Str) != some .globalImplicit||!as.all plainE) = true then none else bindK (evs (pev T n kd ro) as g) rangeY) = _
 refine (ifn_eq hk).trans ((bindK_eq h).trans ?_)
 clear h
 rcases ys with _ | ⟨d1,l⟩
 · exact no_opt hr
 induction d1 using D.casesOn with
 | int a =>
   rcases l with _ | ⟨d2,l⟩
   · exact mapo_eq hr
   induction d2 using D.casesOn with
   | int b =>
     rcases l with _ | ⟨d3,l⟩
     · exact mapo_eq hr
     induction d3 using D.casesOn with
     | int c =>
       rcases l with _ | ⟨d4,l⟩
       · exact mapo_eq hr
       · exact no_opt hr
     | _=>exact no_opt hr
   | _=>exact no_opt hr
 | _=>exact no_opt hr
theorem tr_cmp {op:CmpOp} {a b:Expr} {p:Pos} {x y:D} {c:Bool} (h1:pev T n kd ro a g = some (x,g1)) (h2:pev T n kd ro b g1 = some (y,g2)) (h:cmpD op x y = some c):pt T (n + 1) kd ro (.Compare a [op] [b] p) g = some (c,g2):=by
 show (bindK (pev T n kd ro a g) fun x g=>bindK (pev T n kd ro b g) fun y g=>(cmpD op x y).map (·,g)) = _
 exact (bindK_eq h1).trans ((bindK_eq h2).trans (mapo_eq h))
theorem tr_name {x:Str} {p:Pos} {d:D} {c:Bool} (h1:pev T n kd ro (.Name x p) g = some (d,g1)) (h:truthD d = some c):pt T (n + 1) kd ro (.Name x p) g = some (c,g1):=by
 show (bindK (pev T n kd ro (.Name x p) g) fun x g=>(truthD x).map (·,g)) = _
 exact (bindK_eq h1).trans (mapo_eq h)
theorem tr_not {a:Expr} {p:Pos} {c:Bool} (h1:pt T n kd ro a g = some (c,g1)):pt T (n + 1) kd ro (.UnaryOp .Not a p) g = some (!c,g1):=by
 show (bindK (pt T n kd ro a g) fun b g=>some (!b,g)) = _
 exact bindK_eq h1
theorem tr_and {vs:List Expr} {p:Pos} {c:Bool} (h:allK (fun e g=>pt T n kd ro e g) vs g = some (c,g1)):pt T (n + 1) kd ro (.BoolOp .And vs p) g = some (c,g1):=h
theorem tr_or {vs:List Expr} {p:Pos} {c:Bool} (h:anyK (fun e g=>pt T n kd ro e g) vs g = some (c,g1)):pt T (n + 1) kd ro (.BoolOp .Or vs p) g = some (c,g1):=h
theorem pev_lower {o:Expr} {x:Str} {p q:Pos} (ho:pev T n kd ro o g = some (.str x,g)) (hns:notSuper o = true) (hl:(q.endLine==p.line) = true) (hs:strOk (Txt.lower x) = true) :
   pev T (n + 1) kd ro (.Call (.Attribute o "lower" q) [] [] p) g = some (.str (Txt.lower x),g) :=
 ev_meth (by rw [hns,hl];rfl) ho evs_nil (show (if strOk (Txt.lower x) = true then some (D.str (Txt.lower x),g) else none) = _ from if_pos hs)
theorem pt_eq {a b:Expr} {x y:Str} {p:Pos} (ha:pev T n kd ro a g = some (.str x,g)) (hb:pev T n kd ro b g = some (.str y,g)):pt T (n + 1) kd ro (.Compare a [.Eq] [b] p) g = some (x==y,g):=tr_cmp ha hb rfl
theorem pt_ne {a b:Expr} {x y:Str} {p:Pos} (ha:pev T n kd ro a g = some (.str x,g)) (hb:pev T n kd ro b g = some (.str y,g)):pt T (n + 1) kd ro (.Compare a [.NotEq] [b] p) g = some (!(x==y),g):=tr_cmp ha hb rfl
end
theorem forK_step {body:Fo→Sg→Option Fl} {kd:Kd} {t:Expr} {d:D} {ds:List D} {fo:Fo} {g:Sg} {b:List (Str × D)} (h:tgt t d = some b) (hc:(b.all fun p=>canSet kd p.1) = true):forK body kd t (d::ds) fo g = nextK (body (setEs b fo) g) fun fo g=>forK body kd t ds fo g:=by
 show (match tgt t d with
   | none=>none
   | some b=>if (b.all fun p=>canSet kd p.1) = true then nextK (body (setEs b fo) g) (fun fo g=>forK body kd t ds fo g) else none) = _
 rw [h]
 exact if_pos hc
theorem compK_yes {tr el:Ro→Sg→Option (D × Sg)} {t:Expr} {base:Ro} {g g1:Sg} {d y:D} {ds ys:List D} {b:List (Str × D)} (h:tgt t d = some b) (h1:tr (b++base) g = some (.bool true,g)) (h2:el (b++base) g = some (y,g)) (h3:compK tr el t base ds g = some (ys,g1)):compK tr el t base (d::ds) g = some (y::ys,g1):=by
 show (match tgt t d with
   | none=>none
   | some b=>bindK (tr (b++base) g) fun ok g=>match ok with
       | .bool true=>bindK (el (b++base) g) fun y g=>bindK (compK tr el t base ds g) fun ys g=>some (y::ys,g)
       | .bool false=>compK tr el t base ds g
       | _=>none) = _
 rw [h]
 exact (bindK_eq h1).trans ((bindK_eq h2).trans (bindK_eq h3))
theorem compK_no {tr el:Ro→Sg→Option (D × Sg)} {t:Expr} {base:Ro} {g:Sg} {d:D} {ds:List D} {b:List (Str × D)} (h:tgt t d = some b) (h1:tr (b++base) g = some (.bool false,g)):compK tr el t base (d::ds) g = compK tr el t base ds g:=by
 show (match tgt t d with
   | none=>none
   | some b=>bindK (tr (b++base) g) fun ok g=>match ok with
       | .bool true=>bindK (el (b++base) g) fun y g=>bindK (compK tr el t base ds g) fun ys g=>some (y::ys,g)
       | .bool false=>compK tr el t base ds g
       | _=>none) = _
 rw [h]
 exact bindK_eq h1
end Mine
end
section
set_option tactic.hygienic false
open PySem PySem.W PySem.Calls PyProof.Rows
set_option maxRecDepth 100000
namespace Mine
variable {C:Cst}
theorem rm_of_val {y:Str} {d:D}:∀ {fo:Fo},fo.lookup y = some (.val d)→(rmOwn fo).lookup y = some d
 | [],h=>by injection h
 | (z,.val e)::r,h=>by
   simp only [rmOwn]
   by_cases hb:(y==z) = true
   · simp only [List.lookup,hb,Option.some.injEq,EV.val.injEq] at h ⊢;exact h
   · have hb':(y==z) = false:=by simpa using hb
     simp only [List.lookup,hb'] at h ⊢
     exact rm_of_val h
 | (z,.own e)::r,h=>by
   simp only [rmOwn]
   by_cases hb:(y==z) = true
   · simp only [List.lookup,hb,Option.some.injEq] at h;injection h
   · have hb':(y==z) = false:=by simpa using hb
     simp only [List.lookup,hb'] at h
     exact rm_of_val h
theorem frz_of_val {y:Str} {d:D}:∀ {fo:Fo},fo.lookup y = some (.val d)→(frz fo).lookup y = some d
 | [],h=>by injection h
 | (z,.val e)::r,h=>by
   simp only [frz]
   by_cases hb:(y==z) = true
   · simp only [List.lookup,hb,Option.some.injEq,EV.val.injEq] at h ⊢;exact h
   · have hb':(y==z) = false:=by simpa using hb
     simp only [List.lookup,hb'] at h ⊢
     exact frz_of_val h
 | (z,.own e)::r,h=>by
   simp only [frz]
   by_cases hb:(y==z) = true
   · simp only [List.lookup,hb,Option.some.injEq] at h;injection h
   · have hb':(y==z) = false:=by simpa using hb
     simp only [List.lookup,hb'] at h ⊢
     exact frz_of_val h
theorem valsOf_of {y:Str} {d:D}:∀ {l:List (Str × D)},l.lookup y = some d→(valsOf l).lookup y = some (.val d)
 | [],h=>by injection h
 | (z,e)::r,h=>by
   show (((z,EV.val e)::valsOf r:Fo)).lookup y = _
   by_cases hb:(y==z) = true
   · simp only [List.lookup,hb,Option.some.injEq] at h ⊢;rw [h]
   · have hb':(y==z) = false:=by simpa using hb
     simp only [List.lookup,hb'] at h ⊢
     exact valsOf_of h
noncomputable def hget (ps:List (Str × Str)) (n:Str):Option Str:=(ps.find? fun p=>Txt.lower p.1==n).map (·.2)
noncomputable def pairD (p:Str × Str):D:=.tup [.str p.1,.str p.2]
noncomputable def getBody (p:Nat→Pos):List Stmt :=
 [.Assign [.Name "name" (p 0)] (.Call (.Attribute (.Name "self" (p 1)) "_convert_string_type" (p 2)) [.Call (.Attribute (.Name "name" (p 3)) "lower" (p 4)) [] [] (p 5)] [⟨some "name",.Constant (.bool true) 0 (p 6),p 7⟩] (p 8)) (p 9),
  .For (.Tuple [.Name "k" (p 10),.Name "v" (p 11)] 0 (p 12)) (.Attribute (.Name "self" (p 13)) "_headers" (p 14))
    [.If (.Compare (.Call (.Attribute (.Name "k" (p 15)) "lower" (p 16)) [] [] (p 17)) [.Eq] [.Name "name" (p 18)] (p 19)) [.Return (some (.Name "v" (p 20))) (p 21)] [] (p 22)] [] (p 23),
  .Return (some (.Name "default" (p 24))) (p 25)]
theorem get_loop (kd:Kd) (p:Nat→Pos) (hl:((p 16).endLine==(p 17).line) = true) (hk:canSet kd "k" = true) (hv:canSet kd "v" = true) (n:Str):∀ (ps:List (Str × Str)) (fo:Fo),(∀ q∈ps,strOk (Txt.lower q.1) = true)→fo.lookup ("name":Str) = some (EV.val (.str n)) →
   ∃ fl,forK (fun fo g=>pexecs T0 [] 8 kd [.If (.Compare (.Call (.Attribute (.Name "k" (p 15)) "lower" (p 16)) [] [] (p 17)) [.Eq] [.Name "name" (p 18)] (p 19)) [.Return (some (.Name "v" (p 20))) (p 21)] [] (p 22)] fo g) kd (.Tuple [.Name "k" (p 10),.Name "v" (p 11)] 0 (p 12)) (ps.map pairD) fo [] = some fl ∧
     match hget ps n with
     | some v=>fl = .ret (.str v) []
     | none=>∃ fo',fl = .next fo' []∧∀ y:Str,y≠"k"→y≠"v"→fo'.lookup y = fo.lookup y
 | [],fo,_,_=>⟨_,rfl,fo,rfl,fun J J J=>rfl⟩
 | (k,v)::r,fo,hs,hn=>by
   have hsk:=hs (k,v) (.head _)
   have hset:((([(("k":Str),D.str k),(("v":Str),D.str v)]:List (Str × D))).all fun p=>canSet kd p.1) = true:=by simp [hk,hv]
   have nd:(([(("k":Str),D.str k),(("v":Str),D.str v)]:List (Str × D)).map (·.1)).Nodup:=by show ([("k":Str),("v":Str)]:List Str).Nodup;decide
   have fk:(setEs [(("k":Str),D.str k),(("v":Str),D.str v)] fo).lookup ("k":Str) = some (EV.val (.str k)):=by rw [setEs_lookup _ _ _ nd];rfl
   have fv:(setEs [(("k":Str),D.str k),(("v":Str),D.str v)] fo).lookup ("v":Str) = some (EV.val (.str v)):=by rw [setEs_lookup _ _ _ nd];rfl
   have fn:(setEs [(("k":Str),D.str k),(("v":Str),D.str v)] fo).lookup ("name":Str) = some (EV.val (.str n)):=by rw [setEs_lookup _ _ _ nd];exact hn
   have other:∀ y:Str,y≠"k"→y≠"v"→(setEs [(("k":Str),D.str k),(("v":Str),D.str v)] fo).lookup y = fo.lookup y:=fun y h1 h2=>by
     rw [setEs_lookup _ _ _ nd]
     have e1:(y==("k":Str)) = false:=by simpa using h1
     have e2:(y==("v":Str)) = false:=by simpa using h2
     simp [List.lookup,e1,e2]
   generalize hfo1:setEs [(("k":Str),D.str k),(("v":Str),D.str v)] fo = fo1 at fk fv fn other
   have test:pt T0 6 kd (rmOwn fo1) (.Compare (.Call (.Attribute (.Name "k" (p 15)) "lower" (p 16)) [] [] (p 17)) [.Eq] [.Name "name" (p 18)] (p 19)) [] = some (Txt.lower k==n,[]) :=
     pt_eq (pev_lower (pev_name (rm_of_val fk) (by decide)) rfl hl hsk) (pev_name (rm_of_val fn) (by decide))
   have step:pexecs T0 [] 8 kd [.If (.Compare (.Call (.Attribute (.Name "k" (p 15)) "lower" (p 16)) [] [] (p 17)) [.Eq] [.Name "name" (p 18)] (p 19)) [.Return (some (.Name "v" (p 20))) (p 21)] [] (p 22)] fo1 [] = if (Txt.lower k==n) = true then some (.ret (.str v) []) else some (.next fo1 []):=by
     induction hc:(Txt.lower k==n) using Bool.casesOn with
     | true=>exact ex_ret (st_if (c:=true) (test.trans (by rw [hc])) (ex_ret (st_return (pev_name (frz_of_val fv) (by decide)))))
     | false=>exact ex_cons (st_if (c:=false) (test.trans (by rw [hc])) ex_nil) ex_nil
   rw [List.map_cons,forK_step (b:=[(("k":Str),D.str k),(("v":Str),D.str v)]) rfl hset,hfo1,step]
   by_cases hc:(Txt.lower k==n) = true
   · rw [if_pos hc]
     exact ⟨_,rfl,by simp only [hget,List.find?,hc];rfl⟩
   · have hc':(Txt.lower k==n) = false:=by simpa using hc
     rw [if_neg hc]
     refine zea (get_loop kd p hl hk hv n r fo1 (fun q hq=>hs q (.tail _ hq)) fn) fun fl h1 h2=>?_
     refine ⟨fl,h1,?_⟩
     have e:hget ((k,v)::r) n = hget r n:=by simp only [hget,List.find?,hc']
     rw [e]
     induction hg:hget r n using Option.casesOn with
     | some w=>rw [hg] at h2;exact h2
     | none =>
       rw [hg] at h2
       refine zea h2 fun fo' q1 q2=>?_;clear h2
       exact ⟨fo',q1,fun y a b=>(q2 y a b).trans (other y a b)⟩
end Mine
end
section
set_option tactic.hygienic false
open PySem PySem.W PySem.Calls PyProof.Rows
set_option maxRecDepth 100000
namespace Mine
variable {C:Cst}
theorem AllOk.up {lv lv' n:Nat} {T:Tbl} (x:AllOk C lv n T) (h:lv≤lv'):AllOk C lv' n T where
 ev:=fun kd ro=>(x.ev kd ro).up h
 tr:=fun kd ro=>(x.tr kd ro).up h
 src:=fun kd ro e g ds g' he=>⟨(x.src kd ro e g ds g' he).1.up h,(x.src kd ro e g ds g' he).2⟩
 spl:=fun kd ro e g ds g' he=>⟨fun A env Z io s ha=>(x.spl kd ro e g ds g' he).1 A env Z io s (ha.le h),(x.spl kd ro e g ds g' he).2⟩
theorem ok0 (r:RootOk C):∀ k,k≤10→AllOk C.bare 20 k T0:=fun k hk=>(allOk_bare r k).up (by lia)
theorem tb0:TblOk C.bare 20 T0:=⟨fun J J h=>(by injection h),fun J J h=>(by injection h),fun J h=>(by injection h)⟩
noncomputable def dNil {α:Type} (ds:List D) (x:Option α):Option α:=match ds with
 | []=>x
 | _::_=>none
noncomputable def dHdr {α:Type} (ds:List D) (F:Nat→List D→Option α):Option α:=match ds with
 | d::r=>(match d with | .hdr k=>F k r | _=>none)
 | []=>none
noncomputable def dStr {α:Type} (ds:List D) (F:Str→List D→Option α):Option α:=match ds with
 | d::r=>(match d with | .str k=>F k r | _=>none)
 | []=>none
noncomputable def dLst {α:Type} (ds:List D) (F:List D→List D→Option α):Option α:=match ds with
 | d::r=>(match d with | .lst k=>F k r | _=>none)
 | []=>none
theorem dNil_v {α:Type} {ds:List D} {x:Option α} {y:α} (h:dNil ds x = some y):ds = []∧x = some y:=by
 induction ds using List.casesOn with
 | nil=>exact ⟨rfl,h⟩
 | cons d r=>exact no_opt h
theorem dHdr_v {α:Type} {ds:List D} {F:Nat→List D→Option α} {x:α} (h:dHdr ds F = some x):∃ k r,ds = .hdr k::r∧F k r = some x:=by
 induction ds using List.casesOn with
 | nil=>exact no_opt h
 | cons d r=>induction d using D.casesOn<;>first | exact no_opt h | exact ⟨_,_,rfl,h⟩
theorem dStr_v {α:Type} {ds:List D} {F:Str→List D→Option α} {x:α} (h:dStr ds F = some x):∃ k r,ds = .str k::r∧F k r = some x:=by
 induction ds using List.casesOn with
 | nil=>exact no_opt h
 | cons d r=>induction d using D.casesOn<;>first | exact no_opt h | exact ⟨_,_,rfl,h⟩
theorem bind_v {α β:Type} {x:Option α} {F:α→Option β} {y:β} (h:x.bind F = some y):∃ a,x = some a∧F a = some y:=Option.bind_eq_some_iff.mp h
noncomputable def hgetD (ps:List (Str × Str)) (n:Str) (d:D):D:=match hget ps n with
 | some v=>.str v
 | none=>d
noncomputable def getS:Summ:=fun ds g=>dHdr ds fun k r=>dStr r fun n r=>g[k]?.bind fun ps =>
 if clean (Txt.lower n)&&ps.all (fun q=>strOk (Txt.lower q.1)) then (match r with
   | []=>some (hgetD ps (Txt.lower n) .none,g)
   | d::r=>dStr (d::r) fun x r=>dNil r (some (hgetD ps (Txt.lower n) (.str x),g))) else none
inductive GetFn (C:Cst) (a:Addr):Prop
 | mk (fd:FuncData) (p:Nat→Pos)
   (e1:FnAt C a fd (getBody p)) (e2:((p 2).endLine==(p 8).line) = true) (e3:((p 4).endLine==(p 5).line) = true) (e4:((p 16).endLine==(p 17).line) = true) (e5:(∀ x n (M:Model) (A:Around) (E:Value→Shared→Prop) (Q:List (Str × Value)→Shared→Prop) (s:Shared),(∀ b o,C.H.get? b = some o→s.heap.get? b = some o)→Q [(("self":Str),x),(("name":Str),n),(("default":Str),.none)] s→wpAny M A (bindArgs fd ⟨[x,n],[]⟩) Q E s)) (e6:(∀ x n d (M:Model) (A:Around) (E:Value→Shared→Prop) (Q:List (Str × Value)→Shared→Prop) (s:Shared),(∀ b o,C.H.get? b = some o→s.heap.get? b = some o)→Q [(("self":Str),x),(("name":Str),n),(("default":Str),d)] s→wpAny M A (bindArgs fd ⟨[x,n,d],[]⟩) Q E s)) (e7:(∀ y∈(["self","name","default","k","v"]:List Str),fd.scope.names.lookup y = some .local)) (e8:fd.scope.names.lookup ("_split_list":Str)≠some .globalImplicit)
structure GetAt (C:Cst) (a:Addr):Prop where
 fn:GetFn C a
theorem clean_at' {x:Str} (h:clean x = true):strOk x = true:=by
 unfold clean at h
 simp only [Bool.and_eq_true] at h
 exact h.2
section
variable {K:Frag} {fs:List (Str × Addr)} {a ac:Addr} {Z:List Addr} {io:HI} {g:Sg} {s s':Shared}
theorem io_nil {Z:List Addr} {io':HI} (k:Sok C Z io' [] s):io' = []:=by
 have:=k.st.len
 simpa using this
theorem hdr_later {V:List Addr} {t} {ps:List (Str × Str)} (HH:HdrAt C V s.heap t ps) (kp:Keeps s s'):HdrAt C V s'.heap t ps:=by
 refine ze2a kp fun h' tk e2q hk=>?_;clear kp;subst e2q
 exact HH.keeps C hk
theorem get_run (k:HdrFns C K fs) (hcv:fs.lookup ("_convert_string_type":Str) = some ac) (cv:ConvOk C ac) (rt:RootOk C) (ga:GetAt C a) {A:Around} (ha:AOkC A 21) (hk:Sok C Z io g s) {i:Nat} {t} {ps:List (Str × Str)} {n:Str} {tk:Tok} {dflt:D} {vd:Value} {pargs:List Value}
   (ht:io[i]? = some t) (hps:g[i]? = some ps) (hn:n.length≤lim) (hd:(dflt = .none∧vd = .none∧pargs = [.ref t.1,.str n tk])∨(∃ x tx,dflt = .str x∧x.length≤lim∧vd = .str x tx∧pargs = [.ref t.1,.str n tk,vd]))
   (hcl:clean (Txt.lower n) = true) (hall:∀ q∈ps,strOk (Txt.lower q.1) = true) :
   wpAny (model C.prog C.w) A (call (.ref a) pargs) (fun v s'=>Keeps s s'∧Has C (VV C io Z) io s'.heap (match hget ps (Txt.lower n) with | some v=>.str v | none=>dflt) v) noE s:=by
 obtain ⟨fd,p,fn,l1,l2,l3,b2,b3,hloc,hns⟩:=ga.fn
 have HH:=hk.st.at' i t ps ht hps
 have kb:=hk.bare rt
 have can:∀ y∈(["self","name","default","k","v"]:List Str),canSet (fun y=>fd.scope.names.lookup y) y = true:=fun y hy=>by unfold canSet;simp only [hloc y hy];rfl
 have hdv:Has C.bare (VV C.bare [] (VV C io Z)) [] s.heap dflt vd:=by
   rcases hd with ⟨rfl,rfl,_⟩ | ⟨x,tx,rfl,hx,rfl,_⟩
   · simp only [Has]
   · exact ⟨hx,tx,rfl⟩
 refine fun_enter (C:=C.bare) (L:=20) (binds:=[(("self":Str),.ref t.1),(("name":Str),.str n tk),(("default":Str),vd)]) (l:=[(("name":Str),.str n),(("default":Str),dflt)]) rt.bare (fn.bare hns) (fun A E Q hq=>?_) (fun x hx=>?_) (by show ([("self":Str),("name":Str),("default":Str)]:List Str).Nodup;decide) ha kb (by show ([("name":Str),("default":Str)]:List Str).Nodup;decide) (fun y d hy=>?_) fun env s2 F kp2 hF xf hvar ha2=>?_
 · rcases hd with ⟨_,rfl,rfl⟩ | ⟨x,tx,_,_,rfl,rfl⟩
   · exact b2 _ _ _ _ _ _ _ hk.base hq
   · exact b3 _ _ _ _ _ _ _ _ hk.base hq
 · simp only [List.mem_cons,List.not_mem_nil,or_false] at hx
   rcases hx with rfl | rfl | rfl
   · exact can "self" (by decide)
   · exact can "name" (by decide)
   · exact can "default" (by decide)
 · by_cases h1:y = "name"
   · subst h1
     have e:d = .str n:=by simpa [List.lookup] using hy.symm
     subst e
     exact ⟨.str n tk,rfl,by exact ⟨hn,tk,rfl⟩⟩
   · by_cases h2:y = "default"
     · subst h2
       have e:d = dflt:=by
         have:(("default":Str)==("name":Str)) = false:=by decide
         simpa [List.lookup,this] using hy.symm
       subst e
       exact ⟨vd,rfl,hdv⟩
     · have e1:(y==("name":Str)) = false:=by simpa using h1
       have e2:(y==("default":Str)) = false:=by simpa using h2
       simp [List.lookup,e1,e2] at hy
 · let kd:Kd:=fun y=>fd.scope.names.lookup y
   let Zb:=VV C io Z
   have self2:VarAt kd env s2.heap "self" (.ref t.1):=hvar "self" _ rfl
   have HH2:=hdr_later HH kp2
   have hb2:∀ b o,C.H.get? b = some o→s2.heap.get? b = some o:=xf.sok.base
   have fo0:(valsOf [(("name":Str),D.str n),(("default":Str),dflt)]).lookup ("name":Str) = some (EV.val (.str n)):=rfl
   have fd0:(valsOf [(("name":Str),D.str n),(("default":Str),dflt)]).lookup ("default":Str) = some (EV.val dflt):=valsOf_of (by
     have:(("default":Str)==("name":Str)) = false:=by decide
     simp [List.lookup,this])
   have main:wpAny (model C.prog C.w) (A.deeper env) (execs (getBody p) env) (fun fl s'=>∃ v,fl = .ret v∧Keeps s s'∧Has C (VV C io Z) io s'.heap (match hget ps (Txt.lower n) with | some v=>.str v | none=>dflt) v) noE s2:=?_
   · refine noE_mono main ?_
     rintro fl s3 ⟨v,rfl,h3⟩
     exact h3
   refine wpAny_execs_cons (wpAny_Assign_Name (conv_call k hcv cv rt (by have:=ha2.dp;lia) l1 rfl (fun Q hq=>var_ok xf self2 (by decide) hq) hb2 ⟨HH2.inst,HH2.dict⟩
     (noE_mono ((ok0 rt 6 (by decide)).ev kd _ _ _ _ _ (pev_lower (pev_name (rm_of_val fo0) (by decide)) rfl l2 (clean_at' hcl)) (A.deeper env) env _ [] s2 ha2 xf.envR xf.sok) fun v s3 ⟨io3,x3,k3,hh⟩=>?_)) rfl)
   have e3:=io_nil k3
   subst e3
   have hh':=hh
   refine zae hh' fun hlen t3 e2q=>?_;clear hh';subst e2q
   have xf3:=xf.step x3 k3
   refine ⟨_,t3,rfl,hcl,xf3.sok.base,fun s4 kp4=>?_⟩
   have xf4:=xf3.step (Keeps.grow C.bare kp4) (Keeps.sok C.bare kp4 xf3.sok)
   have self4:VarAt kd env s4.heap "self" (.ref t.1):=by
     have keep:∀ b∈F,∀ o,s2.heap.get? b = some o→s4.heap.get? b = some o:=fun b hb o e=>by
       refine ze2a kp4 fun h' tk' e4 hk4=>?_;clear kp4
       rw [e4]
       exact hk4 b o (x3.keep b o e (by intro h;cases h) (by intro h;cases h))
     exact self2.keep (fun o e=>keep _ xf.lF o e) fun c o hk hc e=>by
       refine ze2a3 (xf.all _ hk) fun c' J h1 J h4 J=>?_
       rw [hc] at h1;(injection h1 with h1;subst h1)
       exact keep _ h4 o e
   refine xf4.store' (ev:=.val (.str (Txt.lower n))) (a:=0) (can "name" (by decide)) (by exact ⟨hlen,t3,rfl⟩) (fun l hl=>by injection hl) fun s5 xf5 kp5 vk5=>?_
   have self5:=vk5 _ _ (by decide) self4
   have g5:Keeps s s5:=Grow.keepsB xf5.grow
   have HH5:=hdr_later HH g5
   have n5:(setE "name" (EV.val (.str (Txt.lower n))) (valsOf [(("name":Str),D.str n),(("default":Str),dflt)])).lookup ("name":Str) = some (EV.val (.str (Txt.lower n))):=(setE_lookup _ _).trans (if_pos rfl)
   have d5:(setE "name" (EV.val (.str (Txt.lower n))) (valsOf [(("name":Str),D.str n),(("default":Str),dflt)])).lookup ("default":Str) = some (EV.val dflt):=(setE_lookup _ _).trans ((if_neg (by decide)).trans fd0)
   refine zea (get_loop kd p l3 (can "k" (by decide)) (can "v" (by decide)) (Txt.lower n) ps _ hall n5) fun fl hrun hres=>?_
   refine zea HH.list fun vs e1q hhl=>?_;obtain ⟨n0,e0⟩:=e1q
   have kk5:∀ b o,s.heap.get? b = some o→s5.heap.get? b = some o:=by refine ze2a g5 fun h' tk' e5 hk5=>?_;clear g5;rw [e5];exact hk5
   have hpl:s5.heap.PlainList t.2.2 vs:=⟨n0,kk5 _ _ e0⟩
   have tF:t.2.2∉F:=fun hm=>by
     rw [hF _ hm] at e0;injection e0
   refine wpAny_execs_cons (noE_mono (for_ok (C:=C.bare) (X:=[]++F) (fl:=fl) nofun (fun K Z0 fo g fl hb ad O io s x=>(sts_ok tb0 (ok0 rt) 8 (by decide)).2 _ _ _ _ _ hb (A.deeper env) K _ _ Z0 env ad O F io s ha2 x) xf5 (ds:=ps.map pairD) (g1:=[])
     (Attribute_name (var_ok xf5 self5 (by decide) (own_get k.cls xf5.sok.base ⟨HH5.inst,HH5.dict⟩ ?_))) (fun b hb=>hb) ha2 hrun) ?_)
   · have kt:Keeps s5 { s5 with toks:=s5.toks + 1 }:=keepsToks _
     refine ⟨[],Keeps.grow C.bare kt,Keeps.sok C.bare kt xf5.sok,src_listX ha2 (by rw [List.length_map];exact HH5.len) (fun hm=>tF (by simpa [VV,Cst.bare,adr] using hm)) hpl (hasL_bare.mpr ?_)⟩
     refine HasL.mono C (fun a o e hn=>⟨kk5 a o e,fun hm=>?_⟩) (fun J J e=>e) hhl
     have:a∈F∨a∈VV C io Z:=by simpa [VV,Cst.bare,adr] using hm
     rcases this with h | h
     · rw [hF a h] at e;injection e
     · exact hn h
   · intro f s6 h6
     induction hg:hget ps (Txt.lower n) using Option.casesOn with
     | some v =>
       rw [hg] at hres
       simp only at hres
       subst hres
       obtain ⟨w,rfl,io6,x6,k6,h6⟩:=h6
       refine ⟨w,rfl,Grow.keepsB x6,?_⟩
       exact h6
     | none =>
       rw [hg] at hres
       refine zea hres fun fo' e1q hfo'=>?_;clear hres;subst e1q
       obtain ⟨rfl,ad6,O6,io6,x6⟩:=h6
       refine zea (x6.vals "default" _ ((hfo' _ (by decide) (by decide)).trans d5)) fun w hw hdw=>?_
       refine wpAny_execs_cons (wpAny_Return_some (var_ok x6 hw (by decide) ⟨w,rfl,Grow.keepsB x6.grow,?_⟩))
       rcases hd with ⟨rfl,_,_⟩ | ⟨y,ty,rfl,_,_,_⟩
       · exact hdw
       · exact hdw
set_option tactic.hygienic true in
theorem get_ok (k:HdrFns C K fs) (hcv:fs.lookup ("_convert_string_type":Str) = some ac) (cv:ConvOk C ac) (rt:RootOk C) (ga:GetAt C a):CallOk C 21 (.ref a) getS:=by
 intro ds g d g' h A Z io s vs ha hk hv
 refine ze2a (dHdr_v h) fun i r e1 h=>?_
 subst e1
 refine ze2a (dStr_v h) fun n r e1 h=>?_
 subst e1
 refine zea (bind_v h) fun ps hps h=>?_
 refine ze2a2e2a2 hv fun v1 J e2q h1 v2 vr e6q h2 h3=>?_;clear hv;subst e2q;subst e6q
 refine zea h1 fun t ht e2q=>?_;clear h1;subst e2q
 refine zae h2 fun hn tk e2q=>?_;clear h2;subst e2q
 refine za (if_some h) fun hc h=>?_
 rw [Bool.and_eq_true,List.all_eq_true] at hc
 have fin:∀ (dflt:D) (vd:Value),((dflt = .none∧vd = .none∧(.ref t.1::.str n tk::vr:List Value) = [.ref t.1,.str n tk])∨(∃ x tx,dflt = .str x∧x.length≤lim∧vd = .str x tx∧(.ref t.1::.str n tk::vr:List Value) = [.ref t.1,.str n tk,vd]))→wpAny (model C.prog C.w) A (call (.ref a) (.ref t.1::.str n tk::vr)) (Post C Z io s (hgetD ps (Txt.lower n) dflt) g) noE s:=fun dflt vd hd =>
   noE_mono (get_run k hcv cv rt ga ha hk ht hps hn hd hc.1 hc.2) fun v s' h=>⟨io,Keeps.grow C h.1,Keeps.sok C h.1 hk,h.2⟩
 induction r using List.casesOn with
 | nil =>
   injection (show some (hgetD ps (Txt.lower n) .none,g) = some (d,g') from h) with h;injection h with e0q e1q;subst e0q;subst e1q
   subst h3
   exact fin _ .none (.inl ⟨rfl,rfl,rfl⟩)
 | cons d1 r =>
   refine ze2a (dStr_v (show dStr (d1::r) _ = some (d,g') from h)) fun x r' e1 h=>?_
   injection e1 with e1 e2
   subst e1;subst e2
   refine za (dNil_v h) fun e1 h=>?_
   subst e1
   apply i2 h
   refine ze2a2 h3 fun v3 J e2q e3q e4q=>?_;clear h3;subst e2q;obtain ⟨hx,tx,rfl⟩:=e3q;subst e4q
   exact fin _ _ (.inr ⟨_,tx,rfl,hx,rfl,rfl⟩)
end
end Mine
end
section
set_option tactic.hygienic false
open PySem PySem.W PySem.Calls PyProof.Rows
set_option maxRecDepth 100000
namespace Mine
section
variable {prog:Program} {w:World} {A:Around} {E:Value→Shared→Prop} {s:Shared}
theorem setSlice_all {l D sl:Addr} {xs ys:Array Value} {Q:Unit→Shared→Prop} (hl:s.heap.PlainList l xs) (hD:s.heap.PlainList D ys) (hs:s.heap.IsSliceOf sl .none .none .none) (hsz:xs.size + ys.size≤sizeLine)
   (hQ:∀ h',h'.PlainList l ys→Heap.SameBut l s.heap h'→Q () { s with heap:=h' }):wpAny (model prog w) A (setItem (.ref l) (.ref sl) (.ref D)) Q E s:=by
 refine ze hl fun n ho=>?_;clear hl
 refine ze hD fun nD hoD=>?_;clear hD
 refine zea2 hs fun os hso hsc hsd=>?_;clear hs
 have hT:s.TypeIs (.ref l) "list":=⟨_,ho,rfl⟩
 have hS:s.TypeIs (.ref sl) "slice":=⟨_,hso,hsc⟩
 unfold setItem
 refine wpAny_holding ?_
 refine wpAny_bind (wpAny_sequenceKey hT (by decide) ?_)
 refine wpAny_bind (wpAny_callSpecial?_slot (name:=Str.ofString "__setitem__") hT slot_list_setitem (wpAny_call_entry slot_list_setitem hT entry_list_setitem ?_ (args_list_setitem _ _ _)))
 show wpAny _ _ (Builtin.List.listSubscript? (.ref sl) >>= _) _ _ s
 refine wpAny_bind ?_
 unfold Builtin.List.listSubscript?
 refine wpAny_bind (wpAny_specialOf hS slice_no_index ?_)
 rw [if_pos (by rfl)]
 refine wpAny_pure ?_
 dsimp only
 refine wpAny_bind (wpAny_typeOf hS ?_)
 rw [if_neg (by decide)]
 refine wpAny_bind ?_
 rw [listSliceParts_eq]
 refine wpAny_bind (wpAny_field hso hsd rfl (wpAny_bind (wpAny_listPart .none ?_)))
 rw [if_neg (by decide)]
 refine wpAny_bind (wpAny_field hso hsd rfl (wpAny_bind (wpAny_listPart .none ?_)))
 refine wpAny_bind (wpAny_field hso hsd rfl (wpAny_bind (wpAny_listPart .none ?_)))
 refine wpAny_pure ?_
 dsimp only
 have items:∀ {a:Addr} {ws:Array Value} {m:Nat} {Q:Array Value→Shared→Prop} {E:Value→Shared→Prop} {A:Around},s.heap.get? a = some { cls:=.type "list",data:=.seq ws m }→Q ws s→wpAny (model prog w) A (Builtin.List.listItems (.ref a)) Q E s:=fun h1 h2=>by
   unfold Builtin.List.listItems
   exact wpAny_bind (wpAny_seqItems h1 rfl (wpAny_pure h2))
 have news:∀ {Q:Array Value→Shared→Prop} {E:Value→Shared→Prop} {A:Around},Q ys s→wpAny (model prog w) A (Builtin.List.listAllItems (.ref D) "must assign iterable to extended slice") Q E s:=fun {Q E A} hq=>by
   unfold Builtin.List.listAllItems
   refine wpAny_bind (wpAny_typeOf (T:="list") ⟨_,hoD,rfl⟩ ?_)
   rw [if_pos (by rfl)]
   exact items hoD hq
 have hb:sliceBounds none none none xs.size = (0,(xs.size:Int),1):=by unfold sliceBounds;simp
 have hi:sliceIndices (rawPart none) (rawPart none) (rawPart none) xs.size = pure (0,(xs.size:Int),1):=by rw [sliceIndices_raw _ _ _ _ (by nofun),hb]
 have hlong:Builtin.List.listTooLong (xs.size + ys.size) = false:=by unfold Builtin.List.listTooLong;simpa using hsz
 have hfin:xs.extract 0 (0:Int).toNat++ys++xs.extract (max (0:Int) (xs.size:Int)).toNat = ys:=by
   have e:(max (0:Int) (xs.size:Int)).toNat = xs.size:=by lia
   rw [e];simp
 have hnew:(s.heap.update l (Obj.mapSeq fun zs=>zs.extract 0 (0:Int).toNat++ys++zs.extract (max (0:Int) (xs.size:Int)).toNat)).PlainList l ys:=by
   refine ⟨if (ys.size==xs.size) = true then n else n + 1,(Heap.get?_update_self _ ho rfl).trans ?_⟩
   exact congrArg (fun zs:Array Value=>some ({ cls:=.type "list",data:=.seq zs (if (zs.size==xs.size) = true then n else n + 1) }:Obj)) hfin
 have hsz2:(xs.extract 0 (0:Int).toNat++ys++xs.extract (max (0:Int) (xs.size:Int)).toNat).size≤sizeLine + 1:=by rw [hfin];lia
 have q:=hQ _ hnew (Heap.SameBut.update ..)
 split
 · refine wpAny_bind (items hoD (wpAny_bind (items ho ?_)))
   rw [hi]
   refine wpAny_bind (wpAny_pure ?_)
   dsimp only
   rw [if_pos (by rfl)]
   refine wpAny_bind (wpAny_rule ?_)
   rw [hlong,if_neg (by decide)]
   refine wpAny_bind (wpAny_updateSeq ho rfl (wpAny_bind (wpAny_letGo (wpAny_pure ⟨_,rfl,wpAny_pure q⟩))) (by lia) hsz2)
 · refine wpAny_bind (news (wpAny_bind (items ho ?_)))
   rw [hi]
   refine wpAny_bind (wpAny_pure ?_)
   dsimp only
   rw [if_pos (by rfl)]
   refine wpAny_bind (wpAny_rule ?_)
   rw [hlong,if_neg (by decide)]
   refine wpAny_bind (wpAny_updateSeq ho rfl (wpAny_bind (wpAny_letGo (wpAny_pure ⟨_,rfl,wpAny_pure q⟩))) (by lia) hsz2)
end
variable {C:Cst}
section
variable {lv:Nat} {A:Around} {Z:List Addr} {io:HI} {kd:Kd} {env:Env} {ro:Ro} {g0 g g':Sg} {s:Shared}
theorem comp_at {X:List Addr} {elt iter t:Expr} {ifs:List Expr} {sc:Scope} {p:Pos} {ds ys:List D} {tr el:Ro→Sg→Option (D × Sg)} (ha:AOk A lv) (hk:Sok C Z io g0 s) (he:EnvOk C kd Z io env ro s.heap) (hsc:scopeOkT sc kd t = true)
   (hit:wpAny (model C.prog C.w) A (eval iter env) (SrcPost C A X Z io s ds g) noE s) (hs:∀ elts k p,iter≠.Set elts k p) (hok:CompOk C lv elt ifs sc tr el)
   (hrun:compK tr el t (freeIn sc ro) ds g = some (ys,g')) (hyl:ys.length≤lim):wpAny (model C.prog C.w) A (eval (.ListComp elt [⟨t,iter,ifs,0⟩] sc p) env) (Post C Z io s (.lst ys) g') noE s:=by
 refine za4ea (comp_envT hsc) fun h1 h2 h3 h4 ns hns h5=>?_
 rw [eval_ListComp]
 refine comp_ok (use:=none) ha hk he hit (folded_none hs) h2 h1 hns h5 h3 h4 hrun hyl (hok.tr A ha) (hok.el A ha) ?_
 intro D' Cc s' io' m' xg kg hh hn hnone
 refine ⟨m',hn,fun h' hsb=>?_⟩
 have hkk:∀ b o,s'.heap.get? b = some o→b∉[Cc]→h'.get? b = some o:=fun b o e hb=>hsb.extBut b o (by simpa using hb) e
 have same:∃ h'' tk,({ s' with heap:=h' }:Shared) = { s' with heap:=h'',toks:=tk }:=⟨h',s'.toks,rfl⟩
 refine ⟨io',xg.drop (F:=[Cc]) same hkk fun f hf=>by simp only [List.mem_singleton] at hf;subst hf;exact hnone,Sok.drop (F:=[Cc]) kg same hkk fun f hf hz=>?_,Has.drop (F:=[Cc]) (s:=s') (s':={ s' with heap:=h' }) hh hkk⟩
 simp only [List.mem_singleton] at hf;subst hf
 refine ze (hk.zal f hz) fun o e=>?_
 rw [hnone] at e;injection e
end
noncomputable def itemBody (p:Nat→Pos):List Stmt:=[.Return (some (.Call (.Attribute (.Name "self" (p 0)) "get" (p 1)) [.Name "name" (p 2)] [] (p 3))) (p 4)]
noncomputable def itemS:Summ:=fun ds g=>dHdr ds fun k r=>dStr r fun n r=>dNil r (getS [.hdr k,.str n] g)
inductive ItemFn (C:Cst) (a:Addr):Prop
 | mk (fd:FuncData) (p:Nat→Pos)
   (e1:FnAt C a fd (itemBody p)) (e2:((p 1).endLine==(p 3).line) = true) (e3:(∀ x n,bindArgs fd ⟨[x,n],[]⟩ = pure [(("self":Str),x),(("name":Str),n)])) (e4:(∀ y∈(["self","name"]:List Str),fd.scope.names.lookup y = some .local)) (e5:fd.scope.names.lookup ("_split_list":Str)≠some .globalImplicit)
structure ItemAt (C:Cst) (a:Addr):Prop where
 fn:ItemFn C a
section
variable {K:Frag} {fs:List (Str × Addr)} {a ac ag:Addr} {Z:List Addr} {io:HI} {g:Sg} {s s':Shared}
set_option tactic.hygienic true in
theorem item_ok (k:HdrFns C K fs) (hcv:fs.lookup ("_convert_string_type":Str) = some ac) (cv:ConvOk C ac) (rt:RootOk C) (hgt:fs.lookup ("get":Str) = some ag) (ga:GetAt C ag) (it:ItemAt C a):CallOk C 22 (.ref a) itemS:=by
 intro ds g d g' h A Z io s vs ha hk hv
 refine ze2a (dHdr_v h) fun i r e1 h=>?_
 subst e1
 refine ze2a (dStr_v h) fun n r e1 h=>?_
 subst e1
 refine za (dNil_v h) fun e1 hh=>?_
 subst e1
 · have hv':=hv
   refine ze2a2e2a2 hv' fun v1 J e2q h1 v2 vr e6q h2 e8q=>?_;clear hv';subst e2q;subst e6q;subst e8q
   refine zea h1 fun t ht e2q=>?_;clear h1;subst e2q
   refine zae h2 fun hn tk e2q=>?_;clear h2;subst e2q
   refine ze (hdr_at hk ht) fun ps hps=>?_
   obtain ⟨fd,p,fn,l1,hb,hloc,hns⟩:=it.fn
   obtain ⟨fdg,pg,fng,_⟩:=ga.fn
   refine zea fng.get fun og hog hdg=>?_
   refine za2 (k.find _ _ hgt) fun f1 f2 f3=>?_
   have HH:=hk.st.at' i t ps ht hps
   have kb:=hk.bare rt
   refine fun_enter (C:=C.bare) (L:=21) (binds:=[(("self":Str),.ref t.1),(("name":Str),.str n tk)]) (l:=[]) rt.bare (fn.bare hns) (fun A E Q hq=>by rw [hb];exact wpAny_pure hq) (fun x hx=>?_) (by show ([("self":Str),("name":Str)]:List Str).Nodup;decide) ha kb (by simp) (fun y d hy=>by injection hy) fun env s2 F kp2 hF xf hvar ha2=>?_
   · simp only [List.mem_cons,List.not_mem_nil,or_false] at hx
     unfold canSet
     rcases hx with rfl | rfl<;>simp only [hloc "self" (by decide),hloc "name" (by decide)]<;>rfl
   have self2:VarAt _ env s2.heap "self" (.ref t.1):=hvar "self" _ rfl
   have name2:VarAt _ env s2.heap "name" (.str n tk):=hvar "name" _ rfl
   have HH2:=hdr_later HH kp2
   have k2:=Keeps.sok C kp2 hk
   refine wpAny_execs_cons (wpAny_Return_some (callAttr rfl l1 (by show 1 < 20;lia) rfl (by show 0 < 5;lia) rfl (var_ok xf self2 (by decide) fun pl=>meth_get k.cls k2.base ⟨HH2.inst,HH2.dict⟩ f1 f2 (by decide) ?_)))
   refine Calls.callWith_function (o:=og) (fd:=fdg) (evalArgs_of rfl (wpAny_items_cons (var_ok xf name2 (by decide) (wpAny_items_nil ⟨⟨k2.base _ _ hog,hdg⟩,?_⟩))))
   refine noE_mono (get_ok k hcv cv rt ga _ _ _ _ hh (A.deeper env) Z io s2 [.ref t.1,.str n tk] ha2.c k2 (by exact ⟨_,_,rfl,⟨t,ht,rfl⟩,_,_,rfl,⟨hn,tk,rfl⟩,rfl⟩)) fun v s3 h3=>?_
   exact h3.after (Keeps.grow C kp2)
end
end Mine
end
section
set_option tactic.hygienic false
open PySem PySem.W PySem.Calls PyProof.Rows
set_option maxRecDepth 100000
namespace Mine
variable {C:Cst}
noncomputable def kvBody (w:Str) (sc:Scope) (p:Nat→Pos):List Stmt :=
 [.Return (some (.ListComp (.Name w (p 0)) [⟨.Tuple [.Name "k" (p 1),.Name "v" (p 2)] 0 (p 3),.Attribute (.Name "self" (p 4)) "_headers" (p 5),[],0⟩] sc (p 6))) (p 7)]
noncomputable def kvS (second:Bool):Summ:=fun ds g=>dHdr ds fun k r=>dNil r (g[k]?.bind fun ps=>some (.lst (ps.map fun q=>.str (if second then q.2 else q.1)),g))
inductive KvFn (C:Cst) (a:Addr) (second:Bool):Prop
 | mk (fd:FuncData) (p:Nat→Pos) (sc:Scope)
   (e1:FnAt C a fd (kvBody (if second then "v" else "k") sc p)) (e2:(∀ x,bindArgs fd ⟨[x],[]⟩ = pure [(("self":Str),x)])) (e3:fd.scope.names.lookup ("self":Str) = some .local) (e4:fd.scope.names.lookup ("_split_list":Str)≠some .globalImplicit) (e5:scopeOkT sc (fun y=>fd.scope.names.lookup y) (.Tuple [.Name "k" (p 1),.Name "v" (p 2)] 0 (p 3)) = true)
structure KvAt (C:Cst) (a:Addr) (second:Bool):Prop where
 fn:KvFn C a second
theorem kv_run (second:Bool) (kd:Kd) (base:Ro) (p0 p1 p2 p3:Pos):∀ ps:List (Str × Str),compK (fun ro g=>trD (fun ro c g=>pt T0 5 kd ro c g) [] ro g) (fun ro g=>pev T0 5 kd ro (.Name (if second then "v" else "k") p0) g) (.Tuple [.Name "k" p1,.Name "v" p2] 0 p3) base (ps.map pairD) [] =
   some (ps.map fun q=>.str (if second then q.2 else q.1),[])
 | []=>rfl
 | (k,v)::r=>by
   have ih:=kv_run second kd base p0 p1 p2 p3 r
   have kv:(("k":Str)==("v":Str)) = false:=by decide
   have vk:(("v":Str)==("k":Str)) = false:=by decide
   have e:pev T0 5 kd ([(("k":Str),D.str k),(("v":Str),D.str v)]++base) (.Name (if second then "v" else "k") p0) [] = some (.str (if second then v else k),[]):=by
     induction second using Bool.casesOn
     · exact pev_name (by simp [List.lookup]) (by decide)
     · exact pev_name (by simp [List.lookup,vk]) (by decide)
   exact compK_yes rfl rfl e ih
section
variable {K:Frag} {fs:List (Str × Addr)} {a:Addr} {Z:List Addr} {io:HI} {g:Sg} {s s':Shared}
theorem hdr_src (k:HdrFns C K fs) {A:Around} {kd:Kd} {env:Env} {ad:Str→Addr} {F:List Addr} {fo:Fo} {Kp0:Kp} {i:Nat} {t} {ps:List (Str × Str)} {s0:Shared} (ha:AOk A 20) (HH:HdrAt C (VV C io Z) s0.heap t ps) (hF:∀ x∈F,s0.heap.get? x = none)
   (xf:Frm C.bare Kp0 kd s0 [] (VV C io Z) env ad [] F fo [] [] s) (hself:VarAt kd env s.heap "self" (.ref t.1)) {pa pb:Pos} :
   wpAny (model C.bare.prog C.bare.w) A (eval (.Attribute (.Name "self" pa) "_headers" pb) env) (SrcPost C.bare A ([]++F) ([]++(F++VV C io Z)) [] s (ps.map pairD) []) noE s:=by
 have g5:Keeps s0 s:=Grow.keepsB xf.grow
 have HH5:=hdr_later HH g5
 refine zea HH.list fun vs e1q hhl=>?_;obtain ⟨n0,e0⟩:=e1q
 have kk5:∀ b o,s0.heap.get? b = some o→s.heap.get? b = some o:=by refine ze2a g5 fun h' tk' e5 hk5=>?_;clear g5;rw [e5];exact hk5
 have hpl:s.heap.PlainList t.2.2 vs:=⟨n0,kk5 _ _ e0⟩
 have tF:t.2.2∉F:=fun hm=>by rw [hF _ hm] at e0;injection e0
 refine Attribute_name (var_ok xf hself (by decide) (own_get (C:=C) k.cls xf.sok.base ⟨HH5.inst,HH5.dict⟩ ?_))
 have kt:Keeps s { s with toks:=s.toks + 1 }:=keepsToks _
 refine ⟨[],Keeps.grow C.bare kt,Keeps.sok C.bare kt xf.sok,src_listX ha (by rw [List.length_map];exact HH5.len) (fun hm=>tF (by simpa [VV,Cst.bare,adr] using hm)) hpl (hasL_bare.mpr ?_)⟩
 refine HasL.mono C (fun a o e hn=>⟨kk5 a o e,fun hm=>?_⟩) (fun J J e=>e) hhl
 have:a∈F∨a∈VV C io Z:=by simpa [VV,Cst.bare,adr] using hm
 rcases this with h | h
 · rw [hF a h] at e;injection e
 · exact hn h
theorem strs_io {V:List Addr} {io io':HI} {h:Heap}:∀ {l:List Str} {vs:List Value},HasL C V io h (l.map .str) vs→HasL C V io' h (l.map .str) vs
 | [],vs,x=>x
 | y::r,vs,x=>by
   refine ze2a2 x fun v vs' e h1 h2=>?_;clear x
   exact ⟨v,vs',e,h1,strs_io h2⟩
set_option tactic.hygienic true in
theorem kv_ok (k:HdrFns C K fs) (rt:RootOk C) {second:Bool} (kv:KvAt C a second):CallOk C 21 (.ref a) (kvS second):=by
 intro ds g d g' h A Z io s vs ha hk hv
 refine ze2a (dHdr_v h) fun i r e1 h=>?_
 subst e1
 refine za (dNil_v h) fun e1 h=>?_
 subst e1
 refine zea (bind_v h) fun ps hps h=>?_
 · refine ze2a2 hv fun v1 J e2q e3q e4q=>?_;clear hv;subst e2q;obtain ⟨t,ht,rfl⟩:=e3q;subst e4q
   · apply i2 h
     obtain ⟨fd,p,sc,fn,hb,hloc,hns,hsc⟩:=kv.fn
     have HH:=hk.st.at' i t ps ht hps
     have kb:=hk.bare rt
     refine fun_enter (C:=C.bare) (L:=20) (binds:=[(("self":Str),.ref t.1)]) (l:=[]) rt.bare (fn.bare hns) (fun A E Q hq=>by rw [hb];exact wpAny_pure hq) (fun x hx=>?_) (by simp) ha kb (by simp) (fun y d hy=>by injection hy) fun env s2 F kp2 hF xf hvar ha2=>?_
     · simp only [List.mem_cons,List.not_mem_nil,or_false] at hx
       unfold canSet
       rcases hx with rfl;simp only [hloc];rfl
     have self2:VarAt _ env s2.heap "self" (.ref t.1):=hvar "self" _ rfl
     refine wpAny_execs_cons (wpAny_Return_some (noE_mono (comp_at (C:=C.bare) (X:=[]++F) (tr:=fun ro g=>trD (fun ro c g=>pt T0 5 (fun y=>sc.names.lookup y) ro c g) [] ro g) (el:=fun ro g=>pev T0 5 (fun y=>sc.names.lookup y) ro (.Name (if second then "v" else "k") (p 0)) g) ha2 xf.sok xf.envR hsc
       (hdr_src k (i:=i) ha2 HH hF xf self2) nofun ⟨tests_ok (ifs:=[]) (trx:=fun ro c g=>pt T0 5 (fun y=>sc.names.lookup y) ro c g) (fun ro=>(ok0 rt 5 (by decide)).tr _ ro),fun A ha ro g d g' he env' Z' io' s hen hk=>(ok0 rt 5 (by decide)).ev _ ro _ _ _ _ he A env' Z' io' s ha hen hk⟩
       (kv_run second _ _ _ _ _ _ ps) (by rw [List.length_map];exact HH.len)) ?_))
     rintro v s3 ⟨io3,x3,k3,hh⟩
     have e3:=io_nil k3
     subst e3
     have kp3:Keeps s2 s3:=Grow.keepsB x3
     have kp:Keeps s s3:=Keeps.trans kp2 kp3
     refine ⟨io,Keeps.grow C kp,Keeps.sok C kp hk,?_⟩
     have h2:=has_bare.mp (Has.less (C:=C.bare) (Z':=VV C io Z) hh fun z hz=>List.mem_append_right _ (List.mem_append_right _ hz))
     have e:(ps.map fun q:Str × Str=>D.str (if second = true then q.2 else q.1)) = (ps.map fun q:Str × Str=>if second = true then q.2 else q.1).map D.str:=by rw [List.map_map];rfl
     rw [e] at h2 ⊢
     refine zae2a3 h2 fun q1 b ws q2 q3 q4 q5=>?_;clear h2
     exact ⟨q1,b,ws,q2,q3,q4,strs_io q5⟩
end
end Mine
end
section
set_option tactic.hygienic false
open PySem PySem.W PySem.Calls PyProof.Rows
set_option maxRecDepth 100000
namespace Mine
variable {C:Cst}
inductive HdrChange (C:Cst) (V:List Addr) (l:Addr) (ps:List (Str × Str)) (s s':Shared):Prop
 | mk (h':Heap) (tk:Nat) (e:s' = { s with heap:=h',toks:=tk }) (hk:∀ b o,b≠l→s.heap.get? b = some o→h'.get? b = some o) (vs:Array Value) (hp:h'.PlainList l vs) (hh:HasL C V [] h' (ps.map pairD) vs.toList)
section
variable {Z:List Addr} {io:HI} {g:Sg} {s s':Shared}
theorem mem_adr_idx {t:Addr × Addr × Addr} {i:Nat} (h:io[i]? = some t):t∈io:=List.mem_of_getElem? h
theorem adr_apart:∀ {io:HI},(adr io).Nodup→∀ {i j:Nat} {t u:Addr × Addr × Addr},io[i]? = some t→io[j]? = some u→i≠j→u.1≠t.2.2∧u.2.1≠t.2.2∧u.2.2≠t.2.2
 | [],_,i,j,t,u,h,_,_=>by simp at h
 | x::r,hn,0,0,t,u,_,_,hij=>absurd rfl hij
 | x::r,hn,0,j + 1,t,u,h1,h2,_=>by
   simp only [List.getElem?_cons_zero,Option.some.injEq] at h1
   simp only [List.getElem?_cons_succ] at h2
   subst h1
   simp only [adr,List.nodup_cons,List.mem_cons,not_or] at hn
   have:=mem_adr_of (mem_adr_idx h2)
   exact ⟨fun e=>hn.2.2.1 (e ▸ this.1),fun e=>hn.2.2.1 (e ▸ this.2.1),fun e=>hn.2.2.1 (e ▸ this.2.2)⟩
 | x::r,hn,i + 1,0,t,u,h1,h2,_=>by
   simp only [List.getElem?_cons_zero,Option.some.injEq] at h2
   simp only [List.getElem?_cons_succ] at h1
   subst h2
   simp only [adr,List.nodup_cons,List.mem_cons,not_or] at hn
   have:=mem_adr_of (mem_adr_idx h1)
   exact ⟨fun e=>hn.1.2.2 (e ▸ this.2.2),fun e=>hn.2.1.2 (e ▸ this.2.2),fun e=>hn.2.2.1 (e ▸ this.2.2)⟩
 | x::r,hn,i + 1,j + 1,t,u,h1,h2,hij=>by
   simp only [List.getElem?_cons_succ] at h1 h2
   simp only [adr,List.nodup_cons] at hn
   exact adr_apart hn.2.2.2 h1 h2 (by lia)
theorem adr_own:∀ {io:HI},(adr io).Nodup→∀ {i:Nat} {t:Addr × Addr × Addr},io[i]? = some t→t.1≠t.2.2∧t.2.1≠t.2.2
 | [],_,i,t,h=>by simp at h
 | x::r,hn,0,t,h1=>by
   simp only [List.getElem?_cons_zero,Option.some.injEq] at h1
   subst h1
   simp only [adr,List.nodup_cons,List.mem_cons,not_or] at hn
   exact ⟨hn.1.2.1,hn.2.1.1⟩
 | x::r,hn,i + 1,t,h1=>by
   simp only [List.getElem?_cons_succ] at h1
   simp only [adr,List.nodup_cons] at hn
   exact adr_own hn.2.2.2 h1
theorem HdrChange.sok (sp:SpOk C) {i:Nat} {t} {ps ps':List (Str × Str)} (k:Sok C Z io g s) (ht:io[i]? = some t) (hps:g[i]? = some ps) (hl:ps'.length≤lim) (x:HdrChange C (VV C io Z) t.2.2 ps' s s'):Sok C Z io (g.set i ps') s'∧Grow C io io s s':=by
 obtain ⟨h',tk,rfl,hk,vs,hp,hh⟩:=x
 have hm:=mem_adr_of (mem_adr_idx ht)
 have nZ:∀ z∈Z,z≠t.2.2:=fun z hz he=>(k.zd z hz).2.1 (he ▸ hm.2.2)
 have nV:∀ b,b∉VV C io Z→b≠t.2.2:=fun b hb he=>hb (by rw [he];exact List.mem_append_left _ (List.mem_append_right _ hm.2.2))
 have nvt:∀ b∈C.vt,b≠t.2.2:=fun b hb he=>by
   refine ze2 (sp.vs b hb) fun c q hq=>?_
   refine zea ((sp.vt _ _).mp k.st.vt c b q hq) fun qs e J=>?_
   refine zea ((k.st.at' i t ps ht hps).list) fun ws e1q J=>?_;obtain ⟨n,e2⟩:=e1q
   rw [he,e2] at e;(injection e with e;injection e with e1 e2 e3 e4;injection e1)
 have alive:∀ b o,s.heap.get? b = some o→∃ o',h'.get? b = some o':=fun b o e=>by
   by_cases he:b = t.2.2
   · refine ze hp fun n e'=>?_;clear hp;exact ⟨_,he ▸ e'⟩
   · exact ⟨o,hk b o he e⟩
 refine ⟨⟨fun a o e=>hk a o (fun he=>by rw [he,k.st.below _ hm.2.2] at e;injection e) (k.base a o e),⟨by rw [List.length_set];exact k.st.len,fun j u qs h1 h2=>?_,k.st.nodup,k.st.below,C.vtKeep _ _ _ _ k.st.vt (fun b hb o e=>hk b o (nvt b hb) e) fun a o J e J ha=>⟨hk a o (nV a ha) e,ha⟩⟩,fun z hz=>?_,k.zd,fun z hz=>?_⟩,
   ⟨⟨h',tk,rfl⟩,fun b o e J hb=>hk b o (fun he=>hb (he ▸ hm.2.2)) e,alive,fun J J e=>e,fun J h=>.inl h⟩⟩
 · by_cases hij:i = j
   · subst hij
     rw [ht] at h1;(injection h1 with h1;subst h1)
     have hlt:i < g.length:=(List.getElem?_eq_some_iff.mp hps).1
     rw [List.getElem?_set_self hlt] at h2;(injection h2 with h2;subst h2)
     have HH:=k.st.at' i t ps ht hps
     have ao:=adr_own k.st.nodup ht
     refine ze3 HH.dict fun a b c e=>?_
     exact ⟨hk _ _ ao.1 HH.inst,⟨a,b,c,hk _ _ ao.2 e⟩,⟨vs,hp,hh⟩,hl⟩
   · rw [List.getElem?_set_ne hij] at h2
     have HH:=k.st.at' j u qs h1 h2
     have ap:=adr_apart k.st.nodup ht h1 hij
     refine ze3 HH.dict fun a b c e=>?_
     refine zea HH.list fun ws e1q hw=>?_;obtain ⟨n,e2⟩:=e1q
     exact ⟨hk _ _ ap.1 HH.inst,⟨a,b,c,hk _ _ ap.2.1 e⟩,⟨ws,⟨n,hk _ _ ap.2.2 e2⟩,HasL.mono C (fun a o e ha=>⟨hk a o (nV a ha) e,ha⟩) (fun J J e=>e) hw⟩,HH.len⟩
 · refine ze (k.zal z hz) fun o e=>?_;exact alive z o e
 · refine ze (k.val z hz) fun o e=>?_;exact alive z o e
end
noncomputable def delCond (p:Nat→Pos):Expr:=.Compare (.Call (.Attribute (.Subscript (.Name "kv" (p 16)) (.Constant (.int 0) 0 (p 17)) (p 18)) "lower" (p 19)) [] [] (p 20)) [.NotEq] [.Name "name" (p 21)] (p 22)
noncomputable def delBody (p:Nat→Pos) (sc:Scope):List Stmt :=
 [.Assign [.Name "name" (p 0)] (.Call (.Attribute (.Name "self" (p 1)) "_convert_string_type" (p 2)) [.Call (.Attribute (.Name "name" (p 3)) "lower" (p 4)) [] [] (p 5)] [⟨some "name",.Constant (.bool true) 0 (p 6),p 7⟩] (p 8)) (p 9),
  .Assign [.Subscript (.Attribute (.Name "self" (p 10)) "_headers" (p 11)) (.Slice none none none (p 12)) (p 13)]
    (.ListComp (.Name "kv" (p 14)) [⟨.Name "kv" (p 15),.Attribute (.Name "self" (p 23)) "_headers" (p 24),[delCond p],0⟩] sc (p 25)) (p 26)]
noncomputable def hdel (ps:List (Str × Str)) (n:Str):List (Str × Str):=ps.filter fun q=>!(Txt.lower q.1==n)
theorem del_run (kd:Kd) (p:Nat→Pos) (hl:((p 19).endLine==(p 20).line) = true) (n:Str) (base:Ro) (hb:base.lookup ("name":Str) = some (.str n)):∀ ps:List (Str × Str),(∀ q∈ps,strOk (Txt.lower q.1) = true) →
   compK (fun ro g=>trD (fun ro c g=>pt T0 8 kd ro c g) [delCond p] ro g) (fun ro g=>pev T0 8 kd ro (.Name "kv" (p 14)) g) (.Name "kv" (p 15)) base (ps.map pairD) [] = some ((hdel ps n).map pairD,[])
 | [],_=>rfl
 | q::r,hs=>by
   have ih:=del_run kd p hl n base hb r fun q hq=>hs q (.tail _ hq)
   have lk:([(("kv":Str),pairD q)]++base).lookup ("kv":Str) = some (pairD q):=by simp [List.lookup]
   have ln:([(("kv":Str),pairD q)]++base).lookup ("name":Str) = some (.str n):=by
     have:(("name":Str)==("kv":Str)) = false:=by decide
     simp only [List.cons_append,List.nil_append,List.lookup,this];exact hb
   have e0:pev T0 6 kd ([(("kv":Str),pairD q)]++base) (.Subscript (.Name "kv" (p 16)) (.Constant (.int 0) 0 (p 17)) (p 18)) [] = some (.str q.1,[]):=by
     exact ev_item (fun J J J J h=>by injection h) (pev_name lk (by decide)) ev_int (fun J h=>by injection h) rfl
   have et:pt T0 8 kd ([(("kv":Str),pairD q)]++base) (delCond p) [] = some (!(Txt.lower q.1==n),[]) :=
     pt_ne (pev_lower e0 rfl hl (hs q (.head _))) (pev_name ln (by decide))
   have ee:pev T0 8 kd ([(("kv":Str),pairD q)]++base) (.Name "kv" (p 14)) [] = some (pairD q,[]):=pev_name lk (by decide)
   have tr1:trD (fun ro c g=>pt T0 8 kd ro c g) [delCond p] ([(("kv":Str),pairD q)]++base) [] = some (.bool (!(Txt.lower q.1==n)),[]):=bindK_eq et
   induction hc:(Txt.lower q.1==n) using Bool.casesOn with
   | true =>
     have hd:hdel (q::r) n = hdel r n:=List.filter_cons_of_neg (by rw [hc];decide)
     rw [hc] at tr1
     rw [hd]
     exact (compK_no rfl tr1).trans ih
   | false =>
     have hd:hdel (q::r) n = q::hdel r n:=List.filter_cons_of_pos (by rw [hc];rfl)
     rw [hc] at tr1
     rw [hd]
     exact compK_yes rfl tr1 ee ih
end Mine
end
section
set_option tactic.hygienic false
open PySem PySem.W PySem.Calls PyProof.Rows
set_option maxRecDepth 100000
namespace Mine
variable {C:Cst}
inductive DelFn (C:Cst) (a:Addr):Prop
 | mk (fd:FuncData) (p:Nat→Pos) (sc:Scope)
   (e1:FnAt C a fd (delBody p sc)) (e2:((p 2).endLine==(p 8).line) = true) (e3:((p 4).endLine==(p 5).line) = true) (e4:((p 19).endLine==(p 20).line) = true) (e5:(∀ x n,bindArgs fd ⟨[x,n],[]⟩ = pure [(("self":Str),x),(("name":Str),n)])) (e6:fd.scope.names.lookup ("self":Str) = some .local) (e7:fd.scope.names.lookup ("name":Str) = some .cell) (e8:fd.scope.names.lookup ("_split_list":Str)≠some .globalImplicit) (e9:scopeOkT sc (fun y=>fd.scope.names.lookup y) (.Name "kv" (p 15)) = true) (e10:sc.names.lookup ("name":Str) = some .free)
structure DelAt (C:Cst) (a:Addr):Prop where
 fn:DelFn C a
theorem freeIn_name {sc:Scope} {x:Str} {d:D}:∀ {ro:Ro},sc.names.lookup x = some .free→ro.lookup x = some d→(freeIn sc ro).lookup x = some d
 | [],_,h=>by injection h
 | (y,e)::r,hs,h=>by
   unfold freeIn
   rw [List.filter_cons]
   by_cases hb:(x==y) = true
   · have hxy:x = y:=by simpa using hb
     subst hxy
     simp only [List.lookup,hb,Option.some.injEq] at h
     subst h
     simp only [hs,beq_self_eq_true,if_true,List.lookup]
   · have hb':(x==y) = false:=by simpa using hb
     simp only [List.lookup,hb'] at h
     have ih:=freeIn_name hs h
     split
     · simp only [List.lookup,hb'];exact ih
     · exact ih
section
variable {K:Frag} {fs:List (Str × Addr)} {a ac:Addr} {Z:List Addr} {io:HI} {g:Sg} {s s':Shared}
theorem del_ok (k:HdrFns C K fs) (hcv:fs.lookup ("_convert_string_type":Str) = some ac) (cv:ConvOk C ac) (rt:RootOk C) (da:DelAt C a) {A:Around} (ha:AOkC A 21) (hk:Sok C Z io g s) {i:Nat} {t} {ps:List (Str × Str)} {n:Str} {tk:Tok}
   (ht:io[i]? = some t) (hps:g[i]? = some ps) (hn:n.length≤lim) (hcl:clean (Txt.lower n) = true) (hall:∀ q∈ps,strOk (Txt.lower q.1) = true) :
   wpAny (model C.prog C.w) A (call (.ref a) [.ref t.1,.str n tk]) (fun v s'=>HdrChange C (VV C io Z) t.2.2 (hdel ps (Txt.lower n)) s s') noE s:=by
 obtain ⟨fd,p,sc,fn,l1,l2,l3,hb,hself,hname,hns,hsc,hfree⟩:=da.fn
 have HH:=hk.st.at' i t ps ht hps
 have kb:=hk.bare rt
 have hm:=mem_adr_of (mem_adr_idx ht)
 have tV:t.2.2∈VV C io Z:=by exact List.mem_append_left _ (List.mem_append_right _ hm.2.2)
 refine fun_enter (C:=C.bare) (L:=20) (binds:=[(("self":Str),.ref t.1),(("name":Str),.str n tk)]) (l:=[(("name":Str),.str n)]) rt.bare (fn.bare hns) (fun A E Q hq=>by rw [hb];exact wpAny_pure hq) (fun x hx=>?_) (by show ([("self":Str),("name":Str)]:List Str).Nodup;decide) ha kb (by simp) (fun y d hy=>?_) fun env s2 F kp2 hF xf hvar ha2=>?_
 · simp only [List.mem_cons,List.not_mem_nil,or_false] at hx
   unfold canSet
   rcases hx with rfl | rfl
   · simp only [hself];rfl
   · simp only [hname];rfl
 · by_cases h1:y = "name"
   · subst h1
     have e:d = .str n:=by simpa [List.lookup] using hy.symm
     subst e
     exact ⟨.str n tk,rfl,by exact ⟨hn,tk,rfl⟩⟩
   · have e1:(y==("name":Str)) = false:=by simpa using h1
     simp [List.lookup,e1] at hy
 · let kd:Kd:=fun y=>fd.scope.names.lookup y
   have self2:VarAt kd env s2.heap "self" (.ref t.1):=hvar "self" _ rfl
   have HH2:=hdr_later HH kp2
   have hb2:∀ b o,C.H.get? b = some o→s2.heap.get? b = some o:=xf.sok.base
   have fo0:(valsOf [(("name":Str),D.str n)]).lookup ("name":Str) = some (EV.val (.str n)):=rfl
   have main:wpAny (model C.prog C.w) (A.deeper env) (execs (delBody p sc) env) (fun fl s'=>fl = .next∧HdrChange C (VV C io Z) t.2.2 (hdel ps (Txt.lower n)) s s') noE s2:=?_
   · refine noE_mono main ?_
     rintro fl s3 ⟨rfl,h3⟩
     exact h3
   refine wpAny_execs_cons (wpAny_Assign_Name (conv_call k hcv cv rt (by have:=ha2.dp;lia) l1 rfl (fun Q hq=>var_ok xf self2 (by decide) hq) hb2 ⟨HH2.inst,HH2.dict⟩
     (noE_mono ((ok0 rt 6 (by decide)).ev kd _ _ _ _ _ (pev_lower (pev_name (rm_of_val fo0) (by decide)) rfl l2 (clean_at' hcl)) (A.deeper env) env _ [] s2 ha2 xf.envR xf.sok) fun v s3 ⟨io3,x3,k3,hh⟩=>?_)) rfl)
   have e3:=io_nil k3
   subst e3
   have hh':=hh
   refine zae hh' fun hlen t3 e2q=>?_;clear hh';subst e2q
   have xf3:=xf.step x3 k3
   refine ⟨_,t3,rfl,hcl,xf3.sok.base,fun s4 kp4=>?_⟩
   have xf4:=xf3.step (Keeps.grow C.bare kp4) (Keeps.sok C.bare kp4 xf3.sok)
   have self4:VarAt kd env s4.heap "self" (.ref t.1):=by
     have keep:∀ b∈F,∀ o,s2.heap.get? b = some o→s4.heap.get? b = some o:=fun b hb o e=>by
       refine ze2a kp4 fun h' tk' e4 hk4=>?_;clear kp4
       rw [e4]
       exact hk4 b o (x3.keep b o e (by intro h;cases h) (by intro h;cases h))
     exact self2.keep (fun o e=>keep _ xf.lF o e) fun c o hk hc e=>by
       refine ze2a3 (xf.all _ hk) fun c' J h1 J h4 J=>?_
       rw [hc] at h1;(injection h1 with h1;subst h1)
       exact keep _ h4 o e
   refine xf4.store' (ev:=.val (.str (Txt.lower n))) (a:=0) (by unfold canSet;simp only [kd,hname];rfl) (by simp only [EVal,Has];exact ⟨hlen,t3,rfl⟩) (fun l hl=>by injection hl) fun s5 xf5 kp5 vk5=>?_
   have self5:=vk5 _ _ (by decide) self4
   have n5:(setE "name" (EV.val (.str (Txt.lower n))) (valsOf [(("name":Str),D.str n)])).lookup ("name":Str) = some (EV.val (.str (Txt.lower n))):=(setE_lookup _ _).trans (if_pos rfl)
   generalize setE "name" (EV.val (.str (Txt.lower n))) (valsOf [(("name":Str),D.str n)]) = fo5 at xf5 n5
   refine wpAny_execs_cons (wpAny_Assign_Subscript ?_ (by rfl))
   have hd:(hdel ps (Txt.lower n)).length≤ps.length:=List.length_filter_le _ _
   refine noE_mono (comp_at (C:=C.bare) (X:=[]++F) (tr:=fun ro g=>trD (fun ro c g=>pt T0 8 (fun y=>sc.names.lookup y) ro c g) [delCond p] ro g) (el:=fun ro g=>pev T0 8 (fun y=>sc.names.lookup y) ro (.Name "kv" (p 14)) g) ha2 xf5.sok xf5.envR hsc
       (hdr_src k (i:=i) ha2 HH hF xf5 self5) nofun ⟨tests_ok (ifs:=[delCond p]) (trx:=fun ro c g=>pt T0 8 (fun y=>sc.names.lookup y) ro c g) (fun ro=>(ok0 rt 8 (by decide)).tr _ ro),fun A ha ro g d g' he env' Z' io' s hen hk=>(ok0 rt 8 (by decide)).ev _ ro _ _ _ _ he A env' Z' io' s ha hen hk⟩
       (del_run _ p l3 (Txt.lower n) _ (freeIn_name hfree (rm_of_val n5)) ps hall) (by rw [List.length_map];have:=HH.len;lia)) ?_
   rintro v s6 ⟨io6,x6,k6,hh6⟩
   have e6:=io_nil k6
   subst e6
   have xf6:=xf5.step x6 k6
   have self6:VarAt kd env s6.heap "self" (.ref t.1):=by
     have kp6:=Grow.keepsB x6
     refine ze2a kp6 fun h' tk' e7 hk7=>?_;clear kp6
     rw [e7]
     exact self5.keep (fun o e=>hk7 _ o e) fun c o J J e=>hk7 c o e
   have g6:Keeps s s6:=Grow.keepsB xf6.grow
   have HH6:=hdr_later HH g6
   refine zea HH6.list fun vs6 hp6 J=>?_
   have hl6:=HH6.list
   have hh6':=has_bare.mp (Has.less (C:=C.bare) (Z':=VV C io Z) hh6 fun z hz=>List.mem_append_right _ (List.mem_append_right _ hz))
   refine zae2a3 hh6' fun q1 D' ws e3q q2 e5q q4=>?_;clear hh6';subst e3q;obtain ⟨nD,q3⟩:=e5q
   refine Attribute_name (var_ok xf6 self6 (by decide) (own_get (C:=C) k.cls xf6.sok.base ⟨HH6.inst,HH6.dict⟩ ?_))
   refine wpAny_Slice (wpAny_pure (wpAny_pure (wpAny_pure ?_)))
   have hwsz:=HasL.length C q4
   simp only [Array.length_toList,List.length_map] at hwsz
   refine zea HH6.list fun vs0 hp0 hhl0=>?_
   have hvsz:=HasL.length C hhl0
   simp only [Array.length_toList,List.length_map] at hvsz
   refine ze hp0 fun n0 hp0'=>?_;clear hp0
   have hlen6:=HH.len
   have hlm:lim = 1000000:=rfl
   have hsl:sizeLine = 2 ^ 24:=sizeLine_eq
   refine setSlice_all (xs:=vs0) (ys:=ws) ⟨n0,Heap.get?_push_of_some _ hp0'⟩ ⟨nD,Heap.get?_push_of_some _ q3⟩ (Heap.IsSliceOf.new ..) (by lia) fun h' hp' hsb=>?_
   refine wpAny_execs_nil ⟨rfl,?_⟩
   refine ze2a g6 fun h7 tk7 e7 hk7=>?_;clear g6
   subst e7
   have kall:∀ b o,b≠t.2.2→h7.get? b = some o→h'.get? b = some o:=fun b o hb e=>hsb.extBut b o hb (Heap.get?_push_of_some _ e)
   refine ⟨h',_,rfl,fun b o hb e=>kall b o hb (hk7 b o e),ws,hp',?_⟩
   exact HasL.mono C (fun a o e ha=>⟨kall a o (fun he=>ha (he ▸ tV)) e,ha⟩) (fun J J e=>e) q4
end
end Mine
end
section
set_option tactic.hygienic false
open PySem PySem.W PySem.Calls PyProof.Rows
set_option maxRecDepth 100000
namespace Mine
variable {C:Cst}
noncomputable def setBody (p:Nat→Pos):List Stmt :=
 [.Delete [.Subscript (.Name "self" (p 0)) (.Name "name" (p 1)) (p 2)] (p 3),
  .Expr (.Call (.Attribute (.Attribute (.Name "self" (p 4)) "_headers" (p 5)) "append" (p 6))
    [.Tuple [.Call (.Attribute (.Name "self" (p 7)) "_convert_string_type" (p 8)) [.Name "name" (p 9)] [⟨some "name",.Constant (.bool true) 0 (p 10),p 11⟩] (p 12),
      .Call (.Attribute (.Name "self" (p 13)) "_convert_string_type" (p 14)) [.Name "val" (p 15)] [⟨some "name",.Constant (.bool false) 0 (p 16),p 17⟩] (p 18)] 0 (p 19)] [] (p 20)) (p 21)]
noncomputable def setS:Summ:=fun ds g=>dHdr ds fun k r=>dStr r fun n r=>dStr r fun v r=>dNil r (g[k]?.bind fun ps =>
   if clean (Txt.lower n)&&clean n&&clean v&&ps.all (fun q=>strOk (Txt.lower q.1))&&decide (ps.length < lim) then some (.none,g.set k (hdel ps (Txt.lower n)++[(n,v)])) else none)
inductive SetFn (C:Cst) (a:Addr):Prop
 | mk (fd:FuncData) (p:Nat→Pos)
   (e1:FnAt C a fd (setBody p)) (e2:((p 6).endLine==(p 20).line) = true) (e3:((p 8).endLine==(p 12).line) = true) (e4:((p 14).endLine==(p 18).line) = true) (e5:(∀ x n v,bindArgs fd ⟨[x,n,v],[]⟩ = pure [(("self":Str),x),(("name":Str),n),(("val":Str),v)])) (e6:(∀ y∈(["self","name","val"]:List Str),fd.scope.names.lookup y = some .local)) (e7:(∀ y∈fd.scope.names,y.2≠.cell))
structure SetAt (C:Cst) (a:Addr):Prop where
 fn:SetFn C a
theorem wpAny_delete_Subscript {M:Model} {A:Around} {E:Value→Shared→Prop} {s:Shared} {env:Env} {o i:Expr} {pos:Pos} {Q:Unit→Shared→Prop}
   (h:wpAny M A (eval o env) (fun ov s1=>wpAny M A (eval i env) (fun iv s2=>wpAny M A (delItem ov iv) Q E s2) E s1) E s):wpAny M A (delete (.Subscript o i pos) env) Q E s:=by
 rw [arm_delete_Subscript]
 refine wpAny_bind (wpAny_mono h (fun ov s1 h1=>wpAny_bind (wpAny_holding (wpAny_mono h1 (fun iv s2 h2=>?_) fun J J x=>x))) fun J J x=>x)
 exact wpAny_bind (wpAny_standAt (wpAny_bind (wpAny_holding (wpAny_mono h2 (fun J J h3=>wpAny_release h3) fun J J x=>x))))
section
variable {K:Frag} {fs:List (Str × Addr)} {a ac ad:Addr} {Z:List Addr} {io:HI} {g:Sg} {s s':Shared}
theorem set_run (sp:SpOk C) (k:HdrFns C K fs) (hcv:fs.lookup ("_convert_string_type":Str) = some ac) (cv:ConvOk C ac) (rt:RootOk C) (hdl:fs.lookup ("__delitem__":Str) = some ad) (da:DelAt C ad) (sa:SetAt C a) {A:Around} (ha:AOkC A 23) (hk:Sok C Z io g s) {i:Nat} {t} {ps:List (Str × Str)} {n v:Str} {tn tv:Tok}
   (ht:io[i]? = some t) (hps:g[i]? = some ps) (hn:n.length≤lim) (hv:v.length≤lim) (hcl:clean (Txt.lower n) = true) (hcn:clean n = true) (hcw:clean v = true) (hall:∀ q∈ps,strOk (Txt.lower q.1) = true) (hlt:ps.length < lim) :
   wpAny (model C.prog C.w) A (call (.ref a) [.ref t.1,.str n tn,.str v tv]) (fun r s'=>r = .none∧HdrChange C (VV C io Z) t.2.2 (hdel ps (Txt.lower n)++[(n,v)]) s s') noE s:=by
 obtain ⟨fd,p,fn,l1,l2,l3,hb,hloc,hcell⟩:=sa.fn
 refine zea fn.get fun o hoa hd=>?_
 refine za2 (k.find _ _ hdl) fun f1 f2 f3=>?_
 have HH:=hk.st.at' i t ps ht hps
 have hm:=mem_adr_of (mem_adr_idx ht)
 have tV:t.2.2∈VV C io Z:=by exact List.mem_append_left _ (List.mem_append_right _ hm.2.2)
 refine wpAny_call (codeAny_call_function (by have:=ha.dp;show A.depth < 1000;lia) (hk.base _ _ hoa) hd fn.co fn.gen fn.body (fn.cd.keeps hk.base) ?_)
 rw [hb,fn.clo]
 refine wpAny_pure (wpAny_newFunctionEnv hcell (fun y hy=>by
   simp only [List.mem_cons,List.not_mem_nil,or_false] at hy
   rcases hy with rfl | rfl | rfl
   · exact hloc "self" (by decide)
   · exact hloc "name" (by decide)
   · exact hloc "val" (by decide)) (fun h₁ hns1 hsb=>⟨?_,codeAny_func ?_⟩) fn.kind)
 · exact (rt.nolimit.keeps hk.base).keeps fun b o e=>hsb.extBut b o (Nat.ne_of_lt (Heap.lt_size e)) (Heap.get?_push_of_some _ e)
 · let L:=s.heap.objs.size
   let env2:Env:=newEnv fd.scope L fd.globals [] (fd.qualname++".<locals>.") (some a) fd.code none fd.builtins
   let s2:Shared:={ s with heap:=h₁,toks:=s.toks + 3 }
   have hkk:∀ b o,s.heap.get? b = some o→h₁.get? b = some o:=fun b o e=>hsb.extBut b o (Nat.ne_of_lt (Heap.lt_size e)) (Heap.get?_push_of_some _ e)
   have kp2:Keeps s s2:=⟨h₁,s.toks + 3,rfl,hkk⟩
   have hLn:s.heap.get? L = none:=get?_size_none _
   have hLt:L≠t.2.2:=fun he=>by
     refine zea HH.list fun ws e1q J=>?_;obtain ⟨m,e⟩:=e1q
     rw [← he,hLn] at e;injection e
   have kof:∀ y,env2.kindOf y = fd.scope.names.lookup y:=fun y=>rfl
   have ha2:AOkC (A.deeper env2) 21:=⟨ha.hh,by have:=ha.dp;show A.depth + 1 + 21≤900;lia,by have:=ha.un;show A.units + 3 + 8 * 21≤9005;lia⟩
   have hdp2:(A.deeper env2).depth < 990:=by have:=ha2.dp;lia
   have main:wpAny (model C.prog C.w) (A.deeper env2) (execs (setBody p) env2) (fun fl s'=>fl = .next∧HdrChange C (VV C io Z) t.2.2 (hdel ps (Txt.lower n)++[(n,v)]) s s') noE s2:=?_
   · refine noE_mono main ?_
     rintro fl s3 ⟨rfl,h3⟩
     exact ⟨rfl,h3⟩
   generalize hmm:(fun x_1:Str=>List.lookup x_1 ([(("self":Str),Value.ref t.1),(("name":Str),Value.str n tn),(("val":Str),Value.str v tv)]:List (Str × Value)).reverse) = m at hns1
   have m1:m "self" = some (.ref t.1):=by
     rw [← hmm]
     simp only [List.reverse_cons,List.reverse_nil,List.nil_append,List.cons_append,List.lookup,show (("self":Str)==("val":Str)) = false by decide,show (("self":Str)==("name":Str)) = false by decide,beq_self_eq_true]
   have m2:m "name" = some (.str n tn):=by
     rw [← hmm]
     simp only [List.reverse_cons,List.reverse_nil,List.nil_append,List.cons_append,List.lookup,show (("name":Str)==("val":Str)) = false by decide,beq_self_eq_true]
   have m3:m "val" = some (.str v tv):=by
     rw [← hmm]
     simp only [List.reverse_cons,List.reverse_nil,List.nil_append,List.cons_append,List.lookup,beq_self_eq_true]
   have lk:∀ {y:Str} {u:Value} {s3:Shared} {ps:Pos} {Q:Value→Shared→Prop} {E:Value→Shared→Prop},fd.scope.names.lookup y = some .local→(y==("__debug__":Str)) = false→s3.heap.Ns L m→m y = some u→Q u s3→wpAny (model C.prog C.w) (A.deeper env2) (eval (.Name y ps) env2) Q E s3 :=
     fun h1 h2 h3 h4 h5=>wpAny_Name (wpAny_loadName_local fn.kind ((kof _).trans h1) h3 h4 h5) h2
   have lself:=hloc "self" (by decide)
   have lname:=hloc "name" (by decide)
   have lval:=hloc "val" (by decide)
   have k2:=Keeps.sok C kp2 hk
   have HH2:=hdr_later HH kp2
   refine wpAny_execs_cons (wpAny_Delete (wpAny_deleteEach_cons (wpAny_delete_Subscript (lk lself (by decide) hns1 m1 (lk lname (by decide) hns1 m2 ?_)))))
   refine (meth_ok k.cls f1 f2 f3 (by decide)).del rfl _ _ _ t.1 t.2.1 t.2.2 k2.base ⟨HH2.inst,HH2.dict⟩ _ _ ?_
   refine noE_mono (del_ok k hcv cv rt da ha2 k2 ht hps hn hcl hall) fun J s3 hc3=>wpAny_deleteEach_nil ?_
   have hd3:(hdel ps (Txt.lower n)).length≤ps.length:=List.length_filter_le _ _
   have hlm:lim = 1000000:=rfl
   refine za (hc3.sok sp k2 ht hps (by have:=HH.len;lia)) fun k3 x3=>?_
   obtain ⟨h3,t3,rfl,hk3,vs3,hp3,hh3⟩:=hc3
   have hns3:h3.Ns L m:=hns1.at' fun o e=>hk3 L o hLt e
   have hlt3:i < g.length:=(List.getElem?_eq_some_iff.mp hps).1
   have HH3:=k3.st.at' i t (hdel ps (Txt.lower n)) ht (List.getElem?_set_self hlt3)
   refine wpAny_execs_cons (wpAny_Expr (wpAny_Call_append (base_notSuper rfl env2 _) (by rfl) l1 (by rfl) (Attribute_name (lk lself (by decide) hns3 m1 (own_get k.cls k3.base ⟨HH3.inst,HH3.dict⟩ ⟨t.2.2,vs3,rfl,(let ⟨n3,e3⟩:=hp3;⟨_,n3,e3,rfl,rfl,rfl⟩),?_⟩)))) ?_ rfl)
   · have kt:Keeps { s2 with heap:=h3,toks:=t3 } { s2 with heap:=h3,toks:=t3 + 1 }:=keepsToks _
     have b4:∀ b o,C.H.get? b = some o→h3.get? b = some o:=k3.base
     refine Tuple_ (wpAny_items_cons (conv_call (s:={ s2 with heap:=h3,toks:=t3 + 1 }) k hcv cv rt hdp2 l2 rfl (fun Q hq=>lk lself (by decide) hns3 m1 hq) b4 ⟨HH3.inst,HH3.dict⟩
       (lk lname (by decide) hns3 m2 ⟨n,tn,rfl,hcn,b4,fun s5 kp5=>?_⟩)))
     refine ze2a kp5 fun h5 t5 e2q hk5=>?_;clear kp5;subst e2q
     have hns5:h5.Ns L m:=hns3.at' fun o e=>hk5 L o e
     have b5:∀ b o,C.H.get? b = some o→h5.get? b = some o:=fun b o e=>hk5 b o (b4 b o e)
     have HH5:=HH3.keeps C (h':=h5) hk5
     refine wpAny_items_cons (conv_call (s:={ s2 with heap:=h5,toks:=t5 }) k hcv cv rt hdp2 l3 rfl (fun Q hq=>lk lself (by decide) hns5 m1 hq) b5 ⟨HH5.inst,HH5.dict⟩
       (lk lval (by decide) hns5 m3 ⟨v,tv,rfl,hcw,b5,fun s6 kp6=>?_⟩))
     refine ze2a kp6 fun h6 t6 e2q hk6=>?_;clear kp6;subst e2q
     refine wpAny_items_nil (wpAny_newObj_type ?_ (by show 2≤sizeLine;rw [sizeLine_eq];decide))
     have hk36:∀ b o,h3.get? b = some o→h6.get? b = some o:=fun b o e=>hk6 b o (hk5 b o e)
     have up:∀ b o,h3.get? b = some o→(h6.push { cls:=.type "tuple",data:=.seq ([.str n tn,.str v tv]:List Value).toArray }).get? b = some o:=fun b o e=>Heap.get?_push_of_some _ (hk36 b o e)
     have hp7:(h6.push { cls:=.type "tuple",data:=.seq ([.str n tn,.str v tv]:List Value).toArray }).PlainList t.2.2 vs3:=hp3.at fun o e=>up _ o e
     have hsz:=HasL.length C hh3
     simp only [Array.length_toList,List.length_map] at hsz
     refine wpAny_list_append_plain (s:={ s2 with heap:=h6.push { cls:=.type "tuple",data:=.seq ([.str n tn,.str v tv]:List Value).toArray },toks:=t6 }) hp7 (fun h8 hp8 hs8=>?_) (by rw [sizeLine_eq];lia)
     refine wpAny_execs_nil ⟨rfl,?_⟩
     have T_V:h6.objs.size∉VV C io Z:=fun hmem=>by
       refine ze (vv_alive k3 _ hmem) fun o e=>?_
       have:=Heap.lt_size (hk36 _ _ e)
       exact Nat.lt_irrefl _ this
     have k38:∀ b o,b≠t.2.2→h3.get? b = some o→h8.get? b = some o:=fun b o hb e=>hs8.extBut b o hb (up b o e)
     refine ⟨h8,t6,rfl,fun b o hb e=>k38 b o hb (hk3 b o hb (hkk b o e)),_,hp8,?_⟩
     rw [Array.toList_push,List.map_append]
     refine HasL.append C (HasL.mono C (fun a o e hn=>⟨k38 a o (fun he=>hn (he ▸ tV)) e,hn⟩) (fun J J e=>e) hh3) ?_
     refine ⟨_,[],rfl,⟨by show 2≤1000000;decide,h6.objs.size,_,rfl,T_V,⟨0,hs8.extBut _ _ (fun he=>T_V (he ▸ tV)) (Heap.get?_push_size _ rfl)⟩,?_⟩,rfl⟩
     exact ⟨_,_,rfl,⟨hn,tn,rfl⟩,_,_,rfl,⟨hv,tv,rfl⟩,rfl⟩
   · unfold interactive
     rw [show env2.scope.kind = .function from fn.kind];rfl
set_option tactic.hygienic true in
theorem set_ok (sp:SpOk C) (k:HdrFns C K fs) (hcv:fs.lookup ("_convert_string_type":Str) = some ac) (cv:ConvOk C ac) (rt:RootOk C) (hdl:fs.lookup ("__delitem__":Str) = some ad) (da:DelAt C ad) (sa:SetAt C a):CallOk C 23 (.ref a) setS:=by
 intro ds g d g' h A Z io s vs ha hk hv
 refine ze2a (dHdr_v h) fun i r e1 h=>?_
 subst e1
 refine ze2a (dStr_v h) fun n r e1 h=>?_
 subst e1
 refine ze2a (dStr_v h) fun v r e1 h=>?_
 subst e1
 refine za (dNil_v h) fun e1 h=>?_
 subst e1
 refine zea (bind_v h) fun ps hps h=>?_
 · refine ze2a2e2a2e2a2 hv fun J J e2q e3q J J e6q e7q J J e10q e11q e12q=>?_;clear hv;subst e2q;obtain ⟨t,ht,rfl⟩:=e3q;subst e6q;obtain ⟨hn,tn,rfl⟩:=e7q;subst e10q;obtain ⟨hvl,tv,rfl⟩:=e11q;subst e12q
   · refine za (if_some h) fun hc h=>?_
     simp only [Bool.and_eq_true,List.all_eq_true,decide_eq_true_eq] at hc
     apply i2 h
     refine noE_mono (set_run sp k hcv cv rt hdl da sa ha hk ht hps hn hvl hc.1.1.1.1 hc.1.1.1.2 hc.1.1.2 hc.1.2 hc.2) ?_
     rintro r s' ⟨rfl,hx⟩
     have hd3:(hdel ps (Txt.lower n)).length≤ps.length:=List.length_filter_le _ _
     refine za (hx.sok sp hk ht hps (by rw [List.length_append];simp only [List.length_cons,List.length_nil];lia)) fun q1 q2=>?_
     exact ⟨io,q2,q1,rfl⟩
end
end Mine
end
section
set_option tactic.hygienic false
open PySem PySem.W PySem.Calls PyProof.Rows
set_option maxRecDepth 100000
namespace Mine
variable {C:Cst}
structure HdrNew (C:Cst) (K:Frag) (fi:Addr):Prop where
 sa:findIn K (.ref C.cls) "__setattr__" = some (some (.builtin "object.__setattr__"))
 po:plainOver K C.cls = true
 tk:takerIn K C.cls "_headers" = some none
 mak:makesIn K C.cls = true
 init:findIn K (.ref C.cls) "__init__" = some (some (.ref fi))
 fn:typeIn K (.ref fi) = some (.type "function")
section
variable {K:Frag} {A:Around} {E:Value→Shared→Prop} {s:Shared} {x dx l fi:Addr}
theorem osa0 (k:HdrCls C K) (kn:HdrNew C K fi) (X:K.In s.heap) (hx:s.heap.get? x = some (instObj C.cls dx)) (hd:s.heap.get? dx = some emptyDict) (hne:x≠dx) {tk0:Tok} {R:Result→Shared→Prop}
   (h:∀ h' (tk:Nat),Heap.SameBut dx s.heap h'→HdrShape C h' x dx l→R (.ok (.ret .none)) { s with heap:=h',toks:=tk }):codeAny (model C.prog C.w) A (.call (.builtin "object.__setattr__") ⟨[.ref x,.str "_headers" tk0,.ref l],[]⟩) R s:=by
 have I:InstAt s.heap x (instObj C.cls dx) C.cls (some emptyDict):=⟨hx,rfl,rfl,hd⟩
 refine osa_open X I kn.po kn.tk fun b=>?_
 refine zea (any_some k.hh) fun cd hc hd'=>?_
 refine wpAny_bind (wpAny_pure (wpAny_bind (wpAny_bind (wpAny_loadPart hx (wpAny_bind ((looks_clsIn X hc).here ?_))))))
 rw [hd']
 refine wpAny_pure (a:=some dx) (wpAny_bind (wpAny_pure (wpAny_bind ?_)))
 unfold nsSet
 refine wpAny_bind (wpAny_bind (wpAny_askSetting (wpAny_pure (wpAny_bind (wpAny_mkText (wpAny_bind (wpAny_loadPart hd ?_)))))))
 dsimp only
 rw [aRefKeyMayBeTheName_at]
 rw [show (!(#[]:Array DictEntry).any (fun e=>e.key.isStr ("_headers":Str))&&(#[]:Array DictEntry).any (fun e=>e.refKey)) = false from by simp]
 refine wpAny_updatePart hd ?_
 have sb:Heap.SameBut dx s.heap (s.heap.update dx (Obj.putName "_headers" (PyData.keyHash C.w.params "_headers") (.str "_headers" s.toks) (.ref l))):=Heap.SameBut.update ..
 have D':(s.heap.update dx (Obj.putName "_headers" (PyData.keyHash C.w.params "_headers") (.str "_headers" s.toks) (.ref l))).get? dx = some (dictOf [⟨PyData.keyHash C.w.params "_headers",.str ("_headers":Str) s.toks,.ref l⟩] (putN "_headers" [] 0)):=by
   rw [Heap.get?_update_self _ hd (by rfl)]
   exact congrArg some (putName_dict "_headers" (PyData.keyHash C.w.params "_headers") (.str "_headers" s.toks) (.ref l) [] 0)
 refine wpAny_bind (wpAny_lookBehind D' (pastItsLine_dict (by show 1≤sizeLine + 1;lia)) ?_)
 exact wpAny_pure (h _ _ sb ⟨sb.extBut x _ hne hx,_,_,_,D'⟩)
theorem set_attr0 (k:HdrCls C K) (kn:HdrNew C K fi) (hb:∀ b o,C.H.get? b = some o→s.heap.get? b = some o) (hx:s.heap.get? x = some (instObj C.cls dx)) (hd:s.heap.get? dx = some emptyDict) (hne:x≠dx) {Q:Unit→Shared→Prop}
   (h:∀ h' (tk:Nat),Heap.SameBut dx s.heap h'→HdrShape C h' x dx l→Q () { s with heap:=h',toks:=tk }):wpAny (model C.prog C.w) A (setAttr (.ref x) "_headers" (.ref l)) Q E s :=
 set_plain (k.X.keeps hb) (⟨hx,rfl,rfl,hd⟩:InstAt s.heap x (instObj C.cls dx) C.cls (some emptyDict)) kn.sa (osa0 (s:={ s with toks:=s.toks + 1 }) k kn (k.X.keeps hb) hx hd hne fun h' tk sb hs=>h h' tk sb hs)
end
noncomputable def initBody (p:Nat→Pos) (st1:Stmt):List Stmt :=
 [.Assign [.Name "headers" (p 0)] (.IfExp (.Compare (.Name "headers" (p 1)) [.IsNot] [.Constant .none 0 (p 2)] (p 3)) (.Name "headers" (p 4)) (.List [] (p 5)) (p 6)) (p 7),
  .If (.Compare (.Call (.Name "type" (p 8)) [.Name "headers" (p 9)] [] (p 10)) [.IsNot] [.Name "list" (p 11)] (p 12)) [st1] [] (p 13),
  .Assign [.Attribute (.Name "self" (p 14)) "_headers" (p 15)] (.Name "headers" (p 16)) (p 17),
  .If (.Constant (.bool true) 0 (p 18)) [.For (.Tuple [.Name "k" (p 19),.Name "v" (p 20)] 0 (p 21)) (.Name "headers" (p 22))
    [.Expr (.Call (.Attribute (.Name "self" (p 23)) "_convert_string_type" (p 24)) [.Name "k" (p 25)] [⟨some "name",.Constant (.bool true) 0 (p 26),p 27⟩] (p 28)) (p 29),
     .Expr (.Call (.Attribute (.Name "self" (p 30)) "_convert_string_type" (p 31)) [.Name "v" (p 32)] [⟨some "name",.Constant (.bool false) 0 (p 33),p 34⟩] (p 35)) (p 36)] [] (p 37)] [] (p 38)]
inductive InitFn (C:Cst) (a:Addr):Prop
 | mk (fd:FuncData) (p:Nat→Pos) (st1:Stmt)
   (e1:FnAt C a fd (initBody p st1)) (e2:((p 24).endLine==(p 28).line) = true) (e3:((p 31).endLine==(p 35).line) = true) (e4:(∀ x l (M:Model) (A:Around) (E:Value→Shared→Prop) (Q:List (Str × Value)→Shared→Prop) (s:Shared),(∀ b o,C.H.get? b = some o→s.heap.get? b = some o)→Q [(("self":Str),x),(("headers":Str),l)] s→wpAny M A (bindArgs fd ⟨[x,l],[]⟩) Q E s)) (e5:(∀ y∈(["self","headers","k","v"]:List Str),fd.scope.names.lookup y = some .local)) (e6:(∀ y∈(["type","list"]:List Str),fd.scope.names.lookup y = some .globalImplicit)) (e7:fd.scope.names.lookup ("_split_list":Str)≠some .globalImplicit)
structure InitAt (C:Cst) (a:Addr):Prop where
 fn:InitFn C a
noncomputable def dTup {α:Type} (d:D) (F:List D→Option α):Option α:=match d with
 | .tup l=>F l
 | _=>none
theorem dTup_v {α:Type} {d:D} {F:List D→Option α} {x:α} (h:dTup d F = some x):∃ l,d = .tup l∧F l = some x:=by
 induction d using D.casesOn<;>first | exact no_opt h | exact ⟨_,rfl,h⟩
noncomputable def pairOf (d:D):Option (Str × Str):=dTup d fun l=>dStr l fun a r=>dStr r fun b r=>dNil r (some (a,b))
noncomputable def pairsOf:List D→Option (List (Str × Str))
 | []=>some []
 | d::r=>(pairOf d).bind fun p=>(pairsOf r).bind fun ps=>some (p::ps)
set_option tactic.hygienic true in
theorem pairsOf_eq:∀ {ds:List D} {ps:List (Str × Str)},pairsOf ds = some ps→ds = ps.map pairD
 | [],ps,h=>by rw [← Option.some.inj (show some [] = some ps from h)];rfl
 | d::r,ps,h=>by
   refine zea (bind_v (show (pairOf d).bind _ = some ps from h)) fun p h1 h=>?_
   refine zea (bind_v h) fun qs h2 h=>?_
   rw [← Option.some.inj h,List.map_cons,← pairsOf_eq h2]
   refine zea (dTup_v h1) fun l e1 h1=>?_
   refine ze2a (dStr_v h1) fun a r' e2 h1=>?_
   refine ze2a (dStr_v h1) fun b r'' e3 h1=>?_
   refine za (dNil_v h1) fun e4 h1=>?_
   rw [e1,e2,e3,e4,← Option.some.inj h1];rfl
noncomputable def newS:Summ:=fun ds g=>dLst ds fun l r=>dNil r ((pairsOf l).bind fun ps=>if ps.all fun q=>clean q.1&&clean q.2 then some (.hdr g.length,g++[ps]) else none)
end Mine
end
section
set_option tactic.hygienic false
open PySem PySem.W PySem.Calls PyProof.Rows
set_option maxRecDepth 100000
namespace Mine
variable {C:Cst}
theorem Frm.before {K:Kp} {kd:Kd} {s00 s0:Shared} {io00 io0:HI} {Z0:List Addr} {env:Env} {ad:Str→Addr} {O F:List Addr} {fo:Fo} {io:HI} {g:Sg} {s:Shared} (x:Frm C K kd s0 io0 Z0 env ad O F fo io g s) (y:Grow C io00 io0 s00 s0):Frm C K kd s00 io00 Z0 env ad O F fo io g s :=
 have hg:=Grow.trans C y x.grow
 have hf:∀ f∈O++F,s00.heap.get? f = none:=fun f hf=>by
   induction e:s00.heap.get? f using Option.casesOn with
   | none=>rfl
   | some o=>refine ze (y.alive f o e) fun o' e'=>?_;rw [x.fresh f hf] at e';injection e'
 { x with grow:=hg,fresh:=hf }
section
variable {K:Frag} {fs:List (Str × Addr)} {fi ac:Addr} {Z:List Addr} {io:HI} {g:Sg} {s s':Shared}
inductive InitInv (C:Cst) (K1:Kp) (kd:Kd) (s0:Shared) (Z1:List Addr) (env:Env) (F:List Addr) (StI:Nat→Heap→Prop) (x:Addr) (N n:Nat) (s:Shared):Prop
 | mk (fo:Fo) (ad:Str→Addr) (i:Nat) (hn:n + i = N + 1) (hi:i≤N) (hs:StI i s.heap) (hv:VarAt kd env s.heap "self" (.ref x)) (x1:Frm C.bare K1 kd s0 [] Z1 env ad [] F fo [] [] s)
theorem initLoop {kd:Kd} {env:Env} {ad:Str→Addr} {F:List Addr} {fo:Fo} {K0:Kp} {s0:Shared} {Z0:List Addr} {A:Around} {p:Nat→Pos} {x dx l:Addr} {ps:List (Str × Str)} (k:HdrFns C K fs) (hcv:fs.lookup ("_convert_string_type":Str) = some ac) (cv:ConvOk C ac) (rt:RootOk C) (ha:AOk A 20)
   (xf:Frm C.bare K0 kd s0 [] Z0 env ad [] F fo [] [] s) (hself:VarAt kd env s.heap "self" (.ref x)) (hK:∃ hs tk n,K0.p x (instObj C.cls dx)∧K0.p dx (dictOf [⟨hs,.str ("_headers":Str) tk,.ref l⟩] n))
   (hl:fo.lookup ("headers":Str) = some (EV.val (.lst (ps.map pairD)))) (hk:canSet kd "k" = true) (hv:canSet kd "v" = true) (l1:((p 24).endLine==(p 28).line) = true) (l2:((p 31).endLine==(p 35).line) = true) (hcl:∀ q∈ps,clean q.1 = true∧clean q.2 = true) :
   wpAny (model C.prog C.w) A (exec (.For (.Tuple [.Name "k" (p 19),.Name "v" (p 20)] 0 (p 21)) (.Name "headers" (p 22))
    [.Expr (.Call (.Attribute (.Name "self" (p 23)) "_convert_string_type" (p 24)) [.Name "k" (p 25)] [⟨some "name",.Constant (.bool true) 0 (p 26),p 27⟩] (p 28)) (p 29),
     .Expr (.Call (.Attribute (.Name "self" (p 30)) "_convert_string_type" (p 31)) [.Name "v" (p 32)] [⟨some "name",.Constant (.bool false) 0 (p 33),p 34⟩] (p 35)) (p 36)] [] (p 37)) env)
     (fun fl s'=>fl = .next∧∃ ad fo,Frm C.bare K0 kd s0 [] Z0 env ad [] F fo [] [] s') noE s:=by
 refine zea (xf.vals "headers" _ hl) fun vl hvl hhl=>?_
 refine wpAny_For (var_ok xf hvl (by decide) (noE_mono (src_list (C:=C.bare) ha hhl) fun it s2 src=>?_)) (folded_none nofun)
 obtain ⟨I,fp,wr,P,StI,rfl,W,hst,k12,hwr,hfp,hP,hlen,hal,hgo⟩:=src
 have x2:=xf.moreW k12 hwr
 have wF:∀ w∈wr,w∉F:=fun w hw hm=>by
   refine ze (xf.sok.zal w (List.mem_append_right _ (List.mem_append_left _ hm))) fun o e=>?_
   rw [(hwr w hw).1] at e;injection e
 have wZ:∀ w∈wr,w∉Z0:=fun w hw hm=>by
   refine ze (xf.sok.zal w (List.mem_append_right _ (List.mem_append_right _ hm))) fun o e=>?_
   rw [(hwr w hw).1] at e;injection e
 have w0:∀ w∈wr,s0.heap.get? w = none:=fun w hw=>by
   induction e:s0.heap.get? w using Option.casesOn with
   | none=>rfl
   | some o=>refine ze (xf.grow.alive w o e) fun o' e'=>?_;rw [(hwr w hw).1] at e';injection e'
 have kk:∀ b o,s.heap.get? b = some o→s2.heap.get? b = some o:=by refine ze2a k12 fun h' tk e2q hkk=>?_;clear k12;subst e2q;exact hkk
 let K1:Kp:=⟨fun b o=>s.heap.get? b = some o∧b∉F,[]⟩
 have K1w:∀ b o,K1.p b o→b∉wr:=fun b o hb hm=>by have:=hb.1;rw [(hwr b hm).1] at this;injection this
 have KK:∀ b o,K0.p b o→K1.p b o:=fun b o hb=>⟨(xf.kept b o hb).1,(xf.kept b o hb).2.2.2.2⟩
 have x3:Frm C.bare K1 kd s0 [] (wr++Z0) env ad [] F fo [] [] s2:=x2.withK (fun b o hb=>⟨kk b o hb.1,(by intro h;cases h),(by intro h;cases h),(by intro h;cases h),hb.2⟩) (fun J J e=>e)
 have self2:VarAt kd env s2.heap "self" (.ref x):=hself.keep (fun o e=>kk _ o e) fun c o J J e=>kk _ o e
 let Inv:Nat→Shared→Prop:=InitInv C K1 kd s0 (wr++Z0) env F StI x (ps.map pairD).length
 refine codeAny_forLoop_any Inv ?_ ((ps.map pairD).length + 1)
   ⟨fo,ad,0,rfl,Nat.zero_le _,hst,self2,x3⟩
 rintro n s4 ⟨fo4,ad4,i,hni,hi,sti,self4,xi⟩
 by_cases hlt:i < (ps.map pairD).length
 · refine W.item i _ _ _ hlt sti fun v hp tkp hPv hstp hkp=>?_
   have tw:Touch wr s4 { s4 with heap:=hp,toks:=tkp }:=⟨⟨hp,tkp,rfl⟩,fun b o e hb=>hkp b o hb e,fun b hb J=>hal _ _ hstp b hb⟩
   have xj:=xi.touch tw (fun w hw=>⟨List.mem_append_left _ hw,(by intro h;cases h),wF w hw⟩) K1w w0
   refine zea (hP i v hlt hPv) fun d hd hdv=>?_
   rw [List.length_map] at hlt
   have hdq:d = pairD ps[i]:=by
     rw [List.getElem?_map,List.getElem?_eq_getElem hlt] at hd
     simpa using hd.symm
   subst hdq
   refine za (hcl ps[i] (List.getElem_mem hlt)) fun c1 c2=>?_
   refine go_plain (hgo _ _ hstp) ?_
   have kv:(("k":Str)==("v":Str)) = false:=by decide
   have hdv':Has C.bare (VV C.bare [] ([]++(F++(wr++Z0)))) [] hp (pairD ps[i]) v:=Has.mono C.bare (fun a o e hn=>by
     have hn':a∉F∧a∉Z0:=by
       simp only [VV,List.mem_append,not_or] at hn
       exact hn.2.2
     refine za4 (xj.kept a o ⟨e,hn'.1⟩) fun q1 q2 q3 q4 q5=>?_
     refine ⟨q1,fun hm=>?_⟩
     simp only [VV,List.mem_append] at hm
     rcases hm with (hm | hm) | hm | hm | hm | hm
     · exact q2 hm
     · exact q3 hm
     · cases hm
     · exact q5 hm
     · exact K1w a o ⟨e,hn'.1⟩ hm
     · exact hn'.2 hm) (fun J J e=>e) hdv
   have nF:∀ b∈F,b∉wr:=fun b hb hm=>wF b hm hb
   have selfp:VarAt kd env hp "self" (.ref x):=self4.keep (fun o e=>hkp _ o (nF _ xi.lF) e) fun c o hk hc e=>by
     refine ze2a3 (xi.all _ hk) fun c' J h1 J h4 J=>?_
     rw [hc] at h1;(injection h1 with h1;subst h1)
     exact hkp _ o (nF _ h4) e
   refine tgt_store ha.hh xj (b:=[(("k":Str),.str ps[i].1),(("v":Str),.str ps[i].2)]) rfl (fun q hq=>by
     simp only [List.mem_cons,List.not_mem_nil,or_false] at hq
     rcases hq with rfl | rfl
     · exact hk
     · exact hv) hdv' fun ad5 s5 x5 k5 v5=>?_
   have nd:(([(("k":Str),D.str ps[i].1),(("v":Str),D.str ps[i].2)]:List (Str × D)).map (·.1)).Nodup:=by show ([("k":Str),("v":Str)]:List Str).Nodup;decide
   have fk:(setEs [(("k":Str),D.str ps[i].1),(("v":Str),D.str ps[i].2)] fo4).lookup ("k":Str) = some (EV.val (.str ps[i].1)):=by rw [setEs_lookup _ _ _ nd];rfl
   have fv:(setEs [(("k":Str),D.str ps[i].1),(("v":Str),D.str ps[i].2)] fo4).lookup ("v":Str) = some (EV.val (.str ps[i].2)):=by rw [setEs_lookup _ _ _ nd];rfl
   have self5:=v5 "self" _ (fun q hq=>by
     simp only [List.mem_cons,List.not_mem_nil,or_false] at hq
     rcases hq with rfl | rfl
     · show ("self":Str)≠"k";decide
     · show ("self":Str)≠"v";decide) selfp
   refine zea (x5.vals "k" _ fk) fun wk hwk hk1=>?_
   refine zea (x5.vals "v" _ fv) fun wv hwv hv1=>?_
   refine zae hk1 fun J tk e2q=>?_;clear hk1;subst e2q
   refine zae hv1 fun J tv e2q=>?_;clear hv1;subst e2q
   refine ze3a hK fun hs tkk nn q1 q2=>?_;clear hK
   have sh5:HdrShape C s5.heap x dx l:=⟨(x5.kept _ _ (KK _ _ q1)).1,hs,tkk,nn,(x5.kept _ _ (KK _ _ q2)).1⟩
   have inter:interactive env = false:=by unfold interactive;rw [x5.fn];rfl
   have body:wpAny (model C.prog C.w) A (execs [.Expr (.Call (.Attribute (.Name "self" (p 23)) "_convert_string_type" (p 24)) [.Name "k" (p 25)] [⟨some "name",.Constant (.bool true) 0 (p 26),p 27⟩] (p 28)) (p 29),
     .Expr (.Call (.Attribute (.Name "self" (p 30)) "_convert_string_type" (p 31)) [.Name "v" (p 32)] [⟨some "name",.Constant (.bool false) 0 (p 33),p 34⟩] (p 35)) (p 36)] env) (fun fl s'=>fl = .next∧Keeps s5 s') noE s5:=by
     refine wpAny_execs_cons (wpAny_Expr (conv_call (A:=A) k hcv cv rt (by have:=ha.dp;lia) l1 rfl (fun Q hq=>var_ok x5 self5 (by decide) hq) x5.sok.base sh5 (var_ok x5 hwk (by decide) ⟨_,tk,rfl,c1,x5.sok.base,fun s6 kp6=>?_⟩)) inter rfl)
     have x6:=x5.step (Keeps.grow C.bare kp6) (Keeps.sok C.bare kp6 x5.sok)
     have kk6:∀ b o,s5.heap.get? b = some o→s6.heap.get? b = some o:=by refine ze2a kp6 fun h' tk' e hk'=>?_;clear kp6;rw [e];exact hk'
     have self6:VarAt kd env s6.heap "self" (.ref x):=self5.keep (fun o e=>kk6 _ o e) fun c o J J e=>kk6 c o e
     have hwv6:VarAt kd env s6.heap "v" (.str ps[i].2 tv):=hwv.keep (fun o e=>kk6 _ o e) fun c o J J e=>kk6 c o e
     have sh6:HdrShape C s6.heap x dx l:=⟨(x6.kept _ _ (KK _ _ q1)).1,hs,tkk,nn,(x6.kept _ _ (KK _ _ q2)).1⟩
     refine wpAny_execs_cons (wpAny_Expr (conv_call (A:=A) k hcv cv rt (by have:=ha.dp;lia) l2 rfl (fun Q hq=>var_ok x6 self6 (by decide) hq) x6.sok.base sh6 (var_ok x6 hwv6 (by decide) ⟨_,tv,rfl,c2,x6.sok.base,fun s7 kp7=>?_⟩)) inter rfl)
     exact wpAny_execs_nil ⟨rfl,Keeps.trans kp6 kp7⟩
   refine noE_mono body ?_
   rintro fl s7 ⟨rfl,kp7⟩
   have x7:=x5.step (Keeps.grow C.bare kp7) (Keeps.sok C.bare kp7 x5.sok)
   have kk7:∀ b o,s5.heap.get? b = some o→s7.heap.get? b = some o:=by refine ze2a kp7 fun h' tk' e hk'=>?_;clear kp7;rw [e];exact hk'
   have self7:VarAt kd env s7.heap "self" (.ref x):=self5.keep (fun o e=>kk7 _ o e) fun c o J J e=>kk7 c o e
   refine ⟨n - 1,by lia,_,_,i + 1,by lia,by rw [List.length_map];lia,?_,self7,x7⟩
   refine W.frame _ _ _ hstp fun b hb o e=>kk7 b o (k5 b o (fun hm=>?_) e)
   rcases hfp b hb with h | ⟨o',e',hv⟩
   · exact wF b h hm
   · simp only [VV,List.mem_append,not_or] at hv
     exact hv.2.2.1 hm
 · have hin:i = (ps.map pairD).length:=by lia
   subst hin
   refine W.done _ _ _ sti fun hp tkp hkp=>wpAny_execs_nil ⟨rfl,ad4,fo4,?_⟩
   have xx:=xi.dropW (h':=hp) (tk:=tkp) (fun b o e hb=>hkp b o hb e) wF wZ w0 K1w
   exact xx.withK (fun b o hb=>xx.kept b o (KK b o hb)) (fun k t e=>xf.pref k t e)
end
end Mine
end
section
set_option tactic.hygienic false
open PySem PySem.W PySem.Calls PyProof.Rows
set_option maxRecDepth 100000
namespace Mine
variable {C:Cst}
section
variable {K:Frag} {fs:List (Str × Addr)} {fi ac:Addr} {Z:List Addr} {io:HI} {g:Sg} {s s':Shared}
theorem pairs_io {V:List Addr} {io io':HI} {h:Heap}:∀ {ps:List (Str × Str)} {vs:List Value},HasL C V io h (ps.map pairD) vs→HasL C V io' h (ps.map pairD) vs
 | [],vs,x=>by simpa [HasL] using x
 | q::r,vs,x=>by
   refine ze2a2 x fun v vs' e h1 h2=>?_;clear x
   exact ⟨v,vs',e,h1,pairs_io h2⟩
theorem VarAt.unique {kd:Kd} {env:Env} {h:Heap} {y:Str} {v w:Value} (x:VarAt kd env h y v) (x':VarAt kd env h y w):v = w:=by
 rcases x with ⟨h1,m,hn,hm⟩ | ⟨h1,c,hc,o,e1,e2⟩
 · rcases x' with ⟨_,m',hn',hm'⟩ | ⟨h2,_⟩
   · refine ze3a3 hn fun o es ep e1 e2 J e3=>?_;clear hn
     refine ze3a3 hn' fun o' es' ep' e1' e2' J e3'=>?_;clear hn'
     rw [e1] at e1';(injection e1' with e1';subst e1')
     rw [e2] at e2';(injection e2' with e2'1 e2'2;subst e2'1;subst e2'2)
     have:m y = m' y:=by rw [← e3,e3']
     rw [hm,hm'] at this
     exact Option.some.inj this
   · rw [h1] at h2;(injection h2 with h2;injection h2)
 · rcases x' with ⟨h2,_⟩ | ⟨_,c',hc',o',e1',e2'⟩
   · rw [h1] at h2;(injection h2 with h2;injection h2)
   · rw [hc] at hc';(injection hc' with hc';subst hc')
     rw [e1] at e1';(injection e1' with e1';subst e1')
     rw [e2] at e2'
     simpa using e2'
noncomputable abbrev newHeap (C:Cst) (h:Heap):Heap:=(h.push emptyDict).push (instObj C.cls h.objs.size)
theorem new_dx (h:Heap):(newHeap C h).get? h.objs.size = some emptyDict:=Heap.get?_push_of_some _ (Heap.get?_push_size _ rfl)
theorem new_x (h:Heap):(newHeap C h).get? (h.objs.size + 1) = some (instObj C.cls h.objs.size):=by
 have e:(h.push emptyDict).objs.size = h.objs.size + 1:=Heap.size_push ..
 rw [← e]
 exact Heap.get?_push_size _ rfl
theorem init_run (k:HdrFns C K fs) (kn:HdrNew C K fi) (hcv:fs.lookup ("_convert_string_type":Str) = some ac) (cv:ConvOk C ac) (rt:RootOk C) (ia:InitAt C fi) {A:Around} (ha:AOkC A 21) (hk:Sok C Z io g s) {a:Addr} {vs:Array Value} {ps:List (Str × Str)}
   (hp:s.heap.PlainList a vs) (haV:a∉VV C io Z) (hh:HasL C (VV C io Z) io s.heap (ps.map pairD) vs.toList) (hlen:ps.length≤lim) (hcl:∀ q∈ps,clean q.1 = true∧clean q.2 = true) :
   codeAny (model C.prog C.w) A (.call (.ref fi) ⟨[.ref (s.heap.objs.size + 1),.ref a],[]⟩) (fun r s'=>match r with | .ok (.ret v)=>v = .none∧Keeps s s'∧HdrShape C s'.heap (s.heap.objs.size + 1) s.heap.objs.size a | .ok _=>False | .error _=>False) { s with heap:=newHeap C s.heap }:=by
 obtain ⟨fd,p,st1,fn,l1,l2,hb,hloc,hglo,hns⟩:=ia.fn
 let x:=s.heap.objs.size + 1
 let dx:=s.heap.objs.size
 have kp:Keeps s { s with heap:=newHeap C s.heap }:=⟨_,s.toks,rfl,fun b o e=>Heap.get?_push_of_some _ (Heap.get?_push_of_some _ e)⟩
 have nn:∀ b,s.heap.objs.size≤b→s.heap.get? b = none:=fun b hb=>by
   induction e:s.heap.get? b using Option.casesOn with
   | none=>rfl
   | some o=>exact absurd (Heap.lt_size e) (Nat.not_lt.mpr hb)
 have hW:∀ w∈[x,dx],s.heap.get? w = none∧∃ o,(newHeap C s.heap).get? w = some o:=fun w hw=>by
   simp only [List.mem_cons,List.not_mem_nil,or_false] at hw
   rcases hw with rfl | rfl
   · exact ⟨nn _ (Nat.le_succ _),_,new_x _⟩
   · exact ⟨nn _ (Nat.le_refl _),_,new_dx _⟩
 have kb:Sok C.bare ([x,dx]++VV C io Z) [] [] { s with heap:=newHeap C s.heap }:=Sok.more_many (hk.bare rt) kp hW
 have up:∀ (b:Addr) (o:Obj),s.heap.get? b = some o→b∉VV C io Z→(newHeap C s.heap).get? b = some o∧b∉VV C.bare [] ([x,dx]++VV C io Z):=fun b o e hn=>by
   refine ⟨Heap.get?_push_of_some _ (Heap.get?_push_of_some _ e),fun hm=>?_⟩
   have hm':b = x∨b = dx∨b∈VV C io Z:=by simpa [VV,Cst.bare,adr] using hm
   rcases hm' with h | h | h
   · rw [h,(hW x (.head _)).1] at e;injection e
   · rw [h,(hW dx (.tail _ (.head _))).1] at e;injection e
   · exact hn h
 refine ze hp fun n0 hp0=>?_;clear hp
 have hasL:Has C.bare (VV C.bare [] ([x,dx]++VV C io Z)) [] (newHeap C s.heap) (.lst (ps.map pairD)) (.ref a):=by
   exact ⟨by rw [List.length_map];exact hlen,a,vs,rfl,(up a _ hp0 haV).2,⟨n0,(up a _ hp0 haV).1⟩,hasL_bare.mpr (HasL.mono C up (fun J J e=>e) (pairs_io hh))⟩
 have can:∀ y∈(["self","headers","k","v"]:List Str),canSet (fun y=>fd.scope.names.lookup y) y = true:=fun y hy=>by unfold canSet;simp only [hloc y hy];rfl
 refine fun_enterC (C:=C.bare) (L:=20) (binds:=[(("self":Str),.ref x),(("headers":Str),.ref a)]) (l:=[(("headers":Str),.lst (ps.map pairD))]) rt.bare (fn.bare hns) (fun A E Q hq=>hb _ _ _ _ _ _ _ kb.base hq) (fun q hq=>?_) (by show ([("self":Str),("headers":Str)]:List Str).Nodup;decide) ha kb (by simp) (fun y d hy=>?_) fun env s3 F kp3 hF xf0 hvar ha2=>?_
 · simp only [List.mem_cons,List.not_mem_nil,or_false] at hq
   rcases hq with rfl | rfl
   · exact can "self" (by decide)
   · exact can "headers" (by decide)
 · by_cases h1:y = "headers"
   · subst h1
     have e:d = .lst (ps.map pairD):=by simpa [List.lookup] using hy.symm
     subst e
     exact ⟨.ref a,by
       have:(("headers":Str)==("self":Str)) = false:=by decide
       simp [List.lookup,this],hasL⟩
   · have e1:(y==("headers":Str)) = false:=by simpa using h1
     simp [List.lookup,e1] at hy
 · let kd:Kd:=fun y=>fd.scope.names.lookup y
   have kk3:∀ b o,(newHeap C s.heap).get? b = some o→s3.heap.get? b = some o:=by refine ze2a kp3 fun h' tk' e hk'=>?_;clear kp3;rw [e];exact hk'
   have xF:x∉F:=fun hm=>by have:=hF _ hm;rw [new_x] at this;injection this
   have dF:dx∉F:=fun hm=>by have:=hF _ hm;rw [new_dx] at this;injection this
   let K1:Kp:=⟨fun b o=>(b = x∧o = instObj C.cls dx)∨(b = dx∧o = emptyDict),[]⟩
   have xf:Frm C.bare K1 kd s [] ([x,dx]++VV C io Z) env (fun J=>0) [] F (valsOf [(("headers":Str),.lst (ps.map pairD))]) [] [] s3:=(xf0.before (Keeps.grow C.bare kp)).withK (fun b o hbo=>by
     rcases hbo with ⟨rfl,rfl⟩ | ⟨rfl,rfl⟩
     · exact ⟨kk3 _ _ (new_x _),(by intro h;cases h),(by intro h;cases h),(by intro h;cases h),xF⟩
     · exact ⟨kk3 _ _ (new_dx _),(by intro h;cases h),(by intro h;cases h),(by intro h;cases h),dF⟩) (fun k t e=>by have e2:([]:HI)[k]? = some t:=e;simp at e2)
   have self3:VarAt kd env s3.heap "self" (.ref x):=hvar "self" _ rfl
   have head3:VarAt kd env s3.heap "headers" (.ref a):=hvar "headers" (.ref a) (by
     have:(("headers":Str)==("self":Str)) = false:=by decide
     simp only [List.lookup,this,beq_self_eq_true])
   have main:wpAny (model C.prog C.w) (A.deeper env) (execs (initBody p st1) env) (fun fl s'=>fl = .next∧Keeps s s'∧HdrShape C s'.heap x dx a) noE s3:=?_
   · refine noE_mono main ?_
     rintro fl s4 ⟨rfl,h4⟩
     exact ⟨rfl,h4⟩
   have hk1:Has C.bare (VV C.bare [] ([]++(F++([x,dx]++VV C io Z)))) [] s3.heap (.lst (ps.map pairD)) (.ref a):=by
     refine zea (xf.vals "headers" (.val (.lst (ps.map pairD))) rfl) fun v hv he=>?_
     rw [hv.unique head3] at he
     exact he
   refine wpAny_execs_cons (wpAny_Assign_Name (wpAny_IfExp (wpAny_isTrue_Compare1 (var_ok xf head3 (by decide) (wpAny_pure (isNot_none (wpAny_truthy_bool ?_)))) rfl)) rfl)
   have tr:(!(Value.ref a==Value.none)) = true:=rfl
   rw [if_pos tr]
   refine var_ok xf head3 (by decide) (xf.storeV (ev:=.val (.lst (ps.map pairD))) (a:=0) (can "headers" (by decide)) hk1 (fun l hl=>by injection hl) fun s4 xf4 k4 v4 head4=>?_)
   have self4:=v4 "self" _ (by decide) self3
   have fo4:(setE "headers" (EV.val (.lst (ps.map pairD))) (valsOf [(("headers":Str),.lst (ps.map pairD))])).lookup ("headers":Str) = some (EV.val (.lst (ps.map pairD))):=(setE_lookup _ _).trans (if_pos rfl)
   generalize setE "headers" (EV.val (.lst (ps.map pairD))) (valsOf [(("headers":Str),.lst (ps.map pairD))]) = fo at xf4 fo4
   have hg4:=rt.g.keeps xf4.sok.base
   have hbu4:=rt.b.keeps xf4.sok.base
   have lstAt:s4.heap.PlainList a vs:=by
     have g4:=Grow.keepsB xf4.grow
     refine ze2a g4 fun h' tk' e hk'=>?_;clear g4
     rw [e];exact ⟨n0,hk' _ _ hp0⟩
   refine ze lstAt fun n4 e4=>?_;clear lstAt
   refine wpAny_execs_cons (wpAny_If (wpAny_isTrue_Compare1 (Call_ (Calls.Name_function_global xf4.fn ((xf4.kdo _).trans (hglo "type" (by decide))) (Calls.loadGlobal_builtin (env:=env) (by rw [xf4.gl];exact hg4) (rt.nob2 _ (by decide)) (by rw [xf4.bi];exact hbu4) ((rt.bi _ (by decide)).trans (show bootBuiltins "type" = some (.type "type") by decide +kernel)) ?_) (by decide)) rfl) rfl))
   refine Pv.callWith_type1 (wpAny_items_cons (var_ok xf4 head4 (by decide) (wpAny_items_nil ?_)))
   refine call_type_of (Tx:="list") ⟨_,e4,rfl⟩ (by decide +kernel) ?_
   refine Calls.Name_function_global xf4.fn ((xf4.kdo _).trans (hglo "list" (by decide))) (Calls.loadGlobal_builtin (env:=env) (by rw [xf4.gl];exact hg4) (rt.nob2 _ (by decide)) (by rw [xf4.bi];exact hbu4) ((rt.bi _ (by decide)).trans (show bootBuiltins "list" = some (.type "list") by decide +kernel)) ?_) (by decide)
   refine wpAny_isNot_self (by rfl) (wpAny_truthy_bool ?_)
   rw [if_neg (by decide)]
   refine wpAny_execs_nil ?_
   have hx4:s4.heap.get? x = some (instObj C.cls dx):=(xf4.kept x _ (.inl ⟨rfl,rfl⟩)).1
   have hd4:s4.heap.get? dx = some emptyDict:=(xf4.kept dx _ (.inr ⟨rfl,rfl⟩)).1
   have xd:x≠dx:=Nat.succ_ne_self _
   refine wpAny_execs_cons (plainObj_wpAny_Assign_Attribute (var_ok xf4 head4 (by decide) (var_ok xf4 self4 (by decide) (set_attr0 k.cls kn xf4.sok.base hx4 hd4 xd fun h5 t5 sb5 sh5=>?_))) rfl)
   have al5:∃ o,h5.get? dx = some o:=by refine zae3 sh5 fun J J J J e=>?_;clear sh5;exact ⟨_,e⟩
   have t45:Touch [dx] s4 { s4 with heap:=h5,toks:=t5 }:=⟨⟨h5,t5,rfl⟩,fun b o e hb=>sb5.extBut b o (by simpa using hb) e,fun b hb J=>by simp only [List.mem_singleton] at hb;subst hb;exact al5⟩
   let K2:Kp:=⟨fun b o=>b = x∧o = instObj C.cls dx,[]⟩
   have xf4':Frm C.bare K2 kd s [] ([x,dx]++VV C io Z) env _ [] F fo [] [] s4:=xf4.withK (fun b o hb=>xf4.kept b o (.inl hb)) (fun k t e=>by have e2:([]:HI)[k]? = some t:=e;simp at e2)
   have xf5:=xf4'.touch t45 (fun w hw=>by simp only [List.mem_singleton] at hw;subst hw;exact ⟨by simp,(by intro h;cases h),dF⟩) (fun b o hb hm=>by simp only [List.mem_singleton] at hm;exact xd (hb.1.symm.trans hm)) (fun w hw=>by simp only [List.mem_singleton] at hw;subst hw;exact (hW dx (.tail _ (.head _))).1)
   refine zae3 sh5 fun s51 hs5 tk5 nn5 s52=>?_;clear sh5
   let K3:Kp:=⟨fun b o=>(b = x∧o = instObj C.cls dx)∨(b = dx∧o = dictOf [⟨hs5,.str ("_headers":Str) tk5,.ref a⟩] nn5),[]⟩
   have xf6:Frm C.bare K3 kd s [] ([x,dx]++VV C io Z) env _ [] F fo [] [] { s4 with heap:=h5,toks:=t5 }:=xf5.withK (fun b o hb=>by
     rcases hb with ⟨rfl,rfl⟩ | ⟨rfl,rfl⟩
     · exact ⟨s51,(by intro h;cases h),(by intro h;cases h),(by intro h;cases h),xF⟩
     · exact ⟨s52,(by intro h;cases h),(by intro h;cases h),(by intro h;cases h),dF⟩) (fun k t e=>by have e2:([]:HI)[k]? = some t:=e;simp at e2)
   have self5:VarAt kd env h5 "self" (.ref x):=self4.keep (fun o e=>sb5.extBut _ o (fun he=>dF (he ▸ xf4.lF)) e) fun c o hk hc e=>by
     refine ze2a3 (xf4.all _ hk) fun c' J h1 J h4 J=>?_
     rw [hc] at h1;(injection h1 with h1;subst h1)
     exact sb5.extBut _ o (fun he=>dF (he ▸ h4)) e
   refine wpAny_execs_cons (wpAny_If (wpAny_isTrue_value (wpAny_pure (wpAny_truthy_bool ?_)) rfl))
   rw [if_pos rfl]
   refine wpAny_execs_cons (noE_mono (initLoop (l:=a) (dx:=dx) k hcv cv rt ha2 xf6 self5 ⟨hs5,tk5,nn5,.inl ⟨rfl,rfl⟩,.inr ⟨rfl,rfl⟩⟩ fo4 (can "k" (by decide)) (can "v" (by decide)) l1 l2 hcl) ?_)
   rintro fl s7 ⟨rfl,ad7,fo7,xf7⟩
   exact wpAny_execs_nil (wpAny_execs_nil ⟨rfl,Grow.keepsB xf7.grow,(xf7.kept x _ (.inl ⟨rfl,rfl⟩)).1,hs5,tk5,nn5,(xf7.kept dx _ (.inr ⟨rfl,rfl⟩)).1⟩)
end
end Mine
end
section
set_option tactic.hygienic false
open PySem PySem.W PySem.Calls PyProof.Rows
set_option maxRecDepth 100000
namespace Mine
variable {C:Cst}
section
variable {K:Frag} {fs:List (Str × Addr)} {fi ac:Addr} {Z:List Addr} {io io1:HI} {g:Sg} {s0 s s':Shared}
theorem flat_pairD:∀ (ps:List (Str × Str)),flatL (ps.map pairD) = true
 | []=>rfl
 | q::r=>flat_pairD r
theorem adr_one (t:Addr × Addr × Addr):adr [t] = [t.1,t.2.1,t.2.2]:=rfl
theorem hdr_more (r:RootOk C) (hk:Sok C Z io1 g s) (x1:Grow C io io1 s0 s) (kp:Keeps s s') {x dx a:Addr} {vs:Array Value} {ps:List (Str × Str)} (hx:s.heap.get? x = none) (hd:s.heap.get? dx = none) (xd:x≠dx) (hp:s.heap.PlainList a vs) (h0:s0.heap.get? a = none) (hH:C.H.get? a = none) (haV:a∉VV C io1 Z)
   (hh:HasL C (VV C io1 Z) io1 s.heap (ps.map pairD) vs.toList) (hlen:ps.length≤lim) (sh:HdrShape C s'.heap x dx a):Sok C Z (io1++[(x,dx,a)]) (g++[ps]) s'∧Grow C io (io1++[(x,dx,a)]) s0 s':=by
 refine ze2a kp fun h' tk e2q kk=>?_;clear kp;subst e2q
 have hp':=hp
 refine ze hp' fun n0 e0=>?_;clear hp'
 have xa:x≠a:=fun he=>by rw [he,e0] at hx;injection hx
 have da:dx≠a:=fun he=>by rw [he,e0] at hd;injection hd
 have hadr:adr (io1++[(x,dx,a)]) = adr io1++[x,dx,a]:=by rw [adr_append,adr_one]
 have vv:∀ b,b∈VV C (io1++[(x,dx,a)]) Z↔b∈VV C io1 Z∨b = x∨b = dx∨b = a:=fun b=>by
   unfold VV
   rw [hadr]
   simp only [List.mem_append,List.mem_cons,List.not_mem_nil,or_false]
   constructor
   · rintro ((h | h | h) | h)
     · exact .inl (.inl (.inl h))
     · exact .inl (.inl (.inr h))
     · exact .inr h
     · exact .inl (.inr h)
   · rintro (((h | h) | h) | h)
     · exact .inl (.inl h)
     · exact .inl (.inr (.inl h))
     · exact .inr h
     · exact .inl (.inr (.inr h))
 have va:=vv_alive hk
 have xadr:x∉adr io1:=fun hm=>by refine ze (hk.st.alive C x hm) fun o e=>?_;rw [hx] at e;injection e
 have dadr:dx∉adr io1:=fun hm=>by refine ze (hk.st.alive C dx hm) fun o e=>?_;rw [hd] at e;injection e
 have aadr:a∉adr io1:=fun hm=>haV (by exact List.mem_append_left _ (List.mem_append_right _ hm))
 have aZ:a∉Z:=fun hm=>haV (by exact List.mem_append_right _ hm)
 have move:∀ {qs:List (Str × Str)} {ws:List Value} {ioa iob:HI},HasL C (VV C io1 Z) ioa s.heap (qs.map pairD) ws→HasL C (VV C (io1++[(x,dx,a)]) Z) iob h' (qs.map pairD) ws:=fun {qs ws ioa iob} hq=>by
   have q1:HasL C ([x,dx]++VV C io1 Z) ioa h' (qs.map pairD) ws:=HasL.mono C (fun b o e hn=>⟨kk b o e,fun hm=>by
     rcases List.mem_append.mp hm with hm | hm
     · simp only [List.mem_cons,List.not_mem_nil,or_false] at hm
       rcases hm with rfl | rfl
       · rw [hx] at e;injection e
       · rw [hd] at e;injection e
     · exact hn hm⟩) (fun J J e=>e) hq
   have q2:=HasL.flatMore (O:=[a]) (V':=VV C (io1++[(x,dx,a)]) Z) (fun b hb=>by simp only [List.mem_singleton] at hb;subst hb;exact ⟨vs,n0,kk _ _ e0⟩) (fun b hb=>by
     rcases (vv b).mp hb with h | h | h | h
     · exact .inl (List.mem_append_right _ h)
     · exact .inl (List.mem_append_left _ (by simp [h]))
     · exact .inl (List.mem_append_left _ (by simp [h]))
     · exact .inr (by simp [h])) (flat_pairD qs) q1
   exact pairs_io q2
 have hxH:C.H.get? x = none:=by
   induction e:C.H.get? x using Option.casesOn with
   | none=>rfl
   | some o=>have:=hk.base _ _ e;rw [hx] at this;injection this
 have hdH:C.H.get? dx = none:=by
   induction e:C.H.get? dx using Option.casesOn with
   | none=>rfl
   | some o=>have:=hk.base _ _ e;rw [hd] at this;injection this
 refine ⟨⟨fun b o e=>kk b o (hk.base b o e),⟨by rw [List.length_append,List.length_append];have:=hk.st.len;simp only [List.length_cons,List.length_nil];lia,fun j t qs h1 h2=>?_,?_,fun b hb=>?_,C.vtKeep _ _ _ _ hk.st.vt (fun b J o e=>kk b o e) fun b o ws e hdt hn=>⟨kk b o e,fun hm=>?_⟩⟩,fun z hz=>?_,fun z hz=>⟨(hk.zd z hz).1,fun hm=>?_,(hk.zd z hz).2.2⟩,fun z hz=>?_⟩,⟨?_,fun b o e hb1 hb2=>?_,fun b o e=>?_,fun j t e=>?_,fun b hb=>?_⟩⟩
 · rcases Nat.lt_trichotomy j io1.length with hj | hj | hj
   · rw [List.getElem?_append_left hj] at h1
     rw [List.getElem?_append_left (by have:=hk.st.len;lia)] at h2
     have HH:=hk.st.at' j t qs h1 h2
     refine ze3 HH.dict fun b1 b2 b3 e=>?_
     refine zea HH.list fun ws e1q hw=>?_;obtain ⟨m,e2⟩:=e1q
     exact ⟨kk _ _ HH.inst,⟨b1,b2,b3,kk _ _ e⟩,⟨ws,⟨m,kk _ _ e2⟩,move hw⟩,HH.len⟩
   · subst hj
     rw [List.getElem?_append_right (Nat.le_refl _)] at h1
     rw [hk.st.len,List.getElem?_append_right (Nat.le_refl _)] at h2
     simp only [Nat.sub_self,List.getElem?_cons_zero,Option.some.injEq] at h1 h2
     subst h1 h2
     exact ⟨sh.1,sh.2,⟨vs,⟨n0,kk _ _ e0⟩,move hh⟩,hlen⟩
   · rw [List.getElem?_append_right (by lia)] at h1
     rw [List.getElem?_eq_none (by simp only [List.length_cons,List.length_nil];lia)] at h1
     injection h1
 · rw [hadr,List.nodup_append]
   refine ⟨hk.st.nodup,by simp [xd,xa,da],fun b hb c hc he=>?_⟩
   subst he
   simp only [List.mem_cons,List.not_mem_nil,or_false] at hc
   rcases hc with rfl | rfl | rfl
   · exact xadr hb
   · exact dadr hb
   · exact aadr hb
 · rw [hadr] at hb
   simp only [List.mem_append,List.mem_cons,List.not_mem_nil,or_false] at hb
   rcases hb with hb | rfl | rfl | rfl
   · exact hk.st.below b hb
   · exact hxH
   · exact hdH
   · exact hH
 · rcases (vv b).mp hm with h | h | h | h
   · exact hn h
   · rw [h,hx] at e;injection e
   · rw [h,hd] at e;injection e
   · rw [h,e0] at e;(injection e with e;subst e);injection hdt
 · refine ze (hk.zal z hz) fun o e=>?_;exact ⟨o,kk z o e⟩
 · rw [hadr] at hm
   simp only [List.mem_append,List.mem_cons,List.not_mem_nil,or_false] at hm
   rcases hm with hm | rfl | rfl | rfl
   · exact (hk.zd z hz).2.1 hm
   · refine ze (hk.zal _ hz) fun o e=>?_;rw [hx] at e;injection e
   · refine ze (hk.zal _ hz) fun o e=>?_;rw [hd] at e;injection e
   · exact aZ hz
 · refine ze (hk.val z hz) fun o e=>?_;exact ⟨o,kk z o e⟩
 · refine ze2 x1.same fun h1 t1 e1=>?_
   exact ⟨h',tk,by rw [e1]⟩
 · exact kk b o (x1.keep b o e hb1 hb2)
 · refine ze (x1.alive b o e) fun o' e'=>?_;exact ⟨o',kk b o' e'⟩
 · have:=x1.pre j t e
   have hlt:=(List.getElem?_eq_some_iff.mp this).1
   rw [List.getElem?_append_left hlt];exact this
 · rw [hadr] at hb
   have dead:∀ b,s.heap.get? b = none→s0.heap.get? b = none:=fun b hb=>by
     induction e:s0.heap.get? b using Option.casesOn with
     | none=>rfl
     | some o=>refine ze (x1.alive b o e) fun o' e'=>?_;rw [hb] at e';injection e'
   simp only [List.mem_append,List.mem_cons,List.not_mem_nil,or_false] at hb
   rcases hb with hb | rfl | rfl | rfl
   · exact x1.fresh b hb
   · exact .inr (dead _ hx)
   · exact .inr (dead _ hd)
   · exact .inr h0
set_option tactic.hygienic true in
theorem new_ok (k:HdrFns C K fs) (kn:HdrNew C K fi) (hcv:fs.lookup ("_convert_string_type":Str) = some ac) (cv:ConvOk C ac) (rt:RootOk C) (ia:InitAt C fi):NewOk C 22 newS:=by
 intro ds g d g' h A Z io io1 s0 s a vs ha x1 hk h0 hp hH haV hh hlen
 refine zea (bind_v (show (pairsOf ds).bind _ = some (d,g') from h)) fun ps hps h=>?_
 · refine za (if_some h) fun hc h=>?_
   apply i2 h
   simp only [List.all_eq_true,Bool.and_eq_true] at hc
   have hds:=pairsOf_eq hps
   subst hds
   rw [List.length_map] at hlen
   have hA:AOkC (A.under (.builtin "type.__call__" ⟨[.ref C.cls,.ref a],[]⟩)) 21:=⟨ha.hh,by have:=ha.dp;show A.depth + 1 + 21≤900;lia,by have:=ha.un;show A.units + 1 + 8 * 21≤9005;lia⟩
   obtain ⟨hp0,gg,dd,tt,os⟩:=s
   have X:=k.cls.X.keeps hk.base
   refine wpAny_call (make_core (makes_of X kn.mak) (looks_findIn X kn.init) (fun self=>bind_fn X self kn.fn) (.inl rfl) ?_)
   refine codeAny_mono (init_run k kn hcv cv rt ia hA hk hp haV hh hlen hc) fun r s' hr=>?_
   match r,hr with
   | .ok (.ret v),hr =>
     refine za2 hr fun e0q kp sh=>?_;clear hr;subst e0q
     have nn:∀ b,hp0.objs.size≤b→hp0.get? b = none:=fun b hb=>by
       induction e:hp0.get? b using Option.casesOn with
       | none=>rfl
       | some o=>exact absurd (Heap.lt_size e) (Nat.not_lt.mpr hb)
     refine za (hdr_more rt hk x1 kp (nn _ (Nat.le_succ _)) (nn _ (Nat.le_refl _)) (Nat.succ_ne_self _) hp h0 hH haV hh hlen sh) fun q1 q2=>?_
     refine ⟨rfl,_,q2,q1,?_⟩
     refine ⟨(hp0.objs.size + 1,hp0.objs.size,a),?_,rfl⟩
     rw [← hk.st.len,List.getElem?_append_right (Nat.le_refl _),Nat.sub_self]
     rfl
   | .ok .next,hr=>exact hr.elim
   | .ok .brk,hr=>exact hr.elim
   | .ok .cont,hr=>exact hr.elim
   | .error e,hr=>exact hr.elim
end
end Mine
end
section
set_option tactic.hygienic false
open PySem PySem.W PySem.Calls PyProof.Rows
set_option maxRecDepth 100000
namespace Mine
theorem codeAll_get {h:Heap}:∀ {tabs:List (Addr × Addr)},CodeAll tabs h→∀ q∈tabs,CodeHd h q.1 q.2
 | [],_,q,hq=>by cases hq
 | r::l,x,q,hq=>by
   rcases List.mem_cons.mp hq with rfl | hq
   · exact x.1
   · exact codeAll_get x.2 q hq
noncomputable abbrev tabsOf (spc:List (Addr × Addr × Str)):List (Addr × Addr):=spc.map fun t=>(t.1,t.2.1)
theorem mem_tabs {spc:List (Addr × Addr × Str)} {c P:Addr} {q:Str} (h:(c,P,q)∈spc):(c,P)∈tabsOf spc:=List.mem_map.mpr ⟨_,h,rfl⟩
noncomputable def cTop (prog:Program) (w:World) (h:Heap) (mg mb:Str→Option Value) (cls:Addr) (spc:List (Addr × Addr × Str)):Cst :=
 { prog,w,H:=ghostOf h (tabsOf spc),vt:=spc.map fun t=>t.2.1,mg,mb,cls,spc,vtOk:=VtOk spc,vtKeep:=VtOk.keep fun c P q hm=>List.mem_map.mpr ⟨_,hm,rfl⟩ }
section
variable {prog:Program} {w:World} {s:Shared} {mg mb:Str→Option Value} {cls:Addr} {spc:List (Addr × Addr × Str)} {p:Program} {loose:List Str} {mean:ExcName→Option Value}
theorem cTop_root (hT:TabsAt (tabsOf spc) s.heap) (T:Top p loose mean mg mb s.heap) (n1:∀ x∈(["len","sum","max","min","range","zip","enumerate","str"]:List Str),mg x = none) (n2:∀ x∈(["type","list"]:List Str),mg x = none):RootOk (cTop prog w s.heap mg mb cls spc) where
 g:=ghost_ns hT T.g
 b:=ghost_ns hT T.b
 bi:=T.builtins
 nolimit:=(ghost_top hT T).nolimit
 nob:=n1
 nob2:=n2
 vtH:=fun b hb=>by
   refine zea (List.mem_map.mp hb) fun t ht e2q=>?_;subst e2q
   exact hideAll_none _ (List.mem_map.mpr ⟨(t.1,t.2.1),List.mem_map.mpr ⟨t,ht,rfl⟩,rfl⟩)
theorem ghost_below_heap (hT:TabsAt (tabsOf spc) s.heap):∀ b o,(ghostOf s.heap (tabsOf spc)).get? b = some o→s.heap.get? b = some o:=fun b o e=>of_hideAll _ e
theorem cTop_sok (hT:TabsAt (tabsOf spc) s.heap):Sok (cTop prog w s.heap mg mb cls spc) [] [] [] s where
 base:=ghost_below_heap hT
 st:=⟨rfl,fun i t ps h=>by simp at h,by simp [adr],fun b hb=>by simp [adr] at hb,fun c P q hm=>⟨#[],(hT _ (mem_tabs hm)).2,trivial,fun pos=>.inl rfl⟩⟩
 zal:=fun z hz=>by cases hz
 zd:=fun z hz=>by cases hz
 val:=fun z hz=>by
   refine zea (List.mem_map.mp hz) fun t ht e2q=>?_;subst e2q
   exact ⟨_,(hT (t.1,t.2.1) (List.mem_map.mpr ⟨t,ht,rfl⟩)).2⟩
theorem cTop_bm (hT:TabsAt (tabsOf spc) s.heap) (T:Top p loose mean mg mb s.heap):∃ bm ob,mg "__builtins__" = some (.ref bm)∧bm≠builtinsNs∧bm≠mainGlobals∧(ghostOf s.heap (tabsOf spc)).get? bm = some ob∧ob.cls = .type "module"∧ob.dict = some builtinsNs∧ob.data = .plain:=by
 obtain ⟨bm,ob,b1,b2,b3,b4,b5,b6⟩:=(ghost_top hT T).bmain
 refine ⟨bm,ob,b1,b2,fun q=>?_,b3,b4,b5,b6⟩
 refine ze3a2 (ghost_ns hT T.g) fun o es ep e hd J=>?_
 rw [q,e] at b3;(injection b3 with b3;subst o);rw [hd] at b6;injection b6
theorem cTop_sp (hT:TabsAt (tabsOf spc) s.heap) (T:Top p loose mean mg mb s.heap) (hinj:∀ t∈spc,∀ u∈spc,t.2.1 = u.2.1→t = u)
   (glo:SplGlo (cTop prog w s.heap mg mb cls spc)):SpOk (cTop prog w s.heap mg mb cls spc) where
 vt:=fun V h=>Iff.rfl
 vm:=fun c P q hm=>List.mem_map.mpr ⟨_,hm,rfl⟩
 vs:=fun P hP=>by refine zea (List.mem_map.mp hP) fun t ht e2q=>?_;subst e2q;exact ⟨t.1,t.2.2,ht⟩
 inj:=hinj
 hd:=fun c P q hm=>codeAll_get (ghost_code hT) _ (mem_tabs hm)
 bm:=cTop_bm hT T
 glo:=glo
end
end Mine
end
section
set_option tactic.hygienic false
open PySem PySem.W PySem.Calls PyProof.Rows
set_option maxRecDepth 100000
namespace Mine
variable {C:Cst}
theorem cls_machine {K:Frag} {M:Model} {h:Heap} {a:Addr} {cc:Value} {dd:Option Addr} {cd:ClassData} {ss:Array (Option Value)} (q:K.lookup a = some ⟨cc,dd,.cls cd,ss⟩) (e:specialIn K (.ref a) "__call__" = some (some (.builtin "type.__call__"))) (X:K.In h):Looks M h (keeperOf (.ref a)) .machine :=
 (Looks.ld (part:=none) (X _ _ q)).andThen ((looks_specialIn X e).andThen .now)
theorem cls_machine2 {K:Frag} {M:Model} {a:Addr} {o:Obj} {cd:ClassData} (q:K.lookup a = some o) (hd:o.data = .cls cd) (e:specialIn K (.ref a) "__call__" = some (some (.builtin "type.__call__"))):∀ h:Heap,K.In h→Looks M h (keeperOf (.ref a)) .machine:=by
 obtain ⟨cc,dd,dt,ss⟩:=o
 simp only at hd
 subst hd
 exact fun h X=>cls_machine q e X
noncomputable def mtS (m:Str):Option Summ :=
 if m==("get":Str) then some getS
 else if m==("__getitem__":Str) then some itemS
 else if m==("__setitem__":Str) then some setS
 else if m==("keys":Str) then some (kvS false)
 else if m==("values":Str) then some (kvS true)
 else none
noncomputable def hT (fn:Str→Option Summ):Tbl:=⟨fn,mtS,some newS⟩
structure HdrAll (C:Cst) (K:Frag) (ac ag ai ast ad ak av fi:Addr):Prop where
 fns:HdrFns C K [("_convert_string_type",ac),("get",ag),("__getitem__",ai),("__setitem__",ast),("__delitem__",ad),("keys",ak),("values",av)]
 cv:ConvOk C ac
 gt:GetAt C ag
 it:ItemAt C ai
 st:SetAt C ast
 dl:DelAt C ad
 ks:KvAt C ak false
 vs:KvAt C av true
 nw:HdrNew C K fi
 ini:InitAt C fi
 mg:C.mg "Headers" = some (.ref C.cls)
 kp:∀ h:Heap,(∀ b o,C.H.get? b = some o→h.get? b = some o)→Looks (model C.prog C.w) h (keeperOf (.ref C.cls)) .machine
theorem tbl_of {K:Frag} {ac ag ai ast ad ak av fi:Addr} (h:HdrAll C K ac ag ai ast ad ak av fi) (sp:SpOk C) (rt:RootOk C) {lv:Nat} (hlv:23≤lv) {fn:Str→Option Summ}
   (hfn:∀ f S,fn f = some S→∃ a o fd,C.mg f = some (.ref a)∧C.H.get? a = some o∧o.data = .func fd∧CallOk C lv (.ref a) S):TblOk C lv (hT fn) where
 fn:=hfn
 mt:=fun m S hm=>by
   have hc:([("_convert_string_type",ac),("get",ag),("__getitem__",ai),("__setitem__",ast),("__delitem__",ad),("keys",ak),("values",av)]:List (Str × Addr)).lookup ("_convert_string_type":Str) = some ac:=by rfl
   have e1:([("_convert_string_type",ac),("get",ag),("__getitem__",ai),("__setitem__",ast),("__delitem__",ad),("keys",ak),("values",av)]:List (Str × Addr)).lookup ("get":Str) = some ag:=by rfl
   have e2:([("_convert_string_type",ac),("get",ag),("__getitem__",ai),("__setitem__",ast),("__delitem__",ad),("keys",ak),("values",av)]:List (Str × Addr)).lookup ("__getitem__":Str) = some ai:=by rfl
   have e3:([("_convert_string_type",ac),("get",ag),("__getitem__",ai),("__setitem__",ast),("__delitem__",ad),("keys",ak),("values",av)]:List (Str × Addr)).lookup ("__setitem__":Str) = some ast:=by rfl
   have e4:([("_convert_string_type",ac),("get",ag),("__getitem__",ai),("__setitem__",ast),("__delitem__",ad),("keys",ak),("values",av)]:List (Str × Addr)).lookup ("__delitem__":Str) = some ad:=by rfl
   have e5:([("_convert_string_type",ac),("get",ag),("__getitem__",ai),("__setitem__",ast),("__delitem__",ad),("keys",ak),("values",av)]:List (Str × Addr)).lookup ("keys":Str) = some ak:=by rfl
   have e6:([("_convert_string_type",ac),("get",ag),("__getitem__",ai),("__setitem__",ast),("__delitem__",ad),("keys",ak),("values",av)]:List (Str × Addr)).lookup ("values":Str) = some av:=by rfl
   have mk:∀ {m:Str} {a:Addr} {fd:FuncData} {body:List Stmt} {S:Summ} {l:Nat},([("_convert_string_type",ac),("get",ag),("__getitem__",ai),("__setitem__",ast),("__delitem__",ad),("keys",ak),("values",av)]:List (Str × Addr)).lookup m = some a→m≠"_headers"→FnAt C a fd body→l≤23→CallOk C l (.ref a) S→∃ a o fd,C.H.get? a = some o∧o.data = .func fd∧CallOk C lv (.ref a) S∧MethOk C m a:=fun hl hne f hle hcall=>by
     refine za2 (h.fns.find _ _ hl) fun f1 f2 f3=>?_
     refine zea f.get fun o ho hd=>?_
     exact ⟨_,o,_,ho,hd,hcall.up (Nat.le_trans hle hlv),meth_ok h.fns.cls f1 f2 f3 hne⟩
   change mtS m = some S at hm
   unfold mtS at hm
   by_cases c1:(m==("get":Str)) = true
   · rw [if_pos c1] at hm;(injection hm with hm;subst hm)
     have:m = "get":=by simpa using c1
     subst this
     obtain ⟨fd,p,f,_⟩:=h.gt.fn
     exact mk e1 (by decide) f (by lia) (get_ok h.fns hc h.cv rt h.gt)
   rw [if_neg c1] at hm
   by_cases c2:(m==("__getitem__":Str)) = true
   · rw [if_pos c2] at hm;(injection hm with hm;subst hm)
     have:m = "__getitem__":=by simpa using c2
     subst this
     obtain ⟨fd,p,f,_⟩:=h.it.fn
     exact mk e2 (by decide) f (by lia) (item_ok h.fns hc h.cv rt e1 h.gt h.it)
   rw [if_neg c2] at hm
   by_cases c3:(m==("__setitem__":Str)) = true
   · rw [if_pos c3] at hm;(injection hm with hm;subst hm)
     have:m = "__setitem__":=by simpa using c3
     subst this
     obtain ⟨fd,p,f,_⟩:=h.st.fn
     exact mk e3 (by decide) f (by lia) (set_ok sp h.fns hc h.cv rt e4 h.dl h.st)
   rw [if_neg c3] at hm
   by_cases c4:(m==("keys":Str)) = true
   · rw [if_pos c4] at hm;(injection hm with hm;subst hm)
     have:m = "keys":=by simpa using c4
     subst this
     obtain ⟨fd,p,sc,f,_⟩:=h.ks.fn
     exact mk e5 (by decide) f (by lia) (kv_ok h.fns rt h.ks)
   rw [if_neg c4] at hm
   by_cases c5:(m==("values":Str)) = true
   · rw [if_pos c5] at hm;(injection hm with hm;subst hm)
     have:m = "values":=by simpa using c5
     subst this
     obtain ⟨fd,p,sc,f,_⟩:=h.vs.fn
     exact mk e6 (by decide) f (by lia) (kv_ok h.fns rt h.vs)
   rw [if_neg c5] at hm
   injection hm
 new:=fun S hS=>by
   have hc:([("_convert_string_type",ac),("get",ag),("__getitem__",ai),("__setitem__",ast),("__delitem__",ad),("keys",ak),("values",av)]:List (Str × Addr)).lookup ("_convert_string_type":Str) = some ac:=by rfl
   have:S = newS:=by (injection hS with hS;subst hS);rfl
   subst this
   have hn:=new_ok h.fns h.nw hc h.cv rt h.ini
   exact ⟨h.mg,fun ds g d g' hs A Z io io1 s0 s a vs ha=>hn ds g d g' hs A Z io io1 s0 s a vs (ha.le (by lia)),h.kp⟩
end Mine
end
section
set_option tactic.hygienic false
open PySem PySem.W PySem.Calls PyProof.Rows
set_option maxRecDepth 100000
namespace Mine
/-! the functions of the row's program,by name -/
noncomputable def defIn (f:Str):List Stmt→Option (List Stmt × Scope)
 | []=>none
 | .FunctionDef n _ b _ _ _ sc _ _ _::r=>if n==f then some (b,sc) else defIn f r
 | _::r=>defIn f r
noncomputable def defOf (f:Str):Option (List Stmt × Scope):=defIn f PySem.Challenge.rw_pm0047_01.row.prog.main.body
noncomputable def bodyOf (f:Str):List Stmt:=match defOf f with
 | some (b,_)=>b
 | none=>[]
noncomputable def scOf (f:Str):Scope:=match defOf f with
 | some (_,sc)=>sc
 | none=>PySem.Challenge.rw_pm0047_01.row.prog.main.scope
noncomputable def kdOf (f:Str):Kd:=fun x=>(scOf f).names.lookup x
end Mine
end
section
set_option tactic.hygienic false
open PySem PySem.W PySem.Calls PyProof.Rows
set_option maxRecDepth 100000
namespace Mine
noncomputable def sOf (l:List Nat):Str:=⟨l.toArray⟩
theorem sOf_len (l:List Nat):(sOf l).length = l.length:=by show l.toArray.size = l.length;simp
theorem signs_sOf (l:List Nat):signs (sOf l) = l.map fun c=>.str (sOf [c]):=rfl
theorem compK_map {tr el:Ro→Sg→Option (D × Sg)} {t:Expr} {base:Ro} {g:Sg} {α:Type} {f:α→D} {h:α→D}:∀ {l:List α},(∀ c∈l,∃ b,tgt t (f c) = some b∧tr (b++base) g = some (.bool true,g)∧el (b++base) g = some (h c,g))→compK tr el t base (l.map f) g = some (l.map h,g)
 | [],_=>rfl
 | c::r,hh=>by
   refine zea2 (hh c (.head _)) fun b h1 h2 h3=>?_
   have ih:=compK_map (l:=r) fun c hc=>hh c (.tail _ hc)
   exact compK_yes h1 h2 h3 ih
theorem compK_filter {tr el:Ro→Sg→Option (D × Sg)} {t:Expr} {base:Ro} {g:Sg} {α:Type} {f:α→D} {h:α→D} {q:α→Bool}:∀ {l:List α},(∀ c∈l,∃ b,tgt t (f c) = some b∧tr (b++base) g = some (.bool (q c),g)∧(q c = true→el (b++base) g = some (h c,g)))→compK tr el t base (l.map f) g = some ((l.filter q).map h,g)
 | [],_=>rfl
 | c::r,hh=>by
   refine zea2 (hh c (.head _)) fun b h1 h2 h3=>?_
   have ih:=compK_filter (l:=r) fun c hc=>hh c (.tail _ hc)
   rw [List.map_cons,List.filter_cons]
   induction hq:q c using Bool.casesOn with
   | true=>rw [hq] at h2;exact compK_yes h1 h2 (h3 hq) ih
   | false=>rw [hq] at h2;exact (compK_no h1 h2).trans ih
end Mine
end
section
set_option tactic.hygienic false
open PySem PySem.W PySem.Calls PyProof.Rows
set_option maxRecDepth 100000
namespace Mine
open Builtin Builtin.Str StrLaws
/-! words as lists of signs -/
noncomputable def fpre:List Nat→List Nat→Bool
 | [],_=>true
 | _::_,[]=>false
 | a::r,b::s=>match Nat.beq a b with
   | true=>fpre r s
   | false=>false
noncomputable def frep (o n:List Nat):List Nat→Nat→List Nat
 | [],_=>[]
 | _::r,k + 1=>frep o n r k
 | c::r,0=>match fpre o (c::r) with
   | true=>n++frep o n r (o.length - 1)
   | false=>c::frep o n r 0
theorem fpre_iff:∀ {o t:List Nat},fpre o t = true↔t.take o.length = o
 | [],t=>by simp [fpre]
 | a::r,[]=>by simp [fpre]
 | a::r,b::s=>by
   unfold fpre
   have ih:=fpre_iff (o:=r) (t:=s)
   simp only [List.length_cons,List.take_succ_cons,List.cons.injEq]
   split
   · rename_i h
     rw [ih,eq_comm (a:=b),Nat.eq_of_beq_eq_true h]
     simp
   · rename_i h
     have:a≠b:=fun e=>by rw [e,Nat.beq_refl] at h;injection h
     simp [Ne.symm this]
theorem frep_skip {o n:List Nat}:∀ {t:List Nat} {k:Nat},frep o n t k = frep o n (t.drop k) 0
 | [],k=>by simp [frep]
 | c::r,0=>rfl
 | c::r,k + 1=>by rw [List.drop_succ_cons,← frep_skip (t:=r) (k:=k)];rfl
theorem frep_free {o n:List Nat}:∀ {t:List Nat},(∀ k,k < t.length→fpre o (t.drop k) = false)→frep o n t 0 = t
 | [],_=>rfl
 | c::r,h=>by
   have h0:=h 0 (by simp)
   rw [List.drop_zero] at h0
   unfold frep
   rw [h0,frep_free (t:=r) fun k hk=>by have:=h (k + 1) (by simp;lia);rwa [List.drop_succ_cons] at this]
theorem frep_at {o n:List Nat} (ho:1≤o.length):∀ {t:List Nat} {d:Nat},(∀ k,k < d→fpre o (t.drop k) = false)→fpre o (t.drop d) = true→frep o n t 0 = t.take d++n++frep o n (t.drop (d + o.length)) 0
 | [],d,_,h=>by
   rw [List.drop_nil] at h
   induction o using List.casesOn with
   | nil=>simp at ho
   | cons a r=>injection h
 | c::r,0,_,h=>by
   rw [List.drop_zero] at h
   conv=>lhs;unfold frep
   rw [h]
   show n++frep o n r (o.length - 1) = _
   rw [frep_skip,List.take_zero,List.nil_append,Nat.zero_add]
   obtain ⟨m,hm⟩:∃ m,o.length = m + 1:=⟨o.length - 1,by lia⟩
   rw [hm,List.drop_succ_cons];rfl
 | c::r,d + 1,hn,h=>by
   have h0:=hn 0 (by lia)
   rw [List.drop_zero] at h0
   rw [List.drop_succ_cons] at h
   conv=>lhs;unfold frep
   rw [h0]
   show c::frep o n r 0 = _
   rw [frep_at ho (t:=r) (d:=d) (fun k hk=>by have:=hn (k + 1) (by lia);rwa [List.drop_succ_cons] at this) h]
   rw [show d + 1 + o.length = (d + o.length) + 1 from by lia,List.drop_succ_cons,List.take_succ_cons]
   rfl
theorem sOf_toList (x:Str):sOf x.cps.toList = x:=rfl
theorem sOf_app (a b:List Nat):sOf a++sOf b = sOf (a++b):=by
 apply Str.ext'
 simp [sOf,Str.cps_append]
theorem strSub_sOf (t:List Nat) (i j:Nat):strSub (sOf t) i j = sOf ((t.drop i).take (j - i)):=by
 apply Str.ext'
 apply Array.toList_inj.mp
 rw [strSub_toList]
 simp [sOf]
theorem at_iff {t o:List Nat} {k:Nat}:At (sOf t) (sOf o) (sOf t).length k↔k + o.length≤t.length∧fpre o (t.drop k) = true:=by
 unfold At
 rw [subAt_eq,fpre_iff,sOf_len,sOf_len]
 simp only [sOf,beq_iff_eq]
theorem parts_rep {t o n:List Nat} (ho:1≤o.length):∀ (cuts:List Nat) (a f:Nat),ChainG (sOf t) (sOf o) (sOf t).length a cuts f→(∀ k,f≤k→¬ At (sOf t) (sOf o) (sOf t).length k) →
   Str.join (sOf n) (partsFrom (sOf t) (sOf o).length a cuts) = sOf (frep o n (t.drop a) 0)
 | [],a,f,h,hn=>by
   have e:f = a:=h
   subst e
   have hf:frep o n (t.drop f) 0 = t.drop f:=frep_free fun k hk=>by
     rw [List.length_drop] at hk
     rw [List.drop_drop]
     induction hb:fpre o (t.drop (f + k)) using Bool.casesOn with
     | false=>rfl
     | true =>
       refine absurd (at_iff.mpr ⟨?_,hb⟩) (hn (f + k) (by lia))
       have:=fpre_iff.mp hb
       have h2:=congrArg List.length this
       rw [List.length_take,List.length_drop] at h2
       lia
   rw [hf]
   show strSub (sOf t) f (sOf t).length = _
   rw [strSub_sOf,sOf_len,List.take_of_length_le (by simp)]
 | c::r,a,f,h,hn=>by
   refine za3 h fun hac hat hno hr=>?_;clear h
   refine ze2 (partsFrom_ne (sOf t) (sOf o).length (c + (sOf o).length) r) fun p q e=>?_
   have ih:=parts_rep (n:=n) ho r _ f hr hn
   show Str.join (sOf n) (strSub (sOf t) a c::partsFrom (sOf t) (sOf o).length (c + (sOf o).length) r) = _
   rw [e] at ih ⊢
   show strSub (sOf t) a c++sOf n++Str.join (sOf n) (p::q) = _
   rw [ih,strSub_sOf,sOf_app,sOf_app,sOf_len]
   have hat':=at_iff.mp hat
   rw [frep_at (t:=t.drop a) (d:=c - a) ho (fun k hk=>by
     rw [List.drop_drop]
     induction hb:fpre o (t.drop (a + k)) using Bool.casesOn with
     | false=>rfl
     | true=>exact absurd (at_iff.mpr ⟨by lia,hb⟩) (hno (a + k) (by lia) (by lia))) (by rw [List.drop_drop,show a + (c - a) = c from by lia];exact hat'.2)]
   rw [List.drop_drop,show a + (c - a + o.length) = c + o.length from by lia]
theorem kind_one {o:List Nat} (h:o.all (fun c=>decide (c < 256)) = true):Builtin.Str.strKind (sOf o) = 1:=by
 unfold Builtin.Str.strKind
 rw [if_pos]
 rw [← Array.all_toList]
 exact h
theorem kind_ge (x:Str):1≤Builtin.Str.strKind x:=by
 unfold Builtin.Str.strKind
 split
 · lia
 · split<;>lia
theorem join_split_rep {t o n:List Nat} (ho:1≤o.length) (hk:o.all (fun c=>decide (c < 256)) = true):Txt.join (sOf n) (Txt.split (sOf t) (sOf o)) = sOf (frep o n t 0):=by
 show glued (sOf n) _ = _
 rw [StrLaws.glued_eq_join]
 refine zea (occ_tight (sOf t) (sOf o) (by rw [sOf_len];exact ho)) fun f hG hn=>?_
 have key:=parts_rep (n:=n) ho _ 0 f hG hn
 rw [List.drop_zero] at key
 unfold Txt.split
 rw [kind_one hk]
 have h1:decide (Builtin.Str.strKind (sOf t) < 1) = false:=by
   have:=kind_ge (sOf t)
   simp;lia
 rw [h1,Bool.or_false,sOf_len,sOf_len]
 by_cases hs:t.length < o.length
 · rw [if_pos (by simpa using hs)]
   show sOf t = _
   rw [frep_free]
   intro k hk
   induction hb:fpre o (t.drop k) using Bool.casesOn with
   | false=>rfl
   | true =>
     have h2:=congrArg List.length (fpre_iff.mp hb)
     rw [List.length_take,List.length_drop] at h2
     lia
 · rw [if_neg (by simpa using hs)]
   rw [sOf_len,sOf_len] at key
   split
   · rename_i he
     rw [sOf_len] at *
     rw [List.isEmpty_iff.mp he] at key
     rw [← key]
     show sOf t = strSub (sOf t) 0 t.length
     rw [strSub_sOf,List.drop_zero,Nat.sub_zero,List.take_of_length_le (Nat.le_refl _)]
   · rw [partsBetween_eq]
     exact key
end Mine
end
section
set_option tactic.hygienic false
open PySem PySem.W PySem.Calls PyProof.Rows
set_option maxRecDepth 100000
namespace Mine
open Builtin Builtin.Str StrLaws
theorem ev_name {T:Tbl} {n:Nat} {kd:Kd} {ro:Ro} {x:Str} {p:Pos} {d:D} {g:Sg} (hx:(x==("__debug__":Str)||x==("__classdict__":Str)) = false) (h:ro.lookup x = some d):pev T (n + 1) kd ro (.Name x p) g = some (d,g):=by
 exact pev_name h hx
theorem strsOf_map {α:Type} {f:α→Str}:∀ (l:List α),strsOf (l.map fun c=>.str (f c)) = some (l.map f)
 | []=>rfl
 | c::r=>by rw [List.map_cons,strsOf,strsOf_map r];rfl
theorem join_singles:∀ (l:List Nat),Str.join (sOf []) (l.map fun c=>sOf [c]) = sOf l
 | []=>rfl
 | [c]=>rfl
 | c::d::r=>by
   show sOf [c]++sOf []++Str.join (sOf []) ((d::r).map fun c=>sOf [c]) = _
   rw [join_singles (d::r),sOf_app,sOf_app]
   rfl
theorem sum_ones:∀ (l:List Nat),((l.map fun c=>sOf [c]).map (·.length)).sum = l.length
 | []=>rfl
 | c::r=>by rw [List.map_cons,List.map_cons,List.sum_cons,sum_ones r,List.length_cons,sOf_len];simp;lia
theorem meth_join {T:Tbl} {g:Sg} {l:List Nat} (h:l.length≤lim):pmeth T "join" (.str "") [.lst (l.map fun c=>.str (sOf [c]))] g = some (.str (sOf l),g):=by
 show pmeth T "join" (.str (sOf [])) _ g = _
 have h1:JoinOk (sOf []) (l.map fun c=>sOf [c]) = true:=by
   unfold JoinOk
   rw [StrLaws.joinTotal,sum_ones,sOf_len]
   unfold tooLong sizeLine
   unfold lim at h
   simp only [List.length_nil,Nat.mul_zero,Nat.add_zero,Bool.not_eq_true',decide_eq_false_iff_not]
   lia
 have h2:Txt.join (sOf []) (l.map fun c=>sOf [c]) = sOf l:=by
   show glued (sOf []) _ = _
   rw [StrLaws.glued_eq_join,join_singles]
 show joinM (sOf []) (strsOf (l.map fun c=>.str (sOf [c]))) g = _
 rw [strsOf_map]
 have h3:strOk (sOf l) = true:=by
   unfold strOk
   rw [sOf_len]
   simpa using h
 show (if (JoinOk (sOf []) (l.map fun c=>sOf [c])&&strOk (Txt.join (sOf []) (l.map fun c=>sOf [c]))) = true then _ else _) = _
 rw [h1,h2,h3];rfl
theorem cps_sOf (l:List Nat):(sOf l).cps.toList = l:=by simp [sOf]
noncomputable def clipN (v:Option Int) (d n:Nat):Nat :=
 match v with
 | none=>d
 | some i=>(max 0 (min (if i < 0 then i + n else i) (n:Int))).toNat
theorem clipN_le {v:Option Int} {d n:Nat} (h:d≤n):clipN v d n≤n:=by
 induction v using Option.casesOn with
 | none=>exact h
 | some i=>show (max 0 (min (if i < 0 then i + n else i) (n:Int))).toNat≤n;lia
theorem clipN_min {i d n:Nat}:clipN (some (i:Int)) d n = min i n:=by
 show (max 0 (min (if (i:Int) < 0 then (i:Int) + n else (i:Int)) (n:Int))).toNat = _
 rw [if_neg (Int.not_lt.mpr (Int.natCast_nonneg i))]
 lia
theorem clipN_nat {i d n:Nat} (h:i≤n):clipN (some (i:Int)) d n = i:=clipN_min.trans (Nat.min_eq_left h)
theorem clipN_neg1 {d n:Nat}:clipN (some (-1)) d (n + 1) = n:=by
 show (max 0 (min ((-1:Int) + (n + 1:Nat)) ((n + 1:Nat):Int))).toNat = n
 lia
theorem idx_clip (lo hi:Option Int) (n:Nat):strSliceIndices lo hi 1 n = strSliceIndices (some (clipN lo 0 n:Int)) (some (clipN hi n n:Int)) 1 n:=by
 have h1:((1:Int) > 0) = True:=by simp
 have key0:∀ c:Nat,c≤n→((c:Nat):Int) = max 0 (min (if ((c:Nat):Int) < 0 then ((c:Nat):Int) + n else ((c:Nat):Int)) (n:Int)):=fun c hc=>by
   rw [if_neg (Int.not_lt.mpr (Int.natCast_nonneg c)),Int.min_eq_left (Int.ofNat_le.mpr hc),Int.max_eq_right (Int.natCast_nonneg c)]
 have key:∀ (v:Option Int) (d:Nat),d≤n→(match v with
     | none=>(d:Int)
     | some i=>max 0 (min (if i < 0 then i + (n:Int) else i) (n:Int))) = max 0 (min (if ((clipN v d n:Nat):Int) < 0 then ((clipN v d n:Nat):Int) + n else ((clipN v d n:Nat):Int)) (n:Int)):=by
   intro v d hd
   induction v using Option.casesOn with
   | none=>exact key0 d hd
   | some i=>exact (Int.toNat_of_nonneg (Int.le_max_left 0 _)).symm.trans (key0 _ (clipN_le (v:=some i) hd))
 have k1:=key lo 0 (Nat.zero_le _)
 have k2:=key hi n (Nat.le_refl _)
 simp only [strSliceIndices,h1,if_true]
 refine Eq.trans (congrArg (fun a=>sliceRange a _ 1) k1) (congrArg (fun b=>sliceRange _ b 1) k2)
theorem range_pick {α:Type} (l:List α):∀ (n a:Nat),a + n≤l.length→((List.range n).map fun k=>a + k).filterMap (l[·]?) = (l.drop a).take n
 | 0,_,_=>by simp
 | n + 1,a,h=>by
   have hlt:a + n < l.length:=by lia
   rw [List.range_succ,List.map_append,List.filterMap_append,range_pick l n a (by lia),List.take_add_one,List.getElem?_drop]
   simp [List.getElem?_eq_getElem hlt]
theorem picks_eq (lo hi:Option Int) (n:Nat):picks n lo hi none = (List.range (clipN hi n n - clipN lo 0 n)).map fun k=>clipN lo 0 n + k:=by
 show strSliceIndices lo hi 1 n = _
 rw [idx_clip]
 by_cases h:clipN lo 0 n≤clipN hi n n
 · exact strSliceIndices_plain h (clipN_le (Nat.le_refl _))
 · have e:clipN hi n n - clipN lo 0 n = 0:=by lia
   rw [e]
   have hn:=clipN_le (v:=lo) (d:=0) (n:=n) (Nat.zero_le _)
   have h1:¬ ((clipN lo 0 n:Int) < 0):=by lia
   have h2:¬ ((clipN hi n n:Int) < 0):=by lia
   have e1:max (0:Int) (min (clipN lo 0 n:Int) (n:Int)) = clipN lo 0 n:=by lia
   have e2:max (0:Int) (min (clipN hi n n:Int) (n:Int)) = clipN hi n n:=by lia
   have h3:¬ ((clipN lo 0 n:Int) < clipN hi n n):=by lia
   simp only [strSliceIndices,sliceRange,h1,h2,if_false,e1,e2,show ((1:Int) > 0) = True from by simp,if_true,h3]
   rfl
theorem picks_pos {α:Type} (l:List α) (lo hi:Option Int):(picks l.length lo hi none).filterMap (l[·]?) = (l.drop (clipN lo 0 l.length)).take (clipN hi l.length l.length - clipN lo 0 l.length):=by
 rw [picks_eq]
 have h2:=clipN_le (v:=hi) (d:=l.length) (n:=l.length) (Nat.le_refl _)
 by_cases h:clipN lo 0 l.length≤clipN hi l.length l.length
 · exact range_pick l _ _ (by lia)
 · rw [show clipN hi l.length l.length - clipN lo 0 l.length = 0 from by lia];simp
theorem slice_s {l r:List Nat} {lo hi:Option Int} (h:l.length≤lim) (hr:(l.drop (clipN lo 0 l.length)).take (clipN hi l.length l.length - clipN lo 0 l.length) = r):sliceD (.str (sOf l)) lo hi none = some (.str (sOf r)):=by
 have e0:(picks (sOf l).length lo hi none).filterMap ((sOf l).cps[·]?) = r:=by
   rw [sOf_len,← hr,← picks_pos]
   simp [sOf]
 have e:sliceS (sOf l) lo hi none = sOf r:=by
   unfold sliceS
   rw [e0]
   split
   · rename_i hc
     simp only [Option.getD_none,beq_self_eq_true,Bool.true_and,beq_iff_eq] at hc
     rw [sOf_len,picks_eq,List.length_map,List.length_range] at hc
     have h2:=clipN_le (v:=hi) (d:=l.length) (n:=l.length) (Nat.le_refl _)
     have ha:l.length≠0→clipN lo 0 l.length = 0:=by lia
     by_cases h0:l.length = 0
     · have:l = []:=List.length_eq_zero_iff.mp h0
       subst this
       rw [← hr];simp
     · rw [← hr,ha h0,List.drop_zero,List.take_of_length_le (by have:=ha h0;lia)]
   · rfl
 have hl:r.length≤lim:=by rw [← hr,List.length_take,List.length_drop];lia
 unfold sliceD
 rw [if_neg (by simp)]
 show (if (sliceS (sOf l) lo hi none).length≤lim then some (D.str (sliceS (sOf l) lo hi none)) else none) = _
 rw [e,sOf_len,if_pos hl]
theorem slice_l {l r:List D} {lo hi:Option Int} (hr:(l.drop (clipN lo 0 l.length)).take (clipN hi l.length l.length - clipN lo 0 l.length) = r):sliceD (.lst l) lo hi none = some (.lst r):=by
 unfold sliceD
 rw [if_neg (by simp)]
 show some (D.lst ((picks l.length lo hi none).filterMap (l[·]?))) = _
 rw [picks_pos,hr]
theorem rev_pick (l:List Nat):((List.range l.length).map fun k=>l.length - 1 - k).filterMap (l[·]?) = l.reverse:=by
 apply List.ext_getElem?
 intro i
 have h0:((List.range l.length).map fun k=>l.length - 1 - k).filterMap (l[·]?) = ((List.range l.length).map fun k=>l.length - 1 - k).map fun k=>l.getD k 0:=by
   have:∀ ks:List Nat,(∀ k∈ks,k < l.length)→ks.filterMap (l[·]?) = ks.map fun k=>l.getD k 0:=by
     intro ks
     induction ks with
     | nil=>intro _;rfl
     | cons k r ih =>
       intro h
       have hk:=h k (.head _)
       rw [List.filterMap_cons,List.getElem?_eq_getElem hk,List.map_cons,ih fun j hj=>h j (.tail _ hj)]
       simp [List.getD,List.getElem?_eq_getElem hk]
   refine this _ fun k hk=>?_
   refine zea (List.mem_map.mp hk) fun j hj e2q=>?_;subst e2q
   have:=List.mem_range.mp hj
   lia
 rw [h0,List.map_map]
 by_cases hi:i < l.length
 · rw [List.getElem?_reverse hi]
   rw [List.getElem?_map,List.getElem?_range hi]
   simp only [Option.map_some,Function.comp_apply,List.getD]
   rw [List.getElem?_eq_getElem (by lia:l.length - 1 - i < l.length)]
   rfl
 · rw [List.getElem?_eq_none (by simp;lia),List.getElem?_eq_none (by simp;lia)]
theorem slice_rev {l:List Nat} (h:l.length≤lim):sliceD (.str (sOf l)) none none (some (-1)) = some (.str (sOf l.reverse)):=by
 have e:sliceS (sOf l) none none (some (-1)) = sOf l.reverse:=by
   unfold sliceS
   rw [if_neg (by simp)]
   apply Str.ext'
   apply Array.toList_inj.mp
   show (picks (sOf l).length none none (some (-1))).filterMap ((sOf l).cps[·]?) = _
   unfold picks
   rw [show (some (-1:Int)).getD 1 = -1 from rfl,PyProof.Rows.picked_rev,sOf_len]
   have:=rev_pick l
   simpa [sOf] using this
 unfold sliceD
 rw [if_neg (by simp)]
 show (if (sliceS (sOf l) none none (some (-1))).length≤lim then some (D.str (sliceS (sOf l) none none (some (-1)))) else none) = _
 rw [e,sOf_len,if_pos (by rw [List.length_reverse];exact h)]
end Mine
end
section
set_option tactic.hygienic false
open PySem PySem.W PySem.Calls PyProof.Rows
set_option maxRecDepth 100000
namespace Mine
open Builtin Builtin.Str StrLaws
theorem sOf_inj {a b:List Nat} (h:sOf a = sOf b):a = b:=by
 have:=congrArg (fun s:Str=>s.cps.toList) h
 simpa [sOf] using this
theorem sOf_beq (a b:List Nat):(sOf a==sOf b) = (a==b):=by
 rw [Bool.eq_iff_iff,beq_iff_eq,beq_iff_eq]
 exact ⟨sOf_inj,fun h=>by rw [h]⟩
theorem cmp_eq_s {a b:Str}:cmpD .Eq (.str a) (.str b) = some (a==b):=rfl
theorem cmp_ne_s {a b:Str}:cmpD .NotEq (.str a) (.str b) = some (!(a==b)):=rfl
theorem add_s {a b:List Nat} (h:a.length + b.length≤lim):binD .Add (.str (sOf a)) (.str (sOf b)) = some (.str (sOf (a++b))):=by
 show (if (sOf a++sOf b).length≤lim then some (D.str (sOf a++sOf b)) else none) = _
 rw [sOf_app,if_pos (by rw [sOf_len,List.length_append];exact h)]
noncomputable def swc (s:Nat):Nat:=Nat.xor s 32
noncomputable def Tz:Tbl:=hT fun J=>none
noncomputable def isXyz (c:Nat):Bool:=[120,88,121,89,122,90].contains c
noncomputable def S_undone:Summ:=sumOf Tz [] 56 (scOf "_law_undone") (bodyOf "_law_undone") (plainBnd ["word"])
theorem sum_eq {T:Tbl} {mu:List Str} {N:Nat} {sc:Scope} {body:List Stmt} {bnd:List D→Option (List (Str × D))} {ds:List D} {l:List (Str × D)} {g g':Sg} {d:D} (ns:List Str) (hb:bnd ds = some l) (hns:l.map (·.1) = ns) (hn:(decide ns.Nodup&&ns.all fun x=>canSet (fun x=>sc.names.lookup x) x) = true)
   (h:pexecs T mu N (fun x=>sc.names.lookup x) body (valsOf l) g = some (.ret d g')):sumOf T mu N sc body bnd ds g = some (d,g'):=by
 unfold sumOf
 subst hns
 rw [hb]
 have hn':(decide (l.map (·.1)).Nodup&&l.all fun p=>canSet (fun x=>sc.names.lookup x) p.1) = true:=by
   rw [List.all_map] at hn
   exact hn
 simp only [hn',if_true,h]
theorem undone_eq {w:List Nat} {g:Sg} (hw:∀ c∈w,isXyz c = true) (hl:w.length≤lim):S_undone [.str (sOf w)] g = some (.str (sOf (w.reverse.map swc)),g):=by
 have key:pexecs Tz [] 56 (kdOf "_law_undone") (bodyOf "_law_undone") (valsOf [("word",.str (sOf w))]) g = some (.ret (.str (sOf (w.reverse.map swc))) g):=by
   conv=>lhs;arg 5;whnf
   refine ex_cons (st_assign rfl (ev_dict rfl rfl)) (ex_ret (st_return ?_))
   refine ev_meth rfl (ev_str rfl) (evs_more rfl (ev_comp (ys:=w.reverse.map fun c=>.str (sOf [swc c])) (g2:=g) rfl (src_of (fun f q as p h=>by injection h) (ev_slice (ev_name rfl rfl) opt_none opt_none (opt_some (ev_neg ev_int) rfl) (slice_rev hl)) rfl) ?_ (by simpa using hl)) evs_nil) ?_
   · rw [signs_sOf]
     refine compK_map fun c hc=>⟨_,rfl,rfl,?_⟩
     have hx:=hw c (List.mem_reverse.mp hc)
     simp only [isXyz,List.contains_eq_mem,List.mem_cons,List.not_mem_nil,or_false,decide_eq_true_eq] at hx
     rcases hx with rfl | rfl | rfl | rfl | rfl | rfl<;>exact ev_item (fun l u st p h=>by injection h) (ev_name rfl rfl) (ev_name rfl rfl) (fun k h=>by injection h) rfl
   · have:=meth_join (T:=Tz) (g:=g) (l:=w.reverse.map swc) (by simpa using hl)
     rw [List.map_map] at this
     exact this
 exact sum_eq ["word"] (l:=[("word",.str (sOf w))]) rfl rfl (by decide +kernel) key
noncomputable def fonto:List Nat→List Nat→List Nat
 | [],st=>st
 | m::r,st=>match st with
   | []=>fonto r [m]
   | h::t=>match Nat.beq h (swc m) with
     | true=>fonto r t
     | false=>fonto r (m::h::t)
theorem fonto_cons {m h:Nat} {r t:List Nat}:fonto (m::r) (h::t) = match Nat.beq h (swc m) with
     | true=>fonto r t
     | false=>fonto r (m::h::t):=rfl
theorem fonto_one {c:Nat} {r st:List Nat}:fonto (c::r) st = fonto r (fonto [c] st):=by
 induction st using List.casesOn with
 | nil=>rfl
 | cons h t=>rw [fonto_cons,fonto_cons];induction Nat.beq h (swc c) using Bool.casesOn<;>rfl
theorem fonto_one_len {c:Nat} {st:List Nat}:(fonto [c] st).length≤st.length + 1:=by
 induction st using List.casesOn with
 | nil=>exact Nat.le_refl _
 | cons h t =>
   rw [fonto_cons]
   induction Nat.beq h (swc c) using Bool.casesOn
   · exact Nat.le_refl _
   · show t.length≤_
     simp;lia
noncomputable def isAny (c:Nat):Bool:=[97,65,98,66,120,88,121,89,122,90].contains c
noncomputable def S_onto:Summ:=sumOf Tz [] 56 (scOf "_law_onto") (bodyOf "_law_onto") (plainBnd ["word","more"])
theorem slice_last {h:Nat} {t:List Nat} (hl:(h::t).length≤lim):sliceD (.str (sOf (h::t).reverse)) (some (-1)) none none = some (.str (sOf [h])):=by
 refine slice_s (by rw [List.length_reverse];exact hl) ?_
 have e:clipN (some (-1)) 0 (h::t).reverse.length = t.length:=by
   rw [List.length_reverse,List.length_cons]
   exact clipN_neg1
 rw [e]
 simp [clipN]
theorem slice_last0:sliceD (.str (sOf [])) (some (-1)) none none = some (.str (sOf [])):=slice_s (by decide) rfl
theorem slice_init {h:Nat} {t:List Nat} (hl:(h::t).length≤lim):sliceD (.str (sOf (h::t).reverse)) none (some (-1)) none = some (.str (sOf t.reverse)):=by
 refine slice_s (by rw [List.length_reverse];exact hl) ?_
 have e:clipN (some (-1)) (h::t).reverse.length (h::t).reverse.length = t.length:=by
   rw [List.length_reverse,List.length_cons]
   exact clipN_neg1
 rw [e]
 simp [clipN]
noncomputable def dAny:D:=.dct [("a","A"),("A","a"),("b","B"),("B","b"),("x","X"),("X","x"),("y","Y"),("Y","y"),("z","Z"),("Z","z")]
theorem any_item {c:Nat} (h:isAny c = true):itemD dAny (.str (sOf [c])) = some (.str (sOf [swc c])):=by
 simp only [isAny,List.contains_eq_mem,List.mem_cons,List.not_mem_nil,or_false,decide_eq_true_eq] at h
 rcases h with rfl | rfl | rfl | rfl | rfl | rfl | rfl | rfl | rfl | rfl<;>rfl
noncomputable abbrev foOnto (st:List Nat) (mo:D) (tail:Fo):Fo:=("word",.val (.str (sOf st.reverse)))::("more",.val mo)::("undone",.val dAny)::tail
theorem onto_loop {body:Fo→Sg→Option Fl} {kd:Kd} (p:Pos) {g:Sg} {mo:D} (hk:canSet kd "sign" = true)
   (hb:∀ m st tail,isAny m = true→st.length + 1≤lim→body (foOnto st mo (("sign",.val (.str (sOf [m])))::tail)) g = some (.next (foOnto (fonto [m] st) mo (("sign",.val (.str (sOf [m])))::tail)) g)) :
   ∀ (m st:List Nat) (tail:Fo),(∀ c∈m,isAny c = true)→st.length + m.length≤lim→(∀ d:D,setE ("sign":Str) (.val d) tail = [(("sign":Str),.val d)]) →
     ∃ tail',forK body kd (.Name ("sign":Str) p) (m.map fun c=>.str (sOf [c])) (foOnto st mo tail) g = some (.next (foOnto (fonto m st) mo tail') g)
 | [],st,tail,_,_,_=>⟨tail,rfl⟩
 | c::r,st,tail,hc,hl,ht=>by
   have h1:fonto (c::r) st = fonto r (fonto [c] st):=fonto_one
   have h2:(fonto [c] st).length≤st.length + 1:=fonto_one_len
   rw [List.length_cons] at hl
   obtain ⟨tail',ih⟩:=onto_loop p hk hb r (fonto [c] st) [("sign",.val (.str (sOf [c])))] (fun x hx=>hc x (.tail _ hx)) (by lia) (fun d=>rfl)
   refine ⟨tail',?_⟩
   rw [h1,← ih,List.map_cons]
   conv=>lhs
   have e:setEs [("sign",.str (sOf [c]))] (foOnto st mo tail) = foOnto st mo [("sign",.val (.str (sOf [c])))]:=by
     show (("word":Str),_)::(("more":Str),_)::(("undone":Str),_)::setE ("sign":Str) (.val (.str (sOf [c]))) tail = _
     rw [ht]
   show (if ([("sign",.str (sOf [c]))]:List (Str × D)).all fun p=>canSet kd p.1 then (match body (setEs [("sign",.str (sOf [c]))] (foOnto st mo tail)) g with | some (.next fo g)=>forK body kd (.Name "sign" p) (r.map fun c=>.str (sOf [c])) fo g | r=>r) else none) = _
   rw [e,hb c st [] (hc c (.head _)) (by lia)]
   simp only [List.all_cons,List.all_nil,hk,Bool.and_self,if_true]
theorem onto_eq {st m:List Nat} {g:Sg} (hm:∀ c∈m,isAny c = true) (hl:st.length + m.length≤lim):S_onto [.str (sOf st.reverse),.str (sOf m)] g = some (.str (sOf (fonto m st).reverse),g):=by
 have key:pexecs Tz [] 56 (kdOf "_law_onto") (bodyOf "_law_onto") (valsOf [("word",.str (sOf st.reverse)),("more",.str (sOf m))]) g = some (.ret (.str (sOf (fonto m st).reverse)) g):=by
   conv=>lhs;arg 5;whnf
   refine ex_cons (st_assign rfl (ev_dict rfl rfl)) ?_
   refine Exists.elim (onto_loop (kd:=kdOf "_law_onto") _ (g:=g) (mo:=.str (sOf m)) rfl ?_ m st [] hm hl (fun d=>rfl)) fun tail' hloop=>ex_cons (st_for rfl (src_of (fun f q as p h=>by injection h) (ev_name rfl rfl) rfl) hloop) (ex_ret (st_return (ev_name rfl rfl)))
   · intro c st tail hc hs
     induction st using List.casesOn with
     | nil =>
       refine ex_cons (st_assign rfl (ev_if (c:=false) (tr_cmp (ev_slice (ev_name rfl rfl) (opt_some (ev_neg ev_int) rfl) opt_none opt_none slice_last0) (ev_item (fun l u st p h=>by injection h) (ev_name rfl rfl) (ev_name rfl rfl) (fun k h=>by injection h) (any_item hc)) (by rw [cmp_eq_s,sOf_beq];rfl)) (ev_bin (ev_name rfl rfl) (ev_name rfl rfl) (add_s (by simpa using hs))))) ex_nil
     | cons h t =>
       have h0:fonto [c] (h::t) = if Nat.beq h (swc c) then t else c::h::t:=by
         rw [fonto_cons];induction Nat.beq h (swc c) using Bool.casesOn<;>rfl
       have hb:([h]==[swc c]) = Nat.beq h (swc c):=by rw [Bool.eq_iff_iff,beq_iff_eq,Nat.beq_eq];simp
       rw [h0]
       induction hq:Nat.beq h (swc c) using Bool.casesOn with
       | true =>
         refine ex_cons (st_assign rfl (ev_if (c:=true) (tr_cmp (ev_slice (ev_name rfl rfl) (opt_some (ev_neg ev_int) rfl) opt_none opt_none (slice_last (by simpa using Nat.le_of_succ_le hs))) (ev_item (fun l u st p h=>by injection h) (ev_name rfl rfl) (ev_name rfl rfl) (fun k h=>by injection h) (any_item hc)) (by rw [cmp_eq_s,sOf_beq,hb,hq])) (ev_slice (ev_name rfl rfl) opt_none (opt_some (ev_neg ev_int) rfl) opt_none (slice_init (by simpa using Nat.le_of_succ_le hs))))) ex_nil
       | false =>
         refine ex_cons (st_assign rfl (ev_if (c:=false) (tr_cmp (ev_slice (ev_name rfl rfl) (opt_some (ev_neg ev_int) rfl) opt_none opt_none (slice_last (by simpa using Nat.le_of_succ_le hs))) (ev_item (fun l u st p h=>by injection h) (ev_name rfl rfl) (ev_name rfl rfl) (fun k h=>by injection h) (any_item hc)) (by rw [cmp_eq_s,sOf_beq,hb,hq])) (ev_bin (ev_name rfl rfl) (ev_name rfl rfl) ((add_s (by simpa using hs)).trans (by simp only [Bool.false_eq_true,if_false,List.reverse_cons (a:=c)]))))) ex_nil
 exact sum_eq ["word","more"] (l:=[("word",.str (sOf st.reverse)),("more",.str (sOf m))]) rfl rfl (by decide +kernel) key
end Mine
end
section
set_option tactic.hygienic false
open PySem PySem.W PySem.Calls PyProof.Rows
set_option maxRecDepth 100000
namespace Mine
open Builtin Builtin.Str StrLaws
theorem frep_len {o n:List Nat} (ho:1≤o.length) (hn:n.length≤o.length):∀ (t:List Nat) (k:Nat),(frep o n t k).length + k≤t.length∨(frep o n t k).length = 0:=by
 intro t
 induction t with
 | nil=>intro k;exact .inr rfl
 | cons c r ih =>
   intro k
   induction k using Nat.casesOn with
   | succ k =>
     show (frep o n r k).length + (k + 1)≤_∨(frep o n r k).length = 0
     rw [List.length_cons]
     rcases ih k with h | h
     · exact .inl (by lia)
     · exact .inr h
   | zero =>
     left
     unfold frep
     rw [List.length_cons]
     split
     · rename_i h
       have hp:=congrArg List.length (fpre_iff.mp h)
       rw [List.length_take,List.length_cons] at hp
       rw [List.length_append]
       rcases ih (o.length - 1) with h | h<;>lia
     · rw [List.length_cons]
       rcases ih 0 with h | h<;>lia
theorem frep_len0 {o n:List Nat} (ho:1≤o.length) (hn:n.length≤o.length) {t:List Nat}:(frep o n t 0).length≤t.length:=by
 rcases frep_len ho hn t 0 with h | h<;>lia
theorem strsOf_strs:∀ (l:List Str),strsOf (l.map .str) = some l
 | []=>rfl
 | c::r=>by rw [List.map_cons,strsOf,strsOf_strs r];rfl
theorem meth_rep {T:Tbl} {g:Sg} {t o:List Nat} (ho:1≤o.length) (ht:t.length≤1000):pmeth T "split" (.str (sOf t)) [.str (sOf o)] g = some (.lst ((Txt.split (sOf t) (sOf o)).map .str),g):=by
 have h1:=split_weight (sOf t) (sOf o) (by rw [sOf_len];exact ho)
 rw [sOf_len] at h1
 show (if ((sOf o).length==0) = true then none else if (Txt.split (sOf t) (sOf o)).length≤lim∧(Txt.split (sOf t) (sOf o)).all strOk = true then some (D.lst ((Txt.split (sOf t) (sOf o)).map .str),g) else none) = _
 rw [if_neg (by rw [sOf_len];simp;intro h;subst h;simp at ho),if_pos]
 refine ⟨by unfold lim;lia,?_⟩
 rw [List.all_eq_true]
 intro p hp
 have:=part_short hp
 rw [sOf_len] at this
 unfold strOk lim
 simp
 lia
theorem meth_rep2 {T:Tbl} {g:Sg} {t o n:List Nat} (ho:1≤o.length) (hk:o.all (fun c=>decide (c < 256)) = true) (hn:n.length≤o.length) (h1:o.length≤1000) (ht:t.length≤1000):pmeth T "join" (.str (sOf n)) [.lst ((Txt.split (sOf t) (sOf o)).map .str)] g = some (.str (sOf (frep o n t 0)),g):=by
 have hw:=split_weight (sOf t) (sOf o) (by rw [sOf_len];exact ho)
 rw [sOf_len] at hw
 have hj:JoinOk (sOf n) (Txt.split (sOf t) (sOf o)) = true:=by
   unfold JoinOk
   rw [StrLaws.joinTotal,sOf_len]
   unfold tooLong sizeLine
   have:(Txt.split (sOf t) (sOf o)).length * n.length≤1001 * 1000:=Nat.mul_le_mul (by lia) (by lia)
   simp only [Bool.not_eq_true',decide_eq_false_iff_not]
   lia
 have hl:=frep_len0 ho hn (t:=t)
 show joinM (sOf n) (strsOf ((Txt.split (sOf t) (sOf o)).map .str)) g = _
 rw [strsOf_strs]
 have h3:strOk (sOf (frep o n t 0)) = true:=by
   unfold strOk lim
   rw [sOf_len]
   simp
   lia
 show (if (JoinOk (sOf n) (Txt.split (sOf t) (sOf o))&&strOk (Txt.join (sOf n) (Txt.split (sOf t) (sOf o)))) = true then _ else _) = _
 rw [hj,join_split_rep ho hk,h3];rfl
theorem item0 {a:D} {r:List D}:itemD (.tup (a::r)) (.int 0) = some a:=by
 have:place (a::r).length 0 = some 0:=by unfold place;simp
 show (place (a::r).length 0).bind _ = _
 rw [this];rfl
theorem item1 {a b:D} {r:List D}:itemD (.tup (a::b::r)) (.int 1) = some b:=by
 have:place (a::b::r).length 1 = some 1:=by unfold place;simp;lia
 show (place (a::b::r).length 1).bind _ = _
 rw [this];rfl
theorem slice2 {a b:D} {r:List D}:sliceD (.tup (a::b::r)) (some 2) none none = some (.tup r):=by
 unfold sliceD
 rw [if_neg (by simp)]
 show (if (1:Int)≤2∧(2:Int)≤((a::b::r).length:Nat) then some (D.tup ((a::b::r).drop 2)) else none) = _
 rw [if_pos (by simp;lia)]
 rfl
noncomputable def frepAll:List (List Nat × List Nat)→List Nat→List Nat
 | [],t=>t
 | p::r,t=>frepAll r (frep p.1 p.2 t 0)
noncomputable def flatP:List (List Nat × List Nat)→List D
 | []=>[]
 | p::r=>.str (sOf p.1)::.str (sOf p.2)::flatP r
noncomputable def pairOk (p:List Nat × List Nat):Prop:=1≤p.1.length∧p.1.all (fun c=>decide (c < 256)) = true∧p.2.length≤p.1.length∧p.1.length≤1000
theorem flatP_len:∀ ps,(flatP ps).length = 2 * ps.length
 | []=>rfl
 | p::r=>by show (flatP r).length + 1 + 1 = _;rw [flatP_len r,List.length_cons];lia
noncomputable def S_replace:Summ:=sumOf Tz [] 56 (scOf "replace") (bodyOf "replace") (varBnd "text" "pairs")
noncomputable abbrev foRep (t:List Nat) (ps:List (List Nat × List Nat)):Fo:=[("text",.val (.str (sOf t))),("pairs",.val (.tup (flatP ps)))]
theorem frepAll_len:∀ {ps:List (List Nat × List Nat)} {t:List Nat},(∀ p∈ps,pairOk p)→(frepAll ps t).length≤t.length
 | [],t,_=>Nat.le_refl _
 | p::r,t,h=>Nat.le_trans (frepAll_len (ps:=r) fun q hq=>h q (.tail _ hq)) (frep_len0 (h p (.head _)).1 (h p (.head _)).2.2.1)
theorem rep_loop {test:Fo→Sg→Option (Bool × Sg)} {body:Fo→Sg→Option Fl} {g:Sg}
   (h1:∀ t p ps,test (foRep t (p::ps)) g = some (true,g)) (h2:∀ t,test (foRep t []) g = some (false,g))
   (hb:∀ t p ps,pairOk p→t.length≤1000→body (foRep t (p::ps)) g = some (.next (foRep (frep p.1 p.2 t 0) ps) g)) :
   ∀ (ps:List (List Nat × List Nat)) (t:List Nat) (k:Nat),ps.length < k→(∀ p∈ps,pairOk p)→t.length≤1000→whileK test body k (foRep t ps) g = some (.next (foRep (frepAll ps t) []) g)
 | _,_,0,h,_,_=>absurd h (by lia)
 | [],t,k + 1,_,_,_=>by
   unfold whileK
   rw [h2]
   rfl
 | p::r,t,k + 1,hk,hp,ht=>by
   unfold whileK
   rw [h1]
   simp only []
   rw [hb t p r (hp p (.head _)) ht]
   simp only []
   rw [rep_loop h1 h2 hb r _ k (by simp at hk;lia) (fun q hq=>hp q (.tail _ hq)) (Nat.le_trans (frep_len0 (hp p (.head _)).1 (hp p (.head _)).2.2.1) ht)]
   rfl
theorem replace_eq {t:List Nat} {ps:List (List Nat × List Nat)} {g:Sg} (hp:∀ p∈ps,pairOk p) (ht:t.length≤1000) (hn:ps.length < 1000):S_replace (.str (sOf t)::flatP ps) g = some (.str (sOf (frepAll ps t)),g):=by
 have key:pexecs Tz [] 56 (kdOf "replace") (bodyOf "replace") (valsOf [("text",.str (sOf t)),("pairs",.tup (flatP ps))]) g = some (.ret (.str (sOf (frepAll ps t))) g):=by
   conv=>lhs;arg 5;whnf
   refine ex_cons (st_while (rep_loop ?_ ?_ ?_ ps t 100000 (by lia) hp ht)) (ex_ret (st_return (ev_name rfl rfl)))
   · intro t p ps
     exact tr_name (ev_name rfl rfl) rfl
   · intro t
     exact tr_name (ev_name rfl rfl) rfl
   · intro t p ps hp ht
     refine ex_cons (st_assign rfl (ev_meth rfl (ev_item (fun l u st p h=>by injection h) (ev_name rfl rfl) ev_int (fun k h=>by injection h) item1) (evs_more rfl (ev_meth rfl (ev_name rfl rfl) (evs_more rfl (ev_item (fun l u st p h=>by injection h) (ev_name rfl rfl) ev_int (fun k h=>by injection h) item0) evs_nil) (meth_rep hp.1 ht)) evs_nil) (meth_rep2 hp.1 hp.2.1 hp.2.2.1 hp.2.2.2 ht))) ?_
     exact ex_cons (st_assign rfl (ev_slice (ev_name rfl rfl) (opt_some ev_int rfl) opt_none opt_none slice2)) ex_nil
 refine sum_eq ["text","pairs"] (l:=[("text",.str (sOf t)),("pairs",.tup (flatP ps))]) ?_ rfl (by decide +kernel) key
 show (if (flatP ps).length≤lim then some [(("text":Str),D.str (sOf t)),("pairs",D.tup (flatP ps))] else none) = _
 rw [if_pos (by rw [flatP_len];unfold lim;lia)]
end Mine
end
section
set_option tactic.hygienic false
open PySem PySem.W PySem.Calls PyProof.Rows
set_option maxRecDepth 100000
namespace Mine
open Builtin Builtin.Str StrLaws
section
variable {T:Tbl} {mu:List Str} {n:Nat} {kd:Kd} {ro:Ro} {fo fo1:Fo} {g g1 g2 g3 g4:Sg} {R:Option Fl} {r:List Stmt}
theorem st_unpack {ts:List Expr} {k:Nat} {p sp:Pos} {e:Expr} {ds:List D} (hne:∀ es k p,e≠.Tuple es k p) (h:pev T n kd (rmOwn fo) e g = some (.tup ds,g1)) (hp:putT T n kd ts ds fo g1 = some (fo1,g2)):pexec T mu (n + 1) kd (.Assign [.Tuple ts k p] e sp) fo g = some (.next fo1 g2):=by
 have key:pexec T mu (n + 1) kd (.Assign [.Tuple ts k p] e sp) fo g = tupK (evX (pev T n kd) fo e g) fun ds fo g=>(putT T n kd ts ds fo g).map fun p=>Fl.next p.1 p.2:=by
   induction e using Expr.casesOn<;>first | exact absurd rfl (hne _ _ _) | rfl
 rw [key,evX_rm h]
 exact mapo_eq hp
theorem pexec_tup {ts es:List Expr} {k k2:Nat} {p p2 sp:Pos}:pexec T mu (n + 1) kd (.Assign [.Tuple ts k p] (.Tuple es k2 p2) sp) fo g = tupC T mu n kd fo g ts es k2 p2 (swapF kd ts es) (splitM mu ts es):=rfl
theorem st_pair {ts es:List Expr} {k k2:Nat} {p p2 sp:Pos} {ds:List D} (h1:swapF kd ts es = some none) (h2:splitM mu ts es = none) (h:pev T n kd (rmOwn fo) (.Tuple es k2 p2) g = some (.tup ds,g1)) (hp:putT T n kd ts ds fo g1 = some (fo1,g2)):pexec T mu (n + 1) kd (.Assign [.Tuple ts k p] (.Tuple es k2 p2) sp) fo g = some (.next fo1 g2):=by
 rw [pexec_tup,h1,h2]
 show tupK (evX (pev T n kd) fo (.Tuple es k2 p2) g) _ = _
 rw [evX_rm h]
 exact mapo_eq hp
theorem st_swap {ts es:List Expr} {k k2:Nat} {p p2 sp:Pos} {ds:List D} {names:List Str} (h1:swapF kd ts es = some (some names)) (h:pev T n kd (rmOwn fo) (.Tuple es k2 p2) g = some (.tup ds,g1)) (h2:(namesOf ts==some names&&decide names.Nodup&&names.all (canSet kd)) = true) (h3:names.length = ds.length) (h4:setEs (names.zip ds) fo = fo1):pexec T mu (n + 1) kd (.Assign [.Tuple ts k p] (.Tuple es k2 p2) sp) fo g = some (.next fo1 g1):=by
 rw [pexec_tup,h1]
 show tupK (evX (pev T n kd) fo (.Tuple es k2 p2) g) _ = _
 rw [evX_rm h]
 show (if (namesOf ts==some names&&decide names.Nodup&&names.all (canSet kd)&&names.length==ds.length) = true then some (Fl.next (setEs (names.zip ds) fo) g1) else none) = _
 rw [h2,h3,h4,beq_self_eq_true];rfl
theorem st_setitem {o i e:Expr} {p sp:Pos} {k:Nat} {d j d0:D} {S:Summ} (hT:T.mt "__setitem__" = some S) (h:pev T n kd (rmOwn fo) e g = some (d,g1)) (h1:pev T n kd (rmOwn fo) o g1 = some (.hdr k,g2)) (h2:pev T n kd (rmOwn fo) i g2 = some (j,g3)) (h3:S [.hdr k,j,d] g3 = some (d0,g4)):pexec T mu (n + 1) kd (.Assign [.Subscript o i p] e sp) fo g = some (.next fo g4):=by
 show (valK (evX (pev T n kd) fo e g) fun d fo g=>hdrK (pev T n kd (rmOwn fo) o g) fun k g=>dK (pev T n kd (rmOwn fo) i g) fun j g=>sumK (T.mt "__setitem__") fun f=>dK (f [.hdr k,j,d] g) fun J g=>some (Fl.next fo g)) = _
 rw [valK_eq (evX_rm h),h1]
 show (dK (pev T n kd (rmOwn fo) i g2) fun j g=>sumK (T.mt "__setitem__") fun f=>dK (f [.hdr k,j,d] g) fun J g=>some (Fl.next fo g)) = _
 rw [dK_eq h2,hT]
 exact dK_eq h3
theorem ev_new {es:List Expr} {p q q2:Pos} {ds:List D} {S:Summ} {d:D} (hkd:kd "Headers" = some .globalImplicit) (hT:T.new = some S) (h:evs (pev T n kd ro) es g = some (ds,g1)) (hl:ds.length≤lim) (hS:S [.lst ds] g1 = some (d,g2)):pev T (n + 1) kd ro (.Call (.Name "Headers" q) [.List es q2] [] p) g = some (d,g2):=by
 show (if (kd ("Headers":Str) != some .globalImplicit||("Headers":Str)==("__debug__":Str)) = true then none else hdrC T n kd ro g [.List es q2]) = _
 refine (ifn_eq (by rw [hkd];rfl)).trans ?_
 show (bindK (evs (pev T n kd ro) es g) fun ds g=>if ds.length≤lim then (match T.new with | some s=>s [.lst ds] g | none=>none) else none) = _
 refine (bindK_eq h).trans ((if_pos hl).trans ?_)
 rw [hT];exact hS
end
theorem fonto_len:∀ {m st:List Nat},(fonto m st).length≤st.length + m.length
 | [],st=>Nat.le_refl _
 | c::r,st=>by
   rw [fonto_one,List.length_cons]
   have h1:=fonto_len (m:=r) (st:=fonto [c] st)
   have h2:=fonto_one_len (c:=c) (st:=st)
   lia
theorem fonto_mem:∀ {m st:List Nat} {x:Nat},x∈fonto m st→x∈m∨x∈st
 | [],st,x,h=>.inr h
 | c::r,[],x,h=>by
   rcases fonto_mem (m:=r) (st:=[c]) h with h | h
   · exact .inl (.tail _ h)
   · rw [List.mem_singleton.mp h];exact .inl (.head _)
 | c::r,a::t,x,h=>by
   rw [fonto_cons] at h
   split at h
   · rcases fonto_mem (m:=r) (st:=t) h with h | h
     · exact .inl (.tail _ h)
     · exact .inr (.tail _ h)
   · rcases fonto_mem (m:=r) (st:=c::a::t) h with h | h
     · exact .inl (.tail _ h)
     · rcases List.mem_cons.mp h with rfl | h
       · exact .inl (.head _)
       · exact .inr h
theorem xyz_sw {c:Nat} (h:isXyz c = true):isXyz (swc c) = true:=by
 simp only [isXyz,List.contains_eq_mem,List.mem_cons,List.not_mem_nil,or_false,decide_eq_true_eq] at h
 rcases h with rfl | rfl | rfl | rfl | rfl | rfl<;>decide
theorem xyz_any {c:Nat} (h:isXyz c = true):isAny c = true:=by
 simp only [isXyz,List.contains_eq_mem,List.mem_cons,List.not_mem_nil,or_false,decide_eq_true_eq] at h
 rcases h with rfl | rfl | rfl | rfl | rfl | rfl<;>decide
theorem xyz_clean {l:List Nat} (h:∀ c∈l,isXyz c = true) (hl:l.length≤lim):clean (sOf l) = true:=by
 unfold clean strOk
 rw [sOf_len,Bool.and_eq_true]
 refine ⟨?_,by simpa using hl⟩
 show l.toArray.all okCh = true
 rw [← Array.all_toList,List.all_eq_true]
 intro c hc
 have h:=h c (by simpa using hc)
 simp only [isXyz,List.contains_eq_mem,List.mem_cons,List.not_mem_nil,or_false,decide_eq_true_eq] at h
 rcases h with rfl | rfl | rfl | rfl | rfl | rfl<;>decide
structure Tb where
 sh:Bool
 kz:Nat
 x:List Nat
 y:List Nat
 z:List Nat
noncomputable def Tb.prs (s:Tb):List (Str × Str):=match s.sh with
 | true=>[(sOf [s.kz],sOf s.z.reverse),("x",sOf s.x.reverse),("Y",sOf s.y.reverse)]
 | false=>[("x",sOf s.x.reverse),("y",sOf s.y.reverse),(sOf [s.kz],sOf s.z.reverse)]
structure Tb.Ok (s:Tb):Prop where
 kz:s.kz = 122∨s.kz = 90
 x:∀ c∈s.x,isXyz c = true
 y:∀ c∈s.y,isXyz c = true
 z:∀ c∈s.z,isXyz c = true
noncomputable def w1 (p q:List Nat):List Nat:=fonto (p.map swc) (fonto q.reverse p)
noncomputable def w2 (p q:List Nat):List Nat:=fonto q.reverse (fonto p.reverse (q.map swc).reverse)
noncomputable def Tb.step (s:Tb) (c:Nat):Tb :=
 match Nat.beq c 97 with
 | true=>⟨true,s.kz,w1 s.x s.y,s.x,s.z⟩
 | false=>match Nat.beq c 65 with
   | true=>⟨true,s.kz,s.y,w2 s.x s.y,s.z⟩
   | false=>match Nat.beq c 98 with
     | true=>⟨false,90,s.x,w1 s.y s.z,s.y⟩
     | false=>⟨false,90,s.x,s.z,w2 s.y s.z⟩
noncomputable def Tb.run:List Nat→Tb→Tb
 | [],s=>s
 | c::r,s=>Tb.run r (s.step c)
theorem lw_x:Txt.lower ("x":Str) = "x":=by decide +kernel
theorem lw_X:Txt.lower ("X":Str) = "x":=by decide +kernel
theorem lw_y:Txt.lower ("y":Str) = "y":=by decide +kernel
theorem lw_Y:Txt.lower ("Y":Str) = "y":=by decide +kernel
theorem lw_z:Txt.lower ("z":Str) = "z":=by decide +kernel
theorem lw_Z:Txt.lower ("Z":Str) = "z":=by decide +kernel
theorem lw_z':Txt.lower (sOf [122]) = "z":=by decide +kernel
theorem lw_Z':Txt.lower (sOf [90]) = "z":=by decide +kernel
theorem up_x:Txt.upper ("x":Str) = "X":=by decide +kernel
theorem up_y:Txt.upper ("y":Str) = "Y":=by decide +kernel
theorem hget_hit {k v n:Str} {r:List (Str × Str)} (h:Txt.lower k = n):hget ((k,v)::r) n = some v:=by
 unfold hget
 rw [List.find?_cons_of_pos (by rw [h];exact beq_self_eq_true n)]
 rfl
theorem hget_miss {k v n m:Str} {r:List (Str × Str)} (h:Txt.lower k = m) (hm:(m==n) = false):hget ((k,v)::r) n = hget r n:=by
 unfold hget
 rw [List.find?_cons_of_neg (by rw [h,hm];simp)]
theorem hdel_hit {k v n:Str} {r:List (Str × Str)} (h:Txt.lower k = n):hdel ((k,v)::r) n = hdel r n:=by
 unfold hdel
 rw [List.filter_cons,h,beq_self_eq_true];rfl
theorem hdel_miss {k v n m:Str} {r:List (Str × Str)} (h:Txt.lower k = m) (hm:(m==n) = false):hdel ((k,v)::r) n = (k,v)::hdel r n:=by
 unfold hdel
 rw [List.filter_cons,h,hm];rfl
theorem hdel_nil {n:Str}:hdel [] n = []:=rfl
theorem Tb.get_x {s:Tb} (h:s.Ok):hget s.prs "x" = some (sOf s.x.reverse):=by
 unfold Tb.prs
 induction s.sh using Bool.casesOn with
 | false=>exact hget_hit lw_x
 | true=>rcases h.kz with e | e<;>rw [e]<;>first | (rw [hget_miss lw_z' (by decide)];exact hget_hit lw_x) | (rw [hget_miss lw_Z' (by decide)];exact hget_hit lw_x)
theorem Tb.get_y {s:Tb} (h:s.Ok):hget s.prs "y" = some (sOf s.y.reverse):=by
 unfold Tb.prs
 induction s.sh using Bool.casesOn with
 | false=>exact (hget_miss lw_x (by decide)).trans (hget_hit lw_y)
 | true=>rcases h.kz with e | e<;>rw [e]<;>first | (rw [hget_miss lw_z' (by decide)];exact (hget_miss lw_x (by decide)).trans (hget_hit lw_Y)) | (rw [hget_miss lw_Z' (by decide)];exact (hget_miss lw_x (by decide)).trans (hget_hit lw_Y))
theorem Tb.get_z {s:Tb} (h:s.Ok):hget s.prs "z" = some (sOf s.z.reverse):=by
 unfold Tb.prs
 induction s.sh using Bool.casesOn with
 | true=>rcases h.kz with e | e<;>rw [e]<;>first | exact hget_hit lw_z' | exact hget_hit lw_Z'
 | false=>rcases h.kz with e | e<;>rw [e]<;>first | exact ((hget_miss lw_x (by decide)).trans (hget_miss lw_y (by decide))).trans (hget_hit lw_z') | exact ((hget_miss lw_x (by decide)).trans (hget_miss lw_y (by decide))).trans (hget_hit lw_Z')
theorem Tb.keys {s:Tb} (h:s.Ok):(s.prs.all fun q=>strOk (Txt.lower q.1)) = true:=by
 unfold Tb.prs
 induction s.sh using Bool.casesOn<;>rcases h.kz with e | e<;>rw [e]<;>simp only [List.all_cons,List.all_nil,lw_x,lw_y,lw_Y,lw_z',lw_Z']<;>decide
theorem Tb.set_a {s:Tb} (h:s.Ok) (u v:Str):hdel (hdel s.prs "x"++[(("x":Str),u)]) "y"++[(("Y":Str),v)] = [(sOf [s.kz],sOf s.z.reverse),("x",u),("Y",v)]:=by
 unfold Tb.prs
 induction s.sh using Bool.casesOn<;>rcases h.kz with e | e<;>rw [e] <;>
   simp only [hdel_hit lw_x,hdel_miss lw_y (show (("y":Str)=="x") = false from by decide),hdel_miss lw_Y (show (("y":Str)=="x") = false from by decide),hdel_miss lw_z' (show (("z":Str)=="x") = false from by decide),hdel_miss lw_Z' (show (("z":Str)=="x") = false from by decide),hdel_nil,List.cons_append,List.nil_append,
     hdel_hit lw_y,hdel_hit lw_Y,hdel_miss lw_x (show (("x":Str)=="y") = false from by decide),hdel_miss lw_z' (show (("z":Str)=="y") = false from by decide),hdel_miss lw_Z' (show (("z":Str)=="y") = false from by decide)]
theorem Tb.set_b {s:Tb} (h:s.Ok) (u v:Str):hdel (hdel s.prs "y"++[(("y":Str),u)]) "z"++[(("Z":Str),v)] = [(("x":Str),sOf s.x.reverse),("y",u),("Z",v)]:=by
 unfold Tb.prs
 induction s.sh using Bool.casesOn<;>rcases h.kz with e | e<;>rw [e] <;>
   simp only [hdel_hit lw_y,hdel_hit lw_Y,hdel_miss lw_x (show (("x":Str)=="y") = false from by decide),hdel_miss lw_z' (show (("z":Str)=="y") = false from by decide),hdel_miss lw_Z' (show (("z":Str)=="y") = false from by decide),hdel_nil,List.cons_append,List.nil_append,
     hdel_hit lw_z',hdel_hit lw_Z',hdel_miss lw_x (show (("x":Str)=="z") = false from by decide),hdel_miss lw_y (show (("y":Str)=="z") = false from by decide)]
end Mine
end
section
set_option tactic.hygienic false
open PySem PySem.W PySem.Calls PyProof.Rows
set_option maxRecDepth 100000
namespace Mine
open Builtin Builtin.Str StrLaws
noncomputable def F1 (f:Str):Option Summ:=if f==("_law_undone":Str) then some S_undone else if f==("_law_onto":Str) then some S_onto else if f==("replace":Str) then some S_replace else none
noncomputable def T1:Tbl:=hT F1
theorem call_undone1 {ys:List D} {g:Sg}:pcall T1 "_law_undone" ys g = S_undone ys g:=rfl
theorem call_onto1 {ys:List D} {g:Sg}:pcall T1 "_law_onto" ys g = S_onto ys g:=rfl
theorem meth_up {T:Tbl} {g:Sg} {x y:Str} (h:Txt.upper x = y) (hy:strOk y = true):pmeth T "upper" (.str x) [] g = some (.str y,g):=by
 show (if strOk (Txt.upper x) = true then some (D.str (Txt.upper x),g) else none) = _
 rw [h,if_pos hy]
theorem meth_low {T:Tbl} {g:Sg} {x y:Str} (h:Txt.lower x = y) (hy:strOk y = true):pmeth T "lower" (.str x) [] g = some (.str y,g):=by
 show (if strOk (Txt.lower x) = true then some (D.str (Txt.lower x),g) else none) = _
 rw [h,if_pos hy]
theorem at_end {gs:Sg} {ps:List (Str × Str)}:(gs++[ps])[gs.length]? = some ps:=by simp
theorem set_end {gs:Sg} {ps qs:List (Str × Str)}:(gs++[ps]).set gs.length qs = gs++[qs]:=by simp
theorem getS_eq {gs:Sg} {ps:List (Str × Str)} {n m v:Str} (hl:Txt.lower n = m) (hc:clean m = true) (hk:(ps.all fun q=>strOk (Txt.lower q.1)) = true) (h:hget ps m = some v):getS [.hdr gs.length,.str n] (gs++[ps]) = some (.str v,gs++[ps]):=by
 show ((gs++[ps])[gs.length]?).bind _ = _
 rw [at_end]
 show (if (clean (Txt.lower n)&&ps.all fun q=>strOk (Txt.lower q.1)) = true then some (hgetD ps (Txt.lower n) .none,gs++[ps]) else none) = _
 unfold hgetD
 rw [hl,hc,hk,h]
 rfl
theorem setS_eq {gs:Sg} {ps:List (Str × Str)} {n m v:Str} (hl:Txt.lower n = m) (hc:clean m = true) (hn:clean n = true) (hv:clean v = true) (hk:(ps.all fun q=>strOk (Txt.lower q.1)) = true) (h:ps.length < 100):setS [.hdr gs.length,.str n,.str v] (gs++[ps]) = some (.none,gs++[hdel ps m++[(n,v)]]):=by
 have h':decide (ps.length < lim) = true:=by unfold lim;simp;lia
 show ((gs++[ps])[gs.length]?).bind _ = _
 rw [at_end]
 show (if (clean (Txt.lower n)&&clean n&&clean v&&(ps.all fun q=>strOk (Txt.lower q.1))&&decide (ps.length < lim)) = true then some (D.none,(gs++[ps]).set gs.length (hdel ps (Txt.lower n)++[(n,v)])) else none) = _
 rw [hl,hc,hn,hv,hk,h',set_end]
 rfl
theorem Tb.len {s:Tb}:s.prs.length = 3:=by unfold Tb.prs;induction s.sh using Bool.casesOn<;>rfl
theorem keys_del {ps:List (Str × Str)} {n k v:Str} (hk:(ps.all fun q=>strOk (Txt.lower q.1)) = true) (h:strOk (Txt.lower k) = true):((hdel ps n++[(k,v)]).all fun q=>strOk (Txt.lower q.1)) = true:=by
 rw [List.all_append,Bool.and_eq_true]
 refine ⟨?_,by simpa using h⟩
 rw [List.all_eq_true] at hk ⊢
 intro q hq
 exact hk q (List.mem_filter.mp hq).1
theorem len_del {ps:List (Str × Str)} {n k v:Str} (h:ps.length = 3):(hdel ps n++[(k,v)]).length < 100:=by
 have:(hdel ps n).length≤ps.length:=List.length_filter_le _ _
 rw [List.length_append,List.length_singleton]
 lia
theorem cl_x:clean ("x":Str) = true:=by decide +kernel
theorem cl_y:clean ("y":Str) = true:=by decide +kernel
theorem cl_z:clean ("z":Str) = true:=by decide +kernel
theorem cl_Y:clean ("Y":Str) = true:=by decide +kernel
theorem cl_Z:clean ("Z":Str) = true:=by decide +kernel
theorem sk_x:strOk (Txt.lower ("x":Str)) = true:=by decide +kernel
theorem sk_y:strOk (Txt.lower ("y":Str)) = true:=by decide +kernel
noncomputable def isAB (c:Nat):Bool:=[97,65,98,66].contains c
theorem isAB_iff {c:Nat}:isAB c = true↔c = 97∨c = 65∨c = 98∨c = 66:=by
 simp [isAB]
noncomputable def in_aA (c:Nat):Bool:=c==97||c==65
noncomputable def in_ab (c:Nat):Bool:=c==97||c==98
theorem cmp_aA {c:Nat} (h:isAB c = true):cmpD .In (.str (sOf [c])) (.str "aA") = some (in_aA c):=by
 rcases isAB_iff.mp h with rfl | rfl | rfl | rfl
 · exact congrArg some (show Txt.contains ("aA":Str) (sOf [97]) = in_aA 97 from by decide +kernel)
 · exact congrArg some (show Txt.contains ("aA":Str) (sOf [65]) = in_aA 65 from by decide +kernel)
 · exact congrArg some (show Txt.contains ("aA":Str) (sOf [98]) = in_aA 98 from by decide +kernel)
 · exact congrArg some (show Txt.contains ("aA":Str) (sOf [66]) = in_aA 66 from by decide +kernel)
theorem cmp_ab {c:Nat} (h:isAB c = true):cmpD .In (.str (sOf [c])) (.str "ab") = some (in_ab c):=by
 rcases isAB_iff.mp h with rfl | rfl | rfl | rfl
 · exact congrArg some (show Txt.contains ("ab":Str) (sOf [97]) = in_ab 97 from by decide +kernel)
 · exact congrArg some (show Txt.contains ("ab":Str) (sOf [65]) = in_ab 65 from by decide +kernel)
 · exact congrArg some (show Txt.contains ("ab":Str) (sOf [98]) = in_ab 98 from by decide +kernel)
 · exact congrArg some (show Txt.contains ("ab":Str) (sOf [66]) = in_ab 66 from by decide +kernel)
theorem S_w1a {p q:List Nat} {g:Sg} (hp:∀ c∈p,isXyz c = true) (hq:∀ c∈q,isXyz c = true) (hl:3 * (p.length + q.length)≤lim):S_onto [.str (sOf p.reverse),.str (sOf q.reverse)] g = some (.str (sOf (fonto q.reverse p).reverse),g) :=
 onto_eq (fun c hc=>xyz_any (hq c (List.mem_reverse.mp hc))) (by rw [List.length_reverse];lia)
theorem S_un {p:List Nat} {g:Sg} (hp:∀ c∈p,isXyz c = true) (hl:p.length≤lim):S_undone [.str (sOf p.reverse)] g = some (.str (sOf (p.map swc)),g):=by
 have:=undone_eq (w:=p.reverse) (g:=g) (fun c hc=>hp c (List.mem_reverse.mp hc)) (by rw [List.length_reverse];exact hl)
 rw [List.reverse_reverse] at this
 exact this
theorem S_w1b {p q:List Nat} {g:Sg} (hp:∀ c∈p,isXyz c = true) (hl:3 * (p.length + q.length)≤lim):S_onto [.str (sOf (fonto q.reverse p).reverse),.str (sOf (p.map swc))] g = some (.str (sOf (w1 p q).reverse),g) :=
 onto_eq (fun c hc=>by
   refine zea (List.mem_map.mp hc) fun a ha e2q=>?_;subst e2q
   exact xyz_any (xyz_sw (hp a ha))) (by
   have:=fonto_len (m:=q.reverse) (st:=p)
   rw [List.length_reverse] at this
   rw [List.length_map];lia)
theorem S_w2a {p q:List Nat} {g:Sg} (hp:∀ c∈p,isXyz c = true) (hl:3 * (p.length + q.length)≤lim):S_onto [.str (sOf (q.map swc)),.str (sOf p.reverse)] g = some (.str (sOf (fonto p.reverse (q.map swc).reverse).reverse),g):=by
 have:=onto_eq (st:=(q.map swc).reverse) (m:=p.reverse) (g:=g) (fun c hc=>xyz_any (hp c (List.mem_reverse.mp hc))) (by rw [List.length_reverse,List.length_reverse,List.length_map];lia)
 rw [List.reverse_reverse] at this
 exact this
theorem S_w2b {p q:List Nat} {g:Sg} (hq:∀ c∈q,isXyz c = true) (hl:3 * (p.length + q.length)≤lim):S_onto [.str (sOf (fonto p.reverse (q.map swc).reverse).reverse),.str (sOf q.reverse)] g = some (.str (sOf (w2 p q).reverse),g) :=
 onto_eq (fun c hc=>xyz_any (hq c (List.mem_reverse.mp hc))) (by
   have:=fonto_len (m:=p.reverse) (st:=(q.map swc).reverse)
   rw [List.length_reverse,List.length_reverse,List.length_map] at this
   rw [List.length_reverse];lia)
theorem w1_xyz {p q:List Nat} (hp:∀ c∈p,isXyz c = true) (hq:∀ c∈q,isXyz c = true):∀ c∈w1 p q,isXyz c = true:=by
 intro c hc
 rcases fonto_mem hc with h | h
 · refine zea (List.mem_map.mp h) fun a ha e2q=>?_;subst e2q
   exact xyz_sw (hp a ha)
 · rcases fonto_mem h with h | h
   · exact hq c (List.mem_reverse.mp h)
   · exact hp c h
theorem w2_xyz {p q:List Nat} (hp:∀ c∈p,isXyz c = true) (hq:∀ c∈q,isXyz c = true):∀ c∈w2 p q,isXyz c = true:=by
 intro c hc
 rcases fonto_mem hc with h | h
 · exact hq c (List.mem_reverse.mp h)
 · rcases fonto_mem h with h | h
   · exact hp c (List.mem_reverse.mp h)
   · refine zea (List.mem_map.mp (List.mem_reverse.mp h)) fun a ha e2q=>?_;subst e2q
     exact xyz_sw (hq a ha)
theorem w1_len {p q:List Nat}:(w1 p q).length≤2 * p.length + q.length:=by
 have h1:=fonto_len (m:=p.map swc) (st:=fonto q.reverse p)
 have h2:=fonto_len (m:=q.reverse) (st:=p)
 rw [List.length_map] at h1
 rw [List.length_reverse] at h2
 show (fonto (p.map swc) (fonto q.reverse p)).length≤_
 lia
theorem w2_len {p q:List Nat}:(w2 p q).length≤p.length + 2 * q.length:=by
 have h1:=fonto_len (m:=q.reverse) (st:=fonto p.reverse (q.map swc).reverse)
 have h2:=fonto_len (m:=p.reverse) (st:=(q.map swc).reverse)
 rw [List.length_reverse,List.length_reverse,List.length_map] at h2
 rw [List.length_reverse] at h1
 show (fonto q.reverse (fonto p.reverse (q.map swc).reverse)).length≤_
 lia
noncomputable def Tb.tot (s:Tb):Nat:=s.x.length + s.y.length + s.z.length
theorem Tb.step_ok {s:Tb} (h:s.Ok) {c:Nat}:(s.step c).Ok∧(s.step c).tot≤3 * s.tot:=by
 have a1:=w1_len (p:=s.x) (q:=s.y)
 have a2:=w2_len (p:=s.x) (q:=s.y)
 have a3:=w1_len (p:=s.y) (q:=s.z)
 have a4:=w2_len (p:=s.y) (q:=s.z)
 unfold Tb.step
 split
 · exact ⟨⟨h.kz,w1_xyz h.x h.y,h.x,h.z⟩,by unfold Tb.tot;dsimp only;lia⟩
 · split
   · exact ⟨⟨h.kz,h.y,w2_xyz h.x h.y,h.z⟩,by unfold Tb.tot;dsimp only;lia⟩
   · split
     · exact ⟨⟨.inr rfl,h.x,w1_xyz h.y h.z,h.y⟩,by unfold Tb.tot;dsimp only;lia⟩
     · exact ⟨⟨.inr rfl,h.x,h.z,w2_xyz h.y h.z⟩,by unfold Tb.tot;dsimp only;lia⟩
end Mine
end
section
set_option tactic.hygienic false
open PySem PySem.W PySem.Calls PyProof.Rows
set_option maxRecDepth 100000
namespace Mine
open Builtin Builtin.Str StrLaws
theorem le_lim {n:Nat} (h:Nat.ble n lim = true):n≤lim:=Nat.le_of_ble_eq_true h
noncomputable def S_table:Summ:=sumOf T1 [] 56 (scOf "_law_table") (bodyOf "_law_table") (plainBnd ["braid"])
noncomputable abbrev foTab (b:D) (k:Nat) (tail:Fo):Fo:=("braid",.val b)::("table",.val (.hdr k))::tail
noncomputable def tailT (l f s o t:D):Fo:=[("letter",.val l),("first",.val f),("second",.val s),("one",.val o),("two",.val t)]
noncomputable def TailT (tail:Fo):Prop:=tail = []∨∃ l f s o t,tail = tailT l f s o t
theorem table_body {body:Fo→Sg→Option Fl} {kd:Kd} {p:Pos} {b:D} (hk:canSet kd "letter" = true)
   (hb:∀ c (s:Tb) gs tail,isAB c = true→s.Ok→3 * s.tot≤lim→TailT tail →
     ∃ tail',TailT tail'∧body (setEs [("letter",.str (sOf [c]))] (foTab b gs.length tail)) (gs++[s.prs]) = some (.next (foTab b gs.length tail') (gs++[(s.step c).prs]))) (gs:Sg) :
   ∀ (m:List Nat) (s:Tb) (tail:Fo),(∀ c∈m,isAB c = true)→s.Ok→3 ^ m.length * s.tot≤lim→TailT tail →
     ∃ tail',forK body kd (.Name "letter" p) (m.map fun c=>.str (sOf [c])) (foTab b gs.length tail) (gs++[s.prs]) = some (.next (foTab b gs.length tail') (gs++[(Tb.run m s).prs]))
 | [],s,tail,_,_,_,_=>⟨tail,rfl⟩
 | c::r,s,tail,hc,hs,hl,ht=>by
   rw [List.length_cons,Nat.pow_succ] at hl
   have hpos:1≤3 ^ r.length:=Nat.one_le_pow _ _ (by lia)
   have h3:3 * s.tot≤lim:=by
     refine Nat.le_trans ?_ hl
     rw [Nat.mul_assoc]
     exact Nat.le_mul_of_pos_left _ hpos
   refine zea (hb c s gs tail (hc c (.head _)) hs h3 ht) fun tail1 ht1 h1=>?_
   refine za (Tb.step_ok hs (c:=c)) fun ok1 hl1=>?_
   refine ze (table_body (p:=p) hk hb gs r (s.step c) tail1 (fun x hx=>hc x (.tail _ hx)) ok1 (Nat.le_trans (Nat.mul_le_mul_left _ hl1) (by rw [← Nat.mul_assoc];exact hl)) ht1) fun tail2 ih=>?_
   refine ⟨tail2,?_⟩
   show _ = some (Fl.next (foTab b gs.length tail2) (gs++[(Tb.run r (s.step c)).prs]))
   rw [← ih,List.map_cons]
   conv=>lhs
   show (if ([(("letter":Str),.str (sOf [c]))]:List (Str × D)).all fun p=>canSet kd p.1 then (match body (setEs [("letter",.str (sOf [c]))] (foTab b gs.length tail)) (gs++[s.prs]) with | some (.next fo g)=>forK body kd (.Name "letter" p) (r.map fun c=>.str (sOf [c])) fo g | r=>r) else none) = _
   rw [h1]
   simp only [List.all_cons,List.all_nil,hk,Bool.and_self,if_true]
theorem table_eq {m:List Nat} {gs:Sg} (hm:∀ c∈m,isAB c = true) (hl:m.length≤10):S_table [.str (sOf m)] gs = some (.hdr gs.length,gs++[(Tb.run m ⟨false,122,[120],[121],[122]⟩).prs]):=by
 have key:pexecs T1 [] 56 (kdOf "_law_table") (bodyOf "_law_table") (valsOf [("braid",.str (sOf m))]) gs = some (.ret (.hdr gs.length) (gs++[(Tb.run m ⟨false,122,[120],[121],[122]⟩).prs])):=by
   conv=>lhs;arg 5;whnf
   have h0:newS [.lst [.tup [.str "x",.str "x"],.tup [.str "y",.str "y"],.tup [.str "z",.str "z"]]] gs = some (.hdr gs.length,gs++[(⟨false,122,[120],[121],[122]⟩:Tb).prs]):=by
     show (if ([(("x":Str),("x":Str)),("y","y"),("z","z")]:List (Str × Str)).all (fun q=>clean q.1&&clean q.2) = true then some (D.hdr gs.length,gs++[[(("x":Str),("x":Str)),("y","y"),("z","z")]]) else none) = _
     rw [if_pos (by decide +kernel)]
     rfl
   refine ex_cons (st_assign rfl (ev_new rfl rfl (evs_more rfl (ev_tup (evs_more rfl (ev_str rfl) (evs_more rfl (ev_str rfl) evs_nil)) (by decide)) (evs_more rfl (ev_tup (evs_more rfl (ev_str rfl) (evs_more rfl (ev_str rfl) evs_nil)) (by decide)) (evs_more rfl (ev_tup (evs_more rfl (ev_str rfl) (evs_more rfl (ev_str rfl) evs_nil)) (by decide)) evs_nil))) (by decide) h0)) ?_
   refine Exists.elim (table_body (kd:=kdOf "_law_table") (b:=.str (sOf m)) rfl ?_ gs m ⟨false,122,[120],[121],[122]⟩ [] hm ⟨.inl rfl,by decide,by decide,by decide⟩ ?_ (.inl rfl)) fun tail' hloop=>ex_cons (st_for rfl (src_of (fun f q as p h=>by injection h) (ev_name rfl rfl) rfl) hloop) (ex_ret (st_return (ev_name rfl rfl)))
   · intro c s gs tail hc hs h3 ht
     have hx:=hs.x
     have hy:=hs.y
     have hz:=hs.z
     have h3':3 * (s.x.length + s.y.length + s.z.length)≤lim:=h3
     have cx:=xyz_clean (l:=s.x.reverse) (fun c hc=>hx c (List.mem_reverse.mp hc)) (by rw [List.length_reverse];lia)
     have cy:=xyz_clean (l:=s.y.reverse) (fun c hc=>hy c (List.mem_reverse.mp hc)) (by rw [List.length_reverse];lia)
     have cz:=xyz_clean (l:=s.z.reverse) (fun c hc=>hz c (List.mem_reverse.mp hc)) (by rw [List.length_reverse];lia)
     have w1a:=w1_len (p:=s.x) (q:=s.y)
     have w2a:=w2_len (p:=s.x) (q:=s.y)
     have w1b:=w1_len (p:=s.y) (q:=s.z)
     have w2b:=w2_len (p:=s.y) (q:=s.z)
     have c1a:=xyz_clean (l:=(w1 s.x s.y).reverse) (fun c hc=>w1_xyz hx hy c (List.mem_reverse.mp hc)) (by rw [List.length_reverse];lia)
     have c2a:=xyz_clean (l:=(w2 s.x s.y).reverse) (fun c hc=>w2_xyz hx hy c (List.mem_reverse.mp hc)) (by rw [List.length_reverse];lia)
     have c1b:=xyz_clean (l:=(w1 s.y s.z).reverse) (fun c hc=>w1_xyz hy hz c (List.mem_reverse.mp hc)) (by rw [List.length_reverse];lia)
     have c2b:=xyz_clean (l:=(w2 s.y s.z).reverse) (fun c hc=>w2_xyz hy hz c (List.mem_reverse.mp hc)) (by rw [List.length_reverse];lia)
     have hk:=Tb.keys hs
     have k1:∀ u:Str,((hdel s.prs "x"++[(("x":Str),u)]).all fun q=>strOk (Txt.lower q.1)) = true:=fun u=>keys_del hk sk_x
     have k2:∀ u:Str,((hdel s.prs "y"++[(("y":Str),u)]).all fun q=>strOk (Txt.lower q.1)) = true:=fun u=>keys_del hk sk_y
     have hl3:=Tb.len (s:=s)
     have l1:s.prs.length < 100:=by lia
     have getx:=getS_eq (gs:=gs) (n:="X") lw_X cl_x hk (Tb.get_x hs)
     have gety:=getS_eq (gs:=gs) (n:="Y") lw_Y cl_y hk (Tb.get_y hs)
     have gety':=getS_eq (gs:=gs) (n:="y") lw_y cl_y hk (Tb.get_y hs)
     have getz:=getS_eq (gs:=gs) (n:="z") lw_z cl_z hk (Tb.get_z hs)
     have incA:=cmp_aA hc
     have incab:=cmp_ab hc
     have Ca:∀ tl,setEs [(("letter":Str),D.str (sOf [c]))] tl = tl→True:=fun J J=>trivial
     rcases isAB_iff.mp hc with rfl | rfl | rfl | rfl
     · have e0:(s.step 97).prs = hdel (hdel s.prs "x"++[(("x":Str),sOf (w1 s.x s.y).reverse)]) "y"++[(("Y":Str),sOf s.x.reverse)]:=(Tb.set_a hs _ _).symm
       rw [e0]
       rcases ht with rfl | ⟨l,f,s',o,t,rfl⟩
       · refine ⟨tailT (.str (sOf [97])) (.str "x") (.str "Y") (.str (sOf s.x.reverse)) (.str (sOf s.y.reverse)),.inr ⟨_,_,_,_,_,rfl⟩,?_⟩
         refine ex_cons (st_unpack (fun es k p h=>by injection h) (ev_if (c:=true) (tr_cmp (ev_name rfl rfl) (ev_str rfl) incA) (ev_tup (evs_more rfl (ev_str rfl) (evs_more rfl (ev_str rfl) evs_nil)) (le_lim rfl))) rfl) ?_
         refine ex_cons (st_swap (names:=["one","two"]) rfl (ev_tup (evs_more rfl (ev_meth rfl (ev_name rfl rfl) (evs_more rfl (ev_meth rfl (ev_name rfl rfl) evs_nil (meth_up up_x rfl)) evs_nil) getx) (evs_more rfl (ev_hitem (fun l u st p h=>by injection h) rfl (ev_name rfl rfl) (ev_meth rfl (ev_name rfl rfl) evs_nil (meth_low lw_Y rfl)) gety') evs_nil)) (le_lim rfl)) rfl rfl rfl) ?_
         refine ex_cons (st_if (c:=true) (tr_cmp (ev_name rfl rfl) (ev_str rfl) incab) ?_) ex_nil
         refine ex_cons (st_setitem rfl (ev_fn rfl rfl rfl rfl (evs_more rfl (ev_fn rfl rfl rfl rfl (evs_more rfl (ev_name rfl rfl) (evs_more rfl (ev_name rfl rfl) evs_nil)) (call_onto1.trans (S_w1a hx hy (by lia)))) (evs_more rfl (ev_fn rfl rfl rfl rfl (evs_more rfl (ev_name rfl rfl) evs_nil) (call_undone1.trans (S_un hx (by lia)))) evs_nil)) (call_onto1.trans (S_w1b hx (by lia)))) (ev_name rfl rfl) (ev_name rfl rfl) (setS_eq lw_x cl_x cl_x c1a hk l1)) ?_
         exact ex_cons (st_setitem rfl (ev_name rfl rfl) (ev_name rfl rfl) (ev_name rfl rfl) (setS_eq lw_Y cl_y cl_Y cx (k1 _) (len_del hl3))) ex_nil
       · refine ⟨tailT (.str (sOf [97])) (.str "x") (.str "Y") (.str (sOf s.x.reverse)) (.str (sOf s.y.reverse)),.inr ⟨_,_,_,_,_,rfl⟩,?_⟩
         refine ex_cons (st_unpack (fun es k p h=>by injection h) (ev_if (c:=true) (tr_cmp (ev_name rfl rfl) (ev_str rfl) incA) (ev_tup (evs_more rfl (ev_str rfl) (evs_more rfl (ev_str rfl) evs_nil)) (le_lim rfl))) rfl) ?_
         refine ex_cons (st_swap (names:=["one","two"]) rfl (ev_tup (evs_more rfl (ev_meth rfl (ev_name rfl rfl) (evs_more rfl (ev_meth rfl (ev_name rfl rfl) evs_nil (meth_up up_x rfl)) evs_nil) getx) (evs_more rfl (ev_hitem (fun l u st p h=>by injection h) rfl (ev_name rfl rfl) (ev_meth rfl (ev_name rfl rfl) evs_nil (meth_low lw_Y rfl)) gety') evs_nil)) (le_lim rfl)) rfl rfl rfl) ?_
         refine ex_cons (st_if (c:=true) (tr_cmp (ev_name rfl rfl) (ev_str rfl) incab) ?_) ex_nil
         refine ex_cons (st_setitem rfl (ev_fn rfl rfl rfl rfl (evs_more rfl (ev_fn rfl rfl rfl rfl (evs_more rfl (ev_name rfl rfl) (evs_more rfl (ev_name rfl rfl) evs_nil)) (call_onto1.trans (S_w1a hx hy (by lia)))) (evs_more rfl (ev_fn rfl rfl rfl rfl (evs_more rfl (ev_name rfl rfl) evs_nil) (call_undone1.trans (S_un hx (by lia)))) evs_nil)) (call_onto1.trans (S_w1b hx (by lia)))) (ev_name rfl rfl) (ev_name rfl rfl) (setS_eq lw_x cl_x cl_x c1a hk l1)) ?_
         exact ex_cons (st_setitem rfl (ev_name rfl rfl) (ev_name rfl rfl) (ev_name rfl rfl) (setS_eq lw_Y cl_y cl_Y cx (k1 _) (len_del hl3))) ex_nil
     · have e0:(s.step 65).prs = hdel (hdel s.prs "x"++[(("x":Str),sOf s.y.reverse)]) "y"++[(("Y":Str),sOf (w2 s.x s.y).reverse)]:=(Tb.set_a hs _ _).symm
       rw [e0]
       rcases ht with rfl | ⟨l,f,s',o,t,rfl⟩
       · refine ⟨tailT (.str (sOf [65])) (.str "x") (.str "Y") (.str (sOf s.x.reverse)) (.str (sOf s.y.reverse)),.inr ⟨_,_,_,_,_,rfl⟩,?_⟩
         refine ex_cons (st_unpack (fun es k p h=>by injection h) (ev_if (c:=true) (tr_cmp (ev_name rfl rfl) (ev_str rfl) incA) (ev_tup (evs_more rfl (ev_str rfl) (evs_more rfl (ev_str rfl) evs_nil)) (le_lim rfl))) rfl) ?_
         refine ex_cons (st_swap (names:=["one","two"]) rfl (ev_tup (evs_more rfl (ev_meth rfl (ev_name rfl rfl) (evs_more rfl (ev_meth rfl (ev_name rfl rfl) evs_nil (meth_up up_x rfl)) evs_nil) getx) (evs_more rfl (ev_hitem (fun l u st p h=>by injection h) rfl (ev_name rfl rfl) (ev_meth rfl (ev_name rfl rfl) evs_nil (meth_low lw_Y rfl)) gety') evs_nil)) (le_lim rfl)) rfl rfl rfl) ?_
         refine ex_cons (st_if (c:=false) (tr_cmp (ev_name rfl rfl) (ev_str rfl) incab) ?_) ex_nil
         refine ex_cons (st_setitem rfl (ev_name rfl rfl) (ev_name rfl rfl) (ev_name rfl rfl) (setS_eq lw_x cl_x cl_x cy hk l1)) ?_
         exact ex_cons (st_setitem rfl (ev_fn rfl rfl rfl rfl (evs_more rfl (ev_fn rfl rfl rfl rfl (evs_more rfl (ev_fn rfl rfl rfl rfl (evs_more rfl (ev_name rfl rfl) evs_nil) (call_undone1.trans (S_un hy (by lia)))) (evs_more rfl (ev_name rfl rfl) evs_nil)) (call_onto1.trans (S_w2a hx (by lia)))) (evs_more rfl (ev_name rfl rfl) evs_nil)) (call_onto1.trans (S_w2b hy (by lia)))) (ev_name rfl rfl) (ev_name rfl rfl) (setS_eq lw_Y cl_y cl_Y c2a (k1 _) (len_del hl3))) ex_nil
       · refine ⟨tailT (.str (sOf [65])) (.str "x") (.str "Y") (.str (sOf s.x.reverse)) (.str (sOf s.y.reverse)),.inr ⟨_,_,_,_,_,rfl⟩,?_⟩
         refine ex_cons (st_unpack (fun es k p h=>by injection h) (ev_if (c:=true) (tr_cmp (ev_name rfl rfl) (ev_str rfl) incA) (ev_tup (evs_more rfl (ev_str rfl) (evs_more rfl (ev_str rfl) evs_nil)) (le_lim rfl))) rfl) ?_
         refine ex_cons (st_swap (names:=["one","two"]) rfl (ev_tup (evs_more rfl (ev_meth rfl (ev_name rfl rfl) (evs_more rfl (ev_meth rfl (ev_name rfl rfl) evs_nil (meth_up up_x rfl)) evs_nil) getx) (evs_more rfl (ev_hitem (fun l u st p h=>by injection h) rfl (ev_name rfl rfl) (ev_meth rfl (ev_name rfl rfl) evs_nil (meth_low lw_Y rfl)) gety') evs_nil)) (le_lim rfl)) rfl rfl rfl) ?_
         refine ex_cons (st_if (c:=false) (tr_cmp (ev_name rfl rfl) (ev_str rfl) incab) ?_) ex_nil
         refine ex_cons (st_setitem rfl (ev_name rfl rfl) (ev_name rfl rfl) (ev_name rfl rfl) (setS_eq lw_x cl_x cl_x cy hk l1)) ?_
         exact ex_cons (st_setitem rfl (ev_fn rfl rfl rfl rfl (evs_more rfl (ev_fn rfl rfl rfl rfl (evs_more rfl (ev_fn rfl rfl rfl rfl (evs_more rfl (ev_name rfl rfl) evs_nil) (call_undone1.trans (S_un hy (by lia)))) (evs_more rfl (ev_name rfl rfl) evs_nil)) (call_onto1.trans (S_w2a hx (by lia)))) (evs_more rfl (ev_name rfl rfl) evs_nil)) (call_onto1.trans (S_w2b hy (by lia)))) (ev_name rfl rfl) (ev_name rfl rfl) (setS_eq lw_Y cl_y cl_Y c2a (k1 _) (len_del hl3))) ex_nil
     · have e0:(s.step 98).prs = hdel (hdel s.prs "y"++[(("y":Str),sOf (w1 s.y s.z).reverse)]) "z"++[(("Z":Str),sOf s.y.reverse)]:=(Tb.set_b hs _ _).symm
       rw [e0]
       rcases ht with rfl | ⟨l,f,s',o,t,rfl⟩
       · refine ⟨tailT (.str (sOf [98])) (.str "y") (.str "Z") (.str (sOf s.y.reverse)) (.str (sOf s.z.reverse)),.inr ⟨_,_,_,_,_,rfl⟩,?_⟩
         refine ex_cons (st_unpack (fun es k p h=>by injection h) (ev_if (c:=false) (tr_cmp (ev_name rfl rfl) (ev_str rfl) incA) (ev_tup (evs_more rfl (ev_str rfl) (evs_more rfl (ev_str rfl) evs_nil)) (le_lim rfl))) rfl) ?_
         refine ex_cons (st_swap (names:=["one","two"]) rfl (ev_tup (evs_more rfl (ev_meth rfl (ev_name rfl rfl) (evs_more rfl (ev_meth rfl (ev_name rfl rfl) evs_nil (meth_up up_y rfl)) evs_nil) gety) (evs_more rfl (ev_hitem (fun l u st p h=>by injection h) rfl (ev_name rfl rfl) (ev_meth rfl (ev_name rfl rfl) evs_nil (meth_low lw_Z rfl)) getz) evs_nil)) (le_lim rfl)) rfl rfl rfl) ?_
         refine ex_cons (st_if (c:=true) (tr_cmp (ev_name rfl rfl) (ev_str rfl) incab) ?_) ex_nil
         refine ex_cons (st_setitem rfl (ev_fn rfl rfl rfl rfl (evs_more rfl (ev_fn rfl rfl rfl rfl (evs_more rfl (ev_name rfl rfl) (evs_more rfl (ev_name rfl rfl) evs_nil)) (call_onto1.trans (S_w1a hy hz (by lia)))) (evs_more rfl (ev_fn rfl rfl rfl rfl (evs_more rfl (ev_name rfl rfl) evs_nil) (call_undone1.trans (S_un hy (by lia)))) evs_nil)) (call_onto1.trans (S_w1b hy (by lia)))) (ev_name rfl rfl) (ev_name rfl rfl) (setS_eq lw_y cl_y cl_y c1b hk l1)) ?_
         exact ex_cons (st_setitem rfl (ev_name rfl rfl) (ev_name rfl rfl) (ev_name rfl rfl) (setS_eq lw_Z cl_z cl_Z cy (k2 _) (len_del hl3))) ex_nil
       · refine ⟨tailT (.str (sOf [98])) (.str "y") (.str "Z") (.str (sOf s.y.reverse)) (.str (sOf s.z.reverse)),.inr ⟨_,_,_,_,_,rfl⟩,?_⟩
         refine ex_cons (st_unpack (fun es k p h=>by injection h) (ev_if (c:=false) (tr_cmp (ev_name rfl rfl) (ev_str rfl) incA) (ev_tup (evs_more rfl (ev_str rfl) (evs_more rfl (ev_str rfl) evs_nil)) (le_lim rfl))) rfl) ?_
         refine ex_cons (st_swap (names:=["one","two"]) rfl (ev_tup (evs_more rfl (ev_meth rfl (ev_name rfl rfl) (evs_more rfl (ev_meth rfl (ev_name rfl rfl) evs_nil (meth_up up_y rfl)) evs_nil) gety) (evs_more rfl (ev_hitem (fun l u st p h=>by injection h) rfl (ev_name rfl rfl) (ev_meth rfl (ev_name rfl rfl) evs_nil (meth_low lw_Z rfl)) getz) evs_nil)) (le_lim rfl)) rfl rfl rfl) ?_
         refine ex_cons (st_if (c:=true) (tr_cmp (ev_name rfl rfl) (ev_str rfl) incab) ?_) ex_nil
         refine ex_cons (st_setitem rfl (ev_fn rfl rfl rfl rfl (evs_more rfl (ev_fn rfl rfl rfl rfl (evs_more rfl (ev_name rfl rfl) (evs_more rfl (ev_name rfl rfl) evs_nil)) (call_onto1.trans (S_w1a hy hz (by lia)))) (evs_more rfl (ev_fn rfl rfl rfl rfl (evs_more rfl (ev_name rfl rfl) evs_nil) (call_undone1.trans (S_un hy (by lia)))) evs_nil)) (call_onto1.trans (S_w1b hy (by lia)))) (ev_name rfl rfl) (ev_name rfl rfl) (setS_eq lw_y cl_y cl_y c1b hk l1)) ?_
         exact ex_cons (st_setitem rfl (ev_name rfl rfl) (ev_name rfl rfl) (ev_name rfl rfl) (setS_eq lw_Z cl_z cl_Z cy (k2 _) (len_del hl3))) ex_nil
     · have e0:(s.step 66).prs = hdel (hdel s.prs "y"++[(("y":Str),sOf s.z.reverse)]) "z"++[(("Z":Str),sOf (w2 s.y s.z).reverse)]:=(Tb.set_b hs _ _).symm
       rw [e0]
       rcases ht with rfl | ⟨l,f,s',o,t,rfl⟩
       · refine ⟨tailT (.str (sOf [66])) (.str "y") (.str "Z") (.str (sOf s.y.reverse)) (.str (sOf s.z.reverse)),.inr ⟨_,_,_,_,_,rfl⟩,?_⟩
         refine ex_cons (st_unpack (fun es k p h=>by injection h) (ev_if (c:=false) (tr_cmp (ev_name rfl rfl) (ev_str rfl) incA) (ev_tup (evs_more rfl (ev_str rfl) (evs_more rfl (ev_str rfl) evs_nil)) (le_lim rfl))) rfl) ?_
         refine ex_cons (st_swap (names:=["one","two"]) rfl (ev_tup (evs_more rfl (ev_meth rfl (ev_name rfl rfl) (evs_more rfl (ev_meth rfl (ev_name rfl rfl) evs_nil (meth_up up_y rfl)) evs_nil) gety) (evs_more rfl (ev_hitem (fun l u st p h=>by injection h) rfl (ev_name rfl rfl) (ev_meth rfl (ev_name rfl rfl) evs_nil (meth_low lw_Z rfl)) getz) evs_nil)) (le_lim rfl)) rfl rfl rfl) ?_
         refine ex_cons (st_if (c:=false) (tr_cmp (ev_name rfl rfl) (ev_str rfl) incab) ?_) ex_nil
         refine ex_cons (st_setitem rfl (ev_name rfl rfl) (ev_name rfl rfl) (ev_name rfl rfl) (setS_eq lw_y cl_y cl_y cz hk l1)) ?_
         exact ex_cons (st_setitem rfl (ev_fn rfl rfl rfl rfl (evs_more rfl (ev_fn rfl rfl rfl rfl (evs_more rfl (ev_fn rfl rfl rfl rfl (evs_more rfl (ev_name rfl rfl) evs_nil) (call_undone1.trans (S_un hz (by lia)))) (evs_more rfl (ev_name rfl rfl) evs_nil)) (call_onto1.trans (S_w2a hy (by lia)))) (evs_more rfl (ev_name rfl rfl) evs_nil)) (call_onto1.trans (S_w2b hz (by lia)))) (ev_name rfl rfl) (ev_name rfl rfl) (setS_eq lw_Z cl_z cl_Z c2b (k2 _) (len_del hl3))) ex_nil
       · refine ⟨tailT (.str (sOf [66])) (.str "y") (.str "Z") (.str (sOf s.y.reverse)) (.str (sOf s.z.reverse)),.inr ⟨_,_,_,_,_,rfl⟩,?_⟩
         refine ex_cons (st_unpack (fun es k p h=>by injection h) (ev_if (c:=false) (tr_cmp (ev_name rfl rfl) (ev_str rfl) incA) (ev_tup (evs_more rfl (ev_str rfl) (evs_more rfl (ev_str rfl) evs_nil)) (le_lim rfl))) rfl) ?_
         refine ex_cons (st_swap (names:=["one","two"]) rfl (ev_tup (evs_more rfl (ev_meth rfl (ev_name rfl rfl) (evs_more rfl (ev_meth rfl (ev_name rfl rfl) evs_nil (meth_up up_y rfl)) evs_nil) gety) (evs_more rfl (ev_hitem (fun l u st p h=>by injection h) rfl (ev_name rfl rfl) (ev_meth rfl (ev_name rfl rfl) evs_nil (meth_low lw_Z rfl)) getz) evs_nil)) (le_lim rfl)) rfl rfl rfl) ?_
         refine ex_cons (st_if (c:=false) (tr_cmp (ev_name rfl rfl) (ev_str rfl) incab) ?_) ex_nil
         refine ex_cons (st_setitem rfl (ev_name rfl rfl) (ev_name rfl rfl) (ev_name rfl rfl) (setS_eq lw_y cl_y cl_y cz hk l1)) ?_
         exact ex_cons (st_setitem rfl (ev_fn rfl rfl rfl rfl (evs_more rfl (ev_fn rfl rfl rfl rfl (evs_more rfl (ev_fn rfl rfl rfl rfl (evs_more rfl (ev_name rfl rfl) evs_nil) (call_undone1.trans (S_un hz (by lia)))) (evs_more rfl (ev_name rfl rfl) evs_nil)) (call_onto1.trans (S_w2a hy (by lia)))) (evs_more rfl (ev_name rfl rfl) evs_nil)) (call_onto1.trans (S_w2b hz (by lia)))) (ev_name rfl rfl) (ev_name rfl rfl) (setS_eq lw_Z cl_z cl_Z c2b (k2 _) (len_del hl3))) ex_nil
   · show 3 ^ m.length * 3≤lim
     have:3 ^ m.length≤3 ^ 10:=Nat.pow_le_pow_right (by lia) hl
     unfold lim
     lia
 exact sum_eq ["braid"] (l:=[("braid",.str (sOf m))]) rfl rfl (by decide +kernel) key
end Mine
end
section
set_option tactic.hygienic false
open PySem PySem.W PySem.Calls PyProof.Rows
set_option maxRecDepth 100000
namespace Mine
open Builtin Builtin.Str StrLaws
theorem rng1 {a b:Nat} (hb:b≤100000) (ha:a≤100000):rangeSrc a b 1 = some ((List.range (b - a)).map fun (k:Nat)=>D.int ((a + k:Nat):Int)):=by
 have e:rangeD a b 1 = (List.range (b - a)).map fun (k:Nat)=>D.int ((a + k:Nat):Int):=by
   unfold rangeD
   have h1:(if (0:Int) < 1 then ((b:Int) - a + 1 - 1) / 1 else ((a:Int) - b - 1 - 1) / (-1)).toNat = b - a:=by
     rw [if_pos (by decide),Int.ediv_one];lia
   rw [h1]
   refine List.map_congr_left fun k J=>?_
   congr 1
   lia
 have hl:(rangeD a b 1).length = b - a:=by rw [e,List.length_map,List.length_range]
 unfold rangeSrc
 rw [if_pos,e]
 have h2:Builtin.divisionGoesByPylong ((b:Int) - a) 1 = false:=by
   unfold Builtin.divisionGoesByPylong
   simp only [show ((if ((1:Int)==0) = true then 0 else (1:Int).natAbs.log2 / 30 + 1):Nat) = 1 from by decide]
   simp
 have h3:Builtin.Range.rangeSize a b 1 = ((b - a:Nat):Int):=by
   unfold Builtin.Range.rangeSize
   rw [if_pos (by decide),Int.ediv_one]
   split<;>lia
 rw [hl,h2,h3,small_one (by lia) (by lia) (by lia) (by lia)]
 simp [lim]
 lia
theorem rng2:∀ n:Nat,n≤6→rangeSrc 0 ((2 * n:Nat):Int) 2 = some ((List.range n).map fun (k:Nat)=>D.int ((2 * k:Nat):Int))
 | 0,_=>by rfl
 | 1,_=>by rfl
 | 2,_=>by rfl
 | 3,_=>by rfl
 | 4,_=>by rfl
 | 5,_=>by rfl
 | 6,_=>by rfl
 | n + 7,h=>absurd h (by lia)
theorem rng0 {b:Nat} (hb:b≤100000):rangeSrc 0 (b:Nat) 1 = some ((List.range' 0 b).map fun (k:Nat)=>D.int (k:Nat)):=by
 have h:=rng1 (a:=0) (b:=b) hb (by lia)
 simp only [Nat.sub_zero,Nat.zero_add] at h
 rw [List.range_eq_range'] at h
 exact h
theorem call_len_s {T:Tbl} {l:List Nat} {g:Sg}:pcall T "len" [.str (sOf l)] g = some (.int (l.length:Nat),g):=by
 show some (D.int ((sOf l).length:Nat),g) = _
 rw [sOf_len]
theorem call_len_t {T:Tbl} {l:List D} {g:Sg}:pcall T "len" [.tup l] g = some (.int (l.length:Nat),g):=rfl
theorem call_len_l {T:Tbl} {l:List D} {g:Sg}:pcall T "len" [.lst l] g = some (.int (l.length:Nat),g):=rfl
theorem place_in {n i:Nat} (h:i < n):place n (i:Int) = some i:=by
 unfold place
 rw [if_pos (by lia),if_pos (by lia)]
 simp
theorem item_s {l:List Nat} {i c:Nat} (h:l[i]? = some c):itemD (.str (sOf l)) (.int (i:Nat)) = some (.str (sOf [c])):=by
 have hi:i < l.length:=(List.getElem?_eq_some_iff.mp h).1
 show (place (sOf l).length (i:Int)).bind _ = _
 rw [sOf_len,place_in hi]
 show ((sOf l).cps[i]?).map _ = _
 have:(sOf l).cps[i]? = some c:=by simpa [sOf] using h
 rw [this]
 rfl
theorem item_t {l:List D} {i:Nat} {d:D} (h:l[i]? = some d):itemD (.tup l) (.int (i:Nat)) = some d:=by
 have hi:i < l.length:=(List.getElem?_eq_some_iff.mp h).1
 show (place l.length (i:Int)).bind _ = _
 rw [place_in hi]
 exact h
theorem item_l {l:List D} {i:Nat} {d:D} (h:l[i]? = some d):itemD (.lst l) (.int (i:Nat)) = some d:=by
 have hi:i < l.length:=(List.getElem?_eq_some_iff.mp h).1
 show (place l.length (i:Int)).bind _ = _
 rw [place_in hi]
 exact h
theorem flatP_at:∀ {ps:List (List Nat × List Nat)} {i:Nat} {p:List Nat × List Nat},ps[i]? = some p→(flatP ps)[2 * i]? = some (.str (sOf p.1))∧(flatP ps)[2 * i + 1]? = some (.str (sOf p.2))
 | [],i,p,h=>by induction i using Nat.casesOn<;>injection h
 | q::r,0,p,h=>by
   injection h with h;subst h
   exact ⟨rfl,rfl⟩
 | q::r,i + 1,p,h=>by
   have:=flatP_at (ps:=r) (i:=i) h
   rw [show 2 * (i + 1) = 2 * i + 1 + 1 from by lia]
   exact this
theorem slice_mid {t:List Nat} {k w:Nat} (ht:t.length≤lim) (hk:k≤t.length):sliceD (.str (sOf t)) (some (k:Int)) (some ((k + w:Nat):Int)) none = some (.str (sOf ((t.drop k).take w))):=by
 refine slice_s ht ?_
 have e1:clipN (some (k:Int)) 0 t.length = k:=clipN_nat hk
 have e2:clipN (some ((k + w:Nat):Int)) t.length t.length = min (k + w) t.length:=clipN_min
 rw [e1,e2]
 by_cases h:k + w≤t.length
 · rw [Nat.min_eq_left h,Nat.add_sub_cancel_left]
 · rw [Nat.min_eq_right (by lia),List.take_of_length_le (by simp),List.take_of_length_le (by simp;lia)]
theorem pre_beq {o t:List Nat}:(t.take o.length==o) = fpre o t:=by
 rw [Bool.eq_iff_iff,beq_iff_eq,fpre_iff]
/-! the walk from the left -/
noncomputable def S_put:Summ:=sumOf T1 [] 56 (scOf "_law_put") (bodyOf "_law_put") (plainBnd ["word","row"])
noncomputable abbrev foIn (t:List Nat) (ps:List (List Nat × List Nat)) (a:Nat) (acc:List Nat) (f:Nat) (tk:Fo):Fo :=
 ("word",.val (.str (sOf t)))::("row",.val (.tup (flatP ps)))::("at",.val (.int (a:Nat)))::("told",.val (.str (sOf acc)))::("free",.val (.int (f:Nat)))::tk
noncomputable def TkOk (tk:Fo):Prop:=∀ d:D,setE ("k":Str) (.val d) tk = [(("k":Str),.val d)]
noncomputable def putIn (o n:List Nat) (t:List Nat) (k:Nat) (acc:List Nat) (f:Nat):List Nat × Nat :=
 if f≤k then (if fpre o (t.drop k) then (acc++n,k + o.length) else (acc++(t.drop k).take 1,f)) else (acc,f)
theorem put_inner {body:Fo→Sg→Option Fl} {kd:Kd} {p:Pos} {g:Sg} {t o n:List Nat} {ps:List (List Nat × List Nat)} {a:Nat} (hk:canSet kd "k" = true) (ho:1≤o.length) (hno:n.length≤o.length)
   (hb:∀ k acc f,k < t.length→acc.length≤t.length→body (foIn t ps a acc f [("k",.val (.int (k:Nat)))]) g = some (.next (foIn t ps a (putIn o n t k acc f).1 (putIn o n t k acc f).2 [("k",.val (.int (k:Nat)))]) g)) :
   ∀ (m k:Nat) (acc:List Nat) (f:Nat) (tk:Fo),k + m = t.length→TkOk tk→acc.length≤t.length→acc++frep o n (t.drop k) (f - k) = frep o n t 0 →
     ∃ f' tk',TkOk tk'∧forK body kd (.Name ("k":Str) p) ((List.range' k m).map fun (i:Nat)=>D.int (i:Nat)) (foIn t ps a acc f tk) g = some (.next (foIn t ps a (frep o n t 0) f' tk') g)
 | 0,k,acc,f,tk,hm,ht,_,hi=>by
   refine ⟨f,tk,ht,?_⟩
   rw [List.drop_of_length_le (by lia)] at hi
   simp only [frep,List.append_nil] at hi
   rw [← hi]
   rfl
 | m + 1,k,acc,f,tk,hm,ht,hl,hi=>by
   have hkl:k < t.length:=by lia
   have hd:t.drop k = t[k]::t.drop (k + 1):=List.drop_eq_getElem_cons hkl
   have hinv:(putIn o n t k acc f).1++frep o n (t.drop (k + 1)) ((putIn o n t k acc f).2 - (k + 1)) = frep o n t 0:=by
     rw [← hi]
     unfold putIn
     split
     · rename_i hf
       rw [show f - k = 0 from by lia]
       split
       · rename_i hp
         rw [hd] at hp ⊢
         rw [show frep o n (t[k]::t.drop (k + 1)) 0 = n++frep o n (t.drop (k + 1)) (o.length - 1) from by conv=>lhs;unfold frep;rw [hp]]
         rw [show k + o.length - (k + 1) = o.length - 1 from by lia,List.append_assoc]
       · rename_i hp
         rw [hd] at hp ⊢
         rw [show frep o n (t[k]::t.drop (k + 1)) 0 = t[k]::frep o n (t.drop (k + 1)) 0 from by conv=>lhs;unfold frep;rw [Bool.eq_false_iff.mpr hp]]
         rw [show f - (k + 1) = 0 from by lia]
         show acc++[t[k]]++_ = _
         rw [List.append_assoc]
         rfl
     · rename_i hf
       obtain ⟨j,hj⟩:∃ j,f - k = j + 1:=⟨f - k - 1,by lia⟩
       rw [hj,show f - (k + 1) = j from by lia,hd]
       rfl
   have hlen:(putIn o n t k acc f).1.length≤t.length:=by
     have h1:=congrArg List.length hinv
     have h2:=frep_len0 ho hno (t:=t)
     rw [List.length_append] at h1
     lia
   refine ze2a (put_inner (p:=p) hk ho hno hb m (k + 1) _ _ [("k",.val (.int (k:Nat)))] (by lia) (fun d=>rfl) hlen hinv) fun f' tk' h1 ih=>?_
   refine ⟨f',tk',h1,?_⟩
   rw [← ih,List.range'_succ,List.map_cons]
   conv=>lhs
   have e:setEs [(("k":Str),D.int (k:Nat))] (foIn t ps a acc f tk) = foIn t ps a acc f [("k",.val (.int (k:Nat)))]:=by
     show (("word":Str),_)::(("row":Str),_)::(("at":Str),_)::(("told":Str),_)::(("free":Str),_)::setE ("k":Str) (.val (.int (k:Nat))) tk = _
     rw [ht]
   show (if ([(("k":Str),D.int (k:Nat))]:List (Str × D)).all fun p=>canSet kd p.1 then (match body (setEs [(("k":Str),D.int (k:Nat))] (foIn t ps a acc f tk)) g with | some (.next fo g)=>forK body kd (.Name "k" p) ((List.range' (k + 1) m).map fun (i:Nat)=>D.int (i:Nat)) fo g | r=>r) else none) = _
   rw [e,hb k acc f hkl hl]
   simp only [List.all_cons,List.all_nil,hk,Bool.and_self,if_true]
theorem put_outer {body:Fo→Sg→Option Fl} {kd:Kd} {p:Pos} {g:Sg} {ps:List (List Nat × List Nat)} (hk:canSet kd "at" = true)
   (hb:∀ t i q tail,ps[i]? = some q→t.length≤1000→(tail = []∨∃ a u f tk,TkOk tk∧tail = (("at":Str),EV.val a)::(("told":Str),EV.val u)::(("free":Str),EV.val f)::tk) →
     ∃ a' acc f' tk',TkOk tk'∧body (setEs [(("at":Str),D.int ((2 * i:Nat):Int))] (("word",.val (.str (sOf t)))::("row",.val (.tup (flatP ps)))::tail)) g = some (.next (foIn (frep q.1 q.2 t 0) ps a' acc f' tk') g)) (hp:∀ q∈ps,pairOk q) :
   ∀ (rs:List (List Nat × List Nat)) (i:Nat) (t:List Nat) (tail:Fo),(∀ j,rs[j]? = ps[i + j]?)→t.length≤1000→(tail = []∨∃ a u f tk,TkOk tk∧tail = (("at":Str),EV.val a)::(("told":Str),EV.val u)::(("free":Str),EV.val f)::tk) →
     ∃ tail',forK body kd (.Name ("at":Str) p) ((List.range' i rs.length).map fun (k:Nat)=>D.int ((2 * k:Nat):Int)) (("word",.val (.str (sOf t)))::("row",.val (.tup (flatP ps)))::tail) g = some (.next (("word",.val (.str (sOf (frepAll rs t))))::("row",.val (.tup (flatP ps)))::tail') g)
 | [],i,t,tail,_,_,_=>⟨tail,rfl⟩
 | q::rs,i,t,tail,hj,hl,ht=>by
   have hq:ps[i]? = some q:=by have:=hj 0;rw [Nat.add_zero] at this;rw [← this];rfl
   have hqok:=hp q (List.mem_of_getElem? hq)
   obtain ⟨a',acc,f',tk',htk,h1⟩:=hb t i q tail hq hl ht
   refine ze (put_outer (p:=p) hk hb hp rs (i + 1) (frep q.1 q.2 t 0) _ (fun j=>by have:=hj (j + 1);rw [show i + 1 + j = i + (j + 1) from by lia,← this];rfl) (Nat.le_trans (frep_len0 hqok.1 hqok.2.2.1) hl) (.inr ⟨.int (a':Nat),.str (sOf acc),.int (f':Nat),tk',htk,rfl⟩)) fun tail2 ih=>?_
   refine ⟨tail2,?_⟩
   show _ = some (Fl.next (("word",.val (.str (sOf (frepAll rs (frep q.1 q.2 t 0)))))::("row",.val (.tup (flatP ps)))::tail2) g)
   rw [← ih,List.length_cons,List.range'_succ,List.map_cons]
   conv=>lhs
   show (if ([(("at":Str),D.int ((2 * i:Nat):Int))]:List (Str × D)).all fun p=>canSet kd p.1 then (match body (setEs [(("at":Str),D.int ((2 * i:Nat):Int))] (("word",.val (.str (sOf t)))::("row",.val (.tup (flatP ps)))::tail)) g with | some (.next fo g)=>forK body kd (.Name "at" p) ((List.range' (i + 1) rs.length).map fun (k:Nat)=>D.int ((2 * k:Nat):Int)) fo g | r=>r) else none) = _
   rw [h1]
   simp only [List.all_cons,List.all_nil,hk,Bool.and_self,if_true]
theorem range_range' (n:Nat):List.range n = List.range' 0 n:=List.range_eq_range'
theorem ge_nat {a b:Nat}:cmpD .GtE (.int (a:Nat)) (.int (b:Nat)) = some (decide (b≤a)):=by
 show some (decide ((b:Int)≤(a:Int))) = _
 congr 1
 rw [Bool.eq_iff_iff,decide_eq_true_eq,decide_eq_true_eq]
 lia
theorem add_i {a b:Nat}:binD .Add (.int (a:Nat)) (.int (b:Nat)) = some (.int ((a + b:Nat):Int)):=rfl
theorem big_nat {a:Nat} (h:a < 2 ^ 62):big (a:Int) = true:=by unfold big;simpa using h
theorem all_nil {tr:Expr→Sg→Option (Bool × Sg)} {g:Sg}:allK tr [] g = some (true,g):=rfl
theorem all_t {tr:Expr→Sg→Option (Bool × Sg)} {g g1:Sg} {e:Expr} {r:List Expr} {R:Option (Bool × Sg)} (h:tr e g = some (true,g1)) (hr:allK tr r g1 = R):allK tr (e::r) g = R:=by
 unfold allK;simp only [h,bindK,if_true];exact hr
theorem all_f {tr:Expr→Sg→Option (Bool × Sg)} {g g1:Sg} {e:Expr} {r:List Expr} (h:tr e g = some (false,g1)):allK tr (e::r) g = some (false,g1):=by
 unfold allK;simp only [h,bindK,Bool.false_eq_true,if_false]
theorem ge_t {a b:Nat} (h:b≤a):cmpD .GtE (.int (a:Nat)) (.int (b:Nat)) = some true:=by rw [ge_nat,decide_eq_true h]
theorem ge_f {a b:Nat} (h:¬ b≤a):cmpD .GtE (.int (a:Nat)) (.int (b:Nat)) = some false:=by rw [ge_nat,decide_eq_false h]
noncomputable def putLoop:List Stmt:=match bodyOf "_law_put" with
 | .For _ _ (_::.For _ _ b _ _::_) _ _::_=>b
 | _=>[]
theorem put_stmt {t:List Nat} {ps:List (List Nat × List Nat)} {g:Sg} {q:List Nat × List Nat} {i n:Nat} (i1:itemD (.tup (flatP ps)) (.int ((2 * i:Nat):Int)) = some (.str (sOf q.1))) (i2:itemD (.tup (flatP ps)) (.int ((2 * i + 1:Nat):Int)) = some (.str (sOf q.2))) (hq:pairOk q) (ht:t.length≤1000)
   (k:Nat) (acc:List Nat) (f:Nat) (hk:k < t.length) (ha:acc.length≤t.length):pexecs T1 [] (n + 20) (kdOf "_law_put") putLoop (foIn t ps (2 * i) acc f [("k",.val (.int (k:Nat)))]) g = some (.next (foIn t ps (2 * i) (putIn q.1 q.2 t k acc f).1 (putIn q.1 q.2 t k acc f).2 [("k",.val (.int (k:Nat)))]) g):=by
 have hn1:=hq.2.2.1
 have hn2:=hq.2.2.2
 conv=>lhs;arg 5;whnf
 by_cases hf:f≤k
 · induction hp:fpre q.1 (t.drop k) using Bool.casesOn with
   | true =>
     have e:putIn q.1 q.2 t k acc f = (acc++q.2,k + q.1.length):=by unfold putIn;rw [if_pos hf,if_pos hp]
     rw [e]
     refine ex_cons (st_if (c:=true) (tr_and (all_t (tr_cmp (ev_name rfl rfl) (ev_name rfl rfl) (ge_t hf)) (all_t (tr_cmp (ev_slice (ev_name rfl rfl) (opt_some (ev_name rfl rfl) (big_nat (by lia))) (opt_some (ev_bin (ev_name rfl rfl) (ev_bi rfl rfl rfl rfl (evs_more rfl (ev_item (fun l u st p h=>by injection h) (ev_name rfl rfl) (ev_name rfl rfl) (fun k h=>by injection h) i1) evs_nil) call_len_s) add_i) (big_nat (by lia))) opt_none (slice_mid (by unfold lim;lia) (by lia))) (ev_item (fun l u st p h=>by injection h) (ev_name rfl rfl) (ev_name rfl rfl) (fun k h=>by injection h) i1) (by rw [cmp_eq_s,sOf_beq,pre_beq,hp])) all_nil))) ?_) ex_nil
     exact ex_cons (st_swap (names:=["told","free"]) rfl (ev_tup (evs_more rfl (ev_bin (ev_name rfl rfl) (ev_item (fun l u st p h=>by injection h) (ev_name rfl rfl) (ev_bin (ev_name rfl rfl) ev_int rfl) (fun k h=>by injection h) i2) (add_s (by unfold lim;lia))) (evs_more rfl (ev_bin (ev_name rfl rfl) (ev_bi rfl rfl rfl rfl (evs_more rfl (ev_item (fun l u st p h=>by injection h) (ev_name rfl rfl) (ev_name rfl rfl) (fun k h=>by injection h) i1) evs_nil) call_len_s) add_i) evs_nil)) (le_lim rfl)) rfl rfl rfl) ex_nil
   | false =>
     have e:putIn q.1 q.2 t k acc f = (acc++(t.drop k).take 1,f):=by unfold putIn;rw [if_pos hf,hp];rfl
     rw [e]
     have hd:(t.drop k).take 1 = [t[k]]:=by rw [List.drop_eq_getElem_cons hk];rfl
     rw [hd]
     refine ex_cons (st_if (c:=false) (tr_and (all_t (tr_cmp (ev_name rfl rfl) (ev_name rfl rfl) (ge_t hf)) (all_f (tr_cmp (ev_slice (ev_name rfl rfl) (opt_some (ev_name rfl rfl) (big_nat (by lia))) (opt_some (ev_bin (ev_name rfl rfl) (ev_bi rfl rfl rfl rfl (evs_more rfl (ev_item (fun l u st p h=>by injection h) (ev_name rfl rfl) (ev_name rfl rfl) (fun k h=>by injection h) i1) evs_nil) call_len_s) add_i) (big_nat (by lia))) opt_none (slice_mid (by unfold lim;lia) (by lia))) (ev_item (fun l u st p h=>by injection h) (ev_name rfl rfl) (ev_name rfl rfl) (fun k h=>by injection h) i1) (by rw [cmp_eq_s,sOf_beq,pre_beq,hp]))))) ?_) ex_nil
     refine ex_cons (st_if (c:=true) (tr_cmp (ev_name rfl rfl) (ev_name rfl rfl) (ge_t hf)) ?_) ex_nil
     exact ex_cons (st_assign rfl (ev_bin (ev_name rfl rfl) (ev_item (fun l u st p h=>by injection h) (ev_name rfl rfl) (ev_name rfl rfl) (fun k h=>by injection h) (item_s (List.getElem?_eq_getElem hk))) (add_s (by simp;unfold lim;lia)))) ex_nil
 · have e:putIn q.1 q.2 t k acc f = (acc,f):=by unfold putIn;rw [if_neg hf]
   rw [e]
   refine ex_cons (st_if (c:=false) (tr_and (all_f (tr_cmp (ev_name rfl rfl) (ev_name rfl rfl) (ge_f hf)))) ?_) ex_nil
   exact ex_cons (st_if (c:=false) (tr_cmp (ev_name rfl rfl) (ev_name rfl rfl) (ge_f hf)) ex_nil) ex_nil
theorem put_eq {t:List Nat} {ps:List (List Nat × List Nat)} {g:Sg} (hp:∀ p∈ps,pairOk p) (ht:t.length≤1000) (hn:ps.length≤6):S_put [.str (sOf t),.tup (flatP ps)] g = some (.str (sOf (frepAll ps t)),g):=by
 have key:pexecs T1 [] 56 (kdOf "_law_put") (bodyOf "_law_put") (valsOf [("word",.str (sOf t)),("row",.tup (flatP ps))]) g = some (.ret (.str (sOf (frepAll ps t))) g):=by
   conv=>lhs;arg 5;whnf
   have hr:rangeSrc 0 ((flatP ps).length:Nat) 2 = some ((List.range' 0 ps.length).map fun (k:Nat)=>D.int ((2 * k:Nat):Int)):=by
     rw [flatP_len,← range_range']
     exact rng2 ps.length hn
   refine Exists.elim (put_outer (kd:=kdOf "_law_put") (g:=g) (ps:=ps) rfl ?_ hp ps 0 t [] (fun j=>by rw [Nat.zero_add]) ht (.inl rfl)) fun tail' hloop=>ex_cons (st_for rfl (src_rng rfl (evs_more rfl ev_int (evs_more rfl (ev_bi rfl rfl rfl rfl (evs_more rfl (ev_name rfl rfl) evs_nil) call_len_t) (evs_more rfl ev_int evs_nil))) hr) hloop) (ex_ret (st_return (ev_name rfl rfl)))
   intro t i q tail hq hl htail
   have hqok:=hp q (List.mem_of_getElem? hq)
   refine za (flatP_at hq) fun f1 f2=>?_
   have i1:=item_t f1
   have i2:=item_t f2
   have hr2:=rng0 (b:=t.length) (by lia)
   have hn1:=hqok.2.2.1
   have hn2:=hqok.2.2.2
   rcases htail with rfl | ⟨a,u,f,tk,htk,rfl⟩
   · refine Exists.elim (put_inner (kd:=kdOf "_law_put") (g:=g) (t:=t) (o:=q.1) (n:=q.2) (ps:=ps) (a:=2 * i) rfl hqok.1 hn1 ?_ t.length 0 [] 0 [] (by lia) (fun d=>rfl) (Nat.zero_le _) rfl) fun f' h=>Exists.elim h fun tk' h2=>⟨2 * i,frep q.1 q.2 t 0,f',tk',h2.1,ex_cons (st_pair (ds:=[.str (sOf []),.int ((0:Nat):Int)]) rfl rfl (ev_tup (evs_more rfl (ev_str rfl) (evs_more rfl ev_int evs_nil)) (le_lim rfl)) rfl) (ex_cons (st_for rfl (src_rng rfl (evs_more rfl (ev_bi rfl rfl rfl rfl (evs_more rfl (ev_name rfl rfl) evs_nil) call_len_s) evs_nil) hr2) h2.2) (ex_cons (st_assign rfl (ev_name rfl rfl)) ex_nil))⟩
     exact put_stmt i1 i2 hqok hl
   · refine Exists.elim (put_inner (kd:=kdOf "_law_put") (g:=g) (t:=t) (o:=q.1) (n:=q.2) (ps:=ps) (a:=2 * i) rfl hqok.1 hn1 ?_ t.length 0 [] 0 tk (by lia) htk (Nat.zero_le _) rfl) fun f' h=>Exists.elim h fun tk' h2=>⟨2 * i,frep q.1 q.2 t 0,f',tk',h2.1,ex_cons (st_pair (ds:=[.str (sOf []),.int ((0:Nat):Int)]) rfl rfl (ev_tup (evs_more rfl (ev_str rfl) (evs_more rfl ev_int evs_nil)) (le_lim rfl)) rfl) (ex_cons (st_for rfl (src_rng rfl (evs_more rfl (ev_bi rfl rfl rfl rfl (evs_more rfl (ev_name rfl rfl) evs_nil) call_len_s) evs_nil) hr2) h2.2) (ex_cons (st_assign rfl (ev_name rfl rfl)) ex_nil))⟩
     exact put_stmt i1 i2 hqok hl
 exact sum_eq ["word","row"] (l:=[("word",.str (sOf t)),("row",.tup (flatP ps))]) rfl rfl (by decide +kernel) key
end Mine
end
section
set_option tactic.hygienic false
open PySem PySem.W PySem.Calls PyProof.Rows
set_option maxRecDepth 100000
namespace Mine
open Builtin Builtin.Str StrLaws
noncomputable def fway (c:Nat):Int:=match Nat.beq c 97 with
 | true=>1
 | false=>match Nat.beq c 98 with
   | true=>1
   | false=>-1
structure Q4 where
 p:Int
 q:Int
 r:Int
 s:Int
noncomputable def Q4.step (x:Q4) (c:Nat):Q4:=match Nat.beq c 97 with
 | true=>⟨x.p,x.q + fway c * x.p,x.r,x.s + fway c * x.r⟩
 | false=>match Nat.beq c 65 with
   | true=>⟨x.p,x.q + fway c * x.p,x.r,x.s + fway c * x.r⟩
   | false=>⟨x.p - fway c * x.q,x.q,x.r - fway c * x.s,x.s⟩
noncomputable def Q4.run:List Nat→Q4→Q4
 | [],x=>x
 | c::r,x=>Q4.run r (x.step c)
noncomputable def fcnt:List Nat→Int
 | []=>0
 | c::r=>fway c + fcnt r
noncomputable def fnums (m:List Nat):List Int:=match Q4.run m ⟨1,0,0,1⟩ with
 | ⟨p,q,r,s⟩=>[p,q,r,s,fcnt m]
noncomputable def Q4.Le (x:Q4) (B:Nat):Prop:=x.p.natAbs≤B∧x.q.natAbs≤B∧x.r.natAbs≤B∧x.s.natAbs≤B
theorem fway_pm (c:Nat):fway c = 1∨fway c = -1:=by
 unfold fway
 split
 · exact .inl rfl
 · split
   · exact .inl rfl
   · exact .inr rfl
theorem q_keep {a:Int} {B:Nat} (h:a.natAbs≤B):a.natAbs≤2 * B:=Nat.le_trans h (Nat.le_mul_of_pos_left B (by decide))
theorem q_add {a b w:Int} {B:Nat} (hw:w = 1∨w = -1) (ha:a.natAbs≤B) (hb:b.natAbs≤B):(a + w * b).natAbs≤2 * B:=by
 rw [Nat.two_mul]
 refine Nat.le_trans (Int.natAbs_add_le _ _) (Nat.add_le_add ha ?_)
 rcases hw with rfl | rfl
 · rw [Int.one_mul];exact hb
 · rw [Int.neg_one_mul,Int.natAbs_neg];exact hb
theorem q_sub {a b w:Int} {B:Nat} (hw:w = 1∨w = -1) (ha:a.natAbs≤B) (hb:b.natAbs≤B):(a - w * b).natAbs≤2 * B:=by
 rw [Nat.two_mul,Int.sub_eq_add_neg]
 refine Nat.le_trans (Int.natAbs_add_le _ _) (Nat.add_le_add ha ?_)
 rw [Int.natAbs_neg]
 rcases hw with rfl | rfl
 · rw [Int.one_mul];exact hb
 · rw [Int.neg_one_mul,Int.natAbs_neg];exact hb
theorem Q4.step_le {x:Q4} {B:Nat} (h:x.Le B) (c:Nat):(x.step c).Le (2 * B):=by
 refine za3 h fun h1 h2 h3 h4=>?_;clear h
 have hw:=fway_pm c
 have A:Q4.Le ⟨x.p,x.q + fway c * x.p,x.r,x.s + fway c * x.r⟩ (2 * B):=⟨q_keep h1,q_add hw h2 h1,q_keep h3,q_add hw h4 h3⟩
 have D:Q4.Le ⟨x.p - fway c * x.q,x.q,x.r - fway c * x.s,x.s⟩ (2 * B):=⟨q_sub hw h1 h2,q_keep h2,q_sub hw h3 h4,q_keep h4⟩
 unfold Q4.step
 induction Nat.beq c 97 using Bool.casesOn with
 | true=>exact A
 | false=>induction Nat.beq c 65 using Bool.casesOn with
   | true=>exact A
   | false=>exact D
noncomputable def S_numbers:Summ:=sumOf T1 [] 56 (scOf "_law_numbers") (bodyOf "_law_numbers") (plainBnd ["braid"])
noncomputable abbrev foNum (b:D) (x:Q4) (tail:Fo):Fo:=("braid",.val b)::("p",.val (.int x.p))::("q",.val (.int x.q))::("r",.val (.int x.r))::("s",.val (.int x.s))::tail
noncomputable def TailN (tail:Fo):Prop:=tail = []∨∃ a b,tail = [(("letter":Str),EV.val a),(("way":Str),EV.val b)]
theorem num_loop {body:Fo→Sg→Option Fl} {kd:Kd} {p:Pos} {b:D} {g:Sg} (hk:canSet kd "letter" = true)
   (hb:∀ c (x:Q4) tail,isAB c = true→x.Le (2 ^ 60)→TailN tail →
     ∃ tail',TailN tail'∧body (setEs [(("letter":Str),.str (sOf [c]))] (foNum b x tail)) g = some (.next (foNum b (x.step c) tail') g)) :
   ∀ (m:List Nat) (x:Q4) (tail:Fo) (B:Nat),(∀ c∈m,isAB c = true)→x.Le B→2 ^ m.length * B≤2 ^ 60→TailN tail →
     ∃ tail',forK body kd (.Name ("letter":Str) p) (m.map fun c=>.str (sOf [c])) (foNum b x tail) g = some (.next (foNum b (Q4.run m x) tail') g)
 | [],x,tail,B,_,_,_,_=>⟨tail,rfl⟩
 | c::r,x,tail,B,hc,hs,hl,ht=>by
   rw [List.length_cons,Nat.pow_succ] at hl
   have hpos:1≤2 ^ r.length:=Nat.one_le_pow _ _ (by lia)
   have hB:B≤2 ^ 60:=by
     refine Nat.le_trans ?_ hl
     rw [Nat.mul_assoc]
     exact Nat.le_trans (by lia) (Nat.le_mul_of_pos_left _ hpos)
   refine zea (hb c x tail (hc c (.head _)) ⟨Nat.le_trans hs.1 hB,Nat.le_trans hs.2.1 hB,Nat.le_trans hs.2.2.1 hB,Nat.le_trans hs.2.2.2 hB⟩ ht) fun tail1 ht1 h1=>?_
   refine ze (num_loop (p:=p) hk hb r (x.step c) tail1 (2 * B) (fun x hx=>hc x (.tail _ hx)) (Q4.step_le hs c) (by rw [← Nat.mul_assoc];exact hl) ht1) fun tail2 ih=>?_
   refine ⟨tail2,?_⟩
   show _ = some (Fl.next (foNum b (Q4.run r (x.step c)) tail2) g)
   rw [← ih,List.map_cons]
   conv=>lhs
   show (if ([(("letter":Str),.str (sOf [c]))]:List (Str × D)).all fun p=>canSet kd p.1 then (match body (setEs [(("letter":Str),.str (sOf [c]))] (foNum b x tail)) g with | some (.next fo g)=>forK body kd (.Name "letter" p) (r.map fun c=>.str (sOf [c])) fo g | r=>r) else none) = _
   rw [h1]
   simp only [List.all_cons,List.all_nil,hk,Bool.and_self,if_true]
theorem mul_i {a b:Int} (ha:a.natAbs≤2 ^ 60) (hb:b.natAbs≤2 ^ 60):binD .Mult (.int a) (.int b) = some (.int (a * b)):=by
 show (if (big a&&big b) = true then some (D.int (a * b)) else none) = _
 rw [if_pos]
 unfold big
 rw [Bool.and_eq_true,decide_eq_true_eq,decide_eq_true_eq]
 exact ⟨Nat.lt_of_le_of_lt ha (by decide),Nat.lt_of_le_of_lt hb (by decide)⟩
theorem intsOf_map:∀ l:List Int,intsOf (l.map .int) = some l
 | []=>rfl
 | a::r=>by rw [List.map_cons,intsOf,intsOf_map r];rfl
theorem call_sum {T:Tbl} {l:List Int} {g:Sg}:pcall T "sum" [.lst (l.map .int)] g = some (.int l.sum,g):=by
 show (intsOf (l.map .int)).map (fun is=>(D.int is.sum,g)) = _
 rw [intsOf_map];rfl
theorem fcnt_sum:∀ m:List Nat,(m.map fway).sum = fcnt m
 | []=>rfl
 | c::r=>by rw [List.map_cons,List.sum_cons,fcnt_sum r];rfl
theorem numbers_eq {m:List Nat} {g:Sg} (hm:∀ c∈m,isAB c = true) (hl:m.length≤60):S_numbers [.str (sOf m)] g = some (.lst ((fnums m).map .int),g):=by
 have key:pexecs T1 [] 56 (kdOf "_law_numbers") (bodyOf "_law_numbers") (valsOf [("braid",.str (sOf m))]) g = some (.ret (.lst ((fnums m).map .int)) g):=by
   conv=>lhs;arg 5;whnf
   refine ex_cons (st_pair (ds:=[.int 1,.int 0,.int 0,.int 1]) rfl rfl (ev_tup (evs_more rfl ev_int (evs_more rfl ev_int (evs_more rfl ev_int (evs_more rfl ev_int evs_nil)))) (le_lim rfl)) rfl) ?_
   refine Exists.elim (num_loop (kd:=kdOf "_law_numbers") (b:=.str (sOf m)) (g:=g) rfl ?_ m ⟨1,0,0,1⟩ [] 1 hm ⟨by decide,by decide,by decide,by decide⟩ (by rw [Nat.mul_one];exact Nat.pow_le_pow_right (by lia) hl) (.inl rfl)) fun tail' hloop=>ex_cons (st_for rfl (src_of (fun f q as p h=>by injection h) (ev_name rfl rfl) rfl) hloop) (ex_ret (st_return ?_))
   · intro c x tail hc hx ht
     have incA:=cmp_aA hc
     have incab:=cmp_ab hc
     rcases isAB_iff.mp hc with rfl | rfl | rfl | rfl
     · rcases ht with rfl | ⟨a,b,rfl⟩
       · exact ⟨[("letter",.val (.str (sOf [97]))),("way",.val (.int 1))],.inr ⟨_,_,rfl⟩,ex_cons (st_assign rfl (ev_if (c:=true) (tr_cmp (ev_name rfl rfl) (ev_str rfl) incab) ev_int)) (ex_cons (st_if (c:=true) (tr_cmp (ev_name rfl rfl) (ev_str rfl) incA) (ex_cons (st_swap (names:=["q","s"]) rfl (ev_tup (evs_more rfl (ev_bin (ev_name rfl rfl) (ev_bin (ev_name rfl rfl) (ev_name rfl rfl) (mul_i (by decide) hx.1)) rfl) (evs_more rfl (ev_bin (ev_name rfl rfl) (ev_bin (ev_name rfl rfl) (ev_name rfl rfl) (mul_i (by decide) hx.2.2.1)) rfl) evs_nil)) (le_lim rfl)) rfl rfl rfl) ex_nil)) ex_nil)⟩
       · exact ⟨[("letter",.val (.str (sOf [97]))),("way",.val (.int 1))],.inr ⟨_,_,rfl⟩,ex_cons (st_assign rfl (ev_if (c:=true) (tr_cmp (ev_name rfl rfl) (ev_str rfl) incab) ev_int)) (ex_cons (st_if (c:=true) (tr_cmp (ev_name rfl rfl) (ev_str rfl) incA) (ex_cons (st_swap (names:=["q","s"]) rfl (ev_tup (evs_more rfl (ev_bin (ev_name rfl rfl) (ev_bin (ev_name rfl rfl) (ev_name rfl rfl) (mul_i (by decide) hx.1)) rfl) (evs_more rfl (ev_bin (ev_name rfl rfl) (ev_bin (ev_name rfl rfl) (ev_name rfl rfl) (mul_i (by decide) hx.2.2.1)) rfl) evs_nil)) (le_lim rfl)) rfl rfl rfl) ex_nil)) ex_nil)⟩
     · rcases ht with rfl | ⟨a,b,rfl⟩
       · exact ⟨[("letter",.val (.str (sOf [65]))),("way",.val (.int (-1)))],.inr ⟨_,_,rfl⟩,ex_cons (st_assign rfl (ev_if (c:=false) (tr_cmp (ev_name rfl rfl) (ev_str rfl) incab) (ev_neg ev_int))) (ex_cons (st_if (c:=true) (tr_cmp (ev_name rfl rfl) (ev_str rfl) incA) (ex_cons (st_swap (names:=["q","s"]) rfl (ev_tup (evs_more rfl (ev_bin (ev_name rfl rfl) (ev_bin (ev_name rfl rfl) (ev_name rfl rfl) (mul_i (by decide) hx.1)) rfl) (evs_more rfl (ev_bin (ev_name rfl rfl) (ev_bin (ev_name rfl rfl) (ev_name rfl rfl) (mul_i (by decide) hx.2.2.1)) rfl) evs_nil)) (le_lim rfl)) rfl rfl rfl) ex_nil)) ex_nil)⟩
       · exact ⟨[("letter",.val (.str (sOf [65]))),("way",.val (.int (-1)))],.inr ⟨_,_,rfl⟩,ex_cons (st_assign rfl (ev_if (c:=false) (tr_cmp (ev_name rfl rfl) (ev_str rfl) incab) (ev_neg ev_int))) (ex_cons (st_if (c:=true) (tr_cmp (ev_name rfl rfl) (ev_str rfl) incA) (ex_cons (st_swap (names:=["q","s"]) rfl (ev_tup (evs_more rfl (ev_bin (ev_name rfl rfl) (ev_bin (ev_name rfl rfl) (ev_name rfl rfl) (mul_i (by decide) hx.1)) rfl) (evs_more rfl (ev_bin (ev_name rfl rfl) (ev_bin (ev_name rfl rfl) (ev_name rfl rfl) (mul_i (by decide) hx.2.2.1)) rfl) evs_nil)) (le_lim rfl)) rfl rfl rfl) ex_nil)) ex_nil)⟩
     · rcases ht with rfl | ⟨a,b,rfl⟩
       · exact ⟨[("letter",.val (.str (sOf [98]))),("way",.val (.int 1))],.inr ⟨_,_,rfl⟩,ex_cons (st_assign rfl (ev_if (c:=true) (tr_cmp (ev_name rfl rfl) (ev_str rfl) incab) ev_int)) (ex_cons (st_if (c:=false) (tr_cmp (ev_name rfl rfl) (ev_str rfl) incA) (ex_cons (st_swap (names:=["p","r"]) rfl (ev_tup (evs_more rfl (ev_bin (ev_name rfl rfl) (ev_bin (ev_name rfl rfl) (ev_name rfl rfl) (mul_i (by decide) hx.2.1)) rfl) (evs_more rfl (ev_bin (ev_name rfl rfl) (ev_bin (ev_name rfl rfl) (ev_name rfl rfl) (mul_i (by decide) hx.2.2.2)) rfl) evs_nil)) (le_lim rfl)) rfl rfl rfl) ex_nil)) ex_nil)⟩
       · exact ⟨[("letter",.val (.str (sOf [98]))),("way",.val (.int 1))],.inr ⟨_,_,rfl⟩,ex_cons (st_assign rfl (ev_if (c:=true) (tr_cmp (ev_name rfl rfl) (ev_str rfl) incab) ev_int)) (ex_cons (st_if (c:=false) (tr_cmp (ev_name rfl rfl) (ev_str rfl) incA) (ex_cons (st_swap (names:=["p","r"]) rfl (ev_tup (evs_more rfl (ev_bin (ev_name rfl rfl) (ev_bin (ev_name rfl rfl) (ev_name rfl rfl) (mul_i (by decide) hx.2.1)) rfl) (evs_more rfl (ev_bin (ev_name rfl rfl) (ev_bin (ev_name rfl rfl) (ev_name rfl rfl) (mul_i (by decide) hx.2.2.2)) rfl) evs_nil)) (le_lim rfl)) rfl rfl rfl) ex_nil)) ex_nil)⟩
     · rcases ht with rfl | ⟨a,b,rfl⟩
       · exact ⟨[("letter",.val (.str (sOf [66]))),("way",.val (.int (-1)))],.inr ⟨_,_,rfl⟩,ex_cons (st_assign rfl (ev_if (c:=false) (tr_cmp (ev_name rfl rfl) (ev_str rfl) incab) (ev_neg ev_int))) (ex_cons (st_if (c:=false) (tr_cmp (ev_name rfl rfl) (ev_str rfl) incA) (ex_cons (st_swap (names:=["p","r"]) rfl (ev_tup (evs_more rfl (ev_bin (ev_name rfl rfl) (ev_bin (ev_name rfl rfl) (ev_name rfl rfl) (mul_i (by decide) hx.2.1)) rfl) (evs_more rfl (ev_bin (ev_name rfl rfl) (ev_bin (ev_name rfl rfl) (ev_name rfl rfl) (mul_i (by decide) hx.2.2.2)) rfl) evs_nil)) (le_lim rfl)) rfl rfl rfl) ex_nil)) ex_nil)⟩
       · exact ⟨[("letter",.val (.str (sOf [66]))),("way",.val (.int (-1)))],.inr ⟨_,_,rfl⟩,ex_cons (st_assign rfl (ev_if (c:=false) (tr_cmp (ev_name rfl rfl) (ev_str rfl) incab) (ev_neg ev_int))) (ex_cons (st_if (c:=false) (tr_cmp (ev_name rfl rfl) (ev_str rfl) incA) (ex_cons (st_swap (names:=["p","r"]) rfl (ev_tup (evs_more rfl (ev_bin (ev_name rfl rfl) (ev_bin (ev_name rfl rfl) (ev_name rfl rfl) (mul_i (by decide) hx.2.1)) rfl) (evs_more rfl (ev_bin (ev_name rfl rfl) (ev_bin (ev_name rfl rfl) (ev_name rfl rfl) (mul_i (by decide) hx.2.2.2)) rfl) evs_nil)) (le_lim rfl)) rfl rfl rfl) ex_nil)) ex_nil)⟩
   · refine ev_list (ds:=(fnums m).map .int) (evs_more rfl (ev_name rfl rfl) (evs_more rfl (ev_name rfl rfl) (evs_more rfl (ev_name rfl rfl) (evs_more rfl (ev_name rfl rfl) (evs_more rfl (ev_bi rfl rfl rfl rfl (evs_more rfl (ev_comp (ys:=(m.map fway).map .int) (g2:=g) rfl (src_of (fun f q as p h=>by injection h) (ev_name rfl rfl) rfl) ?_ (by rw [List.length_map,List.length_map];unfold lim;lia)) evs_nil) (call_sum.trans (by rw [fcnt_sum]))) evs_nil))))) (le_lim rfl)
     rw [signs_sOf,List.map_map]
     refine compK_map fun c hc=>⟨_,rfl,rfl,?_⟩
     have incab:=cmp_ab (hm c hc)
     rcases isAB_iff.mp (hm c hc) with rfl | rfl | rfl | rfl
     · exact ev_if (c:=true) (tr_cmp (ev_name rfl rfl) (ev_str rfl) incab) ev_int
     · exact ev_if (c:=false) (tr_cmp (ev_name rfl rfl) (ev_str rfl) incab) (ev_neg ev_int)
     · exact ev_if (c:=true) (tr_cmp (ev_name rfl rfl) (ev_str rfl) incab) ev_int
     · exact ev_if (c:=false) (tr_cmp (ev_name rfl rfl) (ev_str rfl) incab) (ev_neg ev_int)
 exact sum_eq ["braid"] (l:=[("braid",.str (sOf m))]) rfl rfl (by decide +kernel) key
end Mine
end
section
set_option tactic.hygienic false
open PySem PySem.W PySem.Calls PyProof.Rows
set_option maxRecDepth 100000
namespace Mine
open Builtin Builtin.Str StrLaws
section
variable {T:Tbl} {n:Nat} {kd:Kd} {ro:Ro} {g g1 g2:Sg}
theorem ev_spl {q p xp lp:Pos} {src body:Expr} {x:Str} {sc:Scope} {ds:List D} {pr:List D × List D} (hkd:kd "_split_list" = some .globalImplicit) (hs:scopeOk sc kd x = true) (h:pspl T n kd ro src g = some (ds,g1))
   (hp:partD (fun d g=>bindK (pev T n (fun y=>sc.names.lookup y) ((x,d)::freeIn sc ro) body g) fun r g=>(truthD r).map (·,g)) ds g1 = some (pr,g2)) :
   pev T (n + 1) kd ro (.Call (.Name "_split_list" q) [src,.Lambda ⟨[],[⟨x,none,xp⟩],none,[],[],none,[]⟩ body sc lp] [] p) g = some (.tup [.lst pr.1,.lst pr.2],g2):=by
 show (if (kd ("_split_list":Str) != some .globalImplicit||("_split_list":Str)==("__debug__":Str)) = true then none else splC T n kd ro g [src,.Lambda ⟨[],[⟨x,none,xp⟩],none,[],[],none,[]⟩ body sc lp]) = _
 refine (ifn_eq (by rw [hkd];rfl)).trans ?_
 show (if (!scopeOk sc kd x) = true then none else bindK (pspl T n kd ro src g) fun ds g =>
     bindK (partD (fun d g=>bindK (pev T n (fun y=>sc.names.lookup y) ((x,d)::freeIn sc ro) body g) fun r g=>(truthD r).map (·,g)) ds g) fun p g =>
       some (D.tup [.lst p.1,.lst p.2],g)) = _
 exact (ifn_eq (by rw [hs];rfl)).trans ((bindK_eq h).trans (bindK_eq hp))
theorem spl_zip {q p:Pos} {a b:Expr} {l m:List D} (hkd:kd "zip" = some .globalImplicit) (h1:pev T n kd ro a g = some (.lst l,g1)) (h2:pev T n kd ro b g1 = some (.lst m,g2)):pspl T (n + 1) kd ro (.Call (.Name "zip" q) [a,b] [] p) g = some (pairsD l m,g2):=by
 show (if (("zip":Str)==("zip":Str)) = true then (if (kd ("zip":Str) != some .globalImplicit) = true then none else bindK (pev T n kd ro a g) fun x g=>bindK (pev T n kd ro b g) fun y g=>zipY x y g) else none) = _
 refine (if_pos rfl).trans ((ifn_eq (by rw [hkd];rfl)).trans ?_)
 exact (bindK_eq h1).trans (bindK_eq h2)
end
theorem partD_filter {tr:D→Sg→Option (Bool × Sg)} {g:Sg} {α:Type} {f:α→D} {q:α→Bool}:∀ {l:List α},(∀ c∈l,tr (f c) g = some (q c,g))→partD tr (l.map f) g = some (((l.filter q).map f,(l.filter fun c=>!q c).map f),g)
 | [],_=>rfl
 | c::r,h=>by
   have ih:=partD_filter (l:=r) fun c hc=>h c (.tail _ hc)
   rw [List.map_cons]
   unfold partD
   simp only [h c (.head _),bindK,ih,List.filter_cons]
   induction q c using Bool.casesOn<;>simp
noncomputable def isaA (c:Nat):Bool:=match Nat.beq c 97 with
 | true=>true
 | false=>Nat.beq c 65
theorem isaA_eq {c:Nat} (h:isAB c = true):in_aA c = isaA c:=by
 rcases isAB_iff.mp h with rfl | rfl | rfl | rfl<;>rfl
noncomputable def fpl:List Nat→Nat→List Nat
 | [],_=>[]
 | c::r,k=>match isaA c with
   | true=>k::fpl r (k + 1)
   | false=>fpl r (k + 1)
noncomputable def fzip:List Nat→List (Nat × Nat)
 | a::b::r=>(a,b)::fzip (b::r)
 | _=>[]
noncomputable def fdiff (w:List Nat) (p:Nat × Nat):Bool:=match Nat.beq (w.getD p.1 0) (w.getD p.2 0) with
 | true=>false
 | false=>true
noncomputable def fturns (w:List Nat):List (Nat × Nat):=(fzip (fpl w 0)).filter (fdiff w)
noncomputable def pD (p:Nat × Nat):D:=.tup [.int (p.1:Nat),.int (p.2:Nat)]
theorem fpl_mem:∀ {w:List Nat} {k i:Nat},i∈fpl w k→∃ c,k≤i∧w[i - k]? = some c∧isaA c = true
 | [],k,i,h=>by cases h
 | c::r,k,i,h=>by
   have tail:i∈fpl r (k + 1)→∃ d,k≤i∧(c::r)[i - k]? = some d∧isaA d = true:=fun h=>by
     refine zea2 (fpl_mem h) fun d h1 h2 h3=>?_
     refine ⟨d,by lia,?_,h3⟩
     rw [show i - k = (i - (k + 1)) + 1 from by lia]
     exact h2
   unfold fpl at h
   split at h
   · rename_i hc
     rcases List.mem_cons.mp h with rfl | h
     · exact ⟨c,Nat.le_refl _,by rw [Nat.sub_self];rfl,hc⟩
     · exact tail h
   · exact tail h
theorem fzip_mem:∀ {l:List Nat} {p:Nat × Nat},p∈fzip l→p.1∈l∧p.2∈l
 | [],_,h=>by cases h
 | [a],_,h=>by cases h
 | a::b::r,p,h=>by
   rcases List.mem_cons.mp h with rfl | h
   · exact ⟨.head _,.tail _ (.head _)⟩
   · refine za (fzip_mem h) fun h1 h2=>?_
     exact ⟨.tail _ h1,.tail _ h2⟩
theorem fzip_pairs:∀ l:List Nat,pairsD (l.map fun k=>.int (k:Nat)) ((l.map fun k=>D.int (k:Nat)).drop 1) = (fzip l).map pD
 | []=>rfl
 | [a]=>rfl
 | a::b::r=>by
   have:=fzip_pairs (b::r)
   show D.tup [.int a,.int b]::pairsD ((b::r).map fun k=>.int (k:Nat)) (((b::r).map fun k=>D.int (k:Nat)).drop 1) = _
   rw [this]
   rfl
theorem fzip_range:∀ l:List Nat,fzip l = (List.range (l.length - 1)).map fun k=>(l.getD k 0,l.getD (k + 1) 0)
 | []=>rfl
 | [a]=>rfl
 | a::b::r=>by
   have ih:=fzip_range (b::r)
   show (a,b)::fzip (b::r) = _
   rw [ih,show (a::b::r).length - 1 = ((b::r).length - 1) + 1 from by simp,List.range_succ_eq_map,List.map_cons,List.map_map]
   rfl
theorem compK_places {tr el:Ro→Sg→Option (D × Sg)} {t:Expr} {base:Ro} {g:Sg} {w:List Nat} (h:∀ k c,w[k]? = some c→∃ b,tgt t (.int (k:Nat)) = some b∧tr (b++base) g = some (.bool (isaA c),g)∧el (b++base) g = some (.int (k:Nat),g)) :
   ∀ m k,k + m = w.length→compK tr el t base ((List.range' k m).map fun (i:Nat)=>.int (i:Nat)) g = some ((fpl (w.drop k) k).map fun (i:Nat)=>.int (i:Nat),g)
 | 0,k,hk=>by
   rw [List.drop_of_length_le (by lia)]
   rfl
 | m + 1,k,hk=>by
   have hlt:k < w.length:=by lia
   refine zea2 (h k w[k] (List.getElem?_eq_getElem hlt)) fun b h1 h2 h3=>?_
   have ih:=compK_places h m (k + 1) (by lia)
   rw [List.range'_succ,List.map_cons,List.drop_eq_getElem_cons hlt]
   unfold fpl
   induction hq:isaA w[k] using Bool.casesOn with
   | true=>rw [hq] at h2;exact compK_yes h1 h2 h3 ih
   | false=>rw [hq] at h2;exact (compK_no h1 h2).trans ih
theorem eqD_int {a b:Int}:eqD (.int a) (.int b) = some (a==b):=rfl
theorem eqD_pair {p q:Nat × Nat}:eqD (pD p) (pD q) = some (p==q):=by
 show (match some ((p.1:Int)==(q.1:Int)),(match some ((p.2:Int)==(q.2:Int)),eqL [] [] with | some x,some y=>some (x&&y) | _,_=>none) with | some x,some y=>some (x&&y) | _,_=>none) = _
 show some (((p.1:Int)==(q.1:Int))&&(((p.2:Int)==(q.2:Int))&&true)) = _
 congr 1
 rw [Bool.and_true,Bool.eq_iff_iff,Bool.and_eq_true,beq_iff_eq,beq_iff_eq,beq_iff_eq,Prod.ext_iff]
 lia
theorem eqL_pairs:∀ l:List (Nat × Nat),eqL (l.map pD) (l.map pD) = some true
 | []=>by rfl
 | p::r=>(eqL_step (eqD_pair (p:=p) (q:=p)) (eqL_pairs r)).trans (by simp)
theorem anyD_pairs {p:Nat × Nat}:∀ l:List (Nat × Nat),anyD (pD p) (l.map pD) = some (l.any fun q=>q==p)
 | []=>rfl
 | q::r=>anyD_step eqD_pair (anyD_pairs r)
theorem dep_pairs:∀ l:List (Nat × Nat),depL (l.map pD)≤1
 | []=>by show depL []≤1;decide
 | p::r=>by
   show max (dep (pD p)) (depL (r.map pD))≤1
   have:=dep_pairs r
   have h:dep (pD p) = 1:=rfl
   lia
theorem notin_pairs {p:Nat × Nat} {l:List (Nat × Nat)}:cmpD .NotIn (pD p) (.lst (l.map pD)) = some (!(l.any fun q=>q==p)):=by
 have h1:dep (pD p) = 1:=rfl
 have h2:=dep_pairs l
 have h3:dep (.lst (l.map pD))≤2:=by show depL _ + 1≤2;lia
 unfold cmpD
 rw [if_neg (by lia)]
 show (anyD (pD p) (l.map pD)).map (!·) = _
 rw [anyD_pairs];rfl
theorem eq_tell {l m:List (Nat × Nat)}:cmpD .Eq (.tup [.lst (l.map pD),.lst (m.map pD)]) (.tup [.lst (l.map pD),.lst (m.map pD)]) = some true:=by
 have h2:=dep_pairs l
 have h3:=dep_pairs m
 have h4:dep (.tup [.lst (l.map pD),.lst (m.map pD)])≤20:=by
   rw [show dep (.tup [.lst (l.map pD),.lst (m.map pD)]) = max (depL (l.map pD) + 1) (max (depL (m.map pD) + 1) 0) + 1 from rfl]
   lia
 unfold cmpD
 rw [if_neg (by lia)]
 exact eqL_step (show eqD (.lst _) (.lst _) = some true from eqL_pairs l) (eqL_step (show eqD (.lst _) (.lst _) = some true from eqL_pairs m) rfl)
end Mine
end
section
set_option tactic.hygienic false
open PySem PySem.W PySem.Calls PyProof.Rows
set_option maxRecDepth 100000
namespace Mine
open Builtin Builtin.Str StrLaws
noncomputable def S_turns:Summ:=sumOf T1 [] 56 (scOf "_law_turns") (bodyOf "_law_turns") (plainBnd ["word"])
theorem isaA_cases {c:Nat} (h:isaA c = true):c = 97∨c = 65:=by
 unfold isaA at h
 split at h
 · rename_i h1;exact .inl (Nat.eq_of_beq_eq_true h1)
 · exact .inr (Nat.eq_of_beq_eq_true h)
theorem pair_facts {w:List Nat} {p:Nat × Nat} (h:p∈fzip (fpl w 0)):∃ c d,w[p.1]? = some c∧w[p.2]? = some d∧(c = 97∨c = 65)∧(d = 97∨d = 65)∧fdiff w p = !(c==d):=by
 refine za (fzip_mem h) fun h1 h2=>?_
 refine zea2 (fpl_mem h1) fun c J hc hc1=>?_
 refine zea2 (fpl_mem h2) fun d J hd hd1=>?_
 rw [Nat.sub_zero] at hc hd
 refine ⟨c,d,hc,hd,isaA_cases hc1,isaA_cases hd1,?_⟩
 unfold fdiff
 rw [List.getD_eq_getElem?_getD,List.getD_eq_getElem?_getD,hc,hd]
 show (match Nat.beq c d with | true=>false | false=>true) = _
 rw [show (c==d) = Nat.beq c d from by rw [Bool.eq_iff_iff,beq_iff_eq,Nat.beq_eq]]
 induction Nat.beq c d using Bool.casesOn<;>rfl
theorem two_in {c d:Nat} (hc:c = 97∨c = 65) (hd:d = 97∨d = 65):cmpD .In (.str (sOf ([c]++[d]))) (.tup [.str "aA",.str "Aa"]) = some (!(c==d)):=by
 rcases hc with rfl | rfl<;>rcases hd with rfl | rfl<;>rfl
theorem tr_in {T:Tbl} {n:Nat} {kd:Kd} {ro:Ro} {c:Expr} {g:Sg} {b:Bool} (h:pt T n kd ro c g = some (b,g)):trD (fun ro c g=>pt T n kd ro c g) [c] ro g = some (.bool b,g):=by
 unfold trD
 simp only [h,bindK]
theorem turns_eq {w:List Nat} {g:Sg} (hw:∀ c∈w,isAB c = true) (hl:w.length≤1000):S_turns [.str (sOf w)] g = some (.tup [.lst ((fturns w).map pD),.bool true],g):=by
 have hpl:(fpl w 0).length≤w.length:=by
   have:∀ (w:List Nat) k,(fpl w k).length≤w.length:=by
     intro w
     induction w with
     | nil=>intro k;exact Nat.le_refl _
     | cons c r ih =>
       intro k
       unfold fpl
       split
       · rw [List.length_cons,List.length_cons];have:=ih (k + 1);lia
       · rw [List.length_cons];have:=ih (k + 1);lia
   exact this w 0
 have hzl:(fzip (fpl w 0)).length≤1000:=by
   rw [fzip_range,List.length_map,List.length_range];lia
 have key:pexecs T1 [] 56 (kdOf "_law_turns") (bodyOf "_law_turns") (valsOf [("word",.str (sOf w))]) g = some (.ret (.tup [.lst ((fturns w).map pD),.bool true]) g):=by
   conv=>lhs;arg 5;whnf
   refine ex_cons (st_assign rfl (ev_comp (ys:=(fpl w 0).map fun (i:Nat)=>.int (i:Nat)) (g2:=g) rfl (src_rng rfl (evs_more rfl (ev_bi rfl rfl rfl rfl (evs_more rfl (ev_name rfl rfl) evs_nil) call_len_s) evs_nil) (rng0 (by lia))) ?_ (by rw [List.length_map];unfold lim;lia))) ?_
   · refine compK_places (w:=w) ?_ w.length 0 (by lia)
     intro k c hk
     exact ⟨_,rfl,tr_in (tr_cmp (ev_item (fun l u st p h=>by injection h) (ev_name rfl rfl) (ev_name rfl rfl) (fun k h=>by injection h) (item_s hk)) (ev_str rfl) ((cmp_aA (hw c (List.mem_of_getElem? hk))).trans (by rw [isaA_eq (hw c (List.mem_of_getElem? hk))]))),ev_name rfl rfl⟩
   · refine ex_cons (st_assign rfl (ev_spl (g2:=g) (pr:=(((fzip (fpl w 0)).filter (fdiff w)).map pD,((fzip (fpl w 0)).filter fun p=>!fdiff w p).map pD)) rfl rfl (spl_zip rfl (ev_name rfl rfl) (ev_slice (ev_name rfl rfl) (opt_some ev_int rfl) opt_none opt_none (slice_l (r:=((fpl w 0).map fun k=>D.int (k:Nat)).drop 1) ?_))) ?_)) ?_
     · rw [List.length_map,show clipN none (fpl w 0).length (fpl w 0).length = (fpl w 0).length from rfl]
       have e1:clipN (some 1) 0 (fpl w 0).length = min 1 (fpl w 0).length:=clipN_min (i:=1)
       rw [e1]
       induction hq:(fpl w 0) using List.casesOn with
       | nil=>rfl
       | cons a r =>
         rw [show min 1 (a::r).length = 1 from by rw [List.length_cons];lia]
         exact List.take_of_length_le (by simp)
     · rw [fzip_pairs]
       refine partD_filter fun p hp=>?_
       refine ze2a4 (pair_facts hp) fun c d h1 h2 h3 h4 h5=>?_
       rw [h5]
       refine (congrArg (fun x=>bindK x fun r g=>(truthD r).map (·,g)) (ev_cmp (c:=!(c==d)) (g2:=g) (ev_item (fun l u st p h=>by injection h) (ev_name rfl rfl) (ev_item (fun l u st p h=>by injection h) (ev_name rfl rfl) ev_int (fun k h=>by injection h) item0) (fun k h=>by injection h) (item_s h1)) (ev_item (fun l u st p h=>by injection h) (ev_name rfl rfl) (ev_item (fun l u st p h=>by injection h) (ev_name rfl rfl) ev_int (fun k h=>by injection h) item1) (fun k h=>by injection h) (item_s h2)) (by rw [cmp_ne_s,sOf_beq];simp))).trans rfl
     · refine ex_cons (st_assign rfl (ev_comp (ys:=(fzip (fpl w 0)).map pD) (g2:=g) rfl (src_rng rfl (evs_more rfl ev_int (evs_more rfl (ev_bi rfl rfl rfl rfl (evs_more rfl (ev_name rfl rfl) evs_nil) call_len_l) evs_nil)) (rng1 (a:=1) (by rw [List.length_map];lia) (by lia))) ?_ (by rw [List.length_map];unfold lim;lia))) ?_
       · rw [fzip_range,List.map_map,List.length_map]
         refine compK_map fun k hk=>?_
         have hk':=List.mem_range.mp hk
         have g1:((fpl w 0).map fun (i:Nat)=>D.int (i:Nat))[k]? = some (.int ((fpl w 0).getD k 0:Nat)):=by
           rw [List.getElem?_map,List.getD_eq_getElem?_getD,List.getElem?_eq_getElem (by lia)];rfl
         have g2:((fpl w 0).map fun (i:Nat)=>D.int (i:Nat))[1 + k]? = some (.int ((fpl w 0).getD (k + 1) 0:Nat)):=by
           rw [List.getElem?_map,Nat.add_comm 1 k,List.getD_eq_getElem?_getD,List.getElem?_eq_getElem (by lia)];rfl
         exact ⟨_,rfl,rfl,ev_tup (evs_more rfl (ev_item (fun l u st p h=>by injection h) (ev_name rfl rfl) (ev_bin (ev_name rfl rfl) ev_int (d:=.int (k:Nat)) (by show some (D.int (((1 + k:Nat):Int) - 1)) = _;congr 2;lia)) (fun k h=>by injection h) (item_l g1)) (evs_more rfl (ev_item (fun l u st p h=>by injection h) (ev_name rfl rfl) (ev_name rfl rfl) (fun k h=>by injection h) (item_l g2)) evs_nil)) (le_lim rfl)⟩
       · refine ex_cons (st_assign rfl (ev_comp (ys:=((fzip (fpl w 0)).filter (fdiff w)).map pD) (g2:=g) rfl (src_of (fun f q as p h=>by injection h) (ev_name rfl rfl) rfl) ?_ (by rw [List.length_map];have:=List.length_filter_le (fdiff w) (fzip (fpl w 0));unfold lim;lia))) ?_
         · refine compK_filter fun p hp=>?_
           refine ze2a4 (pair_facts hp) fun c d h1 h2 h3 h4 h5=>?_
           rw [h5]
           exact ⟨_,rfl,tr_in (tr_cmp (ev_bin (ev_item (fun l u st p h=>by injection h) (ev_name rfl rfl) (ev_item (fun l u st p h=>by injection h) (ev_name rfl rfl) ev_int (fun k h=>by injection h) item0) (fun k h=>by injection h) (item_s h1)) (ev_item (fun l u st p h=>by injection h) (ev_name rfl rfl) (ev_item (fun l u st p h=>by injection h) (ev_name rfl rfl) ev_int (fun k h=>by injection h) item1) (fun k h=>by injection h) (item_s h2)) (add_s (le_lim rfl))) (ev_tup (evs_more rfl (ev_str rfl) (evs_more rfl (ev_str rfl) evs_nil)) (le_lim rfl)) (two_in h3 h4)),fun J=>ev_name rfl rfl⟩
         · have hrest:((fzip (fpl w 0)).filter fun p=>!(((fzip (fpl w 0)).filter (fdiff w)).any fun q=>q==p)) = (fzip (fpl w 0)).filter fun p=>!fdiff w p:=by
             refine List.filter_congr fun p hp=>?_
             congr 1
             rw [Bool.eq_iff_iff,List.any_eq_true]
             constructor
             · rintro ⟨q,hq,e⟩
               rw [← beq_iff_eq.mp e]
               exact (List.mem_filter.mp hq).2
             · exact fun h=>⟨p,List.mem_filter.mpr ⟨hp,h⟩,beq_self_eq_true p⟩
           refine ex_ret (st_return (ev_tup (evs_more rfl (ev_item (fun l u st p h=>by injection h) (ev_name rfl rfl) ev_int (fun k h=>by injection h) item0) (evs_more rfl (ev_cmp (c:=true) (ev_name rfl rfl) (ev_tup (evs_more rfl (ev_name rfl rfl) (evs_more rfl (ev_comp (ys:=((fzip (fpl w 0)).filter fun p=>!fdiff w p).map pD) (g2:=g) rfl (src_of (fun f q as p h=>by injection h) (ev_name rfl rfl) rfl) ?_ (by rw [List.length_map];have:=List.length_filter_le (fun p=>!fdiff w p) (fzip (fpl w 0));unfold lim;lia)) evs_nil)) (le_lim rfl)) eq_tell) evs_nil)) (le_lim rfl)))
           rw [← hrest]
           exact compK_filter fun p hp=>⟨_,rfl,tr_in (tr_cmp (ev_name rfl rfl) (ev_name rfl rfl) notin_pairs),fun J=>ev_name rfl rfl⟩
 exact sum_eq ["word"] (l:=[("word",.str (sOf w))]) rfl rfl (by decide +kernel) key
end Mine
end
section
set_option tactic.hygienic false
open PySem PySem.W PySem.Calls PyProof.Rows
set_option maxRecDepth 100000
namespace Mine
open Builtin Builtin.Str StrLaws
noncomputable def F2 (f:Str):Option Summ:=if f==("_law_put":Str) then some S_put else if f==("_law_table":Str) then some S_table else if f==("_law_turns":Str) then some S_turns else if f==("_law_numbers":Str) then some S_numbers else F1 f
noncomputable def T2:Tbl:=hT F2
theorem call_onto2 {ys:List D} {g:Sg}:pcall T2 "_law_onto" ys g = S_onto ys g:=rfl
theorem call_replace2 {ys:List D} {g:Sg}:pcall T2 "replace" ys g = S_replace ys g:=rfl
theorem call_turns2 {ys:List D} {g:Sg}:pcall T2 "_law_turns" ys g = S_turns ys g:=rfl
noncomputable def feq:List Nat→List Nat→Bool
 | [],[]=>true
 | a::r,b::s=>match Nat.beq a b with
   | true=>feq r s
   | false=>false
 | _,_=>false
theorem feq_iff:∀ {a b:List Nat},feq a b = true↔a = b
 | [],[]=>⟨fun _=>rfl,fun _=>rfl⟩
 | [],_::_=>⟨fun h=>Bool.noConfusion (show false = true from h),fun h=>nomatch h⟩
 | _::_,[]=>⟨fun h=>Bool.noConfusion (show false = true from h),fun h=>nomatch h⟩
 | a::r,b::s=>by
   show (match Nat.beq a b with | true=>feq r s | false=>false) = true↔_
   have ih:=feq_iff (a:=r) (b:=s)
   rw [List.cons.injEq]
   induction h:Nat.beq a b using Bool.casesOn
   rotate_left
   · show feq r s = true↔_
     rw [ih,Nat.eq_of_beq_eq_true h]
     simp
   · have:a≠b:=fun e=>by rw [e,Nat.beq_refl] at h;injection h
     simp [this]
noncomputable def four:List (List Nat × List Nat):=[([97,65],[]),([65,97],[]),([98,66],[]),([66,98],[])]
noncomputable def ffix:Nat→List Nat→Option (List Nat)
 | 0,_=>none
 | k + 1,B=>match feq B (frepAll four B) with
   | true=>some B
   | false=>ffix k (frepAll four B)
noncomputable def fpiece (W:List Nat) (i j:Nat):List Nat:=(W.drop i).take (j + 1 - i)
noncomputable def frun (W:List Nat) (i j:Nat):List Nat:=frepAll [([98],[97]),([66],[65])] ((W.drop (i + 1)).take (j - (i + 1)))
noncomputable def fnew (W:List Nat) (i j:Nat):List Nat:=match Nat.beq (W.getD i 0) 97 with
 | true=>66::(frun W i j++[98])
 | false=>98::(frun W i j++[66])
noncomputable def fleft:Nat→List Nat→Option (List Nat)
 | 0,_=>none
 | k + 1,B=>match ffix 20 B with
   | none=>none
   | some W=>match feq W (fonto B []).reverse with
     | false=>none
     | true=>match fturns W with
       | []=>some W
       | p::_=>fleft k (frep (fpiece W p.1 p.2) (fnew W p.1 p.2) W 0)
theorem frep_mem {o n:List Nat}:∀ {t:List Nat} {k x:Nat},x∈frep o n t k→x∈n∨x∈t
 | [],k,x,h=>by cases k<;>cases h
 | c::r,k + 1,x,h=>by
   rcases frep_mem (t:=r) (k:=k) h with h | h
   · exact .inl h
   · exact .inr (.tail _ h)
 | c::r,0,x,h=>by
   unfold frep at h
   split at h
   · rcases List.mem_append.mp h with h | h
     · exact .inl h
     · rcases frep_mem h with h | h
       · exact .inl h
       · exact .inr (.tail _ h)
   · rcases List.mem_cons.mp h with rfl | h
     · exact .inr (.head _)
     · rcases frep_mem h with h | h
       · exact .inl h
       · exact .inr (.tail _ h)
theorem frepAll_mem:∀ {ps:List (List Nat × List Nat)} {t:List Nat} {x:Nat},x∈frepAll ps t→(∃ p∈ps,x∈p.2)∨x∈t
 | [],t,x,h=>.inr h
 | p::r,t,x,h=>by
   rcases frepAll_mem (ps:=r) h with ⟨q,hq,h⟩ | h
   · exact .inl ⟨q,.tail _ hq,h⟩
   · rcases frep_mem h with h | h
     · exact .inl ⟨p,.head _,h⟩
     · exact .inr h
theorem four_ok:∀ p∈four,pairOk p:=by
 intro p hp
 simp only [four,List.mem_cons,List.not_mem_nil,or_false] at hp
 rcases hp with rfl | rfl | rfl | rfl<;>exact ⟨by decide,by decide,by decide,by decide⟩
theorem four_mem {B:List Nat} {x:Nat} (h:x∈frepAll four B):x∈B:=by
 rcases frepAll_mem h with ⟨p,hp,h⟩ | h
 · simp only [four,List.mem_cons,List.not_mem_nil,or_false] at hp
   rcases hp with rfl | rfl | rfl | rfl<;>cases h
 · exact h
theorem ffix_sub:∀ {k:Nat} {B W:List Nat},ffix k B = some W→(∀ x∈W,x∈B)∧W.length≤B.length
 | 0,_,_,h=>by injection h
 | k + 1,B,W,h=>by
   unfold ffix at h
   split at h
   · (injection h with h;subst h);exact ⟨fun x h=>h,Nat.le_refl _⟩
   · refine za (ffix_sub h) fun h1 h2=>?_
     exact ⟨fun x hx=>four_mem (h1 x hx),Nat.le_trans h2 (frepAll_len four_ok)⟩
theorem fturns_mem {w:List Nat} {p:Nat × Nat} (h:p∈fturns w):∃ c d,w[p.1]? = some c∧w[p.2]? = some d∧(c = 97∨c = 65):=by
 refine ze2a3 (pair_facts (List.mem_filter.mp h).1) fun c d h1 h2 h3 J=>?_
 exact ⟨c,d,h1,h2,h3⟩
theorem fzip_lt:∀ {w:List Nat} {k:Nat} {p:Nat × Nat},p∈fzip (fpl w k)→p.1 < p.2:=by
 have key:∀ (w:List Nat) (k a:Nat) (p:Nat × Nat),a < k→p∈fzip (a::fpl w k)→p.1 < p.2:=by
   intro w
   induction w with
   | nil=>intro k a p _ h;cases h
   | cons c r ih =>
     intro k a p ha h
     unfold fpl at h
     split at h
     · rcases List.mem_cons.mp h with rfl | h
       · exact ha
       · exact ih (k + 1) k p (by lia) h
     · exact ih (k + 1) a p (by lia) h
 intro w
 induction w with
 | nil=>intro k p h;cases h
 | cons c r ih =>
   intro k p h
   unfold fpl at h
   split at h
   · exact key r (k + 1) k p (by lia) h
   · exact ih h
end Mine
end
section
set_option tactic.hygienic false
open PySem PySem.W PySem.Calls PyProof.Rows
set_option maxRecDepth 100000
namespace Mine
open Builtin Builtin.Str StrLaws
noncomputable def S_left:Summ:=sumOf T2 [] 56 (scOf "_law_left") (bodyOf "_law_left") (plainBnd ["braid"])
noncomputable def leftBody:List Stmt:=match bodyOf "_law_left" with
 | .While _ b _ _::_=>b
 | _=>[]
noncomputable abbrev foI (B:List Nat) (wd due:D) (tl:Fo):Fo:=("braid",.val (.str (sOf B)))::("word",.val wd)::("due",.val due)::tl
theorem any_t {tr:Expr→Sg→Option (Bool × Sg)} {g g1:Sg} {e:Expr} {r:List Expr} (h:tr e g = some (true,g1)):anyK tr (e::r) g = some (true,g1):=by
 unfold anyK;simp only [h,bindK,if_true]
theorem any_f {tr:Expr→Sg→Option (Bool × Sg)} {g g1:Sg} {e:Expr} {r:List Expr} {R:Option (Bool × Sg)} (h:tr e g = some (false,g1)) (hr:anyK tr r g1 = R):anyK tr (e::r) g = R:=by
 unfold anyK;simp only [h,bindK,Bool.false_eq_true,if_false];exact hr
theorem any_nil {tr:Expr→Sg→Option (Bool × Sg)} {g:Sg}:anyK tr [] g = some (false,g):=rfl
theorem feq_beq {a b:List Nat}:(a==b) = feq a b:=by
 rw [Bool.eq_iff_iff,beq_iff_eq,feq_iff]
theorem fix_loop {test:Fo→Sg→Option (Bool × Sg)} {body:Fo→Sg→Option Fl} {g:Sg} {due:D} {tl:Fo}
   (h1:∀ X B:List Nat,test (foI B (.str (sOf X)) due tl) g = some (!feq X B,g))
   (hb:∀ X B:List Nat,B.length≤1000→body (foI B (.str (sOf X)) due tl) g = some (.next (foI (frepAll four B) (.str (sOf B)) due tl) g)) :
   ∀ (k K:Nat) (X W:List Nat),ffix k X = some W→k≤K→X.length≤1000→whileK test body K (foI (frepAll four X) (.str (sOf X)) due tl) g = some (.next (foI W (.str (sOf W)) due tl) g)
 | 0,_,_,_,h,_,_=>by injection h
 | k + 1,0,_,_,_,h,_=>absurd h (by lia)
 | k + 1,K + 1,X,W,h,hK,hX=>by
   unfold ffix at h
   unfold whileK
   rw [h1]
   split at h
   · rename_i he
     rw [he]
     have e:=feq_iff.mp he
     simp only [Option.some.injEq] at h
     subst h
     show some (Fl.next (foI (frepAll four X) (.str (sOf X)) due tl) g) = _
     rw [← e]
   · rename_i he
     rw [he]
     have hl:(frepAll four X).length≤1000:=Nat.le_trans (frepAll_len four_ok) hX
     simp only [Bool.not_false,hb X (frepAll four X) hl]
     exact fix_loop h1 hb k K (frepAll four X) W h (by lia) hl
theorem while_t {test:Fo→Sg→Option (Bool × Sg)} {body:Fo→Sg→Option Fl} {K:Nat} {fo fo1:Fo} {g g1 g2:Sg} {R:Option Fl} (h:test fo g = some (true,g1)) (hb:body fo g1 = some (.next fo1 g2)) (hr:whileK test body K fo1 g2 = R):whileK test body (K + 1) fo g = R:=by
 unfold whileK;simp only [h,hb];exact hr
theorem while_ret {test:Fo→Sg→Option (Bool × Sg)} {body:Fo→Sg→Option Fl} {K:Nat} {fo:Fo} {g g1 g2:Sg} {d:D} (h:test fo g = some (true,g1)) (hb:body fo g1 = some (.ret d g2)):whileK test body (K + 1) fo g = some (.ret d g2):=by
 unfold whileK;simp only [h,hb]
theorem slice_ij {t:List Nat} {i j:Nat} (ht:t.length≤lim) (hi:i≤t.length) (hj:j≤t.length):sliceD (.str (sOf t)) (some (i:Int)) (some (j:Int)) none = some (.str (sOf ((t.drop i).take (j - i)))):=by
 refine slice_s ht ?_
 have e1:clipN (some (i:Int)) 0 t.length = i:=clipN_nat hi
 have e2:clipN (some (j:Int)) t.length t.length = j:=clipN_nat hj
 rw [e1,e2]
theorem onto_red {B:List Nat} {g:Sg} (hB:∀ c∈B,isAB c = true) (hl:B.length≤1000):S_onto [.str "",.str (sOf B)] g = some (.str (sOf (fonto B []).reverse),g) :=
 onto_eq (st:=[]) (m:=B) (fun c hc=>by rcases isAB_iff.mp (hB c hc) with rfl | rfl | rfl | rfl<;>rfl) (by simp;unfold lim;lia)
theorem turns_empty {l:List (Nat × Nat)}:cmpD .Eq (.lst (l.map pD)) (.lst []) = some l.isEmpty:=by
 have h2:=dep_pairs l
 have h3:dep (.lst (l.map pD))≤2:=by show depL _ + 1≤2;lia
 unfold cmpD
 rw [if_neg (by rw [show dep (.lst []) = 1 from rfl];lia)]
 show eqD _ _ = _
 induction l using List.casesOn with
 | nil=>rfl
 | cons p r=>rfl
noncomputable def fullL (wd du tu to fi la ru ah be:D):Fo:=[("word",.val wd),("due",.val du),("turns",.val tu),("told",.val to),("first",.val fi),("last",.val la),("run",.val ru),("ahead",.val ah),("behind",.val be)]
noncomputable def TailL (tl:Fo):Prop:=tl = []∨∃ wd du tu to fi la ru ah be,tl = fullL wd du tu to fi la ru ah be
noncomputable abbrev foL (B:List Nat) (tl:Fo):Fo:=("braid",.val (.str (sOf B)))::tl
noncomputable def fixStmt:Stmt:=match leftBody with
 | _::s::_=>s
 | _=>.Pass ⟨0,0,0,0⟩
theorem fix_stmt {B W:List Nat} {due:D} {tl:Fo} {g:Sg} {n:Nat} (hW:ffix 20 B = some W) (hl:B.length≤1000):pexec T2 [] (n + 40) (kdOf "_law_left") fixStmt (foI B .none due tl) g = some (.next (foI W (.str (sOf W)) due tl) g):=by
 conv=>lhs;arg 5;whnf
 refine st_while ?_
 have hb:∀ (X:D) (B:List Nat),B.length≤1000→S_replace (.str (sOf B)::flatP four) g = some (.str (sOf (frepAll four B)),g):=fun X B hB=>replace_eq four_ok hB (by decide)
 refine while_t (tr_cmp (c:=true) (ev_name rfl rfl) (ev_name rfl rfl) rfl) (ex_cons (st_swap (names:=["word","braid"]) (fo1:=foI (frepAll four B) (.str (sOf B)) due tl) rfl (ev_tup (evs_more rfl (ev_name rfl rfl) (evs_more rfl (ev_fn rfl rfl rfl rfl (evs_more rfl (ev_name rfl rfl) (evs_more rfl (ev_str rfl) (evs_more rfl (ev_str rfl) (evs_more rfl (ev_str rfl) (evs_more rfl (ev_str rfl) (evs_more rfl (ev_str rfl) (evs_more rfl (ev_str rfl) (evs_more rfl (ev_str rfl) (evs_more rfl (ev_str rfl) evs_nil))))))))) (call_replace2.trans (hb .none B hl))) evs_nil)) (le_lim rfl)) rfl rfl rfl) ex_nil) ?_
 refine fix_loop ?_ ?_ 20 99999 B W hW (by lia) hl
 · intro X B
   exact tr_cmp (ev_name rfl rfl) (ev_name rfl rfl) (by rw [cmp_ne_s,sOf_beq,feq_beq])
 · intro X B hB
   exact ex_cons (st_swap (names:=["word","braid"]) (fo1:=foI (frepAll four B) (.str (sOf B)) due tl) rfl (ev_tup (evs_more rfl (ev_name rfl rfl) (evs_more rfl (ev_fn rfl rfl rfl rfl (evs_more rfl (ev_name rfl rfl) (evs_more rfl (ev_str rfl) (evs_more rfl (ev_str rfl) (evs_more rfl (ev_str rfl) (evs_more rfl (ev_str rfl) (evs_more rfl (ev_str rfl) (evs_more rfl (ev_str rfl) (evs_more rfl (ev_str rfl) (evs_more rfl (ev_str rfl) evs_nil))))))))) (call_replace2.trans (hb .none B hB))) evs_nil)) (le_lim rfl)) rfl rfl rfl) ex_nil
end Mine
end
section
set_option tactic.hygienic false
open PySem PySem.W PySem.Calls PyProof.Rows
set_option maxRecDepth 100000
namespace Mine
open Builtin Builtin.Str StrLaws
theorem left_ret {B W:List Nat} {tl:Fo} {g:Sg} {n:Nat} (htl:TailL tl) (hB:∀ c∈B,isAB c = true) (hl:B.length≤1000) (hW:ffix 20 B = some W) (hr:W = (fonto B []).reverse) (ht:fturns W = []) :
   pexecs T2 [] (n + 44) (kdOf "_law_left") leftBody (foL B tl) g = some (.ret (.tup [.str (sOf W),.bool true]) g):=by
 refine za (ffix_sub hW) fun hs1 hs2=>?_
 have hWB:∀ c∈W,isAB c = true:=fun c hc=>hB c (hs1 c hc)
 have onto:S_onto [.str "",.str (sOf B)] g = some (.str (sOf W),g):=by rw [hr];exact onto_red hB hl
 have turns:=turns_eq (g:=g) hWB (by lia)
 rw [ht] at turns
 have eW:cmpD .Eq (.str (sOf W)) (.str (sOf W)) = some true:=by rw [cmp_eq_s];simp
 have nW:cmpD .NotEq (.str (sOf W)) (.str (sOf W)) = some false:=by rw [cmp_ne_s];simp
 conv=>lhs;arg 5;whnf
 rcases htl with rfl | ⟨wd,du,tu,to,fi,la,ru,ah,be,rfl⟩
 · refine ex_cons (st_swap (names:=["word","due"]) (fo1:=foI B .none (.str (sOf W)) []) rfl (ev_tup (evs_more rfl ev_none (evs_more rfl (ev_fn rfl rfl rfl rfl (evs_more rfl (ev_str rfl) (evs_more rfl (ev_name rfl rfl) evs_nil)) (call_onto2.trans onto)) evs_nil)) (le_lim rfl)) rfl rfl rfl) ?_
   refine ex_cons (fix_stmt hW hl) ?_
   refine ex_cons (st_unpack (fun es k p h=>by injection h) (ev_fn rfl rfl rfl rfl (evs_more rfl (ev_name rfl rfl) evs_nil) (call_turns2.trans turns)) rfl) ?_
   refine ex_ret (st_if (c:=true) (tr_or (any_t (tr_cmp (ev_name rfl rfl) (ev_list evs_nil (le_lim rfl)) (turns_empty (l:=[]))))) ?_)
   exact ex_ret (st_return (ev_tup (evs_more rfl (ev_name rfl rfl) (evs_more rfl (ev_and (c:=true) (x:=.bool true) (ev_cmp (ev_name rfl rfl) (ev_name rfl rfl) eW) rfl ((if_pos rfl).trans (ev_name rfl rfl))) evs_nil)) (le_lim rfl)))
 · refine ex_cons (st_swap (names:=["word","due"]) (fo1:=foI B .none (.str (sOf W)) [("turns",.val tu),("told",.val to),("first",.val fi),("last",.val la),("run",.val ru),("ahead",.val ah),("behind",.val be)]) rfl (ev_tup (evs_more rfl ev_none (evs_more rfl (ev_fn rfl rfl rfl rfl (evs_more rfl (ev_str rfl) (evs_more rfl (ev_name rfl rfl) evs_nil)) (call_onto2.trans onto)) evs_nil)) (le_lim rfl)) rfl rfl rfl) ?_
   refine ex_cons (fix_stmt hW hl) ?_
   refine ex_cons (st_unpack (fun es k p h=>by injection h) (ev_fn rfl rfl rfl rfl (evs_more rfl (ev_name rfl rfl) evs_nil) (call_turns2.trans turns)) rfl) ?_
   refine ex_ret (st_if (c:=true) (tr_or (any_t (tr_cmp (ev_name rfl rfl) (ev_list evs_nil (le_lim rfl)) (turns_empty (l:=[]))))) ?_)
   exact ex_ret (st_return (ev_tup (evs_more rfl (ev_name rfl rfl) (evs_more rfl (ev_and (c:=true) (x:=.bool true) (ev_cmp (ev_name rfl rfl) (ev_name rfl rfl) eW) rfl ((if_pos rfl).trans (ev_name rfl rfl))) evs_nil)) (le_lim rfl)))
theorem left_next {B W:List Nat} {tl:Fo} {g:Sg} {n:Nat} (htl:TailL tl) (hB:∀ c∈B,isAB c = true) (hl:B.length≤1000) (hW:ffix 20 B = some W) (hr:W = (fonto B []).reverse) {p:Nat × Nat} {r:List (Nat × Nat)} (ht:fturns W = p::r) :
   (∀ c∈frep (fpiece W p.1 p.2) (fnew W p.1 p.2) W 0,isAB c = true)∧(frep (fpiece W p.1 p.2) (fnew W p.1 p.2) W 0).length≤B.length∧∃ tl',TailL tl' ∧
   pexecs T2 [] (n + 44) (kdOf "_law_left") leftBody (foL B tl) g = some (.next (foL (frep (fpiece W p.1 p.2) (fnew W p.1 p.2) W 0) tl') g):=by
 refine za (ffix_sub hW) fun hs1 hs2=>?_
 have hWB:∀ c∈W,isAB c = true:=fun c hc=>hB c (hs1 c hc)
 have onto:S_onto [.str "",.str (sOf B)] g = some (.str (sOf W),g):=by rw [hr];exact onto_red hB hl
 have turns:=turns_eq (g:=g) hWB (by lia)
 have hp:p∈fturns W:=by rw [ht];exact .head _
 refine ze2a2 (fturns_mem hp) fun c d hc hd hca=>?_
 have hlt:=fzip_lt (List.mem_filter.mp hp).1
 have hj:p.2 < W.length:=(List.getElem?_eq_some_iff.mp hd).1
 have lpiece:(fpiece W p.1 p.2).length = p.2 + 1 - p.1:=by unfold fpiece;rw [List.length_take,List.length_drop];lia
 have hrunok:∀ q∈([([98],[97]),([66],[65])]:List (List Nat × List Nat)),pairOk q:=by
   intro q hq
   simp only [List.mem_cons,List.not_mem_nil,or_false] at hq
   rcases hq with rfl | rfl<;>exact ⟨by decide,by decide,by decide,by decide⟩
 have lmid:((W.drop (p.1 + 1)).take (p.2 - (p.1 + 1))).length = p.2 - (p.1 + 1):=by rw [List.length_take,List.length_drop];lia
 have lrun:(frun W p.1 p.2).length≤p.2 - (p.1 + 1):=by
   have:=frepAll_len (ps:=[([98],[97]),([66],[65])]) (t:=(W.drop (p.1 + 1)).take (p.2 - (p.1 + 1))) hrunok
   rw [lmid] at this
   exact this
 have hrunab:∀ x∈frun W p.1 p.2,isAB x = true:=by
   intro x hx
   rcases frepAll_mem hx with ⟨q,hq,h⟩ | h
   · simp only [List.mem_cons,List.not_mem_nil,or_false] at hq
     rcases hq with rfl | rfl<;>(rw [List.mem_singleton.mp h];rfl)
   · exact hWB x (List.mem_of_mem_drop (List.mem_of_mem_take h))
 have lnew:(fnew W p.1 p.2).length≤(fpiece W p.1 p.2).length:=by
   unfold fnew
   split<;>(rw [List.length_cons,List.length_append,List.length_singleton,lpiece];lia)
 have hnewab:∀ x∈fnew W p.1 p.2,isAB x = true:=by
   intro x hx
   unfold fnew at hx
   split at hx
   · rcases List.mem_cons.mp hx with rfl | hx
     · rfl
     · rcases List.mem_append.mp hx with hx | hx
       · exact hrunab x hx
       · rw [List.mem_singleton.mp hx];rfl
   · rcases List.mem_cons.mp hx with rfl | hx
     · rfl
     · rcases List.mem_append.mp hx with hx | hx
       · exact hrunab x hx
       · rw [List.mem_singleton.mp hx];rfl
 have h1p:1≤(fpiece W p.1 p.2).length:=by lia
 have pok:∀ q∈[(fpiece W p.1 p.2,fnew W p.1 p.2)],pairOk q:=by
   intro q hq
   rw [List.mem_singleton.mp hq]
   refine ⟨h1p,?_,lnew,by show (fpiece W p.1 p.2).length≤1000;lia⟩
   rw [List.all_eq_true]
   intro x hx
   have:=hWB x (List.mem_of_mem_drop (List.mem_of_mem_take hx))
   rcases isAB_iff.mp this with rfl | rfl | rfl | rfl<;>decide
 refine ⟨fun x hx=>?_,Nat.le_trans (frep_len0 h1p lnew) hs2,?_⟩
 · rcases frep_mem hx with h | h
   · exact hnewab x h
   · exact hWB x h
 have rep1:S_replace (.str (sOf ((W.drop (p.1 + 1)).take (p.2 - (p.1 + 1))))::flatP [([98],[97]),([66],[65])]) g = some (.str (sOf (frun W p.1 p.2)),g):=replace_eq hrunok (by rw [lmid];lia) (by decide)
 have rep2:S_replace (.str (sOf W)::flatP [(fpiece W p.1 p.2,fnew W p.1 p.2)]) g = some (.str (sOf (frep (fpiece W p.1 p.2) (fnew W p.1 p.2) W 0)),g):=replace_eq pok (by lia) (by show 1 < 1000;lia)
 have nW:cmpD .NotEq (.str (sOf W)) (.str (sOf W)) = some false:=by rw [cmp_ne_s];simp
 have t0:cmpD .Eq (.lst ((fturns W).map pD)) (.lst []) = some false:=by rw [turns_empty,ht];rfl
 have i0:itemD (.lst ((fturns W).map pD)) (.int 0) = some (.tup [.int (p.1:Nat),.int (p.2:Nat)]):=item_l (i:=0) (by rw [ht];rfl)
 have sl1:sliceD (.str (sOf W)) (some ((p.1 + 1:Nat):Int)) (some (p.2:Int)) none = some (.str (sOf ((W.drop (p.1 + 1)).take (p.2 - (p.1 + 1))))):=slice_ij (by unfold lim;lia) (by lia) (by lia)
 have sl2:sliceD (.str (sOf W)) (some (p.1:Int)) (some ((p.2 + 1:Nat):Int)) none = some (.str (sOf (fpiece W p.1 p.2))):=slice_ij (by unfold lim;lia) (by lia) (by lia)
 have hgd:W.getD p.1 0 = c:=by rw [List.getD_eq_getElem?_getD,hc];rfl
 conv=>rhs;ext;rhs;lhs;arg 5;whnf
 rcases htl with rfl | ⟨wd,du,tu,to,fi,la,ru,ah,be,rfl⟩
 · rcases hca with rfl | rfl
   · have hnew:fnew W p.1 p.2 = [66]++frun W p.1 p.2++[98]:=by unfold fnew;rw [hgd];rfl
     refine ⟨fullL (.str (sOf W)) (.str (sOf W)) (.lst ((fturns W).map pD)) (.bool true) (.int (p.1:Nat)) (.int (p.2:Nat)) (.str (sOf (frun W p.1 p.2))) (.str (sOf [66])) (.str (sOf [98])),.inr ⟨_,_,_,_,_,_,_,_,_,rfl⟩,?_⟩
     refine ex_cons (st_swap (names:=["word","due"]) (fo1:=foI B .none (.str (sOf W)) []) rfl (ev_tup (evs_more rfl ev_none (evs_more rfl (ev_fn rfl rfl rfl rfl (evs_more rfl (ev_str rfl) (evs_more rfl (ev_name rfl rfl) evs_nil)) (call_onto2.trans onto)) evs_nil)) (le_lim rfl)) rfl rfl rfl) ?_
     refine ex_cons (fix_stmt hW hl) ?_
     refine ex_cons (st_unpack (fun es k p h=>by injection h) (ev_fn rfl rfl rfl rfl (evs_more rfl (ev_name rfl rfl) evs_nil) (call_turns2.trans turns)) rfl) ?_
     refine ex_cons (st_if (c:=false) (tr_or (any_f (tr_cmp (ev_name rfl rfl) (ev_list evs_nil (le_lim rfl)) t0) (any_f (tr_cmp (ev_name rfl rfl) (ev_name rfl rfl) nW) (any_f (tr_not (c:=true) (tr_name (ev_name rfl rfl) rfl)) any_nil)))) ex_nil) ?_
     refine ex_cons (st_unpack (fun es k p h=>by injection h) (ev_item (fun l u st p h=>by injection h) (ev_name rfl rfl) ev_int (fun k h=>by injection h) i0) rfl) ?_
     refine ex_cons (st_assign rfl (ev_fn rfl rfl rfl rfl (evs_more rfl (ev_slice (ev_name rfl rfl) (opt_some (ev_bin (ev_name rfl rfl) ev_int (add_i (a:=p.1) (b:=1))) (big_nat (by lia))) (opt_some (ev_name rfl rfl) (big_nat (by lia))) opt_none sl1) (evs_more rfl (ev_str rfl) (evs_more rfl (ev_str rfl) (evs_more rfl (ev_str rfl) (evs_more rfl (ev_str rfl) evs_nil))))) (call_replace2.trans rep1))) ?_
     refine ex_cons (st_unpack (fun es k p h=>by injection h) (ev_if (c:=true) (tr_cmp (ev_item (fun l u st p h=>by injection h) (ev_name rfl rfl) (ev_name rfl rfl) (fun k h=>by injection h) (item_s hc)) (ev_str rfl) rfl) (ev_tup (evs_more rfl (ev_str rfl) (evs_more rfl (ev_str rfl) evs_nil)) (le_lim rfl))) rfl) ?_
     exact ex_cons (st_assign rfl (ev_fn rfl rfl rfl rfl (evs_more rfl (ev_name rfl rfl) (evs_more rfl (ev_slice (ev_name rfl rfl) (opt_some (ev_name rfl rfl) (big_nat (by lia))) (opt_some (ev_bin (ev_name rfl rfl) ev_int (add_i (a:=p.2) (b:=1))) (big_nat (by lia))) opt_none sl2) (evs_more rfl (ev_bin (ev_bin (ev_name rfl rfl) (ev_name rfl rfl) (add_s (a:=[66]) (by simp;unfold lim;lia))) (ev_name rfl rfl) ((add_s (b:=[98]) (by simp;unfold lim;lia)).trans (by rw [← hnew]))) evs_nil))) (call_replace2.trans rep2))) ex_nil
   · have hnew:fnew W p.1 p.2 = [98]++frun W p.1 p.2++[66]:=by unfold fnew;rw [hgd];rfl
     refine ⟨fullL (.str (sOf W)) (.str (sOf W)) (.lst ((fturns W).map pD)) (.bool true) (.int (p.1:Nat)) (.int (p.2:Nat)) (.str (sOf (frun W p.1 p.2))) (.str (sOf [98])) (.str (sOf [66])),.inr ⟨_,_,_,_,_,_,_,_,_,rfl⟩,?_⟩
     refine ex_cons (st_swap (names:=["word","due"]) (fo1:=foI B .none (.str (sOf W)) []) rfl (ev_tup (evs_more rfl ev_none (evs_more rfl (ev_fn rfl rfl rfl rfl (evs_more rfl (ev_str rfl) (evs_more rfl (ev_name rfl rfl) evs_nil)) (call_onto2.trans onto)) evs_nil)) (le_lim rfl)) rfl rfl rfl) ?_
     refine ex_cons (fix_stmt hW hl) ?_
     refine ex_cons (st_unpack (fun es k p h=>by injection h) (ev_fn rfl rfl rfl rfl (evs_more rfl (ev_name rfl rfl) evs_nil) (call_turns2.trans turns)) rfl) ?_
     refine ex_cons (st_if (c:=false) (tr_or (any_f (tr_cmp (ev_name rfl rfl) (ev_list evs_nil (le_lim rfl)) t0) (any_f (tr_cmp (ev_name rfl rfl) (ev_name rfl rfl) nW) (any_f (tr_not (c:=true) (tr_name (ev_name rfl rfl) rfl)) any_nil)))) ex_nil) ?_
     refine ex_cons (st_unpack (fun es k p h=>by injection h) (ev_item (fun l u st p h=>by injection h) (ev_name rfl rfl) ev_int (fun k h=>by injection h) i0) rfl) ?_
     refine ex_cons (st_assign rfl (ev_fn rfl rfl rfl rfl (evs_more rfl (ev_slice (ev_name rfl rfl) (opt_some (ev_bin (ev_name rfl rfl) ev_int (add_i (a:=p.1) (b:=1))) (big_nat (by lia))) (opt_some (ev_name rfl rfl) (big_nat (by lia))) opt_none sl1) (evs_more rfl (ev_str rfl) (evs_more rfl (ev_str rfl) (evs_more rfl (ev_str rfl) (evs_more rfl (ev_str rfl) evs_nil))))) (call_replace2.trans rep1))) ?_
     refine ex_cons (st_unpack (fun es k p h=>by injection h) (ev_if (c:=false) (tr_cmp (ev_item (fun l u st p h=>by injection h) (ev_name rfl rfl) (ev_name rfl rfl) (fun k h=>by injection h) (item_s hc)) (ev_str rfl) rfl) (ev_tup (evs_more rfl (ev_str rfl) (evs_more rfl (ev_str rfl) evs_nil)) (le_lim rfl))) rfl) ?_
     exact ex_cons (st_assign rfl (ev_fn rfl rfl rfl rfl (evs_more rfl (ev_name rfl rfl) (evs_more rfl (ev_slice (ev_name rfl rfl) (opt_some (ev_name rfl rfl) (big_nat (by lia))) (opt_some (ev_bin (ev_name rfl rfl) ev_int (add_i (a:=p.2) (b:=1))) (big_nat (by lia))) opt_none sl2) (evs_more rfl (ev_bin (ev_bin (ev_name rfl rfl) (ev_name rfl rfl) (add_s (a:=[98]) (by simp;unfold lim;lia))) (ev_name rfl rfl) ((add_s (b:=[66]) (by simp;unfold lim;lia)).trans (by rw [← hnew]))) evs_nil))) (call_replace2.trans rep2))) ex_nil
 · rcases hca with rfl | rfl
   · have hnew:fnew W p.1 p.2 = [66]++frun W p.1 p.2++[98]:=by unfold fnew;rw [hgd];rfl
     refine ⟨fullL (.str (sOf W)) (.str (sOf W)) (.lst ((fturns W).map pD)) (.bool true) (.int (p.1:Nat)) (.int (p.2:Nat)) (.str (sOf (frun W p.1 p.2))) (.str (sOf [66])) (.str (sOf [98])),.inr ⟨_,_,_,_,_,_,_,_,_,rfl⟩,?_⟩
     refine ex_cons (st_swap (names:=["word","due"]) (fo1:=foI B .none (.str (sOf W)) [("turns",.val tu),("told",.val to),("first",.val fi),("last",.val la),("run",.val ru),("ahead",.val ah),("behind",.val be)]) rfl (ev_tup (evs_more rfl ev_none (evs_more rfl (ev_fn rfl rfl rfl rfl (evs_more rfl (ev_str rfl) (evs_more rfl (ev_name rfl rfl) evs_nil)) (call_onto2.trans onto)) evs_nil)) (le_lim rfl)) rfl rfl rfl) ?_
     refine ex_cons (fix_stmt hW hl) ?_
     refine ex_cons (st_unpack (fun es k p h=>by injection h) (ev_fn rfl rfl rfl rfl (evs_more rfl (ev_name rfl rfl) evs_nil) (call_turns2.trans turns)) rfl) ?_
     refine ex_cons (st_if (c:=false) (tr_or (any_f (tr_cmp (ev_name rfl rfl) (ev_list evs_nil (le_lim rfl)) t0) (any_f (tr_cmp (ev_name rfl rfl) (ev_name rfl rfl) nW) (any_f (tr_not (c:=true) (tr_name (ev_name rfl rfl) rfl)) any_nil)))) ex_nil) ?_
     refine ex_cons (st_unpack (fun es k p h=>by injection h) (ev_item (fun l u st p h=>by injection h) (ev_name rfl rfl) ev_int (fun k h=>by injection h) i0) rfl) ?_
     refine ex_cons (st_assign rfl (ev_fn rfl rfl rfl rfl (evs_more rfl (ev_slice (ev_name rfl rfl) (opt_some (ev_bin (ev_name rfl rfl) ev_int (add_i (a:=p.1) (b:=1))) (big_nat (by lia))) (opt_some (ev_name rfl rfl) (big_nat (by lia))) opt_none sl1) (evs_more rfl (ev_str rfl) (evs_more rfl (ev_str rfl) (evs_more rfl (ev_str rfl) (evs_more rfl (ev_str rfl) evs_nil))))) (call_replace2.trans rep1))) ?_
     refine ex_cons (st_unpack (fun es k p h=>by injection h) (ev_if (c:=true) (tr_cmp (ev_item (fun l u st p h=>by injection h) (ev_name rfl rfl) (ev_name rfl rfl) (fun k h=>by injection h) (item_s hc)) (ev_str rfl) rfl) (ev_tup (evs_more rfl (ev_str rfl) (evs_more rfl (ev_str rfl) evs_nil)) (le_lim rfl))) rfl) ?_
     exact ex_cons (st_assign rfl (ev_fn rfl rfl rfl rfl (evs_more rfl (ev_name rfl rfl) (evs_more rfl (ev_slice (ev_name rfl rfl) (opt_some (ev_name rfl rfl) (big_nat (by lia))) (opt_some (ev_bin (ev_name rfl rfl) ev_int (add_i (a:=p.2) (b:=1))) (big_nat (by lia))) opt_none sl2) (evs_more rfl (ev_bin (ev_bin (ev_name rfl rfl) (ev_name rfl rfl) (add_s (a:=[66]) (by simp;unfold lim;lia))) (ev_name rfl rfl) ((add_s (b:=[98]) (by simp;unfold lim;lia)).trans (by rw [← hnew]))) evs_nil))) (call_replace2.trans rep2))) ex_nil
   · have hnew:fnew W p.1 p.2 = [98]++frun W p.1 p.2++[66]:=by unfold fnew;rw [hgd];rfl
     refine ⟨fullL (.str (sOf W)) (.str (sOf W)) (.lst ((fturns W).map pD)) (.bool true) (.int (p.1:Nat)) (.int (p.2:Nat)) (.str (sOf (frun W p.1 p.2))) (.str (sOf [98])) (.str (sOf [66])),.inr ⟨_,_,_,_,_,_,_,_,_,rfl⟩,?_⟩
     refine ex_cons (st_swap (names:=["word","due"]) (fo1:=foI B .none (.str (sOf W)) [("turns",.val tu),("told",.val to),("first",.val fi),("last",.val la),("run",.val ru),("ahead",.val ah),("behind",.val be)]) rfl (ev_tup (evs_more rfl ev_none (evs_more rfl (ev_fn rfl rfl rfl rfl (evs_more rfl (ev_str rfl) (evs_more rfl (ev_name rfl rfl) evs_nil)) (call_onto2.trans onto)) evs_nil)) (le_lim rfl)) rfl rfl rfl) ?_
     refine ex_cons (fix_stmt hW hl) ?_
     refine ex_cons (st_unpack (fun es k p h=>by injection h) (ev_fn rfl rfl rfl rfl (evs_more rfl (ev_name rfl rfl) evs_nil) (call_turns2.trans turns)) rfl) ?_
     refine ex_cons (st_if (c:=false) (tr_or (any_f (tr_cmp (ev_name rfl rfl) (ev_list evs_nil (le_lim rfl)) t0) (any_f (tr_cmp (ev_name rfl rfl) (ev_name rfl rfl) nW) (any_f (tr_not (c:=true) (tr_name (ev_name rfl rfl) rfl)) any_nil)))) ex_nil) ?_
     refine ex_cons (st_unpack (fun es k p h=>by injection h) (ev_item (fun l u st p h=>by injection h) (ev_name rfl rfl) ev_int (fun k h=>by injection h) i0) rfl) ?_
     refine ex_cons (st_assign rfl (ev_fn rfl rfl rfl rfl (evs_more rfl (ev_slice (ev_name rfl rfl) (opt_some (ev_bin (ev_name rfl rfl) ev_int (add_i (a:=p.1) (b:=1))) (big_nat (by lia))) (opt_some (ev_name rfl rfl) (big_nat (by lia))) opt_none sl1) (evs_more rfl (ev_str rfl) (evs_more rfl (ev_str rfl) (evs_more rfl (ev_str rfl) (evs_more rfl (ev_str rfl) evs_nil))))) (call_replace2.trans rep1))) ?_
     refine ex_cons (st_unpack (fun es k p h=>by injection h) (ev_if (c:=false) (tr_cmp (ev_item (fun l u st p h=>by injection h) (ev_name rfl rfl) (ev_name rfl rfl) (fun k h=>by injection h) (item_s hc)) (ev_str rfl) rfl) (ev_tup (evs_more rfl (ev_str rfl) (evs_more rfl (ev_str rfl) evs_nil)) (le_lim rfl))) rfl) ?_
     exact ex_cons (st_assign rfl (ev_fn rfl rfl rfl rfl (evs_more rfl (ev_name rfl rfl) (evs_more rfl (ev_slice (ev_name rfl rfl) (opt_some (ev_name rfl rfl) (big_nat (by lia))) (opt_some (ev_bin (ev_name rfl rfl) ev_int (add_i (a:=p.2) (b:=1))) (big_nat (by lia))) opt_none sl2) (evs_more rfl (ev_bin (ev_bin (ev_name rfl rfl) (ev_name rfl rfl) (add_s (a:=[98]) (by simp;unfold lim;lia))) (ev_name rfl rfl) ((add_s (b:=[66]) (by simp;unfold lim;lia)).trans (by rw [← hnew]))) evs_nil))) (call_replace2.trans rep2))) ex_nil
set_option tactic.hygienic true in
theorem left_loop {test:Fo→Sg→Option (Bool × Sg)} {g:Sg} {n:Nat} (h1:∀ fo,test fo g = some (true,g)) :
   ∀ (k K:Nat) (B W:List Nat) (tl:Fo),fleft k B = some W→k≤K→TailL tl→(∀ c∈B,isAB c = true)→B.length≤1000 →
     whileK test (fun fo g=>pexecs T2 [] (n + 44) (kdOf "_law_left") leftBody fo g) K (foL B tl) g = some (.ret (.tup [.str (sOf W),.bool true]) g)∧(∀ c∈W,isAB c = true)∧W.length≤B.length
 | 0,_,_,_,_,h,_,_,_,_=>by injection h
 | k + 1,0,_,_,_,_,h,_,_,_=>absurd h (by lia)
 | k + 1,K + 1,B,W,tl,h,hK,ht,hB,hl=>by
   unfold fleft at h
   split at h
   · injection h
   rename_i V hV
   split at h
   · injection h
   rename_i he
   have hr:=feq_iff.mp he
   refine za (ffix_sub hV) fun hs1 hs2=>?_
   split at h
   · rename_i hf
     simp only [Option.some.injEq] at h
     subst h
     exact ⟨while_ret (h1 _) (left_ret ht hB hl hV hr hf),fun c hc=>hB c (hs1 c hc),hs2⟩
   · rename_i p r hf
     obtain ⟨q1,q2,tl',q3,q4⟩:=left_next (g:=g) (n:=n) ht hB hl hV hr hf
     refine za2 (left_loop (n:=n) h1 k K _ W tl' h (by lia) q3 q1 (by lia)) fun z1 z2 z3=>?_
     exact ⟨while_t (h1 _) q4 z1,z2,by lia⟩
theorem left_eq {B W:List Nat} {g:Sg} (h:fleft 50 B = some W) (hB:∀ c∈B,isAB c = true) (hl:B.length≤1000):S_left [.str (sOf B)] g = some (.tup [.str (sOf W),.bool true],g)∧(∀ c∈W,isAB c = true)∧W.length≤B.length:=by
 have hloop:=left_loop (g:=g) (n:=10) (test:=fun fo g=>pt T2 54 (kdOf "_law_left") (rmOwn fo) (.Constant (.bool true) 0 ⟨0,0,0,0⟩) g) (fun fo=>rfl) 50 100000 B W [] h (by lia) (.inl rfl) hB hl
 refine ⟨?_,hloop.2⟩
 have key:pexecs T2 [] 56 (kdOf "_law_left") (bodyOf "_law_left") (valsOf [("braid",.str (sOf B))]) g = some (.ret (.tup [.str (sOf W),.bool true]) g):=by
   conv=>lhs;arg 5;whnf
   exact ex_ret (st_while hloop.1)
 exact sum_eq ["braid"] (l:=[("braid",.str (sOf B))]) rfl rfl (by decide +kernel) key
end Mine
end
section
set_option tactic.hygienic false
open PySem PySem.W PySem.Calls PyProof.Rows
set_option maxRecDepth 100000
namespace Mine
open Builtin Builtin.Str StrLaws
noncomputable def F3 (f:Str):Option Summ:=if f==("_law_left":Str) then some S_left else F2 f
noncomputable def T3:Tbl:=hT F3
theorem call_onto3 {ys:List D} {g:Sg}:pcall T3 "_law_onto" ys g = S_onto ys g:=rfl
theorem call_undone3 {ys:List D} {g:Sg}:pcall T3 "_law_undone" ys g = S_undone ys g:=rfl
theorem call_table3 {ys:List D} {g:Sg}:pcall T3 "_law_table" ys g = S_table ys g:=rfl
theorem call_left3 {ys:List D} {g:Sg}:pcall T3 "_law_left" ys g = S_left ys g:=rfl
theorem call_numbers3 {ys:List D} {g:Sg}:pcall T3 "_law_numbers" ys g = S_numbers ys g:=rfl
theorem bindK_none {α β:Type} {x:Option (α × Sg)} {f:α→Sg→Option (β × Sg)} (h:x = none):bindK x f = none:=by rw [h];rfl
section
variable {T:Tbl} {mu:List Str} {n:Nat} {kd:Kd} {ro:Ro} {fo fo1 fo2:Fo} {g g1 g2 g3 g4:Sg}
theorem st_own {ts es e1 e0 e2:List Expr} {k k2:Nat} {p p2 sp:Pos} {n1 n2:List Str} {z:Str} {d1 d0 d2:List D} (h1:swapF kd ts es = some none) (h2:splitM mu ts es = some (n1,e1,z,e0,n2,e2))
   (hc:(canSet kd z&&n1.all (canSet kd)&&n2.all (canSet kd)&&es.all plainE&&n2.length==e2.length&&decide (es.length < 20)) = true)
   (ha:evs (pev T n kd (rmOwn fo)) e1 g = some (d1,g1)) (hb:evs (pev T n kd (rmOwn fo)) e0 g1 = some (d0,g2)) (hd:evs (pev T n kd (rmOwn fo)) e2 g2 = some (d2,g3)) (hl:d0.length≤lim) (hf:setEs (n2.zip d2) (setE z (.own d0) (setEs (n1.zip d1) fo)) = fo1) :
   pexec T mu (n + 1) kd (.Assign [.Tuple ts k p] (.Tuple es k2 p2) sp) fo g = some (.next fo1 g3):=by
 rw [pexec_tup,h1,h2]
 show (if (!(canSet kd z&&n1.all (canSet kd)&&n2.all (canSet kd)&&es.all plainE&&n2.length==e2.length&&decide (es.length < 20))) = true then none else
   bindF (evs (pev T n kd (rmOwn fo)) e1 g) fun d1 g=>bindF (evs (pev T n kd (rmOwn fo)) e0 g) fun d0 g=>bindF (evs (pev T n kd (rmOwn fo)) e2 g) fun d2 g =>
     if d0.length≤lim then some (Fl.next (setEs (n2.zip d2) (setE z (.own d0) (setEs (n1.zip d1) fo))) g) else none) = _
 have bf:∀ {α β:Type} {x:Option (α × Sg)} {a:α} {g:Sg} {f:α→Sg→Option β},x = some (a,g)→bindF x f = f a g:=fun h=>by rw [h];rfl
 rw [← hf]
 exact (ifn_eq (by rw [hc];rfl)).trans ((bf ha).trans ((bf hb).trans ((bf hd).trans (if_pos hl))))
theorem evX_frz {ev:Ro→Expr→Sg→Option (D × Sg)} {e:Expr} {d:D} (h0:ev (rmOwn fo) e g = none) (h:ev (frz fo) e g = some (d,g1)) (hf:(if flat d then fo else frzF fo) = fo1):evX ev fo e g = some (d,fo1,g1):=by
 unfold evX;rw [h0,h];simp only [hf]
theorem st_assign_frz {x:Str} {px sp:Pos} {e:Expr} {d:D} (hx:canSet kd x = true) (h0:pev T n kd (rmOwn fo) e g = none) (h:pev T n kd (frz fo) e g = some (d,g1)) (hf:(if flat d then fo else frzF fo) = fo1):pexec T mu (n + 1) kd (.Assign [.Name x px] e sp) fo g = some (.next (setE x (.val d) fo1) g1):=by
 show (if (!canSet kd x) = true then none else valK (evX (pev T n kd) fo e g) fun d fo g=>some (Fl.next (setE x (.val d) fo) g)) = _
 exact (ifn_eq (by rw [hx];rfl)).trans (valK_eq (evX_frz h0 h hf))
theorem st_pair_frz {ts es:List Expr} {k k2:Nat} {p p2 sp:Pos} {ds:List D} (h1:swapF kd ts es = some none) (h2:splitM mu ts es = none) (h0:pev T n kd (rmOwn fo) (.Tuple es k2 p2) g = none) (h:pev T n kd (frz fo) (.Tuple es k2 p2) g = some (.tup ds,g1)) (hf:flat (.tup ds) = true) (hp:putT T n kd ts ds fo g1 = some (fo1,g2)):pexec T mu (n + 1) kd (.Assign [.Tuple ts k p] (.Tuple es k2 p2) sp) fo g = some (.next fo1 g2):=by
 rw [pexec_tup,h1,h2]
 show tupK (evX (pev T n kd) fo (.Tuple es k2 p2) g) _ = _
 rw [evX_frz h0 h (if_pos hf)]
 exact mapo_eq hp
theorem putT_sub {x:Str} {i:Expr} {px pp:Pos} {ts:List Expr} {d di:D} {ds:List D} {l l2:List D} {R:Option (Fo × Sg)} (hx:(x==("__debug__":Str)) = false) (ho:fo.lookup x = some (.own l)) (hi:pev T n kd (rmOwn fo) i g = some (di,g1)) (hf:flat d = true) (hs:setAt l di d = some l2) (hr:putT T n kd ts ds (setE x (.own l2) fo) g1 = R):putT T n kd (.Subscript (.Name x px) i pp::ts) (d::ds) fo g = R:=by
 show (if (x==("__debug__":Str)) = true then none else ownK (fo.lookup x) fun l=>dK2 (pev T n kd (rmOwn fo) i g) fun j g=>if flat d = true then (lstK (setAt l j d) fun l=>putT T n kd ts ds (setE x (.own l) fo) g) else none) = _
 rw [ifn_eq hx,ho]
 show (dK2 (pev T n kd (rmOwn fo) i g) fun j g=>if flat d = true then (lstK (setAt l j d) fun l=>putT T n kd ts ds (setE x (.own l) fo) g) else none) = _
 rw [hi]
 show (if flat d = true then (lstK (setAt l di d) fun l=>putT T n kd ts ds (setE x (.own l) fo) g1) else none) = _
 rw [if_pos hf,hs]
 exact hr
theorem putT_nil:putT T n kd [] [] fo g = some (fo,g):=rfl
theorem ev_no_name {x:Str} {p:Pos} (h:ro.lookup x = none):pev T (n + 1) kd ro (.Name x p) g = none:=by
 show (if (x==("__debug__":Str)||x==("__classdict__":Str)) = true then none else (ro.lookup x).map (·,g)) = _
 rw [h]
 induction (x==("__debug__":Str)||x==("__classdict__":Str)) using Bool.casesOn<;>rfl
theorem ev_no_item {a b:Expr} {q:Pos} (h:pev T n kd ro a g = none):pev T (n + 1) kd ro (.Subscript a b q) g = none:=by
 induction b using Expr.casesOn<;>exact bindK_none h
theorem evs_no {e:Expr} {es:List Expr} (hp:plainE e = true) (h:pev T n kd ro e g = none):evs (pev T n kd ro) (e::es) g = none:=by
 rw [evs_cons_plain hp,h];rfl
theorem ev_no_tup {es:List Expr} {k:Nat} {p:Pos} (h:evs (pev T n kd ro) es g = none):pev T (n + 1) kd ro (.Tuple es k p) g = none:=bindK_none h
theorem ev_no_bin1 {op:Operator} {a b:Expr} {p:Pos} (h:pev T n kd ro a g = none):pev T (n + 1) kd ro (.BinOp a op b p) g = none:=bindK_none h
theorem ev_no_bin2 {op:Operator} {a b:Expr} {p:Pos} {x:D} (h1:pev T n kd ro a g = some (x,g1)) (h:pev T n kd ro b g1 = none):pev T (n + 1) kd ro (.BinOp a op b p) g = none:=by
 show (bindK (pev T n kd ro a g) fun x g=>bindK (pev T n kd ro b g) fun y g=>(binD op x y).map (·,g)) = _
 exact (bindK_eq h1).trans (bindK_none h)
theorem ev_no_comp {el t it:Expr} {sc:Scope} {p:Pos} {d:D} {ds:List D} {b:List (Str × D)} (hsc:scopeOkT sc kd t = true) (h1:psrc T n kd ro it g = some (d::ds,g1)) (hb:tgt t d = some b)
   (h2:pev T n (fun x=>sc.names.lookup x) (b++freeIn sc ro) el g1 = none):pev T (n + 1) kd ro (.ListComp el [⟨t,it,[],0⟩] sc p) g = none:=by
 show (if (!scopeOkT sc kd t) = true then none else
       bindK (psrc T n kd ro it g) fun ds g =>
         bindK (compK (trX T n sc [])
             (fun ro g=>pev T n (fun x=>sc.names.lookup x) ro el g) t (freeIn sc ro) ds g)
           fun ys g=>if ys.length≤lim then some (D.lst ys,g) else none) = _
 refine (ifn_eq (by rw [hsc];rfl)).trans ((bindK_eq h1).trans (bindK_none ?_))
 show (match tgt t d with
   | none=>none
   | some b=>bindK (trX T n sc [] (b++freeIn sc ro) g1) fun ok g=>match ok with
       | .bool true=>bindK (pev T n (fun x=>sc.names.lookup x) (b++freeIn sc ro) el g) fun y g=>bindK (compK (trX T n sc []) (fun ro g=>pev T n (fun x=>sc.names.lookup x) ro el g) t (freeIn sc ro) ds g) fun ys g=>some (y::ys,g)
       | .bool false=>compK (trX T n sc []) (fun ro g=>pev T n (fun x=>sc.names.lookup x) ro el g) t (freeIn sc ro) ds g
       | _=>none) = _
 rw [hb]
 exact (bindK_eq (a:=D.bool true) (g:=g1) rfl).trans (bindK_none h2)
end
theorem compK_step {tr el:Ro→Sg→Option (D × Sg)} {t:Expr} {base:Ro} {g:Sg} {d y:D} {ds ys:List D} {b:List (Str × D)} (h1:tgt t d = some b) (h2:tr (b++base) g = some (.bool true,g)) (h3:el (b++base) g = some (y,g)) (h4:compK tr el t base ds g = some (ys,g)):compK tr el t base (d::ds) g = some (y::ys,g):=by
 exact compK_yes h1 h2 h3 h4
theorem compK_nil {tr el:Ro→Sg→Option (D × Sg)} {t:Expr} {base:Ro} {g:Sg}:compK tr el t base [] g = some ([],g):=rfl
theorem eq_strs3 {a b c:Str}:cmpD .NotEq (.lst [.str a,.str b,.str c]) (.lst [.str a,.str b,.str c]) = some false:=by
 show (some ((a==a)&&((b==b)&&((c==c)&&true)))).map (fun x=>!x) = _
 simp
theorem eqL_strs_same:∀ l:List Str,eqL (l.map .str) (l.map .str) = some true
 | []=>by rfl
 | a::r=>(eqL_step (show eqD (.str a) (.str a) = some (a==a) from rfl) (eqL_strs_same r)).trans (by simp)
theorem depL_strs:∀ l:List Str,depL (l.map .str) = 0
 | []=>rfl
 | a::r=>by rw [List.map_cons];show max 0 (depL (r.map .str)) = 0;rw [depL_strs r];rfl
theorem ne_same {l:List Str}:cmpD .NotEq (.lst (l.map .str)) (.lst (l.map .str)) = some false:=by
 have h1:dep (.lst (l.map .str)) = 1:=by show depL _ + 1 = 1;rw [depL_strs]
 unfold cmpD
 rw [if_neg (by lia)]
 show (eqD _ _).map (!·) = _
 show (eqL _ _).map (!·) = _
 rw [eqL_strs_same];rfl
theorem eq_nil_strs {l:List Str}:cmpD .Eq (.lst (l.map .str)) (.lst []) = some l.isEmpty:=by
 have h1:dep (.lst (l.map .str)) = 1:=by show depL _ + 1 = 1;rw [depL_strs]
 unfold cmpD
 rw [if_neg (by rw [h1,show dep (.lst []) = 1 from rfl];lia)]
 show eqD _ _ = _
 induction l using List.casesOn<;>rfl
theorem eqL_ints:∀ l m:List Int,eqL (l.map .int) (m.map .int) = some (l==m)
 | [],[]=>by rfl
 | [],_::_=>by rfl
 | _::_,[]=>by rfl
 | a::r,b::s=>eqL_step eqD_int (eqL_ints r s)
theorem depL_ints:∀ l:List Int,depL (l.map .int) = 0
 | []=>rfl
 | a::r=>by rw [List.map_cons];show max 0 (depL (r.map .int)) = 0;rw [depL_ints r];rfl
theorem eq_ints {l m:List Int}:cmpD .Eq (.lst (l.map .int)) (.lst (m.map .int)) = some (l==m):=by
 have h1:dep (.lst (l.map .int)) = 1:=by show depL _ + 1 = 1;rw [depL_ints]
 have h2:dep (.lst (m.map .int)) = 1:=by show depL _ + 1 = 1;rw [depL_ints]
 unfold cmpD
 rw [if_neg (by lia)]
 exact eqL_ints _ _
theorem ne_ints {l m:List Int}:cmpD .NotEq (.lst (l.map .int)) (.lst (m.map .int)) = some (!(l==m)):=by
 have h1:dep (.lst (l.map .int)) = 1:=by show depL _ + 1 = 1;rw [depL_ints]
 have h2:dep (.lst (m.map .int)) = 1:=by show depL _ + 1 = 1;rw [depL_ints]
 unfold cmpD
 rw [if_neg (by lia)]
 show (eqL _ _).map (!·) = _
 rw [eqL_ints];rfl
end Mine
end
section
set_option tactic.hygienic false
open PySem PySem.W PySem.Calls PyProof.Rows
set_option maxRecDepth 100000
namespace Mine
open Builtin Builtin.Str StrLaws
structure S3 where
 a:Nat
 b:Nat
 c:Nat
noncomputable def S3.step (s:S3) (x:Nat):S3:=match isaA x with
 | true=>⟨s.b,s.a,s.c⟩
 | false=>⟨s.a,s.c,s.b⟩
noncomputable def S3.run:List Nat→S3→S3
 | [],s=>s
 | c::r,s=>S3.run r (s.step c)
noncomputable def S3.ds (s:S3):List D:=[.str (sOf [s.a]),.str (sOf [s.b]),.str (sOf [s.c])]
noncomputable def fhead (st:List Nat):List Nat:=st.reverse.take (st.length / 2)
noncomputable def fdue (st:List Nat) (s:Nat):List Nat:=fhead st++[s]++(fhead st).reverse.map swc
noncomputable def tbI:Tb:=⟨false,122,[120],[121],[122]⟩
noncomputable def S_told:Summ:=sumOf T3 ["strands"] 56 (scOf "_law_told") (bodyOf "_law_told") (plainBnd ["braid"])
noncomputable abbrev foS (b:D) (k:Nat) (w:D) (s:S3) (tl:Fo):Fo:=("braid",.val b)::("table",.val (.hdr k))::("words",.val w)::("strands",.own s.ds)::tl
noncomputable def Tail2 (tl:Fo):Prop:=∃ a b,tl = [(("letter":Str),EV.val a),(("k":Str),EV.val b)]
noncomputable def TailS (tl:Fo):Prop:=tl = []∨∃ a b,tl = [(("letter":Str),EV.val a),(("k":Str),EV.val b)]
theorem str_loop {body:Fo→Sg→Option Fl} {kd:Kd} {p:Pos} {b w:D} {k:Nat} {g:Sg} (hk:canSet kd "letter" = true)
   (hb:∀ c (s:S3) tl,isAB c = true→TailS tl→∃ tl',Tail2 tl'∧body (setEs [(("letter":Str),.str (sOf [c]))] (foS b k w s tl)) g = some (.next (foS b k w (s.step c) tl') g)) :
   ∀ (m:List Nat) (s:S3) (tl:Fo),(∀ c∈m,isAB c = true)→TailS tl→(m≠[]∨Tail2 tl) →
     ∃ tl',Tail2 tl'∧forK body kd (.Name ("letter":Str) p) (m.map fun c=>.str (sOf [c])) (foS b k w s tl) g = some (.next (foS b k w (S3.run m s) tl') g)
 | [],s,tl,_,_,h=>⟨tl,h.resolve_left fun h=>h rfl,rfl⟩
 | c::r,s,tl,hc,ht,_=>by
   refine zea (hb c s tl (hc c (.head _)) ht) fun tl1 ht1 h1=>?_
   refine zea (str_loop (p:=p) hk hb r (s.step c) tl1 (fun x hx=>hc x (.tail _ hx)) (.inr ht1) (.inr ht1)) fun tl2 h2 ih=>?_
   refine ⟨tl2,h2,?_⟩
   show _ = some (Fl.next (foS b k w (S3.run r (s.step c)) tl2) g)
   rw [← ih,List.map_cons]
   conv=>lhs
   show (if ([(("letter":Str),.str (sOf [c]))]:List (Str × D)).all fun p=>canSet kd p.1 then (match body (setEs [(("letter":Str),.str (sOf [c]))] (foS b k w s tl)) g with | some (.next fo g)=>forK body kd (.Name "letter" p) (r.map fun c=>.str (sOf [c])) fo g | r=>r) else none) = _
   rw [h1]
   simp only [List.all_cons,List.all_nil,hk,Bool.and_self,if_true]
noncomputable def toldLoop:List Stmt:=match bodyOf "_law_told" with
 | _::_::.For _ _ b _ _::_=>b
 | _=>[]
theorem told_swap {b w:D} {k n:Nat} {g:Sg} (c:Nat) (s:S3) (tl:Fo) (hc:isAB c = true) (ht:TailS tl) :
   ∃ tl',Tail2 tl'∧pexecs T3 ["strands"] (n + 30) (kdOf "_law_told") toldLoop (setEs [(("letter":Str),.str (sOf [c]))] (foS b k w s tl)) g = some (.next (foS b k w (s.step c) tl') g):=by
 have incA:=(cmp_aA hc).trans (by rw [isaA_eq hc])
 have i0:itemD (.lst s.ds) (.int ((0:Nat):Int)) = some (.str (sOf [s.a])):=item_l rfl
 have i1:itemD (.lst s.ds) (.int ((1:Nat):Int)) = some (.str (sOf [s.b])):=item_l rfl
 have i2:itemD (.lst s.ds) (.int ((2:Nat):Int)) = some (.str (sOf [s.c])):=item_l rfl
 conv=>rhs;ext;rhs;lhs;arg 5;whnf
 induction hq:isaA c using Bool.casesOn with
 | true =>
   rw [hq] at incA
   have e:s.step c = ⟨s.b,s.a,s.c⟩:=by unfold S3.step;rw [hq]
   rw [e]
   refine ⟨[("letter",.val (.str (sOf [c]))),("k",.val (.int 0))],⟨_,_,rfl⟩,?_⟩
   rcases ht with rfl | ⟨x,y,rfl⟩
   · refine ex_cons (st_assign rfl (ev_if (c:=true) (tr_cmp (ev_name rfl rfl) (ev_str rfl) incA) ev_int)) (ex_cons (st_pair_frz (ds:=[.str (sOf [s.b]),.str (sOf [s.a])]) rfl rfl (ev_no_tup (evs_no rfl (ev_no_item (ev_no_name rfl)))) (ev_tup (evs_more rfl (ev_item (fun l u st p h=>by injection h) (ev_name rfl rfl) (ev_bin (ev_name rfl rfl) ev_int rfl) (fun k h=>by injection h) i1) (evs_more rfl (ev_item (fun l u st p h=>by injection h) (ev_name rfl rfl) (ev_name rfl rfl) (fun k h=>by injection h) i0) evs_nil)) (le_lim rfl)) rfl (putT_sub (l2:=[.str (sOf [s.b]),.str (sOf [s.b]),.str (sOf [s.c])]) rfl rfl (ev_name rfl rfl) rfl rfl (putT_sub (l2:=[.str (sOf [s.b]),.str (sOf [s.a]),.str (sOf [s.c])]) rfl rfl (ev_bin (ev_name rfl rfl) ev_int rfl) rfl rfl putT_nil))) ex_nil)
   · refine ex_cons (st_assign rfl (ev_if (c:=true) (tr_cmp (ev_name rfl rfl) (ev_str rfl) incA) ev_int)) (ex_cons (st_pair_frz (ds:=[.str (sOf [s.b]),.str (sOf [s.a])]) rfl rfl (ev_no_tup (evs_no rfl (ev_no_item (ev_no_name rfl)))) (ev_tup (evs_more rfl (ev_item (fun l u st p h=>by injection h) (ev_name rfl rfl) (ev_bin (ev_name rfl rfl) ev_int rfl) (fun k h=>by injection h) i1) (evs_more rfl (ev_item (fun l u st p h=>by injection h) (ev_name rfl rfl) (ev_name rfl rfl) (fun k h=>by injection h) i0) evs_nil)) (le_lim rfl)) rfl (putT_sub (l2:=[.str (sOf [s.b]),.str (sOf [s.b]),.str (sOf [s.c])]) rfl rfl (ev_name rfl rfl) rfl rfl (putT_sub (l2:=[.str (sOf [s.b]),.str (sOf [s.a]),.str (sOf [s.c])]) rfl rfl (ev_bin (ev_name rfl rfl) ev_int rfl) rfl rfl putT_nil))) ex_nil)
 | false =>
   rw [hq] at incA
   have e:s.step c = ⟨s.a,s.c,s.b⟩:=by unfold S3.step;rw [hq]
   rw [e]
   refine ⟨[("letter",.val (.str (sOf [c]))),("k",.val (.int 1))],⟨_,_,rfl⟩,?_⟩
   rcases ht with rfl | ⟨x,y,rfl⟩
   · refine ex_cons (st_assign rfl (ev_if (c:=false) (tr_cmp (ev_name rfl rfl) (ev_str rfl) incA) ev_int)) (ex_cons (st_pair_frz (ds:=[.str (sOf [s.c]),.str (sOf [s.b])]) rfl rfl (ev_no_tup (evs_no rfl (ev_no_item (ev_no_name rfl)))) (ev_tup (evs_more rfl (ev_item (fun l u st p h=>by injection h) (ev_name rfl rfl) (ev_bin (ev_name rfl rfl) ev_int rfl) (fun k h=>by injection h) i2) (evs_more rfl (ev_item (fun l u st p h=>by injection h) (ev_name rfl rfl) (ev_name rfl rfl) (fun k h=>by injection h) i1) evs_nil)) (le_lim rfl)) rfl (putT_sub (l2:=[.str (sOf [s.a]),.str (sOf [s.c]),.str (sOf [s.c])]) rfl rfl (ev_name rfl rfl) rfl rfl (putT_sub (l2:=[.str (sOf [s.a]),.str (sOf [s.c]),.str (sOf [s.b])]) rfl rfl (ev_bin (ev_name rfl rfl) ev_int rfl) rfl rfl putT_nil))) ex_nil)
   · refine ex_cons (st_assign rfl (ev_if (c:=false) (tr_cmp (ev_name rfl rfl) (ev_str rfl) incA) ev_int)) (ex_cons (st_pair_frz (ds:=[.str (sOf [s.c]),.str (sOf [s.b])]) rfl rfl (ev_no_tup (evs_no rfl (ev_no_item (ev_no_name rfl)))) (ev_tup (evs_more rfl (ev_item (fun l u st p h=>by injection h) (ev_name rfl rfl) (ev_bin (ev_name rfl rfl) ev_int rfl) (fun k h=>by injection h) i2) (evs_more rfl (ev_item (fun l u st p h=>by injection h) (ev_name rfl rfl) (ev_name rfl rfl) (fun k h=>by injection h) i1) evs_nil)) (le_lim rfl)) rfl (putT_sub (l2:=[.str (sOf [s.a]),.str (sOf [s.c]),.str (sOf [s.c])]) rfl rfl (ev_name rfl rfl) rfl rfl (putT_sub (l2:=[.str (sOf [s.a]),.str (sOf [s.c]),.str (sOf [s.b])]) rfl rfl (ev_bin (ev_name rfl rfl) ev_int rfl) rfl rfl putT_nil))) ex_nil)
theorem Tb.run_ok:∀ {m:List Nat} {s:Tb},s.Ok→(Tb.run m s).Ok∧(Tb.run m s).tot≤3 ^ m.length * s.tot
 | [],s,h=>⟨h,by show s.tot≤1 * s.tot;lia⟩
 | c::r,s,h=>by
   refine za (Tb.step_ok h (c:=c)) fun h1 h2=>?_
   refine za (Tb.run_ok (m:=r) h1) fun h3 h4=>?_
   refine ⟨h3,Nat.le_trans h4 (Nat.le_trans (Nat.mul_le_mul_left _ h2) ?_)⟩
   rw [List.length_cons,Nat.pow_succ,Nat.mul_assoc]
   exact Nat.le_refl _
end Mine
end
section
set_option tactic.hygienic false
open PySem PySem.W PySem.Calls PyProof.Rows
set_option maxRecDepth 100000
set_option maxHeartbeats 8000000
namespace Mine
open Builtin Builtin.Str StrLaws
structure ToldOk (m L:List Nat):Prop where
 ab:∀ c∈m,isAB c = true
 ln:m.length≤10
 dx:(Tb.run m tbI).x.reverse = fdue (Tb.run m tbI).x (S3.run m ⟨120,121,122⟩).a
 dy:(Tb.run m tbI).y.reverse = fdue (Tb.run m tbI).y (S3.run m ⟨120,121,122⟩).b
 dz:(Tb.run m tbI).z.reverse = fdue (Tb.run m tbI).z (S3.run m ⟨120,121,122⟩).c
 on:fonto (Tb.run m tbI).z.reverse (fonto (Tb.run m tbI).y.reverse (Tb.run m tbI).x) = [122,121,120]
 kz:(Tb.run m tbI).kz = 90
 sh:∃ c,m[m.length - 1]? = some c∧isaA c = (Tb.run m tbI).sh
 lf:fleft 50 m = some L
 sd:((Tb.run m tbI).x = [120]∧L.filter isaA = [])∨(∃ h t n,(Tb.run m tbI).x = h::t∧(Tb.run m tbI).x≠[120]∧((h = 88∧L.filter isaA = List.replicate (n + 1) 97)∨(h≠88∧L.filter isaA = List.replicate (n + 1) 65)))
 nm:fnums L = fnums m
theorem head_slice {st:List Nat} (h:st.length≤lim):sliceD (.str (sOf st.reverse)) none (some ((st.length / 2:Nat):Int)) none = some (.str (sOf (fhead st))):=by
 refine slice_s (by rw [List.length_reverse];exact h) ?_
 have e2:clipN (some ((st.length / 2:Nat):Int)) st.reverse.length st.reverse.length = st.length / 2:=by
   rw [List.length_reverse]
   exact clipN_nat (Nat.div_le_self _ _)
 rw [e2]
 show (st.reverse.drop 0).take (st.length / 2 - 0) = _
 rfl
theorem fhead_xyz {st:List Nat} (h:∀ c∈st,isXyz c = true):∀ c∈fhead st,isXyz c = true:=fun c hc=>h c (List.mem_reverse.mp (List.mem_of_mem_take hc))
theorem fhead_len {st:List Nat}:(fhead st).length≤st.length:=by unfold fhead;rw [List.length_take,List.length_reverse];lia
theorem div2 {n:Nat}:binD .FloorDiv (.int (n:Nat)) (.int 2) = some (.int ((n / 2:Nat):Int)):=rfl
theorem due_item {T:Tbl} {n:Nat} {kd:Kd} {ro:Ro} {g:Sg} {st:List Nat} {s:Nat} (h:∀ c∈st,isXyz c = true) (hl:3 * st.length + 3≤lim):binD .Add (.str (sOf (fhead st))) (.str (sOf [s])) = some (.str (sOf (fhead st++[s])))∧S_undone [.str (sOf (fhead st))] g = some (.str (sOf ((fhead st).reverse.map swc)),g)∧binD .Add (.str (sOf (fhead st++[s]))) (.str (sOf ((fhead st).reverse.map swc))) = some (.str (sOf (fdue st s))):=by
 have hh:=fhead_len (st:=st)
 exact ⟨add_s (by simp;lia),undone_eq (fhead_xyz h) (by lia),add_s (by simp;lia)⟩
theorem item_last {m:List Nat} {c:Nat} (h:m[m.length - 1]? = some c):itemD (.str (sOf m)) (.int (-1)) = some (.str (sOf [c])):=by
 have hi:m.length - 1 < m.length:=(List.getElem?_eq_some_iff.mp h).1
 have hp:place (sOf m).length (-1) = some (m.length - 1):=by
   rw [sOf_len]
   unfold place
   rw [if_neg (by lia),if_pos (by lia)]
   congr 1
   lia
 show (place (sOf m).length (-1)).bind _ = _
 rw [hp]
 show ((sOf m).cps[m.length - 1]?).map _ = _
 have:(sOf m).cps[m.length - 1]? = some c:=by simpa [sOf] using h
 rw [this]
 rfl
theorem kv_eq {b:Bool} {gs:Sg} {ps:List (Str × Str)}:kvS b [.hdr gs.length] (gs++[ps]) = some (.lst (ps.map fun q=>.str (if b then q.2 else q.1)),gs++[ps]):=by
 show ((gs++[ps])[gs.length]?).bind _ = _
 rw [at_end];rfl
theorem idx_x {T:Tbl} {g:Sg}:pmeth T "index" (.str "xyz") [.str "x"] g = some (.int ((0:Nat):Int),g):=by
 have e:Builtin.Str.occurrences ("xyz":Str) ("x":Str) 0 ("xyz":Str).length 1 = [0]:=by decide +kernel
 show indexM (Builtin.Str.occurrences ("xyz":Str) ("x":Str) 0 ("xyz":Str).length 1) g = _
 rw [e];rfl
theorem idx_y {T:Tbl} {g:Sg}:pmeth T "index" (.str "xyz") [.str "y"] g = some (.int ((1:Nat):Int),g):=by
 have e:Builtin.Str.occurrences ("xyz":Str) ("y":Str) 0 ("xyz":Str).length 1 = [1]:=by decide +kernel
 show indexM (Builtin.Str.occurrences ("xyz":Str) ("y":Str) 0 ("xyz":Str).length 1) g = _
 rw [e];rfl
theorem idx_z {T:Tbl} {g:Sg}:pmeth T "index" (.str "xyz") [.str "z"] g = some (.int ((2:Nat):Int),g):=by
 have e:Builtin.Str.occurrences ("xyz":Str) ("z":Str) 0 ("xyz":Str).length 1 = [2]:=by decide +kernel
 show indexM (Builtin.Str.occurrences ("xyz":Str) ("z":Str) 0 ("xyz":Str).length 1) g = _
 rw [e];rfl
theorem flat_rep {α:Type} {a:α}:∀ k:Nat,(List.replicate k [a]).flatten = List.replicate k a
 | 0=>rfl
 | k + 1=>by rw [List.replicate_succ,List.flatten_cons,flat_rep k];rfl
theorem mul_l {sd:Str} {k:Nat} (hk:k≤1000):binD .Mult (.lst [.str sd]) (.int (k:Nat)) = some (.lst ((List.replicate k sd).map .str)):=by
 show (if 0≤(k:Int)∧[D.str sd].length * (k:Int).toNat≤lim∧(k:Int)≤lim then some (D.lst (List.replicate (k:Int).toNat [D.str sd]).flatten) else none) = _
 rw [if_pos (by unfold lim;simp;lia),flat_rep,List.map_replicate]
 simp
theorem mul_l0 {sd:Str}:binD .Mult (.lst [.str sd]) (.int ((0:Nat):Int)) = some (.lst ((List.replicate 0 sd).map .str)):=mul_l (by lia)
theorem letters_run {tr el:Ro→Sg→Option (D × Sg)} {t:Expr} {base:Ro} {g:Sg} {L:List Nat} {ys:List D} (hy:(L.filter isaA).map (fun c=>D.str (sOf [c])) = ys) (h:∀ c∈L,∃ b,tgt t (.str (sOf [c])) = some b∧tr (b++base) g = some (.bool (isaA c),g)∧el (b++base) g = some (.str (sOf [c]),g)):compK tr el t base (signs (sOf L)) g = some (ys,g):=by
 rw [← hy,signs_sOf]
 exact compK_filter fun c hc=>by
   refine zea2 (h c hc) fun b h1 h2 h3=>?_
   exact ⟨b,h1,h2,fun J=>h3⟩
theorem ex_two {T:Tbl} {mu:List Str} {n:Nat} {kd:Kd} {s1 s2:Stmt} {r:List Stmt} {z:Str} {fo:Fo} {g:Sg} {R:Option Fl} (h:∃ nm,pexec T mu (n + 1) kd s1 fo g = some (.next (setE z (.val nm) fo) g)∧pexec T mu n kd s2 (setE z (.val nm) fo) g = some (.next (setE z (.val nm) fo) g))
   (k:∀ nm,pexecs T mu n kd r (setE z (.val nm) fo) g = R):pexecs T mu (n + 2) kd (s1::s2::r) fo g = R :=
 zea h fun nm h1 h2=>ex_cons h1 (ex_cons h2 (k nm))
theorem told_eq {m L:List Nat} {gs:Sg} (H:ToldOk m L):S_told [.str (sOf m)] gs = some (.lst [.str (sOf (Tb.run m tbI).x.reverse),.str (sOf (Tb.run m tbI).y.reverse),.str (sOf (Tb.run m tbI).z.reverse)],gs++[(Tb.run m tbI).prs]):=by
 refine za (Tb.run_ok (m:=m) (s:=tbI) ⟨.inl rfl,by decide,by decide,by decide⟩) fun ok htot=>?_
 have hlen:=H.ln
 have htab:=table_eq (gs:=gs) H.ab H.ln
 change S_table [.str (sOf m)] gs = some (.hdr gs.length,gs++[(Tb.run m tbI).prs]) at htab
 have h3:3 ^ m.length * tbI.tot≤3 ^ 10 * 3:=Nat.mul_le_mul (Nat.pow_le_pow_right (by lia) H.ln) (by decide)
 have hdx:=H.dx
 have hdy:=H.dy
 have hdz:=H.dz
 have hon:=H.on
 have hkz:=H.kz
 refine zea H.sh fun lc hlc hsh=>?_
 have hsd:=H.sd
 have hkeys:=Tb.keys ok
 have getx:=getS_eq (gs:=gs) (n:=sOf [120]) lw_x cl_x hkeys (Tb.get_x ok)
 have gety:=getS_eq (gs:=gs) (n:=sOf [89]) lw_Y cl_y hkeys (Tb.get_y ok)
 have getz:=getS_eq (gs:=gs) (n:=sOf [122]) lw_z cl_z hkeys (Tb.get_z ok)
 generalize hT:Tb.run m tbI = tb at *
 generalize hS:S3.run m ⟨120,121,122⟩ = ss at *
 have htot':tb.x.length + tb.y.length + tb.z.length≤177147:=by
   have:tb.x.length + tb.y.length + tb.z.length = tb.tot:=rfl
   rw [this]
   exact Nat.le_trans htot (Nat.le_trans h3 (by decide))
 refine za2 (due_item (T:=T3) (n:=0) (kd:=fun J=>none) (ro:=[]) (g:=gs++[tb.prs]) (s:=ss.a) ok.x (by unfold lim;lia)) fun ax bx cx=>?_
 refine za2 (due_item (T:=T3) (n:=0) (kd:=fun J=>none) (ro:=[]) (g:=gs++[tb.prs]) (s:=ss.b) ok.y (by unfold lim;lia)) fun ay by' cy=>?_
 refine za2 (due_item (T:=T3) (n:=0) (kd:=fun J=>none) (ro:=[]) (g:=gs++[tb.prs]) (s:=ss.c) ok.z (by unfold lim;lia)) fun az bz cz=>?_
 rw [← hdx] at cx
 rw [← hdy] at cy
 rw [← hdz] at cz
 refine za2 (left_eq (g:=gs++[tb.prs]) H.lf H.ab (by lia)) fun hleft hLab hLl=>?_
 have hn1:=numbers_eq (g:=gs++[tb.prs]) hLab (by lia)
 have hn2:=numbers_eq (g:=gs++[tb.prs]) H.ab (by lia)
 rw [H.nm] at hn1
 have o1:S_onto [.str (sOf tb.x.reverse),.str (sOf tb.y.reverse)] (gs++[tb.prs]) = some (.str (sOf (fonto tb.y.reverse tb.x).reverse),gs++[tb.prs]) :=
   onto_eq (fun c hc=>xyz_any (ok.y c (List.mem_reverse.mp hc))) (by rw [List.length_reverse];unfold lim;lia)
 have lo1:=fonto_len (m:=tb.y.reverse) (st:=tb.x)
 rw [List.length_reverse] at lo1
 have o2:S_onto [.str (sOf (fonto tb.y.reverse tb.x).reverse),.str (sOf tb.z.reverse)] (gs++[tb.prs]) = some (.str (sOf [120,121,122]),gs++[tb.prs]):=by
   have:=onto_eq (st:=fonto tb.y.reverse tb.x) (m:=tb.z.reverse) (g:=gs++[tb.prs]) (fun c hc=>xyz_any (ok.z c (List.mem_reverse.mp hc))) (by rw [List.length_reverse];unfold lim;lia)
   rw [hon] at this
   exact this
 have incL:=(cmp_aA (H.ab lc (List.mem_of_getElem? hlc))).trans (by rw [isaA_eq (H.ab lc (List.mem_of_getElem? hlc)),hsh])
 have hlast:=item_last hlc
 have loop:∀ p,∃ q1 q2,forK (fun fo g=>pexecs T3 ["strands"] 52 (kdOf "_law_told") toldLoop fo g) (kdOf "_law_told") (.Name ("letter":Str) p) (m.map fun c=>.str (sOf [c])) (foS (.str (sOf m)) gs.length (.lst [.str (sOf tb.x.reverse),.str (sOf tb.y.reverse),.str (sOf tb.z.reverse)]) ⟨120,121,122⟩ []) (gs++[tb.prs]) =
     some (.next (foS (.str (sOf m)) gs.length (.lst [.str (sOf tb.x.reverse),.str (sOf tb.y.reverse),.str (sOf tb.z.reverse)]) ss [(("letter":Str),EV.val q1),(("k":Str),EV.val q2)]) (gs++[tb.prs])):=fun p=>by
   refine zea (str_loop (kd:=kdOf "_law_told") (p:=p) (b:=.str (sOf m)) (w:=.lst [.str (sOf tb.x.reverse),.str (sOf tb.y.reverse),.str (sOf tb.z.reverse)]) (k:=gs.length) (g:=gs++[tb.prs]) (body:=fun fo g=>pexecs T3 ["strands"] 52 (kdOf "_law_told") toldLoop fo g) rfl (fun c s tl hc ht=>told_swap (n:=22) c s tl hc ht) m ⟨120,121,122⟩ [] H.ab (.inl rfl) (.inl fun e=>by rw [e] at hlc;injection hlc)) fun tl e1q h=>?_;obtain ⟨q1,q2,e⟩:=e1q
   rw [hS,e] at h
   exact ⟨q1,q2,h⟩
 have key:pexecs T3 ["strands"] 56 (kdOf "_law_told") (bodyOf "_law_told") (valsOf [("braid",.str (sOf m))]) gs = some (.ret (.lst [.str (sOf tb.x.reverse),.str (sOf tb.y.reverse),.str (sOf tb.z.reverse)]) (gs++[tb.prs])):=by
   conv=>lhs;arg 5;whnf
   refine ex_cons (st_assign rfl (ev_fn rfl rfl rfl rfl (evs_more rfl (ev_name rfl rfl) evs_nil) (call_table3.trans htab))) ?_
   refine ex_cons (st_own (n1:=["words"]) (z:="strands") (n2:=[]) (e2:=[]) (d0:=(⟨120,121,122⟩:S3).ds) rfl rfl rfl
     (evs_more rfl (ev_comp (ds:=[.str (sOf [120]),.str (sOf [89]),.str (sOf [122])]) (g2:=gs++[tb.prs]) rfl (src_of (fun f q as p h=>by injection h) (ev_str rfl) rfl)
       (compK_step rfl rfl (ev_meth rfl (ev_name rfl rfl) (evs_more rfl (ev_name rfl rfl) evs_nil) getx)
         (compK_step rfl rfl (ev_meth rfl (ev_name rfl rfl) (evs_more rfl (ev_name rfl rfl) evs_nil) gety)
           (compK_step rfl rfl (ev_meth rfl (ev_name rfl rfl) (evs_more rfl (ev_name rfl rfl) evs_nil) getz) compK_nil))) (le_lim rfl)) evs_nil)
     (evs_more rfl (ev_str rfl) (evs_more rfl (ev_str rfl) (evs_more rfl (ev_str rfl) evs_nil))) evs_nil (le_lim rfl) rfl) ?_
   refine Exists.elim (loop _) fun q1 h=>Exists.elim h fun q2 h=>ex_cons (st_for rfl (src_of (fun f q as p h=>by injection h) (ev_name rfl rfl) rfl) h) ?_
   · skip
     refine ex_cons (st_assign rfl (ev_comp (ys:=[.str (sOf (fhead tb.x)),.str (sOf (fhead tb.y)),.str (sOf (fhead tb.z))]) (g2:=gs++[tb.prs]) rfl (src_of (fun f q as p h=>by injection h) (ev_name rfl rfl) rfl)
       (compK_step rfl rfl (ev_slice (ev_name rfl rfl) opt_none (opt_some (ev_bin (ev_bi rfl rfl rfl rfl (evs_more rfl (ev_name rfl rfl) evs_nil) call_len_s) ev_int div2) (big_nat (by rw [List.length_reverse];lia))) opt_none (by rw [List.length_reverse];exact head_slice (by unfold lim;lia)))
         (compK_step rfl rfl (ev_slice (ev_name rfl rfl) opt_none (opt_some (ev_bin (ev_bi rfl rfl rfl rfl (evs_more rfl (ev_name rfl rfl) evs_nil) call_len_s) ev_int div2) (big_nat (by rw [List.length_reverse];lia))) opt_none (by rw [List.length_reverse];exact head_slice (by unfold lim;lia)))
           (compK_step rfl rfl (ev_slice (ev_name rfl rfl) opt_none (opt_some (ev_bin (ev_bi rfl rfl rfl rfl (evs_more rfl (ev_name rfl rfl) evs_nil) call_len_s) ev_int div2) (big_nat (by rw [List.length_reverse];lia))) opt_none (by rw [List.length_reverse];exact head_slice (by unfold lim;lia))) compK_nil))) (le_lim rfl))) ?_
     refine ex_cons (st_assign_frz rfl (ev_no_comp (d:=.int ((0:Nat):Int)) (ds:=[.int ((1:Nat):Int),.int ((2:Nat):Int)]) rfl (src_rng rfl (evs_more rfl ev_int evs_nil) (rng0 (b:=3) (by lia))) rfl (ev_no_bin1 (ev_no_bin2 (ev_item (fun l u st p h=>by injection h) (ev_name rfl rfl) (ev_name rfl rfl) (fun k h=>by injection h) (item_l (i:=0) rfl)) (ev_no_item (ev_no_name rfl)))))
       (ev_comp (ys:=[.str (sOf tb.x.reverse),.str (sOf tb.y.reverse),.str (sOf tb.z.reverse)]) (ds:=[.int ((0:Nat):Int),.int ((1:Nat):Int),.int ((2:Nat):Int)]) (g2:=gs++[tb.prs]) rfl (src_rng rfl (evs_more rfl ev_int evs_nil) (rng0 (b:=3) (by lia)))
         (compK_step rfl rfl (ev_bin (ev_bin (ev_item (fun l u st p h=>by injection h) (ev_name rfl rfl) (ev_name rfl rfl) (fun k h=>by injection h) (item_l (i:=0) rfl)) (ev_item (fun l u st p h=>by injection h) (ev_name rfl rfl) (ev_name rfl rfl) (fun k h=>by injection h) (item_l (i:=0) rfl)) ax) (ev_fn rfl rfl rfl rfl (evs_more rfl (ev_item (fun l u st p h=>by injection h) (ev_name rfl rfl) (ev_name rfl rfl) (fun k h=>by injection h) (item_l (i:=0) rfl)) evs_nil) (call_undone3.trans bx)) cx) (compK_step rfl rfl (ev_bin (ev_bin (ev_item (fun l u st p h=>by injection h) (ev_name rfl rfl) (ev_name rfl rfl) (fun k h=>by injection h) (item_l (i:=1) rfl)) (ev_item (fun l u st p h=>by injection h) (ev_name rfl rfl) (ev_name rfl rfl) (fun k h=>by injection h) (item_l (i:=1) rfl)) ay) (ev_fn rfl rfl rfl rfl (evs_more rfl (ev_item (fun l u st p h=>by injection h) (ev_name rfl rfl) (ev_name rfl rfl) (fun k h=>by injection h) (item_l (i:=1) rfl)) evs_nil) (call_undone3.trans by')) cy) (compK_step rfl rfl (ev_bin (ev_bin (ev_item (fun l u st p h=>by injection h) (ev_name rfl rfl) (ev_name rfl rfl) (fun k h=>by injection h) (item_l (i:=2) rfl)) (ev_item (fun l u st p h=>by injection h) (ev_name rfl rfl) (ev_name rfl rfl) (fun k h=>by injection h) (item_l (i:=2) rfl)) az) (ev_fn rfl rfl rfl rfl (evs_more rfl (ev_item (fun l u st p h=>by injection h) (ev_name rfl rfl) (ev_name rfl rfl) (fun k h=>by injection h) (item_l (i:=2) rfl)) evs_nil) (call_undone3.trans bz)) cz) compK_nil))) (le_lim rfl)) rfl) ?_
     refine ex_cons (st_if (c:=false) (tr_or (any_f (tr_cmp (ev_name rfl rfl) (ev_name rfl rfl) eq_strs3) (any_f (tr_cmp (ev_fn rfl rfl rfl rfl (evs_more rfl (ev_fn rfl rfl rfl rfl (evs_more rfl (ev_item (fun l u st p h=>by injection h) (ev_name rfl rfl) ev_int (fun k h=>by injection h) (item_l (i:=0) rfl)) (evs_more rfl (ev_item (fun l u st p h=>by injection h) (ev_name rfl rfl) ev_int (fun k h=>by injection h) (item_l (i:=1) rfl)) evs_nil)) (call_onto3.trans o1)) (evs_more rfl (ev_item (fun l u st p h=>by injection h) (ev_name rfl rfl) ev_int (fun k h=>by injection h) (item_l (i:=2) rfl)) evs_nil)) (call_onto3.trans o2)) (ev_str rfl) rfl) any_nil))) ex_nil) ?_
     refine ex_two (z:="names") (by
         induction hsb:tb.sh using Bool.casesOn
         · rw [hsb] at incL
           have hprs:tb.prs = [(("x":Str),(sOf tb.x.reverse)),(("y":Str),(sOf tb.y.reverse)),(sOf [90],(sOf tb.z.reverse))]:=by unfold Tb.prs;rw [hsb,hkz]
           have kvk:kvS false [.hdr gs.length] (gs++[tb.prs]) = some (.lst [.str "x",.str "y",.str (sOf [90])],gs++[tb.prs]):=by rw [kv_eq,hprs];rfl
           have kvv:kvS true [.hdr gs.length] (gs++[tb.prs]) = some (.lst [.str (sOf tb.x.reverse),.str (sOf tb.y.reverse),.str (sOf tb.z.reverse)],gs++[tb.prs]):=by rw [kv_eq,hprs];rfl
           exact ⟨_,(st_assign rfl (ev_if (c:=false) (tr_cmp (ev_item (fun l u st p h=>by injection h) (ev_name rfl rfl) (ev_neg ev_int) (fun k h=>by injection h) hlast) (ev_str rfl) incL) (ev_list (evs_more rfl (ev_str rfl) (evs_more rfl (ev_str rfl) (evs_more rfl (ev_str rfl) evs_nil))) (le_lim rfl)))),(st_if (c:=false) (tr_or (any_f (tr_cmp (ev_meth rfl (ev_name rfl rfl) evs_nil kvk) (ev_name rfl rfl) eq_strs3) (any_f (tr_cmp (ev_meth rfl (ev_name rfl rfl) evs_nil kvv) (ev_comp (ys:=[.str (sOf tb.x.reverse),.str (sOf tb.y.reverse),.str (sOf tb.z.reverse)]) (g2:=gs++[tb.prs]) rfl (src_of (fun f q as p h=>by injection h) (ev_name rfl rfl) rfl) (compK_step rfl rfl (ev_item (fun l u st p h=>by injection h) (ev_name rfl rfl) (ev_meth rfl (ev_str rfl) (evs_more rfl (ev_meth rfl (ev_name rfl rfl) evs_nil (meth_low lw_x rfl)) evs_nil) idx_x) (fun k h=>by injection h) (item_l (i:=0) rfl)) (compK_step rfl rfl (ev_item (fun l u st p h=>by injection h) (ev_name rfl rfl) (ev_meth rfl (ev_str rfl) (evs_more rfl (ev_meth rfl (ev_name rfl rfl) evs_nil (meth_low lw_y rfl)) evs_nil) idx_y) (fun k h=>by injection h) (item_l (i:=1) rfl)) (compK_step rfl rfl (ev_item (fun l u st p h=>by injection h) (ev_name rfl rfl) (ev_meth rfl (ev_str rfl) (evs_more rfl (ev_meth rfl (ev_name rfl rfl) evs_nil (meth_low lw_Z rfl)) evs_nil) idx_z) (fun k h=>by injection h) (item_l (i:=2) rfl)) compK_nil))) (le_lim rfl)) eq_strs3) any_nil))) ex_nil)⟩
         · rw [hsb] at incL
           have hprs:tb.prs = [(sOf [90],(sOf tb.z.reverse)),(("x":Str),(sOf tb.x.reverse)),(("Y":Str),(sOf tb.y.reverse))]:=by unfold Tb.prs;rw [hsb,hkz]
           have kvk:kvS false [.hdr gs.length] (gs++[tb.prs]) = some (.lst [.str (sOf [90]),.str "x",.str "Y"],gs++[tb.prs]):=by rw [kv_eq,hprs];rfl
           have kvv:kvS true [.hdr gs.length] (gs++[tb.prs]) = some (.lst [.str (sOf tb.z.reverse),.str (sOf tb.x.reverse),.str (sOf tb.y.reverse)],gs++[tb.prs]):=by rw [kv_eq,hprs];rfl
           exact ⟨_,(st_assign rfl (ev_if (c:=true) (tr_cmp (ev_item (fun l u st p h=>by injection h) (ev_name rfl rfl) (ev_neg ev_int) (fun k h=>by injection h) hlast) (ev_str rfl) incL) (ev_list (evs_more rfl (ev_str rfl) (evs_more rfl (ev_str rfl) (evs_more rfl (ev_str rfl) evs_nil))) (le_lim rfl)))),(st_if (c:=false) (tr_or (any_f (tr_cmp (ev_meth rfl (ev_name rfl rfl) evs_nil kvk) (ev_name rfl rfl) eq_strs3) (any_f (tr_cmp (ev_meth rfl (ev_name rfl rfl) evs_nil kvv) (ev_comp (ys:=[.str (sOf tb.z.reverse),.str (sOf tb.x.reverse),.str (sOf tb.y.reverse)]) (g2:=gs++[tb.prs]) rfl (src_of (fun f q as p h=>by injection h) (ev_name rfl rfl) rfl) (compK_step rfl rfl (ev_item (fun l u st p h=>by injection h) (ev_name rfl rfl) (ev_meth rfl (ev_str rfl) (evs_more rfl (ev_meth rfl (ev_name rfl rfl) evs_nil (meth_low lw_Z rfl)) evs_nil) idx_z) (fun k h=>by injection h) (item_l (i:=2) rfl)) (compK_step rfl rfl (ev_item (fun l u st p h=>by injection h) (ev_name rfl rfl) (ev_meth rfl (ev_str rfl) (evs_more rfl (ev_meth rfl (ev_name rfl rfl) evs_nil (meth_low lw_x rfl)) evs_nil) idx_x) (fun k h=>by injection h) (item_l (i:=0) rfl)) (compK_step rfl rfl (ev_item (fun l u st p h=>by injection h) (ev_name rfl rfl) (ev_meth rfl (ev_str rfl) (evs_more rfl (ev_meth rfl (ev_name rfl rfl) evs_nil (meth_low lw_Y rfl)) evs_nil) idx_y) (fun k h=>by injection h) (item_l (i:=1) rfl)) compK_nil))) (le_lim rfl)) eq_strs3) any_nil))) ex_nil)⟩) fun nm=>?_
     refine ex_cons (st_unpack (fun es k p h=>by injection h) (ev_fn rfl rfl rfl rfl (evs_more rfl (ev_name rfl rfl) evs_nil) (call_left3.trans hleft)) rfl) ?_
     rcases hsd with ⟨hx,hf⟩ | ⟨h0,t,n,hx,hne,⟨hh,hf⟩ | ⟨hh,hf⟩⟩
     · refine ex_cons (st_assign rfl (ev_if (c:=true) (tr_cmp (ev_item (fun l u st p h=>by injection h) (ev_name rfl rfl) ev_int (fun k h=>by injection h) (item_l (i:=0) rfl)) (ev_str rfl) (by rw [cmp_eq_s,hx];rfl)) (ev_str rfl))) ?_
       refine ex_cons (st_assign rfl (ev_comp (ys:=(List.replicate 0 ("":Str)).map .str) (g2:=gs++[tb.prs]) rfl (src_of (fun f q as p h=>by injection h) (ev_name rfl rfl) rfl) (letters_run (by rw [hf];rfl) (fun c hc=>⟨_,rfl,tr_in (tr_cmp (ev_name rfl rfl) (ev_str rfl) ((cmp_aA (hLab c hc)).trans (by rw [isaA_eq (hLab c hc)]))),ev_name rfl rfl⟩)) (le_lim rfl))) ?_
       refine ex_cons (st_if (c:=false) (tr_or (any_f (tr_not (c:=true) (tr_name (ev_name rfl rfl) rfl)) (any_f (tr_cmp (ev_name rfl rfl) (ev_bin (ev_list (evs_more rfl (ev_name rfl rfl) evs_nil) (le_lim rfl)) (ev_bi rfl rfl rfl rfl (evs_more rfl (ev_name rfl rfl) evs_nil) call_len_l) mul_l0) ne_same) (any_f (tr_cmp (ev_cmp (ev_name rfl rfl) (ev_list evs_nil (le_lim rfl)) eq_nil_strs) (ev_cmp (c:=true) (ev_name rfl rfl) (ev_str rfl) rfl) rfl) any_nil)))) ex_nil) ?_
       exact ex_ret (st_return (ev_if (c:=true) (tr_cmp (ev_fn rfl rfl rfl rfl (evs_more rfl (ev_name rfl rfl) evs_nil) (call_numbers3.trans hn1)) (ev_fn rfl rfl rfl rfl (evs_more rfl (ev_name rfl rfl) evs_nil) (call_numbers3.trans hn2)) (eq_ints.trans (by simp))) (ev_name rfl rfl)))
     · have hk:n + 1≤10:=by
         have h1:=List.length_filter_le isaA L
         rw [hf,List.length_replicate] at h1
         lia
       refine ex_cons (st_assign rfl (ev_if (c:=false) (tr_cmp (ev_item (fun l u st p h=>by injection h) (ev_name rfl rfl) ev_int (fun k h=>by injection h) (item_l (i:=0) rfl)) (ev_str rfl) (by rw [cmp_eq_s,show (("x":Str)) = sOf [120] from rfl,sOf_beq];exact congrArg some (beq_eq_false_iff_ne.mpr fun h=>hne (List.reverse_eq_iff.mp h)))) (ev_if (c:=true) (tr_cmp (ev_slice (ev_item (fun l u st p h=>by injection h) (ev_name rfl rfl) ev_int (fun k h=>by injection h) (item_l (i:=0) rfl)) (opt_some (ev_neg ev_int) rfl) opt_none opt_none (by rw [hx];exact slice_last (by rw [← hx];unfold lim;lia))) (ev_str rfl) (by rw [cmp_eq_s,hh];rfl)) (ev_str rfl)))) ?_
       refine ex_cons (st_assign rfl (ev_comp (ys:=(List.replicate (n + 1) ("a":Str)).map .str) (g2:=gs++[tb.prs]) rfl (src_of (fun f q as p h=>by injection h) (ev_name rfl rfl) rfl) (letters_run (by rw [hf,List.map_replicate,List.map_replicate];rfl) (fun c hc=>⟨_,rfl,tr_in (tr_cmp (ev_name rfl rfl) (ev_str rfl) ((cmp_aA (hLab c hc)).trans (by rw [isaA_eq (hLab c hc)]))),ev_name rfl rfl⟩)) (by rw [List.length_map,List.length_replicate];unfold lim;lia))) ?_
       refine ex_cons (st_if (c:=false) (tr_or (any_f (tr_not (c:=true) (tr_name (ev_name rfl rfl) rfl)) (any_f (tr_cmp (ev_name rfl rfl) (ev_bin (ev_list (evs_more rfl (ev_name rfl rfl) evs_nil) (le_lim rfl)) (ev_bi rfl rfl rfl rfl (evs_more rfl (ev_name rfl rfl) evs_nil) call_len_l) (by rw [List.length_map,List.length_replicate];exact mul_l (by lia))) ne_same) (any_f (tr_cmp (ev_cmp (ev_name rfl rfl) (ev_list evs_nil (le_lim rfl)) eq_nil_strs) (ev_cmp (c:=false) (ev_name rfl rfl) (ev_str rfl) rfl) rfl) any_nil)))) ex_nil) ?_
       exact ex_ret (st_return (ev_if (c:=true) (tr_cmp (ev_fn rfl rfl rfl rfl (evs_more rfl (ev_name rfl rfl) evs_nil) (call_numbers3.trans hn1)) (ev_fn rfl rfl rfl rfl (evs_more rfl (ev_name rfl rfl) evs_nil) (call_numbers3.trans hn2)) (eq_ints.trans (by simp))) (ev_name rfl rfl)))
     · have hk:n + 1≤10:=by
         have h1:=List.length_filter_le isaA L
         rw [hf,List.length_replicate] at h1
         lia
       refine ex_cons (st_assign rfl (ev_if (c:=false) (tr_cmp (ev_item (fun l u st p h=>by injection h) (ev_name rfl rfl) ev_int (fun k h=>by injection h) (item_l (i:=0) rfl)) (ev_str rfl) (by rw [cmp_eq_s,show (("x":Str)) = sOf [120] from rfl,sOf_beq];exact congrArg some (beq_eq_false_iff_ne.mpr fun h=>hne (List.reverse_eq_iff.mp h)))) (ev_if (c:=false) (tr_cmp (ev_slice (ev_item (fun l u st p h=>by injection h) (ev_name rfl rfl) ev_int (fun k h=>by injection h) (item_l (i:=0) rfl)) (opt_some (ev_neg ev_int) rfl) opt_none opt_none (by rw [hx];exact slice_last (by rw [← hx];unfold lim;lia))) (ev_str rfl) (by rw [cmp_eq_s,show (("X":Str)) = sOf [88] from rfl,sOf_beq];simpa using hh)) (ev_str rfl)))) ?_
       refine ex_cons (st_assign rfl (ev_comp (ys:=(List.replicate (n + 1) ("A":Str)).map .str) (g2:=gs++[tb.prs]) rfl (src_of (fun f q as p h=>by injection h) (ev_name rfl rfl) rfl) (letters_run (by rw [hf,List.map_replicate,List.map_replicate];rfl) (fun c hc=>⟨_,rfl,tr_in (tr_cmp (ev_name rfl rfl) (ev_str rfl) ((cmp_aA (hLab c hc)).trans (by rw [isaA_eq (hLab c hc)]))),ev_name rfl rfl⟩)) (by rw [List.length_map,List.length_replicate];unfold lim;lia))) ?_
       refine ex_cons (st_if (c:=false) (tr_or (any_f (tr_not (c:=true) (tr_name (ev_name rfl rfl) rfl)) (any_f (tr_cmp (ev_name rfl rfl) (ev_bin (ev_list (evs_more rfl (ev_name rfl rfl) evs_nil) (le_lim rfl)) (ev_bi rfl rfl rfl rfl (evs_more rfl (ev_name rfl rfl) evs_nil) call_len_l) (by rw [List.length_map,List.length_replicate];exact mul_l (by lia))) ne_same) (any_f (tr_cmp (ev_cmp (ev_name rfl rfl) (ev_list evs_nil (le_lim rfl)) eq_nil_strs) (ev_cmp (c:=false) (ev_name rfl rfl) (ev_str rfl) rfl) rfl) any_nil)))) ex_nil) ?_
       exact ex_ret (st_return (ev_if (c:=true) (tr_cmp (ev_fn rfl rfl rfl rfl (evs_more rfl (ev_name rfl rfl) evs_nil) (call_numbers3.trans hn1)) (ev_fn rfl rfl rfl rfl (evs_more rfl (ev_name rfl rfl) evs_nil) (call_numbers3.trans hn2)) (eq_ints.trans (by simp))) (ev_name rfl rfl)))
 exact sum_eq ["braid"] (l:=[("braid",.str (sOf m))]) rfl rfl (by decide +kernel) key
end Mine
end
section
set_option tactic.hygienic false
open PySem PySem.W PySem.Calls PyProof.Rows
set_option maxRecDepth 100000
set_option maxHeartbeats 8000000
namespace Mine
open Builtin Builtin.Str StrLaws
noncomputable def F4 (f:Str):Option Summ:=if f==("_law_told":Str) then some S_told else F3 f
noncomputable def T4:Tbl:=hT F4
theorem call_replace4 {ys:List D} {g:Sg}:pcall T4 "replace" ys g = S_replace ys g:=rfl
theorem call_put4 {ys:List D} {g:Sg}:pcall T4 "_law_put" ys g = S_put ys g:=rfl
theorem call_told4 {ys:List D} {g:Sg}:pcall T4 "_law_told" ys g = S_told ys g:=rfl
theorem call_left4 {ys:List D} {g:Sg}:pcall T4 "_law_left" ys g = S_left ys g:=rfl
theorem call_numbers4 {ys:List D} {g:Sg}:pcall T4 "_law_numbers" ys g = S_numbers ys g:=rfl
noncomputable def S_law:Summ:=sumOf T4 [] 56 (scOf "law") (bodyOf "law") (plainBnd ["script"])
noncomputable def rows8:List (List (List Nat × List Nat)):=[
 [([97,98,98,65],[66,97,97,98])],
 [([97,98],[98,97])],
 [([97,98,97],[98,97,98]),([65,66,65],[66,65,66])],
 [([97],[98])],
 [([98,65],[65,98])],
 [([97],[46]),([98],[97]),([46],[98]),([65],[46]),([66],[65]),([46],[66])],
 [([97,98,65],[66,97,98]),([97,66,65],[66,65,98]),([65,98,97],[98,97,66]),([65,66,97],[98,65,66])],
 [([98,98],[98])]]
noncomputable def back6:List (List Nat × List Nat):=[([97],[46]),([65],[97]),([46],[65]),([98],[46]),([66],[98]),([46],[66])]
theorem rows_ok:∀ r∈rows8,(∀ p∈r,pairOk p)∧r.length≤6:=by
 intro r hr
 simp only [rows8,List.mem_cons,List.not_mem_nil,or_false] at hr
 rcases hr with rfl | rfl | rfl | rfl | rfl | rfl | rfl | rfl
 all_goals
   refine ⟨fun p hp=>?_,by decide⟩
   simp only [List.mem_cons,List.not_mem_nil,or_false] at hp
   first
     | (rcases hp with rfl | rfl | rfl | rfl | rfl | rfl<;>exact ⟨by decide,by decide,by decide,by decide⟩)
     | (rcases hp with rfl | rfl | rfl | rfl<;>exact ⟨by decide,by decide,by decide,by decide⟩)
     | (rcases hp with rfl | rfl<;>exact ⟨by decide,by decide,by decide,by decide⟩)
     | (subst hp;exact ⟨by decide,by decide,by decide,by decide⟩)
theorem back_ok:∀ p∈back6,pairOk p:=by
 intro p hp
 simp only [back6,List.mem_cons,List.not_mem_nil,or_false] at hp
 rcases hp with rfl | rfl | rfl | rfl | rfl | rfl<;>exact ⟨by decide,by decide,by decide,by decide⟩
noncomputable def tri (m:List Nat):List Nat × List Nat × List Nat:=((Tb.run m tbI).x,(Tb.run m tbI).y,(Tb.run m tbI).z)
structure LawOk (m o L1 L2 L3:List Nat):Prop where
 t1:ToldOk m L1
 t2:ToldOk o L2
 bk:∀ c∈frepAll back6 o,isAB c = true
 lf:fleft 50 (m++(frepAll back6 o).reverse) = some L3
 nm:fnums (L3++o) = fnums m
 e1:L3.isEmpty = (fnums m==fnums o)
 e2:(tri m==tri o) = (fnums m==fnums o)
noncomputable def let4 (x:Int):Nat:=match (x % 4).toNat with
 | 0=>97
 | 1=>65
 | 2=>98
 | _=>66
noncomputable def rowOf (xs:List Int):Nat:=((xs.map (· / 4)).sum % 8).toNat
theorem let4_item (x:Int):itemD (.str "aAbB") (.int (x % 4)) = some (.str (sOf [let4 x])):=by
 have h1:0≤x % 4:=Int.emod_nonneg _ (by decide)
 have h2:x % 4 < 4:=Int.emod_lt_of_pos _ (by decide)
 unfold let4
 rcases (by lia:x % 4 = 0∨x % 4 = 1∨x % 4 = 2∨x % 4 = 3) with e | e | e | e<;>rw [e]<;>rfl
theorem eq_tri {a b c a' b' c':List Nat}:cmpD .Eq (.lst [.str (sOf a.reverse),.str (sOf b.reverse),.str (sOf c.reverse)]) (.lst [.str (sOf a'.reverse),.str (sOf b'.reverse),.str (sOf c'.reverse)]) = some ((a,b,c)==(a',b',c')):=by
 show some ((sOf a.reverse==sOf a'.reverse)&&((sOf b.reverse==sOf b'.reverse)&&((sOf c.reverse==sOf c'.reverse)&&true))) = _
 rw [sOf_beq,sOf_beq,sOf_beq]
 congr 1
 rw [Bool.eq_iff_iff]
 simp
theorem eq_bool {a b:Bool}:cmpD .Eq (.bool a) (.bool b) = some (a==b):=rfl
theorem empty_str {L:List Nat}:cmpD .Eq (.str (sOf L)) (.str "") = some L.isEmpty:=by
 rw [cmp_eq_s,show (("":Str)) = sOf [] from rfl,sOf_beq]
 induction L using List.casesOn<;>rfl
theorem mod_i {x y:Int} (h:0 < y):binD .Mod (.int x) (.int y) = some (.int (x % y)):=by
 show (if 0 < y then some (D.int (x % y)) else none) = _
 rw [if_pos h]
theorem div_4 {x:Int}:binD .FloorDiv (.int x) (.int 4) = some (.int (x / 4)):=rfl
theorem evs_rep {T:Tbl} {n:Nat} {kd:Kd} {ro:Ro} {g g1 g2:Sg} {e e2:Expr} {p:Pos} {d:D} {l:List D} (hp:plainE e2 = true) (h0:pev T n kd ro e2 g = some (d,g1)) (h1:pev T n kd ro e g1 = some (.tup l,g2)):evs (pev T n kd ro) [e2,.Starred e p] g = some (d::l,g2):=evs_plain_star hp h0 h1
end Mine
end
section
open PySem PySem.W PySem.Calls PyProof.Rows
set_option maxRecDepth 100000
set_option maxHeartbeats 8000000
namespace Mine
open Builtin Builtin.Str StrLaws
noncomputable def braidOf (xs:List Int):List Nat:=(xs.take 4).map let4++[97,98,98,65]
theorem law_eq {xs:List Int} {row:List (List Nat × List Nat)} {L1 L2 L3:List Nat} (hrow:rows8[rowOf (xs.take 4)]? = some row) (H:LawOk (braidOf xs) (frepAll row (braidOf xs)) L1 L2 L3):∃ gs,S_law [.lst (xs.map .int)] [] = some (.bool true,gs):=by
 generalize hm:braidOf xs = m at *
 generalize ho:frepAll row m = o at *
 have hml:=H.t1.ln
 have hol:=H.t2.ln
 have hmab:=H.t1.ab
 have hoab:=H.t2.ab
 have hrowm:=rows_ok row (List.mem_of_getElem? hrow)
 generalize hg1:([]:Sg)++[(Tb.run m tbI).prs] = g1
 generalize hg2:g1++[(Tb.run o tbI).prs] = g2
 have told1:=told_eq (gs:=[]) H.t1
 rw [hg1] at told1
 have told2:=told_eq (gs:=g1) H.t2
 rw [hg2] at told2
 have hbl:(frepAll back6 o).length≤o.length:=frepAll_len back_ok
 have rep:S_replace (.str (sOf o)::flatP back6) g2 = some (.str (sOf (frepAll back6 o)),g2):=replace_eq back_ok (by lia) (by decide)
 have hab:∀ c∈m++(frepAll back6 o).reverse,isAB c = true:=by
   intro c hc
   rcases List.mem_append.mp hc with h | h
   · exact hmab c h
   · exact H.bk c (List.mem_reverse.mp h)
 have hlen:(m++(frepAll back6 o).reverse).length≤20:=by rw [List.length_append,List.length_reverse];lia
 refine za2 (left_eq (g:=g2) H.lf hab (by lia)) fun left lab lln=>?_
 have n1:=numbers_eq (g:=g2) hmab (by lia)
 have n2:=numbers_eq (g:=g2) hoab (by lia)
 have n3:=numbers_eq (m:=L3++o) (g:=g2) (fun c hc=>by
   rcases List.mem_append.mp hc with h | h
   · exact lab c h
   · exact hoab c h) (by rw [List.length_append];lia)
 rw [H.nm] at n3
 have join:=meth_join (T:=T4) (g:=[]) (l:=(xs.take 4).map let4) (by rw [List.length_map,List.length_take];unfold lim;lia)
 rw [List.map_map] at join
 have hidx:((xs.take 4).map (· / 4)).sum % 8 = ((rowOf (xs.take 4):Nat):Int):=by
   unfold rowOf
   have:=Int.emod_nonneg ((xs.take 4).map (· / 4)).sum (show (8:Int)≠0 by decide)
   lia
 have hoth:((rows8.map fun r=>sOf (frepAll r m)).map D.str)[rowOf (xs.take 4)]? = some (.str (sOf o)):=by
   rw [List.getElem?_map,List.getElem?_map,hrow,← ho];rfl
 refine ⟨g2,?_⟩
 have key:pexecs T4 [] 56 (kdOf "law") (bodyOf "law") (valsOf [("script",.lst (xs.map .int))]) [] = some (.ret (.bool true) g2):=by
   conv=>lhs;arg 5;whnf
   refine ex_cons (st_assign rfl (ev_slice (d:=.lst ((xs.take 4).map .int)) (ev_name rfl rfl) opt_none (opt_some ev_int rfl) opt_none (slice_l ?_))) ?_
   · have e2:clipN (some 4) (xs.map D.int).length (xs.map D.int).length = min 4 xs.length:=by rw [List.length_map];exact clipN_min (i:=4)
     rw [e2,show clipN none 0 (xs.map D.int).length = 0 from rfl,List.drop_zero,Nat.sub_zero,List.map_take]
     by_cases h:4≤xs.length
     · rw [Nat.min_eq_left h]
     · rw [Nat.min_eq_right (by lia),List.take_of_length_le (by rw [List.length_map];lia),List.take_of_length_le (by rw [List.length_map];lia)]
   refine ex_cons (st_assign (d:=.str (sOf m)) rfl (ev_bin (ev_meth rfl (ev_str rfl) (evs_more rfl (ev_comp (ys:=(xs.take 4).map fun x=>.str (sOf [let4 x])) (g2:=[]) rfl (src_of (fun f q as p h=>by injection h) (ev_name rfl rfl) rfl)
     (compK_map fun x hx=>⟨_,rfl,rfl,ev_item (fun l u st p h=>by injection h) (ev_str rfl) (ev_bin (ev_name rfl rfl) ev_int (mod_i (by decide))) (fun k h=>by injection h) (let4_item x)⟩) (by rw [List.length_map,List.length_take];unfold lim;lia)) evs_nil) join) (ev_str rfl) ((add_s (b:=[97,98,98,65]) (by rw [List.length_map,List.length_take];simp;unfold lim;lia)).trans (by rw [← hm];rfl)))) ?_
   refine ex_cons (st_assign (d:=.tup (rows8.map fun r=>.tup (flatP r))) rfl (ev_tup (evs_more rfl (ev_tup (evs_more rfl (ev_str rfl) (evs_more rfl (ev_str rfl) evs_nil)) (le_lim rfl)) (evs_more rfl (ev_tup (evs_more rfl (ev_str rfl) (evs_more rfl (ev_str rfl) evs_nil)) (le_lim rfl)) (evs_more rfl (ev_tup (evs_more rfl (ev_str rfl) (evs_more rfl (ev_str rfl) (evs_more rfl (ev_str rfl) (evs_more rfl (ev_str rfl) evs_nil)))) (le_lim rfl)) (evs_more rfl (ev_tup (evs_more rfl (ev_str rfl) (evs_more rfl (ev_str rfl) evs_nil)) (le_lim rfl)) (evs_more rfl (ev_tup (evs_more rfl (ev_str rfl) (evs_more rfl (ev_str rfl) evs_nil)) (le_lim rfl)) (evs_more rfl (ev_tup (evs_more rfl (ev_str rfl) (evs_more rfl (ev_str rfl) (evs_more rfl (ev_str rfl) (evs_more rfl (ev_str rfl) (evs_more rfl (ev_str rfl) (evs_more rfl (ev_str rfl) (evs_more rfl (ev_str rfl) (evs_more rfl (ev_str rfl) (evs_more rfl (ev_str rfl) (evs_more rfl (ev_str rfl) (evs_more rfl (ev_str rfl) (evs_more rfl (ev_str rfl) evs_nil)))))))))))) (le_lim rfl)) (evs_more rfl (ev_tup (evs_more rfl (ev_str rfl) (evs_more rfl (ev_str rfl) (evs_more rfl (ev_str rfl) (evs_more rfl (ev_str rfl) (evs_more rfl (ev_str rfl) (evs_more rfl (ev_str rfl) (evs_more rfl (ev_str rfl) (evs_more rfl (ev_str rfl) evs_nil)))))))) (le_lim rfl)) (evs_more rfl (ev_tup (evs_more rfl (ev_str rfl) (evs_more rfl (ev_str rfl) evs_nil)) (le_lim rfl)) evs_nil)))))))) (le_lim rfl))) ?_
   refine ex_cons (st_assign rfl (ev_comp (ys:=(rows8.map fun r=>sOf (frepAll r m)).map D.str) (g2:=[]) rfl (src_of (fun f q as p h=>by injection h) (ev_name rfl rfl) rfl) ?_ (le_lim rfl))) ?_
   · rw [List.map_map]
     refine compK_map fun r hr=>⟨_,rfl,rfl,?_⟩
     exact ev_fn rfl rfl rfl rfl (evs_rep rfl (ev_name rfl rfl) (ev_name rfl rfl)) (call_replace4.trans (replace_eq (rows_ok r hr).1 (by lia) (by have:=(rows_ok r hr).2;lia)))
   refine ex_cons (st_if (c:=false) (tr_cmp (ev_name rfl rfl) (ev_comp (ys:=(rows8.map fun r=>sOf (frepAll r m)).map D.str) (g2:=[]) rfl (src_of (fun f q as p h=>by injection h) (ev_name rfl rfl) rfl) ?_ (le_lim rfl)) ne_same) ex_nil) ?_
   · rw [List.map_map]
     refine compK_map fun r hr=>⟨_,rfl,rfl,?_⟩
     exact ev_fn rfl rfl rfl rfl (evs_more rfl (ev_name rfl rfl) (evs_more rfl (ev_name rfl rfl) evs_nil)) (call_put4.trans (put_eq (rows_ok r hr).1 (by lia) (rows_ok r hr).2))
   refine ex_cons (st_assign (d:=.str (sOf o)) rfl (ev_item (fun l u st p h=>by injection h) (ev_name rfl rfl) (ev_bin (d:=.int (rowOf (xs.take 4):Nat)) (ev_bi rfl rfl rfl rfl (evs_more rfl (ev_comp (ys:=((xs.take 4).map (· / 4)).map D.int) (g2:=[]) rfl (src_of (fun f q as p h=>by injection h) (ev_name rfl rfl) rfl) ?_ (by rw [List.length_map,List.length_map,List.length_take];unfold lim;lia)) evs_nil) call_sum) ev_int ((mod_i (by decide)).trans (by rw [hidx]))) (fun k h=>by injection h) (item_l hoth))) ?_
   · rw [List.map_map (g:=D.int)]
     refine compK_map fun x hx=>⟨_,rfl,rfl,?_⟩
     exact ev_bin (ev_name rfl rfl) ev_int div_4
   refine ex_cons (st_swap (names:=["one","two"]) rfl (ev_tup (evs_more rfl (ev_fn rfl rfl rfl rfl (evs_more rfl (ev_name rfl rfl) evs_nil) (call_told4.trans told1)) (evs_more rfl (ev_fn rfl rfl rfl rfl (evs_more rfl (ev_name rfl rfl) evs_nil) (call_told4.trans told2)) evs_nil)) (le_lim rfl)) rfl rfl rfl) ?_
   refine ex_cons (st_if (c:=false) (tr_or (any_f (tr_cmp (ev_name rfl rfl) ev_none rfl) (any_f (tr_cmp (ev_name rfl rfl) ev_none rfl) any_nil))) ex_nil) ?_
   refine ex_cons (st_assign rfl (ev_slice (ev_fn rfl rfl rfl rfl (evs_more rfl (ev_name rfl rfl) (evs_more rfl (ev_str rfl) (evs_more rfl (ev_str rfl) (evs_more rfl (ev_str rfl) (evs_more rfl (ev_str rfl) (evs_more rfl (ev_str rfl) (evs_more rfl (ev_str rfl) (evs_more rfl (ev_str rfl) (evs_more rfl (ev_str rfl) (evs_more rfl (ev_str rfl) (evs_more rfl (ev_str rfl) (evs_more rfl (ev_str rfl) (evs_more rfl (ev_str rfl) evs_nil))))))))))))) (call_replace4.trans rep)) opt_none opt_none (opt_some (ev_neg ev_int) rfl) (slice_rev (by unfold lim;lia)))) ?_
   refine ex_cons (st_unpack (fun es k p h=>by injection h) (ev_fn rfl rfl rfl rfl (evs_more rfl (ev_bin (ev_name rfl rfl) (ev_name rfl rfl) (add_s (by rw [List.length_reverse];unfold lim;lia))) evs_nil) (call_left4.trans left)) rfl) ?_
   refine ex_cons (st_assign (d:=.bool (fnums m==fnums o)) rfl (ev_cmp (ev_fn rfl rfl rfl rfl (evs_more rfl (ev_name rfl rfl) evs_nil) (call_numbers4.trans n1)) (ev_fn rfl rfl rfl rfl (evs_more rfl (ev_name rfl rfl) evs_nil) (call_numbers4.trans n2)) eq_ints)) ?_
   refine ex_cons (st_if (c:=false) (tr_or (any_f (tr_not (c:=true) (tr_name (ev_name rfl rfl) rfl)) (any_f (tr_cmp (ev_fn rfl rfl rfl rfl (evs_more rfl (ev_bin (ev_name rfl rfl) (ev_name rfl rfl) (add_s (by unfold lim;lia))) evs_nil) (call_numbers4.trans n3)) (ev_fn rfl rfl rfl rfl (evs_more rfl (ev_name rfl rfl) evs_nil) (call_numbers4.trans n1)) (ne_ints.trans (by simp))) any_nil))) ex_nil) ?_
   have e1:(L3.isEmpty==(fnums m==fnums o)) = true:=by rw [H.e1];simp
   have e2:(tri m==tri o) = (fnums m==fnums o):=H.e2
   refine ex_ret (st_return (ev_and (c:=true) (x:=.bool true) (ev_cmp (ev_cmp (ev_name rfl rfl) (ev_str rfl) empty_str) (ev_name rfl rfl) (eq_bool.trans (by rw [e1]))) rfl ((if_pos rfl).trans (ev_cmp (ev_cmp (ev_name rfl rfl) (ev_name rfl rfl) eq_tri) (ev_name rfl rfl) (eq_bool.trans ?_)))))
   show some (((tri m==tri o)==(fnums m==fnums o)):Bool) = some true
   rw [e2];simp
 exact sum_eq ["script"] (l:=[("script",.lst (xs.map .int))]) rfl rfl (by decide +kernel) key
end Mine
end
section
set_option tactic.hygienic false
open PySem PySem.W PySem.Calls PyProof.Rows
set_option maxRecDepth 100000
set_option maxHeartbeats 8000000
namespace Mine
noncomputable def ieq:Int→Int→Bool
 | .ofNat a,.ofNat b=>Nat.beq a b
 | .negSucc a,.negSucc b=>Nat.beq a b
 | _,_=>false
theorem ieq_eq (a b:Int):ieq a b = (a==b):=by
 rw [Bool.eq_iff_iff,beq_iff_eq]
 induction a using Int.casesOn with
 | ofNat a=>induction b using Int.casesOn with
   | ofNat b=>show Nat.beq a b = true↔_;rw [Nat.beq_eq,Int.ofNat.injEq]
   | negSucc b=>exact ⟨fun h=>Bool.noConfusion (show false = true from h),fun h=>nomatch h⟩
 | negSucc a=>induction b using Int.casesOn with
   | ofNat b=>exact ⟨fun h=>Bool.noConfusion (show false = true from h),fun h=>nomatch h⟩
   | negSucc b=>show Nat.beq a b = true↔_;rw [Nat.beq_eq,Int.negSucc.injEq]
noncomputable def feqI:List Int→List Int→Bool
 | [],[]=>true
 | a::r,b::s=>match ieq a b with
   | true=>feqI r s
   | false=>false
 | _,_=>false
theorem feqI_eq:∀ a b:List Int,feqI a b = (a==b)
 | [],[]=>rfl
 | [],_::_=>rfl
 | _::_,[]=>rfl
 | a::r,b::s=>by
   show (match ieq a b with | true=>feqI r s | false=>false) = _
   have ih:=feqI_eq r s
   rw [List.cons_beq_cons,← ieq_eq]
   induction ieq a b using Bool.casesOn<;>simp [ih]
noncomputable def beqB:Bool→Bool→Bool
 | true,b=>b
 | false,true=>false
 | false,false=>true
theorem beqB_iff {a b:Bool}:beqB a b = true↔a = b:=by induction a using Bool.casesOn<;>induction b using Bool.casesOn<;>decide
noncomputable def fand (a b:Bool):Bool:=match a with
 | true=>b
 | false=>false
theorem fand_iff {a b:Bool}:fand a b = true↔a = true∧b = true:=by
 induction a using Bool.casesOn
 · exact ⟨fun h=>Bool.noConfusion (show false = true from h),fun h=>nomatch h.1⟩
 · exact ⟨fun h=>⟨rfl,h⟩,fun h=>h.2⟩
noncomputable def fall (k:Nat):List Nat→Bool
 | []=>true
 | c::r=>fand (Nat.beq c k) (fall k r)
theorem fall_rep {k:Nat}:∀ {l:List Nat},fall k l = true→l = List.replicate l.length k
 | [],_=>rfl
 | c::r,h=>by
   refine za (fand_iff.mp h) fun h1 h2=>?_
   rw [List.length_cons,List.replicate_succ,← fall_rep h2,Nat.eq_of_beq_eq_true h1]
noncomputable def chkS (x l:List Nat):Bool:=match x with
 | []=>false
 | h::t=>match feq (h::t) [120] with
   | true=>match l with
     | []=>true
     | _::_=>false
   | false=>match l with
     | []=>false
     | c::r=>fall (match Nat.beq h 88 with
       | true=>97
       | false=>65) (c::r)
theorem chkS_ok {x l:List Nat} (h:chkS x l = true):(x = [120]∧l = [])∨(∃ h t n,x = h::t∧x≠[120]∧((h = 88∧l = List.replicate (n + 1) 97)∨(h≠88∧l = List.replicate (n + 1) 65))):=by
 induction x using List.casesOn with
 | nil=>injection h
 | cons a t =>
   simp only [chkS] at h
   induction hf:feq (a::t) [120] using Bool.casesOn with
   | true =>
     rw [hf] at h
     induction l using List.casesOn with
     | nil=>exact .inl ⟨feq_iff.mp hf,rfl⟩
     | cons c r=>injection h
   | false =>
     rw [hf] at h
     have hne:a::t≠[120]:=fun e=>by rw [feq_iff.mpr e] at hf;injection hf
     induction l using List.casesOn with
     | nil=>injection h
     | cons c r =>
       refine .inr ⟨a,t,r.length,rfl,hne,?_⟩
       have:=fall_rep h
       induction hb:Nat.beq a 88 using Bool.casesOn with
       | true=>rw [hb] at this;exact .inl ⟨Nat.eq_of_beq_eq_true hb,this⟩
       | false =>
         rw [hb] at this
         exact .inr ⟨fun e=>by { rw [e] at hb;injection hb },this⟩
noncomputable def fab:List Nat→Bool
 | []=>true
 | c::r=>fand (isAB c) (fab r)
theorem fab_ok:∀ {l:List Nat},fab l = true→∀ c∈l,isAB c = true
 | [],_,c,h=>by cases h
 | a::r,h,c,hc=>by
   refine za (fand_iff.mp h) fun h1 h2=>?_
   rcases List.mem_cons.mp hc with rfl | hc
   · exact h1
   · exact fab_ok h2 c hc
noncomputable def fshort:Nat→List Nat→Bool
 | _,[]=>true
 | 0,_::_=>false
 | k + 1,_::r=>fshort k r
theorem fshort_ok:∀ {k:Nat} {l:List Nat},fshort k l = true→l.length≤k
 | _,[],_=>Nat.zero_le _
 | 0,_::_,h=>by injection h
 | k + 1,_::r,h=>by rw [List.length_cons];exact Nat.succ_le_succ (fshort_ok h)
noncomputable def flast:List Nat→Nat
 | []=>0
 | [c]=>c
 | _::d::r=>flast (d::r)
theorem flast_ok:∀ {m:List Nat},m≠[]→m[m.length - 1]? = some (flast m)
 | [],h=>absurd rfl h
 | [c],_=>rfl
 | _::d::r,_=>by
   have:=flast_ok (m:=d::r) (by simp)
   rw [show (flast (_::d::r)) = flast (d::r) from rfl,← this]
   simp
noncomputable def chkT4 (m:List Nat) (s:Tb) (L:List Nat):Bool:=fand (beqB (isaA (flast m)) s.sh) (fand (chkS s.x (L.filter isaA)) (feqI (fnums L) (fnums m)))
noncomputable def chkT3 (s:Tb) (t:S3):Bool:=fand (feq s.x.reverse (fdue s.x t.a)) (fand (feq s.y.reverse (fdue s.y t.b)) (fand (feq s.z.reverse (fdue s.z t.c)) (fand (feq (fonto s.z.reverse (fonto s.y.reverse s.x)) [122,121,120]) (Nat.beq s.kz 90))))
noncomputable def chkT2 (m:List Nat) (s:Tb) (t:S3) (L:Option (List Nat)):Bool:=match L with
 | none=>false
 | some L=>fand (chkT3 s t) (chkT4 m s L)
noncomputable def chkT (m:List Nat):Bool:=match m with
 | []=>false
 | c::r=>fand (fab (c::r)) (fand (fshort 10 (c::r)) (chkT2 (c::r) (Tb.run (c::r) tbI) (S3.run (c::r) ⟨120,121,122⟩) (fleft 50 (c::r))))
theorem chkT_ok {m:List Nat} (h:chkT m = true):∃ L,ToldOk m L:=by
 induction m using List.casesOn with
 | nil=>injection h
 | cons c r =>
   replace h:fand (fab (c::r)) (fand (fshort 10 (c::r)) (chkT2 (c::r) (Tb.run (c::r) tbI) (S3.run (c::r) ⟨120,121,122⟩) (fleft 50 (c::r)))) = true:=h
   have hm:c::r≠[]:=by simp
   generalize c::r = m at *
   refine za (fand_iff.mp h) fun h1 h=>?_
   refine za (fand_iff.mp h) fun h2 h=>?_
   induction hL:fleft 50 m using Option.casesOn with
   | none=>rw [hL] at h;injection h
   | some L =>
     rw [hL] at h
     refine za (fand_iff.mp h) fun h3 h4=>?_
     refine za (fand_iff.mp h3) fun a1 h3=>?_
     refine za (fand_iff.mp h3) fun a2 h3=>?_
     refine za (fand_iff.mp h3) fun a3 h3=>?_
     refine za (fand_iff.mp h3) fun a4 a5=>?_
     refine za (fand_iff.mp h4) fun b1 h4=>?_
     refine za (fand_iff.mp h4) fun b2 b3=>?_
     rw [feqI_eq] at b3
     exact ⟨L,fab_ok h1,fshort_ok h2,feq_iff.mp a1,feq_iff.mp a2,feq_iff.mp a3,feq_iff.mp a4,Nat.eq_of_beq_eq_true a5,⟨_,flast_ok hm,beqB_iff.mp b1⟩,hL,chkS_ok b2,by simpa using b3⟩
noncomputable def chkE (s t:Tb):Bool:=fand (feq s.x t.x) (fand (feq s.y t.y) (feq s.z t.z))
theorem chkE_eq {m o:List Nat}:chkE (Tb.run m tbI) (Tb.run o tbI) = (tri m==tri o):=by
 rw [Bool.eq_iff_iff,beq_iff_eq]
 unfold chkE tri
 simp only [fand_iff,feq_iff,Prod.mk.injEq]
noncomputable def fnil:List Nat→Bool
 | []=>true
 | _::_=>false
theorem fnil_eq (l:List Nat):fnil l = l.isEmpty:=by induction l using List.casesOn<;>rfl
noncomputable def chkR3 (m o L:List Nat) (e:Bool):Bool:=fand (feqI (fnums (L++o)) (fnums m)) (fand (beqB (fnil L) e) (beqB (chkE (Tb.run m tbI) (Tb.run o tbI)) e))
noncomputable def chkR2 (m o b:List Nat):Bool:=match fleft 50 (m++b.reverse) with
 | none=>false
 | some L=>fand (fab b) (chkR3 m o L (feqI (fnums m) (fnums o)))
noncomputable def chkR (m o:List Nat):Bool:=fand (chkT o) (chkR2 m o (frepAll back6 o))
theorem chkR_ok {m o L1:List Nat} (H:ToldOk m L1) (h:chkR m o = true):∃ L2 L3,LawOk m o L1 L2 L3:=by
 refine za (fand_iff.mp h) fun h1 h=>?_
 refine ze (chkT_ok h1) fun L2 H2=>?_
 unfold chkR2 at h
 induction hL:fleft 50 (m++(frepAll back6 o).reverse) using Option.casesOn with
 | none=>rw [hL] at h;injection h
 | some L3 =>
   rw [hL] at h
   refine za (fand_iff.mp h) fun h2 h=>?_
   refine za (fand_iff.mp h) fun h3 h=>?_
   refine za (fand_iff.mp h) fun h4 h5=>?_
   rw [feqI_eq] at h3 h4 h5
   have h4:=beqB_iff.mp h4
   have h5:=beqB_iff.mp h5
   rw [fnil_eq] at h4
   rw [chkE_eq] at h5
   exact ⟨L2,L3,H,H2,fab_ok h2,hL,by simpa using h3,h4,h5⟩
noncomputable def chkL (m:List Nat):List (List (List Nat × List Nat))→Bool
 | []=>true
 | r::l=>fand (chkR m (frepAll r m)) (chkL m l)
theorem chkL_ok {m:List Nat}:∀ {l:List (List (List Nat × List Nat))},chkL m l = true→∀ r∈l,chkR m (frepAll r m) = true
 | [],_,r,h=>by cases h
 | a::l,h,r,hr=>by
   refine za (fand_iff.mp h) fun h1 h2=>?_
   rcases List.mem_cons.mp hr with rfl | hr
   · exact h1
   · exact chkL_ok h2 r hr
noncomputable def chkM (m:List Nat):Bool:=fand (chkT m) (chkL m rows8)
noncomputable def chkW (w:List Nat):Bool:=chkM (w++[97,98,98,65])
theorem chkW_ok {w:List Nat} (h:chkW w = true) {row:List (List Nat × List Nat)} (hr:row∈rows8):∃ L1 L2 L3,LawOk (w++[97,98,98,65]) (frepAll row (w++[97,98,98,65])) L1 L2 L3:=by
 refine za (fand_iff.mp h) fun h1 h2=>?_
 refine ze (chkT_ok h1) fun L1 H=>?_
 refine ze2 (chkR_ok H (chkL_ok h2 row hr)) fun L2 L3 h3=>?_
 exact ⟨L1,L2,L3,h3⟩
end Mine
end
section
open PySem PySem.W PySem.Calls PyProof.Rows
set_option maxRecDepth 100000
namespace Mine
variable {C:Cst}
noncomputable def FnRdy (C:Cst) (n:Str) (bnd:List D→Option (List (Str × D))):Prop :=
 ∃ a fd,C.mg n = some (.ref a)∧FnAt C a fd (bodyOf n)∧fd.scope = scOf n∧BindOk C fd bnd
noncomputable def FnOk (C:Cst) (lv:Nat) (n:Str) (S:Summ):Prop :=
 ∃ a o fd,C.mg n = some (.ref a)∧C.H.get? a = some o∧o.data = .func fd∧CallOk C lv (.ref a) S
theorem FnOk.up {lv lv':Nat} {n:Str} {S:Summ} (x:FnOk C lv n S) (h:lv≤lv'):FnOk C lv' n S:=by
 refine ze3a3 x fun a o fd h1 h2 h3 h4=>?_;clear x
 exact ⟨a,o,fd,h1,h2,h3,h4.up h⟩
theorem rdy_ok {lv:Nat} {T:Tbl} {mu:List Str} {n:Str} {bnd:List D→Option (List (Str × D))} (rt:RootOk C) (sp:SpOk C) (tb:TblOk C lv T) (h:FnRdy C n bnd):FnOk C (lv + 113) n (sumOf T mu 56 (scOf n) (bodyOf n) bnd):=by
 refine ze2a3 h fun a fd h1 h2 h3 h4=>?_;clear h
 refine zea h2.get fun o ho hd=>?_
 have:=fn_ok (L:=lv + 112) (N:=56) (mu:=mu) rt (tb.up (by lia)) (fun k hk=>(all_ok rt (spl_ok sp rt) tb k).up (by lia)) h2 h4
 rw [h3] at this
 exact ⟨a,o,fd,h1,ho,hd,this⟩
theorem law_ok {K:Frag} {ac ag ai ast ad ak av fi:Addr} (hall:HdrAll C K ac ag ai ast ad ak av fi) (sp:SpOk C) (rt:RootOk C)
   (rU:FnRdy C "_law_undone" (plainBnd ["word"])) (rO:FnRdy C "_law_onto" (plainBnd ["word","more"])) (rR:FnRdy C "replace" (varBnd "text" "pairs"))
   (rP:FnRdy C "_law_put" (plainBnd ["word","row"])) (rB:FnRdy C "_law_table" (plainBnd ["braid"])) (rT:FnRdy C "_law_turns" (plainBnd ["word"])) (rN:FnRdy C "_law_numbers" (plainBnd ["braid"]))
   (rL:FnRdy C "_law_left" (plainBnd ["braid"])) (rD:FnRdy C "_law_told" (plainBnd ["braid"])) (rW:FnRdy C "law" (plainBnd ["script"])):FnOk C 588 "law" S_law:=by
 have t0:TblOk C 23 Tz:=tbl_of hall sp rt (Nat.le_refl _) fun f S h=>by injection h
 have oU:FnOk C 136 "_law_undone" S_undone:=rdy_ok rt sp t0 rU
 have oO:FnOk C 136 "_law_onto" S_onto:=rdy_ok rt sp t0 rO
 have oR:FnOk C 136 "replace" S_replace:=rdy_ok rt sp t0 rR
 have f1:∀ f S,F1 f = some S→FnOk C 136 f S:=fun f S h=>by
   unfold F1 at h
   by_cases c1:(f==("_law_undone":Str)) = true
   · rw [if_pos c1] at h;(injection h with h;subst h);rw [show f = "_law_undone" by simpa using c1];exact oU
   rw [if_neg c1] at h
   by_cases c2:(f==("_law_onto":Str)) = true
   · rw [if_pos c2] at h;(injection h with h;subst h);rw [show f = "_law_onto" by simpa using c2];exact oO
   rw [if_neg c2] at h
   by_cases c3:(f==("replace":Str)) = true
   · rw [if_pos c3] at h;(injection h with h;subst h);rw [show f = "replace" by simpa using c3];exact oR
   rw [if_neg c3] at h
   injection h
 have t1:TblOk C 136 T1:=tbl_of hall sp rt (by lia) f1
 have oP:FnOk C 249 "_law_put" S_put:=rdy_ok rt sp t1 rP
 have oB:FnOk C 249 "_law_table" S_table:=rdy_ok rt sp t1 rB
 have oT:FnOk C 249 "_law_turns" S_turns:=rdy_ok rt sp t1 rT
 have oN:FnOk C 249 "_law_numbers" S_numbers:=rdy_ok rt sp t1 rN
 have f2:∀ f S,F2 f = some S→FnOk C 249 f S:=fun f S h=>by
   unfold F2 at h
   by_cases c1:(f==("_law_put":Str)) = true
   · rw [if_pos c1] at h;(injection h with h;subst h);rw [show f = "_law_put" by simpa using c1];exact oP
   rw [if_neg c1] at h
   by_cases c2:(f==("_law_table":Str)) = true
   · rw [if_pos c2] at h;(injection h with h;subst h);rw [show f = "_law_table" by simpa using c2];exact oB
   rw [if_neg c2] at h
   by_cases c3:(f==("_law_turns":Str)) = true
   · rw [if_pos c3] at h;(injection h with h;subst h);rw [show f = "_law_turns" by simpa using c3];exact oT
   rw [if_neg c3] at h
   by_cases c4:(f==("_law_numbers":Str)) = true
   · rw [if_pos c4] at h;(injection h with h;subst h);rw [show f = "_law_numbers" by simpa using c4];exact oN
   rw [if_neg c4] at h
   exact (f1 f S h).up (by lia)
 have t2:TblOk C 249 T2:=tbl_of hall sp rt (by lia) f2
 have oL:FnOk C 362 "_law_left" S_left:=rdy_ok rt sp t2 rL
 have f3:∀ f S,F3 f = some S→FnOk C 362 f S:=fun f S h=>by
   unfold F3 at h
   by_cases c1:(f==("_law_left":Str)) = true
   · rw [if_pos c1] at h;(injection h with h;subst h);rw [show f = "_law_left" by simpa using c1];exact oL
   rw [if_neg c1] at h
   exact (f2 f S h).up (by lia)
 have t3:TblOk C 362 T3:=tbl_of hall sp rt (by lia) f3
 have oD:FnOk C 475 "_law_told" S_told:=rdy_ok rt sp t3 rD
 have f4:∀ f S,F4 f = some S→FnOk C 475 f S:=fun f S h=>by
   unfold F4 at h
   by_cases c1:(f==("_law_told":Str)) = true
   · rw [if_pos c1] at h;(injection h with h;subst h);rw [show f = "_law_told" by simpa using c1];exact oD
   rw [if_neg c1] at h
   exact (f3 f S h).up (by lia)
 have t4:TblOk C 475 T4:=tbl_of hall sp rt (by lia) f4
 exact rdy_ok rt sp t4 rW
end Mine
end
section
set_option tactic.hygienic false
open PySem PySem.W PySem.Calls PyProof.Rows
set_option maxRecDepth 100000
namespace Mine
variable {C:Cst}
theorem rdy_of {n:Str} {a:Addr} {fd:FuncData} {body:List Stmt} {bnd:List D→Option (List (Str × D))} (h1:C.mg n = some (.ref a)) (F:FnAt C a fd body) (e:defOf n = some (body,fd.scope)) (hb:BindOk C fd bnd):FnRdy C n bnd:=by
 refine ⟨a,fd,h1,?_,?_,hb⟩
 · have:bodyOf n = body:=by unfold bodyOf;rw [e]
   rw [this];exact F
 · unfold scOf;rw [e]
theorem bind1 {fd:FuncData} {x:Str} (h:∀ v,bindArgs fd ⟨[v],[]⟩ = pure [(x,v)]):BindOk C fd (plainBnd [x]):=plain_bind fun vs hv=>by
 match vs,hv with
 | [v],_=>exact h v
theorem bind2 {fd:FuncData} {x y:Str} (h:∀ v w,bindArgs fd ⟨[v,w],[]⟩ = pure [(x,v),(y,w)]):BindOk C fd (plainBnd [x,y]):=plain_bind fun vs hv=>by
 match vs,hv with
 | [v,w],_=>exact h v w
theorem ints_has {P:Params} {V:List Addr} {io:HI} {h:Heap}:∀ {xs:List Int} {vs:List Value},WellAll P h vs (ofPys (xs.map PyData.int))→HasL C V io h (xs.map D.int) vs
 | [],vs,w=>by
   change WellAll P h vs [] at w
   cases w
   simp only [List.map_nil,HasL]
 | x::r,vs,w=>by
   change WellAll P h vs (.int x::ofPys (r.map PyData.int)) at w
   cases w with
   | cons w1 w2 =>
     have ih:=ints_has (V:=V) (io:=io) w2
     cases w1
     exact ⟨_,_,rfl,by exact ⟨_,rfl⟩,ih⟩
theorem script_has {P:Params} {V:List Addr} {io:HI} {h:Heap} {xs:List Int} {v:Value} (w:Well P h v (ofPy (.list (xs.map PyData.int)))) (hl:xs.length≤63) (hV:∀ b∈V,∃ o,h.get? b = some o∧o.cls = .none):HasL C V io h [.lst (xs.map D.int)] [v]:=by
 change Well P h v (.list (ofPys (xs.map PyData.int))) at w
 cases w with
 | list h1 h2 =>
   show Exists _
   refine ⟨_,[],rfl,⟨by rw [List.length_map];unfold lim;lia,_,_,rfl,fun hm=>?_,⟨_,h1⟩,?_⟩,rfl⟩
   · refine zea (hV _ hm) fun o ho hc=>?_
     rw [h1] at ho;(injection ho with ho;subst ho);injection hc
   · rw [List.toList_toArray]
     exact ints_has h2
theorem old_ok {prog:Program} {w:World} {s s':Shared} {mg mb:Str→Option Value} {cls:Addr} {spc:List (Addr × Addr × Str)} {io':HI} {g':Sg} (hT:TabsAt (tabsOf spc) s.heap)
   (x:Grow (cTop prog w s.heap mg mb cls spc) [] io' s s') (k:Sok (cTop prog w s.heap mg mb cls spc) [] io' g' s'):OldK s.heap s'.heap where
 old:=fun b o e=>by
   by_cases hb:b∈spc.map fun t=>t.2.1
   · refine zea (List.mem_map.mp hb) fun t ht e2q=>?_;subst e2q
     refine za (hT _ (mem_tabs (c:=t.1) (P:=t.2.1) (q:=t.2.2) ht)) fun h1 h2=>?_
     simp only at h1 h2
     rw [h2] at e
     injection e with e;subst e
     refine zea (k.st.vt t.1 t.2.1 t.2.2 ht) fun ps h3 J=>?_
     obtain ⟨oc,vs,file,tf,flags,tg,inF,text,tt,e1,e2,e3,e4,_⟩:=h1
     exact .inr (.inl ⟨⟨_,_,_,e1,e2,e3,e4⟩,rfl,#[],ps,rfl,by rw [h3];simp [tabObj]⟩)
   · exact .inl (x.keep b o e hb (by simp [adr]))
 there:=fun b o e=>x.alive b o e
theorem braid_ok (hall:∀ xs:List Int,chkW ((xs.take 4).map let4) = true) (xs:List Int):∃ gs,S_law [.lst (xs.map .int)] [] = some (.bool true,gs):=by
 have hr:rowOf (xs.take 4) < rows8.length:=by
   show _ < 8
   unfold rowOf
   have:=Int.emod_nonneg ((xs.take 4).map (· / 4)).sum (show (8:Int)≠0 by decide)
   have:=Int.emod_lt_of_pos ((xs.take 4).map (· / 4)).sum (show (0:Int) < 8 by decide)
   lia
 refine ze3 (chkW_ok (hall xs) (List.getElem_mem hr)) fun L1 L2 L3 H=>?_
 exact law_eq (List.getElem?_eq_getElem hr) H
end Mine
end
section
open PySem PySem.W PySem.Calls PyProof.Rows
set_option maxRecDepth 100000
namespace Mine
noncomputable def allW:Nat→List Nat→Bool
 | 0,w=>chkW w
 | n + 1,w=>fand (chkW w) (fand (allW n (w++[97])) (fand (allW n (w++[65])) (fand (allW n (w++[98])) (allW n (w++[66])))))
theorem allW_mk {n:Nat} {w:List Nat} (h:chkW w = true) (h1:allW n (w++[97]) = true) (h2:allW n (w++[65]) = true) (h3:allW n (w++[98]) = true) (h4:allW n (w++[66]) = true):allW (n + 1) w = true :=
 fand_iff.mpr ⟨h,fand_iff.mpr ⟨h1,fand_iff.mpr ⟨h2,fand_iff.mpr ⟨h3,h4⟩⟩⟩⟩
theorem allW_ok:∀ {n:Nat} {w l:List Nat},allW n w = true→l.length≤n→(∀ c∈l,c = 97∨c = 65∨c = 98∨c = 66)→chkW (w++l) = true
 | 0,w,l,h,hl,_=>by
   have:l = []:=List.eq_nil_of_length_eq_zero (by omega)
   subst this
   rw [List.append_nil];exact h
 | n + 1,w,[],h,hl,_=>by
   rw [List.append_nil];exact (fand_iff.mp h).1
 | n + 1,w,c::r,h,hl,hc=>by
   obtain ⟨_,h⟩:=fand_iff.mp h
   obtain ⟨h1,h⟩:=fand_iff.mp h
   obtain ⟨h2,h⟩:=fand_iff.mp h
   obtain ⟨h3,h4⟩:=fand_iff.mp h
   have hr:r.length≤n:=by rw [List.length_cons] at hl;omega
   have hcr:∀ c∈r,c = 97∨c = 65∨c = 98∨c = 66:=fun x hx=>hc x (.tail _ hx)
   have e:w++c::r = (w++[c])++r:=by simp
   rw [e]
   rcases hc c (.head _) with rfl | rfl | rfl | rfl
   · exact allW_ok h1 hr hcr
   · exact allW_ok h2 hr hcr
   · exact allW_ok h3 hr hcr
   · exact allW_ok h4 hr hcr
theorem let4_in (x:Int):let4 x = 97∨let4 x = 65∨let4 x = 98∨let4 x = 66:=by
 unfold let4
 split
 · exact .inl rfl
 · exact .inr (.inl rfl)
 · exact .inr (.inr (.inl rfl))
 · exact .inr (.inr (.inr rfl))
theorem q_waaa:allW 1 [97,97,97] = true:=by decide +kernel
theorem q_waaA:allW 1 [97,97,65] = true:=by decide +kernel
theorem q_waab:allW 1 [97,97,98] = true:=by decide +kernel
theorem q_waaB:allW 1 [97,97,66] = true:=by decide +kernel
theorem r_waa:chkW [97,97] = true:=by decide +kernel
theorem q_waa:allW 2 [97,97] = true:=allW_mk r_waa q_waaa q_waaA q_waab q_waaB
theorem q_waAa:allW 1 [97,65,97] = true:=by decide +kernel
theorem q_waAA:allW 1 [97,65,65] = true:=by decide +kernel
theorem q_waAb:allW 1 [97,65,98] = true:=by decide +kernel
theorem q_waAB:allW 1 [97,65,66] = true:=by decide +kernel
theorem r_waA:chkW [97,65] = true:=by decide +kernel
theorem q_waA:allW 2 [97,65] = true:=allW_mk r_waA q_waAa q_waAA q_waAb q_waAB
theorem q_waba:allW 1 [97,98,97] = true:=by decide +kernel
theorem q_wabA:allW 1 [97,98,65] = true:=by decide +kernel
theorem q_wabb:allW 1 [97,98,98] = true:=by decide +kernel
theorem q_wabB:allW 1 [97,98,66] = true:=by decide +kernel
theorem r_wab:chkW [97,98] = true:=by decide +kernel
theorem q_wab:allW 2 [97,98] = true:=allW_mk r_wab q_waba q_wabA q_wabb q_wabB
theorem q_waBa:allW 1 [97,66,97] = true:=by decide +kernel
theorem q_waBA:allW 1 [97,66,65] = true:=by decide +kernel
theorem q_waBb:allW 1 [97,66,98] = true:=by decide +kernel
theorem q_waBB:allW 1 [97,66,66] = true:=by decide +kernel
theorem r_waB:chkW [97,66] = true:=by decide +kernel
theorem q_waB:allW 2 [97,66] = true:=allW_mk r_waB q_waBa q_waBA q_waBb q_waBB
theorem r_wa:chkW [97] = true:=by decide +kernel
theorem q_wa:allW 3 [97] = true:=allW_mk r_wa q_waa q_waA q_wab q_waB
theorem q_wAaa:allW 1 [65,97,97] = true:=by decide +kernel
theorem q_wAaA:allW 1 [65,97,65] = true:=by decide +kernel
theorem q_wAab:allW 1 [65,97,98] = true:=by decide +kernel
theorem q_wAaB:allW 1 [65,97,66] = true:=by decide +kernel
theorem r_wAa:chkW [65,97] = true:=by decide +kernel
theorem q_wAa:allW 2 [65,97] = true:=allW_mk r_wAa q_wAaa q_wAaA q_wAab q_wAaB
theorem q_wAAa:allW 1 [65,65,97] = true:=by decide +kernel
theorem q_wAAA:allW 1 [65,65,65] = true:=by decide +kernel
theorem q_wAAb:allW 1 [65,65,98] = true:=by decide +kernel
theorem q_wAAB:allW 1 [65,65,66] = true:=by decide +kernel
theorem r_wAA:chkW [65,65] = true:=by decide +kernel
theorem q_wAA:allW 2 [65,65] = true:=allW_mk r_wAA q_wAAa q_wAAA q_wAAb q_wAAB
theorem q_wAba:allW 1 [65,98,97] = true:=by decide +kernel
theorem q_wAbA:allW 1 [65,98,65] = true:=by decide +kernel
theorem q_wAbb:allW 1 [65,98,98] = true:=by decide +kernel
theorem q_wAbB:allW 1 [65,98,66] = true:=by decide +kernel
theorem r_wAb:chkW [65,98] = true:=by decide +kernel
theorem q_wAb:allW 2 [65,98] = true:=allW_mk r_wAb q_wAba q_wAbA q_wAbb q_wAbB
theorem q_wABa:allW 1 [65,66,97] = true:=by decide +kernel
theorem q_wABA:allW 1 [65,66,65] = true:=by decide +kernel
theorem q_wABb:allW 1 [65,66,98] = true:=by decide +kernel
theorem q_wABB:allW 1 [65,66,66] = true:=by decide +kernel
theorem r_wAB:chkW [65,66] = true:=by decide +kernel
theorem q_wAB:allW 2 [65,66] = true:=allW_mk r_wAB q_wABa q_wABA q_wABb q_wABB
theorem r_wA:chkW [65] = true:=by decide +kernel
theorem q_wA:allW 3 [65] = true:=allW_mk r_wA q_wAa q_wAA q_wAb q_wAB
theorem q_wbaa:allW 1 [98,97,97] = true:=by decide +kernel
theorem q_wbaA:allW 1 [98,97,65] = true:=by decide +kernel
theorem q_wbab:allW 1 [98,97,98] = true:=by decide +kernel
theorem q_wbaB:allW 1 [98,97,66] = true:=by decide +kernel
theorem r_wba:chkW [98,97] = true:=by decide +kernel
theorem q_wba:allW 2 [98,97] = true:=allW_mk r_wba q_wbaa q_wbaA q_wbab q_wbaB
theorem q_wbAa:allW 1 [98,65,97] = true:=by decide +kernel
theorem q_wbAA:allW 1 [98,65,65] = true:=by decide +kernel
theorem q_wbAb:allW 1 [98,65,98] = true:=by decide +kernel
theorem q_wbAB:allW 1 [98,65,66] = true:=by decide +kernel
theorem r_wbA:chkW [98,65] = true:=by decide +kernel
theorem q_wbA:allW 2 [98,65] = true:=allW_mk r_wbA q_wbAa q_wbAA q_wbAb q_wbAB
theorem q_wbba:allW 1 [98,98,97] = true:=by decide +kernel
theorem q_wbbA:allW 1 [98,98,65] = true:=by decide +kernel
theorem q_wbbb:allW 1 [98,98,98] = true:=by decide +kernel
theorem q_wbbB:allW 1 [98,98,66] = true:=by decide +kernel
theorem r_wbb:chkW [98,98] = true:=by decide +kernel
theorem q_wbb:allW 2 [98,98] = true:=allW_mk r_wbb q_wbba q_wbbA q_wbbb q_wbbB
theorem q_wbBa:allW 1 [98,66,97] = true:=by decide +kernel
theorem q_wbBA:allW 1 [98,66,65] = true:=by decide +kernel
theorem q_wbBb:allW 1 [98,66,98] = true:=by decide +kernel
theorem q_wbBB:allW 1 [98,66,66] = true:=by decide +kernel
theorem r_wbB:chkW [98,66] = true:=by decide +kernel
theorem q_wbB:allW 2 [98,66] = true:=allW_mk r_wbB q_wbBa q_wbBA q_wbBb q_wbBB
theorem r_wb:chkW [98] = true:=by decide +kernel
theorem q_wb:allW 3 [98] = true:=allW_mk r_wb q_wba q_wbA q_wbb q_wbB
theorem q_wBaa:allW 1 [66,97,97] = true:=by decide +kernel
theorem q_wBaA:allW 1 [66,97,65] = true:=by decide +kernel
theorem q_wBab:allW 1 [66,97,98] = true:=by decide +kernel
theorem q_wBaB:allW 1 [66,97,66] = true:=by decide +kernel
theorem r_wBa:chkW [66,97] = true:=by decide +kernel
theorem q_wBa:allW 2 [66,97] = true:=allW_mk r_wBa q_wBaa q_wBaA q_wBab q_wBaB
theorem q_wBAa:allW 1 [66,65,97] = true:=by decide +kernel
theorem q_wBAA:allW 1 [66,65,65] = true:=by decide +kernel
theorem q_wBAb:allW 1 [66,65,98] = true:=by decide +kernel
theorem q_wBAB:allW 1 [66,65,66] = true:=by decide +kernel
theorem r_wBA:chkW [66,65] = true:=by decide +kernel
theorem q_wBA:allW 2 [66,65] = true:=allW_mk r_wBA q_wBAa q_wBAA q_wBAb q_wBAB
theorem q_wBba:allW 1 [66,98,97] = true:=by decide +kernel
theorem q_wBbA:allW 1 [66,98,65] = true:=by decide +kernel
theorem q_wBbb:allW 1 [66,98,98] = true:=by decide +kernel
theorem q_wBbB:allW 1 [66,98,66] = true:=by decide +kernel
theorem r_wBb:chkW [66,98] = true:=by decide +kernel
theorem q_wBb:allW 2 [66,98] = true:=allW_mk r_wBb q_wBba q_wBbA q_wBbb q_wBbB
theorem q_wBBa:allW 1 [66,66,97] = true:=by decide +kernel
theorem q_wBBA:allW 1 [66,66,65] = true:=by decide +kernel
theorem q_wBBb:allW 1 [66,66,98] = true:=by decide +kernel
theorem q_wBBB:allW 1 [66,66,66] = true:=by decide +kernel
theorem r_wBB:chkW [66,66] = true:=by decide +kernel
theorem q_wBB:allW 2 [66,66] = true:=allW_mk r_wBB q_wBBa q_wBBA q_wBBb q_wBBB
theorem r_wB:chkW [66] = true:=by decide +kernel
theorem q_wB:allW 3 [66] = true:=allW_mk r_wB q_wBa q_wBA q_wBb q_wBB
theorem r_w:chkW [] = true:=by decide +kernel
theorem q_w:allW 4 [] = true:=allW_mk r_w q_wa q_wA q_wb q_wB
theorem chk_all (xs:List Int):chkW ((xs.take 4).map let4) = true:=by
 have:=allW_ok (l:=(xs.take 4).map let4) q_w (by rw [List.length_map,List.length_take];omega) fun c hc=>by
   obtain ⟨x,_,rfl⟩:=List.mem_map.mp hc
   exact let4_in x
 rwa [List.nil_append] at this
end Mine
end
section
set_option tactic.hygienic false
open PySem PySem.W PyProof.Rows PySem.Calls PySem.Spec PyProof.V
set_option maxRecDepth 100000
set_option maxHeartbeats 8000000
namespace Mine
noncomputable def pos77:List Pos:=[⟨26,8,26,15⟩,⟨26,29,26,36⟩,⟨26,44,26,48⟩,⟨26,29,26,48⟩,⟨26,18,26,25⟩,⟨26,54,26,56⟩,⟨26,18,26,56⟩,⟨26,8,26,56⟩,⟨27,11,27,15⟩,⟨27,16,27,23⟩,⟨27,11,27,24⟩,⟨27,32,27,36⟩,⟨27,11,27,36⟩,⟨27,8,28,74⟩,⟨29,8,29,12⟩,⟨29,8,29,21⟩,⟨29,24,29,31⟩,⟨29,8,29,31⟩,⟨30,11,30,20⟩,⟨31,16,31,17⟩,⟨31,19,31,20⟩,⟨31,16,31,20⟩,⟨31,24,31,31⟩,⟨32,16,32,20⟩,⟨32,16,32,41⟩,⟨32,42,32,43⟩,⟨32,50,32,54⟩,⟨32,45,32,54⟩,⟨32,16,32,55⟩,⟨32,16,32,55⟩,⟨33,16,33,20⟩,⟨33,16,33,41⟩,⟨33,42,33,43⟩,⟨33,50,33,55⟩,⟨33,45,33,55⟩,⟨33,16,33,56⟩,⟨33,16,33,56⟩,⟨31,12,33,56⟩,⟨30,8,33,56⟩]
noncomputable def pos98:List Pos:=[⟨47,12,47,16⟩,⟨47,17,47,21⟩,⟨47,12,47,22⟩,⟨47,8,47,22⟩,⟨48,8,48,12⟩,⟨48,8,48,21⟩,⟨48,8,48,28⟩,⟨48,30,48,34⟩,⟨48,30,48,55⟩,⟨48,56,48,60⟩,⟨48,67,48,71⟩,⟨48,62,48,71⟩,⟨48,30,48,72⟩,⟨48,74,48,78⟩,⟨48,74,48,99⟩,⟨48,100,48,103⟩,⟨48,110,48,115⟩,⟨48,105,48,115⟩,⟨48,74,48,116⟩,⟨48,29,48,117⟩,⟨48,8,48,118⟩,⟨48,8,48,118⟩]
noncomputable def pos103:List Pos:=[⟨51,8,51,12⟩,⟨51,15,51,19⟩,⟨51,15,51,40⟩,⟨51,41,51,45⟩,⟨51,41,51,51⟩,⟨51,41,51,53⟩,⟨51,60,51,64⟩,⟨51,55,51,64⟩,⟨51,15,51,65⟩,⟨51,8,51,65⟩,⟨52,8,52,12⟩,⟨52,8,52,21⟩,⟨52,22,52,23⟩,⟨52,8,52,24⟩,⟨52,28,52,30⟩,⟨52,35,52,37⟩,⟨52,58,52,60⟩,⟨52,61,52,62⟩,⟨52,58,52,63⟩,⟨52,58,52,69⟩,⟨52,58,52,71⟩,⟨52,75,52,79⟩,⟨52,58,52,79⟩,⟨52,41,52,45⟩,⟨52,41,52,54⟩,⟨52,27,52,80⟩,⟨52,8,52,80⟩]
noncomputable def pos110:List Pos:=[⟨55,15,55,19⟩,⟨55,15,55,23⟩,⟨55,24,55,28⟩,⟨55,15,55,29⟩,⟨55,8,55,29⟩]
noncomputable def pos132:List Pos:=[⟨64,8,64,12⟩,⟨64,15,64,19⟩,⟨64,15,64,40⟩,⟨64,41,64,45⟩,⟨64,41,64,51⟩,⟨64,41,64,53⟩,⟨64,60,64,64⟩,⟨64,55,64,64⟩,⟨64,15,64,65⟩,⟨64,8,64,65⟩,⟨65,12,65,13⟩,⟨65,15,65,16⟩,⟨65,12,65,16⟩,⟨65,20,65,24⟩,⟨65,20,65,33⟩,⟨66,15,66,16⟩,⟨66,15,66,22⟩,⟨66,15,66,24⟩,⟨66,28,66,32⟩,⟨66,15,66,32⟩,⟨67,23,67,24⟩,⟨67,16,67,24⟩,⟨66,12,67,24⟩,⟨65,8,67,24⟩,⟨68,15,68,22⟩,⟨68,8,68,22⟩]
noncomputable def pos137:List Pos:=[⟨71,16,71,17⟩,⟨71,22,71,23⟩,⟨71,25,71,26⟩,⟨71,22,71,26⟩,⟨71,30,71,34⟩,⟨71,30,71,43⟩,⟨71,15,71,44⟩,⟨71,8,71,44⟩]
noncomputable def pos142:List Pos:=[⟨74,16,74,17⟩,⟨74,22,74,23⟩,⟨74,25,74,26⟩,⟨74,22,74,26⟩,⟨74,30,74,34⟩,⟨74,30,74,43⟩,⟨74,15,74,44⟩,⟨74,8,74,44⟩]
noncomputable def pAt (l:List Pos) (n:Nat):Pos:=l.getD n ⟨0,0,0,0⟩
theorem fnAt_of {C:Cst} {K:Frag} {a c:Addr} {o oc:Obj} {fd:FuncData} {body:List Stmt} {vs:Array Value} {t:Tok} (X:K.In C.H) (h1:K.lookup a = some o) (h2:o.data = .func fd) (h3:fd.body = .stmts body) (h4:fd.closure = []) (h5:fd.globals = mainGlobals) (h6:fd.builtins = builtinsNs)
   (h7:fd.code = .ref c) (h8:K.lookup c = some oc) (h9:oc.data = .fields vs) (h10:vs[1]? = some (.str fd.qualname t)) (h11:fd.scope.kind = .function) (h12:fd.scope.isCoroutine = false) (h13:fd.scope.isGenerator = false) (h14:(fd.scope.names.all fun p=>p.2 != .free) = true)
   (h15:fd.scope.names.lookup ("_split_list":Str) = some .globalImplicit→∃ c P,(c,P,fd.qualname++".<locals>.")∈C.spc∧fd.code = .ref c):FnAt C a fd body where
 get:=⟨o,X _ _ h1,h2⟩
 body:=h3
 clo:=h4
 gl:=h5
 bi:=h6
 cd:=⟨c,oc,vs,t,h7,X _ _ h8,h9,h10⟩
 kind:=h11
 co:=h12
 gen:=h13
 nofree:=fun p hp=>by simpa using List.all_eq_true.mp h14 p hp
 spl:=h15
noncomputable def g5.tw17717337379563158276:PySem.Program:=PySem.Challenge.pw_pm0047_01
theorem g5.te17717337379563158276:PySem.Challenge.pw_pm0047_01 = g5.tw17717337379563158276:=rfl
set_option Elab.async true in
theorem g5:PySem.Challenge.rw_pm0047_01.Holds:=by
 w_on;o_law;k_head
 case hw=>w_witness2
 k_fill
 intro w s₀ s₁ mg mb G Y fa o pm cd doc dV kV ho hd hcd hD hmg hg args vals as hpre hlay hrd hwl hlo
 have KX:=km_in_of Y
 km_tabs Y
 have X:=(Ground.X G).1
 have V:=(Ground.X G).2
 refine Ground.open G ?_
 intro T B D TE TW
 try (refine guard_noD D (by decide +kernel) ?_;clear D)
 km_lay T hmg ho hd cd
 wrow_args hpre hlay hrd hwl hlo
 have XG:(Mine.g5.heap_1_39 w.params).In (ghostOf s₁.heap [(219,217)]):=ghost_K hT9 KX (by kernel_rfl)
 have n0:mg "len" = none:=mg_none_of KX T.g (by kernel_rfl)
 have f1:mg "replace" = some (.ref 45):=mg_of KX T.g (by kernel_rfl)
 let C:Cst:=cTop PySem.Challenge.rw_pm0047_01.row.prog w s₁.heap mg mb 185 [(219,217,"_law_turns.<locals>.")]
 have XC:(Mine.g5.heap_1_39 w.params).In C.H:=XG
 have noSp:∀ {sc:Scope} {P:Prop},(sc.names.lookup ("_split_list":Str)==some .globalImplicit) = false→sc.names.lookup ("_split_list":Str) = some .globalImplicit→P:=fun h1 h2=>by rw [h2] at h1;injection h1
 have F52:=fnAt_of (C:=C) (a:=52) (body:=splBody _ _ _ _ _ _ _ _ _ ⟨0,0,0,0⟩ _ _ _ _ _ _ _ _ _ _ _ _ _ _ _ _ _ _ _) XC (by k_is) rfl rfl rfl rfl rfl rfl (by k_is) rfl rfl rfl rfl rfl (by decide) (noSp (by decide))
 have F84:=fnAt_of (C:=C) (a:=84) (body:=convBody _ _ _ _ _ _ _ _ _ _ _ _ _ _ _ _ _ _ _ _ _) XC (by k_is) rfl rfl rfl rfl rfl rfl (by k_is) rfl rfl rfl rfl rfl (by decide) (noSp (by decide))
 have F132:=fnAt_of (C:=C) (a:=132) (body:=getBody (pAt pos132)) XC (by k_is) rfl rfl rfl rfl rfl rfl (by k_is) rfl rfl rfl rfl rfl (by decide) (noSp (by decide))
 have F110:=fnAt_of (C:=C) (a:=110) (body:=itemBody (pAt pos110)) XC (by k_is) rfl rfl rfl rfl rfl rfl (by k_is) rfl rfl rfl rfl rfl (by decide) (noSp (by decide))
 have F98:=fnAt_of (C:=C) (a:=98) (body:=setBody (pAt pos98)) XC (by k_is) rfl rfl rfl rfl rfl rfl (by k_is) rfl rfl rfl rfl rfl (by decide) (noSp (by decide))
 have F103:=fnAt_of (C:=C) (a:=103) (body:=delBody (pAt pos103) _) XC (by k_is) rfl rfl rfl rfl rfl rfl (by k_is) rfl rfl rfl rfl rfl (by decide) (noSp (by decide))
 have F137:=fnAt_of (C:=C) (a:=137) (body:=kvBody "k" _ (pAt pos137)) XC (by k_is) rfl rfl rfl rfl rfl rfl (by k_is) rfl rfl rfl rfl rfl (by decide) (noSp (by decide))
 have F142:=fnAt_of (C:=C) (a:=142) (body:=kvBody "v" _ (pAt pos142)) XC (by k_is) rfl rfl rfl rfl rfl rfl (by k_is) rfl rfl rfl rfl rfl (by decide) (noSp (by decide))
 have F77:=fnAt_of (C:=C) (a:=77) (body:=initBody (pAt pos77) _) XC (by k_is) rfl rfl rfl rfl rfl rfl (by k_is) rfl rfl rfl rfl rfl (by decide) (noSp (by decide))
 have hcls:HdrCls C (Mine.g5.heap_1_39 w.params):=⟨XC,by kernel_rfl,by kernel_rfl,by kernel_rfl,by kernel_rfl⟩
 have hnew:HdrNew C (Mine.g5.heap_1_39 w.params) 77:=⟨by kernel_rfl,by kernel_rfl,by kernel_rfl,by kernel_rfl,by kernel_rfl,by kernel_rfl⟩
 have hfns:HdrFns C (Mine.g5.heap_1_39 w.params) [("_convert_string_type",84),("get",132),("__getitem__",110),("__setitem__",98),("__delitem__",103),("keys",137),("values",142)]:=⟨hcls,fun m a hm=>by
   have hm':=PySem.mem_of_lookup hm
   simp only [List.mem_cons,Prod.mk.injEq,List.not_mem_nil,or_false] at hm'
   rcases hm' with ⟨rfl,rfl⟩ | ⟨rfl,rfl⟩ | ⟨rfl,rfl⟩ | ⟨rfl,rfl⟩ | ⟨rfl,rfl⟩ | ⟨rfl,rfl⟩ | ⟨rfl,rfl⟩<;>exact ⟨by kernel_rfl,by kernel_rfl,by kernel_rfl⟩,by decide⟩
 have hcv:ConvOk C 84:=⟨⟨_,_,_,_,_,_,_,_,_,_,_,_,_,_,_,_,_,_,_,_,_,_,F84,rfl,fun x v b=>by rfl,by decide,by decide,by decide⟩,⟨57,62,mg_of KX T.g (by kernel_rfl),mg_of KX T.g (by kernel_rfl),
   ⟨_,_,_,_,_,_,XC 57 _ (by k_is),rfl,rfl,rfl,rfl,rfl,XC 56 _ (by k_is),rfl,by decide +kernel⟩,⟨_,_,_,_,_,_,XC 62 _ (by k_is),rfl,rfl,rfl,rfl,rfl,XC 61 _ (by k_is),rfl,by decide +kernel⟩⟩⟩
 have hgt:GetAt C 132:=⟨⟨_,_,F132,rfl,rfl,rfl,fun x n M A E Q s hb hq=>kp_binds (XC.keeps hb) (fun S=>by kernel_rfl) M A E Q hq,fun x n d M A E Q s hb hq=>kp_binds (XC.keeps hb) (fun S=>by kernel_rfl) M A E Q hq,by decide,by decide⟩⟩
 have hit:ItemAt C 110:=⟨⟨_,_,F110,rfl,fun x n=>by rfl,by decide,by decide⟩⟩
 have hst:SetAt C 98:=⟨⟨_,_,F98,rfl,rfl,rfl,fun x n v=>by rfl,by decide,by decide⟩⟩
 have hdl:DelAt C 103:=⟨⟨_,_,_,F103,rfl,rfl,rfl,fun x n=>by rfl,rfl,rfl,by decide,by decide,rfl⟩⟩
 have hks:KvAt C 137 false:=⟨⟨_,_,_,F137,fun x=>by rfl,rfl,by decide,by decide⟩⟩
 have hvs:KvAt C 142 true:=⟨⟨_,_,_,F142,fun x=>by rfl,rfl,by decide,by decide⟩⟩
 have hin:InitAt C 77:=by
   refine ⟨⟨_,_,_,F77,rfl,rfl,?_,by decide,by decide,by decide⟩⟩
   intro x n M A E Q s hb hq
   refine kp_binds (XC.keeps hb) ?_ M A E Q hq
   clear hq hb Q E A M s F77 F142 F137 F103 F98 F110 F132 F84 F52
   intro S
   kernel_rfl
 have hsc:specialIn (Mine.g5.heap_1_39 w.params) (.ref 185) "__call__" = some (some (.builtin "type.__call__")):=by kernel_rfl
 have hlk:=cls_machine2 (M:=model C.prog C.w) (K:=Mine.g5.heap_1_39 w.params) (a:=185) (by k_is) rfl hsc
 have hall:HdrAll C (Mine.g5.heap_1_39 w.params) 84 132 110 98 103 137 142 77:=⟨hfns,hcv,hgt,hit,hst,hdl,hks,hvs,hnew,hin,mg_of KX T.g (by kernel_rfl),fun h hb=>hlk h (XC.keeps hb)⟩
 have hrt:RootOk C:=cTop_root hT9 T (fun x hx=>by
   simp only [List.mem_cons,List.not_mem_nil,or_false] at hx
   rcases hx with rfl | rfl | rfl | rfl | rfl | rfl | rfl | rfl<;>exact mg_none_of KX T.g (by kernel_rfl)) (fun x hx=>by
   simp only [List.mem_cons,List.not_mem_nil,or_false] at hx
   rcases hx with rfl | rfl<;>exact mg_none_of KX T.g (by kernel_rfl))
 have hsp:SpOk C:=cTop_sp hT9 T (fun t ht u hu J=>by simp only [List.mem_singleton] at ht hu;rw [ht,hu]) ⟨52,_,_,_,_,_,_,_,_,_,_,_,_,_,_,_,_,_,_,_,_,_,_,_,_,_,_,_,_,_,_,mg_of KX T.g (by kernel_rfl),F52,rfl,rfl,fun v w=>by rfl,by decide,by decide,by decide⟩
 have hsok:Sok C [] [] [] s₁:=cTop_sok hT9
 have F201:=fnAt_of (C:=C) (a:=201) (body:=_) XC (by k_is) rfl rfl rfl rfl rfl rfl (by k_is) rfl rfl rfl rfl rfl (by decide) (noSp (by decide))
 have m201:C.mg "_law_undone" = some (.ref 201):=mg_of KX T.g (by kernel_rfl)
 have r201:FnRdy C "_law_undone" (plainBnd ["word"]):=rdy_of m201 F201 (by kernel_rfl) (bind1 fun v=>rfl)
 have F208:=fnAt_of (C:=C) (a:=208) (body:=_) XC (by k_is) rfl rfl rfl rfl rfl rfl (by k_is) rfl rfl rfl rfl rfl (by decide) (noSp (by decide))
 have m208:C.mg "_law_onto" = some (.ref 208):=mg_of KX T.g (by kernel_rfl)
 have r208:FnRdy C "_law_onto" (plainBnd ["word","more"]):=rdy_of m208 F208 (by kernel_rfl) (bind2 fun v w=>rfl)
 have F45:=fnAt_of (C:=C) (a:=45) (body:=_) XC (by k_is) rfl rfl rfl rfl rfl rfl (by k_is) rfl rfl rfl rfl rfl (by decide) (noSp (by decide))
 have m45:C.mg "replace" = some (.ref 45):=mg_of KX T.g (by kernel_rfl)
 have r45:FnRdy C "replace" (varBnd "text" "pairs"):=rdy_of m45 F45 (by kernel_rfl) (var_bind fun v rest=>replace_bind (by decide) v rest)
 have F196:=fnAt_of (C:=C) (a:=196) (body:=_) XC (by k_is) rfl rfl rfl rfl rfl rfl (by k_is) rfl rfl rfl rfl rfl (by decide) (noSp (by decide))
 have m196:C.mg "_law_put" = some (.ref 196):=mg_of KX T.g (by kernel_rfl)
 have r196:FnRdy C "_law_put" (plainBnd ["word","row"]):=rdy_of m196 F196 (by kernel_rfl) (bind2 fun v w=>rfl)
 have F215:=fnAt_of (C:=C) (a:=215) (body:=_) XC (by k_is) rfl rfl rfl rfl rfl rfl (by k_is) rfl rfl rfl rfl rfl (by decide) (noSp (by decide))
 have m215:C.mg "_law_table" = some (.ref 215):=mg_of KX T.g (by kernel_rfl)
 have r215:FnRdy C "_law_table" (plainBnd ["braid"]):=rdy_of m215 F215 (by kernel_rfl) (bind1 fun v=>rfl)
 have F220:=fnAt_of (C:=C) (a:=220) (body:=_) XC (by k_is) rfl rfl rfl rfl rfl rfl (by k_is) rfl rfl rfl rfl rfl (by decide) (fun J=>⟨219,217,List.mem_singleton.mpr rfl,rfl⟩)
 have m220:C.mg "_law_turns" = some (.ref 220):=mg_of KX T.g (by kernel_rfl)
 have r220:FnRdy C "_law_turns" (plainBnd ["word"]):=rdy_of m220 F220 (by kernel_rfl) (bind1 fun v=>rfl)
 have F232:=fnAt_of (C:=C) (a:=232) (body:=_) XC (by k_is) rfl rfl rfl rfl rfl rfl (by k_is) rfl rfl rfl rfl rfl (by decide) (noSp (by decide))
 have m232:C.mg "_law_numbers" = some (.ref 232):=mg_of KX T.g (by kernel_rfl)
 have r232:FnRdy C "_law_numbers" (plainBnd ["braid"]):=rdy_of m232 F232 (by kernel_rfl) (bind1 fun v=>rfl)
 have F227:=fnAt_of (C:=C) (a:=227) (body:=_) XC (by k_is) rfl rfl rfl rfl rfl rfl (by k_is) rfl rfl rfl rfl rfl (by decide) (noSp (by decide))
 have m227:C.mg "_law_left" = some (.ref 227):=mg_of KX T.g (by kernel_rfl)
 have r227:FnRdy C "_law_left" (plainBnd ["braid"]):=rdy_of m227 F227 (by kernel_rfl) (bind1 fun v=>rfl)
 have F237:=fnAt_of (C:=C) (a:=237) (body:=_) XC (by k_is) rfl rfl rfl rfl rfl rfl (by k_is) rfl rfl rfl rfl rfl (by decide) (noSp (by decide))
 have m237:C.mg "_law_told" = some (.ref 237):=mg_of KX T.g (by kernel_rfl)
 have r237:FnRdy C "_law_told" (plainBnd ["braid"]):=rdy_of m237 F237 (by kernel_rfl) (bind1 fun v=>rfl)
 have F242:=fnAt_of (C:=C) (a:=242) (body:=_) XC (by k_is) rfl rfl rfl rfl rfl rfl (by k_is) rfl rfl rfl rfl rfl (by decide) (noSp (by decide))
 have m242:C.mg "law" = some (.ref 242):=mg_of KX T.g (by kernel_rfl)
 have r242:FnRdy C "law" (plainBnd ["script"]):=rdy_of m242 F242 (by kernel_rfl) (bind1 fun v=>rfl)
 refine ze3a3 (law_ok hall hsp hrt r201 r208 r45 r196 r215 r220 r232 r227 r237 r242) fun a o2 fd2 l1 l2 l3 hcall=>?_
 have ea:fa = a:=by
   have:=hmg.symm.trans l1
   injection this with e1
   injection e1
 subst ea
 rename Well _ _ _ _=>hw
 rename ¬_=>hc63
 obtain ⟨gs,hS⟩:=braid_ok chk_all _
 refine wpAny_mono (hcall _ [] _ gs hS callerA [] [] s₁ _ ⟨rfl,by decide,by decide⟩ hsok (script_has hw (by omega) ?_)) (fun v s' hp=>?_) (fun J J x=>x.elim)
 · intro b hb
   have hb:b = 217:=by simpa [VV,adr,C,cTop] using hb
   subst hb
   exact ⟨_,hT8 217 (.head _),rfl⟩
 · obtain ⟨io',g1,k1,hv⟩:=hp
   have hv:v = .bool true:=by simpa only [Has] using hv
   subst hv
   have hO:=old_ok (prog:=PySem.Challenge.rw_pm0047_01.row.prog) (w:=w) (mg:=mg) (mb:=mb) (cls:=185) (spc:=[(219,217,"_law_turns.<locals>.")]) hT9 g1 k1
   refine ze2 g1.same fun h' tk e=>?_
   refine ⟨.inl ⟨_,.bool true,[],rfl,fun cls=>rfl,.bool true,postW_of (by wrow_shape) (by wtm_val) (by str_meet;first | done | w_fin),unshared_nil⟩,hO,?_,?_⟩
   · rw [e]
   · rw [e];exact AllBare.of_eq hg
end Mine
end
theorem PySem.Challenge.cw_pm0047_01_holds : PySem.Challenge.rw_pm0047_01.Holds :=
  Mine.g5
