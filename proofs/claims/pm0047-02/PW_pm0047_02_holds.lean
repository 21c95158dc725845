import PyProof.Rows.All
import KE.KLam
import KE.KPairComp
import Wide.FinOn
import OpenK.AllK
import Wide.All
import Lean
import PySem.Challenge.RW_pm0047_02
set_option Elab.async false
set_option linter.unusedVariables false
set_option linter.unusedSimpArgs false
set_option tactic.hygienic false
set_option maxRecDepth 100000
set_option genSizeOf false
set_option genInjectivity false
set_option backward.match.sparseCases false
section
set_option backward.match.sparseCases true
set_option genInjectivity true
set_option genSizeOf true
set_option tactic.hygienic true
namespace Mine
theorem zea.{u0} {α:Sort u0} {P:α→Prop} {Q:α→Prop} {G:Prop} (h:∃ a:α,P a∧Q a) (k:∀ a:α,P a→Q a→G):G:=h.elim fun a q1=>k a q1.1 q1.2
theorem za {P:Prop} {Q:Prop} {G:Prop} (h:P∧Q) (k:P→Q→G):G:=k h.1 h.2
theorem ze.{u0} {α:Sort u0} {P:α→Prop} {G:Prop} (h:∃ a:α,P a) (k:∀ a:α,P a→G):G:=h.elim fun a q1=>k a q1
theorem ze2a.{u0,u1} {α:Sort u0} {β:Sort u1} {P:α→β→Prop} {Q:α→β→Prop} {G:Prop} (h:∃ a:α,∃ b:β,P a b∧Q a b) (k:∀ a:α,∀ b:β,P a b→Q a b→G):G:=h.elim fun a q1=>q1.elim fun b q2=>k a b q2.1 q2.2
theorem zae.{u0} {α:Sort u0} {P:Prop} {Q:α→Prop} {G:Prop} (h:P∧∃ a:α,Q a) (k:P→∀ a:α,Q a→G):G:=h.2.elim fun a q1=>k h.1 a q1
theorem ze2a2.{u0,u1} {α:Sort u0} {β:Sort u1} {P:α→β→Prop} {Q:α→β→Prop} {R:α→β→Prop} {G:Prop} (h:∃ a:α,∃ b:β,P a b∧Q a b∧R a b) (k:∀ a:α,∀ b:β,P a b→Q a b→R a b→G):G:=h.elim fun a q1=>q1.elim fun b q2=>k a b q2.1 q2.2.1 q2.2.2
theorem zae2a3.{u0,u1} {α:Sort u0} {β:Sort u1} {P:Prop} {Q:α→β→Prop} {R:α→β→Prop} {S:α→β→Prop} {T:α→β→Prop} {G:Prop} (h:P∧∃ a:α,∃ b:β,Q a b∧R a b∧S a b∧T a b) (k:P→∀ a:α,∀ b:β,Q a b→R a b→S a b→T a b→G):G:=h.2.elim fun a q1=>q1.elim fun b q2=>k h.1 a b q2.1 q2.2.1 q2.2.2.1 q2.2.2.2
theorem ze2.{u0,u1} {α:Sort u0} {β:Sort u1} {P:α→β→Prop} {G:Prop} (h:∃ a:α,∃ b:β,P a b) (k:∀ a:α,∀ b:β,P a b→G):G:=h.elim fun a q1=>q1.elim fun b q2=>k a b q2
theorem zea2.{u0} {α:Sort u0} {P:α→Prop} {Q:α→Prop} {R:α→Prop} {G:Prop} (h:∃ a:α,P a∧Q a∧R a) (k:∀ a:α,P a→Q a→R a→G):G:=h.elim fun a q1=>k a q1.1 q1.2.1 q1.2.2
theorem ze2a3.{u0,u1} {α:Sort u0} {β:Sort u1} {P:α→β→Prop} {Q:α→β→Prop} {R:α→β→Prop} {S:α→β→Prop} {G:Prop} (h:∃ a:α,∃ b:β,P a b∧Q a b∧R a b∧S a b) (k:∀ a:α,∀ b:β,P a b→Q a b→R a b→S a b→G):G:=h.elim fun a q1=>q1.elim fun b q2=>k a b q2.1 q2.2.1 q2.2.2.1 q2.2.2.2
theorem ze3a.{u0,u1,u2} {α:Sort u0} {β:Sort u1} {γ:Sort u2} {P:α→β→γ→Prop} {Q:α→β→γ→Prop} {G:Prop} (h:∃ a:α,∃ b:β,∃ c:γ,P a b c∧Q a b c) (k:∀ a:α,∀ b:β,∀ c:γ,P a b c→Q a b c→G):G:=h.elim fun a q1=>q1.elim fun b q2=>q2.elim fun c q3=>k a b c q3.1 q3.2
theorem ze3a3.{u0,u1,u2} {α:Sort u0} {β:Sort u1} {γ:Sort u2} {P:α→β→γ→Prop} {Q:α→β→γ→Prop} {R:α→β→γ→Prop} {S:α→β→γ→Prop} {G:Prop} (h:∃ a:α,∃ b:β,∃ c:γ,P a b c∧Q a b c∧R a b c∧S a b c) (k:∀ a:α,∀ b:β,∀ c:γ,P a b c→Q a b c→R a b c→S a b c→G):G:=h.elim fun a q1=>q1.elim fun b q2=>q2.elim fun c q3=>k a b c q3.1 q3.2.1 q3.2.2.1 q3.2.2.2
theorem za2 {P:Prop} {Q:Prop} {R:Prop} {G:Prop} (h:P∧Q∧R) (k:P→Q→R→G):G:=k h.1 h.2.1 h.2.2
theorem za3ea.{u0} {α:Sort u0} {P:Prop} {Q:Prop} {R:Prop} {S:α→Prop} {T:α→Prop} {G:Prop} (h:P∧Q∧R∧∃ a:α,S a∧T a) (k:P→Q→R→∀ a:α,S a→T a→G):G:=h.2.2.2.elim fun a q1=>k h.1 h.2.1 h.2.2.1 a q1.1 q1.2
theorem za4 {P:Prop} {Q:Prop} {R:Prop} {S:Prop} {T:Prop} {G:Prop} (h:P∧Q∧R∧S∧T) (k:P→Q→R→S→T→G):G:=k h.1 h.2.1 h.2.2.1 h.2.2.2.1 h.2.2.2.2
theorem ze3a2.{u0,u1,u2} {α:Sort u0} {β:Sort u1} {γ:Sort u2} {P:α→β→γ→Prop} {Q:α→β→γ→Prop} {R:α→β→γ→Prop} {G:Prop} (h:∃ a:α,∃ b:β,∃ c:γ,P a b c∧Q a b c∧R a b c) (k:∀ a:α,∀ b:β,∀ c:γ,P a b c→Q a b c→R a b c→G):G:=h.elim fun a q1=>q1.elim fun b q2=>q2.elim fun c q3=>k a b c q3.1 q3.2.1 q3.2.2
theorem ze3.{u0,u1,u2} {α:Sort u0} {β:Sort u1} {γ:Sort u2} {P:α→β→γ→Prop} {G:Prop} (h:∃ a:α,∃ b:β,∃ c:γ,P a b c) (k:∀ a:α,∀ b:β,∀ c:γ,P a b c→G):G:=h.elim fun a q1=>q1.elim fun b q2=>q2.elim fun c q3=>k a b c q3
theorem zea3.{u0} {α:Sort u0} {P:α→Prop} {Q:α→Prop} {R:α→Prop} {S:α→Prop} {G:Prop} (h:∃ a:α,P a∧Q a∧R a∧S a) (k:∀ a:α,P a→Q a→R a→S a→G):G:=h.elim fun a q1=>k a q1.1 q1.2.1 q1.2.2.1 q1.2.2.2
theorem zea4ea.{u0,u1} {α:Sort u0} {β:Sort u1} {P:α→Prop} {Q:α→Prop} {R:α→Prop} {S:α→Prop} {T:α→β→Prop} {U:α→β→Prop} {G:Prop} (h:∃ a:α,P a∧Q a∧R a∧S a∧∃ b:β,T a b∧U a b) (k:∀ a:α,P a→Q a→R a→S a→∀ b:β,T a b→U a b→G):G:=h.elim fun a q1=>q1.2.2.2.2.elim fun b q2=>k a q1.1 q1.2.1 q1.2.2.1 q1.2.2.2.1 b q2.1 q2.2
theorem zae3.{u0,u1,u2} {α:Sort u0} {β:Sort u1} {γ:Sort u2} {P:Prop} {Q:α→β→γ→Prop} {G:Prop} (h:P∧∃ a:α,∃ b:β,∃ c:γ,Q a b c) (k:P→∀ a:α,∀ b:β,∀ c:γ,Q a b c→G):G:=h.2.elim fun a q1=>q1.elim fun b q2=>q2.elim fun c q3=>k h.1 a b c q3
theorem ze2a2e2a2.{u0,u1,u2,u3} {α:Sort u0} {β:Sort u1} {γ:Sort u2} {δ:Sort u3} {P:α→β→Prop} {Q:α→β→Prop} {R:α→β→γ→δ→Prop} {S:α→β→γ→δ→Prop} {T:α→β→γ→δ→Prop} {G:Prop} (h:∃ a:α,∃ b:β,P a b∧Q a b∧∃ c:γ,∃ d:δ,R a b c d∧S a b c d∧T a b c d) (k:∀ a:α,∀ b:β,P a b→Q a b→∀ c:γ,∀ d:δ,R a b c d→S a b c d→T a b c d→G):G:=h.elim fun a q1=>q1.elim fun b q2=>q2.2.2.elim fun c q3=>q3.elim fun d q4=>k a b q2.1 q2.2.1 c d q4.1 q4.2.1 q4.2.2
theorem ze4a3.{u0,u1,u2,u3} {α:Sort u0} {β:Sort u1} {γ:Sort u2} {δ:Sort u3} {P:α→β→γ→δ→Prop} {Q:α→β→γ→δ→Prop} {R:α→β→γ→δ→Prop} {S:α→β→γ→δ→Prop} {G:Prop} (h:∃ a:α,∃ b:β,∃ c:γ,∃ d:δ,P a b c d∧Q a b c d∧R a b c d∧S a b c d) (k:∀ a:α,∀ b:β,∀ c:γ,∀ d:δ,P a b c d→Q a b c d→R a b c d→S a b c d→G):G:=h.elim fun a q1=>q1.elim fun b q2=>q2.elim fun c q3=>q3.elim fun d q4=>k a b c d q4.1 q4.2.1 q4.2.2.1 q4.2.2.2
theorem zae2a2.{u0,u1} {α:Sort u0} {β:Sort u1} {P:Prop} {Q:α→β→Prop} {R:α→β→Prop} {S:α→β→Prop} {G:Prop} (h:P∧∃ a:α,∃ b:β,Q a b∧R a b∧S a b) (k:P→∀ a:α,∀ b:β,Q a b→R a b→S a b→G):G:=h.2.elim fun a q1=>q1.elim fun b q2=>k h.1 a b q2.1 q2.2.1 q2.2.2
theorem ze2a2e2a2e2a2.{u0,u1,u2,u3,u4,u5} {α:Sort u0} {β:Sort u1} {γ:Sort u2} {δ:Sort u3} {ε:Sort u4} {ζ:Sort u5} {P:α→β→Prop} {Q:α→β→Prop} {R:α→β→γ→δ→Prop} {S:α→β→γ→δ→Prop} {T:α→β→γ→δ→ε→ζ→Prop} {U:α→β→γ→δ→ε→ζ→Prop} {V:α→β→γ→δ→ε→ζ→Prop} {G:Prop} (h:∃ a:α,∃ b:β,P a b∧Q a b∧∃ c:γ,∃ d:δ,R a b c d∧S a b c d∧∃ e:ε,∃ f:ζ,T a b c d e f∧U a b c d e f∧V a b c d e f) (k:∀ a:α,∀ b:β,P a b→Q a b→∀ c:γ,∀ d:δ,R a b c d→S a b c d→∀ e:ε,∀ f:ζ,T a b c d e f→U a b c d e f→V a b c d e f→G):G:=h.elim fun a q1=>q1.elim fun b q2=>q2.2.2.elim fun c q3=>q3.elim fun d q4=>q4.2.2.elim fun e q5=>q5.elim fun f q6=>k a b q2.1 q2.2.1 c d q4.1 q4.2.1 e f q6.1 q6.2.1 q6.2.2
theorem ze2a4.{u0,u1} {α:Sort u0} {β:Sort u1} {P:α→β→Prop} {Q:α→β→Prop} {R:α→β→Prop} {S:α→β→Prop} {T:α→β→Prop} {G:Prop} (h:∃ a:α,∃ b:β,P a b∧Q a b∧R a b∧S a b∧T a b) (k:∀ a:α,∀ b:β,P a b→Q a b→R a b→S a b→T a b→G):G:=h.elim fun a q1=>q1.elim fun b q2=>k a b q2.1 q2.2.1 q2.2.2.1 q2.2.2.2.1 q2.2.2.2.2
theorem zea2ea.{u0,u1} {α:Sort u0} {β:Sort u1} {P:α→Prop} {Q:α→Prop} {R:α→β→Prop} {S:α→β→Prop} {G:Prop} (h:∃ a:α,P a∧Q a∧∃ b:β,R a b∧S a b) (k:∀ a:α,P a→Q a→∀ b:β,R a b→S a b→G):G:=h.elim fun a q1=>q1.2.2.elim fun b q2=>k a q1.1 q1.2.1 b q2.1 q2.2
theorem zae2a3e2a2e2a2.{u0,u1,u2,u3,u4,u5} {α:Sort u0} {β:Sort u1} {γ:Sort u2} {δ:Sort u3} {ε:Sort u4} {ζ:Sort u5} {P:Prop} {Q:α→β→Prop} {R:α→β→Prop} {S:α→β→Prop} {T:α→β→γ→δ→Prop} {U:α→β→γ→δ→Prop} {V:α→β→γ→δ→ε→ζ→Prop} {W:α→β→γ→δ→ε→ζ→Prop} {X:α→β→γ→δ→ε→ζ→Prop} {G:Prop} (h:P∧∃ a:α,∃ b:β,Q a b∧R a b∧S a b∧∃ c:γ,∃ d:δ,T a b c d∧U a b c d∧∃ e:ε,∃ f:ζ,V a b c d e f∧W a b c d e f∧X a b c d e f) (k:P→∀ a:α,∀ b:β,Q a b→R a b→S a b→∀ c:γ,∀ d:δ,T a b c d→U a b c d→∀ e:ε,∀ f:ζ,V a b c d e f→W a b c d e f→X a b c d e f→G):G:=h.2.elim fun a q1=>q1.elim fun b q2=>q2.2.2.2.elim fun c q3=>q3.elim fun d q4=>q4.2.2.elim fun e q5=>q5.elim fun f q6=>k h.1 a b q2.1 q2.2.1 q2.2.2.1 c d q4.1 q4.2.1 e f q6.1 q6.2.1 q6.2.2
theorem zaea.{u0} {α:Sort u0} {P:Prop} {Q:α→Prop} {R:α→Prop} {G:Prop} (h:P∧∃ a:α,Q a∧R a) (k:P→∀ a:α,Q a→R a→G):G:=h.2.elim fun a q1=>k h.1 a q1.1 q1.2
theorem za3 {P:Prop} {Q:Prop} {R:Prop} {S:Prop} {G:Prop} (h:P∧Q∧R∧S) (k:P→Q→R→S→G):G:=k h.1 h.2.1 h.2.2.1 h.2.2.2
theorem i2.{u0,u1} {α:Type u0} {β:Type u1} {a c:α} {b d:β} {M:α→β→Prop} (h:some (a,b) = some (c,d)) (k:M a b):M c d:=by
 injection h with h;injection h with h1 h2;subst h1;subst h2;exact k
end Mine
end
section
open PySem
namespace Mine
open PySem.Builtin PySem.Builtin.Re
namespace RxF
theorem plainAttrs_pat:PlainAttrs "re.Pattern" :=
 ⟨⟨"object.__getattribute__",by rw [typeLookup_type,builtinLookup_eq_fast];kernel_rfl,by decide +kernel⟩,by rw [typeLookup_type,builtinLookup_eq_fast];kernel_rfl⟩
theorem slot_search:Slot "re.Pattern" "search" "re.Pattern.search" :=
 .of (owner:="re.Pattern") (n:="search") (by rw [typeLookup_type,builtinLookup_eq_fast];kernel_rfl) (by decide +kernel) (by decide +kernel) (by decide +kernel)
   (by first | exact .inl (by decide +kernel) | exact .inr (by decide +kernel)) (by rw [isSubtype_type];kernel_rfl)
theorem type_search:typeOf (.builtin "re.Pattern.search") = pure (.type "method_descriptor"):=by show builtinType _ = _;rw [builtinType_eq_fast];kernel_rfl
theorem entry_search:entryFor table "re.Pattern.search" = some Builtin.«re.Pattern.search»:=entryFor_of_tree (by kernel_rfl)
theorem args_search (a b:Value):argsOk "re.Pattern.search" ⟨[a,b],[]⟩:=by
 unfold argsOk;kernel_rfl
end RxF
noncomputable def rx1:Array Nat:=#[14,10,4,1,1,22,0,31,16,127,0,13,7,22,0,31,16,127,0,1]
noncomputable def rx2:Array Nat:=#[14,14,4,1,1,9,4294966783,0,0,2147483648,0,0,0,0,0,13,11,9,4294966783,0,0,2147483648,0,0,0,0,0,1]
noncomputable def al3 (c:Nat):Bool:=32≤c&&c < 127
noncomputable def Out (r:Except String (Bool × Sre.Seen)):Prop:=∃ seen,r = .ok (false,seen)
theorem cv6 (c:Nat) (h:al3 c = true) (seen:Sre.Seen):Out (Sre.inSet rx1 c rx1.size 5 true seen):=by
 unfold al3 at h
 simp only [Bool.and_eq_true,decide_eq_true_eq] at h
 have h2:(decide (c≤31)) = false:=by simpa using (by lia:31 < c)
 have h3:(c==127) = false:=by simpa using (by lia:c≠127)
 refine ⟨?_,?_⟩
 rotate_left
 · show Sre.inSet rx1 c 20 5 true seen = _
   show (if ((decide (0≤c))&&decide (c≤31)) = true then _ else Sre.inSet rx1 c 19 8 true _) = _
   rw [h2,Bool.and_false,if_neg (by decide)]
   show (if (c==127) = true then _ else Sre.inSet rx1 c 18 10 true _) = _
   rw [h3,if_neg (by decide)]
   rfl
theorem cs7:∀ c:Fin 127,32≤c.val→(rx2.getD (5 + (1 + c.val / 32)) 0).testBit (c.val % 32) = false:=by decide +kernel
theorem cx0 (c:Nat) (h:al3 c = true) (seen:Sre.Seen):Out (Sre.inSet rx2 c rx2.size 5 true seen):=by
 unfold al3 at h
 simp only [Bool.and_eq_true,decide_eq_true_eq] at h
 have hb:=cs7 ⟨c,h.2⟩ h.1
 refine ⟨?_,?_⟩
 rotate_left
 · show Sre.inSet rx2 c 28 5 true seen = _
   show (if (decide (c < 256)&&(rx2.getD (5 + (1 + c / 32)) 0).testBit (c % 32)) = true then _ else Sre.inSet rx2 c 27 14 true _) = _
   rw [hb,Bool.and_false,if_neg (by decide)]
   rfl
theorem vu {m:Sre.M} {code:Array Nat} (hc:m.code = code) (hset:∀ c,al3 c = true→∀ seen,Out (Sre.inSet code c code.size 5 true seen)) (ht:∀ i,i < m.lim→al3 (m.text.getD i 0) = true) :
   ∀ fuel s seen,∃ seen',Sre.M.admitted m fuel s seen = .ok (none,seen'):=by
 intro fuel
 induction fuel with
 | zero=>intro s seen;exact ⟨seen,rfl⟩
 | succ n ih =>
   intro s seen
   show ∃ seen',(if s ≥ m.lim then _ else _) = _
   by_cases hs:s ≥ m.lim
   · rw [if_pos hs];exact ⟨seen,rfl⟩
   · rw [if_neg hs,hc]
     obtain ⟨seen2,e⟩:=hset _ (ht s (by lia)) seen
     rw [e]
     exact ih _ _
theorem yz (g:Nat) (text:Array Nat) (ht:∀ i,i < text.size→al3 (text.getD i 0) = true) {code:Array Nat} (hcode:code = rx1∨code = rx2) :
   ∃ m,Sre.forSearch code text g 0 text.size false = m∧m.answer = some false∧m.frames = []∧m.outcome = none:=by
 have key:∀ (m:Sre.M),m.code = code→m.text = text→m.lim = text.size→m.frames = []→m.outcome = none→(m.attemptFrom 0 true).answer = some false∧(m.attemptFrom 0 true).frames = []∧(m.attemptFrom 0 true).outcome = none:=by
   intro m h1 h2 h3 h4 h5
   have h6:m.hasFirstSet = true:=by
     unfold Sre.M.hasFirstSet
     rw [h1]
     rcases hcode with rfl | rfl<;>rfl
   have hset:∀ c,al3 c = true→∀ seen,Out (Sre.inSet code c code.size 5 true seen):=by
     rcases hcode with rfl | rfl
     · exact cv6
     · exact cx0
   obtain ⟨seen',e⟩:=vu h1 hset (fun i hi=>by rw [h2];exact ht i (h3 ▸ hi)) (m.lim + 1 - 0) 0 m.seen
   have ha:m.attemptFrom 0 true = { m with seen:=seen' }.say false:=by
     show (if (!m.hasFirstSet) = true then _ else _) = _
     rw [h6,if_neg (by decide),e]
   rw [ha]
   exact ⟨rfl,h4,h5⟩
 rcases hcode with rfl | rfl
 · refine ⟨_,rfl,?_⟩
   unfold Sre.forSearch
   show (ite ((decide (0 > text.size)||decide (text.size - 0 < 1)) = true) _ _:Sre.M).answer = _∧(ite ((decide (0 > text.size)||decide (text.size - 0 < 1)) = true) _ _:Sre.M).frames = _∧(ite ((decide (0 > text.size)||decide (text.size - 0 < 1)) = true) _ _:Sre.M).outcome = _
   split
   · exact ⟨rfl,rfl,rfl⟩
   · exact key _ rfl rfl rfl rfl rfl
 · refine ⟨_,rfl,?_⟩
   unfold Sre.forSearch
   show (ite ((decide (0 > text.size)||decide (text.size - 0 < 1)) = true) _ _:Sre.M).answer = _∧(ite ((decide (0 > text.size)||decide (text.size - 0 < 1)) = true) _ _:Sre.M).frames = _∧(ite ((decide (0 > text.size)||decide (text.size - 0 < 1)) = true) _ _:Sre.M).outcome = _
   split
   · exact ⟨rfl,rfl,rfl⟩
   · exact key _ rfl rfl rfl rfl rfl
theorem ak3 {m:Sre.M} (h1:m.answer = some false) (h2:m.frames = []) (h3:m.outcome = none):m.runFor 4 = { m with outcome:=some .failed }:=by
 have hs:m.step = { m with outcome:=some .failed }:=by
   unfold Sre.M.step
   rw [h3,h1,h2]
   rfl
 show (if m.outcome.isSome = true then m else Sre.M.runFor 3 m.step) = _
 rw [h3,hs]
 rfl
noncomputable def ab8 (h:Heap) (p:Addr) (code:Array Nat):Prop :=
 ∃ o vs cc oc its n,h.get? p = some o∧o.cls = .type "re.Pattern"∧o.dict = none∧o.data = .fields vs∧reRawNat (vs.getD 6 .none) = 0∧vs.getD 5 .none = .ref cc∧h.get? cc = some oc∧oc.data = .seq its n∧(its.map reRawOf).map (·.toNat) = code
section
variable {prog:Program} {w:World} {A:Around} {E:Value→Shared→Prop} {s:Shared}
theorem aj3 {b:Nat→PUnit→Sem (ForInStep PUnit)} {Q:PUnit→Shared→Prop} (hb:∀ i r (Q:ForInStep PUnit→Shared→Prop),Q (.yield ⟨⟩) s→wpAny (model prog w) A (b i r) Q E s) (h:Q ⟨⟩ s):∀ l:List Nat,wpAny (model prog w) A (forIn l PUnit.unit b) Q E s
 | []=>wpAny_pure h
 | i::r=>by
   rw [List.forIn_cons]
   exact wpAny_bind (hb i _ _ (aj3 hb h r))
theorem ak8 {m:Sre.M} (h1:m.answer = some false) (h2:m.frames = []) (h3:m.outcome = none) {Q:Option Sre.M→Shared→Prop} (h:Q none s):wpAny (model prog w) A (reRunToEnd m) Q E s:=by
 unfold reRunToEnd
 have hd:reDrive (2 ^ 64) m = pure { m with outcome:=some .failed }:=by
   have e:(2 ^ 64:Nat) = (2 ^ 64 - 1) + 1:=by decide
   rw [e]
   show (if (m.runFor 4).outcome.isSome = true then pure (m.runFor 4) else _) = _
   rw [ak3 h1 h2 h3]
   rfl
 rw [hd]
 refine wpAny_bind (wpAny_pure ?_)
 refine wpAny_bind (wpAny_mono (Q:=fun J s'=>s' = s) (aj3 (fun i r Q hq=>?_) rfl _) (fun J s' hs=>?_) fun J J x=>x)
 · dsimp only
   split
   · exact wpAny_bind (wpAny_rule (wpAny_pure hq))
   · exact wpAny_pure hq
 subst hs
 exact wpAny_pure h
theorem bm2 (v:Value):reNamed "re.Pattern.search" "search" ["string","pos","endpos"] 1 [v] [] = pure [some v,none,none]:=by rfl
theorem aa0 {p:Addr} {code:Array Nat} {x:Str} {t:Tok} (hp:ab8 s.heap p code) (hcode:code = rx1∨code = rx2) (hx:∀ i,i < x.cps.size→al3 (x.cps.getD i 0) = true) (hl:x.length≤2 ^ 62) {Q:Value→Shared→Prop} (h:Q .none s) :
   wpAny (model prog w) A (call (.builtin "re.Pattern.search") [.ref p,.str x t]) Q E s:=by
 obtain ⟨o,vs,cc,oc,its,n,h1,h2,h2',h3,h4,h5,h6,h7,h8⟩:=hp
 have hT:s.TypeIs (.ref p) "re.Pattern":=⟨o,h1,h2⟩
 refine wpAny_call_entry RxF.slot_search hT RxF.entry_search ?_ (RxF.args_search _ _)
 unfold Builtin.«re.Pattern.search»
 refine wpAny_bind ?_
 unfold reTarget
 dsimp only
 rw [bm2]
 refine wpAny_bind (wpAny_pure ?_)
 dsimp only
 refine wpAny_bind (wpAny_pure ?_)
 refine wpAny_bind (wpAny_pure ?_)
 refine wpAny_bind (wpAny_fieldsOf h1 h3 ?_)
 have ht:reTextOf (.str x t) = pure (x.cps,0):=rfl
 rw [ht]
 refine wpAny_bind (wpAny_pure ?_)
 dsimp only
 rw [h4]
 simp only [beq_self_eq_true,Bool.true_and,show ((0:Nat)==1) = false from rfl,Bool.false_eq_true,if_false,Bool.and_false,Bool.false_and]
 have hn:reNoCollectionInside (.str x t) 0 = pure ():=rfl
 rw [hn]
 refine wpAny_bind (wpAny_pure ?_)
 rw [h5]
 unfold reRawItems
 refine wpAny_bind (wpAny_bind (wpAny_seqItems h6 h7 (wpAny_pure ?_)))
 refine wpAny_pure ?_
 simp only [Option.getD_some]
 rw [h8]
 have e0:Min.min (0:Int).toNat x.cps.size = 0:=by simp
 have e1:Min.min ((2:Int) ^ 63 - 1).toNat x.cps.size = x.cps.size:=by
   have:((2:Int) ^ 63 - 1).toNat = 9223372036854775807:=by decide
   rw [this]
   have hl':x.cps.size≤2 ^ 62:=hl
   exact Nat.min_eq_right (Nat.le_trans hl' (by decide))
 unfold reAnswer
 dsimp only
 rw [e0,e1]
 obtain ⟨m,hm,a1,a2,a3⟩:=yz (reRawNat (vs.getD 2 .none)) x.cps hx hcode
 rw [hm]
 exact wpAny_bind (ak8 a1 a2 a3 (wpAny_pure ⟨_,rfl,h⟩))
end
end Mine
namespace Mine
inductive D where
 | none | bool (b:Bool) | int (i:Int) | str (s:Str)
 | tup (l:List D) | lst (l:List D) | hdr (k:Nat)
 deriving Inhabited
noncomputable abbrev Sg:=List (List (Str × Str))
noncomputable abbrev Ro:=List (Str × D)
noncomputable def lim:Nat:=1000000
noncomputable def j7 (x:Str):Bool:=decide (x.length≤lim)
noncomputable def big (i:Int):Bool:=decide (i.natAbs < 2 ^ 62)
noncomputable def z6:D→Option Bool
 | .bool b=>some b
 | .tup l=>some (!l.isEmpty)
 | _=>none
noncomputable def eqK (x y:Option Bool):Option Bool:=match x with
 | some true=>y
 | _=>none
mutual
noncomputable def eqD:D→D→Option Bool
 | .none,.none=>some true
 | .int a,.int b=>some (a==b)
 | .str a,.str b=>some (a==b)
 | .str _,.none=>some false
 | .tup a,.tup b=>eqL a b
 | .lst a,.lst b=>if a.length = b.length then eqL a b else some false
 | _,_=>none
noncomputable def eqL:List D→List D→Option Bool
 | [],[]=>some true
 | a::as,b::bs=>eqK (eqD a b) (eqL as bs)
 | _,_=>none
end
mutual
noncomputable def dep:D→Nat
 | .tup l=>ud l + 1
 | .lst l=>ud l + 1
 | _=>0
noncomputable def ud:List D→Nat
 | []=>0
 | d::r=>max (dep d) (ud r)
end
noncomputable def jm:List D→Option (List Int)
 | []=>some []
 | .int i::r=>(jm r).map (i::·)
 | _=>none
noncomputable def bv:List D→Option (List Str)
 | []=>some []
 | .str x::r=>(bv r).map (x::·)
 | _=>none
noncomputable def ra (x:Str):List D:=x.cps.toList.map fun c=>.str ⟨#[c]⟩
noncomputable def bc (n:Nat) (i:Int):Option Nat :=
 if 0≤i then (if i < n then some i.toNat else none) else if -(n:Int)≤i then some (i + n).toNat else none
noncomputable def picks (n:Nat) (lo hi st:Option Int):List Nat:=Builtin.Str.strSliceIndices lo hi (st.getD 1) n
noncomputable def jq (x:Str) (lo hi st:Option Int):Str :=
 if (st.getD 1==1&&(picks x.length lo hi st).length==x.length) = true then x else ⟨((picks x.length lo hi st).filterMap (x.cps[·]?)).toArray⟩
noncomputable def ac6 (op:Operator) (a b:D):Option D :=
 match op,a,b with
 | .Add,.int x,.int y=>some (.int (x + y))
 | .Add,.str x,.str y=>if (x++y).length≤lim then some (.str (x++y)) else none
 | .Add,.lst x,.lst y=>if x.length + y.length≤lim then some (.lst (x++y)) else none
 | .Sub,.int x,.int y=>some (.int (x - y))
 | .Mult,.str x,.int y=>if 0≤y∧x.length * y.toNat≤lim∧y≤lim∧x.length≤lim then some (.str (Txt.mul x y)) else none
 | .Mod,.int x,.int y=>if 0 < y then some (.int (x % y)) else none
 | _,_,_=>none
noncomputable def jo (op:CmpOp) (a b:D):Option Bool :=
 if dep a > 20∨dep b > 20 then none else
 match op,a,b with
 | .Eq,a,b=>eqD a b
 | .NotEq,a,b=>(eqD a b).map (!·)
 | .Lt,.int x,.int y=>some (decide (x < y))
 | .Gt,.int x,.int y=>some (decide (y < x))
 | .GtE,.int x,.int y=>some (decide (y≤x))
 | .Lt,.str x,.str y=>some (decide (x.cps.toList < y.cps.toList))
 | .LtE,.str x,.str y=>some (!decide (y.cps.toList < x.cps.toList))
 | .Is,.lst _,.none=>some false
 | _,_,_=>none
noncomputable def z7 (a i:D):Option D :=
 match a,i with
 | .str x,.int i=>(bc x.length i).bind fun k=>(x.cps[k]?).map fun c=>.str ⟨#[c]⟩
 | .lst l,.int i=>(bc l.length i).bind fun k=>l[k]?
 | .tup l,.int i=>(bc l.length i).bind fun k=>l[k]?
 | _,_=>none
noncomputable def y0 (a:D) (lo hi st:Option Int):Option D :=
 if st = some 0 then none else
 match a with
 | .str x=>if (jq x lo hi st).length≤lim then some (.str (jq x lo hi st)) else none
 | .lst l=>some (.lst ((picks l.length lo hi st).filterMap (l[·]?)))
 | .tup l=>(match lo,hi,st with
   | some a,none,none=>if 1≤a∧a≤l.length then some (.tup (l.drop a.toNat)) else none
   | _,_,_=>none)
 | _=>none
noncomputable abbrev ae:=List D→Sg→Option (D × Sg)
structure Tbl where
 fn:Str→Option ae
 mt:Str→Option ae
 new:Option ae
 fz:Str→Option ae
noncomputable abbrev Kd:=Str→Option NameKind
noncomputable def c7 {α β:Type} (x:Option (α × Sg)) (f:α→Sg→Option (β × Sg)):Option (β × Sg) :=
 match x with
 | some (a,g)=>f a g
 | none=>none
noncomputable def cn {α β:Type} (x:Option (α × Sg)) (f:α→Sg→Option β):Option β :=
 match x with
 | some (a,g)=>f a g
 | none=>none
noncomputable def evs (ev:Expr→Sg→Option (D × Sg)):List Expr→Sg→Option (List D × Sg)
 | [],g=>some ([],g)
 | .Starred e _::r,g=>c7 (ev e g) fun d g =>
     match d with
     | .lst l=>c7 (evs ev r g) fun ds g=>some (l++ds,g)
     | _=>none
 | e::r,g=>c7 (ev e g) fun d g=>c7 (evs ev r g) fun ds g=>some (d::ds,g)
noncomputable def fx (ev:Expr→Sg→Option (D × Sg)):Option Expr→Sg→Option (Option Int × Sg)
 | none,g=>some (none,g)
 | some e,g=>c7 (ev e g) fun d g=>match d with | .int i=>if big i then some (some i,g) else none | _=>none
noncomputable def ay0 (tr:Expr→Sg→Option (Bool × Sg)):List Expr→Sg→Option (Bool × Sg)
 | [],g=>some (true,g)
 | e::r,g=>c7 (tr e g) fun b g=>if b then ay0 tr r g else some (false,g)
noncomputable def bg8 (tr:Expr→Sg→Option (Bool × Sg)):List Expr→Sg→Option (Bool × Sg)
 | [],g=>some (false,g)
 | e::r,g=>c7 (tr e g) fun b g=>if b then some (true,g) else bg8 tr r g
noncomputable def nm (a b c:Int):List D:=(List.range (if 0 < c then (b - a + c - 1) / c else (a - b - c - 1) / (-c)).toNat).map fun (k:Nat)=>.int (a + c * (k:Int))
noncomputable def m5 (a b c:Int):Option (List D) :=
 if c != 0&&Builtin.Range.small a b c&&!Builtin.divisionGoesByPylong (b - a) c&&(Builtin.Range.rangeSize a b c==((nm a b c).length:Int))&&decide ((nm a b c).length≤lim) then some (nm a b c) else none
noncomputable def n9:List Expr→Option (List Str)
 | []=>some []
 | .Name x _::r=>(n9 r).map (x::·)
 | _=>none
noncomputable def tgt (t:Expr) (d:D):Option (List (Str × D)) :=
 match t with
 | .Name x _=>some [(x,d)]
 | .Tuple [.Name x _,.Name y _] _ _=>if x==y then none else
   match d with
   | .tup [a,b]=>some [(x,a),(y,b)]
   | _=>none
 | _=>none
noncomputable def fq:Expr→Option (List Str)
 | .Name x _=>some [x]
 | .Tuple [.Name x _,.Name y _] _ _=>if x==y then none else some [x,y]
 | _=>none
noncomputable def m9 (sc:Scope) (ro:Ro):Ro:=ro.filter fun p=>sc.names.lookup p.1==some .free
noncomputable def z2 (sc:Scope) (kd:Kd) (x:Str):Bool :=
 (sc.kind==.function&&sc.names.lookup ("_split_list":Str) != some .globalImplicit)&&sc.names.all (fun p=>p.2 != .cell&&(p.2 != .local||sc.names.lookup p.1==some .local)&&(p.2 != .free||kd p.1==some .cell||kd p.1==some .free))&&(sc.names.lookup x==some .local&&!sc.isCoroutine&&!sc.isGenerator)
noncomputable def aq8 (sc:Scope) (x:Str):Bool:=sc.names.filter (fun p=>p.2==.cell)==[(x,.cell)]
noncomputable def wu (sc:Scope) (kd:Kd) (ns:List Str):Bool :=
 (sc.kind==.function&&sc.names.lookup ("_split_list":Str) != some .globalImplicit)&&sc.names.all (fun p=>(p.2 != .local||sc.names.lookup p.1==some .local)&&(p.2 != .free||kd p.1==some .cell||kd p.1==some .free)) &&
   ((sc.names.filter (fun p=>p.2==.cell)).isEmpty&&ns.all (fun x=>sc.names.lookup x==some .local) ||
     (match ns with | [x]=>aq8 sc x&&sc.names.lookup x==some .cell | _=>false))
noncomputable def ig (sc:Scope) (kd:Kd) (t:Expr):Bool :=
 match fq t with
 | some ns=>wu sc kd ns
 | none=>false
noncomputable def sj (sc:Scope) (kd:Kd) (t u:Expr):Bool :=
 match t,u with
 | .Name x _,.Name y _=>x != y&&wu sc kd [x,y]
 | _,_=>false
noncomputable def dc:D→Option (List D)
 | .str x=>some (ra x)
 | .lst l=>some l
 | _=>none
noncomputable def cr:List D→List D→List D
 | a::as,b::bs=>.tup [a,b]::cr as bs
 | _,_=>[]
noncomputable abbrev Em:=Ro→Sg→Option (List D × Sg)
noncomputable def emB (el:Ro→Sg→Option (D × Sg)) (ro:Ro) (ok:D) (g:Sg):Option (List D × Sg) :=
 match ok with
 | .bool true=>c7 (el ro g) fun y g=>some ([y],g)
 | .bool false=>some ([],g)
 | _=>none
noncomputable def emK (tr el:Ro→Sg→Option (D × Sg)):Em:=fun ro g=>c7 (tr ro g) (emB el ro)
noncomputable def o7 (em:Em) (t:Expr) (base:Ro):List D→Sg→Option (List D × Sg)
 | [],g=>some ([],g)
 | d::ds,g =>
   match tgt t d with
   | none=>none
   | some b=>c7 (em (b++base) g) fun ys g=>c7 (o7 em t base ds g) fun zs g=>some (ys++zs,g)
noncomputable def cg:Expr→Bool
 | .Call (.Name x _) _ _ _=>x != ("super":Str)
 | _=>true
noncomputable def f5:Expr→Bool
 | .Starred ..=>false
 | _=>true
noncomputable def r6:List Expr→Bool
 | []=>true
 | e::_=>f5 e
noncomputable def ay (f:Str):Bool:=f==("len":Str)||f==("max":Str)||f==("min":Str)||f==("str":Str)||f==("Headers":Str)
noncomputable def fnC (S:Option ae) (ys:List D) (g:Sg):Option (D × Sg):=match S with
 | some s=>s ys g
 | none=>none
noncomputable def cj6 (x:Str) (g:Sg):Option (D × Sg):=if j7 x = true then some (.str x,g) else none
noncomputable def ak7 (x:Str) (ts:Option (List Str)) (g:Sg):Option (D × Sg):=match ts with
 | some ts=>if (JoinOk x ts&&j7 (Txt.join x ts)) = true then some (.str (Txt.join x ts),g) else none
 | none=>none
noncomputable def ai7 (x y:Str) (g:Sg):Option (D × Sg):=if (y.length==0) = true then none else if (Txt.split x y).length≤lim∧(Txt.split x y).all j7 = true then some (.lst ((Txt.split x y).map .str),g) else none
noncomputable def ag7 (l:List Nat) (g:Sg):Option (D × Sg):=match l with
 | i::_=>some (.int i,g)
 | []=>none
noncomputable def cl9 (m:Str) (x:Str) (ys:List D) (g:Sg):Option (D × Sg):=match ys with
 | []=>if (m==("lower":Str)) = true then cj6 (Txt.lower x) g else if (m==("upper":Str)) = true then cj6 (Txt.upper x) g else none
 | [.lst l]=>if (m==("join":Str)) = true then ak7 x (bv l) g else none
 | [.str y]=>if (m==("split":Str)) = true then ai7 x y g else if (m==("index":Str)) = true then ag7 (Builtin.Str.occurrences x y 0 x.length 1) g else if (m==("count":Str)) = true then some (.int (Txt.count x y),g) else none
 | _=>none
noncomputable def rb (ts:List Str) (y:Str):Nat:=ts.findIdx (fun t=>t==y)
noncomputable def cu6 (ts:List Str) (y:Str) (g:Sg):Option (D × Sg):=if rb ts y < ts.length then some (.int (rb ts y),g) else none
noncomputable def cl8 (m:Str) (l ys:List D) (g:Sg):Option (D × Sg):=match ys with
 | [.str y]=>if (m==("index":Str)) = true then (match bv l with | some ts=>cu6 ts y g | none=>none) else none
 | _=>none
noncomputable def ez (T:Tbl) (m:Str) (x:D) (ys:List D) (g:Sg):Option (D × Sg) :=
 match x with
 | .hdr k=>fnC (T.mt m) (.hdr k::ys) g
 | .str x=>cl9 m x ys g
 | .lst l=>cl8 m l ys g
 | _=>none
noncomputable def cm4 (ys:List D) (g:Sg):Option (D × Sg):=match ys with
 | [.str x]=>some (.int x.length,g)
 | [.lst l]=>some (.int l.length,g)
 | _=>none
noncomputable def ba7 (up:Bool) (l:List Int):Option Int:=if up then l.max? else l.min?
noncomputable def ba2 (up:Bool) (ys:List D) (g:Sg):Option (D × Sg):=match ys with
 | [.lst l]=>((jm l).bind (ba7 up)).map fun i=>(.int i,g)
 | [.int a,.int b]=>some (.int (if up then (if b > a then b else a) else (if b < a then b else a)),g)
 | _=>none
noncomputable def cm5 (ys:List D) (g:Sg):Option (D × Sg):=match ys with
 | [.int i]=>if i.natAbs.log2 < 1920∧j7 (Str.ofString (toString i)) = true then some (.str (Str.ofString (toString i)),g) else none
 | _=>none
noncomputable def cl2 (d:D) (g:Sg):Option (D × Sg):=match d with
 | .int n=>if 0≤n∧n≤1000000 then some (.int n,g) else none
 | _=>none
noncomputable def ct6 (T:Tbl) (ys:List D) (g:Sg):Option (D × Sg):=match ys with
 | [.hdr k]=>c7 (fnC (T.mt "__len__") [.hdr k] g) cl2
 | _=>cm4 ys g
noncomputable def ce (T:Tbl) (f:Str) (ys:List D) (g:Sg):Option (D × Sg) :=
 if (f==("len":Str)) = true then ct6 T ys g
 else if (f==("max":Str)) = true then ba2 true ys g
 else if (f==("min":Str)) = true then ba2 false ys g
 else if (f==("str":Str)) = true then cm5 ys g
 else if ((["range","zip","enumerate","type","Headers"]:List Str).contains f) = true then none
 else fnC (T.fn f) ys g
noncomputable def jk (tr:D→Sg→Option (Bool × Sg)):List D→Sg→Option ((List D × List D) × Sg)
 | [],g=>some (([],[]),g)
 | d::ds,g=>c7 (tr d g) fun b g=>c7 (jk tr ds g) fun p g=>some (if b then (d::p.1,p.2) else (p.1,d::p.2),g)
noncomputable def az5:Expr→Bool
 | .Call (.Name z _) [_,_] [] _=>z==("zip":Str)
 | _=>false
noncomputable def ay6:List Expr→Option (Expr × Expr)
 | [e,c]=>if az5 e then some (e,c) else none
 | _=>none
noncomputable def bq8 (S:Option ae) (x:Sg→Option (List D × Sg)) (ev:Sg→Option (D × Sg)) (g:Sg):Option (D × Sg) :=
 match S with
 | some s=>c7 (x g) fun ds g=>c7 (ev g) fun d g=>s [.lst ds,d] g
 | none=>none
mutual
noncomputable def pev (T:Tbl):Nat→Kd→Ro→Expr→Sg→Option (D × Sg)
 | 0,_,_,_,_=>none
 | n + 1,kd,ro,e,g =>
   match e with
   | .Constant .none _ _=>some (.none,g)
   | .Constant (.bool b) _ _=>some (.bool b,g)
   | .Constant (.int i) _ _=>some (.int i,g)
   | .Constant (.str s) _ _=>if j7 s then some (.str s,g) else none
   | .Name x _=>if x==("__debug__":Str)||x==("__classdict__":Str) then none else (ro.lookup x).map (·,g)
   | .BinOp a op b _=>c7 (pev T n kd ro a g) fun x g=>c7 (pev T n kd ro b g) fun y g=>(ac6 op x y).map (·,g)
   | .UnaryOp .USub a _=>c7 (pev T n kd ro a g) fun x g=>match x with | .int i=>some (.int (-i),g) | _=>none
   | .List es _=>c7 (evs (pev T n kd ro) es g) fun ds g=>if ds.length≤lim then some (.lst ds,g) else none
   | .Tuple es _ _=>c7 (evs (pev T n kd ro) es g) fun ds g=>if ds.length≤lim then some (.tup ds,g) else none
   | .Compare a [op] [b] _=>c7 (pev T n kd ro a g) fun x g=>c7 (pev T n kd ro b g) fun y g=>(jo op x y).map fun c=>(.bool c,g)
   | .Subscript a (.Slice lo hi st _) _=>c7 (pev T n kd ro a g) fun x g =>
       c7 (fx (pev T n kd ro) lo g) fun l g=>c7 (fx (pev T n kd ro) hi g) fun h g=>c7 (fx (pev T n kd ro) st g) fun s g =>
         (y0 x l h s).map (·,g)
   | .Subscript a i _=>c7 (pev T n kd ro a g) fun x g=>c7 (pev T n kd ro i g) fun y g =>
       match x with
       | .hdr _=>match T.mt "__getitem__" with | some f=>f [x,y] g | none=>none
       | _=>(z7 x y).map (·,g)
   | .ListComp el [⟨t,it,ifs,0⟩] sc _ =>
       if !ig sc kd t then none else
       c7 (ke T n kd ro it g) fun ds g =>
         c7 (o7 (emK (fun ro g=>match ifs with
               | []=>some (.bool true,g)
               | [c]=>c7 (pt T n (fun x=>sc.names.lookup x) ro c g) fun b g=>some (.bool b,g)
               | _=>none)
             (fun ro g=>pev T n (fun x=>sc.names.lookup x) ro el g)) t (m9 sc ro) ds g)
           fun ys g=>if ys.length≤lim then some (.lst ys,g) else none
   | .ListComp el [⟨t,it,[],0⟩,⟨u,iu,[],0⟩] sc _ =>
       if !sj sc kd t u then none else
       c7 (ke T n kd ro it g) fun ds g =>
         c7 (o7 (fun ro g=>c7 (ke T n (fun x=>sc.names.lookup x) ro iu g) fun es g =>
             o7 (emK (fun _ g=>some (.bool true,g)) (fun ro g=>pev T n (fun x=>sc.names.lookup x) ro el g)) u ro es g) t (m9 sc ro) ds g)
           fun ys g=>if ys.length≤lim then some (.lst ys,g) else none
   | .Call (.Attribute o m q) as [] p =>
       if cg o&&q.endLine==p.line&&decide (as.length < 20)&&as.all f5 then c7 (pev T n kd ro o g) fun x g=>c7 (evs (pev T n kd ro) as g) fun ys g=>ez T m x ys g
       else none
   | .Call (.Name f _) as [] _ =>
       if kd f != some .globalImplicit||f==("__debug__":Str) then none else
       if f==("_split_list":Str) then
         match as with
         | [src,.Lambda ⟨[],[⟨x,none,_⟩],none,[],[],none,[]⟩ body sc _] =>
           if !z2 sc kd x then none else
           c7 (yx T n kd ro src g) fun ds g =>
             c7 (jk (fun d g=>c7 (pev T n (fun y=>sc.names.lookup y) ((x,d)::m9 sc ro) body g) fun r g=>(z6 r).map (·,g)) ds g) fun p g =>
               some (.tup [.lst p.1,.lst p.2],g)
         | _=>none
       else if f==("Headers":Str) then
         match as with
         | []=>fnC T.new [] g
         | _=>none
       else if !r6 as then none
       else match ay6 as with
       | some (e,c)=>bq8 (T.fz f) (fun g=>yx T n kd ro e g) (fun g=>pev T n kd ro c g) g
       | none=>if ay f&&!(as.all f5&&decide (as.length < 20)) then none
       else c7 (evs (pev T n kd ro) as g) fun ys g=>ce T f ys g
   | _=>none
noncomputable def pt (T:Tbl):Nat→Kd→Ro→Expr→Sg→Option (Bool × Sg)
 | 0,_,_,_,_=>none
 | n + 1,kd,ro,e,g =>
   match e with
   | .UnaryOp .Not a _=>c7 (pt T n kd ro a g) fun b g=>some (!b,g)
   | .BoolOp .And vs _=>ay0 (fun e g=>pt T n kd ro e g) vs g
   | .BoolOp .Or vs _=>bg8 (fun e g=>pt T n kd ro e g) vs g
   | .Compare a [op] [b] _=>c7 (pev T n kd ro a g) fun x g=>c7 (pev T n kd ro b g) fun y g=>(jo op x y).map (·,g)
   | .Compare ..=>none
   | .IfExp ..=>none
   | e=>c7 (pev T n kd ro e g) fun x g=>(z6 x).map (·,g)
noncomputable def ke (T:Tbl):Nat→Kd→Ro→Expr→Sg→Option (List D × Sg)
 | 0,_,_,_,_=>none
 | n + 1,kd,ro,e,g =>
   match e with
   | .Call (.Name f _) as [] _ =>
     if f==("range":Str) then
       if kd f != some .globalImplicit||!as.all f5 then none else
       c7 (evs (pev T n kd ro) as g) fun ys g =>
         match ys with
         | [.int b]=>(m5 0 b 1).map (·,g)
         | [.int a,.int b]=>(m5 a b 1).map (·,g)
         | [.int a,.int b,.int c]=>(m5 a b c).map (·,g)
         | _=>none
     else c7 (pev T n kd ro e g) fun d g=>(dc d).map (·,g)
   | e=>c7 (pev T n kd ro e g) fun d g=>(dc d).map (·,g)
noncomputable def yx (T:Tbl):Nat→Kd→Ro→Expr→Sg→Option (List D × Sg)
 | 0,_,_,_,_=>none
 | n + 1,kd,ro,e,g =>
   match e with
   | .Call (.Name f _) [a,b] [] _ =>
     if f==("zip":Str) then
       if kd f != some .globalImplicit then none else
       c7 (pev T n kd ro a g) fun x g=>c7 (pev T n kd ro b g) fun y g =>
         match x,y with
         | .lst l,.lst m=>some (cr l m,g)
         | _,_=>none
     else none
   | e=>c7 (pev T n kd ro e g) fun d g=>(dc d).map (·,g)
end
inductive EV where
 | val (d:D)
 | own (l:List D)
 deriving Inhabited
noncomputable abbrev Fo:=List (Str × EV)
noncomputable def d6:Fo→Ro
 | []=>[]
 | (x,.val d)::r=>(x,d)::d6 r
 | (_,.own _)::r=>d6 r
noncomputable def frz:Fo→Ro
 | []=>[]
 | (x,.val d)::r=>(x,d)::frz r
 | (x,.own l)::r=>(x,.lst l)::frz r
noncomputable def o9 (x:Str) (v:EV):Fo→Fo
 | []=>[(x,v)]
 | (y,u)::r=>if y==x then (y,v)::r else (y,u)::o9 x v r
noncomputable def j9:List (Str × D)→Fo→Fo
 | [],fo=>fo
 | (x,d)::r,fo=>j9 r (o9 x (.val d) fo)
inductive Fl where
 | next (fo:Fo) (g:Sg)
 | ret (d:D) (g:Sg)
 deriving Inhabited
noncomputable def c9 (kd:Kd) (x:Str):Bool:=kd x==some .local||kd x==some .cell
noncomputable def wl (body:Fo→Sg→Option Fl) (kd:Kd) (t:Expr):List D→Fo→Sg→Option Fl
 | [],fo,g=>some (.next fo g)
 | d::ds,fo,g =>
   match tgt t d with
   | none=>none
   | some b =>
     if b.all fun p=>c9 kd p.1 then
       match body (j9 b fo) g with
       | some (.next fo g)=>wl body kd t ds fo g
       | r=>r
     else none
noncomputable def bx (test:Fo→Sg→Option (Bool × Sg)) (body:Fo→Sg→Option Fl):Nat→Fo→Sg→Option Fl
 | 0,_,_=>none
 | k + 1,fo,g =>
   match test fo g with
   | some (true,g)=>(match body fo g with
     | some (.next fo g)=>bx test body k fo g
     | r=>r)
   | some (false,g)=>some (.next fo g)
   | none=>none
noncomputable def dw (kd:Kd):List Expr→List D→Fo→Option Fo
 | [],[],fo=>some fo
 | .Name x _::ts,d::ds,fo=>if c9 kd x then dw kd ts ds (o9 x (.val d) fo) else none
 | _,_,_=>none
set_option backward.match.sparseCases true in
noncomputable def ku (kd:Kd) (ts vs:List Expr):Option (Option (List Str)) :=
 if !(ts.length==2||ts.length==3)||vs.length != ts.length then some none
 else if vs.any fun | .Starred ..=>true | _=>false then some none
 else
   let line:=(ts.head?.map (·.pos.line)).getD 0
   let names:=ts.filterMap fun
     | .Name id pos=>if kd id==some .local&&pos.line==line then some id else none
     | _=>none
   if names.length != ts.length||names.eraseDups.length != names.length then some none
   else if vs.all (foldedForSure 8) then some none
   else if vs.all (constantsAlone 8) then none
   else some (some names)
noncomputable def z4 (mu:List Str):List Expr→List Expr→Option (List Str × List Expr × Str × List Expr × List Str × List Expr)
 | .Name x _::ts,.List es p::r=>if mu.contains x then (n9 ts).map fun n2=>([],[],x,es,n2,r) else (z4 mu ts r).map fun q=>(x::q.1,.List es p::q.2.1,q.2.2)
 | .Name x _::ts,e::r=>(z4 mu ts r).map fun q=>(x::q.1,e::q.2.1,q.2.2)
 | _,_=>none
noncomputable def cj1 (ev:Expr→Sg→Option (D × Sg)) (fo:Fo) (e:Expr) (g:Sg):Option Fl :=
 match ev e g with
 | some (.none,g)=>some (.next fo g)
 | _=>none
noncomputable def cn4 (ev:Expr→Sg→Option (D × Sg)) (fo:Fo) (z:Str) (l:List D) (e:Expr) (g:Sg):Option Fl :=
 match ev e g with
 | some (d,g)=>some (.next (o9 z (.own (l++[d])) fo) g)
 | none=>none
noncomputable def bs6 (fo:Fo):Expr→Option (Str × List D × Expr)
 | .Call (.Attribute (.Name z _) m q) [e] [] p =>
   match fo.lookup z with
   | some (.own l)=>if (m==("append":Str)&&z != ("__debug__":Str)&&q.endLine==p.line&&f5 e&&decide (l.length < lim)) = true then some (z,l,e) else none
   | _=>none
 | _=>none
noncomputable def ax5:Expr→Bool
 | .Call ..=>true
 | _=>false
noncomputable def bh9 (ev:Expr→Sg→Option (D × Sg)) (fo:Fo) (e:Expr) (g:Sg):Option Fl :=
 match bs6 fo e with
 | some (z,l,e)=>cn4 ev fo z l e g
 | none=>if ax5 e then cj1 ev fo e g else none
noncomputable def cl5 (S:Option ae) (x j:D) (fo:Fo) (g:Sg):Option Fl :=
 match S,x with
 | some f,.hdr k=>(match f [.hdr k,j] g with
   | some (_,g)=>some (.next fo g)
   | none=>none)
 | _,_=>none
noncomputable def ay8:Expr→Option Expr
 | .Call (.Name f _) [a] [] _=>if f==("enumerate":Str) then some a else none
 | _=>none
noncomputable def ax8:Expr→Bool
 | .Tuple ..=>true
 | _=>false
noncomputable def az8:Nat→List D→List D
 | _,[]=>[]
 | k,d::r=>.tup [.int k,d]::az8 (k + 1) r
noncomputable def cu3 (d:D) (g:Sg):Option (List D × Sg) :=
 match d with
 | .lst l=>if l.length≤lim then some (az8 0 l,g) else none
 | _=>none
noncomputable def ap7 (ev:Expr→Sg→Option (D × Sg)) (src:Expr→Sg→Option (List D × Sg)) (kd:Kd) (t it:Expr) (g:Sg):Option (List D × Sg) :=
 match ay8 it with
 | some a=>if (ax8 t&&kd ("enumerate":Str)==some .globalImplicit&&f5 a) = true then c7 (ev a g) cu3 else none
 | none=>src it g
noncomputable def unL:D→Option (List D)
 | .tup l=>some l
 | .lst l=>some l
 | _=>none
noncomputable def isTuple:Expr→Bool
 | .Tuple ..=>true
 | _=>false
mutual
noncomputable def be (T:Tbl) (mu:List Str):Nat→Kd→Stmt→Fo→Sg→Option Fl
 | 0,_,_,_,_=>none
 | n + 1,kd,st,fo,g =>
   match st with
   | .Assign [.Name x _] e _ =>
     if !c9 kd x then none else
     match pev T n kd (d6 fo) e g with
     | some (d,g)=>some (.next (o9 x (.val d) fo) g)
     | none=>none
   | .Assign [.Tuple ts _ _] (.Tuple es k p) _ =>
     match ku kd ts es,z4 mu ts es with
     | some none,some (n1,e1,z,e0,n2,e2) =>
       if !(c9 kd z&&n1.all (c9 kd)&&n2.all (c9 kd)&&es.all f5&&n2.length==e2.length&&decide (es.length < 20)) then none else
       cn (evs (pev T n kd (d6 fo)) e1 g) fun d1 g=>cn (evs (pev T n kd (d6 fo)) e0 g) fun d0 g=>cn (evs (pev T n kd (d6 fo)) e2 g) fun d2 g =>
         if d0.length≤lim then some (.next (j9 (n2.zip d2) (o9 z (.own d0) (j9 (n1.zip d1) fo))) g) else none
     | some none,none =>
       (match pev T n kd (d6 fo) (.Tuple es k p) g with
       | some (.tup ds,g)=>(dw kd ts ds fo).map fun fo=>.next fo g
       | _=>none)
     | some (some names),some ([],[],z,e0,n2,e2) =>
       if !(names==z::n2&&decide names.Nodup&&names.all (c9 kd)&&es.all f5&&n2.length==e2.length&&decide (es.length < 20)) then none else
       cn (evs (pev T n kd (d6 fo)) e0 g) fun d0 g=>cn (evs (pev T n kd (d6 fo)) e2 g) fun d2 g =>
         if d0.length≤lim then some (.next (o9 z (.own d0) (j9 (n2.reverse.zip d2.reverse) fo)) g) else none
     | some (some names),_ =>
       (match pev T n kd (d6 fo) (.Tuple es k p) g with
       | some (.tup ds,g)=>if n9 ts==some names&&decide names.Nodup&&names.all (c9 kd)&&names.length==ds.length then some (.next (j9 (names.zip ds) fo) g) else none
       | _=>none)
     | none,_=>none
   | .Assign [.Tuple ts _ _] e _ =>
     match pev T n kd (d6 fo) e g with
     | some (d,g)=>(match unL d with
       | some ds=>(dw kd ts ds fo).map fun fo=>.next fo g
       | none=>none)
     | _=>none
   | .Assign [.Subscript o i _] e _ =>
     match pev T n kd (d6 fo) e g with
     | some (d,g)=>(match pev T n kd (d6 fo) o g with
       | some (.hdr k,g)=>(match pev T n kd (d6 fo) i g with
         | some (j,g)=>(match T.mt "__setitem__" with
           | some f=>(match f [.hdr k,j,d] g with
             | some (_,g)=>some (.next fo g)
             | none=>none)
           | none=>none)
         | none=>none)
       | _=>none)
     | none=>none
   | .Return (some e) _=>match pev T n kd (frz fo) e g with
     | some (d,g)=>some (.ret d g)
     | none=>none
   | .If t a b _=>match pt T n kd (d6 fo) t g with
     | some (c,g)=>if c then f7 T mu n kd a fo g else f7 T mu n kd b fo g
     | none=>none
   | .For t it body [] _=>if (fq t).isNone then none else match ap7 (pev T n kd (d6 fo)) (ke T n kd (d6 fo)) kd t it g with
     | some (ds,g)=>wl (fun fo g=>f7 T mu n kd body fo g) kd t ds fo g
     | none=>none
   | .While t body [] _=>bx (fun fo g=>pt T n kd (d6 fo) t g) (fun fo g=>f7 T mu n kd body fo g) 100000 fo g
   | .Expr e _=>bh9 (pev T n kd (d6 fo)) fo e g
   | .Delete [.Subscript o i _] _=>cn (pev T n kd (d6 fo) o g) fun x g=>cn (pev T n kd (d6 fo) i g) fun j g=>cl5 (T.mt "__delitem__") x j fo g
   | _=>none
noncomputable def f7 (T:Tbl) (mu:List Str):Nat→Kd→List Stmt→Fo→Sg→Option Fl
 | 0,_,_,_,_=>none
 | _ + 1,_,[],fo,g=>some (.next fo g)
 | n + 1,kd,st::r,fo,g =>
   match be T mu n kd st fo g with
   | some (.next fo g)=>f7 T mu n kd r fo g
   | x=>x
end
theorem bp {e:Expr} (h:f5 e = true) (x:Expr) (p:Pos) (he:e = .Starred x p):False:=by
 subst he;exact Bool.noConfusion (show false = true from h)
theorem bu {α:Type} {β:Type} [BEq α] {x a:α} {b:β} {r:List (α × β)} (h:(x==a) = true):List.lookup x ((a,b)::r) = some b :=
 congrArg (fun c=>match c with | true=>some b | false=>List.lookup x r) h
theorem u6 {α:Type} {β:Type} [BEq α] {x a:α} {b:β} {r:List (α × β)} (h:(x==a) = false):List.lookup x ((a,b)::r) = List.lookup x r :=
 congrArg (fun c=>match c with | true=>some b | false=>List.lookup x r) h
end Mine
namespace Mine
noncomputable abbrev HI:=List (Addr × Addr × Addr)
noncomputable def adr:HI→List Addr
 | []=>[]
 | t::r=>t.1::t.2.1::t.2.2::adr r
theorem ak2 (a b:HI):adr (a++b) = adr a++adr b:=by
 induction a with
 | nil=>rfl
 | cons t r ih=>show t.1::t.2.1::t.2.2::adr (r++b) = _;rw [ih];rfl
theorem au {t:Addr × Addr × Addr} {io:HI} (h:t∈io):t.1∈adr io∧t.2.1∈adr io∧t.2.2∈adr io:=by
 induction io with
 | nil=>cases h
 | cons u r ih =>
   rcases List.mem_cons.mp h with rfl | h
   · exact ⟨.head _,.tail _ (.head _),.tail _ (.tail _ (.head _))⟩
   · have:=ih h;exact ⟨.tail _ (.tail _ (.tail _ this.1)),.tail _ (.tail _ (.tail _ this.2.1)),.tail _ (.tail _ (.tail _ this.2.2))⟩
structure Cst where
 prog:Program
 w:World
 H:Heap
 vt:List Addr
 mg:Str→Option Value
 mb:Str→Option Value
 cls:Addr
 spc:List (Addr × Addr × Str)
 vtOk:List Addr→Heap→Prop
 vtKeep:∀ (V V':List Addr) (h h':Heap),vtOk V h→(∀ b∈vt,∀ o,h.get? b = some o→h'.get? b = some o)→(∀ a o vs,h.get? a = some o→o.data = .fields vs→a∉V→h'.get? a = some o∧a∉V')→vtOk V' h'
noncomputable def ck8 (h:Heap) (a:Addr) (vs:Array Value):Prop:=∃ n,h.get? a = some { cls:=.type "tuple",data:=.seq vs n }
theorem ck8.isTuple {h:Heap} {a:Addr} {vs} (x:ck8 h a vs):h.IsTuple a vs:=let ⟨n,e⟩:=x;⟨_,e,rfl,n,rfl⟩
variable (C:Cst)
mutual
noncomputable def Has (V:List Addr) (io:HI) (h:Heap):D→Value→Prop
 | .none,v=>v = .none
 | .bool b,v=>v = .bool b
 | .int i,v=>∃ t,v = .int i t
 | .str x,v=>x.length≤lim∧∃ t,v = .str x t
 | .tup l,v=>l.length≤lim∧∃ a vs,v = .ref a∧a∉V∧ck8 h a vs∧f0 V io h l vs.toList
 | .lst l,v=>l.length≤lim∧∃ a vs,v = .ref a∧a∉V∧h.PlainList a vs∧f0 V io h l vs.toList
 | .hdr k,v=>∃ t,io[k]? = some t∧v = .ref t.1
noncomputable def f0 (V:List Addr) (io:HI) (h:Heap):List D→List Value→Prop
 | [],vs=>vs = []
 | d::ds,vs=>∃ v r,vs = v::r∧Has V io h d v∧f0 V io h ds r
end
inductive cv7 (V:List Addr) (io:HI) (h:Heap) (l:List D) (v:Value):Prop
 | mk (hl:l.length≤lim) (a:Addr) (vs:Array Value) (e:v = .ref a) (ha:a∉V) (ht:ck8 h a vs) (hs:f0 V io h l vs.toList)
inductive cv8 (V:List Addr) (io:HI) (h:Heap) (l:List D) (v:Value):Prop
 | mk (hl:l.length≤lim) (a:Addr) (vs:Array Value) (e:v = .ref a) (ha:a∉V) (ht:h.PlainList a vs) (hs:f0 V io h l vs.toList)
inductive cr5 (V:List Addr) (io:HI) (h:Heap) (d:D) (ds:List D) (vs:List Value):Prop
 | mk (v:Value) (r:List Value) (e:vs = v::r) (hd:Has V io h d v) (hr:f0 V io h ds r)
theorem Has.tup {V:List Addr} {io:HI} {h:Heap} {l:List D} {v:Value} (x:Has V io h (.tup l) v):cv7 V io h l v:=by
 refine zae2a3 x fun h1 a vs h2 h3 h4 h5=>?_;clear x
 exact ⟨h1,a,vs,h2,h3,h4,h5⟩
theorem Has.lst {V:List Addr} {io:HI} {h:Heap} {l:List D} {v:Value} (x:Has V io h (.lst l) v):cv8 V io h l v:=by
 refine zae2a3 x fun h1 a vs h2 h3 h4 h5=>?_;clear x
 exact ⟨h1,a,vs,h2,h3,h4,h5⟩
theorem Has.int {V:List Addr} {io:HI} {h:Heap} {i:Int} {v:Value} (x:Has V io h (.int i) v):∃ t,v = .int i t:=by
 exact x
theorem Has.str {V:List Addr} {io:HI} {h:Heap} {i:Str} {v:Value} (x:Has V io h (.str i) v):i.length≤lim∧∃ t,v = .str i t:=by
 exact x
theorem f0.cons {V:List Addr} {io:HI} {h:Heap} {d:D} {ds:List D} {vs:List Value} (x:f0 V io h (d::ds) vs):cr5 V io h d ds vs:=by
 refine ze2a2 x fun v r e h1 h2=>?_;clear x
 exact ⟨v,r,e,h1,h2⟩
mutual
theorem Has.mono {V V':List Addr} {io io':HI} {h h':Heap} (hk:∀ a o,h.get? a = some o→a∉V→h'.get? a = some o∧a∉V') (hp:∀ (k:Nat) t,io[k]? = some t→io'[k]? = some t) :
   ∀ {d:D} {v:Value},Has V io h d v→Has V' io' h' d v
 | .none,_,x=>x
 | .bool _,_,x=>x
 | .int _,_,x=>x
 | .str _,_,x=>x
 | .tup l,_,x=>by
   refine zae2a3 x fun hl a vs e3q ha e5q hs=>?_;clear x;subst e3q;obtain ⟨n,ho⟩:=e5q
   exact ⟨hl,a,vs,rfl,(hk a _ ho ha).2,⟨n,(hk a _ ho ha).1⟩,f0.mono hk hp hs⟩
 | .lst l,_,x=>by
   refine zae2a3 x fun hl a vs e3q ha e5q hs=>?_;clear x;subst e3q;obtain ⟨n,ho⟩:=e5q
   exact ⟨hl,a,vs,rfl,(hk a _ ho ha).2,⟨n,(hk a _ ho ha).1⟩,f0.mono hk hp hs⟩
 | .hdr k,_,x=>by
   refine zea x fun t ht e=>?_;clear x
   exact ⟨t,hp k t ht,e⟩
theorem f0.mono {V V':List Addr} {io io':HI} {h h':Heap} (hk:∀ a o,h.get? a = some o→a∉V→h'.get? a = some o∧a∉V') (hp:∀ (k:Nat) t,io[k]? = some t→io'[k]? = some t) :
   ∀ {ds:List D} {vs:List Value},f0 V io h ds vs→f0 V' io' h' ds vs
 | [],_,x=>x
 | d::ds,_,x=>by
   refine ze2a2 x fun v r e2q h1 h2=>?_;clear x;subst e2q
   exact ⟨v,r,rfl,Has.mono hk hp h1,f0.mono hk hp h2⟩
end
theorem f0.length {V:List Addr} {io:HI} {h:Heap}:∀ {ds:List D} {vs:List Value},f0 V io h ds vs→vs.length = ds.length
 | [],_,x=>by subst x;rfl
 | _::ds,_,x=>by
   refine ze2a2 x fun v r e2q J h2=>?_;clear x;subst e2q
   simp [f0.length h2]
theorem f0.get {V:List Addr} {io:HI} {h:Heap}:∀ {ds:List D} {vs:List Value} {k:Nat} {d:D},f0 V io h ds vs→ds[k]? = some d→∃ v,vs[k]? = some v∧Has V io h d v
 | [],_,_,_,_,e=>by simp at e
 | d::ds,_,0,d',x,e=>by
   refine ze2a2 x fun v r e2q h1 J=>?_;clear x;subst e2q
   simp at e;subst e
   exact ⟨v,rfl,h1⟩
 | _::ds,_,k + 1,d',x,e=>by
   refine ze2a2 x fun v r e2q J h2=>?_;clear x;subst e2q
   simp at e
   refine zea (f0.get h2 e) fun u hu hd=>?_
   exact ⟨u,by simpa using hu,hd⟩
theorem f0.append {V:List Addr} {io:HI} {h:Heap}:∀ {ds es:List D} {vs us:List Value},f0 V io h ds vs→f0 V io h es us→f0 V io h (ds++es) (vs++us)
 | [],_,_,_,x,y=>by subst x;simpa using y
 | _::ds,_,_,_,x,y=>by
   refine ze2a2 x fun v r e2q h1 h2=>?_;clear x;subst e2q
   exact ⟨v,r++_,rfl,h1,f0.append h2 y⟩
theorem f0.picks {V:List Addr} {io:HI} {h:Heap} {ds:List D} {vs:List Value} (x:f0 V io h ds vs):∀ ks:List Nat,f0 V io h (ks.filterMap (ds[·]?)) (ks.filterMap (vs[·]?))
 | []=>rfl
 | k::ks=>by
   have ih:=f0.picks x ks
   have hlen:=f0.length x
   simp only [List.filterMap_cons]
   induction e:ds[k]? using Option.casesOn with
   | none =>
     have:vs[k]? = none:=by
       rw [List.getElem?_eq_none_iff] at e ⊢;lia
     rw [this];simpa using ih
   | some d =>
     refine zea (f0.get x e) fun v hv hd=>?_
     rw [hv]
     exact ⟨v,_,rfl,hd,ih⟩
structure ql (V:List Addr) (h:Heap) (t:Addr × Addr × Addr) (ps:List (Str × Str)):Prop where
 inst:h.get? t.1 = some (PySem.W.instObj C.cls t.2.1)
 dict:∃ hs tk n,h.get? t.2.1 = some (PySem.W.dictOf [⟨hs,.str ("_headers":Str) tk,.ref t.2.2⟩] n)
 list:∃ vs,h.PlainList t.2.2 vs∧f0 V [] h (ps.map fun p=>.tup [.str p.1,.str p.2]) vs.toList
 len:ps.length≤lim
noncomputable def VV (io:HI) (Z:List Addr):List Addr:=C.vt++adr io++Z
structure St (Z:List Addr) (io:HI) (g:Sg) (h:Heap):Prop where
 len:io.length = g.length
 at':∀ (k:Nat) t ps,io[k]? = some t→g[k]? = some ps→ql C (VV C io Z) h t ps
 nodup:(adr io).Nodup
 below:∀ b∈adr io,C.H.get? b = none
 vt:C.vtOk (VV C io Z) h
structure Sok (Z:List Addr) (io:HI) (g:Sg) (s:Shared):Prop where
 base:∀ a o,C.H.get? a = some o→s.heap.get? a = some o
 st:St C Z io g s.heap
 zal:∀ z∈Z,∃ o,s.heap.get? z = some o
 zd:∀ z∈Z,z∉C.vt∧z∉adr io∧C.H.get? z = none
 val:∀ z∈C.vt,∃ o,s.heap.get? z = some o
theorem St.alive {Z:List Addr} {io:HI} {g:Sg} {h:Heap} (x:St C Z io g h):∀ b∈adr io,∃ o,h.get? b = some o:=by
 have key:∀ (l:HI),(∀ t∈l,∃ k:Nat,io[k]? = some t)→∀ b∈adr l,∃ o,h.get? b = some o:=by
   intro l
   induction l with
   | nil=>intro _ b hb;cases hb
   | cons t r ih =>
     intro hl b hb
     refine ze (hl t (.head _)) fun k hk=>?_
     have hlt:k < io.length:=by
       rcases List.getElem?_eq_some_iff.mp hk with ⟨h',_⟩;exact h'
     have hg:k < g.length:=x.len ▸ hlt
     have HH:=x.at' k t g[k] hk (by simp [hg])
     simp only [adr,List.mem_cons] at hb
     rcases hb with rfl | rfl | rfl | hb
     · exact ⟨_,HH.inst⟩
     · refine ze3 HH.dict fun J J J e=>?_;exact ⟨_,e⟩
     · refine zea HH.list fun J e1q J=>?_;obtain ⟨_,e⟩:=e1q;exact ⟨_,e⟩
     · exact ih (fun t ht=>hl t (.tail _ ht)) b hb
 exact key io fun t ht=>List.mem_iff_getElem?.mp ht
structure q0 (io io':HI) (s s':Shared):Prop where
 same:∃ h' tk,s' = { s with heap:=h',toks:=tk }
 keep:∀ b o,s.heap.get? b = some o→b∉C.vt→b∉adr io→s'.heap.get? b = some o
 alive:∀ b o,s.heap.get? b = some o→∃ o',s'.heap.get? b = some o'
 pre:∀ (k:Nat) t,io[k]? = some t→io'[k]? = some t
 fresh:∀ b∈adr io',b∈adr io∨s.heap.get? b = none
theorem q0.refl {io:HI} {s:Shared}:q0 C io io s s:=⟨⟨_,_,rfl⟩,fun J J e J J=>e,fun J o e=>⟨o,e⟩,fun J J e=>e,fun J h=>.inl h⟩
theorem q0.trans {io io' io'':HI} {s s' s'':Shared} (x:q0 C io io' s s') (y:q0 C io' io'' s' s''):q0 C io io'' s s'':=by
 refine ⟨?_,fun b o e hv ha=>?_,fun b o e=>?_,fun k t e=>y.pre k t (x.pre k t e),fun b hb=>?_⟩
 · refine ze2 x.same fun h1 t1 e1=>?_
   refine ze2 y.same fun h2 t2 e2=>?_
   exact ⟨h2,t2,by rw [e2,e1]⟩
 · refine y.keep b o (x.keep b o e hv ha) hv fun hm=>?_
   rcases x.fresh b hm with h | h
   · exact ha h
   · rw [e] at h;injection h
 · refine ze (x.alive b o e) fun o' e'=>?_
   exact y.alive b o' e'
 · rcases y.fresh b hb with h | h
   · exact x.fresh b h
   · refine .inr ?_
     induction e:s.heap.get? b using Option.casesOn with
     | none=>rfl
     | some o=>refine ze (x.alive b o e) fun o' e'=>?_;rw [e'] at h;injection h
theorem q0.keepAt {io io':HI} {s s':Shared} (x:q0 C io io' s s') {b:Addr} {o:Obj} {Z:List Addr} (e:s.heap.get? b = some o) (hv:b∉VV C io Z):s'.heap.get? b = some o∧b∉VV C io' Z:=by
 simp only [VV,List.mem_append,not_or] at hv ⊢
 refine ⟨x.keep b o e hv.1.1 hv.1.2,⟨⟨hv.1.1,fun hm=>?_⟩,hv.2⟩⟩
 rcases x.fresh b hm with h | h
 · exact hv.1.2 h
 · rw [e] at h;injection h
theorem q0.has {io io':HI} {s s':Shared} (x:q0 C io io' s s') {Z:List Addr} {d:D} {v:Value} (h:Has (VV C io Z) io s.heap d v):Has (VV C io' Z) io' s'.heap d v :=
 Has.mono (fun J J e hv=>x.keepAt C e hv) x.pre h
theorem q0.hasL {io io':HI} {s s':Shared} (x:q0 C io io' s s') {Z:List Addr} {d:List D} {v:List Value} (h:f0 (VV C io Z) io s.heap d v):f0 (VV C io' Z) io' s'.heap d v :=
 f0.mono (fun J J e hv=>x.keepAt C e hv) x.pre h
theorem Keeps.grow {io:HI} {s s':Shared} (k:Keeps s s'):q0 C io io s s':=by
 refine ze2a k fun h' tk e2q hk=>?_;clear k;subst e2q
 exact ⟨⟨h',tk,rfl⟩,fun b o e J J=>hk b o e,fun b o e=>⟨o,hk b o e⟩,fun J J e=>e,fun J h=>.inl h⟩
theorem ql.keeps {V:List Addr} {h h':Heap} {t} {ps} (x:ql C V h t ps) (hk:∀ b o,h.get? b = some o→h'.get? b = some o):ql C V h' t ps where
 inst:=hk _ _ x.inst
 dict:=let ⟨a,b,c,e⟩:=x.dict;⟨a,b,c,hk _ _ e⟩
 list:=let ⟨vs,⟨n,e⟩,hl⟩:=x.list;⟨vs,⟨n,hk _ _ e⟩,f0.mono (fun a o e ha=>⟨hk a o e,ha⟩) (fun J J e=>e) hl⟩
 len:=x.len
theorem Keeps.sok {Z:List Addr} {io:HI} {g:Sg} {s s':Shared} (k:Keeps s s') (x:Sok C Z io g s):Sok C Z io g s':=by
 refine ze2a k fun h' tk e2q hk=>?_;clear k;subst e2q
 exact ⟨fun a o e=>hk a o (x.base a o e),⟨x.st.len,fun k t ps h1 h2=>(x.st.at' k t ps h1 h2).keeps C hk,x.st.nodup,x.st.below,C.vtKeep _ _ _ _ x.st.vt (fun b J o e=>hk b o e) (fun a o J e J ha=>⟨hk a o e,ha⟩)⟩,fun z hz=>let ⟨o,e⟩:=x.zal z hz;⟨o,hk _ _ e⟩,x.zd,fun z hz=>let ⟨o,e⟩:=x.val z hz;⟨o,hk _ _ e⟩⟩
theorem ql.less {V V':List Addr} {h:Heap} {t} {ps} (x:ql C V h t ps) (hv:∀ a,a∉V→a∉V'):ql C V' h t ps where
 inst:=x.inst
 dict:=x.dict
 list:=let ⟨vs,e,hl⟩:=x.list;⟨vs,e,f0.mono (fun a o e ha=>⟨e,hv a ha⟩) (fun J J e=>e) hl⟩
 len:=x.len
theorem Sok.less {Z Z':List Addr} {io:HI} {g:Sg} {s:Shared} (x:Sok C Z io g s) (hz:∀ z∈Z',z∈Z):Sok C Z' io g s where
 base:=x.base
 st:=⟨x.st.len,fun k t ps h1 h2=>(x.st.at' k t ps h1 h2).less C fun a ha hm=>ha (by
   simp only [VV,List.mem_append] at hm ⊢
   rcases hm with hm | hm
   · exact .inl hm
   · exact .inr (hz a hm)),x.st.nodup,x.st.below,C.vtKeep _ _ _ _ x.st.vt (fun J J J e=>e) (fun a o J e J ha=>⟨e,fun hm=>ha (by
   simp only [VV,List.mem_append] at hm ⊢
   rcases hm with hm | hm
   · exact .inl hm
   · exact .inr (hz a hm))⟩)⟩
 zal:=fun z h=>x.zal z (hz z h)
 zd:=fun z h=>x.zd z (hz z h)
 val:=x.val
variable {C} in
theorem Has.less {Z Z':List Addr} {io:HI} {h:Heap} {d:D} {v:Value} (x:Has (VV C io Z) io h d v) (hz:∀ z∈Z',z∈Z):Has (VV C io Z') io h d v :=
 Has.mono (fun a o e ha=>⟨e,fun hm=>ha (by
   simp only [VV,List.mem_append] at hm ⊢
   rcases hm with hm | hm
   · exact .inl hm
   · exact .inr (hz a hm))⟩) (fun J J e=>e) x
theorem Keeps.refl {s:Shared}:Keeps s s:=⟨_,_,rfl,fun J J e=>e⟩
theorem Keeps.toks {s:Shared} {k:Nat}:Keeps s { s with toks:=k }:=⟨_,_,rfl,fun J J e=>e⟩
theorem Keeps.push {s:Shared} {o:Obj} {k:Nat}:Keeps s { s with heap:=s.heap.push o,toks:=k }:=⟨_,_,rfl,fun J J e=>Heap.get?_push_of_some _ e⟩
theorem Keeps.trans {s s' s'':Shared} (x:Keeps s s') (y:Keeps s' s''):Keeps s s'':=by
 refine ze2a x fun h1 t1 e2q k1=>?_;clear x;subst e2q
 refine ze2a y fun h2 t2 e2q k2=>?_;clear y;subst e2q
 exact ⟨h2,t2,rfl,fun b o e=>k2 b o (k1 b o e)⟩
structure AOk (A:Around) (n:Nat):Prop where
 hh:A.handled = none
 dp:A.depth + n≤900
 un:A.units + 8 * n≤9000
theorem AOk.le {A:Around} {n m:Nat} (x:AOk A n) (h:m≤n):AOk A m:=⟨x.hh,by have:=x.dp;lia,by have:=x.un;lia⟩
structure yw (A:Around) (n:Nat):Prop where
 hh:A.handled = none
 dp:A.depth + n≤900
 un:A.units + 8 * n≤9005
theorem yw.le {A:Around} {n m:Nat} (x:yw A n) (h:m≤n):yw A m:=⟨x.hh,by have:=x.dp;lia,by have:=x.un;lia⟩
theorem AOk.c {A:Around} {n:Nat} (x:AOk A n):yw A n:=⟨x.hh,x.dp,by have:=x.un;lia⟩
theorem AOk.c1 {A:Around} {n:Nat} (x:AOk A n):yw A.in1 n:=⟨x.hh,x.dp,by have:=x.un;show A.units + 1 + 8 * n≤9005;lia⟩
inductive ff (Z:List Addr) (io:HI) (s:Shared) (d:D) (g':Sg) (v:Value) (s':Shared):Prop
 | mk (io':HI) (x:q0 C io io' s s') (k:Sok C Z io' g' s') (h:Has (VV C io' Z) io' s'.heap d v)
inductive qy (Z:List Addr) (io:HI) (s:Shared) (ds:List D) (g':Sg) (vs:List Value) (s':Shared):Prop
 | mk (io':HI) (x:q0 C io io' s s') (k:Sok C Z io' g' s') (h:f0 (VV C io' Z) io' s'.heap ds vs)
inductive vo (Z:List Addr) (io:HI) (s:Shared) (b:Bool) (g':Sg) (c:Bool) (s':Shared):Prop
 | mk (e:c = b) (io':HI) (x:q0 C io io' s s') (k:Sok C Z io' g' s')
noncomputable abbrev noE:Value→Shared→Prop:=fun J J=>False
end Mine
end
section
open PySem
set_option tactic.hygienic true
namespace Mine
variable {C:Cst}
theorem cq:lim≤sizeLine:=by decide
theorem j6 {s:Shared} (k:Nat):Keeps s { s with toks:=k }:=⟨_,_,rfl,fun J J e=>e⟩
theorem a8 {α:Type} {c:α} {p:Prop} (h:(Option.none:Option α) = some c):p:=nomatch h
theorem cd3 {x y:Option Bool} {c:Bool} (e:eqK x y = some c):x = some true∧y = some c:=by
 induction x using Option.casesOn with
 | none=>exact a8 e
 | some p=>induction p using Bool.casesOn with
   | false=>exact a8 e
   | true=>exact ⟨rfl,e⟩
inductive EqV:D→D→Bool→Prop
 | nn:EqV .none .none true
 | sn (x:Str):EqV (.str x) .none false
 | ii (x y:Int):EqV (.int x) (.int y) (x==y)
 | ss (x y:Str):EqV (.str x) (.str y) (x==y)
 | tt {l m:List D} {c:Bool}:eqL l m = some c→EqV (.tup l) (.tup m) c
 | ll {l m:List D} {c:Bool}:l.length = m.length→eqL l m = some c→EqV (.lst l) (.lst m) c
 | lf {l m:List D}:l.length≠m.length→EqV (.lst l) (.lst m) false
theorem eqV {a b:D} {c:Bool} (e:eqD a b = some c):EqV a b c:=by
 induction a using D.casesOn with
 | none=>induction b using D.casesOn<;>first | exact a8 e | (rw [← Option.some.inj (show some _ = some c from e)];constructor)
 | int x=>induction b using D.casesOn<;>first | exact a8 e | (rw [← Option.some.inj (show some _ = some c from e)];constructor)
 | str x=>induction b using D.casesOn<;>first | exact a8 e | (rw [← Option.some.inj (show some _ = some c from e)];constructor)
 | tup l=>induction b using D.casesOn<;>first | exact a8 e | exact .tt e
 | lst l=>induction b using D.casesOn with
   | lst m =>
     replace e:(if l.length = m.length then eqL l m else some false) = some c:=e
     by_cases h:l.length = m.length
     · rw [if_pos h] at e;exact .ll h e
     · rw [if_neg h] at e;rw [← Option.some.inj e];exact .lf h
   | _=>exact a8 e
 | _=>induction b using D.casesOn<;>exact a8 e
theorem jh:∀ {a b:List D} {c:Bool},eqL a b = some c→c = true∧a.length = b.length
 | [],[],c,e=>⟨(Option.some.inj (show some true = some c from e)).symm,rfl⟩
 | [],_::_,c,e=>a8 (show none = some c from e)
 | _::_,[],c,e=>a8 (show none = some c from e)
 | a::as,b::bs,c,e=>by
   refine za (jh (cd3 (show eqK (eqD a b) (eqL as bs) = some c from e)).2) fun h1 h2=>⟨h1,congrArg (· + 1) h2⟩
theorem jf:∀ n:Nat,(List.range n).all (fun _=>true) = true:=fun n=>List.all_eq_true.mpr fun _ _=>rfl
theorem br4 {l:List D} {b:D} {c:Bool} (e:eqD (.tup l) b = some c):∃ m,b = .tup m∧eqL l m = some c:=by
 induction b using D.casesOn<;>first | exact a8 e | exact ⟨_,rfl,e⟩
mutual
theorem cg0 {V V':List Addr} {io io':HI}:∀ {a b:D} {va vb:Value} {c:Bool} {A:Around} {s:Shared},eqD a b = some c→c = true→Has V io s.heap a va→Has V' io' s.heap b vb→A.units + dep a < cLine→SeqAt.EqAt A s va vb c
 | .none,b,va,vb,c,A,s,e,hc,x,y,hu=>by
   replace x:va = .none:=x
   subst x
   cases eqV e with
   | nn=>replace y:vb = .none:=y;subst y;exact SeqAt.EqAt.same _
 | .int p,b,va,vb,c,A,s,e,hc,x,y,hu=>by
   refine ze (Has.int x) fun t e1=>?_
   cases eqV e with
   | ii _ q=>refine ze (Has.int y) fun u e2=>?_;rw [e1,e2];exact SeqAt.EqAt.int_int _ _ _ _
 | .str p,b,va,vb,c,A,s,e,hc,x,y,hu=>by
   refine zae (Has.str x) fun _ t e1=>?_
   cases eqV e with
   | sn=>exact Bool.noConfusion hc
   | ss _ q=>refine zae (Has.str y) fun _ u e2=>?_;rw [e1,e2];exact SeqAt.EqAt.str_str _ _ _ _
 | .tup l,b,va,vb,c,A,s,e,hc,x,y,hu=>by
   rw [hc]
   by_cases hab:va = vb
   · subst hab;exact SeqAt.EqAt.same _
   · refine zea (br4 e) fun m eb e2=>?_
     subst eb
     obtain ⟨_,a,vs,e3,_,ht,hs⟩:=Has.tup x
     obtain ⟨_,a',vs',e4,_,ht',hs'⟩:=Has.tup y
     have hu':A.in1.units + ud l < cLine:=by
       have hu:A.units + (ud l + 1) < cLine:=hu
       show A.units + 1 + ud l < cLine
       lia
     have this:=SeqAt.RcAt.tuples (e:=fun _=>true) ht.isTuple ht'.isTuple (by lia) (oz e2 hs hs' hu')
     rw [jf,show vs.size = vs'.size from (f0.length hs).trans ((jh e2).2.trans (f0.length hs').symm),beq_self_eq_true] at this
     rw [e3,e4]
     exact SeqAt.EqAt.of_refs (fun h=>hab (by rw [e3,e4,h])) this
 | .lst l,b,va,vb,c,A,s,e,hc,x,y,hu=>by
   rw [hc]
   by_cases hab:va = vb
   · subst hab;exact SeqAt.EqAt.same _
   · cases eqV e with
     | lf=>exact Bool.noConfusion hc
     | @ll l m _ h0 e2 =>
       obtain ⟨_,a,vs,e3,_,ht,hs⟩:=Has.lst x
       obtain ⟨_,a',vs',e4,_,ht',hs'⟩:=Has.lst y
       have hu':A.in1.units + ud l < cLine:=by
         have hu:A.units + (ud l + 1) < cLine:=hu
         show A.units + 1 + ud l < cLine
         lia
       have this:=SeqAt.RcAt.lists (e:=fun _=>true) ht.isList ht'.isList ((f0.length hs).trans (h0.trans (f0.length hs').symm)) (by lia) (oz e2 hs hs' hu')
       rw [jf] at this
       rw [e3,e4]
       exact SeqAt.EqAt.of_refs (fun h=>hab (by rw [e3,e4,h])) this
 | .bool _,b,_,_,_,_,_,e,_,_,_,_=>nomatch eqV e
 | .hdr _,b,_,_,_,_,_,e,_,_,_,_=>nomatch eqV e
theorem oz {V V':List Addr} {io io':HI}:∀ {a b:List D} {va vb:List Value} {c:Bool} {A:Around} {s:Shared},eqL a b = some c→f0 V io s.heap a va→f0 V' io' s.heap b vb→A.units + ud a < cLine →
   ∀ j (h1:j < va.length) (h2:j < vb.length),SeqAt.EqAt A s va[j] vb[j] true
 | [],_,va,vb,c,A,s,e,x,y,hu,j,h1,h2=>by rw [show va = [] from x] at h1;exact absurd h1 (Nat.not_lt_zero _)
 | _::_,[],va,vb,c,A,s,e,x,y,hu,j,h1,h2=>by rw [show vb = [] from y] at h2;exact absurd h2 (Nat.not_lt_zero _)
 | a::as,b::bs,va,vb,c,A,s,e,x,y,hu,j,h1,h2=>by
   refine ze2a2 x fun v r e2q x1 x2=>?_;clear x;subst e2q
   refine ze2a2 y fun v' r' e2q y1 y2=>?_;clear y;subst e2q
   replace hu:A.units + max (dep a) (ud as) < cLine:=hu
   refine za (cd3 (show eqK (eqD a b) (eqL as bs) = some c from e)) fun e1 e2=>?_
   induction j using Nat.casesOn with
   | zero=>exact cg0 e1 rfl x1 y1 (A:=A) (by lia)
   | succ j=>exact oz e2 x2 y2 (A:=A) (by lia) j (Nat.lt_of_succ_lt_succ h1) (Nat.lt_of_succ_lt_succ h2)
end
end Mine
end
section
open PySem
namespace Mine
variable {C:Cst}
section
variable {A:Around} {E:Value→Shared→Prop} {s:Shared} {V:List Addr} {io:HI}
theorem xl {d:D} {b:Bool} {v:Value} (e:z6 d = some b) (h:Has V io s.heap d v):wpAny (model C.prog C.w) A (truthy v) (fun c s'=>c = b∧Keeps s s') E s:=by
 induction d using D.casesOn with
 | bool c =>
   subst h
   replace e:=Option.some.inj (show some _ = some b from e);subst e
   exact wpAny_truthy_bool ⟨rfl,Keeps.refl⟩
 | tup l =>
   refine zae2a3 h fun hl a vs e3q ha ht hs=>?_;clear h;subst e3q
   replace e:=Option.some.inj (show some _ = some b from e);subst e
   have hlen:=f0.length hs
   unfold lim at hl
   simp only [Array.length_toList] at hlen
   refine PyProof.Rows.truthy_tuple ht.isTuple (by lia) ⟨?_,j6 _⟩
   rw [Bool.eq_iff_iff];simp [Array.isEmpty,← Array.size_eq_zero_iff,hlen,List.isEmpty_iff]
 | _=>injection e
theorem j0 {α:Type} {c:Prop} [Decidable c] {x:Option α} {r:α} (h:(if c then x else none) = some r):c∧x = some r:=by
 by_cases hc:c
 · rw [if_pos hc] at h;exact ⟨hc,h⟩
 · rw [if_neg hc] at h;exact a8 h
theorem yq {α:Type} {c:Prop} [Decidable c] {x:Option α} {r:α} (h:(if c then none else x) = some r):¬c∧x = some r:=by
 by_cases hc:c
 · rw [if_pos hc] at h;exact a8 h
 · rw [if_neg hc] at h;exact ⟨hc,h⟩
theorem z8 {α:Type} {c:Bool} {x:Option α} {r:α} (h:(if c = true then none else x) = some r):c = false∧x = some r:=by
 induction c using Bool.casesOn with
 | true=>exact a8 h
 | false=>exact ⟨rfl,h⟩
inductive an2:CmpOp→D→D→Bool→Prop
 | eq {a b:D} {c:Bool}:eqD a b = some c→an2 .Eq a b c
 | ne {a b:D} {c:Bool}:eqD a b = some c→an2 .NotEq a b (!c)
 | lt (x y:Int):an2 .Lt (.int x) (.int y) (decide (x < y))
 | gt (x y:Int):an2 .Gt (.int x) (.int y) (decide (y < x))
 | lts (x y:Str):an2 .Lt (.str x) (.str y) (decide (x.cps.toList < y.cps.toList))
 | les (x y:Str):an2 .LtE (.str x) (.str y) (!decide (y.cps.toList < x.cps.toList))
 | ge (x y:Int):an2 .GtE (.int x) (.int y) (decide (y≤x))
 | isL (l:List D):an2 .Is (.lst l) .none false
noncomputable def cv3 (op:CmpOp) (a b:D):Option Bool :=
 match op,a,b with
 | .Eq,a,b=>eqD a b
 | .NotEq,a,b=>(eqD a b).map (!·)
 | .Lt,.int x,.int y=>some (decide (x < y))
 | .Gt,.int x,.int y=>some (decide (y < x))
 | .GtE,.int x,.int y=>some (decide (y≤x))
 | .Lt,.str x,.str y=>some (decide (x.cps.toList < y.cps.toList))
 | .LtE,.str x,.str y=>some (!decide (y.cps.toList < x.cps.toList))
 | .Is,.lst _,.none=>some false
 | _,_,_=>none
theorem bb7 {op:CmpOp} {a b:D}:jo op a b = if dep a > 20∨dep b > 20 then none else cv3 op a b:=rfl
theorem cc0 {op:CmpOp} {a b:D} {c:Bool} (e:cv3 op a b = some c):an2 op a b c:=by
 induction op using CmpOp.casesOn with
 | Eq=>exact .eq e
 | NotEq =>
   refine zea (Option.map_eq_some_iff.mp (show (eqD a b).map (!·) = some c from e)) fun q h1 h2=>?_
   subst h2
   exact .ne h1
 | Lt=>induction a using D.casesOn<;>first | exact a8 e | (induction b using D.casesOn<;>first | exact a8 e | (injection e with e;subst e;exact .lt _ _) | (injection e with e;subst e;exact .lts _ _))
 | LtE=>induction a using D.casesOn<;>first | exact a8 e | (induction b using D.casesOn<;>first | exact a8 e | (injection e with e;subst e;exact .les _ _))
 | Gt=>induction a using D.casesOn<;>first | exact a8 e | (induction b using D.casesOn<;>first | exact a8 e | (injection e with e;subst e;exact .gt _ _))
 | GtE=>induction a using D.casesOn<;>first | exact a8 e | (induction b using D.casesOn<;>first | (cases e;exact .ge _ _) | exact a8 e)
 | Is=>induction b using D.casesOn<;>first | (induction a using D.casesOn<;>first | (cases e;exact .isL _) | exact a8 e) | exact a8 e
 | _=>exact a8 e
theorem cx8 {op:CmpOp} {a b:D} {c:Bool} (e:jo op a b = some c):(dep a≤20∧dep b≤20)∧an2 op a b c:=by
 rw [bb7] at e
 by_cases hd:dep a > 20∨dep b > 20
 · rw [if_pos hd] at e;injection e
 rw [if_neg hd] at e
 exact ⟨⟨Nat.not_lt.mp fun h=>hd (.inl h),Nat.not_lt.mp fun h=>hd (.inr h)⟩,cc0 e⟩
theorem om {l:List D} (hd:ud l + 1≤20) (hu:A.units + 40 < cLine):A.in1.units + ud l < cLine:=by
 show A.units + 1 + ud l < cLine
 lia
theorem bn6 {a b:D} {c:Bool} {va vb:Value} (e:eqD a b = some c) (ha:Has V io s.heap a va) (hb:Has V io s.heap b vb) (hda:dep a≤20) (hu:A.units + 40 < cLine) :
   wpAny (model C.prog C.w) A (compareOp .Eq va vb) (fun v s'=>v = .bool c∧Keeps s s') E s:=by
 have fin:∀ {c':Bool},c' = c→(Value.bool c' = Value.bool c∧Keeps s s):=fun h=>⟨by rw [h],Keeps.refl⟩
 induction eqV e using EqV.casesOn with
 | nn=>subst ha hb;exact SeqAt.RcAt.none_none _ _ _ _ (fin rfl)
 | sn x=>subst hb;refine zae ha fun J t e2q=>?_;clear ha;subst e2q;exact SeqAt.RcAt.str_none _ _ _ _ _ _ (fin rfl)
 | ii x y=>refine ze ha fun t e1q=>?_;clear ha;subst e1q;refine ze hb fun u e1q=>?_;clear hb;subst e1q;exact SeqAt.RcAt.int_int _ _ _ _ _ _ _ _ (fin rfl)
 | ss x y=>refine zae ha fun J t e2q=>?_;clear ha;subst e2q;refine zae hb fun J u e2q=>?_;clear hb;subst e2q;exact SeqAt.RcAt.str_str _ _ _ _ _ _ _ _ (fin rfl)
 | @tt l m _ e =>
   refine zae2a3 ha fun J a vs e3q J ht hs=>?_;clear ha;subst e3q
   refine zae2a3 hb fun J a' vs' e3q J ht' hs'=>?_;clear hb;subst e3q
   refine za (jh e) fun h1 h2=>?_
   refine SeqAt.RcAt.tuples (e:=fun _=>true) ht.isTuple ht'.isTuple (by lia) (oz e hs hs' (om hda hu)) _ _ _ _ (fin ?_)
   rw [jf,h1,show vs.size = vs'.size from (f0.length hs).trans (h2.trans (f0.length hs').symm),beq_self_eq_true];rfl
 | @ll l m _ h2 e5 =>
   refine zae2a3 ha fun J a vs e3q J ht hs=>?_;clear ha;subst e3q
   refine zae2a3 hb fun J a' vs' e3q J ht' hs'=>?_;clear hb;subst e3q
   refine SeqAt.RcAt.lists (e:=fun _=>true) ht.isList ht'.isList ((f0.length hs).trans (h2.trans (f0.length hs').symm)) (by lia) (oz e5 hs hs' (om hda hu)) _ _ _ _ (fin ?_)
   rw [jf,(jh e5).1]
 | @lf l m h2 =>
   refine zae2a3 ha fun J a vs e3q J ht hs=>?_;clear ha;subst e3q
   refine zae2a3 hb fun J a' vs' e3q J ht' hs'=>?_;clear hb;subst e3q
   exact SeqAt.RcAt.lists_lengths ht.isList ht'.isList (by rw [show vs.size = l.length from f0.length hs,show vs'.size = m.length from f0.length hs'];simpa using h2) (by lia) _ _ _ _ (fin (c':=false) rfl)
theorem bn8 {a b:D} {c:Bool} {va vb:Value} (e:eqD a b = some c) (ha:Has V io s.heap a va) (hb:Has V io s.heap b vb) (hda:dep a≤20) (hu:A.units + 40 < cLine) :
   wpAny (model C.prog C.w) A (compareOp .NotEq va vb) (fun v s'=>v = .bool (!c)∧Keeps s s') E s:=by
 have fin:∀ {c':Bool},c' = c→(Value.bool (!c') = Value.bool (!c)∧Keeps s s):=fun h=>⟨by rw [h],Keeps.refl⟩
 induction eqV e using EqV.casesOn with
 | nn=>subst ha hb;exact SeqAt.RcNeAt.none_none _ _ _ _ (fin rfl)
 | sn x=>subst hb;refine zae ha fun J t e2q=>?_;clear ha;subst e2q;exact SeqAt.RcNeAt.str_none _ _ _ _ _ _ (fin rfl)
 | ii x y=>refine ze ha fun t e1q=>?_;clear ha;subst e1q;refine ze hb fun u e1q=>?_;clear hb;subst e1q;exact SeqAt.RcNeAt.int_int _ _ _ _ _ _ _ _ (fin rfl)
 | ss x y=>refine zae ha fun J t e2q=>?_;clear ha;subst e2q;refine zae hb fun J u e2q=>?_;clear hb;subst e2q;exact SeqAt.RcNeAt.str_str _ _ _ _ _ _ _ _ (fin rfl)
 | @tt l m _ e =>
   refine zae2a3 ha fun J a vs e3q J ht hs=>?_;clear ha;subst e3q
   refine zae2a3 hb fun J a' vs' e3q J ht' hs'=>?_;clear hb;subst e3q
   refine za (jh e) fun h1 h2=>?_
   refine SeqAt.RcNeAt.tuples (e:=fun _=>true) ht.isTuple ht'.isTuple (by lia) (oz e hs hs' (om hda hu)) _ _ _ _ (fin ?_)
   rw [jf,h1,show vs.size = vs'.size from (f0.length hs).trans (h2.trans (f0.length hs').symm),beq_self_eq_true];rfl
 | @ll l m _ h2 e5 =>
   refine zae2a3 ha fun J a vs e3q J ht hs=>?_;clear ha;subst e3q
   refine zae2a3 hb fun J a' vs' e3q J ht' hs'=>?_;clear hb;subst e3q
   refine SeqAt.RcNeAt.lists (e:=fun _=>true) ht.isList ht'.isList ((f0.length hs).trans (h2.trans (f0.length hs').symm)) (by lia) (oz e5 hs hs' (om hda hu)) _ _ _ _ (fin ?_)
   rw [jf,(jh e5).1]
 | @lf l m h2 =>
   refine zae2a3 ha fun J a vs e3q J ht hs=>?_;clear ha;subst e3q
   refine zae2a3 hb fun J a' vs' e3q J ht' hs'=>?_;clear hb;subst e3q
   exact SeqAt.RcNeAt.lists_lengths ht.isList ht'.isList (by rw [show vs.size = l.length from f0.length hs,show vs'.size = m.length from f0.length hs'];simpa using h2) (by lia) _ _ _ _ (fin (c':=false) rfl)
theorem aw1 {op:CmpOp} {a b:D} {c:Bool} {va vb:Value} (e:jo op a b = some c) (ha:Has V io s.heap a va) (hb:Has V io s.heap b vb) (hu:A.units + 40 < cLine) :
   wpAny (model C.prog C.w) A (compareOp op va vb) (fun v s'=>v = .bool c∧Keeps s s') E s:=by
 refine za (cx8 e) fun e0q hv=>?_;obtain ⟨hda,hdb⟩:=e0q
 clear e
 have fin:∀ {c':Bool},c' = c→(Value.bool c' = Value.bool c∧Keeps s s):=fun h=>⟨by rw [h],Keeps.refl⟩
 induction hv using an2.casesOn with
 | eq e=>exact bn6 e ha hb hda hu
 | ne e=>exact bn8 e ha hb hda hu
 | lt x y=>refine ze ha fun t e1q=>?_;clear ha;subst e1q;refine ze hb fun u e1q=>?_;clear hb;subst e1q;exact PyProof.Rows.lt_int (fin rfl)
 | gt x y=>refine ze ha fun t e1q=>?_;clear ha;subst e1q;refine ze hb fun u e1q=>?_;clear hb;subst e1q;exact PyProof.Rows.gt_int (fin rfl)
 | lts x y=>refine zae ha fun J t e2q=>?_;clear ha;subst e2q;refine zae hb fun J u e2q=>?_;clear hb;subst e2q;exact P.lt_str (fin rfl)
 | les x y=>refine zae ha fun J t e2q=>?_;clear ha;subst e2q;refine zae hb fun J u e2q=>?_;clear hb;subst e2q;exact P.le_str (fin rfl)
 | ge x y=>refine ze ha fun t e1q=>?_;clear ha;subst e1q;refine ze hb fun u e1q=>?_;clear hb;subst e1q;exact PyProof.Rows.ge_int (fin rfl)
 | isL l=>obtain ⟨_,a,vs,rfl,_⟩:=ha;subst hb;exact is_none (fin rfl)
end
end Mine
namespace Mine
variable {C:Cst}
section
variable {A:Around} {E:Value→Shared→Prop} {s:Shared} {Z:List Addr} {io:HI}
theorem qr {g:Sg} (k:Sok C Z io g s):s.heap.objs.size∉VV C io Z:=by
 intro h
 simp only [VV,List.mem_append] at h
 have key:∀ b,(∃ o,s.heap.get? b = some o)→b≠s.heap.objs.size:=fun b ⟨o,e⟩ hb=>Nat.lt_irrefl _ (hb ▸ Heap.lt_size e)
 rcases h with (h | h) | h
 · exact key _ (k.val _ h) rfl
 · exact key _ (k.st.alive C _ h) rfl
 · exact key _ (k.zal _ h) rfl
theorem ol {s':Shared} (k:Keeps s s') {V:List Addr} {d:D} {v:Value} (h:Has V io s.heap d v):Has V io s'.heap d v:=by
 refine ze2a k fun h' tk e2q hk=>?_;clear k;subst e2q
 exact Has.mono (fun a o e ha=>⟨hk a o e,ha⟩) (fun J J e=>e) h
theorem z5 {s':Shared} (k:Keeps s s') {V:List Addr} {d:List D} {v:List Value} (h:f0 V io s.heap d v):f0 V io s'.heap d v:=by
 refine ze2a k fun h' tk e2q hk=>?_;clear k;subst e2q
 exact f0.mono (fun a o e ha=>⟨hk a o e,ha⟩) (fun J J e=>e) h
theorem dz {g:Sg} (k:Sok C Z io g s) {ds:List D} {vs:List Value} (hl:ds.length≤lim) (h:f0 (VV C io Z) io s.heap ds vs) {n tk:Nat} :
   Keeps s { s with heap:=s.heap.push { cls:=.type "list",data:=.seq vs.toArray n },toks:=tk }∧Has (VV C io Z) io (s.heap.push { cls:=.type "list",data:=.seq vs.toArray n }) (.lst ds) (.ref s.heap.objs.size):=by
 have kp:Keeps s { s with heap:=s.heap.push { cls:=.type "list",data:=.seq vs.toArray n },toks:=tk }:=Keeps.push
 refine ⟨kp,?_⟩
 exact ⟨hl,_,_,rfl,qr k,⟨n,Heap.get?_push_size _ rfl⟩,by simpa using z5 kp h⟩
theorem de {g:Sg} (k:Sok C Z io g s) {ds:List D} {vs:List Value} (hl:ds.length≤lim) (h:f0 (VV C io Z) io s.heap ds vs) {n tk:Nat} :
   Keeps s { s with heap:=s.heap.push { cls:=.type "tuple",data:=.seq vs.toArray n },toks:=tk }∧Has (VV C io Z) io (s.heap.push { cls:=.type "tuple",data:=.seq vs.toArray n }) (.tup ds) (.ref s.heap.objs.size):=by
 have kp:Keeps s { s with heap:=s.heap.push { cls:=.type "tuple",data:=.seq vs.toArray n },toks:=tk }:=Keeps.push
 refine ⟨kp,?_⟩
 exact ⟨hl,_,_,rfl,qr k,⟨n,Heap.get?_push_size _ rfl⟩,by simpa using z5 kp h⟩
theorem qx {α:Type} (n:Nat) (l:List α):List.foldl (fun x1 x2=>x1++x2) #[] (List.replicate n l.toArray) = (List.replicate n l).flatten.toArray:=by
 have:∀ (n:Nat) (acc:Array α),List.foldl (fun x1 x2=>x1++x2) acc (List.replicate n l.toArray) = acc++(List.replicate n l).flatten.toArray:=by
   intro n
   induction n with
   | zero=>intro acc;simp
   | succ n ih =>
     intro acc
     rw [List.replicate_succ,List.foldl_cons,ih,List.replicate_succ,List.flatten_cons]
     simp [Array.append_assoc]
 simpa using this n #[]
theorem bc7 {α:Type} (n:Nat) (l:List α):(List.replicate n l).flatten.length = l.length * n:=by
 induction n with
 | zero=>simp
 | succ n ih=>simp only [List.replicate_succ,List.flatten_cons,List.length_append,ih,Nat.mul_succ];lia
inductive bj3:Operator→D→D→D→Prop
 | add (x y:Int):bj3 .Add (.int x) (.int y) (.int (x + y))
 | adds (x y:Str) (h:(x++y).length≤lim):bj3 .Add (.str x) (.str y) (.str (x++y))
 | addl (x y:List D) (h:x.length + y.length≤lim):bj3 .Add (.lst x) (.lst y) (.lst (x++y))
 | sub (x y:Int):bj3 .Sub (.int x) (.int y) (.int (x - y))
 | muls (x:Str) (y:Int) (h:0≤y∧x.length * y.toNat≤lim∧y≤lim∧x.length≤lim):bj3 .Mult (.str x) (.int y) (.str (Txt.mul x y))
 | mod (x y:Int) (h:0 < y):bj3 .Mod (.int x) (.int y) (.int (x % y))
theorem cr8 {op:Operator} {a b d:D} (e:ac6 op a b = some d):bj3 op a b d:=by
 induction op using Operator.casesOn with
 | Add =>
   induction a using D.casesOn with
   | int x=>induction b using D.casesOn with
     | int y=>(injection e with e;subst e);exact .add _ _
     | _=>exact a8 e
   | str x=>induction b using D.casesOn with
     | str y=>refine za (j0 (c:=(x++y).length≤lim) e) fun h e=>?_;(injection e with e;subst e);exact .adds _ _ h
     | _=>exact a8 e
   | lst x=>induction b using D.casesOn with
     | lst y=>refine za (j0 (c:=x.length + y.length≤lim) e) fun h e=>?_;(injection e with e;subst e);exact .addl _ _ h
     | _=>exact a8 e
   | _=>exact a8 e
 | Sub =>
   induction a using D.casesOn with
   | int x=>induction b using D.casesOn with
     | int y=>(injection e with e;subst e);exact .sub _ _
     | _=>exact a8 e
   | _=>exact a8 e
 | Mult =>
   induction a using D.casesOn with
   | str x=>induction b using D.casesOn with
     | int y=>refine za (j0 (c:=0≤y∧x.length * y.toNat≤lim∧y≤lim∧x.length≤lim) e) fun h e=>?_;(injection e with e;subst e);exact .muls _ _ h
     | _=>exact a8 e
   | _=>exact a8 e
 | Mod =>
   induction a using D.casesOn with
   | int x=>induction b using D.casesOn with
     | int y=>refine za (j0 (c:=0 < y) e) fun h e=>?_;(injection e with e;subst e);exact .mod _ _ h
     | _=>exact a8 e
   | _=>exact a8 e
 | _=>exact a8 e
set_option tactic.hygienic true in
theorem bq1 {g:Sg} (k:Sok C Z io g s) {op:Operator} {a b d:D} {va vb:Value} (e:ac6 op a b = some d) (ha:Has (VV C io Z) io s.heap a va) (hb:Has (VV C io Z) io s.heap b vb) :
   wpAny (model C.prog C.w) A (binaryOp op va vb) (fun v s'=>Keeps s s'∧Has (VV C io Z) io s'.heap d v) E s:=by
 have hv:=cr8 e
 clear e
 induction hv using bj3.casesOn
 · -- int + int
   refine ze ha fun t e1q=>?_;clear ha;subst e1q;refine ze hb fun u e1q=>?_;clear hb;subst e1q
   exact PyProof.Rows.add_int ⟨j6 _,_,rfl⟩
 · -- str + str
   rename_i x y hl
   refine zae ha fun J t e2q=>?_;clear ha;subst e2q;refine zae hb fun J u e2q=>?_;clear hb;subst e2q
   have hl':x.length + y.length≤lim:=by
     have:(x++y).length = x.length + y.length:=Str.length_append x y
     lia
   exact PyProof.Rows.add_str (fun t' tk=>⟨j6 _,hl,_,rfl⟩) (Nat.le_trans hl' cq)
 · -- list + list
   rename_i x y hl
   obtain ⟨_,l,vs,rfl,_,⟨n,ht⟩,hs⟩:=Has.lst ha
   obtain ⟨_,l',vs',rfl,_,⟨n',ht'⟩,hs'⟩:=Has.lst hb
   have h1:vs.size = x.length:=f0.length hs
   have h2:vs'.size = y.length:=f0.length hs'
   refine concat_meets ⟨_,ht,rfl⟩ ⟨_,ht',rfl⟩ noFill_list_add seq_list_add PySem.F.slot_list_add PySem.F.entry_list_add (PySem.F.args_list_add_2 _ _) (PyProof.Rows.list_addW l l' vs vs' n n' none none #[] #[] (by have:=cq;lia)) ⟨ht,ht',?_⟩
   have:=dz k (tk:=s.toks) (n:=0) (ds:=_++_) (vs:=vs.toList++vs'.toList) (by rw [List.length_append];exact hl) (f0.append hs hs')
   have e3:(vs.toList++vs'.toList).toArray = vs++vs':=by simp
   rw [e3] at this
   exact this
 · refine ze ha fun t e1q=>?_;clear ha;subst e1q;refine ze hb fun u e1q=>?_;clear hb;subst e1q
   exact PyProof.Rows.sub_int ⟨j6 _,_,rfl⟩
 · -- text * int
   rename_i x y hl
   refine zae ha fun J t e2q=>?_;clear ha;subst e2q;refine ze hb fun u e1q=>?_;clear hb;subst e1q
   refine za3 hl fun h0 h1 h2 h3=>?_
   have hb1:x.length * y.toNat≤sizeLine:=Nat.le_trans h1 cq
   refine SB.mul ⟨?_,?_,?_⟩ (fun t' kk=>⟨j6 _,?_,_,rfl⟩)
   · unfold lim at h2;simp;lia
   · intro hn _ hx
     unfold lim at h2 h3
     have h5:(x.length:Int) * y≤1000000 * 1000000:=by
       have a1:(x.length:Int)≤1000000:=by lia
       have:=Int.mul_le_mul a1 h2 h0 (by lia:(0:Int)≤1000000)
       exact this
     have h6:(x.length:Int)≤(2 ^ 63 - 1) / y:=by
       apply Int.le_ediv_of_mul_le (by lia)
       exact Int.le_trans h5 (by decide)
     lia
   · intro _ _;simp only [Builtin.Str.tooLong,decide_eq_false_iff_not];lia
   · unfold Txt.mul
     split
     · simp [Str.length,Str.empty]
     · split
       · exact h3
       · have:=qx y.toNat x.cps.toList
         simp only [Array.toArray_toList] at this
         simp only [Str.length,this,List.size_toArray,bc7]
         simpa [Str.length] using h1
 · rename_i x y hl
   refine ze ha fun t e1q=>?_;clear ha;subst e1q;refine ze hb fun u e1q=>?_;clear hb;subst e1q
   refine PyProof.Rows.mod_int' (by lia) ⟨j6 _,s.toks,?_⟩
   rw [Int.fmod_eq_emod_of_nonneg _ (by lia)]
theorem xa {n:Nat} {i:Int} {k:Nat} (e:bc n i = some k):seqIndex? i n = some k:=by
 unfold bc at e
 unfold seqIndex?
 split at e
 · rename_i h0
   split at e<;>simp only [reduceCtorEq,Option.some.injEq] at e
   subst e
   have:¬ i < 0:=by lia
   simp only [this,if_false]
   rw [if_pos];simp;lia
 · rename_i h0
   split at e<;>simp only [reduceCtorEq,Option.some.injEq] at e
   subst e
   have:i < 0:=by lia
   simp only [this,if_true]
   rw [if_pos];simp;lia
theorem uq {n:Nat} {i:Int} {k:Nat} (e:bc n i = some k):k < n∧-(n:Int)≤i∧i < n:=by
 unfold bc at e
 split at e<;>(split at e<;>simp only [reduceCtorEq,Option.some.injEq] at e)<;>lia
inductive bf2:D→D→D→Prop
 | sign (x:Str) (i:Int) (k:Nat) (c:Nat) (hk:bc x.length i = some k) (hc:x.cps[k]? = some c):bf2 (.str x) (.int i) (.str ⟨#[c]⟩)
 | tup (l:List D) (i:Int) (k:Nat) (d:D) (hk:bc l.length i = some k) (hd:l[k]? = some d):bf2 (.tup l) (.int i) d
 | lst (l:List D) (i:Int) (k:Nat) (d:D) (hk:bc l.length i = some k) (hd:l[k]? = some d):bf2 (.lst l) (.int i) d
theorem bk5 {a i d:D} (e:z7 a i = some d):bf2 a i d:=by
 induction a using D.casesOn with
 | str x=>induction i using D.casesOn with
   | int i =>
     refine zea (Option.bind_eq_some_iff.mp (show (bc x.length i).bind (fun k=>(x.cps[k]?).map fun c=>D.str ⟨#[c]⟩) = some d from e)) fun k hk e=>?_
     refine zea (Option.map_eq_some_iff.mp e) fun c hc e2q=>?_;subst e2q
     exact .sign _ _ _ _ hk hc
   | _=>exact a8 e
 | lst l=>induction i using D.casesOn with
   | int i =>
     refine zea (Option.bind_eq_some_iff.mp (show (bc l.length i).bind (fun k=>l[k]?) = some d from e)) fun k hk e=>?_
     exact .lst _ _ _ _ hk e
   | _=>exact a8 e
 | tup l=>induction i using D.casesOn with
   | int i =>
     refine zea (Option.bind_eq_some_iff.mp (show (bc l.length i).bind (fun k=>l[k]?) = some d from e)) fun k hk e=>?_
     exact .tup _ _ _ _ hk e
   | _=>exact a8 e
 | _=>exact a8 e
set_option tactic.hygienic true in
theorem bb1 {a i d:D} {va vi:Value} (e:z7 a i = some d) (ha:Has (VV C io Z) io s.heap a va) (hi:Has (VV C io Z) io s.heap i vi) :
   wpAny (model C.prog C.w) A (getItem va vi) (fun v s'=>Keeps s s'∧Has (VV C io Z) io s'.heap d v) E s:=by
 have hv:=bk5 e
 clear e
 cases hv
 · -- a sign of a text
   rename_i x i k c hk hc
   refine zae ha fun hl t e2q=>?_;clear ha;subst e2q;refine ze hi fun u e1q=>?_;clear hi;subst e1q
   have hp:=uq hk
   unfold lim at hl
   refine PyProof.Rows.getItem_str (c:=c) (by simp;lia) (by rw [xa hk];exact hc) ⟨j6 _,by simp [Str.length,lim],_,rfl⟩
 · rename_i l i k hk hd
   refine zae2a3 ha fun hl a vs e3q J ht hs=>?_;clear ha;subst e3q;refine ze hi fun u e1q=>?_;clear hi;subst e1q
   have hn:=f0.length hs
   simp only [Array.length_toList] at hn
   have hp:=uq hk
   unfold lim at hl
   refine zea (f0.get hs hd) fun v hv hdv=>?_
   refine PyProof.Rows.getItem_tuple ht.isTuple (by lia) (by lia) (by rw [hn];exact xa hk) (by simpa using hv) ⟨Keeps.refl,hdv⟩
 · rename_i l i k hk hd
   refine zae2a3 ha fun hl a vs e3q J ht hs=>?_;clear ha;subst e3q;refine ze hi fun u e1q=>?_;clear hi;subst e1q
   have hn:=f0.length hs
   simp only [Array.length_toList] at hn
   have hp:=uq hk
   unfold lim at hl
   refine zea (f0.get hs hd) fun v hv hdv=>?_
   by_cases h0:0≤i
   · refine wpAny_getItem_list ht.isList h0 (by lia) (x:=v) ?_ ⟨Keeps.refl,hdv⟩
     unfold bc at hk
     rw [if_pos h0,if_pos (by lia)] at hk
     injection hk with hk;subst hk
     simpa using hv
   · refine wpAny_getItem_list_neg ht.isList (by lia) (by lia) (by lia) (x:=v) ?_ ⟨Keeps.refl,hdv⟩
     unfold bc at hk
     rw [if_neg h0,if_pos (by lia)] at hk
     injection hk with hk;subst hk
     rw [hn];simpa using hv
set_option tactic.hygienic true in
theorem ar9 {g:Sg} (k:Sok C Z io g s) {a d:D} {va:Value} {sl:Addr} {l u st:Option (Int × Tok)} (e:y0 a (l.map (·.1)) (u.map (·.1)) (st.map (·.1)) = some d) (ha:Has (VV C io Z) io s.heap a va)
   (hs:s.heap.IsSlice sl l u st):wpAny (model C.prog C.w) A (getItem va (.ref sl)) (fun v s'=>Keeps s s'∧Has (VV C io Z) io s'.heap d v) E s:=by
 replace e:=yq (show (if _ then none else _) = some d from e)
 have h0:=e.1
 replace e:=e.2
 have part:∀ p:Option (Int × Tok),IsPart (partValue p) (p.map (·.1)):=fun p=>by
   induction p using Option.casesOn with
   | none=>exact .none
   | some q=>exact .int _ _
 induction a using D.casesOn<;>first | exact a8 e | skip
 · rename_i x
   refine za (j0 (show (if _ then some _ else none) = some d from e)) fun hl e=>?_
   injection e with e;subst e
   refine zae ha fun hlx t e2q=>?_;clear ha;subst e2q
   refine wpAny_getItem_str_slice hs (by induction st using Option.casesOn<;>simp_all) (post_val_or_str ⟨Nat.le_trans hl cq,fun t' kk=>⟨j6 _,hl,t',rfl⟩⟩)
 · rename_i x
   induction l using Option.casesOn with
   | none=>simp at e
   | some l =>
     induction u using Option.casesOn with
     | some u=>simp at e
     | none =>
       induction st using Option.casesOn with
       | some st=>simp at e
       | none =>
         obtain ⟨i,ti⟩:=l
         simp only [Option.map_some,Option.map_none] at e
         split at e<;>simp only [reduceCtorEq,Option.some.injEq] at e
         rename_i hi
         subst e
         obtain ⟨hlx,a,vs,rfl,_,ht,hh⟩:=Has.tup ha
         have hn:=f0.length hh
         simp only [Array.length_toList] at hn
         have hsl:s.heap.IsSliceOf sl (.int ((i.toNat:Nat):Int) ti) .none .none:=by
           rw [Int.toNat_of_nonneg (by lia)];exact hs
         refine PyProof.Rows.getItem_tuple_from ht.isTuple hsl (by lia) (by lia) ?_ (by have:=cq;lia)
         have hd:f0 (VV C io Z) io s.heap (x.drop i.toNat) (vs.toList.drop i.toNat):=by
           have key:∀ (n:Nat) (ds:List D) (ws:List Value),f0 (VV C io Z) io s.heap ds ws→f0 (VV C io Z) io s.heap (ds.drop n) (ws.drop n):=by
             intro n
             induction n with
             | zero=>intro ds ws h;simpa using h
             | succ n ih =>
               intro ds ws h
               induction ds using List.casesOn with
               | nil=>subst h;exact rfl
               | cons d ds=>obtain ⟨v,r,rfl,_,h2⟩:=f0.cons h;simpa using ih ds r h2
           exact key _ _ _ hh
         exact de k (tk:=s.toks) (n:=0) (by rw [List.length_drop];lia) hd
 · rename_i x
   simp only [Option.some.injEq] at e
   subst e
   obtain ⟨hlx,a,vs,rfl,_,ht,hh⟩:=Has.lst ha
   have hn:=f0.length hh
   simp only [Array.length_toList] at hn
   have e1:slicePick vs (l.map (·.1)) (u.map (·.1)) (st.map (·.1)) = ((picks x.length (l.map (·.1)) (u.map (·.1)) (st.map (·.1))).filterMap (vs.toList[·]?)).toArray:=by
     rw [← hn]
     unfold slicePick picks
     simp only [Array.getElem?_toList]
     rfl
   refine wpAny_getItem_list_slice ht.isList hs (part l) (part u) (part st) h0 ?_ (by have:=cq;lia)
   rw [e1]
   refine dz k (tk:=s.toks) (n:=0) ?_ (f0.picks hh _)
   have h1:=slicePick_size_le vs (l.map (·.1)) (u.map (·.1)) (st.map (·.1))
   rw [e1,List.size_toArray] at h1
   have h2:=f0.length (f0.picks hh (picks x.length (l.map (·.1)) (u.map (·.1)) (st.map (·.1))))
   lia
end
end Mine
namespace Mine
structure g9 (C:Cst):Prop where
 g:C.H.Ns mainGlobals C.mg
 b:C.H.Ns builtinsNs C.mb
 bi:∀ x:Str,x≠"__name__"→C.mb x = bootBuiltins x
 nolimit:C.H.NoLimit
 nob:∀ x∈(["len","sum","max","min","range","zip","enumerate","str"]:List Str),C.mg x = none
 nob2:∀ x∈(["type","list"]:List Str),C.mg x = none
 vtH:∀ b∈C.vt,C.H.get? b = none
structure m6 (C:Cst) (kd:Kd) (Z:List Addr) (io:HI) (env:Env) (ro:Ro) (h:Heap):Prop where
 kdo:∀ x,env.kindOf x = kd x∨(kd x = some .free∧env.kindOf x = some .cell)
 fn:env.scope.kind = .function
 gl:env.globals = mainGlobals
 bi:env.builtins = builtinsNs
 lz:env.locals∈Z
 nsx:∃ m,h.Ns env.locals m∧∀ x d,ro.lookup x = some d→kd x = some .local→∃ v,m x = some v∧Has (VV C io Z) io h d v
 cel:∀ x d,ro.lookup x = some d→kd x≠some .local→(kd x = some .cell∨kd x = some .free)∧∃ c v,env.cells.lookup x = some c∧h.IsCell c (some v)∧Has (VV C io Z) io h d v
 all:∀ x,(kd x = some .cell∨kd x = some .free)→∃ c v,env.cells.lookup x = some c∧h.IsCell c v∧c∈Z
 cd:kd ("_split_list":Str) = some .globalImplicit→∃ c P q,(c,P,q)∈C.spc∧env.code = .ref c∧env.qual = q
variable {C:Cst}
theorem q0.env {kd:Kd} {Z:List Addr} {io io':HI} {g:Sg} {s s':Shared} (x:q0 C io io' s s') (k:Sok C Z io g s) {env:Env} {ro:Ro} (e:m6 C kd Z io env ro s.heap):m6 C kd Z io' env ro s'.heap where
 kdo:=e.kdo
 fn:=e.fn
 gl:=e.gl
 bi:=e.bi
 lz:=e.lz
 cd:=e.cd
 nsx:=by
   refine zea e.nsx fun m hn hv=>?_
   have hz:=k.zd _ e.lz
   refine ⟨m,hn.at' fun o ho=>x.keep _ o ho hz.1 hz.2.1,fun y d hy hk=>?_⟩
   refine zea (hv y d hy hk) fun v hv1 hv2=>?_
   exact ⟨v,hv1,x.has C hv2⟩
 cel:=fun y d hy hk=>by
   refine zae2a2 (e.cel y d hy hk) fun h1 c v hc e4q hh=>?_;obtain ⟨o,ho,hd⟩:=e4q
   refine ze2a2 (e.all y h1) fun c' v' hc' J hz=>?_
   rw [hc] at hc';(injection hc' with hc';subst hc')
   exact ⟨h1,c,v,hc,⟨o,x.keep _ o ho (k.zd _ hz).1 (k.zd _ hz).2.1,hd⟩,x.has C hh⟩
 all:=fun y hk=>by
   refine ze2a2 (e.all y hk) fun c v hc e3q hz=>?_;obtain ⟨o,ho,hd⟩:=e3q
   exact ⟨c,v,hc,⟨o,x.keep _ o ho (k.zd _ hz).1 (k.zd _ hz).2.1,hd⟩,hz⟩
noncomputable def z0 (C:Cst) (lv:Nat) (f:Value) (S:ae):Prop :=
 ∀ ds g d g',S ds g = some (d,g')→∀ A Z io s vs,yw A lv→Sok C Z io g s→f0 (VV C io Z) io s.heap ds vs →
   wpAny (model C.prog C.w) A (call f vs) (ff C Z io s d g') noE s
inductive cv4 (C:Cst) (Zi Z:List Addr) (io:HI) (ds:List D) (v:Value) (s:Shared):Prop
 | mk (z TI TO i1 i2 l1 l2:Addr) (xs ys:Array Value) (l m:List D) (e:v = .ref z) (ed:ds = cr l m) (za:ZipApart z TI TO i1 i2 l1 l2) (hz:IsZip s.heap z TI TO .none) (hI:IsPair s.heap TI (.ref i1) (.ref i2)) (hO:IsPair s.heap TO .none .none)
   (h1:s.heap.IsListIter i1 l1 0) (h2:s.heap.IsListIter i2 l2 0) (p1:s.heap.PlainList l1 xs∧f0 (VV C io Z) io s.heap l xs.toList∧l1∉VV C io Z) (p2:s.heap.PlainList l2 ys∧f0 (VV C io Z) io s.heap m ys.toList∧l2∉VV C io Z)
   (hl:l.length≤lim) (hm:m.length≤lim) (hi:∀ b∈[z,TI,TO,i1,i2],b∈Zi)
noncomputable def zi (C:Cst) (Zi Z:List Addr) (io:HI) (ds:List D) (v:Value) (s:Shared):Prop:=(∃ d,dc d = some ds∧Has (VV C io Z) io s.heap d v)∨cv4 C Zi Z io ds v s
noncomputable def az4 (C:Cst) (lv:Nat) (f:Value) (S:ae):Prop :=
 ∀ ds d0 g d g',S [.lst ds,d0] g = some (d,g')→∀ A Z io io1 s0 s W v v0,yw A lv→q0 C io io1 s0 s→Sok C (W++Z) io1 g s→(∀ w∈W,s0.heap.get? w = none∧w∉Z)→zi C W (W++Z) io1 ds v s→Has (VV C io1 (W++Z)) io1 s.heap d0 v0 →
   wpAny (model C.prog C.w) A (call f [v,v0]) (ff C Z io s0 d g') noE s
noncomputable def y9 (C:Cst) (h:Heap) (x dx l:Addr):Prop :=
 h.get? x = some (PySem.W.instObj C.cls dx)∧∃ hs tk n,h.get? dx = some (PySem.W.dictOf [⟨hs,.str ("_headers":Str) tk,.ref l⟩] n)
structure af4 (C:Cst) (m:Str) (a:Addr):Prop where
 get:∀ A E (s:Shared) x dx l,(∀ b o,C.H.get? b = some o→s.heap.get? b = some o)→y9 C s.heap x dx l→∀ pl Q,Q (.ref a,[.ref x]) s→wpAny (model C.prog C.w) A (getMethod (.ref x) m pl) Q E s
 sub:m = ("__getitem__":Str)→∀ A E (s:Shared) x dx l,(∀ b o,C.H.get? b = some o→s.heap.get? b = some o)→y9 C s.heap x dx l→∀ value slice i Q,(∀ o,subscripted slice false o i = operate [o,i] (getItem o i))→(∀ l u st p,slice≠.Slice l u st p) →
   wpAny (model C.prog C.w) A.in1 (call (.ref a) [.ref x,i]) Q E s→wpAny (model C.prog C.w) A (PyProof.Rows.subscriptTail value slice (.ref x) i) Q E s
 len:m = ("__len__":Str)→∀ A E (s:Shared) x dx l,(∀ b o,C.H.get? b = some o→s.heap.get? b = some o)→y9 C s.heap x dx l→∀ Q,
   wpAny (model C.prog C.w) A.in1 (call (.ref a) [.ref x]) (fun v s'=>∃ n t,v = .int n t∧0≤n∧n < 2 ^ 62∧∀ t k,Q (.int n t) { s' with toks:=k }) E s→wpAny (model C.prog C.w) A (call (.builtin "len") [.ref x]) Q E s
 set:m = ("__setitem__":Str)→∀ A E (s:Shared) x dx l,(∀ b o,C.H.get? b = some o→s.heap.get? b = some o)→y9 C s.heap x dx l→∀ i v Q,
   wpAny (model C.prog C.w) A (call (.ref a) [.ref x,i,v]) (fun J s'=>Q () s') E s→wpAny (model C.prog C.w) A (setItem (.ref x) i v) Q E s
 del:m = ("__delitem__":Str)→∀ A E (s:Shared) x dx l,(∀ b o,C.H.get? b = some o→s.heap.get? b = some o)→y9 C s.heap x dx l→∀ i Q,
   wpAny (model C.prog C.w) A (call (.ref a) [.ref x,i]) (fun J s'=>Q () s') E s→wpAny (model C.prog C.w) A (delItem (.ref x) i) Q E s
structure dh (C:Cst) (lv:Nat) (T:Tbl):Prop where
 fn:∀ f S,T.fn f = some S→∃ a o fd,C.mg f = some (.ref a)∧C.H.get? a = some o∧o.data = .func fd∧z0 C lv (.ref a) S
 mt:∀ m S,T.mt m = some S→∃ a o fd,C.H.get? a = some o∧o.data = .func fd∧z0 C lv (.ref a) S∧af4 C m a
 new:∀ S,T.new = some S→C.mg "Headers" = some (.ref C.cls)∧z0 C lv (.ref C.cls) S ∧
   ∀ h:Heap,(∀ b o,C.H.get? b = some o→h.get? b = some o)→PySem.W.Looks (model C.prog C.w) h (keeperOf (.ref C.cls)) .machine
 fz:∀ f S,T.fz f = some S→∃ a o fd,C.mg f = some (.ref a)∧C.H.get? a = some o∧o.data = .func fd∧az4 C lv (.ref a) S
section
variable {A:Around} {s:Shared} {Z:List Addr} {io:HI} {kd:Kd} {env:Env} {ro:Ro} {g:Sg}
theorem post_pure {d:D} {v:Value} {s':Shared} (k:Sok C Z io g s) (h:Keeps s s'∧Has (VV C io Z) io s'.heap d v):ff C Z io s d g v s' :=
 ⟨io,Keeps.grow C h.1,Keeps.sok C h.1 k,h.2⟩
theorem ff.after {io':HI} {s' s'':Shared} {d:D} {g':Sg} {v:Value} (x:q0 C io io' s s') (h:ff C Z io' s' d g' v s''):ff C Z io s d g' v s'':=by
 obtain ⟨io'',y,k,hh⟩:=h
 exact ⟨io'',x.trans C y,k,hh⟩
theorem vo.after {io':HI} {s' s'':Shared} {d:Bool} {g':Sg} {v:Bool} (x:q0 C io io' s s') (h:vo C Z io' s' d g' v s''):vo C Z io s d g' v s'':=by
 obtain ⟨e,io'',y,k⟩:=h
 exact ⟨e,io'',x.trans C y,k⟩
theorem bg {f:Str} (e:m6 C kd Z io env ro s.heap) (h:kd f = some .globalImplicit):env.kindOf f = some .globalImplicit:=by
 rcases e.kdo f with h1 | h1
 · rw [h1,h]
 · rw [h] at h1;cases h1.1
theorem bn9 {x:Str} {pos:Pos} {d:D} (e:m6 C kd Z io env ro s.heap) (k:Sok C Z io g s) (hl:ro.lookup x = some d) (h1:(x==("__debug__":Str)) = false) (h2:(x==("__classdict__":Str)) = false) :
   wpAny (model C.prog C.w) A (eval (.Name x pos) env) (ff C Z io s d g) noE s:=by
 refine wpAny_Name ?_ h1
 by_cases hk:kd x = some .local
 · refine zea e.nsx fun m hn hv=>?_
   refine zea (hv x d hl hk) fun v hm hh=>?_
   refine wpAny_loadName_local e.fn ?_ hn hm (post_pure k ⟨Keeps.refl,hh⟩)
   rcases e.kdo x with h | h
   · rw [h,hk]
   · rw [hk] at h;cases h.1
 · refine zae2a2 (e.cel x d hl hk) fun hk' c v hc hcell hh=>?_
   have hpost:ff C Z io s d g v s:=post_pure k ⟨Keeps.refl,hh⟩
   rcases e.kdo x with h | h
   · rcases hk' with hk' | hk'
     · exact wpAny_loadName_cell e.fn (h.trans hk') hc hcell hpost
     · exact wpAny_loadName_free e.fn (h.trans hk') hc hcell hpost h2
   · exact wpAny_loadName_cell e.fn h.2 hc hcell hpost
theorem ij {f:Str} {pos:Pos} {v:Value} {Q:Value→Shared→Prop} {E:Value→Shared→Prop} (r:g9 C) (e:m6 C kd Z io env ro s.heap) (k:Sok C Z io g s) (hk:kd f = some .globalImplicit) (hf:C.mg f = some v) (hd:(f==("__debug__":Str)) = false) (h:Q v s) :
   wpAny (model C.prog C.w) A (eval (.Name f pos) env) Q E s :=
 Calls.Name_function_global e.fn (bg e hk) (Calls.loadGlobal_global (env:=env) (by rw [e.gl];exact r.g.keeps k.base) hf h) hd
end
end Mine
namespace Mine
variable {C:Cst}
noncomputable def k8 (C:Cst) (lv:Nat) (kd:Kd) (ro:Ro) (e:Expr) (g:Sg) (d:D) (g':Sg):Prop :=
 ∀ A env Z io s,AOk A lv→m6 C kd Z io env ro s.heap→Sok C Z io g s→wpAny (model C.prog C.w) A (eval e env) (ff C Z io s d g') noE s
noncomputable def li (C:Cst) (lv:Nat) (kd:Kd) (ro:Ro) (e:Expr) (g:Sg) (b:Bool) (g':Sg):Prop :=
 ∀ A env Z io s,AOk A lv→m6 C kd Z io env ro s.heap→Sok C Z io g s→wpAny (model C.prog C.w) A (isTrue e env (eval e env)) (vo C Z io s b g') noE s
noncomputable def o8 (C:Cst) (lv:Nat) (kd:Kd) (ro:Ro) (ev:Expr→Sg→Option (D × Sg)):Prop:=∀ e g d g',ev e g = some (d,g')→k8 C lv kd ro e g d g'
noncomputable def fm (C:Cst) (lv:Nat) (kd:Kd) (ro:Ro) (tr:Expr→Sg→Option (Bool × Sg)):Prop:=∀ e g b g',tr e g = some (b,g')→li C lv kd ro e g b g'
theorem b8 {α β:Type} {x:Option (α × Sg)} {f:α→Sg→Option (β × Sg)} {r:β × Sg} (h:c7 x f = some r):∃ a g,x = some (a,g)∧f a g = some r:=by
 induction x using Option.casesOn with
 | none=>injection h
 | some p=>exact ⟨p.1,p.2,rfl,h⟩
theorem a9 {α:Type} {M:Model} {A:Around} {t:Sem α} {Q Q':α→Shared→Prop} {E:Value→Shared→Prop} {s:Shared} (h:wpAny M A t Q noE s) (hQ:∀ a s,Q a s→Q' a s):wpAny M A t Q' E s :=
 wpAny_mono h hQ fun J J x=>x.elim
section
variable {lv:Nat} {A:Around} {s:Shared} {Z:List Addr} {io:HI} {kd:Kd} {env:Env} {ro:Ro} {g:Sg} {ev:Expr→Sg→Option (D × Sg)} {tr:Expr→Sg→Option (Bool × Sg)}
theorem f6 {e:Expr} {rest:List Expr} {env:Env} (h:∀ x p,e≠.Starred x p):starEach (e::rest) env = (false,eval e env)::starEach rest env:=by
 induction e using Expr.casesOn<;>first | rfl | exact absurd rfl (h _ _)
theorem at1 {a:Addr} {vs:Array Value} {Q:List Value→Shared→Prop} {E:Value→Shared→Prop} (T:String) (hT:T = "list"∨T = "tuple") {n:Nat} (ha:s.heap.get? a = some { cls:=.type T,data:=.seq vs n }) (hz:vs.size≤sizeLine)
   (h:∀ s',Keeps s s'→Q vs.toList s'):PySem.W.StarOf (model C.prog C.w) A E (.ref a) Q s:=by
 have hT':s.TypeIs (.ref a) T:=⟨_,ha,rfl⟩
 have z:wpAny (model C.prog C.w) A (collect (.ref a)) Q E s:=wpAny_collect_seq a hT ha rfl rfl (fun h' hk=>h _ ⟨h',s.toks,rfl,hk⟩) hz
 unfold PySem.W.StarOf notIterableAtAll
 rcases hT with rfl | rfl
 · exact wpAny_bind (wpAny_specialOf hT' PySem.F.slot_list_iter.lookup (wpAny_pure ⟨rfl,z⟩))
 · exact wpAny_bind (wpAny_specialOf hT' PySem.F.slot_tuple_iter.lookup (wpAny_pure ⟨rfl,z⟩))
theorem gm (hev:o8 C lv kd ro ev):∀ (es:List Expr) {g ds g'},evs ev es g = some (ds,g')→∀ {A:Around} {env:Env} {Z io s} {pos:Pos},AOk A lv→m6 C kd Z io env ro s.heap→Sok C Z io g s →
   wpAny (model C.prog C.w) A (spliced (backTo pos (starEach es env))) (qy C Z io s ds g') noE s:=by
 intro es
 induction es with
 | nil =>
   intro g ds g' h A env Z io s pos ha he hk
   injection (show some (([]:List D),g) = some (ds,g') from h) with h
   injection h with e0 e1
   subst e0;subst e1
   exact wpAny_items_nil ⟨io,q0.refl C,hk,rfl⟩
 | cons e r ih =>
   intro g ds g' h A env Z io s pos ha he hk
   have plain:(∀ x p,e≠.Starred x p)→(evs ev (e::r) g = c7 (ev e g) fun d g=>c7 (evs ev r g) fun ds g=>some (d::ds,g))→wpAny (model C.prog C.w) A (spliced (backTo pos (starEach (e::r) env))) (qy C Z io s ds g') noE s:=by
     intro hp heq
     rw [heq] at h
     refine ze2a (b8 h) fun d g1 h1 h2=>?_
     refine ze2a (b8 h2) fun ds' g2 h3 h4=>?_
     apply i2 h4
     refine wpAny_items_cons (a9 (hev e g d g1 h1 A env Z io s ha he hk) fun v s1 ⟨io1,x1,k1,hh⟩=>?_) (f6 hp)
     refine a9 (ih h3 ha (x1.env hk he) k1) fun vs s2 ⟨io2,x2,k2,hh2⟩=>?_
     exact ⟨io2,x1.trans C x2,k2,by exact ⟨v,vs,rfl,x2.has C hh,hh2⟩⟩
   induction e using Expr.casesOn with
   | Starred e p =>
     refine ze2a (b8 h) fun d g1 h1 h2=>?_
     have go:∀ (T:String) (l:List D),T = "list"∨T = "tuple"→(c7 (evs ev r g1) fun ds g=>some (l++ds,g)) = some (ds,g')→(∀ (io1:HI) (s1:Shared) (v:Value),Has (VV C io1 Z) io1 s1.heap d v→l.length≤lim∧∃ (a:Addr) (vs:Array Value) (n:Nat),v = .ref a∧s1.heap.get? a = some { cls:=.type T,data:=.seq vs n }∧f0 (VV C io1 Z) io1 s1.heap l vs.toList) →
         wpAny (model C.prog C.w) A (spliced (backTo pos (starEach (.Starred e p::r) env))) (qy C Z io s ds g') noE s:=by
       intro T l hT h2 hd
       refine ze2a (b8 h2) fun ds' g2 h3 h4=>?_
       apply i2 h4
       refine PySem.W.items_star (a9 (hev e g d g1 h1 A env Z io s ha he hk) fun v s1 ⟨io1,x1,k1,hh⟩=>?_)
       obtain ⟨hl,a,vs,n,rfl,jy,hs⟩:=hd io1 s1 v hh
       have hn:=f0.length hs
       simp only [Array.length_toList] at hn
       refine at1 T hT jy (by have:=cq;lia) fun s2 kp=>?_
       have x2:=Keeps.grow C (io:=io1) kp
       refine a9 (ih h3 ha (x2.env k1 (x1.env hk he)) (Keeps.sok C kp k1)) fun vs' s3 ⟨io3,x3,k3,hh3⟩=>?_
       exact ⟨io3,(x1.trans C x2).trans C x3,k3,f0.append (x3.hasL C (x2.hasL C hs)) hh3⟩
     induction d using D.casesOn with
     | lst l =>
       refine go "list" l (.inl rfl) h2 fun io1 s1 v hh=>?_
       obtain ⟨hl,a,vs,rfl,_,⟨n,ht⟩,hs⟩:=Has.lst hh
       exact ⟨hl,a,vs,n,rfl,ht,hs⟩
     | _=>injection h2
   | _=>exact plain (fun J J=>nofun) rfl
theorem rh {f:Value} {pos:Pos} {first:List Value} {args:List (Bool × Sem Value)} {Q:Value→Shared→Prop} {E:Value→Shared→Prop} {P:Heap→Prop} (hst:args.any (·.1) = false) (hn:args.length≤30)
   (hk:∀ h,P h→PySem.W.Looks (model C.prog C.w) h (keeperOf f) .machine)
   (h:wpAny (model C.prog C.w) A (evalArgs f true args []) (fun a s₁=>P s₁.heap∧wpAny (model C.prog C.w) A (call f (first++a.pos) a.kw) Q E s₁) E s):wpAny (model C.prog C.w) A (callWith pos f first args []) Q E s:=by
 unfold callWith
 refine wpAny_bind (wpAny_holding (wpAny_mono h (fun a s₁ h₁=>wpAny_bind (wpAny_standAt ?_)) fun J J x=>x))
 have L:=hk _ h₁.1
 generalize hs:(args.any (·.1)||([]:List (Option Str × Sem Value)).any (·.1.isNone)) = st
 rw [hst] at hs
 replace hs:false = st:=hs
 subst hs
 refine wpAny_bind (L.here ?_)
 exact wpAny_bind (wpAny_mono h₁.2 (fun r s₂ hr=>wpAny_bind (wpAny_holding (wpAny_point (wpAny_pure hr)))) fun J J x=>x)
theorem l9 {f:Value} {es:List Expr} {pos:Pos} {Q:Args→Shared→Prop} {E:Value→Shared→Prop} (h1:r6 es = true)
   (h:wpAny (model C.prog C.w) A (spliced (backTo pos (starEach es env))) (fun vs s'=>Q ⟨vs,[]⟩ s') E s):wpAny (model C.prog C.w) A (evalArgs f true (backTo pos (starEach es env)) []) Q E s:=by
 induction es using List.casesOn with
 | nil =>
   unfold evalArgs
   show wpAny (model C.prog C.w) A (spliced [] >>= _) Q E s
   refine wpAny_bind (wpAny_mono h (fun vs s' h'=>?_) fun J J x=>x)
   refine wpAny_holding ?_
   exact wpAny_bind (wpAny_pure (wpAny_bind (wpAny_pure (wpAny_pure h'))))
 | cons e r =>
   have hp:∀ x p,e≠.Starred x p:=bp h1
   rw [f6 hp] at h ⊢
   exact Calls.evalArgs_plain h
end
end Mine
namespace Mine
variable {C:Cst}
section
variable {lv:Nat} {A:Around} {s:Shared} {Z:List Addr} {io:HI} {kd:Kd} {env:Env} {ro:Ro} {g:Sg} {T:Tbl}
theorem fh:∀ (es:List Expr),es.all f5 = true→∀ (pos:Pos) (env:Env),(backTo pos (starEach es env)).any (·.1) = false
 | [],_,_,_=>rfl
 | e::r,h,pos,env=>by
   simp only [List.all_cons,Bool.and_eq_true] at h
   rw [f6 (bp h.1)]
   show (false||(backTo pos (starEach r env)).any (·.1)) = false
   rw [fh r h.2 pos env];rfl
theorem zx:∀ (es:List Expr),es.all f5 = true→∀ (pos:Pos) (env:Env),(backTo pos (starEach es env)).all (fun x=>!x.1) = true
 | [],_,_,_=>rfl
 | e::r,h,pos,env=>by
   simp only [List.all_cons,Bool.and_eq_true] at h
   rw [f6 (bp h.1)]
   show (true&&(backTo pos (starEach r env)).all (fun x=>!x.1)) = true
   rw [zx r h.2 pos env];rfl
theorem v9 {es:List Expr} (h:es.all f5 = true):r6 es = true:=by
 induction es using List.casesOn with
 | nil=>rfl
 | cons e r=>simp only [List.all_cons,Bool.and_eq_true] at h;exact h.1
theorem zu (r:g9 C) {f:Str} {id:String} (hb:bootBuiltins f = some (.builtin id)) (hm:C.mg f = none) (hn:f≠"__name__") (hd:(f==("__debug__":Str)) = false) {p pos:Pos} {as:List Expr} {ys:List D} {g1 g':Sg} {d:D}
   (bb:as.all f5 = true) (hkd:kd f = some .globalImplicit) (he:m6 C kd Z io env ro s.heap) (hk:Sok C Z io g s)
   (hargs:∀ pos,wpAny (model C.prog C.w) A (spliced (backTo pos (starEach as env))) (qy C Z io s ys g1) noE s)
   (hcall:∀ io1 s1 vs,Sok C Z io1 g1 s1→f0 (VV C io1 Z) io1 s1.heap ys vs→wpAny (model C.prog C.w) A (call (.builtin id) vs) (ff C Z io1 s1 d g') noE s1) :
   wpAny (model C.prog C.w) A (eval (.Call (.Name f p) as [] pos) env) (ff C Z io s d g') noE s:=by
 refine PyProof.Rows.Call_ ?_ rfl
 refine Calls.Name_function_global he.fn (bg he hkd) (Calls.loadGlobal_builtin (env:=env) (by rw [he.gl];exact r.g.keeps hk.base) hm (by rw [he.bi];exact r.b.keeps hk.base) ((r.bi f hn).trans hb) ?_) hd
 refine Calls.callWith_builtin (fh as bb _ _) (l9 (v9 bb) ?_)
 refine a9 (hargs pos) fun vs s1 ⟨io1,x1,k1,hh⟩=>?_
 exact a9 (hcall io1 s1 vs k1 hh) fun v s2 h2=>h2.after x1
theorem as4 {V:List Addr} {h:Heap}:∀ {l:List D} {is:List Int} {vs:List Value},jm l = some is→f0 V io h l vs→∃ xs:List (Int × Tok),vs = xs.map (fun p=>Value.int p.1 p.2)∧xs.map (·.1) = is
 | [],is,vs,e,x=>by
   replace e:=Option.some.inj (show some [] = some is from e)
   replace x:vs = []:=x
   subst e x
   exact ⟨[],rfl,rfl⟩
 | d::r,is,vs,e,x=>by
   induction d using D.casesOn<;>first | exact a8 e | skip
   refine zea (Option.map_eq_some_iff.mp (show (jm r).map (_::·) = some is from e)) fun is' e' e2q=>?_;clear e;subst e2q
   obtain ⟨v,r',rfl,h1,h2⟩:=f0.cons x
   refine ze (Has.int h1) fun t e1q=>?_;subst e1q
   refine zea (as4 e' h2) fun xs e1q h3=>?_;subst e1q
   exact ⟨(_,t)::xs,rfl,by rw [List.map_cons,h3]⟩
theorem aa1 {V:List Addr} {h:Heap}:∀ {l:List D} {is:List Str} {vs:List Value},bv l = some is→f0 V io h l vs→∃ xs:List (Str × Tok),vs = strValues xs∧xs.map (·.1) = is
 | [],is,vs,e,x=>by
   replace e:=Option.some.inj (show some [] = some is from e)
   replace x:vs = []:=x
   subst e x
   exact ⟨[],rfl,rfl⟩
 | d::r,is,vs,e,x=>by
   induction d using D.casesOn<;>first | exact a8 e | skip
   refine zea (Option.map_eq_some_iff.mp (show (bv r).map (_::·) = some is from e)) fun is' e' e2q=>?_;clear e;subst e2q
   obtain ⟨v,r',rfl,h1,h2⟩:=f0.cons x
   refine zae (Has.str h1) fun _ t e2q=>?_;subst e2q
   refine zea (aa1 e' h2) fun xs e1q h3=>?_;subst e1q
   exact ⟨(_,t)::xs,rfl,by rw [List.map_cons,h3]⟩
theorem wz {V:List Addr} {h:Heap}:∀ (xs:List (Str × Tok)),(∀ p∈xs,p.1.length≤lim)→f0 V io h (xs.map fun p=>D.str p.1) (strValues xs)
 | [],_=>rfl
 | p::r,hl=>by
   exact show Exists _ from ⟨_,_,rfl,show _∧Exists _ from ⟨hl p (.head _),_,rfl⟩,wz r fun q hq=>hl q (.tail _ hq)⟩
theorem so {io:HI} {g:Sg} (k:Sok C Z io g s) {i:Nat} {t} (h:io[i]? = some t):∃ ps,g[i]? = some ps:=by
 have h1:i < io.length:=(List.getElem?_eq_some_iff.mp h).1
 have h2:i < g.length:=k.st.len ▸ h1
 exact ⟨g[i],by simp [h2]⟩
theorem al7 {ys:List D} {r:D} (h:ys = [r]) {vs:List Value} {V:List Addr} {io:HI} {hp:Heap} (hv:f0 V io hp ys vs):∃ v,vs = [v]∧Has V io hp r v:=by
 subst h
 obtain ⟨v,r,rfl,h1,rfl⟩:=f0.cons hv
 exact ⟨v,rfl,h1⟩
inductive cm1 (g:Sg) (r:D × Sg):List D→Prop
 | str (x:Str) (h:some (D.int x.length,g) = some r):cm1 g r [.str x]
 | lst (l:List D) (h:some (D.int l.length,g) = some r):cm1 g r [.lst l]
theorem cq9 {ys:List D} {g:Sg} {r:D × Sg} (h:cm4 ys g = some r):cm1 g r ys:=by
 rcases ys with _ | ⟨d,l⟩
 · exact a8 h
 induction l using List.casesOn with
 | nil=>induction d using D.casesOn<;>first | exact a8 h | exact .str _ h | exact .lst _ h
 | cons e l=>induction d using D.casesOn<;>exact a8 h
theorem cl6 {S:Option ae} {ys:List D} {g:Sg} {r:D × Sg} (h:fnC S ys g = some r):∃ s,S = some s∧s ys g = some r:=by
 induction S using Option.casesOn with
 | none=>exact a8 h
 | some s=>exact ⟨s,rfl,h⟩
set_option tactic.hygienic true in
theorem ao9 {ys:List D} {d:D} {g':Sg} (h:cm4 ys g = some (d,g')) (hk:Sok C Z io g s) {vs:List Value} (hv:f0 (VV C io Z) io s.heap ys vs) :
   wpAny (model C.prog C.w) A (call (.builtin "len") vs) (ff C Z io s d g') noE s:=by
 have hlm:lim = 1000000:=rfl
 have hl:=cq9 h
 clear h
 induction hl using cm1.casesOn<;>rename_i h<;>(apply i2 h)<;>(refine zea (al7 rfl hv) fun v e1q hx=>?_;subst e1q)
 · refine zae (Has.str hx) fun hl t e2q=>?_;subst e2q
   exact P.len_str (by lia) (post_pure hk ⟨j6 _,by exact ⟨_,rfl⟩⟩)
 · obtain ⟨hl,a,ws,rfl,_,ht,hs⟩:=Has.lst hx
   have hn:=f0.length hs
   simp only [Array.length_toList] at hn
   refine PyProof.Rows.len_list ht.isList (by lia) (post_pure hk ⟨j6 _,?_⟩)
   exact ⟨_,by rw [hn]⟩
end
end Mine
namespace Mine
variable {C:Cst}
section
variable {lv:Nat} {A:Around} {s:Shared} {Z:List Addr} {io:HI} {kd:Kd} {env:Env} {ro:Ro} {g:Sg} {T:Tbl}
inductive az6 (up:Bool) (g:Sg) (r:D × Sg) (ys:List D):Prop
 | lst (l:List D) (is:List Int) (i:Int) (hy:ys = [.lst l]) (hi:jm l = some is) (ht:ba7 up is = some i) (e:r = (.int i,g)):az6 up g r ys
 | two (a b:Int) (hy:ys = [.int a,.int b]) (e:r = (.int (if up then (if b > a then b else a) else (if b < a then b else a)),g)):az6 up g r ys
theorem by9 {up:Bool} {ys:List D} {g:Sg} {r:D × Sg} (h:ba2 up ys g = some r):az6 up g r ys:=by
 rcases ys with _ | ⟨d,l⟩
 · exact a8 h
 induction l using List.casesOn with
 | nil =>
   induction d using D.casesOn with
   | lst l =>
     refine zea (Option.map_eq_some_iff.mp (show ((jm l).bind (ba7 up)).map (fun i=>(D.int i,g)) = some r from h)) fun i h1 h2=>?_
     refine zea (Option.bind_eq_some_iff.mp h1) fun is h3 h4=>?_
     exact .lst l is i rfl h3 h4 h2.symm
   | _=>exact a8 h
 | cons e l =>
   induction d using D.casesOn with
   | int a =>
     induction e using D.casesOn with
     | int b =>
       induction l using List.casesOn with
       | nil=>exact .two a b rfl (Option.some.inj h).symm
       | cons e l=>exact a8 h
     | _=>exact a8 h
   | _=>exact a8 h
theorem ca7 {xs:Array (Int × Tok)} {is:List Int} (h:xs.toList.map (·.1) = is) {j:Nat} (hj:j < is.length):numAt xs j = is[j]:=by
 subst h
 rw [List.length_map] at hj
 unfold numAt
 rw [← Array.getElem?_toList,List.getElem?_eq_getElem hj,List.getElem_map];rfl
theorem sx {up:Bool} {ys:List D} {d:D} {g':Sg} (h:ba2 up ys g = some (d,g')) (ha:AOk A lv) (hk:Sok C Z io g s) {vs:List Value} (hv:f0 (VV C io Z) io s.heap ys vs) :
   wpAny (model C.prog C.w) A (call (.builtin (if up then "max" else "min")) vs) (ff C Z io s d g') noE s:=by
 have hb:=by9 h
 clear h
 induction hb using az6.casesOn with
 | two a b hy e =>
   refine za (Prod.mk.inj e) fun e0q e1q=>?_;subst e0q;subst e1q
   subst hy
   refine ze2a2 hv fun v1 r1 e1 h1 h2=>?_;subst e1
   refine ze2a2 h2 fun v2 r2 e2 q2 h3=>?_;subst e2
   replace h3:r2 = []:=h3
   subst h3
   refine ze (Has.int h1) fun t e=>?_;subst e
   refine ze (Has.int q2) fun u e=>?_;subst e
   have fin:∀ {v:Value} {i:Int} {h':Heap} {tk:Nat},(∀ c o,s.heap.get? c = some o→h'.get? c = some o)→(∃ t,v = .int i t)→ff C Z io s (.int i) g' v { s with heap:=h',toks:=tk }:=fun hk hi=>post_pure ‹_› ⟨⟨_,_,rfl,hk⟩,hi⟩
   induction up using Bool.casesOn with
   | true=>exact max_two_ints ha.hh fun h' tk hk'=>fin hk' (by by_cases hc:b > a<;>simp [hc])
   | false=>exact min_two_ints ha.hh fun h' tk hk'=>fin hk' (by by_cases hc:b < a<;>simp [hc])
 | lst l is i hy hi ht e =>
 refine za (Prod.mk.inj e) fun e0q e1q=>?_;subst e0q;subst e1q
 refine zea (al7 hy hv) fun v e1q hx=>?_;subst e1q
 obtain ⟨hl,a,ws,rfl,_,hp,hs⟩:=Has.lst hx
 refine zea (as4 hi hs) fun xs he hxs=>?_
 have hws:ws = intItems xs.toArray:=by
   have e0:ws.toList.toArray = ws:=Array.toArray_toList
   rw [← e0,he];simp [intItems]
 have hl':s.heap.IsList a (intItems xs.toArray):=hws ▸ hp.isList
 have hlen:is.length = xs.length:=by rw [← hxs,List.length_map]
 have hpos:0 < is.length:=by
   induction is using List.casesOn with
   | nil=>induction up using Bool.casesOn<;>exact a8 ht
   | cons _ _=>exact Nat.succ_pos _
 have na:∀ {j:Nat} (hj:j < is.length),numAt xs.toArray j = is[j]:=fun hj=>ca7 hxs hj
 have fin:∀ (k:Nat),k < is.length→is[k]? = some i→∀ v h' tk,(intItems xs.toArray)[k]? = some v→(∀ b o,s.heap.get? b = some o→h'.get? b = some o)→ff C Z io s (.int i) g' v { s with heap:=h',toks:=tk }:=fun k hk1 hk2 v h' tk hv hkk=>by
   refine ze (intItems_at hv) fun t e=>?_
   rw [na hk1] at e
   rw [List.getElem?_eq_getElem hk1] at hk2
   injection hk2 with hk2
   rw [hk2] at e
   exact post_pure hk ⟨⟨h',tk,rfl,hkk⟩,⟨t,e⟩⟩
 have hsz:xs.toArray.size - 1 < is.length:=by rw [List.size_toArray,← hlen];lia
 induction up using Bool.casesOn with
 | true =>
   refine max_intList ha.hh hl' (by rw [List.size_toArray,← hlen];exact hpos) (fin _ ?_ ?_)
   · exact Nat.lt_of_le_of_lt (argBest_gt _ _).1 hsz
   · have hk1:=Nat.lt_of_le_of_lt (argBest_gt (numAt xs.toArray) (xs.toArray.size - 1)).1 hsz
     rw [List.getElem?_eq_getElem hk1]
     have ht':=List.max?_eq_some_iff.mp (show is.max? = some i from ht)
     congr 1
     obtain ⟨j,hj,ej⟩:=List.getElem_of_mem ht'.1
     have h1:=(argBest_gt (numAt xs.toArray) (xs.toArray.size - 1)).2 j (by rw [List.size_toArray,← hlen];lia)
     rw [na hj,na hk1,ej] at h1
     exact Int.le_antisymm (ht'.2 _ (List.getElem_mem hk1)) h1
 | false =>
   refine min_intList ha.hh hl' (by rw [List.size_toArray,← hlen];exact hpos) (fin _ ?_ ?_)
   · exact Nat.lt_of_le_of_lt (argBest_lt _ _).1 hsz
   · have hk1:=Nat.lt_of_le_of_lt (argBest_lt (numAt xs.toArray) (xs.toArray.size - 1)).1 hsz
     rw [List.getElem?_eq_getElem hk1]
     have ht':=List.min?_eq_some_iff.mp (show is.min? = some i from ht)
     congr 1
     obtain ⟨j,hj,ej⟩:=List.getElem_of_mem ht'.1
     have h1:=(argBest_lt (numAt xs.toArray) (xs.toArray.size - 1)).2 j (by rw [List.size_toArray,← hlen];lia)
     rw [na hj,na hk1,ej] at h1
     exact Int.le_antisymm h1 (ht'.2 _ (List.getElem_mem hk1))
theorem ch7 {ys:List D} {g:Sg} {r:D × Sg} (h:cm5 ys g = some r):∃ i,ys = [.int i]∧i.natAbs.log2 < 1920∧j7 (Str.ofString (toString i)) = true∧r = (.str (Str.ofString (toString i)),g):=by
 rcases ys with _ | ⟨d,l⟩
 · exact a8 h
 induction l using List.casesOn with
 | nil =>
   induction d using D.casesOn with
   | int i =>
     refine za (j0 (c:=i.natAbs.log2 < 1920∧j7 (Str.ofString (toString i)) = true) h) fun hc h=>?_
     exact ⟨i,rfl,hc.1,hc.2,(Option.some.inj h).symm⟩
   | _=>exact a8 h
 | cons e l=>induction d using D.casesOn<;>exact a8 h
theorem aw0 {ys:List D} {d:D} {g':Sg} (h:cm5 ys g = some (d,g')) (hk:Sok C Z io g s) {vs:List Value} (hv:f0 (VV C io Z) io s.heap ys vs) :
   wpAny (model C.prog C.w) A (call (.type "str") vs) (ff C Z io s d g') noE s:=by
 refine zea3 (ch7 h) fun i hy h1 h2 e=>?_
 refine za (Prod.mk.inj e) fun e0q e1q=>?_;subst e0q;subst e1q
 refine zea (al7 hy hv) fun v e1q hx=>?_;subst e1q
 refine ze (Has.int hx) fun t e1q=>?_;subst e1q
 exact P.str_of_int h1 (post_pure hk ⟨j6 _,⟨by simpa [j7] using h2,_,rfl⟩⟩)
theorem bd9 (r:g9 C) {f:Str} {id:String} (hb:bootBuiltins f = some (.type id)) (hm:C.mg f = none) (hn:f≠"__name__") (hd:(f==("__debug__":Str)) = false) {p pos:Pos} {as:List Expr} {ys:List D} {g1 g':Sg} {d:D}
   (bb:as.all f5 = true) (hkd:kd f = some .globalImplicit) (he:m6 C kd Z io env ro s.heap) (hk:Sok C Z io g s)
   (hargs:∀ pos,wpAny (model C.prog C.w) A (spliced (backTo pos (starEach as env))) (qy C Z io s ys g1) noE s)
   (hcall:∀ io1 s1 vs,Sok C Z io1 g1 s1→f0 (VV C io1 Z) io1 s1.heap ys vs→wpAny (model C.prog C.w) A (call (.type id) vs) (ff C Z io1 s1 d g') noE s1) :
   wpAny (model C.prog C.w) A (eval (.Call (.Name f p) as [] pos) env) (ff C Z io s d g') noE s:=by
 refine PyProof.Rows.Call_ ?_ rfl
 refine Calls.Name_function_global he.fn (bg he hkd) (Calls.loadGlobal_builtin (env:=env) (by rw [he.gl];exact r.g.keeps hk.base) hm (by rw [he.bi];exact r.b.keeps hk.base) ((r.bi f hn).trans hb) ?_) hd
 refine callWith_type (fh as bb _ _) (l9 (v9 bb) ?_)
 refine a9 (hargs pos) fun vs s1 ⟨io1,x1,k1,hh⟩=>?_
 exact a9 (hcall io1 s1 vs k1 hh) fun v s2 h2=>h2.after x1
inductive cl4 (T:Tbl) (g:Sg) (r:D × Sg) (ys:List D):Prop
 | hdr (k:Nat) (n:Int) (g1:Sg) (S:ae) (e:ys = [.hdr k]) (hS:T.mt "__len__" = some S) (hs:S [.hdr k] g = some (.int n,g1)) (h0:0≤n) (h1:n≤1000000) (hr:r = (.int n,g1)):cl4 T g r ys
 | old (h:cm4 ys g = some r):cl4 T g r ys
theorem cb3 {d:D} {g:Sg} {r:D × Sg} (h:cl2 d g = some r):∃ n,d = .int n∧0≤n∧n≤1000000∧r = (.int n,g):=by
 induction d using D.casesOn with
 | int n =>
   refine za (j0 (c:=0≤n∧n≤1000000) h) fun hc h=>?_
   exact ⟨n,rfl,hc.1,hc.2,(Option.some.inj h).symm⟩
 | _=>exact a8 h
theorem ci4 {ys:List D} {r:D × Sg} (h:ct6 T ys g = some r):cl4 T g r ys:=by
 rcases ys with _ | ⟨d,l⟩
 · exact .old h
 induction l using List.casesOn with
 | nil =>
   induction d using D.casesOn with
   | hdr k =>
     refine ze2a (b8 (show c7 (fnC (T.mt "__len__") [.hdr k] g) cl2 = some r from h)) fun d g1 q1 q2=>?_
     refine zea (cl6 q1) fun S hS hs=>?_
     refine zea3 (cb3 q2) fun n e h0 h1 hr=>?_
     subst e
     exact .hdr k n g1 S rfl hS hs h0 h1 hr
   | _=>exact .old h
 | cons e l=>induction d using D.casesOn<;>exact .old h
theorem aj7 (tb:dh C lv T) {ys:List D} {d:D} {g':Sg} (h:ct6 T ys g = some (d,g')) (ha:AOk A lv) (hk:Sok C Z io g s) {vs:List Value} (hv:f0 (VV C io Z) io s.heap ys vs) :
   wpAny (model C.prog C.w) A (call (.builtin "len") vs) (ff C Z io s d g') noE s:=by
 induction ci4 h using cl4.casesOn with
 | old h=>exact ao9 h hk hv
 | hdr k n g1 S e hS hs h0 h1 hr =>
   refine za (Prod.mk.inj hr) fun e0q e1q=>?_;subst e0q;subst e1q
   subst e
   refine zea (al7 rfl hv) fun v e1q hx=>?_;subst e1q
   refine ze3a3 (tb.mt _ _ hS) fun a' o' fd jy hfd hcall hm=>?_
   refine zea (show ∃ t,io[k]? = some t∧v = .ref t.1 from hx) fun t ht e2q=>?_;subst e2q
   refine ze (so hk ht) fun ps hps=>?_
   have HH:=hk.st.at' _ t ps ht hps
   refine hm.len rfl A noE s t.1 t.2.1 t.2.2 hk.base ⟨HH.inst,HH.dict⟩ _ ?_
   refine a9 (hcall _ _ _ _ hs A.in1 Z io s _ ha.c1 hk ⟨_,_,rfl,hx,rfl⟩) fun v s1 ⟨io1,x1,k1,hh⟩=>?_
   refine ze (Has.int hh) fun t e=>?_
   refine ⟨n,t,e,h0,by lia,fun u k=>?_⟩
   exact ⟨io1,x1.trans C (Keeps.grow C (j6 _)),Keeps.sok C (j6 _) k1,⟨_,rfl⟩⟩
theorem bu4 {m:Str} {l ys:List D} {r:D × Sg} (h:cl8 m l ys g = some r):∃ y ts,m = "index"∧ys = [.str y]∧bv l = some ts∧rb ts y < ts.length∧r = (.int (rb ts y),g):=by
 rcases ys with _ | ⟨d,e⟩
 · exact a8 h
 induction e using List.casesOn with
 | nil =>
   induction d using D.casesOn with
   | str y =>
     refine za (j0 (c:=(m==("index":Str)) = true) h) fun hm h=>?_
     induction ht:bv l using Option.casesOn with
     | none=>rw [ht] at h;exact a8 h
     | some ts =>
       rw [ht] at h
       refine za (j0 (c:=rb ts y < ts.length) h) fun hc h=>?_
       exact ⟨y,ts,eq_of_beq hm,rfl,rfl,hc,(Option.some.inj h).symm⟩
   | _=>exact a8 h
 | cons e l=>induction d using D.casesOn<;>exact a8 h
noncomputable def isS (y:Str):Value→Bool
 | .str x _=>x==y
 | _=>false
theorem av5 {m:Str} {l ys:List D} {d:D} {g':Sg} (h:cl8 m l ys g = some (d,g')) (hk:Sok C Z io g s) {a:Addr} {ws:Array Value} (hp:s.heap.PlainList a ws) (hs:f0 (VV C io Z) io s.heap l ws.toList) (hl:l.length≤lim) {vs:List Value} (hv:f0 (VV C io Z) io s.heap ys vs) :
   wpAny (model C.prog C.w) A (call (.builtin "list.index") (.ref a::vs)) (ff C Z io s d g') noE s:=by
 refine ze2a4 (bu4 h) fun y ts hm hy ht hlt e=>?_
 refine za (Prod.mk.inj e) fun e0q e1q=>?_;subst e0q;subst e1q
 refine zea (al7 hy hv) fun v e1q hx=>?_;subst e1q
 refine zae (Has.str hx) fun _ t e2q=>?_;subst e2q
 refine zea (aa1 ht hs) fun xs he hxs=>?_
 refine ze hp fun n ho=>?_
 have hlen:ts.length = ws.size:=by rw [← hxs,List.length_map,← Array.length_toList,he,strValues,List.length_map]
 have hat:∀ (j:Nat) (h1:j < ws.size) (h2:j < ts.length),isS y ws[j] = (ts[j]==y):=fun j h1 h2=>by
   have h3:ws.toList[j]? = some ws[j]:=by rw [Array.getElem?_toList,Array.getElem?_eq_getElem h1]
   subst hxs
   rw [he,strValues,List.getElem?_map] at h3
   rw [List.length_map] at h2
   rw [List.getElem?_eq_getElem h2] at h3
   injection h3 with h3
   rw [← h3,List.getElem_map];rfl
 refine call_meets PySem.F.slot_list_index ⟨_,ho,rfl⟩ PySem.F.entry_list_index (PySem.F.args_list_index_2 _ _)
   (SeqAt.list_indexAt a ws n none #[] (.str y t) (isS y) (rb ts y) (hlen ▸ hlt) ?_ ?_ ?_) ⟨ho,fun w hw=>?_,?_⟩
 · have h1:=f0.length hs
   rw [Array.length_toList] at h1
   have:lim = 1000000:=rfl
   lia
 · rw [hat _ (hlen ▸ hlt) hlt]
   exact List.findIdx_getElem (p:=fun t=>t==y) (w:=hlt)
 · intro j h1 h2
   rw [hat j h1 (hlen ▸ h1)]
   exact List.not_of_lt_findIdx h2
 · refine zea (List.mem_map.mp (show w∈xs.map _ from by rw [← Array.mem_toList_iff,he] at hw;exact hw)) fun q _ e=>?_
   subst e
   exact SeqAt.EqAt.str_str _ _ _ _
 · exact post_pure hk ⟨j6 _,⟨_,rfl⟩⟩
end
end Mine
namespace Mine
variable {C:Cst}
section
variable {lv:Nat} {A:Around} {s:Shared} {Z:List Addr} {io:HI} {kd:Kd} {env:Env} {ro:Ro} {g:Sg} {T:Tbl}
theorem y5 {o:Expr} {m:Str} (h:cg o = true) (env:Env) (whole:Sem Value):attributeBase o m env whole = whole:=by
 induction o using Expr.casesOn with
 | Call f as kw pos =>
   induction f using Expr.casesOn with
   | Name id p1 =>
     induction as using List.casesOn with
     | cons _ _=>rfl
     | nil =>
       induction kw using List.casesOn with
       | cons _ _=>rfl
       | nil =>
         show ite ((id != ("super":Str)||_||_||_) = true) _ _ = _
         rw [show (id != ("super":Str)) = true from h]
         exact if_pos rfl
   | _=>rfl
 | _=>rfl
theorem uj {o:Expr} {m:Str} {q p:Pos} {as:List Expr} {x:D} {ys:List D} {g1 g2 g':Sg} {d:D}
   (hns:cg o = true) (hline:(q.endLine==p.line) = true) (hlen:as.length < 20) (bb:as.all f5 = true)
   (ho:wpAny (model C.prog C.w) A (eval o env) (ff C Z io s x g1) noE s)
   (hargs:∀ io1 s1 pos,q0 C io io1 s s1→Sok C Z io1 g1 s1→wpAny (model C.prog C.w) A (spliced (backTo pos (starEach as env))) (qy C Z io1 s1 ys g2) noE s1)
   (f:Value) (hf:(∃ id,f = .builtin id)∨∃ a o fd,f = .ref a∧C.H.get? a = some o∧o.data = .func fd)
   (jy:∀ io1 (s1:Shared) vx,Sok C Z io1 g1 s1→Has (VV C io1 Z) io1 s1.heap x vx→∀ pl (Q:Value × List Value→Shared→Prop),Q (f,[vx]) s1→wpAny (model C.prog C.w) A (getMethod vx m pl) Q noE s1)
   (hcall:∀ io1 (s1:Shared) vx vs,Sok C Z io1 g2 s1→Has (VV C io1 Z) io1 s1.heap x vx→f0 (VV C io1 Z) io1 s1.heap ys vs→wpAny (model C.prog C.w) A (call f (vx::vs)) (ff C Z io1 s1 d g') noE s1) :
   wpAny (model C.prog C.w) A (eval (.Call (.Attribute o m q) as [] p) env) (ff C Z io s d g') noE s:=by
 rw [arm_eval_Call,y5 hns]
 refine wpAny_bind (a9 ho fun vx s1 ⟨io1,x1,k1,hh⟩=>?_)
 refine wpAny_bind (wpAny_standAt ?_)
 have hfew:((backTo p (starEach as env)).all (fun x=>!x.1)&&(backToKw p (keywordEach [] env)).all (fun x=>x.1.isSome)
     && decide (as.length + ([]:List Keyword).length + (if ([]:List (Option Str × Sem Value)).isEmpty then 0 else 1) < 30)) = true:=by
   rw [zx as bb]
   show (true&&decide (as.length + 0 + 0 < 30)) = true
   rw [Bool.true_and,decide_eq_true_eq];lia
 have hform:methodCallForm (as.length + ([]:List Keyword).length) (backTo p (starEach as env)) (backToKw p (keywordEach [] env)) = true:=hfew
 have hpos:methodCallPos true o env q p = pure p:=by unfold methodCallPos;simp [hline]
 unfold methodCall
 rw [hform]
 refine wpAny_bind (wpAny_holding (jy io1 s1 vx k1 hh _ _ ?_))
 refine wpAny_bind (wpAny_of_eq hpos ?_)
 have hargs':wpAny (model C.prog C.w) A (evalArgs f true (backTo p (starEach as env)) []) (fun a s2=>(∃ vs,a = ⟨vs,[]⟩∧qy C Z io1 s1 ys g2 vs s2)) noE s1 :=
   l9 (v9 bb) (a9 (hargs io1 s1 p x1 k1) fun vs s2 h2=>⟨vs,rfl,h2⟩)
 show wpAny (model C.prog C.w) A (callWith p f [vx] (backTo p (starEach as env)) []) _ _ s1
 rcases hf with ⟨id,rfl⟩ | ⟨a,o',fd,rfl,hget',hfd⟩
 · refine Calls.callWith_builtin (fh as bb _ _) (a9 hargs' ?_)
   rintro _ s2 ⟨vs,rfl,io2,x2,k2,hh2⟩
   exact a9 (hcall io2 s2 vx vs k2 (x2.has C hh) hh2) fun v s3 h3=>h3.after (x1.trans C x2)
 · refine Calls.callWith_function (o:=o') (fd:=fd) (a9 hargs' ?_)
   rintro _ s2 ⟨vs,rfl,io2,x2,k2,hh2⟩
   exact ⟨⟨k2.base _ _ hget',hfd⟩,a9 (hcall io2 s2 vx vs k2 (x2.has C hh) hh2) fun v s3 h3=>h3.after (x1.trans C x2)⟩
theorem by1 {m:Str} {id:String} (slot:Slot "str" m id) (hty:typeOf (.builtin id) = pure (.type "method_descriptor")) {x:Str} {t:Tok} {pl:Sem Bool} {Q:Value × List Value→Shared→Prop} {E:Value→Shared→Prop} (h:Q (.builtin id,[.str x t]) s) :
   wpAny (model C.prog C.w) A (getMethod (.str x t) m pl) Q E s :=
 getMethod_builtin (typeIs_str _ _ _) F.plainAttrs_str slot hty (fun J e=>nomatch e) h
inductive bj8 (m:Str) (x:Str) (g:Sg) (r:D × Sg):List D→Prop
 | lower (hm:m = "lower") (hok:j7 (Txt.lower x) = true) (hr:r = (.str (Txt.lower x),g)):bj8 m x g r []
 | upper (hm:m = "upper") (hok:j7 (Txt.upper x) = true) (hr:r = (.str (Txt.upper x),g)):bj8 m x g r []
 | join (l:List D) (ts:List Str) (hm:m = "join") (hts:bv l = some ts) (hj:JoinOk x ts = true) (hok:j7 (Txt.join x ts) = true) (hr:r = (.str (Txt.join x ts),g)):bj8 m x g r [.lst l]
 | split (y:Str) (hm:m = "split") (hy:(y.length==0) = false) (hlen:(Txt.split x y).length≤lim) (bb:(Txt.split x y).all j7 = true) (hr:r = (.lst ((Txt.split x y).map .str),g)):bj8 m x g r [.str y]
 | index (y:Str) (i:Nat) (l:List Nat) (hm:m = "index") (ho:Builtin.Str.occurrences x y 0 x.length 1 = i::l) (hr:r = (.int i,g)):bj8 m x g r [.str y]
 | count (y:Str) (hm:m = "count") (hr:r = (.int (Txt.count x y),g)):bj8 m x g r [.str y]
theorem bz2 {x:Str} {g:Sg} {r:D × Sg} (h:cj6 x g = some r):j7 x = true∧r = (.str x,g):=by
 refine za (j0 h) fun h1 h=>?_
 exact ⟨h1,(Option.some.inj h).symm⟩
theorem bz9 {x:Str} {o:Option (List Str)} {g:Sg} {r:D × Sg} (h:ak7 x o g = some r):∃ ts,o = some ts∧JoinOk x ts = true∧j7 (Txt.join x ts) = true∧r = (.str (Txt.join x ts),g):=by
 induction o using Option.casesOn with
 | none=>exact a8 h
 | some ts =>
   refine za (j0 (c:=(JoinOk x ts&&j7 (Txt.join x ts)) = true) h) fun h1 h=>?_
   rw [Bool.and_eq_true] at h1
   exact ⟨ts,rfl,h1.1,h1.2,(Option.some.inj h).symm⟩
theorem bk2 {l:List Nat} {g:Sg} {r:D × Sg} (h:ag7 l g = some r):∃ i t,l = i::t∧r = (.int i,g):=by
 induction l using List.casesOn with
 | nil=>exact a8 h
 | cons i t=>exact ⟨i,t,rfl,(Option.some.inj h).symm⟩
theorem ct0 {m x:Str} {ys:List D} {g:Sg} {r:D × Sg} (h:cl9 m x ys g = some r):bj8 m x g r ys:=by
 induction ys using List.casesOn with
 | nil =>
   change (if (m==("lower":Str)) = true then cj6 (Txt.lower x) g else if (m==("upper":Str)) = true then cj6 (Txt.upper x) g else none) = some r at h
   by_cases c:(m==("lower":Str)) = true
   · rw [if_pos c] at h
     refine za (bz2 h) fun h1 h2=>?_
     exact .lower (eq_of_beq c) h1 h2
   rw [if_neg c] at h
   refine za (j0 h) fun c h=>?_
   refine za (bz2 h) fun h1 h2=>?_
   exact .upper (eq_of_beq c) h1 h2
 | cons y l =>
   induction l using List.casesOn with
   | cons z l=>induction y using D.casesOn<;>exact a8 h
   | nil =>
     induction y using D.casesOn with
     | lst l =>
       refine za (j0 (c:=(m==("join":Str)) = true) h) fun c h=>?_
       refine zea3 (bz9 h) fun ts h1 h2 h3 h4=>?_
       exact .join _ _ (eq_of_beq c) h1 h2 h3 h4
     | str y =>
       change (if (m==("split":Str)) = true then ai7 x y g else if (m==("index":Str)) = true then ag7 (Builtin.Str.occurrences x y 0 x.length 1) g else if (m==("count":Str)) = true then some (.int (Txt.count x y),g) else none) = some r at h
       by_cases c:(m==("split":Str)) = true
       · rw [if_pos c] at h
         refine za (z8 h) fun h1 h=>?_
         refine za (j0 h) fun h2 h=>?_
         exact .split _ (eq_of_beq c) h1 h2.1 h2.2 (Option.some.inj h).symm
       rw [if_neg c] at h
       by_cases c:(m==("index":Str)) = true
       · rw [if_pos c] at h
         refine ze2a (bk2 h) fun i t h1 h2=>?_
         exact .index _ _ _ (eq_of_beq c) h1 h2
       rw [if_neg c] at h
       refine za (j0 h) fun c h=>?_
       exact .count _ (eq_of_beq c) (Option.some.inj h).symm
     | _=>exact a8 h
theorem zn {y:Str} {Z:List Addr} {io:HI} {s:Shared} {vs:List Value} (hv:f0 (VV C io Z) io s.heap [.str y] vs):y.length≤lim∧∃ u,vs = [.str y u]:=by
 refine ze2a2 hv fun v r e2q e3q e4q=>?_;clear hv;subst e2q;obtain ⟨hl,u,rfl⟩:=e3q;subst e4q
 exact ⟨hl,u,rfl⟩
theorem aq7 {m:Str} {x:Str} {ys:List D} {d:D} {g':Sg} (h:cl9 m x ys g = some (d,g')) :
   ∃ id,Slot "str" m id∧typeOf (.builtin id) = pure (.type "method_descriptor")∧g' = g ∧
   ∀ A Z io (s:Shared) t vs,AOk A lv→Sok C Z io g s→x.length≤lim→f0 (VV C io Z) io s.heap ys vs→wpAny (model C.prog C.w) A (call (.builtin id) (.str x t::vs)) (ff C Z io s d g) noE s:=by
 have hlm:lim = 1000000:=rfl
 have hsl:sizeLine = 2 ^ 24:=sizeLine_eq
 have hv:=ct0 h
 clear h
 induction hv using bj8.casesOn with
 | lower hm hok hr =>
   subst hm
   refine za (Prod.mk.inj hr.symm) fun e0q e1q=>?_;subst e0q;subst e1q
   simp only [j7,decide_eq_true_eq] at hok
   refine ⟨_,F.slot_str_lower,by kernel_rfl,rfl,fun A Z io s t vs ha hk hx hv=>?_⟩
   subst hv
   exact SC.lower (by simp only [Builtin.Str.tooLong,decide_eq_false_iff_not];lia) (post_pure hk ⟨j6 _,by exact ⟨hok,_,rfl⟩⟩)
 | upper hm hok hr =>
   subst hm
   refine za (Prod.mk.inj hr.symm) fun e0q e1q=>?_;subst e0q;subst e1q
   simp only [j7,decide_eq_true_eq] at hok
   refine ⟨_,F.slot_str_upper,by kernel_rfl,rfl,fun A Z io s t vs ha hk hx hv=>?_⟩
   subst hv
   exact SC.upper (by simp only [Builtin.Str.tooLong,decide_eq_false_iff_not];lia) (post_pure hk ⟨j6 _,by exact ⟨hok,_,rfl⟩⟩)
 | join l ts hm hts hj hok hr =>
   subst hm
   refine za (Prod.mk.inj hr.symm) fun e0q e1q=>?_;subst e0q;subst e1q
   simp only [j7,decide_eq_true_eq] at hok
   refine ⟨_,F.slot_str_join,by kernel_rfl,rfl,fun A Z io s t vs ha hk hx hv=>?_⟩
   refine ze2a2 hv fun v r e2q e3q e4q=>?_;clear hv;subst e2q;obtain ⟨_,a,ws,rfl,_,ht,hs⟩:=e3q;subst e4q
   refine zea (aa1 hts hs) fun xs he hxs=>?_
   have e0:ws.toList.toArray = ws:=Array.toArray_toList
   have hl':s.heap.IsList a (strValues xs).toArray:=by rw [← he,e0];exact ht.isList
   exact SC.join hl' hxs hj fun t' k=>post_pure hk ⟨j6 _,by exact ⟨hok,_,rfl⟩⟩
 | index y i l hm ho hr =>
   subst hm
   refine za (Prod.mk.inj hr.symm) fun e0q e1q=>?_;subst e0q;subst e1q
   refine ⟨_,F.slot_str_index,by kernel_rfl,rfl,fun A Z io s t vs ha hk hx hv=>?_⟩
   refine zae (zn hv) fun hyl u e2q=>?_;subst e2q
   exact SC.index ho (post_pure hk ⟨j6 _,by exact ⟨_,rfl⟩⟩)
 | count y hm hr =>
   subst hm
   refine za (Prod.mk.inj hr.symm) fun e0q e1q=>?_;subst e0q;subst e1q
   refine ⟨_,F.slot_str_count,by kernel_rfl,rfl,fun A Z io s t vs ha hk hx hv=>?_⟩
   refine zae (zn hv) fun hyl u e2q=>?_;subst e2q
   exact SC.count (post_pure hk ⟨j6 _,by exact ⟨_,rfl⟩⟩)
 | split y hm hy' hlen bb hr =>
   subst hm
   refine za (Prod.mk.inj hr.symm) fun e0q e1q=>?_;subst e0q;subst e1q
   refine ⟨_,F.slot_str_split,by kernel_rfl,rfl,fun A Z io s t vs ha hk hx hv=>?_⟩
   refine zae (zn hv) fun hyl u e2q=>?_;subst e2q
   have fin:∀ (l:List (Str × Tok)) (k:Nat),l.map (·.1) = Txt.split x y→ff C Z io s (.lst ((Txt.split x y).map .str)) g (.ref s.heap.objs.size) { s with toks:=k,heap:=s.heap.push { cls:=.type "list",data:=.seq (strValues l).toArray } }:=by
     intro l k hl
     have hb:∀ p∈l,p.1.length≤lim:=fun p hp=>by
       have:p.1∈Txt.split x y:=hl ▸ List.mem_map_of_mem hp
       have:=List.all_eq_true.mp bb _ this
       simpa [j7] using this
     have e1:(Txt.split x y).map D.str = l.map fun p=>D.str p.1:=by rw [← hl,List.map_map];rfl
     rw [e1]
     refine post_pure hk (dz hk (n:=0) (tk:=k) ?_ (wz l hb))
     have:=congrArg List.length hl
     simp only [List.length_map] at this ⊢;lia
   induction h1:(decide (x.length < y.length)||decide (Builtin.Str.strKind x < Builtin.Str.strKind y)) using Bool.casesOn
   · induction hf:(Builtin.Str.occurrences x y 0 x.length (x.length + 1)).isEmpty using Bool.casesOn
     · have hsp:Txt.split x y = Builtin.Str.partsBetween x (Builtin.Str.occurrences x y 0 x.length (x.length + 1)) y.length:=(if_neg (ne_true_of_eq_false h1)).trans (if_neg (ne_true_of_eq_false hf))
       refine call_meets F.slot_str_split (typeIs_str _ _ _) F.entry_str_split (F.args_str_split_2 _ _) (meets_str_split_sep x y t u h1 hy' hf (by lia) (by rw [← hsp];lia)) ?_
       show wants (ff C Z io s _ g) noE _ { s with toks:=_,heap:=s.heap.push { cls:=.type "list",data:=.seq (strsFrom s.toks (Builtin.Str.partsBetween x (Builtin.Str.occurrences x y 0 x.length (x.length + 1)) y.length)).toArray } }
       rw [strsFrom_eq]
       exact fin (numbered s.toks _) _ ((numbered_texts _ _).trans hsp.symm)
     · exact call_meets F.slot_str_split (typeIs_str _ _ _) F.entry_str_split (F.args_str_split_2 _ _) (meets_str_split_not_found x y t u h1 hy' hf)
         (fin [(x,t)] s.toks ((if_neg (ne_true_of_eq_false h1)).trans (if_pos hf)).symm)
   · exact call_meets F.slot_str_split (typeIs_str _ _ _) F.entry_str_split (F.args_str_split_2 _ _) (meets_str_split_cannot_occur x y t u h1)
       (fin [(x,t)] s.toks (if_pos h1).symm)
end
end Mine
end
section
open PySem
set_option backward.match.sparseCases true
namespace Mine
variable {C:Cst}
structure aw (F:List Addr) (s s':Shared):Prop where
 same:∃ h' tk,s' = { s with heap:=h',toks:=tk }
 keep:∀ b o,s.heap.get? b = some o→b∉F→s'.heap.get? b = some o
 alive:∀ b∈F,(∃ o,s.heap.get? b = some o)→∃ o,s'.heap.get? b = some o
theorem aw.same_but {a:Addr} {s:Shared} {h':Heap} {tk:Nat} (x:Heap.SameBut a s.heap h') (ha:∃ o,h'.get? a = some o):aw [a] s { s with heap:=h',toks:=tk } :=
 ⟨⟨h',tk,rfl⟩,fun b o e hb=>by simp only [List.mem_singleton] at hb;exact (x.2 b hb).trans e,fun b hb J=>by simp only [List.mem_singleton] at hb;subst hb;exact ha⟩
section
variable {Z:List Addr} {io io':HI} {g:Sg} {F:List Addr} {s₁ s s':Shared}
theorem aw.has (x:aw F s s') (hF:∀ f∈F,f∈Z) {d:D} {v:Value} (h:Has (VV C io Z) io s.heap d v):Has (VV C io Z) io s'.heap d v :=
 Has.mono (fun a o e ha=>⟨x.keep a o e fun hm=>ha (by simp only [VV,List.mem_append];exact .inr (hF a hm)),ha⟩) (fun J J e=>e) h
theorem aw.hasL (x:aw F s s') (hF:∀ f∈F,f∈Z) {d:List D} {v:List Value} (h:f0 (VV C io Z) io s.heap d v):f0 (VV C io Z) io s'.heap d v :=
 f0.mono (fun a o e ha=>⟨x.keep a o e fun hm=>ha (by simp only [VV,List.mem_append];exact .inr (hF a hm)),ha⟩) (fun J J e=>e) h
theorem aw.sok (x:aw F s s') (hF:∀ f∈F,f∈Z) (k:Sok C Z io g s):Sok C Z io g s' where
 base:=fun a o e=>x.keep a o (k.base a o e) fun hm=>by
   have:=(k.zd a (hF a hm)).2.2
   rw [e] at this;injection this
 st:=by
   have nadr:∀ b∈adr io,b∉F:=fun b hb hm=>(k.zd b (hF b hm)).2.1 hb
   refine ⟨k.st.len,fun i t ps h1 h2=>?_,k.st.nodup,k.st.below,C.vtKeep _ _ _ _ k.st.vt (fun b hb o e=>x.keep b o e fun hm=>(k.zd b (hF b hm)).1 hb) (fun a o J e J ha=>⟨x.keep a o e fun hm=>ha (by simp only [VV,List.mem_append];exact .inr (hF a hm)),ha⟩)⟩
   have HH:=k.st.at' i t ps h1 h2
   have hm:=au (List.mem_of_getElem? h1)
   refine ⟨x.keep _ _ HH.inst (nadr _ hm.1),?_,?_,HH.len⟩
   · refine ze3 HH.dict fun a b c e=>?_
     exact ⟨a,b,c,x.keep _ _ e (nadr _ hm.2.1)⟩
   · refine zea HH.list fun vs e1q hl=>?_;obtain ⟨n,e⟩:=e1q
     exact ⟨vs,⟨n,x.keep _ _ e (nadr _ hm.2.2)⟩,f0.mono (fun a o e ha=>⟨x.keep a o e fun hm=>ha (by simp only [VV,List.mem_append];exact .inr (hF a hm)),ha⟩) (fun J J e=>e) hl⟩
 zal:=fun z hz=>by
   refine ze (k.zal z hz) fun o e=>?_
   by_cases hf:z∈F
   · exact x.alive z hf ⟨o,e⟩
   · exact ⟨o,x.keep z o e hf⟩
 zd:=k.zd
 val:=fun z hz=>by
   refine ze (k.val z hz) fun o e=>?_
   exact ⟨o,x.keep z o e fun hm=>(k.zd z (hF z hm)).1 hz⟩
theorem q0.touch (x:q0 C io io' s₁ s) (t:aw F s s') (hf:∀ f∈F,s₁.heap.get? f = none):q0 C io io' s₁ s' where
 same:=by
   refine ze2 x.same fun h1 t1 e1=>?_
   refine ze2 t.same fun h2 t2 e2=>?_
   exact ⟨h2,t2,by rw [e2,e1]⟩
 keep:=fun b o e hv ha=>t.keep b o (x.keep b o e hv ha) fun hm=>by rw [hf b hm] at e;injection e
 alive:=fun b o e=>by
   refine ze (x.alive b o e) fun o' e'=>?_
   by_cases hm:b∈F
   · exact t.alive b hm ⟨o',e'⟩
   · exact ⟨o',t.keep b o' e' hm⟩
 pre:=x.pre
 fresh:=x.fresh
theorem Sok.more (k:Sok C Z io g s) {z:Addr} (hz:s.heap.get? z = none) {s':Shared} (kp:Keeps s s') (ha:∃ o,s'.heap.get? z = some o):Sok C (z::Z) io g s':=by
 have k':=Keeps.sok C kp k
 refine ⟨k'.base,⟨k'.st.len,fun i t ps h1 h2=>?_,k'.st.nodup,k'.st.below,C.vtKeep _ _ _ _ k.st.vt (fun b J o e=>kp.elim fun h' q=>q.elim fun tk q=>q.1 ▸ q.2 b o e) (fun a o J e J ha=>⟨kp.elim fun h' q=>q.elim fun tk q=>q.1 ▸ q.2 a o e,fun hm=>by
   simp only [VV,List.mem_append,List.mem_cons] at hm ha
   rcases hm with hm | rfl | hm
   · exact ha (.inl hm)
   · rw [hz] at e;injection e
   · exact ha (.inr hm)⟩)⟩,fun y hy=>?_,fun y hy=>?_,k'.val⟩
 · have HH:=k.st.at' i t ps h1 h2
   have HH':=k'.st.at' i t ps h1 h2
   refine ⟨HH'.inst,HH'.dict,?_,HH.len⟩
   refine zea HH.list fun vs e1q hl=>?_;obtain ⟨n,e⟩:=e1q
   refine ze2a kp fun h' tk e2q hk=>?_;clear kp;subst e2q
   refine ⟨vs,⟨n,hk _ _ e⟩,f0.mono (fun a o e ha=>⟨hk a o e,fun hm=>?_⟩) (fun J J e=>e) hl⟩
   simp only [VV,List.mem_append,List.mem_cons] at hm ha
   rcases hm with hm | rfl | hm
   · exact ha (.inl hm)
   · rw [hz] at e;injection e
   · exact ha (.inr hm)
 · rcases List.mem_cons.mp hy with rfl | hy
   · exact ha
   · exact k'.zal y hy
 · rcases List.mem_cons.mp hy with rfl | hy
   · refine ⟨fun hm=>?_,fun hm=>?_,?_⟩
     · refine ze (k.val _ hm) fun o e=>?_;rw [hz] at e;injection e
     · refine ze (k.st.alive C _ hm) fun o e=>?_;rw [hz] at e;injection e
     · induction e:C.H.get? y using Option.casesOn with
       | none=>rfl
       | some o=>have:=k.base _ _ e;rw [hz] at this;injection this
   · exact k.zd y hy
theorem Sok.more_many {ws:List Addr} (k:Sok C Z io g s) {s':Shared} (kp:Keeps s s') (hw:∀ w∈ws,s.heap.get? w = none∧∃ o,s'.heap.get? w = some o):Sok C (ws++Z) io g s':=by
 induction ws with
 | nil=>exact Keeps.sok C kp k
 | cons w r ih =>
   have k1:=ih fun x hx=>hw x (.tail _ hx)
   refine za (hw w (.head _)) fun h1 h2=>?_
   refine ⟨k1.base,⟨k1.st.len,fun i t ps e1 e2=>?_,k1.st.nodup,k1.st.below,C.vtKeep _ _ _ _ k.st.vt (fun b J o e=>kp.elim fun h' q=>q.elim fun tk q=>q.1 ▸ q.2 b o e) (fun a o J e J ha=>⟨kp.elim fun h' q=>q.elim fun tk q=>q.1 ▸ q.2 a o e,fun hm=>by
     simp only [VV,List.mem_append,List.cons_append,List.mem_cons] at hm ha
     rcases hm with hm | rfl | hm | hm
     · exact ha (.inl hm)
     · rw [h1] at e;injection e
     · rw [(hw a (.tail _ hm)).1] at e;injection e
     · exact ha (.inr hm)⟩)⟩,fun y hy=>?_,fun y hy=>?_,k1.val⟩
   · have HH:=k.st.at' i t ps e1 e2
     have HH':=k1.st.at' i t ps e1 e2
     refine ⟨HH'.inst,HH'.dict,?_,HH.len⟩
     refine zea HH.list fun vs e1q hl=>?_;obtain ⟨n,e⟩:=e1q
     refine ze2a kp fun h' tk e2q hk=>?_;clear kp;subst e2q
     refine ⟨vs,⟨n,hk _ _ e⟩,f0.mono (fun a o e ha=>⟨hk a o e,fun hm=>?_⟩) (fun J J e=>e) hl⟩
     simp only [VV,List.mem_append,List.cons_append,List.mem_cons] at hm ha
     rcases hm with hm | rfl | hm | hm
     · exact ha (.inl hm)
     · rw [h1] at e;injection e
     · rw [(hw a (.tail _ hm)).1] at e;injection e
     · exact ha (.inr hm)
   · rcases List.mem_cons.mp hy with rfl | hy
     · exact h2
     · exact k1.zal y hy
   · rcases List.mem_cons.mp hy with rfl | hy
     · refine ⟨fun hm=>?_,fun hm=>?_,?_⟩
       · refine ze (k.val _ hm) fun o e=>?_;rw [h1] at e;injection e
       · refine ze (k.st.alive C _ hm) fun o e=>?_;rw [h1] at e;injection e
       · induction e:C.H.get? y using Option.casesOn with
         | none=>rfl
         | some o=>have:=k.base _ _ e;rw [h1] at this;injection this
     · exact k1.zd y hy
end
noncomputable def lw (h:Heap) (I:Addr):Prop:=∃ n o vs,h.get? I = some o∧o.cls = .type n∧o.data = .fields vs ∧
 (["enumerate","zip","dict_itemiterator","dict_reverseitemiterator","odict_iterator","itertools.zip_longest","itertools.pairwise"]:List String).contains n = false
theorem bf8 {prog:Program} {w:World} {A:Around} {E:Value→Shared→Prop} {s:Shared} {I:Addr} {t:Expr} {v:Value} {Q:Unit→Shared→Prop} (h:lw s.heap I) (hQ:Q () s):wpAny (model prog w) A (letOwnedTupleGo t (.ref I) v) Q E s:=by
 refine ze3a3 h fun n o vs ho hc hd hn=>?_;clear h
 have key:∀ a:Addr,wpAny (model prog w) A (load I >>= fun o=>match o.cls,o.data with
     | .type n,.fields vs=>if (["enumerate","zip","dict_itemiterator","dict_reverseitemiterator","odict_iterator","itertools.zip_longest","itertools.pairwise"].contains n&&vs[0]?==some (rawInt a)) = true then (do rule "for.unpacks-the-owned-tuple";updateField I 0 .none) else pure ()
     | _,_=>pure ()) Q E s:=fun a=>by
   refine wpAny_bind (wpAny_load ho ?_)
   rw [hc,hd]
   dsimp only
   rw [hn,Bool.false_and,if_neg (by decide)]
   exact wpAny_pure hQ
 induction t using Expr.casesOn<;>first | exact wpAny_pure hQ | (induction v using Value.casesOn<;>first | exact wpAny_pure hQ | exact key _)
inductive Src (C:Cst) (A:Around) (X Z:List Addr) (io:HI) (ds:List D) (s₁:Shared) (it:Value) (s₂:Shared):Prop
 | mk (I:Addr) (fp wr:List Addr) (P:Nat→Value→Prop) (StI:Nat→Heap→Prop) (e:it = .ref I) (W:Walks C.prog C.w A I fp wr ds.length P StI) (h0:StI 0 s₂.heap) (k:Keeps s₁ s₂) (hw:∀ b∈wr,s₁.heap.get? b = none∧∃ o,s₂.heap.get? b = some o)
   (hf:∀ b∈fp,b∈wr∨∃ o,s₁.heap.get? b = some o∧b∉VV C io X) (hP:∀ i v,i < ds.length→P i v→∃ d,ds[i]? = some d∧Has (VV C io Z) io s₁.heap d v) (hl:ds.length≤lim) (ha:∀ i h,StI i h→∀ b∈wr,∃ o,h.get? b = some o)
   (hg:∀ i h,StI i h→lw h I)
noncomputable def od (cells:List (Str × Addr)):List (Str × NameKind)→List (Str × Addr)→List (Str × Addr)
 | [],acc=>acc
 | (n,k)::r,acc=>if k==NameKind.free then od cells r ((n,(cells.lookup n).getD 0)::acc) else od cells r acc
theorem ki {scope:Scope} {env:Env} (h:∀ p∈scope.names,p.2 = .free→∃ c,env.cells.lookup p.1 = some c):closureFor scope env = pure (od env.cells scope.names []):=by
 unfold closureFor
 have:∀ (l:List (Str × NameKind)) (acc:List (Str × Addr)),(∀ p∈l,p.2 = .free→∃ c,env.cells.lookup p.1 = some c) →
     (forIn l acc fun x r=>match x with
       | (name,kind)=>if (kind==NameKind.free) = true then (do let y ← cellOf env name;pure (ForInStep.yield ((name,y)::r))) else (pure (ForInStep.yield r):Sem _)) = pure (od env.cells l acc):=by
   intro l
   induction l with
   | nil=>intro acc _;rfl
   | cons p r ih =>
     intro acc hl
     obtain ⟨n,k⟩:=p
     rw [List.forIn_cons]
     by_cases hk:(k==NameKind.free) = true
     · refine ze (hl (n,k) (.head _) (by simpa using hk)) fun c hc=>?_
       have e1:cellOf env n = pure c:=by unfold cellOf;simp only at hc;rw [hc]
       simp only [hk,if_true,e1]
       have:=ih ((n,c)::acc) fun p hp=>hl p (.tail _ hp)
       simp only [od,hk,if_true,hc,Option.getD_some]
       exact this
     · simp only [hk,if_false,od]
       exact ih acc fun p hp=>hl p (.tail _ hp)
 have e:=this scope.names [] h
 exact (congrArg (fun t=>t >>= fun cs=>(pure cs:Sem _)) e).trans rfl
theorem bj {cells:List (Str × Addr)} {x:Str}:∀ (l:List (Str × NameKind)) (acc:List (Str × Addr)),(l.lookup x = some .free∨(∃ c,acc.lookup x = some c∧cells.lookup x = some c))→(∀ c,acc.lookup x = some c→cells.lookup x = some c)→(∃ c,cells.lookup x = some c)→(od cells l acc).lookup x = cells.lookup x
 | [],acc,h,ha,hc=>by
   rcases h with h | ⟨c,h1,h2⟩
   · injection h
   · show acc.lookup x = _;rw [h1,h2]
 | (n,k)::r,acc,h,ha,⟨c,hc⟩=>by
   unfold od
   by_cases hk:(k==NameKind.free) = true
   · rw [if_pos hk]
     by_cases hx:(x==n) = true
     · have:x = n:=by simpa using hx
       subst this
       refine bj r _ (.inr ⟨c,by simp [List.lookup,hc],hc⟩) ?_ ⟨c,hc⟩
       intro c' h'
       simp [List.lookup,hc] at h';rw [hc,h']
     · have hx':(x==n) = false:=by simpa using hx
       refine bj r _ ?_ ?_ ⟨c,hc⟩
       · rcases h with h | ⟨c',h1,h2⟩
         · left;simpa [List.lookup,hx'] using h
         · right;exact ⟨c',by simpa [List.lookup,hx'] using h1,h2⟩
       · intro c' h';exact ha c' (by simpa [List.lookup,hx'] using h')
   · rw [if_neg hk]
     refine bj r acc ?_ ha ⟨c,hc⟩
     rcases h with h | h
     · by_cases hx:(x==n) = true
       · simp only [List.lookup,hx,Option.some.injEq] at h;subst h;exact absurd rfl hk
       · have hx':(x==n) = false:=by simpa using hx
         left;simpa [List.lookup,hx'] using h
     · exact .inr h
end Mine
end
section
open PySem
namespace Mine
variable {C:Cst}
section
variable {Z:List Addr} {io io':HI} {g:Sg} {F:List Addr} {s₁ s s':Shared}
theorem q0.hasF (x:q0 C io io' s₁ s) (hF:∀ f∈F,s₁.heap.get? f = none) {d:D} {v:Value} (h:Has (VV C io Z) io s₁.heap d v):Has (VV C io' (F++Z)) io' s.heap d v :=
 Has.mono (fun a o e ha=>by
   refine za (x.keepAt C e ha) fun h1 h2=>?_
   refine ⟨h1,fun hm=>?_⟩
   simp only [VV,List.mem_append] at hm h2
   rcases hm with hm | hm | hm
   · exact h2 (.inl hm)
   · rw [hF a hm] at e;injection e
   · exact h2 (.inr hm)) x.pre h
theorem Sok.drop (k:Sok C (F++Z) io g s) (same:∃ h' tk,s' = { s with heap:=h',toks:=tk }) (hk:∀ b o,s.heap.get? b = some o→b∉F→s'.heap.get? b = some o) (hd:∀ f∈F,f∉Z):Sok C Z io g s':=by
 have kz:=k.less C (Z':=Z) fun z hz=>List.mem_append_right _ hz
 have kd:∀ f∈F,f∉C.vt∧f∉adr io∧C.H.get? f = none:=fun f hf=>k.zd f (List.mem_append_left _ hf)
 refine ⟨fun a o e=>hk a o (k.base a o e) fun hm=>?_,⟨k.st.len,fun i t ps h1 h2=>?_,k.st.nodup,k.st.below,C.vtKeep _ _ _ _ k.st.vt (fun b hb o e=>hk b o e fun hm=>(kd b hm).1 hb) (fun a o J e J ha=>by
   simp only [VV,List.mem_append,not_or] at ha ⊢
   exact ⟨hk a o e ha.2.1,ha.1,ha.2.2⟩)⟩,fun z hz=>?_,kz.zd,fun z hz=>?_⟩
 · have:=(kd a hm).2.2
   rw [e] at this;injection this
 · have HH:=k.st.at' i t ps h1 h2
   have hm:=au (List.mem_of_getElem? h1)
   have nadr:∀ b∈adr io,b∉F:=fun b hb hm=>(kd b hm).2.1 hb
   refine ⟨hk _ _ HH.inst (nadr _ hm.1),?_,?_,HH.len⟩
   · refine ze3 HH.dict fun a b c e=>?_
     exact ⟨a,b,c,hk _ _ e (nadr _ hm.2.1)⟩
   · refine zea HH.list fun vs e1q hl=>?_;obtain ⟨n,e⟩:=e1q
     refine ⟨vs,⟨n,hk _ _ e (nadr _ hm.2.2)⟩,f0.mono (fun a o e ha=>?_) (fun J J e=>e) hl⟩
     simp only [VV,List.mem_append,not_or] at ha ⊢
     exact ⟨hk a o e ha.2.1,ha.1,ha.2.2⟩
 · refine ze (k.zal z (List.mem_append_right _ hz)) fun o e=>?_
   exact ⟨o,hk z o e fun hm=>hd z hm hz⟩
 · refine ze (k.val z hz) fun o e=>?_
   exact ⟨o,hk z o e fun hm=>(kd z hm).1 hz⟩
theorem Has.drop {d:D} {v:Value} (h:Has (VV C io (F++Z)) io s.heap d v) (hk:∀ b o,s.heap.get? b = some o→b∉F→s'.heap.get? b = some o):Has (VV C io Z) io s'.heap d v :=
 Has.mono (fun a o e ha=>by
   simp only [VV,List.mem_append,not_or] at ha ⊢
   exact ⟨hk a o e ha.2.1,ha.1,ha.2.2⟩) (fun J J e=>e) h
theorem f0.drop {d:List D} {v:List Value} (h:f0 (VV C io (F++Z)) io s.heap d v) (hk:∀ b o,s.heap.get? b = some o→b∉F→s'.heap.get? b = some o):f0 (VV C io Z) io s'.heap d v :=
 f0.mono (fun a o e ha=>by
   simp only [VV,List.mem_append,not_or] at ha ⊢
   exact ⟨hk a o e ha.2.1,ha.1,ha.2.2⟩) (fun J J e=>e) h
theorem q0.drop (x:q0 C io io' s₁ s) (same:∃ h' tk,s' = { s with heap:=h',toks:=tk }) (hk:∀ b o,s.heap.get? b = some o→b∉F→s'.heap.get? b = some o) (hf:∀ f∈F,s₁.heap.get? f = none):q0 C io io' s₁ s' where
 same:=by
   refine ze2 x.same fun h1 t1 e1=>?_
   refine ze2 same fun h2 t2 e2=>?_;clear same
   exact ⟨h2,t2,by rw [e2,e1]⟩
 keep:=fun b o e hv ha=>hk b o (x.keep b o e hv ha) fun hm=>by rw [hf b hm] at e;injection e
 alive:=fun b o e=>by
   refine ze (x.alive b o e) fun o' e'=>?_
   exact ⟨o',hk b o' e' fun hm=>by rw [hf b hm] at e;injection e⟩
 pre:=x.pre
 fresh:=x.fresh
end
theorem rf {scope:Scope} {env:Env} (y:Str):(relabel scope env).names.lookup y = scope.names.lookup y∨(scope.names.lookup y = some .free∧(relabel scope env).names.lookup y = some .cell):=by
 unfold relabel
 show (scope.names.map _).lookup y = _∨_
 induction scope.names with
 | nil=>left;rfl
 | cons p r ih =>
   obtain ⟨n,k⟩:=p
   simp only [List.map_cons]
   by_cases hy:(y==n) = true
   · by_cases hc:(k==NameKind.free&&env.scope.kind==.function&&env.kindOf n==some .cell) = true
     · right
       rw [if_pos hc]
       simp only [List.lookup,hy]
       simp only [Bool.and_eq_true,beq_iff_eq] at hc
       exact ⟨by rw [hc.1.1],by first | trivial | rfl⟩
     · left
       rw [if_neg hc]
       simp only [List.lookup,hy]
   · have hy':(y==n) = false:=by simpa using hy
     by_cases hc:(k==NameKind.free&&env.scope.kind==.function&&env.kindOf n==some .cell) = true
     · rw [if_pos hc];simp only [List.lookup,hy'];exact ih
     · rw [if_neg hc];simp only [List.lookup,hy'];exact ih
theorem ba {sc:Scope} {x:Str} {d:D}:∀ {ro:Ro},(m9 sc ro).lookup x = some d→sc.names.lookup x = some .free∧ro.lookup x = some d
 | [],h=>by injection h
 | (y,e)::r,h=>by
   unfold m9 at h
   simp only [List.filter_cons] at h
   by_cases hy:(sc.names.lookup y==some .free) = true
   · rw [if_pos hy] at h
     by_cases hx:(x==y) = true
     · have:x = y:=by simpa using hx
       subst this
       simp only [List.lookup,beq_self_eq_true,Option.some.injEq] at h
       subst h
       exact ⟨by simpa using hy,by simp [List.lookup]⟩
     · have hx':(x==y) = false:=by simpa using hx
       simp only [List.lookup,hx'] at h
       refine za (ba (sc:=sc) (ro:=r) h) fun h1 h2=>?_
       exact ⟨h1,by simpa [List.lookup,hx'] using h2⟩
   · rw [if_neg hy] at h
     refine za (ba (sc:=sc) (ro:=r) h) fun h1 h2=>?_
     refine ⟨h1,?_⟩
     have hx':(x==y) = false:=by
       induction hq:x==y using Bool.casesOn with
       | false=>rfl
       | true =>
         have:x = y:=by simpa using hq
         subst this
         rw [h1] at hy;exact absurd (by decide) hy
     simpa [List.lookup,hx'] using h2
theorem bh {β:Type} {y:Str} {v:β}:∀ {a r:List (Str × β)},(a++r).lookup y = some v→a.lookup y = some v∨(a.lookup y = none∧r.lookup y = some v)
 | [],r,h=>.inr ⟨rfl,h⟩
 | (z,u)::a,r,h=>by
   by_cases hb:(y==z) = true
   · simp only [List.cons_append,List.lookup,hb] at h ⊢
     exact .inl h
   · have hb':(y==z) = false:=by simpa using hb
     simp only [List.cons_append,List.lookup,hb'] at h ⊢
     exact bh h
theorem cw {β:Type} {y:Str}:∀ {a r:List (Str × β)},a.lookup y = none→(a++r).lookup y = r.lookup y
 | [],r,h=>rfl
 | (z,u)::a,r,h=>by
   by_cases hb:(y==z) = true
   · rw [bu hb] at h;exact a8 h.symm
   · have hb':(y==z) = false:=by simpa using hb
     rw [u6 hb'] at h
     exact (u6 hb').trans (cw h)
theorem dq {β:Type} {y:Str} {k:β}:∀ {l:List (Str × β)},l.lookup y = some k→(y,k)∈l
 | [],h=>a8 h
 | (n,k')::r,h=>by
   by_cases hy:(y==n) = true
   · rw [bu hy] at h
     rw [beq_iff_eq.mp hy,Option.some.inj h];exact .head _
   · have hy':(y==n) = false:=by simpa using hy
     rw [u6 hy'] at h
     exact .tail _ (dq h)
theorem yr {kd:Kd} {Z F:List Addr} {io io':HI} {g:Sg} {env env':Env} {ro:Ro} {scope:Scope} {s₁ s:Shared} {b:List (Str × D)} {m:Str→Option Value} (he:m6 C kd Z io env ro s₁.heap) (hk:Sok C Z io g s₁) (x₁:q0 C io io' s₁ s)
   (hF:∀ f∈F,s₁.heap.get? f = none) (hcl:∀ y,scope.names.lookup y = some .cell→∃ c v,env'.cells.lookup y = some c∧s.heap.IsCell c v∧c∈F) (hkind:scope.kind = .function∧¬scope.names.lookup ("_split_list":Str) = some .globalImplicit)
   (hfree:∀ p∈scope.names,p.2 = .free→kd p.1 = some .cell∨kd p.1 = some .free)
   (h1:∀ y,env'.kindOf y = scope.names.lookup y∨(scope.names.lookup y = some .free∧env'.kindOf y = some .cell)) (h2:env'.scope.kind = .function) (h3:env'.globals = env.globals) (h4:env'.builtins = env.builtins) (h5:∀ y,scope.names.lookup y = some .free→(∃ c,env.cells.lookup y = some c)→env'.cells.lookup y = env.cells.lookup y)
   (hl:env'.locals∈F) (hn:s.heap.Ns env'.locals m) (hb:∀ y d,b.lookup y = some d→scope.names.lookup y = some .local∧∃ v,m y = some v∧Has (VV C io' (F++Z)) io' s.heap d v) :
   m6 C (fun y=>scope.names.lookup y) (F++Z) io' env' (b++m9 scope ro) s.heap:=by
 have names:∀ {y:Str} {k:NameKind},scope.names.lookup y = some k→(y,k)∈scope.names:=fun h=>dq h
 have lk:∀ y,scope.names.lookup y = some .free→∃ c w,env.cells.lookup y = some c∧env'.cells.lookup y = some c∧s₁.heap.IsCell c w∧c∈Z∧s.heap.IsCell c w:=fun y hy=>by
   refine ze2a2 (he.all y (hfree _ (names hy) rfl)) fun c w hc e3q hz=>?_;obtain ⟨o,ho,hd⟩:=e3q
   refine ⟨c,w,hc,?_,⟨o,ho,hd⟩,hz,⟨o,x₁.keep _ o ho (hk.zd _ hz).1 (hk.zd _ hz).2.1,hd⟩⟩
   rw [h5 y hy ⟨c,hc⟩,hc]
 refine ⟨h1,h2,h3.trans he.gl,h4.trans he.bi,List.mem_append_left _ hl,⟨m,hn,fun y d' hy hkd=>?_⟩,fun y d' hy hkd=>?_,fun y hy=>?_,fun h=>absurd h hkind.2⟩
 · rcases bh hy with h | ⟨_,h⟩
   · refine zaea (hb y d' h) fun J v q1 q2=>?_
     exact ⟨v,q1,q2⟩
   · have:=(ba h).1
     rw [hkd] at this;(injection this with this;injection this)
 · rcases bh hy with h | ⟨_,h⟩
   · exact absurd (hb y d' h).1 hkd
   · refine za (ba h) fun hf hr=>?_
     have hkd':=hfree _ (names hf) rfl
     refine zae2a2 (he.cel y d' hr (by rcases hkd' with h | h<;>(simp only at h;rw [h];nofun))) fun J c w hc hcell' hh=>?_
     refine ze2a4 (lk y hf) fun c' w' e1 e2 e3 e4 e5=>?_
     rw [hc] at e1;(injection e1 with e1;subst e1)
     refine zea hcell' fun o ho hd=>?_;clear hcell'
     exact ⟨.inr hf,c,w,e2,⟨o,x₁.keep _ o ho (hk.zd _ e4).1 (hk.zd _ e4).2.1,hd⟩,x₁.hasF hF hh⟩
 · rcases hy with hy | hy
   · refine ze2a2 (hcl y hy) fun c v e1 e2 e3=>?_
     exact ⟨c,v,e1,e2,List.mem_append_left _ e3⟩
   · refine ze2a4 (lk y hy) fun c w e1 e2 e3 e4 e5=>?_
     exact ⟨c,w,e2,e5,List.mem_append_right _ e4⟩
end Mine
namespace Mine
variable {C:Cst}
noncomputable def gd (ifs:List Expr) (env:Env):Sem Bool:=forIn ifs true fun c r=>if r = true then do let ok ← isTrue c env (eval c env);pure (ForInStep.yield ok) else pure (ForInStep.yield r)
theorem ap4 {e:Expr} {r:List Expr} {k:Nat} {p:Pos} {d:D} {b:List (Str × D)} (h:tgt (.Tuple (e::r) k p) d = some b):∃ x q,e = .Name x q:=by
 induction e using Expr.casesOn<;>first | exact ⟨_,_,rfl⟩ | injection h
theorem aj6 {x:Str} {q:Pos} {e:Expr} {r:List Expr} {k:Nat} {p:Pos} {d:D} {b:List (Str × D)} (h:tgt (.Tuple (.Name x q::e::r) k p) d = some b):∃ x q,e = .Name x q:=by
 induction e using Expr.casesOn<;>first | exact ⟨_,_,rfl⟩ | injection h
theorem az9 {d:D} {x y:Str} {b:List (Str × D)} (h:(match d with | .tup [a,c]=>some [(x,a),(y,c)] | _=>none) = some b):∃ a c,d = .tup [a,c]∧b = [(x,a),(y,c)]:=by
 induction d using D.casesOn with
 | tup l =>
   rcases l with _ | ⟨a,_ | ⟨c,_ | ⟨e,r⟩⟩⟩
   · injection h
   · injection h
   · (injection h with h;subst h);exact ⟨_,_,rfl,rfl⟩
   · injection h
 | _=>injection h
theorem uk {t:Expr} {d:D} {b:List (Str × D)} (h:tgt t d = some b):(∃ x p,t = .Name x p∧b = [(x,d)])∨∃ x px y py k p d1 d2,t = .Tuple [.Name x px,.Name y py] k p∧(x==y) = false∧d = .tup [d1,d2]∧b = [(x,d1),(y,d2)]:=by
 induction t using Expr.casesOn with
 | Name x p=>(injection h with h;subst h);exact .inl ⟨_,_,rfl,rfl⟩
 | Tuple l k p =>
   induction l using List.casesOn with
   | nil=>injection h
   | cons e r =>
     refine ze2 (ap4 h) fun x px e2q=>?_;subst e2q
     induction r using List.casesOn with
     | nil=>injection h
     | cons e r =>
       refine ze2 (aj6 h) fun y py e2q=>?_;subst e2q
       induction r using List.casesOn with
       | cons e r=>injection h
       | nil =>
         change (if (x==y) = true then none else _) = some b at h
         induction hxy:(x==y) using Bool.casesOn with
         | true=>rw [hxy,if_pos rfl] at h;injection h
         | false =>
           rw [hxy,if_neg (by decide)] at h
           refine ze2a (az9 h) fun a c h1 h2=>?_
           exact .inr ⟨_,_,_,_,_,_,_,_,rfl,hxy,h1,h2⟩
 | _=>injection h
theorem xq {t:Expr} {d:D} {b:List (Str × D)} {ns:List Str} (h:tgt t d = some b) (hns:fq t = some ns) {y:Str} {d':D} (hy:b.lookup y = some d'):y∈ns:=by
 have key:∀ {x:Str} {u:D} {r:List (Str × D)},((x,u)::r).lookup y = some d'→y = x∨r.lookup y = some d':=fun {x u r} h=>by
   by_cases hyx:(y==x) = true
   · exact .inl (eq_of_beq hyx)
   · exact .inr ((u6 (Bool.eq_false_iff.mpr hyx)).symm.trans h)
 rcases uk h with ⟨x,px,e1,e2⟩ | ⟨x,px,z,py,k,p,d1,d2,e1,hxy,_,e2⟩
 · subst e1;subst e2
   injection hns with hns;subst hns
   rcases key hy with h | h
   · subst h;exact .head _
   · exact a8 h
 · subst e1;subst e2
   change (if (x==z) = true then none else some [x,z]) = some ns at hns
   rw [hxy,if_neg (by decide)] at hns
   injection hns with hns;subst hns
   rcases key hy with h | h
   · subst h;exact .head _
   · rcases key h with h | h
     · subst h;exact .tail _ (.head _)
     · exact a8 h
theorem an0 {prog:Program} {w:World} {A:Around} {E:Value→Shared→Prop} {s:Shared} {V:List Addr} {io:HI} {cenv:Env} {t:Expr} {ns:List Str} {b:List (Str × D)} {d:D} {v:Value} {m:Str→Option Value} (hh:A.handled = none)
   (hns:fq t = some ns) (hb:tgt t d = some b) (hloc:∀ y∈ns,cenv.kindOf y = some .local) (hpl:(cenv.scope.kind==.class||(cenv.scope.kind==.module&&cenv.locals != cenv.globals)) = false) (hn:s.heap.Ns cenv.locals m) (hd:Has V io s.heap d v)
   {Q:Unit→Shared→Prop} (h:∀ h' (tk:Nat) m',h'.Ns cenv.locals m'→(∀ y d',b.lookup y = some d'→∃ v',m' y = some v'∧Has V io s.heap d' v')→(∀ z,z∉ns→m' z = m z)→(∀ c o,c≠cenv.locals→s.heap.get? c = some o→h'.get? c = some o)→Q () { s with heap:=h',toks:=tk }) :
   wpAny (model prog w) A (assign t cenv v) Q E s:=by
 rcases uk hb with ⟨x,px,rfl,rfl⟩ | ⟨x,px,y,py,k,p,d1,d2,rfl,hxy,rfl,rfl⟩
 · injection hns with hns;subst hns
   refine wpAny_assign_Name (wpAny_storeName_local (hloc x (.head _)) hn (fun h' hn' hs'=>h h' _ _ hn' (fun y d' hy=>?_) (fun z hz=>by exact if_neg fun (e:z = x)=>hz (by rw [e];exact .head _)) fun c o hc e=>hs'.extBut c o hc e) hpl)
   by_cases hyx:(y==x) = true
   · rw [bu hyx] at hy
     injection hy with hy;subst hy
     exact ⟨v,if_pos (eq_of_beq hyx),hd⟩
   · rw [u6 (by simpa using hyx)] at hy
     exact a8 hy
 · change (if (x==y) = true then none else some [x,y]) = some ns at hns
   rw [hxy,if_neg (by decide)] at hns
   injection hns with hns;subst hns
   refine zae2a3e2a2e2a2 hd fun J a vs e3q J ht v1 r1 e1 q1 v2 r2 e2 q2 e3=>?_;clear hd;subst e3q
   subst e3 e2
   have hvs:vs = #[v1,v2]:=by rw [← Array.toArray_toList (xs:=vs),e1]
   subst hvs
   have hxy':x≠y:=by simpa using hxy
   refine PySem.W.kcp_assign hh ht.isTuple (hloc x (.head _)) (hloc y (.tail _ (.head _))) hpl hn fun h' tk hn' hk=>h h' tk _ hn' (fun z d' hz=>?_) (fun z hz=>?_) hk
   · by_cases hzx:(z==x) = true
     · rw [bu hzx] at hz
       injection hz with hz;subst hz
       have e:=eq_of_beq hzx
       subst e
       exact ⟨v1,by rw [if_neg hxy',if_pos rfl],q1⟩
     · rw [u6 (by simpa using hzx)] at hz
       by_cases hzy:(z==y) = true
       · rw [bu hzy] at hz
         injection hz with hz;subst hz
         exact ⟨v2,if_pos (eq_of_beq hzy),q2⟩
       · rw [u6 (by simpa using hzy)] at hz
         exact a8 hz
   · rw [if_neg fun (e:z = y)=>hz (by rw [e];exact .tail _ (.head _)),if_neg fun (e:z = x)=>hz (by rw [e];exact .head _)]
structure eu (C:Cst) (X:List Addr) (io io':HI) (s s':Shared):Prop where
 same:∃ h' tk,s' = { s with heap:=h',toks:=tk }
 keep:∀ b o,s.heap.get? b = some o→b∉C.vt→b∉adr io→b∉X→s'.heap.get? b = some o
 alive:∀ b o,s.heap.get? b = some o→∃ o',s'.heap.get? b = some o'
 pre:∀ (k:Nat) t,io[k]? = some t→io'[k]? = some t
 fresh:∀ b∈adr io',b∈adr io∨s.heap.get? b = none
section
variable {X Z Z' F:List Addr} {io io' io'':HI} {g:Sg} {s₁ s s' s'':Shared} {kd:Kd} {env:Env} {ro:Ro}
theorem ui {b:Addr} (h:∀ o,s.heap.get? b = some o→∃ o',s'.heap.get? b = some o') (e:s'.heap.get? b = none):s.heap.get? b = none:=by
 induction e':s.heap.get? b using Option.casesOn with
 | none=>rfl
 | some o=>refine ze (h o e') fun o' e''=>?_;rw [e] at e'';exact a8 e''
theorem q0.gx (x:q0 C io io' s s'):eu C X io io' s s':=⟨x.same,fun b o e h1 h2 _=>x.keep b o e h1 h2,x.alive,x.pre,x.fresh⟩
theorem eu.gr (x:eu C X io io' s s') (h:∀ f∈X,s.heap.get? f = none):q0 C io io' s s':=⟨x.same,fun b o e h1 h2=>x.keep b o e h1 h2 fun hm=>by rw [h b hm] at e;exact a8 e,x.alive,x.pre,x.fresh⟩
theorem eu.trans (x:eu C X io io' s s') (y:eu C X io' io'' s' s''):eu C X io io'' s s'':=by
 refine ⟨?_,fun b o e hv ha hX=>?_,fun b o e=>?_,fun k t e=>y.pre k t (x.pre k t e),fun b hb=>?_⟩
 · refine ze2 x.same fun h1 t1 e1=>?_
   refine ze2 y.same fun h2 t2 e2=>?_
   exact ⟨h2,t2,by rw [e2,e1]⟩
 · refine y.keep b o (x.keep b o e hv ha hX) hv (fun hm=>?_) hX
   rcases x.fresh b hm with h | h
   · exact ha h
   · rw [e] at h;exact a8 h.symm
 · refine ze (x.alive b o e) fun o' e'=>?_
   exact y.alive b o' e'
 · rcases y.fresh b hb with h | h
   · exact x.fresh b h
   · exact .inr (ui (fun o e=>x.alive b o e) h)
theorem eu.touch (x:eu C X io io' s₁ s) (t:aw F s s') (hF:∀ f∈F,f∈X∨s₁.heap.get? f = none):eu C X io io' s₁ s' where
 same:=by
   refine ze2 x.same fun h1 t1 e1=>?_
   refine ze2 t.same fun h2 t2 e2=>?_
   exact ⟨h2,t2,by rw [e2,e1]⟩
 keep:=fun b o e hv ha hX=>t.keep b o (x.keep b o e hv ha hX) fun hm=>by
   rcases hF b hm with h | h
   · exact hX h
   · rw [e] at h;exact a8 h.symm
 alive:=fun b o e=>by
   refine ze (x.alive b o e) fun o' e'=>?_
   by_cases hm:b∈F
   · exact t.alive b hm ⟨o',e'⟩
   · exact ⟨o',t.keep b o' e' hm⟩
 pre:=x.pre
 fresh:=x.fresh
theorem eu.drop (x:eu C X io io' s₁ s) (same:∃ h' tk,s' = { s with heap:=h',toks:=tk }) (hk:∀ b o,s.heap.get? b = some o→b∉F→s'.heap.get? b = some o) (hf:∀ f∈F,s₁.heap.get? f = none):eu C X io io' s₁ s' where
 same:=by
   refine ze2 x.same fun h1 t1 e1=>?_
   refine ze2 same fun h2 t2 e2=>?_;clear same
   exact ⟨h2,t2,by rw [e2,e1]⟩
 keep:=fun b o e hv ha hX=>hk b o (x.keep b o e hv ha hX) fun hm=>by rw [hf b hm] at e;exact a8 e
 alive:=fun b o e=>by
   refine ze (x.alive b o e) fun o' e'=>?_
   exact ⟨o',hk b o' e' fun hm=>by rw [hf b hm] at e;exact a8 e⟩
 pre:=x.pre
 fresh:=x.fresh
theorem eu.at (x:eu C X io io' s₁ s) (hX:∀ f∈X,f∈Z∨s₁.heap.get? f = none) (hZ:∀ z∈Z',z∈Z∨s₁.heap.get? z = none) (a:Addr) (o:Obj) (e:s₁.heap.get? a = some o) (ha:a∉VV C io Z):s.heap.get? a = some o∧a∉VV C io' Z':=by
 unfold VV at ha ⊢
 simp only [List.mem_append,not_or] at ha ⊢
 refine ⟨x.keep a o e ha.1.1 ha.1.2 fun hm=>?_,⟨ha.1.1,fun hm=>?_⟩,fun hm=>?_⟩
 · rcases hX a hm with h | h
   · exact ha.2 h
   · rw [e] at h;exact a8 h.symm
 · rcases x.fresh a hm with h | h
   · exact ha.1.2 h
   · rw [e] at h;exact a8 h.symm
 · rcases hZ a hm with h | h
   · exact ha.2 h
   · rw [e] at h;exact a8 h.symm
theorem sm {a:Addr} (k:Sok C Z io g s) (h:s.heap.get? a = none):a∉VV C io Z:=fun hm=>by
 unfold VV at hm
 simp only [List.mem_append] at hm
 rcases hm with (hm | hm) | hm
 · refine ze (k.val a hm) fun o e=>?_;rw [h] at e;exact a8 e
 · refine ze (k.st.alive C a hm) fun o e=>?_;rw [h] at e;exact a8 e
 · refine ze (k.zal a hm) fun o e=>?_;rw [h] at e;exact a8 e
theorem m6.sub {ro':Ro} {h:Heap} (e:m6 C kd Z io env ro h) (hr:∀ x d,ro'.lookup x = some d→ro.lookup x = some d):m6 C kd Z io env ro' h :=
 { e with
   nsx:=let ⟨m,hn,hv⟩:=e.nsx;⟨m,hn,fun x d hx hk=>hv x d (hr x d hx) hk⟩
   cel:=fun x d hx hk=>e.cel x d (hr x d hx) hk }
inductive qm (kd:Kd) (env:Env) (z:Addr):Prop
 | loc (h:z = env.locals)
 | cel (x:Str) (hk:kd x = some .cell∨kd x = some .free) (hc:env.cells.lookup x = some z)
theorem m6.move {h h':Heap} (e:m6 C kd Z io env ro h) (hm:∀ a o,h.get? a = some o→a∉VV C io Z→h'.get? a = some o∧a∉VV C io' Z') (hp:∀ (k:Nat) t,io[k]? = some t→io'[k]? = some t)
   (hz:∀ z o,qm kd env z→h.get? z = some o→h'.get? z = some o∧z∈Z'):m6 C kd Z' io' env ro h':=by
 refine zea e.nsx fun m hn hv=>?_
 refine { e with lz:=?_,nsx:=⟨m,hn.at' fun o ho=>(hz _ o (.loc rfl) ho).1,fun x d hx hk=>?_⟩,cel:=fun x d hx hk=>?_,all:=fun x hk=>?_ }
 · exact hn.elim fun o q=>q.elim fun _ q=>q.elim fun _ q=>(hz _ o (.loc rfl) q.1).2
 · refine zea (hv x d hx hk) fun v h1 h2=>?_
   exact ⟨v,h1,Has.mono hm hp h2⟩
 · refine zae2a2 (e.cel x d hx hk) fun h1 c v hc hi hh=>?_
   refine zea hi fun o ho hd=>?_
   exact ⟨h1,c,v,hc,⟨o,(hz _ o (.cel x h1 hc) ho).1,hd⟩,Has.mono hm hp hh⟩
 · refine ze2a2 (e.all x hk) fun c v hc hi hcz=>?_
   refine zea hi fun o ho hd=>?_
   exact ⟨c,v,hc,⟨o,(hz _ o (.cel x hk hc) ho).1,hd⟩,(hz _ o (.cel x hk hc) ho).2⟩
theorem m6.inZ {h:Heap} (e:m6 C kd Z io env ro h) {z:Addr} (hz:qm kd env z):z∈Z:=by
 induction hz using qm.casesOn with
 | loc h=>exact h ▸ e.lz
 | cel x hk hc =>
   refine ze2a2 (e.all x hk) fun c v hc' hi hcz=>?_
   rw [hc] at hc';injection hc' with hc';exact hc' ▸ hcz
inductive aa3 (kd:Kd) (env:Env) (Xm:List Addr):List Str→Prop
 | loc (ns:List Str) (h:∀ y∈ns,kd y = some .local) (hm:env.locals∈Xm):aa3 kd env Xm ns
 | cell (x:Str) (c:Addr) (hk:kd x = some .cell) (hc:env.cells.lookup x = some c) (hm:c∈Xm) (hn:∀ y c',y≠x→(kd y = some .cell∨kd y = some .free)→env.cells.lookup y = some c'→c'≠c):aa3 kd env Xm [x]
theorem aa5 {h:Heap} {a c:Addr} {m:Str→Option Value} {v:Option Value} (hn:h.Ns a m) (hc:h.IsCell c v):c≠a:=fun e=>by
 subst e
 refine zea hc fun o ho hd=>?_
 exact hn.elim fun o' q=>q.elim fun _ q=>q.elim fun _ q=>by
   rw [ho] at q
   have:=Option.some.inj q.1
   subst this
   have:=q.2.1
   rw [hd] at this
   injection this
theorem bo4 {prog:Program} {w:World} {A:Around} {E:Value→Shared→Prop} {Xm:List Addr} {t:Expr} {ns:List Str} {b:List (Str × D)} {d:D} {v:Value} (hh:A.handled = none)
   (hns:fq t = some ns) (hb:tgt t d = some b) (tk:aa3 kd env Xm ns) (e:m6 C kd Z io env ro s.heap) (hro:∀ y∈ns,ro.lookup y = none) (hd:Has (VV C io Z) io s.heap d v)
   {Q:Unit→Shared→Prop} (h:∀ a s',a∈Xm→a∈Z→aw [a] s s'→m6 C kd Z io env (b++ro) s'.heap→Q () s'):wpAny (model prog w) A (assign t env v) Q E s:=by
 have hloc:∀ y,kd y = some .local→env.kindOf y = some .local:=fun y hy=>by
   rcases e.kdo y with h | h
   · exact h.trans hy
   · rw [hy] at h;injection h.1 with h1;injection h1
 have hpl:(env.scope.kind==.class||(env.scope.kind==.module&&env.locals != env.globals)) = false:=by rw [e.fn];rfl
 refine zea e.nsx fun m hn hv=>?_
 have hone:∀ {a f:Addr},f∈[a]→f = a:=fun hf=>List.mem_singleton.mp hf
 induction tk using aa3.casesOn with
 | loc ns hl hm =>
   refine an0 hh hns hb (fun y hy=>hloc y (hl y hy)) hpl hn hd fun h' tk m' hn' hb' hold hk=>?_
   have t1:aw [env.locals] s { s with heap:=h',toks:=tk }:=⟨⟨h',tk,rfl⟩,fun b o e hb=>hk b o (fun h=>hb (h ▸ .head _)) e,fun b hb J=>by
     have e:=hone hb;subst e
     exact hn'.elim fun o q=>q.elim fun _ q=>q.elim fun _ q=>⟨o,q.1⟩⟩
   have sub:∀ f∈[env.locals],f∈Z:=fun f hf=>(hone hf) ▸ e.lz
   refine h _ _ hm e.lz t1 { e with nsx:=⟨m',hn',fun y d hy hk=>?_⟩,cel:=fun y d hy hk=>?_,all:=fun y hk'=>?_ }
   · rcases bh hy with h | ⟨_,h⟩
     · refine zea (hb' y d h) fun v' q1 q2=>?_
       exact ⟨v',q1,t1.has sub q2⟩
     · refine zea (hv y d h hk) fun v' q1 q2=>?_
       refine ⟨v',(hold y fun hm=>?_).trans q1,t1.has sub q2⟩
       rw [hro y hm] at h;exact a8 h
   · rcases bh hy with h | ⟨_,h⟩
     · exact absurd (hl y (xq hb hns h)) hk
     · refine zae2a2 (e.cel y d h hk) fun h1 c v hc hi hh=>?_
       have hne:=aa5 hn hi
       refine zea hi fun o ho hd=>?_
       exact ⟨h1,c,v,hc,⟨o,t1.keep c o ho fun hm=>hne (hone hm),hd⟩,t1.has sub hh⟩
   · refine ze2a2 (e.all y hk') fun c v hc hi hcz=>?_
     have hne:=aa5 hn hi
     refine zea hi fun o ho hd=>?_
     exact ⟨c,v,hc,⟨o,t1.keep c o ho fun hm=>hne (hone hm),hd⟩,hcz⟩
 | cell x c hkx hc hm hinj =>
   rcases uk hb with ⟨x',px,e1,e2⟩ | ⟨x',px,y,py,k,p,d1,d2,e1,hxy,_,e2⟩
   · subst e1;subst e2
     injection hns with hns;injection hns with hns;subst hns
     have hkx':env.kindOf x' = some .cell:=by
       rcases e.kdo x' with h | h
       · exact h.trans hkx
       · exact h.2
     refine ze2a2 (e.all x' (.inl hkx)) fun c' v0 hc' hi hcz=>?_
     have ec:c' = c:=by rw [hc] at hc';injection hc' with hc';exact hc'.symm
     subst ec
     refine wpAny_assign_Name (wpAny_storeName_cell e.fn hkx' hc hi fun h' hi' hs'=>?_)
     have t1:aw [c'] s { s with heap:=h' }:=aw.same_but (tk:=s.toks) hs' (let ⟨o,e,_⟩:=hi';⟨o,e⟩)
     have sub:∀ f∈[c'],f∈Z:=fun f hf=>(hone hf) ▸ hcz
     have hne:=aa5 hn hi
     refine h _ _ hm hcz t1 { e with nsx:=⟨m,hn.at' fun o e=>t1.keep _ o e fun hm=>hne (hone hm).symm,fun y d hy hk=>?_⟩,cel:=fun y d hy hk=>?_,all:=fun y hk'=>?_ }
     · rcases bh hy with h | ⟨_,h⟩
       · have:=List.mem_singleton.mp (xq hb rfl h)
         subst this
         rw [hkx] at hk;injection hk with hk;injection hk
       · refine zea (hv y d h hk) fun v' q1 q2=>?_
         exact ⟨v',q1,t1.has sub q2⟩
     · rcases bh hy with h | ⟨h0,h⟩
       · have ey:=List.mem_singleton.mp (xq hb rfl h)
         subst ey
         rw [bu (beq_self_eq_true _)] at h
         injection h with h;subst h
         exact ⟨.inl hkx,_,_,hc,hi',t1.has sub hd⟩
       · have hyx:y≠x':=fun e=>by subst e;rw [bu (beq_self_eq_true _)] at h0;exact a8 h0.symm
         refine zae2a2 (e.cel y d h hk) fun h1 c2 v hc2 hi2 hh=>?_
         have hne2:=hinj y c2 hyx h1 hc2
         refine zea hi2 fun o ho hd=>?_
         exact ⟨h1,c2,v,hc2,⟨o,t1.keep c2 o ho fun hm=>hne2 (hone hm),hd⟩,t1.has sub hh⟩
     · by_cases hyx:y = x'
       · subst hyx
         exact ⟨_,_,hc,hi',hcz⟩
       · refine ze2a2 (e.all y hk') fun c2 v hc2 hi2 hcz2=>?_
         have hne2:=hinj y c2 hyx hk' hc2
         refine zea hi2 fun o ho hd=>?_
         exact ⟨c2,v,hc2,⟨o,t1.keep c2 o ho fun hm=>hne2 (hone hm),hd⟩,hcz2⟩
   · subst e1
     change (if (x'==y) = true then none else some [x',y]) = some [x] at hns
     rw [hxy,if_neg (by decide)] at hns
     injection hns with hns;injection hns with _ hns;injection hns
end
end Mine
namespace Mine
variable {C:Cst}
inductive bj6 (C:Cst) (io:HI) (Z:List Addr) (ds:List D) (s₁ s:Shared) (i:Nat) (v:Value) (h':Heap):Prop
 | mk (d:D) (hd:ds[i]? = some d) (hv:∀ (V:List Addr) (io':HI),(∀ a o,s₁.heap.get? a = some o→a∉VV C io Z→h'.get? a = some o∧a∉V)→(∀ (k:Nat) t,io[k]? = some t→io'[k]? = some t)→(∀ a,s.heap.get? a = none→a∉V)→Has V io' h' d v)
structure bb4 (C:Cst) (A:Around) (t:Expr) (io:HI) (Z:List Addr) (ds:List D) (s₁:Shared) (I:Addr) (fp wr:List Addr) (St:Nat→Heap→Prop):Prop where
 frame:∀ i h h',St i h→(∀ b∈fp,∀ o,h.get? b = some o→h'.get? b = some o)→St i h'
 turn:∀ i (s:Shared) (Q:Value→Shared→Prop),i < ds.length→St i s.heap →
   (∀ v h' tk,bj6 C io Z ds s₁ s i v h'→St (i + 1) h'→(∀ b o,b∉wr→s.heap.get? b = some o→h'.get? b = some o)→Q v { s with heap:=h',toks:=tk }) →
   wpAny (model C.prog C.w) A (pyNext (.ref I)) (fun r s'=>∃ v,r = some v∧wpAny (model C.prog C.w) A (letOwnedTupleGo t (.ref I) v) (fun _=>Q v) noE s') noE s
 done:∀ (s:Shared) (Q:Option Value→Shared→Prop),St ds.length s.heap →
   (∀ h' tk,(∀ b o,b∉wr→s.heap.get? b = some o→h'.get? b = some o)→Q none { s with heap:=h',toks:=tk })→wpAny (model C.prog C.w) A (pyNext (.ref I)) Q noE s
 self:∀ i (s:Shared) (Q:Value→Shared→Prop),St i s.heap→Q (.ref I) s→wpAny (model C.prog C.w) A (pyIter (.ref I)) Q noE s
inductive cu5 (C:Cst) (A:Around) (t:Expr) (X Z:List Addr) (io:HI) (ds:List D) (s₁:Shared) (it:Value) (s₂:Shared):Prop
 | mk (I:Addr) (fp wr:List Addr) (St:Nat→Heap→Prop) (e:it = .ref I) (W:bb4 C A t io Z ds s₁ I fp wr St) (h0:St 0 s₂.heap) (k:Keeps s₁ s₂) (hw:∀ b∈wr,s₁.heap.get? b = none∧∃ o,s₂.heap.get? b = some o)
   (hf:∀ b∈fp,b∈wr∨∃ o,s₁.heap.get? b = some o∧b∉VV C io X) (hl:ds.length≤lim) (ha:∀ i h,St i h→∀ b∈wr,∃ o,h.get? b = some o)
section
variable {A:Around} {t:Expr} {X Z:List Addr} {io:HI} {ds:List D} {s₁ s₂:Shared} {it:Value}
theorem Src.f (src:Src C A X Z io ds s₁ it s₂):cu5 C A t X Z io ds s₁ it s₂:=by
 obtain ⟨I,fp,wr,P,StI,e,W,hst,k12,hwr,hfp,hP,hlen,hal,hgo⟩:=src
 refine ⟨I,fp,wr,StI,e,⟨W.frame,fun i s Q hi st hQ=>?_,fun s Q st hQ=>W.done s Q _ st hQ,fun i s Q st hQ=>W.self i s Q _ st hQ⟩,hst,k12,hwr,hfp,hlen,hal⟩
 refine W.item i s _ _ hi st fun v h' tk hp st' hk=>⟨v,rfl,bf8 (hgo _ _ st') (hQ v h' tk ?_ st' hk)⟩
 refine zea (hP i v hi hp) fun d hd hv=>?_
 exact ⟨d,hd,fun V io' hm hpre _=>Has.mono hm hpre hv⟩
end
noncomputable def pq (e:Expr) (depth:Nat) (p:Pos) (t:Expr) (ifs:List Expr) (inner:Sem Unit) (it acc:Value) (env:Env):Sem Fin :=
 standAt p >>= fun _=>pyNext it >>= fun r=>match r with
   | none=>pure (.done .next)
   | some v=>letOwnedTupleGo t it v >>= fun _=>assign t env v >>= fun _=>gd ifs env >>= fun ok=>(if ok = true then inner >>= fun _=>again (.compLoop e depth it acc env) else again (.compLoop e depth it acc env))
section
variable {prog:Program} {w:World} {A:Around} {s:Shared}
theorem wt {elt t:Expr} {gens:List Comprehension} {sc:Scope} {pos p:Pos} {depth:Nat} {ifs:List Expr} {inner:Sem Unit} {it acc:Value} {env:Env} {R:Result→Shared→Prop}
   (he:compTurn (.ListComp elt gens sc pos) depth it acc env = pq (.ListComp elt gens sc pos) depth p t ifs inner it acc env) (I:Nat→Shared→Prop)
   (turn:∀ n s,I n s→wpAny (model prog w) A (pyNext it) (fun r s₁=>match r with
     | none=>R (.ok .next) s₁
     | some v=>wpAny (model prog w) A (letOwnedTupleGo t it v) (fun _ s₀=>wpAny (model prog w) A (assign t env v) (fun _ s₂ =>
         wpAny (model prog w) A (gd ifs env) (fun ok s₃ =>
           if ok = true then wpAny (model prog w) A inner (fun _ s₅=>∃ m,m < n∧I m s₅) noE s₃ else ∃ m,m < n∧I m s₃) noE s₂) noE s₀) noE s₁) noE s)
   (n:Nat) (h:I n s):codeAny (model prog w) A (.compLoop (.ListComp elt gens sc pos) depth it acc env) R s:=by
 refine codeAny_loop rfl I (fun n s hI=>wpAny_noted ?_) n h
 show wpAny _ A (compTurn (.ListComp elt gens sc pos) depth it acc env) _ _ s
 rw [he]
 refine wpAny_bind (wpAny_standAt (wpAny_bind (a9 (turn n s hI) (fun r s₁ h₁=>?_))))
 match r,h₁ with
 | none,h₁=>exact wpAny_pure h₁
 | some v,h₁ =>
   refine wpAny_bind (a9 h₁ fun _ s₀ h₀=>wpAny_bind (a9 h₀ fun _ s₂ h₂=>wpAny_bind (a9 h₂ fun ok s₃ h₃=>?_)))
   match ok,h₃ with
   | false,h₃=>exact wpAny_pure ⟨rfl,h₃⟩
   | true,h₃=>exact wpAny_bind (a9 h₃ fun x s₄ h₄=>wpAny_pure ⟨rfl,h₄⟩)
end
inductive wy (C:Cst) (kd:Kd) (env:Env) (Xm Z:List Addr) (Da:Addr) (io:HI) (s:Shared) (done:List D) (ro:Ro) (g':Sg) (s':Shared):Prop
 | mk (io':HI) (vs:Array Value) (x:eu C Xm io io' s s') (k:Sok C Z io' g' s') (hD:s'.heap.PlainList Da vs) (hL:f0 (VV C io' Z) io' s'.heap done vs.toList) (e:m6 C kd Z io' env ro s'.heap)
noncomputable def at6 (C:Cst) (A:Around) (kd:Kd) (env:Env) (Xm:List Addr) (Da:Addr) (ifs:List Expr) (inner:Sem Unit) (Bad:Str→Prop) (em:Em):Prop :=
 ∀ Z io s ro g ys g' done vs,em ro g = some (ys,g')→(∀ y,Bad y→ro.lookup y = none)→(∀ x∈Xm,x∈Z)→(∀ z,qm kd env z→z≠Da)→Sok C Z io g s→m6 C kd Z io env ro s.heap→s.heap.PlainList Da vs→f0 (VV C io Z) io s.heap done vs.toList→done.length + ys.length≤lim →
   wpAny (model C.prog C.w) A (gd ifs env) (fun ok s₃=>if ok = true then wpAny (model C.prog C.w) A inner (fun _ s'=>wy C kd env Xm Z Da io s (done++ys) ro g' s') noE s₃ else wy C kd env Xm Z Da io s (done++ys) ro g' s₃) noE s
theorem am5 {em:Em} {t:Expr} {base:Ro} {d:D} {ds:List D} {g:Sg} {r:List D × Sg} (h:o7 em t base (d::ds) g = some r) :
   ∃ b ys,tgt t d = some b∧∃ g1 zs g2,em (b++base) g = some (ys,g1)∧o7 em t base ds g1 = some (zs,g2)∧r = (ys++zs,g2):=by
 replace h:(match tgt t d with | none=>none | some b=>c7 (em (b++base) g) fun ys g=>c7 (o7 em t base ds g) fun zs g=>some (ys++zs,g)) = some r:=h
 induction hb:tgt t d using Option.casesOn with
 | none=>rw [hb] at h;exact a8 h
 | some b =>
   rw [hb] at h
   refine ze2a (b8 h) fun ys g1 h1 h=>?_
   refine ze2a (b8 h) fun zs g2 h2 h=>?_
   exact ⟨b,ys,rfl,g1,zs,g2,h1,h2,(Option.some.inj h).symm⟩
section
variable {A:Around} {Z:List Addr} {io:HI} {kd:Kd} {env:Env} {ro:Ro} {g g':Sg} {F Xm Xt:List Addr} {s s' s₁ s₃:Shared} {Da:Addr}
theorem m6.touch (e:m6 C kd Z io env ro s.heap) (t:aw F s s') (hF:∀ f∈F,f∈Z) (hn:∀ z,qm kd env z→z∉F):m6 C kd Z io env ro s'.heap :=
 e.move (fun a o ha hv=>⟨t.keep a o ha fun hm=>hv (by unfold VV;exact List.mem_append_right _ (hF a hm)),hv⟩) (fun _ _ e=>e) fun z o hz ho=>⟨t.keep z o ho (hn z hz),e.inZ hz⟩
inductive cm3 (C:Cst) (kd:Kd) (env:Env) (Xm Z wr:List Addr) (Da:Addr) (io:HI) (s₁:Shared) (St:Nat→Heap→Prop) (P:List D→Sg→Option (List D × Sg)) (ds tot:List D) (ro:Ro) (g':Sg) (n:Nat) (s:Shared):Prop
 | mk (io':HI) (gi:Sg) (i:Nat) (done rest:List D) (vs:Array Value) (hn:n + i = ds.length + 1) (hi:i≤ds.length) (x:eu C Xm io io' s₁ s) (k:Sok C (wr++Z) io' gi s) (hs:St i s.heap) (hD:s.heap.PlainList Da vs)
   (hL:f0 (VV C io' (wr++Z)) io' s.heap done vs.toList) (e:m6 C kd (wr++Z) io' env ro s.heap) (hr:P (ds.drop i) gi = some (rest,g')) (hy:tot = done++rest)
theorem ai4 {elt t:Expr} {gens:List Comprehension} {sc:Scope} {pos p:Pos} {depth:Nat} {ifs:List Expr} {inner:Sem Unit} {ns:List Str} {Bad:Str→Prop} {em:Em} {lv:Nat} {Z1 fp wr:List Addr} {ds ys done:List D} {I:Addr} {St:Nat→Heap→Prop} {vs:Array Value} {R:Result→Shared→Prop}
   (ha:AOk A lv) (he:compTurn (.ListComp elt gens sc pos) depth (.ref I) (.ref Da) env = pq (.ListComp elt gens sc pos) depth p t ifs inner (.ref I) (.ref Da) env)
   (hns:fq t = some ns) (tk:aa3 kd env Xt ns) (hbase:∀ y∈ns,ro.lookup y = none) (bad:∀ y,Bad y→y∉ns∧ro.lookup y = none) (inn:at6 C A kd env Xm Da ifs inner Bad em)
   (W:bb4 C A t io Z1 ds s₁ I fp wr St) (hw:∀ b∈wr,s₁.heap.get? b = none) (hwz:∀ b∈wr,b∉Z) (hf:∀ b∈fp,b∈wr∨∃ o,s₁.heap.get? b = some o∧b∉C.vt∧b∉adr io∧b∉Xm) (hal:∀ i h,St i h→∀ b∈wr,∃ o,h.get? b = some o)
   (hZ:∀ z∈Z,z∈Z1∨s₁.heap.get? z = none) (hX:∀ x∈Xm,x∈Z) (hDa:Da∈Xm) (hDt:Da∉Xt) (hXt:∀ x∈Xt,x∈Xm) (hin:∀ z,qm kd env z→z∈Z∧z≠Da)
   (x3:eu C Xm io io s₁ s₃) (k3:Sok C (wr++Z) io g s₃) (e3:m6 C kd (wr++Z) io env ro s₃.heap) (hst:St 0 s₃.heap) (hD:s₃.heap.PlainList Da vs) (hL:f0 (VV C io (wr++Z)) io s₃.heap done vs.toList)
   (hrun:o7 em t ro ds g = some (ys,g')) (hlen:(done++ys).length≤lim)
   (hR:∀ s',wy C kd env Xm Z Da io s₁ (done++ys) ro g' s'→R (.ok .next) s') :
   codeAny (model C.prog C.w) A (.compLoop (.ListComp elt gens sc pos) depth (.ref I) (.ref Da) env) R s₃:=by
 have hX1:∀ x∈Xm,x∈Z1∨s₁.heap.get? x = none:=fun x hx=>hZ x (hX x hx)
 have hZ1:∀ z∈wr++Z,z∈Z1∨s₁.heap.get? z = none:=fun z hz=>(List.mem_append.mp hz).elim (fun h=>.inr (hw z h)) (hZ z)
 have subw:∀ b∈wr,b∈wr++Z:=fun b hb=>List.mem_append_left _ hb
 have subX:∀ b∈Xm,b∈wr++Z:=fun b hb=>List.mem_append_right _ (hX b hb)
 have fpX:∀ b∈fp,b∉Xm:=fun b hb hm=>by
   rcases hf b hb with h | ⟨o,_,_,_,h⟩
   · exact hwz b h (hX b hm)
   · exact h hm
 have fpk:∀ {io':HI} {s:Shared} {gi:Sg},eu C Xm io io' s₁ s→Sok C (wr++Z) io' gi s→∀ b∈fp,b∉C.vt∧b∉adr io':=fun {io' s gi} x k b hb=>by
   rcases hf b hb with h | ⟨o,e,h1,h2,h3⟩
   · exact ⟨(k.zd b (subw b h)).1,(k.zd b (subw b h)).2.1⟩
   · refine ⟨h1,fun hm=>?_⟩
     rcases x.fresh b hm with h | h
     · exact h2 h
     · rw [e] at h;exact a8 h.symm
 have hinw:∀ z,qm kd env z→z∉wr:=fun z hz hm=>hwz z hm (hin z hz).1
 refine wt he (cm3 C kd env Xm Z wr Da io s₁ St (o7 em t ro) ds (done++ys) ro g') ?_ (ds.length + 1) ⟨io,g,0,done,ys,vs,rfl,Nat.zero_le _,x3,k3,hst,hD,hL,e3,hrun,rfl⟩
 rintro n s ⟨io',gi,i,dn,rest,vs',hni,hi,x,k,hs,hDi,hLi,ei,hr,hy⟩
 have nD:Da∉wr:=fun hm=>hwz _ hm (hX _ hDa)
 by_cases hlt:i < ds.length
 · refine a9 (W.turn i s (fun v s₀=>wpAny (model C.prog C.w) A (assign t env v) (fun _ s₂=>wpAny (model C.prog C.w) A (gd ifs env) (fun ok s₃=>if ok = true then wpAny (model C.prog C.w) A inner (fun _ s₅=>∃ m,m < n∧cm3 C kd env Xm Z wr Da io s₁ St (o7 em t ro) ds (done++ys) ro g' m s₅) noE s₃ else ∃ m,m < n∧cm3 C kd env Xm Z wr Da io s₁ St (o7 em t ro) ds (done++ys) ro g' m s₃) noE s₂) noE s₀) hlt hs fun v h' tk' it hs' hk'=>?_) fun r s2 h2=>?_
   · obtain ⟨d,hd,hv⟩:=it
     have tw:aw wr s { s with heap:=h',toks:=tk' }:=⟨⟨h',tk',rfl⟩,fun b o e hb=>hk' b o hb e,fun b hb J=>hal _ _ hs' b hb⟩
     have x1:=x.touch tw fun f hf=>.inr (hw f hf)
     have k1:=tw.sok subw k
     have L1:=tw.hasL subw hLi
     have e1:=ei.touch tw subw hinw
     have D1:Heap.PlainList h' Da vs':=hDi.at fun o e=>tw.keep _ o e nD
     have hdv:Has (VV C io' (wr++Z)) io' h' d v:=hv _ io' (fun a o e ha=>by
       refine za (x.at hX1 hZ1 a o e ha) fun q1 q2=>?_
       exact ⟨tw.keep a o q1 fun hm=>q2 (by unfold VV;exact List.mem_append_right _ (subw a hm)),q2⟩) x.pre fun a h=>sm k h
     have hdrop:ds.drop i = d::ds.drop (i + 1):=by
       rw [List.drop_eq_getElem_cons hlt]
       rw [List.getElem?_eq_getElem hlt] at hd
       rw [Option.some.inj hd]
     rw [hdrop] at hr
     refine ze2a (am5 hr) fun b zs hb q=>?_
     refine ze3a2 q fun g1 rs g2 hem hrest hfin=>?_
     injection hfin with f1 f2
     subst f1;subst f2
     refine bo4 (s:={ s with heap:=h',toks:=tk' }) ha.hh hns hb tk e1 hbase hdv fun a s3 haX haZ t3 e3=>?_
     have one:∀ f∈[a],f = a:=fun f hf=>List.mem_singleton.mp hf
     have sub1:∀ f∈[a],f∈wr++Z:=fun f hf=>one f hf ▸ haZ
     have x3':=x1.touch t3 fun f hf=>.inl (one f hf ▸ hXt a haX)
     have k3':=t3.sok sub1 k1
     have L3:=t3.hasL sub1 L1
     have D3:s3.heap.PlainList Da vs':=D1.at fun o e=>t3.keep _ o e fun hm=>hDt (one _ hm ▸ haX)
     have st3:St (i + 1) s3.heap:=W.frame _ _ _ hs' fun b hb o e=>t3.keep b o e fun hm=>fpX b hb (one b hm ▸ hXt a haX)
     have badb:∀ y,Bad y→(b++ro).lookup y = none:=fun y hy=>by
       refine za (bad y hy) fun h1 h2=>?_
       rw [cw,h2]
       induction hb':b.lookup y using Option.casesOn with
       | none=>rfl
       | some d'=>exact absurd (xq hb hns hb') h1
     have fin:∀ s5,wy C kd env Xm (wr++Z) Da io' s3 (dn++zs) (b++ro) g1 s5→∃ m,m < n∧cm3 C kd env Xm Z wr Da io s₁ St (o7 em t ro) ds (done++ys) ro g' m s5:=by
       rintro s5 ⟨io5,vs5,x5,k5,D5,L5,e5⟩
       refine ⟨n - 1,by lia,io5,g1,i + 1,dn++zs,rs,vs5,by lia,by lia,x3'.trans x5,k5,W.frame _ _ _ st3 fun b' hb' o e=>x5.keep b' o e (fpk x3' k3' b' hb').1 (fpk x3' k3' b' hb').2 (fpX b' hb'),D5,L5,e5.sub fun y d' hy=>?_,hrest,by rw [hy,List.append_assoc]⟩
       rw [cw,hy]
       induction hb':b.lookup y using Option.casesOn with
       | none=>rfl
       | some d2 =>
         rw [hbase y (xq hb hns hb')] at hy
         exact a8 hy
     refine a9 (inn (wr++Z) io' s3 (b++ro) gi zs g1 dn vs' hem badb subX (fun z hz=>(hin z hz).2) k3' e3 D3 L3 ?_) fun ok s4 h4=>?_
     · have:(dn++(zs++rs)).length≤lim:=hy ▸ hlen
       rw [List.length_append,List.length_append] at this
       lia
     · induction ok using Bool.casesOn with
       | false =>
         rw [if_neg (by decide)] at h4 ⊢
         exact fin _ h4
       | true =>
         rw [if_pos rfl] at h4 ⊢
         exact a9 h4 fun _ s5 h5=>fin _ h5
   · refine zea h2 fun v hv q=>?_
     subst hv
     exact q
 · have hin':i = ds.length:=by lia
   subst hin'
   refine W.done _ _ hs fun hp tkp hkp=>?_
   rw [List.drop_length] at hr
   injection (show some (([]:List D),gi) = some (rest,g') from hr) with hr
   injection hr with r1 r2
   subst r1;subst r2
   rw [List.append_nil] at hy
   have hsame:∃ h' tk,({ s with heap:=hp,toks:=tkp }:Shared) = { s with heap:=h',toks:=tk }:=⟨hp,tkp,rfl⟩
   have keep:∀ b o,s.heap.get? b = some o→b∉wr→hp.get? b = some o:=fun b o e hb=>hkp b o hb e
   rw [hy] at hR
   exact hR _ ⟨io',vs',x.drop hsame keep hw,Sok.drop (F:=wr) k hsame keep hwz,hDi.at fun o e=>keep _ o e nD,f0.drop (F:=wr) (s':={ s with heap:=hp,toks:=tkp }) hLi keep,
     ei.move (fun a o e hv=>by
       unfold VV at hv ⊢
       simp only [List.mem_append,not_or] at hv ⊢
       exact ⟨keep a o e hv.2.1,hv.1,hv.2.2⟩) (fun _ _ e=>e) fun z o hz e=>⟨keep z o e (hinw z hz),(hin z hz).1⟩⟩
end
end Mine
namespace Mine
variable {C:Cst}
inductive bw (C:Cst) (A:Around) (t:Expr) (X Z:List Addr) (io:HI) (s:Shared) (ds:List D) (g':Sg) (v:Value) (s':Shared):Prop
 | mk (io':HI) (s1:Shared) (x:q0 C io io' s s1) (k:Sok C Z io' g' s1) (h:wpAny (model C.prog C.w) A (pyIter v) (fun it s''=>cu5 C A t X Z io' ds s1 it s'') noE s')
theorem bw.of {A:Around} {t:Expr} {X Z:List Addr} {io io':HI} {s s':Shared} {ds:List D} {g':Sg} {v:Value} (x:q0 C io io' s s') (k:Sok C Z io' g' s') (h:wpAny (model C.prog C.w) A (pyIter v) (fun it s''=>Src C A X Z io' ds s' it s'') noE s'):bw C A t X Z io s ds g' v s' :=
 ⟨io',s',x,k,a9 h fun _ _ h=>h.f⟩
section
variable {lv:Nat} {A:Around} {Z:List Addr} {io:HI} {g:Sg} {s:Shared}
theorem d9 (h:Heap):h.get? h.objs.size = none:=by
 induction e:h.get? h.objs.size using Option.casesOn with
 | none=>rfl
 | some o=>exact absurd (Heap.lt_size e) (Nat.lt_irrefl _)
theorem qt {h:Heap} {I l:Addr} {i:Nat} (x:h.IsListIter I l i):lw h I:=let ⟨o,e,c,d⟩:=x;⟨_,o,_,e,c,d,by decide⟩
theorem lr {X:List Addr} {ds:List D} {a:Addr} {vs:Array Value} (ha:AOk A lv) (hl:ds.length≤lim) (hv:a∉VV C io X) (hp:s.heap.PlainList a vs) (hs:f0 (VV C io Z) io s.heap ds vs.toList) :
   wpAny (model C.prog C.w) A (pyIter (.ref a)) (fun it s''=>Src C A X Z io ds s it s'') noE s:=by
 have hp':=hp
 refine ze hp' fun n e=>?_;clear hp'
 have hlt:=Heap.lt_size e
 have hil:s.heap.IsList a vs:=⟨_,e,rfl,n,rfl⟩
 refine wpAny_pyIter_list hil ?_
 have hn:=f0.length hs
 simp only [Array.length_toList] at hn
 refine ⟨_,_,[s.heap.objs.size],_,_,rfl,hn ▸ Walks.list ha.hh s.heap.objs.size a (Nat.ne_of_lt hlt) vs,⟨⟨_,Heap.get?_push_size _ rfl,rfl,rfl⟩,hil.push _⟩,Keeps.push (k:=s.toks),fun b hb=>?_,fun b hb=>?_,fun i v hi hv'=>?_,hl,fun i h st b hb=>?_,fun i h st=>qt st.1⟩
 · simp only [List.mem_singleton] at hb;subst hb
   exact ⟨d9 _,_,Heap.get?_push_size _ rfl⟩
 · rcases List.mem_cons.mp hb with rfl | hb
   · exact .inl (.head _)
   · simp only [List.mem_singleton] at hb;subst hb
     exact .inr ⟨_,e,hv⟩
 · refine zea (f0.get hs (List.getElem?_eq_getElem hi)) fun v' h1 h2=>?_
   rw [Array.getElem?_toList,hv',Option.some.injEq] at h1
   subst h1
   exact ⟨_,List.getElem?_eq_getElem hi,h2⟩
 · simp only [List.mem_singleton] at hb;subst hb
   refine zea st.1 fun o e J=>?_;exact ⟨o,e⟩
theorem bc8 {ds:List D} {v:Value} (ha:AOk A lv) (h:Has (VV C io Z) io s.heap (.lst ds) v) :
   wpAny (model C.prog C.w) A (pyIter v) (fun it s''=>Src C A Z Z io ds s it s'') noE s:=by
 refine zae2a3 h fun hl a vs e3q hv hp hs=>?_;clear h;subst e3q
 exact lr ha hl hv hp hs
theorem ap8 {x:Str} {i:Nat} {c:Nat} (h:x.cps[i]? = some c):(ra x)[i]? = some (.str ⟨#[c]⟩):=by
 unfold ra
 rw [List.getElem?_map,Array.getElem?_toList,h];rfl
theorem bn7 {x:Str} {v:Value} (ha:AOk A lv) (h:Has (VV C io Z) io s.heap (.str x) v) :
   wpAny (model C.prog C.w) A (pyIter v) (fun it s''=>Src C A Z Z io (ra x) s it s'') noE s:=by
 refine zae h fun hl t e2q=>?_;clear h;subst e2q
 have hsz:(ra x).length = x.cps.size:=by simp [ra]
 have go:∀ (o:Obj) (St:Nat→Heap→Prop),Walks C.prog C.w A s.heap.objs.size [s.heap.objs.size] [s.heap.objs.size] x.cps.size (SignAt x) St→St 0 (s.heap.push o)→o.isFreed = false→(∀ i h,St i h→lw h s.heap.objs.size) →
     Src C A Z Z io (ra x) s (.ref s.heap.objs.size) { s with heap:=s.heap.push o }:=fun o St hW hst ho hal=>by
   refine ⟨_,_,[s.heap.objs.size],_,_,rfl,hsz.symm ▸ hW,hst,Keeps.push (k:=s.toks),fun b hb=>?_,fun b hb=>?_,fun i v hi hv'=>?_,by rw [hsz];exact hl,fun i h st b hb=>?_,fun i h st=>hal i h st⟩
   · simp only [List.mem_singleton] at hb;subst hb
     exact ⟨d9 _,_,Heap.get?_push_size _ ho⟩
   · exact .inl hb
   · refine ze2a hv' fun c u hc e3q=>?_;clear hv';subst e3q
     exact ⟨_,ap8 hc,by exact ⟨(by show 1≤lim;decide),u,rfl⟩⟩
   · simp only [List.mem_singleton] at hb;subst hb
     refine ze3a (hal _ _ st) fun J o J e J=>?_;exact ⟨o,e⟩
 induction hx:x.cps.all (· < 128) using Bool.casesOn
 · exact wpAny_pyIter_wide hx (go _ _ (Walks.strWide ha.hh _ x t) ⟨_,Heap.get?_push_size _ rfl,rfl,rfl⟩ rfl fun i h st=>let ⟨o,e,c,d⟩:=st;⟨_,o,_,e,c,d,by decide⟩)
 · exact wpAny_pyIter_ascii hx (go _ _ (Walks.strAscii ha.hh _ x t) ⟨_,Heap.get?_push_size _ rfl,rfl,rfl⟩ rfl fun i h st=>let ⟨o,e,c,d⟩:=st;⟨_,o,_,e,c,d,by decide⟩)
theorem yk {d:D} {ds:List D} {v:Value} (ha:AOk A lv) (hd:dc d = some ds) (h:Has (VV C io Z) io s.heap d v) :
   wpAny (model C.prog C.w) A (pyIter v) (fun it s''=>Src C A Z Z io ds s it s'') noE s:=by
 induction d using D.casesOn<;>first | exact a8 hd | (injection hd with hd;subst hd)
 · exact bn7 ha h
 · exact bc8 ha h
theorem aw3 {a b c:Int} {t u v:Tok} {r:Addr} {ds:List D} (ha:AOk A lv) (h:m5 a b c = some ds) (hr:IsRange s.heap r a b c t u v) :
   wpAny (model C.prog C.w) A (pyIter (.ref r)) (fun it s''=>Src C A Z Z io ds s it s'') noE s:=by
 unfold m5 at h
 split at h
 case isFalse=>injection h
 case isTrue hc =>
   simp only [Option.some.injEq] at h
   subst h
   simp only [Bool.and_eq_true,bne_iff_ne,ne_eq,Bool.not_eq_true',beq_iff_eq,decide_eq_true_eq] at hc
   refine za hc fun e0q hl=>?_;clear hc;obtain ⟨⟨⟨h0,hsm⟩,hpl⟩,hsz⟩:=e0q
   refine wpAny_pyIter_range hr hsm ?_
   refine ⟨_,_,[s.heap.objs.size],_,_,rfl,Walks.range ha.hh s.heap.objs.size a c _,?_,Keeps.push (k:=s.toks),fun b hb=>?_,fun b hb=>?_,fun i v hi hv'=>?_,hl,fun i h st b hb=>?_,fun i h st=>⟨_,_,_,st,rfl,rfl,by decide⟩⟩
   · have e1:(a + ((0:Nat):Int) * c) = a:=by simp
     have e2:(((nm a b c).length:Int) - ((0:Nat):Int)) = Builtin.Range.rangeSize a b c:=by rw [hsz];simp
     rw [e1,e2]
     exact Heap.get?_push_size _ rfl
   · simp only [List.mem_singleton] at hb;subst hb
     exact ⟨d9 _,_,Heap.get?_push_size _ rfl⟩
   · exact .inl hb
   · refine ze hv' fun t' e1q=>?_;clear hv';subst e1q
     refine ⟨.int (a + c * (i:Int)),?_,?_⟩
     · unfold nm at hi ⊢
       rw [List.length_map,List.length_range] at hi
       rw [List.getElem?_map,List.getElem?_range hi];rfl
     · exact ⟨t',by rw [Int.mul_comm]⟩
   · simp only [List.mem_singleton] at hb;subst hb
     exact ⟨_,st⟩
end
end Mine
namespace Mine
variable {C:Cst}
theorem im:∀ (l:List (Str × NameKind)) (n:Nat) (acc:List (Str × Addr)),cellsFrom n l acc = cellsFrom n (l.filter fun p=>p.2==.cell) acc
 | [],_,_=>rfl
 | (x,k)::r,n,acc=>by
   show (if (k==NameKind.cell) = true then cellsFrom (n + 1) r ((x,n)::acc) else cellsFrom n r acc) = _
   by_cases hk:(k==NameKind.cell) = true
   · rw [if_pos hk,List.filter_cons,if_pos hk,im r]
     exact (if_pos hk).symm
   · rw [if_neg hk,List.filter_cons,if_neg hk]
     exact im r n acc
theorem ju:∀ (l:List (Str × NameKind)) (h:Heap),pushCells h l = pushCells h (l.filter fun p=>p.2==.cell)
 | [],_=>rfl
 | (x,k)::r,h=>by
   show (if (k==NameKind.cell) = true then pushCells (h.push { cls:=.type "cell",data:=.cell none }) r else pushCells h r) = _
   by_cases hk:(k==NameKind.cell) = true
   · rw [if_pos hk,List.filter_cons,if_pos hk,ju r]
     exact (if_pos hk).symm
   · rw [if_neg hk,List.filter_cons,if_neg hk]
     exact ju r h
structure ScF (sc:Scope) (kd:Kd) (ns:List Str):Prop where
 fn:sc.kind = .function∧¬sc.names.lookup ("_split_list":Str) = some .globalImplicit
 loc:∀ y∈sc.names,y.2 = .local→sc.names.lookup y.1 = some .local
 free:∀ p∈sc.names,p.2 = .free→kd p.1 = some .cell∨kd p.1 = some .free
 tg:(sc.names.filter (fun p=>p.2==.cell) = []∧∀ y∈ns,sc.names.lookup y = some .local)∨∃ x,ns = [x]∧sc.names.filter (fun p=>p.2==.cell) = [(x,.cell)]∧sc.names.lookup x = some .cell
theorem ag9 {sc:Scope} {kd:Kd} {ns:List Str} (h:wu sc kd ns = true):ScF sc kd ns:=by
 unfold wu at h
 rw [Bool.and_eq_true,Bool.and_eq_true,Bool.and_eq_true,Bool.or_eq_true] at h
 refine za h fun h1 h4=>za h1 fun h1 h3=>za h1 fun h1 h2=>?_
 rw [List.all_eq_true] at h3
 refine ⟨⟨eq_of_beq h1,by simpa using h2⟩,fun y hy hl=>?_,fun p hp hf=>?_,?_⟩
 · have:=h3 y hy
   rw [Bool.and_eq_true] at this
   rcases Bool.or_eq_true_iff.mp this.1 with h | h
   · rw [hl] at h;exact absurd h (by decide)
   · exact eq_of_beq h
 · have:=h3 p hp
   rw [Bool.and_eq_true] at this
   rcases Bool.or_eq_true_iff.mp this.2 with h | h
   · rcases Bool.or_eq_true_iff.mp h with h | h
     · rw [hf] at h;exact absurd h (by decide)
     · exact .inl (eq_of_beq h)
   · exact .inr (eq_of_beq h)
 · rcases h4 with h | h
   · rw [Bool.and_eq_true,List.all_eq_true,List.isEmpty_iff] at h
     exact .inl ⟨h.1,fun y hy=>eq_of_beq (h.2 y hy)⟩
   · rcases ns with _ | ⟨x,_ | ⟨y,r⟩⟩
     · injection h
     · replace h:(aq8 sc x&&sc.names.lookup x==some .cell) = true:=h
       rw [Bool.and_eq_true] at h
       exact .inr ⟨x,rfl,eq_of_beq h.1,eq_of_beq h.2⟩
     · injection h
structure bh7 (sc:Scope) (ns:List Str) (cl cs:List (Str × Addr)) (h h':Heap) (c:List Addr):Prop where
 keep:∀ b o,h.get? b = some o→h'.get? b = some o
 fresh:∀ a∈c,h.get? a = none∧∃ o,h'.get? a = some o
 old:∀ y,sc.names.lookup y = some .free→cs.lookup y = cl.lookup y
 cel:∀ y,sc.names.lookup y = some .cell→∃ a,cs.lookup y = some a∧h'.IsCell a none∧a∈c
 tg:(∀ y∈ns,sc.names.lookup y = some .local)∨∃ x a,ns = [x]∧sc.names.lookup x = some .cell∧cs.lookup x = some a∧a∈c∧∀ y,sc.names.lookup y = some .cell→y = x
theorem be1 {sc:Scope} {kd:Kd} {ns:List Str} (sf:ScF sc kd ns) (h:Heap) (cl:List (Str × Addr)):∃ c,bh7 sc ns cl (cellsFrom h.objs.size sc.names cl) h (pushCells h sc.names) c:=by
 have inF:∀ {y},sc.names.lookup y = some .cell→(y,NameKind.cell)∈sc.names.filter (fun p=>p.2==.cell):=fun hy=>List.mem_filter.mpr ⟨dq hy,rfl⟩
 rw [im,ju]
 rcases sf.tg with ⟨e,ht⟩ | ⟨x,hn,e,hx⟩
 · rw [e]
   refine ⟨[],fun b o e=>e,(fun a ha=>by cases ha),fun y hy=>rfl,fun y hy=>?_,.inl ht⟩
   have:=inF hy
   rw [e] at this;cases this
 · rw [e]
   have hone:∀ y,sc.names.lookup y = some .cell→y = x:=fun y hy=>by
     have:=inF hy
     rw [e] at this
     exact congrArg Prod.fst (List.mem_singleton.mp this)
   show ∃ c,bh7 sc ns cl ((x,h.objs.size)::cl) h (h.push { cls:=.type "cell",data:=.cell none }) c
   refine ⟨[h.objs.size],fun b o e=>Heap.get?_push_of_some _ e,fun a ha=>?_,fun y hy=>u6 ?_,fun y hy=>?_,.inr ⟨x,h.objs.size,hn,hx,bu (beq_self_eq_true _),.head _,hone⟩⟩
   · have ea:=List.mem_singleton.mp ha
     subst ea
     exact ⟨d9 _,_,Heap.get?_push_size _ rfl⟩
   · refine Bool.eq_false_iff.mpr fun e=>?_
     rw [eq_of_beq e,hx] at hy;injection hy with hy;injection hy
   · have ey:=hone y hy
     subst ey
     exact ⟨_,bu (beq_self_eq_true _),⟨_,Heap.get?_push_size _ rfl,rfl⟩,.head _⟩
theorem aa8 {M:Model} {A:Around} {E:Value→Shared→Prop} {s:Shared} {sc:Scope} {gl:Addr} {cl:List (Str × Addr)} {q:Str} {env:Env} {Q:Env→Shared→Prop}
   (h:Q (newEnv sc s.heap.objs.size gl (cellsFrom (s.heap.push { cls:=.type "dict",data:=.dict #[] }).objs.size sc.names cl) q none .none (some env) builtinsNs) { s with heap:=pushCells (s.heap.push { cls:=.type "dict",data:=.dict #[] }) sc.names }) :
   wpAny M A (newFunctionEnv sc gl cl [] q none .none (some env)) Q E s:=by
 unfold newFunctionEnv
 refine wpAny_bind (wpAny_alloc ?_)
 refine wpAny_bind (wpAny_layCells _ (fun name kind cells=>by cases hkc:kind==NameKind.cell<;>simp [hkc]) _ _ _ _ ?_)
 exact wpAny_bind (wpAny_pure (wpAny_pure h))
theorem cj {iter:Expr} {env:Env} (hs:∀ elts k p,iter≠.Set elts k p) (v:Value):foldedSetIterable iter env v = pure v:=by
 induction iter using Expr.casesOn<;>first | rfl | exact absurd rfl (hs _ _ _)
section
variable {lv:Nat} {A:Around} {Z:List Addr} {io:HI} {kd:Kd} {env:Env} {ro:Ro} {g0 g g':Sg} {s:Shared}
noncomputable def ck7 (elt:Expr) (Da:Addr) (env:Env):Sem Unit:=eval elt env >>= fun x=>call (.builtin "list.append") [.ref Da,x] >>= fun _=>pure ()
theorem be6 {elt t iter:Expr} {ifs:List Expr} {scope:Scope} {pos:Pos} {it:Value} {Da:Addr} {env:Env} :
   compTurn (.ListComp elt [⟨t,iter,ifs,0⟩] scope pos) 0 it (.ref Da) env = pq (.ListComp elt [⟨t,iter,ifs,0⟩] scope pos) 0 iter.pos t ifs (ck7 elt Da env) it (.ref Da) env:=rfl
theorem bd5 {elt t iter:Expr} {g1:Comprehension} {ifs:List Expr} {scope:Scope} {pos:Pos} {it:Value} {Da:Addr} {env:Env} :
   compTurn (.ListComp elt [g1,⟨t,iter,ifs,0⟩] scope pos) 1 it (.ref Da) env = pq (.ListComp elt [g1,⟨t,iter,ifs,0⟩] scope pos) 1 iter.pos t ifs (ck7 elt Da env) it (.ref Da) env:=rfl
noncomputable def cq7 (e iu:Expr) (Da:Addr) (env:Env):Sem Unit :=
 eval iu env >>= fun x=>standAt iu.pos >>= fun _=>foldedSetIterable iu env x >>= fun x=>holding [x] (pyIter x) >>= fun it=>runOwn (.compStart e 1 it (.ref Da) env) env >>= fun _=>pure ()
theorem bd8 {elt t u it0 iu:Expr} {ifs ifs2:List Expr} {scope:Scope} {pos:Pos} {it:Value} {Da:Addr} {env:Env} :
   compTurn (.ListComp elt [⟨t,it0,ifs,0⟩,⟨u,iu,ifs2,0⟩] scope pos) 0 it (.ref Da) env = pq (.ListComp elt [⟨t,it0,ifs,0⟩,⟨u,iu,ifs2,0⟩] scope pos) 0 it0.pos t ifs (cq7 (.ListComp elt [⟨t,it0,ifs,0⟩,⟨u,iu,ifs2,0⟩] scope pos) iu Da env) it (.ref Da) env:=by
 unfold pq cq7
 simp only [bind_assoc]
 rfl
theorem av4 {elt:Expr} {ifs:List Expr} {tr el:Ro→Sg→Option (D × Sg)} {Xm:List Addr} {Da:Addr} {cenv:Env} {kd':Kd} {Bad:Str→Prop} (hDa:Da∈Xm)
   (htr:∀ ro g b g',tr ro g = some (.bool b,g')→∀ env' Z' io' s,m6 C kd' Z' io' env' ro s.heap→Sok C Z' io' g s→wpAny (model C.prog C.w) A (gd ifs env') (vo C Z' io' s b g') noE s)
   (hel:∀ ro g d g',el ro g = some (d,g')→∀ env' Z' io' s,m6 C kd' Z' io' env' ro s.heap→Sok C Z' io' g s→wpAny (model C.prog C.w) A (eval elt env') (ff C Z' io' s d g') noE s) :
   at6 C A kd' cenv Xm Da ifs (ck7 elt Da cenv) Bad (emK tr el):=by
 intro Z io s ro g ys g' done vs hem _ hX hin k e hD hL hlen
 refine ze2a (b8 hem) fun ok g1 h1 h2=>?_
 have pD:∀ {io1:HI} {s1:Shared},q0 C io io1 s s1→s1.heap.PlainList Da vs:=fun x=>hD.at fun o e=>x.keep _ o e (k.zd _ (hX _ hDa)).1 (k.zd _ (hX _ hDa)).2.1
 induction ok using D.casesOn with
 | bool b =>
   refine a9 (htr _ _ _ _ h1 cenv Z io s e k) ?_
   rintro ok' s1 ⟨e1,io1,x1,k1⟩
   subst e1
   induction ok' using Bool.casesOn with
   | false =>
     rw [if_neg (by decide)]
     apply i2 (show some (([]:List D),g1) = some (ys,g') from h2)
     rw [List.append_nil]
     exact ⟨io1,vs,x1.gx,k1,pD x1,x1.hasL C hL,x1.env k e⟩
   | true =>
     rw [if_pos rfl]
     refine ze2a (b8 (show c7 (el ro g1) (fun y g=>some ([y],g)) = some (ys,g') from h2)) fun y g2 h3 h4=>?_
     injection h4 with h4;injection h4 with h4 h5;subst h4;subst h5
     refine wpAny_bind (a9 (hel _ _ _ _ h3 cenv Z io1 s1 (x1.env k e) k1) ?_)
     rintro yv s2 ⟨io2,x2,k2,hy⟩
     have x12:=x1.trans C x2
     have L2:=x12.hasL C hL
     have hvn:=f0.length L2
     rw [Array.length_toList] at hvn
     refine wpAny_bind (wpAny_list_append_plain (pD x12) (fun h3' D3 hs3=>wpAny_pure ?_) (by have:=cq;rw [List.length_cons,List.length_nil] at hlen;lia))
     have t3:aw [Da] s2 { s2 with heap:=h3' }:=aw.same_but (tk:=s2.toks) hs3 (let ⟨n,e⟩:=D3;⟨_,e⟩)
     have one:∀ f∈[Da],f = Da:=fun f hf=>List.mem_singleton.mp hf
     have sub1:∀ f∈[Da],f∈Z:=fun f hf=>one f hf ▸ hX _ hDa
     refine ⟨io2,_,x12.gx.touch t3 fun f hf=>.inl (one f hf ▸ hDa),t3.sok sub1 k2,D3,?_,(x12.env k e).touch t3 sub1 fun z hz hm=>hin z hz (one z hm)⟩
     rw [Array.toList_push]
     exact f0.append (t3.hasL sub1 L2) (show Exists _ from ⟨yv,[],rfl,t3.has sub1 hy,rfl⟩)
 | _=>exact a8 h2
theorem bb5 {elt t iter:Expr} {g1:Comprehension} {scope:Scope} {pos:Pos} {acc:Value} {env:Env} {it:Value} {R:Result→Shared→Prop}
   (h0:codeAny (model C.prog C.w) A (.compLoop (.ListComp elt [g1,⟨t,iter,[],0⟩] scope pos) 1 it acc env) R s)
   (h:wpAny (model C.prog C.w) A (pyIter it) (fun it' s'=>codeAny (model C.prog C.w) A (.compLoop (.ListComp elt [g1,⟨t,iter,[],0⟩] scope pos) 1 it' acc env) R s') noE s) :
   codeAny (model C.prog C.w) A (.compStart (.ListComp elt [g1,⟨t,iter,[],0⟩] scope pos) 1 it acc env) R s:=by
 refine codeAny_of_tree ?_
 show wpAny _ _ ((compStart (.ListComp elt [g1,⟨t,iter,[],0⟩] scope pos) 1 it acc env).onRaise (fun x=>do noteFrame x env;standAt theWindowsPlace)) _ _ s
 refine wpAny_notedAt ?_
 unfold compStart
 show wpAny _ _ (ask >>= _) _ _ s
 refine wpAny_bind (wpAny_askSetting (wpAny_ite ?_))
 split
 · first
     | exact wpAny_bind (wpAny_pure (wpAny_pure (And.intro rfl h0)))
     | exact wpAny_pure (And.intro rfl h0)
 · first
     | exact wpAny_bind (wpAny_rule (wpAny_bind (wpAny_standAt (wpAny_bind (a9 h (fun it' s' h'=>wpAny_pure (And.intro rfl h')))))))
     | (refine wpAny_bind (wpAny_rule ?_);show wpAny _ _ (standAt iter.pos >>= _) _ _ s;exact wpAny_bind (wpAny_standAt (wpAny_bind (a9 h (fun it' s' h'=>wpAny_pure (And.intro rfl h'))))))
theorem ct4 {elt t iter:Expr} {g1:Comprehension} {scope:Scope} {pos:Pos} {Xm Xt:List Addr} {Da:Addr} {cenv:Env} {kd':Kd} {y:Str} {py:Pos} {src:Ro→Sg→Option (List D × Sg)} {em:Em} {Bad:Str→Prop}
   (ha:AOk A lv) (hDa:Da∈Xm) (hDt:Da∉Xt) (hXt:∀ x∈Xt,x∈Xm) (ht:t = .Name y py) (tk:aa3 kd' cenv Xt [y]) (bad:∀ z,z = y→Bad z)
   (hsrc:∀ ro g ds g',src ro g = some (ds,g')→(∀ env' Z' io' s,m6 C kd' Z' io' env' ro s.heap→Sok C Z' io' g s→wpAny (model C.prog C.w) A (eval iter env') (bw C A t Z' Z' io' s ds g') noE s)∧∀ elts k p,iter≠.Set elts k p)
   (inn:at6 C A kd' cenv Xm Da [] (ck7 elt Da cenv) (fun _=>False) em) :
   at6 C A kd' cenv Xm Da [] (cq7 (.ListComp elt [g1,⟨t,iter,[],0⟩] scope pos) iter Da cenv) Bad (fun ro g=>c7 (src ro g) fun es g=>o7 em t ro es g):=by
 intro Z io s ro g ys g' done vs hem hbad hX hin k e hD hL hlen
 refine ze2a (b8 hem) fun ds g2 h1 h2=>?_
 show wpAny _ _ (forIn [] true _) _ _ _
 rw [List.forIn_nil]
 refine wpAny_pure ?_
 rw [if_pos rfl]
 refine wpAny_bind (a9 ((hsrc _ _ _ _ h1).1 cenv Z io s e k) ?_)
 rintro v s' ⟨io1,s1,x1,k1,hsrc'⟩
 refine wpAny_bind (wpAny_standAt (wpAny_bind (wpAny_of_eq (cj (hsrc _ _ _ _ h1).2 v) (wpAny_bind (wpAny_holding (a9 hsrc' fun it s2 sf=>?_))))))
 refine wpAny_bind (wpAny_runOwn ?_)
 obtain ⟨I,fp,wr,St,e0,W,hst,k12,hwr,hfp,hlen',hal⟩:=sf
 subst e0
 have hwz:∀ b∈wr,b∉Z:=fun b hb hm=>by
   refine ze (k1.zal b hm) fun o e=>?_
   rw [(hwr b hb).1] at e;exact a8 e
 have e1:=x1.env k e
 have move:∀ a o,s1.heap.get? a = some o→a∉VV C io1 Z→s2.heap.get? a = some o∧a∉VV C io1 (wr++Z):=(Keeps.grow C k12).gx (X:=[]).at (fun f hf=>by cases hf) fun z hz=>(List.mem_append.mp hz).elim (fun h=>.inr (hwr z h).1) .inl
 have D1:s1.heap.PlainList Da vs:=hD.at fun o e=>x1.keep _ o e (k.zd _ (hX _ hDa)).1 (k.zd _ (hX _ hDa)).2.1
 have kk:∀ b o,s1.heap.get? b = some o→s2.heap.get? b = some o:=fun b o e=>by
   refine ze2a k12 fun h' tk e2q hkk=>?_
   subst e2q;exact hkk b o e
 have loop:∀ s3,s3 = s2→codeAny (model C.prog C.w) A (.compLoop (.ListComp elt [g1,⟨t,iter,[],0⟩] scope pos) 1 (.ref I) (.ref Da) cenv) (fun r s'=>match r with | .ok f=>wpAny (model C.prog C.w) A (pure ():Sem Unit) (fun _ s'=>wy C kd' cenv Xm Z Da io s (done++ys) ro g' s') noE s' | .error e=>cameBackBy (model C.prog C.w) A cenv noE e s') s3:=by
   intro s3 e3
   subst e3
   refine ai4 (Z:=Z) (Xm:=Xm) (Xt:=Xt) (s₁:=s1) (ro:=ro) (done:=done) (ys:=ys) (g':=g') ha bd5 (ht ▸ rfl) tk (fun z hz=>hbad z (bad z (List.mem_singleton.mp hz))) (fun z hz=>hz.elim) inn W (fun b hb=>(hwr b hb).1) hwz (fun b hb=>?_) hal (fun z hz=>.inl hz) hX hDa hDt hXt (fun z hz=>⟨e.inZ hz,hin z hz⟩)
     (Keeps.grow C k12).gx (Sok.more_many k1 k12 hwr) (e1.move move (fun _ _ e=>e) fun z o hz e=>⟨kk z o e,List.mem_append_right _ (e1.inZ hz)⟩) hst (D1.at fun o e=>kk _ o e) (f0.mono move (fun _ _ e=>e) (x1.hasL C hL)) h2 (by rw [List.length_append];exact hlen) fun s' p=>wpAny_pure ?_
   · rcases hfp b hb with h | ⟨o,e,hv⟩
     · exact .inl h
     · unfold VV at hv
       simp only [List.mem_append,not_or] at hv
       exact .inr ⟨o,e,hv.1.1,hv.1.2,fun hm=>hv.2 (hX b hm)⟩
   · obtain ⟨io5,vs5,x5,k5,D5,L5,e5⟩:=p
     exact ⟨io5,vs5,x1.gx.trans x5,k5,D5,L5,e5⟩
 exact bb5 (loop _ rfl) (W.self 0 _ _ hst (loop _ rfl))
theorem aw2 {X:List Addr} {elt iter t:Expr} {ns:List Str} {ifs:List Expr} {rest:List Comprehension} {scope:Scope} {pos pos':Pos} {ds ys:List D} {em:Em} {Bad:Str→Prop} {nt:List Str} {use:Option (Value→Sem Unit)} {Q:Value→Shared→Prop} {inner:Addr→Env→Sem Unit}
   (ha:AOk A lv) (hk:Sok C Z io g0 s) (he:m6 C kd Z io env ro s.heap)
   (hit:wpAny (model C.prog C.w) A (eval iter env) (bw C A t X Z io s ds g) noE s) (hs:∀ x,foldedSetIterable iter env x = pure x)
   (sf:ScF scope kd nt) (hns:fq t = some ns) (hnt:∀ y∈ns,y∈nt) (hone:nt.length = 1→ns = nt)
   (hturn:∀ it Da cenv,compTurn (.ListComp elt (⟨t,iter,ifs,0⟩::rest) scope pos) 0 it (.ref Da) cenv = pq (.ListComp elt (⟨t,iter,ifs,0⟩::rest) scope pos) 0 iter.pos t ifs (inner Da cenv) it (.ref Da) cenv)
   (bad:∀ y,Bad y→y∉ns∧scope.names.lookup y = some .local)
   (inn:∀ Da Xt cenv,Da∉Xt→cenv.locals∈Xt→at6 C A (fun y=>scope.names.lookup y) cenv (Da::Xt) Da ifs (inner Da cenv) Bad em)
   (hrun:o7 em t (m9 scope ro) ds g = some (ys,g')) (hyl:ys.length≤lim)
   (hR:∀ D Cc s' io' m',q0 C io io' s s'→Sok C (Cc::Z) io' g' s'→Has (VV C io' (Cc::Z)) io' s'.heap (.lst ys) (.ref D)→s'.heap.Ns Cc m'→s.heap.get? Cc = none→compPost (model C.prog C.w) A noE use Q (.ref D) Cc (.ok .next) s') :
   wpAny (model C.prog C.w) A (comprehension (.ListComp elt (⟨t,iter,ifs,0⟩::rest) scope pos) scope env pos' (newList []) false (eval iter env) use) Q noE s:=by
 have hcl:closureFor scope env = pure (od env.cells scope.names []):=ki fun p hp hpf=>by
   refine ze2a (he.all p.1 (sf.free p hp hpf)) fun c v h1 _=>?_
   exact ⟨c,h1⟩
 refine wpAny_comprehension_free (by rfl) hs hcl sf.fn.1 sf.loc (a9 hit fun v s' h=>?_)
 obtain ⟨io1,s1,x1,k1,hsrc⟩:=h
 refine a9 hsrc fun it s2 src=>?_
 obtain ⟨I,fp,wr,St,e0,W,hst,k12,hwr,hfp,hlen,hal⟩:=src
 subst e0
 refine wpAny_newObj_type (aa8 ?_)
 dsimp only
 generalize hH2:s2.heap.push { cls:=.type "list",dict:=none,data:=.seq ([]:List Value).toArray } = H2
 generalize hH3:H2.push { cls:=.type "dict",data:=.dict #[] } = H3
 refine ze (be1 sf H3 (od env.cells scope.names [])) fun cs cf=>?_
 generalize cellsFrom H3.objs.size scope.names (od env.cells scope.names []) = cells at cf ⊢
 generalize pushCells H3 scope.names = H4 at cf ⊢
 generalize hDa:s2.heap.objs.size = Da
 generalize hCc:H2.objs.size = Cc
 have up2:∀ b o,s2.heap.get? b = some o→H3.get? b = some o:=fun b o e=>hH3 ▸ Heap.get?_push_of_some _ (hH2 ▸ Heap.get?_push_of_some _ e)
 have up4:∀ b o,s2.heap.get? b = some o→H4.get? b = some o:=fun b o e=>cf.keep b o (up2 b o e)
 have dD:s2.heap.get? Da = none:=hDa ▸ d9 _
 have gD:H3.get? Da = some { cls:=.type "list",dict:=none,data:=.seq ([]:List Value).toArray }:=hH3 ▸ Heap.get?_push_of_some _ (hH2 ▸ hDa ▸ Heap.get?_push_size _ rfl)
 have gC:H3.get? Cc = some { cls:=.type "dict",data:=.dict #[] }:=hH3 ▸ hCc ▸ Heap.get?_push_size _ rfl
 have dead:∀ {a},H3.get? a = none→s2.heap.get? a = none:=fun {a} e=>by
   induction e':s2.heap.get? a using Option.casesOn with
   | none=>rfl
   | some o=>rw [up2 a o e'] at e;exact a8 e.symm
 have dC:s2.heap.get? Cc = none:=by
   induction e':s2.heap.get? Cc using Option.casesOn with
   | none=>rfl
   | some o =>
     have h1:H2.get? Cc = some o:=hH2 ▸ Heap.get?_push_of_some _ e'
     rw [← hCc,d9] at h1;exact a8 h1
 have hDC:Da≠Cc:=fun e=>by rw [e,gC] at gD;injection gD with gD;injection gD with h1;injection h1 with h1;exact absurd h1 (by decide)
 have k24:Keeps s2 { s2 with heap:=H4 }:=⟨H4,s2.toks,rfl,up4⟩
 have k14:=Keeps.trans k12 k24
 have d1:∀ {a},s2.heap.get? a = none→s1.heap.get? a = none:=fun {a} e=>ui (fun o e=>(Keeps.grow (io:=io1) C k12).alive _ o e) e
 have csN:∀ a∈cs,a≠Da∧a≠Cc:=fun a ha=>⟨fun e=>(by rw [← e,(cf.fresh a ha).1] at gD;exact a8 gD),fun e=>(by rw [← e,(cf.fresh a ha).1] at gC;exact a8 gC)⟩
 let Xt:List Addr:=Cc::cs
 have hXs:∀ f∈Da::Xt,s2.heap.get? f = none∧∃ o,H4.get? f = some o:=fun f hf=>by
   rcases List.mem_cons.mp hf with e | hf
   · exact e ▸ ⟨dD,_,cf.keep _ _ gD⟩
   · rcases List.mem_cons.mp hf with e | hf
     · exact e ▸ ⟨dC,_,cf.keep _ _ gC⟩
     · exact ⟨dead (cf.fresh f hf).1,(cf.fresh f hf).2⟩
 have hDt:Da∉Xt:=fun hm=>by
   rcases List.mem_cons.mp hm with e | hm
   · exact hDC e
   · exact (csN _ hm).1 rfl
 have hws:∀ w∈wr++(Da::Xt),s1.heap.get? w = none∧∃ o,H4.get? w = some o:=fun w hw=>by
   rcases List.mem_append.mp hw with h | h
   · exact ⟨(hwr w h).1,(hwr w h).2.elim fun o e=>⟨o,up4 w o e⟩⟩
   · exact ⟨d1 (hXs w h).1,(hXs w h).2⟩
 have zal:∀ z∈Z,∃ o,s1.heap.get? z = some o:=k1.zal
 have nZ:∀ {a},s1.heap.get? a = none→a∉Z:=fun {a} h hm=>by
   refine ze (zal a hm) fun o e=>?_
   rw [h] at e;exact a8 e
 have hwz:∀ b∈wr,b∉(Da::Xt)++Z:=fun b hb hm=>by
   rcases List.mem_append.mp hm with h | h
   · refine ze (hwr b hb).2 fun o e=>?_
     rw [(hXs b h).1] at e;exact a8 e
   · exact nZ (hwr b hb).1 h
 have he1:=x1.env hk he
 have lk:∀ y,scope.names.lookup y = some .free→∃ c v,env.cells.lookup y = some c∧cells.lookup y = some c∧c∈Z:=fun y hy=>by
   refine ze2a2 (he.all y (sf.free _ (dq hy) rfl)) fun c w hc _ hz=>?_
   refine ⟨c,w,hc,?_,hz⟩
   exact (cf.old y hy).trans ((bj _ [] (.inl hy) (fun c h=>a8 (show none = some c from h)) ⟨c,hc⟩).trans hc)
 let cenv:Env:={ newEnv scope Cc env.globals cells env.qual none .none (some env) builtinsNs with scope:=relabel scope env }
 have e4:m6 C (fun y=>scope.names.lookup y) ((wr++(Da::Xt))++Z) io1 cenv (m9 scope ro) H4 :=
   yr (s:={ s2 with heap:=H4 }) (b:=[]) (m:=fun _=>none) he1 k1 (Keeps.grow C k14) (fun f hf=>(hws f hf).1) (fun y hy=>by
     refine zea2 (cf.cel y hy) fun a h1 h2 h3=>?_
     exact ⟨a,none,h1,h2,List.mem_append_right _ (.tail _ (.tail _ h3))⟩) sf.fn sf.free (fun y=>rf y) (by show (relabel scope env).kind = _;unfold relabel;exact sf.fn.1) rfl rfl
     (fun y hy hc=>(cf.old y hy).trans (bj _ _ (.inl hy) (fun c h=>a8 (show none = some c from h)) hc)) (List.mem_append_right _ (.tail _ (.head _))) ((show H3.Ns Cc _ from hH3 ▸ hCc ▸ Heap.Ns.new H2 (.type "dict")).at' fun o e=>cf.keep _ o e) (fun y d h=>a8 h)
 rw [List.append_assoc] at e4
 have k4:=Sok.more_many (s':={ s2 with heap:=H4 }) k1 k14 hws
 rw [List.append_assoc] at k4
 have hin:∀ z,qm (fun y=>scope.names.lookup y) cenv z→z∈(Da::Xt)++Z∧z≠Da:=fun z hz=>by
   induction hz using qm.casesOn with
   | loc h=>exact h ▸ ⟨.tail _ (.head _),hDC.symm⟩
   | cel x hkx hc =>
     rcases hkx with h | h
     · refine zea2 (cf.cel x h) fun a h1 h2 h3=>?_
       rw [show cenv.cells.lookup x = cells.lookup x from rfl,h1] at hc
       injection hc with hc;subst hc
       exact ⟨List.mem_append_left _ (.tail _ (.tail _ h3)),(csN _ h3).1⟩
     · refine ze2a2 (lk x h) fun c _ _ h2 h3=>?_
       rw [show cenv.cells.lookup x = cells.lookup x from rfl,h2] at hc
       injection hc with hc;subst hc
       exact ⟨List.mem_append_right _ h3,fun e=>nZ (d1 dD) (e ▸ h3)⟩
 have tk:aa3 (fun y=>scope.names.lookup y) cenv Xt ns:=by
   rcases cf.tg with h | ⟨x,a,h1,h2,h3,h4,h5⟩
   · exact .loc _ (fun y hy=>h y (hnt y hy)) (.head _)
   · rw [hone (by rw [h1];rfl),h1]
     refine .cell x a h2 h3 (.tail _ h4) fun y c' hyx hky hc e=>?_
     subst e
     rcases hky with h | h
     · exact hyx (h5 y h)
     · refine ze2a2 (lk y h) fun c _ _ q2 q3=>?_
       rw [show cenv.cells.lookup y = cells.lookup y from rfl,q2] at hc
       injection hc with hc;subst hc
       exact nZ (d1 (dead (cf.fresh _ h4).1)) q3
 have free_none:∀ y,scope.names.lookup y≠some .free→(m9 scope ro).lookup y = none:=fun y hy=>by
   induction h:(m9 scope ro).lookup y using Option.casesOn with
   | none=>rfl
   | some d=>exact absurd (ba h).1 hy
 have hbase:∀ y∈ns,(m9 scope ro).lookup y = none:=fun y hy=>free_none y fun hf=>by
   rcases cf.tg with h | ⟨x,a,h1,h2,_⟩
   · rw [h y (hnt y hy)] at hf;injection hf with hf;injection hf
   · have:=hnt y hy
     rw [h1] at this
     rw [List.mem_singleton.mp this,h2] at hf;injection hf with hf;injection hf
 have loop:∀ s3,s3 = { s2 with heap:=H4 }→codeAny (model C.prog C.w) A (.compLoop (.ListComp elt (⟨t,iter,ifs,0⟩::rest) scope pos) 0 (.ref I) (.ref Da) cenv) (compPost (model C.prog C.w) A noE use Q (.ref Da) Cc) s3:=by
   intro s3 e3
   subst e3
   refine ai4 (Z:=(Da::Xt)++Z) (Xm:=Da::Xt) (Xt:=Xt) (s₁:=s1) (done:=[]) (vs:=#[]) ha (hturn _ _ _) hns tk hbase (fun y hy=>⟨(bad y hy).1,free_none y fun hf=>?_⟩) (inn Da Xt cenv hDt (.head _)) W (fun b hb=>(hwr b hb).1) hwz (fun b hb=>?_) hal
     (fun z hz=>(List.mem_append.mp hz).elim (fun h=>.inr (d1 (hXs z h).1)) .inl) (fun x hx=>List.mem_append_left _ hx) (.head _) hDt (fun x hx=>.tail _ hx) hin (Keeps.grow C k14).gx k4 e4 (W.frame _ _ _ hst fun b _ o e=>up4 b o e) ⟨_,cf.keep _ _ gD⟩ rfl hrun (by simpa using hyl) fun s' p=>?_
   · rw [(bad y hy).2] at hf;injection hf with hf;injection hf
   · rcases hfp b hb with h | ⟨o,e,hv⟩
     · exact .inl h
     · unfold VV at hv
       simp only [List.mem_append,not_or] at hv
       exact .inr ⟨o,e,hv.1.1,hv.1.2,fun hm=>by rw [d1 (hXs b hm).1] at e;exact a8 e⟩
   · obtain ⟨io5,vs5,x5,k5,D5,L5,e5⟩:=p
     have x15:=x1.trans C (x5.gr fun f hf=>d1 (hXs f hf).1)
     have sub:∀ z∈Cc::Z,z∈(Da::Xt)++Z:=fun z hz=>by
       rcases List.mem_cons.mp hz with h | h
       · exact h ▸ .tail _ (.head _)
       · exact List.mem_append_right _ h
     have dC0:s.heap.get? Cc = none:=ui (fun o e=>x1.alive _ o e) (d1 dC)
     refine zea e5.nsx fun m hn _=>?_
     refine hR Da Cc _ io5 m x15 (k5.less C sub) ?_ hn dC0
     have hvn:=f0.length L5
     rw [Array.length_toList] at hvn
     refine ⟨hyl,Da,vs5,rfl,fun hm=>?_,D5,f0.mono (fun a o e ha=>⟨e,fun hm=>ha ?_⟩) (fun _ _ e=>e) L5⟩
     · have:=k5.zd Da (.head _)
       unfold VV at hm
       simp only [List.mem_append,List.mem_cons] at hm
       rcases hm with (h | h) | h | h
       · exact this.1 h
       · exact this.2.1 h
       · exact hDC h
       · exact nZ (d1 dD) h
     · unfold VV at hm ⊢
       rcases List.mem_append.mp hm with h | h
       · exact List.mem_append_left _ h
       · exact List.mem_append_right _ (sub a h)
 exact codeAny_compStart_list (loop _ rfl) (a9 (W.self 0 { s2 with heap:=H4 } (fun v s=>v = .ref I∧s = { s2 with heap:=H4 }) (W.frame _ _ _ hst fun b _ o e=>up4 b o e) ⟨rfl,rfl⟩) fun v s h=>h.1 ▸ loop s h.2)
end
end Mine
namespace Mine
variable {C:Cst} {lv:Nat} {kd:Kd} {ro:Ro} {g g1 g2 g':Sg}
theorem bo6 {k p}:k8 C lv kd ro (.Constant .none k p) g .none g:=fun A env Z io s ha he hk=>wpAny_Constant_none (post_pure hk ⟨Keeps.refl,rfl⟩)
theorem bo9 {b k p}:k8 C lv kd ro (.Constant (.bool b) k p) g (.bool b) g:=fun A env Z io s ha he hk=>wpAny_Constant_bool (post_pure hk ⟨Keeps.refl,rfl⟩)
theorem cg7 {i k p}:k8 C lv kd ro (.Constant (.int i) k p) g (.int i) g:=fun A env Z io s ha he hk=>wpAny_Constant_int (post_pure hk ⟨Keeps.toks,by exact ⟨_,rfl⟩⟩)
theorem bx0 {x:Str} {k p} (h:j7 x = true):k8 C lv kd ro (.Constant (.str x) k p) g (.str x) g:=fun A env Z io s ha he hk =>
 wpAny_Constant_str (post_pure hk ⟨Keeps.toks,by exact ⟨by simpa [j7] using h,_,rfl⟩⟩)
theorem bm5 {x:Str} {p} {d:D} (hl:ro.lookup x = some d) (h:¬(x==("__debug__":Str)||x==("__classdict__":Str)) = true):k8 C lv kd ro (.Name x p) g d g:=fun A env Z io s ha he hk=>by
 simp only [Bool.or_eq_true,not_or,Bool.not_eq_true] at h
 exact bn9 he hk hl h.1 h.2
theorem two {a b:Expr} {x y d:D} (h1:k8 C lv kd ro a g x g1) (h2:k8 C lv kd ro b g1 y g2) {f:Value→Value→Sem Value} {A:Around} {env:Env} {Z:List Addr} {io:HI} {s:Shared}
   (ha:AOk A lv) (he:m6 C kd Z io env ro s.heap) (hk:Sok C Z io g s)
   (hf:∀ io2 (s2:Shared) v u,Sok C Z io2 g2 s2→Has (VV C io2 Z) io2 s2.heap x v→Has (VV C io2 Z) io2 s2.heap y u→wpAny (model C.prog C.w) A (f v u) (ff C Z io2 s2 d g') noE s2) :
   wpAny (model C.prog C.w) A (eval a env) (fun v s1=>wpAny (model C.prog C.w) A (eval b env) (fun u s2=>wpAny (model C.prog C.w) A (f v u) (ff C Z io s d g') noE s2) noE s1) noE s:=by
 refine a9 (h1 A env Z io s ha he hk) fun v s1 ⟨io1,x1,k1,hh⟩=>?_
 refine a9 (h2 A env Z io1 s1 ha (x1.env hk he) k1) fun u s2 ⟨io2,x2,k2,hu⟩=>?_
 exact a9 (hf io2 s2 v u k2 (x2.has C hh) hu) fun r s3 h3=>h3.after (x1.trans C x2)
theorem ce3 {a b:Expr} {op p} {x y d:D} (h1:k8 C lv kd ro a g x g1) (h2:k8 C lv kd ro b g1 y g2) (e:ac6 op x y = some d):k8 C lv kd ro (.BinOp a op b p) g d g2:=fun A env Z io s ha he hk =>
 wpAny_BinOp (two h1 h2 ha he hk fun io2 s2 v u k2 hv hu=>a9 (bq1 (E:=noE) k2 e hv hu) fun r s3 h3=>post_pure k2 h3)
theorem af6 {A:Around} (ha:AOk A lv):A.units + 40 < cLine:=by
 have:=ha.un
 have h:cLine = 9900:=rfl
 lia
theorem cf9 {a b:Expr} {op p} {x y:D} {c:Bool} (h1:k8 C lv kd ro a g x g1) (h2:k8 C lv kd ro b g1 y g2) (e:jo op x y = some c) (hm:behindInMarks op b = false):k8 C lv kd ro (.Compare a [op] [b] p) g (.bool c) g2:=fun A env Z io s ha he hk =>
 wpAny_Compare1 (two h1 h2 ha he hk fun io2 s2 v u k2 hv hu=>a9 (aw1 (E:=noE) e hv hu (af6 ha)) fun r s3 h3=>post_pure k2 ⟨h3.2,by exact h3.1⟩) hm
theorem bz3 {a:Expr} {p} {i:Int} (h1:k8 C lv kd ro a g (.int i) g1):k8 C lv kd ro (.UnaryOp .USub a p) g (.int (-i)) g1:=fun A env Z io s ha he hk=>by
 refine wpAny_UnaryOp (a9 (h1 A env Z io s ha he hk) fun v s1 ⟨io1,x1,k1,hh⟩=>?_)
 refine ze hh fun t e1q=>?_;clear hh;subst e1q
 have kp:Keeps s1 { s1 with toks:=s1.toks + 1 }:=Keeps.toks
 exact PyProof.Rows.neg_int ⟨io1,x1.trans C (Keeps.grow C kp),Keeps.sok C kp k1,by exact ⟨_,rfl⟩⟩
theorem bk3 {es:List Expr} {p} {ds:List D} {ev:Expr→Sg→Option (D × Sg)} (hev:o8 C lv kd ro ev) (h:evs ev es g = some (ds,g')) (hl:ds.length≤lim):k8 C lv kd ro (.List es p) g (.lst ds) g':=fun A env Z io s ha he hk=>by
 refine PyProof.Rows.List_ (a9 (gm hev es h ha he hk) fun vs s1 ⟨io1,x1,k1,hh⟩=>?_)
 have z:=dz k1 (tk:=s1.toks) (n:=0) hl hh
 have hn:=f0.length hh
 exact wpAny_newObj_type ⟨io1,x1.trans C (Keeps.grow C z.1),Keeps.sok C z.1 k1,z.2⟩ (by show vs.toArray.size≤sizeLine;rw [List.size_toArray];have:=cq;lia)
theorem ch9 {es:List Expr} {k p} {ds:List D} {ev:Expr→Sg→Option (D × Sg)} (hev:o8 C lv kd ro ev) (h:evs ev es g = some (ds,g')) (hl:ds.length≤lim):k8 C lv kd ro (.Tuple es k p) g (.tup ds) g':=fun A env Z io s ha he hk=>by
 refine PyProof.Rows.Tuple_ (a9 (gm hev es h ha he hk) fun vs s1 ⟨io1,x1,k1,hh⟩=>?_)
 have z:=de k1 (tk:=s1.toks) (n:=0) hl hh
 have hn:=f0.length hh
 exact wpAny_newObj_type ⟨io1,x1.trans C (Keeps.grow C z.1),Keeps.sok C z.1 k1,z.2⟩ (by show vs.toArray.size≤sizeLine;rw [List.size_toArray];have:=cq;lia)
theorem dm {slice:Expr} (h:∀ l u st p,slice≠.Slice l u st p) (o i:Value):subscripted slice false o i = operate [o,i] (getItem o i):=by
 induction slice using Expr.casesOn<;>first | rfl | exact absurd rfl (h _ _ _ _)
theorem as5 {A:Around} {V:List Addr} {io:HI} {s:Shared} {x y d:D} {v u:Value} {value slice:Expr} {Q:Value→Shared→Prop} (e:z7 x y = some d) (hx:Has V io s.heap x v)
   (hsl:∀ l u st p,slice≠.Slice l u st p) (hg:wpAny (model C.prog C.w) A (getItem v u) Q noE s):wpAny (model C.prog C.w) A (PyProof.Rows.subscriptTail value slice v u) Q noE s:=by
 have hs:subscripted slice false v u = operate [v,u] (getItem v u):=dm hsl v u
 induction x using D.casesOn<;>induction y using D.casesOn<;>first | exact a8 e | skip
 · refine zae hx fun J t e2q=>?_;clear hx;subst e2q
   exact PyProof.Rows.tail_any (typeIs_str _ _ _) PyProof.Rows.slot_str_getitem.lookup hg hs
 · refine zae2a3 hx fun J a vs e3q J ht J=>?_;clear hx;subst e3q
   exact PyProof.Rows.tail_any (T:="tuple") (by refine ze ht fun n e=>?_;clear ht;exact ⟨_,e,rfl⟩) PyProof.Rows.slot_tuple_getitem.lookup hg hs
 · refine zae2a3 hx fun J a vs e3q J ht J=>?_;clear hx;subst e3q
   exact PyProof.Rows.tail_any (T:="list") (by refine ze ht fun n e=>?_;clear ht;exact ⟨_,e,rfl⟩) slot_list_getitem.lookup hg hs
theorem bq7 {a b:Expr} {p} {x y d:D} (h1:k8 C lv kd ro a g x g1) (h2:k8 C lv kd ro b g1 y g2) (e:z7 x y = some d) (hsl:∀ l u st p,b≠.Slice l u st p):k8 C lv kd ro (.Subscript a b p) g d g2:=fun A env Z io s ha he hk =>
 PyProof.Rows.Subscript_ (two h1 h2 ha he hk fun io2 s2 v u k2 hv hu=>as5 e hv hsl (a9 (bb1 (E:=noE) e hv hu) fun r s3 h3=>post_pure k2 h3))
theorem bg1 {T:Tbl} {S:ae} (tb:dh C lv T) (hS:T.mt "__getitem__" = some S) {a b:Expr} {p} {i:Nat} {y d:D} (h1:k8 C lv kd ro a g (.hdr i) g1) (h2:k8 C lv kd ro b g1 y g2) (e:S [.hdr i,y] g2 = some (d,g')) (hsl:∀ l u st p,b≠.Slice l u st p):k8 C lv kd ro (.Subscript a b p) g d g':=fun A env Z io s ha he hk =>
 PyProof.Rows.Subscript_ (two h1 h2 ha he hk fun io2 s2 v u k2 hv hu=>by
   refine ze3a3 (tb.mt _ _ hS) fun a' o' fd jy hfd hcall hm=>?_
   have hv':=hv
   refine zea hv' fun t ht e2q=>?_;clear hv';subst e2q
   refine ze (so k2 ht) fun ps hps=>?_
   have HH:=k2.st.at' _ t ps ht hps
   refine hm.sub rfl A noE s2 t.1 t.2.1 t.2.2 k2.base ⟨HH.inst,HH.dict⟩ a b u _ (fun o=>dm hsl o u) hsl ?_
   exact hcall _ _ _ _ e A.in1 Z io2 s2 _ ha.c1 k2 (by exact ⟨_,_,rfl,by exact ⟨t,ht,rfl⟩,_,_,rfl,hu,rfl⟩))
end Mine
namespace Mine
variable {C:Cst} {lv:Nat} {kd:Kd} {ro:Ro} {g g1 g2 g':Sg} {T:Tbl}
theorem br1 {ev:Expr→Sg→Option (D × Sg)} (tb:dh C lv T) (hev:o8 C lv kd ro ev) {o:Expr} {m:Str} {q p:Pos} {as:List Expr} {x d:D} {ys:List D}
   (hns:cg o = true) (hline:(q.endLine==p.line) = true) (hlen:as.length < 20) (bb:as.all f5 = true)
   (h1:k8 C lv kd ro o g x g1) (h2:evs ev as g1 = some (ys,g2)) (h3:ez T m x ys g2 = some (d,g')):k8 C lv kd ro (.Call (.Attribute o m q) as [] p) g d g':=fun A env Z io s ha he hk=>by
 have args:∀ io1 s1 pos,q0 C io io1 s s1→Sok C Z io1 g1 s1→wpAny (model C.prog C.w) A (spliced (backTo pos (starEach as env))) (qy C Z io1 s1 ys g2) noE s1:=fun io1 s1 pos x1 k1=>gm hev as h2 ha (x1.env hk he) k1
 induction x using D.casesOn with
 | hdr k =>
   refine zea (cl6 (show fnC (T.mt m) (.hdr k::ys) g2 = some (d,g') from h3)) fun S hS h3=>?_
   refine ze3a3 (tb.mt _ _ hS) fun a' o' fd jy hfd hcall hm=>?_
   refine uj hns hline hlen bb (h1 A env Z io s ha he hk) args (.ref a') (.inr ⟨a',o',fd,rfl,jy,hfd⟩) (fun io1 s1 vx k1 hx pl Q hQ=>?_) fun io1 s1 vx vs k1 hx hvs=>?_
   · refine zea hx fun t ht e2q=>?_;clear hx;subst e2q
     refine ze (so k1 ht) fun ps hps=>?_
     have HH:=k1.st.at' _ t ps ht hps
     exact hm.get A noE s1 t.1 t.2.1 t.2.2 k1.base ⟨HH.inst,HH.dict⟩ pl Q hQ
   · exact hcall _ _ _ _ h3 A Z io1 s1 _ ha.c k1 (by exact ⟨_,_,rfl,hx,hvs⟩)
 | str x =>
   refine zea3 (aq7 (C:=C) (lv:=lv) (show cl9 m x ys g2 = some (d,g') from h3)) fun id slot hty e3q hcall=>?_;subst e3q
   refine uj hns hline hlen bb (h1 A env Z io s ha he hk) args (.builtin id) (.inl ⟨id,rfl⟩) (fun io1 s1 vx k1 hx pl Q hQ=>?_) fun io1 s1 vx vs k1 hx hvs=>?_
   · refine zae hx fun J t e2q=>?_;clear hx;subst e2q
     exact by1 slot hty hQ
   · refine zae hx fun hl t e2q=>?_;clear hx;subst e2q
     exact hcall A Z io1 s1 t vs ha k1 hl hvs
 | lst l =>
   replace h3:cl8 m l ys g2 = some (d,g'):=h3
   refine uj hns hline hlen bb (h1 A env Z io s ha he hk) args (.builtin "list.index") (.inl ⟨_,rfl⟩) (fun io1 s1 vx k1 hx pl Q hQ=>?_) fun io1 s1 vx vs k1 hx hvs=>?_
   · refine zae2a3 hx fun hl a ws e hv hp hs=>?_;subst e
     refine ze2a4 (bu4 h3) fun y ts hm _ _ _ _=>?_;subst hm
     exact PyProof.Rows.getMethod_list_of PySem.F.slot_list_index PySem.F.type_list_index hp.isList (hp.elim fun n e=>⟨_,e,rfl⟩) hQ
   · refine zae2a3 hx fun hl a ws e hv hp hs=>?_;subst e
     exact av5 h3 k1 hp hs hl hvs
 | _=>exact a8 h3
end Mine
namespace Mine
variable {C:Cst} {lv:Nat} {kd:Kd} {ro:Ro} {g g1 g2 g':Sg} {T:Tbl}
theorem iw:∀ (es:List Expr) (env:Env),(starEach es env).length = es.length
 | [],_=>rfl
 | e::r,env=>by induction e using Expr.casesOn<;>exact congrArg Nat.succ (iw r env)
theorem uz (es:List Expr) (env:Env) (p:Pos):(backTo p (starEach es env)).length = es.length:=by
 unfold backTo
 rw [List.length_map,iw]
theorem bp5 {ev:Expr→Sg→Option (D × Sg)} (r:g9 C) (tb:dh C lv T) (hev:o8 C lv kd ro ev) {f:Str} {q p:Pos} {as:List Expr} {d:D} {ys:List D}
   (hkd:kd f = some .globalImplicit) (hd:(f==("__debug__":Str)) = false) (hfp:r6 as = true) (hbp:(ay f&&!(as.all f5&&decide (as.length < 20))) = false)
   (h2:evs ev as g = some (ys,g2)) (h3:ce T f ys g2 = some (d,g')):k8 C lv kd ro (.Call (.Name f q) as [] p) g d g':=fun A env Z io s ha he hk=>by
 have args:∀ pos,wpAny (model C.prog C.w) A (spliced (backTo pos (starEach as env))) (qy C Z io s ys g2) noE s:=fun pos=>gm hev as h2 ha he hk
 have plain:ay f = true→as.all f5 = true:=fun hb=>by rw [hb] at hbp;simp only [Bool.true_and,Bool.not_eq_false',Bool.and_eq_true] at hbp;exact hbp.1
 have few:ay f = true→as.length < 20:=fun hb=>by rw [hb] at hbp;simp only [Bool.true_and,Bool.not_eq_false',Bool.and_eq_true,decide_eq_true_eq] at hbp;exact hbp.2
 have bi:∀ (id:String) (bn:bootBuiltins f = some (.builtin id)),f∈(["len","sum","max","min","range","zip","enumerate","str"]:List Str)→f≠"__name__"→ay f = true →
     (∀ io1 (s1:Shared) vs,Sok C Z io1 g2 s1→f0 (VV C io1 Z) io1 s1.heap ys vs→wpAny (model C.prog C.w) A (call (.builtin id) vs) (ff C Z io1 s1 d g') noE s1) →
     wpAny (model C.prog C.w) A (eval (.Call (.Name f q) as [] p) env) (ff C Z io s d g') noE s:=fun id bn hm hn hb hc =>
   zu r bn (r.nob f hm) hn hd (plain hb) hkd he hk args hc
 unfold ce at h3
 by_cases hlen:(f==("len":Str)) = true
 · rw [if_pos hlen] at h3
   have e:=eq_of_beq hlen
   subst e
   exact bi "len" (by decide +kernel) (by decide) (by decide) rfl fun io1 s1 vs k1 hv=>aj7 tb h3 ha k1 hv
 rw [if_neg hlen] at h3
 by_cases hmax:(f==("max":Str)) = true
 · rw [if_pos hmax] at h3
   have e:=eq_of_beq hmax
   subst e
   exact bi "max" (by decide +kernel) (by decide) (by decide) rfl fun io1 s1 vs k1 hv=>sx h3 ha k1 hv
 rw [if_neg hmax] at h3
 by_cases hmin:(f==("min":Str)) = true
 · rw [if_pos hmin] at h3
   have e:=eq_of_beq hmin
   subst e
   exact bi "min" (by decide +kernel) (by decide) (by decide) rfl fun io1 s1 vs k1 hv=>sx h3 ha k1 hv
 rw [if_neg hmin] at h3
 by_cases hstr:(f==("str":Str)) = true
 · rw [if_pos hstr] at h3
   have e:=eq_of_beq hstr
   subst e
   exact bd9 r (id:="str") (by decide +kernel) (r.nob _ (by decide)) (by decide) hd (plain rfl) hkd he hk args fun io1 s1 vs k1 hv=>aw0 h3 k1 hv
 rw [if_neg hstr] at h3
 refine za (z8 h3) fun J h3=>?_
 refine zea (cl6 h3) fun S hS h3=>?_
 refine ze3a3 (tb.fn f S hS) fun a o fd hmg jy hfd hcall=>?_
 refine PyProof.Rows.Call_ (ij r he hk hkd hmg hd ?_) rfl
 refine Calls.callWith_function (o:=o) (fd:=fd) (l9 hfp (a9 (args p) fun vs s1 ⟨io1,x1,k1,hh⟩=>⟨⟨k1.base _ _ jy,hfd⟩,?_⟩))
 exact a9 (hcall _ _ _ _ h3 A Z io1 s1 vs ha.c k1 hh) fun v s3 h=>h.after x1
theorem cj9 {T:Tbl} {S:ae} (r:g9 C) (tb:dh C lv T) (hS:T.new = some S) {q p:Pos} {d:D} (hkd:kd ("Headers":Str) = some .globalImplicit)
   (h3:S [] g = some (d,g')):k8 C lv kd ro (.Call (.Name "Headers" q) [] [] p) g d g':=fun A env Z io s ha he hk=>by
 refine za2 (tb.new S hS) fun hmg hcall hlk=>?_
 refine PyProof.Rows.Call_ (ij r he hk hkd hmg (by decide) ?_) rfl
 exact rh (P:=fun h=>∀ b o,C.H.get? b = some o→h.get? b = some o) (fh [] rfl _ _) (by rw [uz];exact Nat.zero_le _) hlk (l9 rfl (wpAny_items_nil ⟨hk.base,hcall _ _ _ _ h3 A Z io s [] ha.c hk rfl⟩))
theorem ab1 {ev:Expr→Sg→Option (D × Sg)} (hev:o8 C lv kd ro ev) {e:Option Expr} {i:Option Int} (h:fx ev e g = some (i,g')) {A:Around} {env:Env} {Z:List Addr} {io:HI} {s:Shared} (ha:AOk A lv) (he:m6 C kd Z io env ro s.heap) (hk:Sok C Z io g s) :
   wpAny (model C.prog C.w) A (evalPart e env) (fun v s'=>∃ p:Option (Int × Tok),v = partValue p∧p.map (·.1) = i∧∃ io',q0 C io io' s s'∧Sok C Z io' g' s') noE s:=by
 induction e using Option.casesOn with
 | none =>
   injection (show some ((none:Option Int),g) = some (i,g') from h) with h;injection h with e0q e1q;subst e0q;subst e1q
   rw [evalPart_none]
   exact wpAny_pure ⟨none,rfl,rfl,io,q0.refl C,hk⟩
 | some e =>
   refine ze2a (b8 h) fun d g1 h1 h2=>?_
   rw [evalPart_some]
   refine a9 (hev e g d g1 h1 A env Z io s ha he hk) fun v s1 ⟨io1,x1,k1,hh⟩=>?_
   induction d using D.casesOn with
   | int j =>
     refine za (j0 (show (if big j = true then some (some j,g1) else none) = some (i,g') from h2)) fun _ h2=>?_
     apply i2 h2
     refine ze hh fun t e1q=>?_;clear hh;subst e1q
     exact ⟨some (j,t),rfl,rfl,io1,x1,k1⟩
   | _=>injection h2
theorem ay9 {ev:Expr→Sg→Option (D × Sg)} (hev:o8 C lv kd ro ev) {a:Expr} {lo hi st:Option Expr} {p q:Pos} {x d:D} {l h t:Option Int} {g3 g4:Sg} (h1:k8 C lv kd ro a g x g1)
   (e1:fx ev lo g1 = some (l,g2)) (e2:fx ev hi g2 = some (h,g3)) (e3:fx ev st g3 = some (t,g4)) (e:y0 x l h t = some d):k8 C lv kd ro (.Subscript a (.Slice lo hi st p) q) g d g4:=fun A env Z io s ha he hk=>by
 refine PyProof.Rows.Subscript_ (a9 (h1 A env Z io s ha he hk) fun v s1 ⟨io1,x1,k1,hh⟩=>wpAny_Slice ?_)
 refine a9 (ab1 hev e1 ha (x1.env hk he) k1) fun v2 s2 ⟨p2,hv2,hp2,io2,x2,k2⟩=>?_
 refine a9 (ab1 hev e2 ha (x2.env k1 (x1.env hk he)) k2) fun v3 s3 ⟨p3,hv3,hp3,io3,x3,k3⟩=>?_
 refine a9 (ab1 hev e3 ha (x3.env k2 (x2.env k1 (x1.env hk he))) k3) fun v4 s4 ⟨p4,hv4,hp4,io4,x4,k4⟩=>?_
 subst hv2 hv3 hv4 hp2 hp3 hp4
 have kp:Keeps s4 { s4 with heap:=s4.heap.push { cls:=.type "slice",data:=.fields #[partValue p2,partValue p3,partValue p4] } }:=Keeps.push (k:=s4.toks)
 have hs:Heap.IsSlice (s4.heap.push { cls:=.type "slice",data:=.fields #[partValue p2,partValue p3,partValue p4] }) s4.heap.objs.size p2 p3 p4:=⟨_,Heap.get?_push_size _ rfl,rfl,rfl⟩
 have hx:=ol kp (x4.has C (x3.has C (x2.has C hh)))
 have k5:=Keeps.sok C kp k4
 have x5:=((x1.trans C x2).trans C (x3.trans C x4)).trans C (Keeps.grow C kp)
 have hg:=a9 (E:=noE) (ar9 (A:=A) (E:=noE) k5 e hx hs) fun v s6 h6=>(post_pure k5 h6).after x5
 have hsub:∀ (o i:Value),∃ ops,subscripted (.Slice lo hi st p) false o i = operate ops (getItem o i):=fun o i=>by induction st using Option.casesOn<;>exact ⟨_,rfl⟩
 refine ze (hsub v (.ref s4.heap.objs.size)) fun ops hops=>?_
 replace e:=(yq (show (if _ then none else _) = some d from e)).2
 induction x using D.casesOn<;>first | exact a8 e | skip
 · refine zae hx fun J t e2q=>?_;clear hx;subst e2q
   exact PyProof.Rows.tail_any (typeIs_str _ _ _) PyProof.Rows.slot_str_getitem.lookup hg hops
 · refine zae2a3 hx fun J a vs e3q J ht J=>?_;clear hx;subst e3q
   exact PyProof.Rows.tail_any (T:="tuple") (by refine ze ht fun n e=>?_;clear ht;exact ⟨_,e,rfl⟩) PyProof.Rows.slot_tuple_getitem.lookup hg hops
 · refine zae2a3 hx fun J a vs e3q J ht J=>?_;clear hx;subst e3q
   exact PyProof.Rows.tail_any (T:="list") (by refine ze ht fun n e=>?_;clear ht;exact ⟨_,e,rfl⟩) slot_list_getitem.lookup hg hops
theorem bb0 {e:Expr} {x:D} {c:Bool} (h1:k8 C lv kd ro e g x g1) (ht:z6 x = some c)
   (he':∀ (env:Env) (whole:Sem Value),isTrue e env whole = (do let v ← whole;standAt e.pos;holding [v] (truthy v))):li C lv kd ro e g c g1:=fun A env Z io s ha he hk=>by
 refine wpAny_isTrue_value (a9 (h1 A env Z io s ha he hk) fun v s1 ⟨io1,x1,k1,hh⟩=>?_) (he' env _)
 refine a9 (xl (E:=noE) ht hh) fun c' s2 ⟨hc,kp⟩=>?_
 exact ⟨hc,io1,x1.trans C (Keeps.grow C kp),Keeps.sok C kp k1⟩
theorem cj7 {a:Expr} {p} {b:Bool} (h:li C lv kd ro a g b g1):li C lv kd ro (.UnaryOp .Not a p) g (!b) g1:=fun A env Z io s ha he hk =>
 wpAny_isTrue_Not (a9 (h A env Z io s ha he hk) fun c s1 ⟨hc,io1,x1,k1⟩=>⟨by rw [hc],io1,x1,k1⟩)
theorem bx7 {a b:Expr} {op p} {x y:D} {c:Bool} (h1:k8 C lv kd ro a g x g1) (h2:k8 C lv kd ro b g1 y g2) (e:jo op x y = some c) (hm:behindInMarks op b = false):li C lv kd ro (.Compare a [op] [b] p) g c g2:=fun A env Z io s ha he hk=>by
 refine wpAny_isTrue_Compare1 ?_ hm
 refine a9 (h1 A env Z io s ha he hk) fun v s1 ⟨io1,x1,k1,hh⟩=>?_
 refine a9 (h2 A env Z io1 s1 ha (x1.env hk he) k1) fun u s2 ⟨io2,x2,k2,hu⟩=>?_
 refine a9 (aw1 (E:=noE) e (x2.has C hh) hu (af6 ha)) fun r s3 ⟨hr,kp⟩=>?_
 subst hr
 exact wpAny_truthy_bool ⟨rfl,io2,(x1.trans C x2).trans C (Keeps.grow C kp),Keeps.sok C kp k2⟩
theorem bi1 {tr:Expr→Sg→Option (Bool × Sg)} (htr:fm C lv kd ro tr) {p:Pos}:∀ (vs:List Expr) {g g'} {c:Bool},ay0 tr vs g = some (c,g')→∀ {A env Z io s},AOk A lv→m6 C kd Z io env ro s.heap→Sok C Z io g s→wpAny (model C.prog C.w) A (allTrue .And vs env) (vo C Z io s c g') noE s
 | [],g,g',c,h,A,env,Z,io,s,ha,he,hk=>by
   injection (show some (true,g) = some (c,g') from h) with h;injection h with e0q e1q;subst e0q;subst e1q
   exact wpAny_allTrue_And_nil ⟨rfl,io,q0.refl C,hk⟩
 | e::r,g,g',c,h,A,env,Z,io,s,ha,he,hk=>by
   refine ze2a (b8 h) fun b g1 h1 h2=>?_
   refine wpAny_allTrue_And_cons (a9 (htr e g b g1 h1 A env Z io s ha he hk) fun c' s1 ⟨hc,io1,x1,k1⟩=>?_)
   subst hc
   induction c' using Bool.casesOn with
   | true=>rw [if_pos rfl] at h2;exact a9 (bi1 htr (p:=p) r h2 ha (x1.env hk he) k1) fun v s3 h3=>h3.after x1
   | false =>
     rw [if_neg Bool.false_ne_true] at h2
     apply i2 h2
     exact ⟨rfl,io1,x1,k1⟩
theorem ck1 {tr:Expr→Sg→Option (Bool × Sg)} (htr:fm C lv kd ro tr) {p:Pos}:∀ (vs:List Expr) {g g'} {c:Bool},bg8 tr vs g = some (c,g')→∀ {A env Z io s},AOk A lv→m6 C kd Z io env ro s.heap→Sok C Z io g s→wpAny (model C.prog C.w) A (allTrue .Or vs env) (vo C Z io s c g') noE s
 | [],g,g',c,h,A,env,Z,io,s,ha,he,hk=>by
   injection (show some (false,g) = some (c,g') from h) with h;injection h with e0q e1q;subst e0q;subst e1q
   exact wpAny_allTrue_Or_nil ⟨rfl,io,q0.refl C,hk⟩
 | e::r,g,g',c,h,A,env,Z,io,s,ha,he,hk=>by
   refine ze2a (b8 h) fun b g1 h1 h2=>?_
   refine wpAny_allTrue_Or_cons (a9 (htr e g b g1 h1 A env Z io s ha he hk) fun c' s1 ⟨hc,io1,x1,k1⟩=>?_)
   subst hc
   induction c' using Bool.casesOn with
   | false =>
     rw [if_neg Bool.false_ne_true] at h2
     exact a9 (ck1 htr (p:=p) r h2 ha (x1.env hk he) k1) fun v s3 h3=>h3.after x1
   | true =>
     rw [if_pos rfl] at h2
     apply i2 h2
     exact ⟨rfl,io1,x1,k1⟩
end Mine
namespace Mine
variable {C:Cst} {lv:Nat} {kd:Kd} {ro:Ro} {g g0 g1 g2 g':Sg} {T:Tbl}
theorem wc {sc:Scope} {x:Str} (h:z2 sc kd x = true):(sc.kind = .function∧¬sc.names.lookup ("_split_list":Str) = some .globalImplicit)∧(∀ y∈sc.names,y.2≠.cell)∧(∀ y∈sc.names,y.2 = .local→sc.names.lookup y.1 = some .local)∧(∀ p∈sc.names,p.2 = .free→kd p.1 = some .cell∨kd p.1 = some .free)∧sc.names.lookup x = some .local:=by
 unfold z2 at h
 simp only [Bool.and_eq_true,beq_iff_eq,List.all_eq_true,Bool.or_eq_true,bne_iff_ne,ne_eq] at h
 refine za h fun e0q h3=>?_;clear h;obtain ⟨h1,h2⟩:=e0q
 refine ⟨h1,fun y hy=>(h2 y hy).1.1,fun y hy hl=>?_,fun p hp hf=>?_,h3.1.1⟩
 · rcases (h2 y hy).1.2 with h | h
   · exact absurd hl h
   · exact h
 · rcases (h2 p hp).2 with (h | h) | h
   · exact absurd hf h
   · exact .inl h
   · exact .inr h
theorem yf {sc:Scope} {x:Str} (h:z2 sc kd x = true):sc.isCoroutine = false∧sc.isGenerator = false:=by
 unfold z2 at h
 simp only [Bool.and_eq_true,Bool.not_eq_true'] at h
 exact ⟨h.2.1.2,h.2.2⟩
noncomputable def z9 (C:Cst) (lv:Nat) (kd:Kd) (ro:Ro) (e:Expr) (g:Sg) (ds:List D) (g':Sg):Prop :=
 ∀ t A env Z io s,AOk A lv→m6 C kd Z io env ro s.heap→Sok C Z io g s→wpAny (model C.prog C.w) A (eval e env) (bw C A t Z Z io s ds g') noE s
structure yi (C:Cst) (lv:Nat) (elt:Expr) (ifs:List Expr) (scope:Scope) (tr el:Ro→Sg→Option (D × Sg)):Prop where
 tr:∀ A,AOk A lv→∀ ro g b g',tr ro g = some (.bool b,g')→∀ env' Z' io' s,m6 C (fun y=>scope.names.lookup y) Z' io' env' ro s.heap→Sok C Z' io' g s→wpAny (model C.prog C.w) A (gd ifs env') (vo C Z' io' s b g') noE s
 el:∀ A,AOk A lv→∀ ro g d g',el ro g = some (d,g')→∀ env' Z' io' s,m6 C (fun y=>scope.names.lookup y) Z' io' env' ro s.heap→Sok C Z' io' g s→wpAny (model C.prog C.w) A (eval elt env') (ff C Z' io' s d g') noE s
theorem ew {ifs:List Expr} {scope:Scope} {trx:Ro→Expr→Sg→Option (Bool × Sg)} (htr:∀ ro,fm C lv (fun y=>scope.names.lookup y) ro (trx ro)) :
   ∀ A,AOk A lv→∀ ro g b g',(match ifs with | []=>some (D.bool true,g) | [c]=>c7 (trx ro c g) fun b g=>some (.bool b,g) | _=>none) = some (.bool b,g')→∀ env' Z' io' s,m6 C (fun y=>scope.names.lookup y) Z' io' env' ro s.heap→Sok C Z' io' g s→wpAny (model C.prog C.w) A (gd ifs env') (vo C Z' io' s b g') noE s:=by
 intro A ha ro g b g' h env' Z' io' s he hk
 unfold gd
 rcases ifs with _ | ⟨c,_ | ⟨c2,r⟩⟩
 · replace h:some (D.bool true,g) = some (.bool b,g'):=h
   injection h with h;injection h with h1 h2;injection h1 with h1;subst h1;subst h2
   rw [List.forIn_nil]
   exact wpAny_pure ⟨rfl,io',q0.refl C,hk⟩
 · refine ze2a (b8 h) fun b' g1 h1 h2=>?_
   injection h2 with h2;injection h2 with h3 h4;injection h3 with h3;subst h3;subst h4
   rw [List.forIn_cons]
   refine wpAny_bind ?_
   rw [if_pos rfl]
   refine wpAny_bind (a9 (htr ro c g b' g1 h1 A env' Z' io' s ha he hk) fun ok s1 h1=>wpAny_pure ?_)
   show wpAny _ _ (forIn [] ok _) _ _ _
   rw [List.forIn_nil]
   exact wpAny_pure h1
 · exact a8 h
theorem ve {A:Around} {env:Env} {X Z:List Addr} {io:HI} {s:Shared} {elt iter t:Expr} {ifs:List Expr} {sc:Scope} {p pos':Pos} {ds ys:List D} {tr el:Ro→Sg→Option (D × Sg)} {use:Option (Value→Sem Unit)} {Q:Value→Shared→Prop} (ha:AOk A lv) (he:m6 C kd Z io env ro s.heap) (hk:Sok C Z io g0 s) (hsc:ig sc kd t = true)
   (hit:wpAny (model C.prog C.w) A (eval iter env) (bw C A t X Z io s ds g) noE s) (hs:∀ elts k p,iter≠.Set elts k p) (hok:yi C lv elt ifs sc tr el)
   (hrun:o7 (emK tr el) t (m9 sc ro) ds g = some (ys,g2)) (hyl:ys.length≤lim)
   (hR:∀ D Cc s' io' m',q0 C io io' s s'→Sok C (Cc::Z) io' g2 s'→Has (VV C io' (Cc::Z)) io' s'.heap (.lst ys) (.ref D)→s'.heap.Ns Cc m'→s.heap.get? Cc = none→compPost (model C.prog C.w) A noE use Q (.ref D) Cc (.ok .next) s') :
   wpAny (model C.prog C.w) A (comprehension (.ListComp elt [⟨t,iter,ifs,0⟩] sc p) sc env pos' (newList []) false (eval iter env) use) Q noE s:=by
 unfold ig at hsc
 induction hns:fq t using Option.casesOn with
 | none=>rw [hns] at hsc;injection hsc
 | some ns =>
   rw [hns] at hsc
   exact aw2 (Bad:=fun _=>False) ha hk he hit (cj hs) (ag9 hsc) hns (fun y hy=>hy) (fun _=>rfl) (fun _ _ _=>be6) (fun y hy=>hy.elim) (fun Da Xt cenv _ _=>av4 (.head _) (hok.tr A ha) (hok.el A ha)) hrun hyl hR
theorem ag2 {A:Around} {env:Env} {Z:List Addr} {io:HI} {s:Shared} {elt iter t u iu:Expr} {sc:Scope} {p pos':Pos} {ds ys:List D} {src:Ro→Sg→Option (List D × Sg)} {tr el:Ro→Sg→Option (D × Sg)} {use:Option (Value→Sem Unit)} {Q:Value→Shared→Prop} (ha:AOk A lv) (he:m6 C kd Z io env ro s.heap) (hk:Sok C Z io g s) (hsc:sj sc kd t u = true)
   (hsrc:z9 C lv kd ro iter g ds g1) (hs:∀ elts k p,iter≠.Set elts k p) (hsrc2:∀ ro g ds g',src ro g = some (ds,g')→z9 C lv (fun y=>sc.names.lookup y) ro iu g ds g'∧∀ elts k p,iu≠.Set elts k p) (hok:yi C lv elt [] sc tr el)
   (hrun:o7 (fun ro g=>c7 (src ro g) fun es g=>o7 (emK tr el) u ro es g) t (m9 sc ro) ds g1 = some (ys,g2)) (hyl:ys.length≤lim)
   (hR:∀ D Cc s' io' m',q0 C io io' s s'→Sok C (Cc::Z) io' g2 s'→Has (VV C io' (Cc::Z)) io' s'.heap (.lst ys) (.ref D)→s'.heap.Ns Cc m'→s.heap.get? Cc = none→compPost (model C.prog C.w) A noE use Q (.ref D) Cc (.ok .next) s') :
   wpAny (model C.prog C.w) A (comprehension (.ListComp elt [⟨t,iter,[],0⟩,⟨u,iu,[],0⟩] sc p) sc env pos' (newList []) false (eval iter env) use) Q noE s:=by
 induction t using Expr.casesOn with
 | Name x px =>
   induction u using Expr.casesOn with
   | Name y py =>
     replace hsc:(x != y&&wu sc kd [x,y]) = true:=hsc
     rw [Bool.and_eq_true,bne_iff_ne] at hsc
     have sf:=ag9 hsc.2
     have hloc:∀ z∈[x,y],sc.names.lookup z = some .local:=by
       rcases sf.tg with h | ⟨z,h,_⟩
       · exact h.2
       · injection h with _ h;injection h
     refine aw2 (Bad:=fun z=>z = y) ha hk he (hsrc _ A env Z io s ha he hk) (cj hs) sf rfl (fun z hz=>?_) (fun h=>absurd (show 2 = 1 from h) (by decide)) (fun _ _ _=>bd8) (fun z hz=>?_) (fun Da Xt cenv hD hC=>ct4 ha (.head _) hD (fun z hz=>.tail _ hz) rfl (.loc _ (fun z hz=>?_) hC) (fun z hz=>hz) (fun ro g ds g' h=>⟨fun env' Z' io' s he hk=>(hsrc2 ro g ds g' h).1 _ A env' Z' io' s ha he hk,(hsrc2 ro g ds g' h).2⟩) (av4 (.head _) (hok.tr A ha) (hok.el A ha))) hrun hyl hR
     · exact List.mem_singleton.mp hz ▸ .head _
     · subst hz
       exact ⟨fun h=>hsc.1 (List.mem_singleton.mp h).symm,hloc _ (.tail _ (.head _))⟩
     · exact hloc z (List.mem_singleton.mp hz ▸ .tail _ (.head _))
   | _=>injection hsc
 | _=>injection hsc
theorem gf {A:Around} {Z:List Addr} {io:HI} {s:Shared} {ys:List D} (hk:Sok C Z io g s):∀ D' Cc s' io' m',q0 C io io' s s'→Sok C (Cc::Z) io' g2 s'→Has (VV C io' (Cc::Z)) io' s'.heap (.lst ys) (.ref D')→s'.heap.Ns Cc m'→s.heap.get? Cc = none→compPost (model C.prog C.w) A noE none (ff C Z io s (.lst ys) g2) (.ref D') Cc (.ok .next) s':=by
 intro D' Cc s' io' m' xg kg hh hn hnone
 refine ⟨m',hn,fun h' hsb=>?_⟩
 have hkk:∀ b o,s'.heap.get? b = some o→b∉[Cc]→h'.get? b = some o:=fun b o e hb=>hsb.extBut b o (by simpa using hb) e
 have same:∃ h'' tk,({ s' with heap:=h' }:Shared) = { s' with heap:=h'',toks:=tk }:=⟨h',s'.toks,rfl⟩
 refine ⟨io',xg.drop (F:=[Cc]) same hkk fun f hf=>List.mem_singleton.mp hf ▸ hnone,Sok.drop (F:=[Cc]) kg same hkk fun f hf hz=>?_,Has.drop (F:=[Cc]) (s:=s') (s':={ s' with heap:=h' }) hh hkk⟩
 have e:=List.mem_singleton.mp hf
 subst e
 refine ze (hk.zal _ hz) fun o e=>?_
 rw [hnone] at e;exact a8 e
theorem bk1 {elt iter t:Expr} {ifs:List Expr} {sc:Scope} {p:Pos} {ds ys:List D} {tr el:Ro→Sg→Option (D × Sg)} (hsc:ig sc kd t = true)
   (hsrc:z9 C lv kd ro iter g ds g1) (hs:∀ elts k p,iter≠.Set elts k p) (hok:yi C lv elt ifs sc tr el)
   (hrun:o7 (emK tr el) t (m9 sc ro) ds g1 = some (ys,g2)) (hyl:ys.length≤lim):k8 C lv kd ro (.ListComp elt [⟨t,iter,ifs,0⟩] sc p) g (.lst ys) g2:=fun A env Z io s ha he hk=>by
 rw [eval_ListComp]
 exact ve ha he hk hsc (hsrc t A env Z io s ha he hk) hs hok hrun hyl (gf hk)
theorem az1 {elt iter t u iu:Expr} {sc:Scope} {p:Pos} {ds ys:List D} {src:Ro→Sg→Option (List D × Sg)} {tr el:Ro→Sg→Option (D × Sg)} (hsc:sj sc kd t u = true)
   (hsrc:z9 C lv kd ro iter g ds g1) (hs:∀ elts k p,iter≠.Set elts k p) (hsrc2:∀ ro g ds g',src ro g = some (ds,g')→z9 C lv (fun y=>sc.names.lookup y) ro iu g ds g'∧∀ elts k p,iu≠.Set elts k p) (hok:yi C lv elt [] sc tr el)
   (hrun:o7 (fun ro g=>c7 (src ro g) fun es g=>o7 (emK tr el) u ro es g) t (m9 sc ro) ds g1 = some (ys,g2)) (hyl:ys.length≤lim):k8 C lv kd ro (.ListComp elt [⟨t,iter,[],0⟩,⟨u,iu,[],0⟩] sc p) g (.lst ys) g2:=fun A env Z io s ha he hk=>by
 rw [eval_ListComp]
 exact ag2 ha he hk hsc hsrc hs hsrc2 hok hrun hyl (gf hk)
theorem mv {ev:Expr→Sg→Option (D × Sg)} (r:g9 C) (hev:o8 C lv kd ro ev) {q p:Pos} {as:List Expr} {ys ds:List D} {a b c:Int}
   (hkd:kd ("range":Str) = some .globalImplicit) (bb:as.all f5 = true) (h2:evs ev as g = some (ys,g')) (hr:m5 a b c = some ds) (hys:(ys = [.int b]∧a = 0∧c = 1)∨(ys = [.int a,.int b]∧c = 1)∨ys = [.int a,.int b,.int c]) :
   z9 C lv kd ro (.Call (.Name "range" q) as [] p) g ds g':=fun t0 A env Z io s ha he hk=>by
 refine PyProof.Rows.Call_ ?_ rfl
 refine Calls.Name_function_global he.fn (bg he hkd) (Calls.loadGlobal_builtin (env:=env) (by rw [he.gl];exact r.g.keeps hk.base) (r.nob _ (by decide)) (by rw [he.bi];exact r.b.keeps hk.base) ((r.bi _ (by decide)).trans (show bootBuiltins "range" = some (.type "range") by decide +kernel)) ?_) (by decide)
 refine callWith_type (fh as bb _ _) (l9 (v9 bb) (a9 (gm hev as h2 ha he hk) fun vs s1 ⟨io1,x1,k1,hh⟩=>?_))
 have fin:∀ (rg:Addr) (s2:Shared) (t u v:Tok),Keeps s1 s2→IsRange s2.heap rg a b c t u v→bw C A t0 Z Z io s ds g' (.ref rg) s2:=fun rg s2 t u v kp hir =>
   .of (x1.trans C (Keeps.grow C kp)) (Keeps.sok C kp k1) (aw3 ha hr hir)
 rcases hys with ⟨rfl,rfl,rfl⟩ | ⟨rfl,rfl⟩ | rfl
 · refine ze2a2 hh fun J J e2q e3q e4q=>?_;clear hh;subst e2q;obtain ⟨t,rfl⟩:=Has.int e3q;subst e4q
   exact call_range_1 (fin _ _ _ _ _ Keeps.push (Heap.get?_push_size _ rfl))
 · refine ze2a2e2a2 hh fun J J e2q e3q J J e6q e7q e8q=>?_;clear hh;subst e2q;obtain ⟨t,rfl⟩:=Has.int e3q;subst e6q;obtain ⟨u,rfl⟩:=Has.int e7q;subst e8q
   exact call_range_2 (fin _ _ _ _ _ Keeps.push (Heap.get?_push_size _ rfl))
 · refine ze2a2e2a2e2a2 hh fun J J e2q e3q J J e6q e7q J J e10q e11q e12q=>?_;clear hh;subst e2q;obtain ⟨t,rfl⟩:=Has.int e3q;subst e6q;obtain ⟨u,rfl⟩:=Has.int e7q;subst e10q;obtain ⟨v,rfl⟩:=Has.int e11q;subst e12q
   unfold m5 at hr
   split at hr
   case isFalse=>injection hr
   case isTrue hc =>
     simp only [Bool.and_eq_true,bne_iff_ne,ne_eq,Bool.not_eq_true',beq_iff_eq,decide_eq_true_eq] at hc
     exact call_range_3 hc.1.1.1.1 (fin _ _ _ _ _ (Keeps.push (k:=s1.toks)) (Heap.get?_push_size _ rfl)) (.inl hc.1.1.2)
end Mine
namespace Mine
noncomputable def cw5:Expr→Bool
 | .IfExp ..=>false
 | .UnaryOp .Not _ _=>false
 | .BoolOp ..=>false
 | .Compare ..=>false
 | _=>true
section
variable {T:Tbl} {n:Nat} {kd:Kd} {ro:Ro}
inductive nz (T:Tbl) (n:Nat) (kd:Kd) (ro:Ro) (g:Sg) (r:D × Sg):Expr→Prop
 | c0 (k:Nat) (p:Pos) (h:some (D.none,g) = some r):nz T n kd ro g r (.Constant .none k p)
 | cb (b:Bool) (k:Nat) (p:Pos) (h:some (D.bool b,g) = some r):nz T n kd ro g r (.Constant (.bool b) k p)
 | ci (i:Int) (k:Nat) (p:Pos) (h:some (D.int i,g) = some r):nz T n kd ro g r (.Constant (.int i) k p)
 | cs (s:Str) (k:Nat) (p:Pos) (h:(if j7 s then some (D.str s,g) else none) = some r):nz T n kd ro g r (.Constant (.str s) k p)
 | name (x:Str) (p:Pos) (h:(if x==("__debug__":Str)||x==("__classdict__":Str) then none else (ro.lookup x).map (·,g)) = some r):nz T n kd ro g r (.Name x p)
 | bin (a:Expr) (op:Operator) (b:Expr) (p:Pos) (h:(c7 (pev T n kd ro a g) fun x g=>c7 (pev T n kd ro b g) fun y g=>(ac6 op x y).map (·,g)) = some r):nz T n kd ro g r (.BinOp a op b p)
 | neg (a:Expr) (p:Pos) (h:(c7 (pev T n kd ro a g) fun x g=>match x with | .int i=>some (D.int (-i),g) | _=>none) = some r):nz T n kd ro g r (.UnaryOp .USub a p)
 | list (es:List Expr) (p:Pos) (h:(c7 (evs (pev T n kd ro) es g) fun ds g=>if ds.length≤lim then some (D.lst ds,g) else none) = some r):nz T n kd ro g r (.List es p)
 | tup (es:List Expr) (k:Nat) (p:Pos) (h:(c7 (evs (pev T n kd ro) es g) fun ds g=>if ds.length≤lim then some (D.tup ds,g) else none) = some r):nz T n kd ro g r (.Tuple es k p)
 | cmp (a:Expr) (op:CmpOp) (b:Expr) (p:Pos) (h:(c7 (pev T n kd ro a g) fun x g=>c7 (pev T n kd ro b g) fun y g=>(jo op x y).map fun c=>(D.bool c,g)) = some r):nz T n kd ro g r (.Compare a [op] [b] p)
 | slice (a:Expr) (lo hi st:Option Expr) (q p:Pos) (h:(c7 (pev T n kd ro a g) fun x g =>
       c7 (fx (pev T n kd ro) lo g) fun l g=>c7 (fx (pev T n kd ro) hi g) fun h g=>c7 (fx (pev T n kd ro) st g) fun s g =>
         (y0 x l h s).map (·,g)) = some r):nz T n kd ro g r (.Subscript a (.Slice lo hi st q) p)
 | item (a i:Expr) (p:Pos) (h:(c7 (pev T n kd ro a g) fun x g=>c7 (pev T n kd ro i g) fun y g =>
       match x with
       | .hdr _=>match T.mt "__getitem__" with | some f=>f [x,y] g | none=>none
       | _=>(z7 x y).map (·,g)) = some r):nz T n kd ro g r (.Subscript a i p)
 | comp (el t it:Expr) (ifs:List Expr) (sc:Scope) (p:Pos) (h:(if !ig sc kd t then none else
       c7 (ke T n kd ro it g) fun ds g =>
         c7 (o7 (emK (fun ro g=>match ifs with
               | []=>some (.bool true,g)
               | [c]=>c7 (pt T n (fun x=>sc.names.lookup x) ro c g) fun b g=>some (.bool b,g)
               | _=>none)
             (fun ro g=>pev T n (fun x=>sc.names.lookup x) ro el g)) t (m9 sc ro) ds g)
           fun ys g=>if ys.length≤lim then some (D.lst ys,g) else none) = some r):nz T n kd ro g r (.ListComp el [⟨t,it,ifs,0⟩] sc p)
 | comp2 (el t it u iu:Expr) (sc:Scope) (p:Pos) (h:(if !sj sc kd t u then none else
       c7 (ke T n kd ro it g) fun ds g =>
         c7 (o7 (fun ro g=>c7 (ke T n (fun x=>sc.names.lookup x) ro iu g) fun es g =>
             o7 (emK (fun _ g=>some (.bool true,g)) (fun ro g=>pev T n (fun x=>sc.names.lookup x) ro el g)) u ro es g) t (m9 sc ro) ds g)
           fun ys g=>if ys.length≤lim then some (D.lst ys,g) else none) = some r):nz T n kd ro g r (.ListComp el [⟨t,it,[],0⟩,⟨u,iu,[],0⟩] sc p)
 | meth (o:Expr) (m:Str) (q:Pos) (as:List Expr) (p:Pos) (h:(if cg o&&q.endLine==p.line&&decide (as.length < 20)&&as.all f5 then c7 (pev T n kd ro o g) fun x g=>c7 (evs (pev T n kd ro) as g) fun ys g=>ez T m x ys g
       else none) = some r):nz T n kd ro g r (.Call (.Attribute o m q) as [] p)
 | spl (src body:Expr) (x:Str) (an:Pos) (sc:Scope) (lp q p:Pos) (h0:kd ("_split_list":Str) = some .globalImplicit) (h1:z2 sc kd x = true) (h:(c7 (yx T n kd ro src g) fun ds g =>
             c7 (jk (fun d g=>c7 (pev T n (fun y=>sc.names.lookup y) ((x,d)::m9 sc ro) body g) fun r g=>(z6 r).map (·,g)) ds g) fun p g =>
               some (D.tup [.lst p.1,.lst p.2],g)) = some r):nz T n kd ro g r (.Call (.Name "_split_list" q) [src,.Lambda ⟨[],[⟨x,none,an⟩],none,[],[],none,[]⟩ body sc lp] [] p)
 | hdr (q p:Pos) (h0:kd ("Headers":Str) = some .globalImplicit) (h:fnC T.new [] g = some r):nz T n kd ro g r (.Call (.Name "Headers" q) [] [] p)
 | zip (f:Str) (q:Pos) (e c:Expr) (p:Pos) (h0:kd f = some .globalImplicit) (hd:(f==("__debug__":Str)) = false) (hz:az5 e = true) (h:bq8 (T.fz f) (fun g=>yx T n kd ro e g) (fun g=>pev T n kd ro c g) g = some r):nz T n kd ro g r (.Call (.Name f q) [e,c] [] p)
 | call (f:Str) (q:Pos) (as:List Expr) (p:Pos) (h0:kd f = some .globalImplicit) (hd:(f==("__debug__":Str)) = false) (h1:r6 as = true) (h2:(ay f&&!(as.all f5&&decide (as.length < 20))) = false) (h:(c7 (evs (pev T n kd ro) as g) fun ys g=>ce T f ys g) = some r):nz T n kd ro g r (.Call (.Name f q) as [] p)
noncomputable def bt4 (T:Tbl) (n:Nat) (kd:Kd) (ro:Ro) (g:Sg) (as:List Expr):Option (D × Sg) :=
 match as with
 | [src,.Lambda ⟨[],[⟨x,none,_⟩],none,[],[],none,[]⟩ body sc _] =>
   if !z2 sc kd x then none else
   c7 (yx T n kd ro src g) fun ds g =>
     c7 (jk (fun d g=>c7 (pev T n (fun y=>sc.names.lookup y) ((x,d)::m9 sc ro) body g) fun r g=>(z6 r).map (·,g)) ds g) fun p g =>
       some (.tup [.lst p.1,.lst p.2],g)
 | _=>none
noncomputable def cm0 (T:Tbl) (n:Nat) (kd:Kd) (ro:Ro) (g:Sg) (as:List Expr):Option (D × Sg) :=
 match as with
 | []=>fnC T.new [] g
 | _=>none
theorem cp7 {g:Sg} {r:D × Sg} {as:List Expr} {q p:Pos} (h0:kd ("_split_list":Str) = some .globalImplicit) (h:bt4 T n kd ro g as = some r):nz T n kd ro g r (.Call (.Name "_split_list" q) as [] p):=by
 rcases as with _ | ⟨src,l⟩
 · exact a8 h
 rcases l with _ | ⟨e,l⟩
 · exact a8 h
 induction e using Expr.casesOn with
 | Lambda a body sc lp =>
   obtain ⟨po,ar,va,ko,kdf,kw,df⟩:=a
   rcases po with _ | ⟨o,po⟩
   · rcases ar with _ | ⟨⟨x,an,ap⟩,ar⟩
     · exact a8 h
     rcases an with _ | an
     · rcases ar with _ | ⟨o,ar⟩
       · rcases va with _ | va
         · rcases ko with _ | ⟨o,ko⟩
           · rcases kdf with _ | ⟨o,kdf⟩
             · rcases kw with _ | kw
               · rcases df with _ | ⟨o,df⟩
                 · rcases l with _ | ⟨o,l⟩
                   · refine za (z8 (c:=!z2 sc kd x) h) fun h1 h=>?_
                     exact .spl _ _ _ _ _ _ _ _ h0 (by simpa using h1) h
                   · exact a8 h
                 · exact a8 h
               · exact a8 h
             · exact a8 h
           · exact a8 h
         · exact a8 h
       · exact a8 h
     · exact a8 h
   · exact a8 h
 | _=>exact a8 h
theorem co1 {g:Sg} {r:D × Sg} {as:List Expr} {q p:Pos} (h0:kd ("Headers":Str) = some .globalImplicit) (h:cm0 T n kd ro g as = some r):nz T n kd ro g r (.Call (.Name "Headers" q) as [] p):=by
 rcases as with _ | ⟨e,l⟩
 · exact .hdr _ _ h0 h
 · exact a8 h
theorem cb6 {as:List Expr} {e c:Expr} (h:ay6 as = some (e,c)):as = [e,c]∧az5 e = true:=by
 rcases as with _ | ⟨a,_ | ⟨b,_ | ⟨d,l⟩⟩⟩
 · exact a8 h
 · exact a8 h
 · refine za (j0 (c:=az5 a = true) h) fun h1 h=>?_
   injection h with h;injection h with h2 h3;subst h2;subst h3
   exact ⟨rfl,h1⟩
 · exact a8 h
theorem bt0 {S:Option ae} {x:Sg→Option (List D × Sg)} {ev:Sg→Option (D × Sg)} {g:Sg} {r:D × Sg} (h:bq8 S x ev g = some r):∃ s,S = some s∧(c7 (x g) fun ds g=>c7 (ev g) fun d g=>s [.lst ds,d] g) = some r:=by
 induction S using Option.casesOn with
 | none=>exact a8 h
 | some s=>exact ⟨s,rfl,h⟩
theorem ca0 {g:Sg} {r:D × Sg} {as:List Expr} {f:Str} {q p:Pos} (h:(if (kd f != some .globalImplicit||f==("__debug__":Str)) = true then none else if (f==("_split_list":Str)) = true then bt4 T n kd ro g as else if (f==("Headers":Str)) = true then cm0 T n kd ro g as
     else if (!r6 as) = true then none else match ay6 as with | some (e,c)=>bq8 (T.fz f) (fun g=>yx T n kd ro e g) (fun g=>pev T n kd ro c g) g | none=>if (ay f&&!(as.all f5&&decide (as.length < 20))) = true then none else c7 (evs (pev T n kd ro) as g) fun ys g=>ce T f ys g) = some r):nz T n kd ro g r (.Call (.Name f q) as [] p):=by
 refine za (z8 h) fun h0 h'=>?_
 clear h
 simp only [Bool.or_eq_false_iff,bne_eq_false_iff_eq] at h0
 by_cases c1:(f==("_split_list":Str)) = true
 · rw [if_pos c1] at h'
   have:=eq_of_beq c1
   subst this
   exact cp7 h0.1 h'
 rw [if_neg c1] at h'
 by_cases c2:(f==("Headers":Str)) = true
 · rw [if_pos c2] at h'
   have:=eq_of_beq c2
   subst this
   exact co1 h0.1 h'
 rw [if_neg c2] at h'
 refine za (z8 h') fun h1 h=>?_
 induction hz:ay6 as using Option.casesOn with
 | some q' =>
   rw [hz] at h
   refine za (cb6 hz) fun e h2=>?_
   subst e
   exact .zip _ _ _ _ _ h0.1 h0.2 h2 h
 | none =>
   rw [hz] at h
   refine za (z8 h) fun h2 h=>?_
   exact .call _ _ _ _ h0.1 h0.2 (by simpa using h1) h2 h
theorem ch3 {e:Expr} {g:Sg} {r:D × Sg} (h:pev T (n + 1) kd ro e g = some r):nz T n kd ro g r e:=by
 induction e using Expr.casesOn with
 | Constant c k p=>induction c using Const.casesOn<;>first | exact a8 h | exact .c0 _ _ h | exact .cb _ _ _ h | exact .ci _ _ _ h | exact .cs _ _ _ h
 | Name x p=>exact .name _ _ h
 | BinOp a op b p=>exact .bin _ _ _ _ h
 | UnaryOp op a p=>induction op using UnaryOp.casesOn<;>first | exact a8 h | exact .neg _ _ h
 | List es p=>exact .list _ _ h
 | Tuple es k p=>exact .tup _ _ _ h
 | Compare a ops cs p =>
   rcases ops with _ | ⟨op,_ | ⟨op2,ops⟩⟩
   · exact a8 h
   · rcases cs with _ | ⟨b,_ | ⟨b2,cs⟩⟩
     · exact a8 h
     · exact .cmp _ _ _ _ h
     · exact a8 h
   · exact a8 h
 | Subscript a i p=>induction i using Expr.casesOn<;>first | exact .slice _ _ _ _ _ _ h | exact .item _ _ _ h
 | ListComp el gens sc p =>
   rcases gens with _ | ⟨⟨t,it,ifs,as⟩,l⟩
   · exact a8 h
   · induction l using List.casesOn with
     | nil=>rcases as with (_ | _) | _<;>first | exact .comp _ _ _ _ _ _ h | exact a8 h
     | cons g2 l =>
       obtain ⟨u,iu,ifs2,as2⟩:=g2
       rcases as with (_ | _) | _<;>first | exact a8 h | (induction ifs using List.casesOn<;>first | exact a8 h | (rcases l with _ | ⟨g3,l⟩<;>first | exact a8 h | (rcases as2 with (_ | _) | _<;>first | exact a8 h | (induction ifs2 using List.casesOn<;>first | exact a8 h | exact .comp2 _ _ _ _ _ _ _ h))))
 | Call f as kws p =>
   induction kws using List.casesOn with
   | nil=>induction f using Expr.casesOn<;>first | exact a8 h | exact .meth _ _ _ _ _ h | exact ca0 h
   | cons k r=>induction f using Expr.casesOn<;>exact a8 h
 | _=>exact a8 h
inductive PtV (T:Tbl) (n:Nat) (kd:Kd) (ro:Ro) (g:Sg) (r:Bool × Sg):Expr→Prop
 | not (a:Expr) (p:Pos) (h:(c7 (pt T n kd ro a g) fun b g=>some (!b,g)) = some r):PtV T n kd ro g r (.UnaryOp .Not a p)
 | and (vs:List Expr) (p:Pos) (h:ay0 (fun e g=>pt T n kd ro e g) vs g = some r):PtV T n kd ro g r (.BoolOp .And vs p)
 | or (vs:List Expr) (p:Pos) (h:bg8 (fun e g=>pt T n kd ro e g) vs g = some r):PtV T n kd ro g r (.BoolOp .Or vs p)
 | cmp (a:Expr) (op:CmpOp) (b:Expr) (p:Pos) (h:(c7 (pev T n kd ro a g) fun x g=>c7 (pev T n kd ro b g) fun y g=>(jo op x y).map (·,g)) = some r):PtV T n kd ro g r (.Compare a [op] [b] p)
 | val (e:Expr) (h0:cw5 e = true) (h:(c7 (pev T n kd ro e g) fun x g=>(z6 x).map (·,g)) = some r):PtV T n kd ro g r e
theorem cw0 {e:Expr} {g:Sg} {r:Bool × Sg} (h:pt T (n + 1) kd ro e g = some r):PtV T n kd ro g r e:=by
 induction e using Expr.casesOn with
 | BoolOp op vs p =>
   induction op using BoolOp.casesOn with
   | And=>exact .and _ _ h
   | Or=>exact .or _ _ h
 | UnaryOp op a p=>induction op using UnaryOp.casesOn<;>first | exact .not _ _ h | exact .val _ rfl h
 | IfExp t a b p=>exact a8 h
 | Compare a ops cs p =>
   rcases ops with _ | ⟨op,_ | ⟨op2,ops⟩⟩
   · exact a8 h
   · rcases cs with _ | ⟨b,_ | ⟨b2,cs⟩⟩
     · exact a8 h
     · exact .cmp _ _ _ _ h
     · exact a8 h
   · exact a8 h
 | _=>exact .val _ rfl h
noncomputable def af5 (ys:List D) (g:Sg):Option (List D × Sg):=match ys with
 | [.int b]=>(m5 0 b 1).map (·,g)
 | [.int a,.int b]=>(m5 a b 1).map (·,g)
 | [.int a,.int b,.int c]=>(m5 a b c).map (·,g)
 | _=>none
inductive xk (g:Sg) (r:List D × Sg):List D→Prop
 | r1 (b:Int) (h:(m5 0 b 1).map (·,g) = some r):xk g r [.int b]
 | r2 (a b:Int) (h:(m5 a b 1).map (·,g) = some r):xk g r [.int a,.int b]
 | r3 (a b c:Int) (h:(m5 a b c).map (·,g) = some r):xk g r [.int a,.int b,.int c]
theorem br8 {g:Sg} {r:List D × Sg} {ys:List D} (h:af5 ys g = some r):xk g r ys:=by
 rcases ys with _ | ⟨d1,l⟩
 · exact a8 h
 induction d1 using D.casesOn with
 | int a =>
   rcases l with _ | ⟨d2,l⟩
   · exact .r1 _ h
   induction d2 using D.casesOn with
   | int b =>
     rcases l with _ | ⟨d3,l⟩
     · exact .r2 _ _ h
     induction d3 using D.casesOn with
     | int c =>
       rcases l with _ | ⟨d4,l⟩
       · exact .r3 _ _ _ h
       · exact a8 h
     | _=>exact a8 h
   | _=>exact a8 h
 | _=>exact a8 h
inductive aw7 (T:Tbl) (n:Nat) (kd:Kd) (ro:Ro) (g:Sg) (r:List D × Sg):Expr→Prop
 | range (q:Pos) (as:List Expr) (p:Pos) (h0:kd ("range":Str) = some .globalImplicit) (h1:as.all f5 = true) (h:(c7 (evs (pev T n kd ro) as g) af5) = some r):aw7 T n kd ro g r (.Call (.Name "range" q) as [] p)
 | val (e:Expr) (h:(c7 (pev T n kd ro e g) fun d g=>(dc d).map (·,g)) = some r):aw7 T n kd ro g r e
theorem by4 {g:Sg} {r:List D × Sg} {as:List Expr} {f:Str} {q p:Pos} (h:(if (f==("range":Str)) = true then (if (kd f != some .globalImplicit||!as.all f5) = true then none else c7 (evs (pev T n kd ro) as g) af5)
   else c7 (pev T n kd ro (.Call (.Name f q) as [] p) g) fun d g=>(dc d).map (·,g)) = some r):aw7 T n kd ro g r (.Call (.Name f q) as [] p):=by
 by_cases c:(f==("range":Str)) = true
 · rw [if_pos c] at h
   have:=eq_of_beq c
   subst this
   refine za (z8 h) fun h0 h'=>?_
   simp only [Bool.or_eq_false_iff,bne_eq_false_iff_eq,Bool.not_eq_false'] at h0
   exact .range _ _ _ h0.1 h0.2 h'
 · rw [if_neg c] at h
   exact .val _ h
theorem cf4 {e:Expr} {g:Sg} {r:List D × Sg} (h:ke T (n + 1) kd ro e g = some r):aw7 T n kd ro g r e:=by
 induction e using Expr.casesOn with
 | Call f as kws p =>
   induction f using Expr.casesOn with
   | Name f q =>
     induction kws using List.casesOn with
     | nil=>exact by4 h
     | cons k r=>exact .val _ h
   | _=>exact .val _ h
 | _=>exact .val _ h
noncomputable def cn6 (x y:D) (g:Sg):Option (List D × Sg):=match x,y with
 | .lst l,.lst m=>some (cr l m,g)
 | _,_=>none
theorem cp8 {x y:D} {g:Sg} {r:List D × Sg} (h:cn6 x y g = some r):∃ l m,x = .lst l∧y = .lst m∧r = (cr l m,g):=by
 induction x using D.casesOn with
 | lst l=>induction y using D.casesOn with
   | lst m=>(injection h with h;subst h);exact ⟨_,_,rfl,rfl,rfl⟩
   | _=>exact a8 h
 | _=>exact a8 h
inductive ao6 (T:Tbl) (n:Nat) (kd:Kd) (ro:Ro) (g:Sg) (r:List D × Sg):Expr→Prop
 | zip (q:Pos) (a b:Expr) (p:Pos) (h0:kd ("zip":Str) = some .globalImplicit) (h:(c7 (pev T n kd ro a g) fun x g=>c7 (pev T n kd ro b g) fun y g=>cn6 x y g) = some r):ao6 T n kd ro g r (.Call (.Name "zip" q) [a,b] [] p)
 | val (e:Expr) (h:(c7 (pev T n kd ro e g) fun d g=>(dc d).map (·,g)) = some r):ao6 T n kd ro g r e
theorem cc8 {g:Sg} {r:List D × Sg} {a b:Expr} {f:Str} {q p:Pos} (h:(if (f==("zip":Str)) = true then (if (kd f != some .globalImplicit) = true then none else c7 (pev T n kd ro a g) fun x g=>c7 (pev T n kd ro b g) fun y g=>cn6 x y g)
   else none) = some r):ao6 T n kd ro g r (.Call (.Name f q) [a,b] [] p):=by
 by_cases c:(f==("zip":Str)) = true
 · rw [if_pos c] at h
   have:=eq_of_beq c
   subst this
   refine za (z8 h) fun h0 h'=>?_
   simp only [bne_eq_false_iff_eq] at h0
   exact .zip _ _ _ _ h0 h'
 · rw [if_neg c] at h
   exact a8 h
theorem cd6 {e:Expr} {g:Sg} {r:List D × Sg} (h:yx T (n + 1) kd ro e g = some r):ao6 T n kd ro g r e:=by
 induction e using Expr.casesOn with
 | Call f as kws p =>
   induction f using Expr.casesOn with
   | Name f q =>
     rcases as with _ | ⟨a,_ | ⟨b,_ | ⟨c,l⟩⟩⟩
     · exact .val _ h
     · exact .val _ h
     · induction kws using List.casesOn with
       | nil=>exact cc8 h
       | cons k r=>exact .val _ h
     · exact .val _ h
   | _=>exact .val _ h
 | _=>exact .val _ h
end
end Mine
namespace Mine
section
variable {T:Tbl} {mu:List Str} {n:Nat} {kd:Kd} {fo:Fo} {g:Sg} {fl:Fl}
inductive oa (T:Tbl) (mu:List Str) (n:Nat) (kd:Kd) (fo:Fo) (g:Sg) (fl:Fl):Stmt→Prop
 | name (x:Str) (q:Pos) (e:Expr) (p:Pos) (d:D) (g1:Sg) (h0:c9 kd x = true) (he:pev T n kd (d6 fo) e g = some (d,g1)) (hf:fl = .next (o9 x (.val d) fo) g1):oa T mu n kd fo g fl (.Assign [.Name x q] e p)
 | own (ts:List Expr) (k1:Nat) (q:Pos) (es:List Expr) (k:Nat) (p p':Pos) (n1:List Str) (e1:List Expr) (z:Str) (e0:List Expr) (n2:List Str) (e2:List Expr) (d1:List D) (g1:Sg) (d0:List D) (g2:Sg) (d2:List D) (g3:Sg)
     (hw:ku kd ts es = some none) (hs:z4 mu ts es = some (n1,e1,z,e0,n2,e2))
     (hc:(c9 kd z&&n1.all (c9 kd)&&n2.all (c9 kd)&&es.all f5&&n2.length==e2.length&&decide (es.length < 20)) = true)
     (h1:evs (pev T n kd (d6 fo)) e1 g = some (d1,g1)) (h0:evs (pev T n kd (d6 fo)) e0 g1 = some (d0,g2)) (h2:evs (pev T n kd (d6 fo)) e2 g2 = some (d2,g3)) (hl:d0.length≤lim)
     (hf:fl = .next (j9 (n2.zip d2) (o9 z (.own d0) (j9 (n1.zip d1) fo))) g3):oa T mu n kd fo g fl (.Assign [.Tuple ts k1 q] (.Tuple es k p) p')
 | own2 (ts:List Expr) (k1:Nat) (q:Pos) (es:List Expr) (k:Nat) (p p':Pos) (z:Str) (e0:List Expr) (n2:List Str) (e2:List Expr) (d0:List D) (g2:Sg) (d2:List D) (g3:Sg)
     (hw:ku kd ts es = some (some (z::n2))) (hs:z4 mu ts es = some ([],[],z,e0,n2,e2)) (hnd:(z::n2).Nodup) (hc:∀ y∈z::n2,c9 kd y = true) (hp:es.all f5 = true) (hl2:n2.length = e2.length) (hel:es.length < 20)
     (h0:evs (pev T n kd (d6 fo)) e0 g = some (d0,g2)) (h2:evs (pev T n kd (d6 fo)) e2 g2 = some (d2,g3)) (hl:d0.length≤lim)
     (hf:fl = .next (o9 z (.own d0) (j9 (n2.reverse.zip d2.reverse) fo)) g3):oa T mu n kd fo g fl (.Assign [.Tuple ts k1 q] (.Tuple es k p) p')
 | tup (ts:List Expr) (k1:Nat) (q:Pos) (es:List Expr) (k:Nat) (p p':Pos) (ds:List D) (g1:Sg) (fo2:Fo) (hw:ku kd ts es = some none) (he:pev T n kd (d6 fo) (.Tuple es k p) g = some (.tup ds,g1))
     (hp:dw kd ts ds fo = some fo2) (hf:fl = .next fo2 g1):oa T mu n kd fo g fl (.Assign [.Tuple ts k1 q] (.Tuple es k p) p')
 | swap (ts:List Expr) (k1:Nat) (q:Pos) (es:List Expr) (k:Nat) (p p':Pos) (names:List Str) (ds:List D) (g1:Sg) (hw:ku kd ts es = some (some names)) (he:pev T n kd (d6 fo) (.Tuple es k p) g = some (.tup ds,g1))
     (hc:(n9 ts==some names&&decide names.Nodup&&names.all (c9 kd)&&names.length==ds.length) = true) (hf:fl = .next (j9 (names.zip ds) fo) g1):oa T mu n kd fo g fl (.Assign [.Tuple ts k1 q] (.Tuple es k p) p')
 | tup2 (ts:List Expr) (k1:Nat) (q:Pos) (e:Expr) (p':Pos) (ds:List D) (g1:Sg) (fo2:Fo) (hne:isTuple e = false) (d:D) (hd:unL d = some ds) (he:pev T n kd (d6 fo) e g = some (d,g1))
     (hp:dw kd ts ds fo = some fo2) (hf:fl = .next fo2 g1):oa T mu n kd fo g fl (.Assign [.Tuple ts k1 q] e p')
 | item (o i:Expr) (q:Pos) (e:Expr) (p:Pos) (d:D) (g1:Sg) (k:Nat) (g2:Sg) (j:D) (g3:Sg) (S:ae) (r:D) (g4:Sg) (he:pev T n kd (d6 fo) e g = some (d,g1)) (ho:pev T n kd (d6 fo) o g1 = some (.hdr k,g2))
     (hi:pev T n kd (d6 fo) i g2 = some (j,g3)) (hS:T.mt "__setitem__" = some S) (hs:S [.hdr k,j,d] g3 = some (r,g4)) (hf:fl = .next fo g4):oa T mu n kd fo g fl (.Assign [.Subscript o i q] e p)
 | ret (e:Expr) (p:Pos) (d:D) (g1:Sg) (he:pev T n kd (frz fo) e g = some (d,g1)) (hf:fl = .ret d g1):oa T mu n kd fo g fl (.Return (some e) p)
 | ifs (t:Expr) (a b:List Stmt) (p:Pos) (c:Bool) (g1:Sg) (he:pt T n kd (d6 fo) t g = some (c,g1)) (h:(if c then f7 T mu n kd a fo g1 else f7 T mu n kd b fo g1) = some fl):oa T mu n kd fo g fl (.If t a b p)
 | fors (t it:Expr) (body:List Stmt) (p:Pos) (ds:List D) (g1:Sg) (he:ap7 (pev T n kd (d6 fo)) (ke T n kd (d6 fo)) kd t it g = some (ds,g1)) (h:wl (fun fo g=>f7 T mu n kd body fo g) kd t ds fo g1 = some fl):oa T mu n kd fo g fl (.For t it body [] p)
 | whiles (t:Expr) (body:List Stmt) (p:Pos) (h:bx (fun fo g=>pt T n kd (d6 fo) t g) (fun fo g=>f7 T mu n kd body fo g) 100000 fo g = some fl):oa T mu n kd fo g fl (.While t body [] p)
 | expr (e:Expr) (p:Pos) (h:bh9 (pev T n kd (d6 fo)) fo e g = some fl):oa T mu n kd fo g fl (.Expr e p)
 | del (o i:Expr) (q p:Pos) (k:Nat) (g1:Sg) (j:D) (g2:Sg) (S:ae) (r:D) (g3:Sg) (ho:pev T n kd (d6 fo) o g = some (.hdr k,g1)) (hi:pev T n kd (d6 fo) i g1 = some (j,g2)) (hS:T.mt "__delitem__" = some S) (hs:S [.hdr k,j] g2 = some (r,g3)) (hf:fl = .next fo g3):oa T mu n kd fo g fl (.Delete [.Subscript o i q] p)
noncomputable def bs4 (x:Option (D × Sg)) (F:List D→Sg→Option Fl):Option Fl:=match x with
 | some (.tup ds,g)=>F ds g
 | _=>none
theorem bh8 {x:Option (D × Sg)} {F:List D→Sg→Option Fl} (h:bs4 x F = some fl):∃ ds g,x = some (.tup ds,g)∧F ds g = some fl:=by
 rcases x with _ | ⟨d,g1⟩
 · exact a8 h
 · induction d using D.casesOn with
   | tup ds=>exact ⟨_,_,rfl,h⟩
   | _=>exact a8 h
noncomputable def cm6 (x:Option (D × Sg)) (F:Nat→Sg→Option Fl):Option Fl:=match x with
 | some (.hdr k,g)=>F k g
 | _=>none
theorem cj0 {x:Option (D × Sg)} {F:Nat→Sg→Option Fl} (h:cm6 x F = some fl):∃ k g,x = some (.hdr k,g)∧F k g = some fl:=by
 rcases x with _ | ⟨d,g1⟩
 · exact a8 h
 · induction d using D.casesOn with
   | hdr k=>exact ⟨_,_,rfl,h⟩
   | _=>exact a8 h
noncomputable def dK (x:Option (D × Sg)) (F:D→Sg→Option Fl):Option Fl:=match x with
 | some (d,g)=>F d g
 | none=>none
theorem bs5 {x:Option (D × Sg)} {F:D→Sg→Option Fl} (h:dK x F = some fl):∃ d g,x = some (d,g)∧F d g = some fl:=by
 induction x using Option.casesOn with
 | none=>exact a8 h
 | some r=>exact ⟨r.1,r.2,rfl,h⟩
noncomputable def bK (x:Option (Bool × Sg)) (F:Bool→Sg→Option Fl):Option Fl:=match x with
 | some (d,g)=>F d g
 | none=>none
theorem cx7 {x:Option (Bool × Sg)} {F:Bool→Sg→Option Fl} (h:bK x F = some fl):∃ d g,x = some (d,g)∧F d g = some fl:=by
 induction x using Option.casesOn with
 | none=>exact a8 h
 | some r=>exact ⟨r.1,r.2,rfl,h⟩
noncomputable def lK (x:Option (List D × Sg)) (F:List D→Sg→Option Fl):Option Fl:=match x with
 | some (d,g)=>F d g
 | none=>none
theorem cw6 {x:Option (List D × Sg)} {F:List D→Sg→Option Fl} (h:lK x F = some fl):∃ d g,x = some (d,g)∧F d g = some fl:=by
 induction x using Option.casesOn with
 | none=>exact a8 h
 | some r=>exact ⟨r.1,r.2,rfl,h⟩
noncomputable def ck6 (x:Option ae) (F:ae→Option Fl):Option Fl:=match x with
 | some f=>F f
 | none=>none
theorem cd7 {x:Option ae} {F:ae→Option Fl} (h:ck6 x F = some fl):∃ f,x = some f∧F f = some fl:=by
 induction x using Option.casesOn with
 | none=>exact a8 h
 | some f=>exact ⟨f,rfl,h⟩
theorem bu7 {x:Option Fo} {g:Sg} (h:x.map (fun fo=>Fl.next fo g) = some fl):∃ fo,x = some fo∧fl = .next fo g:=by
 induction x using Option.casesOn with
 | none=>exact a8 h
 | some r=>(injection h with h;subst h);exact ⟨r,rfl,rfl⟩
theorem jt {α β:Type} {x:Option (α × Sg)} {f:α→Sg→Option β} {r:β} (h:cn x f = some r):∃ a g,x = some (a,g)∧f a g = some r:=by
 induction x using Option.casesOn with
 | none=>exact a8 h
 | some y=>exact ⟨y.1,y.2,rfl,h⟩
noncomputable def cv0 (T:Tbl) (mu:List Str) (n:Nat) (kd:Kd) (fo:Fo) (g:Sg) (ts es:List Expr) (k:Nat) (p:Pos):Option (Option (List Str))→Option (List Str × List Expr × Str × List Expr × List Str × List Expr)→Option Fl
 | some none,some (n1,e1,z,e0,n2,e2) =>
   if !(c9 kd z&&n1.all (c9 kd)&&n2.all (c9 kd)&&es.all f5&&n2.length==e2.length&&decide (es.length < 20)) then none else
   cn (evs (pev T n kd (d6 fo)) e1 g) fun d1 g=>cn (evs (pev T n kd (d6 fo)) e0 g) fun d0 g=>cn (evs (pev T n kd (d6 fo)) e2 g) fun d2 g =>
     if d0.length≤lim then some (.next (j9 (n2.zip d2) (o9 z (.own d0) (j9 (n1.zip d1) fo))) g) else none
 | some none,none=>bs4 (pev T n kd (d6 fo) (.Tuple es k p) g) fun ds g=>(dw kd ts ds fo).map fun fo=>.next fo g
 | some (some names),some ([],[],z,e0,n2,e2) =>
   if !(names==z::n2&&decide names.Nodup&&names.all (c9 kd)&&es.all f5&&n2.length==e2.length&&decide (es.length < 20)) then none else
   cn (evs (pev T n kd (d6 fo)) e0 g) fun d0 g=>cn (evs (pev T n kd (d6 fo)) e2 g) fun d2 g =>
     if d0.length≤lim then some (.next (o9 z (.own d0) (j9 (n2.reverse.zip d2.reverse) fo)) g) else none
 | some (some names),_=>bs4 (pev T n kd (d6 fo) (.Tuple es k p) g) fun ds g=>if n9 ts==some names&&decide names.Nodup&&names.all (c9 kd)&&names.length==ds.length then some (.next (j9 (names.zip ds) fo) g) else none
 | none,_=>none
theorem bw5 {ts es:List Expr} {k1 k:Nat} {q p p':Pos} (h:cv0 T mu n kd fo g ts es k p (ku kd ts es) (z4 mu ts es) = some fl):oa T mu n kd fo g fl (.Assign [.Tuple ts k1 q] (.Tuple es k p) p'):=by
 induction hw:ku kd ts es using Option.casesOn with
 | none=>rw [hw] at h;exact a8 h
 | some o =>
   induction o using Option.casesOn with
   | none =>
     induction hs:z4 mu ts es using Option.casesOn with
     | none =>
       rw [hw,hs] at h
       refine ze2a (bh8 h) fun ds g1 he h=>?_
       refine zea (bu7 h) fun fo2 hp hf=>?_
       exact .tup _ _ _ _ _ _ _ _ _ _ hw he hp hf
     | some r =>
       obtain ⟨n1,e1,z,e0,n2,e2⟩:=r
       rw [hw,hs] at h
       refine za (z8 h) fun hc h=>?_
       refine ze2a (jt h) fun d1 g1 h1 h=>?_
       refine ze2a (jt h) fun d0 g2 h0 h=>?_
       refine ze2a (jt h) fun d2 g3 h2 h=>?_
       refine za (j0 h) fun hl h=>?_
       exact .own _ _ _ _ _ _ _ _ _ _ _ _ _ _ _ _ _ _ _ hw hs (by simpa only [Bool.not_eq_false'] using hc) h1 h0 h2 hl (Option.some.inj h).symm
   | some names =>
     have old:(bs4 (pev T n kd (d6 fo) (.Tuple es k p) g) fun ds g=>if n9 ts==some names&&decide names.Nodup&&names.all (c9 kd)&&names.length==ds.length then some (Fl.next (j9 (names.zip ds) fo) g) else none) = some fl→oa T mu n kd fo g fl (.Assign [.Tuple ts k1 q] (.Tuple es k p) p'):=fun h=>by
       refine ze2a (bh8 h) fun ds g1 he h=>?_
       refine za (j0 h) fun hc h=>?_
       exact .swap _ _ _ _ _ _ _ _ _ _ hw he hc (Option.some.inj h).symm
     induction hs:z4 mu ts es using Option.casesOn with
     | none=>rw [hw,hs] at h;exact old h
     | some r =>
       obtain ⟨n1,e1,z,e0,n2,e2⟩:=r
       rw [hw,hs] at h
       induction n1 using List.casesOn with
       | cons _ _=>exact old h
       | nil =>
         induction e1 using List.casesOn with
         | cons _ _=>exact old h
         | nil =>
           refine za (z8 (c:=!(names==z::n2&&decide names.Nodup&&names.all (c9 kd)&&es.all f5&&n2.length==e2.length&&decide (es.length < 20))) h) fun hc q=>?_
           rw [Bool.not_eq_false',Bool.and_eq_true,Bool.and_eq_true,Bool.and_eq_true,Bool.and_eq_true,Bool.and_eq_true,decide_eq_true_eq,decide_eq_true_eq,List.all_eq_true] at hc
           have en:=eq_of_beq hc.1.1.1.1.1
           subst en
           refine ze2a (jt q) fun d0 g1 h0 q=>?_
           refine ze2a (jt q) fun d2 g2 h2 q=>?_
           refine za (j0 q) fun hl q=>?_
           exact .own2 _ _ _ _ _ _ _ _ _ _ _ _ _ _ _ hw hs hc.1.1.1.1.2 hc.1.1.1.2 hc.1.1.2 (eq_of_beq hc.1.2) hc.2 h0 h2 hl (Option.some.inj q).symm
theorem ci0 {ts:List Expr} {e:Expr} {k1:Nat} {q p':Pos} (hne:isTuple e = false) (h:(match pev T n kd (d6 fo) e g with
     | some (d,g)=>(match unL d with
       | some ds=>(dw kd ts ds fo).map fun fo=>Fl.next fo g
       | none=>none)
     | _=>none) = some fl):oa T mu n kd fo g fl (.Assign [.Tuple ts k1 q] e p'):=by
 induction he:pev T n kd (d6 fo) e g using Option.casesOn with
 | none=>rw [he] at h;exact a8 h
 | some q =>
   obtain ⟨d,g1⟩:=q
   rw [he] at h
   replace h:(match unL d with | some ds=>(dw kd ts ds fo).map fun fo=>Fl.next fo g1 | none=>none) = some fl:=h
   induction hd:unL d using Option.casesOn with
   | none=>rw [hd] at h;exact a8 h
   | some ds =>
     rw [hd] at h
     refine zea (bu7 h) fun fo2 hp hf=>?_
     exact .tup2 _ _ _ _ _ _ _ _ hne _ hd he hp hf
theorem ca6 {S:Option ae} {x j:D} (h:cl5 S x j fo g = some fl):∃ k f,S = some f∧x = .hdr k∧∃ r g1,f [.hdr k,j] g = some (r,g1)∧fl = .next fo g1:=by
 induction S using Option.casesOn with
 | none=>exact a8 h
 | some f =>
   induction x using D.casesOn with
   | hdr k =>
     refine ze2a (bs5 (F:=fun _ g=>some (Fl.next fo g)) h) fun r g1 h1 h=>?_
     exact ⟨k,f,rfl,rfl,r,g1,h1,(Option.some.inj h).symm⟩
   | _=>exact a8 h
theorem cp0 {o i:Expr} {q p:Pos} (h:(cn (pev T n kd (d6 fo) o g) fun x g=>cn (pev T n kd (d6 fo) i g) fun j g=>cl5 (T.mt "__delitem__") x j fo g) = some fl):oa T mu n kd fo g fl (.Delete [.Subscript o i q] p):=by
 refine ze2a (jt h) fun x g1 ho h=>?_
 refine ze2a (jt h) fun j g2 hi h=>?_
 refine ze2a2 (ca6 h) fun k S hS e q1=>?_
 subst e
 refine ze2a q1 fun r g3 hs hf=>?_
 exact .del _ _ _ _ _ _ _ _ _ _ _ ho hi hS hs hf
theorem ce6 {x:Str} {e:Expr} {q p:Pos} (h:(if (!c9 kd x) = true then none else dK (pev T n kd (d6 fo) e g) fun d g=>some (Fl.next (o9 x (.val d) fo) g)) = some fl):oa T mu n kd fo g fl (.Assign [.Name x q] e p):=by
 refine za (z8 h) fun h0 h=>?_
 refine ze2a (bs5 h) fun d g1 he h=>?_
 exact .name _ _ _ _ _ _ (by simpa only [Bool.not_eq_false'] using h0) he (Option.some.inj h).symm
theorem bz0 {o i e:Expr} {q p:Pos} (h:(dK (pev T n kd (d6 fo) e g) fun d g=>cm6 (pev T n kd (d6 fo) o g) fun k g=>dK (pev T n kd (d6 fo) i g) fun j g=>ck6 (T.mt "__setitem__") fun f=>dK (f [.hdr k,j,d] g) fun J g=>some (Fl.next fo g)) = some fl) :
   oa T mu n kd fo g fl (.Assign [.Subscript o i q] e p):=by
 refine ze2a (bs5 h) fun d g1 he h=>?_
 refine ze2a (cj0 h) fun k g2 ho h=>?_
 refine ze2a (bs5 h) fun j g3 hi h=>?_
 refine zea (cd7 h) fun S hS h=>?_
 refine ze2a (bs5 h) fun r g4 hs h=>?_
 exact .item _ _ _ _ _ _ _ _ _ _ _ _ _ _ he ho hi hS hs (Option.some.inj h).symm
theorem cr1 {e:Expr} {p:Pos} (h:(dK (pev T n kd (frz fo) e g) fun d g=>some (Fl.ret d g)) = some fl):oa T mu n kd fo g fl (.Return (some e) p):=by
 refine ze2a (bs5 h) fun d g1 he h=>?_
 exact .ret _ _ _ _ he (Option.some.inj h).symm
theorem cv9 {t:Expr} {a b:List Stmt} {p:Pos} (h:(bK (pt T n kd (d6 fo) t g) fun c g=>if c then f7 T mu n kd a fo g else f7 T mu n kd b fo g) = some fl):oa T mu n kd fo g fl (.If t a b p):=by
 refine ze2a (cx7 h) fun c g1 he h=>?_
 exact .ifs _ _ _ _ _ _ he h
theorem cm9 {t it:Expr} {body:List Stmt} {p:Pos} (h:(if (fq t).isNone = true then none else lK (ap7 (pev T n kd (d6 fo)) (ke T n kd (d6 fo)) kd t it g) fun ds g=>wl (fun fo g=>f7 T mu n kd body fo g) kd t ds fo g) = some fl):oa T mu n kd fo g fl (.For t it body [] p):=by
 refine za (z8 h) fun J h=>?_
 refine ze2a (cw6 h) fun ds g1 he h=>?_
 exact .fors _ _ _ _ _ _ he h
theorem cn1 {st:Stmt} (h:be T mu (n + 1) kd st fo g = some fl):oa T mu n kd fo g fl st:=by
 induction st using Stmt.casesOn with
 | Assign ts e p =>
   rcases ts with _ | ⟨t,l⟩
   · exact a8 h
   induction t using Expr.casesOn with
   | Name x q =>
     rcases l with _ | ⟨t2,l⟩
     · exact ce6 h
     · exact a8 h
   | Tuple es k q =>
     rcases l with _ | ⟨t2,l⟩
     · induction e using Expr.casesOn<;>first | exact bw5 h | exact ci0 rfl h
     · exact a8 h
   | Subscript o i q =>
     rcases l with _ | ⟨t2,l⟩
     · exact bz0 h
     · exact a8 h
   | _=>exact a8 h
 | Return e p=>induction e using Option.casesOn with
   | none=>exact a8 h
   | some e=>exact cr1 h
 | If t a b p=>exact cv9 h
 | For t it body els p=>induction els using List.casesOn with
   | nil=>exact cm9 h
   | cons a r=>exact a8 h
 | While t body els p=>induction els using List.casesOn with
   | nil=>exact .whiles _ _ _ h
   | cons a r=>exact a8 h
 | Expr e p=>exact .expr _ _ h
 | Delete ts p =>
   rcases ts with _ | ⟨t,l⟩
   · exact a8 h
   induction l using List.casesOn with
   | cons t2 l=>induction t using Expr.casesOn<;>exact a8 h
   | nil =>
     induction t using Expr.casesOn with
     | Subscript o i q=>exact cp0 h
     | _=>exact a8 h
 | _=>exact a8 h
theorem mj {t:Expr} {r:List Expr} {ns:List Str} (h:n9 (t::r) = some ns):∃ x p m,t = .Name x p∧n9 r = some m∧ns = x::m:=by
 induction t using Expr.casesOn with
 | Name x p =>
   change (n9 r).map (x::·) = some ns at h
   induction hm:n9 r using Option.casesOn with
   | none=>rw [hm] at h;exact a8 h
   | some m=>rw [hm] at h;(injection h with h;subst h);exact ⟨_,_,_,rfl,rfl,rfl⟩
 | _=>exact a8 h
inductive cn0 (kd:Kd) (fo r:Fo):List Expr→List D→Prop
 | nil (hr:r = fo):cn0 kd fo r [] []
 | name (x:Str) (q:Pos) (ts:List Expr) (d:D) (ds:List D) (h0:c9 kd x = true) (h:dw kd ts ds (o9 x (.val d) fo) = some r):cn0 kd fo r (.Name x q::ts) (d::ds)
theorem oj {ts:List Expr} {ds:List D} {r:Fo} (h:dw kd ts ds fo = some r):cn0 kd fo r ts ds:=by
 induction ts using List.casesOn with
 | nil=>induction ds using List.casesOn with
   | nil=>exact .nil (Option.some.inj h).symm
   | cons d ds=>exact a8 h
 | cons t ts =>
   induction ds using List.casesOn with
   | nil=>induction t using Expr.casesOn<;>exact a8 h
   | cons d ds =>
     induction t using Expr.casesOn with
     | Name x q =>
       refine za (j0 (show (if c9 kd x = true then dw kd ts ds (o9 x (.val d) fo) else none) = some r from h)) fun h0 h=>?_
       exact .name _ _ _ _ _ h0 h
     | _=>exact a8 h
inductive af7 (mu:List Str):List Expr→List Expr→List Str × List Expr × Str × List Expr × List Str × List Expr→Prop
 | here (x:Str) (q:Pos) (ts es:List Expr) (p:Pos) (r:List Expr) (n2:List Str) (hn:n9 ts = some n2):af7 mu (.Name x q::ts) (.List es p::r) ([],[],x,es,n2,r)
 | next (x:Str) (q:Pos) (ts:List Expr) (e:Expr) (r:List Expr) (rr:List Str × List Expr × Str × List Expr × List Str × List Expr) (h:z4 mu ts r = some rr):af7 mu (.Name x q::ts) (e::r) (x::rr.1,e::rr.2.1,rr.2.2)
theorem bh3 {x:Str} {q:Pos} {ts:List Expr} {e:Expr} {r:List Expr} {rr:List Str × List Expr × Str × List Expr × List Str × List Expr} (h:((z4 mu ts r).map fun q=>(x::q.1,e::q.2.1,q.2.2)) = some rr):af7 mu (.Name x q::ts) (e::r) rr:=by
 induction hq:z4 mu ts r using Option.casesOn with
 | none=>rw [hq] at h;exact a8 h
 | some y=>rw [hq] at h;(injection h with h;subst h);exact .next _ _ _ _ _ _ hq
theorem al2 {ts es:List Expr} {rr:List Str × List Expr × Str × List Expr × List Str × List Expr} (h:z4 mu ts es = some rr):af7 mu ts es rr:=by
 induction ts using List.casesOn with
 | nil=>exact a8 h
 | cons t ts =>
   induction t using Expr.casesOn with
   | Name x q =>
     induction es using List.casesOn with
     | nil=>exact a8 h
     | cons e r =>
       induction e using Expr.casesOn with
       | List es0 p =>
         change (if mu.contains x = true then (n9 ts).map fun n2=>([],[],x,es0,n2,r) else (z4 mu ts r).map fun q=>(x::q.1,.List es0 p::q.2.1,q.2.2)) = some rr at h
         by_cases hc:mu.contains x = true
         · rw [if_pos hc] at h
           induction hn:n9 ts using Option.casesOn with
           | none=>rw [hn] at h;exact a8 h
           | some m=>rw [hn] at h;(injection h with h;subst h);exact .here _ _ _ _ _ _ _ hn
         · rw [if_neg hc] at h;exact bh3 h
       | _=>exact bh3 h
   | _=>exact a8 h
end
end Mine
namespace Mine
variable {C:Cst} {lv:Nat} {kd:Kd} {ro:Ro} {g g1 g2 g':Sg} {T:Tbl}
theorem k8.up {lv':Nat} {e:Expr} {d:D} (x:k8 C lv kd ro e g d g') (h:lv≤lv'):k8 C lv' kd ro e g d g':=fun A env Z io s ha he hk=>x A env Z io s (ha.le h) he hk
theorem li.up {lv':Nat} {e:Expr} {d:Bool} (x:li C lv kd ro e g d g') (h:lv≤lv'):li C lv' kd ro e g d g':=fun A env Z io s ha he hk=>x A env Z io s (ha.le h) he hk
theorem z9.up {lv':Nat} {e:Expr} {d:List D} (x:z9 C lv kd ro e g d g') (h:lv≤lv'):z9 C lv' kd ro e g d g':=fun t A env Z io s ha he hk=>x t A env Z io s (ha.le h) he hk
theorem o8.up {lv':Nat} {ev:Expr→Sg→Option (D × Sg)} (x:o8 C lv kd ro ev) (h:lv≤lv'):o8 C lv' kd ro ev:=fun e g d g' he=>(x e g d g' he).up h
theorem fm.up {lv':Nat} {tr:Expr→Sg→Option (Bool × Sg)} (x:fm C lv kd ro tr) (h:lv≤lv'):fm C lv' kd ro tr:=fun e g d g' he=>(x e g d g' he).up h
theorem z0.up {lv':Nat} {f:Value} {S:ae} (x:z0 C lv f S) (h:lv≤lv'):z0 C lv' f S:=fun ds g d g' hs A Z io s vs ha hk hv=>x ds g d g' hs A Z io s vs (ha.le h) hk hv
theorem dh.up {lv':Nat} (x:dh C lv T) (h:lv≤lv'):dh C lv' T where
 fn:=fun f S hf=>let ⟨a,o,fd,h1,h2,h3,h4⟩:=x.fn f S hf;⟨a,o,fd,h1,h2,h3,h4.up h⟩
 mt:=fun f S hf=>let ⟨a,o,fd,h1,h2,h3,h4⟩:=x.mt f S hf;⟨a,o,fd,h1,h2,h3.up h,h4⟩
 new:=fun S hf=>let ⟨h1,h2,h3⟩:=x.new S hf;⟨h1,h2.up h,h3⟩
 fz:=fun f S hf=>let ⟨a,o,fd,h1,h2,h3,h4⟩:=x.fz f S hf;⟨a,o,fd,h1,h2,h3,fun ds d0 g d g' hs A Z io io1 s0 s W v v0 ha=>h4 ds d0 g d g' hs A Z io io1 s0 s W v v0 (ha.le h)⟩
noncomputable def ky (C:Cst) (lv:Nat) (kd:Kd) (ro:Ro) (e:Expr) (g:Sg) (ds:List D) (g':Sg):Prop :=
 ∀ A env Z io s,AOk A lv→m6 C kd Z io env ro s.heap→Sok C Z io g s→wpAny (model C.prog C.w) A (eval e env) (fun v s'=>∃ io' W,q0 C io io' s s'∧Sok C (W++Z) io' g' s'∧(∀ w∈W,s.heap.get? w = none)∧zi C W (W++Z) io' ds v s') noE s
noncomputable def cn2 (C:Cst) (T:Tbl):Prop:=∀ (lv:Nat) (ev:Kd→Ro→Expr→Sg→Option (D × Sg)),(∀ kd ro,o8 C lv kd ro (ev kd ro))→∀ (kd:Kd) (ro:Ro) (src body:Expr) (x:Str) (an:Pos) (sc:Scope) (lp q p:Pos) (g g1 g2:Sg) (ds:List D) (pr:List D × List D),
 kd ("_split_list":Str) = some .globalImplicit→z2 sc kd x = true→f5 src = true→ky C (lv + 2) kd ro src g ds g1 →
 jk (fun d g=>c7 (ev (fun y=>sc.names.lookup y) ((x,d)::m9 sc ro) body g) fun r g=>(z6 r).map (·,g)) ds g1 = some (pr,g2) →
 k8 C (lv + 2) kd ro (.Call (.Name "_split_list" q) [src,.Lambda ⟨[],[⟨x,none,an⟩],none,[],[],none,[]⟩ body sc lp] [] p) g (.tup [.lst pr.1,.lst pr.2]) g2
theorem zi.up {Z Zi F:List Addr} {io io':HI} {s s':Shared} {ds:List D} {v:Value} (h:zi C Zi Z io ds v s) (x:q0 C io io' s s') (hZ:∀ b∈Zi,b∈Z) (k:Sok C Z io g s) (hF:∀ f∈F,s.heap.get? f = none):zi C Zi (F++Z) io' ds v s':=by
 have keepZ:∀ b∈Zi,∀ o,s.heap.get? b = some o→s'.heap.get? b = some o:=fun b hb o e=>x.keep b o e (k.zd b (hZ b hb)).1 (k.zd b (hZ b hb)).2.1
 have up:∀ {a:Addr} {o:Obj},s.heap.get? a = some o→a∉VV C io Z→s'.heap.get? a = some o∧a∉VV C io' (F++Z):=fun {a o} e hv =>
   (x.gx (X:=[])).at (fun f hf=>by cases hf) (fun z hz=>(List.mem_append.mp hz).elim (fun h=>.inr (hF z h)) .inl) a o e hv
 rcases h with ⟨d,hd,hh⟩ | ⟨z,TI,TO,i1,i2,l1,l2,xs,ys,l,m,rfl,rfl,D,hz,hTI,hTO,h1,h2,⟨⟨n1,p1⟩,q1,v1⟩,⟨⟨n2,p2⟩,q2,v2⟩,ll,lm,hnew⟩
 · exact .inl ⟨d,hd,x.hasF hF hh⟩
 · have hL:∀ {l:List Mine.D} {vs:List Value},f0 (VV C io Z) io s.heap l vs→f0 (VV C io' (F++Z)) io' s'.heap l vs:=fun hh=>f0.mono (fun a o e hv=>up e hv) x.pre hh
   have k1:=fun b hb=>keepZ b (hnew b hb)
   exact .inr ⟨z,TI,TO,i1,i2,l1,l2,xs,ys,l,m,rfl,rfl,D,k1 _ (by simp) _ hz,k1 _ (by simp) _ hTI,k1 _ (by simp) _ hTO,h1.at fun o e=>k1 _ (by simp) o e,h2.at fun o e=>k1 _ (by simp) o e,
     ⟨⟨n1,(up p1 v1).1⟩,hL q1,(up p1 v1).2⟩,⟨⟨n2,(up p2 v2).1⟩,hL q2,(up p2 v2).2⟩,ll,lm,hnew⟩
theorem bu8 (r:g9 C) (tb:dh C lv T) {f:Str} {S:ae} (hS:T.fz f = some S) {q p:Pos} {e c:Expr} {ds:List D} {d1 d:D} (hkd:kd f = some .globalImplicit) (hd:(f==("__debug__":Str)) = false) (he1:f5 e = true) (hc1:f5 c = true)
   (h1:ky C lv kd ro e g ds g1) (h2:k8 C lv kd ro c g1 d1 g2) (h3:S [.lst ds,d1] g2 = some (d,g')):k8 C lv kd ro (.Call (.Name f q) [e,c] [] p) g d g':=fun A env Z io s ha he hk=>by
 refine ze3a3 (tb.fz f S hS) fun a o fd hmg jy hfd hcall=>?_
 refine PyProof.Rows.Call_ (ij r he hk hkd hmg hd ?_) rfl
 refine Calls.callWith_function (o:=o) (fd:=fd) (l9 he1 (wpAny_items_cons (a9 (h1 A env Z io s ha he hk) fun v s1 h=>?_) (f6 (bp he1))))
 refine ze2a3 h fun io1 W x1 k1 hw sv=>?_
 have e1:m6 C kd (W++Z) io1 env ro s1.heap:=he.move ((x1.gx (X:=[])).at (fun f hf=>by cases hf) fun z hz=>(List.mem_append.mp hz).elim (fun h=>.inr (hw z h)) .inl) x1.pre fun z o hz e=>⟨x1.keep z o e (hk.zd z (he.inZ hz)).1 (hk.zd z (he.inZ hz)).2.1,List.mem_append_right _ (he.inZ hz)⟩
 refine wpAny_items_cons (a9 (h2 A env (W++Z) io1 s1 ha e1 k1) fun v2 s2 h=>?_) (f6 (bp hc1))
 obtain ⟨io2,x2,k2,hh⟩:=h
 refine wpAny_items_nil ⟨⟨k2.base _ _ jy,hfd⟩,?_⟩
 exact hcall _ _ _ _ _ h3 A Z io io2 s s2 W v v2 ha.c (x1.trans C x2) k2 (fun w hm=>⟨hw w hm,fun hz=>(hk.zal w hz).elim fun o e=>by rw [hw w hm] at e;exact a8 e⟩) (sv.up (F:=[]) x2 (fun b hb=>List.mem_append_left _ hb) k1 (fun f hf=>by cases hf)) hh
theorem rn {n:Nat} {e:Expr} {r} (h:pev T n kd ro e g = some r):∀ elts k p,e≠.Set elts k p:=by
 intro elts k p he
 subst he
 induction n using Nat.casesOn<;>exact a8 h
theorem xz {n:Nat} {e:Expr} {r} {op:CmpOp} (h:pev T n kd ro e g = some r):behindInMarks op e = false:=by
 have:=rn h
 induction e using Expr.casesOn<;>first | rfl | exact absurd rfl (this _ _ _)
theorem nr {n:Nat} {e:Expr} {r} (h:pev T n kd ro e g = some r):∀ l u st p,e≠.Slice l u st p:=by
 intro l u st p he
 subst he
 induction n using Nat.casesOn<;>exact a8 h
theorem du {n:Nat} {e:Expr} {r} (h:pev T n kd ro e g = some r):f5 e = true:=by
 induction e using Expr.casesOn<;>first | rfl | (induction n using Nat.casesOn<;>exact a8 h)
end Mine
namespace Mine
variable {C:Cst} {lv:Nat} {g g1 g2 g':Sg} {T:Tbl}
structure bd (C:Cst) (lv n:Nat) (T:Tbl):Prop where
 ev:∀ kd ro,o8 C lv kd ro (pev T n kd ro)
 tr:∀ kd ro,fm C lv kd ro (pt T n kd ro)
 src:∀ kd ro e g ds g',ke T n kd ro e g = some (ds,g')→z9 C lv kd ro e g ds g'∧∀ elts k p,e≠.Set elts k p
 spl:∀ kd ro e g ds g',yx T n kd ro e g = some (ds,g')→ky C lv kd ro e g ds g'∧f5 e = true
theorem qq {α:Type} {c:Bool} {x:Option α} {r:α} (h:(if c = true then none else x) = some r):c = false∧x = some r:=by
 induction c using Bool.casesOn with
 | true=>simp at h
 | false=>exact ⟨rfl,by simpa using h⟩
theorem w9 {α:Type} {c:Prop} [Decidable c] {x:Option α} {r:α} (h:(if c then x else none) = some r):c∧x = some r:=by
 by_cases hc:c
 · rw [if_pos hc] at h;exact ⟨hc,h⟩
 · rw [if_neg hc] at h;injection h
theorem y8 {α β:Type} {x:Option α} {g g':Sg} {f:α→β} {r:β} (h:x.map (fun a=>(f a,g)) = some (r,g')):∃ a,x = some a∧f a = r∧g = g':=by
 simp only [Option.map_eq_some_iff,Prod.mk.injEq] at h
 refine zea2 h fun a h1 h2 h3=>?_;clear h
 exact ⟨a,h1,h2,h3⟩
set_option tactic.hygienic true in
theorem bp7 (r:g9 C) (tb:dh C lv T) (hspl:cn2 C T) {n:Nat} (ih:bd C lv n T) (kd:Kd) (ro:Ro):o8 C (lv + 2) kd ro (pev T (n + 1) kd ro):=by
 have up:lv≤lv + 2:=by lia
 have ev:∀ {e g d g'},pev T n kd ro e g = some (d,g')→k8 C (lv + 2) kd ro e g d g':=fun h=>(ih.ev kd ro _ _ _ _ h).up up
 have evS:o8 C (lv + 2) kd ro (pev T n kd ro):=(ih.ev kd ro).up up
 intro e g d g' h
 have hv:=ch3 h
 clear h
 induction hv using nz.casesOn<;>rename_i h
 · apply i2 h;exact bo6
 · apply i2 h;exact bo9
 · apply i2 h;exact cg7
 · refine za (w9 h) fun h1 h=>?_
   apply i2 h;exact bx0 h1
 · refine za (qq h) fun h1 h=>?_
   refine zea2 (y8 h) fun a h2 e2q e3q=>?_;subst e2q;subst e3q
   exact bm5 h2 (by rw [h1];decide)
 · refine ze2a (b8 h) fun x g1 h1 h=>?_
   refine ze2a (b8 h) fun y g2 h2 h=>?_
   refine zea2 (y8 h) fun a h3 e2q e3q=>?_;subst e2q;subst e3q
   exact ce3 (ev h1) (ev h2) h3
 · refine ze2a (b8 h) fun x g1 h1 h=>?_
   induction x using D.casesOn<;>first | exact a8 h | skip
   apply i2 h;exact bz3 (ev h1)
 · refine ze2a (b8 h) fun ds g1 h1 h=>?_
   refine za (w9 h) fun h2 h=>?_
   apply i2 h
   exact bk3 evS h1 h2
 · refine ze2a (b8 h) fun ds g1 h1 h=>?_
   refine za (w9 h) fun h2 h=>?_
   apply i2 h
   exact ch9 evS h1 h2
 · refine ze2a (b8 h) fun x g1 h1 h=>?_
   refine ze2a (b8 h) fun y g2 h2 h=>?_
   refine zea2 (y8 h) fun a h3 e2q e3q=>?_;subst e2q;subst e3q
   exact cf9 (ev h1) (ev h2) h3 (xz h2)
 · refine ze2a (b8 h) fun x g1 h1 h=>?_
   refine ze2a (b8 h) fun l g2 h2 h=>?_
   refine ze2a (b8 h) fun u g3 h3 h=>?_
   refine ze2a (b8 h) fun t g4 h4 h=>?_
   refine zea2 (y8 h) fun a h5 e2q e3q=>?_;subst e2q;subst e3q
   exact ay9 evS (ev h1) h2 h3 h4 h5
 · refine ze2a (b8 h) fun x g1 h1 h=>?_
   refine ze2a (b8 h) fun y g2 h2 h=>?_
   split at h
   · split at h
     · rename_i S hS
       exact bg1 (tb.up up) hS (ev h1) (ev h2) h (nr h2)
     · injection h
   · refine zea2 (y8 h) fun a h3 e2q e3q=>?_;subst e2q;subst e3q
     exact bq7 (ev h1) (ev h2) h3 (nr h2)
 · refine za (qq h) fun h0 h=>?_
   refine ze2a (b8 h) fun ds g1 h1 h=>?_
   refine ze2a (b8 h) fun ys g2 h2 h=>?_
   refine za (w9 h) fun h3 h=>?_
   apply i2 h
   have hs:=ih.src kd ro _ _ _ _ h1
   refine bk1 (by simpa using h0) (hs.1.up up) hs.2 ⟨?_,?_⟩ h2 h3
   · exact ew (trx:=fun ro c g=>pt T n _ ro c g) fun ro=>(ih.tr _ ro).up up
   · intro A ha ro g d g' h env' Z' io' s he hk
     exact ((ih.ev _ ro).up up) _ _ _ _ h A env' Z' io' s ha he hk
 · refine za (qq h) fun h0 h=>?_
   refine ze2a (b8 h) fun ds g1 h1 h=>?_
   refine ze2a (b8 h) fun ys g2 h2 h=>?_
   refine za (w9 h) fun h3 h=>?_
   apply i2 h
   have hs:=ih.src kd ro _ _ _ _ h1
   refine az1 (src:=fun ro g=>ke T n _ ro _ g) (by simpa using h0) (hs.1.up up) hs.2 (fun ro g ds g' h=>⟨(ih.src _ ro _ _ _ _ h).1.up up,(ih.src _ ro _ _ _ _ h).2⟩) ⟨?_,?_⟩ h2 h3
   · exact ew (ifs:=[]) (trx:=fun ro c g=>pt T n _ ro c g) fun ro=>(ih.tr _ ro).up up
   · intro A ha ro g d g' h env' Z' io' s he hk
     exact ((ih.ev _ ro).up up) _ _ _ _ h A env' Z' io' s ha he hk
 · refine za (w9 h) fun h0 h=>?_
   simp only [Bool.and_eq_true,decide_eq_true_eq] at h0
   refine ze2a (b8 h) fun x g1 h1 h=>?_
   refine ze2a (b8 h) fun ys g2 h2 h=>?_
   exact br1 (tb.up up) evS h0.1.1.1 h0.1.1.2 h0.1.2 h0.2 (ev h1) h2 h
 · rename_i src body x an sc lp q p h0 h1
   refine ze2a (b8 h) fun ds g1 h2 h=>?_
   refine ze2a (b8 h) fun pr g2 h3 h=>?_
   apply i2 h
   have hsp:=ih.spl kd ro _ _ _ _ h2
   exact hspl lv (pev T n) ih.ev kd ro _ _ _ _ _ _ _ _ _ _ _ _ _ h0 h1 hsp.2 (fun A env Z io s ha he hk=>hsp.1 A env Z io s (ha.le up) he hk) h3
 · rename_i h0
   refine zea (cl6 h) fun S hS h=>?_
   exact cj9 r (tb.up up) hS h0 h
 · rename_i f q e c p h0 hd hz
   refine zea (bt0 h) fun S hS h=>?_
   refine ze2a (b8 h) fun ds g1 h1 h=>?_
   refine ze2a (b8 h) fun d g2 h2 h=>?_
   have hsp:=ih.spl kd ro _ _ _ _ h1
   exact bu8 r (tb.up up) hS h0 hd hsp.2 (du h2) (fun A env Z io s ha he hk=>hsp.1 A env Z io s (ha.le up) he hk) (ev h2) h
 · rename_i h0 hd h1 h2
   refine ze2a (b8 h) fun ys g2 h3 h=>?_
   exact bp5 r (tb.up up) evS h0 hd h1 h2 h3 h
end Mine
namespace Mine
variable {C:Cst} {lv:Nat} {g g1 g2 g':Sg} {T:Tbl}
set_option tactic.hygienic true in
theorem bo8 {n:Nat} (ih:bd C lv n T) (kd:Kd) (ro:Ro):fm C (lv + 2) kd ro (pt T (n + 1) kd ro):=by
 have up:lv≤lv + 2:=by lia
 have ev:∀ {e g d g'},pev T n kd ro e g = some (d,g')→k8 C (lv + 2) kd ro e g d g':=fun h=>(ih.ev kd ro _ _ _ _ h).up up
 have tr:∀ {e g b g'},pt T n kd ro e g = some (b,g')→li C (lv + 2) kd ro e g b g':=fun h=>(ih.tr kd ro _ _ _ _ h).up up
 have trS:fm C (lv + 2) kd ro (pt T n kd ro):=(ih.tr kd ro).up up
 intro e g b g' h
 have hv:=cw0 h
 clear h
 cases hv<;>rename_i h
 · refine ze2a (b8 h) fun x g1 h1 h=>?_
   apply i2 h
   exact cj7 (tr h1)
 · exact fun A env Z io s ha he hk=>wpAny_isTrue_BoolOp (bi1 trS (p:=⟨0,0,0,0⟩) _ h ha he hk)
 · exact fun A env Z io s ha he hk=>wpAny_isTrue_BoolOp (ck1 trS (p:=⟨0,0,0,0⟩) _ h ha he hk)
 · refine ze2a (b8 h) fun x g1 h1 h=>?_
   refine ze2a (b8 h) fun y g2 h2 h=>?_
   refine zea2 (y8 h) fun a h3 e2q e3q=>?_;subst e2q;subst e3q
   exact bx7 (ev h1) (ev h2) h3 (xz h2)
 · rename_i h0
   refine ze2a (b8 h) fun x g1 h1 h=>?_
   refine zea2 (y8 h) fun a h3 e2q e3q=>?_;subst e2q;subst e3q
   refine bb0 (ev h1) h3 fun env whole=>?_
   cases e with
   | UnaryOp op x p=>cases op<;>first | rfl | injection h0
   | BoolOp op vs p=>injection h0
   | IfExp a b c p=>injection h0
   | Compare a ops cs p=>injection h0
   | _=>rfl
theorem at5 {n:Nat} (ih:bd C lv n T) {kd:Kd} {ro:Ro} {e:Expr} {ds:List D} (h:(c7 (pev T n kd ro e g) fun d g=>(dc d).map (·,g)) = some (ds,g')) :
   z9 C (lv + 2) kd ro e g ds g'∧∀ elts k p,e≠.Set elts k p:=by
 refine ze2a (b8 h) fun x g1 h1 h=>?_
 refine zea2 (y8 h) fun a h3 e2q e3q=>?_;subst e2q;subst e3q
 refine ⟨fun t A env Z io s ha he hk=>?_,rn h1⟩
 refine a9 (ih.ev kd ro _ _ _ _ h1 A env Z io s (ha.le (by lia)) he hk) fun v s1 ⟨io1,x1,k1,hh⟩=>?_
 exact .of x1 k1 (yk ha h3 hh)
set_option tactic.hygienic true in
theorem ba9 (r:g9 C) {n:Nat} (ih:bd C lv n T) (kd:Kd) (ro:Ro) (e:Expr) (g:Sg) (ds:List D) (g':Sg) (h:ke T (n + 1) kd ro e g = some (ds,g')):z9 C (lv + 2) kd ro e g ds g'∧∀ elts k p,e≠.Set elts k p:=by
 have hv:=cf4 h
 clear h
 induction hv using aw7.casesOn<;>rename_i h
 · rename_i q as p h0 h0'
   refine ze2a (b8 h) fun ys g1 h1 h=>?_
   refine ⟨?_,fun J J J=>nofun⟩
   have evS:o8 C (lv + 2) kd ro (pev T n kd ro):=(ih.ev kd ro).up (by lia)
   have hy:=br8 h
   clear h
   induction hy using xk.casesOn<;>rename_i h
   · refine zea2 (y8 h) fun a h3 e2q e3q=>?_;subst e2q;subst e3q
     exact mv r evS h0 h0' h1 h3 (.inl ⟨rfl,rfl,rfl⟩)
   · refine zea2 (y8 h) fun a h3 e2q e3q=>?_;subst e2q;subst e3q
     exact mv r evS h0 h0' h1 h3 (.inr (.inl ⟨rfl,rfl⟩))
   · refine zea2 (y8 h) fun a h3 e2q e3q=>?_;subst e2q;subst e3q
     exact mv r evS h0 h0' h1 h3 (.inr (.inr rfl))
 · exact at5 ih h
theorem t7 {ev:Expr→Sg→Option (D × Sg)} {e:Expr} {rest:List Expr} (h:f5 e = true):evs ev (e::rest) g = c7 (ev e g) fun d g=>c7 (evs ev rest g) fun ds g=>some (d::ds,g):=by
 induction e using Expr.casesOn<;>first | rfl | cases h
theorem ap5 {n l1 l2:Nat} (h1:l1 < n) (h2:l2 < n):ZipApart (n + 4) (n + 2) (n + 3) n (n + 1) l1 l2:=by
 constructor<;>(intro h;replace h:(_:Nat) = _:=h;lia)
theorem ar1 {n:Nat} (ih:bd C lv n T) {kd:Kd} {ro:Ro} {e:Expr} {ds:List D} (h:(c7 (pev T n kd ro e g) fun d g=>(dc d).map (·,g)) = some (ds,g')) :
   ky C (lv + 2) kd ro e g ds g'∧f5 e = true:=by
 refine ze2a (b8 h) fun x g1 h1 h=>?_
 refine zea2 (y8 h) fun a h3 e2q e3q=>?_;subst e2q;subst e3q
 refine ⟨fun A env Z io s ha he hk=>?_,du h1⟩
 refine a9 (ih.ev kd ro _ _ _ _ h1 A env Z io s (ha.le (by lia)) he hk) fun v s1 ⟨io1,x1,k1,hh⟩=>?_
 exact ⟨io1,[],x1,k1,by simp,.inl ⟨_,h3,hh⟩⟩
theorem be0 {Z:List Addr} {io:HI} {s:Shared} (k:Sok C Z io g s) {b:Addr} (hb:s.heap.objs.size≤b):b∉VV C io Z∧C.H.get? b = none:=by
 have hn:s.heap.get? b = none:=by
   induction e:s.heap.get? b using Option.casesOn with
   | none=>rfl
   | some o=>exact absurd (Heap.lt_size e) (Nat.not_lt.mpr hb)
 refine ⟨fun hm=>?_,?_⟩
 · simp only [VV,List.mem_append] at hm
   rcases hm with (hm | hm) | hm
   · refine ze (k.val b hm) fun o e=>?_;rw [hn] at e;injection e
   · refine ze (k.st.alive C b hm) fun o e=>?_;rw [hn] at e;injection e
   · refine ze (k.zal b hm) fun o e=>?_;rw [hn] at e;injection e
 · induction e:C.H.get? b using Option.casesOn with
   | none=>rfl
   | some o=>have:=k.base b o e;rw [hn] at this;injection this
set_option tactic.hygienic true in
theorem bh0 (r:g9 C) {n:Nat} (ih:bd C lv n T) (kd:Kd) (ro:Ro) (e:Expr) (g:Sg) (ds:List D) (g':Sg) (h:yx T (n + 1) kd ro e g = some (ds,g')):ky C (lv + 2) kd ro e g ds g'∧f5 e = true:=by
 have hv:=cd6 h
 clear h
 induction hv using ao6.casesOn<;>rename_i h
 · rename_i q a b p h0
   refine ze2a (b8 h) fun x g1 h1 h=>?_
   refine ze2a (b8 h) fun y g2 h2 h=>?_
   have evS:o8 C (lv + 2) kd ro (pev T n kd ro):=(ih.ev kd ro).up (by lia)
   refine ze2a2 (cp8 h) fun l m e2q e3q hr=>?_;subst e2q;subst e3q
   · simp only [Prod.mk.injEq] at hr;refine za hr fun e0q e1q=>?_;clear hr;subst e0q;subst e1q
     refine ⟨fun A env Z io s ha he hk=>?_,rfl⟩
     have bb:([a,b]:List Expr).all f5 = true:=by simp [du h1,du h2]
     have hes:evs (pev T n kd ro) [a,b] g = some ([.lst l,.lst m],g'):=by
       rw [t7 (du h1),h1];show c7 (evs _ [b] _) _ = _
       rw [t7 (du h2),h2];rfl
     refine PyProof.Rows.Call_ ?_ rfl
     refine Calls.Name_function_global he.fn (bg he h0) (Calls.loadGlobal_builtin (env:=env) (by rw [he.gl];exact r.g.keeps hk.base) (r.nob _ (by decide)) (by rw [he.bi];exact r.b.keeps hk.base) ((r.bi _ (by decide)).trans (show bootBuiltins "zip" = some (.type "zip") by decide +kernel)) ?_) (by decide)
     refine callWith_type (fh _ bb _ _) (l9 (v9 bb) (a9 (gm evS _ hes ha he hk) fun vs s1 ⟨io1,x1,k1,hh⟩=>?_))
     refine ze2a2e2a2 hh fun J J e2q e3q J J e6q e7q e8q=>?_;clear hh;subst e2q;obtain ⟨hl1,a1,ws1,rfl,hv1,⟨n1,e1⟩,hs1⟩:=e3q;subst e6q;obtain ⟨hl2,a2,ws2,rfl,hv2,⟨n2,e2⟩,hs2⟩:=e7q;subst e8q
     refine call_zip_2 (xs:=ws1) (ys:=ws2) ⟨_,e1,rfl,_,rfl⟩ ⟨_,e2,rfl,_,rfl⟩ fun h' hz hTI hTO hi1 hi2 hsz hkk=>?_
     have kp:Keeps s1 { s1 with heap:=h' }:=⟨h',s1.toks,rfl,hkk⟩
     let W:List Addr:=[s1.heap.objs.size + 4,s1.heap.objs.size + 2,s1.heap.objs.size + 3,s1.heap.objs.size,s1.heap.objs.size + 1]
     have wge:∀ b∈W,s1.heap.objs.size≤b:=fun b hb=>by
       simp only [W,List.mem_cons,List.not_mem_nil,or_false] at hb
       rcases hb with rfl | rfl | rfl | rfl | rfl<;>first | exact Nat.le_refl _ | exact Nat.le_add_right _ _
     have wn:∀ b∈W,s1.heap.get? b = none:=fun b hb=>by
       induction e:s1.heap.get? b using Option.casesOn with
       | none=>rfl
       | some o=>exact absurd (Heap.lt_size e) (Nat.not_lt.mpr (wge b hb))
     have wa:∀ b∈W,∃ o,h'.get? b = some o:=fun b hb=>by
       simp only [W,List.mem_cons,List.not_mem_nil,or_false] at hb
       rcases hb with rfl | rfl | rfl | rfl | rfl
       · exact ⟨_,hz⟩
       · exact ⟨_,hTI⟩
       · exact ⟨_,hTO⟩
       · refine zea hi1 fun o e J=>?_;clear hi1;exact ⟨o,e⟩
       · refine zea hi2 fun o e J=>?_;clear hi2;exact ⟨o,e⟩
     have gW:=Keeps.grow C (io:=io1) kp
     have nW:∀ {a:Addr} {o:Obj},s1.heap.get? a = some o→a∉VV C io1 Z→a∉VV C io1 (W++Z):=fun e hv hm=>by
       simp only [VV,List.mem_append] at hm hv
       rcases hm with hm | hm | hm
       · exact hv (.inl hm)
       · rw [wn _ hm] at e;injection e
       · exact hv (.inr hm)
     have hL:∀ {l:List D} {vs:List Value},f0 (VV C io1 Z) io1 s1.heap l vs→f0 (VV C io1 (W++Z)) io1 h' l vs:=fun hh=>f0.mono (fun a o e hv=>⟨hkk a o e,nW e hv⟩) (fun J J e=>e) hh
     refine ⟨io1,W,x1.trans C gW,Sok.more_many k1 kp fun w hw=>⟨wn w hw,wa w hw⟩,fun w hw=>?_,.inr ⟨_,_,_,_,_,a1,a2,ws1,ws2,l,m,rfl,rfl,ap5 (Heap.lt_size e1) (Heap.lt_size e2),hz,hTI,hTO,hi1,hi2,⟨⟨_,hkk _ _ e1⟩,hL hs1,nW e1 hv1⟩,⟨⟨_,hkk _ _ e2⟩,hL hs2,nW e2 hv2⟩,hl1,hl2,fun b hb=>hb⟩⟩
     induction e:s.heap.get? w using Option.casesOn with
     | none=>rfl
     | some o=>refine ze (x1.alive w o e) fun o' e'=>?_;rw [wn w hw] at e';injection e'
 · exact ar1 ih h
theorem ae0 (r:g9 C) (hspl:cn2 C T) (tb:dh C lv T):∀ n,bd C (lv + 2 * n) n T
 | 0=>by
   refine ⟨fun kd ro e g d g' h=>?_,fun kd ro e g d g' h=>?_,fun kd ro e g d g' h=>?_,fun kd ro e g d g' h=>?_⟩
   · exact a8 h
   · exact a8 h
   · exact a8 h
   · exact a8 h
 | n + 1=>by
   have ih:=ae0 r hspl tb n
   exact ⟨bp7 r (tb.up (Nat.le_add_right _ _)) hspl ih,bo8 ih,ba9 r ih,bh0 r ih⟩
end Mine
namespace Mine
variable {C:Cst} {lv:Nat} {g g1 g2 g':Sg} {T:Tbl}
theorem ai8:∀ (l:List D) (k i:Nat) (d:D),l[i]? = some d→(az8 k l)[i]? = some (.tup [.int ((k + i:Nat):Int),d])
 | [],k,i,d,h=>a8 (show none = some d from h)
 | x::r,k,0,d,h=>by
   injection (show some x = some d from h) with h;subst h;rfl
 | x::r,k,i + 1,d,h=>by
   have:=ai8 r (k + 1) i d h
   rw [show k + (i + 1) = k + 1 + i by lia]
   exact this
theorem eh:∀ (l:List D) (k:Nat),(az8 k l).length = l.length
 | [],_=>rfl
 | x::r,k=>congrArg Nat.succ (eh r (k + 1))
theorem bd3 {kd:Kd} {ro:Ro} {ev:Expr→Sg→Option (D × Sg)} (r:g9 C) (hev:o8 C lv kd ro ev) (hkd:kd ("enumerate":Str) = some .globalImplicit) {a:Expr} (hpl:f5 a = true) {l:List D} (h:ev a g = some (.lst l,g')) (hl:l.length≤lim) {t:Expr} (ht:ax8 t = true) {q p:Pos}
   {A:Around} {env:Env} {Z:List Addr} {io:HI} {s:Shared} (ha:AOk A lv) (he:m6 C kd Z io env ro s.heap) (hk:Sok C Z io g s):wpAny (model C.prog C.w) A (eval (.Call (.Name "enumerate" q) [a] [] p) env) (bw C A t Z Z io s (az8 0 l) g') noE s:=by
 have bb:([a]:List Expr).all f5 = true:=by rw [List.all_cons,hpl];rfl
 have hes:evs ev [a] g = some ([.lst l],g'):=by rw [t7 hpl,h];rfl
 refine PyProof.Rows.Call_ ?_ rfl
 refine Calls.Name_function_global he.fn (bg he hkd) (Calls.loadGlobal_builtin (env:=env) (by rw [he.gl];exact r.g.keeps hk.base) (r.nob _ (by decide)) (by rw [he.bi];exact r.b.keeps hk.base) ((r.bi _ (by decide)).trans (show bootBuiltins "enumerate" = some (.type "enumerate") by decide +kernel)) ?_) (by decide)
 refine callWith_type (fh _ bb _ _) (l9 (v9 bb) (a9 (gm hev _ hes ha he hk) fun vs s1 hp=>?_))
 obtain ⟨io1,x1,k1,hh⟩:=hp
 refine zea (al7 rfl hh) fun v e1q hx=>?_;subst e1q
 obtain ⟨_,b,ws,rfl,hv,hpl',hs⟩:=Has.lst hx
 refine ze hpl' fun nn eb=>?_
 have hlen:l.length = ws.size:=by rw [← f0.length hs,Array.length_toList]
 have hlt:=Heap.lt_size eb
 refine call_enumerate_list hpl'.isList fun h' hen hit hsz hkk=>?_
 generalize hI:s1.heap.objs.size = I at hen hit hlt
 generalize hE:I + 1 = E at hen
 have hne:E≠I:=hE ▸ Nat.succ_ne_self I
 have hbI:b≠I:=Nat.ne_of_lt hlt
 have hbE:b≠E:=hE ▸ Nat.ne_of_lt (Nat.lt_succ_of_lt hlt)
 have dead:∀ x∈[E,I],s1.heap.get? x = none:=fun x hx=>by
   induction e:s1.heap.get? x using Option.casesOn with
   | none=>rfl
   | some o =>
     have:=Heap.lt_size e
     rw [hI] at this
     rcases List.mem_cons.mp hx with h | h
     · rw [h,← hE] at this;exact absurd this (Nat.not_lt.mpr (Nat.le_succ _))
     · rw [List.mem_singleton.mp h] at this;exact absurd this (Nat.lt_irrefl _)
 refine ⟨io1,s1,x1,k1,wpAny_pyIter_enum hen ⟨E,[E,I,b],[E,I],fun i h=>(∃ old,IsEnum h E I i old)∧h.IsListIter I b i∧h.IsList b ws,rfl,⟨fun i h h2 st hk=>?_,fun i s Q hi st hQ=>?_,fun s Q st hQ=>?_,fun i s Q st hQ=>?_⟩,⟨⟨_,hen⟩,hit,hpl'.isList.at fun o e=>hkk _ o e⟩,⟨h',s1.toks,rfl,hkk⟩,fun x hx=>⟨dead x hx,?_⟩,fun x hx=>?_,by rw [eh];exact hl,fun i h st x hx=>?_⟩⟩
 · exact ⟨let ⟨old,e⟩:=st.1;⟨old,hk E (.head _) _ e⟩,st.2.1.at fun o x=>hk I (.tail _ (.head _)) o x,st.2.2.at fun o x=>hk b (.tail _ (.tail _ (.head _))) o x⟩
 · rw [eh,hlen] at hi
   refine ze st.1 fun old e=>?_
   have hx:ws[i]? = some ws[i]:=Array.getElem?_eq_getElem hi
   have hi':i < l.length:=hlen ▸ hi
   refine wpAny_pyNext_enum_item e st.2.1 st.2.2 hx hne fun h2 ho hit2 hT hsz2 hk2=>?_
   refine ⟨_,rfl,?_⟩
   have hEs:E≠s.heap.objs.size:=Nat.ne_of_lt (Heap.lt_size e)
   have hIs:I≠s.heap.objs.size:=st.2.1.elim fun o x=>Nat.ne_of_lt (Heap.lt_size x.1)
   induction t using Expr.casesOn with
   | Tuple elts k pos =>
     refine wpAny_letOwnedTupleGo_enum ho fun h3 he3 hs3=>?_
     refine hQ _ h3 _ ⟨_,ai8 l 0 i _ (List.getElem?_eq_getElem hi'),fun V io' hm hpre hfr=>?_⟩ ⟨⟨_,by simpa using he3⟩,hit2.at fun o y=>(hs3.2 I hne.symm).trans y,(st.2.2.at fun o y=>hk2 b o hbE hbI y).at fun o y=>(hs3.2 b hbE).trans y⟩ fun x o hx y=>(hs3.2 x fun e'=>hx (e' ▸ .head _)).trans (hk2 x o (fun e'=>hx (e' ▸ .head _)) (fun e'=>hx (e' ▸ .tail _ (.head _))) y)
     refine zea (f0.get hs (List.getElem?_eq_getElem hi')) fun u hu hd=>?_
     rw [Array.getElem?_toList,hx] at hu
     injection hu with hu
     refine ⟨by show 2≤lim;decide,s.heap.objs.size,#[.int i s.toks,ws[i]],rfl,hfr _ (d9 _),⟨_,(hs3.2 _ hEs.symm).trans hT⟩,?_⟩
     rw [Nat.zero_add]
     exact ⟨_,_,rfl,⟨_,rfl⟩,_,_,rfl,hu ▸ Has.mono hm hpre hd,rfl⟩
   | _=>injection ht
 · rw [eh,hlen] at st
   refine ze st.1 fun old e=>?_
   exact wpAny_pyNext_enum_end ha.hh e st.2.1 st.2.2 (Array.getElem?_eq_none (Nat.le_refl _)) fun h2 hx=>hQ h2 s.toks fun x o hb y=>hx x o (fun e'=>hb (by rw [e'];exact .tail _ (.head _))) y
 · refine ze st.1 fun old e=>?_
   exact wpAny_pyIter_enum e hQ
 · rcases List.mem_cons.mp hx with h | h
   · exact h ▸ ⟨_,hen⟩
   · exact List.mem_singleton.mp h ▸ hit.elim fun o x=>⟨o,x.1⟩
 · rcases List.mem_cons.mp hx with h | h
   · exact .inl (h ▸ .head _)
   · rcases List.mem_cons.mp h with h | h
     · exact .inl (h ▸ .tail _ (.head _))
     · exact .inr (List.mem_singleton.mp h ▸ ⟨_,eb,hv⟩)
 · rcases List.mem_cons.mp hx with h | h
   · exact h ▸ st.1.elim fun old e=>⟨_,e⟩
   · exact List.mem_singleton.mp h ▸ st.2.1.elim fun o x=>⟨o,x.1⟩
theorem cd5 {d:D} {r:List D × Sg} (h:cu3 d g = some r):∃ l,d = .lst l∧l.length≤lim∧r = (az8 0 l,g):=by
 induction d using D.casesOn with
 | lst l =>
   refine za (j0 (c:=l.length≤lim) h) fun h1 h=>?_
   exact ⟨l,rfl,h1,(Option.some.inj h).symm⟩
 | _=>exact a8 h
theorem bq0 {it a:Expr} (h:ay8 it = some a):∃ q p,it = .Call (.Name "enumerate" q) [a] [] p:=by
 induction it using Expr.casesOn with
 | Call f as kw p =>
   induction f using Expr.casesOn with
   | Name f q =>
     rcases as with _ | ⟨b,_ | ⟨c,r⟩⟩
     · exact a8 h
     · induction kw using List.casesOn with
       | nil =>
         refine za (j0 (c:=(f==("enumerate":Str)) = true) h) fun h1 h=>?_
         injection h with h
         have:=eq_of_beq h1
         subst h;subst this
         exact ⟨q,p,rfl⟩
       | cons k r=>exact a8 h
     · exact a8 h
   | _=>exact a8 h
 | _=>exact a8 h
theorem br5 {n:Nat} (r:g9 C) (ok:bd C lv n T) {kd:Kd} {ro:Ro} {t it:Expr} {ds:List D} (h:ap7 (pev T n kd ro) (ke T n kd ro) kd t it g = some (ds,g')) :
   (∀ A env Z io s,AOk A lv→m6 C kd Z io env ro s.heap→Sok C Z io g s→wpAny (model C.prog C.w) A (eval it env) (bw C A t Z Z io s ds g') noE s)∧∀ elts k p,it≠.Set elts k p:=by
 unfold ap7 at h
 induction he:ay8 it using Option.casesOn with
 | none =>
   rw [he] at h
   have hs:=ok.src _ _ _ _ _ _ h
   exact ⟨fun A env Z io s=>hs.1 t A env Z io s,hs.2⟩
 | some a =>
   rw [he] at h
   refine za (j0 (c:=(ax8 t&&kd ("enumerate":Str)==some .globalImplicit&&f5 a) = true) h) fun hc h'=>?_
   rw [Bool.and_eq_true,Bool.and_eq_true] at hc
   refine ze2 (bq0 he) fun q p e=>?_;subst e
   refine ze2a (b8 h') fun d g1 h1 h=>?_
   refine zea2 (cd5 h) fun l e hl e2=>?_;subst e
   injection e2 with e2 e3;subst e2;subst e3
   exact ⟨fun A env Z io s ha he hk=>bd3 r (ok.ev kd ro) (eq_of_beq hc.1.2) hc.2 h1 hl hc.1.1 ha he hk,fun _ _ _=>nofun⟩
end Mine
namespace Mine
variable {C:Cst}
noncomputable def m4 (kd:Kd) (env:Env) (h:Heap) (x:Str) (v:Value):Prop :=
 (kd x = some .local∧∃ m,h.Ns env.locals m∧m x = some v)∨(kd x = some .cell∧∃ c,env.cells.lookup x = some c∧h.IsCell c (some v))
noncomputable def al4 (C:Cst) (io:HI) (Z:List Addr) (O:List Addr) (h:Heap) (a:Addr):EV→Value→Prop
 | .val d,v=>Has (VV C io Z) io h d v
 | .own l,v=>v = .ref a∧a∈O∧l.length≤lim∧∃ vs,h.PlainList a vs∧f0 (VV C io Z) io h l vs.toList
structure Kp where
 p:Addr→Obj→Prop
 io:HI
structure Frm (C:Cst) (K:Kp) (kd:Kd) (s0:Shared) (io0:HI) (Z0:List Addr) (env:Env) (ad:Str→Addr) (O F:List Addr) (fo:Fo) (io:HI) (g:Sg) (s:Shared):Prop where
 grow:q0 C io0 io s0 s
 fresh:∀ f∈O++F,s0.heap.get? f = none
 sok:Sok C (O++(F++Z0)) io g s
 kdo:∀ x,env.kindOf x = kd x
 fn:env.scope.kind = .function
 bk:env.blockKind = .function
 gl:env.globals = mainGlobals
 bi:env.builtins = builtinsNs
 cd:kd ("_split_list":Str) = some .globalImplicit→∃ c P q,(c,P,q)∈C.spc∧env.code = .ref c∧env.qual = q
 lF:env.locals∈F
 ns:∃ m,s.heap.Ns env.locals m
 all:∀ x,kd x = some .cell→∃ c v,env.cells.lookup x = some c∧s.heap.IsCell c v∧c∈F∧c≠env.locals
 inj:∀ x y c,kd x = some .cell→kd y = some .cell→env.cells.lookup x = some c→env.cells.lookup y = some c→x = y
 nofree:∀ x,kd x≠some .free
 vals:∀ x ev,fo.lookup x = some ev→∃ v,m4 kd env s.heap x v∧al4 C io (O++(F++Z0)) O s.heap (ad x) ev v
 olist:∀ a∈O,∃ vs,s.heap.PlainList a vs
 disj:∀ a∈O,a∉F++Z0
 apart:∀ x y l l',x≠y→fo.lookup x = some (.own l)→fo.lookup y = some (.own l')→ad x≠ad y
 nd:(fo.map (·.1)).Nodup
 kept:∀ b o,K.p b o→s.heap.get? b = some o∧b∉C.vt∧b∉adr io∧b∉O∧b∉F
 pref:∀ (k:Nat) t,K.io[k]? = some t→io[k]? = some t
theorem dj {β:Type} {x:Str}:∀ {l:List (Str × β)},x∉l.map (·.1)→l.lookup x = none
 | [],_=>rfl
 | (y,v)::r,h=>by
   simp only [List.map_cons,List.mem_cons,not_or] at h
   have hb:(x==y) = false:=by simpa using h.1
   simp only [List.lookup,hb]
   exact dj h.2
theorem qp {x:Str}:∀ {fo:Fo},x∈(d6 fo).map (·.1)→x∈fo.map (·.1)
 | [],h=>h
 | (y,.val d)::r,h=>by
   simp only [d6,List.map_cons,List.mem_cons] at h ⊢
   rcases h with h | h
   · exact .inl h
   · exact .inr (qp h)
 | (y,.own d)::r,h=>by
   simp only [d6,List.map_cons,List.mem_cons] at h ⊢
   exact .inr (qp h)
theorem mem_of_lookup {β:Type} {x:Str} {v:β}:∀ {l:List (Str × β)},l.lookup x = some v→x∈l.map (·.1)
 | [],h=>by injection h
 | (y,w)::r,h=>by
   simp only [List.map_cons,List.mem_cons]
   by_cases hb:(x==y) = true
   · exact .inl (by simpa using hb)
   · have hb':(x==y) = false:=by simpa using hb
     simp only [List.lookup,hb'] at h
     exact .inr (mem_of_lookup h)
theorem ls {x:Str} {d:D}:∀ {fo:Fo},(fo.map (·.1)).Nodup→(d6 fo).lookup x = some d→fo.lookup x = some (.val d)
 | [],_,h=>by injection h
 | (y,.val e)::r,hn,h=>by
   simp only [List.map_cons,List.nodup_cons] at hn
   simp only [d6] at h
   by_cases hb:(x==y) = true
   · simp only [List.lookup,hb,Option.some.injEq] at h ⊢;rw [h]
   · have hb':(x==y) = false:=by simpa using hb
     simp only [List.lookup,hb'] at h ⊢
     exact ls hn.2 h
 | (y,.own e)::r,hn,h=>by
   simp only [List.map_cons,List.nodup_cons] at hn
   simp only [d6] at h
   have hx:=qp (mem_of_lookup h)
   have hb':(x==y) = false:=by
     have:x≠y:=fun he=>hn.1 (he ▸ hx)
     simpa using this
   simp only [List.lookup,hb']
   exact ls hn.2 h
theorem nk {x:Str} {d:D}:∀ {fo:Fo},(frz fo).lookup x = some d→fo.lookup x = some (.val d)∨∃ l,d = .lst l∧fo.lookup x = some (.own l)
 | [],h=>by injection h
 | (y,.val e)::r,h=>by
   simp only [frz] at h
   by_cases hb:(x==y) = true
   · simp only [List.lookup,hb,Option.some.injEq] at h ⊢;exact .inl (by rw [h])
   · have hb':(x==y) = false:=by simpa using hb
     simp only [List.lookup,hb'] at h ⊢
     exact nk h
 | (y,.own e)::r,h=>by
   simp only [frz] at h
   by_cases hb:(x==y) = true
   · simp only [List.lookup,hb,Option.some.injEq] at h ⊢;exact .inr ⟨e,h.symm,rfl⟩
   · have hb':(x==y) = false:=by simpa using hb
     simp only [List.lookup,hb'] at h ⊢
     exact nk h
section
variable {K:Kp} {kd:Kd} {s0:Shared} {io0:HI} {Z0:List Addr} {env:Env} {ad:Str→Addr} {O F:List Addr} {fo:Fo} {io io':HI} {g g':Sg} {s s':Shared}
theorem Frm.envR (x:Frm C K kd s0 io0 Z0 env ad O F fo io g s):m6 C kd (O++(F++Z0)) io env (d6 fo) s.heap where
 kdo:=fun y=>.inl (x.kdo y)
 fn:=x.fn
 gl:=x.gl
 bi:=x.bi
 cd:=x.cd
 lz:=List.mem_append_right _ (List.mem_append_left _ x.lF)
 nsx:=by
   refine ze x.ns fun m hn=>?_
   refine ⟨m,hn,fun y d hy hk=>?_⟩
   refine zea (x.vals y _ (ls x.nd hy)) fun v hv he=>?_
   rcases hv with ⟨_,m',hn',hm'⟩ | ⟨hc,_⟩
   · refine ze3a3 hn fun o es ep e1 e2 J e3=>?_;clear hn
     refine ze3a3 hn' fun o' es' ep' e1' e2' J e3'=>?_;clear hn'
     rw [e1] at e1';(injection e1' with e1';subst e1')
     rw [e2] at e2';(injection e2' with e2'1 e2'2;subst e2'1;subst e2'2)
     exact ⟨v,by rw [← e3,e3',hm'],he⟩
   · rw [hk] at hc;(injection hc with hc;injection hc)
 cel:=fun y d hy hk=>by
   refine zea (x.vals y _ (ls x.nd hy)) fun v hv he=>?_
   rcases hv with ⟨hl,_⟩ | ⟨hc,c,h1,h2⟩
   · exact absurd hl hk
   · exact ⟨.inl hc,c,v,h1,h2,he⟩
 all:=fun y hk=>by
   rcases hk with hk | hk
   · refine ze2a3 (x.all y hk) fun c v h1 h2 h3 J=>?_
     exact ⟨c,v,h1,h2,List.mem_append_right _ (List.mem_append_left _ h3)⟩
   · exact absurd hk (x.nofree y)
theorem Frm.lessSok (x:Frm C K kd s0 io0 Z0 env ad O F fo io g s):Sok C (F++Z0) io g s:=x.sok.less C fun z hz=>List.mem_append_right _ hz
theorem Frm.ownVal (x:Frm C K kd s0 io0 Z0 env ad O F fo io g s) {a:Addr} (ha:a∈O):a∉VV C io (F++Z0):=by
 have:=x.sok.zd a (List.mem_append_left _ ha)
 intro hm
 have hm':(a∈C.vt∨a∈adr io)∨a∈F++Z0:=by
   rcases List.mem_append.mp hm with h | h
   · exact .inl (List.mem_append.mp h)
   · exact .inr h
 rcases hm' with (h | h) | h
 · exact this.1 h
 · exact this.2.1 h
 · exact x.disj a ha h
theorem Frm.frzVal (x:Frm C K kd s0 io0 Z0 env ad O F fo io g s) {y:Str} {d:D} (hy:(frz fo).lookup y = some d):∃ v,m4 kd env s.heap y v∧Has (VV C io (F++Z0)) io s.heap d v:=by
 rcases nk hy with h | ⟨l,rfl,h⟩
 · refine zea (x.vals y _ h) fun v hv he=>?_
   exact ⟨v,hv,Has.less he fun z hz=>List.mem_append_right _ hz⟩
 · refine zea4ea (x.vals y _ h) fun v hv e2q ha hl vs hp hs=>?_;subst e2q
   refine ⟨_,hv,?_⟩
   exact ⟨hl,_,vs,rfl,x.ownVal ha,hp,f0.mono (fun a o e hn=>⟨e,fun hm=>hn (by
     rcases List.mem_append.mp hm with h | h
     · exact List.mem_append_left _ h
     · exact List.mem_append_right _ (List.mem_append_right _ h))⟩) (fun J J e=>e) hs⟩
theorem Frm.envZ (x:Frm C K kd s0 io0 Z0 env ad O F fo io g s):m6 C kd (F++Z0) io env (frz fo) s.heap where
 kdo:=fun y=>.inl (x.kdo y)
 fn:=x.fn
 gl:=x.gl
 bi:=x.bi
 cd:=x.cd
 lz:=List.mem_append_left _ x.lF
 nsx:=by
   refine ze x.ns fun m hn=>?_
   refine ⟨m,hn,fun y d hy hk=>?_⟩
   refine zea (x.frzVal hy) fun v hv he=>?_
   rcases hv with ⟨_,m',hn',hm'⟩ | ⟨hc,_⟩
   · refine ze3a3 hn fun o es ep e1 e2 J e3=>?_;clear hn
     refine ze3a3 hn' fun o' es' ep' e1' e2' J e3'=>?_;clear hn'
     rw [e1] at e1';(injection e1' with e1';subst e1')
     rw [e2] at e2';(injection e2' with e2'1 e2'2;subst e2'1;subst e2'2)
     exact ⟨v,by rw [← e3,e3',hm'],he⟩
   · rw [hk] at hc;(injection hc with hc;injection hc)
 cel:=fun y d hy hk=>by
   refine zea (x.frzVal hy) fun v hv he=>?_
   rcases hv with ⟨hl,_⟩ | ⟨hc,c,h1,h2⟩
   · exact absurd hl hk
   · exact ⟨.inl hc,c,v,h1,h2,he⟩
 all:=fun y hk=>by
   rcases hk with hk | hk
   · refine ze2a3 (x.all y hk) fun c v h1 h2 h3 J=>?_
     exact ⟨c,v,h1,h2,List.mem_append_left _ h3⟩
   · exact absurd hk (x.nofree y)
theorem m4.keep {h h':Heap} {y:Str} {v:Value} (x:m4 kd env h y v) (hl:∀ o,h.get? env.locals = some o→h'.get? env.locals = some o) (hc:∀ c o,kd y = some .cell→env.cells.lookup y = some c→h.get? c = some o→h'.get? c = some o):m4 kd env h' y v:=by
 rcases x with ⟨h1,m,hn,hm⟩ | ⟨h1,c,h2,o,h3,h4⟩
 · exact .inl ⟨h1,m,hn.at' hl,hm⟩
 · exact .inr ⟨h1,c,h2,o,hc c o h1 h2 h3,h4⟩
theorem Frm.step (x:Frm C K kd s0 io0 Z0 env ad O F fo io g s) (y:q0 C io io' s s') (k:Sok C (O++(F++Z0)) io' g' s'):Frm C K kd s0 io0 Z0 env ad O F fo io' g' s':=by
 have keep:∀ b∈O++(F++Z0),∀ o,s.heap.get? b = some o→s'.heap.get? b = some o:=fun b hb o e=>y.keep b o e (x.sok.zd b hb).1 (x.sok.zd b hb).2.1
 have inF:∀ b∈F,b∈O++(F++Z0):=fun b hb=>List.mem_append_right _ (List.mem_append_left _ hb)
 exact {
   grow:=x.grow.trans C y
   fresh:=x.fresh
   sok:=k
   kdo:=x.kdo
   fn:=x.fn
   bk:=x.bk
   gl:=x.gl
   bi:=x.bi
   cd:=x.cd
   lF:=x.lF
   ns:=let ⟨m,hn⟩:=x.ns;⟨m,hn.at' fun o e=>keep _ (inF _ x.lF) o e⟩
   all:=fun z hz=>let ⟨c,v,h1,⟨o,h2,h3⟩,h4,h5⟩:=x.all z hz;⟨c,v,h1,⟨o,keep _ (inF _ h4) o h2,h3⟩,h4,h5⟩
   inj:=x.inj
   nofree:=x.nofree
   vals:=fun z ev hz=>by
     refine zea (x.vals z ev hz) fun v hv he=>?_
     refine ⟨v,hv.keep (fun o e=>keep _ (inF _ x.lF) o e) (fun c o hk hc e=>?_),?_⟩
     · refine ze2a3 (x.all z hk) fun c' J h1 J h4 J=>?_
       rw [hc] at h1;(injection h1 with h1;subst h1)
       exact keep _ (inF _ h4) o e
     · induction ev using EV.casesOn with
       | val d=>exact y.has C he
       | own l =>
         refine za3ea he fun h1 h2 h3 vs e4q h5=>?_;clear he;obtain ⟨n,h4⟩:=e4q
         exact ⟨h1,h2,h3,vs,⟨n,keep _ (List.mem_append_left _ h2) _ h4⟩,y.hasL C h5⟩
   olist:=fun a ha=>let ⟨vs,n,e⟩:=x.olist a ha;⟨vs,n,keep _ (List.mem_append_left _ ha) _ e⟩
   disj:=x.disj
   apart:=x.apart
   nd:=x.nd
   kept:=fun b o hp=>by
     refine za3 (x.kept b o hp) fun h1 h2 h3 h4=>?_
     refine ⟨y.keep _ _ h1 h2 h3,h2,fun hm=>?_,h4⟩
     rcases y.fresh _ hm with h | h
     · exact h3 h
     · rw [h1] at h;injection h
   pref:=fun k t h=>y.pre k t (x.pref k t h) }
theorem Frm.ext {fo':Fo} (x:Frm C K kd s0 io0 Z0 env ad O F fo io g s) (h:∀ y,fo'.lookup y = fo.lookup y) (hn:(fo'.map (·.1)).Nodup):Frm C K kd s0 io0 Z0 env ad O F fo' io g s :=
 { x with vals:=fun y ev hy=>x.vals y ev (h y ▸ hy),apart:=fun y z l l' hne h1 h2=>x.apart y z l l' hne (h y ▸ h1) (h z ▸ h2),nd:=hn }
end
end Mine
namespace Mine
variable {C:Cst}
theorem ae1 {z:Str} {v:EV}:o9 z v [] = [(z,v)]:=rfl
theorem qn {z w:Str} {u v:EV} {r:Fo}:o9 z v ((w,u)::r) = if (w==z) = true then (w,v)::r else (w,u)::o9 z v r:=rfl
theorem f4 {z:Str} {v:EV} (y:Str):∀ (fo:Fo),(o9 z v fo).lookup y = if y = z then some v else fo.lookup y
 | []=>by
   by_cases h:y = z
   · subst h;exact (bu (beq_self_eq_true _)).trans (if_pos rfl).symm
   · have hb:(y==z) = false:=by simpa using h
     exact (u6 hb).trans (if_neg h).symm
 | (w,u)::r=>by
   rw [qn]
   by_cases hw:(w==z) = true
   · have hw':w = z:=by simpa using hw
     subst hw'
     rw [if_pos hw]
     by_cases h:y = w
     · subst h;simp [List.lookup]
     · have hb:(y==w) = false:=by simpa using h
       simp [List.lookup,hb,h]
   · rw [if_neg hw]
     have hw':w≠z:=by simpa using hw
     by_cases h:(y==w) = true
     · have h':y = w:=by simpa using h
       subst h'
       simp [List.lookup,hw']
     · have hb:(y==w) = false:=by simpa using h
       simp only [List.lookup,hb]
       exact f4 y r
theorem yh {z x:Str} {v:EV}:∀ {fo:Fo},x∈(o9 z v fo).map (·.1)→x = z∨x∈fo.map (·.1)
 | [],h=>by simpa [ae1] using h
 | (w,u)::r,h=>by
   rw [qn] at h
   by_cases hw:(w==z) = true
   · rw [if_pos hw] at h;exact .inr h
   · rw [if_neg hw] at h
     simp only [List.map_cons,List.mem_cons] at h ⊢
     rcases h with h | h
     · exact .inr (.inl h)
     · rcases yh h with h | h
       · exact .inl h
       · exact .inr (.inr h)
theorem ji {z:Str} {v:EV}:∀ {fo:Fo},(fo.map (·.1)).Nodup→((o9 z v fo).map (·.1)).Nodup
 | [],_=>by simp [ae1]
 | (w,u)::r,h=>by
   rw [qn]
   by_cases hw:(w==z) = true
   · rw [if_pos hw];simpa using h
   · rw [if_neg hw]
     simp only [List.map_cons,List.nodup_cons] at h ⊢
     refine ⟨fun hm=>?_,ji h.2⟩
     rcases yh hm with hm | hm
     · exact hw (by simp [hm])
     · exact h.1 hm
theorem fj {io:HI} {Z O:List Addr} {a:Addr} (h:a∈VV C io (O++Z)):a∈VV C io Z∨a∈O:=by
 rcases List.mem_append.mp h with h | h
 · exact .inl (List.mem_append_left _ h)
 · rcases List.mem_append.mp h with h | h
   · exact .inr h
   · exact .inl (List.mem_append_right _ h)
section
variable {K:Kp} {kd:Kd} {s0:Shared} {io0:HI} {Z0:List Addr} {env:Env} {ad:Str→Addr} {O F:List Addr} {fo:Fo} {io io':HI} {g g':Sg} {s s':Shared} {A:Around}
theorem Frm.storeV (x:Frm C K kd s0 io0 Z0 env ad O F fo io g s) {z:Str} {v:Value} {ev:EV} {a:Addr} (hz:c9 kd z = true) (hev:al4 C io (O++(F++Z0)) O s.heap a ev v)
   (hap:∀ l,ev = .own l→∀ y l',y≠z→fo.lookup y = some (.own l')→a≠ad y) {Q:Unit→Shared→Prop} {E:Value→Shared→Prop}
   (h:∀ s',Frm C K kd s0 io0 Z0 env (fun y=>if y = z then a else ad y) O F (o9 z ev fo) io g s'→(∀ b o,b∉F→s.heap.get? b = some o→s'.heap.get? b = some o)→(∀ y u,y≠z→m4 kd env s.heap y u→m4 kd env s'.heap y u)→m4 kd env s'.heap z v→Q () s'):wpAny (model C.prog C.w) A (storeName env z v) Q E s:=by
 have inZ:∀ b∈F,b∈O++(F++Z0):=fun b hb=>List.mem_append_right _ (List.mem_append_left _ hb)
 have fin:∀ (b:Addr) (s':Shared),b∈F→aw [b] s s'→(∃ m,s'.heap.Ns env.locals m)→(∀ y,kd y = some .cell→∃ c w,env.cells.lookup y = some c∧s'.heap.IsCell c w∧c∈F∧c≠env.locals) →
     (∀ y u,y≠z→m4 kd env s.heap y u→m4 kd env s'.heap y u)→m4 kd env s'.heap z v→Q () s':=by
   intro b s' hb t hns bb hold hnew
   have hsub:∀ f∈[b],f∈O++(F++Z0):=fun f hf=>by simp only [List.mem_singleton] at hf;subst hf;exact inZ _ hb
   have keepO:∀ a'∈O,∀ o,s.heap.get? a' = some o→s'.heap.get? a' = some o:=fun a' ha o e=>t.keep a' o e fun hm=>by
     simp only [List.mem_singleton] at hm;subst hm
     exact x.disj a' ha (List.mem_append_left _ hb)
   have evk:∀ (a':Addr) (e:EV) (u:Value),al4 C io (O++(F++Z0)) O s.heap a' e u→al4 C io (O++(F++Z0)) O s'.heap a' e u:=fun a' e u he=>by
     induction e using EV.casesOn with
     | val d=>exact t.has hsub he
     | own l =>
       refine za3ea he fun h1 h2 h3 vs e4q h5=>?_;clear he;obtain ⟨n,h4⟩:=e4q
       exact ⟨h1,h2,h3,vs,⟨n,keepO _ h2 _ h4⟩,t.hasL hsub h5⟩
   refine h s' {
     grow:=x.grow.touch t fun f hf=>by simp only [List.mem_singleton] at hf;subst hf;exact x.fresh _ (List.mem_append_right _ hb)
     fresh:=x.fresh
     sok:=t.sok hsub x.sok
     kdo:=x.kdo
     fn:=x.fn
     bk:=x.bk
     gl:=x.gl
     bi:=x.bi
     cd:=x.cd
     lF:=x.lF
     ns:=hns
     all:=bb
     inj:=x.inj
     nofree:=x.nofree
     vals:=fun y e hy=>by
       rw [f4] at hy
       by_cases hyz:y = z
       · subst hyz
         rw [if_pos rfl,Option.some.injEq] at hy
         subst hy
         refine ⟨v,hnew,?_⟩
         rw [if_pos rfl]
         exact evk _ _ _ hev
       · rw [if_neg hyz] at hy
         refine zea (x.vals y e hy) fun u h1 h2=>?_
         refine ⟨u,hold y u hyz h1,?_⟩
         rw [if_neg hyz]
         exact evk _ _ _ h2
     olist:=fun a' ha=>let ⟨vs,n,e⟩:=x.olist a' ha;⟨vs,n,keepO _ ha _ e⟩
     disj:=x.disj
     apart:=fun y w l l' hne h1 h2=>by
       rw [f4] at h1 h2
       by_cases hyz:y = z
       · subst hyz
         rw [if_pos rfl,Option.some.injEq] at h1
         rw [if_neg (Ne.symm hne)] at h2
         rw [if_pos rfl,if_neg (Ne.symm hne)]
         exact hap l h1 w l' (Ne.symm hne) h2
       · rw [if_neg hyz] at h1
         rw [if_neg hyz]
         by_cases hwz:w = z
         · subst hwz
           rw [if_pos rfl,Option.some.injEq] at h2
           rw [if_pos rfl]
           exact Ne.symm (hap l' h2 y l hyz h1)
         · rw [if_neg hwz] at h2
           rw [if_neg hwz]
           exact x.apart y w l l' hne h1 h2
     nd:=ji x.nd
     kept:=fun b o hp=>let ⟨h1,h2,h3,h4,h5⟩:=x.kept b o hp;⟨t.keep _ _ h1 fun hm=>h5 (by simp only [List.mem_singleton] at hm;rw [hm];assumption),h2,h3,h4,h5⟩
     pref:=x.pref } (fun b' o hb' e=>t.keep b' o e (fun hm=>by simp only [List.mem_singleton] at hm;subst hm;exact hb' hb)) hold hnew
 unfold c9 at hz
 simp only [Bool.or_eq_true,beq_iff_eq] at hz
 by_cases hl:kd z = some .local
 · refine ze x.ns fun m hn=>?_
   refine wpAny_storeName_local ((x.kdo z).trans hl) hn (fun h' hn' hs'=>?_) (by rw [x.fn];rfl)
   have t:aw [env.locals] s { s with heap:=h',toks:=s.toks + 1 }:=aw.same_but hs' (let ⟨o,_,_,e,_⟩:=hn';⟨o,e⟩)
   refine fin env.locals _ x.lF t ⟨_,hn'⟩ (fun y hy=>?_) (fun y u hyz hv=>?_) (.inl ⟨hl,_,hn',by simp⟩)
   · refine ze2a3 (x.all y hy) fun c w h1 e3q h4 h5=>?_;obtain ⟨o,h2,h3⟩:=e3q
     exact ⟨c,w,h1,⟨o,t.keep c o h2 (by simpa using h5),h3⟩,h4,h5⟩
   · rcases hv with ⟨h1,m',hm',hu⟩ | ⟨h1,c,h2,o,h3,h4⟩
     · refine .inl ⟨h1,_,hn',?_⟩
       rw [if_neg hyz]
       refine ze3a3 hn fun o es ep e1 e2 J e3=>?_;clear hn
       refine ze3a3 hm' fun o' es' ep' e1' e2' J e3'=>?_;clear hm'
       rw [e1] at e1';(injection e1' with e1';subst e1')
       rw [e2] at e2';(injection e2' with e2'1 e2'2;subst e2'1;subst e2'2)
       rw [← e3,e3',hu]
     · refine ze2a3 (x.all y h1) fun c' J h1' J J h5=>?_
       rw [h2] at h1';(injection h1' with h1';subst h1')
       exact .inr ⟨h1,c,h2,o,t.keep c o h3 (by simpa using h5),h4⟩
 · have hc:kd z = some .cell:=by
     rcases hz with hz | hz
     · exact absurd hz hl
     · exact hz
   refine ze2a3 (x.all z hc) fun c w h1 h2 h4 h5=>?_
   refine wpAny_storeName_cell x.fn ((x.kdo z).trans hc) h1 h2 fun h' hcell hs'=>?_
   have t:aw [c] s { s with heap:=h' }:=aw.same_but (tk:=s.toks) hs' (let ⟨o,e,_⟩:=hcell;⟨o,e⟩)
   refine ze x.ns fun m hn=>?_
   refine fin c _ h4 t ⟨m,hn.at' fun o e=>t.keep _ o e (by simpa using Ne.symm h5)⟩ (fun y hy=>?_) (fun y u hyz hv=>?_) (.inr ⟨hc,c,h1,hcell⟩)
   · refine ze2a3 (x.all y hy) fun c' w' h1' e3q h4' h5'=>?_;obtain ⟨o,h2',h3'⟩:=e3q
     by_cases hcc:c' = c
     · subst hcc;exact ⟨c',_,h1',hcell,h4',h5'⟩
     · exact ⟨c',w',h1',⟨o,t.keep c' o h2' (by simpa using hcc),h3'⟩,h4',h5'⟩
   · rcases hv with ⟨h1',m',hm',hu⟩ | ⟨h1',c',h2',o,h3',h4'⟩
     · exact .inl ⟨h1',m',hm'.at' fun o e=>t.keep _ o e (by simpa using Ne.symm h5),hu⟩
     · have hcc:c'≠c:=fun he=>by subst he;exact hyz (x.inj y z c' h1' hc h2' h1)
       exact .inr ⟨h1',c',h2',o,t.keep c' o h3' (by simpa using hcc),h4'⟩
theorem Frm.store' (x:Frm C K kd s0 io0 Z0 env ad O F fo io g s) {z:Str} {v:Value} {ev:EV} {a:Addr} (hz:c9 kd z = true) (hev:al4 C io (O++(F++Z0)) O s.heap a ev v)
   (hap:∀ l,ev = .own l→∀ y l',y≠z→fo.lookup y = some (.own l')→a≠ad y) {Q:Unit→Shared→Prop} {E:Value→Shared→Prop}
   (h:∀ s',Frm C K kd s0 io0 Z0 env (fun y=>if y = z then a else ad y) O F (o9 z ev fo) io g s'→(∀ b o,b∉F→s.heap.get? b = some o→s'.heap.get? b = some o)→(∀ y u,y≠z→m4 kd env s.heap y u→m4 kd env s'.heap y u)→Q () s'):wpAny (model C.prog C.w) A (storeName env z v) Q E s :=
 x.storeV hz hev hap fun s' x' k v J=>h s' x' k v
theorem Frm.store (x:Frm C K kd s0 io0 Z0 env ad O F fo io g s) {z:Str} {v:Value} {ev:EV} {a:Addr} (hz:c9 kd z = true) (hev:al4 C io (O++(F++Z0)) O s.heap a ev v)
   (hap:∀ l,ev = .own l→∀ y l',y≠z→fo.lookup y = some (.own l')→a≠ad y) {Q:Unit→Shared→Prop} {E:Value→Shared→Prop}
   (h:∀ s',Frm C K kd s0 io0 Z0 env (fun y=>if y = z then a else ad y) O F (o9 z ev fo) io g s'→(∀ b o,b∉F→s.heap.get? b = some o→s'.heap.get? b = some o)→Q () s'):wpAny (model C.prog C.w) A (storeName env z v) Q E s :=
 x.store' hz hev hap fun s' x' k J=>h s' x' k
end
end Mine
namespace Mine
variable {C:Cst}
section
variable {K:Kp} {kd:Kd} {s0:Shared} {io0:HI} {Z0:List Addr} {env:Env} {ad:Str→Addr} {O F:List Addr} {fo:Fo} {io io':HI} {g g':Sg} {s s':Shared} {A:Around} {L N:Nat} {T:Tbl}
theorem al4.less {h:Heap} {Z Z':List Addr} {a:Addr} {ev:EV} {v:Value} (x:al4 C io Z O h a ev v) (hz:∀ z∈Z',z∈Z):al4 C io Z' O h a ev v:=by
 induction ev using EV.casesOn with
 | val d=>exact Has.less x hz
 | own l =>
   refine za3ea x fun h1 h2 h3 vs h4 h5=>?_;clear x
   refine ⟨h1,h2,h3,vs,h4,f0.mono (fun a o e hn=>⟨e,fun hm=>hn ?_⟩) (fun J J e=>e) h5⟩
   rcases List.mem_append.mp hm with h | h
   · exact List.mem_append_left _ h
   · exact List.mem_append_right _ (hz _ h)
theorem Frm.more (x:Frm C K kd s0 io0 Z0 env ad O F fo io g s) {c:Addr} (y:q0 C io io' s s') (k:Sok C (c::(O++(F++Z0))) io' g' s') (hc:s.heap.get? c = none):Frm C K kd s0 io0 (c::Z0) env ad O F fo io' g' s':=by
 have k0:Sok C (O++(F++Z0)) io' g' s':=k.less C fun z hz=>.tail _ hz
 have x1:=x.step y k0
 have mem:∀ z,z∈O++(F++(c::Z0))→z∈[c]++(O++(F++Z0)):=fun z hz=>by
   simp only [List.mem_append,List.mem_cons,List.not_mem_nil,or_false] at hz ⊢
   rcases hz with h | h | h | h<;>simp [h]
 exact { x1 with
   sok:=k.less C fun z hz=>mem z hz
   vals:=fun z ev hz=>by
     refine zea (x.vals z ev hz) fun v hv he=>?_
     refine zea (x1.vals z ev hz) fun v' hv' J=>?_
     have keep:∀ b∈O++(F++Z0),∀ o,s.heap.get? b = some o→s'.heap.get? b = some o:=fun b hb o e=>y.keep b o e (x.sok.zd b hb).1 (x.sok.zd b hb).2.1
     have inF:∀ b∈F,b∈O++(F++Z0):=fun b hb=>List.mem_append_right _ (List.mem_append_left _ hb)
     refine ⟨v,hv.keep (fun o e=>keep _ (inF _ x.lF) o e) (fun c o hk hc e=>?_),?_⟩
     · refine ze2a3 (x.all z hk) fun c' J h1 J h4 J=>?_
       rw [hc] at h1;(injection h1 with h1;subst h1)
       exact keep _ (inF _ h4) o e
     · refine al4.less (Z:=[c]++(O++(F++Z0))) ?_ mem
       induction ev using EV.casesOn with
       | val d=>exact y.hasF (F:=[c]) (fun f hf=>by simp only [List.mem_singleton] at hf;subst hf;exact hc) he
       | own l =>
         refine za3ea he fun h1 h2 h3 vs e4q h5=>?_;clear he;obtain ⟨n,h4⟩:=e4q
         refine ⟨h1,h2,h3,vs,⟨n,keep _ (List.mem_append_left _ h2) _ h4⟩,f0.mono (fun a o e ha=>?_) y.pre h5⟩
         refine za (y.keepAt C e ha) fun q1 q2=>?_
         refine ⟨q1,fun hm=>?_⟩
         rcases List.mem_append.mp hm with h | h
         · exact q2 (List.mem_append_left _ h)
         · rcases List.mem_append.mp h with h | h
           · simp only [List.mem_singleton] at h;subst h;rw [hc] at e;injection e
           · exact q2 (List.mem_append_right _ h)
   disj:=fun a ha hm=>by
     simp only [List.mem_append,List.mem_cons] at hm
     rcases hm with h | h | h
     · exact x.disj a ha (List.mem_append_left _ h)
     · subst h
       refine ze2 (x.olist a ha) fun vs n e=>?_
       rw [hc] at e;injection e
     · exact x.disj a ha (List.mem_append_right _ h) }
theorem Frm.drop1 {c:Addr} (x:Frm C K kd s0 io0 (c::Z0) env ad O F fo io g s) {h':Heap} (hs:Heap.SameBut c s.heap h') (hF:c∉F) (hZ:c∉Z0) (h0:s0.heap.get? c = none) (hK:∀ b o,K.p b o→b≠c):Frm C K kd s0 io0 Z0 env ad O F fo io g { s with heap:=h' }:=by
 have hO:c∉O:=fun hm=>x.disj c hm (by simp)
 have keep:∀ b o,s.heap.get? b = some o→b∉[c]→h'.get? b = some o:=fun b o e hb=>hs.extBut b o (by simpa using hb) e
 have same:∃ h'' tk,({ s with heap:=h' }:Shared) = { s with heap:=h'',toks:=tk }:=⟨h',s.toks,rfl⟩
 have mem:∀ z,z∈[c]++(O++(F++Z0))→z∈O++(F++(c::Z0)):=fun z hz=>by
   simp only [List.mem_append,List.mem_cons,List.not_mem_nil,or_false] at hz ⊢
   rcases hz with h | h | h | h<;>simp [h]
 have inF:∀ b∈F,b∉[c]:=fun b hb hm=>by simp only [List.mem_singleton] at hm;subst hm;exact hF hb
 exact { x with
   grow:=x.grow.drop (F:=[c]) same keep fun f hf=>by simp only [List.mem_singleton] at hf;subst hf;exact h0
   sok:=Sok.drop (F:=[c]) (x.sok.less C mem) same keep fun f hf hm=>by
     simp only [List.mem_singleton] at hf;subst hf
     simp only [List.mem_append] at hm
     rcases hm with h | h | h
     · exact hO h
     · exact hF h
     · exact hZ h
   ns:=let ⟨m,hn⟩:=x.ns;⟨m,hn.at' fun o e=>keep _ o e (inF _ x.lF)⟩
   all:=fun z hz=>let ⟨c',v,h1,⟨o,h2,h3⟩,h4,h5⟩:=x.all z hz;⟨c',v,h1,⟨o,keep _ o h2 (inF _ h4),h3⟩,h4,h5⟩
   vals:=fun z ev hz=>by
     refine zea (x.vals z ev hz) fun v hv he=>?_
     refine ⟨v,hv.keep (fun o e=>keep _ o e (inF _ x.lF)) (fun c' o hk hc e=>?_),?_⟩
     · refine ze2a3 (x.all z hk) fun c'' J h1 J h4 J=>?_
       rw [hc] at h1;(injection h1 with h1;subst h1)
       exact keep _ o e (inF _ h4)
     · have he':=al4.less he mem
       induction ev using EV.casesOn with
       | val d=>exact Has.drop (F:=[c]) (s':={ s with heap:=h' }) he' keep
       | own l =>
         refine za3ea he' fun h1 h2 h3 vs e4q h5=>?_;clear he';obtain ⟨n,h4⟩:=e4q
         exact ⟨h1,h2,h3,vs,⟨n,keep _ _ h4 fun hm=>by simp only [List.mem_singleton] at hm;rw [hm] at h2;exact hO h2⟩,f0.drop (F:=[c]) (s':={ s with heap:=h' }) h5 keep⟩
   olist:=fun a ha=>let ⟨vs,n,e⟩:=x.olist a ha;⟨vs,n,keep _ _ e fun hm=>by simp only [List.mem_singleton] at hm;subst hm;exact hO ha⟩
   disj:=fun a ha hm=>x.disj a ha (by
     simp only [List.mem_append,List.mem_cons] at hm ⊢
     rcases hm with h | h<;>simp [h])
   kept:=fun b o hp=>let ⟨h1,h2⟩:=x.kept b o hp;⟨keep _ _ h1 (by simpa using hK b o hp),h2⟩ }
inductive bn0 (C:Cst) (s0:Shared) (io0:HI) (Z0:List Addr) (d:D) (g:Sg) (v:Value) (s':Shared):Prop
 | mk (io:HI) (x:q0 C io0 io s0 s') (k:Sok C Z0 io g s') (h:Has (VV C io Z0) io s'.heap d v)
inductive fc (C:Cst) (K:Kp) (kd:Kd) (s0:Shared) (io0:HI) (Z0:List Addr) (env:Env) (F:List Addr) (fo:Fo) (g:Sg) (s':Shared):Prop
 | mk (ad:Str→Addr) (O:List Addr) (io:HI) (x:Frm C K kd s0 io0 Z0 env ad O F fo io g s')
noncomputable def aq (C:Cst) (K:Kp) (kd:Kd) (s0:Shared) (io0:HI) (Z0:List Addr) (env:Env) (F:List Addr):Fl→Flow→Shared→Prop
 | .next fo g,f,s'=>f = .next∧fc C K kd s0 io0 Z0 env F fo g s'
 | .ret d g,f,s'=>∃ v,f = .ret v∧bn0 C s0 io0 Z0 d g v s'
theorem as6 (x:Frm C K kd s0 io0 Z0 env ad O F fo io g s) {z:Str} {v:Value} {d:D} (hz:c9 kd z = true) (hd:Has (VV C io (O++(F++Z0))) io s.heap d v) {Q:Unit→Shared→Prop} {E:Value→Shared→Prop}
   (h:∀ s',fc C K kd s0 io0 Z0 env F (o9 z (.val d) fo) g s'→Q () s'):wpAny (model C.prog C.w) A (storeName env z v) Q E s :=
 x.store (ev:=.val d) (a:=ad z) hz hd (fun l hl=>by injection hl) fun s' x' J=>h s' ⟨_,O,io,x'⟩
theorem aa6 {e:Expr} {t:Option Expr} {ln:Nat} (h:∀ a b c p,e≠.ListComp a b c p) (h2:∀ a b c p,e≠.SetComp a b c p) (h3:∀ a b c d p,e≠.DictComp a b c d p):swapsWith e t ln env = pure false:=by
 unfold swapsWith
 induction e using Expr.casesOn<;>first | rfl | exact absurd rfl (h _ _ _ _) | exact absurd rfl (h2 _ _ _ _) | exact absurd rfl (h3 _ _ _ _ _)
theorem zk {n:Nat} {ro:Ro} {e:Expr} {r} (h:pev T n kd ro e g = some r):(∀ a b c p,e≠.SetComp a b c p)∧∀ a b c d p,e≠.DictComp a b c d p:=by
 refine ⟨fun a b c p he=>?_,fun a b c d p he=>?_⟩<;>subst he<;>induction n using Nat.casesOn<;>exact a8 h
end
end Mine
namespace Mine
variable {C:Cst}
section
variable {K:Kp} {kd:Kd} {s0:Shared} {io0:HI} {Z0:List Addr} {env:Env} {ad:Str→Addr} {O F:List Addr} {fo:Fo} {io io':HI} {g g1 g':Sg} {s s':Shared} {A:Around} {L n:Nat} {T:Tbl}
noncomputable def at4 (C:Cst) (L:Nat) (kd:Kd) (ro:Ro) (elt:Expr) (gens:List Comprehension) (sc:Scope) (p:Pos) (g:Sg) (ys:List D) (g':Sg):Prop :=
 ∀ A env Z io s (use:Option (Value→Sem Unit)) (Q:Value→Shared→Prop),AOk A L→m6 C kd Z io env ro s.heap→Sok C Z io g s →
   (∀ D Cc s' io' m',q0 C io io' s s'→Sok C (Cc::Z) io' g' s'→Has (VV C io' (Cc::Z)) io' s'.heap (.lst ys) (.ref D)→s'.heap.Ns Cc m'→s.heap.get? Cc = none→compPost (model C.prog C.w) A noE use Q (.ref D) Cc (.ok .next) s') →
   wpAny (model C.prog C.w) A (comprehension (.ListComp elt gens sc p) sc env (firstIterPos gens p) (newList []) (firstAsync gens) (firstIter gens env) use) Q noE s
set_option tactic.hygienic true in
theorem bg0 (ok:bd C L n T) {ro:Ro} {elt:Expr} {gens:List Comprehension} {sc:Scope} {p:Pos} {d:D} (h:pev T (n + 1) kd ro (.ListComp elt gens sc p) g = some (d,g')):∃ ys,d = .lst ys∧at4 C L kd ro elt gens sc p g ys g':=by
 have hv:=ch3 h
 clear h
 cases hv<;>rename_i h
 · refine za (qq h) fun h0 h=>?_
   refine ze2a (b8 h) fun ds g1 h1 h=>?_
   refine ze2a (b8 h) fun ys g2 h2 h=>?_
   refine za (w9 h) fun h3 h=>?_
   apply i2 h
   have hs:=ok.src _ _ _ _ _ _ h1
   exact ⟨ys,rfl,fun A env Z io s use Q ha he hk hR=>ve ha he hk (by simpa using h0) (hs.1 _ A env Z io s ha he hk) hs.2 ⟨ew (trx:=fun ro c g=>pt T n _ ro c g) fun ro=>ok.tr _ ro,fun A ha ro g d g' h env' Z' io' s he hk=>(ok.ev _ ro) _ _ _ _ h A env' Z' io' s ha he hk⟩ h2 h3 hR⟩
 · refine za (qq h) fun h0 h=>?_
   refine ze2a (b8 h) fun ds g1 h1 h=>?_
   refine ze2a (b8 h) fun ys g2 h2 h=>?_
   refine za (w9 h) fun h3 h=>?_
   apply i2 h
   have hs:=ok.src _ _ _ _ _ _ h1
   exact ⟨ys,rfl,fun A env Z io s use Q ha he hk hR=>ag2 (src:=fun ro g=>ke T n _ ro _ g) ha he hk (by simpa using h0) hs.1 hs.2 (fun ro g ds g' h=>ok.src _ ro _ _ _ _ h) ⟨ew (ifs:=[]) (trx:=fun ro c g=>pt T n _ ro c g) fun ro=>ok.tr _ ro,fun A ha ro g d g' h env' Z' io' s he hk=>(ok.ev _ ro) _ _ _ _ h A env' Z' io' s ha he hk⟩ h2 h3 hR⟩
theorem ab0 (ha:AOk A L) (x:Frm C K kd s0 io0 Z0 env ad O F fo io g s) {elt:Expr} {gens:List Comprehension} {sc:Scope} {p sp:Pos} {y:Str} {py:Pos} {ys:List D}
   (hz:c9 kd y = true) (h:at4 C L kd (d6 fo) elt gens sc p g ys g')
   (hsw:swapsWith (.ListComp elt gens sc p) (some (.Name y py)) sp.line env = pure true) :
   wpAny (model C.prog C.w) A (exec (.Assign [.Name y py] (.ListComp elt gens sc p) sp) env) (aq C K kd s0 io0 Z0 env F (.next (o9 y (.val (.lst ys)) fo) g')) noE s:=by
 rw [exec_Assign_Name_used _ _ _ _ hsw]
 refine wpAny_bind (wpAny_standAt (wpAny_bind ?_))
 show wpAny _ A (do let _ ← comprehension (.ListComp elt gens sc p) sc env _ (newList []) (firstAsync gens) (firstIter gens env) (some (assign (.Name y py) env))) _ _ s
 refine wpAny_bind (a9 (h A env _ io s (some (assign (.Name y py) env)) (fun _ s'=>fc C K kd s0 io0 Z0 env F (o9 y (.val (.lst ys)) fo) g' s') ha x.envR x.sok ?_) fun _ s' hq=>wpAny_pure (wpAny_pure ⟨rfl,hq⟩))
 intro D' Cc s' io' m' xg kg hh hn hnone
 have x1:=x.more xg kg hnone
 show wpAny _ A (assign (.Name y py) env (.ref D')) _ _ _
 have cF:Cc∉F:=fun hm=>by
   refine ze (x.sok.zal Cc (List.mem_append_right _ (List.mem_append_left _ hm))) fun o e=>?_
   rw [hnone] at e;injection e
 have cZ:Cc∉Z0:=fun hm=>by
   refine ze (x.sok.zal Cc (List.mem_append_right _ (List.mem_append_right _ hm))) fun o e=>?_
   rw [hnone] at e;injection e
 have c0:s0.heap.get? Cc = none:=by
   induction e:s0.heap.get? Cc using Option.casesOn with
   | none=>rfl
   | some o=>refine ze (x.grow.alive Cc o e) fun o' e'=>?_;rw [hnone] at e';injection e'
 refine wpAny_assign_Name (x1.store (ev:=.val (.lst ys)) (a:=ad y) hz (Has.less hh fun z hz=>by
   simp only [List.mem_append,List.mem_cons] at hz ⊢
   rcases hz with h | h | h | h<;>simp [h]) (fun l hl=>by injection hl) fun s2 x2 kp=>?_)
 exact ⟨_,hn.at' fun o e=>kp Cc o cF e,fun h' hsb=>⟨_,O,io',x2.drop1 hsb cF cZ c0 fun b o hp he=>by have:=(x.kept b o hp).1;rw [he,hnone] at this;injection this⟩⟩
theorem yt (ok:bd C L n T) (ha:AOk A L) (x:Frm C K kd s0 io0 Z0 env ad O F fo io g s) {e:Expr} {y:Str} {py sp:Pos} {d:D}
   (hz:c9 kd y = true) (h:pev T n kd (d6 fo) e g = some (d,g')) (hsw:swapsWith e (some (.Name y py)) sp.line env = pure false) :
   wpAny (model C.prog C.w) A (exec (.Assign [.Name y py] e sp) env) (aq C K kd s0 io0 Z0 env F (.next (o9 y (.val d) fo) g')) noE s :=
 wpAny_Assign_Name (a9 (ok.ev kd _ _ _ _ _ h A env _ io s ha x.envR x.sok) fun v s1 ⟨io1,y,k,hh⟩=>as6 (x.step y k) hz hh fun s2 h2=>⟨rfl,h2⟩) hsw
end
end Mine
namespace Mine
variable {C:Cst}
section
variable {K:Kp} {kd:Kd} {s0:Shared} {io0:HI} {Z0:List Addr} {env:Env} {ad:Str→Addr} {O F:List Addr} {fo:Fo} {io io':HI} {g g1 g':Sg} {s s':Shared} {A:Around} {L n:Nat} {T:Tbl}
theorem ak0 {elt:Expr} {gens:List Comprehension} {sc:Scope} {p:Pos} {y:Str} {py:Pos} {ln:Nat}:∃ b,swapsWith (.ListComp elt gens sc p) (some (.Name y py)) ln env = pure b:=⟨_,rfl⟩
theorem ac0 (ok:∀ k,k≤n→bd C L k T) (ha:AOk A L) (x:Frm C K kd s0 io0 Z0 env ad O F fo io g s) {e:Expr} {y:Str} {py sp:Pos} {d:D}
   (hz:c9 kd y = true) (h:pev T n kd (d6 fo) e g = some (d,g')) :
   wpAny (model C.prog C.w) A (exec (.Assign [.Name y py] e sp) env) (aq C K kd s0 io0 Z0 env F (.next (o9 y (.val d) fo) g')) noE s:=by
 by_cases hc:∃ a b c p,e = .ListComp a b c p
 · obtain ⟨elt,gens,sc,p,rfl⟩:=hc
   refine ze (ak0 (env:=env) (elt:=elt) (gens:=gens) (sc:=sc) (p:=p) (y:=y) (py:=py) (ln:=sp.line)) fun b hb=>?_
   induction b using Bool.casesOn with
   | false=>exact yt (ok n (Nat.le_refl _)) ha x hz h hb
   | true =>
     induction n using Nat.casesOn with
     | zero=>exact a8 h
     | succ m =>
       refine zea (bg0 (ok m (Nat.le_succ _)) h) fun ys e hr=>?_
       subst e
       exact ab0 ha x hz hr hb
 · have:=zk h
   exact yt (ok n (Nat.le_refl _)) ha x hz h (aa6 (fun a b c p he=>hc ⟨a,b,c,p,he⟩) this.1 this.2)
theorem ab6 (ok:bd C L n T) (ha:AOk A L) (x:Frm C K kd s0 io0 Z0 env ad O F fo io g s) {e:Expr} {p:Pos} {d:D} (h:pev T n kd (frz fo) e g = some (d,g')) :
   wpAny (model C.prog C.w) A (exec (.Return (some e) p) env) (aq C K kd s0 io0 Z0 env F (.ret d g')) noE s :=
 wpAny_Return_some (a9 (ok.ev kd _ _ _ _ _ h A env _ io s ha x.envZ x.lessSok) fun v s1 ⟨io1,y,k,hh⟩ =>
   ⟨v,rfl,io1,x.grow.trans C y,k.less C fun z hz=>List.mem_append_right _ hz,Has.less hh fun z hz=>List.mem_append_right _ hz⟩)
theorem bp2 (ok:bd C L n T) (ha:AOk A L) (x:Frm C K kd s0 io0 Z0 env ad O F fo io g s) {t:Expr} {a b:List Stmt} {p:Pos} {c:Bool} {fl:Fl} (h:pt T n kd (d6 fo) t g = some (c,g1))
   (hb:∀ io1 s1,Frm C K kd s0 io0 Z0 env ad O F fo io1 g1 s1→wpAny (model C.prog C.w) A (execs (if c then a else b) env) (aq C K kd s0 io0 Z0 env F fl) noE s1) :
   wpAny (model C.prog C.w) A (exec (.If t a b p) env) (aq C K kd s0 io0 Z0 env F fl) noE s:=by
 refine wpAny_If (a9 (ok.tr kd _ _ _ _ _ h A env _ io s ha x.envR x.sok) fun c' s1 ⟨hc,io1,y,k⟩=>?_)
 subst hc
 have:=hb io1 s1 (x.step y k)
 induction c' using Bool.casesOn<;>exact this
set_option tactic.hygienic true in
theorem bb3 {t:Expr} {body:List Stmt} (okt:∀ fo g c g',pt T n kd (d6 fo) t g = some (c,g')→∀ ad O io s,Frm C K kd s0 io0 Z0 env ad O F fo io g s→wpAny (model C.prog C.w) A (isTrue t env (eval t env)) (fun c' s'=>c' = c∧fc C K kd s0 io0 Z0 env F fo g' s') noE s)
   (bk:Fo→Sg→Option Fl) (okb:∀ fo g fl,bk fo g = some fl→∀ ad O io s,Frm C K kd s0 io0 Z0 env ad O F fo io g s→wpAny (model C.prog C.w) A (execs body env) (aq C K kd s0 io0 Z0 env F fl) noE s) {p:Pos} {fl:Fl} {k:Nat}
   (h:bx (fun fo g=>pt T n kd (d6 fo) t g) bk k fo g = some fl) (x:Frm C K kd s0 io0 Z0 env ad O F fo io g s) :
   wpAny (model C.prog C.w) A (exec (.While t body [] p) env) (aq C K kd s0 io0 Z0 env F fl) noE s:=by
 refine wpAny_While ?_
 refine codeAny_whileLoop (fun k s=>∃ fo g,bx (fun fo g=>pt T n kd (d6 fo) t g) bk k fo g = some fl∧fc C K kd s0 io0 Z0 env F fo g s) ?_ k ⟨fo,g,h,ad,O,io,x⟩
 rintro k s ⟨fo,g,h,ad,O,io,x⟩
 induction k using Nat.casesOn with
 | zero=>exact a8 h
 | succ k =>
   simp only [bx] at h
   split at h
   · rename_i g1 ht
     refine a9 (okt _ _ _ _ ht ad O io s x) ?_
     rintro c s1 ⟨rfl,ad1,O1,io1,x1⟩
     rw [if_pos rfl]
     split at h
     · rename_i fo2 g2 hb
       refine a9 (okb _ _ _ hb ad1 O1 io1 s1 x1) ?_
       rintro f s2 ⟨rfl,h2⟩
       exact ⟨k,Nat.lt_succ_self _,fo2,g2,h,h2⟩
     · rename_i r hb
       induction fl using Fl.casesOn with
       | next fo2 g2=>exact absurd h (hb _ _)
       | ret d g2 =>
         refine a9 (okb _ _ _ h ad1 O1 io1 s1 x1) ?_
         rintro f s2 ⟨v,rfl,h2⟩
         exact ⟨v,rfl,h2⟩
   · rename_i g1 ht
     refine a9 (okt _ _ _ _ ht ad O io s x) ?_
     rintro c s1 ⟨rfl,h1⟩
     simp only [Option.some.injEq] at h
     subst h
     rw [if_neg (by decide)]
     exact wpAny_execs_nil ⟨rfl,h1⟩
   · injection h
end
end Mine
namespace Mine
variable {C:Cst}
section
variable {K K':Kp} {kd:Kd} {s0:Shared} {io0:HI} {Z0 W:List Addr} {env:Env} {ad:Str→Addr} {O F:List Addr} {fo:Fo} {io io':HI} {g g1 g':Sg} {s s':Shared} {A:Around} {L n:Nat} {T:Tbl}
theorem Frm.touch (x:Frm C K kd s0 io0 Z0 env ad O F fo io g s) (t:aw W s s') (hW:∀ w∈W,w∈Z0∧w∉O∧w∉F) (hK:∀ b o,K.p b o→b∉W) (h0:∀ w∈W,s0.heap.get? w = none):Frm C K kd s0 io0 Z0 env ad O F fo io g s':=by
 have hsub:∀ f∈W,f∈O++(F++Z0):=fun f hf=>List.mem_append_right _ (List.mem_append_right _ (hW f hf).1)
 have nF:∀ b∈F,b∉W:=fun b hb hm=>(hW b hm).2.2 hb
 have nO:∀ b∈O,b∉W:=fun b hb hm=>(hW b hm).2.1 hb
 exact { x with
   grow:=x.grow.touch t h0
   sok:=t.sok hsub x.sok
   ns:=let ⟨m,hn⟩:=x.ns;⟨m,hn.at' fun o e=>t.keep _ o e (nF _ x.lF)⟩
   all:=fun z hz=>let ⟨c',v,h1,⟨o,h2,h3⟩,h4,h5⟩:=x.all z hz;⟨c',v,h1,⟨o,t.keep _ o h2 (nF _ h4),h3⟩,h4,h5⟩
   vals:=fun z ev hz=>by
     refine zea (x.vals z ev hz) fun v hv he=>?_
     refine ⟨v,hv.keep (fun o e=>t.keep _ o e (nF _ x.lF)) (fun c' o hk hc e=>?_),?_⟩
     · refine ze2a3 (x.all z hk) fun c'' J h1 J h4 J=>?_
       rw [hc] at h1;(injection h1 with h1;subst h1)
       exact t.keep _ o e (nF _ h4)
     · induction ev using EV.casesOn with
       | val d=>exact t.has hsub he
       | own l =>
         refine za3ea he fun h1 h2 h3 vs e4q h5=>?_;clear he;obtain ⟨n,h4⟩:=e4q
         exact ⟨h1,h2,h3,vs,⟨n,t.keep _ _ h4 (nO _ h2)⟩,t.hasL hsub h5⟩
   olist:=fun a ha=>let ⟨vs,n,e⟩:=x.olist a ha;⟨vs,n,t.keep _ _ e (nO _ ha)⟩
   kept:=fun b o hp=>let ⟨h1,h2⟩:=x.kept b o hp;⟨t.keep _ _ h1 (hK b o hp),h2⟩ }
theorem Frm.moreW (x:Frm C K kd s0 io0 Z0 env ad O F fo io g s) (kp:Keeps s s') (hW:∀ w∈W,s.heap.get? w = none∧∃ o,s'.heap.get? w = some o):Frm C K kd s0 io0 (W++Z0) env ad O F fo io g s':=by
 have x1:=x.step (Keeps.grow C kp) (Keeps.sok C kp x.sok)
 have mem:∀ z,z∈O++(F++(W++Z0))→z∈W++(O++(F++Z0)):=fun z hz=>by
   simp only [List.mem_append] at hz ⊢
   rcases hz with h | h | h | h<;>simp [h]
 refine ze2a kp fun h' tk e2q hkk=>?_;clear kp;subst e2q
 have wn:∀ {a:Addr} {o:Obj},s.heap.get? a = some o→a∉W:=fun e hm=>by rw [(hW _ hm).1] at e;injection e
 exact { x1 with
   sok:=(Sok.more_many x.sok ⟨h',tk,rfl,hkk⟩ hW).less C mem
   vals:=fun z ev hz=>by
     refine zea (x.vals z ev hz) fun v hv he=>?_
     refine ⟨v,hv.keep (fun o e=>hkk _ o e) (fun c o hk hc e=>hkk _ o e),al4.less (Z:=W++(O++(F++Z0))) ?_ mem⟩
     have up:∀ (a:Addr) (o:Obj),s.heap.get? a = some o→a∉VV C io (O++(F++Z0))→h'.get? a = some o∧a∉VV C io (W++(O++(F++Z0))):=fun a o e ha=>⟨hkk a o e,fun hm=>by
       rcases fj hm with h | h
       · exact ha h
       · exact wn e h⟩
     induction ev using EV.casesOn with
     | val d=>exact Has.mono up (fun J J e=>e) he
     | own l =>
       refine za3ea he fun h1 h2 h3 vs e4q h5=>?_;clear he;obtain ⟨n,h4⟩:=e4q
       exact ⟨h1,h2,h3,vs,⟨n,hkk _ _ h4⟩,f0.mono up (fun J J e=>e) h5⟩
   disj:=fun a ha hm=>by
     simp only [List.mem_append] at hm
     rcases hm with h | h | h
     · exact x.disj a ha (List.mem_append_left _ h)
     · refine ze2 (x.olist a ha) fun vs n e=>?_
       exact wn e h
     · exact x.disj a ha (List.mem_append_right _ h) }
theorem Frm.dropW (x:Frm C K kd s0 io0 (W++Z0) env ad O F fo io g s) {h':Heap} {tk:Nat} (keep:∀ b o,s.heap.get? b = some o→b∉W→h'.get? b = some o) (hF:∀ w∈W,w∉F) (hZ:∀ w∈W,w∉Z0) (h0:∀ w∈W,s0.heap.get? w = none) (hK:∀ b o,K.p b o→b∉W):Frm C K kd s0 io0 Z0 env ad O F fo io g { s with heap:=h',toks:=tk }:=by
 have hO:∀ w∈W,w∉O:=fun w hw hm=>x.disj w hm (by simp [hw])
 have same:∃ h'' tk',({ s with heap:=h',toks:=tk }:Shared) = { s with heap:=h'',toks:=tk' }:=⟨h',tk,rfl⟩
 have mem:∀ z,z∈W++(O++(F++Z0))→z∈O++(F++(W++Z0)):=fun z hz=>by
   simp only [List.mem_append] at hz ⊢
   rcases hz with h | h | h | h<;>simp [h]
 have nF:∀ b∈F,b∉W:=fun b hb hm=>hF b hm hb
 have nO:∀ b∈O,b∉W:=fun b hb hm=>hO b hm hb
 exact { x with
   grow:=x.grow.drop (F:=W) same keep h0
   sok:=Sok.drop (F:=W) (x.sok.less C mem) same keep fun f hf hm=>by
     simp only [List.mem_append] at hm
     rcases hm with h | h | h
     · exact hO f hf h
     · exact hF f hf h
     · exact hZ f hf h
   ns:=let ⟨m,hn⟩:=x.ns;⟨m,hn.at' fun o e=>keep _ o e (nF _ x.lF)⟩
   all:=fun z hz=>let ⟨c',v,h1,⟨o,h2,h3⟩,h4,h5⟩:=x.all z hz;⟨c',v,h1,⟨o,keep _ o h2 (nF _ h4),h3⟩,h4,h5⟩
   vals:=fun z ev hz=>by
     refine zea (x.vals z ev hz) fun v hv he=>?_
     refine ⟨v,hv.keep (fun o e=>keep _ o e (nF _ x.lF)) (fun c' o hk hc e=>?_),?_⟩
     · refine ze2a3 (x.all z hk) fun c'' J h1 J h4 J=>?_
       rw [hc] at h1;(injection h1 with h1;subst h1)
       exact keep _ o e (nF _ h4)
     · have he':=al4.less he mem
       induction ev using EV.casesOn with
       | val d=>exact Has.drop (F:=W) (s':={ s with heap:=h',toks:=tk }) he' keep
       | own l =>
         refine za3ea he' fun h1 h2 h3 vs e4q h5=>?_;clear he';obtain ⟨n,h4⟩:=e4q
         exact ⟨h1,h2,h3,vs,⟨n,keep _ _ h4 (nO _ h2)⟩,f0.drop (F:=W) (s':={ s with heap:=h',toks:=tk }) h5 keep⟩
   olist:=fun a ha=>let ⟨vs,n,e⟩:=x.olist a ha;⟨vs,n,keep _ _ e (nO _ ha)⟩
   disj:=fun a ha hm=>x.disj a ha (by
     simp only [List.mem_append] at hm ⊢
     rcases hm with h | h<;>simp [h])
   kept:=fun b o hp=>let ⟨h1,h2⟩:=x.kept b o hp;⟨keep _ _ h1 (hK b o hp),h2⟩ }
theorem Frm.withK (x:Frm C K kd s0 io0 Z0 env ad O F fo io g s) (h:∀ b o,K'.p b o→s.heap.get? b = some o∧b∉C.vt∧b∉adr io∧b∉O∧b∉F) (hp:∀ (k:Nat) t,K'.io[k]? = some t→io[k]? = some t):Frm C K' kd s0 io0 Z0 env ad O F fo io g s:={ x with kept:=h,pref:=hp }
theorem aw9 (ha:A.handled = none) (x:Frm C K kd s0 io0 Z0 env ad O F fo io g s) {t:Expr} {d:D} {b:List (Str × D)} {v:Value} (hb:tgt t d = some b) (hcs:∀ p∈b,c9 kd p.1 = true) (hd:Has (VV C io (O++(F++Z0))) io s.heap d v) {Q:Unit→Shared→Prop} {E:Value→Shared→Prop}
   (h:∀ ad' s3,Frm C K kd s0 io0 Z0 env ad' O F (j9 b fo) io g s3→(∀ c o,c∉F→s.heap.get? c = some o→s3.heap.get? c = some o)→(∀ y u,(∀ p∈b,y≠p.1)→m4 kd env s.heap y u→m4 kd env s3.heap y u)→Q () s3):wpAny (model C.prog C.w) A (assign t env v) Q E s:=by
 rcases uk hb with ⟨z,pz,rfl,rfl⟩ | ⟨y,py,z,pz,k,p,d1,d2,rfl,hyz,rfl,rfl⟩
 · exact wpAny_assign_Name (x.store' (ev:=.val d) (a:=ad z) (hcs _ (.head _)) hd (fun l hl=>by injection hl) fun s3 x3 k3 v3=>h _ s3 x3 k3 fun y u hy=>v3 y u (hy _ (.head _)))
 · · · refine zae2a3e2a2e2a2 hd fun J a vs e3q J ht v1 r1 e1 q1 v2 r2 e2 q2 e3=>?_;clear hd;subst e3q
       subst e3 e2
       have hvs:vs = #[v1,v2]:=by rw [← Array.toArray_toList (xs:=vs),e1]
       subst hvs
       refine wpAny_assign_Tuple ha ht.isTuple rfl rfl fun h₁ he₁=>?_
       have kp:Keeps s { s with heap:=h₁ }:=⟨h₁,s.toks,rfl,fun b o e=>he₁ b o (Nat.ne_of_lt (Heap.lt_size e)) e⟩
       have x1:=x.step (Keeps.grow C kp) (Keeps.sok C kp x.sok)
       have q1':=ol kp q1
       have q2':=ol kp q2
       show wpAny _ _ (assignInOrder [assign (.Name y py) env,assign (.Name z pz) env] [v1,v2]) _ _ _
       refine PyProof.Rows.assignInOrder_cons (wpAny_assign_Name (x1.store' (ev:=.val d1) (a:=ad y) (hcs _ (.head _)) q1' (fun l hl=>by injection hl) fun s2 x2 k2 w2=>?_))
       have q2'':Has (VV C io (O++(F++Z0))) io s2.heap d2 v2:=Has.mono (fun a o e hn=>⟨k2 a o (fun hm=>hn (by
         exact List.mem_append_right _ (List.mem_append_right _ (List.mem_append_left _ hm)))) e,hn⟩) (fun J J e=>e) q2'
       refine PyProof.Rows.assignInOrder_cons (wpAny_assign_Name (x2.store' (ev:=.val d2) (a:=ad z) (hcs _ (.tail _ (.head _))) q2'' (fun l hl=>by injection hl) fun s3 x3 k3 w3=>PyProof.Rows.assignInOrder_nil (h _ s3 x3 (fun c o hc e=>k3 c o hc (k2 c o hc (he₁ c o (Nat.ne_of_lt (Heap.lt_size e)) e))) fun u w hu hv=>?_)))
       refine w3 u w (hu _ (.tail _ (.head _))) (w2 u w (hu _ (.head _)) (hv.keep (fun o e=>he₁ _ o (Nat.ne_of_lt (Heap.lt_size e)) e) fun c o J J e=>he₁ c o (Nat.ne_of_lt (Heap.lt_size e)) e))
inductive by7 (C:Cst) (K1:Kp) (kd:Kd) (s0:Shared) (io0:HI) (Z1:List Addr) (env:Env) (F:List Addr) (StI:Nat→Heap→Prop) (P:List D→Fo→Sg→Option Fl) (ds:List D) (fl:Fl) (k:Nat) (s:Shared):Prop
 | mk (fo:Fo) (g:Sg) (ad:Str→Addr) (O:List Addr) (io:HI) (i:Nat) (hk:k + i = ds.length + 1) (hi:i≤ds.length) (hr:P (ds.drop i) fo g = some fl) (hs:StI i s.heap) (x:Frm C K1 kd s0 io0 Z1 env ad O F fo io g s)
theorem aq4 {body:Fo→Sg→Option Fl} {t:Expr} {d:D} {ds:List D} {fo:Fo} {g:Sg} {r:Fl} (h:wl body kd t (d::ds) fo g = some r) :
   ∃ b,tgt t d = some b∧(b.all fun p=>c9 kd p.1) = true∧∃ f,body (j9 b fo) g = some f∧((∃ fo2 g2,f = .next fo2 g2∧wl body kd t ds fo2 g2 = some r)∨∃ d2 g2,f = .ret d2 g2∧r = .ret d2 g2):=by
 replace h:(match tgt t d with | none=>none | some b=>if (b.all fun p=>c9 kd p.1) = true then (match body (j9 b fo) g with | some (.next fo g)=>wl body kd t ds fo g | r=>r) else none) = some r:=h
 induction hb:tgt t d using Option.casesOn with
 | none=>rw [hb] at h;exact a8 h
 | some b =>
   rw [hb] at h
   refine za (j0 h) fun hc h=>?_
   induction hf:body (j9 b fo) g using Option.casesOn with
   | none=>rw [hf] at h;exact a8 h
   | some f =>
     rw [hf] at h
     refine ⟨b,rfl,hc,f,hf,?_⟩
     induction f using Fl.casesOn with
     | next fo2 g2=>exact .inl ⟨_,_,rfl,h⟩
     | ret d2 g2=>exact .inr ⟨_,_,rfl,(Option.some.inj h).symm⟩
theorem bc6 {t:Expr} {io1:HI} {Z:List Addr} {ds:List D} {s₁:Shared} {I:Addr} {fp wr:List Addr} {St:Nat→Heap→Prop} {i:Nat} {body:List Stmt} {B:Flow→Shared→Prop} {N:Shared→Prop} {E:Value→Shared→Prop} (W:bb4 C A t io1 Z ds s₁ I fp wr St) (hi:i < ds.length) (st:St i s.heap)
   (h:∀ v h' tk,bj6 C io1 Z ds s₁ s i v h'→St (i + 1) h'→(∀ b o,b∉wr→s.heap.get? b = some o→h'.get? b = some o)→wpAny (model C.prog C.w) A (assign t env v) (fun _ s₂=>wpAny (model C.prog C.w) A (execs body env) B noE s₂) noE { s with heap:=h',toks:=tk }) :
   wpAny (model C.prog C.w) A (pyNext (.ref I)) (fun r s₁=>match r with
     | none=>N s₁
     | some v=>wpAny (model C.prog C.w) A (letOwnedTupleGo t (.ref I) v) (fun _ s₁'=>wpAny (model C.prog C.w) A (assign t env v) (fun _ s₂=>wpAny (model C.prog C.w) A (execs body env) B E s₂) E s₁') E s₁) E s:=by
 refine a9 (W.turn i s (fun v s₀=>wpAny (model C.prog C.w) A (assign t env v) (fun _ s₂=>wpAny (model C.prog C.w) A (execs body env) B noE s₂) noE s₀) hi st h) fun r s2 h2=>?_
 refine zea h2 fun v hv q=>?_
 subst hv
 exact a9 q fun _ s3 q=>a9 q fun _ s4 q=>a9 q fun _ _ q=>q
theorem bg3 {t:Expr} {io1:HI} {Z:List Addr} {ds:List D} {s₁:Shared} {I:Addr} {fp wr:List Addr} {St:Nat→Heap→Prop} {N:Shared→Prop} {X:Value→Shared→Prop} {E:Value→Shared→Prop} (W:bb4 C A t io1 Z ds s₁ I fp wr St) (st:St ds.length s.heap)
   (h:∀ h' tk,(∀ b o,b∉wr→s.heap.get? b = some o→h'.get? b = some o)→N { s with heap:=h',toks:=tk }) :
   wpAny (model C.prog C.w) A (pyNext (.ref I)) (fun r s₁=>match r with
     | none=>N s₁
     | some v=>X v s₁) E s :=
 a9 (W.done s (fun r s₁=>r = none∧N s₁) st fun h' tk hk=>⟨rfl,h h' tk hk⟩) fun r s h=>by
   obtain ⟨e,h⟩:=h
   subst e
   exact h
set_option tactic.hygienic true in
theorem ay1 {X:List Addr} {iter t:Expr} {p:Pos} {body:List Stmt} {ds:List D} {bk:Fo→Sg→Option Fl} {fl:Fl} (hs:∀ elts k p,iter≠.Set elts k p)
   (okb:∀ (K:Kp) (Z0:List Addr) fo g fl,bk fo g = some fl→∀ ad O io s,Frm C K kd s0 io0 Z0 env ad O F fo io g s→wpAny (model C.prog C.w) A (execs body env) (aq C K kd s0 io0 Z0 env F fl) noE s)
   (x:Frm C K kd s0 io0 Z0 env ad O F fo io g s) (hit:wpAny (model C.prog C.w) A (eval iter env) (bw C A t X (O++(F++Z0)) io s ds g1) noE s) (hX:∀ b∈O++F,b∈X) (ha:AOk A L) (h:wl bk kd t ds fo g1 = some fl) :
   wpAny (model C.prog C.w) A (exec (.For t iter body [] p) env) (aq C K kd s0 io0 Z0 env F fl) noE s:=by
 refine wpAny_For (a9 hit fun v _ ⟨io1,s1,y,k1,hsrc⟩=>a9 hsrc fun it s2 src=>?_) (cj hs)
 have x1:=x.step y k1
 obtain ⟨I,fp,wr,StI,rfl,W,hst,k12,hwr,hfp',hlen,hal⟩:=src
 have hfp:∀ b∈fp,b∈wr∨∃ o,s1.heap.get? b = some o∧b∉C.vt∧b∉adr io1∧b∉O∧b∉F:=fun b hb=>by
   rcases hfp' b hb with h | ⟨o,e,hv⟩
   · exact .inl h
   · simp only [VV,List.mem_append,not_or] at hv
     exact .inr ⟨o,e,hv.1.1,hv.1.2,fun hm=>hv.2 (hX b (List.mem_append_left _ hm)),fun hm=>hv.2 (hX b (List.mem_append_right _ hm))⟩
 have x2:=x1.moreW k12 hwr
 have wF:∀ w∈wr,w∉F:=fun w hw hm=>by
   refine ze (x1.sok.zal w (List.mem_append_right _ (List.mem_append_left _ hm))) fun o e=>?_
   rw [(hwr w hw).1] at e;injection e
 have wZ:∀ w∈wr,w∉Z0:=fun w hw hm=>by
   refine ze (x1.sok.zal w (List.mem_append_right _ (List.mem_append_right _ hm))) fun o e=>?_
   rw [(hwr w hw).1] at e;injection e
 have w0:∀ w∈wr,s0.heap.get? w = none:=fun w hw=>by
   induction e:s0.heap.get? w using Option.casesOn with
   | none=>rfl
   | some o=>refine ze (x1.grow.alive w o e) fun o' e'=>?_;rw [(hwr w hw).1] at e';injection e'
 have wK:∀ b o,K.p b o→b∉wr:=fun b o hp hm=>by
   have:=(x1.kept b o hp).1
   rw [(hwr _ hm).1] at this;injection this
 let K1:Kp:=⟨fun b o=>s1.heap.get? b = some o∧b∉C.vt∧b∉adr io1∧b∉O∧b∉F,io1⟩
 have kk:∀ b o,s1.heap.get? b = some o→s2.heap.get? b = some o:=by refine ze2a k12 fun h' tk e2q hkk=>?_;clear k12;subst e2q;exact hkk
 have K1w:∀ b o,K1.p b o→b∉wr:=fun b o hb hm=>by refine za hb fun e J=>?_;clear hb;rw [(hwr b hm).1] at e;injection e
 have KK1:∀ b o,K.p b o→K1.p b o:=fun b o hb=>x1.kept b o hb
 have x3:Frm C K1 kd s0 io0 (wr++Z0) env ad O F fo io1 g1 s2:=x2.withK (fun b o hb=>⟨kk b o hb.1,hb.2⟩) (fun J J e=>e)
 let Inv:Nat→Shared→Prop:=by7 C K1 kd s0 io0 (wr++Z0) env F StI (wl bk kd t) ds fl
 refine codeAny_forLoop_any Inv ?_ (ds.length + 1)
   ⟨fo,g1,ad,O,io1,0,rfl,Nat.zero_le _,by simpa using h,hst,x3⟩
 rintro k s ⟨fo,g,ad,Oc,io,i,hki,hi,hrun,sti,xi⟩
 have wOc:∀ w∈wr,w∉Oc:=fun w hw hm=>xi.disj w hm (by simp [hw])
 by_cases hlt:i < ds.length
 · refine bc6 W hlt sti fun v hp tkp itm hstp hkp=>?_
   obtain ⟨d,hd,hit⟩:=itm
   have tw:aw wr s { s with heap:=hp,toks:=tkp }:=⟨⟨hp,tkp,rfl⟩,fun b o e hb=>hkp b o hb e,fun b hb J=>hal _ _ hstp b hb⟩
   have xj:=xi.touch tw (fun w hw=>⟨List.mem_append_left _ hw,wOc w hw,wF w hw⟩) K1w w0
   have hdrop:ds.drop i = d::ds.drop (i + 1):=by
     rw [List.drop_eq_getElem_cons hlt]
     have:ds[i] = d:=by simpa [hlt] using hd
     rw [this]
   rw [hdrop] at hrun
   refine zea2ea (aq4 hrun) fun bt hbt hcs f1 hb hor=>?_
   · have hcs':∀ p∈bt,c9 kd p.1 = true:=List.all_eq_true.mp hcs
     have hdv':Has (VV C io (Oc++(F++(wr++Z0)))) io hp d v:=hit _ io (fun a o e hn=>by
       have hn':=hn
       unfold VV at hn'
       simp only [List.mem_append,not_or] at hn'
       have hk1:K1.p a o:=⟨e,hn'.1.1,hn'.1.2,hn'.2.1,hn'.2.2.1⟩
       refine za4 (xj.kept a o hk1) fun q1 q2 q3 q4 q5=>?_
       refine ⟨q1,fun hm=>?_⟩
       unfold VV at hm
       simp only [List.mem_append] at hm
       rcases hm with (hm | hm) | hm | hm | hm | hm
       · exact q2 hm
       · exact q3 hm
       · exact q4 hm
       · exact q5 hm
       · exact K1w a o hk1 hm
       · exact hn'.2.2.2 hm) xj.pref fun a h=>sm xi.sok h
     refine aw9 ha.hh xj hbt hcs' hdv' fun ad3 s3 x3 kp3 J=>?_
     have hst3:StI (i + 1) s3.heap:=W.frame _ _ _ hstp fun b hb o e=>kp3 b o (fun hm=>by
       rcases hfp b hb with h | ⟨o',e',hv⟩
       · exact wF b h hm
       · exact hv.2.2.2 hm) e
     let K2:Kp:=⟨fun b o=>s3.heap.get? b = some o∧b∉C.vt∧b∉adr io∧b∉Oc∧b∉F,io⟩
     have x4:Frm C K2 kd s0 io0 (wr++Z0) env _ Oc F (j9 bt fo) io g s3:=x3.withK (fun b o hb=>hb) (fun J J e=>e)
     have K12:∀ b o,K1.p b o→K2.p b o:=fun b o hb=>x3.kept b o hb
     have back:∀ {ad O io s fo g},Frm C K2 kd s0 io0 (wr++Z0) env ad O F fo io g s→Frm C K1 kd s0 io0 (wr++Z0) env ad O F fo io g s∧StI (i + 1) s.heap:=fun {ad O io s fo g} xx=>by
       refine ⟨xx.withK (fun b o hb=>xx.kept b o (K12 b o hb)) (fun k t e=>xx.pref k t (x3.pref k t e)),W.frame _ _ _ hst3 fun b hb o e=>?_⟩
       refine (xx.kept b o ⟨e,?_⟩).1
       rcases hfp b hb with h | ⟨o',e',hv⟩
       · have:=x3.sok.zd b (by simp [h])
         exact ⟨this.1,this.2.1,wOc b h,wF b h⟩
       · exact (x3.kept b o' ⟨e',hv⟩).2
     rcases hor with ⟨fo2,g2,ef,hrun⟩ | ⟨d2,g2,ef,er⟩
     · rw [ef] at hb
       refine a9 (okb K2 _ _ _ _ hb _ _ _ _ x4) ?_
       rintro f s4 ⟨rfl,ad4,O4,io4,x5⟩
       refine za (back x5) fun b1 b2=>?_
       exact ⟨k - 1,by lia,fo2,g2,ad4,O4,io4,i + 1,by lia,by lia,hrun,b2,b1⟩
     · subst er
       rw [ef] at hb
       · refine a9 (okb K2 _ _ _ _ hb _ _ _ _ x4) ?_
         rintro f s4 ⟨v2,rfl,io4,q1,q2,q3⟩
         exact ⟨v2,rfl,io4,q1,q2.less C fun z hz=>List.mem_append_right _ hz,Has.less q3 fun z hz=>List.mem_append_right _ hz⟩
 · have hin:i = ds.length:=by lia
   subst hin
   rw [List.drop_length] at hrun
   injection (show some (Fl.next fo g) = some fl from hrun) with hrun
   subst hrun
   refine bg3 W sti fun hp tkp hkp=>wpAny_execs_nil ⟨rfl,ad,Oc,io,?_⟩
   have xx:=xi.dropW (h':=hp) (tk:=tkp) (fun b o e hb=>hkp b o hb e) wF wZ w0 K1w
   exact xx.withK (fun b o hb=>xx.kept b o (KK1 b o hb)) (fun k t e=>xx.pref k t (x1.pref k t e))
end
end Mine
namespace Mine
variable {C:Cst}
section
variable {K K':Kp} {kd:Kd} {s0:Shared} {io0:HI} {Z0 W:List Addr} {env:Env} {ad:Str→Addr} {O F:List Addr} {fo:Fo} {io io':HI} {g g1 g':Sg} {s s':Shared} {A:Around} {L n:Nat} {T:Tbl}
theorem Frm.setOwn (x:Frm C K kd s0 io0 Z0 env ad O F fo io g s) {z:Str} {l l':List D} {vs:Array Value} (hz:fo.lookup z = some (.own l)) (t:aw [ad z] s s') (hp:s'.heap.PlainList (ad z) vs) (hl:l'.length≤lim)
   (hs:f0 (VV C io (O++(F++Z0))) io s.heap l' vs.toList):Frm C K kd s0 io0 Z0 env ad O F (o9 z (.own l') fo) io g s':=by
 refine zea3 (x.vals z _ hz) fun vz hvz hez hzO J=>?_
 have hsub:∀ f∈[ad z],f∈O++(F++Z0):=fun f hf=>by simp only [List.mem_singleton] at hf;subst hf;exact List.mem_append_left _ hzO
 have nF:∀ b∈F,b∉[ad z]:=fun b hb hm=>by simp only [List.mem_singleton] at hm;subst hm;exact x.disj _ hzO (List.mem_append_left _ hb)
 exact { x with
   grow:=x.grow.touch t fun f hf=>by simp only [List.mem_singleton] at hf;subst hf;exact x.fresh _ (List.mem_append_left _ hzO)
   sok:=t.sok hsub x.sok
   ns:=let ⟨m,hn⟩:=x.ns;⟨m,hn.at' fun o e=>t.keep _ o e (nF _ x.lF)⟩
   all:=fun y hy=>let ⟨c',v,h1,⟨o,h2,h3⟩,h4,h5⟩:=x.all y hy;⟨c',v,h1,⟨o,t.keep _ o h2 (nF _ h4),h3⟩,h4,h5⟩
   vals:=fun y ev hy=>by
     rw [f4] at hy
     have vk:∀ y u,m4 kd env s.heap y u→m4 kd env s'.heap y u:=fun y u hu=>hu.keep (fun o e=>t.keep _ o e (nF _ x.lF)) (fun c' o hk hc e=>by
       refine ze2a3 (x.all y hk) fun c'' J h1 J h4 J=>?_
       rw [hc] at h1;(injection h1 with h1;subst h1)
       exact t.keep _ o e (nF _ h4))
     by_cases hyz:y = z
     · subst hyz
       rw [if_pos rfl,Option.some.injEq] at hy
       subst hy
       exact ⟨vz,vk _ _ hvz,hez,hzO,hl,vs,hp,t.hasL hsub hs⟩
     · rw [if_neg hyz] at hy
       refine zea (x.vals y ev hy) fun u h1 h2=>?_
       refine ⟨u,vk _ _ h1,?_⟩
       induction ev using EV.casesOn with
       | val d=>exact t.has hsub h2
       | own m =>
         refine za3ea h2 fun q1 q2 q3 us e4q q5=>?_;clear h2;obtain ⟨k,q4⟩:=e4q
         refine ⟨q1,q2,q3,us,⟨k,t.keep _ _ q4 ?_⟩,t.hasL hsub q5⟩
         simpa using x.apart y z m l hyz hy hz
   olist:=fun a ha=>by
     by_cases he:a = ad z
     · subst he;exact ⟨vs,hp⟩
     · let ⟨us,k,e⟩:=x.olist a ha
       exact ⟨us,k,t.keep _ _ e (by simpa using he)⟩
   apart:=fun y w m m' hne h1 h2=>by
     rw [f4] at h1 h2
     by_cases hyz:y = z
     · subst hyz
       rw [if_neg (Ne.symm hne)] at h2
       exact x.apart y w l m' hne hz h2
     · rw [if_neg hyz] at h1
       by_cases hwz:w = z
       · subst hwz;exact x.apart y w m l hne h1 hz
       · rw [if_neg hwz] at h2;exact x.apart y w m m' hne h1 h2
   nd:=ji x.nd
   kept:=fun b o hb=>let ⟨h1,h2,h3,h4,h5⟩:=x.kept b o hb;⟨t.keep _ _ h1 (fun hm=>by simp only [List.mem_singleton] at hm;subst hm;exact h4 hzO),h2,h3,h4,h5⟩ }
theorem o5 (x:Frm C K kd s0 io0 Z0 env ad O F fo io g s) {z:Str} {p:Pos} {v:Value} (h:m4 kd env s.heap z v) (hd:(z==("__debug__":Str)) = false) {Q:Value→Shared→Prop} {E:Value→Shared→Prop} (hq:Q v s) :
   wpAny (model C.prog C.w) A (eval (.Name z p) env) Q E s:=by
 refine wpAny_Name ?_ hd
 rcases h with ⟨h1,m,hn,hm⟩ | ⟨h1,c,hc,hv⟩
 · exact wpAny_loadName_local x.fn ((x.kdo z).trans h1) hn hm hq
 · exact wpAny_loadName_cell x.fn ((x.kdo z).trans h1) hc hv hq
theorem bb2:∀ (ts:List Expr) (ds:List D) (fo fo':Fo),dw kd ts ds fo = some fo'→∀ (ad:Str→Addr) (s:Shared) (vs:List Value),
   Frm C K kd s0 io0 Z0 env ad O F fo io g s→f0 (VV C io (O++(F++Z0))) io s.heap ds vs→wpAny (model C.prog C.w) A (assignInOrder ((assignEach ts env).map (·.2)) vs) (fun J s'=>fc C K kd s0 io0 Z0 env F fo' g s') noE s:=by
 intro ts
 induction ts with
 | nil =>
   intro ds fo fo' h ad s vs x hv
   cases oj h with
   | nil hr =>
     subst hr;subst hv
     exact wpAny_pure ⟨ad,O,io,x⟩
 | cons t ts ih =>
   intro ds fo fo' h ad s vs x hv
   have hw:=oj h
   clear h
   cases hw with
   | name z pz _ d ds hz h =>
     refine ze2a2 hv fun v r e2q hd hr=>?_;clear hv;subst e2q
     show wpAny _ A (holding r (assign (.Name z pz) env v) >>= fun J=>assignInOrder ((assignEach ts env).map (·.2)) r) _ _ _
     refine wpAny_bind (wpAny_holding (wpAny_assign_Name (x.store (ev:=.val d) (a:=ad z) hz hd (fun l hl=>by injection hl) fun s1 x1 kp=>?_)))
     refine ih ds _ _ h _ s1 r x1 (f0.mono (fun a o e hn=>⟨kp a o (fun hm=>hn ?_) e,hn⟩) (fun J J e=>e) hr)
     exact List.mem_append_right _ (List.mem_append_right _ (List.mem_append_left _ hm))
end
end Mine
end
section
open PySem
set_option backward.match.sparseCases true
namespace Mine
variable {C:Cst}
section
variable {K K':Kp} {kd:Kd} {s0:Shared} {io0:HI} {Z0 W:List Addr} {env:Env} {ad:Str→Addr} {O F:List Addr} {fo:Fo} {io io':HI} {g g1 g':Sg} {s s':Shared} {A:Around} {L n:Nat} {T:Tbl}
theorem oi (hk:∀ x,env.kindOf x = kd x) (hb:env.blockKind = .function) {ts vs:List Expr} {a c:Nat} {b d:Pos} {r:Option (List Str)} (h:ku kd ts vs = some r):swappedStores [.Tuple ts a b] (.Tuple vs c d) env = pure r:=by
 have hkd:kd = env.kindOf:=funext fun x=>(hk x).symm
 subst hkd
 unfold ku at h
 unfold swappedStores
 rw [hb]
 dsimp only at h ⊢
 show (if _ then _ else _) = _
 by_cases c1:(!(ts.length==2||ts.length==3)||vs.length != ts.length) = true
 · rw [if_pos c1,Option.some.injEq] at h
   subst h
   rw [if_pos (by rw [c1];rfl)]
 · rw [if_neg c1] at h
   rw [if_neg (by simpa using c1)]
   split at h
   · rename_i c2
     injection h with h;subst h
     exact if_pos c2
   · rename_i c2
     refine (if_neg c2).trans ?_
     split at h
     · rename_i c3
       injection h with h;subst h
       exact if_pos c3
     · rename_i c3
       refine (if_neg c3).trans ?_
       split at h
       · rename_i c4
         injection h with h;subst h
         exact if_pos c4
       · rename_i c4
         refine (if_neg c4).trans ?_
         split at h
         · injection h
         · rename_i c5
           injection h with h;subst h
           exact if_neg c5
theorem ag0 {st:Str→Value→Sem Unit} (hst:∀ (z:Str) (v:Value) (Q:Unit→Shared→Prop) (s:Shared),wpAny (model C.prog C.w) A (storeName env z v) Q noE s→wpAny (model C.prog C.w) A (st z v) Q noE s) :
   ∀ (ns:List Str) (ds:List D) (fo:Fo) (ad:Str→Addr) (s:Shared) (vs:List Value),(∀ z∈ns,c9 kd z = true)→ns.length = ds.length→Frm C K kd s0 io0 Z0 env ad O F fo io g s→f0 (VV C io (O++(F++Z0))) io s.heap ds vs →
   wpAny (model C.prog C.w) A (assignInOrder (ns.map st) vs) (fun J s'=>fc C K kd s0 io0 Z0 env F (j9 (ns.zip ds) fo) g s') noE s
 | [],ds,fo,ad,s,vs,hz,hl,x,hv=>by
   induction ds using List.casesOn with
   | cons _ _=>simp at hl
   | nil=>subst hv;exact wpAny_pure ⟨ad,O,io,x⟩
 | z::ns,ds,fo,ad,s,vs,hz,hl,x,hv=>by
   induction ds using List.casesOn with
   | nil=>simp at hl
   | cons d ds =>
     refine ze2a2 hv fun v r e2q hd hr=>?_;clear hv;subst e2q
     show wpAny _ A (holding r (st z v) >>= fun J=>assignInOrder (ns.map st) r) _ _ _
     refine wpAny_bind (wpAny_holding (hst z v _ _ (x.store (ev:=.val d) (a:=ad z) (hz z (.head _)) hd (fun l hl=>by injection hl) fun s1 x1 kp=>?_)))
     refine ag0 hst ns ds _ _ s1 r (fun y hy=>hz y (.tail _ hy)) (by simpa using hl) x1 (f0.mono (fun a o e hn=>⟨kp a o (fun hm=>hn ?_) e,hn⟩) (fun J J e=>e) hr)
     exact List.mem_append_right _ (List.mem_append_right _ (List.mem_append_left _ hm))
theorem w8 (y:Str):∀ (l:List (Str × D)) (fo:Fo),(l.map (·.1)).Nodup→(j9 l fo).lookup y = match l.lookup y with | some d=>some (.val d) | none=>fo.lookup y
 | [],fo,_=>rfl
 | (z,d)::r,fo,hn=>by
   simp only [List.map_cons,List.nodup_cons] at hn
   rw [show j9 ((z,d)::r) fo = j9 r (o9 z (.val d) fo) from rfl,w8 y r _ hn.2,f4]
   by_cases hy:y = z
   · subst hy
     have:r.lookup y = none:=dj hn.1
     simp [this,List.lookup]
   · have hb:(y==z) = false:=by simpa using hy
     rw [u6 hb,if_neg hy]
theorem qg:∀ (l:List (Str × D)) (fo:Fo),(fo.map (·.1)).Nodup→((j9 l fo).map (·.1)).Nodup
 | [],fo,h=>h
 | (z,d)::r,fo,h=>qg r _ (ji h)
theorem qu {β:Type} (y:Str):∀ (l:List (Str × β)),(l.map (·.1)).Nodup→l.reverse.lookup y = l.lookup y:=by
 have app:∀ (a b:List (Str × β)),(a++b).lookup y = match a.lookup y with | some d=>some d | none=>b.lookup y:=by
   intro a b
   induction a with
   | nil=>rfl
   | cons p r ih =>
     obtain ⟨k,v⟩:=p
     by_cases hk:(y==k) = true
     · simp [List.lookup,hk]
     · have hk':(y==k) = false:=by simpa using hk
       exact (u6 hk').trans (ih.trans (by rw [u6 hk']))
 intro l
 induction l with
 | nil=>intro _;rfl
 | cons p r ih =>
   obtain ⟨k,v⟩:=p
   intro hn
   simp only [List.map_cons,List.nodup_cons] at hn
   rw [List.reverse_cons,app,ih hn.2]
   by_cases hk:(y==k) = true
   · have hk':y = k:=by simpa using hk
     subst hk'
     rw [dj hn.1]
     simp [List.lookup]
   · have hk':(y==k) = false:=by simpa using hk
     simp only [List.lookup,hk']
     induction r.lookup y using Option.casesOn<;>rfl
theorem ao4 {α β:Type}:∀ (a:List α) (b:List β),a.length = b.length→a.reverse.zip b.reverse = (a.zip b).reverse
 | [],[],_=>rfl
 | [],_::_,h=>by simp at h
 | _::_,[],h=>by simp at h
 | x::a,y::b,h=>by
   have h':a.length = b.length:=by simpa using h
   rw [List.reverse_cons,List.reverse_cons,List.zip_append (by simpa using h'),ao4 a b h']
   simp
theorem ar8 {α:Type} {l:List α} (h:l.Nodup):l.reverse.Nodup:=by
 unfold List.Nodup at *
 rw [List.pairwise_reverse]
 exact h.imp fun h=>Ne.symm h
theorem am8 {ds:List D} {v:Value} (ha:AOk A L) (x:Frm C K kd s0 io0 Z0 env ad O F fo io g s) (hv:Has (VV C io (O++(F++Z0))) io s.heap (.tup ds) v) {m:Nat} (hm:m = ds.length) {Q:List Value→Shared→Prop} {E:Value→Shared→Prop}
   (h:∀ s' vs,Frm C K kd s0 io0 Z0 env ad O F fo io g s'→f0 (VV C io (O++(F++Z0))) io s'.heap ds vs→Q vs s'):wpAny (model C.prog C.w) A (unpackItems v m none) Q E s:=by
 refine zae2a3 hv fun hl a vs e3q hav ht hs=>?_;clear hv;subst e3q
 have hn:=f0.length hs
 simp only [Array.length_toList] at hn
 have:m = vs.size:=by lia
 subst this
 refine wpAny_unpackItems_tuple ha.hh ht.isTuple fun h' he=>?_
 have kp:Keeps s { s with heap:=h' }:=⟨h',s.toks,rfl,fun b o e=>he b o (Nat.ne_of_lt (Heap.lt_size e)) e⟩
 exact h _ _ (x.step (Keeps.grow C kp) (Keeps.sok C kp x.sok)) (z5 kp hs)
theorem ur {ds:List D} {v:Value} (ha:AOk A L) (x:Frm C K kd s0 io0 Z0 env ad O F fo io g s) (hv:Has (VV C io (O++(F++Z0))) io s.heap (.tup ds) v) {ts:List Expr} {k:Nat} {p:Pos} (hm:(assignEach ts env).length = ds.length) (hstar:(assignEach ts env).findIdx? (·.1) = none) {Q:Unit→Shared→Prop} {E:Value→Shared→Prop}
   (h:∀ s' vs,Frm C K kd s0 io0 Z0 env ad O F fo io g s'→f0 (VV C io (O++(F++Z0))) io s'.heap ds vs→wpAny (model C.prog C.w) A (assignInOrder ((assignEach ts env).map (·.2)) vs) Q E s'):wpAny (model C.prog C.w) A (assign (.Tuple ts k p) env v) Q E s:=by
 refine zae2a3 hv fun hl a vs e3q hav ht hs=>?_;clear hv;subst e3q
 have hn:=f0.length hs
 simp only [Array.length_toList] at hn
 refine wpAny_assign_Tuple ha.hh ht.isTuple (by lia) hstar fun h' he=>?_
 have kp:Keeps s { s with heap:=h' }:=⟨h',s.toks,rfl,fun b o e=>he b o (Nat.ne_of_lt (Heap.lt_size e)) e⟩
 exact h _ _ (x.step (Keeps.grow C kp) (Keeps.sok C kp x.sok)) (z5 kp hs)
theorem yg {a I:Addr} {items:Array Value} {E:Value→Shared→Prop} (hne:a≠I):∀ (n i:Nat) (s:Shared) (Q:List Value→Shared→Prop),s.heap.IsListIter I a i→s.heap.IsList a items→i + n≤items.size →
   (∀ h',h'.IsListIter I a (i + n)→Heap.SameBut I s.heap h'→Q ((items.toList.drop i).take n) { s with heap:=h' })→wpAny (model C.prog C.w) A (draw (.ref I) n) Q E s
 | 0,i,s,Q,hit,_,_,hQ=>wpAny_pure (by simpa using hQ s.heap hit (Heap.SameBut.refl ..))
 | n + 1,i,s,Q,hit,ht,hle,hQ=>by
   have hlt:i < items.size:=by lia
   show wpAny _ _ (pyNext (.ref I) >>= _) Q E s
   refine wpAny_bind (wpAny_pyNext_list_item hit ht (x:=items[i]) (Array.getElem?_eq_getElem hlt) fun h₁ hit₁ hs₁=>?_)
   refine wpAny_bind (wpAny_holding (yg hne n (i + 1) _ _ hit₁ (ht.extBut hs₁.extBut hne) (by lia) fun h₂ hit₂ hs₂=>wpAny_pure ?_))
   have hd:items.toList.drop i = items[i]::items.toList.drop (i + 1):=by
     rw [List.drop_eq_getElem_cons (by rw [Array.length_toList];exact hlt)];rfl
   have:=hQ h₂ (by rw [show i + (n + 1) = i + 1 + n by lia];exact hit₂) (hs₁.trans hs₂)
   rw [hd,List.take_succ_cons] at this
   exact this
theorem zh {a:Addr} {items:Array Value} {Q:List Value→Shared→Prop} {E:Value→Shared→Prop} (hh:A.handled = none) (ht:s.heap.IsList a items)
   (hQ:∀ h',Heap.ExtBut s.heap.objs.size s.heap h'→Q items.toList { s with heap:=h' }):wpAny (model C.prog C.w) A (unpackItems (.ref a) items.size none) Q E s:=by
 have hlt:a≠s.heap.objs.size:=by refine zea ht fun o ho _=>?_;exact Nat.ne_of_lt (Heap.lt_size ho)
 unfold unpackItems
 refine wpAny_bind ?_
 unfold notIterableAtAll
 refine wpAny_bind (wpAny_specialOf ht.typeIs PySem.F.slot_list_iter.lookup ?_)
 refine wpAny_pure ?_
 show wpAny _ _ (holding [.ref a] (pyIter (.ref a)) >>= _) _ _ _
 refine wpAny_bind (wpAny_holding (wpAny_pyIter_list ht ?_))
 refine wpAny_bind (wpAny_holding (yg hlt items.size 0 _ _ ⟨_,Heap.get?_push_size _ rfl,rfl,rfl⟩ (ht.push _) (by lia) fun h₁ hit₁ hs₁=>?_))
 have bb:List.take items.size (List.drop 0 items.toList) = items.toList:=by
   rw [List.drop_zero];exact List.take_of_length_le (by rw [Array.length_toList];exact Nat.le_refl _)
 rw [bb,if_neg (by rw [Array.length_toList];exact Nat.lt_irrefl _)]
 refine wpAny_bind (wpAny_holding (wpAny_pyNext_list_end hh hit₁ ((ht.push _).extBut hs₁.extBut hlt) (Array.getElem?_eq_none (by lia)) fun h₂ he₂=>?_))
 exact wpAny_pure (hQ h₂ fun b o hb e=>he₂ b o hb (hs₁.extBut b o hb (Heap.get?_push_of_some _ e)))
theorem vc {d:D} {ds:List D} {v:Value} (ha:AOk A L) (x:Frm C K kd s0 io0 Z0 env ad O F fo io g s) (hu:unL d = some ds) (hv:Has (VV C io (O++(F++Z0))) io s.heap d v) {ts:List Expr} {k:Nat} {p:Pos} (hm:(assignEach ts env).length = ds.length) (hstar:(assignEach ts env).findIdx? (·.1) = none) {Q:Unit→Shared→Prop} {E:Value→Shared→Prop}
   (h:∀ s' vs,Frm C K kd s0 io0 Z0 env ad O F fo io g s'→f0 (VV C io (O++(F++Z0))) io s'.heap ds vs→wpAny (model C.prog C.w) A (assignInOrder ((assignEach ts env).map (·.2)) vs) Q E s'):wpAny (model C.prog C.w) A (assign (.Tuple ts k p) env v) Q E s:=by
 induction d using D.casesOn with
 | tup l =>
   injection hu with hu;subst hu
   exact ur ha x hv hm hstar h
 | lst l =>
   injection hu with hu;subst hu
   refine zae2a3 hv fun hl a vs e3q hav ht hs=>?_;clear hv;subst e3q
   have hn:=f0.length hs
   rw [Array.length_toList] at hn
   rw [arm_assign_Tuple]
   refine wpAny_bind (wpAny_standAt ?_)
   unfold unpack
   rw [show (assignEach ts env).length = vs.size by lia,hstar]
   refine wpAny_bind (wpAny_holding (zh ha.hh ht.isList fun h' he=>?_))
   have kp:Keeps s { s with heap:=h' }:=⟨h',s.toks,rfl,fun b o e=>he b o (Nat.ne_of_lt (Heap.lt_size e)) e⟩
   exact h _ _ (x.step (Keeps.grow C kp) (Keeps.sok C kp x.sok)) (z5 kp hs)
 | _=>exact a8 hu
theorem am9:∀ (ts:List Expr) (ds:List D) (fo:Fo) {r},dw kd ts ds fo = some r→(assignEach ts env).length = ds.length∧(assignEach ts env).findIdx? (·.1) = none:=by
 intro ts
 induction ts with
 | nil=>intro ds fo r h;cases oj h;exact ⟨rfl,rfl⟩
 | cons t ts ih =>
   intro ds fo r h
   have key:∀ {d:D} {ds:List D} {f:Value→Sem Unit} {L:List (Bool × (Value→Sem Unit))},L.length = ds.length∧L.findIdx? (·.1) = none→((false,f)::L).length = (d::ds).length∧((false,f)::L).findIdx? (·.1) = none:=fun ⟨h1,h2⟩=>by
     refine ⟨congrArg (· + 1) h1,?_⟩
     rw [List.findIdx?_cons,h2];rfl
   have hw:=oj h
   clear h
   cases hw with
   | name z pz _ d ds hz h=>exact key (ih _ _ h)
theorem tc (ok:bd C L n T) (ha:AOk A L) (x:Frm C K kd s0 io0 Z0 env ad O F fo io g s) {ts:List Expr} {k:Nat} {p sp:Pos} {e:Expr} {d:D} {ds:List D} {fo2:Fo} (hu:unL d = some ds)
   (h:pev T n kd (d6 fo) e g = some (d,g1)) (hp:dw kd ts ds fo = some fo2) (hw:swappedStores [.Tuple ts k p] e env = pure none) :
   wpAny (model C.prog C.w) A (exec (.Assign [.Tuple ts k p] e sp) env) (aq C K kd s0 io0 Z0 env F (.next fo2 g1)) noE s:=by
 refine PyProof.Rows.Assign_Tuple (a9 (ok.ev kd _ _ _ _ _ h A env _ io s ha x.envR x.sok) fun v s1 ⟨io1,y,k,hh⟩=>?_) (by unfold swapsWithSole swapsWith;induction e using Expr.casesOn<;>rfl) hw
 refine za (am9 (env:=env) _ _ _ hp) fun q1 q2=>?_
 refine vc ha (x.step y k) hu hh q1 q2 fun s2 vs x2 hv=>?_
 exact a9 (bb2 ts ds fo fo2 hp ad s2 vs x2 hv) fun J s3 h3=>⟨rfl,h3⟩
theorem f0.rev {V:List Addr} {h:Heap}:∀ {ds:List D} {vs:List Value},f0 V io h ds vs→f0 V io h ds.reverse vs.reverse
 | [],vs,x=>by subst x;exact rfl
 | d::r,vs,x=>by
   refine ze2a2 x fun u us e2q h1 h2=>?_;clear x;subst e2q
   rw [List.reverse_cons,List.reverse_cons]
   exact f0.append (f0.rev h2) (by exact ⟨u,[],rfl,h1,rfl⟩)
theorem ax6 (ok:bd C L n T) (ha:AOk A L) (x:Frm C K kd s0 io0 Z0 env ad O F fo io g s) {ts:List Expr} {k:Nat} {p sp:Pos} {e:Expr} {ds:List D} {ns:List Str}
   (h:pev T n kd (d6 fo) e g = some (.tup ds,g1)) (hw:swappedStores [.Tuple ts k p] e env = pure (some ns)) (hn:ns.Nodup) (hz:∀ z∈ns,c9 kd z = true) (hl:ns.length = ds.length) :
   wpAny (model C.prog C.w) A (exec (.Assign [.Tuple ts k p] e sp) env) (aq C K kd s0 io0 Z0 env F (.next (j9 (ns.zip ds) fo) g1)) noE s:=by
 refine PyProof.Rows.Assign_Tuple_swapped (a9 (ok.ev kd _ _ _ _ _ h A env _ io s ha x.envR x.sok) fun v s1 ⟨io1,y,k,hh⟩=>?_) (by unfold swapsWithSole swapsWith;induction e using Expr.casesOn<;>rfl) hw
 have x1:=x.step y k
 refine am8 ha x1 hh hl fun s2 vs x2 hv=>?_
 have hrev:=fun (ds:List D) (vs:List Value) (h:f0 (VV C io1 (O++(F++Z0))) io1 s2.heap ds vs)=>f0.rev h
 refine a9 (ag0 (st:=fun n=>bindName env n) (fun z v Q s h=>PyProof.Rows.bindName_ h) ns.reverse ds.reverse fo ad s2 vs.reverse (fun z h=>hz z (by simpa using h)) (by simpa using hl) x2 (hrev ds vs hv)) ?_
 rintro _ s3 ⟨ad3,O3,io3,x3⟩
 have e1:ns.reverse.zip ds.reverse = (ns.zip ds).reverse:=ao4 ns ds hl
 have hk:((ns.zip ds).map (·.1)) = ns:=List.map_fst_zip (by lia)
 refine ⟨rfl,ad3,O3,io3,x3.ext (fun y=>?_) (qg _ _ x2.nd)⟩
 rw [e1,w8 y _ _ (by rw [hk];exact hn),w8 y _ _ (by rw [List.map_reverse,hk];exact ar8 hn),qu y _ (by rw [hk];exact hn)]
end
end Mine
end
section
open PySem
namespace Mine
variable {C:Cst}
section
variable {K K':Kp} {kd:Kd} {s0:Shared} {io0:HI} {Z0 W:List Addr} {env:Env} {ad:Str→Addr} {O F:List Addr} {fo:Fo} {io io':HI} {g g1 g':Sg} {s s':Shared} {A:Around} {L n:Nat} {T:Tbl}
theorem bd7 (tb:dh C L T) {S:ae} (hS:T.mt "__setitem__" = some S) (ok:bd C L n T) (ha:AOk A L) (x:Frm C K kd s0 io0 Z0 env ad O F fo io g s) {o i e:Expr} {p sp:Pos} {d j r:D} {k:Nat} {g2 g3 g4:Sg}
   (h:pev T n kd (d6 fo) e g = some (d,g1)) (ho:pev T n kd (d6 fo) o g1 = some (.hdr k,g2)) (hi:pev T n kd (d6 fo) i g2 = some (j,g3)) (hs:S [.hdr k,j,d] g3 = some (r,g4)) :
   wpAny (model C.prog C.w) A (exec (.Assign [.Subscript o i p] e sp) env) (aq C K kd s0 io0 Z0 env F (.next fo g4)) noE s:=by
 refine wpAny_Assign_Subscript (a9 (ok.ev kd _ _ _ _ _ h A env _ io s ha x.envR x.sok) fun v s1 ⟨io1,y1,k1,hv⟩=>?_) (by unfold swapsWith;induction e using Expr.casesOn<;>rfl)
 have x1:=x.step y1 k1
 refine a9 (ok.ev kd _ _ _ _ _ ho A env _ io1 s1 ha x1.envR x1.sok) fun ov s2 ⟨io2,y2,k2,hov⟩=>?_
 have x2:=x1.step y2 k2
 refine a9 (ok.ev kd _ _ _ _ _ hi A env _ io2 s2 ha x2.envR x2.sok) fun iv s3 ⟨io3,y3,k3,hiv⟩=>?_
 have x3:=x2.step y3 k3
 have hov3:=y3.has C hov
 have hv3:=y3.has C (y2.has C hv)
 refine ze3a3 (tb.mt _ _ hS) fun a oo fd jy hfd hcall hm=>?_
 have ho':=hov3
 refine zea ho' fun t ht e2q=>?_;clear ho';subst e2q
 refine ze (so k3 ht) fun ps hps=>?_
 have HH:=k3.st.at' _ t ps ht hps
 refine hm.set rfl A noE s3 t.1 t.2.1 t.2.2 k3.base ⟨HH.inst,HH.dict⟩ iv v _ ?_
 refine a9 (hcall _ _ _ _ hs A _ io3 s3 [.ref t.1,iv,v] ha.c k3 (by exact ⟨_,_,rfl,hov3,_,_,rfl,hiv,_,_,rfl,hv3,rfl⟩)) fun r' s4 ⟨io4,y4,k4,_⟩=>?_
 exact ⟨rfl,ad,O,io4,x3.step y4 k4⟩
theorem Frm.addOwn (x:Frm C K kd s0 io0 Z0 env ad O F fo io g s) (vs:List Value):Frm C K kd s0 io0 Z0 env ad (s.heap.objs.size::O) F fo io g { s with heap:=s.heap.push { cls:=.type "list",data:=.seq vs.toArray } }:=by
 have kp:Keeps s { s with heap:=s.heap.push { cls:=.type "list",data:=.seq vs.toArray } }:=Keeps.push (k:=s.toks)
 have hf:s.heap.get? s.heap.objs.size = none:=d9 _
 have x1:=x.step (Keeps.grow C kp) (Keeps.sok C kp x.sok)
 have fr:=be0 x.sok (Nat.le_refl s.heap.objs.size)
 have up:∀ (a:Addr) (o:Obj),s.heap.get? a = some o→a∉VV C io (O++(F++Z0))→Heap.get? (s.heap.push { cls:=.type "list",data:=.seq vs.toArray }) a = some o∧a∉VV C io ([s.heap.objs.size]++(O++(F++Z0))):=fun a o e hn=>⟨Heap.get?_push_of_some _ e,fun hm=>by
   rcases fj hm with h | h
   · exact hn h
   · simp only [List.mem_singleton] at h;subst h;rw [hf] at e;injection e⟩
 exact { x1 with
   fresh:=fun f hm=>by
     simp only [List.cons_append,List.mem_cons] at hm
     rcases hm with rfl | hm
     · induction e:s0.heap.get? s.heap.objs.size using Option.casesOn with
       | none=>rfl
       | some o=>refine ze (x.grow.alive _ o e) fun o' e'=>?_;rw [hf] at e';injection e'
     · exact x.fresh f hm
   sok:=Sok.more x.sok hf kp ⟨_,Heap.get?_push_size _ rfl⟩
   vals:=fun y ev hy=>by
     refine zea (x.vals y ev hy) fun v h1 h2=>?_
     refine ⟨v,h1.keep (fun o e=>Heap.get?_push_of_some _ e) (fun c o J J e=>Heap.get?_push_of_some _ e),?_⟩
     induction ev using EV.casesOn with
     | val d=>exact Has.mono up (fun J J e=>e) h2
     | own l =>
       refine za3ea h2 fun q1 q2 q3 us e4q q5=>?_;clear h2;obtain ⟨k,q4⟩:=e4q
       exact ⟨q1,.tail _ q2,q3,us,⟨k,Heap.get?_push_of_some _ q4⟩,f0.mono up (fun J J e=>e) q5⟩
   olist:=fun a ha=>by
     rcases List.mem_cons.mp ha with rfl | ha
     · exact ⟨vs.toArray,_,Heap.get?_push_size _ rfl⟩
     · exact x1.olist a ha
   disj:=fun a ha hm=>by
     rcases List.mem_cons.mp ha with rfl | ha
     · refine ze (x.sok.zal _ (List.mem_append_right _ hm)) fun o e=>?_
       rw [hf] at e;injection e
     · exact x.disj a ha hm
   kept:=fun b o hb=>by
     refine za4 (x.kept b o hb) fun h1 h2 h3 h4 h5=>?_
     refine ⟨Heap.get?_push_of_some _ h1,h2,h3,fun hm=>?_,h5⟩
     rcases List.mem_cons.mp hm with rfl | hm
     · rw [hf] at h1;injection h1
     · exact h4 hm }
theorem ai6 {ev:Expr→Sg→Option (D × Sg)} {ro:Ro} {pos:Pos} {rest:List Expr} (hev:o8 C L kd ro ev) (ha:AOk A L) {Z:List Addr} {Q:List Value→Shared→Prop}:∀ (es:List Expr) {g ds g'},evs ev es g = some (ds,g')→es.all f5 = true→∀ {io s},m6 C kd Z io env ro s.heap→Sok C Z io g s →
   (∀ vs s1,qy C Z io s ds g' vs s1→wpAny (model C.prog C.w) A (spliced (backTo pos (starEach rest env))) (fun us s'=>Q (vs++us) s') noE s1)→wpAny (model C.prog C.w) A (spliced (backTo pos (starEach (es++rest) env))) Q noE s
 | [],g,ds,g',h,hp,io,s,he,hk,hq=>by
   injection (show some (([]:List D),g) = some (ds,g') from h) with h;injection h with e0q e1q;subst e0q;subst e1q
   simpa using hq [] s ⟨io,q0.refl C,hk,rfl⟩
 | e::r,g,ds,g',h,hp,io,s,he,hk,hq=>by
   simp only [List.all_cons,Bool.and_eq_true] at hp
   rw [t7 hp.1] at h
   refine ze2a (b8 h) fun d g1 h1 h=>?_
   refine ze2a (b8 h) fun ds' g2 h2 h=>?_
   injection h with h;injection h with e0q e1q;subst e0q;subst e1q
   have hne:∀ x p,e≠.Starred x p:=bp hp.1
   refine wpAny_items_cons (a9 (hev e g d g1 h1 A env Z io s ha he hk) fun v s1 ⟨io1,x1,k1,hh⟩=>?_) (f6 hne)
   refine ai6 hev ha r h2 hp.2 (x1.env hk he) k1 fun vs s2 ⟨io2,x2,k2,hh2⟩=>?_
   exact hq (v::vs) s2 ⟨io2,x1.trans C x2,k2,by exact ⟨v,vs,rfl,x2.has C hh,hh2⟩⟩
noncomputable def Sts (C:Cst) (A:Around) (env:Env):List (Value→Sem Unit)→List Str→Prop
 | [],[]=>True
 | st::r,z::ns=>(∀ (v:Value) (Q:Unit→Shared→Prop) (s:Shared),wpAny (model C.prog C.w) A (storeName env z v) Q noE s→wpAny (model C.prog C.w) A (st v) Q noE s)∧Sts C A env r ns
 | _,_=>False
theorem ao0:∀ {ts:List Expr} {ns:List Str},n9 ts = some ns→Sts C A env ((assignEach ts env).map (·.2)) ns
 | [],ns,h=>by (injection h with h;subst h);trivial
 | t::r,ns,h=>by
   refine ze3a2 (mj h) fun x p m e3q hm e5q=>?_;subst e3q;subst e5q
   exact ⟨fun v Q s h=>wpAny_assign_Name h,ao0 hm⟩
theorem je {rest:List (Value→Sem Unit)} {us:List Value} {Q:Unit→Shared→Prop}:∀ (sts:List (Value→Sem Unit)) (ns:List Str) (ds:List D) (fo:Fo) (ad:Str→Addr) (s:Shared) (vs:List Value),Sts C A env sts ns→(∀ z∈ns,c9 kd z = true)→ns.length = ds.length→Frm C K kd s0 io0 Z0 env ad O F fo io g s→f0 (VV C io (O++(F++Z0))) io s.heap ds vs →
   (∀ ad' s',Frm C K kd s0 io0 Z0 env ad' O F (j9 (ns.zip ds) fo) io g s'→(∀ b o,b∉F→s.heap.get? b = some o→s'.heap.get? b = some o)→(∀ y l,(j9 (ns.zip ds) fo).lookup y = some (.own l)→fo.lookup y = some (.own l)∧ad' y = ad y)→wpAny (model C.prog C.w) A (assignInOrder rest us) Q noE s') →
   wpAny (model C.prog C.w) A (assignInOrder (sts++rest) (vs++us)) Q noE s
 | [],ns,ds,fo,ad,s,vs,hst,hz,hl,x,hv,hq=>by
   induction ns using List.casesOn with
   | cons _ _=>exact hst.elim
   | nil =>
     induction ds using List.casesOn with
     | cons _ _=>simp at hl
     | nil=>subst hv;exact hq ad s x (fun J J J e=>e) (fun y l h=>⟨h,rfl⟩)
 | st::sts,ns,ds,fo,ad,s,vs,hst,hz,hl,x,hv,hq=>by
   induction ns using List.casesOn with
   | nil=>exact hst.elim
   | cons z ns =>
     induction ds using List.casesOn with
     | nil=>simp at hl
     | cons d ds =>
       refine ze2a2 hv fun v r e2q hd hr=>?_;clear hv;subst e2q
       show wpAny _ A (holding (r++us) (st v) >>= fun J=>assignInOrder (sts++rest) (r++us)) _ _ _
       refine wpAny_bind (wpAny_holding (hst.1 v _ _ (x.store (ev:=.val d) (a:=ad z) (hz z (.head _)) hd (fun l hl=>by injection hl) fun s1 x1 kp=>?_)))
       refine je sts ns ds _ _ s1 r hst.2 (fun y hy=>hz y (.tail _ hy)) (by simpa using hl) x1 (f0.mono (fun a o e hn=>⟨kp a o (fun hm=>hn ?_) e,hn⟩) (fun J J e=>e) hr) fun ad' s' x' kp' an9=>?_
       · unfold VV
         exact List.mem_append_right _ (List.mem_append_right _ (List.mem_append_left _ hm))
       · refine hq ad' s' x' (fun b o hb e=>kp' b o hb (kp b o hb e)) fun y l hy=>?_
         refine za (an9 y l hy) fun h1 h2=>?_
         rw [f4] at h1
         by_cases hyz:y = z
         · rw [if_pos hyz] at h1;(injection h1 with h1;injection h1)
         · rw [if_neg hyz] at h1 h2;exact ⟨h1,h2⟩
theorem np {mu:List Str}:∀ (ts es:List Expr) {rr:List Str × List Expr × Str × List Expr × List Str × List Expr},z4 mu ts es = some rr→∃ t1 pz t2 pl,ts = t1++.Name rr.2.2.1 pz::t2∧n9 t1 = some rr.1∧n9 t2 = some rr.2.2.2.2.1∧es = rr.2.1++.List rr.2.2.2.1 pl::rr.2.2.2.2.2∧rr.1.length = rr.2.1.length:=by
 intro ts
 induction ts with
 | nil=>intro es rr h;exact a8 h
 | cons t ts ih =>
   intro es rr h
   have hw:=al2 h
   clear h
   cases hw with
   | here x q ts es p r n2 hn=>exact ⟨[],q,ts,p,rfl,rfl,hn,rfl,rfl⟩
   | next x q ts e r rr h =>
     obtain ⟨t1,pz,t2,pl,rfl,h1,h2,rfl,h3⟩:=ih _ h
     refine ⟨.Name x q::t1,pz,t2,pl,rfl,?_,h2,rfl,congrArg (· + 1) h3⟩
     show (n9 t1).map (x::·) = _
     rw [h1];rfl
end
end Mine
namespace Mine
variable {C:Cst}
section
variable {K K':Kp} {kd:Kd} {s0:Shared} {io0:HI} {Z0 W:List Addr} {env:Env} {ad:Str→Addr} {O F:List Addr} {fo:Fo} {io io':HI} {g g1 g':Sg} {s s':Shared} {A:Around} {L n:Nat} {T:Tbl}
theorem ox {Z:List Addr} {ds:List D} {vs:List Value} {o:Obj} (h:f0 (VV C io Z) io s.heap ds vs):f0 (VV C io ([s.heap.objs.size]++Z)) io (s.heap.push o) ds vs :=
 f0.mono (fun a o e hn=>⟨Heap.get?_push_of_some _ e,fun hm=>by
   rcases fj hm with h | h
   · exact hn h
   · simp only [List.mem_singleton] at h;subst h
     rw [d9] at e;injection e⟩) (fun J J e=>e) h
theorem ab {r:List Expr}:∀ {t:List Expr} {ns:List Str},n9 t = some ns→assignEach (t++r) env = assignEach t env++assignEach r env
 | [],ns,h=>rfl
 | t::r',ns,h=>by
   refine ze3a2 (mj h) fun x p m e3q hm e5q=>?_;subst e3q;subst e5q
   show (false,_)::assignEach (_++r) env = (false,_)::(assignEach _ env++assignEach r env)
   rw [ab hm]
theorem cy:∀ {t:List Expr} {ns:List Str},n9 t = some ns→(assignEach t env).length = ns.length∧∀ p∈assignEach t env,p.1 = false
 | [],ns,h=>by (injection h with h;subst h);exact ⟨rfl,fun p hp=>by cases hp⟩
 | t::r',ns,h=>by
   refine ze3a2 (mj h) fun x p m e3q hm e5q=>?_;subst e3q;subst e5q
   refine za (cy hm) fun h1 h2=>?_
   refine ⟨by show (assignEach _ env).length + 1 = _;rw [h1];rfl,fun q hq=>?_⟩
   rcases List.mem_cons.mp hq with rfl | hq
   · rfl
   · exact h2 q hq
theorem iy {ev:Expr→Sg→Option (D × Sg)}:∀ (es:List Expr) {g ds g'},evs ev es g = some (ds,g')→es.all f5 = true→ds.length = es.length
 | [],g,ds,g',h,_=>by injection (show some (([]:List D),g) = some (ds,g') from h) with h;injection h with h;subst h;rfl
 | e::r,g,ds,g',h,hp=>by
   simp only [List.all_cons,Bool.and_eq_true] at hp
   rw [t7 hp.1] at h
   refine ze2a (b8 h) fun d g1 h1 h=>?_
   refine ze2a (b8 h) fun ds' g2 h2 h=>?_
   apply i2 h
   simp [iy r h2 hp.2]
theorem bd4 {mu:List Str} (ok:bd C L n T) (ha:AOk A L) (x:Frm C K kd s0 io0 Z0 env ad O F fo io g s) {ts es:List Expr} {k k2:Nat} {p p2 sp:Pos} {n1 n2:List Str} {e1 e0 e2:List Expr} {z:Str} {d1 d0 d2:List D} {g1 g2 g3:Sg}
   (hsp:z4 mu ts es = some (n1,e1,z,e0,n2,e2)) (hw:swappedStores [.Tuple ts k p] (.Tuple es k2 p2) env = pure none) (hz:c9 kd z = true) (hn1:n1.all (c9 kd) = true) (hn2:n2.all (c9 kd) = true) (hpl:es.all f5 = true) (hl2:n2.length = e2.length) (hel:es.length < 20) (hlim:d0.length≤lim)
   (h1:evs (pev T n kd (d6 fo)) e1 g = some (d1,g1)) (h0:evs (pev T n kd (d6 fo)) e0 g1 = some (d0,g2)) (h2:evs (pev T n kd (d6 fo)) e2 g2 = some (d2,g3)) :
   wpAny (model C.prog C.w) A (exec (.Assign [.Tuple ts k p] (.Tuple es k2 p2) sp) env) (aq C K kd s0 io0 Z0 env F (.next (j9 (n2.zip d2) (o9 z (.own d0) (j9 (n1.zip d1) fo))) g3)) noE s:=by
 obtain ⟨t1,pz,t2,pl,rfl,q1,q2,rfl,q3⟩:∃ t1 pz t2 pl,ts = t1++.Name z pz::t2∧n9 t1 = some n1∧n9 t2 = some n2∧es = e1++.List e0 pl::e2∧n1.length = e1.length:=np _ _ hsp
 have evS:=ok.ev kd (d6 fo)
 simp only [List.all_append,List.all_cons,Bool.and_eq_true] at hpl
 have l1:=iy _ h1 hpl.1
 have l2:=iy _ h2 hpl.2.2
 have hlm:lim = 1000000:=rfl
 refine PyProof.Rows.Assign_Tuple (PyProof.Rows.Tuple_ (ai6 evS ha e1 h1 hpl.1 x.envR x.sok fun vs1 s1 ⟨io1,y1,k1,hh1⟩=>?_)) rfl hw
 have x1:=x.step y1 k1
 refine wpAny_items_cons (PyProof.Rows.List_ (a9 (gm evS e0 h0 ha x1.envR x1.sok) fun vs0 s2 ⟨io2,y2,k2',hh0⟩=>?_)) (f6 fun J J=>nofun)
 have n0:=f0.length hh0
 refine wpAny_newObj_type ?_ (by show vs0.toArray.size≤sizeLine;rw [List.size_toArray];have:=cq;lia)
 have x2:=(x1.step y2 k2').addOwn vs0
 have hh1':=ox (o:={ cls:=.type "list",data:=.seq vs0.toArray }) (y2.hasL C hh1)
 have hh0':=ox (o:={ cls:=.type "list",data:=.seq vs0.toArray }) hh0
 have hp0:Heap.PlainList (s2.heap.push { cls:=.type "list",data:=.seq vs0.toArray }) s2.heap.objs.size vs0.toArray:=⟨_,Heap.get?_push_size _ rfl⟩
 have hafresh:∀ y l,fo.lookup y = some (.own l)→s2.heap.objs.size≠ad y:=fun y l hy he=>by
   refine zea3 ((x1.step y2 k2').vals y _ hy) fun v J J hO J=>?_
   refine ze2 ((x1.step y2 k2').olist _ hO) fun vs m e=>?_
   rw [← he,d9] at e;injection e
 refine a9 (gm evS e2 h2 ha x2.envR x2.sok) fun vs2 s3 ⟨io3,y3,k3,hh2⟩=>?_
 have x3:=x2.step y3 k3
 have hh1'':=y3.hasL C hh1'
 have hh0'':=y3.hasL C hh0'
 have azd:=x2.sok.zd s2.heap.objs.size (.head _)
 have hp3:s3.heap.PlainList s2.heap.objs.size vs0.toArray:=hp0.at fun o e=>y3.keep _ o e azd.1 azd.2.1
 have m1:=f0.length hh1
 have m2:=f0.length hh2
 simp only [List.length_append,List.length_cons] at hel
 refine wpAny_newObj_type ?_ (by
   show (vs1++Value.ref s2.heap.objs.size::vs2).toArray.size≤sizeLine
   have:sizeLine = 2 ^ 24:=sizeLine_eq
   simp only [List.size_toArray,List.length_append,List.length_cons]
   lia)
 have kp4:Keeps s3 { s3 with heap:=s3.heap.push { cls:=.type "tuple",data:=.seq (vs1++Value.ref s2.heap.objs.size::vs2).toArray } }:=Keeps.push (k:=s3.toks)
 refine wpAny_assign_Tuple (items:=(vs1++Value.ref s2.heap.objs.size::vs2).toArray) ha.hh ⟨_,Heap.get?_push_size _ rfl,rfl,_,rfl⟩ ?_ ?_ fun h' he=>?_
 · rw [ab q1]
   show (assignEach t1 env++(false,_)::assignEach t2 env).length = _
   have w1:=(cy (env:=env) q1).1
   have w2:=(cy (env:=env) q2).1
   simp only [List.length_append,List.length_cons,List.size_toArray]
   lia
 · rw [List.findIdx?_eq_none_iff,ab q1]
   intro q hq
   rcases List.mem_append.mp hq with h | h
   · exact (cy q1).2 q h
   · rcases List.mem_cons.mp h with rfl | h
     · rfl
     · exact (cy q2).2 q h
 · have kp5:Keeps s3 { s3 with heap:=h' }:=Keeps.trans kp4 ⟨h',s3.toks,rfl,fun b o e=>he b o (Nat.ne_of_lt (Heap.lt_size e)) e⟩
   have x5:=x3.step (Keeps.grow C kp5) (Keeps.sok C kp5 x3.sok)
   have a1:=z5 kp5 hh1''
   have a0:=z5 kp5 hh0''
   have a2:=z5 kp5 hh2
   have ap:Heap.PlainList h' s2.heap.objs.size vs0.toArray:=hp3.at fun o e=>by
     refine ze2a kp5 fun h6 tk6 e6 hk6=>?_;clear kp5
     injection e6 with e61 e62 e63 e64 e65;subst e61;clear e62;clear e63;subst e64;clear e65
     exact hk6 _ o e
   rw [ab q1]
   show wpAny _ A (assignInOrder ((assignEach t1 env++(false,assign (.Name z pz) env)::assignEach t2 env).map (·.2)) _) _ _ _
   rw [List.map_append,List.map_cons]
   show wpAny _ A (assignInOrder _ (vs1++Value.ref s2.heap.objs.size::vs2)) _ _ _
   have aF:s2.heap.objs.size∉F:=fun hm=>x2.disj _ (.head _) (List.mem_append_left _ hm)
   have inV:∀ {b:Addr} {io:HI},b∈F→b∈VV C io ((s2.heap.objs.size::O)++(F++Z0)):=fun hm=>by
     exact List.mem_append_right _ (List.mem_append_right _ (List.mem_append_left _ hm))
   refine je _ n1 d1 fo ad _ vs1 (ao0 q1) (fun y hy=>List.all_eq_true.mp hn1 y hy) (by lia) x5 a1 fun ad6 s6 x6 kp6 own6=>?_
   show wpAny _ A (holding vs2 (assign (.Name z pz) env (.ref s2.heap.objs.size)) >>= fun J=>assignInOrder ((assignEach t2 env).map (·.2)) vs2) _ _ _
   refine wpAny_bind (wpAny_holding (wpAny_assign_Name (x6.store (ev:=.own d0) (a:=s2.heap.objs.size) hz ⟨rfl,.head _,hlim,vs0.toArray,ap.at fun o e=>kp6 _ o aF e,f0.mono (fun a o e hn=>⟨kp6 a o (fun hm=>hn (inV hm)) e,hn⟩) (fun J J e=>e) a0⟩ (fun l hl y l' hyz hy=>by
     refine za (own6 y l' hy) fun b1 b2=>?_
     rw [b2]
     exact hafresh y l' b1) fun s7 x7 kp7=>?_)))
   have a2':f0 (VV C io3 ((s2.heap.objs.size::O)++(F++Z0))) io3 s7.heap d2 vs2:=f0.mono (fun a o e hn=>⟨kp7 a o (fun hm=>hn (inV hm)) (kp6 a o (fun hm=>hn (inV hm)) e),hn⟩) (fun J J e=>e) a2
   have:=je (rest:=[]) (us:=[]) (Q:=fun J s'=>aq C K kd s0 io0 Z0 env F (.next (j9 (n2.zip d2) (o9 z (.own d0) (j9 (n1.zip d1) fo))) g3) .next s') _ n2 d2 _ _ s7 vs2 (ao0 (C:=C) (A:=A) (env:=env) q2) (fun y hy=>List.all_eq_true.mp hn2 y hy) (by lia) x7 a2' fun ad8 s8 x8 J J=>wpAny_pure ⟨rfl,ad8,_,io3,x8⟩
   simpa using this
theorem af0:∀ (ns:List Str),Sts C A env (ns.map fun n=>bindName env n) ns
 | []=>trivial
 | z::ns=>⟨fun v Q s h=>PyProof.Rows.bindName_ h,af0 ns⟩
theorem an4 {mu:List Str} (ok:bd C L n T) (ha:AOk A L) (x:Frm C K kd s0 io0 Z0 env ad O F fo io g s) {ts es:List Expr} {k k2:Nat} {p p2 sp:Pos} {n2:List Str} {e0 e2:List Expr} {z:Str} {d0 d2:List D} {g2 g3:Sg}
   (hsp:z4 mu ts es = some ([],[],z,e0,n2,e2)) (hw:swappedStores [.Tuple ts k p] (.Tuple es k2 p2) env = pure (some (z::n2))) (hc:∀ y∈z::n2,c9 kd y = true) (hpl:es.all f5 = true) (hl2:n2.length = e2.length) (hel:es.length < 20) (hlim:d0.length≤lim)
   (h0:evs (pev T n kd (d6 fo)) e0 g = some (d0,g2)) (h2:evs (pev T n kd (d6 fo)) e2 g2 = some (d2,g3)) :
   wpAny (model C.prog C.w) A (exec (.Assign [.Tuple ts k p] (.Tuple es k2 p2) sp) env) (aq C K kd s0 io0 Z0 env F (.next (o9 z (.own d0) (j9 (n2.reverse.zip d2.reverse) fo)) g3)) noE s:=by
 obtain ⟨t1,pz,t2,pl,_,_,_,e,_⟩:∃ t1 pz t2 pl,ts = t1++.Name z pz::t2∧n9 t1 = some []∧n9 t2 = some n2∧es = []++.List e0 pl::e2∧([]:List Str).length = ([]:List Expr).length:=np _ _ hsp
 replace e:es = .List e0 pl::e2:=e
 subst e
 have evS:=ok.ev kd (d6 fo)
 rw [List.all_cons,Bool.and_eq_true] at hpl
 have l2:=iy _ h2 hpl.2
 have hlm:lim = 1000000:=rfl
 refine PyProof.Rows.Assign_Tuple_swapped (PyProof.Rows.Tuple_ (wpAny_items_cons (PyProof.Rows.List_ (a9 (gm evS e0 h0 ha x.envR x.sok) fun vs0 s2 h=>?_)) (f6 fun J J=>nofun))) rfl hw
 obtain ⟨io2,y2,k2',hh0⟩:=h
 have n0:=f0.length hh0
 refine wpAny_newObj_type ?_ (by show vs0.toArray.size≤sizeLine;rw [List.size_toArray];have:=cq;lia)
 have x2:=(x.step y2 k2').addOwn vs0
 have hh0':=ox (o:={ cls:=.type "list",data:=.seq vs0.toArray }) hh0
 have hp0:Heap.PlainList (s2.heap.push { cls:=.type "list",data:=.seq vs0.toArray }) s2.heap.objs.size vs0.toArray:=⟨_,Heap.get?_push_size _ rfl⟩
 have hafresh:∀ y l,fo.lookup y = some (.own l)→s2.heap.objs.size≠ad y:=fun y l hy he=>by
   refine zea3 ((x.step y2 k2').vals y _ hy) fun v J J hO J=>?_
   refine ze2 ((x.step y2 k2').olist _ hO) fun vs m e=>?_
   rw [← he,d9] at e;exact a8 e
 refine a9 (gm evS e2 h2 ha x2.envR x2.sok) fun vs2 s3 h=>?_
 obtain ⟨io3,y3,k3,hh2⟩:=h
 have x3:=x2.step y3 k3
 have hh0'':=y3.hasL C hh0'
 have azd:=x2.sok.zd s2.heap.objs.size (.head _)
 have hp3:s3.heap.PlainList s2.heap.objs.size vs0.toArray:=hp0.at fun o e=>y3.keep _ o e azd.1 azd.2.1
 have m2:=f0.length hh2
 rw [List.length_cons] at hel
 refine wpAny_newObj_type ?_ (by
   show (Value.ref s2.heap.objs.size::vs2).toArray.size≤sizeLine
   have:sizeLine = 2 ^ 24:=sizeLine_eq
   rw [List.size_toArray,List.length_cons]
   lia)
 have kp4:Keeps s3 { s3 with heap:=s3.heap.push { cls:=.type "tuple",data:=.seq (Value.ref s2.heap.objs.size::vs2).toArray } }:=Keeps.push (k:=s3.toks)
 have hlen:(z::n2).length = (Value.ref s2.heap.objs.size::vs2).toArray.size:=by
   rw [List.size_toArray,List.length_cons,List.length_cons];lia
 rw [hlen]
 refine wpAny_unpackItems_tuple (items:=(Value.ref s2.heap.objs.size::vs2).toArray) ha.hh ⟨_,Heap.get?_push_size _ rfl,rfl,_,rfl⟩ fun h' he=>?_
 have kp5:Keeps s3 { s3 with heap:=h' }:=Keeps.trans kp4 ⟨h',s3.toks,rfl,fun b o e=>he b o (Nat.ne_of_lt (Heap.lt_size e)) e⟩
 have x5:=x3.step (Keeps.grow C kp5) (Keeps.sok C kp5 x3.sok)
 have a0:=z5 kp5 hh0''
 have a2:=(z5 kp5 hh2).rev
 have ap:Heap.PlainList h' s2.heap.objs.size vs0.toArray:=hp3.at fun o e=>by
   refine ze2a kp5 fun h6 tk6 e6 hk6=>?_
   injection e6 with e61 e62 e63 e64 e65;subst e61
   exact hk6 _ o e
 have aF:s2.heap.objs.size∉F:=fun hm=>x2.disj _ (.head _) (List.mem_append_left _ hm)
 have inV:∀ {b:Addr} {io:HI},b∈F→b∈VV C io ((s2.heap.objs.size::O)++(F++Z0)):=fun hm=>List.mem_append_right _ (List.mem_append_right _ (List.mem_append_left _ hm))
 show wpAny _ A (assignInOrder (((z::n2).reverse).map fun n=>bindName env n) (Value.ref s2.heap.objs.size::vs2).reverse) _ _ _
 rw [List.reverse_cons,List.reverse_cons,List.map_append]
 refine je _ n2.reverse d2.reverse fo ad _ vs2.reverse (af0 _) (fun y hy=>hc y (.tail _ (List.mem_reverse.mp hy))) (by rw [List.length_reverse,List.length_reverse];lia) x5 a2 fun ad6 s6 x6 kp6 own6=>?_
 show wpAny _ A (holding [] (bindName env z (.ref s2.heap.objs.size)) >>= fun J=>assignInOrder [] []) _ _ _
 refine wpAny_bind (wpAny_holding (PyProof.Rows.bindName_ (x6.store (ev:=.own d0) (a:=s2.heap.objs.size) (hc z (.head _)) ⟨rfl,.head _,hlim,vs0.toArray,ap.at fun o e=>kp6 _ o aF e,f0.mono (fun a o e hn=>⟨kp6 a o (fun hm=>hn (inV hm)) e,hn⟩) (fun J J e=>e) a0⟩ (fun l hl y l' hyz hy=>by
   refine za (own6 y l' hy) fun b1 b2=>?_
   rw [b2]
   exact hafresh y l' b1) fun s7 x7 kp7=>wpAny_pure ⟨rfl,_,_,_,x7⟩)))
end
end Mine
namespace Mine
variable {C:Cst}
noncomputable def zt (C:Cst) (L:Nat) (kd:Kd) (st:Stmt) (fo:Fo) (g:Sg) (fl:Fl):Prop :=
 ∀ A K s0 io0 Z0 env ad O F io s,AOk A L→Frm C K kd s0 io0 Z0 env ad O F fo io g s→wpAny (model C.prog C.w) A (exec st env) (aq C K kd s0 io0 Z0 env F fl) noE s
noncomputable def oq (C:Cst) (L:Nat) (kd:Kd) (st:List Stmt) (fo:Fo) (g:Sg) (fl:Fl):Prop :=
 ∀ A K s0 io0 Z0 env ad O F io s,AOk A L→Frm C K kd s0 io0 Z0 env ad O F fo io g s→wpAny (model C.prog C.w) A (execs st env) (aq C K kd s0 io0 Z0 env F fl) noE s
theorem ab7 {ts:List Expr} {k:Nat} {p:Pos} {e:Expr} {env:Env} (h:isTuple e = false):swappedStores [.Tuple ts k p] e env = pure none:=by
 induction e using Expr.casesOn<;>first | rfl | injection h
section
variable {K K':Kp} {kd:Kd} {s0:Shared} {io0:HI} {Z0 W:List Addr} {env:Env} {ad:Str→Addr} {O F:List Addr} {fo:Fo} {io io':HI} {g g1 g':Sg} {s s':Shared} {A:Around} {L n:Nat} {T:Tbl}
theorem eg (x:Frm C K kd s0 io0 Z0 env ad O F fo io g s) {z:Str} {l:List D} {d:D} {e:Expr} {pz q p sp:Pos} (hz:fo.lookup z = some (.own l)) (hdb:(z==("__debug__":Str)) = false) (hline:(q.endLine==p.line) = true) (hpl:f5 e = true) (hll:l.length < lim)
   {Q:Flow→Shared→Prop}
   (he:∀ a,m4 kd env s.heap z (.ref a)→wpAny (model C.prog C.w) A (eval e env) (fun v s1=>∃ io1 g1,q0 C io io1 s s1∧Sok C (O++(F++Z0)) io1 g1 s1∧Has (VV C io1 (O++(F++Z0))) io1 s1.heap d v ∧
     ∀ s2,Frm C K kd s0 io0 Z0 env ad O F (o9 z (.own (l++[d])) fo) io1 g1 s2→(∀ b o,b≠ad z→s1.heap.get? b = some o→s2.heap.get? b = some o)→Q .next s2) noE s) :
   wpAny (model C.prog C.w) A (exec (.Expr (.Call (.Attribute (.Name z pz) "append" q) [e] [] p) sp) env) Q noE s:=by
 refine zea4ea (x.vals z _ hz) fun vz hvz e2q hzO hzl ws hp hws=>?_;subst e2q
 have htrees:backTo p (starEach [e] env) = [(false,eval e env)]:=by
   rw [f6 (bp hpl)];rfl
 refine wpAny_Expr (wpAny_Call_append (y5 rfl env _) (by rw [htrees];rfl) hline htrees (o5 x hvz hdb ⟨_,ws,rfl,?_,a9 (he _ hvz) fun v s1 ⟨io1,g1,y,k,hv,hq⟩=>?_⟩)) ?_ rfl
 · refine ze hp fun n e=>?_;clear hp
   exact ⟨_,n,e,rfl,rfl,rfl⟩
 · have x1:=x.step y k
   refine zea4ea (x1.vals z _ hz) fun vz1 hvz1 he1 hzO1 hzl1 ws1 hp1 hws1=>?_
   have hn:=f0.length hws1
   simp only [Array.length_toList] at hn
   refine wpAny_list_append_plain hp1 (fun h2 hp2 hsb=>?_) (by have:=cq;lia)
   have t2:aw [ad z] s1 { s1 with heap:=h2 }:=aw.same_but (tk:=s1.toks) hsb (let ⟨n,e⟩:=hp2;⟨_,e⟩)
   refine hq _ (x1.setOwn (l':=l++[d]) hz t2 hp2 (by rw [List.length_append];exact hll) (by
     rw [Array.toList_push]
     exact f0.append hws1 (by exact ⟨v,[],rfl,hv,rfl⟩))) fun b o hb e=>t2.keep b o e (by simpa using hb)
 · unfold interactive;rw [x.fn];rfl
theorem bu1 {e e1:Expr} {z:Str} {l:List D} (h:bs6 fo e = some (z,l,e1)):∃ pz q p,e = .Call (.Attribute (.Name z pz) "append" q) [e1] [] p∧fo.lookup z = some (.own l)∧(z==("__debug__":Str)) = false∧(q.endLine==p.line) = true∧f5 e1 = true∧l.length < lim:=by
 induction e using Expr.casesOn with
 | Call f as kw p =>
   induction f using Expr.casesOn with
   | Attribute o m q =>
     induction o using Expr.casesOn with
     | Name y pz =>
       rcases as with _ | ⟨b,_ | ⟨c,r⟩⟩
       · exact a8 h
       · induction kw using List.casesOn with
         | nil =>
           replace h:(match fo.lookup y with | some (.own l)=>if (m==("append":Str)&&y != ("__debug__":Str)&&q.endLine==p.line&&f5 b&&decide (l.length < lim)) = true then some (y,l,b) else none | _=>none) = some (z,l,e1):=h
           induction hl:fo.lookup y using Option.casesOn with
           | none=>rw [hl] at h;exact a8 h
           | some ev =>
             rw [hl] at h
             induction ev using EV.casesOn with
             | val d=>exact a8 h
             | own l2 =>
               refine za (j0 (c:=(m==("append":Str)&&y != ("__debug__":Str)&&q.endLine==p.line&&f5 b&&decide (l2.length < lim)) = true) h) fun hc h=>?_
               rw [Bool.and_eq_true,Bool.and_eq_true,Bool.and_eq_true,Bool.and_eq_true,decide_eq_true_eq] at hc
               injection h with h;injection h with e1' h;injection h with e2 e3
               have em:=eq_of_beq hc.1.1.1.1
               subst e1';subst e2;subst e3;subst em
               exact ⟨pz,q,p,rfl,hl,by simpa using hc.1.1.1.2,hc.1.1.2,hc.1.2,hc.2⟩
         | cons k r=>exact a8 h
       · exact a8 h
     | _=>exact a8 h
   | _=>exact a8 h
 | _=>exact a8 h
theorem ao8 (ok:bd C L n T) (ha:AOk A L) (x:Frm C K kd s0 io0 Z0 env ad O F fo io g s) {e:Expr} {p:Pos} {fl:Fl} (h:bh9 (pev T n kd (d6 fo)) fo e g = some fl) :
   wpAny (model C.prog C.w) A (exec (.Expr e p) env) (aq C K kd s0 io0 Z0 env F fl) noE s:=by
 unfold bh9 at h
 induction hw:bs6 fo e using Option.casesOn with
 | some q =>
   obtain ⟨z,l,e1⟩:=q
   rw [hw] at h
   refine ze3a (bu1 hw) fun pz q p' e2 h3=>za4 h3 fun h4 h5 h6 h7 h8=>?_
   subst e2
   replace h:(match pev T n kd (d6 fo) e1 g with | some (d,g)=>some (Fl.next (o9 z (.own (l++[d])) fo) g) | none=>none) = some fl:=h
   induction he:pev T n kd (d6 fo) e1 g using Option.casesOn with
   | none=>rw [he] at h;exact a8 h
   | some r =>
     obtain ⟨d,g2⟩:=r
     rw [he] at h
     injection h with h;subst h
     refine eg (d:=d) x h4 h5 h6 h7 h8 fun a _=>?_
     refine a9 (ok.ev kd _ _ _ _ _ he A env _ io s ha x.envR x.sok) fun v s1 hp=>?_
     obtain ⟨io1,x1,k1,hh⟩:=hp
     exact ⟨io1,g2,x1,k1,hh,fun s2 x2 _=>⟨rfl,ad,O,io1,x2⟩⟩
 | none =>
   rw [hw] at h
   refine za (j0 (c:=ax5 e = true) h) fun hc h'=>?_
   replace h':(match pev T n kd (d6 fo) e g with | some (.none,g)=>some (Fl.next fo g) | _=>none) = some fl:=h'
   induction he:pev T n kd (d6 fo) e g using Option.casesOn with
   | none=>rw [he] at h';exact a8 h'
   | some r =>
     obtain ⟨d,g2⟩:=r
     rw [he] at h'
     induction d using D.casesOn with
     | none =>
       injection h' with h';subst h'
       refine wpAny_Expr (a9 (ok.ev kd _ _ _ _ _ he A env _ io s ha x.envR x.sok) fun v s1 hp=>?_) (by unfold interactive;rw [x.fn];rfl) (by induction e using Expr.casesOn<;>first | rfl | injection hc)
       obtain ⟨io1,x1,k1,hh⟩:=hp
       rw [show v = .none from hh]
       exact ⟨rfl,ad,O,io1,x.step x1 k1⟩
     | _=>exact a8 h'
theorem az3 (tb:dh C L T) {S:ae} (hS:T.mt "__delitem__" = some S) (ok:bd C L n T) (ha:AOk A L) (x:Frm C K kd s0 io0 Z0 env ad O F fo io g s) {o i:Expr} {p sp:Pos} {j r:D} {k:Nat} {g2 g3:Sg}
   (ho:pev T n kd (d6 fo) o g = some (.hdr k,g1)) (hi:pev T n kd (d6 fo) i g1 = some (j,g2)) (hs:S [.hdr k,j] g2 = some (r,g3)) :
   wpAny (model C.prog C.w) A (exec (.Delete [.Subscript o i p] sp) env) (aq C K kd s0 io0 Z0 env F (.next fo g3)) noE s:=by
 refine wpAny_Delete (wpAny_deleteEach_cons (PyProof.Rows.delete_Subscript ?_))
 refine a9 (ok.ev kd _ _ _ _ _ ho A env _ io s ha x.envR x.sok) fun ov s2 hp=>?_
 obtain ⟨io2,y2,k2,hov⟩:=hp
 have x2:=x.step y2 k2
 refine a9 (ok.ev kd _ _ _ _ _ hi A env _ io2 s2 ha x2.envR x2.sok) fun iv s3 hp=>?_
 obtain ⟨io3,y3,k3,hiv⟩:=hp
 have x3:=x2.step y3 k3
 have hov3:=y3.has C hov
 refine ze3a3 (tb.mt _ _ hS) fun a oo fd jy hfd hcall hm=>?_
 have ho':=hov3
 refine zea ho' fun t ht e2q=>?_;clear ho';subst e2q
 refine ze (so k3 ht) fun ps hps=>?_
 have HH:=k3.st.at' _ t ps ht hps
 refine hm.del rfl A noE s3 t.1 t.2.1 t.2.2 k3.base ⟨HH.inst,HH.dict⟩ iv _ ?_
 refine a9 (hcall _ _ _ _ hs A _ io3 s3 [.ref t.1,iv] ha.c k3 (by exact ⟨_,_,rfl,hov3,_,_,rfl,hiv,rfl⟩)) fun r' s4 hp=>?_
 obtain ⟨io4,y4,k4,_⟩:=hp
 exact wpAny_deleteEach_nil ⟨rfl,ad,O,io4,x3.step y4 k4⟩
end
section
variable {L:Nat} {T:Tbl} {mu:List Str}
theorem bq5 {n:Nat} (rt:g9 C) (tb:dh C L T) (ok:∀ k,k≤n→bd C L k T) (ihs:∀ kd st fo g fl,f7 T mu n kd st fo g = some fl→oq C L kd st fo g fl) (kd:Kd) (st:Stmt) (fo:Fo) (g:Sg) (fl:Fl)
   (h:be T mu (n + 1) kd st fo g = some fl):zt C L kd st fo g fl:=by
 intro A K s0 io0 Z0 env ad O F io s ha x
 have okn:=ok n (Nat.le_refl _)
 have hv:=cn1 h
 clear h
 induction hv using oa.casesOn with
 | name y q e p d g1 h0 he hf=>subst hf;exact ac0 ok ha x h0 he
 | own ts k1 q es k p p' n1 e1 z e0 n2 e2 d1 g1 d0 g2 d2 g3 hsw hsp hc h1 h0 h2 hl hf =>
   subst hf
   simp only [Bool.and_eq_true,beq_iff_eq,decide_eq_true_eq] at hc
   exact bd4 okn ha x hsp (oi x.kdo x.bk hsw) hc.1.1.1.1.1 hc.1.1.1.1.2 hc.1.1.1.2 hc.1.1.2 hc.1.2 hc.2 hl h1 h0 h2
 | own2 ts k1 q es k p p' z e0 n2 e2 d0 g2 d2 g3 hsw hsp hnd hc hp hl2 hel h0 h2 hl hf =>
   subst hf
   exact an4 okn ha x hsp (oi x.kdo x.bk hsw) hc hp hl2 hel hl h0 h2
 | tup ts k1 q es k p p' ds g1 fo2 hsw he hp hf=>subst hf;exact tc okn ha x rfl he hp (oi x.kdo x.bk hsw)
 | swap ts k1 q es k p p' names ds g1 hsw he hc hf =>
   subst hf
   simp only [Bool.and_eq_true,beq_iff_eq,decide_eq_true_eq] at hc
   exact ax6 okn ha x he (oi x.kdo x.bk hsw) hc.1.1.2 (fun z hz=>List.all_eq_true.mp hc.1.2 z hz) hc.2
 | tup2 ts k1 q e p' ds g1 fo2 hne d hd he hp hf=>subst hf;exact tc okn ha x hd he hp (ab7 hne)
 | expr e p h=>exact ao8 okn ha x h
 | del o i q p k g1 j g2 S r g3 ho hi hS hs hf=>subst hf;exact az3 tb hS okn ha x ho hi hs
 | item o i q e p d g1 k g2 j g3 S r g4 he ho hi hS hs hf=>subst hf;exact bd7 tb hS okn ha x he ho hi hs
 | ret e p d g1 he hf=>subst hf;exact ab6 okn ha x he
 | ifs t a b p c g1 he h =>
   refine bp2 okn ha x he fun io1 s1 x1=>?_
   induction c using Bool.casesOn with
   | true=>exact ihs _ _ _ _ _ h A K s0 io0 Z0 env ad O F io1 s1 ha x1
   | false=>exact ihs _ _ _ _ _ h A K s0 io0 Z0 env ad O F io1 s1 ha x1
 | fors t it body p ds g1 he h =>
   have hs:=br5 rt okn he
   exact ay1 hs.2 (fun K Z0 fo g fl hb ad O io s x=>ihs _ _ _ _ _ hb A K s0 io0 Z0 env ad O F io s ha x) x (hs.1 A env _ io s ha x.envR x.sok) (fun b hb=>by
     rcases List.mem_append.mp hb with hb | hb
     · exact List.mem_append_left _ hb
     · exact List.mem_append_right _ (List.mem_append_left _ hb)) ha h
 | whiles t body p h =>
   exact bb3 (fun fo g c g' ht ad O io s x=>a9 (okn.tr kd _ _ _ _ _ ht A env _ io s ha x.envR x.sok) fun c' s1 ⟨hc,io1,y,k⟩=>⟨hc,ad,O,io1,x.step y k⟩)
     (fun fo g=>f7 T mu n kd _ fo g) (fun fo g fl hb ad O io s x=>ihs _ _ _ _ _ hb A K s0 io0 Z0 env ad O F io s ha x) h x
theorem ba1 {n:Nat} (ihst:∀ kd st fo g fl,be T mu n kd st fo g = some fl→zt C L kd st fo g fl) (ihs:∀ kd st fo g fl,f7 T mu n kd st fo g = some fl→oq C L kd st fo g fl) (kd:Kd) (sts:List Stmt) (fo:Fo) (g:Sg) (fl:Fl)
   (h:f7 T mu (n + 1) kd sts fo g = some fl):oq C L kd sts fo g fl:=by
 intro A K s0 io0 Z0 env ad O F io s ha x
 induction sts using List.casesOn with
 | nil =>
   injection h with h;subst h
   exact wpAny_execs_nil ⟨rfl,ad,O,io,x⟩
 | cons st r =>
   induction h1:be T mu n kd st fo g using Option.casesOn with
   | none =>
     have h:(match be T mu n kd st fo g with | some (.next fo g)=>f7 T mu n kd r fo g | x=>x) = some fl:=h
     rw [h1] at h;exact a8 h
   | some f =>
     have h:(match be T mu n kd st fo g with | some (.next fo g)=>f7 T mu n kd r fo g | x=>x) = some fl:=h
     rw [h1] at h
     induction f using Fl.casesOn with
     | next fo1 g1 =>
       refine wpAny_execs_cons (a9 (ihst _ _ _ _ _ h1 A K s0 io0 Z0 env ad O F io s ha x) ?_)
       rintro f s1 ⟨rfl,ad1,O1,io1,x1⟩
       exact ihs _ _ _ _ _ h A K s0 io0 Z0 env ad1 O1 F io1 s1 ha x1
     | ret d g1 =>
       injection h with h;subst h
       refine wpAny_execs_cons (a9 (ihst _ _ _ _ _ h1 A K s0 io0 Z0 env ad O F io s ha x) ?_)
       rintro f s1 ⟨v,rfl,h2⟩
       exact ⟨v,rfl,h2⟩
theorem as7 {N:Nat} (rt:g9 C) (tb:dh C L T) (ok:∀ k,k≤N→bd C L k T):∀ n,n≤N→(∀ kd st fo g fl,be T mu n kd st fo g = some fl→zt C L kd st fo g fl)∧(∀ kd st fo g fl,f7 T mu n kd st fo g = some fl→oq C L kd st fo g fl)
 | 0,_=>⟨fun kd st fo g fl h=>a8 h,fun kd st fo g fl h=>a8 h⟩
 | n + 1,hn=>by
   have ih:=as7 rt tb ok n (by lia)
   exact ⟨bq5 rt tb (fun k hk=>ok k (by lia)) ih.2,ba1 ih.1 ih.2⟩
end
end Mine
namespace Mine
variable {C:Cst}
theorem ym {k:Str→Option NameKind} {x:Str}:∀ (b:List (Str × Value)) (m:Str→Option Value),x∉b.map (·.1)→bindL k b m x = m x
 | [],m,_=>rfl
 | (n,v)::r,m,h=>by
   simp only [List.map_cons,List.mem_cons,not_or] at h
   unfold bindL
   rw [ym r _ h.2]
   split
   · exact if_neg h.1
   · rfl
theorem vg {k:Str→Option NameKind} {x:Str} {v:Value} (hk:k x = some .local):∀ (b:List (Str × Value)) (m:Str→Option Value),(b.map (·.1)).Nodup→b.lookup x = some v→bindL k b m x = some v
 | [],m,_,h=>by injection h
 | (n,w)::r,m,hn,h=>by
   simp only [List.map_cons,List.nodup_cons] at hn
   unfold bindL
   by_cases hx:x = n
   · subst hx
     simp only [List.lookup,beq_self_eq_true,Option.some.injEq] at h
     subst h
     rw [ym r _ hn.1,if_pos hk,if_pos rfl]
   · have hb:(x==n) = false:=by simpa using hx
     simp only [List.lookup,hb] at h
     exact vg hk r _ hn.2 h
theorem wx {k:Str→Option NameKind} {x:Str}:∀ (b:List (Str × Value)) (m:Str→Option Value),x∉b.map (·.1)→bindC k b m x = m x
 | [],m,_=>rfl
 | (n,v)::r,m,h=>by
   simp only [List.map_cons,List.mem_cons,not_or] at h
   unfold bindC
   rw [wx r _ h.2]
   split
   · rfl
   · exact if_neg h.1
theorem uf {k:Str→Option NameKind} {x:Str} {v:Value} (hk:k x≠some .local):∀ (b:List (Str × Value)) (m:Str→Option Value),(b.map (·.1)).Nodup→b.lookup x = some v→bindC k b m x = some v
 | [],m,_,h=>by injection h
 | (n,w)::r,m,hn,h=>by
   simp only [List.map_cons,List.nodup_cons] at hn
   unfold bindC
   by_cases hx:x = n
   · subst hx
     simp only [List.lookup,beq_self_eq_true,Option.some.injEq] at h
     subst h
     rw [wx r _ hn.1,if_neg hk,if_pos rfl]
   · have hb:(x==n) = false:=by simpa using hx
     simp only [List.lookup,hb] at h
     exact uf hk r _ hn.2 h
theorem v8 {x:Str}:∀ (names:List (Str × NameKind)) (n:Nat) (acc:List (Str × Addr)),((x,NameKind.cell)∈names∨(acc.lookup x).isSome = true)→((cellsFrom n names acc).lookup x).isSome = true
 | [],n,acc,h=>by
   rcases h with h | h
   · cases h
   · exact h
 | (y,k)::r,n,acc,h=>by
   unfold cellsFrom
   by_cases hk:(k==NameKind.cell) = true
   · rw [if_pos hk]
     refine v8 r _ _ ?_
     by_cases hx:(x==y) = true
     · exact .inr (by simp [List.lookup,hx])
     · have hx':(x==y) = false:=by simpa using hx
       rcases h with h | h
       · rcases List.mem_cons.mp h with h | h
         · (injection h with h1 h2;subst h1;subst h2);simp at hx
         · exact .inl h
       · exact .inr (by simpa [List.lookup,hx'] using h)
   · rw [if_neg hk]
     refine v8 r _ _ ?_
     rcases h with h | h
     · rcases List.mem_cons.mp h with h | h
       · (injection h with h1 h2;subst h1;subst h2);simp at hk
       · exact .inl h
     · exact .inr h
structure oy (C:Cst) (a:Addr) (fd:FuncData) (body:List Stmt):Prop where
 get:∃ o,C.H.get? a = some o∧o.data = .func fd
 body:fd.body = .stmts body
 clo:fd.closure = []
 gl:fd.globals = mainGlobals
 bi:fd.builtins = builtinsNs
 cd:C.H.CodeRec fd.code fd.qualname
 kind:fd.scope.kind = .function
 co:fd.scope.isCoroutine = false
 gen:fd.scope.isGenerator = false
 nofree:∀ p∈fd.scope.names,p.2≠.free
 spl:fd.scope.names.lookup ("_split_list":Str) = some .globalImplicit→∃ c P,(c,P,fd.qualname++".<locals>.")∈C.spc∧fd.code = .ref c
noncomputable def m0 (l:List (Str × D)):Fo:=l.map fun p=>(p.1,.val p.2)
theorem jw:∀ (l:List (Str × D)),(m0 l).map (·.1) = l.map (·.1)
 | []=>rfl
 | p::r=>by show p.1::(m0 r).map (·.1) = _;rw [jw r];rfl
theorem ax {y:Str} {ev:EV}:∀ {l:List (Str × D)},(m0 l).lookup y = some ev→∃ d,ev = .val d∧l.lookup y = some d
 | [],h=>by injection h
 | (z,d)::r,h=>by
   show ∃ _,_
   by_cases hb:(y==z) = true
   · simp only [m0,List.map_cons,List.lookup,hb,Option.some.injEq] at h
     exact ⟨d,h.symm,by simp [List.lookup,hb]⟩
   · have hb':(y==z) = false:=by simpa using hb
     simp only [m0,List.map_cons,List.lookup,hb'] at h
     refine zea (ax (l:=r) h) fun d' h1 h2=>?_
     exact ⟨d',h1,by simpa [List.lookup,hb'] using h2⟩
theorem ta {V:List Addr} {io:HI} {h:Heap} {y:Str} {d:D}:∀ {l:List (Str × D)} {us:List Value},f0 V io h (l.map (·.2)) us→l.lookup y = some d→∃ v,((l.map (·.1)).zip us).lookup y = some v∧Has V io h d v
 | [],us,_,h=>by injection h
 | (z,e)::r,us,hu,hl=>by
   refine ze2a2 hu fun v vs e2q h1 h2=>?_;clear hu;subst e2q
   by_cases hb:(y==z) = true
   · simp only [List.lookup,hb,Option.some.injEq] at hl
     subst hl
     exact ⟨v,by simp [List.zip,List.lookup,hb],h1⟩
   · have hb':(y==z) = false:=by simpa using hb
     simp only [List.lookup,hb'] at hl
     refine zea (ta h2 hl) fun w q1 q2=>?_
     exact ⟨w,by simpa [List.zip,List.lookup,hb'] using q1,q2⟩
noncomputable def nu (C:Cst) (fd:FuncData) (bnd:List D→Option (List (Str × D))):Prop :=
 ∀ ds l,bnd ds = some l→∀ A Z io g s vs,Sok C Z io g s→f0 (VV C io Z) io s.heap ds vs →
   wpAny (model C.prog C.w) A (bindArgs fd ⟨vs,[]⟩) (fun binds s1=>Keeps s s1∧∃ us,binds = (l.map (·.1)).zip us∧f0 (VV C io Z) io s1.heap (l.map (·.2)) us) noE s
noncomputable def jj (T:Tbl) (mu:List Str) (N:Nat) (sc:Scope) (body:List Stmt) (bnd:List D→Option (List (Str × D))):ae:=fun ds g =>
 match bnd ds with
 | none=>none
 | some l =>
   if decide (l.map (·.1)).Nodup&&l.all fun p=>c9 (fun x=>sc.names.lookup x) p.1 then
     match f7 T mu N (fun x=>sc.names.lookup x) body (m0 l) g with
     | some (.ret d g)=>some (d,g)
     | some (.next _ g)=>some (.none,g)
     | none=>none
   else none
set_option tactic.hygienic true in
theorem cs5 {L N:Nat} {T:Tbl} {mu:List Str} (r:g9 C) (tb:dh C L T) (ok:∀ k,k≤N→bd C L k T) {a:Addr} {fd:FuncData} {body:List Stmt} {bnd:List D→Option (List (Str × D))} (f:oy C a fd body) (hb:nu C fd bnd) :
   z0 C (L + 1) (.ref a) (jj T mu N fd.scope body bnd):=by
 intro ds g d g' h A Z io s vs ha hk hv
 unfold jj at h
 split at h
 · injection h
 rename_i l hl
 refine za (w9 h) fun hc h=>?_
 simp only [Bool.and_eq_true,decide_eq_true_eq,List.all_eq_true] at hc
 refine za hc fun hnd hcs=>?_;clear hc
 refine zea f.get fun o ho hd=>?_
 have hmem:∀ {x:Str} {k:NameKind},fd.scope.names.lookup x = some k→(x,k)∈fd.scope.names:=fun h=>PySem.mem_of_lookup h
 refine wpAny_call (codeAny_call_function (by have:=ha.dp;show A.depth < 1000;lia) (hk.base _ _ ho) hd f.co f.gen f.body (f.cd.keeps hk.base) ?_)
 refine wpAny_mono (hb ds l hl A.in1 Z io g s vs hk hv) ?_ fun J J x=>x.elim
 rintro _ s1 ⟨kp1,us,rfl,hus⟩
 have k1:=Keeps.sok C kp1 hk
 have hlen:=f0.length hus
 rw [f.clo]
 have hcan:∀ x∈(l.map (·.1)).zip us,fd.scope.names.lookup x.1 = some .local∨(fd.scope.names.lookup x.1 = some .cell∧((cellsFrom (s1.heap.objs.size + 1) fd.scope.names []).lookup x.1).isSome = true):=fun x hx=>by
   have hx1:x.1∈l.map (·.1):=(List.of_mem_zip (a:=x.1) (b:=x.2) hx).1
   refine zea (List.mem_map.mp hx1) fun p hp hpe=>?_
   have:=hcs p hp
   unfold c9 at this
   simp only [Bool.or_eq_true,beq_iff_eq] at this
   rw [hpe] at this
   rcases this with h | h
   · exact .inl h
   · exact .inr ⟨h,v8 _ _ _ (.inl (hmem h))⟩
 refine wpAny_newFunctionEnv_cells f.kind hcan fun env henv s2 xc=>?_
 have kp2:Keeps s1 s2:=by
   refine ze2a xc.done fun h' tk e hkk=>?_
   exact ⟨h',tk,e,hkk⟩
 have hL:s1.heap.objs.size≤env.locals:=xc.toInCall.fresh
 have hkof:∀ x,env.kindOf x = fd.scope.names.lookup x:=fun x=>by subst henv;rfl
 have hfresh:∀ c,env.locals≤c→s1.heap.get? c = none:=fun c hle=>by
   induction e:s1.heap.get? c using Option.casesOn with
   | none=>rfl
   | some o=>exact absurd (Heap.lt_size e) (Nat.not_lt.mpr (Nat.le_trans hL hle))
 have hcells:env.cells = cellsFrom (s1.heap.objs.size + 1) fd.scope.names []:=by subst henv;rfl
 let F:List Addr:=env.locals::fd.scope.names.filterMap fun p=>if p.2==NameKind.cell then env.cells.lookup p.1 else none
 have hF:∀ c∈F,env.locals≤c∧∃ o,s2.heap.get? c = some o:=fun c hcm=>by
   rcases List.mem_cons.mp hcm with rfl | hcm
   · refine ze3a xc.toInCall.ns fun o J J e J=>?_
     exact ⟨Nat.le_refl _,o,e⟩
   · refine zea (List.mem_filterMap.mp hcm) fun p J hp=>?_
     split at hp
     · refine zea (xc.cell _ _ hp) fun o e J=>?_
       exact ⟨Nat.le_of_lt (xc.above _ _ (PySem.mem_of_lookup hp)),o,e⟩
     · injection hp
 have hcell:∀ x,fd.scope.names.lookup x = some .cell→∃ c,env.cells.lookup x = some c∧c∈F:=fun x hx=>by
   have:=v8 (x:=x) fd.scope.names (s1.heap.objs.size + 1) [] (.inl (hmem hx))
   rw [← hcells] at this
   refine ze (Option.isSome_iff_exists.mp this) fun c hc=>?_
   exact ⟨c,hc,.tail _ (List.mem_filterMap.mpr ⟨(x,.cell),hmem hx,by simpa using hc⟩)⟩
 have xf:Frm C ⟨fun J J=>False,[]⟩ (fun x=>fd.scope.names.lookup x) s1 io Z env (fun J=>0) [] F (m0 l) io g s2:={
   grow:=Keeps.grow C kp2
   fresh:=fun c hcm=>hfresh c (hF c (by simpa using hcm)).1
   sok:=Sok.more_many k1 kp2 fun w hw=>⟨hfresh w (hF w hw).1,(hF w hw).2⟩
   kdo:=hkof
   fn:=by subst henv;exact f.kind
   bk:=by subst henv;simp [Env.blockKind,newEnv,f.kind]
   gl:=by subst henv;exact f.gl
   bi:=by subst henv;exact f.bi
   cd:=fun h=>by subst henv;refine ze2a (f.spl h) fun c P h1 h2=>?_;exact ⟨c,P,_,h1,h2,rfl⟩
   lF:=.head _
   ns:=⟨_,xc.toInCall.ns⟩
   all:=fun x hx=>by
     refine zea (hcell x hx) fun c hc hcF=>?_
     exact ⟨c,_,hc,xc.cell _ _ hc,hcF,fun he=>Nat.lt_irrefl _ (he ▸ xc.above _ _ (PySem.mem_of_lookup hc))⟩
   inj:=fun x y c J J h1 h2=>PySem.name_of_addr xc.apart (PySem.mem_of_lookup h1) (PySem.mem_of_lookup h2)
   nofree:=fun x hx=>f.nofree _ (hmem hx) rfl
   vals:=fun y ev hy=>by
     refine zea (ax hy) fun d e1q hyl=>?_;subst e1q
     refine zea (ta hus hyl) fun v q1 q2=>?_
     have hbn:(((l.map (·.1)).zip us).map (·.1)).Nodup:=by
       rw [List.map_fst_zip (by rw [hlen];simp)];exact hnd
     have hhas:Has (VV C io (F++Z)) io s2.heap d v:=by
       have:=Has.mono (V':=VV C io (F++Z)) (io':=io) (h':=s2.heap) (fun a o e hn=>by
         refine ze2a kp2 fun h' tk e2 hkk=>?_;clear kp2
         refine ⟨by rw [e2];exact hkk a o e,fun hm=>?_⟩
         rcases fj hm with h | h
         · exact hn h
         · rw [hfresh a (hF a h).1] at e;injection e) (fun J J e=>e) q2
       exact this
     refine ⟨v,?_,hhas⟩
     have hcy:c9 (fun x=>fd.scope.names.lookup x) y = true:=by
       have:y∈l.map (·.1):=mem_of_lookup hyl
       refine zea (List.mem_map.mp this) fun p hp hpe=>?_
       exact hpe ▸ hcs p hp
     unfold c9 at hcy
     simp only [Bool.or_eq_true,beq_iff_eq] at hcy
     by_cases hloc:fd.scope.names.lookup y = some .local
     · exact .inl ⟨hloc,_,xc.toInCall.ns,vg ((hkof y).trans hloc) _ _ hbn q1⟩
     · have hc:fd.scope.names.lookup y = some .cell:=by
         rcases hcy with h | h
         · exact absurd h hloc
         · exact h
       refine zea (hcell y hc) fun c hcc J=>?_
       have:=xc.cell _ _ hcc
       rw [uf (by rw [hkof,hc];decide) _ _ hbn q1] at this
       exact .inr ⟨hc,c,hcc,this⟩
   olist:=fun a ha=>by cases ha
   disj:=fun a ha=>by cases ha
   apart:=fun x y m m' J h1 J=>by
     refine zea (ax h1) fun d hd J=>?_
     injection hd
   nd:=by rw [jw];exact hnd
   kept:=fun b o hb=>hb.elim
   pref:=fun k t e=>by simp at e }
 refine ⟨r.nolimit.keeps k1.base |>.keeps (by refine ze2a kp2 fun h' tk e hkk=>?_;clear kp2;rw [e];exact hkk),codeAny_func ?_⟩
 have ha':AOk (A.deeper env) L:=⟨ha.hh,by have:=ha.dp;show A.depth + 1 + L≤900;lia,by have:=ha.un;show A.units + 3 + 8 * L≤9000;lia⟩
 have main:=(as7 (mu:=mu) r tb ok N (Nat.le_refl _)).2
 have kg:q0 C io io s s1:=Keeps.grow C kp1
 split at h
 · rename_i d1 g1 hx
   injection h with h;injection h with e0q e1q;subst e0q;subst e1q
   refine a9 (main _ _ _ _ _ hx _ _ _ _ _ _ _ _ _ _ _ ha' xf) ?_
   rintro fl s3 ⟨v,rfl,io3,q1,q2,q3⟩
   exact ⟨io3,kg.trans C q1,q2,q3⟩
 · rename_i fo1 g1 hx
   injection h with h;injection h with e0q e1q;subst e0q;subst e1q
   refine a9 (main _ _ _ _ _ hx _ _ _ _ _ _ _ _ _ _ _ ha' xf) ?_
   rintro fl s3 ⟨rfl,ad3,O3,io3,x3⟩
   exact ⟨io3,kg.trans C x3.grow,x3.sok.less C fun z hz=>List.mem_append_right _ (List.mem_append_right _ hz),rfl⟩
 · injection h
end Mine
end
section
open PySem
set_option tactic.hygienic true
namespace Mine
variable {C:Cst}
noncomputable def f9 (ps:List Str) (ds:List D):Option (List (Str × D)):=if ds.length = ps.length then some (ps.zip ds) else none
theorem ms {fd:FuncData} {ps:List Str} (h:∀ vs:List Value,vs.length = ps.length→bindArgs fd ⟨vs,[]⟩ = pure (ps.zip vs)):nu C fd (f9 ps):=by
 intro ds l hl A Z io g s vs hk hv
 refine za (w9 hl) fun hlen hl=>?_
 simp only [Option.some.injEq] at hl
 subst hl
 have hn:=f0.length hv
 rw [h vs (by lia)]
 refine wpAny_pure ⟨Keeps.refl,vs,?_,?_⟩
 · rw [List.map_fst_zip (by lia)]
 · rw [List.map_snd_zip (by lia)];exact hv
end Mine
end
section
open PySem
namespace Mine
variable {C:Cst}
noncomputable def yd (x p:Str) (ds:List D):Option (List (Str × D)) :=
 match ds with
 | d::r=>if r.length≤lim then some [(x,d),(p,.tup r)] else none
 | []=>none
theorem ba8 {fd:FuncData} {x p:Str} (h:∀ (v:Value) (rest:List Value),bindArgs fd ⟨v::rest,[]⟩ = (newTuple rest >>= fun t=>pure [(x,v),(p,t)])):nu C fd (yd x p):=by
 intro ds l hl A Z io g s vs hk hv
 induction ds using List.casesOn with
 | nil=>simp [yd] at hl
 | cons d r =>
   refine za (w9 hl) fun hlen hl=>?_
   simp only [Option.some.injEq] at hl
   subst hl
   refine ze2a2 hv fun v rest e2q h1 h2=>?_;clear hv;subst e2q
   rw [h v rest]
   have hn:=f0.length h2
   have z:=de hk (tk:=s.toks) (n:=0) hlen h2
   refine wpAny_bind (wpAny_newObj_type (wpAny_pure ⟨z.1,[v,.ref s.heap.objs.size],rfl,?_⟩) (by show rest.toArray.size≤sizeLine;rw [List.size_toArray];have:=cq;lia))
   exact ⟨v,_,rfl,ol z.1 h1,_,_,rfl,z.2,rfl⟩
theorem yj {name:Str} {body:List Stmt} {scope:Scope} {pm cd doc:Value} {a1 a2:Option Expr} {p1 p2:Pos} (v:Value) (rest:List Value) :
   bindArgs (Calls.docDef name ⟨[],[⟨"text",a1,p1⟩],some ⟨"pairs",a2,p2⟩,[],[],none,[]⟩ body scope pm cd doc) ⟨v::rest,[]⟩ = (newTuple rest >>= fun t=>pure [(("text":Str),v),(("pairs":Str),t)]):=by
 induction rest using List.casesOn<;>rfl
end Mine
namespace Mine
noncomputable abbrev lq (h:Heap) (z TI TO T:Addr) (b:Bool):Prop:=h.get? z = some { cls:=.type "zip",dict:=none,data:=.fields #[rawInt T,.bool b,.bool false,.ref TI,.ref TO],slots:=#[] }
section
variable {prog:Program} {w:World} {A:Around} {E:Value→Shared→Prop} {s:Shared}
theorem af2 {z TI TO T:Addr} {b:Bool} {Q:Bool→Shared→Prop} (hz:lq s.heap z TI TO T b) (ha:∃ o,s.heap.get? T = some o)
   (hQ:∀ h',lq h' z TI TO T true→Heap.SameBut z s.heap h'→Q false { s with heap:=h' }):wpAny (model prog w) A (Builtin.SmallTypes.ownedTupleIsFree (.ref z)) Q E s:=by
 refine ze ha fun o ho=>?_;clear ha
 unfold Builtin.SmallTypes.ownedTupleIsFree
 refine wpAny_bind (wpAny_field hz rfl (x:=rawInt T) rfl ?_)
 show wpAny _ _ (loadIfAlive T >>= _) _ _ _
 refine wpAny_bind ?_
 have ld:∀ {R:Option Obj→Shared→Prop},R (some o) s→wpAny (model prog w) A (loadIfAlive T) R E s:=fun {R} h Γ p hΓ=>by
   show Sem.wp _ _ (.loadIfAlive T .pure) _ _ _ _
   rw [Sem.wp_loadIfAlive,ho]
   exact h
 refine ld ?_
 show wpAny _ _ (field (.ref z) 1 >>= _) _ _ _
 refine wpAny_bind (wpAny_field hz rfl (x:=.bool b) rfl ?_)
 induction b using Bool.casesOn with
 | true =>
   show wpAny _ _ (pure false) _ _ _
   exact wpAny_pure (hQ _ hz (Heap.SameBut.refl ..))
 | false =>
   show wpAny _ _ (setField (.ref z) 1 (.bool true) >>= fun J=>pure false) _ _ _
   exact wpAny_bind (wpAny_setField_rec hz (by simp) fun h' hz' hs'=>wpAny_pure (hQ h' hz' hs'))
theorem ao1 {z TI TO T i1 i2 l1 l2:Addr} {b:Bool} {k1 k2:Nat} {xs ys:Array Value} {x y:Value} {Q:Value→Shared→Prop} (D:ZipApart z TI TO i1 i2 l1 l2)
   (hz:lq s.heap z TI TO T b) (hTI:IsPair s.heap TI (.ref i1) (.ref i2)) (hTa:∃ o,s.heap.get? T = some o)
   (h1:s.heap.IsListIter i1 l1 k1) (h2:s.heap.IsListIter i2 l2 k2) (hl1:s.heap.IsList l1 xs) (hl2:s.heap.IsList l2 ys) (hx:xs[k1]? = some x) (hy:ys[k2]? = some y)
   (hQ:∀ h',lq h' z TI TO T true→h'.IsListIter i1 l1 (k1 + 1)→h'.IsListIter i2 l2 (k2 + 1)→IsPair h' s.heap.objs.size x y →
     (∀ c o,c≠z→c≠i1→c≠i2→s.heap.get? c = some o→h'.get? c = some o)→Q (.ref s.heap.objs.size) { s with heap:=h' }) :
   wpAny (model prog w) A (Builtin.«zip.__next__» ⟨[.ref z],[]⟩) (fun fin s'=>∃ v,fin = .done (.ret v)∧Q v s') E s:=by
 show wpAny _ _ (field (.ref z) 2 >>= _) _ _ _
 refine wpAny_bind (wpAny_field hz rfl (x:=.bool false) rfl ?_)
 show wpAny _ _ (field (.ref z) 3 >>= _) _ _ _
 refine wpAny_bind (wpAny_field hz rfl (x:=.ref TI) rfl ?_)
 refine wpAny_bind (wpAny_seqItems hTI rfl ?_)
 show wpAny _ _ (Builtin.SmallTypes.ownedTupleIsFree (.ref z) >>= _) _ _ _
 refine wpAny_bind (af2 hz hTa fun h₁ hz₁ hs₁=>?_)
 simp only [Bool.false_eq_true,if_false]
 refine wpAny_bind ?_
 rw [← Array.forIn_toList]
 simp only [List.forIn_cons,List.forIn_nil]
 have up1:∀ c o,c≠z→s.heap.get? c = some o→h₁.get? c = some o:=fun c o hc e=>hs₁.extBut c o hc e
 refine wpAny_bind (wpAny_bind (wpAny_holding ?_))
 show wpAny _ _ (Builtin.SmallTypes.nextOf (.ref i1) >>= fun v=>pure (some v)) _ _ _
 refine wpAny_bind (wpAny_nextOf_list_item (h1.extBut hs₁.extBut D.i1z) (hl1.extBut hs₁.extBut D.l1z) hx fun h₂ h1₂ hs₂=>wpAny_pure ?_)
 refine wpAny_pure ?_
 refine wpAny_bind (wpAny_bind (wpAny_holding ?_))
 show wpAny _ _ (Builtin.SmallTypes.nextOf (.ref i2) >>= fun v=>pure (some v)) _ _ _
 refine wpAny_bind (wpAny_nextOf_list_item ((h2.extBut hs₁.extBut D.i2z).extBut hs₂.extBut D.i12.symm) ((hl2.extBut hs₁.extBut D.l2z).extBut hs₂.extBut D.l2i1) hy fun h₃ h2₃ hs₃=>wpAny_pure ?_)
 refine wpAny_pure ?_
 refine wpAny_pure ?_
 refine wpAny_bind (wpAny_newTuple ?_ (by show 2≤sizeLine;rw [sizeLine_eq];decide))
 have hsz:h₃.objs.size = s.heap.objs.size:=by rw [hs₃.1,hs₂.1,hs₁.1]
 refine wpAny_pure ⟨_,rfl,?_⟩
 show Q (.ref h₃.objs.size) _
 rw [hsz]
 have up:∀ c o,c≠z→c≠i1→c≠i2→s.heap.get? c = some o→(h₃.push { cls:=.type "tuple",data:=.seq #[x,y] }).get? c = some o:=fun c o c1 c2 c3 e =>
   Heap.get?_push_of_some _ (hs₃.extBut c o c3 (hs₂.extBut c o c2 (hs₁.extBut c o c1 e)))
 refine hQ _ (Heap.get?_push_of_some _ (hs₃.extBut _ _ D.i2z.symm (hs₂.extBut _ _ D.i1z.symm hz₁))) ?_ ?_ ?_ up
 · exact (h1₂.extBut hs₃.extBut D.i12).at fun o e=>Heap.get?_push_of_some _ e
 · exact h2₃.at fun o e=>Heap.get?_push_of_some _ e
 · rw [← hsz];exact Heap.get?_push_size _ rfl
theorem bc0 {z TI TO T i1 i2 l1 l2:Addr} {b:Bool} {k1 k2:Nat} {xs ys:Array Value} {Q:Fin→Shared→Prop} (hh:A.handled = none) (D:ZipApart z TI TO i1 i2 l1 l2)
   (hz:lq s.heap z TI TO T b) (hTI:IsPair s.heap TI (.ref i1) (.ref i2)) (hTa:∃ o,s.heap.get? T = some o)
   (h1:s.heap.IsListIter i1 l1 k1) (h2:s.heap.IsListIter i2 l2 k2) (hl1:s.heap.IsList l1 xs) (hl2:s.heap.IsList l2 ys) (hend:xs[k1]? = none∨ys[k2]? = none)
   (hE:∀ h' e,(∀ c o,c≠z→c≠i1→c≠i2→s.heap.get? c = some o→h'.get? c = some o)→(∃ o,h'.get? e = some o∧o.cls = .type "StopIteration")→E (.ref e) { s with heap:=h' }) :
   wpAny (model prog w) A (Builtin.«zip.__next__» ⟨[.ref z],[]⟩) Q E s:=by
 show wpAny _ _ (field (.ref z) 2 >>= _) _ _ _
 refine wpAny_bind (wpAny_field hz rfl (x:=.bool false) rfl ?_)
 show wpAny _ _ (field (.ref z) 3 >>= _) _ _ _
 refine wpAny_bind (wpAny_field hz rfl (x:=.ref TI) rfl ?_)
 refine wpAny_bind (wpAny_seqItems hTI rfl ?_)
 show wpAny _ _ (Builtin.SmallTypes.ownedTupleIsFree (.ref z) >>= _) _ _ _
 refine wpAny_bind (af2 hz hTa fun h₁ hz₁ hs₁=>?_)
 simp only [Bool.false_eq_true,if_false]
 refine wpAny_bind ?_
 rw [← Array.forIn_toList]
 simp only [List.forIn_cons,List.forIn_nil]
 refine wpAny_bind (wpAny_bind (wpAny_holding ?_))
 show wpAny _ _ (Builtin.SmallTypes.nextOf (.ref i1) >>= fun v=>pure (some v)) _ _ _
 induction hx:xs[k1]? using Option.casesOn with
 | none =>
   exact wpAny_bind (wpAny_nextOf_list_end hh (h1.extBut hs₁.extBut D.i1z) (hl1.extBut hs₁.extBut D.l1z) hx fun h₂ e hs₂ he=>hE h₂ e (fun c o c1 c2 J x=>hs₂ _ _ c2 (hs₁.extBut _ _ c1 x)) he)
 | some x =>
   have hy:ys[k2]? = none:=by rcases hend with h | h;rw [hx] at h;injection h;exact h
   refine wpAny_bind (wpAny_nextOf_list_item (h1.extBut hs₁.extBut D.i1z) (hl1.extBut hs₁.extBut D.l1z) hx fun h₂ h1₂ hs₂=>wpAny_pure ?_)
   refine wpAny_pure ?_
   refine wpAny_bind (wpAny_bind (wpAny_holding ?_))
   show wpAny _ _ (Builtin.SmallTypes.nextOf (.ref i2) >>= fun v=>pure (some v)) _ _ _
   exact wpAny_bind (wpAny_nextOf_list_end hh ((h2.extBut hs₁.extBut D.i2z).extBut hs₂.extBut D.i12.symm) ((hl2.extBut hs₁.extBut D.l2z).extBut hs₂.extBut D.l2i1) hy fun h₃ e hs₃ he=>hE h₃ e (fun c o c1 c2 c3 x=>hs₃ _ _ c3 (hs₂.extBut _ _ c2 (hs₁.extBut _ _ c1 x))) he)
theorem aq3 {z TI TO T i1 i2 l1 l2:Addr} {b:Bool} {k1 k2:Nat} {xs ys:Array Value} {x y:Value} {Q:Option Value→Shared→Prop} (D:ZipApart z TI TO i1 i2 l1 l2)
   (hz:lq s.heap z TI TO T b) (hTI:IsPair s.heap TI (.ref i1) (.ref i2)) (hTa:∃ o,s.heap.get? T = some o)
   (h1:s.heap.IsListIter i1 l1 k1) (h2:s.heap.IsListIter i2 l2 k2) (hl1:s.heap.IsList l1 xs) (hl2:s.heap.IsList l2 ys) (hx:xs[k1]? = some x) (hy:ys[k2]? = some y)
   (hQ:∀ h',lq h' z TI TO T true→h'.IsListIter i1 l1 (k1 + 1)→h'.IsListIter i2 l2 (k2 + 1)→IsPair h' s.heap.objs.size x y →
     (∀ c o,c≠z→c≠i1→c≠i2→s.heap.get? c = some o→h'.get? c = some o)→Q (some (.ref s.heap.objs.size)) { s with heap:=h' }) :
   wpAny (model prog w) A (pyNext (.ref z)) Q E s:=by
 have hT:s.TypeIs (.ref z) "zip":=⟨_,hz,rfl⟩
 unfold pyNext
 exact wpAny_bind (wpAny_attempt (wpAny_callSpecial?_slot (name:=Str.ofString "__next__") hT F.slot_zip_next
   (wpAny_call_entry F.slot_zip_next hT F.entry_zip_next
     (ao1 D hz hTI hTa h1 h2 hl1 hl2 hx hy fun h' a1 a2 a3 a4 a5=>wpAny_pure (hQ h' a1 a2 a3 a4 a5)) (F.args_zip_next_1 _))))
theorem um {z TI TO T i1 i2 l1 l2:Addr} {b:Bool} {k1 k2:Nat} {xs ys:Array Value} {Q:Option Value→Shared→Prop} (hh:A.handled = none) (D:ZipApart z TI TO i1 i2 l1 l2)
   (hz:lq s.heap z TI TO T b) (hTI:IsPair s.heap TI (.ref i1) (.ref i2)) (hTa:∃ o,s.heap.get? T = some o)
   (h1:s.heap.IsListIter i1 l1 k1) (h2:s.heap.IsListIter i2 l2 k2) (hl1:s.heap.IsList l1 xs) (hl2:s.heap.IsList l2 ys) (hend:xs[k1]? = none∨ys[k2]? = none)
   (hQ:∀ h',(∀ c o,c≠z→c≠i1→c≠i2→s.heap.get? c = some o→h'.get? c = some o)→Q none { s with heap:=h' }):wpAny (model prog w) A (pyNext (.ref z)) Q E s:=by
 have hT:s.TypeIs (.ref z) "zip":=⟨_,hz,rfl⟩
 unfold pyNext
 refine wpAny_bind (wpAny_attempt (wpAny_callSpecial?_slot (name:=Str.ofString "__next__") hT F.slot_zip_next
   (wpAny_call_entry F.slot_zip_next hT F.entry_zip_next (bc0 hh D hz hTI hTa h1 h2 hl1 hl2 hend fun h' e hk he=>?_) (F.args_zip_next_1 _))))
 refine zea he fun o ho hc=>?_;clear he
 refine wpAny_bind (wpAny_isInstance (T:="StopIteration") (b:=true) ⟨o,ho,hc⟩ isSubtype_stop ?_)
 exact wpAny_pure (hQ _ hk)
end
end Mine
namespace Mine
variable {C:Cst}
noncomputable def bq3 (C:Cst) (Z:List Addr) (io:HI) (ds:List D) (s₁:Shared) (i:Nat) (v:Value) (h h':Heap):Prop :=
 (∃ d,ds[i]? = some d∧Has (VV C io Z) io s₁.heap d v) ∨
 ∃ x y dx dy T,ds[i]? = some (.tup [dx,dy])∧v = .ref T∧h.get? T = none∧IsPair h' T x y∧Has (VV C io Z) io s₁.heap dx x∧Has (VV C io Z) io s₁.heap dy y
structure cq0 (C:Cst) (A:Around) (Z:List Addr) (io:HI) (ds:List D) (s₁:Shared) (I:Addr) (fp wr:List Addr) (St:Nat→Heap→Prop):Prop where
 frame:∀ i h h',St i h→(∀ b∈fp,∀ o,h.get? b = some o→h'.get? b = some o)→(∀ b o,h.get? b = some o→∃ o',h'.get? b = some o')→St i h'
 item:∀ i (s:Shared) (Q:Option Value→Shared→Prop) (E:Value→Shared→Prop),i < ds.length→St i s.heap →
   (∀ v h' tk,bq3 C Z io ds s₁ i v s.heap h'→St (i + 1) h'→(∀ b o,b∉wr→s.heap.get? b = some o→h'.get? b = some o)→Q (some v) { s with heap:=h',toks:=tk })→wpAny (model C.prog C.w) A (pyNext (.ref I)) Q E s
 done:∀ (s:Shared) (Q:Option Value→Shared→Prop) (E:Value→Shared→Prop),St ds.length s.heap →
   (∀ h' tk,(∀ b o,b∉wr→s.heap.get? b = some o→h'.get? b = some o)→Q none { s with heap:=h',toks:=tk })→wpAny (model C.prog C.w) A (pyNext (.ref I)) Q E s
 alive:∀ i h,St i h→∀ b∈wr,∃ o,h.get? b = some o
inductive cq5 (C:Cst) (A:Around) (Zi Z:List Addr) (io:HI) (ds:List D) (s₁:Shared) (it:Value) (s₂:Shared):Prop
 | mk (I:Addr) (fp wr wf:List Addr) (St:Nat→Heap→Prop) (e:it = .ref I) (W:cq0 C A Z io ds s₁ I fp wr St) (h0:St 0 s₂.heap) (k:Keeps s₁ s₂) (hw:∀ b∈wf,s₁.heap.get? b = none∧∃ o,s₂.heap.get? b = some o) (hr:∀ b∈wr,b∈wf∨b∈Zi)
   (hf:∀ b∈fp,b∈wf∨b∈Zi∨∃ o,s₁.heap.get? b = some o∧b∉VV C io Z)
section
variable {lv:Nat} {A:Around} {Z:List Addr} {io:HI} {g:Sg} {s:Shared}
theorem bk0 {Zi:List Addr} {ds:List D} {it:Value} {s₁ s₂:Shared} (h:Src C A Z Z io ds s₁ it s₂):cq5 C A Zi Z io ds s₁ it s₂:=by
 obtain ⟨I,fp,wr,P,StI,rfl,W,hst,k12,hwr,hfp,hP,hlen,hal,hgo⟩:=h
 exact ⟨I,fp,wr,wr,StI,rfl,⟨fun i h h' st hk J=>W.frame i h h' st hk,fun i s Q E hi st hQ=>W.item i s Q E hi st fun v h' tk hPv st' hk=>hQ v h' tk (.inl (hP i v hi hPv)) st' hk,W.done,hal⟩,hst,k12,hwr,fun b hb=>.inl hb,fun b hb=>(hfp b hb).imp id .inr⟩
theorem ry:∀ {l m:List D} {i:Nat} {a b:D},l[i]? = some a→m[i]? = some b→(cr l m)[i]? = some (.tup [a,b])
 | [],_,_,_,_,h,_=>by simp at h
 | _::_,[],_,_,_,_,h=>by simp at h
 | x::l,y::m,0,a,b,h1,h2=>by simp at h1 h2;subst h1 h2;rfl
 | x::l,y::m,i + 1,a,b,h1,h2=>ry (l:=l) (m:=m) (i:=i) h1 h2
theorem ch:∀ (l m:List D),(cr l m).length = min l.length m.length
 | [],m=>by show 0 = min 0 m.length;exact (Nat.zero_min _).symm
 | _::_,[]=>by exact (Nat.min_zero _).symm
 | x::l,y::m=>by show (cr l m).length + 1 = min (l.length + 1) (m.length + 1);rw [ch l m];lia
theorem bg4 {Zi:List Addr} {ds:List D} {v:Value} (ha:AOk A lv) (h:cv4 C Zi Z io ds v s) :
   wpAny (model C.prog C.w) A (pyIter v) (fun it s''=>cq5 C A Zi Z io ds s it s'') noE s:=by
 obtain ⟨z,TI,TO,i1,i2,l1,l2,xs,ys,l,m,rfl,rfl,D,hz,hTI,hTO,h1,h2,⟨p1,q1,v1⟩,⟨p2,q2,v2⟩,ll,lm,hnew⟩:=h
 refine wpAny_pyIter_zip hz ?_
 have n1:=f0.length q1
 have n2:=f0.length q2
 simp only [Array.length_toList] at n1 n2
 refine ⟨z,[z,TI,TO,i1,i2,l1,l2],[z,TO,i1,i2],[],fun i h=>((IsZip h z TI TO .none)∨∃ T b,lq h z TI TO T b∧∃ o,h.get? T = some o)∧IsPair h TI (.ref i1) (.ref i2)∧(∃ a b,IsPair h TO a b)∧h.IsListIter i1 l1 i∧h.IsListIter i2 l2 i∧h.IsList l1 xs∧h.IsList l2 ys,
   rfl,⟨?_,?_,?_,?_⟩,⟨.inl hz,hTI,⟨_,_,hTO⟩,h1,h2,p1.isList,p2.isList⟩,Keeps.refl,by simp,fun b hb=>.inr (hnew b ?_),fun b hb=>?_⟩
 · rintro i h h' ⟨hz,a1,⟨a,b,a2⟩,a3,a4,a5,a6⟩ hk hal
   refine ⟨?_,hk _ (by simp) _ a1,⟨a,b,hk _ (by simp) _ a2⟩,a3.at fun o e=>hk _ (by simp) o e,a4.at fun o e=>hk _ (by simp) o e,a5.at fun o e=>hk _ (by simp) o e,a6.at fun o e=>hk _ (by simp) o e⟩
   rcases hz with hz | ⟨T,b,hz,o,ho⟩
   · exact .inl (hk _ (by simp) _ hz)
   · exact .inr ⟨T,b,hk _ (by simp) _ hz,hal _ _ ho⟩
 · rintro i s' Q E hi ⟨hz,a1,⟨a,b,a2⟩,a3,a4,a5,a6⟩ hQ
   rw [ch] at hi
   have hix:i < xs.size:=by lia
   have hiy:i < ys.size:=by lia
   have item:∀ h',IsPair h' s'.heap.objs.size xs[i] ys[i]→bq3 C Z io (cr l m) s i (.ref s'.heap.objs.size) s'.heap h':=fun h' hp=>by
     refine zea (f0.get q1 (List.getElem?_eq_getElem (show i < l.length by lia))) fun vx e1 f1=>?_
     refine zea (f0.get q2 (List.getElem?_eq_getElem (show i < m.length by lia))) fun vy e2 f2=>?_
     rw [Array.getElem?_toList,Array.getElem?_eq_getElem hix,Option.some.injEq] at e1
     rw [Array.getElem?_toList,Array.getElem?_eq_getElem hiy,Option.some.injEq] at e2
     subst e1 e2
     exact .inr ⟨_,_,_,_,_,ry (List.getElem?_eq_getElem (by lia)) (List.getElem?_eq_getElem (by lia)),rfl,d9 _,hp,f1,f2⟩
   rcases hz with hz | ⟨T,b',hz,hTa⟩
   · refine wpAny_pyNext_zip_item D hz a1 a2 a3 a4 a5 a6 (Array.getElem?_eq_getElem hix) (Array.getElem?_eq_getElem hiy) fun h' b1 b2 b3 b4 b5 b6 hk=>?_
     exact hQ _ h' s'.toks (item h' b5) ⟨.inr ⟨_,false,b1,_,b5⟩,hk _ _ D.TIz D.TITO D.TIi1 D.TIi2 a1,⟨_,_,b2⟩,b3,b4,a5.at fun o e=>hk _ o D.l1z D.l1TO D.l1i1 D.l1i2 e,a6.at fun o e=>hk _ o D.l2z D.l2TO D.l2i1 D.l2i2 e⟩
       fun c o hc e=>hk c o (fun x=>hc (by simp [x])) (fun x=>hc (by simp [x])) (fun x=>hc (by simp [x])) (fun x=>hc (by simp [x])) e
   · refine aq3 D hz a1 hTa a3 a4 a5 a6 (Array.getElem?_eq_getElem hix) (Array.getElem?_eq_getElem hiy) fun h' b1 b3 b4 b5 hk=>?_
     refine hQ _ h' s'.toks (item h' b5) ⟨.inr ⟨T,true,b1,?_⟩,hk _ _ D.TIz D.TIi1 D.TIi2 a1,⟨a,b,hk _ _ D.TOz D.TOi1 D.TOi2 a2⟩,b3,b4,a5.at fun o e=>hk _ o D.l1z D.l1i1 D.l1i2 e,a6.at fun o e=>hk _ o D.l2z D.l2i1 D.l2i2 e⟩
       fun c o hc e=>hk c o (fun x=>hc (by simp [x])) (fun x=>hc (by simp [x])) (fun x=>hc (by simp [x])) e
     refine ze hTa fun o ho=>?_;clear hTa
     by_cases c1:T = z
     · rw [c1];exact ⟨_,b1⟩
     · by_cases c2:T = i1
       · refine zea b3 fun o' e J=>?_;clear b3;rw [c2];exact ⟨o',e⟩
       · by_cases c3:T = i2
         · refine zea b4 fun o' e J=>?_;clear b4;rw [c3];exact ⟨o',e⟩
         · exact ⟨o,hk _ _ c1 c2 c3 ho⟩
 · rintro s' Q E ⟨hz,a1,⟨a,b,a2⟩,a3,a4,a5,a6⟩ hQ
   have hend:xs[(cr l m).length]? = none∨ys[(cr l m).length]? = none:=by
     rw [ch]
     rcases Nat.le_total l.length m.length with h | h
     · exact .inl (Array.getElem?_eq_none (by lia))
     · exact .inr (Array.getElem?_eq_none (by lia))
   rcases hz with hz | ⟨T,b',hz,hTa⟩
   · exact wpAny_pyNext_zip_end ha.hh D hz a1 a2 a3 a4 a5 a6 hend fun h' hk=>hQ h' s'.toks fun c o hc e=>hk c o (fun x=>hc (by simp [x])) (fun x=>hc (by simp [x])) (fun x=>hc (by simp [x])) (fun x=>hc (by simp [x])) e
   · exact um ha.hh D hz a1 hTa a3 a4 a5 a6 hend fun h' hk=>hQ h' s'.toks fun c o hc e=>hk c o (fun x=>hc (by simp [x])) (fun x=>hc (by simp [x])) (fun x=>hc (by simp [x])) e
 · rintro i h ⟨hz,a1,⟨a,b,a2⟩,⟨o3,a3,_⟩,⟨o4,a4,_⟩,a5,a6⟩ b' hb
   simp only [List.mem_cons,List.not_mem_nil,or_false] at hb
   rcases hb with rfl | rfl | rfl | rfl
   · rcases hz with hz | ⟨T,_,hz,_⟩<;>exact ⟨_,hz⟩
   · exact ⟨_,a2⟩
   · exact ⟨_,a3⟩
   · exact ⟨_,a4⟩
 · simp only [List.mem_cons,List.not_mem_nil,or_false] at hb
   rcases hb with rfl | rfl | rfl | rfl<;>simp
 · simp only [List.mem_cons,List.not_mem_nil,or_false] at hb
   rcases hb with rfl | rfl | rfl | rfl | rfl | rfl | rfl
   · exact .inr (.inl (hnew _ (by simp)))
   · exact .inr (.inl (hnew _ (by simp)))
   · exact .inr (.inl (hnew _ (by simp)))
   · exact .inr (.inl (hnew _ (by simp)))
   · exact .inr (.inl (hnew _ (by simp)))
   · refine ze p1 fun n e=>?_;clear p1;exact .inr (.inr ⟨_,e,v1⟩)
   · refine ze p2 fun n e=>?_;clear p2;exact .inr (.inr ⟨_,e,v2⟩)
theorem bp3 {Zi:List Addr} {ds:List D} {v:Value} (ha:AOk A lv) (h:zi C Zi Z io ds v s):wpAny (model C.prog C.w) A (pyIter v) (fun it s''=>cq5 C A Zi Z io ds s it s'') noE s:=by
 rcases h with ⟨d,hd,hh⟩ | h
 · exact a9 (yk ha hd hh) fun it s2 h2=>bk0 h2
 · exact bg4 ha h
theorem zi.len {Zi:List Addr} {ds:List D} {v:Value} (h:zi C Zi Z io ds v s):ds.length≤lim:=by
 rcases h with ⟨d,hd,hh⟩ | ⟨z,TI,TO,i1,i2,l1,l2,xs,ys,l,m,rfl,rfl,D,hz,hTI,hTO,h1,h2,_,_,ll,lm,hnew⟩
 · induction d using D.casesOn<;>first | exact a8 hd | (injection hd with hd;subst hd)
   · rw [show (ra _).length = _ from by unfold ra;rw [List.length_map,Array.length_toList]];exact hh.1
   · exact hh.1
 · rw [ch];lia
end
end Mine
namespace Mine
variable {C:Cst}
theorem be5 {name qual:Str} {body:Expr} {sc:Scope} {cl:List (Str × Addr)} {pm cdv ct:Value} {x:Str} {an:Pos} (v:Value) :
   bindArgs (PySem.W.kla_fn name qual ⟨[],[⟨x,none,an⟩],none,[],[],none,[]⟩ body sc cl pm cdv ct) ⟨[v],[]⟩ = pure [(x,v)]:=by
 have hs:seqItems? Value.none = pure none:=rfl
 unfold bindArgs
 simp [hs,List.lookup]
theorem bg6 {lv:Nat} {A:Around} {Z FF:List Addr} {io io':HI} {kd:Kd} {env:Env} {ro:Ro} {g g1 g':Sg} {s₁ s:Shared} {name qual:Str} {x:Str} {an:Pos} {body:Expr} {sc:Scope} {cl:List (Str × Addr)} {pm ct:Value} {c' f:Addr} {ev:Ro→Expr→Sg→Option (D × Sg)} {d r:D} {v:Value}
   (rt:g9 C) (ha:AOk A (lv + 1)) (he:m6 C kd Z io env ro s₁.heap) (k₁:Sok C Z io g1 s₁) (x₁:q0 C io io' s₁ s) (k:Sok C (FF++Z) io' g s) (hFF:∀ f∈FF,s₁.heap.get? f = none)
   (hsc:z2 sc kd x = true) (hco:sc.isCoroutine = false) (hgen:sc.isGenerator = false)
   (ho:s.heap.get? f = some (PySem.W.kla_obj name qual ⟨[],[⟨x,none,an⟩],none,[],[],none,[]⟩ body sc (od env.cells sc.names []) pm c' ct)) (hcd:s.heap.CodeRec (.ref c') qual)
   (hev:∀ ro,o8 C lv (fun y=>sc.names.lookup y) ro (ev ro)) (hv:Has (VV C io' (FF++Z)) io' s.heap d v) (h:ev ((x,d)::m9 sc ro) body g = some (r,g')) :
   wpAny (model C.prog C.w) A (call (.ref f) [v]) (ff C (FF++Z) io' s r g') noE s:=by
 refine za4 (wc hsc) fun h1 h2 h3 h4 h5=>?_
 refine wpAny_call (PySem.W.kla_callFunE (by have:=ha.dp;show A.depth < 1000;lia) ho rfl hco hgen rfl hcd ?_)
 rw [be5]
 refine wpAny_pure (wpAny_newFunctionEnv h2 (fun y hy=>by simp only [List.mem_singleton] at hy;subst hy;exact h5) (fun h₁ hns hsb=>⟨?_,PySem.W.kla_codeExpr ?_⟩) h1.1)
 · exact (rt.nolimit.keeps k.base).keeps fun b o e=>hsb.extBut b o (Nat.ne_of_lt (Heap.lt_size e)) (Heap.get?_push_of_some _ e)
 · have kp:Keeps s { s with heap:=h₁,toks:=s.toks + [(x,v)].length }:=⟨_,_,rfl,fun b o e=>hsb.extBut b o (Nat.ne_of_lt (Heap.lt_size e)) (Heap.get?_push_of_some _ e)⟩
   have hLn:s.heap.get? s.heap.objs.size = none:=d9 _
   have k3:=Sok.more k hLn kp (by refine ze3a hns fun o J J e J=>?_;clear hns;exact ⟨o,e⟩)
   have hL1:s₁.heap.get? s.heap.objs.size = none:=by
     induction e:s₁.heap.get? s.heap.objs.size using Option.casesOn with
     | none=>rfl
     | some o=>refine ze (x₁.alive _ o e) fun o' e'=>?_;rw [hLn] at e';injection e'
   have x3:=x₁.trans C (Keeps.grow C kp)
   have hv3:Has (VV C io' ((s.heap.objs.size::FF)++Z)) io' h₁ d v:=Has.mono (fun a o e hn=>by
     refine ze2a kp fun h' tk e2 hkk=>?_;clear kp
     injection e2 with e21 e22 e23 e24 e25;subst e21;clear e22;clear e23;subst e24;clear e25
     refine ⟨hkk a o e,fun hm=>?_⟩
     rcases fj (O:=[s.heap.objs.size]) (Z:=FF++Z) hm with h | h
     · exact hn h
     · simp only [List.mem_singleton] at h;subst h;rw [hLn] at e;injection e) (fun J J e=>e) hv
   have e3:=yr (F:=s.heap.objs.size::FF) (s:={ s with heap:=h₁,toks:=s.toks + [(x,v)].length })
     (env':=newEnv sc s.heap.objs.size mainGlobals (od env.cells sc.names []) (qual++".<locals>.") (some f) (.ref c') none builtinsNs) he k₁ x3
     (fun y hy=>by rcases List.mem_cons.mp hy with rfl | hy;exact hL1;exact hFF y hy) (fun y hy=>absurd rfl (h2 _ (dq hy))) h1 h4 (fun y=>.inl rfl) h1.1 he.gl.symm he.bi.symm (fun y hy hc=>bj _ [] (.inl hy) (fun c h=>a8 (show none = some c from h)) hc) (b:=[(x,d)]) (.head _) hns (fun y d' hy=>by
       by_cases hyx:(y==x) = true
       · have hyx':y = x:=by simpa using hyx
         subst hyx'
         simp only [List.lookup,hyx,Option.some.injEq] at hy
         subst hy
         exact ⟨h5,v,by simp [List.lookup],hv3⟩
       · have hyx':(y==x) = false:=by simpa using hyx
         simp [List.lookup,hyx'] at hy)
   have ha':AOk (A.deeper (newEnv sc s.heap.objs.size mainGlobals (od env.cells sc.names []) (qual++".<locals>.") (some f) (.ref c') none builtinsNs)) lv:=⟨ha.hh,by have:=ha.dp;show A.depth + 1 + lv≤900;lia,by have:=ha.un;show A.units + 3 + 8 * lv≤9000;lia⟩
   refine a9 (hev _ _ _ _ _ h _ _ _ io' _ ha' e3 k3) fun rv s4 ⟨io4,x4,k4,h4⟩=>?_
   exact ⟨io4,(Keeps.grow C kp).trans C x4,k4.less C fun z hz=>.tail _ hz,Has.less h4 fun z hz=>.tail _ hz⟩
end Mine
namespace Mine
variable {C:Cst}
section
variable {K K':Kp} {kd:Kd} {s0:Shared} {io0:HI} {Z0 W:List Addr} {env:Env} {ad:Str→Addr} {O F:List Addr} {fo:Fo} {io io':HI} {g g1 g':Sg} {s s':Shared} {A:Around} {L n:Nat} {T:Tbl}
end
end Mine
end
section
open PySem
set_option tactic.hygienic true
namespace Mine
variable {C:Cst}
section
variable {K K':Kp} {kd:Kd} {s0:Shared} {io0:HI} {Z0 W:List Addr} {env:Env} {ad:Str→Addr} {O F:List Addr} {fo:Fo} {io io':HI} {g g1 g':Sg} {s s':Shared} {A:Around} {L n:Nat} {T:Tbl}
theorem gz (x:Frm C K kd s0 io0 Z0 env ad O F fo io g s) {z:Str} {pz pl sp:Pos} (hz:c9 kd z = true) {Q:Flow→Shared→Prop}
   (hq:∀ ad' a s',s.heap.get? a = none→Frm C K kd s0 io0 Z0 env ad' (a::O) F (o9 z (.own []) fo) io g s'→(∀ b o,b∉F→s.heap.get? b = some o→s'.heap.get? b = some o)→(∀ y u,y≠z→m4 kd env s.heap y u→m4 kd env s'.heap y u)→Q .next s') :
   wpAny (model C.prog C.w) A (exec (.Assign [.Name z pz] (.List [] pl) sp) env) Q noE s:=by
 refine wpAny_Assign_Name (PyProof.Rows.List_ (wpAny_items_nil (wpAny_newObj_type ?_ (by show 0≤sizeLine;exact Nat.zero_le _)))) rfl
 have x1:=x.addOwn []
 have hfr:∀ y l,fo.lookup y = some (.own l)→s.heap.objs.size≠ad y:=fun y l hy he=>by
   refine zea3 (x.vals y _ hy) fun v J J hO J=>?_
   refine ze2 (x.olist _ hO) fun vs m e=>?_
   rw [← he,d9] at e;injection e
 have kk:∀ b o,s.heap.get? b = some o→(s.heap.push { cls:=.type "list",data:=.seq ([]:List Value).toArray }).get? b = some o:=fun b o e=>Heap.get?_push_of_some _ e
 refine x1.store' (ev:=.own []) (a:=s.heap.objs.size) hz ⟨rfl,.head _,Nat.zero_le _,#[],⟨_,Heap.get?_push_size _ rfl⟩,rfl⟩ (fun l hl y l' hyz hy=>hfr y l' hy) fun s2 x2 k2 v2=>?_
 refine hq _ _ s2 (d9 _) x2 (fun b o hb e=>k2 b o hb (kk b o e)) fun y u hyz hu=>v2 y u hyz (hu.keep (fun o e=>kk _ o e) (fun c o J J e=>kk _ o e))
end
end Mine
end
section
open PySem
namespace Mine
variable {C:Cst}
section
variable {K K':Kp} {kd kd2:Kd} {sb s0:Shared} {iob io0:HI} {Z W:List Addr} {env env2:Env} {ad:Str→Addr} {O F:List Addr} {fo:Fo} {io io':HI} {g gb g1 g':Sg} {s s':Shared} {A:Around} {lv L n:Nat} {T:Tbl} {ro:Ro}
theorem bk9 {name qual:Str} {x y pn:Str} {an pp py q p:Pos} {body:Expr} {sc:Scope} {pm ct:Value} {c' f:Addr} {ev:Ro→Expr→Sg→Option (D × Sg)} {d r:D} {c:Bool}
   (rt:g9 C) (ha:AOk A (lv + 1)) (he:m6 C kd Z iob env ro sb.heap) (kb:Sok C Z iob gb sb) (xb:q0 C iob io sb s) (hFF:∀ b∈O++F++W,sb.heap.get? b = none)
   (xf:Frm C K kd2 s0 io0 (W++Z) env2 ad O F fo io g s) (hp:m4 kd2 env2 s.heap pn (.ref f)) (hdb:(pn==("__debug__":Str)) = false) (hyl:fo.lookup y = some (.val d)) (hdy:(y==("__debug__":Str)) = false)
   (hsc:z2 sc kd x = true) (hco:sc.isCoroutine = false) (hgen:sc.isGenerator = false)
   (ho:s.heap.get? f = some (PySem.W.kla_obj name qual ⟨[],[⟨x,none,an⟩],none,[],[],none,[]⟩ body sc (od env.cells sc.names []) pm c' ct)) (hcd:s.heap.CodeRec (.ref c') qual)
   (hev:∀ ro,o8 C lv (fun y=>sc.names.lookup y) ro (ev ro)) (h:ev ((x,d)::m9 sc ro) body g = some (r,g')) (ht:z6 r = some c) :
   wpAny (model C.prog C.w) A (isTrue (.Call (.Name pn pp) [.Name y py] [] p) env2 (eval (.Call (.Name pn pp) [.Name y py] [] p) env2)) (fun b s'=>b = c∧∃ io',q0 C io io' s s'∧Sok C (O++(F++(W++Z))) io' g' s') noE s:=by
 have hz:O++(F++(W++Z)) = (O++F++W)++Z:=by simp [List.append_assoc]
 refine zea (xf.vals y _ hyl) fun v hv hd=>?_
 have hd':Has (VV C io ((O++F++W)++Z)) io s.heap d v:=hz ▸ hd
 have call:=bg6 (A:=A) (cl:=[]) rt ha he kb xb (hz ▸ xf.sok) hFF hsc hco hgen ho hcd hev hd' h
 have fin:∀ (rv:Value) (s1:Shared),ff C ((O++F++W)++Z) io s r g' rv s1→wpAny (model C.prog C.w) A (truthy rv) (fun b s'=>b = c∧∃ io',q0 C io io' s s'∧Sok C (O++(F++(W++Z))) io' g' s') noE s1:=by
   rintro rv s1 ⟨io1,x1,k1,hh⟩
   refine a9 (xl (E:=noE) ht hh) ?_
   rintro b s2 ⟨hb,kp⟩
   exact ⟨hb,io1,x1.trans C (Keeps.grow C kp),hz ▸ Keeps.sok C kp k1⟩
 refine wpAny_isTrue_value ?_ rfl
 refine PyProof.Rows.Call_ (o5 xf hp hdb ?_) rfl
 refine Calls.callWith_function (o:=PySem.W.kla_obj name qual ⟨[],[⟨x,none,an⟩],none,[],[],none,[]⟩ body sc (od env.cells sc.names []) pm c' ct) (fd:=PySem.W.kla_fn name qual ⟨[],[⟨x,none,an⟩],none,[],[],none,[]⟩ body sc (od env.cells sc.names []) pm (.ref c') ct) ?_
 refine l9 (by rfl) (wpAny_items_cons (o5 xf hv hdy (wpAny_items_nil ?_)) (f6 fun _ _=>nofun))
 exact ⟨⟨ho,rfl⟩,a9 call fun rv s1 h1=>fin rv s1 h1⟩
end
end Mine
namespace Mine
variable {C:Cst}
noncomputable def av7 (px ps p1 q1 p2 py q3 p3 pn q4 p4:Pos) (pi pf pxa pxb pxc se1 se2:Pos):Stmt :=
 .For (.Name "x" px) (.Name "s" ps) [.If (.Call (.Name "predicate" p1) [.Name "x" pxa] [] p2)
   [.Expr (.Call (.Attribute (.Name "yes" py) "append" q3) [.Name "x" pxb] [] p3) se1]
   [.Expr (.Call (.Attribute (.Name "no" pn) "append" q4) [.Name "x" pxc] [] p4) se2] pi] [] pf
section
variable {K:Kp} {kd kd2:Kd} {sb s0:Shared} {iob io0:HI} {Z W:List Addr} {env env2:Env} {ad:Str→Addr} {O F:List Addr} {fo:Fo} {io io':HI} {g gb g1 g2:Sg} {s s':Shared} {A:Around} {lv L n:Nat} {T:Tbl} {ro:Ro}
theorem ak4 {tr:D→Sg→Option (Bool × Sg)} {d:D} {ds:List D} {pr:List D × List D} (h:jk tr (d::ds) g = some (pr,g2)) :
   ∃ b g1 pr',tr d g = some (b,g1)∧jk tr ds g1 = some (pr',g2)∧pr = (if b then (d::pr'.1,pr'.2) else (pr'.1,d::pr'.2)):=by
 refine ze2a (b8 h) fun b g3 h1 h=>?_
 refine ze2a (b8 h) fun p g4 h2 h=>?_
 apply i2 h
 exact ⟨b,g3,p,h1,h2,rfl⟩
theorem be7 {ds:List D} {i:Nat} {v:Value} {h h':Heap} {s₁:Shared} {d:D} {Z2 V:List Addr} {io1:HI} (hi:bq3 C Z2 io1 ds s₁ i v h h') (hd:ds[i]? = some d)
   (up:∀ a o,s₁.heap.get? a = some o→a∉VV C io1 Z2→h'.get? a = some o∧a∉V) (pre:∀ (k:Nat) t,io1[k]? = some t→io[k]? = some t) (hV:∀ a,h.get? a = none→a∉V):Has V io h' d v:=by
 rcases hi with ⟨d',e,hh⟩ | ⟨x,y,dx,dy,T,e,rfl,hT,hp,hx,hy⟩
 · rw [hd] at e;(injection e with e;subst e)
   exact Has.mono up pre hh
 · rw [hd] at e;(injection e with e;subst e)
   exact ⟨by show 2≤1000000;decide,T,#[x,y],rfl,hV T hT,⟨_,hp⟩,x,[y],rfl,Has.mono up pre hx,y,[],rfl,Has.mono up pre hy,rfl⟩
inductive ci6 (C:Cst) (K1:Kp) (kd2:Kd) (s0:Shared) (io0:HI) (Z1:List Addr) (env2:Env) (O F:List Addr) (St:Nat→Heap→Prop) (f:Addr) (P:List D→Sg→Option ((List D × List D) × Sg)) (ds:List D) (pr:List D × List D) (g2:Sg) (k:Nat) (s:Shared):Prop
 | mk (fo:Fo) (g:Sg) (ad:Str→Addr) (io:HI) (i:Nat) (Y N y' n':List D) (hk:k + i = ds.length + 1) (hi:i≤ds.length) (hr:P (ds.drop i) g = some ((y',n'),g2)) (eY:Y++y' = pr.1) (eN:N++n' = pr.2) (lY:Y.length≤i) (lN:N.length≤i)
   (hy:fo.lookup ("yes":Str) = some (EV.own Y)) (hn:fo.lookup ("no":Str) = some (EV.own N)) (hp:m4 kd2 env2 s.heap "predicate" (.ref f)) (hs:St i s.heap) (x:Frm C K1 kd2 s0 io0 Z1 env2 ad O F fo io g s)
theorem al1 {px ps p1 q1 p2 py q3 p3 pn q4 p4 pi pf pxa pxb pxc se1 se2:Pos} {name qual:Str} {x:Str} {an:Pos} {body:Expr} {sc:Scope} {pm ct:Value} {c' f:Addr} {ev:Ro→Expr→Sg→Option (D × Sg)} {ds:List D} {pr:List D × List D} {vs:Value}
   (rt:g9 C) (ha:AOk A (lv + 1)) (he:m6 C kd Z iob env ro sb.heap) (kb:Sok C Z iob gb sb) (hb0:q0 C iob io0 sb s0)
   (hsc:z2 sc kd x = true) (hco:sc.isCoroutine = false) (hgen:sc.isGenerator = false)
   (ho:s.heap.get? f = some (PySem.W.kla_obj name qual ⟨[],[⟨x,none,an⟩],none,[],[],none,[]⟩ body sc (od env.cells sc.names []) pm c' ct)) (hcd:s.heap.CodeRec (.ref c') qual)
   (hfv:f∉VV C io (O++(F++(W++Z)))) (hcv:c'∉VV C io (O++(F++(W++Z))))
   (hev:∀ ro,o8 C lv (fun y=>sc.names.lookup y) ro (ev ro))
   (xf:Frm C K kd2 s0 io0 (W++Z) env2 ad O F fo io g s) (hW0:∀ w∈W,s0.heap.get? w = none) (hWF:∀ w∈W,w∉F) (hs0:∀ b,s0.heap.get? b = none→sb.heap.get? b = none)
   (hs:m4 kd2 env2 s.heap "s" vs) (hp:m4 kd2 env2 s.heap "predicate" (.ref f))
   (hy:fo.lookup ("yes":Str) = some (EV.own [])) (hn:fo.lookup ("no":Str) = some (EV.own [])) (hx:c9 kd2 "x" = true)
   (hsp:zi C W (O++(F++(W++Z))) io ds vs s)
   (hl3:(q3.endLine==p3.line) = true) (hl4:(q4.endLine==p4.line) = true)
   (hpart:jk (fun d g=>c7 (ev ((x,d)::m9 sc ro) body g) fun r g=>(z6 r).map (·,g)) ds g = some (pr,g2)) :
   wpAny (model C.prog C.w) A (exec (av7 px ps p1 q1 p2 py q3 p3 pn q4 p4 pi pf pxa pxb pxc se1 se2) env2) (fun fl s'=>fl = .next∧∃ ad' fo' io',Frm C ⟨fun J J=>False,[]⟩ kd2 s0 io0 Z env2 ad' O F fo' io' g2 s' ∧
     fo'.lookup ("yes":Str) = some (EV.own pr.1)∧fo'.lookup ("no":Str) = some (EV.own pr.2)) noE s:=by
 refine wpAny_For (o5 xf hs (by decide) (a9 (bp3 ha hsp) fun it s2 src=>?_)) (cj nofun)
 obtain ⟨I,fp,wr,wf,St,rfl,WA,hst,k12,hwf,hwr,hfp⟩:=src
 have hlen:=hsp.len
 have x2:=xf.moreW k12 hwf
 have wfF:∀ w∈wf,w∉F:=fun w hw hm=>by
   refine ze (xf.sok.zal w (List.mem_append_right _ (List.mem_append_left _ hm))) fun o e=>?_
   rw [(hwf w hw).1] at e;injection e
 have wf0:∀ w∈wf,s0.heap.get? w = none:=fun w hw=>by
   induction e:s0.heap.get? w using Option.casesOn with
   | none=>rfl
   | some o=>refine ze (xf.grow.alive w o e) fun o' e'=>?_;rw [(hwf w hw).1] at e';injection e'
 have kk:∀ b o,s.heap.get? b = some o→s2.heap.get? b = some o:=by refine ze2a k12 fun h' tk e2q hkk=>?_;clear k12;subst e2q;exact hkk
 let Z2:=O++(F++(W++Z))
 let K1:Kp:=⟨fun b o=>s.heap.get? b = some o∧b∉VV C io Z2,io⟩
 have vv:∀ {b:Addr},b∉VV C io Z2→b∉C.vt∧b∉adr io∧b∉O∧b∉F∧b∉W∧b∉Z:=fun {b} h=>by
   simp only [VV,Z2,List.mem_append,not_or] at h
   exact ⟨h.1.1,h.1.2,h.2.1,h.2.2.1,h.2.2.2.1,h.2.2.2.2⟩
 let WW:=wf++W
 have x3:Frm C K1 kd2 s0 io0 (WW++Z) env2 ad O F fo io g s2:=by
   show Frm C K1 kd2 s0 io0 ((wf++W)++Z) env2 ad O F fo io g s2
   rw [List.append_assoc]
   exact x2.withK (fun b o hb=>⟨kk b o hb.1,(vv hb.2).1,(vv hb.2).2.1,(vv hb.2).2.2.1,(vv hb.2).2.2.2.1⟩) (fun J J e=>e)
 have K1f:∀ b o,K1.p b o→b∉wf:=fun b o hb hm=>by have:=hb.1;rw [(hwf b hm).1] at this;injection this
 have K1W:∀ b o,K1.p b o→b∉WW:=fun b o hb hm=>by
   rcases List.mem_append.mp hm with h | h
   · exact K1f b o hb h
   · exact (vv hb.2).2.2.2.2.1 h
 have wrW:∀ b∈wr,b∈WW:=fun b hb=>List.mem_append.mpr (hwr b hb)
 have K1r:∀ b o,K1.p b o→b∉wr:=fun b o hb hm=>K1W b o hb (wrW b hm)
 have WF:∀ w∈WW,w∉F:=fun w hw=>by
   rcases List.mem_append.mp hw with h | h
   · exact wfF w h
   · exact hWF w h
 have W0:∀ w∈WW,s0.heap.get? w = none:=fun w hw=>by
   rcases List.mem_append.mp hw with h | h
   · exact wf0 w h
   · exact hW0 w h
 have fpW:∀ b∈fp,b∈WW∨∃ o,K1.p b o:=fun b hb=>by
   rcases hfp b hb with h | h | ⟨o,h1,h2⟩
   · exact .inl (List.mem_append_left _ h)
   · exact .inl (List.mem_append_right _ h)
   · exact .inr ⟨o,h1,h2⟩
 have hp2:m4 kd2 env2 s2.heap "predicate" (.ref f):=hp.keep (fun o e=>kk _ o e) fun c o J J e=>kk _ o e
 let P:List D→Sg→Option ((List D × List D) × Sg):=jk fun d g=>c7 (ev ((x,d)::m9 sc ro) body g) fun r g=>(z6 r).map (·,g)
 let Inv:Nat→Shared→Prop:=ci6 C K1 kd2 s0 io0 (WW++Z) env2 O F St f P ds pr g2
 refine codeAny_forLoop_any Inv ?_ (ds.length + 1)
   ⟨fo,g,ad,io,0,[],[],pr.1,pr.2,rfl,Nat.zero_le _,by simpa using hpart,rfl,rfl,Nat.zero_le _,Nat.zero_le _,hy,hn,hp2,hst,x3⟩
 rintro k s4 ⟨fo4,g4,ad4,io4,i,Y,N,y',n',hki,hi,hrun,eY,eN,lY,lN,hyl,hnl,hpv,sti,xi⟩
 have wO:∀ w∈WW,w∉O:=fun w hw hm=>xi.disj w hm (by simp [hw])
 by_cases hlt:i < ds.length
 · refine WA.item i _ _ _ hlt sti fun v hp' tkp hPv hstp hkp=>?_
   have tw:aw wr s4 { s4 with heap:=hp',toks:=tkp }:=⟨⟨hp',tkp,rfl⟩,fun b o e hb=>hkp b o hb e,fun b hb J=>WA.alive _ _ hstp b hb⟩
   have xj:=xi.touch tw (fun w hw=>⟨List.mem_append_left _ (wrW w hw),wO w (wrW w hw),WF w (wrW w hw)⟩) K1r fun w hw=>W0 w (wrW w hw)
   have hd:ds[i]? = some ds[i]:=List.getElem?_eq_getElem hlt
   have hdrop:ds.drop i = ds[i]::ds.drop (i + 1):=List.drop_eq_getElem_cons hlt
   generalize ds[i] = d at hd hdrop
   rw [hdrop] at hrun
   refine ze3a2 (ak4 hrun) fun b g5 pr' hb hrest hpr=>?_
   refine ze2a (b8 hb) fun r g6 hev1 hb=>?_
   refine zea2 (y8 hb) fun b' hbt e2q e3q=>?_;subst e2q;subst e3q
   have alive4:∀ a∈VV C io4 (O++(F++(WW++Z))),∃ o,s4.heap.get? a = some o:=fun a hm=>by
     simp only [VV,List.mem_append] at hm
     rcases hm with (hm | hm) | hm
     · exact xi.sok.val a hm
     · exact xi.sok.st.alive C a hm
     · exact xi.sok.zal a (by simpa using hm)
   have hdv:Has (VV C io4 (O++(F++(WW++Z)))) io4 hp' d v:=be7 hPv hd (fun a o e hn=>by
     refine za4 (xj.kept a o ⟨e,hn⟩) fun q1 q2 q3 q4 q5=>?_
     refine ⟨q1,fun hm=>?_⟩
     simp only [VV,List.mem_append] at hm
     rcases hm with (hm | hm) | hm | hm | hm | hm
     · exact q2 hm
     · exact q3 hm
     · exact q4 hm
     · exact q5 hm
     · exact K1W a o ⟨e,hn⟩ hm
     · exact (vv hn).2.2.2.2.2 hm) xj.pref fun a hn hm=>by refine ze (alive4 a hm) fun o e=>?_;rw [hn] at e;injection e
   show wpAny _ A (letOwnedTupleGo (.Name "x" px) (.ref I) v) _ _ _
   refine wpAny_pure ?_
   have nF:∀ b∈F,b∉wr:=fun b hb hm=>WF b (wrW b hm) hb
   have hpv':m4 kd2 env2 hp' "predicate" (.ref f):=hpv.keep (fun o e=>hkp _ o (nF _ xi.lF) e) fun c o hk hc e=>by
     refine ze2a3 (xi.all _ hk) fun c' J h1 J h4 J=>?_
     rw [hc] at h1;(injection h1 with h1;subst h1)
     exact hkp _ o (nF _ h4) e
   refine wpAny_assign_Name (xj.store' (ev:=.val d) (a:=ad4 "x") hx hdv (fun l hl=>by injection hl) fun s5 x5 kp5 vk5=>?_)
   have hp5:=vk5 _ _ (by decide) hpv'
   have ho5:s5.heap.get? f = some (PySem.W.kla_obj name qual ⟨[],[⟨x,none,an⟩],none,[],[],none,[]⟩ body sc (od env.cells sc.names []) pm c' ct):=(x5.kept f _ ⟨ho,hfv⟩).1
   have hcd5:s5.heap.CodeRec (.ref c') qual:=by
     refine ze4a3 hcd fun c2 oc vs2 tq h1 h2 h3 h4=>?_;clear hcd
     injection h1 with h1;subst h1
     exact ⟨c',oc,vs2,tq,rfl,(x5.kept c' _ ⟨h2,hcv⟩).1,h3,h4⟩
   have xx:=f4 (z:=("x":Str)) (v:=EV.val d) ("x":Str) fo4
   rw [if_pos rfl] at xx
   have xy:=(f4 (z:=("x":Str)) (v:=EV.val d) ("yes":Str) fo4).trans (if_neg (by decide))
   have xn:=(f4 (z:=("x":Str)) (v:=EV.val d) ("no":Str) fo4).trans (if_neg (by decide))
   refine wpAny_execs_cons (wpAny_If (a9 (bk9 (q:=p2) (W:=WW) rt ha he kb (hb0.trans C x5.grow) (fun b hb=>by
     simp only [List.mem_append] at hb
     rcases hb with (h | h) | h
     · exact hs0 b (x5.fresh b (List.mem_append_left _ h))
     · exact hs0 b (x5.fresh b (List.mem_append_right _ h))
     · exact hs0 b (W0 b h)) x5 hp5 (by decide) xx (by decide) hsc hco hgen ho5 hcd5 hev hev1 hbt) ?_))
   rintro c6 s6 ⟨rfl,io6,y6,k6⟩
   have x6:=x5.step y6 k6
   have inF:∀ b∈F,b∈O++(F++(WW++Z)):=fun b hb=>List.mem_append_right _ (List.mem_append_left _ hb)
   have keep6:∀ b∈O++(F++(WW++Z)),∀ o,s5.heap.get? b = some o→s6.heap.get? b = some o:=fun b hb o e=>y6.keep b o e (x5.sok.zd b hb).1 (x5.sok.zd b hb).2.1
   have hp6:m4 kd2 env2 s6.heap "predicate" (.ref f):=hp5.keep (fun o e=>keep6 _ (inF _ x5.lF) o e) fun c o hk hc e=>by
     refine ze2a3 (x5.all _ hk) fun c' J h1 J h4 J=>?_
     rw [hc] at h1;(injection h1 with h1;subst h1)
     exact keep6 _ (inF _ h4) o e
   have last:∀ {z:Str} {l:List D} {s7:Shared} {fo7:Fo} {io7 g7},(o9 "x" (.val d) fo4).lookup z = some (.own l)→Frm C K1 kd2 s0 io0 (WW++Z) env2 (fun y=>if y = "x" then ad4 "x" else ad4 y) O F fo7 io7 g7 s7 →
       (∀ b o,b≠(if z = "x" then ad4 "x" else ad4 z)→s6.heap.get? b = some o→s7.heap.get? b = some o)→St (i + 1) s7.heap∧m4 kd2 env2 s7.heap "predicate" (.ref f):=by
     intro z l s7 fo7 io7 g7 hz x7 k7
     refine zea3 (x6.vals z _ hz) fun vz J J hzO J=>?_
     have offO:∀ b o,b∉O→s6.heap.get? b = some o→s7.heap.get? b = some o:=fun b o hb e=>k7 b o (fun he=>hb (he ▸ hzO)) e
     refine ⟨WA.frame _ _ _ hstp (fun b hb o e=>?_) fun b o e=>?_,hp6.keep (fun o e=>offO _ o (fun hm=>x6.disj _ hm (List.mem_append_left _ x6.lF)) e) fun c o hk hc e=>?_⟩
     · rcases fpW b hb with h | ⟨o',h⟩
       · exact offO b o (wO b h) (keep6 b (by simp [h]) o (kp5 b o (WF b h) e))
       · have e1:=(xj.kept b o' h).1
         have e1':hp'.get? b = some o':=e1
         rw [e] at e1';(injection e1' with e1';subst e1')
         exact (x7.kept b _ h).1
     · by_cases hbF:b∈F
       · exact x7.sok.zal b (inF b hbF)
       · refine ze (y6.alive b o (kp5 b o hbF e)) fun o6 e6=>?_
         by_cases hbO:b∈O
         · exact x7.sok.zal b (List.mem_append_left _ hbO)
         · exact ⟨o6,offO b o6 hbO e6⟩
     · refine ze2a3 (x6.all _ hk) fun c' J h1 J h4 J=>?_
       rw [hc] at h1;(injection h1 with h1;subst h1)
       exact offO _ o (fun hm=>x6.disj _ hm (List.mem_append_left _ h4)) e
   have hx6:∀ {z:Str},∃ vx,m4 kd2 env2 s6.heap "x" vx∧Has (VV C io6 (O++(F++(WW++Z)))) io6 s6.heap d vx:=fun {z}=>x6.vals "x" _ xx
   refine zea (x6.vals "x" _ xx) fun vx hvx hdx=>?_
   have nx1:k - 1 < k:=by lia
   induction c6 using Bool.casesOn with
   | true =>
     rw [if_pos rfl]
     simp only [if_true] at hpr
     injection hpr with hpr1 hpr2;subst hpr1;subst hpr2
     refine wpAny_execs_cons (a9 (eg x6 (d:=d) (xy.trans hyl) (by decide) hl3 rfl (by lia) (Q:=fun fl s'=>fl = .next∧∃ m,m < k∧Inv m s')
       fun a J=>o5 x6 hvx (by decide) ⟨io6,_,q0.refl C,x6.sok,hdx,fun s7 x7 k7=>⟨rfl,k - 1,nx1,?_⟩⟩) ?_)
     · have l7:=last (xy.trans hyl) x7 k7
       refine ⟨_,_,_,_,i + 1,Y++[d],N,pr'.1,pr'.2,by lia,by lia,hrest,by rw [← eY];simp,eN,by rw [List.length_append];simp;lia,by lia,?_,?_,l7.2,l7.1,x7⟩
       · rw [f4,if_pos rfl]
       · rw [f4,if_neg (by decide)];exact xn.trans hnl
     · rintro fl s8 ⟨rfl,h8⟩
       exact wpAny_execs_nil (wpAny_execs_nil h8)
   | false =>
     rw [if_neg (by decide)]
     simp only [Bool.false_eq_true,if_false] at hpr
     injection hpr with hpr1 hpr2;subst hpr1;subst hpr2
     refine wpAny_execs_cons (a9 (eg x6 (d:=d) (xn.trans hnl) (by decide) hl4 rfl (by lia) (Q:=fun fl s'=>fl = .next∧∃ m,m < k∧Inv m s')
       fun a J=>o5 x6 hvx (by decide) ⟨io6,_,q0.refl C,x6.sok,hdx,fun s7 x7 k7=>⟨rfl,k - 1,nx1,?_⟩⟩) ?_)
     · have l7:=last (xn.trans hnl) x7 k7
       refine ⟨_,_,_,_,i + 1,Y,N++[d],pr'.1,pr'.2,by lia,by lia,hrest,eY,by rw [← eN];simp,by lia,by rw [List.length_append];simp;lia,?_,?_,l7.2,l7.1,x7⟩
       · rw [f4,if_neg (by decide)];exact xy.trans hyl
       · rw [f4,if_pos rfl]
     · rintro fl s8 ⟨rfl,h8⟩
       exact wpAny_execs_nil (wpAny_execs_nil h8)
 · have hin:i = ds.length:=by lia
   subst hin
   rw [List.drop_length] at hrun
   injection hrun with hrun;injection hrun with hrun1 hrun2;injection hrun1 with hrun11 hrun12;subst hrun11;subst hrun12;subst g4
   rw [List.append_nil] at eY eN
   subst eY eN
   refine WA.done _ _ _ sti fun hp' tkp hkp=>wpAny_execs_nil ⟨rfl,ad4,fo4,io4,?_,hyl,hnl⟩
   have hZ:∀ w∈WW,w∉Z:=fun w hw hm=>by
     refine ze (kb.zal w hm) fun o e=>?_
     refine ze (hb0.alive w o e) fun o' e'=>?_
     rw [W0 w hw] at e';injection e'
   exact (xi.dropW (h':=hp') (tk:=tkp) (fun b o e hb=>hkp b o (fun hm=>hb (wrW b hm)) e) WF hZ W0 K1W).withK (fun J J h=>h.elim) fun k t e=>by simp at e
end
end Mine
end
section
open PySem PySem.W
namespace Mine
theorem to {pos pos':Pos} {c:Value} (l:List Value) (h:TriplesOk l):codeAmong pos (l++[rawInt pos'.line,rawInt pos'.col,c]) = match codeAmong pos l with | some x=>some x | none=>if pos'.line==pos.line&&pos'.col==pos.col then some c else none:=by
 fun_induction TriplesOk l with
 | case1 =>
   simp only [List.nil_append,codeAmong,rawInt]
   have e1:((pos'.line:Int)==(pos.line:Int)) = (pos'.line==pos.line):=by rw [Bool.eq_iff_iff];simp;lia
   have e2:((pos'.col:Int)==(pos.col:Int)) = (pos'.col==pos.col):=by rw [Bool.eq_iff_iff];simp;lia
   rw [e1,e2]
 | case2 a t b u x rest ih =>
   simp only [List.cons_append,codeAmong]
   split
   · rfl
   · exact ih h
 | case3 l h1 h2=>exact h.elim
noncomputable def bs3 (spc:List (Addr × Addr × Str)) (V:List Addr) (h:Heap):Prop:=∀ c P q,(c,P,q)∈spc→∃ ps,h.get? P = some (tabObj ps)∧TriplesOk ps.toList ∧
 ∀ pos,codeAmong pos ps.toList = none∨∃ c',codeAmong pos ps.toList = some (.ref c')∧h.CodeRec (.ref c') (q++"<lambda>")∧c'∉V
theorem bs3.keep {spc:List (Addr × Addr × Str)} {vt:List Addr} (hv:∀ c P q,(c,P,q)∈spc→P∈vt):∀ (V V':List Addr) (h h':Heap),bs3 spc V h→(∀ b∈vt,∀ o,h.get? b = some o→h'.get? b = some o) →
   (∀ a o vs,h.get? a = some o→o.data = .fields vs→a∉V→h'.get? a = some o∧a∉V')→bs3 spc V' h':=by
 intro V V' h h' x k1 k2 c P q hm
 refine zea2 (x c P q hm) fun ps h1 h2 h3=>?_
 refine ⟨ps,k1 _ (hv c P q hm) _ h1,h2,fun pos=>?_⟩
 rcases h3 pos with h | ⟨c',e,⟨c2,o,vs,t,ec,eo,ed,ev⟩,hn⟩
 · exact .inl h
 · injection ec with ec;subst ec
   refine za (k2 c' o vs eo ed hn) fun q1 q2=>?_
   exact .inr ⟨c',e,⟨c',o,vs,t,rfl,q1,ed,ev⟩,q2⟩
noncomputable def we (pa pb pc pd pe pg px ps p1 q1 p2 py q3 p3 pn q4 p4 pi pf pxa pxb pxc se1 se2 r1 r2 r3 r4:Pos) (k:Nat):List Stmt :=
 [.Assign [.Name "yes" pa] (.List [] pb) pc,.Assign [.Name "no" pd] (.List [] pe) pg,av7 px ps p1 q1 p2 py q3 p3 pn q4 p4 pi pf pxa pxb pxc se1 se2,.Return (some (.Tuple [.Name "yes" r1,.Name "no" r2] k r3)) r4]
variable {C:Cst}
inductive bi7 (C:Cst):Prop
 | mk (a:Addr) (fd:FuncData) (pa:Pos) (pb:Pos) (pc:Pos) (pd:Pos) (pe:Pos) (pg:Pos) (px:Pos) (ps:Pos) (p1:Pos) (q1:Pos) (p2:Pos) (py:Pos) (q3:Pos) (p3:Pos) (pn:Pos) (q4:Pos) (p4:Pos) (pi:Pos) (pf:Pos) (pxa:Pos) (pxb:Pos) (pxc:Pos) (se1:Pos) (se2:Pos) (r1:Pos) (r2:Pos) (r3:Pos) (r4:Pos) (k:Nat)
   (e1:C.mg "_split_list" = some (.ref a)) (e2:oy C a fd (we pa pb pc pd pe pg px ps p1 q1 p2 py q3 p3 pn q4 p4 pi pf pxa pxb pxc se1 se2 r1 r2 r3 r4 k)) (e3:(q3.endLine==p3.line) = true) (e4:(q4.endLine==p4.line) = true) (e5:(∀ v w,bindArgs fd ⟨[v,w],[]⟩ = pure [(("s":Str),v),(("predicate":Str),w)])) (e6:(∀ y∈fd.scope.names,y.2≠.cell)) (e7:(∀ y∈(["s","predicate","yes","no","x"]:List Str),fd.scope.names.lookup y = some .local)) (e8:fd.scope.names.lookup ("_split_list":Str)≠some .globalImplicit)
structure aj9 (C:Cst):Prop where
 vt:∀ V h,C.vtOk V h↔bs3 C.spc V h
 vm:∀ c P q,(c,P,q)∈C.spc→P∈C.vt
 vs:∀ P∈C.vt,∃ c q,(c,P,q)∈C.spc
 inj:∀ t∈C.spc,∀ u∈C.spc,t.2.1 = u.2.1→t = u
 hd:∀ c P q,(c,P,q)∈C.spc→CodeHd C.H c P
 bm:∃ bm ob,C.mg "__builtins__" = some (.ref bm)∧bm≠builtinsNs∧bm≠mainGlobals∧C.H.get? bm = some ob∧ob.cls = .type "module"∧ob.dict = some builtinsNs∧ob.data = .plain
 glo:bi7 C
theorem pw {x:Str} {l:List D}:∀ {fo:Fo},fo.lookup x = some (.own l)→(frz fo).lookup x = some (.lst l)
 | [],h=>by injection h
 | (y,.val e)::r,h=>by
   simp only [frz]
   by_cases hb:(x==y) = true
   · simp only [List.lookup,hb,Option.some.injEq] at h;injection h
   · have hb':(x==y) = false:=by simpa using hb
     simp only [List.lookup,hb'] at h ⊢
     exact pw h
 | (y,.own e)::r,h=>by
   simp only [frz]
   by_cases hb:(x==y) = true
   · simp only [List.lookup,hb,Option.some.injEq] at h ⊢;(injection h with h;subst e);rfl
   · have hb':(x==y) = false:=by simpa using hb
     simp only [List.lookup,hb'] at h ⊢
     exact pw h
section
variable {kd:Kd} {s s1:Shared} {io io1:HI} {Z W:List Addr} {env:Env} {g g1 g2:Sg} {A:Around} {lv:Nat} {ro:Ro}
theorem rl {name qual:Str} {x:Str} {an:Pos} {body:Expr} {sc:Scope} {pm ct:Value} {a c' f:Addr} {fd:FuncData} {ev:Ro→Expr→Sg→Option (D × Sg)} {ds:List D} {pr:List D × List D} {v:Value}
   {pa pb pc pd pe pg px ps p1 q1 p2 py q3 p3 pn q4 p4 pi pf pxa pxb pxc se1 se2 r1 r2 r3 r4:Pos} {kk:Nat}
   (fn:oy C a fd (we pa pb pc pd pe pg px ps p1 q1 p2 py q3 p3 pn q4 p4 pi pf pxa pxb pxc se1 se2 r1 r2 r3 r4 kk)) (hl3:(q3.endLine==p3.line) = true) (hl4:(q4.endLine==p4.line) = true)
   (hb:∀ v w,bindArgs fd ⟨[v,w],[]⟩ = pure [(("s":Str),v),(("predicate":Str),w)]) (hcell:∀ y∈fd.scope.names,y.2≠.cell) (hnm:∀ y∈(["s","predicate","yes","no","x"]:List Str),fd.scope.names.lookup y = some .local)
   (hns:fd.scope.names.lookup ("_split_list":Str)≠some .globalImplicit)
   (rt:g9 C) (ha:AOk A (lv + 2)) (he:m6 C kd Z io env ro s.heap) (kb:Sok C Z io g s) (x1:q0 C io io1 s s1) (k1:Sok C (W++Z) io1 g1 s1) (hW:∀ w∈W,s.heap.get? w = none) (hspl:zi C W (W++Z) io1 ds v s1)
   (hsc:z2 sc kd x = true) (hco:sc.isCoroutine = false) (hgen:sc.isGenerator = false)
   (ho:s1.heap.get? f = some (PySem.W.kla_obj name qual ⟨[],[⟨x,none,an⟩],none,[],[],none,[]⟩ body sc (od env.cells sc.names []) pm c' ct)) (hcd:s1.heap.CodeRec (.ref c') qual)
   (hfv:f∉VV C io1 (W++Z)) (hcv:c'∉VV C io1 (W++Z)) (hev:∀ ro,o8 C lv (fun y=>sc.names.lookup y) ro (ev ro))
   (hpart:jk (fun d g=>c7 (ev ((x,d)::m9 sc ro) body g) fun r g=>(z6 r).map (·,g)) ds g1 = some (pr,g2)) :
   wpAny (model C.prog C.w) A (call (.ref a) [v,.ref f]) (ff C Z io s (.tup [.lst pr.1,.lst pr.2]) g2) noE s1:=by
 refine zea fn.get fun o hoa hd=>?_
 refine wpAny_call (codeAny_call_function (by have:=ha.dp;show A.depth < 1000;lia) (k1.base _ _ hoa) hd fn.co fn.gen fn.body (fn.cd.keeps k1.base) ?_)
 rw [hb,fn.clo]
 have hs:=hnm "s" (by decide)
 have hp:=hnm "predicate" (by decide)
 refine wpAny_pure (wpAny_newFunctionEnv hcell (fun y hy=>by
   simp only [List.mem_cons,List.not_mem_nil,or_false] at hy
   rcases hy with rfl | rfl
   · exact hs
   · exact hp) (fun h₁ hns1 hsb=>⟨?_,codeAny_func ?_⟩) fn.kind)
 · exact (rt.nolimit.keeps k1.base).keeps fun b o e=>hsb.extBut b o (Nat.ne_of_lt (Heap.lt_size e)) (Heap.get?_push_of_some _ e)
 · let L:=s1.heap.objs.size
   let s2:Shared:={ s1 with heap:=h₁,toks:=s1.toks + 2 }
   let env2:Env:=newEnv fd.scope L fd.globals [] (fd.qualname++".<locals>.") (some a) fd.code none fd.builtins
   have hkk:∀ b o,s1.heap.get? b = some o→h₁.get? b = some o:=fun b o e=>hsb.extBut b o (Nat.ne_of_lt (Heap.lt_size e)) (Heap.get?_push_of_some _ e)
   have kp:Keeps s1 s2:=⟨h₁,s1.toks + 2,rfl,hkk⟩
   have hLn:s1.heap.get? L = none:=d9 _
   have hLa:∃ o,h₁.get? L = some o:=by refine ze3a hns1 fun o J J e J=>?_;clear hns1;exact ⟨o,e⟩
   have x2:=x1.trans C (Keeps.grow C kp)
   have hL0:s.heap.get? L = none:=by
     induction e:s.heap.get? L using Option.casesOn with
     | none=>rfl
     | some o=>refine ze (x1.alive _ o e) fun o' e'=>?_;rw [hLn] at e';injection e'
   have kof:∀ y,env2.kindOf y = fd.scope.names.lookup y:=fun y=>rfl
   have vsA:m4 (fun y=>fd.scope.names.lookup y) env2 s2.heap "s" v:=.inl ⟨hs,_,hns1,by simp only [List.reverse_cons,List.reverse_nil,List.nil_append,List.cons_append,List.lookup,show (("s":Str)==("predicate":Str)) = false by decide,beq_self_eq_true]⟩
   have vp2:m4 (fun y=>fd.scope.names.lookup y) env2 s2.heap "predicate" (.ref f):=.inl ⟨hp,_,hns1,by simp [List.lookup]⟩
   have nocell:∀ y,fd.scope.names.lookup y≠some .cell:=fun y hy=>hcell _ (PySem.mem_of_lookup hy) rfl
   have xf:Frm C ⟨fun J J=>False,[]⟩ (fun y=>fd.scope.names.lookup y) s io (W++Z) env2 (fun J=>0) [] [L] [] io1 g1 s2:={
     grow:=x2
     fresh:=fun c hc=>by simp only [List.nil_append,List.mem_singleton] at hc;subst hc;exact hL0
     sok:=Sok.more k1 hLn kp hLa
     kdo:=kof
     fn:=fn.kind
     bk:=by simp [env2,Env.blockKind,newEnv,fn.kind]
     gl:=fn.gl
     bi:=fn.bi
     cd:=fun h=>absurd h hns
     lF:=.head _
     ns:=⟨_,hns1⟩
     all:=fun y hy=>absurd hy (nocell y)
     inj:=fun y z c hy J J J=>absurd hy (nocell y)
     nofree:=fun y hy=>fn.nofree _ (PySem.mem_of_lookup hy) rfl
     vals:=fun y ev hy=>by injection hy
     olist:=fun a ha=>by cases ha
     disj:=fun a ha=>by cases ha
     apart:=fun y z m m' J h1 J=>by injection h1
     nd:=by simp
     kept:=fun b o hb=>hb.elim
     pref:=fun k t e=>by simp at e }
   have can:∀ y∈(["s","predicate","yes","no","x"]:List Str),c9 (fun y=>fd.scope.names.lookup y) y = true:=fun y hy=>by unfold c9;simp only [hnm y hy];rfl
   have ha2:AOk (A.deeper env2) (lv + 1):=⟨ha.hh,by have:=ha.dp;show A.depth + 1 + (lv + 1)≤900;lia,by have:=ha.un;show A.units + 3 + 8 * (lv + 1)≤9000;lia⟩
   have main:wpAny (model C.prog C.w) (A.deeper env2) (execs (we pa pb pc pd pe pg px ps p1 q1 p2 py q3 p3 pn q4 p4 pi pf pxa pxb pxc se1 se2 r1 r2 r3 r4 kk) env2) (fun fl s'=>∃ v,fl = .ret v∧ff C Z io s (.tup [.lst pr.1,.lst pr.2]) g2 v s') noE s2:=?_
   · refine a9 main ?_
     rintro fl s3 ⟨v,rfl,h3⟩
     exact h3
   refine wpAny_execs_cons (gz (A:=A.deeper env2) xf (can "yes" (by decide)) fun ad3 a3 s3 n3 xf3 k3 v3=>?_)
   refine wpAny_execs_cons (gz (A:=A.deeper env2) xf3 (can "no" (by decide)) fun ad4 a4 s4 n4 xf4 k4 v4=>?_)
   have hkk4:∀ b o,s1.heap.get? b = some o→s4.heap.get? b = some o:=fun b o e=>by
     have hb:b∉[L]:=fun hm=>by simp only [List.mem_singleton] at hm;subst hm;rw [hLn] at e;injection e
     exact k4 b o hb (k3 b o hb (hkk b o e))
   have kp4:Keeps s1 s4:=by
     refine ze2 xf4.grow.same fun h4 t4 e4=>?_
     refine ze2 x1.same fun h1' t1 e1=>?_
     exact ⟨s4.heap,s4.toks,by rw [e4,e1],hkk4⟩
   have fr4:∀ b∈[a4,a3]++[L],s1.heap.get? b = none:=fun b hb=>by
     induction e:s1.heap.get? b using Option.casesOn with
     | none=>rfl
     | some o =>
       have hbL:b∉[L]:=fun hm=>by simp only [List.mem_singleton] at hm;subst hm;rw [hLn] at e;injection e
       simp only [List.mem_append,List.mem_cons,List.not_mem_nil,or_false] at hb
       rcases hb with (rfl | rfl) | rfl
       · have:=k3 _ o hbL (hkk _ o e);rw [n4] at this;injection this
       · have:=hkk _ o e;have n3':h₁.get? b = none:=n3;rw [n3'] at this;injection this
       · rw [hLn] at e;injection e
   have W1:∀ w∈W,∃ o,s1.heap.get? w = some o:=fun w hw=>k1.zal w (List.mem_append_left _ hw)
   have up:∀ {b:Addr} {o:Obj},s1.heap.get? b = some o→b∉VV C io1 (W++Z)→b∉VV C io1 ([a4,a3]++([L]++(W++Z))):=fun {b o} e hv hm=>by
     rw [← List.append_assoc] at hm
     rcases fj hm with hm | hm
     · exact hv hm
     · rw [fr4 b hm] at e;injection e
   have hsp4:zi C W ([a4,a3]++([L]++(W++Z))) io1 ds v s4:=by
     rw [← List.append_assoc]
     exact hspl.up (Keeps.grow C kp4) (fun b hb=>List.mem_append_left _ hb) k1 fr4
   refine ze4a3 (id hcd) fun c2 oc vs2 tq ec hoc hdc hqc=>?_
   injection ec with ec;subst ec
   have hWL:∀ w∈W,w∉[L]:=fun w hw hm=>by
     refine ze (W1 w hw) fun o e=>?_
     simp only [List.mem_singleton] at hm;subst hm;rw [hLn] at e;injection e
   refine wpAny_execs_cons (a9 (al1 (A:=A.deeper env2) rt ha2 he kb (q0.refl C) hsc hco hgen (hkk4 _ _ ho) (hcd.keeps hkk4) (up ho hfv) (up hoc hcv) hev xf4 hW hWL (fun b e=>e)
     (v4 _ _ (by decide) (v3 _ _ (by decide) vsA)) (v4 _ _ (by decide) (v3 _ _ (by decide) vp2)) ((f4 _ _).trans (if_neg (by decide))) ((f4 _ _).trans (if_pos rfl)) (can "x" (by decide)) hsp4 hl3 hl4 hpart) ?_)
   rintro fl s5 ⟨rfl,ad5,fo5,io5,xf5,hy5,hn5⟩
   refine zea (xf5.frzVal (pw hy5)) fun vy hvy hdy=>?_
   refine zea (xf5.frzVal (pw hn5)) fun vn hvn hdn=>?_
   refine wpAny_execs_cons (wpAny_Return_some (PyProof.Rows.Tuple_ (wpAny_items_cons (o5 xf5 hvy (by decide) (wpAny_items_cons (o5 xf5 hvn (by decide) (wpAny_items_nil ?_)))))))
   have hh:f0 (VV C io5 ([L]++Z)) io5 s5.heap [.lst pr.1,.lst pr.2] [vy,vn]:=by
     exact ⟨vy,_,rfl,hdy,vn,_,rfl,hdn,rfl⟩
   have z:=de xf5.lessSok (tk:=s5.toks) (n:=0) (by show 2≤1000000;decide) hh
   have kz:=Keeps.sok C z.1 xf5.lessSok
   exact wpAny_newObj_type ⟨_,rfl,io5,xf5.grow.trans C (Keeps.grow C z.1),kz.less C fun b hb=>List.mem_append_right _ hb,Has.less z.2 fun b hb=>List.mem_append_right _ hb⟩ (by show 2≤sizeLine;rw [sizeLine_eq];decide)
end
end Mine
namespace Mine
variable {C:Cst}
section
variable {kd:Kd} {s s1:Shared} {io io1:HI} {Z W:List Addr} {env:Env} {g g1 g2:Sg} {A:Around} {lv:Nat} {ro:Ro} {T:Tbl}
theorem lj (k:Sok C Z io g s):∀ a∈VV C io Z,∃ o,s.heap.get? a = some o:=fun a hm=>by
 simp only [VV,List.mem_append] at hm
 rcases hm with (hm | hm) | hm
 · exact k.val a hm
 · exact k.st.alive C a hm
 · exact k.zal a hm
theorem Sok.table (rt:g9 C) (k:Sok C Z io g s) {P:Addr} {ps:Array Value} (hPm:P∈C.vt) (hP:s.heap.get? P = some (tabObj ps)) {h':Heap} {tk:Tok} (hk:∀ b o,b≠P→s.heap.get? b = some o→h'.get? b = some o)
   (hP':∃ o,h'.get? P = some o) (hv:C.vtOk (VV C io Z) h'):Sok C Z io g { s with heap:=h',toks:=tk }∧q0 C io io s { s with heap:=h',toks:=tk }:=by
 have nH:∀ b o,C.H.get? b = some o→b≠P:=fun b o e he=>by rw [he,rt.vtH P hPm] at e;injection e
 have nV:∀ b,b∉VV C io Z→b≠P:=fun b hb he=>hb (by rw [he];simp [VV,hPm])
 refine ⟨⟨fun a o e=>hk a o (nH a o e) (k.base a o e),⟨k.st.len,fun i t ps' h1 h2=>?_,k.st.nodup,k.st.below,hv⟩,fun z hz=>?_,k.zd,fun z hz=>?_⟩,⟨⟨h',tk,rfl⟩,fun b o e hb J=>hk b o (fun he=>hb (he ▸ hPm)) e,fun b o e=>?_,fun J J e=>e,fun J h=>.inl h⟩⟩
 · have HH:=k.st.at' i t ps' h1 h2
   refine ze3 HH.dict fun hs tk' n hd=>?_
   refine zea HH.list fun vs e1q hh=>?_;obtain ⟨n2,hl⟩:=e1q
   refine ⟨hk _ _ (fun he=>?_) HH.inst,⟨hs,tk',n,hk _ _ (fun he=>?_) hd⟩,⟨vs,⟨n2,hk _ _ (fun he=>?_) hl⟩,f0.mono (fun a o e ha=>⟨hk a o (nV a ha) e,ha⟩) (fun J J e=>e) hh⟩,HH.len⟩
   · have:=HH.inst;rw [he,hP] at this;(injection this with this;injection this with this1 this2 this3 this4;injection this1)
   · rw [he,hP] at hd;(injection hd with hd;injection hd with hd1 hd2 hd3 hd4;injection hd1)
   · rw [he,hP] at hl;(injection hl with hl;injection hl with hl1 hl2 hl3 hl4;injection hl1)
 · obtain ⟨o,e⟩:=k.zal z hz
   exact ⟨o,hk z o (fun he=>(k.zd z hz).1 (he ▸ hPm)) e⟩
 · by_cases he:z = P
   · rw [he];exact hP'
   · obtain ⟨o,e⟩:=k.val z hz
     exact ⟨o,hk z o he e⟩
 · by_cases he:b = P
   · rw [he];exact hP'
   · exact ⟨o,hk b o he e⟩
theorem aj1 (sp:aj9 C) (rt:g9 C) (hgl:env.globals = mainGlobals) {c P:Addr} (hspc:(c,P,env.qual)∈C.spc) (hcode:env.code = .ref c) (k:Sok C Z io g s) {x:Str} {an lp:Pos} {body:Expr} {sc:Scope}
   (hcl:∀ p∈sc.names,p.2 = .free→∃ c,env.cells.lookup p.1 = some c) {Q:Value→Shared→Prop}
   (hq:∀ f s' c' ct,q0 C io io s s'→Sok C Z io g s'→s'.heap.get? f = some (kla_obj "<lambda>" (env.qual++"<lambda>") ⟨[],[⟨x,none,an⟩],none,[],[],none,[]⟩ body sc (od env.cells sc.names []) ((C.mg "__name__").getD .none) c' ct) →
     s'.heap.CodeRec (.ref c') (env.qual++"<lambda>")→f∉VV C io Z→c'∉VV C io Z→Q (.ref f) s') :
   wpAny (model C.prog C.w) A (eval (.Lambda ⟨[],[⟨x,none,an⟩],none,[],[],none,[]⟩ body sc lp) env) Q noE s:=by
 have vt:=(sp.vt _ _).mp k.st.vt
 refine zea2 (vt c P _ hspc) fun ps hP ht hca=>?_
 have hPm:=sp.vm c P _ hspc
 have hPH:=rt.vtH P hPm
 obtain ⟨bm,ob,b1,b2,b3,b4,b5,b6,b7⟩:=sp.bm
 have hbP:bm≠P:=fun he=>by rw [he,hPH] at b4;injection b4
 have hgP:mainGlobals≠P:=fun he=>by
   refine ze3a rt.g fun o es ep e J=>?_
   rw [he,hPH] at e;injection e
 have hcd:=(sp.hd c P _ hspc).keeps k.base
 have hg:=rt.g.keeps k.base
 have hb:s.heap.BuiltinsAt C.mg P:=⟨bm,ob,b1,b2,b3,hbP,k.base _ _ b4,b5,b6,b7⟩
 have clo:closureFor sc env = pure (od env.cells sc.names []):=ki hcl
 have old:∀ a∈VV C io Z,a < s.heap.objs.size:=fun a ha=>by refine ze (lj k a ha) fun o e=>?_;exact Heap.lt_size e
 refine kla_eval rfl ?_
 rcases hca lp with hnf | ⟨c',hf,hrec,hc'⟩
 · refine kla_makeFunction (mg:=C.mg) clo hgl hg hcode hcd hP ht hnf hgP hb fun c' ctv h' tk hx hge hlt hrec htb=>?_
   have hk:∀ b o,b≠P→s.heap.get? b = some o→(h'.push (kla_obj "<lambda>" (env.qual++"<lambda>") ⟨[],[⟨x,none,an⟩],none,[],[],none,[]⟩ body sc (od env.cells sc.names []) ((C.mg "__name__").getD .none) c' ctv)).get? b = some o:=fun b o hb e=>Heap.get?_push_of_some _ (hx b o hb e)
   have hcv:c'∉VV C io Z:=fun hm=>Nat.lt_irrefl _ (Nat.lt_of_lt_of_le (old c' hm) hge)
   have hfv:h'.objs.size∉VV C io Z:=fun hm=>Nat.lt_irrefl _ (Nat.lt_trans (Nat.lt_of_lt_of_le (old _ hm) hge) hlt)
   have nV:∀ b,b∉VV C io Z→b≠P:=fun b hb he=>hb (by rw [he];simp [VV,hPm])
   refine za (Sok.table (tk:=tk) rt k hPm hP hk ⟨_,Heap.get?_push_of_some _ htb⟩ ((sp.vt _ _).mpr fun c2 P2 q2 hm=>by
     by_cases he:P2 = P
     · subst he
       have:=sp.inj _ hm _ hspc rfl
       injection this with this1 this2;subst c2;injection this2 with this21 this22;clear this21;subst this22
       refine ⟨_,Heap.get?_push_of_some _ htb,?_,fun pos=>?_⟩
       · rw [Array.toList_append];exact TriplesOk_snoc _ _ _ _ ht
       · rw [Array.toList_append]
         have:=to (pos:=pos) (pos':=lp) (c:=.ref c') ps.toList ht
         show codeAmong pos (ps.toList++[rawInt lp.line,rawInt lp.col,.ref c']) = none∨∃ c'_1,codeAmong pos (ps.toList++[rawInt lp.line,rawInt lp.col,.ref c']) = _∧_
         rw [this]
         rcases hca pos with e | ⟨c3,e,h3,h4⟩
         · rw [e]
           by_cases hpp:(lp.line==pos.line&&lp.col==pos.col) = true
           · rw [if_pos hpp];exact .inr ⟨c',rfl,hrec.push _,hcv⟩
           · rw [if_neg hpp];exact .inl rfl
         · rw [e]
           obtain ⟨c4,o,vs,t,ec,eo,ed,ev⟩:=h3
           injection ec with ec;subst ec
           exact .inr ⟨c3,rfl,⟨c3,o,vs,t,rfl,hk _ _ (nV _ h4) eo,ed,ev⟩,h4⟩
     · obtain ⟨ps2,e1,e2,e3⟩:=vt c2 P2 q2 hm
       refine ⟨ps2,hk _ _ he e1,e2,fun pos=>?_⟩
       rcases e3 pos with e | ⟨c3,e,⟨c4,o,vs,t,ec,eo,ed,ev⟩,h4⟩
       · exact .inl e
       · injection ec with ec;subst ec
         exact .inr ⟨c3,e,⟨c3,o,vs,t,rfl,hk _ _ (nV _ h4) eo,ed,ev⟩,h4⟩)) fun q1 q2=>?_
   exact hq _ _ c' ctv q2 q1 (Heap.get?_push_size _ rfl) (hrec.push _) hfv hcv
 · refine kla_makeFunctionHit (mg:=C.mg) clo hgl hg hcode hcd hP ht hf hb fun ctv h' tk hk hsz=>?_
   have kp:Keeps s { s with heap:=h'.push { cls:=.type "function",data:=.func (kla_fn "<lambda>" (env.qual++"<lambda>") ⟨[],[⟨x,none,an⟩],none,[],[],none,[]⟩ body sc (od env.cells sc.names []) ((C.mg "__name__").getD .none) (.ref c') ctv) },toks:=tk }:=⟨_,_,rfl,fun b o e=>Heap.get?_push_of_some _ (hk b o e)⟩
   exact hq _ _ c' ctv (Keeps.grow C kp) (Keeps.sok C kp k) (Heap.get?_push_size _ rfl) ((hrec.keeps hk).push _) (fun hm=>Nat.lt_irrefl _ (Nat.lt_of_lt_of_le (old _ hm) hsz)) hc'
theorem bi9 (sp:aj9 C) (rt:g9 C):cn2 C T:=by
 intro lv ev hev kd ro src body x an sc lp q p g g1 g2 ds pr hkd hsc hpl hsrc hpart A env Z io s ha he hk
 obtain ⟨a,fd,pa,pb,pc,pd,pe,pg,px,ps,p1,q1,p2,py,q3,p3,pn,q4,p4,pi,pf,pxa,pxb,pxc,se1,se2,r1,r2,r3,r4,kk,hmg,fn,hl3,hl4,hb,hcell,hnm,hns⟩:=sp.glo
 refine zea fn.get fun o hoa hd=>?_
 refine za (yf hsc) fun hco hgen=>?_
 refine za4 (wc hsc) fun e1 e2 e3 e4 e5=>?_
 refine ze3a2 (he.cd hkd) fun c P q' hspc hcode hqual=>?_
 subst hqual
 refine PyProof.Rows.Call_ (ij rt he hk hkd hmg (by decide) ?_) rfl
 refine Calls.callWith_function (o:=o) (fd:=fd) (l9 hpl (wpAny_items_cons (a9 (hsrc A env Z io s ha he hk) fun v s1 ⟨io1,W,x1,k1,hW,hspl⟩=>?_) (f6 (bp hpl))))
 refine wpAny_items_cons (aj1 sp rt he.gl hspc hcode k1 (fun y hy hf=>?_) fun f s2 c' ct x2 k2 ho hcd hfv hcv=>wpAny_items_nil ⟨⟨k2.base _ _ hoa,hd⟩,?_⟩) (f6 fun J J=>nofun)
 · refine ze2a (he.all y.1 (e4 y hy hf)) fun c J h1 J=>?_
   exact ⟨c,h1⟩
 · have hspl2:zi C W ([]++(W++Z)) io1 ds v s2:=hspl.up x2 (fun b hb=>List.mem_append_left _ hb) k1 (by simp)
   exact rl fn hl3 hl4 hb hcell hnm hns rt ha he hk (x1.trans C x2) k2 hW (by simpa using hspl2) hsc hco hgen ho hcd hfv hcv (hev _) hpart
end
end Mine
namespace Mine
variable {C:Cst}
structure qj (C:Cst) (K:Frag):Prop where
 X:K.In C.H
 pg:plainGet K C.cls "x" = true
 hh:hasDictIn K C.cls = true
 own:findIn K (.ref C.cls) "_headers" = some none
 sq:noSeq K C.cls = true
theorem td (n:Str) (tk:Tok):(Value.str n tk).isStr n = true:=by show (n==n) = true;exact beq_self_eq_true n
theorem zy {n m:Str} {tk:Tok} (h:n≠m):(Value.str n tk).isStr m = false:=by show (n==m) = false;simpa using h
theorem ua {h:Heap} {x dx l:Addr} (hs:y9 C h x dx l):∃ e n,e.key.isStr ("_headers":Str) = true∧e.val = .ref l∧InstAt h x (instObj C.cls dx) C.cls (some (dictOf [e] n))∧∃ tk,e.key = .str ("_headers":Str) tk:=by
 refine zae3 hs fun h1 hsh tk n h2=>?_;clear hs
 exact ⟨_,n,td _ _,rfl,⟨h1,rfl,rfl,h2⟩,tk,rfl⟩
section
variable {K:Frag} {A:Around} {E:Value→Shared→Prop} {s:Shared} {x dx l:Addr}
theorem js (k:qj C K) (hb:∀ b o,C.H.get? b = some o→s.heap.get? b = some o) (hs:y9 C s.heap x dx l) {expr:Bool} {Q:Value→Shared→Prop} (h:Q (.ref l) { s with toks:=s.toks + 1 }) :
   wpAny (model C.prog C.w) A (getAttr (.ref x) "_headers" expr) Q E s:=by
 refine zae3 hs fun h1 hsh tk n h2=>?_;clear hs
 have I:InstAt s.heap x (instObj C.cls dx) C.cls (some (dictOf [⟨hsh,.str ("_headers":Str) tk,.ref l⟩] n)):=⟨h1,rfl,rfl,h2⟩
 exact get_value (k.X.keeps hb) I (plainGet_of k.pg).1 (findObj_own k.hh k.own rfl (by rw [lookIn_dict];simp [getL,td])) rfl h
theorem uy (k:qj C K) (hb:∀ b o,C.H.get? b = some o→s.heap.get? b = some o) (hs:y9 C s.heap x dx l) {m:Str} {a:Addr} (hf:findIn K (.ref C.cls) m = some (some (.ref a))) (ht:isFn K (.ref a) = true) (hne:m≠("_headers":Str))
   {pl:Sem Bool} {Q:Value × List Value→Shared→Prop} (h:Q (.ref a,[.ref x]) s):wpAny (model C.prog C.w) A (getMethod (.ref x) m pl) Q E s:=by
 refine zae3 hs fun h1 hsh tk n h2=>?_;clear hs
 have I:InstAt s.heap x (instObj C.cls dx) C.cls (some (dictOf [⟨hsh,.str ("_headers":Str) tk,.ref l⟩] n)):=⟨h1,rfl,rfl,h2⟩
 refine method_fn (k.X.keeps hb) I (plainGet_of k.pg).1 (plainGet_of k.pg).2 hf (beq_iff_eq.mp ht) ?_ h
 show (lookIn m (dictOf _ n)).map _ = _
 rw [lookIn_dict]
 simp [getL,zy (tk:=tk) (Ne.symm hne),DictEntry.refKey]
theorem ax3 (k:qj C K) {m:Str} {a:Addr} (hf:findIn K (.ref C.cls) m = some (some (.ref a))) (ht:isFn K (.ref a) = true) (hn:fnIn K a = true) (hne:m≠("_headers":Str)):af4 C m a where
 get:=fun A E s x dx l hb hs pl Q h=>uy k hb hs hf ht hne h
 sub:=fun hm A E s x dx l hb hs value slice i Q h1 h2 h=>by
   subst hm
   refine ze2a3 (ua hs) fun e n J J I J=>?_
   have X:=k.X.keeps hb
   unfold fnIn at hn
   induction e:K.lookup a using Option.casesOn with
   | none=>rw [e] at hn;injection hn
   | some o =>
     rw [e] at hn
     obtain ⟨c0,d0,dt,w0⟩:=o
     induction dt using Data.casesOn<;>first | exact Bool.noConfusion (show false = true from hn) | skip
     unfold PyProof.Rows.subscriptTail getitemInPython
     refine wpAny_bind (wpAny_bind (wpAny_bind (I.type.here ((looks_findIn X hf).here ?_))))
     dsimp only
     refine wpAny_bind (wpAny_load (X _ _ e) (wpAny_pure ?_))
     dsimp only
     have hsl:subscripted slice true (.ref x) i = runValue (.builtin "lifetime.subscript" ⟨[.ref x,i],[]⟩):=by
       induction slice using Expr.casesOn<;>first | rfl | exact absurd rfl (h2 _ _ _ _)
     rw [hsl]
     refine wpAny_bind (wpAny_runValue (codeAny_builtin entry_sub ?_))
     unfold Builtin.«lifetime.subscript»
     refine wpAny_bind (special_fn X I hf (beq_iff_eq.mp ht) (wpAny_mono h (fun v s' z=>?_) fun J J z=>z))
     refine wpAny_pure ?_
     show wpAny _ A (letTemporaryGo value (.ref x) v >>= fun J=>pure v) Q E s'
     exact wpAny_bind (wpAny_letTemporaryGo (wpAny_pure z))
 len:=fun hm A E s x dx l hb hs Q h=>by
   subst hm
   refine ze2a3 (ua hs) fun e n J J I J=>?_
   have X:=k.X.keeps hb
   refine Calls.call_function_entry kind_len plain_len entry_len (args_len1 _) ?_
   unfold Builtin.«len»
   refine wpAny_bind (m:=oneArg "len" _) (wpAny_pure ?_)
   refine wpAny_bind (m:=callSpecial? (.ref x) (Str.ofString "__len__")) (special_fn X I hf (beq_iff_eq.mp ht) (wpAny_mono h (fun r s' hr=>?_) fun J J y=>y))
   refine ze2a3 hr fun n u e2q h0 h1 hq=>?_;clear hr;subst e2q
   refine wpAny_bind (wpAny_holding (wpAny_pure ?_))
   refine wpAny_bind (wpAny_letGo ?_)
   show wpAny _ _ (if n < 0 then _ else _) _ _ _
   rw [if_neg (by lia)]
   show wpAny _ _ (if n ≥ 2 ^ 63 then _ else _) _ _ _
   rw [if_neg (by lia)]
   exact wpAny_bind (wpAny_mkInt (wpAny_pure ⟨_,rfl,hq _ _⟩))
 set:=fun hm A E s x dx l hb hs i v Q h=>by
   subst hm
   refine ze2a3 (ua hs) fun e n J J I J=>?_
   have X:=k.X.keeps hb
   unfold setItem sequenceKey
   refine wpAny_holding (wpAny_bind (wpAny_bind (I.type.here ?_)))
   refine wpAny_bind ((anyM_none X k.sq).here ?_)
   rw [if_pos (show (!false) = true from rfl)]
   exact wpAny_pure (wpAny_bind (special_fn X I hf (beq_iff_eq.mp ht) (wpAny_mono h (fun J J z=>wpAny_pure z) fun J J z=>z)))
 del:=fun hm A E s x dx l hb hs i Q h=>by
   subst hm
   refine ze2a3 (ua hs) fun e n J J I J=>?_
   have X:=k.X.keeps hb
   unfold delItem sequenceKey
   refine wpAny_holding (wpAny_bind (wpAny_bind (I.type.here ?_)))
   refine wpAny_bind ((anyM_none X k.sq).here ?_)
   rw [if_pos (show (!false) = true from rfl)]
   exact wpAny_pure (wpAny_bind (special_fn X I hf (beq_iff_eq.mp ht) (wpAny_mono h (fun J J z=>wpAny_pure z) fun J J z=>z)))
end
end Mine
namespace Mine
variable {C:Cst}
section
variable {M:Model} {A:Around} {E:Value→Shared→Prop} {s:Shared} {env:Env}
theorem uw {o:Expr} {m:Str} {q p:Pos} {as:List Expr} {kws:List Keyword} {Q:Value→Shared→Prop} (hns:cg o = true) (hline:(q.endLine==p.line) = true) (hlen:as.length < 20) (bb:as.all f5 = true)
   (hk:kws.length < 5) (hkn:(backToKw p (keywordEach kws env)).all (fun x=>x.1.isSome) = true)
   (h:wpAny M A (eval o env) (fun ov s1=>∀ pl,wpAny M A (getMethod ov m pl) (fun fr s2=>wpAny M A (callWith p fr.1 fr.2 (backTo p (starEach as env)) (backToKw p (keywordEach kws env))) Q E s2) E s1) E s) :
   wpAny M A (eval (.Call (.Attribute o m q) as kws p) env) Q E s:=by
 rw [arm_eval_Call,y5 hns]
 refine wpAny_bind (wpAny_mono h (fun ov s1 h1=>?_) fun J J x=>x)
 refine wpAny_bind (wpAny_standAt ?_)
 have hform:methodCallForm (as.length + kws.length) (backTo p (starEach as env)) (backToKw p (keywordEach kws env)) = true:=by
   unfold methodCallForm
   rw [zx as bb,hkn]
   simp only [Bool.and_eq_true,decide_eq_true_eq,true_and]
   split<;>lia
 have hpos:methodCallPos true o env q p = pure p:=by unfold methodCallPos;simp [hline]
 unfold methodCall
 rw [hform]
 refine wpAny_bind (wpAny_holding (wpAny_mono (h1 _) (fun fr s2 h2=>?_) fun J J x=>x))
 exact wpAny_bind (wpAny_of_eq hpos h2)
end
noncomputable def tp (p1 p2 p3 p4 p5 p6 p7 p8 p9 p10 p11 p12 p13 p14 p15 p16 p17 p18 p19:Pos) (st1 st2:Stmt):List Stmt :=
 [.If (.Compare (.Call (.Name "type" p1) [.Name "value" p2] [] p3) [.Is] [.Name "str" p4] p5)
   [.Assign [.Name "regex" p6] (.IfExp (.Name "name" p7) (.Name "_name_disallowed_re" p8) (.Name "_value_disallowed_re" p9) p10) p11,
    .If (.Call (.Attribute (.Name "regex" p12) "search" p13) [.Name "value" p14] [] p15) [st1] [] p16,
    .Return (some (.Name "value" p17)) p18] [] p19,st2]
inductive ce1 (C:Cst) (a:Addr):Prop
 | mk (fd:FuncData) (p1:Pos) (p2:Pos) (p3:Pos) (p4:Pos) (p5:Pos) (p6:Pos) (p7:Pos) (p8:Pos) (p9:Pos) (p10:Pos) (p11:Pos) (p12:Pos) (p13:Pos) (p14:Pos) (p15:Pos) (p16:Pos) (p17:Pos) (p18:Pos) (p19:Pos) (st1:Stmt) (st2:Stmt)
   (e1:oy C a fd (tp p1 p2 p3 p4 p5 p6 p7 p8 p9 p10 p11 p12 p13 p14 p15 p16 p17 p18 p19 st1 st2)) (e2:(p13.endLine==p15.line) = true) (e3:(∀ x v b,bindArgs fd ⟨[x,v],[(("name":Str),b)]⟩ = pure [(("self":Str),x),(("value":Str),v),(("name":Str),b)])) (e4:(∀ y∈fd.scope.names,y.2≠.cell)) (e5:(∀ y∈(["self","value","name","regex"]:List Str),fd.scope.names.lookup y = some .local)) (e6:(∀ y∈(["type","str","_name_disallowed_re","_value_disallowed_re"]:List Str),fd.scope.names.lookup y = some .globalImplicit))
structure cu (C:Cst) (a:Addr):Prop where
 fn:ce1 C a
 pats:∃ b c,C.mg "_name_disallowed_re" = some (.ref b)∧C.mg "_value_disallowed_re" = some (.ref c)∧ab8 C.H b rx1∧ab8 C.H c rx2
theorem ab8.keeps {h h':Heap} {p:Addr} {code:Array Nat} (x:ab8 h p code) (k:∀ b o,h.get? b = some o→h'.get? b = some o):ab8 h' p code:=by
 obtain ⟨o,vs,cc,oc,its,n,h1,h2,h3,h4,h5,h6,h7,h8⟩:=x
 exact ⟨o,vs,cc,oc,its,n,k _ _ h1,h2,h3,h4,h5,h6,k _ _ h7,h8⟩
noncomputable def t9 (x:Str):Bool:=x.cps.all al3&&j7 x
theorem bd2 {x:Str} (h:t9 x = true):(∀ i,i < x.cps.size→al3 (x.cps.getD i 0) = true)∧x.length≤lim:=by
 unfold t9 j7 at h
 simp only [Bool.and_eq_true,decide_eq_true_eq] at h
 refine ⟨fun i hi=>?_,h.2⟩
 have:=Array.all_eq_true.mp h.1 i hi
 rw [show x.cps.getD i 0 = x.cps[i] from by simp [Array.getD,hi]]
 exact this
section
variable {A:Around} {s:Shared} {Z:List Addr} {io:HI} {g:Sg}
theorem bb9 {a:Addr} (cv:cu C a) (rt:g9 C) (hdp:A.depth < 990) (hb:∀ b o,C.H.get? b = some o→s.heap.get? b = some o) {x:Value} {y:Str} {t:Tok} {b:Bool} (hy:t9 y = true) :
   wpAny (model C.prog C.w) A (call (.ref a) [x,.str y t] [(("name":Str),.bool b)]) (fun v s'=>v = .str y t∧Keeps s s') noE s:=by
 obtain ⟨fd,p1,p2,p3,p4,p5,p6,p7,p8,p9,p10,p11,p12,p13,p14,p15,p16,p17,p18,p19,st1,st2,fn,hline,hbind,hcell,hloc,hglo⟩:=cv.fn
 refine ze2a3 cv.pats fun pb pc m1 m2 pat1 pat2=>?_
 refine zea fn.get fun o hoa hd=>?_
 refine za (bd2 hy) fun hc1 hc2=>?_
 refine wpAny_call (codeAny_call_function (by show A.depth < 1000;lia) (hb _ _ hoa) hd fn.co fn.gen fn.body (fn.cd.keeps hb) ?_)
 rw [hbind,fn.clo]
 refine wpAny_pure (wpAny_newFunctionEnv hcell (fun y hy=>by
   simp only [List.mem_cons,List.not_mem_nil,or_false] at hy
   rcases hy with rfl | rfl | rfl
   · exact hloc "self" (by decide)
   · exact hloc "value" (by decide)
   · exact hloc "name" (by decide)) (fun h₁ hns1 hsb=>⟨?_,codeAny_func ?_⟩) fn.kind)
 · exact (rt.nolimit.keeps hb).keeps fun b o e=>hsb.extBut b o (Nat.ne_of_lt (Heap.lt_size e)) (Heap.get?_push_of_some _ e)
 · let L:=s.heap.objs.size
   let env2:Env:=newEnv fd.scope L fd.globals [] (fd.qualname++".<locals>.") (some a) fd.code none fd.builtins
   have hkk:∀ b o,s.heap.get? b = some o→h₁.get? b = some o:=fun b o e=>hsb.extBut b o (Nat.ne_of_lt (Heap.lt_size e)) (Heap.get?_push_of_some _ e)
   have hb1:∀ b o,C.H.get? b = some o→h₁.get? b = some o:=fun b o e=>hkk b o (hb b o e)
   have hLn:s.heap.get? L = none:=d9 _
   have kof:∀ y,env2.kindOf y = fd.scope.names.lookup y:=fun y=>rfl
   have hpl:(env2.scope.kind==.class||(env2.scope.kind==.module&&env2.locals != env2.globals)) = false:=by rw [show env2.scope.kind = .function from fn.kind];rfl
   have hg1:=rt.g.keeps hb1
   have hbu1:=rt.b.keeps hb1
   have main:wpAny (model C.prog C.w) (A.deeper env2) (execs (tp p1 p2 p3 p4 p5 p6 p7 p8 p9 p10 p11 p12 p13 p14 p15 p16 p17 p18 p19 st1 st2) env2) (fun fl s'=>fl = .ret (.str y t)∧Keeps s s') noE { s with heap:=h₁,toks:=s.toks + 3 }:=?_
   · refine a9 main ?_
     rintro fl s3 ⟨rfl,h3⟩
     exact ⟨rfl,h3⟩
   have lk:∀ {n:Str} {v:Value} {h2:Heap} {tk:Tok} {m:Str→Option Value} {ps:Pos} {Q:Value→Shared→Prop} {E:Value→Shared→Prop},fd.scope.names.lookup n = some .local→(n==("__debug__":Str)) = false→h2.Ns L m→m n = some v→Q v { s with heap:=h2,toks:=tk }→wpAny (model C.prog C.w) (A.deeper env2) (eval (.Name n ps) env2) Q E { s with heap:=h2,toks:=tk } :=
     fun h1 h2 h3 h4 h5=>wpAny_Name (wpAny_loadName_local (s:={ s with heap:=_,toks:=_ }) fn.kind ((kof _).trans h1) h3 h4 h5) h2
   have val:(fun x_1:Str=>List.lookup x_1 ([(("self":Str),x),(("value":Str),Value.str y t),(("name":Str),Value.bool b)]:List (Str × Value)).reverse) "value" = some (.str y t):=by
     simp only [List.reverse_cons,List.reverse_nil,List.nil_append,List.cons_append,List.lookup,show (("value":Str)==("name":Str)) = false by decide,beq_self_eq_true]
   have nam:(fun x_1:Str=>List.lookup x_1 ([(("self":Str),x),(("value":Str),Value.str y t),(("name":Str),Value.bool b)]:List (Str × Value)).reverse) "name" = some (.bool b):=by
     simp only [List.reverse_cons,List.reverse_nil,List.nil_append,List.cons_append,List.lookup,beq_self_eq_true]
   refine wpAny_execs_cons (wpAny_If (wpAny_isTrue_Compare1 ?_ rfl))
   refine PyProof.Rows.Call_ ?_ rfl
   refine Calls.Name_function_global fn.kind ((kof _).trans (hglo _ (by decide))) (Calls.loadGlobal_builtin (env:=env2) (by rw [show env2.globals = mainGlobals from fn.gl];exact hg1) (rt.nob2 _ (by decide)) (by rw [show env2.builtins = builtinsNs from fn.bi];exact hbu1) ((rt.bi _ (by decide)).trans (show bootBuiltins "type" = some (.type "type") by decide +kernel)) ?_) (by decide)
   refine Pv.callWith_type1 (wpAny_items_cons (lk (hloc "value" (by decide)) (by decide) hns1 val (wpAny_items_nil ?_)))
   refine call_type_of (Tx:="str") rfl (by decide +kernel) ?_
   refine Calls.Name_function_global fn.kind ((kof _).trans (hglo _ (by decide))) (Calls.loadGlobal_builtin (env:=env2) (by rw [show env2.globals = mainGlobals from fn.gl];exact hg1) (rt.nob _ (by decide)) (by rw [show env2.builtins = builtinsNs from fn.bi];exact hbu1) ((rt.bi _ (by decide)).trans (show bootBuiltins "str" = some (.type "str") by decide +kernel)) ?_) (by decide)
   refine wpAny_is_self (by rfl) (wpAny_truthy_bool ?_)
   rw [if_pos rfl]
   have fin:∀ (pp:Addr) (code:Array Nat),ab8 C.H pp code→(code = rx1∨code = rx2)→wpAny (model C.prog C.w) (A.deeper env2) (storeName env2 "regex" (.ref pp)) (fun J s'=>wpAny (model C.prog C.w) (A.deeper env2) (execs [.If (.Call (.Attribute (.Name "regex" p12) "search" p13) [.Name "value" p14] [] p15) [st1] [] p16,
       .Return (some (.Name "value" p17)) p18] env2) (fun fl s'=>fl = .ret (.str y t)∧Keeps s s') noE s') noE { s with heap:=h₁,toks:=s.toks + 3 }:=fun pp code hpat hcode=>by
     refine wpAny_storeName_local (s:={ s with heap:=h₁,toks:=s.toks + 3 }) ((kof _).trans (hloc "regex" (by decide))) hns1 (fun h2 hn2 hs2=>?_) hpl
     have hk2:∀ b o,s.heap.get? b = some o→h2.get? b = some o:=fun b o e=>hs2.extBut b o (fun he=>by rw [show b = L from he,hLn] at e;injection e) (hkk b o e)
     have pat:=hpat.keeps (h':=h2) fun b o e=>hk2 b o (hb b o e)
     have pat':=pat
     obtain ⟨op,_,_,_,_,_,q1,q2,q3,_⟩:=pat'
     refine wpAny_execs_cons (wpAny_If (wpAny_isTrue_value (uw rfl hline (by show 1 < 20;lia) rfl (by decide) rfl (lk (hloc "regex" (by decide)) (by decide) hn2 (if_pos rfl) fun pl=>?_)) rfl))
     refine getMethod_builtin (T:="re.Pattern") ⟨op,q1,q2⟩ RxF.plainAttrs_pat RxF.slot_search RxF.type_search (fun a e=>by (injection e with e;subst e);exact ⟨op,q1,q3⟩) ?_
     refine Calls.callWith_builtin (fh _ rfl _ _) (l9 rfl (wpAny_items_cons (lk (hloc "value" (by decide)) (by decide) hn2 ((if_neg (by decide)).trans val) (wpAny_items_nil ?_))))
     refine aa0 pat hcode hc1 (Nat.le_trans hc2 (by decide)) (PyProof.Rows.truthy_none ?_)
     rw [if_neg (by decide)]
     refine wpAny_execs_nil (wpAny_execs_cons (wpAny_Return_some (lk (hloc "value" (by decide)) (by decide) hn2 ((if_neg (by decide)).trans val) ⟨rfl,_,_,rfl,hk2⟩)))
   refine wpAny_execs_cons (wpAny_Assign_Name (wpAny_IfExp (wpAny_isTrue_value (lk (hloc "name" (by decide)) (by decide) hns1 nam (wpAny_truthy_bool ?_)) rfl)) rfl)
   cases b with
   | true =>
     refine Calls.Name_function_global fn.kind ((kof _).trans (hglo _ (by decide))) (Calls.loadGlobal_global (env:=env2) (by rw [show env2.globals = mainGlobals from fn.gl];exact hg1) m1 ?_) (by decide)
     exact a9 (fin pb rx1 pat1 (.inl rfl)) fun J s' h=>a9 h fun fl s'' h2=>by obtain ⟨rfl,h2⟩:=h2;exact ⟨rfl,h2⟩
   | false =>
     refine Calls.Name_function_global fn.kind ((kof _).trans (hglo _ (by decide))) (Calls.loadGlobal_global (env:=env2) (by rw [show env2.globals = mainGlobals from fn.gl];exact hg1) m2 ?_) (by decide)
     exact a9 (fin pc rx2 pat2 (.inr rfl)) fun J s' h=>a9 h fun fl s'' h2=>by obtain ⟨rfl,h2⟩:=h2;exact ⟨rfl,h2⟩
end
end Mine
end
section
open PySem PySem.W
set_option backward.match.sparseCases true
namespace Mine
noncomputable def Cst.bare (C:Cst):Cst:={ C with vt:=[],spc:=[],vtOk:=fun J J=>True,vtKeep:=fun J J J J J J J=>trivial }
variable {C:Cst}
theorem g9.bare (r:g9 C):g9 C.bare where
 g:=r.g
 b:=r.b
 bi:=r.bi
 nolimit:=r.nolimit
 nob:=r.nob
 nob2:=r.nob2
 vtH:=fun b hb=>by cases hb
theorem oy.bare {a:Addr} {fd:FuncData} {body:List Stmt} (f:oy C a fd body) (h:fd.scope.names.lookup ("_split_list":Str)≠some .globalImplicit):oy C.bare a fd body where
 get:=f.get
 body:=f.body
 clo:=f.clo
 gl:=f.gl
 bi:=f.bi
 cd:=f.cd
 kind:=f.kind
 co:=f.co
 gen:=f.gen
 nofree:=f.nofree
 spl:=fun h'=>absurd h' h
section
variable {s s':Shared} {io io':HI} {Z:List Addr} {g:Sg}
theorem Sok.bare (r:g9 C) (k:Sok C Z io g s):Sok C.bare (VV C io Z) [] [] s where
 base:=k.base
 st:=⟨rfl,fun i t ps h=>by simp at h,by simp [adr],fun b hb=>by simp [adr] at hb,trivial⟩
 zal:=lj k
 zd:=fun z hz=>by
   refine ⟨(by intro h;cases h),(by intro h;cases h),?_⟩
   simp only [VV,List.mem_append] at hz
   rcases hz with (hz | hz) | hz
   · exact r.vtH z hz
   · exact k.st.below z hz
   · exact (k.zd z hz).2.2
 val:=fun z hz=>by cases hz
theorem q0.keepsB (x:q0 C.bare [] io' s s'):Keeps s s':=by
 refine ze2 x.same fun h' tk e=>?_
 refine ⟨h',tk,e,fun b o hb=>?_⟩
 have:=x.keep b o hb (by intro h;cases h) (by intro h;cases h)
 rw [e] at this
 exact this
end
noncomputable def T0:Tbl:=⟨fun J=>none,fun J=>none,none,fun J=>none⟩
theorem am3 (r:g9 C):∀ n,bd C.bare (0 + 2 * n) n T0 :=
 ae0 r.bare (fun lv ev J kd ro src body x an sc lp q p g g1 g2 ds pr hkd J J J J A env Z io s J he J=>by refine ze3a (he.cd hkd) fun J J J hm J=>?_;cases hm)
   ⟨fun J J h=>(by injection h),fun J J h=>(by injection h),fun J h=>(by injection h),fun J J h=>(by injection h)⟩
section
variable {A:Around} {s:Shared} {Z:List Addr} {io:HI} {g:Sg}
theorem mh {sa:Shared} {L:Nat} {a:Addr} {fd:FuncData} {body:List Stmt} {pargs:List Value} {kargs:List (Str × Value)} {binds:List (Str × Value)} (r:g9 C) (f:oy C a fd body) (hbind:∀ (A:Around) (E:Value→Shared→Prop) (Q:List (Str × Value)→Shared→Prop),Q binds s→wpAny (model C.prog C.w) A (bindArgs fd ⟨pargs,kargs⟩) Q E sa) (hb0:∀ b o,C.H.get? b = some o→sa.heap.get? b = some o)
   (hcs:∀ x∈binds,c9 (fun y=>fd.scope.names.lookup y) x.1 = true) (hbn:(binds.map (·.1)).Nodup) (ha:yw A (L + 1)) (hk:Sok C Z io g s) {l:List (Str × D)} (hnd:(l.map (·.1)).Nodup)
   (hl:∀ y d,l.lookup y = some d→∃ v,binds.lookup y = some v∧Has (VV C io Z) io s.heap d v) {R:Value→Shared→Prop}
   (h:∀ env s2 F,Keeps s s2→(∀ x∈F,s.heap.get? x = none)→Frm C ⟨fun J J=>False,[]⟩ (fun x=>fd.scope.names.lookup x) s io Z env (fun J=>0) [] F (m0 l) io g s2→(∀ y v,binds.lookup y = some v→m4 (fun x=>fd.scope.names.lookup x) env s2.heap y v)→AOk (A.deeper env) L →
     wpAny (model C.prog C.w) (A.deeper env) (execs body env) (fun fl s'=>R (match fl with | .ret v=>v | _=>.none) s') noE s2) :
   codeAny (model C.prog C.w) A (.call (.ref a) ⟨pargs,kargs⟩) (fun r s'=>match r with | .ok (.ret v)=>R v s' | .ok _=>False | .error _=>False) sa:=by
 refine zea f.get fun o ho hd=>?_
 have hmem:∀ {x:Str} {k:NameKind},fd.scope.names.lookup x = some k→(x,k)∈fd.scope.names:=fun h=>PySem.mem_of_lookup h
 refine codeAny_call_function (by have:=ha.dp;show A.depth < 1000;lia) (hb0 _ _ ho) hd f.co f.gen f.body (f.cd.keeps hb0) ?_
 rw [f.clo]
 refine hbind _ _ _ ?_
 have k1:=hk
 have hcan:∀ x∈binds,fd.scope.names.lookup x.1 = some .local∨(fd.scope.names.lookup x.1 = some .cell∧((cellsFrom (s.heap.objs.size + 1) fd.scope.names []).lookup x.1).isSome = true):=fun x hx=>by
   have:=hcs x hx
   unfold c9 at this
   simp only [Bool.or_eq_true,beq_iff_eq] at this
   rcases this with h | h
   · exact .inl h
   · exact .inr ⟨h,v8 _ _ _ (.inl (hmem h))⟩
 refine wpAny_newFunctionEnv_cells f.kind hcan fun env henv s2 xc=>?_
 have kp2:Keeps s s2:=by
   refine ze2a xc.done fun h' tk e hkk=>?_
   exact ⟨h',tk,e,hkk⟩
 have hL:s.heap.objs.size≤env.locals:=xc.toInCall.fresh
 have hkof:∀ x,env.kindOf x = fd.scope.names.lookup x:=fun x=>by subst henv;rfl
 have hfresh:∀ c,env.locals≤c→s.heap.get? c = none:=fun c hle=>by
   induction e:s.heap.get? c using Option.casesOn with
   | none=>rfl
   | some o=>exact absurd (Heap.lt_size e) (Nat.not_lt.mpr (Nat.le_trans hL hle))
 have hcells:env.cells = cellsFrom (s.heap.objs.size + 1) fd.scope.names []:=by subst henv;rfl
 let F:List Addr:=env.locals::fd.scope.names.filterMap fun p=>if p.2==NameKind.cell then env.cells.lookup p.1 else none
 have hF:∀ c∈F,env.locals≤c∧∃ o,s2.heap.get? c = some o:=fun c hcm=>by
   rcases List.mem_cons.mp hcm with rfl | hcm
   · refine ze3a xc.toInCall.ns fun o J J e J=>?_
     exact ⟨Nat.le_refl _,o,e⟩
   · refine zea (List.mem_filterMap.mp hcm) fun p J hp=>?_
     split at hp
     · refine zea (xc.cell _ _ hp) fun o e J=>?_
       exact ⟨Nat.le_of_lt (xc.above _ _ (PySem.mem_of_lookup hp)),o,e⟩
     · injection hp
 have hcell:∀ x,fd.scope.names.lookup x = some .cell→∃ c,env.cells.lookup x = some c∧c∈F:=fun x hx=>by
   have:=v8 (x:=x) fd.scope.names (s.heap.objs.size + 1) [] (.inl (hmem hx))
   rw [← hcells] at this
   refine ze (Option.isSome_iff_exists.mp this) fun c hc=>?_
   exact ⟨c,hc,.tail _ (List.mem_filterMap.mpr ⟨(x,.cell),hmem hx,by simpa using hc⟩)⟩
 have hvar:∀ y v,binds.lookup y = some v→m4 (fun x=>fd.scope.names.lookup x) env s2.heap y v:=fun y v hy=>by
   have hcy:=hcs (y,v) (PySem.mem_of_lookup hy)
   unfold c9 at hcy
   simp only [Bool.or_eq_true,beq_iff_eq] at hcy
   by_cases hloc:fd.scope.names.lookup y = some .local
   · exact .inl ⟨hloc,_,xc.toInCall.ns,vg ((hkof y).trans hloc) _ _ hbn hy⟩
   · have hc:fd.scope.names.lookup y = some .cell:=by
       rcases hcy with h | h
       · exact absurd h hloc
       · exact h
     refine zea (hcell y hc) fun c hcc J=>?_
     have:=xc.cell _ _ hcc
     rw [uf (by rw [hkof,hc];decide) _ _ hbn hy] at this
     exact .inr ⟨hc,c,hcc,this⟩
 have xf:Frm C ⟨fun J J=>False,[]⟩ (fun x=>fd.scope.names.lookup x) s io Z env (fun J=>0) [] F (m0 l) io g s2:={
   grow:=Keeps.grow C kp2
   fresh:=fun c hcm=>hfresh c (hF c (by simpa using hcm)).1
   sok:=Sok.more_many k1 kp2 fun w hw=>⟨hfresh w (hF w hw).1,(hF w hw).2⟩
   kdo:=hkof
   fn:=by subst henv;exact f.kind
   bk:=by subst henv;simp [Env.blockKind,newEnv,f.kind]
   gl:=by subst henv;exact f.gl
   bi:=by subst henv;exact f.bi
   cd:=fun h=>by subst henv;refine ze2a (f.spl h) fun c P h1 h2=>?_;exact ⟨c,P,_,h1,h2,rfl⟩
   lF:=.head _
   ns:=⟨_,xc.toInCall.ns⟩
   all:=fun x hx=>by
     refine zea (hcell x hx) fun c hc hcF=>?_
     exact ⟨c,_,hc,xc.cell _ _ hc,hcF,fun he=>Nat.lt_irrefl _ (he ▸ xc.above _ _ (PySem.mem_of_lookup hc))⟩
   inj:=fun x y c J J h1 h2=>PySem.name_of_addr xc.apart (PySem.mem_of_lookup h1) (PySem.mem_of_lookup h2)
   nofree:=fun x hx=>f.nofree _ (hmem hx) rfl
   vals:=fun y ev hy=>by
     refine zea (ax hy) fun d e1q hyl=>?_;subst e1q
     refine zea (hl y d hyl) fun v q1 q2=>?_
     refine ⟨v,hvar y v q1,?_⟩
     exact Has.mono (V':=VV C io (F++Z)) (io':=io) (h':=s2.heap) (fun a o e hn=>by
       refine ze2a kp2 fun h' tk e2 hkk=>?_;clear kp2
       refine ⟨by rw [e2];exact hkk a o e,fun hm=>?_⟩
       rcases fj hm with h | h
       · exact hn h
       · rw [hfresh a (hF a h).1] at e;injection e) (fun J J e=>e) q2
   olist:=fun a ha=>by cases ha
   disj:=fun a ha=>by cases ha
   apart:=fun x y m m' J h1 J=>by
     refine zea (ax h1) fun d hd J=>?_
     injection hd
   nd:=by rw [jw];exact hnd
   kept:=fun b o hb=>hb.elim
   pref:=fun k t e=>by simp at e }
 refine ⟨(r.nolimit.keeps k1.base).keeps (by refine ze2a kp2 fun h' tk e hkk=>?_;clear kp2;rw [e];exact hkk),codeAny_func ?_⟩
 have ha':AOk (A.deeper env) L:=⟨ha.hh,by have:=ha.dp;show A.depth + 1 + L≤900;lia,by have:=ha.un;show A.units + 3 + 8 * L≤9000;lia⟩
 exact a9 (h env s2 F kp2 (fun c hc=>hfresh c (hF c hc).1) xf hvar ha') fun fl s3 h3=>h3
theorem cm {L:Nat} {a:Addr} {fd:FuncData} {body:List Stmt} {pargs:List Value} {kargs:List (Str × Value)} {binds:List (Str × Value)} (r:g9 C) (f:oy C a fd body) (hbind:∀ (A:Around) (E:Value→Shared→Prop) (Q:List (Str × Value)→Shared→Prop),Q binds s→wpAny (model C.prog C.w) A (bindArgs fd ⟨pargs,kargs⟩) Q E s)
   (hcs:∀ x∈binds,c9 (fun y=>fd.scope.names.lookup y) x.1 = true) (hbn:(binds.map (·.1)).Nodup) (ha:yw A (L + 1)) (hk:Sok C Z io g s) {l:List (Str × D)} (hnd:(l.map (·.1)).Nodup)
   (hl:∀ y d,l.lookup y = some d→∃ v,binds.lookup y = some v∧Has (VV C io Z) io s.heap d v) {R:Value→Shared→Prop}
   (h:∀ env s2 F,Keeps s s2→(∀ x∈F,s.heap.get? x = none)→Frm C ⟨fun J J=>False,[]⟩ (fun x=>fd.scope.names.lookup x) s io Z env (fun J=>0) [] F (m0 l) io g s2→(∀ y v,binds.lookup y = some v→m4 (fun x=>fd.scope.names.lookup x) env s2.heap y v)→AOk (A.deeper env) L →
     wpAny (model C.prog C.w) (A.deeper env) (execs body env) (fun fl s'=>R (match fl with | .ret v=>v | _=>.none) s') noE s2) :
   wpAny (model C.prog C.w) A (call (.ref a) pargs kargs) R noE s :=
 wpAny_call (mh r f hbind hk.base hcs hbn ha hk hnd hl h)
end
end Mine
end
section
open PySem PySem.W PySem.Calls PyProof.Rows
namespace Mine
variable {C:Cst}
section
variable {K:Frag} {A:Around} {env:Env} {s:Shared} {x dx l a:Addr}
structure aj (C:Cst) (K:Frag) (fs:List (Str × Addr)):Prop where
 cls:qj C K
 find:∀ m a,fs.lookup m = some a→findIn K (.ref C.cls) m = some (some (.ref a))∧isFn K (.ref a) = true∧fnIn K a = true
 ne:fs.lookup ("_headers":Str) = none
theorem cx {fs:List (Str × Addr)} (k:aj C K fs) (hf:fs.lookup ("_convert_string_type":Str) = some a) (cv:cu C a) (rt:g9 C) (hdp:A.depth < 990) {ps q p pc pk:Pos} {kc:Nat} {b:Bool} {e:Expr} (hline:(q.endLine==p.line) = true) (hpe:f5 e = true)
   (hself:∀ (Q:Value→Shared→Prop),Q (.ref x) s→wpAny (model C.prog C.w) A (eval (.Name "self" ps) env) Q noE s) (hb:∀ b o,C.H.get? b = some o→s.heap.get? b = some o) (hs:y9 C s.heap x dx l) {Q:Value→Shared→Prop}
   (he:wpAny (model C.prog C.w) A (eval e env) (fun v s1=>∃ y t,v = .str y t∧t9 y = true∧(∀ b o,C.H.get? b = some o→s1.heap.get? b = some o)∧∀ s2,Keeps s1 s2→Q (.str y t) s2) noE s) :
   wpAny (model C.prog C.w) A (eval (.Call (.Attribute (.Name "self" ps) "_convert_string_type" q) [e] [⟨some "name",.Constant (.bool b) kc pc,pk⟩] p) env) Q noE s:=by
 refine za2 (k.find _ _ hf) fun f1 f2 f3=>?_
 have cv':=cv
 obtain ⟨fd,p1,p2,p3,p4,p5,p6,p7,p8,p9,p10,p11,p12,p13,p14,p15,p16,p17,p18,p19,st1,st2,fn,_⟩:=cv'.fn
 refine zea fn.get fun o hoa hd=>?_
 refine uw rfl hline (by show 1 < 20;lia) (by simp [hpe]) (by show 1 < 5;lia) rfl (hself _ fun pl=>uy k.cls hb hs f1 f2 (by decide) ?_)
 refine callWith_function_kw (o:=o) (fd:=fd) (evalArgs_kw2 rfl (wpAny_items_cons (a9 he ?_) (f6 (bp hpe))) (f6 (bp hpe)))
 rintro v s1 ⟨y,t,rfl,hy,hb1,hq⟩
 refine wpAny_items_nil ?_
 refine wpAny_evalAll_cons (wpAny_bind (wpAny_pure (wpAny_bind (wpAny_standAt (wpAny_pure (wpAny_evalAll_nil ⟨⟨hb1 _ _ hoa,hd⟩,?_⟩))))))
 exact a9 (bb9 cv rt hdp hb1 hy) fun v s2 h2=>by
   obtain ⟨rfl,h2⟩:=h2
   exact hq s2 h2
end
end Mine
namespace Mine
theorem c8 {α β:Type} {x:Option (α × Sg)} {a:α} {g:Sg} {f:α→Sg→Option (β × Sg)} (h:x = some (a,g)):c7 x f = f a g:=by rw [h];rfl
theorem ah {α β:Type} {x:Option α} {a:α} {f:α→β} (h:x = some a):x.map f = some (f a):=by rw [h];rfl
section
variable {T:Tbl} {mu:List Str} {n:Nat} {kd:Kd} {ro:Ro} {fo fo1:Fo} {g g1 g2 g3 g4:Sg} {R:Option Fl} {r:List Stmt}
theorem t8:f7 T mu (n + 1) kd [] fo g = some (.next fo g):=rfl
noncomputable def bf1 (x:Option Fl) (F:Fo→Sg→Option Fl):Option Fl:=match x with
 | some (.next fo g)=>F fo g
 | x=>x
theorem jx {st:Stmt}:f7 T mu (n + 1) kd (st::r) fo g = bf1 (be T mu n kd st fo g) fun fo g=>f7 T mu n kd r fo g:=rfl
theorem d7 {st:Stmt} (h:be T mu n kd st fo g = some (.next fo1 g1)) (hr:f7 T mu n kd r fo1 g1 = R):f7 T mu (n + 1) kd (st::r) fo g = R:=by
 rw [jx,h];exact hr
theorem dg {st:Stmt} {d:D} (h:be T mu n kd st fo g = some (.ret d g1)):f7 T mu (n + 1) kd (st::r) fo g = some (.ret d g1):=by
 rw [jx,h];rfl
theorem av2 {x:Option (D × Sg)} {d:D} {F:D→Sg→Option Fl} (h:x = some (d,g)):dK x F = F d g:=by rw [h];rfl
theorem cs4 {x:Option (Bool × Sg)} {d:Bool} {F:Bool→Sg→Option Fl} (h:x = some (d,g)):bK x F = F d g:=by rw [h];rfl
theorem cn5 {x:Option (List D × Sg)} {d:List D} {F:List D→Sg→Option Fl} (h:x = some (d,g)):lK x F = F d g:=by rw [h];rfl
theorem ft {α:Type} {c:Bool} {x:Option α} (h:c = false):(if c = true then none else x) = x:=by rw [h];rfl
theorem r8 {x:Str} {px sp:Pos} {e:Expr} {d:D} (hx:c9 kd x = true) (h:pev T n kd (d6 fo) e g = some (d,g1)):be T mu (n + 1) kd (.Assign [.Name x px] e sp) fo g = some (.next (o9 x (.val d) fo) g1):=by
 show (if (!c9 kd x) = true then none else dK (pev T n kd (d6 fo) e g) fun d g=>some (Fl.next (o9 x (.val d) fo) g)) = _
 exact (ft (by rw [hx];rfl)).trans (av2 h)
theorem v5 {p:Pos} {e:Expr} {d:D} (h:pev T n kd (frz fo) e g = some (d,g1)):be T mu (n + 1) kd (.Return (some e) p) fo g = some (.ret d g1):=by
 show dK (pev T n kd (frz fo) e g) (fun d g=>some (Fl.ret d g)) = _
 exact av2 h
theorem gu {t:Expr} {a b:List Stmt} {p:Pos} {c:Bool} (h:pt T n kd (d6 fo) t g = some (c,g1)) (hr:f7 T mu n kd (if c then a else b) fo g1 = R):be T mu (n + 1) kd (.If t a b p) fo g = R:=by
 show bK (pt T n kd (d6 fo) t g) (fun c g=>if c = true then f7 T mu n kd a fo g else f7 T mu n kd b fo g) = _
 refine (cs4 h).trans ?_
 induction c using Bool.casesOn<;>exact hr
theorem nf {t it:Expr} {ds:List D} (hn:ay8 it = none) (h:ke T n kd ro it g = some (ds,g1)):ap7 (pev T n kd ro) (ke T n kd ro) kd t it g = some (ds,g1):=by
 unfold ap7;rw [hn];exact h
theorem an6 {t a:Expr} {q p:Pos} {l:List D} (hc:(ax8 t&&kd ("enumerate":Str)==some .globalImplicit&&f5 a) = true) (h:pev T n kd ro a g = some (.lst l,g1)) (hl:l.length≤lim):ap7 (pev T n kd ro) (ke T n kd ro) kd t (.Call (.Name "enumerate" q) [a] [] p) g = some (az8 0 l,g1):=by
 show (if (ax8 t&&kd ("enumerate":Str)==some .globalImplicit&&f5 a) = true then c7 (pev T n kd ro a g) cu3 else none) = _
 exact (if_pos hc).trans ((c8 h).trans (if_pos hl))
theorem br0 {e:Expr} {p:Pos} (hn:bs6 fo e = none) (hc:ax5 e = true) (h:pev T n kd (d6 fo) e g = some (.none,g1)):be T mu (n + 1) kd (.Expr e p) fo g = some (.next fo g1):=by
 show bh9 (pev T n kd (d6 fo)) fo e g = _
 unfold bh9;rw [hn]
 refine (if_pos hc).trans ?_
 unfold cj1;rw [h]
theorem xr {e0 e:Expr} {p:Pos} {z:Str} {l:List D} {d:D} (hn:bs6 fo e0 = some (z,l,e)) (h:pev T n kd (d6 fo) e g = some (d,g1)):be T mu (n + 1) kd (.Expr e0 p) fo g = some (.next (o9 z (.own (l++[d])) fo) g1):=by
 show bh9 (pev T n kd (d6 fo)) fo e0 g = _
 unfold bh9;rw [hn]
 show cn4 _ _ _ _ _ _ = _
 unfold cn4;rw [h]
theorem fe {α β:Type} {x:Option (α × Sg)} {a:α} {g:Sg} {f:α→Sg→Option β} (h:x = some (a,g)):cn x f = f a g:=by rw [h];rfl
theorem bh2 {o i:Expr} {p q:Pos} {k:Nat} {j r:D} {S:ae} (ho:pev T n kd (d6 fo) o g = some (.hdr k,g1)) (hi:pev T n kd (d6 fo) i g1 = some (j,g2)) (hS:T.mt "__delitem__" = some S) (hs:S [.hdr k,j] g2 = some (r,g3)):be T mu (n + 1) kd (.Delete [.Subscript o i q] p) fo g = some (.next fo g3):=by
 show (cn (pev T n kd (d6 fo) o g) fun x g=>cn (pev T n kd (d6 fo) i g) fun j g=>cl5 (T.mt "__delitem__") x j fo g) = _
 refine (fe ho).trans ((fe hi).trans ?_)
 rw [hS]
 show (match S [.hdr k,j] g2 with | some (_,g)=>some (Fl.next fo g) | none=>none) = _
 rw [hs]
theorem bi8 {t it:Expr} {body:List Stmt} {p:Pos} {ds:List D} (ht:(fq t).isNone = false) (h:ap7 (pev T n kd (d6 fo)) (ke T n kd (d6 fo)) kd t it g = some (ds,g1)) (hr:wl (fun fo g=>f7 T mu n kd body fo g) kd t ds fo g1 = R):be T mu (n + 1) kd (.For t it body [] p) fo g = R:=by
 show (if (fq t).isNone = true then none else lK (ap7 (pev T n kd (d6 fo)) (ke T n kd (d6 fo)) kd t it g) fun ds g=>wl (fun fo g=>f7 T mu n kd body fo g) kd t ds fo g) = _
 exact (ft ht).trans ((cn5 h).trans hr)
theorem ac7 {t:Expr} {body:List Stmt} {p:Pos} (hr:bx (fun fo g=>pt T n kd (d6 fo) t g) (fun fo g=>f7 T mu n kd body fo g) 100000 fo g = R):be T mu (n + 1) kd (.While t body [] p) fo g = R:=hr
theorem at0 {k:Nat} {p:Pos}:pev T (n + 1) kd ro (.Constant .none k p) g = some (.none,g):=rfl
theorem j4 {k:Nat} {p:Pos} {b:Int}:pev T (n + 1) kd ro (.Constant (.int b) k p) g = some (.int b,g):=rfl
theorem j2 {k:Nat} {p:Pos} {b:Str} (h:j7 b = true):pev T (n + 1) kd ro (.Constant (.str b) k p) g = some (.str b,g):=by
 show (if j7 b = true then some (D.str b,g) else none) = _
 exact if_pos h
theorem o1 {x:Str} {p:Pos} {d:D} (h:ro.lookup x = some d) (hx:(x==("__debug__":Str)||x==("__classdict__":Str)) = false):pev T (n + 1) kd ro (.Name x p) g = some (d,g):=by
 show (if (x==("__debug__":Str)||x==("__classdict__":Str)) = true then none else (ro.lookup x).map (·,g)) = _
 exact (ft hx).trans (ah h)
theorem j8 {op:Operator} {a b:Expr} {p:Pos} {x y d:D} (h1:pev T n kd ro a g = some (x,g1)) (h2:pev T n kd ro b g1 = some (y,g2)) (h:ac6 op x y = some d):pev T (n + 1) kd ro (.BinOp a op b p) g = some (d,g2):=by
 show (c7 (pev T n kd ro a g) fun x g=>c7 (pev T n kd ro b g) fun y g=>(ac6 op x y).map (·,g)) = _
 exact (c8 h1).trans ((c8 h2).trans (ah h))
theorem jl {a:Expr} {p:Pos} {i:Int} (h1:pev T n kd ro a g = some (.int i,g1)):pev T (n + 1) kd ro (.UnaryOp .USub a p) g = some (.int (-i),g1):=by
 show (c7 (pev T n kd ro a g) fun x g=>match x with | .int i=>some (D.int (-i),g) | _=>none) = _
 exact c8 h1
theorem yo {op:CmpOp} {a b:Expr} {p:Pos} {x y:D} {c:Bool} (h1:pev T n kd ro a g = some (x,g1)) (h2:pev T n kd ro b g1 = some (y,g2)) (h:jo op x y = some c):pev T (n + 1) kd ro (.Compare a [op] [b] p) g = some (.bool c,g2):=by
 show (c7 (pev T n kd ro a g) fun x g=>c7 (pev T n kd ro b g) fun y g=>(jo op x y).map fun c=>(D.bool c,g)) = _
 exact (c8 h1).trans ((c8 h2).trans (ah h))
theorem b9:evs (pev T n kd ro) [] g = some ([],g):=rfl
theorem b0 {e:Expr} {es:List Expr} {d:D} {ds:List D} (hp:f5 e = true) (h1:pev T n kd ro e g = some (d,g1)) (h2:evs (pev T n kd ro) es g1 = some (ds,g2)):evs (pev T n kd ro) (e::es) g = some (d::ds,g2) :=
 (t7 hp).trans ((c8 h1).trans (c8 h2))
theorem di {es:List Expr} {p:Pos} {ds:List D} (h:evs (pev T n kd ro) es g = some (ds,g1)) (hl:ds.length≤lim):pev T (n + 1) kd ro (.List es p) g = some (.lst ds,g1):=by
 show (c7 (evs (pev T n kd ro) es g) fun ds g=>if ds.length≤lim then some (D.lst ds,g) else none) = _
 exact (c8 h).trans (if_pos hl)
theorem iq {es:List Expr} {k:Nat} {p:Pos} {ds:List D} (h:evs (pev T n kd ro) es g = some (ds,g1)) (hl:ds.length≤lim):pev T (n + 1) kd ro (.Tuple es k p) g = some (.tup ds,g1):=by
 show (c7 (evs (pev T n kd ro) es g) fun ds g=>if ds.length≤lim then some (D.tup ds,g) else none) = _
 exact (c8 h).trans (if_pos hl)
theorem w4 {a:Expr} {lo hi st:Option Expr} {p q:Pos} {x d:D} {l h s:Option Int} (h1:pev T n kd ro a g = some (x,g1)) (h2:fx (pev T n kd ro) lo g1 = some (l,g2)) (h3:fx (pev T n kd ro) hi g2 = some (h,g3)) (h4:fx (pev T n kd ro) st g3 = some (s,g4))
   (e:y0 x l h s = some d):pev T (n + 1) kd ro (.Subscript a (.Slice lo hi st p) q) g = some (d,g4):=by
 show (c7 (pev T n kd ro a g) fun x g=>c7 (fx (pev T n kd ro) lo g) fun l g=>c7 (fx (pev T n kd ro) hi g) fun h g=>c7 (fx (pev T n kd ro) st g) fun s g=>(y0 x l h s).map (·,g)) = _
 exact (c8 h1).trans ((c8 h2).trans ((c8 h3).trans ((c8 h4).trans (ah e))))
theorem l8:fx (pev T n kd ro) none g = some (none,g):=rfl
theorem r7 {e:Expr} {i:Int} (h:pev T n kd ro e g = some (.int i,g1)) (hb:big i = true):fx (pev T n kd ro) (some e) g = some (some i,g1):=by
 show (c7 (pev T n kd ro e g) fun d g=>match d with | .int i=>if big i = true then some (some i,g) else none | _=>none) = _
 refine (c8 h).trans ?_
 show (if big i = true then some (some i,g1) else none) = _
 exact if_pos hb
theorem ag6 {a b:Expr} {q:Pos} {y:D} (h:pev T n kd ro b g1 = some (y,g2)):pev T (n + 1) kd ro (.Subscript a b q) g = c7 (pev T n kd ro a g) fun x g=>c7 (pev T n kd ro b g) fun y g =>
   match x with
   | .hdr _=>match T.mt "__getitem__" with | some f=>f [x,y] g | none=>none
   | _=>(z7 x y).map (·,g):=by
 induction b using Expr.casesOn<;>first | rfl | (induction n using Nat.casesOn<;>exact a8 h)
theorem d8 {a b:Expr} {q:Pos} {x y d:D} (h1:pev T n kd ro a g = some (x,g1)) (h2:pev T n kd ro b g1 = some (y,g2)) (e:z7 x y = some d):pev T (n + 1) kd ro (.Subscript a b q) g = some (d,g2):=by
 refine (ag6 h2).trans ((c8 h1).trans ((c8 h2).trans ?_))
 have e2:(z7 x y).map (·,g2) = some (d,g2):=ah e
 induction x using D.casesOn<;>first | exact a8 e | exact e2
theorem ae3 {a b:Expr} {q:Pos} {k:Nat} {y d:D} {S:ae} (hT:T.mt "__getitem__" = some S) (h1:pev T n kd ro a g = some (.hdr k,g1)) (h2:pev T n kd ro b g1 = some (y,g2)) (e:S [.hdr k,y] g2 = some (d,g3)):pev T (n + 1) kd ro (.Subscript a b q) g = some (d,g3):=by
 refine (ag6 h2).trans ((c8 h1).trans ((c8 h2).trans ?_))
 show (match T.mt "__getitem__" with | some f=>f [.hdr k,y] g2 | none=>none) = _
 rw [hT];exact e
noncomputable def trD (tr:Ro→Expr→Sg→Option (Bool × Sg)) (ifs:List Expr) (ro:Ro) (g:Sg):Option (D × Sg) :=
 match ifs with
 | []=>some (.bool true,g)
 | [c]=>c7 (tr ro c g) fun b g=>some (.bool b,g)
 | _=>none
noncomputable def trX (T:Tbl) (n:Nat) (sc:Scope) (ifs:List Expr) (ro:Ro) (g:Sg):Option (D × Sg):=match ifs with
 | []=>some (.bool true,g)
 | [c]=>c7 (pt T n (fun x=>sc.names.lookup x) ro c g) fun b g=>some (.bool b,g)
 | _=>none
theorem bw0 {ifs:List Expr} {sc:Scope}:trX T n sc ifs = trD (fun ro c g=>pt T n (fun x=>sc.names.lookup x) ro c g) ifs:=by
 rcases ifs with _ | ⟨c,_ | ⟨c2,r⟩⟩<;>rfl
theorem z1 {el t it:Expr} {ifs:List Expr} {sc:Scope} {p:Pos} {ds ys:List D} (hsc:ig sc kd t = true) (h1:ke T n kd ro it g = some (ds,g1))
   (h2:o7 (emK (trD (fun ro c g=>pt T n (fun x=>sc.names.lookup x) ro c g) ifs) (fun ro g=>pev T n (fun x=>sc.names.lookup x) ro el g)) t (m9 sc ro) ds g1 = some (ys,g2)) (hl:ys.length≤lim):pev T (n + 1) kd ro (.ListComp el [⟨t,it,ifs,0⟩] sc p) g = some (.lst ys,g2):=by
 rw [← bw0] at h2
 show (if (!ig sc kd t) = true then none else
       c7 (ke T n kd ro it g) fun ds g =>
         c7 (o7 (emK (trX T n sc ifs)
             (fun ro g=>pev T n (fun x=>sc.names.lookup x) ro el g)) t (m9 sc ro) ds g)
           fun ys g=>if ys.length≤lim then some (D.lst ys,g) else none) = _
 exact (ft (by rw [hsc];rfl)).trans ((c8 h1).trans ((c8 h2).trans (if_pos hl)))
theorem bc3 {el t it u iu:Expr} {sc:Scope} {p:Pos} {ds ys:List D} (hsc:sj sc kd t u = true) (h1:ke T n kd ro it g = some (ds,g1))
   (h2:o7 (fun ro g=>c7 (ke T n (fun x=>sc.names.lookup x) ro iu g) fun es g=>o7 (emK (fun _ g=>some (.bool true,g)) (fun ro g=>pev T n (fun x=>sc.names.lookup x) ro el g)) u ro es g) t (m9 sc ro) ds g1 = some (ys,g2)) (hl:ys.length≤lim):pev T (n + 1) kd ro (.ListComp el [⟨t,it,[],0⟩,⟨u,iu,[],0⟩] sc p) g = some (.lst ys,g2):=by
 show (if (!sj sc kd t u) = true then none else
       c7 (ke T n kd ro it g) fun ds g =>
         c7 (o7 (fun ro g=>c7 (ke T n (fun x=>sc.names.lookup x) ro iu g) fun es g=>o7 (emK (fun _ g=>some (.bool true,g)) (fun ro g=>pev T n (fun x=>sc.names.lookup x) ro el g)) u ro es g) t (m9 sc ro) ds g)
           fun ys g=>if ys.length≤lim then some (D.lst ys,g) else none) = _
 exact (ft (by rw [hsc];rfl)).trans ((c8 h1).trans ((c8 h2).trans (if_pos hl)))
theorem ae9 {f:Str} {q p:Pos} {as:List Expr} (h0:(kd f != some .globalImplicit||f==("__debug__":Str)) = false) (h1:(f==("_split_list":Str)) = false) (h2:(f==("Headers":Str)) = false) (h3:r6 as = true) (h4:(ay f&&!(as.all f5&&decide (as.length < 20))) = false) (h5:ay6 as = none) :
   pev T (n + 1) kd ro (.Call (.Name f q) as [] p) g = c7 (evs (pev T n kd ro) as g) fun ys g=>ce T f ys g:=by
 show (if (kd f != some .globalImplicit||f==("__debug__":Str)) = true then none else if (f==("_split_list":Str)) = true then bt4 T n kd ro g as else if (f==("Headers":Str)) = true then cm0 T n kd ro g as
     else if (!r6 as) = true then none else match ay6 as with | some (e,c)=>bq8 (T.fz f) (fun g=>yx T n kd ro e g) (fun g=>pev T n kd ro c g) g | none=>if (ay f&&!(as.all f5&&decide (as.length < 20))) = true then none else c7 (evs (pev T n kd ro) as g) fun ys g=>ce T f ys g) = _
 rw [h5]
 have neg:∀ {c:Bool} {x y:Option (D × Sg)},c = false→(if c = true then x else y) = y:=fun h=>by rw [h];rfl
 exact (neg h0).trans ((neg h1).trans ((neg h2).trans ((neg (by rw [h3];rfl)).trans (neg h4))))
theorem mr {f:Str} {q p:Pos} {as:List Expr} {ys:List D} {d:D} (hkd:kd f = some .globalImplicit) (hf:(f==("__debug__":Str)||f==("_split_list":Str)||f==("Headers":Str)) = false) (hfp:r6 as = true) (hb:ay f = false) (hz:ay6 as = none)
   (h:evs (pev T n kd ro) as g = some (ys,g1)) (hc:ce T f ys g1 = some (d,g2)):pev T (n + 1) kd ro (.Call (.Name f q) as [] p) g = some (d,g2):=by
 simp only [Bool.or_eq_false_iff] at hf
 exact (ae9 (by rw [hkd,hf.1.1];rfl) hf.1.2 hf.2 hfp (by rw [hb];rfl) hz).trans ((c8 h).trans hc)
theorem fg {f:Str} {q p:Pos} {as:List Expr} {ys:List D} {d:D} (hkd:kd f = some .globalImplicit) (hf:(f==("__debug__":Str)||f==("_split_list":Str)||f==("Headers":Str)) = false) (hp:(as.all f5&&decide (as.length < 20)) = true) (hfp:r6 as = true) (hz:ay6 as = none)
   (h:evs (pev T n kd ro) as g = some (ys,g1)) (hc:ce T f ys g1 = some (d,g2)):pev T (n + 1) kd ro (.Call (.Name f q) as [] p) g = some (d,g2):=by
 simp only [Bool.or_eq_false_iff] at hf
 exact (ae9 (by rw [hkd,hf.1.1];rfl) hf.1.2 hf.2 hfp (by rw [hp,Bool.not_true,Bool.and_false]) hz).trans ((c8 h).trans hc)
theorem m8 {o:Expr} {m:Str} {q p:Pos} {as:List Expr} {x d:D} {ys:List D} (h0:(cg o&&q.endLine==p.line&&decide (as.length < 20)&&as.all f5) = true) (h1:pev T n kd ro o g = some (x,g1)) (h2:evs (pev T n kd ro) as g1 = some (ys,g2)) (h3:ez T m x ys g2 = some (d,g3)) :
   pev T (n + 1) kd ro (.Call (.Attribute o m q) as [] p) g = some (d,g3):=by
 show (if (cg o&&q.endLine==p.line&&decide (as.length < 20)&&as.all f5) = true then c7 (pev T n kd ro o g) fun x g=>c7 (evs (pev T n kd ro) as g) fun ys g=>ez T m x ys g else none) = _
 exact (if_pos h0).trans ((c8 h1).trans ((c8 h2).trans h3))
noncomputable def cn8 (e:Expr):Bool:=match e with
 | .Call (.Name _ _) _ [] _=>true
 | _=>false
theorem gw {e:Expr} {d:D} {ds:List D} (hn:cn8 e = false) (h:pev T n kd ro e g = some (d,g1)) (hi:dc d = some ds):ke T (n + 1) kd ro e g = some (ds,g1):=by
 have key:ke T (n + 1) kd ro e g = c7 (pev T n kd ro e g) fun d g=>(dc d).map (·,g):=by
   induction e using Expr.casesOn with
   | Call f as kws p =>
     induction f using Expr.casesOn with
     | Name f q=>induction kws using List.casesOn with
       | nil=>exact Bool.noConfusion (show true = false from hn)
       | cons k r=>rfl
     | _=>rfl
   | _=>rfl
 exact key.trans ((c8 h).trans (ah hi))
noncomputable def bz7 (ys:List D):Option (List D):=match ys with
 | [.int b]=>m5 0 b 1
 | [.int a,.int b]=>m5 a b 1
 | [.int a,.int b,.int c]=>m5 a b c
 | _=>none
theorem bo {q p:Pos} {as:List Expr} {ys ds:List D} (hk:(kd ("range":Str) != some .globalImplicit||!as.all f5) = false) (h:evs (pev T n kd ro) as g = some (ys,g1)) (hr:bz7 ys = some ds) :
   ke T (n + 1) kd ro (.Call (.Name "range" q) as [] p) g = some (ds,g1):=by
 show (if (kd ("range":Str) != some .globalImplicit||!as.all f5) = true then none else c7 (evs (pev T n kd ro) as g) af5) = _
 refine (ft hk).trans ((c8 h).trans ?_)
 clear h
 rcases ys with _ | ⟨d1,l⟩
 · exact a8 hr
 induction d1 using D.casesOn with
 | int a =>
   rcases l with _ | ⟨d2,l⟩
   · exact ah hr
   induction d2 using D.casesOn with
   | int b =>
     rcases l with _ | ⟨d3,l⟩
     · exact ah hr
     induction d3 using D.casesOn with
     | int c =>
       rcases l with _ | ⟨d4,l⟩
       · exact ah hr
       · exact a8 hr
     | _=>exact a8 hr
   | _=>exact a8 hr
 | _=>exact a8 hr
theorem r0 {op:CmpOp} {a b:Expr} {p:Pos} {x y:D} {c:Bool} (h1:pev T n kd ro a g = some (x,g1)) (h2:pev T n kd ro b g1 = some (y,g2)) (h:jo op x y = some c):pt T (n + 1) kd ro (.Compare a [op] [b] p) g = some (c,g2):=by
 show (c7 (pev T n kd ro a g) fun x g=>c7 (pev T n kd ro b g) fun y g=>(jo op x y).map (·,g)) = _
 exact (c8 h1).trans ((c8 h2).trans (ah h))
theorem ay5 {x:Str} {p:Pos} {d:D} {c:Bool} (h1:pev T n kd ro (.Name x p) g = some (d,g1)) (h:z6 d = some c):pt T (n + 1) kd ro (.Name x p) g = some (c,g1):=by
 show (c7 (pev T n kd ro (.Name x p) g) fun x g=>(z6 x).map (·,g)) = _
 exact (c8 h1).trans (ah h)
theorem cg6 {a:Expr} {p:Pos} {c:Bool} (h1:pt T n kd ro a g = some (c,g1)):pt T (n + 1) kd ro (.UnaryOp .Not a p) g = some (!c,g1):=by
 show (c7 (pt T n kd ro a g) fun b g=>some (!b,g)) = _
 exact c8 h1
theorem aq2 {vs:List Expr} {p:Pos} {c:Bool} (h:ay0 (fun e g=>pt T n kd ro e g) vs g = some (c,g1)):pt T (n + 1) kd ro (.BoolOp .And vs p) g = some (c,g1):=h
theorem bq9 {vs:List Expr} {p:Pos} {c:Bool} (h:bg8 (fun e g=>pt T n kd ro e g) vs g = some (c,g1)):pt T (n + 1) kd ro (.BoolOp .Or vs p) g = some (c,g1):=h
theorem br {o:Expr} {x:Str} {p q:Pos} (ho:pev T n kd ro o g = some (.str x,g)) (hns:cg o = true) (hl:(q.endLine==p.line) = true) (hs:j7 (Txt.lower x) = true) :
   pev T (n + 1) kd ro (.Call (.Attribute o "lower" q) [] [] p) g = some (.str (Txt.lower x),g) :=
 m8 (by rw [hns,hl];rfl) ho b9 (show (if j7 (Txt.lower x) = true then some (D.str (Txt.lower x),g) else none) = _ from if_pos hs)
theorem bs9 {a b:Expr} {x y:Str} {p:Pos} (ha:pev T n kd ro a g = some (.str x,g)) (hb:pev T n kd ro b g = some (.str y,g)):pt T (n + 1) kd ro (.Compare a [.Eq] [b] p) g = some (x==y,g):=r0 ha hb rfl
theorem cs2 {a b:Expr} {x y:Str} {p:Pos} (ha:pev T n kd ro a g = some (.str x,g)) (hb:pev T n kd ro b g = some (.str y,g)):pt T (n + 1) kd ro (.Compare a [.NotEq] [b] p) g = some (!(x==y),g):=r0 ha hb rfl
end
theorem xu {body:Fo→Sg→Option Fl} {kd:Kd} {t:Expr} {d:D} {ds:List D} {fo:Fo} {g:Sg} {b:List (Str × D)} (h:tgt t d = some b) (hc:(b.all fun p=>c9 kd p.1) = true):wl body kd t (d::ds) fo g = bf1 (body (j9 b fo) g) fun fo g=>wl body kd t ds fo g:=by
 show (match tgt t d with
   | none=>none
   | some b=>if (b.all fun p=>c9 kd p.1) = true then bf1 (body (j9 b fo) g) (fun fo g=>wl body kd t ds fo g) else none) = _
 rw [h]
 exact if_pos hc
theorem aj8 {em:Em} {t:Expr} {base:Ro} {g:Sg} {d:D} {ds:List D} {b:List (Str × D)} (h:tgt t d = some b):o7 em t base (d::ds) g = c7 (em (b++base) g) fun ys g=>c7 (o7 em t base ds g) fun zs g=>some (ys++zs,g):=by
 show (match tgt t d with
   | none=>none
   | some b=>c7 (em (b++base) g) fun ys g=>c7 (o7 em t base ds g) fun zs g=>some (ys++zs,g)) = _
 rw [h]
theorem mw {em:Em} {t:Expr} {base:Ro} {g g1 g2:Sg} {d:D} {ds ys zs:List D} {b:List (Str × D)} (h:tgt t d = some b) (h1:em (b++base) g = some (ys,g1)) (h2:o7 em t base ds g1 = some (zs,g2)):o7 em t base (d::ds) g = some (ys++zs,g2) :=
 (aj8 h).trans ((c8 h1).trans (c8 h2))
theorem bz1 {tr el:Ro→Sg→Option (D × Sg)} {ro:Ro} {g g1 g2:Sg} {y:D} (h1:tr ro g = some (.bool true,g1)) (h2:el ro g1 = some (y,g2)):emK tr el ro g = some ([y],g2) :=
 (c8 h1).trans (c8 h2)
theorem cp3 {tr el:Ro→Sg→Option (D × Sg)} {ro:Ro} {g g1:Sg} (h1:tr ro g = some (.bool false,g1)):emK tr el ro g = some ([],g1):=c8 h1
theorem gp {tr el:Ro→Sg→Option (D × Sg)} {t:Expr} {base:Ro} {g g1 g2 g3:Sg} {d y:D} {ds ys:List D} {b:List (Str × D)} (h:tgt t d = some b) (h1:tr (b++base) g = some (.bool true,g1)) (h2:el (b++base) g1 = some (y,g2)) (h3:o7 (emK tr el) t base ds g2 = some (ys,g3)):o7 (emK tr el) t base (d::ds) g = some (y::ys,g3) :=
 mw h (bz1 h1 h2) h3
theorem ul {tr el:Ro→Sg→Option (D × Sg)} {t:Expr} {base:Ro} {g g1 g2:Sg} {d:D} {ds ys:List D} {b:List (Str × D)} (h:tgt t d = some b) (h1:tr (b++base) g = some (.bool false,g1)) (h3:o7 (emK tr el) t base ds g1 = some (ys,g2)):o7 (emK tr el) t base (d::ds) g = some (ys,g2) :=
 mw h (cp3 h1) h3
end Mine
namespace Mine
variable {C:Cst}
theorem w7 {y:Str} {d:D}:∀ {fo:Fo},fo.lookup y = some (.val d)→(d6 fo).lookup y = some d
 | [],h=>by injection h
 | (z,.val e)::r,h=>by
   simp only [d6]
   by_cases hb:(y==z) = true
   · simp only [List.lookup,hb,Option.some.injEq] at h ⊢;injection h
   · have hb':(y==z) = false:=by simpa using hb
     simp only [List.lookup,hb'] at h ⊢
     exact w7 h
 | (z,.own e)::r,h=>by
   simp only [d6]
   by_cases hb:(y==z) = true
   · simp only [List.lookup,hb,Option.some.injEq] at h;injection h
   · have hb':(y==z) = false:=by simpa using hb
     simp only [List.lookup,hb'] at h
     exact w7 h
theorem nj {y:Str} {d:D}:∀ {fo:Fo},fo.lookup y = some (.val d)→(frz fo).lookup y = some d
 | [],h=>by injection h
 | (z,.val e)::r,h=>by
   simp only [frz]
   by_cases hb:(y==z) = true
   · simp only [List.lookup,hb,Option.some.injEq] at h ⊢;injection h
   · have hb':(y==z) = false:=by simpa using hb
     simp only [List.lookup,hb'] at h ⊢
     exact nj h
 | (z,.own e)::r,h=>by
   simp only [frz]
   by_cases hb:(y==z) = true
   · simp only [List.lookup,hb,Option.some.injEq] at h;injection h
   · have hb':(y==z) = false:=by simpa using hb
     simp only [List.lookup,hb'] at h ⊢
     exact nj h
theorem ya {y:Str} {d:D}:∀ {l:List (Str × D)},l.lookup y = some d→(m0 l).lookup y = some (.val d)
 | [],h=>by injection h
 | (z,e)::r,h=>by
   show (((z,EV.val e)::m0 r:Fo)).lookup y = _
   by_cases hb:(y==z) = true
   · simp only [List.lookup,hb,Option.some.injEq] at h ⊢;rw [h]
   · have hb':(y==z) = false:=by simpa using hb
     simp only [List.lookup,hb'] at h ⊢
     exact ya h
noncomputable def jy (ps:List (Str × Str)) (n:Str):Option Str:=(ps.find? fun p=>Txt.lower p.1==n).map (·.2)
noncomputable def m7 (p:Str × Str):D:=.tup [.str p.1,.str p.2]
noncomputable def ab3 (p:Nat→Pos):List Stmt :=
 [.Assign [.Name "name" (p 0)] (.Call (.Attribute (.Name "self" (p 1)) "_convert_string_type" (p 2)) [.Call (.Attribute (.Name "name" (p 3)) "lower" (p 4)) [] [] (p 5)] [⟨some "name",.Constant (.bool true) 0 (p 6),p 7⟩] (p 8)) (p 9),
  .For (.Tuple [.Name "k" (p 10),.Name "v" (p 11)] 0 (p 12)) (.Attribute (.Name "self" (p 13)) "_headers" (p 14))
    [.If (.Compare (.Call (.Attribute (.Name "k" (p 15)) "lower" (p 16)) [] [] (p 17)) [.Eq] [.Name "name" (p 18)] (p 19)) [.Return (some (.Name "v" (p 20))) (p 21)] [] (p 22)] [] (p 23),
  .Return (some (.Name "default" (p 24))) (p 25)]
theorem ai0 (kd:Kd) (p:Nat→Pos) (hl:((p 16).endLine==(p 17).line) = true) (hk:c9 kd "k" = true) (hv:c9 kd "v" = true) (n:Str):∀ (ps:List (Str × Str)) (fo:Fo),(∀ q∈ps,j7 (Txt.lower q.1) = true)→fo.lookup ("name":Str) = some (EV.val (.str n)) →
   ∃ fl,wl (fun fo g=>f7 T0 [] 8 kd [.If (.Compare (.Call (.Attribute (.Name "k" (p 15)) "lower" (p 16)) [] [] (p 17)) [.Eq] [.Name "name" (p 18)] (p 19)) [.Return (some (.Name "v" (p 20))) (p 21)] [] (p 22)] fo g) kd (.Tuple [.Name "k" (p 10),.Name "v" (p 11)] 0 (p 12)) (ps.map m7) fo [] = some fl ∧
     match jy ps n with
     | some v=>fl = .ret (.str v) []
     | none=>∃ fo',fl = .next fo' []∧∀ y:Str,y≠"k"→y≠"v"→fo'.lookup y = fo.lookup y
 | [],fo,_,_=>⟨_,rfl,fo,rfl,fun J J J=>rfl⟩
 | (k,v)::r,fo,hs,hn=>by
   have hsk:=hs (k,v) (.head _)
   have hset:((([(("k":Str),D.str k),(("v":Str),D.str v)]:List (Str × D))).all fun p=>c9 kd p.1) = true:=by simp [hk,hv]
   have nd:(([(("k":Str),D.str k),(("v":Str),D.str v)]:List (Str × D)).map (·.1)).Nodup:=by show ([("k":Str),("v":Str)]:List Str).Nodup;decide
   have fk:(j9 [(("k":Str),D.str k),(("v":Str),D.str v)] fo).lookup ("k":Str) = some (EV.val (.str k)):=by rw [w8 _ _ _ nd];rfl
   have fv:(j9 [(("k":Str),D.str k),(("v":Str),D.str v)] fo).lookup ("v":Str) = some (EV.val (.str v)):=by rw [w8 _ _ _ nd];rfl
   have fn:(j9 [(("k":Str),D.str k),(("v":Str),D.str v)] fo).lookup ("name":Str) = some (EV.val (.str n)):=by rw [w8 _ _ _ nd];exact hn
   have other:∀ y:Str,y≠"k"→y≠"v"→(j9 [(("k":Str),D.str k),(("v":Str),D.str v)] fo).lookup y = fo.lookup y:=fun y h1 h2=>by
     rw [w8 _ _ _ nd]
     have e1:(y==("k":Str)) = false:=by simpa using h1
     have e2:(y==("v":Str)) = false:=by simpa using h2
     simp [List.lookup,e1,e2]
   generalize hfo1:j9 [(("k":Str),D.str k),(("v":Str),D.str v)] fo = fo1 at fk fv fn other
   have test:pt T0 6 kd (d6 fo1) (.Compare (.Call (.Attribute (.Name "k" (p 15)) "lower" (p 16)) [] [] (p 17)) [.Eq] [.Name "name" (p 18)] (p 19)) [] = some (Txt.lower k==n,[]) :=
     bs9 (br (o1 (w7 fk) (by decide)) rfl hl hsk) (o1 (w7 fn) (by decide))
   have step:f7 T0 [] 8 kd [.If (.Compare (.Call (.Attribute (.Name "k" (p 15)) "lower" (p 16)) [] [] (p 17)) [.Eq] [.Name "name" (p 18)] (p 19)) [.Return (some (.Name "v" (p 20))) (p 21)] [] (p 22)] fo1 [] = if (Txt.lower k==n) = true then some (.ret (.str v) []) else some (.next fo1 []):=by
     induction hc:(Txt.lower k==n) using Bool.casesOn with
     | true=>exact dg (gu (c:=true) (test.trans (by rw [hc])) (dg (v5 (o1 (nj fv) (by decide)))))
     | false=>exact d7 (gu (c:=false) (test.trans (by rw [hc])) t8) t8
   rw [List.map_cons,xu (b:=[(("k":Str),D.str k),(("v":Str),D.str v)]) rfl hset,hfo1,step]
   by_cases hc:(Txt.lower k==n) = true
   · rw [if_pos hc]
     exact ⟨_,rfl,by simp only [jy,List.find?,hc];rfl⟩
   · have hc':(Txt.lower k==n) = false:=by simpa using hc
     rw [if_neg hc]
     refine zea (ai0 kd p hl hk hv n r fo1 (fun q hq=>hs q (.tail _ hq)) fn) fun fl h1 h2=>?_
     refine ⟨fl,h1,?_⟩
     have e:jy ((k,v)::r) n = jy r n:=by simp only [jy,List.find?,hc']
     rw [e]
     induction hg:jy r n using Option.casesOn with
     | some w=>rw [hg] at h2;exact h2
     | none =>
       rw [hg] at h2
       refine zea h2 fun fo' q1 q2=>?_;clear h2
       exact ⟨fo',q1,fun y a b=>(q2 y a b).trans (other y a b)⟩
end Mine
namespace Mine
variable {C:Cst}
theorem bd.up {lv lv' n:Nat} {T:Tbl} (x:bd C lv n T) (h:lv≤lv'):bd C lv' n T where
 ev:=fun kd ro=>(x.ev kd ro).up h
 tr:=fun kd ro=>(x.tr kd ro).up h
 src:=fun kd ro e g ds g' he=>⟨(x.src kd ro e g ds g' he).1.up h,(x.src kd ro e g ds g' he).2⟩
 spl:=fun kd ro e g ds g' he=>⟨fun A env Z io s ha=>(x.spl kd ro e g ds g' he).1 A env Z io s (ha.le h),(x.spl kd ro e g ds g' he).2⟩
theorem ok0 (r:g9 C):∀ k,k≤10→bd C.bare 20 k T0:=fun k hk=>(am3 r k).up (by lia)
theorem tb0:dh C.bare 20 T0:=⟨fun J J h=>(by injection h),fun J J h=>(by injection h),fun J h=>(by injection h),fun J J h=>(by injection h)⟩
noncomputable def zf {α:Type} (ds:List D) (x:Option α):Option α:=match ds with
 | []=>x
 | _::_=>none
noncomputable def as0 {α:Type} (ds:List D) (F:Nat→List D→Option α):Option α:=match ds with
 | d::r=>(match d with | .hdr k=>F k r | _=>none)
 | []=>none
noncomputable def zm {α:Type} (ds:List D) (F:Str→List D→Option α):Option α:=match ds with
 | d::r=>(match d with | .str k=>F k r | _=>none)
 | []=>none
noncomputable def cx2 {α:Type} (ds:List D) (F:List D→List D→Option α):Option α:=match ds with
 | d::r=>(match d with | .lst k=>F k r | _=>none)
 | []=>none
theorem gs {α:Type} {ds:List D} {x:Option α} {y:α} (h:zf ds x = some y):ds = []∧x = some y:=by
 induction ds using List.casesOn with
 | nil=>exact ⟨rfl,h⟩
 | cons d r=>exact a8 h
theorem nv {α:Type} {ds:List D} {F:Nat→List D→Option α} {x:α} (h:as0 ds F = some x):∃ k r,ds = .hdr k::r∧F k r = some x:=by
 induction ds using List.casesOn with
 | nil=>exact a8 h
 | cons d r=>induction d using D.casesOn<;>first | exact a8 h | exact ⟨_,_,rfl,h⟩
theorem fu {α:Type} {ds:List D} {F:Str→List D→Option α} {x:α} (h:zm ds F = some x):∃ k r,ds = .str k::r∧F k r = some x:=by
 induction ds using List.casesOn with
 | nil=>exact a8 h
 | cons d r=>induction d using D.casesOn<;>first | exact a8 h | exact ⟨_,_,rfl,h⟩
theorem dr {α β:Type} {x:Option α} {F:α→Option β} {y:β} (h:x.bind F = some y):∃ a,x = some a∧F a = some y:=Option.bind_eq_some_iff.mp h
noncomputable def vw (ps:List (Str × Str)) (n:Str) (d:D):D:=match jy ps n with
 | some v=>.str v
 | none=>d
noncomputable def bs1:ae:=fun ds g=>as0 ds fun k r=>zm r fun n r=>g[k]?.bind fun ps =>
 if t9 (Txt.lower n)&&ps.all (fun q=>j7 (Txt.lower q.1)) then (match r with
   | []=>some (vw ps (Txt.lower n) .none,g)
   | d::r=>zm (d::r) fun x r=>zf r (some (vw ps (Txt.lower n) (.str x),g))) else none
inductive cr4 (C:Cst) (a:Addr):Prop
 | mk (fd:FuncData) (p:Nat→Pos)
   (e1:oy C a fd (ab3 p)) (e2:((p 2).endLine==(p 8).line) = true) (e3:((p 4).endLine==(p 5).line) = true) (e4:((p 16).endLine==(p 17).line) = true) (e5:(∀ x n (M:Model) (A:Around) (E:Value→Shared→Prop) (Q:List (Str × Value)→Shared→Prop) (s:Shared),(∀ b o,C.H.get? b = some o→s.heap.get? b = some o)→Q [(("self":Str),x),(("name":Str),n),(("default":Str),.none)] s→wpAny M A (bindArgs fd ⟨[x,n],[]⟩) Q E s)) (e6:(∀ x n d (M:Model) (A:Around) (E:Value→Shared→Prop) (Q:List (Str × Value)→Shared→Prop) (s:Shared),(∀ b o,C.H.get? b = some o→s.heap.get? b = some o)→Q [(("self":Str),x),(("name":Str),n),(("default":Str),d)] s→wpAny M A (bindArgs fd ⟨[x,n,d],[]⟩) Q E s)) (e7:(∀ y∈(["self","name","default","k","v"]:List Str),fd.scope.names.lookup y = some .local)) (e8:fd.scope.names.lookup ("_split_list":Str)≠some .globalImplicit)
structure aq6 (C:Cst) (a:Addr):Prop where
 fn:cr4 C a
theorem ly {x:Str} (h:t9 x = true):j7 x = true:=by
 unfold t9 at h
 simp only [Bool.and_eq_true] at h
 exact h.2
section
variable {K:Frag} {fs:List (Str × Addr)} {a ac:Addr} {Z:List Addr} {io:HI} {g:Sg} {s s':Shared}
theorem kr {Z:List Addr} {io':HI} (k:Sok C Z io' [] s):io' = []:=by
 have:=k.st.len
 simpa using this
theorem u8 {V:List Addr} {t} {ps:List (Str × Str)} (HH:ql C V s.heap t ps) (kp:Keeps s s'):ql C V s'.heap t ps:=by
 refine ze2a kp fun h' tk e2q hk=>?_;clear kp;subst e2q
 exact HH.keeps C hk
theorem bm4 (k:aj C K fs) (hcv:fs.lookup ("_convert_string_type":Str) = some ac) (cv:cu C ac) (rt:g9 C) (ga:aq6 C a) {A:Around} (ha:yw A 21) (hk:Sok C Z io g s) {i:Nat} {t} {ps:List (Str × Str)} {n:Str} {tk:Tok} {dflt:D} {vd:Value} {pargs:List Value}
   (ht:io[i]? = some t) (hps:g[i]? = some ps) (hn:n.length≤lim) (hd:(dflt = .none∧vd = .none∧pargs = [.ref t.1,.str n tk])∨(∃ x tx,dflt = .str x∧x.length≤lim∧vd = .str x tx∧pargs = [.ref t.1,.str n tk,vd]))
   (hcl:t9 (Txt.lower n) = true) (bb:∀ q∈ps,j7 (Txt.lower q.1) = true) :
   wpAny (model C.prog C.w) A (call (.ref a) pargs) (fun v s'=>Keeps s s'∧Has (VV C io Z) io s'.heap (match jy ps (Txt.lower n) with | some v=>.str v | none=>dflt) v) noE s:=by
 obtain ⟨fd,p,fn,l1,l2,l3,b2,b3,hloc,hns⟩:=ga.fn
 have HH:=hk.st.at' i t ps ht hps
 have kb:=hk.bare rt
 have can:∀ y∈(["self","name","default","k","v"]:List Str),c9 (fun y=>fd.scope.names.lookup y) y = true:=fun y hy=>by unfold c9;simp only [hloc y hy];rfl
 have hdv:Has (VV C.bare [] (VV C io Z)) [] s.heap dflt vd:=by
   rcases hd with ⟨rfl,rfl,_⟩ | ⟨x,tx,rfl,hx,rfl,_⟩
   · exact rfl
   · exact ⟨hx,tx,rfl⟩
 refine cm (C:=C.bare) (L:=20) (binds:=[(("self":Str),.ref t.1),(("name":Str),.str n tk),(("default":Str),vd)]) (l:=[(("name":Str),.str n),(("default":Str),dflt)]) rt.bare (fn.bare hns) (fun A E Q hq=>?_) (fun x hx=>?_) (by show ([("self":Str),("name":Str),("default":Str)]:List Str).Nodup;decide) ha kb (by show ([("name":Str),("default":Str)]:List Str).Nodup;decide) (fun y d hy=>?_) fun env s2 F kp2 hF xf hvar ha2=>?_
 · rcases hd with ⟨_,rfl,rfl⟩ | ⟨x,tx,_,_,rfl,rfl⟩
   · exact b2 _ _ _ _ _ _ _ hk.base hq
   · exact b3 _ _ _ _ _ _ _ _ hk.base hq
 · simp only [List.mem_cons,List.not_mem_nil,or_false] at hx
   rcases hx with rfl | rfl | rfl
   · exact can "self" (by decide)
   · exact can "name" (by decide)
   · exact can "default" (by decide)
 · by_cases h1:y = "name"
   · subst h1
     have e:d = .str n:=by simpa [List.lookup] using hy.symm
     subst e
     exact ⟨.str n tk,rfl,by exact ⟨hn,tk,rfl⟩⟩
   · by_cases h2:y = "default"
     · subst h2
       have e:d = dflt:=by
         have:(("default":Str)==("name":Str)) = false:=by decide
         simpa [List.lookup,this] using hy.symm
       subst e
       exact ⟨vd,rfl,hdv⟩
     · have e1:(y==("name":Str)) = false:=by simpa using h1
       have e2:(y==("default":Str)) = false:=by simpa using h2
       simp [List.lookup,e1,e2] at hy
 · let kd:Kd:=fun y=>fd.scope.names.lookup y
   let Zb:=VV C io Z
   have self2:m4 kd env s2.heap "self" (.ref t.1):=hvar "self" _ rfl
   have HH2:=u8 HH kp2
   have hb2:∀ b o,C.H.get? b = some o→s2.heap.get? b = some o:=xf.sok.base
   have fo0:(m0 [(("name":Str),D.str n),(("default":Str),dflt)]).lookup ("name":Str) = some (EV.val (.str n)):=rfl
   have fd0:(m0 [(("name":Str),D.str n),(("default":Str),dflt)]).lookup ("default":Str) = some (EV.val dflt):=ya (by
     have:(("default":Str)==("name":Str)) = false:=by decide
     simp [List.lookup,this])
   have main:wpAny (model C.prog C.w) (A.deeper env) (execs (ab3 p) env) (fun fl s'=>∃ v,fl = .ret v∧Keeps s s'∧Has (VV C io Z) io s'.heap (match jy ps (Txt.lower n) with | some v=>.str v | none=>dflt) v) noE s2:=?_
   · refine a9 main ?_
     rintro fl s3 ⟨v,rfl,h3⟩
     exact h3
   refine wpAny_execs_cons (wpAny_Assign_Name (cx k hcv cv rt (by have:=ha2.dp;lia) l1 rfl (fun Q hq=>o5 xf self2 (by decide) hq) hb2 ⟨HH2.inst,HH2.dict⟩
     (a9 ((ok0 rt 6 (by decide)).ev kd _ _ _ _ _ (br (o1 (w7 fo0) (by decide)) rfl l2 (ly hcl)) (A.deeper env) env _ [] s2 ha2 xf.envR xf.sok) fun v s3 ⟨io3,x3,k3,hh⟩=>?_)) rfl)
   have e3:=kr k3
   subst e3
   have hh':=hh
   refine zae hh' fun hlen t3 e2q=>?_;clear hh';subst e2q
   have xf3:=xf.step x3 k3
   refine ⟨_,t3,rfl,hcl,xf3.sok.base,fun s4 kp4=>?_⟩
   have xf4:=xf3.step (Keeps.grow C.bare kp4) (Keeps.sok C.bare kp4 xf3.sok)
   have self4:m4 kd env s4.heap "self" (.ref t.1):=by
     have keep:∀ b∈F,∀ o,s2.heap.get? b = some o→s4.heap.get? b = some o:=fun b hb o e=>by
       refine ze2a kp4 fun h' tk' e4 hk4=>?_;clear kp4
       rw [e4]
       exact hk4 b o (x3.keep b o e (by intro h;cases h) (by intro h;cases h))
     exact self2.keep (fun o e=>keep _ xf.lF o e) fun c o hk hc e=>by
       refine ze2a3 (xf.all _ hk) fun c' J h1 J h4 J=>?_
       rw [hc] at h1;(injection h1 with h1;subst h1)
       exact keep _ h4 o e
   refine xf4.store' (ev:=.val (.str (Txt.lower n))) (a:=0) (can "name" (by decide)) (by exact ⟨hlen,t3,rfl⟩) (fun l hl=>by injection hl) fun s5 xf5 kp5 vk5=>?_
   have self5:=vk5 _ _ (by decide) self4
   have g5:Keeps s s5:=q0.keepsB xf5.grow
   have HH5:=u8 HH g5
   have n5:(o9 "name" (EV.val (.str (Txt.lower n))) (m0 [(("name":Str),D.str n),(("default":Str),dflt)])).lookup ("name":Str) = some (EV.val (.str (Txt.lower n))):=(f4 _ _).trans (if_pos rfl)
   have d5:(o9 "name" (EV.val (.str (Txt.lower n))) (m0 [(("name":Str),D.str n),(("default":Str),dflt)])).lookup ("default":Str) = some (EV.val dflt):=(f4 _ _).trans ((if_neg (by decide)).trans fd0)
   refine zea (ai0 kd p l3 (can "k" (by decide)) (can "v" (by decide)) (Txt.lower n) ps _ bb n5) fun fl hrun hres=>?_
   refine zea HH.list fun vs e1q hhl=>?_;obtain ⟨n0,e0⟩:=e1q
   have kk5:∀ b o,s.heap.get? b = some o→s5.heap.get? b = some o:=by refine ze2a g5 fun h' tk' e5 hk5=>?_;clear g5;rw [e5];exact hk5
   have hpl:s5.heap.PlainList t.2.2 vs:=⟨n0,kk5 _ _ e0⟩
   have tF:t.2.2∉F:=fun hm=>by
     rw [hF _ hm] at e0;injection e0
   refine wpAny_execs_cons (a9 (ay1 (C:=C.bare) (X:=[]++F) (fl:=fl) nofun (fun K Z0 fo g fl hb ad O io s x=>(as7 rt.bare tb0 (ok0 rt) 8 (by decide)).2 _ _ _ _ _ hb (A.deeper env) K _ _ Z0 env ad O F io s ha2 x) xf5 (ds:=ps.map m7) (g1:=[])
     (Attribute_name (o5 xf5 self5 (by decide) (js k.cls xf5.sok.base ⟨HH5.inst,HH5.dict⟩ ?_))) (fun b hb=>hb) ha2 hrun) ?_)
   · have kt:Keeps s5 { s5 with toks:=s5.toks + 1 }:=j6 _
     refine .of (Keeps.grow C.bare kt) (Keeps.sok C.bare kt xf5.sok) (lr ha2 (by rw [List.length_map];exact HH5.len) (fun hm=>tF (by simpa [VV,Cst.bare,adr] using hm)) hpl (id ?_))
     refine f0.mono (fun a o e hn=>⟨kk5 a o e,fun hm=>?_⟩) (fun J J e=>e) hhl
     have:a∈F∨a∈VV C io Z:=by simpa [VV,Cst.bare,adr] using hm
     rcases this with h | h
     · rw [hF a h] at e;injection e
     · exact hn h
   · intro f s6 h6
     induction hg:jy ps (Txt.lower n) using Option.casesOn with
     | some v =>
       rw [hg] at hres
       simp only at hres
       subst hres
       obtain ⟨w,rfl,io6,x6,k6,h6⟩:=h6
       refine ⟨w,rfl,q0.keepsB x6,?_⟩
       exact h6
     | none =>
       rw [hg] at hres
       refine zea hres fun fo' e1q hfo'=>?_;clear hres;subst e1q
       obtain ⟨rfl,ad6,O6,io6,x6⟩:=h6
       refine zea (x6.vals "default" _ ((hfo' _ (by decide) (by decide)).trans d5)) fun w hw hdw=>?_
       refine wpAny_execs_cons (wpAny_Return_some (o5 x6 hw (by decide) ⟨w,rfl,q0.keepsB x6.grow,?_⟩))
       rcases hd with ⟨rfl,_,_⟩ | ⟨y,ty,rfl,_,_,_⟩
       · exact hdw
       · exact hdw
set_option tactic.hygienic true in
theorem bi0 (k:aj C K fs) (hcv:fs.lookup ("_convert_string_type":Str) = some ac) (cv:cu C ac) (rt:g9 C) (ga:aq6 C a):z0 C 21 (.ref a) bs1:=by
 intro ds g d g' h A Z io s vs ha hk hv
 refine ze2a (nv h) fun i r e1 h=>?_
 subst e1
 refine ze2a (fu h) fun n r e1 h=>?_
 subst e1
 refine zea (dr h) fun ps hps h=>?_
 refine ze2a2e2a2 hv fun v1 J e2q h1 v2 vr e6q h2 h3=>?_;clear hv;subst e2q;subst e6q
 refine zea h1 fun t ht e2q=>?_;clear h1;subst e2q
 refine zae h2 fun hn tk e2q=>?_;clear h2;subst e2q
 refine za (w9 h) fun hc h=>?_
 rw [Bool.and_eq_true,List.all_eq_true] at hc
 have fin:∀ (dflt:D) (vd:Value),((dflt = .none∧vd = .none∧(.ref t.1::.str n tk::vr:List Value) = [.ref t.1,.str n tk])∨(∃ x tx,dflt = .str x∧x.length≤lim∧vd = .str x tx∧(.ref t.1::.str n tk::vr:List Value) = [.ref t.1,.str n tk,vd]))→wpAny (model C.prog C.w) A (call (.ref a) (.ref t.1::.str n tk::vr)) (ff C Z io s (vw ps (Txt.lower n) dflt) g) noE s:=fun dflt vd hd =>
   a9 (bm4 k hcv cv rt ga ha hk ht hps hn hd hc.1 hc.2) fun v s' h=>⟨io,Keeps.grow C h.1,Keeps.sok C h.1 hk,h.2⟩
 induction r using List.casesOn with
 | nil =>
   injection (show some (vw ps (Txt.lower n) .none,g) = some (d,g') from h) with h;injection h with e0q e1q;subst e0q;subst e1q
   subst h3
   exact fin _ .none (.inl ⟨rfl,rfl,rfl⟩)
 | cons d1 r =>
   refine ze2a (fu (show zm (d1::r) _ = some (d,g') from h)) fun x r' e1 h=>?_
   injection e1 with e1 e2
   subst e1;subst e2
   refine za (gs h) fun e1 h=>?_
   subst e1
   apply i2 h
   refine ze2a2 h3 fun v3 J e2q e3q e4q=>?_;clear h3;subst e2q;obtain ⟨hx,tx,rfl⟩:=e3q;subst e4q
   exact fin _ _ (.inr ⟨_,tx,rfl,hx,rfl,rfl⟩)
end
end Mine
namespace Mine
section
variable {prog:Program} {w:World} {A:Around} {E:Value→Shared→Prop} {s:Shared}
theorem xh {l D sl:Addr} {xs ys:Array Value} {Q:Unit→Shared→Prop} (hl:s.heap.PlainList l xs) (hD:s.heap.PlainList D ys) (hs:s.heap.IsSliceOf sl .none .none .none) (hsz:xs.size + ys.size≤sizeLine)
   (hQ:∀ h',h'.PlainList l ys→Heap.SameBut l s.heap h'→Q () { s with heap:=h' }):wpAny (model prog w) A (setItem (.ref l) (.ref sl) (.ref D)) Q E s:=by
 refine ze hl fun n ho=>?_;clear hl
 refine ze hD fun nD hoD=>?_;clear hD
 refine zea2 hs fun os hso hsc hsd=>?_;clear hs
 have hT:s.TypeIs (.ref l) "list":=⟨_,ho,rfl⟩
 have hS:s.TypeIs (.ref sl) "slice":=⟨_,hso,hsc⟩
 unfold setItem
 refine wpAny_holding ?_
 refine wpAny_bind (wpAny_sequenceKey hT (by decide) ?_)
 refine wpAny_bind (wpAny_callSpecial?_slot (name:=Str.ofString "__setitem__") hT slot_list_setitem (wpAny_call_entry slot_list_setitem hT entry_list_setitem ?_ (args_list_setitem _ _ _)))
 show wpAny _ _ (Builtin.List.listSubscript? (.ref sl) >>= _) _ _ s
 refine wpAny_bind ?_
 unfold Builtin.List.listSubscript?
 refine wpAny_bind (wpAny_specialOf hS slice_no_index ?_)
 rw [if_pos (by rfl)]
 refine wpAny_pure ?_
 dsimp only
 refine wpAny_bind (wpAny_typeOf hS ?_)
 rw [if_neg (by decide)]
 refine wpAny_bind ?_
 rw [listSliceParts_eq]
 refine wpAny_bind (wpAny_field hso hsd rfl (wpAny_bind (wpAny_listPart .none ?_)))
 rw [if_neg (by decide)]
 refine wpAny_bind (wpAny_field hso hsd rfl (wpAny_bind (wpAny_listPart .none ?_)))
 refine wpAny_bind (wpAny_field hso hsd rfl (wpAny_bind (wpAny_listPart .none ?_)))
 refine wpAny_pure ?_
 dsimp only
 have items:∀ {a:Addr} {ws:Array Value} {m:Nat} {Q:Array Value→Shared→Prop} {E:Value→Shared→Prop} {A:Around},s.heap.get? a = some { cls:=.type "list",data:=.seq ws m }→Q ws s→wpAny (model prog w) A (Builtin.List.listItems (.ref a)) Q E s:=fun h1 h2=>by
   unfold Builtin.List.listItems
   exact wpAny_bind (wpAny_seqItems h1 rfl (wpAny_pure h2))
 have news:∀ {Q:Array Value→Shared→Prop} {E:Value→Shared→Prop} {A:Around},Q ys s→wpAny (model prog w) A (Builtin.List.listAllItems (.ref D) "must assign iterable to extended slice") Q E s:=fun {Q E A} hq=>by
   unfold Builtin.List.listAllItems
   refine wpAny_bind (wpAny_typeOf (T:="list") ⟨_,hoD,rfl⟩ ?_)
   rw [if_pos (by rfl)]
   exact items hoD hq
 have hb:sliceBounds none none none xs.size = (0,(xs.size:Int),1):=by unfold sliceBounds;simp
 have hi:sliceIndices (rawPart none) (rawPart none) (rawPart none) xs.size = pure (0,(xs.size:Int),1):=by rw [sliceIndices_raw _ _ _ _ (by nofun),hb]
 have hlong:Builtin.List.listTooLong (xs.size + ys.size) = false:=by unfold Builtin.List.listTooLong;simpa using hsz
 have hfin:xs.extract 0 (0:Int).toNat++ys++xs.extract (max (0:Int) (xs.size:Int)).toNat = ys:=by
   have e:(max (0:Int) (xs.size:Int)).toNat = xs.size:=by lia
   rw [e];simp
 have hnew:(s.heap.update l (Obj.mapSeq fun zs=>zs.extract 0 (0:Int).toNat++ys++zs.extract (max (0:Int) (xs.size:Int)).toNat)).PlainList l ys:=by
   refine ⟨if (ys.size==xs.size) = true then n else n + 1,(Heap.get?_update_self _ ho rfl).trans ?_⟩
   exact congrArg (fun zs:Array Value=>some ({ cls:=.type "list",data:=.seq zs (if (zs.size==xs.size) = true then n else n + 1) }:Obj)) hfin
 have hsz2:(xs.extract 0 (0:Int).toNat++ys++xs.extract (max (0:Int) (xs.size:Int)).toNat).size≤sizeLine + 1:=by rw [hfin];lia
 have q:=hQ _ hnew (Heap.SameBut.update ..)
 split
 · refine wpAny_bind (items hoD (wpAny_bind (items ho ?_)))
   rw [hi]
   refine wpAny_bind (wpAny_pure ?_)
   dsimp only
   rw [if_pos (by rfl)]
   refine wpAny_bind (wpAny_rule ?_)
   rw [hlong,if_neg (by decide)]
   refine wpAny_bind (wpAny_updateSeq ho rfl (wpAny_bind (wpAny_letGo (wpAny_pure ⟨_,rfl,wpAny_pure q⟩))) (by lia) hsz2)
 · refine wpAny_bind (news (wpAny_bind (items ho ?_)))
   rw [hi]
   refine wpAny_bind (wpAny_pure ?_)
   dsimp only
   rw [if_pos (by rfl)]
   refine wpAny_bind (wpAny_rule ?_)
   rw [hlong,if_neg (by decide)]
   refine wpAny_bind (wpAny_updateSeq ho rfl (wpAny_bind (wpAny_letGo (wpAny_pure ⟨_,rfl,wpAny_pure q⟩))) (by lia) hsz2)
end
variable {C:Cst}
section
variable {lv:Nat} {A:Around} {Z:List Addr} {io:HI} {kd:Kd} {env:Env} {ro:Ro} {g0 g g':Sg} {s:Shared}
theorem zc {X:List Addr} {elt iter t:Expr} {ifs:List Expr} {sc:Scope} {p:Pos} {ds ys:List D} {tr el:Ro→Sg→Option (D × Sg)} (ha:AOk A lv) (hk:Sok C Z io g0 s) (he:m6 C kd Z io env ro s.heap) (hsc:ig sc kd t = true)
   (hit:wpAny (model C.prog C.w) A (eval iter env) (bw C A t X Z io s ds g) noE s) (hs:∀ elts k p,iter≠.Set elts k p) (hok:yi C lv elt ifs sc tr el)
   (hrun:o7 (emK tr el) t (m9 sc ro) ds g = some (ys,g')) (hyl:ys.length≤lim):wpAny (model C.prog C.w) A (eval (.ListComp elt [⟨t,iter,ifs,0⟩] sc p) env) (ff C Z io s (.lst ys) g') noE s:=by
 rw [eval_ListComp]
 exact ve ha he hk hsc hit hs hok hrun hyl (gf hk)
end
noncomputable def aj0 (p:Nat→Pos):List Stmt:=[.Return (some (.Call (.Attribute (.Name "self" (p 0)) "get" (p 1)) [.Name "name" (p 2)] [] (p 3))) (p 4)]
noncomputable def bn2:ae:=fun ds g=>as0 ds fun k r=>zm r fun n r=>zf r (bs1 [.hdr k,.str n] g)
inductive bw3 (C:Cst) (a:Addr):Prop
 | mk (fd:FuncData) (p:Nat→Pos)
   (e1:oy C a fd (aj0 p)) (e2:((p 1).endLine==(p 3).line) = true) (e3:(∀ x n,bindArgs fd ⟨[x,n],[]⟩ = pure [(("self":Str),x),(("name":Str),n)])) (e4:(∀ y∈(["self","name"]:List Str),fd.scope.names.lookup y = some .local)) (e5:fd.scope.names.lookup ("_split_list":Str)≠some .globalImplicit)
structure av1 (C:Cst) (a:Addr):Prop where
 fn:bw3 C a
section
variable {K:Frag} {fs:List (Str × Addr)} {a ac ag:Addr} {Z:List Addr} {io:HI} {g:Sg} {s s':Shared}
set_option tactic.hygienic true in
theorem bp1 (k:aj C K fs) (hcv:fs.lookup ("_convert_string_type":Str) = some ac) (cv:cu C ac) (rt:g9 C) (hgt:fs.lookup ("get":Str) = some ag) (ga:aq6 C ag) (it:av1 C a):z0 C 22 (.ref a) bn2:=by
 intro ds g d g' h A Z io s vs ha hk hv
 refine ze2a (nv h) fun i r e1 h=>?_
 subst e1
 refine ze2a (fu h) fun n r e1 h=>?_
 subst e1
 refine za (gs h) fun e1 hh=>?_
 subst e1
 · have hv':=hv
   refine ze2a2e2a2 hv' fun v1 J e2q h1 v2 vr e6q h2 e8q=>?_;clear hv';subst e2q;subst e6q;subst e8q
   refine zea h1 fun t ht e2q=>?_;clear h1;subst e2q
   refine zae h2 fun hn tk e2q=>?_;clear h2;subst e2q
   refine ze (so hk ht) fun ps hps=>?_
   obtain ⟨fd,p,fn,l1,hb,hloc,hns⟩:=it.fn
   obtain ⟨fdg,pg,fng,_⟩:=ga.fn
   refine zea fng.get fun og hog hdg=>?_
   refine za2 (k.find _ _ hgt) fun f1 f2 f3=>?_
   have HH:=hk.st.at' i t ps ht hps
   have kb:=hk.bare rt
   refine cm (C:=C.bare) (L:=21) (binds:=[(("self":Str),.ref t.1),(("name":Str),.str n tk)]) (l:=[]) rt.bare (fn.bare hns) (fun A E Q hq=>by rw [hb];exact wpAny_pure hq) (fun x hx=>?_) (by show ([("self":Str),("name":Str)]:List Str).Nodup;decide) ha kb (by simp) (fun y d hy=>by injection hy) fun env s2 F kp2 hF xf hvar ha2=>?_
   · simp only [List.mem_cons,List.not_mem_nil,or_false] at hx
     unfold c9
     rcases hx with rfl | rfl<;>simp only [hloc "self" (by decide),hloc "name" (by decide)]<;>rfl
   have self2:m4 _ env s2.heap "self" (.ref t.1):=hvar "self" _ rfl
   have name2:m4 _ env s2.heap "name" (.str n tk):=hvar "name" _ rfl
   have HH2:=u8 HH kp2
   have k2:=Keeps.sok C kp2 hk
   refine wpAny_execs_cons (wpAny_Return_some (uw rfl l1 (by show 1 < 20;lia) rfl (by show 0 < 5;lia) rfl (o5 xf self2 (by decide) fun pl=>uy k.cls k2.base ⟨HH2.inst,HH2.dict⟩ f1 f2 (by decide) ?_)))
   refine Calls.callWith_function (o:=og) (fd:=fdg) (l9 rfl (wpAny_items_cons (o5 xf name2 (by decide) (wpAny_items_nil ⟨⟨k2.base _ _ hog,hdg⟩,?_⟩))))
   refine a9 (bi0 k hcv cv rt ga _ _ _ _ hh (A.deeper env) Z io s2 [.ref t.1,.str n tk] ha2.c k2 (by exact ⟨_,_,rfl,⟨t,ht,rfl⟩,_,_,rfl,⟨hn,tk,rfl⟩,rfl⟩)) fun v s3 h3=>?_
   exact h3.after (Keeps.grow C kp2)
end
end Mine
namespace Mine
variable {C:Cst}
noncomputable def as3 (w:Str) (sc:Scope) (p:Nat→Pos):List Stmt :=
 [.Return (some (.ListComp (.Name w (p 0)) [⟨.Tuple [.Name "k" (p 1),.Name "v" (p 2)] 0 (p 3),.Attribute (.Name "self" (p 4)) "_headers" (p 5),[],0⟩] sc (p 6))) (p 7)]
noncomputable def kvS (second:Bool):ae:=fun ds g=>as0 ds fun k r=>zf r (g[k]?.bind fun ps=>some (.lst (ps.map fun q=>.str (if second then q.2 else q.1)),g))
inductive cw4 (C:Cst) (a:Addr) (second:Bool):Prop
 | mk (fd:FuncData) (p:Nat→Pos) (sc:Scope)
   (e1:oy C a fd (as3 (if second then "v" else "k") sc p)) (e2:(∀ x,bindArgs fd ⟨[x],[]⟩ = pure [(("self":Str),x)])) (e3:fd.scope.names.lookup ("self":Str) = some .local) (e4:fd.scope.names.lookup ("_split_list":Str)≠some .globalImplicit) (e5:ig sc (fun y=>fd.scope.names.lookup y) (.Tuple [.Name "k" (p 1),.Name "v" (p 2)] 0 (p 3)) = true)
structure by5 (C:Cst) (a:Addr) (second:Bool):Prop where
 fn:cw4 C a second
theorem bi6 (second:Bool) (kd:Kd) (base:Ro) (p0 p1 p2 p3:Pos):∀ ps:List (Str × Str),o7 (emK (fun ro g=>trD (fun ro c g=>pt T0 5 kd ro c g) [] ro g) (fun ro g=>pev T0 5 kd ro (.Name (if second then "v" else "k") p0) g)) (.Tuple [.Name "k" p1,.Name "v" p2] 0 p3) base (ps.map m7) [] =
   some (ps.map fun q=>.str (if second then q.2 else q.1),[])
 | []=>rfl
 | (k,v)::r=>by
   have ih:=bi6 second kd base p0 p1 p2 p3 r
   have kv:(("k":Str)==("v":Str)) = false:=by decide
   have vk:(("v":Str)==("k":Str)) = false:=by decide
   have e:pev T0 5 kd ([(("k":Str),D.str k),(("v":Str),D.str v)]++base) (.Name (if second then "v" else "k") p0) [] = some (.str (if second then v else k),[]):=by
     induction second using Bool.casesOn
     · exact o1 (by simp [List.lookup]) (by decide)
     · exact o1 (by simp [List.lookup,vk]) (by decide)
   exact gp rfl rfl e ih
section
variable {K:Frag} {fs:List (Str × Addr)} {a:Addr} {Z:List Addr} {io:HI} {g:Sg} {s s':Shared}
theorem ab4 (k:aj C K fs) {A:Around} {kd:Kd} {env:Env} {ad:Str→Addr} {F:List Addr} {fo:Fo} {Kp0:Kp} {i:Nat} {t} {ps:List (Str × Str)} {s0:Shared} (ha:AOk A 20) (HH:ql C (VV C io Z) s0.heap t ps) (hF:∀ x∈F,s0.heap.get? x = none)
   (xf:Frm C.bare Kp0 kd s0 [] (VV C io Z) env ad [] F fo [] [] s) (hself:m4 kd env s.heap "self" (.ref t.1)) {pa pb:Pos} {t0:Expr} :
   wpAny (model C.bare.prog C.bare.w) A (eval (.Attribute (.Name "self" pa) "_headers" pb) env) (bw C.bare A t0 ([]++F) ([]++(F++VV C io Z)) [] s (ps.map m7) []) noE s:=by
 have g5:Keeps s0 s:=q0.keepsB xf.grow
 have HH5:=u8 HH g5
 refine zea HH.list fun vs e1q hhl=>?_;obtain ⟨n0,e0⟩:=e1q
 have kk5:∀ b o,s0.heap.get? b = some o→s.heap.get? b = some o:=by refine ze2a g5 fun h' tk' e5 hk5=>?_;clear g5;rw [e5];exact hk5
 have hpl:s.heap.PlainList t.2.2 vs:=⟨n0,kk5 _ _ e0⟩
 have tF:t.2.2∉F:=fun hm=>by rw [hF _ hm] at e0;injection e0
 refine Attribute_name (o5 xf hself (by decide) (js (C:=C) k.cls xf.sok.base ⟨HH5.inst,HH5.dict⟩ ?_))
 have kt:Keeps s { s with toks:=s.toks + 1 }:=j6 _
 refine .of (Keeps.grow C.bare kt) (Keeps.sok C.bare kt xf.sok) (lr ha (by rw [List.length_map];exact HH5.len) (fun hm=>tF (by simpa [VV,Cst.bare,adr] using hm)) hpl (id ?_))
 refine f0.mono (fun a o e hn=>⟨kk5 a o e,fun hm=>?_⟩) (fun J J e=>e) hhl
 have:a∈F∨a∈VV C io Z:=by simpa [VV,Cst.bare,adr] using hm
 rcases this with h | h
 · rw [hF a h] at e;injection e
 · exact hn h
theorem zq {V:List Addr} {io io':HI} {h:Heap}:∀ {l:List Str} {vs:List Value},f0 V io h (l.map .str) vs→f0 V io' h (l.map .str) vs
 | [],vs,x=>x
 | y::r,vs,x=>by
   refine ze2a2 x fun v vs' e h1 h2=>?_;clear x
   exact ⟨v,vs',e,h1,zq h2⟩
set_option tactic.hygienic true in
theorem bz4 (k:aj C K fs) (rt:g9 C) {second:Bool} (kv:by5 C a second):z0 C 21 (.ref a) (kvS second):=by
 intro ds g d g' h A Z io s vs ha hk hv
 refine ze2a (nv h) fun i r e1 h=>?_
 subst e1
 refine za (gs h) fun e1 h=>?_
 subst e1
 refine zea (dr h) fun ps hps h=>?_
 · refine ze2a2 hv fun v1 J e2q e3q e4q=>?_;clear hv;subst e2q;obtain ⟨t,ht,rfl⟩:=e3q;subst e4q
   · apply i2 h
     obtain ⟨fd,p,sc,fn,hb,hloc,hns,hsc⟩:=kv.fn
     have HH:=hk.st.at' i t ps ht hps
     have kb:=hk.bare rt
     refine cm (C:=C.bare) (L:=20) (binds:=[(("self":Str),.ref t.1)]) (l:=[]) rt.bare (fn.bare hns) (fun A E Q hq=>by rw [hb];exact wpAny_pure hq) (fun x hx=>?_) (by simp) ha kb (by simp) (fun y d hy=>by injection hy) fun env s2 F kp2 hF xf hvar ha2=>?_
     · simp only [List.mem_cons,List.not_mem_nil,or_false] at hx
       unfold c9
       rcases hx with rfl;simp only [hloc];rfl
     have self2:m4 _ env s2.heap "self" (.ref t.1):=hvar "self" _ rfl
     refine wpAny_execs_cons (wpAny_Return_some (a9 (zc (C:=C.bare) (X:=[]++F) (tr:=fun ro g=>trD (fun ro c g=>pt T0 5 (fun y=>sc.names.lookup y) ro c g) [] ro g) (el:=fun ro g=>pev T0 5 (fun y=>sc.names.lookup y) ro (.Name (if second then "v" else "k") (p 0)) g) ha2 xf.sok xf.envR hsc
       (ab4 k (i:=i) ha2 HH hF xf self2) nofun ⟨ew (ifs:=[]) (trx:=fun ro c g=>pt T0 5 (fun y=>sc.names.lookup y) ro c g) (fun ro=>(ok0 rt 5 (by decide)).tr _ ro),fun A ha ro g d g' he env' Z' io' s hen hk=>(ok0 rt 5 (by decide)).ev _ ro _ _ _ _ he A env' Z' io' s ha hen hk⟩
       (bi6 second _ _ _ _ _ _ ps) (by rw [List.length_map];exact HH.len)) ?_))
     rintro v s3 ⟨io3,x3,k3,hh⟩
     have e3:=kr k3
     subst e3
     have kp3:Keeps s2 s3:=q0.keepsB x3
     have kp:Keeps s s3:=Keeps.trans kp2 kp3
     refine ⟨io,Keeps.grow C kp,Keeps.sok C kp hk,?_⟩
     have h2:=(Has.less (C:=C.bare) (Z':=VV C io Z) hh fun z hz=>List.mem_append_right _ (List.mem_append_right _ hz))
     have e:(ps.map fun q:Str × Str=>D.str (if second = true then q.2 else q.1)) = (ps.map fun q:Str × Str=>if second = true then q.2 else q.1).map D.str:=by rw [List.map_map];rfl
     rw [e] at h2 ⊢
     refine zae2a3 h2 fun q1 b ws q2 q3 q4 q5=>?_;clear h2
     exact ⟨q1,b,ws,q2,q3,q4,zq q5⟩
end
end Mine
namespace Mine
variable {C:Cst}
inductive az (C:Cst) (V:List Addr) (l:Addr) (ps:List (Str × Str)) (s s':Shared):Prop
 | mk (h':Heap) (tk:Nat) (e:s' = { s with heap:=h',toks:=tk }) (hk:∀ b o,b≠l→s.heap.get? b = some o→h'.get? b = some o) (vs:Array Value) (hp:h'.PlainList l vs) (hh:f0 V [] h' (ps.map m7) vs.toList)
section
variable {Z:List Addr} {io:HI} {g:Sg} {s s':Shared}
theorem bl {t:Addr × Addr × Addr} {i:Nat} (h:io[i]? = some t):t∈io:=List.mem_of_getElem? h
theorem ww:∀ {io:HI},(adr io).Nodup→∀ {i j:Nat} {t u:Addr × Addr × Addr},io[i]? = some t→io[j]? = some u→i≠j→u.1≠t.2.2∧u.2.1≠t.2.2∧u.2.2≠t.2.2
 | [],_,i,j,t,u,h,_,_=>by simp at h
 | x::r,hn,0,0,t,u,_,_,hij=>absurd rfl hij
 | x::r,hn,0,j + 1,t,u,h1,h2,_=>by
   simp only [List.getElem?_cons_zero,Option.some.injEq] at h1
   simp only [List.getElem?_cons_succ] at h2
   subst h1
   simp only [adr,List.nodup_cons,List.mem_cons,not_or] at hn
   have:=au (bl h2)
   exact ⟨fun e=>hn.2.2.1 (e ▸ this.1),fun e=>hn.2.2.1 (e ▸ this.2.1),fun e=>hn.2.2.1 (e ▸ this.2.2)⟩
 | x::r,hn,i + 1,0,t,u,h1,h2,_=>by
   simp only [List.getElem?_cons_zero,Option.some.injEq] at h2
   simp only [List.getElem?_cons_succ] at h1
   subst h2
   simp only [adr,List.nodup_cons,List.mem_cons,not_or] at hn
   have:=au (bl h1)
   exact ⟨fun e=>hn.1.2.2 (e ▸ this.2.2),fun e=>hn.2.1.2 (e ▸ this.2.2),fun e=>hn.2.2.1 (e ▸ this.2.2)⟩
 | x::r,hn,i + 1,j + 1,t,u,h1,h2,hij=>by
   simp only [List.getElem?_cons_succ] at h1 h2
   simp only [adr,List.nodup_cons] at hn
   exact ww hn.2.2.2 h1 h2 (by lia)
theorem at9:∀ {io:HI},(adr io).Nodup→∀ {i:Nat} {t:Addr × Addr × Addr},io[i]? = some t→t.1≠t.2.2∧t.2.1≠t.2.2
 | [],_,i,t,h=>by simp at h
 | x::r,hn,0,t,h1=>by
   simp only [List.getElem?_cons_zero,Option.some.injEq] at h1
   subst h1
   simp only [adr,List.nodup_cons,List.mem_cons,not_or] at hn
   exact ⟨hn.1.2.1,hn.2.1.1⟩
 | x::r,hn,i + 1,t,h1=>by
   simp only [List.getElem?_cons_succ] at h1
   simp only [adr,List.nodup_cons] at hn
   exact at9 hn.2.2.2 h1
theorem az.sok (sp:aj9 C) {i:Nat} {t} {ps ps':List (Str × Str)} (k:Sok C Z io g s) (ht:io[i]? = some t) (hps:g[i]? = some ps) (hl:ps'.length≤lim) (x:az C (VV C io Z) t.2.2 ps' s s'):Sok C Z io (g.set i ps') s'∧q0 C io io s s':=by
 obtain ⟨h',tk,rfl,hk,vs,hp,hh⟩:=x
 have hm:=au (bl ht)
 have nZ:∀ z∈Z,z≠t.2.2:=fun z hz he=>(k.zd z hz).2.1 (he ▸ hm.2.2)
 have nV:∀ b,b∉VV C io Z→b≠t.2.2:=fun b hb he=>hb (by rw [he];exact List.mem_append_left _ (List.mem_append_right _ hm.2.2))
 have nvt:∀ b∈C.vt,b≠t.2.2:=fun b hb he=>by
   refine ze2 (sp.vs b hb) fun c q hq=>?_
   refine zea ((sp.vt _ _).mp k.st.vt c b q hq) fun qs e J=>?_
   refine zea ((k.st.at' i t ps ht hps).list) fun ws e1q J=>?_;obtain ⟨n,e2⟩:=e1q
   rw [he,e2] at e;(injection e with e;injection e with e1 e2 e3 e4;injection e1)
 have alive:∀ b o,s.heap.get? b = some o→∃ o',h'.get? b = some o':=fun b o e=>by
   by_cases he:b = t.2.2
   · refine ze hp fun n e'=>?_;clear hp;exact ⟨_,he ▸ e'⟩
   · exact ⟨o,hk b o he e⟩
 refine ⟨⟨fun a o e=>hk a o (fun he=>by rw [he,k.st.below _ hm.2.2] at e;injection e) (k.base a o e),⟨by rw [List.length_set];exact k.st.len,fun j u qs h1 h2=>?_,k.st.nodup,k.st.below,C.vtKeep _ _ _ _ k.st.vt (fun b hb o e=>hk b o (nvt b hb) e) fun a o J e J ha=>⟨hk a o (nV a ha) e,ha⟩⟩,fun z hz=>?_,k.zd,fun z hz=>?_⟩,
   ⟨⟨h',tk,rfl⟩,fun b o e J hb=>hk b o (fun he=>hb (he ▸ hm.2.2)) e,alive,fun J J e=>e,fun J h=>.inl h⟩⟩
 · by_cases hij:i = j
   · subst hij
     rw [ht] at h1;(injection h1 with h1;subst h1)
     have hlt:i < g.length:=(List.getElem?_eq_some_iff.mp hps).1
     rw [List.getElem?_set_self hlt] at h2;(injection h2 with h2;subst h2)
     have HH:=k.st.at' i t ps ht hps
     have ao:=at9 k.st.nodup ht
     refine ze3 HH.dict fun a b c e=>?_
     exact ⟨hk _ _ ao.1 HH.inst,⟨a,b,c,hk _ _ ao.2 e⟩,⟨vs,hp,hh⟩,hl⟩
   · rw [List.getElem?_set_ne hij] at h2
     have HH:=k.st.at' j u qs h1 h2
     have ap:=ww k.st.nodup ht h1 hij
     refine ze3 HH.dict fun a b c e=>?_
     refine zea HH.list fun ws e1q hw=>?_;obtain ⟨n,e2⟩:=e1q
     exact ⟨hk _ _ ap.1 HH.inst,⟨a,b,c,hk _ _ ap.2.1 e⟩,⟨ws,⟨n,hk _ _ ap.2.2 e2⟩,f0.mono (fun a o e ha=>⟨hk a o (nV a ha) e,ha⟩) (fun J J e=>e) hw⟩,HH.len⟩
 · refine ze (k.zal z hz) fun o e=>?_;exact alive z o e
 · refine ze (k.val z hz) fun o e=>?_;exact alive z o e
end
noncomputable def mq (p:Nat→Pos):Expr:=.Compare (.Call (.Attribute (.Subscript (.Name "kv" (p 16)) (.Constant (.int 0) 0 (p 17)) (p 18)) "lower" (p 19)) [] [] (p 20)) [.NotEq] [.Name "name" (p 21)] (p 22)
noncomputable def ac2 (p:Nat→Pos) (sc:Scope):List Stmt :=
 [.Assign [.Name "name" (p 0)] (.Call (.Attribute (.Name "self" (p 1)) "_convert_string_type" (p 2)) [.Call (.Attribute (.Name "name" (p 3)) "lower" (p 4)) [] [] (p 5)] [⟨some "name",.Constant (.bool true) 0 (p 6),p 7⟩] (p 8)) (p 9),
  .Assign [.Subscript (.Attribute (.Name "self" (p 10)) "_headers" (p 11)) (.Slice none none none (p 12)) (p 13)]
    (.ListComp (.Name "kv" (p 14)) [⟨.Name "kv" (p 15),.Attribute (.Name "self" (p 23)) "_headers" (p 24),[mq p],0⟩] sc (p 25)) (p 26)]
noncomputable def ka (ps:List (Str × Str)) (n:Str):List (Str × Str):=ps.filter fun q=>!(Txt.lower q.1==n)
theorem ap0 (kd:Kd) (p:Nat→Pos) (hl:((p 19).endLine==(p 20).line) = true) (n:Str) (base:Ro) (hb:base.lookup ("name":Str) = some (.str n)):∀ ps:List (Str × Str),(∀ q∈ps,j7 (Txt.lower q.1) = true) →
   o7 (emK (fun ro g=>trD (fun ro c g=>pt T0 8 kd ro c g) [mq p] ro g) (fun ro g=>pev T0 8 kd ro (.Name "kv" (p 14)) g)) (.Name "kv" (p 15)) base (ps.map m7) [] = some ((ka ps n).map m7,[])
 | [],_=>rfl
 | q::r,hs=>by
   have ih:=ap0 kd p hl n base hb r fun q hq=>hs q (.tail _ hq)
   have lk:([(("kv":Str),m7 q)]++base).lookup ("kv":Str) = some (m7 q):=by simp [List.lookup]
   have ln:([(("kv":Str),m7 q)]++base).lookup ("name":Str) = some (.str n):=by
     have:(("name":Str)==("kv":Str)) = false:=by decide
     simp only [List.cons_append,List.nil_append,List.lookup,this];exact hb
   have e0:pev T0 6 kd ([(("kv":Str),m7 q)]++base) (.Subscript (.Name "kv" (p 16)) (.Constant (.int 0) 0 (p 17)) (p 18)) [] = some (.str q.1,[]):=by
     exact d8 (o1 lk (by decide)) j4 rfl
   have et:pt T0 8 kd ([(("kv":Str),m7 q)]++base) (mq p) [] = some (!(Txt.lower q.1==n),[]) :=
     cs2 (br e0 rfl hl (hs q (.head _))) (o1 ln (by decide))
   have ee:pev T0 8 kd ([(("kv":Str),m7 q)]++base) (.Name "kv" (p 14)) [] = some (m7 q,[]):=o1 lk (by decide)
   have tr1:trD (fun ro c g=>pt T0 8 kd ro c g) [mq p] ([(("kv":Str),m7 q)]++base) [] = some (.bool (!(Txt.lower q.1==n)),[]):=c8 et
   induction hc:(Txt.lower q.1==n) using Bool.casesOn with
   | true =>
     have hd:ka (q::r) n = ka r n:=List.filter_cons_of_neg (by rw [hc];decide)
     rw [hc] at tr1
     rw [hd]
     exact ul rfl tr1 ih
   | false =>
     have hd:ka (q::r) n = q::ka r n:=List.filter_cons_of_pos (by rw [hc];rfl)
     rw [hc] at tr1
     rw [hd]
     exact gp rfl tr1 ee ih
end Mine
namespace Mine
variable {C:Cst}
inductive ct8 (C:Cst) (a:Addr):Prop
 | mk (fd:FuncData) (p:Nat→Pos) (sc:Scope)
   (e1:oy C a fd (ac2 p sc)) (e2:((p 2).endLine==(p 8).line) = true) (e3:((p 4).endLine==(p 5).line) = true) (e4:((p 19).endLine==(p 20).line) = true) (e5:(∀ x n,bindArgs fd ⟨[x,n],[]⟩ = pure [(("self":Str),x),(("name":Str),n)])) (e6:fd.scope.names.lookup ("self":Str) = some .local) (e7:fd.scope.names.lookup ("name":Str) = some .cell) (e8:fd.scope.names.lookup ("_split_list":Str)≠some .globalImplicit) (e9:ig sc (fun y=>fd.scope.names.lookup y) (.Name "kv" (p 15)) = true) (e10:sc.names.lookup ("name":Str) = some .free)
structure ak5 (C:Cst) (a:Addr):Prop where
 fn:ct8 C a
theorem ek {sc:Scope} {x:Str} {d:D}:∀ {ro:Ro},sc.names.lookup x = some .free→ro.lookup x = some d→(m9 sc ro).lookup x = some d
 | [],_,h=>by injection h
 | (y,e)::r,hs,h=>by
   unfold m9
   rw [List.filter_cons]
   by_cases hb:(x==y) = true
   · have hxy:x = y:=by simpa using hb
     subst hxy
     simp only [List.lookup,hb,Option.some.injEq] at h
     subst h
     simp only [hs,beq_self_eq_true,if_true,List.lookup]
   · have hb':(x==y) = false:=by simpa using hb
     simp only [List.lookup,hb'] at h
     have ih:=ek hs h
     split
     · simp only [List.lookup,hb'];exact ih
     · exact ih
section
variable {K:Frag} {fs:List (Str × Addr)} {a ac:Addr} {Z:List Addr} {io:HI} {g:Sg} {s s':Shared}
theorem bj0 (k:aj C K fs) (hcv:fs.lookup ("_convert_string_type":Str) = some ac) (cv:cu C ac) (rt:g9 C) (da:ak5 C a) {A:Around} (ha:yw A 21) (hk:Sok C Z io g s) {i:Nat} {t} {ps:List (Str × Str)} {n:Str} {tk:Tok}
   (ht:io[i]? = some t) (hps:g[i]? = some ps) (hn:n.length≤lim) (hcl:t9 (Txt.lower n) = true) (bb:∀ q∈ps,j7 (Txt.lower q.1) = true) :
   wpAny (model C.prog C.w) A (call (.ref a) [.ref t.1,.str n tk]) (fun v s'=>v = .none∧az C (VV C io Z) t.2.2 (ka ps (Txt.lower n)) s s') noE s:=by
 obtain ⟨fd,p,sc,fn,l1,l2,l3,hb,hself,hname,hns,hsc,hfree⟩:=da.fn
 have HH:=hk.st.at' i t ps ht hps
 have kb:=hk.bare rt
 have hm:=au (bl ht)
 have tV:t.2.2∈VV C io Z:=by exact List.mem_append_left _ (List.mem_append_right _ hm.2.2)
 refine cm (C:=C.bare) (L:=20) (binds:=[(("self":Str),.ref t.1),(("name":Str),.str n tk)]) (l:=[(("name":Str),.str n)]) rt.bare (fn.bare hns) (fun A E Q hq=>by rw [hb];exact wpAny_pure hq) (fun x hx=>?_) (by show ([("self":Str),("name":Str)]:List Str).Nodup;decide) ha kb (by simp) (fun y d hy=>?_) fun env s2 F kp2 hF xf hvar ha2=>?_
 · simp only [List.mem_cons,List.not_mem_nil,or_false] at hx
   unfold c9
   rcases hx with rfl | rfl
   · simp only [hself];rfl
   · simp only [hname];rfl
 · by_cases h1:y = "name"
   · subst h1
     have e:d = .str n:=by simpa [List.lookup] using hy.symm
     subst e
     exact ⟨.str n tk,rfl,by exact ⟨hn,tk,rfl⟩⟩
   · have e1:(y==("name":Str)) = false:=by simpa using h1
     simp [List.lookup,e1] at hy
 · let kd:Kd:=fun y=>fd.scope.names.lookup y
   have self2:m4 kd env s2.heap "self" (.ref t.1):=hvar "self" _ rfl
   have HH2:=u8 HH kp2
   have hb2:∀ b o,C.H.get? b = some o→s2.heap.get? b = some o:=xf.sok.base
   have fo0:(m0 [(("name":Str),D.str n)]).lookup ("name":Str) = some (EV.val (.str n)):=rfl
   have main:wpAny (model C.prog C.w) (A.deeper env) (execs (ac2 p sc) env) (fun fl s'=>fl = .next∧az C (VV C io Z) t.2.2 (ka ps (Txt.lower n)) s s') noE s2:=?_
   · refine a9 main ?_
     rintro fl s3 ⟨rfl,h3⟩
     exact ⟨rfl,h3⟩
   refine wpAny_execs_cons (wpAny_Assign_Name (cx k hcv cv rt (by have:=ha2.dp;lia) l1 rfl (fun Q hq=>o5 xf self2 (by decide) hq) hb2 ⟨HH2.inst,HH2.dict⟩
     (a9 ((ok0 rt 6 (by decide)).ev kd _ _ _ _ _ (br (o1 (w7 fo0) (by decide)) rfl l2 (ly hcl)) (A.deeper env) env _ [] s2 ha2 xf.envR xf.sok) fun v s3 ⟨io3,x3,k3,hh⟩=>?_)) rfl)
   have e3:=kr k3
   subst e3
   have hh':=hh
   refine zae hh' fun hlen t3 e2q=>?_;clear hh';subst e2q
   have xf3:=xf.step x3 k3
   refine ⟨_,t3,rfl,hcl,xf3.sok.base,fun s4 kp4=>?_⟩
   have xf4:=xf3.step (Keeps.grow C.bare kp4) (Keeps.sok C.bare kp4 xf3.sok)
   have self4:m4 kd env s4.heap "self" (.ref t.1):=by
     have keep:∀ b∈F,∀ o,s2.heap.get? b = some o→s4.heap.get? b = some o:=fun b hb o e=>by
       refine ze2a kp4 fun h' tk' e4 hk4=>?_;clear kp4
       rw [e4]
       exact hk4 b o (x3.keep b o e (by intro h;cases h) (by intro h;cases h))
     exact self2.keep (fun o e=>keep _ xf.lF o e) fun c o hk hc e=>by
       refine ze2a3 (xf.all _ hk) fun c' J h1 J h4 J=>?_
       rw [hc] at h1;(injection h1 with h1;subst h1)
       exact keep _ h4 o e
   refine xf4.store' (ev:=.val (.str (Txt.lower n))) (a:=0) (by unfold c9;simp only [kd,hname];rfl) (by show _∧Exists _;exact ⟨hlen,t3,rfl⟩) (fun l hl=>by injection hl) fun s5 xf5 kp5 vk5=>?_
   have self5:=vk5 _ _ (by decide) self4
   have n5:(o9 "name" (EV.val (.str (Txt.lower n))) (m0 [(("name":Str),D.str n)])).lookup ("name":Str) = some (EV.val (.str (Txt.lower n))):=(f4 _ _).trans (if_pos rfl)
   generalize o9 "name" (EV.val (.str (Txt.lower n))) (m0 [(("name":Str),D.str n)]) = fo5 at xf5 n5
   refine wpAny_execs_cons (wpAny_Assign_Subscript ?_ (by rfl))
   have hd:(ka ps (Txt.lower n)).length≤ps.length:=List.length_filter_le _ _
   refine a9 (zc (C:=C.bare) (X:=[]++F) (tr:=fun ro g=>trD (fun ro c g=>pt T0 8 (fun y=>sc.names.lookup y) ro c g) [mq p] ro g) (el:=fun ro g=>pev T0 8 (fun y=>sc.names.lookup y) ro (.Name "kv" (p 14)) g) ha2 xf5.sok xf5.envR hsc
       (ab4 k (i:=i) ha2 HH hF xf5 self5) nofun ⟨ew (ifs:=[mq p]) (trx:=fun ro c g=>pt T0 8 (fun y=>sc.names.lookup y) ro c g) (fun ro=>(ok0 rt 8 (by decide)).tr _ ro),fun A ha ro g d g' he env' Z' io' s hen hk=>(ok0 rt 8 (by decide)).ev _ ro _ _ _ _ he A env' Z' io' s ha hen hk⟩
       (ap0 _ p l3 (Txt.lower n) _ (ek hfree (w7 n5)) ps bb) (by rw [List.length_map];have:=HH.len;lia)) ?_
   rintro v s6 ⟨io6,x6,k6,hh6⟩
   have e6:=kr k6
   subst e6
   have xf6:=xf5.step x6 k6
   have self6:m4 kd env s6.heap "self" (.ref t.1):=by
     have kp6:=q0.keepsB x6
     refine ze2a kp6 fun h' tk' e7 hk7=>?_;clear kp6
     rw [e7]
     exact self5.keep (fun o e=>hk7 _ o e) fun c o J J e=>hk7 c o e
   have g6:Keeps s s6:=q0.keepsB xf6.grow
   have HH6:=u8 HH g6
   refine zea HH6.list fun vs6 hp6 J=>?_
   have hl6:=HH6.list
   have hh6':=(Has.less (C:=C.bare) (Z':=VV C io Z) hh6 fun z hz=>List.mem_append_right _ (List.mem_append_right _ hz))
   refine zae2a3 hh6' fun q1 D' ws e3q q2 e5q q4=>?_;clear hh6';subst e3q;obtain ⟨nD,q3⟩:=e5q
   refine Attribute_name (o5 xf6 self6 (by decide) (js (C:=C) k.cls xf6.sok.base ⟨HH6.inst,HH6.dict⟩ ?_))
   refine wpAny_Slice (wpAny_pure (wpAny_pure (wpAny_pure ?_)))
   have hwsz:=f0.length q4
   simp only [Array.length_toList,List.length_map] at hwsz
   refine zea HH6.list fun vs0 hp0 hhl0=>?_
   have hvsz:=f0.length hhl0
   simp only [Array.length_toList,List.length_map] at hvsz
   refine ze hp0 fun n0 hp0'=>?_;clear hp0
   have hlen6:=HH.len
   have hlm:lim = 1000000:=rfl
   have hsl:sizeLine = 2 ^ 24:=sizeLine_eq
   refine xh (xs:=vs0) (ys:=ws) ⟨n0,Heap.get?_push_of_some _ hp0'⟩ ⟨nD,Heap.get?_push_of_some _ q3⟩ (Heap.IsSliceOf.new ..) (by lia) fun h' hp' hsb=>?_
   refine wpAny_execs_nil ⟨rfl,?_⟩
   refine ze2a g6 fun h7 tk7 e7 hk7=>?_;clear g6
   subst e7
   have kall:∀ b o,b≠t.2.2→h7.get? b = some o→h'.get? b = some o:=fun b o hb e=>hsb.extBut b o hb (Heap.get?_push_of_some _ e)
   refine ⟨h',_,rfl,fun b o hb e=>kall b o hb (hk7 b o e),ws,hp',?_⟩
   exact f0.mono (fun a o e ha=>⟨kall a o (fun he=>ha (he ▸ tV)) e,ha⟩) (fun J J e=>e) q4
end
end Mine
namespace Mine
variable {C:Cst}
noncomputable def ab2 (p:Nat→Pos):List Stmt :=
 [.Delete [.Subscript (.Name "self" (p 0)) (.Name "name" (p 1)) (p 2)] (p 3),
  .Expr (.Call (.Attribute (.Attribute (.Name "self" (p 4)) "_headers" (p 5)) "append" (p 6))
    [.Tuple [.Call (.Attribute (.Name "self" (p 7)) "_convert_string_type" (p 8)) [.Name "name" (p 9)] [⟨some "name",.Constant (.bool true) 0 (p 10),p 11⟩] (p 12),
      .Call (.Attribute (.Name "self" (p 13)) "_convert_string_type" (p 14)) [.Name "val" (p 15)] [⟨some "name",.Constant (.bool false) 0 (p 16),p 17⟩] (p 18)] 0 (p 19)] [] (p 20)) (p 21)]
noncomputable def ct1:ae:=fun ds g=>as0 ds fun k r=>zm r fun n r=>zm r fun v r=>zf r (g[k]?.bind fun ps =>
   if t9 (Txt.lower n)&&t9 n&&t9 v&&ps.all (fun q=>j7 (Txt.lower q.1))&&decide (ps.length < lim) then some (.none,g.set k (ka ps (Txt.lower n)++[(n,v)])) else none)
inductive cp4 (C:Cst) (a:Addr):Prop
 | mk (fd:FuncData) (p:Nat→Pos)
   (e1:oy C a fd (ab2 p)) (e2:((p 6).endLine==(p 20).line) = true) (e3:((p 8).endLine==(p 12).line) = true) (e4:((p 14).endLine==(p 18).line) = true) (e5:(∀ x n v,bindArgs fd ⟨[x,n,v],[]⟩ = pure [(("self":Str),x),(("name":Str),n),(("val":Str),v)])) (e6:(∀ y∈(["self","name","val"]:List Str),fd.scope.names.lookup y = some .local)) (e7:(∀ y∈fd.scope.names,y.2≠.cell))
structure bc5 (C:Cst) (a:Addr):Prop where
 fn:cp4 C a
theorem fy {M:Model} {A:Around} {E:Value→Shared→Prop} {s:Shared} {env:Env} {o i:Expr} {pos:Pos} {Q:Unit→Shared→Prop}
   (h:wpAny M A (eval o env) (fun ov s1=>wpAny M A (eval i env) (fun iv s2=>wpAny M A (delItem ov iv) Q E s2) E s1) E s):wpAny M A (delete (.Subscript o i pos) env) Q E s:=by
 rw [arm_delete_Subscript]
 refine wpAny_bind (wpAny_mono h (fun ov s1 h1=>wpAny_bind (wpAny_holding (wpAny_mono h1 (fun iv s2 h2=>?_) fun J J x=>x))) fun J J x=>x)
 exact wpAny_bind (wpAny_standAt (wpAny_bind (wpAny_holding (wpAny_mono h2 (fun J J h3=>wpAny_release h3) fun J J x=>x))))
section
variable {K:Frag} {fs:List (Str × Addr)} {a ac ad:Addr} {Z:List Addr} {io:HI} {g:Sg} {s s':Shared}
theorem bo0 (sp:aj9 C) (k:aj C K fs) (hcv:fs.lookup ("_convert_string_type":Str) = some ac) (cv:cu C ac) (rt:g9 C) (hdl:fs.lookup ("__delitem__":Str) = some ad) (da:ak5 C ad) (sa:bc5 C a) {A:Around} (ha:yw A 23) (hk:Sok C Z io g s) {i:Nat} {t} {ps:List (Str × Str)} {n v:Str} {tn tv:Tok}
   (ht:io[i]? = some t) (hps:g[i]? = some ps) (hn:n.length≤lim) (hv:v.length≤lim) (hcl:t9 (Txt.lower n) = true) (hcn:t9 n = true) (hcw:t9 v = true) (bb:∀ q∈ps,j7 (Txt.lower q.1) = true) (hlt:ps.length < lim) :
   wpAny (model C.prog C.w) A (call (.ref a) [.ref t.1,.str n tn,.str v tv]) (fun r s'=>r = .none∧az C (VV C io Z) t.2.2 (ka ps (Txt.lower n)++[(n,v)]) s s') noE s:=by
 obtain ⟨fd,p,fn,l1,l2,l3,hb,hloc,hcell⟩:=sa.fn
 refine zea fn.get fun o hoa hd=>?_
 refine za2 (k.find _ _ hdl) fun f1 f2 f3=>?_
 have HH:=hk.st.at' i t ps ht hps
 have hm:=au (bl ht)
 have tV:t.2.2∈VV C io Z:=by exact List.mem_append_left _ (List.mem_append_right _ hm.2.2)
 refine wpAny_call (codeAny_call_function (by have:=ha.dp;show A.depth < 1000;lia) (hk.base _ _ hoa) hd fn.co fn.gen fn.body (fn.cd.keeps hk.base) ?_)
 rw [hb,fn.clo]
 refine wpAny_pure (wpAny_newFunctionEnv hcell (fun y hy=>by
   simp only [List.mem_cons,List.not_mem_nil,or_false] at hy
   rcases hy with rfl | rfl | rfl
   · exact hloc "self" (by decide)
   · exact hloc "name" (by decide)
   · exact hloc "val" (by decide)) (fun h₁ hns1 hsb=>⟨?_,codeAny_func ?_⟩) fn.kind)
 · exact (rt.nolimit.keeps hk.base).keeps fun b o e=>hsb.extBut b o (Nat.ne_of_lt (Heap.lt_size e)) (Heap.get?_push_of_some _ e)
 · let L:=s.heap.objs.size
   let env2:Env:=newEnv fd.scope L fd.globals [] (fd.qualname++".<locals>.") (some a) fd.code none fd.builtins
   let s2:Shared:={ s with heap:=h₁,toks:=s.toks + 3 }
   have hkk:∀ b o,s.heap.get? b = some o→h₁.get? b = some o:=fun b o e=>hsb.extBut b o (Nat.ne_of_lt (Heap.lt_size e)) (Heap.get?_push_of_some _ e)
   have kp2:Keeps s s2:=⟨h₁,s.toks + 3,rfl,hkk⟩
   have hLn:s.heap.get? L = none:=d9 _
   have hLt:L≠t.2.2:=fun he=>by
     refine zea HH.list fun ws e1q J=>?_;obtain ⟨m,e⟩:=e1q
     rw [← he,hLn] at e;injection e
   have kof:∀ y,env2.kindOf y = fd.scope.names.lookup y:=fun y=>rfl
   have ha2:yw (A.deeper env2) 21:=⟨ha.hh,by have:=ha.dp;show A.depth + 1 + 21≤900;lia,by have:=ha.un;show A.units + 3 + 8 * 21≤9005;lia⟩
   have hdp2:(A.deeper env2).depth < 990:=by have:=ha2.dp;lia
   have main:wpAny (model C.prog C.w) (A.deeper env2) (execs (ab2 p) env2) (fun fl s'=>fl = .next∧az C (VV C io Z) t.2.2 (ka ps (Txt.lower n)++[(n,v)]) s s') noE s2:=?_
   · refine a9 main ?_
     rintro fl s3 ⟨rfl,h3⟩
     exact ⟨rfl,h3⟩
   generalize hmm:(fun x_1:Str=>List.lookup x_1 ([(("self":Str),Value.ref t.1),(("name":Str),Value.str n tn),(("val":Str),Value.str v tv)]:List (Str × Value)).reverse) = m at hns1
   have m1:m "self" = some (.ref t.1):=by
     rw [← hmm]
     simp only [List.reverse_cons,List.reverse_nil,List.nil_append,List.cons_append,List.lookup,show (("self":Str)==("val":Str)) = false by decide,show (("self":Str)==("name":Str)) = false by decide,beq_self_eq_true]
   have m2:m "name" = some (.str n tn):=by
     rw [← hmm]
     simp only [List.reverse_cons,List.reverse_nil,List.nil_append,List.cons_append,List.lookup,show (("name":Str)==("val":Str)) = false by decide,beq_self_eq_true]
   have m3:m "val" = some (.str v tv):=by
     rw [← hmm]
     simp only [List.reverse_cons,List.reverse_nil,List.nil_append,List.cons_append,List.lookup,beq_self_eq_true]
   have lk:∀ {y:Str} {u:Value} {s3:Shared} {ps:Pos} {Q:Value→Shared→Prop} {E:Value→Shared→Prop},fd.scope.names.lookup y = some .local→(y==("__debug__":Str)) = false→s3.heap.Ns L m→m y = some u→Q u s3→wpAny (model C.prog C.w) (A.deeper env2) (eval (.Name y ps) env2) Q E s3 :=
     fun h1 h2 h3 h4 h5=>wpAny_Name (wpAny_loadName_local fn.kind ((kof _).trans h1) h3 h4 h5) h2
   have lself:=hloc "self" (by decide)
   have lname:=hloc "name" (by decide)
   have lval:=hloc "val" (by decide)
   have k2:=Keeps.sok C kp2 hk
   have HH2:=u8 HH kp2
   refine wpAny_execs_cons (wpAny_Delete (wpAny_deleteEach_cons (fy (lk lself (by decide) hns1 m1 (lk lname (by decide) hns1 m2 ?_)))))
   refine (ax3 k.cls f1 f2 f3 (by decide)).del rfl _ _ _ t.1 t.2.1 t.2.2 k2.base ⟨HH2.inst,HH2.dict⟩ _ _ ?_
   refine a9 (bj0 k hcv cv rt da ha2 k2 ht hps hn hcl bb) fun J s3 hc0=>wpAny_deleteEach_nil ?_
   have hc3:=hc0.2
   have hd3:(ka ps (Txt.lower n)).length≤ps.length:=List.length_filter_le _ _
   have hlm:lim = 1000000:=rfl
   refine za (hc3.sok sp k2 ht hps (by have:=HH.len;lia)) fun k3 x3=>?_
   obtain ⟨h3,t3,rfl,hk3,vs3,hp3,hh3⟩:=hc3
   have hns3:h3.Ns L m:=hns1.at' fun o e=>hk3 L o hLt e
   have hlt3:i < g.length:=(List.getElem?_eq_some_iff.mp hps).1
   have HH3:=k3.st.at' i t (ka ps (Txt.lower n)) ht (List.getElem?_set_self hlt3)
   refine wpAny_execs_cons (wpAny_Expr (wpAny_Call_append (y5 rfl env2 _) (by rfl) l1 (by rfl) (Attribute_name (lk lself (by decide) hns3 m1 (js k.cls k3.base ⟨HH3.inst,HH3.dict⟩ ⟨t.2.2,vs3,rfl,(let ⟨n3,e3⟩:=hp3;⟨_,n3,e3,rfl,rfl,rfl⟩),?_⟩)))) ?_ rfl)
   · have kt:Keeps { s2 with heap:=h3,toks:=t3 } { s2 with heap:=h3,toks:=t3 + 1 }:=j6 _
     have b4:∀ b o,C.H.get? b = some o→h3.get? b = some o:=k3.base
     refine Tuple_ (wpAny_items_cons (cx (s:={ s2 with heap:=h3,toks:=t3 + 1 }) k hcv cv rt hdp2 l2 rfl (fun Q hq=>lk lself (by decide) hns3 m1 hq) b4 ⟨HH3.inst,HH3.dict⟩
       (lk lname (by decide) hns3 m2 ⟨n,tn,rfl,hcn,b4,fun s5 kp5=>?_⟩)))
     refine ze2a kp5 fun h5 t5 e2q hk5=>?_;clear kp5;subst e2q
     have hns5:h5.Ns L m:=hns3.at' fun o e=>hk5 L o e
     have b5:∀ b o,C.H.get? b = some o→h5.get? b = some o:=fun b o e=>hk5 b o (b4 b o e)
     have HH5:=HH3.keeps C (h':=h5) hk5
     refine wpAny_items_cons (cx (s:={ s2 with heap:=h5,toks:=t5 }) k hcv cv rt hdp2 l3 rfl (fun Q hq=>lk lself (by decide) hns5 m1 hq) b5 ⟨HH5.inst,HH5.dict⟩
       (lk lval (by decide) hns5 m3 ⟨v,tv,rfl,hcw,b5,fun s6 kp6=>?_⟩))
     refine ze2a kp6 fun h6 t6 e2q hk6=>?_;clear kp6;subst e2q
     refine wpAny_items_nil (wpAny_newObj_type ?_ (by show 2≤sizeLine;rw [sizeLine_eq];decide))
     have hk36:∀ b o,h3.get? b = some o→h6.get? b = some o:=fun b o e=>hk6 b o (hk5 b o e)
     have up:∀ b o,h3.get? b = some o→(h6.push { cls:=.type "tuple",data:=.seq ([.str n tn,.str v tv]:List Value).toArray }).get? b = some o:=fun b o e=>Heap.get?_push_of_some _ (hk36 b o e)
     have hp7:(h6.push { cls:=.type "tuple",data:=.seq ([.str n tn,.str v tv]:List Value).toArray }).PlainList t.2.2 vs3:=hp3.at fun o e=>up _ o e
     have hsz:=f0.length hh3
     simp only [Array.length_toList,List.length_map] at hsz
     refine wpAny_list_append_plain (s:={ s2 with heap:=h6.push { cls:=.type "tuple",data:=.seq ([.str n tn,.str v tv]:List Value).toArray },toks:=t6 }) hp7 (fun h8 hp8 hs8=>?_) (by rw [sizeLine_eq];lia)
     refine wpAny_execs_nil ⟨rfl,?_⟩
     have T_V:h6.objs.size∉VV C io Z:=fun hmem=>by
       refine ze (lj k3 _ hmem) fun o e=>?_
       have:=Heap.lt_size (hk36 _ _ e)
       exact Nat.lt_irrefl _ this
     have k38:∀ b o,b≠t.2.2→h3.get? b = some o→h8.get? b = some o:=fun b o hb e=>hs8.extBut b o hb (up b o e)
     refine ⟨h8,t6,rfl,fun b o hb e=>k38 b o hb (hk3 b o hb (hkk b o e)),_,hp8,?_⟩
     rw [Array.toList_push,List.map_append]
     refine f0.append (f0.mono (fun a o e hn=>⟨k38 a o (fun he=>hn (he ▸ tV)) e,hn⟩) (fun J J e=>e) hh3) ?_
     refine ⟨_,[],rfl,⟨by show 2≤1000000;decide,h6.objs.size,_,rfl,T_V,⟨0,hs8.extBut _ _ (fun he=>T_V (he ▸ tV)) (Heap.get?_push_size _ rfl)⟩,?_⟩,rfl⟩
     exact ⟨_,_,rfl,⟨hn,tn,rfl⟩,_,_,rfl,⟨hv,tv,rfl⟩,rfl⟩
   · unfold interactive
     rw [show env2.scope.kind = .function from fn.kind];rfl
set_option tactic.hygienic true in
theorem cc1 (sp:aj9 C) (k:aj C K fs) (hcv:fs.lookup ("_convert_string_type":Str) = some ac) (cv:cu C ac) (rt:g9 C) (hdl:fs.lookup ("__delitem__":Str) = some ad) (da:ak5 C ad) (sa:bc5 C a):z0 C 23 (.ref a) ct1:=by
 intro ds g d g' h A Z io s vs ha hk hv
 refine ze2a (nv h) fun i r e1 h=>?_
 subst e1
 refine ze2a (fu h) fun n r e1 h=>?_
 subst e1
 refine ze2a (fu h) fun v r e1 h=>?_
 subst e1
 refine za (gs h) fun e1 h=>?_
 subst e1
 refine zea (dr h) fun ps hps h=>?_
 · refine ze2a2e2a2e2a2 hv fun J J e2q e3q J J e6q e7q J J e10q e11q e12q=>?_;clear hv;subst e2q;obtain ⟨t,ht,rfl⟩:=e3q;subst e6q;obtain ⟨hn,tn,rfl⟩:=e7q;subst e10q;obtain ⟨hvl,tv,rfl⟩:=e11q;subst e12q
   · refine za (w9 h) fun hc h=>?_
     simp only [Bool.and_eq_true,List.all_eq_true,decide_eq_true_eq] at hc
     apply i2 h
     refine a9 (bo0 sp k hcv cv rt hdl da sa ha hk ht hps hn hvl hc.1.1.1.1 hc.1.1.1.2 hc.1.1.2 hc.1.2 hc.2) ?_
     rintro r s' ⟨rfl,hx⟩
     have hd3:(ka ps (Txt.lower n)).length≤ps.length:=List.length_filter_le _ _
     refine za (hx.sok sp hk ht hps (by rw [List.length_append];simp only [List.length_cons,List.length_nil];lia)) fun q1 q2=>?_
     exact ⟨io,q2,q1,rfl⟩
end
end Mine
namespace Mine
variable {C:Cst}
theorem ac8 {V:List Addr} {io io':HI} {h:Heap}:∀ {ps:List (Str × Str)} {vs:List Value},f0 V io h (ps.map m7) vs→f0 V io' h (ps.map m7) vs
 | [],vs,x=>x
 | q::r,vs,x=>by
   refine ze2a2 x fun v vs' e h1 h2=>?_;clear x
   exact ⟨v,vs',e,h1,ac8 h2⟩
noncomputable def kx (p:Nat→Pos):List Stmt:=[.Return (some (.Subscript (.Attribute (.Name "self" (p 0)) "_headers" (p 1)) (.Slice none none none (p 2)) (p 3))) (p 4)]
noncomputable def at7:ae:=fun ds g=>as0 ds fun k r=>zf r (g[k]?.bind fun ps=>some (.lst (ps.map m7),g))
noncomputable def uo (p:Nat→Pos):List Stmt:=[.Return (some (.Call (.Name "len" (p 0)) [.Attribute (.Name "self" (p 1)) "_headers" (p 2)] [] (p 3))) (p 4)]
noncomputable def bs0:ae:=fun ds g=>as0 ds fun k r=>zf r (g[k]?.bind fun ps=>some (.int ps.length,g))
inductive zz (C:Cst) (a:Addr) (body:(Nat→Pos)→List Stmt) (gl:Str→Prop):Prop
 | mk (fd:FuncData) (p:Nat→Pos)
   (e1:oy C a fd (body p)) (e2:(∀ x,bindArgs fd ⟨[x],[]⟩ = pure [(("self":Str),x)])) (e3:fd.scope.names.lookup ("self":Str) = some .local) (e4:fd.scope.names.lookup ("_split_list":Str)≠some .globalImplicit) (e5:∀ y,gl y→fd.scope.names.lookup y = some .globalImplicit)
section
variable {K:Frag} {fs:List (Str × Addr)} {a:Addr} {Z:List Addr} {io:HI} {g:Sg} {s s':Shared}
theorem av6 (hk:Sok C Z io g s) (kp:Keeps s s'):s'.heap.objs.size∉VV C io Z:=fun hm=>by
 refine ze (lj hk _ hm) fun o e=>?_
 refine ze2a kp fun h' tk e2 hkk=>?_
 subst e2
 have:=hkk _ _ e
 rw [d9] at this;exact a8 this
theorem w6 (kp:Keeps s s') {b:Addr} {o:Obj} (e:s.heap.get? b = some o):s'.heap.get? b = some o:=by
 refine ze2a kp fun h' tk e2 hkk=>?_
 subst e2
 exact hkk b o e
theorem bi4 {body:(Nat→Pos)→List Stmt} {gl:Str→Prop} (of:zz C a body gl) (rt:g9 C) (F:List (Str × Str)→D)
   (main:∀ {A:Around} {Z:List Addr} {io:HI} {g:Sg} {s s2:Shared} {i:Nat} {t} {ps:List (Str × Str)} {p:Nat→Pos} {kd:Kd} {env:Env} {Fr:List Addr},AOk A 20→Sok C Z io g s→io[i]? = some t→g[i]? = some ps→Keeps s s2→(∀ y,gl y→kd y = some .globalImplicit) →
     Frm C.bare ⟨fun _ _=>False,[]⟩ kd s [] (VV C io Z) env (fun _=>0) [] Fr (m0 []) [] [] s2→m4 kd env s2.heap "self" (.ref t.1) →
     wpAny (model C.prog C.w) A (execs (body p) env) (fun fl s'=>∃ v,fl = .ret v∧Keeps s s'∧Has (VV C io Z) io s'.heap (F ps) v) noE s2):z0 C 21 (.ref a) (fun ds g=>as0 ds fun k r=>zf r (g[k]?.bind fun ps=>some (F ps,g))):=by
 intro ds g d g' h A Z io s vs ha hk hv
 refine ze2a (nv h) fun i r e1 h=>?_
 subst e1
 refine za (gs h) fun e1 h=>?_
 subst e1
 refine zea (dr h) fun ps hps h=>?_
 refine ze2a2 hv fun v1 r1 e2q e3q e4q=>?_;clear hv;subst e2q
 replace e4q:r1 = []:=e4q
 subst e4q
 refine zea e3q fun t ht e=>?_;subst e
 apply i2 h
 obtain ⟨fd,p,fn,hb,hloc,hns,hgl⟩:=of
 have kb:=hk.bare rt
 refine cm (C:=C.bare) (L:=20) (binds:=[(("self":Str),.ref t.1)]) (l:=[]) rt.bare (fn.bare hns) (fun A E Q hq=>by rw [hb];exact wpAny_pure hq) (fun x hx=>?_) (by simp) ha kb (by simp) (fun y d hy=>a8 (show none = some d from hy)) fun env s2 F2 kp2 hF xf hvar ha2=>?_
 · have e:=List.mem_singleton.mp hx
   subst e
   unfold c9
   simp only [hloc];rfl
 · refine a9 (main ha2 hk ht hps kp2 hgl xf (hvar "self" _ rfl)) ?_
   rintro fl s3 ⟨v,rfl,kp,hh⟩
   exact ⟨io,Keeps.grow C kp,Keeps.sok C kp hk,hh⟩
theorem az7 (k:aj C K fs) (rt:g9 C) (of:zz C a kx (fun _=>False)):z0 C 21 (.ref a) at7 :=
 bi4 of rt (fun ps=>.lst (ps.map m7)) fun {A Z io g s s2 i t ps p kd env Fr} ha hk ht hps kp2 _ xf self2=>by
   have HH:=hk.st.at' i t ps ht hps
   have HH2:=u8 HH kp2
   refine wpAny_execs_cons (wpAny_Return_some (Subscript_ (Attribute_name (o5 xf self2 (by decide) (js (C:=C) k.cls xf.sok.base ⟨HH2.inst,HH2.dict⟩ (wpAny_Slice (wpAny_pure (wpAny_pure (wpAny_pure ?_)))))))))
   refine zea HH2.list fun vs e1q hhl=>?_;obtain ⟨n0,e0⟩:=e1q
   have hsz:=f0.length hhl
   rw [Array.length_toList,List.length_map] at hsz
   have hlen:=HH.len
   refine tail_any (T:="list") ⟨_,Heap.get?_push_of_some _ e0,rfl⟩ slot_list_getitem.lookup (wpAny_getItem_list_slice (items:=vs) (lo:=none) (hi:=none) (st:=none) ⟨_,Heap.get?_push_of_some _ e0,rfl,n0,rfl⟩ (Heap.IsSliceOf.new ..) .none .none .none (by simp) ?_ (by have:=cq;lia)) rfl
   rw [slicePick_all]
   have kp3:=Keeps.trans kp2 (Keeps.push (s:=s2) (o:={ cls:=.type "slice",data:=.fields #[.none,.none,.none] }) (k:=s2.toks + 1))
   have kp4:=Keeps.trans kp3 (Keeps.push (o:={ cls:=.type "list",data:=.seq vs }) (k:=s2.toks + 1))
   refine ⟨_,rfl,kp4,⟨by rw [List.length_map];exact hlen,_,vs,rfl,av6 hk kp3,⟨_,Heap.get?_push_size _ rfl⟩,?_⟩⟩
   refine zea HH.list fun ws e1q hhl0=>?_;obtain ⟨n1,e1⟩:=e1q
   have:=w6 kp2 e1
   rw [e0] at this
   injection this with this;injection this with _ _ this _;injection this with this _
   subst this
   exact ac8 (f0.mono (fun a o e hn=>⟨w6 kp4 e,hn⟩) (fun _ _ e=>e) hhl0)
theorem cc7 (k:aj C K fs) (rt:g9 C) (of:zz C a uo (fun y=>y = "len")):z0 C 21 (.ref a) bs0 :=
 bi4 of rt (fun ps=>.int ps.length) fun {A Z io g s s2 i t ps p kd env Fr} ha hk ht hps kp2 hgl xf self2=>by
   have HH:=hk.st.at' i t ps ht hps
   have HH2:=u8 HH kp2
   have hg:=rt.g.keeps xf.sok.base
   have hbu:=rt.b.keeps xf.sok.base
   refine wpAny_execs_cons (wpAny_Return_some (Call_ (Calls.Name_function_global xf.fn ((xf.kdo _).trans (hgl "len" rfl)) (Calls.loadGlobal_builtin (env:=env) (by rw [xf.gl];exact hg) (rt.nob _ (by decide)) (by rw [xf.bi];exact hbu) ((rt.bi _ (by decide)).trans (show bootBuiltins "len" = some (.builtin "len") by decide +kernel)) ?_) (by decide)) rfl))
   refine Calls.callWith_builtin rfl (l9 rfl (wpAny_items_cons (Attribute_name (o5 xf self2 (by decide) (js (C:=C) k.cls xf.sok.base ⟨HH2.inst,HH2.dict⟩ (wpAny_items_nil ?_)))) (f6 fun _ _=>nofun)))
   refine zea HH2.list fun vs e1q hhl=>?_;obtain ⟨n0,e0⟩:=e1q
   have hsz:=f0.length hhl
   rw [Array.length_toList,List.length_map] at hsz
   have hlen:=HH.len
   have hlm:lim = 1000000:=rfl
   refine PyProof.Rows.len_list (items:=vs) ⟨_,e0,rfl,n0,rfl⟩ (by lia) ?_
   exact ⟨_,rfl,Keeps.trans kp2 (Keeps.toks (k:=_)),⟨_,by rw [hsz]⟩⟩
end
end Mine
namespace Mine
variable {C:Cst}
noncomputable def jg (p:Nat→Pos):Expr:=.Compare (.Call (.Attribute (.Subscript (.Name "kv" (p 16)) (.Constant (.int 0) 0 (p 17)) (p 18)) "lower" (p 19)) [] [] (p 20)) [.Eq] [.Name "name" (p 21)] (p 22)
noncomputable def ae5 (p:Nat→Pos) (sc:Scope):List Stmt :=
 [.Assign [.Name "name" (p 0)] (.Call (.Attribute (.Name "self" (p 1)) "_convert_string_type" (p 2)) [.Call (.Attribute (.Name "name" (p 3)) "lower" (p 4)) [] [] (p 5)] [⟨some "name",.Constant (.bool true) 0 (p 6),p 7⟩] (p 8)) (p 9),
  .Return (some (.ListComp (.Subscript (.Name "kv" (p 10)) (.Constant (.int 1) 0 (p 11)) (p 12)) [⟨.Name "kv" (p 13),.Attribute (.Name "self" (p 14)) "_headers" (p 15),[jg p],0⟩] sc (p 23))) (p 24)]
noncomputable def bb (ps:List (Str × Str)) (n:Str):List Str:=(ps.filter fun q=>Txt.lower q.1==n).map (·.2)
noncomputable def bl3:ae:=fun ds g=>as0 ds fun k r=>zm r fun n r=>zf r (g[k]?.bind fun ps=>if t9 (Txt.lower n)&&ps.all (fun q=>j7 (Txt.lower q.1)) then some (.lst ((bb ps (Txt.lower n)).map .str),g) else none)
theorem ah4 (kd:Kd) (p:Nat→Pos) (hl:((p 19).endLine==(p 20).line) = true) (n:Str) (base:Ro) (hb:base.lookup ("name":Str) = some (.str n)):∀ ps:List (Str × Str),(∀ q∈ps,j7 (Txt.lower q.1) = true) →
   o7 (emK (fun ro g=>trD (fun ro c g=>pt T0 8 kd ro c g) [jg p] ro g) (fun ro g=>pev T0 8 kd ro (.Subscript (.Name "kv" (p 10)) (.Constant (.int 1) 0 (p 11)) (p 12)) g)) (.Name "kv" (p 13)) base (ps.map m7) [] = some ((bb ps n).map .str,[])
 | [],_=>rfl
 | q::r,hs=>by
   have ih:=ah4 kd p hl n base hb r fun q hq=>hs q (.tail _ hq)
   have lk:([(("kv":Str),m7 q)]++base).lookup ("kv":Str) = some (m7 q):=bu (beq_self_eq_true _)
   have ln:([(("kv":Str),m7 q)]++base).lookup ("name":Str) = some (.str n):=(u6 (by decide)).trans hb
   have e0:pev T0 6 kd ([(("kv":Str),m7 q)]++base) (.Subscript (.Name "kv" (p 16)) (.Constant (.int 0) 0 (p 17)) (p 18)) [] = some (.str q.1,[]) :=
     d8 (o1 lk (by decide)) j4 rfl
   have et:pt T0 8 kd ([(("kv":Str),m7 q)]++base) (jg p) [] = some (Txt.lower q.1==n,[]):=bs9 (br e0 rfl hl (hs q (.head _))) (o1 ln (by decide))
   have ee:pev T0 8 kd ([(("kv":Str),m7 q)]++base) (.Subscript (.Name "kv" (p 10)) (.Constant (.int 1) 0 (p 11)) (p 12)) [] = some (.str q.2,[]) :=
     d8 (o1 lk (by decide)) j4 rfl
   have tr1:trD (fun ro c g=>pt T0 8 kd ro c g) [jg p] ([(("kv":Str),m7 q)]++base) [] = some (.bool (Txt.lower q.1==n),[]):=c8 et
   induction hc:(Txt.lower q.1==n) using Bool.casesOn with
   | false =>
     have hd:bb (q::r) n = bb r n:=congrArg (List.map _) (List.filter_cons_of_neg (by rw [hc];decide))
     rw [hc] at tr1
     rw [hd]
     exact ul rfl tr1 ih
   | true =>
     have hd:bb (q::r) n = q.2::bb r n:=congrArg (List.map _) (List.filter_cons_of_pos (by rw [hc]))
     rw [hc] at tr1
     rw [hd]
     exact gp rfl tr1 ee ih
inductive ap2 (C:Cst) (a:Addr):Prop
 | mk (fd:FuncData) (p:Nat→Pos) (sc:Scope)
   (e1:oy C a fd (ae5 p sc)) (e2:((p 2).endLine==(p 8).line) = true) (e3:((p 4).endLine==(p 5).line) = true) (e4:((p 19).endLine==(p 20).line) = true) (e5:(∀ x n,bindArgs fd ⟨[x,n],[]⟩ = pure [(("self":Str),x),(("name":Str),n)])) (e6:fd.scope.names.lookup ("self":Str) = some .local) (e7:fd.scope.names.lookup ("name":Str) = some .cell) (e8:fd.scope.names.lookup ("_split_list":Str)≠some .globalImplicit) (e9:ig sc (fun y=>fd.scope.names.lookup y) (.Name "kv" (p 13)) = true) (e10:sc.names.lookup ("name":Str) = some .free)
section
variable {K:Frag} {fs:List (Str × Addr)} {a ac:Addr} {Z:List Addr} {io:HI} {g:Sg} {s s':Shared}
theorem be4 (k:aj C K fs) (hcv:fs.lookup ("_convert_string_type":Str) = some ac) (cv:cu C ac) (rt:g9 C) {A:Around} {Kp0:Kp} {kd:Kd} {Z0:List Addr} {env:Env} {ad:Str→Addr} {F:List Addr} {fo:Fo} {s0 s2:Shared} {t:Addr × Addr × Addr} {V:List Addr} {ps:List (Str × Str)} {n:Str} {p0 p1 p2 p3 p4 p5 p6 p7 p8 p9:Pos}
   (ha2:AOk A 20) (xf:Frm C.bare Kp0 kd s0 [] Z0 env ad [] F fo [] [] s2) (self2:m4 kd env s2.heap "self" (.ref t.1)) (fo0:fo.lookup ("name":Str) = some (EV.val (.str n))) (can:c9 kd "name" = true) (hcl:t9 (Txt.lower n) = true) (l1:(p2.endLine==p8.line) = true) (l2:(p4.endLine==p5.line) = true) (HH2:ql C V s2.heap t ps) {Q:Flow→Shared→Prop}
   (h:∀ ad5 s5,Frm C.bare Kp0 kd s0 [] Z0 env ad5 [] F (o9 "name" (EV.val (.str (Txt.lower n))) fo) [] [] s5→m4 kd env s5.heap "self" (.ref t.1)→Q .next s5) :
   wpAny (model C.prog C.w) A (exec (.Assign [.Name "name" p0] (.Call (.Attribute (.Name "self" p1) "_convert_string_type" p2) [.Call (.Attribute (.Name "name" p3) "lower" p4) [] [] p5] [⟨some "name",.Constant (.bool true) 0 p6,p7⟩] p8) p9) env) Q noE s2:=by
 refine wpAny_Assign_Name (cx k hcv cv rt (by have:=ha2.dp;lia) l1 rfl (fun Q hq=>o5 xf self2 (by decide) hq) xf.sok.base ⟨HH2.inst,HH2.dict⟩
   (a9 ((ok0 rt 6 (by decide)).ev kd _ _ _ _ _ (br (o1 (w7 fo0) (by decide)) rfl l2 (ly hcl)) A env _ [] s2 ha2 xf.envR xf.sok) fun v s3 hp=>?_)) rfl
 obtain ⟨io3,x3,k3,hh⟩:=hp
 have e3:=kr k3
 subst e3
 refine zae hh fun hlen t3 e2q=>?_;subst e2q
 have xf3:=xf.step x3 k3
 refine ⟨_,t3,rfl,hcl,xf3.sok.base,fun s4 kp4=>?_⟩
 have xf4:=xf3.step (Keeps.grow C.bare kp4) (Keeps.sok C.bare kp4 xf3.sok)
 have keep:∀ b∈F,∀ o,s2.heap.get? b = some o→s4.heap.get? b = some o:=fun b hb o e=>w6 kp4 (x3.keep b o e (by intro h;cases h) (by intro h;cases h))
 have self4:m4 kd env s4.heap "self" (.ref t.1):=self2.keep (fun o e=>keep _ xf.lF o e) fun c o hk hc e=>by
   refine ze2a3 (xf.all _ hk) fun c' J h1 J h4 J=>?_
   rw [hc] at h1;(injection h1 with h1;subst h1)
   exact keep _ h4 o e
 exact xf4.store' (ev:=.val (.str (Txt.lower n))) (a:=0) can ⟨hlen,t3,rfl⟩ (fun l hl=>by injection hl) fun s5 xf5 kp5 vk5=>h _ s5 xf5 (vk5 _ _ (by decide) self4)
set_option tactic.hygienic true in
theorem bl5 (k:aj C K fs) (hcv:fs.lookup ("_convert_string_type":Str) = some ac) (cv:cu C ac) (rt:g9 C) (da:ap2 C a):z0 C 21 (.ref a) bl3:=by
 intro ds g d g' h A Z io s vs ha hk hv
 refine ze2a (nv h) fun i r e1 h=>?_
 subst e1
 refine ze2a (fu h) fun n r e1 h=>?_
 subst e1
 refine za (gs h) fun e1 h=>?_
 subst e1
 refine zea (dr h) fun ps hps h=>?_
 refine ze2a2e2a2 hv fun v1 J e2q h1 v2 vr e6q h2 h3=>?_;clear hv;subst e2q;subst e6q
 replace h3:vr = []:=h3
 subst h3
 refine zea h1 fun t ht e2q=>?_;clear h1;subst e2q
 refine zae h2 fun hn tk e2q=>?_;clear h2;subst e2q
 refine za (w9 h) fun hc h=>?_
 rw [Bool.and_eq_true,List.all_eq_true] at hc
 apply i2 h
 obtain ⟨fd,p,sc,fn,l1,l2,l3,hb,hself,hname,hns,hsc,hfree⟩:=da
 have HH:=hk.st.at' i t ps ht hps
 have kb:=hk.bare rt
 refine cm (C:=C.bare) (L:=20) (binds:=[(("self":Str),.ref t.1),(("name":Str),.str n tk)]) (l:=[(("name":Str),.str n)]) rt.bare (fn.bare hns) (fun A E Q hq=>by rw [hb];exact wpAny_pure hq) (fun x hx=>?_) (by show ([("self":Str),("name":Str)]:List Str).Nodup;decide) ha kb (by simp) (fun y d hy=>?_) fun env s2 F kp2 hF xf hvar ha2=>?_
 · unfold c9
   rcases List.mem_cons.mp hx with rfl | hx
   · simp only [hself];rfl
   · rw [List.mem_singleton.mp hx];simp only [hname];rfl
 · by_cases h1:(y==("name":Str)) = true
   · have e:=eq_of_beq h1
     subst e
     rw [bu h1] at hy
     injection hy with hy;subst hy
     exact ⟨.str n tk,rfl,⟨hn,tk,rfl⟩⟩
   · rw [u6 (by simpa using h1)] at hy
     exact a8 (show none = some d from hy)
 · refine wpAny_execs_cons (be4 k hcv cv rt ha2 xf (hvar "self" _ rfl) rfl (by unfold c9;simp only [hname];rfl) hc.1 l1 l2 (u8 HH kp2) fun ad5 s5 xf5 self5=>?_)
   have n5:(o9 "name" (EV.val (.str (Txt.lower n))) (m0 [(("name":Str),D.str n)])).lookup ("name":Str) = some (EV.val (.str (Txt.lower n))):=(f4 _ _).trans (if_pos rfl)
   generalize o9 "name" (EV.val (.str (Txt.lower n))) (m0 [(("name":Str),D.str n)]) = fo5 at xf5 n5
   have hd:(bb ps (Txt.lower n)).length≤ps.length:=by unfold bb;rw [List.length_map];exact List.length_filter_le _ _
   refine wpAny_execs_cons (wpAny_Return_some (a9 (zc (C:=C.bare) (X:=[]++F) (tr:=fun ro g=>trD (fun ro c g=>pt T0 8 (fun y=>sc.names.lookup y) ro c g) [jg p] ro g) (el:=fun ro g=>pev T0 8 (fun y=>sc.names.lookup y) ro (.Subscript (.Name "kv" (p 10)) (.Constant (.int 1) 0 (p 11)) (p 12)) g) ha2 xf5.sok xf5.envR hsc
       (ab4 k (i:=i) ha2 HH hF xf5 self5) nofun ⟨ew (ifs:=[jg p]) (trx:=fun ro c g=>pt T0 8 (fun y=>sc.names.lookup y) ro c g) (fun ro=>(ok0 rt 8 (by decide)).tr _ ro),fun A ha ro g d g' he env' Z' io' s hen hk=>(ok0 rt 8 (by decide)).ev _ ro _ _ _ _ he A env' Z' io' s ha hen hk⟩
       (ah4 _ p l3 (Txt.lower n) _ (ek hfree (w7 n5)) ps hc.2) (by rw [List.length_map];have:=HH.len;lia)) ?_))
   rintro v s6 ⟨io6,x6,k6,hh6⟩
   have e6:=kr k6
   subst e6
   have g6:Keeps s s6:=q0.keepsB (xf5.step x6 k6).grow
   refine ⟨io,Keeps.grow C g6,Keeps.sok C g6 hk,?_⟩
   have h2:=(Has.less (C:=C.bare) (Z':=VV C io Z) hh6 fun z hz=>List.mem_append_right _ (List.mem_append_right _ hz))
   refine zae2a3 h2 fun q1 b ws q2 q3 q4 q5=>?_;clear h2
   exact ⟨q1,b,ws,q2,q3,q4,zq q5⟩
end
end Mine
namespace Mine
variable {C:Cst}
noncomputable def zj (p:Nat→Pos) (fb:List Stmt):List Stmt :=
 [.Assign [.Name "parts" (p 0)] (.List [] (p 1)) (p 2),
  .If (.Compare (.Name "_value" (p 3)) [.IsNot] [.Constant .none 0 (p 4)] (p 5))
    [.Assign [.Name "_value" (p 6)] (.Call (.Attribute (.Name "self" (p 7)) "_convert_string_type" (p 8)) [.Name "_value" (p 9)] [⟨some "name",.Constant (.bool false) 0 (p 10),p 11⟩] (p 12)) (p 13),
     .Expr (.Call (.Attribute (.Name "parts" (p 14)) "append" (p 15)) [.Name "_value" (p 16)] [] (p 17)) (p 18)] [] (p 19),
  .For (.Tuple [.Name "k" (p 20),.Name "v" (p 21)] 0 (p 22)) (.Call (.Attribute (.Name "_params" (p 23)) "items" (p 24)) [] [] (p 25)) fb [] (p 67),
  .Expr (.Call (.Attribute (.Attribute (.Name "self" (p 68)) "_headers" (p 69)) "append" (p 70))
    [.Tuple [.Call (.Attribute (.Name "self" (p 71)) "_convert_string_type" (p 72)) [.Name "_name" (p 73)] [⟨some "name",.Constant (.bool true) 0 (p 74),p 75⟩] (p 76),
      .Call (.Attribute (.Constant (.str "; ") 0 (p 77)) "join" (p 78)) [.Name "parts" (p 79)] [] (p 80)] 0 (p 81)] [] (p 82)) (p 83)]
noncomputable def co0:ae:=fun ds g=>as0 ds fun k r=>zm r fun n r=>zm r fun v r=>zf r (g[k]?.bind fun ps =>
   if t9 n&&t9 v&&decide (ps.length < lim) then some (.none,g.set k (ps++[(n,v)])) else none)
noncomputable def iz:Obj:={ cls:=.type "dict",data:=.dict #[] }
inductive bd6 (C:Cst) (a:Addr):Prop
 | mk (fd:FuncData) (p:Nat→Pos) (fb:List Stmt)
   (e1:oy C a fd (zj p fb)) (l1:((p 8).endLine==(p 12).line) = true) (l2:((p 15).endLine==(p 17).line) = true) (l3:((p 24).endLine==(p 25).line) = true) (l4:((p 70).endLine==(p 82).line) = true) (l5:((p 72).endLine==(p 76).line) = true) (l6:((p 78).endLine==(p 80).line) = true)
   (e5:(∀ x n v,bindArgs fd ⟨[x,n,v],[]⟩ = (alloc iz >>= fun d=>pure [(("self":Str),x),(("_name":Str),n),(("_value":Str),v),(("_params":Str),.ref d)]))) (e6:(∀ y∈(["self","_name","_value","_params","parts"]:List Str),fd.scope.names.lookup y = some .local)) (e8:fd.scope.names.lookup ("_split_list":Str)≠some .globalImplicit)
section
variable {K:Frag} {fs:List (Str × Addr)} {a ac:Addr} {Z:List Addr} {io:HI} {g:Sg} {s s':Shared}
theorem ak6 {A:Around} {t:Expr} {env:Env} {d:Addr} {fb:List Stmt} {p1 p2 p3 p4:Pos} (hh:A.handled = none) (hv:∀ (Q:Value→Shared→Prop),Q (.ref d) s→wpAny (model C.prog C.w) A (eval (.Name "_params" p1) env) Q noE s) (hd:s.heap.get? d = some iz) (hs:(d==sysModules) = false) (hl:(p2.endLine==p3.line) = true) {Q:Flow→Shared→Prop}
   (h:∀ s',Keeps s s'→Q .next s'):wpAny (model C.prog C.w) A (exec (.For t (.Call (.Attribute (.Name "_params" p1) "items" p2) [] [] p3) fb [] p4) env) Q noE s:=by
 have D0:∀ {h':Heap},h'.get? d = some iz→h'.DictAt (strKind C.prog C.w) d [] 0:=fun e=>⟨_,#[],e,⟨rfl,rfl,rfl⟩,rfl,fun _ he=>by simp at he,Pairs.nil,List.nodup_nil⟩
 refine wpAny_For (wpAny_Call_items (knd:=strKind C.prog C.w) hs (D0 hd).dictOf (y5 rfl env _) hl (fun Q' hq=>hv Q' hq) ?_) (fun _=>rfl)
 refine wpAny_pyIter_items (knd:=strKind C.prog C.w) (d:=d) (kvs:=[]) (ep:=0) ⟨_,Heap.get?_push_size _ rfl,rfl,rfl⟩ (D0 (Heap.get?_push_of_some _ hd)) ?_
 generalize hI:(s.heap.push { cls:=.type "dict_items",data:=.fields #[.ref d] }).objs.size = I
 have hIs:∀ b o,s.heap.get? b = some o→b≠I:=fun b o e he=>by
   have:=Heap.lt_size (Heap.get?_push_of_some { cls:=.type "dict_items",data:=.fields #[.ref d] } e)
   rw [hI,he] at this;exact Nat.lt_irrefl _ this
 refine codeAny_forLoop_any (fun n s'=>n = 1∧s' = { s with heap:=(s.heap.push { cls:=.type "dict_items",data:=.fields #[.ref d] }).push { cls:=.type "dict_itemiterator",data:=.fields #[.none,.bool false,.ref d,.int 0 0,.int ([]:List (Str × Value)).length 0,.int 0 0,.none,.none] } }) ?_ 1 ⟨rfl,rfl⟩
 rintro n s' ⟨hn,e⟩
 subst e
 refine wpAny_pyNext_items_end (knd:=strKind C.prog C.w) (d:=d) (i:=0) (ep:=0) (kvs:=[]) (ok:=.none) (ov:=.none) hh (hI ▸ Heap.get?_push_size _ rfl) (D0 (Heap.get?_push_of_some _ (Heap.get?_push_of_some _ hd))) rfl fun h' he=>wpAny_execs_nil (h _ ⟨h',s.toks,rfl,fun b o e=>he b o (hIs b o e) (Heap.get?_push_of_some _ (Heap.get?_push_of_some _ e))⟩)
theorem bq4 (rt:g9 C) (k:aj C K fs) (hcv:fs.lookup ("_convert_string_type":Str) = some ac) (cv:cu C ac) (hsys:∃ b o,C.H.get? b = some o∧sysModules < b) (af:bd6 C a) {A:Around} (ha:yw A 21) (hk:Sok C Z io g s) {i:Nat} {t} {ps:List (Str × Str)} {n v:Str} {tn tv:Tok}
   (ht:io[i]? = some t) (hps:g[i]? = some ps) (hn:n.length≤lim) (hv:v.length≤lim) (hcn:t9 n = true) (hcw:t9 v = true) (hlt:ps.length < lim) :
   wpAny (model C.prog C.w) A (call (.ref a) [.ref t.1,.str n tn,.str v tv]) (fun r s'=>r = .none∧az C (VV C io Z) t.2.2 (ps++[(n,v)]) s s') noE s:=by
 obtain ⟨fd,p,fb,fn,l1,l2,l3,l4,l5,l6,hb,hloc,hns⟩:=af
 have HH:=hk.st.at' i t ps ht hps
 have hm:=au (bl ht)
 have tV:t.2.2∈VV C io Z:=List.mem_append_left _ (List.mem_append_right _ hm.2.2)
 have can:∀ y∈(["self","_name","_value","_params","parts"]:List Str),c9 (fun y=>fd.scope.names.lookup y) y = true:=fun y hy=>by unfold c9;simp only [hloc y hy];rfl
 generalize hdd:s.heap.objs.size = d
 let sb:Shared:={ s with heap:=s.heap.push iz }
 have kp0:Keeps s sb:=Keeps.push (k:=s.toks)
 have hdb:sb.heap.get? d = some iz:=hdd ▸ Heap.get?_push_size _ rfl
 have hds:(d==sysModules) = false:=by
   refine ze2a hsys fun b o e hlt=>?_
   have:=Heap.lt_size (hk.base _ _ e)
   exact Bool.eq_false_iff.mpr fun e2=>by have:=eq_of_beq e2;lia
 have k0:=Keeps.sok C kp0 hk
 have nd4:(([(("self":Str),Value.ref t.1),(("_name":Str),.str n tn),(("_value":Str),.str v tv),(("_params":Str),.ref d)]:List (Str × Value)).map (·.1)).Nodup:=by show ([("self":Str),("_name":Str),("_value":Str),("_params":Str)]:List Str).Nodup;decide
 refine wpAny_call (codeAny_mono (mh (C:=C.bare) (sa:=s) (s:=sb) (L:=20) (binds:=[(("self":Str),.ref t.1),(("_name":Str),.str n tn),(("_value":Str),.str v tv),(("_params":Str),.ref d)]) (l:=[(("_name":Str),.str n),(("_value":Str),.str v)])
   (R:=fun r s'=>r = .none∧az C (VV C io Z) t.2.2 (ps++[(n,v)]) s s') rt.bare (fn.bare hns) (fun A E Q hq=>by rw [hb];refine wpAny_bind (wpAny_alloc (wpAny_pure ?_));rw [hdd];exact hq) hk.base (fun x hx=>?_) nd4 ha (k0.bare rt) (by show ([("_name":Str),("_value":Str)]:List Str).Nodup;decide) (fun y e hy=>?_) fun env s2 F kp2 hF xf hvar ha2=>?_) fun r s' h=>h)
 · simp only [List.mem_cons,List.not_mem_nil,or_false] at hx
   rcases hx with rfl | rfl | rfl | rfl
   · exact can "self" (by decide)
   · exact can "_name" (by decide)
   · exact can "_value" (by decide)
   · exact can "_params" (by decide)
 · by_cases h1:(y==("_name":Str)) = true
   · have e1:=eq_of_beq h1
     subst e1
     rw [bu h1] at hy
     injection hy with hy;subst hy
     exact ⟨.str n tn,rfl,⟨hn,tn,rfl⟩⟩
   · rw [u6 (by simpa using h1)] at hy
     by_cases h2:(y==("_value":Str)) = true
     · have e1:=eq_of_beq h2
       subst e1
       rw [bu h2] at hy
       injection hy with hy;subst hy
       exact ⟨.str v tv,rfl,⟨hv,tv,rfl⟩⟩
     · rw [u6 (by simpa using h2)] at hy
       exact a8 (show none = some e from hy)
 · have main:wpAny (model C.prog C.w) (A.deeper env) (execs (zj p fb) env) (fun fl s'=>fl = .next∧az C (VV C io Z) t.2.2 (ps++[(n,v)]) s s') noE s2:=?_
   · refine a9 main ?_
     rintro fl s3 ⟨rfl,h3⟩
     exact ⟨rfl,h3⟩
   have dF:d∉F:=fun hm=>by rw [hF d hm] at hdb;exact a8 hdb
   have inter:interactive env = false:=by unfold interactive;rw [xf.fn];rfl
   have hdp:(A.deeper env).depth < 990:=by have:=ha2.dp;lia
   refine wpAny_execs_cons (gz xf (can "parts" (by decide)) fun ad3 a3 s3 n3 xf3 k3 v3=>?_)
   have self3:=v3 _ _ (by decide) (hvar "self" (.ref t.1) rfl)
   have val3:=v3 _ _ (by decide) (hvar "_value" (.str v tv) rfl)
   have nam3:=v3 _ _ (by decide) (hvar "_name" (.str n tn) rfl)
   have par3:=v3 _ _ (by decide) (hvar "_params" (.ref d) rfl)
   refine wpAny_execs_cons (wpAny_If (wpAny_isTrue_Compare1 (o5 xf3 val3 (by decide) (wpAny_pure (isNot_none (wpAny_truthy_bool ?_)))) rfl))
   rw [if_pos (show (!(Value.str v tv==Value.none)) = true from rfl)]
   have g3:Keeps s s3:=Keeps.trans kp0 (q0.keepsB xf3.grow)
   have HH3:=u8 HH g3
   refine wpAny_execs_cons (wpAny_Assign_Name (cx k hcv cv rt hdp l1 rfl (fun Q hq=>o5 xf3 self3 (by decide) hq) xf3.sok.base ⟨HH3.inst,HH3.dict⟩ (o5 xf3 val3 (by decide) ⟨v,tv,rfl,hcw,xf3.sok.base,fun s4 kp4=>?_⟩)) rfl)
   have xf4:=xf3.step (Keeps.grow C.bare kp4) (Keeps.sok C.bare kp4 xf3.sok)
   have kk4:∀ {y u},m4 (fun y=>fd.scope.names.lookup y) env s3.heap y u→m4 (fun y=>fd.scope.names.lookup y) env s4.heap y u:=fun h=>h.keep (fun o e=>w6 kp4 e) fun c o _ _ e=>w6 kp4 e
   refine xf4.store' (ev:=.val (.str v)) (a:=0) (can "_value" (by decide)) ⟨hv,tv,rfl⟩ (fun l hl=>by injection hl) fun s5 xf5 kp5 vk5=>?_
   have self5:=vk5 _ _ (by decide) (kk4 self3)
   have nam5:=vk5 _ _ (by decide) (kk4 nam3)
   have par5:=vk5 _ _ (by decide) (kk4 par3)
   have fo5:(o9 "_value" (EV.val (.str v)) (o9 "parts" (EV.own []) (m0 [(("_name":Str),D.str n),(("_value":Str),D.str v)]))).lookup ("parts":Str) = some (EV.own []):=(f4 _ _).trans ((if_neg (by decide)).trans ((f4 _ _).trans (if_pos rfl)))
   have fv5:(o9 "_value" (EV.val (.str v)) (o9 "parts" (EV.own []) (m0 [(("_name":Str),D.str n),(("_value":Str),D.str v)]))).lookup ("_value":Str) = some (EV.val (.str v)):=(f4 _ _).trans (if_pos rfl)
   generalize o9 "_value" (EV.val (.str v)) (o9 "parts" (EV.own []) (m0 [(("_name":Str),D.str n),(("_value":Str),D.str v)])) = fo at xf5 fo5 fv5
   refine wpAny_execs_cons (eg (d:=.str v) xf5 fo5 (by decide) l2 rfl (by show 0 < 1000000;decide) fun a6 _=>?_)
   refine a9 ((ok0 rt 6 (by decide)).ev _ _ _ _ _ _ (o1 (w7 fv5) (by decide)) (A.deeper env) env _ [] s5 ha2 xf5.envR xf5.sok) fun v6 s6 hp=>?_
   obtain ⟨io6,x6,k6,hh6⟩:=hp
   have e6:=kr k6
   subst e6
   refine ⟨[],[],x6,k6,hh6,fun s7 xf7 kp7=>wpAny_execs_nil ?_⟩
   have up57:∀ b∈F,∀ o,s5.heap.get? b = some o→s7.heap.get? b = some o:=fun b hb o e=>kp7 b o (fun he=>by
     refine zea4ea (xf7.vals "parts" _ ((f4 _ _).trans (if_pos rfl))) fun vz _ _ hzO _ _ _ _=>?_
     exact xf7.disj _ hzO (List.mem_append_left _ (he ▸ hb))) (x6.keep b o e (by intro h;cases h) (by intro h;cases h))
   have vk7:∀ {y u},m4 (fun y=>fd.scope.names.lookup y) env s5.heap y u→m4 (fun y=>fd.scope.names.lookup y) env s7.heap y u:=fun h=>h.keep (fun o e=>up57 _ xf5.lF o e) fun c o hk hc e=>by
     refine ze2a3 (xf5.all _ hk) fun c' J h1 J h4 J=>?_
     rw [hc] at h1;(injection h1 with h1;subst h1)
     exact up57 _ h4 o e
   have hd7:s7.heap.get? d = some iz:=w6 (q0.keepsB xf7.grow) hdb
   have fp7:(o9 "parts" (EV.own ([]++[D.str v])) fo).lookup ("parts":Str) = some (EV.own [.str v]):=(f4 _ _).trans (if_pos rfl)
   generalize o9 "parts" (EV.own ([]++[D.str v])) fo = fo7 at xf7 fp7
   refine wpAny_execs_cons (ak6 ha2.hh (fun Q hq=>o5 xf7 (vk7 par5) (by decide) hq) hd7 hds l3 fun s8 kp8=>?_)
   have xf8:=xf7.step (Keeps.grow C.bare kp8) (Keeps.sok C.bare kp8 xf7.sok)
   have vk8:∀ {y u},m4 (fun y=>fd.scope.names.lookup y) env s7.heap y u→m4 (fun y=>fd.scope.names.lookup y) env s8.heap y u:=fun h=>h.keep (fun o e=>w6 kp8 e) fun c o _ _ e=>w6 kp8 e
   have self8:=vk8 (vk7 self5)
   have nam8:=vk8 (vk7 nam5)
   have g8:Keeps s s8:=Keeps.trans kp0 (q0.keepsB xf8.grow)
   have HH8:=u8 HH g8
   have fz8:(frz fo7).lookup ("parts":Str) = some (.lst [.str v]):=pw fp7
   refine zea HH8.list fun vs8 e1q hh8=>?_;obtain ⟨n8,e8⟩:=e1q
   refine wpAny_execs_cons (wpAny_Expr (wpAny_Call_append (y5 rfl env _) (by rfl) l4 (by rfl) (Attribute_name (o5 xf8 self8 (by decide) (js (C:=C) k.cls xf8.sok.base ⟨HH8.inst,HH8.dict⟩ ⟨t.2.2,vs8,rfl,⟨_,n8,e8,rfl,rfl,rfl⟩,?_⟩)))) inter rfl)
   have kt8:Keeps s8 { s8 with toks:=s8.toks + 1 }:=j6 _
   have xt8:=xf8.step (Keeps.grow C.bare kt8) (Keeps.sok C.bare kt8 xf8.sok)
   refine Tuple_ (wpAny_items_cons (cx (s:={ s8 with toks:=s8.toks + 1 }) k hcv cv rt hdp l5 rfl (fun Q hq=>o5 xt8 self8 (by decide) hq) xf8.sok.base ⟨HH8.inst,HH8.dict⟩ (o5 xt8 nam8 (by decide) ⟨n,tn,rfl,hcn,xf8.sok.base,fun s9 kp9=>?_⟩)))
   have xf9:=xt8.step (Keeps.grow C.bare kp9) (Keeps.sok C.bare kp9 xt8.sok)
   have ej:Txt.join "; " [v] = v:=rfl
   have jok:(JoinOk "; " [v]&&j7 (Txt.join "; " [v])) = true:=by
     rw [ej,Bool.and_eq_true]
     refine ⟨?_,ly hcw⟩
     have hlm:lim = 1000000:=rfl
     show (!decide (0 + v.length + 2 > sizeLine)) = true
     rw [sizeLine_eq,Bool.not_eq_true',decide_eq_false_iff_not]
     lia
   refine wpAny_items_cons (a9 ((ok0 rt 8 (by decide)).ev _ _ _ _ _ _ (m8 (n:=7) (m:="join") (g3:=[]) (x:=.str "; ") (ys:=[.lst [.str v]]) (d:=.str v) (g:=[]) (by rw [l6];rfl) (j2 (by decide)) (b0 rfl (o1 fz8 (by decide)) b9) (show ak7 "; " (bv [.str v]) [] = _ from if_pos jok)) (A.deeper env) env _ [] s9 ha2 xf9.envZ xf9.lessSok) fun vj s10 hp=>?_)
   obtain ⟨io10,x10,k10,hh10⟩:=hp
   have e10:=kr k10
   subst e10
   refine zae hh10 fun hvl tj ej2=>?_;subst ej2
   have kp10:Keeps s8 s10:=Keeps.trans kt8 (Keeps.trans kp9 (q0.keepsB x10))
   refine wpAny_items_nil (wpAny_newObj_type ?_ (by show 2≤sizeLine;rw [sizeLine_eq];decide))
   have g10:Keeps s s10:=Keeps.trans g8 kp10
   have T_V:s10.heap.objs.size∉VV C io Z:=av6 hk g10
   have up:∀ b o,s8.heap.get? b = some o→(s10.heap.push { cls:=.type "tuple",data:=.seq ([.str n tn,.str v tj]:List Value).toArray }).get? b = some o:=fun b o e=>Heap.get?_push_of_some _ (w6 kp10 e)
   have hsz:=f0.length hh8
   simp only [Array.length_toList,List.length_map] at hsz
   have hlm:lim = 1000000:=rfl
   refine wpAny_list_append_plain (s:={ s10 with heap:=s10.heap.push { cls:=.type "tuple",data:=.seq ([.str n tn,.str v tj]:List Value).toArray } }) ⟨n8,up _ _ e8⟩ (fun h8 hp8 hs8=>?_) (by rw [sizeLine_eq];lia)
   refine wpAny_execs_nil ⟨rfl,?_⟩
   have k38:∀ b o,b≠t.2.2→s8.heap.get? b = some o→h8.get? b = some o:=fun b o hb e=>hs8.extBut b o hb (up b o e)
   refine ze2a g10 fun hx tx ex hkx=>?_
   refine ⟨h8,s10.toks,by rw [ex],fun b o hb e=>k38 b o hb (w6 g8 e),_,hp8,?_⟩
   rw [Array.toList_push,List.map_append]
   refine f0.append (f0.mono (fun a o e hn=>⟨k38 a o (fun he=>hn (he ▸ tV)) e,hn⟩) (fun J J e=>e) hh8) ?_
   refine ⟨_,[],rfl,⟨by show 2≤1000000;decide,s10.heap.objs.size,_,rfl,T_V,⟨0,hs8.extBut _ _ (fun he=>T_V (he ▸ tV)) (Heap.get?_push_size _ rfl)⟩,?_⟩,rfl⟩
   exact ⟨_,_,rfl,⟨hn,tn,rfl⟩,_,_,rfl,⟨hv,tj,rfl⟩,rfl⟩
set_option tactic.hygienic true in
theorem cj4 (sp:aj9 C) (rt:g9 C) (k:aj C K fs) (hcv:fs.lookup ("_convert_string_type":Str) = some ac) (cv:cu C ac) (hsys:∃ b o,C.H.get? b = some o∧sysModules < b) (af:bd6 C a):z0 C 21 (.ref a) co0:=by
 intro ds g d g' h A Z io s vs ha hk hv
 refine ze2a (nv h) fun i r e1 h=>?_
 subst e1
 refine ze2a (fu h) fun n r e1 h=>?_
 subst e1
 refine ze2a (fu h) fun v r e1 h=>?_
 subst e1
 refine za (gs h) fun e1 h=>?_
 subst e1
 refine zea (dr h) fun ps hps h=>?_
 refine ze2a2e2a2e2a2 hv fun J J e2q e3q J J e6q e7q J J e10q e11q e12q=>?_;clear hv;subst e2q;obtain ⟨t,ht,rfl⟩:=e3q;subst e6q;obtain ⟨hn,tn,rfl⟩:=e7q;subst e10q;obtain ⟨hvl,tv,rfl⟩:=e11q;subst e12q
 refine za (w9 h) fun hc h=>?_
 simp only [Bool.and_eq_true,decide_eq_true_eq] at hc
 apply i2 h
 refine a9 (bq4 rt k hcv cv hsys af ha hk ht hps hn hvl hc.1.1 hc.1.2 hc.2) ?_
 rintro r s' ⟨rfl,hx⟩
 refine za (hx.sok sp hk ht hps (by rw [List.length_append];simp only [List.length_cons,List.length_nil];lia)) fun q1 q2=>?_
 exact ⟨io,q2,q1,rfl⟩
end
end Mine
end
section
open PySem PySem.W PySem.Calls PyProof.Rows
set_option backward.match.sparseCases true
namespace Mine
variable {C:Cst}
structure rk (C:Cst) (K:Frag) (fi:Addr):Prop where
 sa:findIn K (.ref C.cls) "__setattr__" = some (some (.builtin "object.__setattr__"))
 po:plainOver K C.cls = true
 tk:takerIn K C.cls "_headers" = some none
 mak:makesIn K C.cls = true
 init:findIn K (.ref C.cls) "__init__" = some (some (.ref fi))
 fn:typeIn K (.ref fi) = some (.type "function")
section
variable {K:Frag} {A:Around} {E:Value→Shared→Prop} {s:Shared} {x dx l fi:Addr}
theorem cx4 (k:qj C K) (kn:rk C K fi) (X:K.In s.heap) (hx:s.heap.get? x = some (instObj C.cls dx)) (hd:s.heap.get? dx = some emptyDict) (hne:x≠dx) {tk0:Tok} {R:Result→Shared→Prop}
   (h:∀ h' (tk:Nat),Heap.SameBut dx s.heap h'→y9 C h' x dx l→R (.ok (.ret .none)) { s with heap:=h',toks:=tk }):codeAny (model C.prog C.w) A (.call (.builtin "object.__setattr__") ⟨[.ref x,.str "_headers" tk0,.ref l],[]⟩) R s:=by
 have I:InstAt s.heap x (instObj C.cls dx) C.cls (some emptyDict):=⟨hx,rfl,rfl,hd⟩
 refine osa_open X I kn.po kn.tk fun b=>?_
 refine zea (any_some k.hh) fun cd hc hd'=>?_
 refine wpAny_bind (wpAny_pure (wpAny_bind (wpAny_bind (wpAny_loadPart hx (wpAny_bind ((looks_clsIn X hc).here ?_))))))
 rw [hd']
 refine wpAny_pure (a:=some dx) (wpAny_bind (wpAny_pure (wpAny_bind ?_)))
 unfold nsSet
 refine wpAny_bind (wpAny_bind (wpAny_askSetting (wpAny_pure (wpAny_bind (wpAny_mkText (wpAny_bind (wpAny_loadPart hd ?_)))))))
 dsimp only
 rw [aRefKeyMayBeTheName_at]
 rw [show (!(#[]:Array DictEntry).any (fun e=>e.key.isStr ("_headers":Str))&&(#[]:Array DictEntry).any (fun e=>e.refKey)) = false from by simp]
 refine wpAny_updatePart hd ?_
 have sb:Heap.SameBut dx s.heap (s.heap.update dx (Obj.putName "_headers" (PyData.keyHash C.w.params "_headers") (.str "_headers" s.toks) (.ref l))):=Heap.SameBut.update ..
 have D':(s.heap.update dx (Obj.putName "_headers" (PyData.keyHash C.w.params "_headers") (.str "_headers" s.toks) (.ref l))).get? dx = some (dictOf [⟨PyData.keyHash C.w.params "_headers",.str ("_headers":Str) s.toks,.ref l⟩] (putN "_headers" [] 0)):=by
   rw [Heap.get?_update_self _ hd (by rfl)]
   exact congrArg some (putName_dict "_headers" (PyData.keyHash C.w.params "_headers") (.str "_headers" s.toks) (.ref l) [] 0)
 refine wpAny_bind (wpAny_lookBehind D' (pastItsLine_dict (by show 1≤sizeLine + 1;lia)) ?_)
 exact wpAny_pure (h _ _ sb ⟨sb.extBut x _ hne hx,_,_,_,D'⟩)
theorem au9 (k:qj C K) (kn:rk C K fi) (hb:∀ b o,C.H.get? b = some o→s.heap.get? b = some o) (hx:s.heap.get? x = some (instObj C.cls dx)) (hd:s.heap.get? dx = some emptyDict) (hne:x≠dx) {Q:Unit→Shared→Prop}
   (h:∀ h' (tk:Nat),Heap.SameBut dx s.heap h'→y9 C h' x dx l→Q () { s with heap:=h',toks:=tk }):wpAny (model C.prog C.w) A (setAttr (.ref x) "_headers" (.ref l)) Q E s :=
 set_plain (k.X.keeps hb) (⟨hx,rfl,rfl,hd⟩:InstAt s.heap x (instObj C.cls dx) C.cls (some emptyDict)) kn.sa (cx4 (s:={ s with toks:=s.toks + 1 }) k kn (k.X.keeps hb) hx hd hne fun h' tk sb hs=>h h' tk sb hs)
end
noncomputable def vh (p:Nat→Pos) (st1:Stmt):List Stmt :=
 [.Assign [.Name "headers" (p 0)] (.IfExp (.Compare (.Name "headers" (p 1)) [.IsNot] [.Constant .none 0 (p 2)] (p 3)) (.Name "headers" (p 4)) (.List [] (p 5)) (p 6)) (p 7),
  .If (.Compare (.Call (.Name "type" (p 8)) [.Name "headers" (p 9)] [] (p 10)) [.IsNot] [.Name "list" (p 11)] (p 12)) [st1] [] (p 13),
  .Assign [.Attribute (.Name "self" (p 14)) "_headers" (p 15)] (.Name "headers" (p 16)) (p 17),
  .If (.Constant (.bool true) 0 (p 18)) [.For (.Tuple [.Name "k" (p 19),.Name "v" (p 20)] 0 (p 21)) (.Name "headers" (p 22))
    [.Expr (.Call (.Attribute (.Name "self" (p 23)) "_convert_string_type" (p 24)) [.Name "k" (p 25)] [⟨some "name",.Constant (.bool true) 0 (p 26),p 27⟩] (p 28)) (p 29),
     .Expr (.Call (.Attribute (.Name "self" (p 30)) "_convert_string_type" (p 31)) [.Name "v" (p 32)] [⟨some "name",.Constant (.bool false) 0 (p 33),p 34⟩] (p 35)) (p 36)] [] (p 37)] [] (p 38)]
inductive af1 (C:Cst) (a:Addr):Prop
 | mk (fd:FuncData) (p:Nat→Pos) (st1:Stmt)
   (e1:oy C a fd (vh p st1)) (e2:((p 24).endLine==(p 28).line) = true) (e3:((p 31).endLine==(p 35).line) = true) (e4:(∀ x (M:Model) (A:Around) (E:Value→Shared→Prop) (Q:List (Str × Value)→Shared→Prop) (s:Shared),(∀ b o,C.H.get? b = some o→s.heap.get? b = some o)→Q [(("self":Str),x),(("headers":Str),.none)] s→wpAny M A (bindArgs fd ⟨[x],[]⟩) Q E s)) (e5:(∀ y∈(["self","headers","k","v"]:List Str),fd.scope.names.lookup y = some .local)) (e6:(∀ y∈(["type","list"]:List Str),fd.scope.names.lookup y = some .globalImplicit)) (e7:fd.scope.names.lookup ("_split_list":Str)≠some .globalImplicit)
noncomputable def cv1 {α:Type} (d:D) (F:List D→Option α):Option α:=match d with
 | .tup l=>F l
 | _=>none
theorem ci3 {α:Type} {d:D} {F:List D→Option α} {x:α} (h:cv1 d F = some x):∃ l,d = .tup l∧F l = some x:=by
 induction d using D.casesOn<;>first | exact a8 h | exact ⟨_,rfl,h⟩
noncomputable def au3 (d:D):Option (Str × Str):=cv1 d fun l=>zm l fun a r=>zm r fun b r=>zf r (some (a,b))
noncomputable def jz:List D→Option (List (Str × Str))
 | []=>some []
 | d::r=>(au3 d).bind fun p=>(jz r).bind fun ps=>some (p::ps)
set_option tactic.hygienic true in
theorem rx:∀ {ds:List D} {ps:List (Str × Str)},jz ds = some ps→ds = ps.map m7
 | [],ps,h=>by rw [← Option.some.inj (show some [] = some ps from h)];rfl
 | d::r,ps,h=>by
   refine zea (dr (show (au3 d).bind _ = some ps from h)) fun p h1 h=>?_
   refine zea (dr h) fun qs h2 h=>?_
   rw [← Option.some.inj h,List.map_cons,← rx h2]
   refine zea (ci3 h1) fun l e1 h1=>?_
   refine ze2a (fu h1) fun a r' e2 h1=>?_
   refine ze2a (fu h1) fun b r'' e3 h1=>?_
   refine za (gs h1) fun e4 h1=>?_
   rw [e1,e2,e3,e4,← Option.some.inj h1];rfl
theorem Frm.before {K:Kp} {kd:Kd} {s00 s0:Shared} {io00 io0:HI} {Z0:List Addr} {env:Env} {ad:Str→Addr} {O F:List Addr} {fo:Fo} {io:HI} {g:Sg} {s:Shared} (x:Frm C K kd s0 io0 Z0 env ad O F fo io g s) (y:q0 C io00 io0 s00 s0):Frm C K kd s00 io00 Z0 env ad O F fo io g s :=
 have hg:=q0.trans C y x.grow
 have hf:∀ f∈O++F,s00.heap.get? f = none:=fun f hf=>by
   induction e:s00.heap.get? f using Option.casesOn with
   | none=>rfl
   | some o=>refine ze (y.alive f o e) fun o' e'=>?_;rw [x.fresh f hf] at e';injection e'
 { x with grow:=hg,fresh:=hf }
noncomputable def cs3:ae:=fun ds g=>zf ds (some (.hdr g.length,g++[[]]))
noncomputable def cm7:ae:=fun ds g=>as0 ds fun k r=>zm r fun n r=>zf r (g[k]?.bind fun ps =>
   if t9 (Txt.lower n)&&ps.all (fun q=>j7 (Txt.lower q.1)) then some (.none,g.set k (ka ps (Txt.lower n))) else none)
section
variable {K:Frag} {fs:List (Str × Addr)} {fi ac a:Addr} {Z:List Addr} {io:HI} {g:Sg} {s s':Shared}
set_option tactic.hygienic true in
theorem bm8 (sp:aj9 C) (k:aj C K fs) (hcv:fs.lookup ("_convert_string_type":Str) = some ac) (cv:cu C ac) (rt:g9 C) (da:ak5 C a):z0 C 21 (.ref a) cm7:=by
 intro ds g d g' h A Z io s vs ha hk hv
 refine ze2a (nv h) fun i r e1 h=>?_
 subst e1
 refine ze2a (fu h) fun n r e1 h=>?_
 subst e1
 refine za (gs h) fun e1 h=>?_
 subst e1
 refine zea (dr h) fun ps hps h=>?_
 refine ze2a2e2a2 hv fun v1 J e2q h1 v2 vr e6q h2 h3=>?_;clear hv;subst e2q;subst e6q
 replace h3:vr = []:=h3
 subst h3
 refine zea h1 fun t ht e2q=>?_;clear h1;subst e2q
 refine zae h2 fun hn tk e2q=>?_;clear h2;subst e2q
 refine za (w9 h) fun hc h=>?_
 rw [Bool.and_eq_true,List.all_eq_true] at hc
 apply i2 h
 refine a9 (bj0 k hcv cv rt da ha hk ht hps hn hc.1 hc.2) ?_
 rintro r s' ⟨rfl,hx⟩
 have hd3:(ka ps (Txt.lower n)).length≤ps.length:=List.length_filter_le _ _
 have hl:=(hk.st.at' i t ps ht hps).len
 refine za (hx.sok sp hk ht hps (by lia)) fun q1 q2=>?_
 exact ⟨io,q2,q1,rfl⟩
theorem m4.unique {kd:Kd} {env:Env} {h:Heap} {y:Str} {v w:Value} (x:m4 kd env h y v) (x':m4 kd env h y w):v = w:=by
 rcases x with ⟨h1,m,hn,hm⟩ | ⟨h1,c,hc,o,e1,e2⟩
 · rcases x' with ⟨_,m',hn',hm'⟩ | ⟨h2,_⟩
   · refine ze3a3 hn fun o es ep e1 e2 J e3=>?_;clear hn
     refine ze3a3 hn' fun o' es' ep' e1' e2' J e3'=>?_;clear hn'
     rw [e1] at e1';(injection e1' with e1';subst e1')
     rw [e2] at e2';(injection e2' with e2'1 e2'2;subst e2'1;subst e2'2)
     have:m y = m' y:=by rw [← e3,e3']
     rw [hm,hm'] at this
     exact Option.some.inj this
   · rw [h1] at h2;(injection h2 with h2;injection h2)
 · rcases x' with ⟨h2,_⟩ | ⟨_,c',hc',o',e1',e2'⟩
   · rw [h1] at h2;(injection h2 with h2;injection h2)
   · rw [hc] at hc';(injection hc' with hc';subst hc')
     rw [e1] at e1';(injection e1' with e1';subst e1')
     rw [e2] at e2'
     simpa using e2'
noncomputable abbrev jv (C:Cst) (h:Heap):Heap:=(h.push emptyDict).push (instObj C.cls h.objs.size)
theorem ag1 (h:Heap):(jv C h).get? h.objs.size = some emptyDict:=Heap.get?_push_of_some _ (Heap.get?_push_size _ rfl)
theorem ba4 (h:Heap):(jv C h).get? (h.objs.size + 1) = some (instObj C.cls h.objs.size):=by
 have e:(h.push emptyDict).objs.size = h.objs.size + 1:=Heap.size_push ..
 rw [← e]
 exact Heap.get?_push_size _ rfl
inductive ah9 (C:Cst) (s:Shared) (s':Shared):Prop
 | mk (l:Addr) (h0:s.heap.get? l = none) (hx:l≠s.heap.objs.size + 1) (hd:l≠s.heap.objs.size) (kp:Keeps s s') (sh:y9 C s'.heap (s.heap.objs.size + 1) s.heap.objs.size l) (hp:s'.heap.PlainList l #[])
theorem bc1 (k:aj C K fs) (kn:rk C K fi) (rt:g9 C) (ia:af1 C fi) {A:Around} (ha:yw A 21) (hk:Sok C Z io g s) :
   codeAny (model C.prog C.w) A (.call (.ref fi) ⟨[.ref (s.heap.objs.size + 1)],[]⟩) (fun r s'=>match r with | .ok (.ret v)=>v = .none∧ah9 C s s' | .ok _=>False | .error _=>False) { s with heap:=jv C s.heap }:=by
 obtain ⟨fd,p,st1,fn,l1,l2,hb,hloc,hglo,hns⟩:=ia
 let x:=s.heap.objs.size + 1
 let dx:=s.heap.objs.size
 have kp:Keeps s { s with heap:=jv C s.heap }:=⟨_,s.toks,rfl,fun b o e=>Heap.get?_push_of_some _ (Heap.get?_push_of_some _ e)⟩
 have nn:∀ b,s.heap.objs.size≤b→s.heap.get? b = none:=fun b hb=>by
   induction e:s.heap.get? b using Option.casesOn with
   | none=>rfl
   | some o=>exact absurd (Heap.lt_size e) (Nat.not_lt.mpr hb)
 have hW:∀ w∈[x,dx],s.heap.get? w = none∧∃ o,(jv C s.heap).get? w = some o:=fun w hw=>by
   simp only [List.mem_cons,List.not_mem_nil,or_false] at hw
   rcases hw with rfl | rfl
   · exact ⟨nn _ (Nat.le_succ _),_,ba4 _⟩
   · exact ⟨nn _ (Nat.le_refl _),_,ag1 _⟩
 have kb:Sok C.bare ([x,dx]++VV C io Z) [] [] { s with heap:=jv C s.heap }:=Sok.more_many (hk.bare rt) kp hW
 have can:∀ y∈(["self","headers","k","v"]:List Str),c9 (fun y=>fd.scope.names.lookup y) y = true:=fun y hy=>by unfold c9;simp only [hloc y hy];rfl
 refine mh (C:=C.bare) (L:=20) (binds:=[(("self":Str),.ref x),(("headers":Str),.none)]) (l:=[(("headers":Str),.none)]) rt.bare (fn.bare hns) (fun A E Q hq=>hb _ _ _ _ _ _ kb.base hq) kb.base (fun q hq=>?_) (by show ([("self":Str),("headers":Str)]:List Str).Nodup;decide) ha kb (by simp) (fun y d hy=>?_) fun env s3 F kp3 hF xf0 hvar ha2=>?_
 · simp only [List.mem_cons,List.not_mem_nil,or_false] at hq
   rcases hq with rfl | rfl
   · exact can "self" (by decide)
   · exact can "headers" (by decide)
 · by_cases h1:(y==("headers":Str)) = true
   · have e1:=eq_of_beq h1
     subst e1
     rw [bu h1] at hy
     injection hy with hy;subst hy
     exact ⟨.none,rfl,rfl⟩
   · rw [u6 (by simpa using h1)] at hy
     exact a8 (show none = some d from hy)
 · let kd:Kd:=fun y=>fd.scope.names.lookup y
   have kk3:∀ b o,(jv C s.heap).get? b = some o→s3.heap.get? b = some o:=fun b o e=>w6 kp3 e
   have xF:x∉F:=fun hm=>by have:=hF _ hm;rw [ba4] at this;exact a8 this.symm
   have dF:dx∉F:=fun hm=>by have:=hF _ hm;rw [ag1] at this;exact a8 this.symm
   have self3:m4 kd env s3.heap "self" (.ref x):=hvar "self" _ rfl
   have head3:m4 kd env s3.heap "headers" .none:=hvar "headers" _ rfl
   have main:wpAny (model C.prog C.w) (A.deeper env) (execs (vh p st1) env) (fun fl s'=>fl = .next∧ah9 C s s') noE s3:=?_
   · refine a9 main ?_
     rintro fl s4 ⟨rfl,h4⟩
     exact ⟨rfl,h4⟩
   refine wpAny_execs_cons (wpAny_Assign_Name (wpAny_IfExp (wpAny_isTrue_Compare1 (o5 xf0 head3 (by decide) (wpAny_pure (isNot_none (wpAny_truthy_bool ?_)))) rfl)) rfl)
   rw [if_neg (show ¬(!(Value.none==Value.none)) = true by decide)]
   refine PyProof.Rows.List_ (wpAny_items_nil (wpAny_newObj_type ?_ (by show 0≤sizeLine;exact Nat.zero_le _)))
   let l:Addr:=s3.heap.objs.size
   have kpl:Keeps s3 { s3 with heap:=s3.heap.push { cls:=.type "list",data:=.seq ([]:List Value).toArray } }:=Keeps.push (k:=s3.toks)
   have l3:s3.heap.get? l = none:=d9 _
   have lx:l≠x:=fun e=>by have:=(show s3.heap.get? x = _ from kk3 _ _ (ba4 s.heap));rw [← e,l3] at this;exact a8 this
   have ld:l≠dx:=fun e=>by have:=(show s3.heap.get? dx = _ from kk3 _ _ (ag1 s.heap));rw [← e,l3] at this;exact a8 this
   have l0:s.heap.get? l = none:=ui (fun o e=>⟨o,w6 (Keeps.trans kp kp3) e⟩) l3
   have lF:l∉F:=fun hm=>by
     refine ze (xf0.sok.zal l (List.mem_append_right _ (List.mem_append_left _ hm))) fun o e=>?_
     rw [l3] at e;exact a8 e
   let K1:Kp:=⟨fun b o=>(b = x∧o = instObj C.cls dx)∨(b = dx∧o = emptyDict)∨(b = l∧o = { cls:=.type "list",data:=.seq ([]:List Value).toArray }),[]⟩
   have xf1:=xf0.step (Keeps.grow C.bare kpl) (Keeps.sok C.bare kpl xf0.sok)
   have xf:Frm C.bare K1 kd s [] ([x,dx]++VV C io Z) env (fun J=>0) [] F (m0 [(("headers":Str),.none)]) [] [] { s3 with heap:=s3.heap.push { cls:=.type "list",data:=.seq ([]:List Value).toArray } }:=(xf1.before (Keeps.grow C.bare kp)).withK (fun b o hbo=>by
     rcases hbo with ⟨rfl,rfl⟩ | ⟨rfl,rfl⟩ | ⟨rfl,rfl⟩
     · exact ⟨w6 kpl (kk3 _ _ (ba4 _)),(by intro h;cases h),(by intro h;cases h),(by intro h;cases h),xF⟩
     · exact ⟨w6 kpl (kk3 _ _ (ag1 _)),(by intro h;cases h),(by intro h;cases h),(by intro h;cases h),dF⟩
     · exact ⟨Heap.get?_push_size _ rfl,(by intro h;cases h),(by intro h;cases h),(by intro h;cases h),lF⟩) (fun k t e=>by have e2:([]:HI)[k]? = some t:=e;simp at e2)
   have kv1:∀ {y u},m4 kd env s3.heap y u→m4 kd env (s3.heap.push { cls:=.type "list",data:=.seq ([]:List Value).toArray }) y u:=fun h=>h.keep (fun o e=>Heap.get?_push_of_some _ e) fun c o _ _ e=>Heap.get?_push_of_some _ e
   have lV:l∉VV C.bare [] ([]++(F++([x,dx]++VV C io Z))):=fun hm=>by
     have hm':l∈F∨l = x∨l = dx∨l∈VV C io Z:=by simpa [VV,Cst.bare,adr] using hm
     rcases hm' with h | h | h | h
     · exact lF h
     · exact lx h
     · exact ld h
     · refine ze (lj hk _ h) fun o e=>?_
       rw [l0] at e;exact a8 e
   refine xf.storeV (ev:=.val (.lst [])) (a:=0) (can "headers" (by decide)) ⟨Nat.zero_le _,l,#[],rfl,lV,⟨_,Heap.get?_push_size _ rfl⟩,rfl⟩ (fun l hl=>by injection hl) fun s4 xf4 k4 v4 head4=>?_
   have self4:=v4 "self" _ (by decide) (kv1 self3)
   have fo4:(o9 "headers" (EV.val (.lst [])) (m0 [(("headers":Str),.none)])).lookup ("headers":Str) = some (EV.val (.lst [])):=(f4 _ _).trans (if_pos rfl)
   generalize o9 "headers" (EV.val (.lst [])) (m0 [(("headers":Str),.none)]) = fo at xf4 fo4
   have hg4:=rt.g.keeps xf4.sok.base
   have hbu4:=rt.b.keeps xf4.sok.base
   have e4:s4.heap.get? l = some { cls:=.type "list",data:=.seq ([]:List Value).toArray }:=(xf4.kept l _ (.inr (.inr ⟨rfl,rfl⟩))).1
   refine wpAny_execs_cons (wpAny_If (wpAny_isTrue_Compare1 (Call_ (Calls.Name_function_global xf4.fn ((xf4.kdo _).trans (hglo "type" (by decide))) (Calls.loadGlobal_builtin (env:=env) (by rw [xf4.gl];exact hg4) (rt.nob2 _ (by decide)) (by rw [xf4.bi];exact hbu4) ((rt.bi _ (by decide)).trans (show bootBuiltins "type" = some (.type "type") by decide +kernel)) ?_) (by decide)) rfl) rfl))
   refine Pv.callWith_type1 (wpAny_items_cons (o5 xf4 head4 (by decide) (wpAny_items_nil ?_)))
   refine call_type_of (Tx:="list") ⟨_,e4,rfl⟩ (by decide +kernel) ?_
   refine Calls.Name_function_global xf4.fn ((xf4.kdo _).trans (hglo "list" (by decide))) (Calls.loadGlobal_builtin (env:=env) (by rw [xf4.gl];exact hg4) (rt.nob2 _ (by decide)) (by rw [xf4.bi];exact hbu4) ((rt.bi _ (by decide)).trans (show bootBuiltins "list" = some (.type "list") by decide +kernel)) ?_) (by decide)
   refine wpAny_isNot_self (by rfl) (wpAny_truthy_bool ?_)
   rw [if_neg (by decide)]
   refine wpAny_execs_nil ?_
   have hx4:s4.heap.get? x = some (instObj C.cls dx):=(xf4.kept x _ (.inl ⟨rfl,rfl⟩)).1
   have hd4:s4.heap.get? dx = some emptyDict:=(xf4.kept dx _ (.inr (.inl ⟨rfl,rfl⟩))).1
   have xd:x≠dx:=Nat.succ_ne_self _
   refine wpAny_execs_cons (plainObj_wpAny_Assign_Attribute (o5 xf4 head4 (by decide) (o5 xf4 self4 (by decide) (au9 k.cls kn xf4.sok.base hx4 hd4 xd fun h5 t5 sb5 sh5=>?_))) rfl)
   have al5:∃ o,h5.get? dx = some o:=by refine zae3 sh5 fun J J J J e=>?_;exact ⟨_,e⟩
   have t45:aw [dx] s4 { s4 with heap:=h5,toks:=t5 }:=⟨⟨h5,t5,rfl⟩,fun b o e hb=>sb5.extBut b o (by simpa using hb) e,fun b hb J=>by simp only [List.mem_singleton] at hb;subst hb;exact al5⟩
   let K2:Kp:=⟨fun b o=>(b = x∧o = instObj C.cls dx)∨(b = l∧o = { cls:=.type "list",data:=.seq ([]:List Value).toArray }),[]⟩
   have xf4':Frm C.bare K2 kd s [] ([x,dx]++VV C io Z) env _ [] F fo [] [] s4:=xf4.withK (fun b o hb=>xf4.kept b o (hb.elim .inl fun h=>.inr (.inr h))) (fun k t e=>by have e2:([]:HI)[k]? = some t:=e;simp at e2)
   have xf5:=xf4'.touch t45 (fun w hw=>by simp only [List.mem_singleton] at hw;subst hw;exact ⟨by simp,(by intro h;cases h),dF⟩) (fun b o hb hm=>by
     simp only [List.mem_singleton] at hm
     rcases hb with hb | hb
     · exact xd (hb.1.symm.trans hm)
     · exact ld (hb.1.symm.trans hm)) (fun w hw=>by simp only [List.mem_singleton] at hw;subst hw;exact (hW dx (.tail _ (.head _))).1)
   refine zae3 sh5 fun s51 hs5 tk5 nn5 s52=>?_
   let K3:Kp:=⟨fun b o=>(b = x∧o = instObj C.cls dx)∨(b = l∧o = { cls:=.type "list",data:=.seq ([]:List Value).toArray })∨(b = dx∧o = dictOf [⟨hs5,.str ("_headers":Str) tk5,.ref l⟩] nn5),[]⟩
   have xf6:Frm C.bare K3 kd s [] ([x,dx]++VV C io Z) env _ [] F fo [] [] { s4 with heap:=h5,toks:=t5 }:=xf5.withK (fun b o hb=>by
     rcases hb with hb | hb | ⟨rfl,rfl⟩
     · exact xf5.kept b o (.inl hb)
     · exact xf5.kept b o (.inr hb)
     · exact ⟨s52,(by intro h;cases h),(by intro h;cases h),(by intro h;cases h),dF⟩) (fun k t e=>by have e2:([]:HI)[k]? = some t:=e;simp at e2)
   have head5:m4 kd env h5 "headers" (.ref l):=head4.keep (fun o e=>sb5.extBut _ o (fun he=>dF (he ▸ xf4.lF)) e) fun c o hk hc e=>by
     refine ze2a3 (xf4.all _ hk) fun c' J h1 J h4 J=>?_
     rw [hc] at h1;(injection h1 with h1;subst h1)
     exact sb5.extBut _ o (fun he=>dF (he ▸ h4)) e
   refine wpAny_execs_cons (wpAny_If (wpAny_isTrue_value (wpAny_pure (wpAny_truthy_bool ?_)) rfl))
   rw [if_pos rfl]
   refine zea (xf6.vals "headers" _ fo4) fun vl hvl hhl=>?_
   have evl:=hvl.unique head5
   subst evl
   refine wpAny_execs_cons (a9 (ay1 (C:=C.bare) (X:=[]++F) (ds:=[]) (g1:=[]) (bk:=fun _ _=>none) (fl:=.next fo []) nofun (fun K Z0 fo g fl hb=>a8 hb) xf6 (o5 xf6 hvl (by decide) (.of (q0.refl C.bare) xf6.sok (lr ha2 (Nat.zero_le _) (fun hm=>lF (by simpa [VV,Cst.bare,adr] using hm)) ⟨_,(xf6.kept l _ (.inr (.inl ⟨rfl,rfl⟩))).1⟩ rfl))) (fun b hb=>hb) ha2 rfl) ?_)
   rintro fl s7 ⟨rfl,ad7,O7,io7,xf7⟩
   have g7:Keeps s s7:=by
     have e:=kr xf7.sok
     subst e
     exact q0.keepsB xf7.grow
   exact wpAny_execs_nil (wpAny_execs_nil ⟨rfl,l,l0,lx,ld,g7,⟨(xf7.kept x _ (.inl ⟨rfl,rfl⟩)).1,hs5,tk5,nn5,(xf7.kept dx _ (.inr (.inr ⟨rfl,rfl⟩))).1⟩,⟨_,(xf7.kept l _ (.inr (.inl ⟨rfl,rfl⟩))).1⟩⟩)
theorem bm6 (t:Addr × Addr × Addr):adr [t] = [t.1,t.2.1,t.2.2]:=rfl
theorem bq6 (hk:Sok C Z io g s) (kp:Keeps s s') {x dx l:Addr} (hx:s.heap.get? x = none) (hd:s.heap.get? dx = none) (hl:s.heap.get? l = none) (xd:x≠dx) (lx:l≠x) (ld:l≠dx) (sh:y9 C s'.heap x dx l) (hp:s'.heap.PlainList l #[]) :
   Sok C Z (io++[(x,dx,l)]) (g++[[]]) s'∧q0 C io (io++[(x,dx,l)]) s s':=by
 refine ze2a kp fun h' tk e2q kk=>?_;clear kp;subst e2q
 have hadr:adr (io++[(x,dx,l)]) = adr io++[x,dx,l]:=by rw [ak2,bm6]
 have d3:∀ b∈[x,dx,l],s.heap.get? b = none:=fun b hb=>by
   simp only [List.mem_cons,List.not_mem_nil,or_false] at hb
   rcases hb with h | h | h<;>(rw [h];assumption)
 have n3:∀ {b o},s.heap.get? b = some o→b∉[x,dx,l]:=fun {b o} e hm=>by rw [d3 b hm] at e;exact a8 e
 have up:∀ (b:Addr) (o:Obj),s.heap.get? b = some o→b∉VV C io Z→h'.get? b = some o∧b∉VV C (io++[(x,dx,l)]) Z:=fun b o e hn=>⟨kk b o e,fun hm=>by
   unfold VV at hm hn
   rw [hadr] at hm
   simp only [List.mem_append,not_or] at hm hn
   rcases hm with (h | h | h) | h
   · exact hn.1.1 h
   · exact hn.1.2 h
   · exact n3 e h
   · exact hn.2 h⟩
 have nH:∀ b∈[x,dx,l],C.H.get? b = none:=fun b hb=>by
   induction e:C.H.get? b using Option.casesOn with
   | none=>rfl
   | some o=>exact absurd hb (n3 (hk.base _ _ e))
 refine ⟨⟨fun b o e=>kk b o (hk.base b o e),⟨by rw [List.length_append,List.length_append,hk.st.len];rfl,fun j t qs h1 h2=>?_,?_,fun b hb=>?_,C.vtKeep _ _ _ _ hk.st.vt (fun b J o e=>kk b o e) fun b o ws e hdt hn=>up b o e hn⟩,fun z hz=>?_,fun z hz=>⟨(hk.zd z hz).1,fun hm=>?_,(hk.zd z hz).2.2⟩,fun z hz=>?_⟩,⟨⟨h',tk,rfl⟩,fun b o e _ _=>kk b o e,fun b o e=>⟨o,kk b o e⟩,fun j t e=>?_,fun b hb=>?_⟩⟩
 · rcases Nat.lt_trichotomy j io.length with hj | hj | hj
   · rw [List.getElem?_append_left hj] at h1
     rw [List.getElem?_append_left (by rw [← hk.st.len];exact hj)] at h2
     have HH:=hk.st.at' j t qs h1 h2
     refine ze3 HH.dict fun b1 b2 b3 e=>?_
     refine zea HH.list fun ws e1q hw=>?_;obtain ⟨m,e2⟩:=e1q
     exact ⟨kk _ _ HH.inst,⟨b1,b2,b3,kk _ _ e⟩,⟨ws,⟨m,kk _ _ e2⟩,f0.mono up (fun _ _ e=>e) hw⟩,HH.len⟩
   · subst hj
     rw [List.getElem?_append_right (Nat.le_refl _),Nat.sub_self] at h1
     rw [hk.st.len,List.getElem?_append_right (Nat.le_refl _),Nat.sub_self] at h2
     injection (show some (x,dx,l) = some t from h1) with h1
     injection (show some [] = some qs from h2) with h2
     subst h1;subst h2
     exact ⟨sh.1,sh.2,⟨#[],hp,rfl⟩,Nat.zero_le _⟩
   · rw [List.getElem?_eq_none (by rw [List.length_append];exact hj)] at h1
     exact a8 h1
 · rw [hadr,List.nodup_append]
   refine ⟨hk.st.nodup,by simp [xd,Ne.symm lx,Ne.symm ld],fun b hb c hc he=>?_⟩
   subst he
   refine ze (hk.st.alive C b hb) fun o e=>?_
   exact n3 e hc
 · rw [hadr] at hb
   rcases List.mem_append.mp hb with hb | hb
   · exact hk.st.below b hb
   · exact nH b hb
 · refine ze (hk.zal z hz) fun o e=>?_;exact ⟨o,kk z o e⟩
 · rw [hadr] at hm
   rcases List.mem_append.mp hm with hm | hm
   · exact (hk.zd z hz).2.1 hm
   · refine ze (hk.zal _ hz) fun o e=>?_
     exact n3 e hm
 · refine ze (hk.val z hz) fun o e=>?_;exact ⟨o,kk z o e⟩
 · rw [List.getElem?_append_left (List.getElem?_eq_some_iff.mp e).1];exact e
 · rw [hadr] at hb
   rcases List.mem_append.mp hb with hb | hb
   · exact .inl hb
   · exact .inr (d3 b hb)
set_option tactic.hygienic true in
theorem ca4 (k:aj C K fs) (kn:rk C K fi) (rt:g9 C) (ia:af1 C fi):z0 C 22 (.ref C.cls) cs3:=by
 intro ds g d g' h A Z io s vs ha hk hv
 refine za (gs h) fun e1 h=>?_
 subst e1
 replace hv:vs = []:=hv
 subst hv
 apply i2 h
 have hA:yw (A.under (.builtin "type.__call__" ⟨[.ref C.cls],[]⟩)) 21:=⟨ha.hh,by have:=ha.dp;show A.depth + 1 + 21≤900;lia,by have:=ha.un;show A.units + 1 + 8 * 21≤9005;lia⟩
 obtain ⟨hp0,gg,dd,tt,os⟩:=s
 have X:=k.cls.X.keeps hk.base
 refine wpAny_call (make_core (makes_of X kn.mak) (looks_findIn X kn.init) (fun self=>bind_fn X self kn.fn) (.inl rfl) ?_)
 refine codeAny_mono (bc1 k kn rt ia hA hk) fun r s' hr=>?_
 match r,hr with
 | .ok (.ret v),hr =>
   refine za hr fun e0q ip=>?_;clear hr;subst e0q
   obtain ⟨l,l0,lx,ld,kp,sh,hp⟩:=ip
   have nn:∀ b,hp0.objs.size≤b→hp0.get? b = none:=fun b hb=>by
     induction e:hp0.get? b using Option.casesOn with
     | none=>rfl
     | some o=>exact absurd (Heap.lt_size e) (Nat.not_lt.mpr hb)
   refine za (bq6 hk kp (nn _ (Nat.le_succ _)) (nn _ (Nat.le_refl _)) l0 (Nat.succ_ne_self _) lx ld sh hp) fun q1 q2=>?_
   refine ⟨rfl,_,q2,q1,?_⟩
   refine ⟨(hp0.objs.size + 1,hp0.objs.size,l),?_,rfl⟩
   rw [← hk.st.len,List.getElem?_append_right (Nat.le_refl _),Nat.sub_self]
   rfl
 | .ok .next,hr=>exact hr.elim
 | .ok .brk,hr=>exact hr.elim
 | .ok .cont,hr=>exact hr.elim
 | .error e,hr=>exact hr.elim
end
end Mine
end
section
open PySem PySem.W PySem.Calls PyProof.Rows
namespace Mine
variable {C:Cst}
noncomputable def yb (p:Nat→Pos):Expr:=.Compare (.Call (.Attribute (.Subscript (.Name "pair" (p 3)) (.Constant (.int 0) 0 (p 4)) (p 5)) "lower" (p 6)) [] [] (p 7)) [.Eq] [.Name "name" (p 8)] (p 9)
noncomputable def an1 (p:Nat→Pos) (sc:Scope):List Stmt :=
 [.Return (some (.Call (.Name "_split_list" (p 0)) [.Name "pairs" (p 1),.Lambda ⟨[],[⟨"pair",none,p 2⟩],none,[],[],none,[]⟩ (yb p) sc (p 10)] [] (p 11))) (p 12)]
noncomputable def an9 (ps:List (Str × Str)) (n:Str):List (Str × Str):=ps.filter fun q=>Txt.lower q.1==n
noncomputable def cg5:ae:=fun ds g=>cx2 ds fun l r=>zm r fun n r=>zf r ((jz l).bind fun ps =>
 if ps.all (fun q=>j7 (Txt.lower q.1)) then some (.tup [.lst ((an9 ps n).map m7),.lst ((ka ps n).map m7)],g) else none)
theorem ah6 (kd:Kd) (p:Nat→Pos) (hl:((p 6).endLine==(p 7).line) = true) (n:Str) (base:Ro) (hb:base.lookup ("name":Str) = some (.str n)) (g:Sg):∀ ps:List (Str × Str),(∀ q∈ps,j7 (Txt.lower q.1) = true) →
   jk (fun d g=>c7 (pev T0 8 kd ((("pair":Str),d)::base) (yb p) g) fun r g=>(z6 r).map (·,g)) (ps.map m7) g = some (((an9 ps n).map m7,(ka ps n).map m7),g)
 | [],_=>rfl
 | q::r,hs=>by
   have ih:=ah6 kd p hl n base hb g r fun q hq=>hs q (.tail _ hq)
   have lk:(((("pair":Str),m7 q)::base):Ro).lookup ("pair":Str) = some (m7 q):=bu (beq_self_eq_true _)
   have ln:(((("pair":Str),m7 q)::base):Ro).lookup ("name":Str) = some (.str n):=(u6 (by decide)).trans hb
   have e0:pev T0 6 kd ((("pair":Str),m7 q)::base) (.Subscript (.Name "pair" (p 3)) (.Constant (.int 0) 0 (p 4)) (p 5)) g = some (.str q.1,g) :=
     d8 (o1 lk (by decide)) j4 rfl
   have ee:pev T0 8 kd ((("pair":Str),m7 q)::base) (yb p) g = some (.bool (Txt.lower q.1==n),g):=yo (br e0 rfl hl (hs q (.head _))) (o1 ln (by decide)) rfl
   have e1:(c7 (pev T0 8 kd ((("pair":Str),m7 q)::base) (yb p) g) fun r g=>(z6 r).map (·,g)) = some (Txt.lower q.1==n,g):=c8 ee
   show (c7 (c7 (pev T0 8 kd ((("pair":Str),m7 q)::base) (yb p) g) fun r g=>(z6 r).map (·,g)) fun b g=>c7 (jk _ (r.map m7) g) fun pr g=>some (if b = true then (m7 q::pr.1,pr.2) else (pr.1,m7 q::pr.2),g)) = _
   refine (c8 e1).trans ((c8 ih).trans ?_)
   induction hc:(Txt.lower q.1==n) using Bool.casesOn with
   | true =>
     have h1:an9 (q::r) n = q::an9 r n:=List.filter_cons_of_pos (by rw [hc])
     have h2:ka (q::r) n = ka r n:=List.filter_cons_of_neg (by rw [hc];decide)
     rw [h1,h2];rfl
   | false =>
     have h1:an9 (q::r) n = an9 r n:=List.filter_cons_of_neg (by rw [hc];decide)
     have h2:ka (q::r) n = q::ka r n:=List.filter_cons_of_pos (by rw [hc];rfl)
     rw [h1,h2];rfl
theorem co9 {lv:Nat}:dh C lv T0:=⟨fun J J h=>a8 (show none = some _ from h),fun J J h=>a8 (show none = some _ from h),fun J h=>a8 (show none = some _ from h),fun J J h=>a8 (show none = some _ from h)⟩
theorem ni {Z Z':List Addr} {io:HI} {a:Addr} (h:∀ z∈Z',z∈Z) (ha:a∉VV C io Z):a∉VV C io Z':=fun hm=>ha (by
 unfold VV at hm ⊢
 rcases List.mem_append.mp hm with hm | hm
 · exact List.mem_append_left _ hm
 · exact List.mem_append_right _ (h a hm))
theorem zi.less {Zi Z Z':List Addr} {io:HI} {s:Shared} {ds:List D} {v:Value} (h:zi C Zi Z io ds v s) (hz:∀ z∈Z',z∈Z):zi C Zi Z' io ds v s:=by
 have mono:∀ {l:List D} {vs:List Value},f0 (VV C io Z) io s.heap l vs→f0 (VV C io Z') io s.heap l vs:=fun hh=>f0.mono (fun a o e ha=>⟨e,ni hz ha⟩) (fun _ _ e=>e) hh
 rcases h with ⟨d,hd,hh⟩ | ⟨z,TI,TO,i1,i2,l1,l2,xs,ys,l,m,rfl,rfl,D,hz',hTI,hTO,h1,h2,⟨p1,q1,v1⟩,⟨p2,q2,v2⟩,ll,lm,hnew⟩
 · exact .inl ⟨d,hd,Has.less hh hz⟩
 · exact .inr ⟨z,TI,TO,i1,i2,l1,l2,xs,ys,l,m,rfl,rfl,D,hz',hTI,hTO,h1,h2,⟨p1,mono q1,ni hz v1⟩,⟨p2,mono q2,ni hz v2⟩,ll,lm,hnew⟩
inductive bm9 (C:Cst) (a:Addr):Prop
 | mk (fd:FuncData) (p:Nat→Pos) (sc:Scope)
   (e1:oy C a fd (an1 p sc)) (l1:((p 6).endLine==(p 7).line) = true) (e2:(∀ x n,bindArgs fd ⟨[x,n],[]⟩ = pure [(("pairs":Str),x),(("name":Str),n)])) (e3:fd.scope.names.lookup ("pairs":Str) = some .local) (e4:fd.scope.names.lookup ("name":Str) = some .cell) (e5:fd.scope.names.lookup ("_split_list":Str) = some .globalImplicit)
   (e6:z2 sc (fun y=>fd.scope.names.lookup y) "pair" = true) (e7:sc.names.lookup ("name":Str) = some .free)
section
variable {Z:List Addr} {io:HI} {g:Sg} {s s':Shared} {a:Addr}
set_option tactic.hygienic true in
theorem bw4 (sp:aj9 C) (rt:g9 C) (of:bm9 C a):az4 C 21 (.ref a) cg5:=by
 intro ds d0 g d g' h A Z io io1 s0 s W v v0 ha x1 k1 hw sv hv0
 replace h:zm [d0] (fun n r=>zf r ((jz ds).bind fun ps=>if (ps.all fun q=>j7 (Txt.lower q.1)) = true then some (D.tup [.lst ((an9 ps n).map m7),.lst ((ka ps n).map m7)],g) else none)) = some (d,g'):=h
 refine ze2a (fu h) fun n r e1 ha1=>?_
 injection e1 with e1 e2
 subst e1;subst e2
 refine za (gs ha1) fun _ ha2=>?_
 refine zea (dr ha2) fun ps hps ha3=>?_
 have eds:=rx hps
 subst eds
 refine za (w9 ha3) fun hc ha4=>?_
 rw [List.all_eq_true] at hc
 apply i2 ha4
 refine zae hv0 fun hn tn e=>?_;subst e
 obtain ⟨fd,p,sc,fn,hl,hb,hpl,hnc,hsg,hsc,hfree⟩:=of
 obtain ⟨aS,fdS,pa,pb,pc,pd,pe,pg,px,pps,p1,q1,p2,py,q3,p3,pn,q4,p4,pi,pf,pxa,pxb,pxc,se1,se2,r1,r2,r3,r4,kk,hmg,fnS,hl3,hl4,hbS,hcellS,hnmS,hnsS⟩:=sp.glo
 refine zea fnS.get fun oS hoS hdS=>?_
 refine za (yf hsc) fun hco hgen=>?_
 refine za4 (wc hsc) fun e1 e2 e3 e4 e5=>?_
 refine cm (C:=C) (L:=20) (binds:=[(("pairs":Str),v),(("name":Str),.str n tn)]) (l:=[(("name":Str),.str n)]) rt fn (fun A E Q hq=>by rw [hb];exact wpAny_pure hq) (fun x hx=>?_) (by show ([("pairs":Str),("name":Str)]:List Str).Nodup;decide) ha k1 (by simp) (fun y e hy=>?_) fun env s2 F kp2 hF xf hvar ha2=>?_
 · unfold c9
   rcases List.mem_cons.mp hx with rfl | hx
   · simp only [hpl];rfl
   · rw [List.mem_singleton.mp hx];simp only [hnc];rfl
 · by_cases h1:(y==("name":Str)) = true
   · have e1:=eq_of_beq h1
     subst e1
     rw [bu h1] at hy
     injection hy with hy;subst hy
     exact ⟨.str n tn,rfl,⟨hn,tn,rfl⟩⟩
   · rw [u6 (by simpa using h1)] at hy
     exact a8 (show none = some e from hy)
 · have he:=xf.envR
   refine ze3a2 (he.cd hsg) fun c P q' hspc hcode hqual=>?_
   subst hqual
   refine wpAny_execs_cons (wpAny_Return_some (Call_ (ij rt he xf.sok hsg hmg (by decide) ?_) rfl))
   refine Calls.callWith_function (o:=oS) (fd:=fdS) (l9 rfl (wpAny_items_cons (o5 xf (hvar "pairs" v rfl) (by decide) ?_) (f6 fun _ _=>nofun)))
   refine wpAny_items_cons (aj1 sp rt he.gl hspc hcode xf.sok (fun y hy hf=>?_) fun f s3 c' ct x3 k3 ho hcd hfv hcv=>wpAny_items_nil ⟨⟨k3.base _ _ hoS,hdS⟩,?_⟩) (f6 fun _ _=>nofun)
   · refine ze2a (he.all y.1 (e4 y hy hf)) fun c _ h1 _=>?_
     exact ⟨c,h1⟩
   · let sb:Shared:={ s2 with heap:=hideAll s2.heap W }
     have keep:∀ b o,s2.heap.get? b = some o→b∉W→sb.heap.get? b = some o:=fun b o e hb=>hideAll_get W e hb
     have sub:∀ b o,sb.heap.get? b = some o→s2.heap.get? b = some o:=fun b o e=>of_hideAll W e
     have FW:∀ f∈F,f∉W:=fun f hf hm=>by
       refine ze (k1.zal f (List.mem_append_left _ hm)) fun o e=>?_
       rw [hF f hf] at e;exact a8 e
     have WZ:∀ w∈W,w∉F++Z:=fun w hm hz=>(List.mem_append.mp hz).elim (fun h=>FW w h hm) (hw w hm).2
     have perm:∀ z∈W++(F++Z),z∈[]++(F++(W++Z)):=fun z hz=>by
       simp only [List.mem_append,List.nil_append] at hz ⊢
       rcases hz with h | h | h<;>simp [h]
     have kb:Sok C (F++Z) io1 g sb:=Sok.drop (F:=W) (xf.sok.less C perm) ⟨_,_,rfl⟩ keep WZ
     have inF:∀ z,qm (fun y=>fd.scope.names.lookup y) env z→z∈F:=fun z hz=>by
       induction hz using qm.casesOn with
       | loc h=>exact h ▸ xf.lF
       | cel x hk hc =>
         rcases hk with h | h
         · refine ze2a3 (xf.all x h) fun c' J h1 J h4 J=>?_
           rw [hc] at h1;injection h1 with h1;exact h1 ▸ h4
         · exact absurd h (xf.nofree x)
     have heb:m6 C (fun y=>fd.scope.names.lookup y) (F++Z) io1 env (d6 (m0 [(("name":Str),.str n)])) sb.heap:=he.move (fun b o e hb=>by
       have h2:=ni perm hb
       unfold VV at h2 ⊢
       simp only [List.mem_append,not_or] at h2 ⊢
       exact ⟨keep b o e h2.2.1,h2.1,h2.2.2⟩) (fun _ _ e=>e) fun z o hz e=>⟨keep z o e (FW z (inF z hz)),List.mem_append_left _ (inF z hz)⟩
     have xb2:q0 C io1 io1 sb s2:=⟨⟨s2.heap,s2.toks,rfl⟩,fun b o e _ _=>sub b o e,fun b o e=>⟨o,sub b o e⟩,fun _ _ e=>e,fun _ h=>.inl h⟩
     have x0b:q0 C io io1 s0 sb:=(x1.trans C (Keeps.grow C kp2)).drop (F:=W) ⟨_,_,rfl⟩ keep fun w hm=>(hw w hm).1
     have sv2:=(sv.up (F:=F) (Keeps.grow C kp2) (fun b hb=>List.mem_append_left _ hb) k1 hF).less (Z':=W++(F++Z)) fun z hz=>by simpa using perm z hz
     have sv3:=sv2.up (F:=[]) x3 (fun b hb=>List.mem_append_left _ hb) (xf.sok.less C perm) (fun f hf=>by cases hf)
     refine a9 (rl (ev:=fun ro e g=>pev T0 8 (fun y=>sc.names.lookup y) ro e g) (lv:=16) (W:=W) (Z:=F++Z) fnS hl3 hl4 hbS hcellS hnmS hnsS rt (ha2.le (by lia)) heb kb (xb2.trans C x3) (k3.less C perm) (fun w hm=>hideAll_none W hm) sv3 hsc hco hgen ho hcd (ni perm hfv) (ni perm hcv)
       (fun ro=>(ae0 rt (bi9 sp rt) (co9 (lv:=0)) 8).ev _ ro) (ah6 _ p hl n _ (ek hfree (w7 rfl)) g ps hc)) ?_
     rintro r s4 ⟨io4,x4,k4,hh4⟩
     exact ⟨io4,x0b.trans C x4,k4.less C fun z hz=>List.mem_append_right _ hz,Has.less hh4 fun z hz=>List.mem_append_right _ hz⟩
end
end Mine
namespace Mine
theorem ph {h:Heap}:∀ {tabs:List (Addr × Addr)},CodeAll tabs h→∀ q∈tabs,CodeHd h q.1 q.2
 | [],_,q,hq=>by cases hq
 | r::l,x,q,hq=>by
   rcases List.mem_cons.mp hq with rfl | hq
   · exact x.1
   · exact ph x.2 q hq
noncomputable abbrev jp (spc:List (Addr × Addr × Str)):List (Addr × Addr):=spc.map fun t=>(t.1,t.2.1)
theorem wh {spc:List (Addr × Addr × Str)} {c P:Addr} {q:Str} (h:(c,P,q)∈spc):(c,P)∈jp spc:=List.mem_map.mpr ⟨_,h,rfl⟩
noncomputable def bi5 (prog:Program) (w:World) (h:Heap) (mg mb:Str→Option Value) (cls:Addr) (spc:List (Addr × Addr × Str)):Cst :=
 { prog,w,H:=ghostOf h (jp spc),vt:=spc.map fun t=>t.2.1,mg,mb,cls,spc,vtOk:=bs3 spc,vtKeep:=bs3.keep fun c P q hm=>List.mem_map.mpr ⟨_,hm,rfl⟩ }
section
variable {prog:Program} {w:World} {s:Shared} {mg mb:Str→Option Value} {cls:Addr} {spc:List (Addr × Addr × Str)} {p:Program} {loose:List Str} {mean:ExcName→Option Value}
theorem au8 (hT:TabsAt (jp spc) s.heap) (T:Top p loose mean mg mb s.heap) (n1:∀ x∈(["len","sum","max","min","range","zip","enumerate","str"]:List Str),mg x = none) (n2:∀ x∈(["type","list"]:List Str),mg x = none):g9 (bi5 prog w s.heap mg mb cls spc) where
 g:=ghost_ns hT T.g
 b:=ghost_ns hT T.b
 bi:=T.builtins
 nolimit:=(ghost_top hT T).nolimit
 nob:=n1
 nob2:=n2
 vtH:=fun b hb=>by
   refine zea (List.mem_map.mp hb) fun t ht e2q=>?_;subst e2q
   exact hideAll_none _ (List.mem_map.mpr ⟨(t.1,t.2.1),List.mem_map.mpr ⟨t,ht,rfl⟩,rfl⟩)
theorem nx (hT:TabsAt (jp spc) s.heap):∀ b o,(ghostOf s.heap (jp spc)).get? b = some o→s.heap.get? b = some o:=fun b o e=>of_hideAll _ e
theorem bg7 (hT:TabsAt (jp spc) s.heap):Sok (bi5 prog w s.heap mg mb cls spc) [] [] [] s where
 base:=nx hT
 st:=⟨rfl,fun i t ps h=>by simp at h,by simp [adr],fun b hb=>by simp [adr] at hb,fun c P q hm=>⟨#[],(hT _ (wh hm)).2,trivial,fun pos=>.inl rfl⟩⟩
 zal:=fun z hz=>by cases hz
 zd:=fun z hz=>by cases hz
 val:=fun z hz=>by
   refine zea (List.mem_map.mp hz) fun t ht e2q=>?_;subst e2q
   exact ⟨_,(hT (t.1,t.2.1) (List.mem_map.mpr ⟨t,ht,rfl⟩)).2⟩
theorem bo7 (hT:TabsAt (jp spc) s.heap) (T:Top p loose mean mg mb s.heap):∃ bm ob,mg "__builtins__" = some (.ref bm)∧bm≠builtinsNs∧bm≠mainGlobals∧(ghostOf s.heap (jp spc)).get? bm = some ob∧ob.cls = .type "module"∧ob.dict = some builtinsNs∧ob.data = .plain:=by
 obtain ⟨bm,ob,b1,b2,b3,b4,b5,b6⟩:=(ghost_top hT T).bmain
 refine ⟨bm,ob,b1,b2,fun q=>?_,b3,b4,b5,b6⟩
 refine ze3a2 (ghost_ns hT T.g) fun o es ep e hd J=>?_
 rw [q,e] at b3;(injection b3 with b3;subst o);rw [hd] at b6;injection b6
theorem bq2 (hT:TabsAt (jp spc) s.heap) (T:Top p loose mean mg mb s.heap) (hinj:∀ t∈spc,∀ u∈spc,t.2.1 = u.2.1→t = u)
   (glo:bi7 (bi5 prog w s.heap mg mb cls spc)):aj9 (bi5 prog w s.heap mg mb cls spc) where
 vt:=fun V h=>Iff.rfl
 vm:=fun c P q hm=>List.mem_map.mpr ⟨_,hm,rfl⟩
 vs:=fun P hP=>by refine zea (List.mem_map.mp hP) fun t ht e2q=>?_;subst e2q;exact ⟨t.1,t.2.2,ht⟩
 inj:=hinj
 hd:=fun c P q hm=>ph (ghost_code hT) _ (wh hm)
 bm:=bo7 hT T
 glo:=glo
end
end Mine
namespace Mine
variable {C:Cst}
theorem zb {K:Frag} {M:Model} {h:Heap} {a:Addr} {cc:Value} {dd:Option Addr} {cd:ClassData} {ss:Array (Option Value)} (q:K.lookup a = some ⟨cc,dd,.cls cd,ss⟩) (e:specialIn K (.ref a) "__call__" = some (some (.builtin "type.__call__"))) (X:K.In h):Looks M h (keeperOf (.ref a)) .machine :=
 (Looks.ld (part:=none) (X _ _ q)).andThen ((looks_specialIn X e).andThen .now)
theorem xt {K:Frag} {M:Model} {a:Addr} {o:Obj} {cd:ClassData} (q:K.lookup a = some o) (hd:o.data = .cls cd) (e:specialIn K (.ref a) "__call__" = some (some (.builtin "type.__call__"))):∀ h:Heap,K.In h→Looks M h (keeperOf (.ref a)) .machine:=by
 obtain ⟨cc,dd,dt,ss⟩:=o
 simp only at hd
 subst hd
 exact fun h X=>zb q e X
noncomputable def mtL:List (Str × ae):=[("get",bs1),("__getitem__",bn2),("__setitem__",ct1),("__delitem__",cm7),("keys",kvS false),("values",kvS true),("items",at7),("get_all",bl3),("add_header",co0),("__len__",bs0)]
noncomputable def fzL:List (Str × ae):=[("_law_own",cg5)]
noncomputable def hT (fn:List (Str × ae)):Tbl:=⟨fun f=>fn.lookup f,fun m=>mtL.lookup m,some cs3,fun f=>fzL.lookup f⟩
noncomputable abbrev fsL (ac ag ai ast ad ak av ait al aa an:Addr):List (Str × Addr):=[("_convert_string_type",ac),("get",ag),("__getitem__",ai),("__setitem__",ast),("__delitem__",ad),("keys",ak),("values",av),("items",ait),("get_all",al),("add_header",aa),("__len__",an)]
structure as8 (C:Cst) (K:Frag) (ac ag ai ast ad ak av ait al aa an fi ow:Addr):Prop where
 fns:aj C K (fsL ac ag ai ast ad ak av ait al aa an)
 cv:cu C ac
 gt:aq6 C ag
 it:av1 C ai
 st:bc5 C ast
 dl:ak5 C ad
 ks:by5 C ak false
 vs:by5 C av true
 its:zz C ait kx (fun _=>False)
 gal:ap2 C al
 ad:bd6 C aa
 ln:zz C an uo (fun y=>y = "len")
 nw:rk C K fi
 ini:af1 C fi
 mg:C.mg "Headers" = some (.ref C.cls)
 kp:∀ h:Heap,(∀ b o,C.H.get? b = some o→h.get? b = some o)→Looks (model C.prog C.w) h (keeperOf (.ref C.cls)) .machine
 sys:∃ b o,C.H.get? b = some o∧sysModules < b
 own:bm9 C ow
 mow:C.mg "_law_own" = some (.ref ow)
noncomputable def al6 (C:Cst) (a:Addr):Prop:=∃ o fd,C.H.get? a = some o∧o.data = .func fd
theorem cp {a:Addr} {fd:FuncData} {body:List Stmt} (f:oy C a fd body):al6 C a:=by
 refine zea f.get fun o ho hd=>?_
 exact ⟨o,fd,ho,hd⟩
noncomputable def yy (C:Cst) (lv:Nat) (p:Str × ae):Prop :=
 ∃ a o fd,C.mg p.1 = some (.ref a)∧C.H.get? a = some o∧o.data = .func fd∧z0 C lv (.ref a) p.2
theorem all_cons {α:Type} {P:α→Prop} {a:α} {l:List α} (h:P a) (hl:∀ x∈l,P x):∀ x∈a::l,P x:=fun x hx=>by
 rcases List.mem_cons.mp hx with rfl | hx
 · exact h
 · exact hl x hx
theorem all_nil {α:Type} {P:α→Prop}:∀ x∈([]:List α),P x:=fun x hx=>by cases hx
theorem se {K:Frag} {ac ag ai ast ad ak av ait al aa an fi ow:Addr} (h:as8 C K ac ag ai ast ad ak av ait al aa an fi ow) (sp:aj9 C) (rt:g9 C) {lv:Nat} (hlv:23≤lv) {fn:List (Str × ae)}
   (hfn:∀ p∈fn,yy C lv p):dh C lv (hT fn) where
 fn:=fun f S hm=>hfn (f,S) (PySem.mem_of_lookup hm)
 mt:=fun m S hm=>by
   have hc:(fsL ac ag ai ast ad ak av ait al aa an).lookup ("_convert_string_type":Str) = some ac:=by rfl
   have mk:∀ {m:Str} {a:Addr} {S:ae} {l:Nat},(fsL ac ag ai ast ad ak av ait al aa an).lookup m = some a→m≠"_headers"→al6 C a→l≤23→z0 C l (.ref a) S→∃ a o fd,C.H.get? a = some o∧o.data = .func fd∧z0 C lv (.ref a) S∧af4 C m a:=fun hl hne f hle hcall=>by
     refine za2 (h.fns.find _ _ hl) fun f1 f2 f3=>?_
     refine ze2a f fun o fd ho hd=>?_
     exact ⟨_,o,fd,ho,hd,hcall.up (Nat.le_trans hle hlv),ax3 h.fns.cls f1 f2 f3 hne⟩
   have i1:al6 C ag:=by obtain ⟨_,_,f,_⟩:=h.gt.fn;exact cp f
   have i2:al6 C ai:=by obtain ⟨_,_,f,_⟩:=h.it.fn;exact cp f
   have i3:al6 C ast:=by obtain ⟨_,_,f,_⟩:=h.st.fn;exact cp f
   have i4:al6 C ad:=by obtain ⟨_,_,_,f,_⟩:=h.dl.fn;exact cp f
   have i5:al6 C ak:=by obtain ⟨_,_,_,f,_⟩:=h.ks.fn;exact cp f
   have i6:al6 C av:=by obtain ⟨_,_,_,f,_⟩:=h.vs.fn;exact cp f
   have i7:al6 C ait:=by obtain ⟨_,_,f⟩:=h.its;exact cp f
   have i8:al6 C al:=by obtain ⟨_,_,_,f⟩:=h.gal;exact cp f
   have i9:al6 C aa:=by obtain ⟨_,_,_,f⟩:=h.ad;exact cp f
   have i0:al6 C an:=by obtain ⟨_,_,f⟩:=h.ln;exact cp f
   have all:∀ p∈mtL,∃ a o fd,C.H.get? a = some o∧o.data = .func fd∧z0 C lv (.ref a) p.2∧af4 C p.1 a :=
     all_cons (mk rfl (by decide) i1 (by decide) (bi0 h.fns hc h.cv rt h.gt))
     (all_cons (mk rfl (by decide) i2 (by decide) (bp1 h.fns hc h.cv rt (show (fsL ac ag ai ast ad ak av ait al aa an).lookup ("get":Str) = some ag from rfl) h.gt h.it))
     (all_cons (mk rfl (by decide) i3 (by decide) (cc1 sp h.fns hc h.cv rt (show (fsL ac ag ai ast ad ak av ait al aa an).lookup ("__delitem__":Str) = some ad from rfl) h.dl h.st))
     (all_cons (mk rfl (by decide) i4 (by decide) (bm8 sp h.fns hc h.cv rt h.dl))
     (all_cons (mk rfl (by decide) i5 (by decide) (bz4 h.fns rt h.ks))
     (all_cons (mk rfl (by decide) i6 (by decide) (bz4 h.fns rt h.vs))
     (all_cons (mk rfl (by decide) i7 (by decide) (az7 h.fns rt h.its))
     (all_cons (mk rfl (by decide) i8 (by decide) (bl5 h.fns hc h.cv rt h.gal))
     (all_cons (mk rfl (by decide) i9 (by decide) (cj4 sp rt h.fns hc h.cv h.sys h.ad))
     (all_cons (mk rfl (by decide) i0 (by decide) (cc7 h.fns rt h.ln)) all_nil)))))))))
   exact all (m,S) (PySem.mem_of_lookup hm)
 new:=fun S hS=>by
   have hc:(fsL ac ag ai ast ad ak av ait al aa an).lookup ("_convert_string_type":Str) = some ac:=by rfl
   have:S = cs3:=by (injection hS with hS;subst hS);rfl
   subst this
   exact ⟨h.mg,(ca4 h.fns h.nw rt h.ini).up (by lia),h.kp⟩
 fz:=fun f S hm=>by
   have i:al6 C ow:=by obtain ⟨_,_,_,f⟩:=h.own;exact cp f
   refine ze2a i fun o fd ho hd=>?_
   have zo:az4 C lv (.ref ow) cg5:=fun ds d0 g d g' h1 A Z io io1 s0 s W v v0 ha=>bw4 sp rt h.own ds d0 g d g' h1 A Z io io1 s0 s W v v0 (ha.le (by lia))
   have:=all_cons (P:=fun p:Str × ae=>∃ a o fd,C.mg p.1 = some (.ref a)∧C.H.get? a = some o∧o.data = .func fd∧az4 C lv (.ref a) p.2) (a:=("_law_own",cg5)) ⟨ow,o,fd,h.mow,ho,hd,zo⟩ all_nil
   exact this (f,S) (PySem.mem_of_lookup hm)
end Mine
namespace Mine
noncomputable def bk8 (f:Str):List Stmt→Option (List Stmt × Scope)
 | []=>none
 | .FunctionDef n _ b _ _ _ sc _ _ _::r=>if n==f then some (b,sc) else bk8 f r
 | _::r=>bk8 f r
noncomputable def bm7 (f:Str):Option (List Stmt × Scope):=bk8 f PySem.Challenge.rw_pm0047_02.row.prog.main.body
noncomputable def o0 (f:Str):List Stmt:=match bm7 f with
 | some (b,_)=>b
 | none=>[]
noncomputable def aa9 (f:Str):Scope:=match bm7 f with
 | some (_,sc)=>sc
 | none=>PySem.Challenge.rw_pm0047_02.row.prog.main.scope
noncomputable def nq (f:Str):Kd:=fun x=>(aa9 f).names.lookup x
noncomputable def bo3 (l:List Stmt):List Stmt:=match l with
 | .For _ _ b _ _::_=>b
 | _=>[]
noncomputable def sOf (l:List Nat):Str:=⟨l.toArray⟩
theorem j5 (l:List Nat):(sOf l).length = l.length:=by show l.toArray.size = l.length;simp
theorem am {tr el:Ro→Sg→Option (D × Sg)} {t:Expr} {base:Ro} {g:Sg} {α:Type} {f:α→D} {h:α→D} {q:α→Bool}:∀ {l:List α},(∀ c∈l,∃ b,tgt t (f c) = some b∧tr (b++base) g = some (.bool (q c),g)∧(q c = true→el (b++base) g = some (h c,g)))→o7 (emK tr el) t base (l.map f) g = some ((l.filter q).map h,g)
 | [],_=>rfl
 | c::r,hh=>by
   refine zea2 (hh c (.head _)) fun b h1 h2 h3=>?_
   have ih:=am (l:=r) fun c hc=>hh c (.tail _ hc)
   rw [List.map_cons,List.filter_cons]
   induction hq:q c using Bool.casesOn with
   | true=>rw [hq] at h2;exact gp h1 h2 (h3 hq) ih
   | false=>rw [hq] at h2;exact ul h1 h2 ih
theorem u7 {tr el:Ro→Sg→Option (D × Sg)} {t:Expr} {base:Ro} {g:Sg} {α:Type} {f:α→D} {h:α→D} {l:List α} (hh:∀ c∈l,∃ b,tgt t (f c) = some b∧tr (b++base) g = some (.bool true,g)∧el (b++base) g = some (h c,g)):o7 (emK tr el) t base (l.map f) g = some (l.map h,g):=by
 have:=am (q:=fun _=>true) (h:=h) (l:=l) fun c hc=>by
   refine zea2 (hh c hc) fun b h1 h2 h3=>?_
   exact ⟨b,h1,h2,fun _=>h3⟩
 rw [List.filter_eq_self.mpr fun a _=>rfl] at this
 exact this
noncomputable def db:List Str→Fo→Prop
 | [],tl=>tl = []
 | x::xs,tl=>∃ tl',db xs tl'∧∀ e,o9 x e tl = (x,e)::tl'
theorem bq:∀ xs,db xs []
 | []=>rfl
 | x::xs=>⟨[],bq xs,fun e=>rfl⟩
theorem j3 {x:Str} {xs:List Str} {e:EV} {tl:Fo} (h:db xs tl):db (x::xs) ((x,e)::tl):=⟨tl,h,fun e=>by
 show (if (x==x) = true then (x,e)::tl else _) = _
 rw [beq_self_eq_true];rfl⟩
theorem as1 {α:Type} {body:Fo→Sg→Option Fl} {kd:Kd} {t:Expr} {f:α→D} (P:Fl→Prop) (Inv:List α→Fo→Sg→Prop)
   (hs:∀ c r fo g,Inv (c::r) fo g→∃ b,tgt t (f c) = some b∧(b.all fun p=>c9 kd p.1) = true∧((∃ fo1 g1,body (j9 b fo) g = some (.next fo1 g1)∧Inv r fo1 g1)∨(∃ d g1,body (j9 b fo) g = some (.ret d g1)∧P (.ret d g1)))) (he:∀ fo g,Inv [] fo g→P (.next fo g)) :
   ∀ (l:List α) (fo:Fo) (g:Sg),Inv l fo g→∃ fl,wl body kd t (l.map f) fo g = some fl∧P fl
 | [],fo,g,h=>⟨_,rfl,he fo g h⟩
 | c::r,fo,g,h=>by
   refine zea2 (hs c r fo g h) fun b h1 h2 h3=>?_
   have e:=xu (body:=body) (ds:=r.map f) (fo:=fo) (g:=g) h1 h2
   rcases h3 with ⟨fo1,g1,h4,h5⟩ | ⟨d,g1,h4,h5⟩
   · refine zea (as1 P Inv hs he r fo1 g1 h5) fun fl h6 h7=>?_
     refine ⟨fl,e.trans ?_,h7⟩
     rw [h4];exact h6
   · refine ⟨_,e.trans ?_,h5⟩
     rw [h4];rfl
theorem si {T:Tbl} {mu:List Str} {n:Nat} {kd:Kd} {t it:Expr} {body r:List Stmt} {p:Pos} {fo:Fo} {g g1:Sg} {R:Option Fl} {α:Type} {f:α→D} {l:List α} (Q:D→Sg→Prop) (Inv:List α→Fo→Sg→Prop)
   (ht:(fq t).isNone = false) (h:ap7 (pev T n kd (d6 fo)) (ke T n kd (d6 fo)) kd t it g = some (l.map f,g1)) (h0:Inv l fo g1)
   (hs:∀ c r fo g,Inv (c::r) fo g→∃ b,tgt t (f c) = some b∧(b.all fun p=>c9 kd p.1) = true∧((∃ fo1 g1,f7 T mu n kd body (j9 b fo) g = some (.next fo1 g1)∧Inv r fo1 g1)∨(∃ d g1,f7 T mu n kd body (j9 b fo) g = some (.ret d g1)∧Q d g1)))
   (hn:∀ fo g,Inv [] fo g→f7 T mu (n + 1) kd r fo g = R) (hq:∀ d g,Q d g→some (Fl.ret d g) = R):f7 T mu (n + 2) kd (.For t it body [] p::r) fo g = R:=by
 refine zea (as1 (f:=f) (body:=fun fo g=>f7 T mu n kd body fo g) (kd:=kd) (t:=t) (fun fl=>bf1 (some fl) (fun fo g=>f7 T mu (n + 1) kd r fo g) = R) Inv (fun c r fo g h=>?_) hn l fo g1 h0) fun fl h1 h2=>?_
 · refine zea2 (hs c r fo g h) fun b h1 h2 h3=>⟨b,h1,h2,?_⟩
   rcases h3 with h3 | ⟨d,g1,h4,h5⟩
   · exact .inl h3
   · exact .inr ⟨d,g1,h4,hq d g1 h5⟩
 · have h3:=bi8 (mu:=mu) (p:=p) ht h h1
   rw [jx,h3]
   exact h2
end Mine
namespace Mine
open Builtin Builtin.Str StrLaws
noncomputable def sy:List Nat→List Nat→Bool
 | [],_=>true
 | _::_,[]=>false
 | a::r,b::s=>match Nat.beq a b with
   | true=>sy r s
   | false=>false
noncomputable def bz (o n:List Nat):List Nat→Nat→List Nat
 | [],_=>[]
 | _::r,k + 1=>bz o n r k
 | c::r,0=>match sy o (c::r) with
   | true=>n++bz o n r (o.length - 1)
   | false=>c::bz o n r 0
theorem ja:∀ {o t:List Nat},sy o t = true↔t.take o.length = o
 | [],t=>by simp [sy]
 | a::r,[]=>by simp [sy]
 | a::r,b::s=>by
   unfold sy
   have ih:=ja (o:=r) (t:=s)
   simp only [List.length_cons,List.take_succ_cons,List.cons.injEq]
   split
   · rename_i h
     rw [ih,eq_comm (a:=b),Nat.eq_of_beq_eq_true h]
     simp
   · rename_i h
     have:a≠b:=fun e=>by rw [e,Nat.beq_refl] at h;injection h
     simp [Ne.symm this]
theorem yn {o n:List Nat}:∀ {t:List Nat} {k:Nat},bz o n t k = bz o n (t.drop k) 0
 | [],k=>by simp [bz]
 | c::r,0=>rfl
 | c::r,k + 1=>by rw [List.drop_succ_cons,← yn (t:=r) (k:=k)];rfl
theorem qc {o n:List Nat}:∀ {t:List Nat},(∀ k,k < t.length→sy o (t.drop k) = false)→bz o n t 0 = t
 | [],_=>rfl
 | c::r,h=>by
   have h0:=h 0 (by simp)
   rw [List.drop_zero] at h0
   unfold bz
   rw [h0,qc (t:=r) fun k hk=>by have:=h (k + 1) (by simp;lia);rwa [List.drop_succ_cons] at this]
theorem ao2 {o n:List Nat} (ho:1≤o.length):∀ {t:List Nat} {d:Nat},(∀ k,k < d→sy o (t.drop k) = false)→sy o (t.drop d) = true→bz o n t 0 = t.take d++n++bz o n (t.drop (d + o.length)) 0
 | [],d,_,h=>by
   rw [List.drop_nil] at h
   induction o using List.casesOn with
   | nil=>simp at ho
   | cons a r=>injection h
 | c::r,0,_,h=>by
   rw [List.drop_zero] at h
   conv=>lhs;unfold bz
   rw [h]
   show n++bz o n r (o.length - 1) = _
   rw [yn,List.take_zero,List.nil_append,Nat.zero_add]
   obtain ⟨m,hm⟩:∃ m,o.length = m + 1:=⟨o.length - 1,by lia⟩
   rw [hm,List.drop_succ_cons];rfl
 | c::r,d + 1,hn,h=>by
   have h0:=hn 0 (by lia)
   rw [List.drop_zero] at h0
   rw [List.drop_succ_cons] at h
   conv=>lhs;unfold bz
   rw [h0]
   show c::bz o n r 0 = _
   rw [ao2 ho (t:=r) (d:=d) (fun k hk=>by have:=hn (k + 1) (by lia);rwa [List.drop_succ_cons] at this) h]
   rw [show d + 1 + o.length = (d + o.length) + 1 from by lia,List.drop_succ_cons,List.take_succ_cons]
   rfl
theorem jr (a b:List Nat):sOf a++sOf b = sOf (a++b):=by
 apply Str.ext'
 simp [sOf,Str.cps_append]
theorem my (t:List Nat) (i j:Nat):strSub (sOf t) i j = sOf ((t.drop i).take (j - i)):=by
 apply Str.ext'
 apply Array.toList_inj.mp
 rw [strSub_toList]
 simp [sOf]
theorem ap9 {t o:List Nat} {k:Nat}:At (sOf t) (sOf o) (sOf t).length k↔k + o.length≤t.length∧sy o (t.drop k) = true:=by
 unfold At
 rw [subAt_eq,ja,j5,j5]
 simp only [sOf,beq_iff_eq]
theorem xw {t o n:List Nat} (ho:1≤o.length):∀ (cuts:List Nat) (a f:Nat),ChainG (sOf t) (sOf o) (sOf t).length a cuts f→(∀ k,f≤k→¬ At (sOf t) (sOf o) (sOf t).length k) →
   Str.join (sOf n) (partsFrom (sOf t) (sOf o).length a cuts) = sOf (bz o n (t.drop a) 0)
 | [],a,f,h,hn=>by
   have e:f = a:=h
   subst e
   have hf:bz o n (t.drop f) 0 = t.drop f:=qc fun k hk=>by
     rw [List.length_drop] at hk
     rw [List.drop_drop]
     induction hb:sy o (t.drop (f + k)) using Bool.casesOn with
     | false=>rfl
     | true =>
       refine absurd (ap9.mpr ⟨?_,hb⟩) (hn (f + k) (by lia))
       have:=ja.mp hb
       have h2:=congrArg List.length this
       rw [List.length_take,List.length_drop] at h2
       lia
   rw [hf]
   show strSub (sOf t) f (sOf t).length = _
   rw [my,j5,List.take_of_length_le (by simp)]
 | c::r,a,f,h,hn=>by
   refine za3 h fun hac hat hno hr=>?_;clear h
   refine ze2 (partsFrom_ne (sOf t) (sOf o).length (c + (sOf o).length) r) fun p q e=>?_
   have ih:=xw (n:=n) ho r _ f hr hn
   show Str.join (sOf n) (strSub (sOf t) a c::partsFrom (sOf t) (sOf o).length (c + (sOf o).length) r) = _
   rw [e] at ih ⊢
   show strSub (sOf t) a c++sOf n++Str.join (sOf n) (p::q) = _
   rw [ih,my,jr,jr,j5]
   have hat':=ap9.mp hat
   rw [ao2 (t:=t.drop a) (d:=c - a) ho (fun k hk=>by
     rw [List.drop_drop]
     induction hb:sy o (t.drop (a + k)) using Bool.casesOn with
     | false=>rfl
     | true=>exact absurd (ap9.mpr ⟨by lia,hb⟩) (hno (a + k) (by lia) (by lia))) (by rw [List.drop_drop,show a + (c - a) = c from by lia];exact hat'.2)]
   rw [List.drop_drop,show a + (c - a + o.length) = c + o.length from by lia]
theorem ba6 {o:List Nat} (h:o.all (fun c=>decide (c < 256)) = true):Builtin.Str.strKind (sOf o) = 1:=by
 unfold Builtin.Str.strKind
 rw [if_pos]
 rw [← Array.all_toList]
 exact h
theorem bk4 (x:Str):1≤Builtin.Str.strKind x:=by
 unfold Builtin.Str.strKind
 split
 · lia
 · split<;>lia
theorem qz {t o n:List Nat} (ho:1≤o.length) (hk:o.all (fun c=>decide (c < 256)) = true):Txt.join (sOf n) (Txt.split (sOf t) (sOf o)) = sOf (bz o n t 0):=by
 show glued (sOf n) _ = _
 rw [StrLaws.glued_eq_join]
 refine zea (occ_tight (sOf t) (sOf o) (by rw [j5];exact ho)) fun f hG hn=>?_
 have key:=xw (n:=n) ho _ 0 f hG hn
 rw [List.drop_zero] at key
 unfold Txt.split
 rw [ba6 hk]
 have h1:decide (Builtin.Str.strKind (sOf t) < 1) = false:=by
   have:=bk4 (sOf t)
   simp;lia
 rw [h1,Bool.or_false,j5,j5]
 by_cases hs:t.length < o.length
 · rw [if_pos (by simpa using hs)]
   show sOf t = _
   rw [qc]
   intro k hk
   induction hb:sy o (t.drop k) using Bool.casesOn with
   | false=>rfl
   | true =>
     have h2:=congrArg List.length (ja.mp hb)
     rw [List.length_take,List.length_drop] at h2
     lia
 · rw [if_neg (by simpa using hs)]
   rw [j5,j5] at key
   split
   · rename_i he
     rw [j5] at *
     rw [List.isEmpty_iff.mp he] at key
     rw [← key]
     show sOf t = strSub (sOf t) 0 t.length
     rw [my,List.drop_zero,Nat.sub_zero,List.take_of_length_le (Nat.le_refl _)]
   · rw [partsBetween_eq]
     exact key
end Mine
namespace Mine
open Builtin Builtin.Str StrLaws
theorem a7 {T:Tbl} {n:Nat} {kd:Kd} {ro:Ro} {x:Str} {p:Pos} {d:D} {g:Sg} (hx:(x==("__debug__":Str)||x==("__classdict__":Str)) = false) (h:ro.lookup x = some d):pev T (n + 1) kd ro (.Name x p) g = some (d,g):=by
 exact o1 h hx
theorem jb {α:Type} {f:α→Str}:∀ (l:List α),bv (l.map fun c=>.str (f c)) = some (l.map f)
 | []=>rfl
 | c::r=>by show (bv (r.map fun c=>.str (f c))).map _ = _;rw [jb r];rfl
theorem nl:∀ (l:List Nat),Str.join (sOf []) (l.map fun c=>sOf [c]) = sOf l
 | []=>rfl
 | [c]=>rfl
 | c::d::r=>by
   show sOf [c]++sOf []++Str.join (sOf []) ((d::r).map fun c=>sOf [c]) = _
   rw [nl (d::r),jr,jr]
   rfl
theorem af9:∀ (l:List Nat),((l.map fun c=>sOf [c]).map (·.length)).sum = l.length
 | []=>rfl
 | c::r=>by rw [List.map_cons,List.map_cons,List.sum_cons,af9 r,List.length_cons,j5];simp;lia
theorem dv {T:Tbl} {g:Sg} {l:List Nat} (h:l.length≤lim):ez T "join" (.str "") [.lst (l.map fun c=>.str (sOf [c]))] g = some (.str (sOf l),g):=by
 show ez T "join" (.str (sOf [])) _ g = _
 have h1:JoinOk (sOf []) (l.map fun c=>sOf [c]) = true:=by
   unfold JoinOk
   rw [StrLaws.joinTotal,af9,j5]
   unfold tooLong sizeLine
   unfold lim at h
   simp only [List.length_nil,Nat.mul_zero,Nat.add_zero,Bool.not_eq_true',decide_eq_false_iff_not]
   lia
 have h2:Txt.join (sOf []) (l.map fun c=>sOf [c]) = sOf l:=by
   show glued (sOf []) _ = _
   rw [StrLaws.glued_eq_join,nl]
 show ak7 (sOf []) (bv (l.map fun c=>.str (sOf [c]))) g = _
 rw [jb]
 have h3:j7 (sOf l) = true:=by
   unfold j7
   rw [j5]
   simpa using h
 show (if (JoinOk (sOf []) (l.map fun c=>sOf [c])&&j7 (Txt.join (sOf []) (l.map fun c=>sOf [c]))) = true then _ else _) = _
 rw [h1,h2,h3];rfl
noncomputable def y7 (v:Option Int) (d n:Nat):Nat :=
 match v with
 | none=>d
 | some i=>(max 0 (min (if i < 0 then i + n else i) (n:Int))).toNat
theorem br3 {x:Int} {n:Nat}:(max 0 (min x (n:Int))).toNat≤n:=Int.toNat_le.mpr (Int.max_le.mpr ⟨Int.natCast_nonneg n,Int.min_le_right _ _⟩)
theorem jc {v:Option Int} {d n:Nat} (h:d≤n):y7 v d n≤n:=by
 induction v using Option.casesOn with
 | none=>exact h
 | some i=>exact br3
theorem ah1 {a n:Nat}:(max 0 (min (a:Int) (n:Int))).toNat = min a n:=by
 rcases Nat.le_total a n with h | h
 · rw [Int.min_eq_left (Int.ofNat_le.mpr h),Int.max_eq_right (Int.natCast_nonneg _),Int.toNat_natCast,Nat.min_eq_left h]
 · rw [Int.min_eq_right (Int.ofNat_le.mpr h),Int.max_eq_right (Int.natCast_nonneg _),Int.toNat_natCast,Nat.min_eq_right h]
theorem pj {i d n:Nat}:y7 (some (i:Int)) d n = min i n:=by
 show (max 0 (min (if (i:Int) < 0 then (i:Int) + n else (i:Int)) (n:Int))).toNat = _
 rw [if_neg (Int.not_lt.mpr (Int.natCast_nonneg i))]
 exact ah1
theorem ie {i d n:Nat} (h:i≤n):y7 (some (i:Int)) d n = i:=pj.trans (Nat.min_eq_left h)
theorem rz {d n:Nat}:y7 (some (-1)) d (n + 1) = n:=by
 show (max 0 (min ((-1:Int) + (n + 1:Nat)) ((n + 1:Nat):Int))).toNat = n
 rw [show (-1:Int) + ((n + 1:Nat):Int) = (n:Int) by lia]
 exact ah1.trans (Nat.min_eq_left (Nat.le_succ n))
theorem wj {c n:Nat} (hc:c≤n):((c:Nat):Int) = max 0 (min (if ((c:Nat):Int) < 0 then ((c:Nat):Int) + n else ((c:Nat):Int)) (n:Int)):=by
 rw [if_neg (Int.not_lt.mpr (Int.natCast_nonneg c)),Int.min_eq_left (Int.ofNat_le.mpr hc),Int.max_eq_right (Int.natCast_nonneg c)]
theorem bg5 (lo hi:Option Int) (n:Nat):strSliceIndices lo hi 1 n = strSliceIndices (some (y7 lo 0 n:Int)) (some (y7 hi n n:Int)) 1 n:=by
 have h1:((1:Int) > 0) = True:=by simp
 have key:∀ (v:Option Int) (d:Nat),d≤n→(match v with
     | none=>(d:Int)
     | some i=>max 0 (min (if i < 0 then i + (n:Int) else i) (n:Int))) = max 0 (min (if ((y7 v d n:Nat):Int) < 0 then ((y7 v d n:Nat):Int) + n else ((y7 v d n:Nat):Int)) (n:Int)):=by
   intro v d hd
   induction v using Option.casesOn with
   | none=>exact wj hd
   | some i=>exact (Int.toNat_of_nonneg (Int.le_max_left 0 _)).symm.trans (wj (jc (v:=some i) hd))
 have k1:=key lo 0 (Nat.zero_le _)
 have k2:=key hi n (Nat.le_refl _)
 simp only [strSliceIndices,h1,if_true]
 refine Eq.trans (congrArg (fun a=>sliceRange a _ 1) k1) (congrArg (fun b=>sliceRange _ b 1) k2)
theorem sr {α:Type} (l:List α):∀ (n a:Nat),a + n≤l.length→((List.range n).map fun k=>a + k).filterMap (l[·]?) = (l.drop a).take n
 | 0,_,_=>by simp
 | n + 1,a,h=>by
   have hlt:a + n < l.length:=by lia
   rw [List.range_succ,List.map_append,List.filterMap_append,sr l n a (by lia),List.take_add_one,List.getElem?_drop]
   simp [List.getElem?_eq_getElem hlt]
theorem ai3 (lo hi:Option Int) (n:Nat):picks n lo hi none = (List.range (y7 hi n n - y7 lo 0 n)).map fun k=>y7 lo 0 n + k:=by
 show strSliceIndices lo hi 1 n = _
 rw [bg5]
 by_cases h:y7 lo 0 n≤y7 hi n n
 · exact strSliceIndices_plain h (jc (Nat.le_refl _))
 · rw [Nat.sub_eq_zero_of_le (Nat.le_of_lt (Nat.lt_of_not_le h))]
   have h3:¬ ((y7 lo 0 n:Int) < y7 hi n n):=fun h2=>h (Nat.le_of_lt (Int.ofNat_lt.mp h2))
   have e1:=wj (jc (v:=lo) (d:=0) (n:=n) (Nat.zero_le _))
   have e2:=wj (jc (v:=hi) (d:=n) (n:=n) (Nat.le_refl _))
   simp only [strSliceIndices,sliceRange,show ((1:Int) > 0) = True from by simp,if_true]
   rw [← e1,← e2,if_neg h3]
   rfl
theorem xe {α:Type} (l:List α) (lo hi:Option Int):(picks l.length lo hi none).filterMap (l[·]?) = (l.drop (y7 lo 0 l.length)).take (y7 hi l.length l.length - y7 lo 0 l.length):=by
 rw [ai3]
 have h2:=jc (v:=hi) (d:=l.length) (n:=l.length) (Nat.le_refl _)
 by_cases h:y7 lo 0 l.length≤y7 hi l.length l.length
 · exact sr l _ _ (by lia)
 · rw [show y7 hi l.length l.length - y7 lo 0 l.length = 0 from by lia];simp
theorem vq {l r:List Nat} {lo hi:Option Int} (h:l.length≤lim) (hr:(l.drop (y7 lo 0 l.length)).take (y7 hi l.length l.length - y7 lo 0 l.length) = r):y0 (.str (sOf l)) lo hi none = some (.str (sOf r)):=by
 have e0:(picks (sOf l).length lo hi none).filterMap ((sOf l).cps[·]?) = r:=by
   rw [j5,← hr,← xe]
   simp [sOf]
 have e:jq (sOf l) lo hi none = sOf r:=by
   unfold jq
   rw [e0]
   split
   · rename_i hc
     simp only [Option.getD_none,beq_self_eq_true,Bool.true_and,beq_iff_eq] at hc
     rw [j5,ai3,List.length_map,List.length_range] at hc
     have h2:=jc (v:=hi) (d:=l.length) (n:=l.length) (Nat.le_refl _)
     have ha:l.length≠0→y7 lo 0 l.length = 0:=by lia
     by_cases h0:l.length = 0
     · have:l = []:=List.length_eq_zero_iff.mp h0
       subst this
       rw [← hr];simp
     · rw [← hr,ha h0,List.drop_zero,List.take_of_length_le (by have:=ha h0;lia)]
   · rfl
 have hl:r.length≤lim:=by rw [← hr,List.length_take,List.length_drop];exact Nat.le_trans (Nat.min_le_right _ _) (Nat.le_trans (Nat.sub_le _ _) h)
 unfold y0
 rw [if_neg (by simp)]
 show (if (jq (sOf l) lo hi none).length≤lim then some (D.str (jq (sOf l) lo hi none)) else none) = _
 rw [e,j5,if_pos hl]
theorem tu {l r:List D} {lo hi:Option Int} (hr:(l.drop (y7 lo 0 l.length)).take (y7 hi l.length l.length - y7 lo 0 l.length) = r):y0 (.lst l) lo hi none = some (.lst r):=by
 unfold y0
 rw [if_neg (by simp)]
 show some (D.lst ((picks l.length lo hi none).filterMap (l[·]?))) = _
 rw [xe,hr]
theorem vp {α:Type}:∀ l:List α,((List.range l.length).map fun k=>l.length - 1 - k).filterMap (l[·]?) = l.reverse
 | []=>rfl
 | a::r=>by
   have e:(List.range r.length).map (fun k=>r.length + 1 - 1 - k) = ((List.range r.length).map fun k=>r.length - 1 - k).map (· + 1):=by
     rw [List.map_map]
     exact List.map_congr_left fun k hk=>by have:=List.mem_range.mp hk;show _ = r.length - 1 - k + 1;lia
   rw [List.length_cons,List.range_succ,List.map_append,e,List.filterMap_append,List.filterMap_map,List.reverse_cons,← vp r]
   refine congrArg (_++·) ?_
   show (match (a::r)[r.length + 1 - 1 - r.length]? with | none=>[] | some b=>[b]) = [a]
   rw [Nat.add_sub_cancel,Nat.sub_self];rfl
theorem yc {l:List Nat} (h:l.length≤lim):y0 (.str (sOf l)) none none (some (-1)) = some (.str (sOf l.reverse)):=by
 have e:jq (sOf l) none none (some (-1)) = sOf l.reverse:=by
   unfold jq
   rw [if_neg (by simp)]
   apply Str.ext'
   apply Array.toList_inj.mp
   show (picks (sOf l).length none none (some (-1))).filterMap ((sOf l).cps[·]?) = _
   unfold picks
   rw [show (some (-1:Int)).getD 1 = -1 from rfl,PyProof.Rows.picked_rev,j5]
   have:=vp l
   simpa [sOf] using this
 unfold y0
 rw [if_neg (by simp)]
 show (if (jq (sOf l) none none (some (-1))).length≤lim then some (D.str (jq (sOf l) none none (some (-1)))) else none) = _
 rw [e,j5,if_pos (by rw [List.length_reverse];exact h)]
theorem bm0 {a b:List Nat} (h:sOf a = sOf b):a = b:=by
 have:=congrArg (fun s:Str=>s.cps.toList) h
 simpa [sOf] using this
theorem mz (a b:List Nat):(sOf a==sOf b) = (a==b):=by
 rw [Bool.eq_iff_iff,beq_iff_eq,beq_iff_eq]
 exact ⟨bm0,fun h=>by rw [h]⟩
theorem lg {a b:Str}:jo .Eq (.str a) (.str b) = some (a==b):=rfl
theorem ut {a b:Str}:jo .NotEq (.str a) (.str b) = some (!(a==b)):=rfl
theorem aj5 {a b:List Nat} (h:a.length + b.length≤lim):ac6 .Add (.str (sOf a)) (.str (sOf b)) = some (.str (sOf (a++b))):=by
 show (if (sOf a++sOf b).length≤lim then some (D.str (sOf a++sOf b)) else none) = _
 rw [jr,if_pos (by rw [j5,List.length_append];exact h)]
theorem gn {T:Tbl} {mu:List Str} {N:Nat} {sc:Scope} {body:List Stmt} {bnd:List D→Option (List (Str × D))} {ds:List D} {l:List (Str × D)} {g g':Sg} {d:D} (ns:List Str) (hb:bnd ds = some l) (hns:l.map (·.1) = ns) (hn:(decide ns.Nodup&&ns.all fun x=>c9 (fun x=>sc.names.lookup x) x) = true)
   (h:f7 T mu N (fun x=>sc.names.lookup x) body (m0 l) g = some (.ret d g')):jj T mu N sc body bnd ds g = some (d,g'):=by
 unfold jj
 subst hns
 rw [hb]
 have hn':(decide (l.map (·.1)).Nodup&&l.all fun p=>c9 (fun x=>sc.names.lookup x) p.1) = true:=by
   rw [List.all_map] at hn
   exact hn
 simp only [hn',if_true,h]
section
variable {T:Tbl} {mu:List Str} {n:Nat} {kd:Kd} {ro:Ro} {fo fo1:Fo} {g g1 g2 g3 g4:Sg}
noncomputable def cu8 (x:Option (List D)) (F:List D→Option Fl):Option Fl:=match x with
 | some ds=>F ds
 | none=>none
noncomputable def unK (x:Option (D × Sg)) (F:List D→Sg→Option Fl):Option Fl:=match x with
 | some (d,g)=>cu8 (unL d) fun ds=>F ds g
 | _=>none
theorem ci9 {x:Option (D × Sg)} {d:D} {ds:List D} {F:List D→Sg→Option Fl} (h:x = some (d,g)) (hu:unL d = some ds):unK x F = F ds g:=by
 rw [h]
 show cu8 (unL d) _ = _
 rw [hu];rfl
theorem gj {ts:List Expr} {k:Nat} {p sp:Pos} {e:Expr} {d:D} {ds:List D} (hne:isTuple e = false) (h:pev T n kd (d6 fo) e g = some (d,g1)) (hu:unL d = some ds) (hp:dw kd ts ds fo = some fo1):be T mu (n + 1) kd (.Assign [.Tuple ts k p] e sp) fo g = some (.next fo1 g1):=by
 have key:be T mu (n + 1) kd (.Assign [.Tuple ts k p] e sp) fo g = unK (pev T n kd (d6 fo) e g) fun ds g=>(dw kd ts ds fo).map fun fo=>Fl.next fo g:=by
   induction e using Expr.casesOn<;>first | rfl | exact Bool.noConfusion (show true = false from hne)
 rw [key]
 exact (ci9 h hu).trans (ah hp)
theorem kh {ts es:List Expr} {k k2:Nat} {p p2 sp:Pos}:be T mu (n + 1) kd (.Assign [.Tuple ts k p] (.Tuple es k2 p2) sp) fo g = cv0 T mu n kd fo g ts es k2 p2 (ku kd ts es) (z4 mu ts es):=rfl
theorem ax1 {ts es:List Expr} {k k2:Nat} {p p2 sp:Pos} {ds:List D} (h1:ku kd ts es = some none) (h2:z4 mu ts es = none) (h:pev T n kd (d6 fo) (.Tuple es k2 p2) g = some (.tup ds,g1)) (hp:dw kd ts ds fo = some fo1):be T mu (n + 1) kd (.Assign [.Tuple ts k p] (.Tuple es k2 p2) sp) fo g = some (.next fo1 g1):=by
 rw [kh,h1,h2]
 show bs4 (pev T n kd (d6 fo) (.Tuple es k2 p2) g) _ = _
 rw [h]
 exact ah hp
theorem ay2 {ts es:List Expr} {k k2:Nat} {p p2 sp:Pos} {ds:List D} {names:List Str} (h1:ku kd ts es = some (some names)) (h0:z4 mu ts es = none) (h:pev T n kd (d6 fo) (.Tuple es k2 p2) g = some (.tup ds,g1)) (h2:(n9 ts==some names&&decide names.Nodup&&names.all (c9 kd)) = true) (h3:names.length = ds.length) (h4:j9 (names.zip ds) fo = fo1):be T mu (n + 1) kd (.Assign [.Tuple ts k p] (.Tuple es k2 p2) sp) fo g = some (.next fo1 g1):=by
 rw [kh,h1,h0]
 show bs4 (pev T n kd (d6 fo) (.Tuple es k2 p2) g) _ = _
 rw [h]
 show (if (n9 ts==some names&&decide names.Nodup&&names.all (c9 kd)&&names.length==ds.length) = true then some (Fl.next (j9 (names.zip ds) fo) g1) else none) = _
 rw [h2,h3,h4,beq_self_eq_true];rfl
theorem bf0 {ts es e0 e2:List Expr} {k k2:Nat} {p p2 sp:Pos} {names n2:List Str} {z:Str} {d0 d2:List D} (h1:ku kd ts es = some (some names)) (h2:z4 mu ts es = some ([],[],z,e0,n2,e2))
   (hc:(names==z::n2&&decide names.Nodup&&names.all (c9 kd)&&es.all f5&&n2.length==e2.length&&decide (es.length < 20)) = true)
   (hb:evs (pev T n kd (d6 fo)) e0 g = some (d0,g1)) (hd:evs (pev T n kd (d6 fo)) e2 g1 = some (d2,g2)) (hl:d0.length≤lim) (hf:o9 z (.own d0) (j9 (n2.reverse.zip d2.reverse) fo) = fo1) :
   be T mu (n + 1) kd (.Assign [.Tuple ts k p] (.Tuple es k2 p2) sp) fo g = some (.next fo1 g2):=by
 rw [kh,h1,h2]
 show (if (!(names==z::n2&&decide names.Nodup&&names.all (c9 kd)&&es.all f5&&n2.length==e2.length&&decide (es.length < 20))) = true then none else
   cn (evs (pev T n kd (d6 fo)) e0 g) fun d0 g=>cn (evs (pev T n kd (d6 fo)) e2 g) fun d2 g =>
     if d0.length≤lim then some (Fl.next (o9 z (.own d0) (j9 (n2.reverse.zip d2.reverse) fo)) g) else none) = _
 rw [← hf]
 exact (ft (by rw [hc];rfl)).trans ((fe hb).trans ((fe hd).trans (if_pos hl)))
theorem bx5 {ts es e1 e0 e2:List Expr} {k k2:Nat} {p p2 sp:Pos} {n1 n2:List Str} {z:Str} {d1 d0 d2:List D} (h1:ku kd ts es = some none) (h2:z4 mu ts es = some (n1,e1,z,e0,n2,e2))
   (hc:(c9 kd z&&n1.all (c9 kd)&&n2.all (c9 kd)&&es.all f5&&n2.length==e2.length&&decide (es.length < 20)) = true)
   (ha:evs (pev T n kd (d6 fo)) e1 g = some (d1,g1)) (hb:evs (pev T n kd (d6 fo)) e0 g1 = some (d0,g2)) (hd:evs (pev T n kd (d6 fo)) e2 g2 = some (d2,g3)) (hl:d0.length≤lim) (hf:j9 (n2.zip d2) (o9 z (.own d0) (j9 (n1.zip d1) fo)) = fo1) :
   be T mu (n + 1) kd (.Assign [.Tuple ts k p] (.Tuple es k2 p2) sp) fo g = some (.next fo1 g3):=by
 rw [kh,h1,h2]
 show (if (!(c9 kd z&&n1.all (c9 kd)&&n2.all (c9 kd)&&es.all f5&&n2.length==e2.length&&decide (es.length < 20))) = true then none else
   cn (evs (pev T n kd (d6 fo)) e1 g) fun d1 g=>cn (evs (pev T n kd (d6 fo)) e0 g) fun d0 g=>cn (evs (pev T n kd (d6 fo)) e2 g) fun d2 g =>
     if d0.length≤lim then some (Fl.next (j9 (n2.zip d2) (o9 z (.own d0) (j9 (n1.zip d1) fo))) g) else none) = _
 rw [← hf]
 exact (ft (by rw [hc];rfl)).trans ((fe ha).trans ((fe hb).trans ((fe hd).trans (if_pos hl))))
theorem nh {o i e:Expr} {p sp:Pos} {k:Nat} {d j d0:D} {S:ae} (hT:T.mt "__setitem__" = some S) (h:pev T n kd (d6 fo) e g = some (d,g1)) (h1:pev T n kd (d6 fo) o g1 = some (.hdr k,g2)) (h2:pev T n kd (d6 fo) i g2 = some (j,g3)) (h3:S [.hdr k,j,d] g3 = some (d0,g4)):be T mu (n + 1) kd (.Assign [.Subscript o i p] e sp) fo g = some (.next fo g4):=by
 show (dK (pev T n kd (d6 fo) e g) fun d g=>cm6 (pev T n kd (d6 fo) o g) fun k g=>dK (pev T n kd (d6 fo) i g) fun j g=>ck6 (T.mt "__setitem__") fun f=>dK (f [.hdr k,j,d] g) fun J g=>some (Fl.next fo g)) = _
 rw [av2 h,h1]
 show (dK (pev T n kd (d6 fo) i g2) fun j g=>ck6 (T.mt "__setitem__") fun f=>dK (f [.hdr k,j,d] g) fun J g=>some (Fl.next fo g)) = _
 rw [av2 h2,hT]
 exact av2 h3
theorem bh1 {p q:Pos} {S:ae} {d:D} (hkd:kd "Headers" = some .globalImplicit) (hT:T.new = some S) (hS:S [] g = some (d,g1)):pev T (n + 1) kd ro (.Call (.Name "Headers" q) [] [] p) g = some (d,g1):=by
 show (if (kd ("Headers":Str) != some .globalImplicit||("Headers":Str)==("__debug__":Str)) = true then none else fnC T.new [] g) = _
 refine (ft (by rw [hkd];rfl)).trans ?_
 rw [hT];exact hS
end
theorem u9 {n:Nat} (h:Nat.ble n lim = true):n≤lim:=Nat.le_of_ble_eq_true h
theorem bh5 {a b:Nat}:jo .GtE (.int (a:Nat)) (.int (b:Nat)) = some (decide (b≤a)):=by
 show some (decide ((b:Int)≤(a:Int))) = _
 congr 1
 rw [Bool.eq_iff_iff,decide_eq_true_eq,decide_eq_true_eq]
 lia
theorem lb {a b:Nat}:ac6 .Add (.int (a:Nat)) (.int (b:Nat)) = some (.int ((a + b:Nat):Int)):=rfl
theorem gq {a:Nat} (h:a < 2 ^ 62):big (a:Int) = true:=by unfold big;simpa using h
theorem bf7 {tr:Expr→Sg→Option (Bool × Sg)} {g:Sg}:ay0 tr [] g = some (true,g):=rfl
theorem bn5 {tr:Expr→Sg→Option (Bool × Sg)} {g g1:Sg} {e:Expr} {r:List Expr} {R:Option (Bool × Sg)} (h:tr e g = some (true,g1)) (hr:ay0 tr r g1 = R):ay0 tr (e::r) g = R:=by
 unfold ay0;simp only [h,c7,if_true];exact hr
theorem bt2 {tr:Expr→Sg→Option (Bool × Sg)} {g g1:Sg} {e:Expr} {r:List Expr} (h:tr e g = some (false,g1)):ay0 tr (e::r) g = some (false,g1):=by
 unfold ay0;simp only [h,c7,Bool.false_eq_true,if_false]
theorem co5 {a b:Nat} (h:b≤a):jo .GtE (.int (a:Nat)) (.int (b:Nat)) = some true:=by rw [bh5,decide_eq_true h]
theorem cv2 {a b:Nat} (h:¬ b≤a):jo .GtE (.int (a:Nat)) (.int (b:Nat)) = some false:=by rw [bh5,decide_eq_false h]
theorem th {tr:Expr→Sg→Option (Bool × Sg)} {g g1:Sg} {e:Expr} {r:List Expr} {R:Option (Bool × Sg)} (h:tr e g = some (false,g1)) (hr:bg8 tr r g1 = R):bg8 tr (e::r) g = R:=by
 unfold bg8;simp only [h,c7,Bool.false_eq_true,if_false];exact hr
theorem zg {tr:Expr→Sg→Option (Bool × Sg)} {g:Sg}:bg8 tr [] g = some (false,g):=rfl
end Mine
namespace Mine
open Builtin Builtin.Str StrLaws
noncomputable def Tz:Tbl:=hT []
theorem kl {o n:List Nat}:∀ (t:List Nat) (k:Nat),(bz o n t k).length≤t.length * max 1 n.length
 | [],k=>by cases k<;>exact Nat.zero_le _
 | c::r,k + 1=>by
   have:=kl (o:=o) (n:=n) r k
   rw [List.length_cons,Nat.succ_mul]
   exact Nat.le_trans this (Nat.le_add_right _ _)
 | c::r,0=>by
   rw [List.length_cons,Nat.succ_mul]
   unfold bz
   split
   · have:=kl (o:=o) (n:=n) r (o.length - 1)
     rw [List.length_append];lia
   · have:=kl (o:=o) (n:=n) r 0
     rw [List.length_cons];lia
theorem bd1 {o n:List Nat} (ho:1≤o.length) (hn:n.length≤o.length):∀ (t:List Nat) (k:Nat),(bz o n t k).length + k≤t.length∨(bz o n t k).length = 0:=by
 intro t
 induction t with
 | nil=>intro k;exact .inr rfl
 | cons c r ih =>
   intro k
   induction k using Nat.casesOn with
   | succ k =>
     show (bz o n r k).length + (k + 1)≤_∨(bz o n r k).length = 0
     rw [List.length_cons]
     rcases ih k with h | h
     · exact .inl (by lia)
     · exact .inr h
   | zero =>
     left
     unfold bz
     rw [List.length_cons]
     split
     · rename_i h
       have hp:=congrArg List.length (ja.mp h)
       rw [List.length_take,List.length_cons] at hp
       rw [List.length_append]
       rcases ih (o.length - 1) with h | h<;>lia
     · rw [List.length_cons]
       rcases ih 0 with h | h<;>lia
theorem kj {o n:List Nat} (ho:1≤o.length) (hn:n.length≤o.length) {t:List Nat}:(bz o n t 0).length≤t.length:=by
 rcases bd1 ho hn t 0 with h | h<;>lia
theorem qk:∀ (l:List Str),bv (l.map .str) = some l
 | []=>rfl
 | c::r=>by show (bv (r.map .str)).map _ = _;rw [qk r];rfl
theorem be9 {T:Tbl} {g:Sg} {t o:List Nat} (ho:1≤o.length) (ht:t.length≤1000):ez T "split" (.str (sOf t)) [.str (sOf o)] g = some (.lst ((Txt.split (sOf t) (sOf o)).map .str),g):=by
 have h1:=split_weight (sOf t) (sOf o) (by rw [j5];exact ho)
 rw [j5] at h1
 show (if ((sOf o).length==0) = true then none else if (Txt.split (sOf t) (sOf o)).length≤lim∧(Txt.split (sOf t) (sOf o)).all j7 = true then some (D.lst ((Txt.split (sOf t) (sOf o)).map .str),g) else none) = _
 rw [if_neg (by rw [j5];simp;intro h;subst h;simp at ho),if_pos]
 refine ⟨by unfold lim;lia,?_⟩
 rw [List.all_eq_true]
 intro p hp
 have:=part_short hp
 rw [j5] at this
 unfold j7 lim
 simp
 lia
theorem au1 {T:Tbl} {g:Sg} {t o n:List Nat} (ho:1≤o.length) (hk:o.all (fun c=>decide (c < 256)) = true) (hn:n.length≤1000) (ht:t.length≤1000) (hl:(bz o n t 0).length≤1000):ez T "join" (.str (sOf n)) [.lst ((Txt.split (sOf t) (sOf o)).map .str)] g = some (.str (sOf (bz o n t 0)),g):=by
 have hw:=split_weight (sOf t) (sOf o) (by rw [j5];exact ho)
 rw [j5] at hw
 have hj:JoinOk (sOf n) (Txt.split (sOf t) (sOf o)) = true:=by
   unfold JoinOk
   rw [StrLaws.joinTotal,j5]
   unfold tooLong sizeLine
   have:(Txt.split (sOf t) (sOf o)).length * n.length≤1001 * 1000:=Nat.mul_le_mul (by lia) (by lia)
   simp only [Bool.not_eq_true',decide_eq_false_iff_not]
   lia
 show ak7 (sOf n) (bv ((Txt.split (sOf t) (sOf o)).map .str)) g = _
 rw [qk]
 have h3:j7 (sOf (bz o n t 0)) = true:=by
   unfold j7 lim
   rw [j5]
   simp
   lia
 show (if (JoinOk (sOf n) (Txt.split (sOf t) (sOf o))&&j7 (Txt.join (sOf n) (Txt.split (sOf t) (sOf o)))) = true then _ else _) = _
 rw [hj,qz ho hk,h3];rfl
theorem bu3 {a:D} {r:List D}:z7 (.tup (a::r)) (.int 0) = some a:=by
 have:bc (a::r).length 0 = some 0:=by unfold bc;simp
 show (bc (a::r).length 0).bind _ = _
 rw [this];rfl
theorem ct3 {a b:D} {r:List D}:z7 (.tup (a::b::r)) (.int 1) = some b:=by
 have:bc (a::b::r).length 1 = some 1:=by unfold bc;simp;lia
 show (bc (a::b::r).length 1).bind _ = _
 rw [this];rfl
theorem cb8 {a b:D} {r:List D}:y0 (.tup (a::b::r)) (some 2) none none = some (.tup r):=by
 unfold y0
 rw [if_neg (by simp)]
 show (if (1:Int)≤2∧(2:Int)≤((a::b::r).length:Nat) then some (D.tup ((a::b::r).drop 2)) else none) = _
 rw [if_pos (by simp;lia)]
 rfl
noncomputable def n6:List (List Nat × List Nat)→List Nat→List Nat
 | [],t=>t
 | p::r,t=>n6 r (bz p.1 p.2 t 0)
noncomputable def r9:List (List Nat × List Nat)→List D
 | []=>[]
 | p::r=>.str (sOf p.1)::.str (sOf p.2)::r9 r
noncomputable def rj (p:List Nat × List Nat):Prop:=1≤p.1.length∧p.1.all (fun c=>decide (c < 256)) = true∧p.2.length≤1000
noncomputable def ye:List (List Nat × List Nat)→List Nat→Prop
 | [],t=>t.length≤1000
 | p::r,t=>rj p∧t.length≤1000∧ye r (bz p.1 p.2 t 0)
theorem ye.len:∀ {ps:List (List Nat × List Nat)} {t:List Nat},ye ps t→t.length≤1000
 | [],_,h=>h
 | _::_,_,h=>h.2.1
theorem wq:∀ ps,(r9 ps).length = 2 * ps.length
 | []=>rfl
 | p::r=>by show (r9 r).length + 1 + 1 = _;rw [wq r,List.length_cons];lia
noncomputable def ir:ae:=jj Tz [] 56 (aa9 "replace") (o0 "replace") (yd "text" "pairs")
noncomputable abbrev am1 (t:List Nat) (ps:List (List Nat × List Nat)):Fo:=[("text",.val (.str (sOf t))),("pairs",.val (.tup (r9 ps)))]
theorem jd:∀ {ps:List (List Nat × List Nat)} {t:List Nat},(∀ p∈ps,rj p∧p.2.length≤p.1.length)→t.length≤1000→ye ps t
 | [],t,_,h=>h
 | p::r,t,hp,h=>⟨(hp p (.head _)).1,h,jd (fun q hq=>hp q (.tail _ hq)) (Nat.le_trans (kj (hp p (.head _)).1.1 (hp p (.head _)).2) h)⟩
theorem af8 {m:Nat}:∀ {ps:List (List Nat × List Nat)} {t:List Nat},(∀ p∈ps,rj p∧max 1 p.2.length≤3)→t.length≤m→m * 3 ^ ps.length≤1000→ye ps t
 | [],t,_,h,h2=>Nat.le_trans h (by simpa using h2)
 | p::r,t,hp,h,h2=>by
   rw [List.length_cons,Nat.pow_succ,Nat.mul_comm (3 ^ r.length) 3,← Nat.mul_assoc] at h2
   have h3:t.length≤1000:=by
     have:=Nat.le_mul_of_pos_right (m * 3) (Nat.pow_pos (n:=r.length) (show 0 < 3 by decide))
     lia
   refine ⟨(hp p (.head _)).1,h3,af8 (m:=m * 3) (fun q hq=>hp q (.tail _ hq)) ?_ h2⟩
   have h4:=kl (o:=p.1) (n:=p.2) t 0
   have h5:t.length * max 1 p.2.length≤m * 3:=Nat.mul_le_mul h (hp p (.head _)).2
   lia
theorem ad0 {test:Fo→Sg→Option (Bool × Sg)} {body:Fo→Sg→Option Fl} {g:Sg}
   (h1:∀ t p ps,test (am1 t (p::ps)) g = some (true,g)) (h2:∀ t,test (am1 t []) g = some (false,g))
   (hb:∀ t p ps,rj p→t.length≤1000→(bz p.1 p.2 t 0).length≤1000→body (am1 t (p::ps)) g = some (.next (am1 (bz p.1 p.2 t 0) ps) g)) :
   ∀ (ps:List (List Nat × List Nat)) (t:List Nat) (k:Nat),ps.length < k→ye ps t→bx test body k (am1 t ps) g = some (.next (am1 (n6 ps t) []) g)
 | _,_,0,h,_=>absurd h (by lia)
 | [],t,k + 1,_,_=>by
   unfold bx
   rw [h2]
   rfl
 | p::r,t,k + 1,hk,hp=>by
   unfold bx
   rw [h1]
   simp only []
   rw [hb t p r hp.1 hp.2.1 hp.2.2.len]
   simp only []
   rw [ad0 h1 h2 hb r _ k (by simp at hk;lia) hp.2.2]
   rfl
theorem mm {t:List Nat} {ps:List (List Nat × List Nat)} {g:Sg} (hp:ye ps t) (hn:ps.length < 1000):ir (.str (sOf t)::r9 ps) g = some (.str (sOf (n6 ps t)),g):=by
 have key:f7 Tz [] 56 (nq "replace") (o0 "replace") (m0 [("text",.str (sOf t)),("pairs",.tup (r9 ps))]) g = some (.ret (.str (sOf (n6 ps t))) g):=by
   conv=>lhs;arg 5;whnf
   refine d7 (ac7 (ad0 ?_ ?_ ?_ ps t 100000 (by lia) hp)) (dg (v5 (a7 rfl rfl)))
   · intro t p ps
     exact ay5 (a7 rfl rfl) rfl
   · intro t
     exact ay5 (a7 rfl rfl) rfl
   · intro t p ps hp ht hl
     refine d7 (r8 rfl (m8 rfl (d8 (a7 rfl rfl) j4 ct3) (b0 rfl (m8 rfl (a7 rfl rfl) (b0 rfl (d8 (a7 rfl rfl) j4 bu3) b9) (be9 hp.1 ht)) b9) (au1 hp.1 hp.2.1 hp.2.2 ht hl))) ?_
     exact d7 (r8 rfl (w4 (a7 rfl rfl) (r7 j4 rfl) l8 l8 cb8)) t8
 refine gn ["text","pairs"] (l:=[("text",.str (sOf t)),("pairs",.tup (r9 ps))]) ?_ rfl (by decide +kernel) key
 show (if (r9 ps).length≤lim then some [(("text":Str),D.str (sOf t)),("pairs",D.tup (r9 ps))] else none) = _
 rw [if_pos (by rw [wq];unfold lim;lia)]
end Mine
namespace Mine
open Builtin Builtin.Str StrLaws
theorem cu9 {a b:Nat} (hb:b≤100000) (ha:a≤100000):m5 a b 1 = some ((List.range (b - a)).map fun (k:Nat)=>D.int ((a + k:Nat):Int)):=by
 have e:nm a b 1 = (List.range (b - a)).map fun (k:Nat)=>D.int ((a + k:Nat):Int):=by
   unfold nm
   have h1:(if (0:Int) < 1 then ((b:Int) - a + 1 - 1) / 1 else ((a:Int) - b - 1 - 1) / (-1)).toNat = b - a:=by
     rw [if_pos (by decide),Int.ediv_one];lia
   rw [h1]
   refine List.map_congr_left fun k J=>?_
   congr 1
   lia
 have hl:(nm a b 1).length = b - a:=by rw [e,List.length_map,List.length_range]
 unfold m5
 rw [if_pos,e]
 have h2:Builtin.divisionGoesByPylong ((b:Int) - a) 1 = false:=by
   unfold Builtin.divisionGoesByPylong
   simp only [show ((if ((1:Int)==0) = true then 0 else (1:Int).natAbs.log2 / 30 + 1):Nat) = 1 from by decide]
   simp
 have h3:Builtin.Range.rangeSize a b 1 = ((b - a:Nat):Int):=by
   unfold Builtin.Range.rangeSize
   rw [if_pos (by decide),Int.ediv_one]
   split<;>lia
 rw [hl,h2,h3,small_one (by lia) (by lia) (by lia) (by lia)]
 simp [lim]
 lia
theorem bm3 {b:Nat} (hb:b≤100000):m5 0 (b:Nat) 1 = some ((List.range' 0 b).map fun (k:Nat)=>D.int (k:Nat)):=by
 have h:=cu9 (a:=0) (b:=b) hb (by lia)
 simp only [Nat.sub_zero,Nat.zero_add] at h
 rw [List.range_eq_range'] at h
 exact h
theorem v7 {T:Tbl} {l:List Nat} {g:Sg}:ce T "len" [.str (sOf l)] g = some (.int (l.length:Nat),g):=by
 show some (D.int ((sOf l).length:Nat),g) = _
 rw [j5]
theorem mi {T:Tbl} {l:List D} {g:Sg}:ce T "len" [.lst l] g = some (.int (l.length:Nat),g):=rfl
theorem ai1 {n i:Nat} (h:i < n):bc n (i:Int) = some i:=by
 unfold bc
 rw [if_pos (by lia),if_pos (by lia)]
 simp
theorem ad9 {l:List Nat} {i c:Nat} (h:l[i]? = some c):z7 (.str (sOf l)) (.int (i:Nat)) = some (.str (sOf [c])):=by
 have hi:i < l.length:=(List.getElem?_eq_some_iff.mp h).1
 show (bc (sOf l).length (i:Int)).bind _ = _
 rw [j5,ai1 hi]
 show ((sOf l).cps[i]?).map _ = _
 have:(sOf l).cps[i]? = some c:=by simpa [sOf] using h
 rw [this]
 rfl
theorem ou {l:List D} {i:Nat} {d:D} (h:l[i]? = some d):z7 (.lst l) (.int (i:Nat)) = some d:=by
 have hi:i < l.length:=(List.getElem?_eq_some_iff.mp h).1
 show (bc l.length (i:Int)).bind _ = _
 rw [ai1 hi]
 exact h
theorem ae2:∀ {ps:List (List Nat × List Nat)} {i:Nat} {p:List Nat × List Nat},ps[i]? = some p→(r9 ps)[2 * i]? = some (.str (sOf p.1))∧(r9 ps)[2 * i + 1]? = some (.str (sOf p.2))
 | [],i,p,h=>by induction i using Nat.casesOn<;>injection h
 | q::r,0,p,h=>by
   injection h with h;subst h
   exact ⟨rfl,rfl⟩
 | q::r,i + 1,p,h=>by
   have:=ae2 (ps:=r) (i:=i) h
   rw [show 2 * (i + 1) = 2 * i + 1 + 1 from by lia]
   exact this
theorem xm {t:List Nat} {k w:Nat} (ht:t.length≤lim) (hk:k≤t.length):y0 (.str (sOf t)) (some (k:Int)) (some ((k + w:Nat):Int)) none = some (.str (sOf ((t.drop k).take w))):=by
 refine vq ht ?_
 have e1:y7 (some (k:Int)) 0 t.length = k:=ie hk
 have e2:y7 (some ((k + w:Nat):Int)) t.length t.length = min (k + w) t.length:=pj
 rw [e1,e2]
 by_cases h:k + w≤t.length
 · rw [Nat.min_eq_left h,Nat.add_sub_cancel_left]
 · rw [Nat.min_eq_right (by lia),List.take_of_length_le (by simp),List.take_of_length_le (by simp;lia)]
theorem aq0 {o t:List Nat}:(t.take o.length==o) = sy o t:=by
 rw [Bool.eq_iff_iff,beq_iff_eq,ja]
noncomputable def be3:ae:=jj Tz [] 56 (aa9 "_law_put") (o0 "_law_put") (f9 ["word","row"])
noncomputable abbrev ay4 (t:List Nat) (ps:List (List Nat × List Nat)) (a:Nat) (acc:List Nat) (f:Nat) (tk:Fo):Fo :=
 ("word",.val (.str (sOf t)))::("row",.val (.lst (r9 ps)))::("at",.val (.int (a:Nat)))::("told",.val (.str (sOf acc)))::("free",.val (.int (f:Nat)))::tk
noncomputable def zp (p:List Nat × List Nat):Prop:=rj p∧p.2.length≤p.1.length
noncomputable def kq (o n:List Nat) (t:List Nat) (k:Nat) (acc:List Nat) (f:Nat):List Nat × Nat :=
 if f≤k then (if sy o (t.drop k) then (acc++n,k + o.length) else (acc++(t.drop k).take 1,f)) else (acc,f)
theorem xv {body:Fo→Sg→Option Fl} {kd:Kd} {p:Pos} {g:Sg} {t o n:List Nat} {ps:List (List Nat × List Nat)} {a:Nat} (hk:c9 kd "k" = true) (ho:1≤o.length) (hno:n.length≤o.length)
   (hb:∀ k acc f,k < t.length→acc.length≤t.length→body (ay4 t ps a acc f [("k",.val (.int (k:Nat)))]) g = some (.next (ay4 t ps a (kq o n t k acc f).1 (kq o n t k acc f).2 [("k",.val (.int (k:Nat)))]) g)) :
   ∀ (m k:Nat) (acc:List Nat) (f:Nat) (tk:Fo),k + m = t.length→db ["k"] tk→acc.length≤t.length→acc++bz o n (t.drop k) (f - k) = bz o n t 0 →
     ∃ f' tk',db ["k"] tk'∧wl body kd (.Name ("k":Str) p) ((List.range' k m).map fun (i:Nat)=>D.int (i:Nat)) (ay4 t ps a acc f tk) g = some (.next (ay4 t ps a (bz o n t 0) f' tk') g)
 | 0,k,acc,f,tk,hm,ht,_,hi=>by
   refine ⟨f,tk,ht,?_⟩
   rw [List.drop_of_length_le (by lia)] at hi
   simp only [bz,List.append_nil] at hi
   rw [← hi]
   rfl
 | m + 1,k,acc,f,tk,hm,ht,hl,hi=>by
   have hkl:k < t.length:=by lia
   have hd:t.drop k = t[k]::t.drop (k + 1):=List.drop_eq_getElem_cons hkl
   have hinv:(kq o n t k acc f).1++bz o n (t.drop (k + 1)) ((kq o n t k acc f).2 - (k + 1)) = bz o n t 0:=by
     rw [← hi]
     unfold kq
     split
     · rename_i hf
       rw [show f - k = 0 from by lia]
       split
       · rename_i hp
         rw [hd] at hp ⊢
         rw [show bz o n (t[k]::t.drop (k + 1)) 0 = n++bz o n (t.drop (k + 1)) (o.length - 1) from by conv=>lhs;unfold bz;rw [hp]]
         rw [show k + o.length - (k + 1) = o.length - 1 from by lia,List.append_assoc]
       · rename_i hp
         rw [hd] at hp ⊢
         rw [show bz o n (t[k]::t.drop (k + 1)) 0 = t[k]::bz o n (t.drop (k + 1)) 0 from by conv=>lhs;unfold bz;rw [Bool.eq_false_iff.mpr hp]]
         rw [show f - (k + 1) = 0 from by lia]
         show acc++[t[k]]++_ = _
         rw [List.append_assoc]
         rfl
     · rename_i hf
       obtain ⟨j,hj⟩:∃ j,f - k = j + 1:=⟨f - k - 1,by lia⟩
       rw [hj,show f - (k + 1) = j from by lia,hd]
       rfl
   have hlen:(kq o n t k acc f).1.length≤t.length:=by
     have h1:=congrArg List.length hinv
     have h2:=kj ho hno (t:=t)
     rw [List.length_append] at h1
     lia
   refine ze2a (xv (p:=p) hk ho hno hb m (k + 1) _ _ [("k",.val (.int (k:Nat)))] (by lia) (j3 (bq [])) hlen hinv) fun f' tk' h1 ih=>?_
   refine ⟨f',tk',h1,?_⟩
   rw [← ih,List.range'_succ,List.map_cons]
   conv=>lhs
   have e:j9 [(("k":Str),D.int (k:Nat))] (ay4 t ps a acc f tk) = ay4 t ps a acc f [("k",.val (.int (k:Nat)))]:=by
     show (("word":Str),_)::(("row":Str),_)::(("at":Str),_)::(("told":Str),_)::(("free":Str),_)::o9 ("k":Str) (.val (.int (k:Nat))) tk = _
     obtain ⟨tl',h0,h1⟩:=ht
     have h0:tl' = []:=h0
     rw [h1,h0]
   show (if ([(("k":Str),D.int (k:Nat))]:List (Str × D)).all fun p=>c9 kd p.1 then (match body (j9 [(("k":Str),D.int (k:Nat))] (ay4 t ps a acc f tk)) g with | some (.next fo g)=>wl body kd (.Name "k" p) ((List.range' (k + 1) m).map fun (i:Nat)=>D.int (i:Nat)) fo g | r=>r) else none) = _
   rw [e,hb k acc f hkl hl]
   simp only [List.all_cons,List.all_nil,hk,Bool.and_self,if_true]
noncomputable def bp6:List Stmt:=bo3 ((bo3 (o0 "_law_put")).drop 1)
theorem bb6 {t:List Nat} {ps:List (List Nat × List Nat)} {g:Sg} {q:List Nat × List Nat} {i n:Nat} (i1:z7 (.lst (r9 ps)) (.int ((2 * i:Nat):Int)) = some (.str (sOf q.1))) (i2:z7 (.lst (r9 ps)) (.int ((2 * i + 1:Nat):Int)) = some (.str (sOf q.2))) (hq:zp q) (hq1:q.1.length≤1000) (ht:t.length≤1000)
   (k:Nat) (acc:List Nat) (f:Nat) (hk:k < t.length) (ha:acc.length≤t.length):f7 Tz [] (n + 20) (nq "_law_put") bp6 (ay4 t ps (2 * i) acc f [("k",.val (.int (k:Nat)))]) g = some (.next (ay4 t ps (2 * i) (kq q.1 q.2 t k acc f).1 (kq q.1 q.2 t k acc f).2 [("k",.val (.int (k:Nat)))]) g):=by
 have hn1:=hq.2
 have hn2:=hq1
 conv=>lhs;arg 5;whnf
 by_cases hf:f≤k
 · induction hp:sy q.1 (t.drop k) using Bool.casesOn with
   | true =>
     have e:kq q.1 q.2 t k acc f = (acc++q.2,k + q.1.length):=by unfold kq;rw [if_pos hf,if_pos hp]
     rw [e]
     refine d7 (gu (c:=true) (aq2 (bn5 (r0 (a7 rfl rfl) (a7 rfl rfl) (co5 hf)) (bn5 (r0 (w4 (a7 rfl rfl) (r7 (a7 rfl rfl) (gq (by lia))) (r7 (j8 (a7 rfl rfl) (fg rfl rfl rfl rfl rfl (b0 rfl (d8 (a7 rfl rfl) (a7 rfl rfl) i1) b9) v7) lb) (gq (by lia))) l8 (xm (by unfold lim;lia) (by lia))) (d8 (a7 rfl rfl) (a7 rfl rfl) i1) (by rw [lg,mz,aq0,hp])) bf7))) ?_) t8
     exact d7 (ay2 (names:=["told","free"]) rfl rfl (iq (b0 rfl (j8 (a7 rfl rfl) (d8 (a7 rfl rfl) (j8 (a7 rfl rfl) j4 rfl) i2) (aj5 (by unfold lim;lia))) (b0 rfl (j8 (a7 rfl rfl) (fg rfl rfl rfl rfl rfl (b0 rfl (d8 (a7 rfl rfl) (a7 rfl rfl) i1) b9) v7) lb) b9)) (u9 rfl)) rfl rfl rfl) t8
   | false =>
     have e:kq q.1 q.2 t k acc f = (acc++(t.drop k).take 1,f):=by unfold kq;rw [if_pos hf,hp];rfl
     rw [e]
     have hd:(t.drop k).take 1 = [t[k]]:=by rw [List.drop_eq_getElem_cons hk];rfl
     rw [hd]
     refine d7 (gu (c:=false) (aq2 (bn5 (r0 (a7 rfl rfl) (a7 rfl rfl) (co5 hf)) (bt2 (r0 (w4 (a7 rfl rfl) (r7 (a7 rfl rfl) (gq (by lia))) (r7 (j8 (a7 rfl rfl) (fg rfl rfl rfl rfl rfl (b0 rfl (d8 (a7 rfl rfl) (a7 rfl rfl) i1) b9) v7) lb) (gq (by lia))) l8 (xm (by unfold lim;lia) (by lia))) (d8 (a7 rfl rfl) (a7 rfl rfl) i1) (by rw [lg,mz,aq0,hp]))))) ?_) t8
     refine d7 (gu (c:=true) (r0 (a7 rfl rfl) (a7 rfl rfl) (co5 hf)) ?_) t8
     exact d7 (r8 rfl (j8 (a7 rfl rfl) (d8 (a7 rfl rfl) (a7 rfl rfl) (ad9 (List.getElem?_eq_getElem hk))) (aj5 (by simp;unfold lim;lia)))) t8
 · have e:kq q.1 q.2 t k acc f = (acc,f):=by unfold kq;rw [if_neg hf]
   rw [e]
   refine d7 (gu (c:=false) (aq2 (bt2 (r0 (a7 rfl rfl) (a7 rfl rfl) (cv2 hf)))) ?_) t8
   exact d7 (gu (c:=false) (r0 (a7 rfl rfl) (a7 rfl rfl) (cv2 hf)) t8) t8
noncomputable def foO (t:List Nat) (ps:List (List Nat × List Nat)) (tl:Fo):Fo:=("word",.val (.str (sOf t)))::("row",.val (.lst (r9 ps)))::tl
theorem by3 {t:List Nat} {ps:List (List Nat × List Nat)} {g:Sg} (hp:∀ p∈ps,zp p∧p.1.length≤1000) (ht:t.length≤1000) (hr:m5 0 ((r9 ps).length:Nat) 2 = some ((List.range' 0 ps.length).map fun (k:Nat)=>D.int ((2 * k:Nat):Int))):be3 [.str (sOf t),.lst (r9 ps)] g = some (.str (sOf (n6 ps t)),g):=by
 have key:f7 Tz [] 56 (nq "_law_put") (o0 "_law_put") (m0 [("word",.str (sOf t)),("row",.lst (r9 ps))]) g = some (.ret (.str (sOf (n6 ps t))) g):=by
   conv=>lhs;arg 5;whnf
   refine si (f:=fun (k:Nat)=>D.int ((2 * k:Nat):Int)) (fun _ _=>False)
     (fun l fo g'=>g' = g∧∃ u i tl,fo = foO u ps tl∧l = List.range' i (ps.length - i)∧i≤ps.length∧u.length≤1000∧n6 (ps.drop i) u = n6 ps t∧db ["at","told","free","k"] tl)
     rfl (nf rfl (bo rfl (b0 rfl j4 (b0 rfl (fg rfl rfl rfl rfl rfl (b0 rfl (a7 rfl rfl) b9) mi) (b0 rfl j4 b9))) hr)) ⟨rfl,t,0,[],rfl,rfl,Nat.zero_le _,ht,rfl,bq _⟩ ?_ ?_ (fun _ _ h=>h.elim)
   rotate_left
   · rintro fo g' ⟨rfl,u,i,tl,rfl,e,hi,hu,hf,hsl⟩
     have:i = ps.length:=by
       have:=congrArg List.length e
       rw [List.length_range',List.length_nil] at this
       lia
     subst this
     rw [List.drop_length] at hf
     rw [← hf]
     exact dg (v5 (a7 rfl rfl))
   · rintro c r fo g' ⟨rfl,u,i,tl,rfl,e,hi,hu,hf,tl1,⟨tl2,⟨tl3,⟨tl4,h4,s4⟩,s3⟩,s2⟩,s1⟩
     have hlt:i < ps.length:=by
       by_cases h:i < ps.length
       · exact h
       · rw [show ps.length - i = 0 from by lia] at e;cases e
     rw [show ps.length - i = (ps.length - i - 1) + 1 from by lia,List.range'_succ] at e
     injection e with e1 e2
     subst e1;subst e2
     have hq:ps[c]? = some ps[c]:=List.getElem?_eq_getElem hlt
     have hqok:=hp _ (List.mem_of_getElem? hq)
     refine za (ae2 hq) fun f1 f2=>?_
     have i1:=ou f1
     have i2:=ou f2
     have hr2:=bm3 (b:=u.length) (by lia)
     refine ⟨_,rfl,rfl,.inl ?_⟩
     refine ze2a (xv (p:=⟨119,12,119,13⟩) (kd:=nq "_law_put") (g:=g') (t:=u) (o:=ps[c].1) (n:=ps[c].2) (ps:=ps) (a:=2 * c) rfl hqok.1.1.1 hqok.1.2 (bb6 (n:=31) i1 i2 hqok.1 hqok.2 hu) u.length 0 [] 0 tl3 (by lia) ⟨tl4,h4,s4⟩ (Nat.zero_le _) rfl) fun f' tk' k1 k2=>?_
     rotate_left
     · refine ⟨ay4 (bz ps[c].1 ps[c].2 u 0) ps (2 * c) (bz ps[c].1 ps[c].2 u 0) f' tk',g',?_,rfl,_,c + 1,_,rfl,by rw [show ps.length - c - 1 = ps.length - (c + 1) from by lia],by lia,Nat.le_trans (kj hqok.1.1.1 hqok.1.2) hu,?_,j3 (j3 (j3 k1))⟩
       · have e0:j9 [(("at":Str),D.int ((2 * c:Nat):Int))] (foO u ps tl) = ((("word":Str),EV.val (.str (sOf u)))::(("row":Str),EV.val (.lst (r9 ps)))::(("at":Str),EV.val (.int ((2 * c:Nat):Int)))::tl1:Fo):=by
           show (("word":Str),_)::(("row":Str),_)::o9 ("at":Str) _ tl = _
           rw [s1]
         rw [e0]
         refine d7 (ax1 (ds:=[.str (sOf []),.int ((0:Nat):Int)]) (fo1:=ay4 u ps (2 * c) [] 0 tl3) rfl rfl (iq (b0 rfl (j2 rfl) (b0 rfl j4 b9)) (u9 rfl)) ?_) (d7 (bi8 rfl (nf rfl (bo rfl (b0 rfl (fg rfl rfl rfl rfl rfl (b0 rfl (a7 rfl rfl) b9) v7) b9) hr2)) k2) (d7 (r8 rfl (a7 rfl rfl)) t8))
         show some ((("word":Str),_)::(("row":Str),_)::(("at":Str),_)::o9 "free" (.val (.int ((0:Nat):Int))) (o9 "told" (.val (.str (sOf []))) tl1)) = _
         rw [s2]
         show some ((("word":Str),_)::(("row":Str),_)::(("at":Str),_)::("told",_)::o9 "free" (.val (.int ((0:Nat):Int))) tl2) = _
         rw [s3]
       · rw [← hf,List.drop_eq_getElem_cons hlt];rfl
 exact gn ["word","row"] (l:=[("word",.str (sOf t)),("row",.lst (r9 ps))]) rfl rfl (by decide +kernel) key
end Mine
namespace Mine
open Builtin Builtin.Str StrLaws
noncomputable def feq:List Nat→List Nat→Bool
 | [],[]=>true
 | a::r,b::s=>match Nat.beq a b with
   | true=>feq r s
   | false=>false
 | _,_=>false
theorem ck:∀ {a b:List Nat},feq a b = true↔a = b
 | [],[]=>⟨fun _=>rfl,fun _=>rfl⟩
 | [],_::_=>⟨fun h=>Bool.noConfusion (show false = true from h),fun h=>nomatch h⟩
 | _::_,[]=>⟨fun h=>Bool.noConfusion (show false = true from h),fun h=>nomatch h⟩
 | a::r,b::s=>by
   show (match Nat.beq a b with | true=>feq r s | false=>false) = true↔_
   have ih:=ck (a:=r) (b:=s)
   rw [List.cons.injEq]
   induction h:Nat.beq a b using Bool.casesOn
   rotate_left
   · show feq r s = true↔_
     rw [ih,Nat.eq_of_beq_eq_true h]
     simp
   · have:a≠b:=fun e=>by rw [e,Nat.beq_refl] at h;injection h
     simp [this]
theorem ar3 {a b:List Nat}:(a==b) = feq a b:=by
 rw [Bool.eq_iff_iff,beq_iff_eq,ck]
noncomputable def bj2 (ps:List (List Nat × List Nat)):Nat→List Nat→Option (List Nat)
 | 0,_=>none
 | k + 1,B=>match feq B (n6 ps B) with
   | true=>some B
   | false=>bj2 ps k (n6 ps B)
theorem qa:∀ {ps:List (List Nat × List Nat)} {t:List Nat},(∀ p∈ps,zp p)→(n6 ps t).length≤t.length
 | [],t,_=>Nat.le_refl _
 | p::r,t,h=>Nat.le_trans (qa (ps:=r) fun q hq=>h q (.tail _ hq)) (kj (h p (.head _)).1.1 (h p (.head _)).2)
noncomputable def T1:Tbl:=hT [("replace",ir)]
noncomputable def km:ae:=jj T1 [] 56 (aa9 "_law_settled") (o0 "_law_settled") (f9 ["text","pairs"])
noncomputable abbrev foS (B:List Nat) (ps:List (List Nat × List Nat)) (bf:D):Fo:=[("text",.val (.str (sOf B))),("pairs",.val (.lst (r9 ps))),("before",.val bf)]
theorem kf {T:Tbl} {n:Nat} {kd:Kd} {ro:Ro} {g g1 g2:Sg} {e e2:Expr} {p:Pos} {d:D} {l:List D} (hp:f5 e2 = true) (h0:pev T n kd ro e2 g = some (d,g1)) (h1:pev T n kd ro e g1 = some (.lst l,g2)):evs (pev T n kd ro) [e2,.Starred e p] g = some (d::l,g2):=by
 refine (t7 hp).trans ((c8 h0).trans (c8 ?_))
 show (c7 (pev T n kd ro e g1) fun d g=>match d with
     | .lst l=>c7 (evs (pev T n kd ro) [] g) fun ds g=>some (l++ds,g)
     | _=>none) = _
 refine (c8 h1).trans ?_
 show some (l++[],g2) = _
 rw [List.append_nil]
theorem ar5 {test:Fo→Sg→Option (Bool × Sg)} {body:Fo→Sg→Option Fl} {K:Nat} {fo fo1:Fo} {g g1 g2:Sg} {R:Option Fl} (h:test fo g = some (true,g1)) (hb:body fo g1 = some (.next fo1 g2)) (hr:bx test body K fo1 g2 = R):bx test body (K + 1) fo g = R:=by
 unfold bx;simp only [h,hb];exact hr
theorem bk6 {test:Fo→Sg→Option (Bool × Sg)} {body:Fo→Sg→Option Fl} {K:Nat} {fo:Fo} {g g1:Sg} (h:test fo g = some (false,g1)):bx test body (K + 1) fo g = some (.next fo g1):=by
 unfold bx;simp only [h]
theorem ah5 {test:Fo→Sg→Option (Bool × Sg)} {body:Fo→Sg→Option Fl} {g:Sg} {ps:List (List Nat × List Nat)} (hp:∀ p∈ps,zp p)
   (h1:∀ X B:List Nat,test (foS B ps (.str (sOf X))) g = some (!feq B X,g))
   (hb:∀ (X:D) (B:List Nat),B.length≤1000→body (foS B ps X) g = some (.next (foS (n6 ps B) ps (.str (sOf B))) g)) :
   ∀ (k K:Nat) (X W:List Nat),bj2 ps k X = some W→k≤K→X.length≤1000→bx test body K (foS (n6 ps X) ps (.str (sOf X))) g = some (.next (foS W ps (.str (sOf W))) g)
 | 0,_,_,_,h,_,_=>by injection h
 | k + 1,0,_,_,_,h,_=>absurd h (by lia)
 | k + 1,K + 1,X,W,h,hK,hX=>by
   unfold bj2 at h
   have e:=h1 X (n6 ps X)
   induction he:feq X (n6 ps X) using Bool.casesOn with
   | true =>
     rw [he] at h
     injection h with h
     have e2:=ck.mp he
     rw [ck.mpr e2.symm] at e
     refine (bk6 e).trans ?_
     rw [← e2,h]
   | false =>
     rw [he] at h
     have e2:feq (n6 ps X) X = false:=Bool.eq_false_iff.mpr fun h3=>by rw [ck.mpr (ck.mp h3).symm] at he;injection he
     rw [e2] at e
     have hl:=qa (t:=X) hp
     exact ar5 e (hb _ _ (by lia)) (ah5 hp h1 hb k K (n6 ps X) W h (by lia) (by lia))
theorem sk {B W:List Nat} {ps:List (List Nat × List Nat)} {g:Sg} (hp:∀ p∈ps,zp p) (hn:ps.length < 1000) (hl:B.length≤1000) (h:bj2 ps 100 B = some W):km [.str (sOf B),.lst (r9 ps)] g = some (.str (sOf W),g):=by
 have key:f7 T1 [] 56 (nq "_law_settled") (o0 "_law_settled") (m0 [("text",.str (sOf B)),("pairs",.lst (r9 ps))]) g = some (.ret (.str (sOf W)) g):=by
   conv=>lhs;arg 5;whnf
   refine d7 (r8 rfl at0) (d7 (fo1:=foS W ps (.str (sOf W))) (g1:=g) (ac7 ?_) (dg (v5 (a7 rfl rfl))))
   have hb:∀ (X:D) (B:List Nat),B.length≤1000→f7 T1 [] 53 (nq "_law_settled") [.Assign [.Tuple [.Name "before" ⟨186,8,186,14⟩,.Name "text" ⟨186,16,186,20⟩] 0 ⟨186,8,186,20⟩] (.Tuple [.Name "text" ⟨186,24,186,28⟩,.Call (.Name "replace" ⟨186,30,186,37⟩) [.Name "text" ⟨186,38,186,42⟩,.Starred (.Name "pairs" ⟨186,45,186,50⟩) ⟨186,44,186,50⟩] [] ⟨186,30,186,51⟩] 0 ⟨186,23,186,52⟩) ⟨186,8,186,52⟩] (foS B ps X) g = some (.next (foS (n6 ps B) ps (.str (sOf B))) g):=fun X B hB =>
     d7 (ay2 (names:=["before","text"]) (fo1:=foS (n6 ps B) ps (.str (sOf B))) rfl rfl (iq (b0 rfl (a7 rfl rfl) (b0 rfl (mr rfl rfl rfl rfl rfl (kf rfl (a7 rfl rfl) (a7 rfl rfl)) (mm (jd (fun p hq=>⟨(hp p hq).1,(hp p hq).2⟩) hB) hn)) b9)) (u9 rfl)) rfl rfl rfl) t8
   refine ar5 (r0 (c:=true) (a7 rfl rfl) (a7 rfl rfl) rfl) (hb .none B hl) ?_
   refine ah5 hp ?_ hb 100 99999 B W h (by lia) hl
   intro X B
   exact r0 (a7 rfl rfl) (a7 rfl rfl) (by rw [ut,mz,ar3])
 exact gn ["text","pairs"] (l:=[("text",.str (sOf B)),("pairs",.lst (r9 ps))]) rfl rfl (by decide +kernel) key
end Mine
namespace Mine
open Builtin Builtin.Str StrLaws
section
variable {T:Tbl} {n:Nat} {kd:Kd} {ro:Ro} {g g1 g2:Sg}
theorem bi3 {q p xp lp:Pos} {src body:Expr} {x:Str} {sc:Scope} {ds:List D} {pr:List D × List D} (hkd:kd "_split_list" = some .globalImplicit) (hs:z2 sc kd x = true) (h:yx T n kd ro src g = some (ds,g1))
   (hp:jk (fun d g=>c7 (pev T n (fun y=>sc.names.lookup y) ((x,d)::m9 sc ro) body g) fun r g=>(z6 r).map (·,g)) ds g1 = some (pr,g2)) :
   pev T (n + 1) kd ro (.Call (.Name "_split_list" q) [src,.Lambda ⟨[],[⟨x,none,xp⟩],none,[],[],none,[]⟩ body sc lp] [] p) g = some (.tup [.lst pr.1,.lst pr.2],g2):=by
 show (if (kd ("_split_list":Str) != some .globalImplicit||("_split_list":Str)==("__debug__":Str)) = true then none else bt4 T n kd ro g [src,.Lambda ⟨[],[⟨x,none,xp⟩],none,[],[],none,[]⟩ body sc lp]) = _
 refine (ft (by rw [hkd];rfl)).trans ?_
 show (if (!z2 sc kd x) = true then none else c7 (yx T n kd ro src g) fun ds g =>
     c7 (jk (fun d g=>c7 (pev T n (fun y=>sc.names.lookup y) ((x,d)::m9 sc ro) body g) fun r g=>(z6 r).map (·,g)) ds g) fun p g =>
       some (D.tup [.lst p.1,.lst p.2],g)) = _
 exact (ft (by rw [hs];rfl)).trans ((c8 h).trans (c8 hp))
theorem ae7 {x:Str} {p:Pos} {d:D} {ds:List D} (h:pev T n kd ro (.Name x p) g = some (d,g1)) (hi:dc d = some ds):yx T (n + 1) kd ro (.Name x p) g = some (ds,g1):=by
 show (c7 (pev T n kd ro (.Name x p) g) fun d g=>(dc d).map (·,g)) = _
 exact (c8 h).trans (ah hi)
end
theorem gv {tr:D→Sg→Option (Bool × Sg)} {g:Sg} {α:Type} {f:α→D} {q:α→Bool}:∀ {l:List α},(∀ c∈l,tr (f c) g = some (q c,g))→jk tr (l.map f) g = some (((l.filter q).map f,(l.filter fun c=>!q c).map f),g)
 | [],_=>rfl
 | c::r,h=>by
   have ih:=gv (l:=r) fun c hc=>h c (.tail _ hc)
   rw [List.map_cons]
   unfold jk
   simp only [h c (.head _),c7,ih,List.filter_cons]
   induction q c using Bool.casesOn<;>simp
noncomputable abbrev sg (c:Nat):D:=.str (sOf [c])
theorem cs6 {c x:Nat}:jo .LtE (sg c) (sg x) = some (Nat.ble c x):=by
 show some (!decide ([x] < [c])) = _
 congr 1
 rw [Bool.eq_iff_iff,Bool.not_eq_true',decide_eq_false_iff_not,Nat.ble_eq,List.cons_lt_cons_iff]
 simp
theorem cq2 {c x:Nat}:jo .Lt (sg c) (sg x) = some (Nat.ble (c + 1) x):=by
 show some (decide ([c] < [x])) = _
 congr 1
 rw [Bool.eq_iff_iff,decide_eq_true_eq,Nat.ble_eq,List.cons_lt_cons_iff]
 simp
 lia
noncomputable def tm:ae:=jj Tz [] 56 (aa9 "_law_parted") (o0 "_law_parted") (f9 ["row","letter"])
noncomputable def zr:ae:=jj Tz [] 56 (aa9 "_law_below") (o0 "_law_below") (f9 ["row","letter"])
noncomputable def sw (q:Nat→Bool) (l:List Nat):D:=.tup [.lst ((l.filter q).map sg),.lst ((l.filter fun c=>!q c).map sg)]
theorem aw5 {l:List Nat} {x:Nat} {g:Sg}:tm [.str (sOf l),sg x] g = some (sw (fun c=>Nat.ble c x) l,g):=by
 have key:f7 Tz [] 56 (nq "_law_parted") (o0 "_law_parted") (m0 [("row",.str (sOf l)),("letter",sg x)]) g = some (.ret (sw (fun c=>Nat.ble c x) l) g):=by
   conv=>lhs;arg 5;whnf
   exact dg (v5 (bi3 (g2:=g) (pr:=((l.filter fun c=>Nat.ble c x).map sg,(l.filter fun c=>!Nat.ble c x).map sg)) rfl rfl (ae7 (a7 rfl rfl) rfl) (gv (f:=sg) fun c hc=>c8 (yo (a7 rfl rfl) (a7 rfl rfl) cs6))))
 exact gn ["row","letter"] (l:=[("row",.str (sOf l)),("letter",sg x)]) rfl rfl (by decide +kernel) key
theorem bc9 {l:List Nat} {x:Nat} {g:Sg}:zr [.str (sOf l),sg x] g = some (sw (fun c=>Nat.ble (c + 1) x) l,g):=by
 have key:f7 Tz [] 56 (nq "_law_below") (o0 "_law_below") (m0 [("row",.str (sOf l)),("letter",sg x)]) g = some (.ret (sw (fun c=>Nat.ble (c + 1) x) l) g):=by
   conv=>lhs;arg 5;whnf
   exact dg (v5 (bi3 (g2:=g) (pr:=((l.filter fun c=>Nat.ble (c + 1) x).map sg,(l.filter fun c=>!Nat.ble (c + 1) x).map sg)) rfl rfl (ae7 (a7 rfl rfl) rfl) (gv (f:=sg) fun c hc=>c8 (yo (a7 rfl rfl) (a7 rfl rfl) cq2))))
 exact gn ["row","letter"] (l:=[("row",.str (sOf l)),("letter",sg x)]) rfl rfl (by decide +kernel) key
end Mine
namespace Mine
open Builtin Builtin.Str StrLaws
noncomputable abbrev Rw:=List (Nat × List Nat)
noncomputable def f8 (R:Rw):List (Str × Str):=R.map fun q=>(sOf [q.1],sOf q.2)
noncomputable def low (c:Nat):Nat:=match Nat.ble 97 c with
 | true=>c
 | false=>c + 32
noncomputable def Is6 (c:Nat):Prop:=c = 120∨c = 121∨c = 122∨c = 88∨c = 89∨c = 90
noncomputable def Six (R:Rw):Prop:=R.length≤1000∧∀ q∈R,Is6 q.1
noncomputable def Wok (w:List Nat):Prop:=w.length≤1000∧∀ c∈w,32≤c∧c < 127
noncomputable def cz:Rw→Nat→Option (List Nat)
 | [],_=>none
 | q::r,n=>match Nat.beq (low q.1) n with
   | true=>some q.2
   | false=>cz r n
noncomputable def aa7 (R:Rw) (n:Nat):Rw:=R.filter fun q=>!Nat.beq (low q.1) n
noncomputable def am6 (R:Rw) (n:Nat):Rw:=R.filter fun q=>Nat.beq (low q.1) n
noncomputable def ue (R:Rw) (n:Nat) (w:List Nat):Rw:=aa7 R (low n)++[(n,w)]
theorem am7 {c:Nat} (h:Is6 c):Txt.lower (sOf [c]) = sOf [low c]:=by
 rcases h with rfl | rfl | rfl | rfl | rfl | rfl<;>decide +kernel
theorem up6 {c:Nat} (h:c = 120∨c = 121∨c = 122):Txt.upper (sOf [c]) = sOf [c - 32]:=by
 rcases h with rfl | rfl | rfl<;>decide +kernel
theorem bj5 {c:Nat} (h:Is6 c):Is6 (low c):=by
 rcases h with rfl | rfl | rfl | rfl | rfl | rfl
 · exact .inl rfl
 · exact .inr (.inl rfl)
 · exact .inr (.inr (.inl rfl))
 · exact .inl rfl
 · exact .inr (.inl rfl)
 · exact .inr (.inr (.inl rfl))
theorem qo {w:List Nat} (h:Wok w):t9 (sOf w) = true:=by
 have h1:=h.1
 unfold t9 j7
 rw [j5,Bool.and_eq_true]
 refine ⟨?_,by simp [lim];lia⟩
 show w.toArray.all al3 = true
 rw [← Array.all_toList,List.all_eq_true]
 intro c hc
 refine za (h.2 c (by simpa using hc)) fun h2 h3=>?_
 unfold al3
 simp [h2,h3]
theorem lu {c:Nat} (h:Is6 c):t9 (sOf [c]) = true:=qo ⟨Nat.le_of_ble_eq_true rfl,fun x hx=>by
 rw [List.mem_singleton.mp hx]
 rcases h with rfl | rfl | rfl | rfl | rfl | rfl<;>decide⟩
theorem me {w:List Nat} (h:w.length≤1000):j7 (sOf w) = true:=by
 unfold j7
 rw [j5];simp [lim];lia
theorem ao7 {a b:Nat}:(sOf [a]==sOf [b]) = Nat.beq a b:=by
 rw [mz,Bool.eq_iff_iff,beq_iff_eq,Nat.beq_eq];simp
theorem wk {R:Rw} (h:Six R):((f8 R).all fun q=>j7 (Txt.lower q.1)) = true:=by
 unfold f8
 rw [List.all_map,List.all_eq_true]
 intro q hq
 show j7 (Txt.lower (sOf [q.1])) = true
 rw [am7 (h.2 q hq)]
 exact me (Nat.le_of_ble_eq_true rfl)
theorem cu7 {R:Rw} {f:Bool→Bool} {n:Nat} (h:∀ q∈R,Is6 q.1):(f8 R).filter (fun q=>f (Txt.lower q.1==sOf [n])) = f8 (R.filter fun q=>f (Nat.beq (low q.1) n)):=by
 unfold f8
 rw [List.filter_map]
 congr 1
 refine List.filter_congr fun q hq=>?_
 show f (Txt.lower (sOf [q.1])==sOf [n]) = _
 rw [am7 (h q hq),ao7]
theorem zl {R:Rw} {n:Nat} (h:Six R):ka (f8 R) (sOf [n]) = f8 (aa7 R n):=cu7 (f:=fun b=>!b) h.2
theorem aw8 {R:Rw} {n:Nat} (h:Six R):(f8 R).filter (fun q=>Txt.lower q.1==sOf [n]) = f8 (am6 R n):=cu7 (f:=fun b=>b) h.2
theorem ac1 {n:Nat}:∀ {R:Rw},(∀ q∈R,Is6 q.1)→jy (f8 R) (sOf [n]) = (cz R n).map sOf
 | [],_=>rfl
 | q::r,h=>by
   have ih:=ac1 (n:=n) (R:=r) fun q hq=>h q (.tail _ hq)
   unfold jy at *
   show (List.find? _ ((sOf [q.1],sOf q.2)::f8 r)).map _ = Option.map sOf (match Nat.beq (low q.1) n with | true=>some q.2 | false=>cz r n)
   rw [List.find?_cons]
   show Option.map _ (match Txt.lower (sOf [q.1])==sOf [n] with | true=>some (sOf [q.1],sOf q.2) | false=>List.find? (fun p=>Txt.lower p.1==sOf [n]) (f8 r)) = _
   rw [am7 (h q (.head _)),ao7]
   induction Nat.beq (low q.1) n using Bool.casesOn with
   | true=>rfl
   | false=>exact ih
theorem Six.del {R:Rw} {n:Nat} (h:Six R):Six (aa7 R n):=⟨Nat.le_trans (List.length_filter_le _ _) h.1,fun q hq=>h.2 q (List.mem_filter.mp hq).1⟩
section
variable {g:Sg} {k n:Nat} {R:Rw}
theorem uu (h:Six R) (hn:Is6 n):(t9 (Txt.lower (sOf [n]))&&(f8 R).all fun q=>j7 (Txt.lower q.1)) = true:=by
 rw [am7 hn,lu (bj5 hn),wk h];rfl
theorem bk7 (h:Six R) (hn:Is6 n) (hg:g[k]? = some (f8 R)) {d:Str}:bs1 [.hdr k,sg n,.str d] g = some (vw (f8 R) (sOf [low n]) (.str d),g):=by
 show (g[k]?.bind fun ps=>if (t9 (Txt.lower (sOf [n]))&&ps.all fun q=>j7 (Txt.lower q.1)) = true then some (vw ps (Txt.lower (sOf [n])) (.str d),g) else none) = _
 rw [hg]
 refine (if_pos (uu h hn)).trans ?_
 rw [am7 hn]
theorem bb8 (h:Six R) (hn:Is6 n) (hg:g[k]? = some (f8 R)):bs1 [.hdr k,sg n,.str (sOf [])] g = some (.str (sOf ((cz R (low n)).getD [])),g):=by
 rw [bk7 h hn hg]
 unfold vw
 rw [ac1 h.2]
 induction cz R (low n) using Option.casesOn<;>rfl
theorem an3 (h:Six R) (hn:Is6 n) (hg:g[k]? = some (f8 R)) {w:List Nat} (hw:cz R (low n) = some w):bs1 [.hdr k,sg n] g = some (.str (sOf w),g):=by
 show (g[k]?.bind fun ps=>if (t9 (Txt.lower (sOf [n]))&&ps.all fun q=>j7 (Txt.lower q.1)) = true then some (vw ps (Txt.lower (sOf [n])) .none,g) else none) = _
 rw [hg]
 refine (if_pos (uu h hn)).trans ?_
 rw [am7 hn]
 unfold vw
 rw [ac1 h.2,hw];rfl
theorem ah7 (h:Six R) (hn:Is6 n) (hg:g[k]? = some (f8 R)) {w:List Nat} (hw:cz R (low n) = some w):bn2 [.hdr k,sg n] g = some (.str (sOf w),g):=an3 h hn hg hw
theorem aa4 (h:Six R) (hn:Is6 n) (hg:g[k]? = some (f8 R)) {w:List Nat} (hw:Wok w):ct1 [.hdr k,sg n,.str (sOf w)] g = some (.none,g.set k (f8 (ue R n w))):=by
 show (g[k]?.bind fun ps=>if (t9 (Txt.lower (sOf [n]))&&t9 (sOf [n])&&t9 (sOf w)&&ps.all (fun q=>j7 (Txt.lower q.1))&&decide (ps.length < lim)) = true then some (D.none,g.set k (ka ps (Txt.lower (sOf [n]))++[(sOf [n],sOf w)])) else none) = _
 rw [hg]
 have hc:(t9 (Txt.lower (sOf [n]))&&t9 (sOf [n])&&t9 (sOf w)&&(f8 R).all (fun q=>j7 (Txt.lower q.1))&&decide ((f8 R).length < lim)) = true:=by
   rw [am7 hn,lu (bj5 hn),lu hn,qo hw,wk h]
   have:=h.1
   simp [f8,lim];lia
 refine (if_pos hc).trans ?_
 rw [am7 hn,zl h]
 unfold ue f8
 rw [List.map_append];rfl
theorem av0 (h:Six R) (hn:Is6 n) (hg:g[k]? = some (f8 R)):cm7 [.hdr k,sg n] g = some (.none,g.set k (f8 (aa7 R (low n)))):=by
 show (g[k]?.bind fun ps=>if (t9 (Txt.lower (sOf [n]))&&ps.all fun q=>j7 (Txt.lower q.1)) = true then some (D.none,g.set k (ka ps (Txt.lower (sOf [n])))) else none) = _
 rw [hg]
 refine (if_pos (uu h hn)).trans ?_
 rw [am7 hn,zl h]
theorem bf5 (h:Six R) (hn:Is6 n) (hg:g[k]? = some (f8 R)):bl3 [.hdr k,sg n] g = some (.lst ((am6 R (low n)).map fun q=>.str (sOf q.2)),g):=by
 show (g[k]?.bind fun ps=>if (t9 (Txt.lower (sOf [n]))&&ps.all fun q=>j7 (Txt.lower q.1)) = true then some (D.lst ((bb ps (Txt.lower (sOf [n]))).map .str),g) else none) = _
 rw [hg]
 refine (if_pos (uu h hn)).trans ?_
 rw [am7 hn]
 unfold bb
 rw [aw8 h]
 unfold f8
 rw [List.map_map,List.map_map];rfl
theorem bl1 (h:R.length≤1000) (hn:Is6 n) (hg:g[k]? = some (f8 R)) {w:List Nat} (hw:Wok w):co0 [.hdr k,sg n,.str (sOf w)] g = some (.none,g.set k (f8 (R++[(n,w)]))):=by
 show (g[k]?.bind fun ps=>if (t9 (sOf [n])&&t9 (sOf w)&&decide (ps.length < lim)) = true then some (D.none,g.set k (ps++[(sOf [n],sOf w)])) else none) = _
 rw [hg]
 have hc:(t9 (sOf [n])&&t9 (sOf w)&&decide ((f8 R).length < lim)) = true:=by
   rw [lu hn,qo hw]
   simp [f8,lim];lia
 refine (if_pos hc).trans ?_
 unfold f8
 rw [List.map_append];rfl
theorem md (hg:g[k]? = some (f8 R)):at7 [.hdr k] g = some (.lst ((f8 R).map m7),g):=by
 show (g[k]?.bind fun ps=>some (D.lst (ps.map m7),g)) = _
 rw [hg];rfl
theorem bf9 (hg:g[k]? = some (f8 R)):kvS false [.hdr k] g = some (.lst (R.map fun q=>sg q.1),g):=by
 show (g[k]?.bind fun ps=>some (D.lst (ps.map fun q=>.str q.1),g)) = _
 rw [hg]
 show some (D.lst (List.map _ (List.map _ R)),g) = _
 rw [List.map_map];rfl
theorem bc4 (hg:g[k]? = some (f8 R)):kvS true [.hdr k] g = some (.lst (R.map fun q=>.str (sOf q.2)),g):=by
 show (g[k]?.bind fun ps=>some (D.lst (ps.map fun q=>.str q.2),g)) = _
 rw [hg]
 show some (D.lst (List.map _ (List.map _ R)),g) = _
 rw [List.map_map];rfl
theorem bl4 (hg:g[k]? = some (f8 R)):bs0 [.hdr k] g = some (.int (R.length:Nat),g):=by
 show (g[k]?.bind fun ps=>some (D.int (ps.length:Nat),g)) = _
 rw [hg]
 show some (D.int ((f8 R).length:Nat),g) = _
 unfold f8
 rw [List.length_map]
noncomputable def ag5 (q:Nat × List Nat):D:=.tup [sg q.1,.str (sOf q.2)]
theorem ac9 {R:Rw}:(f8 R).map m7 = R.map ag5:=by
 unfold f8
 rw [List.map_map];rfl
end
end Mine
namespace Mine
open Builtin Builtin.Str StrLaws
noncomputable def fnm (s k:Nat):Nat:=match Nat.beq (s % 2) 0 with
 | true=>120 + k
 | false=>88 + k
noncomputable def nmS (s:Nat):Str:=sOf [fnm s 0,fnm s 1,fnm s 2]
theorem cl3 {s:Nat}:ac6 .Mod (.int (s:Nat)) (.int 2) = some (.int ((s % 2:Nat):Int)):=by
 show (if (0:Int) < 2 then some (D.int ((s:Int) % 2)) else none) = _
 rw [if_pos (by decide)];rfl
theorem ac3 {s:Nat}:z7 (.tup [.str "xyz",.str "XYZ"]) (.int ((s % 2:Nat):Int)) = some (.str (nmS s)):=by
 unfold nmS fnm
 rcases Nat.mod_two_eq_zero_or_one s with e | e<;>rw [e]<;>rfl
theorem ba5 {s:Nat}:z7 (.tup [.str "XYZ",.str "xyz"]) (.int ((s % 2:Nat):Int)) = some (.str (nmS (s + 1))):=by
 unfold nmS fnm
 rcases Nat.mod_two_eq_zero_or_one s with e | e
 · rw [e,show (s + 1) % 2 = 1 by lia];rfl
 · rw [e,show (s + 1) % 2 = 0 by lia];rfl
theorem bf3 {s k:Nat} (hk:k < 3):z7 (.str (nmS s)) (.int (k:Nat)) = some (sg (fnm s k)):=by
 refine ad9 ?_
 rcases (by lia:k = 0∨k = 1∨k = 2) with rfl | rfl | rfl<;>rfl
theorem no {s k:Nat} (hk:k < 3):Is6 (fnm s k):=by
 unfold fnm
 rcases Nat.mod_two_eq_zero_or_one s with e | e<;>rw [e]<;>rcases (by lia:k = 0∨k = 1∨k = 2) with rfl | rfl | rfl
 · exact .inl rfl
 · exact .inr (.inl rfl)
 · exact .inr (.inr (.inl rfl))
 · exact .inr (.inr (.inr (.inl rfl)))
 · exact .inr (.inr (.inr (.inr (.inl rfl))))
 · exact .inr (.inr (.inr (.inr (.inr rfl))))
theorem ca3 {s k:Nat} (hk:k < 3):low (fnm s k) = 120 + k:=by
 unfold fnm
 rcases Nat.mod_two_eq_zero_or_one s with e | e<;>rw [e]<;>rcases (by lia:k = 0∨k = 1∨k = 2) with rfl | rfl | rfl<;>rfl
theorem bj4:∀ l:List Nat,ud (l.map sg) = 0
 | []=>rfl
 | c::r=>by show max 0 (ud (r.map sg)) = 0;rw [bj4 r];rfl
theorem an7 {l:List Nat}:jo .Eq (.lst (l.map sg)) (.lst []) = some l.isEmpty:=by
 unfold jo
 have h1:dep (.lst (l.map sg)) = 1:=by show ud _ + 1 = 1;rw [bj4]
 rw [if_neg (by rw [h1,show dep (.lst []) = 1 from rfl];decide)]
 induction l using List.casesOn<;>rfl
theorem am0 {a b:List D} (h:a.length + b.length≤lim):ac6 .Add (.lst a) (.lst b) = some (.lst (a++b)):=if_pos h
noncomputable def Rok (R:Rw):Prop:=∀ q∈R,Is6 q.1∧∀ c∈q.2,32≤c∧c < 127
theorem Rok.six {R:Rw} (h:Rok R) (hl:R.length≤1000):Six R:=⟨hl,fun q hq=>(h q hq).1⟩
theorem Rok.get:∀ {R:Rw} {n:Nat},Rok R→∀ c∈(cz R n).getD [],32≤c∧c < 127
 | [],_,_,c,hc=>by cases hc
 | q::r,n,h,c,hc=>by
   unfold cz at hc
   induction hb:Nat.beq (low q.1) n using Bool.casesOn with
   | true=>rw [hb] at hc;exact (h q (.head _)).2 c hc
   | false=>rw [hb] at hc;exact Rok.get (R:=r) (fun q hq=>h q (.tail _ hq)) c hc
theorem Rok.set {R:Rw} {n:Nat} {w:List Nat} (h:Rok R) (hn:Is6 n) (hw:∀ c∈w,32≤c∧c < 127):Rok (ue R n w):=fun q hq=>by
 rcases List.mem_append.mp hq with hq | hq
 · exact h q (List.mem_filter.mp hq).1
 · rw [List.mem_singleton.mp hq];exact ⟨hn,hw⟩
noncomputable def qb:List Nat→Nat→Nat→Rw→Option (Nat × Rw)
 | [],_,_,_=>none
 | k::r,x,s,R=>match Nat.ble (R.length + ((cz R (120 + k)).getD []).length) 100 with
   | false=>none
   | true=>match ((cz R (120 + k)).getD []).filter fun c=>!Nat.ble c x with
     | []=>some (k,ue R (fnm s k) (((cz R (120 + k)).getD []).filter (fun c=>Nat.ble c x)++[x]))
     | y::b=>qb r y s (ue R (fnm s k) (((cz R (120 + k)).getD []).filter (fun c=>Nat.ble c x)++[x]++b))
noncomputable def TL:Tbl:=hT [("_law_parted",tm)]
noncomputable def av3:ae:=jj TL [] 56 (aa9 "_law_laid") (o0 "_law_laid") (f9 ["rows","letter","step"])
noncomputable abbrev foL (x:Nat) (s:Nat) (tl:Fo):Fo:=("rows",.val (.hdr 0))::("letter",.val (sg x))::("step",.val (.int (s:Nat)))::tl
noncomputable abbrev bd0:List Stmt:=bo3 (o0 "_law_laid")
theorem at2 {n k x s:Nat} {R:Rw} {X:List (Str × Str)} {tl:Fo} (hk:k < 3) (hR:Rok R) (hx:32≤x∧x < 127) (hl:Nat.ble (R.length + ((cz R (120 + k)).getD []).length) 100 = true) (ht:db ["place","ahead","behind"] tl) :
   (∀ R1,(((cz R (120 + k)).getD []).filter fun c=>!Nat.ble c x) = []→R1 = ue R (fnm s k) (((cz R (120 + k)).getD []).filter (fun c=>Nat.ble c x)++[x])→f7 TL [] (n + 20) (nq "_law_laid") bd0 (j9 [("place",.int (k:Nat))] (foL x s tl)) [f8 R,X] = some (.ret (.int (k:Nat)) [f8 R1,X])) ∧
   (∀ y b R1,(((cz R (120 + k)).getD []).filter fun c=>!Nat.ble c x) = y::b→R1 = ue R (fnm s k) (((cz R (120 + k)).getD []).filter (fun c=>Nat.ble c x)++[x]++b)→∃ tl1,db ["place","ahead","behind"] tl1∧f7 TL [] (n + 20) (nq "_law_laid") bd0 (j9 [("place",.int (k:Nat))] (foL x s tl)) [f8 R,X] = some (.next (foL y s tl1) [f8 R1,X])):=by
 generalize hw:(cz R (120 + k)).getD [] = w at *
 have hwc:=hw ▸ hR.get (n:=120 + k)
 have hl:=Nat.le_of_ble_eq_true hl
 have hsx:=hR.six (by lia)
 have jy:=bb8 (g:=[f8 R,X]) (k:=0) hsx (no (s:=s + 1) hk) rfl
 rw [ca3 hk,hw] at jy
 obtain ⟨tl1,⟨tl2,⟨tl3,h4,s3⟩,s2⟩,s1⟩:=ht
 have e0:j9 [(("place":Str),D.int (k:Nat))] (foL x s tl) = foL x s (("place",.val (.int (k:Nat)))::tl1):=by
   show (("rows":Str),_)::(("letter":Str),_)::(("step":Str),_)::o9 ("place":Str) _ tl = _
   rw [s1]
 have e1:∀ (l m:D),dw (nq "_law_laid") [.Name "ahead" ⟨144,8,144,13⟩,.Name "behind" ⟨144,15,144,21⟩] [l,m] (foL x s (("place",.val (.int (k:Nat)))::tl1)) = some (foL x s (("place",.val (.int (k:Nat)))::("ahead",.val l)::("behind",.val m)::tl3)):=fun l m=>by
   show some ((("rows":Str),_)::(("letter":Str),_)::(("step":Str),_)::(("place":Str),_)::o9 "behind" (.val m) (o9 "ahead" (.val l) tl1)) = _
   rw [s2]
   show some ((("rows":Str),_)::(("letter":Str),_)::(("step":Str),_)::(("place":Str),_)::("ahead",.val l)::o9 "behind" (.val m) tl2) = _
   rw [s3]
 generalize ha:w.filter (fun c=>Nat.ble c x) = a at *
 generalize hb:(w.filter fun c=>!Nat.ble c x) = b at *
 have hal:a.length≤w.length:=by rw [← ha];exact List.length_filter_le _ _
 have hbl:b.length≤w.length:=by rw [← hb];exact List.length_filter_le _ _
 have hac:∀ c∈a,32≤c∧c < 127:=fun c hc=>hwc c (List.mem_filter.mp (ha ▸ hc)).1
 have hbc:∀ c∈b,32≤c∧c < 127:=fun c hc=>hwc c (List.mem_filter.mp (hb ▸ hc)).1
 have jn:a.map sg++[sg x]++(b.map sg).drop 1 = (a++[x]++b.drop 1).map sg:=by
   rw [List.map_append,List.map_append,List.map_drop];rfl
 have hset:=aa4 (g:=[f8 R,X]) (k:=0) hsx (no (s:=s) hk) rfl (w:=a++[x]++b.drop 1) ⟨by rw [List.length_append,List.length_append,List.length_drop,List.length_singleton];lia,fun c hc=>by
   rcases List.mem_append.mp hc with hc | hc
   · rcases List.mem_append.mp hc with hc | hc
     · exact hac c hc
     · rw [List.mem_singleton.mp hc];exact hx
   · exact hbc c (List.mem_of_mem_drop hc)⟩
 have hpart:=aw5 (l:=w) (x:=x) (g:=[f8 R,X])
 unfold sw at hpart
 rw [ha,hb] at hpart
 rw [e0]
 have front:∀ {r:List Stmt} {Q:Option Fl},f7 TL [] (n + 18) (nq "_law_laid") (bd0.drop 2) (foL x s (("place",.val (.int (k:Nat)))::("ahead",.val (.lst (a.map sg)))::("behind",.val (.lst (b.map sg)))::tl3)) [f8 (ue R (fnm s k) (a++[x]++b.drop 1)),X] = Q→f7 TL [] (n + 20) (nq "_law_laid") bd0 (foL x s (("place",.val (.int (k:Nat)))::tl1)) [f8 R,X] = Q:=fun h=>by
   conv=>lhs;arg 5;whnf
   refine d7 (gj rfl (mr rfl rfl rfl rfl rfl (b0 rfl (m8 rfl (a7 rfl rfl) (b0 rfl (d8 (d8 (iq (b0 rfl (j2 rfl) (b0 rfl (j2 rfl) b9)) (u9 rfl)) (j8 (a7 rfl rfl) j4 cl3) ba5) (a7 rfl rfl) (bf3 hk)) (b0 rfl (j2 rfl) b9)) jy) (b0 rfl (a7 rfl rfl) b9)) hpart) rfl (e1 _ _)) ?_
   refine d7 (nh rfl (m8 rfl (j2 rfl) (b0 rfl (j8 (j8 (a7 rfl rfl) (di (b0 rfl (a7 rfl rfl) b9) (u9 rfl)) (am0 (by rw [List.length_map];unfold lim;simp;lia))) (w4 (a7 rfl rfl) (r7 j4 rfl) l8 l8 (tu (r:=(b.map sg).drop 1) ?_)) ((am0 ?_).trans (by rw [jn]))) b9) (dv ?_)) (a7 rfl rfl) (d8 (d8 (iq (b0 rfl (j2 rfl) (b0 rfl (j2 rfl) b9)) (u9 rfl)) (j8 (a7 rfl rfl) j4 cl3) ac3) (a7 rfl rfl) (bf3 hk)) hset) h
   · rw [show y7 none (b.map sg).length (b.map sg).length = (b.map sg).length from rfl]
     by_cases h:1≤(b.map sg).length
     · rw [show (1:Int) = ((1:Nat):Int) from rfl,ie h,List.take_of_length_le (by rw [List.length_drop];exact Nat.le_refl _)]
     · have:b.map sg = []:=List.length_eq_zero_iff.mp (by lia)
       rw [this];rfl
   · rw [List.length_append,List.length_drop,List.length_map,List.length_map,List.length_singleton];unfold lim;lia
   · rw [List.length_append,List.length_append,List.length_drop,List.length_singleton];unfold lim;lia
 refine ⟨fun R1 h0 h1=>?_,fun y b' R1 h0 h1=>⟨("place",.val (.int (k:Nat)))::("ahead",.val (.lst (a.map sg)))::("behind",.val (.lst (b.map sg)))::tl3,j3 (j3 (j3 h4)),?_⟩⟩
 · refine front (r:=[]) ?_
   subst h0
   rw [List.drop_nil,List.append_nil,← h1]
   conv=>lhs;arg 5;whnf
   exact dg (gu (c:=true) (r0 (a7 rfl rfl) (di b9 (u9 rfl)) an7) (dg (v5 (a7 rfl rfl))))
 · refine front (r:=[]) ?_
   subst h0
   rw [List.drop_one,List.tail_cons,← h1]
   conv=>lhs;arg 5;whnf
   refine d7 (gu (c:=false) (r0 (a7 rfl rfl) (di b9 (u9 rfl)) an7) t8) ?_
   exact d7 (r8 rfl (d8 (a7 rfl rfl) j4 (ou (i:=0) rfl))) t8
end Mine
namespace Mine
open Builtin Builtin.Str StrLaws
theorem wo {k x s:Nat} {r:List Nat} {R:Rw}:qb (k::r) x s R = match Nat.ble (R.length + ((cz R (120 + k)).getD []).length) 100 with
   | false=>none
   | true=>match ((cz R (120 + k)).getD []).filter fun c=>!Nat.ble c x with
     | []=>some (k,ue R (fnm s k) (((cz R (120 + k)).getD []).filter (fun c=>Nat.ble c x)++[x]))
     | y::b=>qb r y s (ue R (fnm s k) (((cz R (120 + k)).getD []).filter (fun c=>Nat.ble c x)++[x]++b)):=rfl
theorem ar4 {R:Rw} {n x:Nat} {q:Nat→Bool} {b:List Nat} (hR:Rok R) (hx:32≤x∧x < 127) (hb:∀ c∈b,c∈(cz R n).getD []):∀ c∈((cz R n).getD []).filter q++[x]++b,32≤c∧c < 127:=fun c hc=>by
 rcases List.mem_append.mp hc with hc | hc
 · rcases List.mem_append.mp hc with hc | hc
   · exact hR.get c (List.mem_filter.mp hc).1
   · rw [List.mem_singleton.mp hc];exact hx
 · exact hR.get c (hb c hc)
theorem oh {s:Nat}:∀ {l:List Nat} {x:Nat} {R:Rw} {p:Nat} {R1:Rw},(∀ k∈l,k < 3)→Rok R→32≤x∧x < 127→qb l x s R = some (p,R1)→Rok R1∧p < 3
 | [],_,_,_,_,_,_,_,h=>a8 h
 | k::r,x,R,p,R1,hk,hR,hx,h=>by
   rw [wo] at h
   induction hl:Nat.ble (R.length + ((cz R (120 + k)).getD []).length) 100 using Bool.casesOn with
   | false=>rw [hl] at h;exact a8 h
   | true =>
     rw [hl] at h
     induction hb:(((cz R (120 + k)).getD []).filter fun c=>!Nat.ble c x) using List.casesOn with
     | nil =>
       rw [hb] at h
       have:=hR.set (no (s:=s) (hk k (.head _))) (ar4 (n:=120 + k) (q:=fun c=>Nat.ble c x) (b:=[]) hR hx fun c hc=>by cases hc)
       rw [List.append_nil] at this
       injection h with h
       injection h with h3 h4
       subst h3;subst h4
       exact ⟨this,hk k (.head _)⟩
     | cons y b =>
       rw [hb] at h
       have hm:∀ c∈y::b,c∈(cz R (120 + k)).getD []:=fun c hc=>(List.mem_filter.mp (hb ▸ hc)).1
       exact oh (fun k hk'=>hk k (.tail _ hk')) (hR.set (no (s:=s) (hk k (.head _))) (ar4 (q:=fun c=>Nat.ble c x) hR hx fun c hc=>hm c (.tail _ hc))) (hR.get _ (hm y (.head _))) h
theorem bj9 {x s p:Nat} {R R1:Rw} {X:List (Str × Str)} (hR:Rok R) (hx:32≤x∧x < 127) (h:qb [0,1,2] x s R = some (p,R1)):av3 [.hdr 0,sg x,.int (s:Nat)] [f8 R,X] = some (.int (p:Nat),[f8 R1,X]):=by
 have key:f7 TL [] 56 (nq "_law_laid") (o0 "_law_laid") (m0 [("rows",.hdr 0),("letter",sg x),("step",.int (s:Nat))]) [f8 R,X] = some (.ret (.int (p:Nat)) [f8 R1,X]):=by
   have step:=@at2 34
   conv=>lhs;arg 5;whnf
   refine si (f:=fun (k:Nat)=>D.int (k:Nat)) (l:=[0,1,2]) (fun d g=>d = .int (p:Nat)∧g = [f8 R1,X])
     (fun l fo g=>∃ x R tl,(∀ k∈l,k < 3)∧fo = foL x s tl∧g = [f8 R,X]∧db ["place","ahead","behind"] tl∧Rok R∧(32≤x∧x < 127)∧qb l x s R = some (p,R1))
     rfl (nf rfl (bo rfl (b0 rfl j4 b9) rfl)) ⟨x,R,[],by decide,rfl,rfl,bq _,hR,hx,h⟩ ?_ ?_ (by rintro d g ⟨rfl,rfl⟩;rfl)
   · rintro k r fo g ⟨x,R,tl,hk,rfl,rfl,ht,hR,hx,h⟩
     refine ⟨_,rfl,rfl,?_⟩
     rw [wo] at h
     induction hl:Nat.ble (R.length + ((cz R (120 + k)).getD []).length) 100 using Bool.casesOn with
     | false=>rw [hl] at h;exact a8 h
     | true =>
       rw [hl] at h
       have st:=step (s:=s) (X:=X) (hk k (.head _)) hR hx hl ht
       induction hb:(((cz R (120 + k)).getD []).filter fun c=>!Nat.ble c x) using List.casesOn with
       | nil =>
         rw [hb] at h
         injection h with h
         injection h with h3 h4
         subst h3;subst h4
         exact .inr ⟨_,_,st.1 _ hb rfl,rfl,rfl⟩
       | cons y b =>
         rw [hb] at h
         have hm:∀ c∈y::b,c∈(cz R (120 + k)).getD []:=fun c hc=>(List.mem_filter.mp (hb ▸ hc)).1
         refine zea (st.2 y b _ hb rfl) fun tl1 h1 h2=>?_
         exact .inl ⟨_,_,h2,y,_,tl1,fun k hk'=>hk k (.tail _ hk'),rfl,rfl,h1,hR.set (no (s:=s) (hk k (.head _))) (ar4 (q:=fun c=>Nat.ble c x) hR hx fun c hc=>hm c (.tail _ hc)),hR.get _ (hm y (.head _)),h⟩
   · rintro fo g ⟨x,R,tl,hk,rfl,rfl,ht,hR,hx,h⟩
     exact a8 h
 exact gn ["rows","letter","step"] (l:=[("rows",.hdr 0),("letter",sg x),("step",.int (s:Nat))]) rfl rfl (by decide +kernel) key
end Mine
namespace Mine
open Builtin Builtin.Str StrLaws
noncomputable def lc:Nat→Rw→Nat→Option (Nat × Rw)
 | 0,R,x=>some (x,R)
 | k + 1,R,x=>match cz R (120 + k) with
   | none=>none
   | some w=>match Nat.ble (R.length + w.length) 100 with
     | false=>none
     | true=>match (w.filter fun c=>Nat.ble (c + 1) x).reverse with
       | []=>none
       | y::t=>lc k (ue R (88 + k) (t.reverse++[x]++w.filter fun c=>!Nat.ble (c + 1) x)) y
noncomputable def lh (p:Nat) (R:Rw):Option (Nat × Rw):=match cz R (120 + p) with
 | none=>none
 | some w=>match Nat.ble (R.length + w.length) 100 with
   | false=>none
   | true=>match w.reverse with
     | []=>none
     | x::t=>lc p (match t with
       | []=>aa7 R (120 + p)
       | z::u=>ue R (120 + p) (z::u).reverse) x
noncomputable def TB:Tbl:=hT [("_law_below",zr)]
noncomputable def te:ae:=jj TB [] 56 (aa9 "_law_taken") (o0 "_law_taken") (f9 ["rows","place"])
noncomputable abbrev foT (p:Nat) (w:List Nat) (x:Nat) (tl:Fo):Fo:=("rows",.val (.hdr 0))::("place",.val (.int (p:Nat)))::("row",.val (.str (sOf w)))::("letter",.val (sg x))::tl
theorem bl6 {T:Tbl} {g:Sg} {x y:Str} (h:Txt.upper x = y) (hy:j7 y = true):ez T "upper" (.str x) [] g = some (.str y,g):=by
 show (if j7 (Txt.upper x) = true then some (D.str (Txt.upper x),g) else none) = _
 rw [h,if_pos hy]
theorem sd {n:Nat}:bc (n + 1) (-1) = some n:=by
 unfold bc
 rw [if_neg (by decide),if_pos (by lia)]
 congr 1
 lia
theorem bx9 {l:List D} {d:D}:z7 (.lst (l++[d])) (.int (-1)) = some d:=by
 show (bc (l++[d]).length (-1)).bind _ = _
 rw [List.length_append,List.length_singleton,sd]
 show (l++[d])[l.length]? = _
 simp
theorem bv3 {l:List Nat} {c:Nat}:z7 (.str (sOf (l++[c]))) (.int (-1)) = some (sg c):=by
 show (bc (sOf (l++[c])).length (-1)).bind _ = _
 rw [j5,List.length_append,List.length_singleton,sd]
 show ((sOf (l++[c])).cps[l.length]?).map _ = _
 have:(sOf (l++[c])).cps[l.length]? = some c:=by simp [sOf]
 rw [this];rfl
theorem cc2 {l:List D} {d:D}:y0 (.lst (l++[d])) none (some (-1)) none = some (.lst l):=by
 refine tu ?_
 rw [List.length_append,List.length_singleton,rz]
 show ((l++[d]).drop 0).take (l.length - 0) = l
 simp
theorem bz5 {l:List Nat} {c:Nat} (h:l.length < lim):y0 (.str (sOf (l++[c]))) none (some (-1)) none = some (.str (sOf l)):=by
 refine vq (by rw [List.length_append,List.length_singleton];exact h) ?_
 rw [List.length_append,List.length_singleton,rz]
 show ((l++[c]).drop 0).take (l.length - 0) = l
 simp
theorem aj4:∀ {R:Rw} {n:Nat} {w:List Nat},cz R n = some w→∃ q∈R,q.2 = w
 | [],_,_,h=>a8 h
 | q::r,n,w,h=>by
   unfold cz at h
   induction hb:Nat.beq (low q.1) n using Bool.casesOn with
   | true=>rw [hb] at h;injection h with h;exact ⟨q,.head _,h⟩
   | false =>
     rw [hb] at h
     refine zea (aj4 (R:=r) h) fun q2 h1 h2=>?_
     exact ⟨q2,.tail _ h1,h2⟩
theorem Rok.some {R:Rw} {n:Nat} {w:List Nat} (h:Rok R) (hw:cz R n = some w):∀ c∈w,32≤c∧c < 127:=by
 refine zea (aj4 hw) fun q h1 h2=>?_
 subst h2
 exact (h q h1).2
theorem Rok.del {R:Rw} {n:Nat} (h:Rok R):Rok (aa7 R n):=fun q hq=>h q (List.mem_filter.mp hq).1
theorem mo {k:Nat} (hk:k < 3):Is6 (120 + k)∧Is6 (88 + k)∧low (120 + k) = 120 + k∧low (88 + k) = 120 + k:=by
 rcases (by lia:k = 0∨k = 1∨k = 2) with rfl | rfl | rfl
 · exact ⟨.inl rfl,.inr (.inr (.inr (.inl rfl))),rfl,rfl⟩
 · exact ⟨.inr (.inl rfl),.inr (.inr (.inr (.inr (.inl rfl)))),rfl,rfl⟩
 · exact ⟨.inr (.inr (.inl rfl)),.inr (.inr (.inr (.inr (.inr rfl)))),rfl,rfl⟩
theorem uh {R:Rw} {n x y:Nat} {w t:List Nat} (hR:Rok R) (hw:cz R n = some w) (hx:32≤x∧x < 127) (hr:(w.filter fun c=>Nat.ble (c + 1) x).reverse = y::t) :
   (w.filter fun c=>Nat.ble (c + 1) x) = t.reverse++[y]∧(∀ c∈t.reverse++[x]++w.filter (fun c=>!Nat.ble (c + 1) x),32≤c∧c < 127)∧(32≤y∧y < 127):=by
 have e:(w.filter fun c=>Nat.ble (c + 1) x) = t.reverse++[y]:=by
   have:=congrArg List.reverse hr
   rwa [List.reverse_reverse,List.reverse_cons] at this
 have hm:∀ c∈t.reverse++[y],32≤c∧c < 127:=fun c hc=>hR.some hw c (List.mem_filter.mp (e ▸ hc)).1
 refine ⟨e,fun c hc=>?_,hm y (List.mem_append_right _ (.head _))⟩
 rcases List.mem_append.mp hc with hc | hc
 · rcases List.mem_append.mp hc with hc | hc
   · exact hm c (List.mem_append_left _ hc)
   · rw [List.mem_singleton.mp hc];exact hx
 · exact hR.some hw c (List.mem_filter.mp hc).1
theorem wi:∀ {k:Nat} {R R1:Rw} {x y:Nat},k≤3→Rok R→32≤x∧x < 127→lc k R x = some (y,R1)→Rok R1
 | 0,_,_,_,_,_,hR,_,h=>by
   injection h with h
   injection h with h1 h2
   subst h2
   exact hR
 | k + 1,R,R1,x,y,hk,hR,hx,h=>by
   unfold lc at h
   induction hw:cz R (120 + k) using Option.casesOn with
   | none=>rw [hw] at h;exact a8 h
   | some w =>
     rw [hw] at h
     replace h:(match Nat.ble (R.length + w.length) 100 with
       | false=>none
       | true=>match (w.filter fun c=>Nat.ble (c + 1) x).reverse with
         | []=>none
         | y::t=>lc k (ue R (88 + k) (t.reverse++[x]++w.filter fun c=>!Nat.ble (c + 1) x)) y) = some (y,R1):=h
     induction hl:Nat.ble (R.length + w.length) 100 using Bool.casesOn with
     | false=>rw [hl] at h;exact a8 h
     | true =>
       rw [hl] at h
       induction hr:(w.filter fun c=>Nat.ble (c + 1) x).reverse using List.casesOn with
       | nil=>rw [hr] at h;exact a8 h
       | cons y t =>
         rw [hr] at h
         refine za2 (uh hR hw hx hr) fun h1 h2 h3=>?_
         exact wi (by lia) (hR.set (mo (by lia)).2.1 h2) h3 h
end Mine
namespace Mine
open Builtin Builtin.Str StrLaws
theorem bo1 {k:Nat} {R R1:Rw} {x y:Nat} (h:lc (k + 1) R x = some (y,R1)):∃ w z t,cz R (120 + k) = some w∧R.length + w.length≤100∧(w.filter fun c=>Nat.ble (c + 1) x).reverse = z::t∧lc k (ue R (88 + k) (t.reverse++[x]++w.filter fun c=>!Nat.ble (c + 1) x)) z = some (y,R1):=by
 unfold lc at h
 induction hw:cz R (120 + k) using Option.casesOn with
 | none=>rw [hw] at h;exact a8 h
 | some w =>
   rw [hw] at h
   replace h:(match Nat.ble (R.length + w.length) 100 with
     | false=>none
     | true=>match (w.filter fun c=>Nat.ble (c + 1) x).reverse with
       | []=>none
       | y::t=>lc k (ue R (88 + k) (t.reverse++[x]++w.filter fun c=>!Nat.ble (c + 1) x)) y) = some (y,R1):=h
   induction hl:Nat.ble (R.length + w.length) 100 using Bool.casesOn with
   | false=>rw [hl] at h;exact a8 h
   | true =>
     rw [hl] at h
     induction hr:(w.filter fun c=>Nat.ble (c + 1) x).reverse using List.casesOn with
     | nil=>rw [hr] at h;exact a8 h
     | cons z t =>
       rw [hr] at h
       exact ⟨w,z,t,rfl,Nat.le_of_ble_eq_true hl,hr,h⟩
theorem ag3 {p:Nat} {R R1:Rw} {y:Nat} (h:lh p R = some (y,R1)):∃ t x,cz R (120 + p) = some (t++[x])∧R.length + t.length + 1≤100∧lc p (match t with
       | []=>aa7 R (120 + p)
       | _::_=>ue R (120 + p) t) x = some (y,R1):=by
 unfold lh at h
 induction hw:cz R (120 + p) using Option.casesOn with
 | none=>rw [hw] at h;exact a8 h
 | some w =>
   rw [hw] at h
   replace h:(match Nat.ble (R.length + w.length) 100 with
   | false=>none
   | true=>match w.reverse with
     | []=>none
     | x::t=>lc p (match t with
       | []=>aa7 R (120 + p)
       | z::u=>ue R (120 + p) (z::u).reverse) x) = some (y,R1):=h
   induction hl:Nat.ble (R.length + w.length) 100 using Bool.casesOn with
   | false=>rw [hl] at h;exact a8 h
   | true =>
     rw [hl] at h
     induction hr:w.reverse using List.casesOn with
     | nil=>rw [hr] at h;exact a8 h
     | cons x t =>
       rw [hr] at h
       have e:w = t.reverse++[x]:=by
         have:=congrArg List.reverse hr
         rwa [List.reverse_reverse,List.reverse_cons] at this
       subst e
       have hl:=Nat.le_of_ble_eq_true hl
       rw [List.length_append,List.length_singleton] at hl
       refine ⟨_,_,rfl,by lia,?_⟩
       induction t using List.casesOn with
       | nil=>exact h
       | cons z u =>
         have:∃ a b,(z::u).reverse = a::b:=by
           induction hq:(z::u).reverse using List.casesOn with
           | nil=>have:=congrArg List.length hq;simp at this
           | cons a b=>exact ⟨a,b,rfl⟩
         refine ze2 this fun a b e=>?_
         replace h:lc p (ue R (120 + p) (z::u).reverse) x = some (y,R1):=h
         rw [e] at h ⊢
         exact h
theorem al9 {n p k x y:Nat} {w0 w t:List Nat} {R:Rw} {X:List (Str × Str)} {tl:Fo} (hk:k < 3) (hR:Rok R) (hw:cz R (120 + k) = some w) (hl:R.length + w.length≤100) (hx:32≤x∧x < 127) (hr:(w.filter fun c=>Nat.ble (c + 1) x).reverse = y::t) (ht:db ["name","ahead","behind"] tl) (body:List Stmt)
   (hb:body = bo3 ((o0 "_law_taken").drop 3)) :
   ∃ tl1,db ["name","ahead","behind"] tl1∧f7 TB [] (n + 20) (nq "_law_taken") body (j9 [("name",sg (120 + k))] (foT p w0 x tl)) [f8 R,X] = some (.next (foT p w0 y tl1) [f8 (ue R (88 + k) (t.reverse++[x]++w.filter fun c=>!Nat.ble (c + 1) x)),X]):=by
 refine za2 (uh hR hw hx hr) fun ea hwc hy=>?_
 have hsx:=hR.six (by lia)
 have h6:=mo hk
 have hitem:=ah7 (g:=[f8 R,X]) (k:=0) (n:=120 + k) hsx h6.1 rfl (w:=w) (by rw [h6.2.2.1];exact hw)
 have hbl:=bc9 (l:=w) (x:=x) (g:=[f8 R,X])
 unfold sw at hbl
 have hal:(w.filter fun c=>Nat.ble (c + 1) x).length≤w.length:=List.length_filter_le _ _
 have hbl2:(w.filter fun c=>!Nat.ble (c + 1) x).length≤w.length:=List.length_filter_le _ _
 rw [ea] at hbl hal
 rw [List.length_append,List.length_singleton] at hal
 generalize (w.filter fun c=>!Nat.ble (c + 1) x) = b at *
 generalize t.reverse = a at *
 obtain ⟨tl1,⟨tl2,⟨tl3,h4,s3⟩,s2⟩,s1⟩:=ht
 have e0:j9 [(("name":Str),sg (120 + k))] (foT p w0 x tl) = foT p w0 x (("name",.val (sg (120 + k)))::tl1):=by
   show (("rows":Str),_)::(("place":Str),_)::(("row":Str),_)::(("letter":Str),_)::o9 ("name":Str) _ tl = _
   rw [s1]
 have e1:∀ (l m:D),dw (nq "_law_taken") [.Name "ahead" ⟨157,8,157,13⟩,.Name "behind" ⟨157,15,157,21⟩] [l,m] (foT p w0 x (("name",.val (sg (120 + k)))::tl1)) = some (foT p w0 x (("name",.val (sg (120 + k)))::("ahead",.val l)::("behind",.val m)::tl3)):=fun l m=>by
   show some ((("rows":Str),_)::(("place":Str),_)::(("row":Str),_)::(("letter":Str),_)::(("name":Str),_)::o9 "behind" (.val m) (o9 "ahead" (.val l) tl1)) = _
   rw [s2]
   show some ((("rows":Str),_)::(("place":Str),_)::(("row":Str),_)::(("letter":Str),_)::(("name":Str),_)::("ahead",.val l)::o9 "behind" (.val m) tl2) = _
   rw [s3]
 have jn:a.map sg++[sg x]++b.map sg = (a++[x]++b).map sg:=by
   rw [List.map_append,List.map_append];rfl
 have hset:=aa4 (g:=[f8 R,X]) (k:=0) hsx h6.2.1 rfl (w:=a++[x]++b) ⟨by rw [List.length_append,List.length_append,List.length_singleton];lia,hwc⟩
 have hup:Txt.upper (sOf [120 + k]) = sOf [88 + k]:=(up6 (by lia)).trans (by rw [show 120 + k - 32 = 88 + k by lia])
 refine ⟨("name",.val (sg (120 + k)))::("ahead",.val (.lst ((a++[y]).map sg)))::("behind",.val (.lst (b.map sg)))::tl3,j3 (j3 (j3 h4)),?_⟩
 rw [e0]
 subst hb
 conv=>lhs;arg 5;whnf
 refine d7 (gj rfl (mr rfl rfl rfl rfl rfl (b0 rfl (ae3 rfl (a7 rfl rfl) (a7 rfl rfl) hitem) (b0 rfl (a7 rfl rfl) b9)) hbl) rfl (e1 _ _)) ?_
 refine d7 (nh rfl (m8 rfl (j2 rfl) (b0 rfl (j8 (j8 (w4 (a7 rfl rfl) l8 (r7 (jl j4) rfl) l8 ((congrArg (fun l=>y0 (.lst l) none (some (-1)) none) List.map_append).trans cc2)) (di (b0 rfl (a7 rfl rfl) b9) (u9 rfl)) (am0 ?_)) (a7 rfl rfl) ((am0 ?_).trans (by rw [jn]))) b9) (dv ?_)) (a7 rfl rfl) (m8 rfl (a7 rfl rfl) b9 (bl6 hup (me (Nat.le_of_ble_eq_true rfl)))) hset) ?_
 · rw [List.length_map,List.length_singleton];unfold lim;lia
 · rw [List.length_append,List.length_map,List.length_map,List.length_singleton];unfold lim;lia
 · rw [List.length_append,List.length_append,List.length_singleton];unfold lim;lia
 · exact d7 (r8 rfl (d8 (a7 rfl rfl) (jl j4) ((congrArg (fun l=>z7 (.lst l) (.int (-1))) List.map_append).trans bx9))) t8
end Mine
namespace Mine
open Builtin Builtin.Str StrLaws
theorem xo {p:Nat} (hp:p < 3):z7 (.str "XYZ") (.int (p:Nat)) = some (sg (88 + p))∧z7 (.str "xyz") (.int (p:Nat)) = some (sg (120 + p)):=by
 rcases (by lia:p = 0∨p = 1∨p = 2) with rfl | rfl | rfl<;>exact ⟨rfl,rfl⟩
theorem ap3 {p:Nat} (hp:p < 3):y0 (.str "xyz") none (some (p:Nat)) none = some (.str (sOf ([120,121,122].take p)))∧ra (sOf ([120,121,122].take p).reverse) = (List.range p).reverse.map (fun k=>sg (120 + k)):=by
 rcases (by lia:p = 0∨p = 1∨p = 2) with rfl | rfl | rfl<;>exact ⟨vq (l:=[120,121,122]) (by decide) (by rfl),rfl⟩
theorem bg9 {p y:Nat} {R R1:Rw} {X:List (Str × Str)} (hp:p < 3) (hR:Rok R) (h:lh p R = some (y,R1)):te [.hdr 0,.int (p:Nat)] [f8 R,X] = some (sg y,[f8 R1,X]):=by
 have key:f7 TB [] 56 (nq "_law_taken") (o0 "_law_taken") (m0 [("rows",.hdr 0),("place",.int (p:Nat))]) [f8 R,X] = some (.ret (sg y) [f8 R1,X]):=by
   refine ze2a2 (ag3 h) fun t x hw hl hb=>?_
   have hs:=hR.six (by lia)
   have h6:=mo hp
   have hwc:=hR.some hw
   have hx:=hwc x (List.mem_append_right _ (.head _))
   have hitem:=ah7 (g:=[f8 R,X]) (k:=0) (n:=88 + p) hs h6.2.1 rfl (by rw [h6.2.2.2];exact hw)
   have tail:=@al9 31 p
   have loop:∀ (R2:Rw),Rok R2→lc p R2 x = some (y,R1)→∀ r,r = (o0 "_law_taken").drop 3→f7 TB [] 53 (nq "_law_taken") r (foT p (t++[x]) x []) [f8 R2,X] = some (.ret (sg y) [f8 R1,X]):=fun R2 hR2 hb2 r er=>by
     subst er
     conv=>lhs;arg 5;whnf
     refine si (f:=fun (k:Nat)=>sg (120 + k)) (l:=(List.range p).reverse) (fun _ _=>False)
       (fun l fo g=>∃ k z R tl,k≤3∧l = (List.range k).reverse∧fo = foT p (t++[x]) z tl∧g = [f8 R,X]∧db ["name","ahead","behind"] tl∧Rok R∧(32≤z∧z < 127)∧lc k R z = some (y,R1))
       rfl (nf rfl (gw rfl (w4 (w4 (j2 rfl) l8 (r7 (a7 rfl rfl) (gq (by lia))) l8 (ap3 hp).1) l8 l8 (r7 (jl j4) rfl) (yc ?_)) (congrArg some (ap3 hp).2))) ⟨p,x,R2,[],by lia,rfl,rfl,rfl,bq _,hR2,hx,hb2⟩ ?_ ?_ (fun _ _ h=>h.elim)
     · rw [List.length_take];unfold lim;lia
     · rintro c r fo g ⟨k,x2,R3,tl,hk,e,rfl,rfl,hsl,hR3,hx2,hf⟩
       induction k using Nat.casesOn with
       | zero=>cases e
       | succ k =>
         rw [List.range_succ,List.reverse_append] at e
         injection e with e1 e2
         subst e1;subst e2
         refine ⟨_,rfl,rfl,.inl ?_⟩
         refine ze3a3 (bo1 hf) fun w z u h1 h2 h3 h4=>?_
         refine zea (tail (w0:=t++[x]) (X:=X) (by lia) hR3 h1 h2 hx2 h3 hsl _ rfl) fun tl1 h5 h6=>?_
         refine za2 (uh hR3 h1 hx2 h3) fun J hwc2 hz=>?_
         exact ⟨_,_,h6,c,z,_,tl1,by lia,rfl,rfl,rfl,h5,hR3.set (mo (by lia)).2.1 hwc2,hz,h4⟩
     · rintro fo g ⟨k,x2,R3,tl,hk,e,rfl,rfl,hsl,hR3,hx2,hf⟩
       have:k = 0:=by
         have:=congrArg List.length e
         rw [List.length_reverse,List.length_range,List.length_nil] at this
         exact this.symm
       subst this
       injection hf with hf
       injection hf with e1 e2
       subst e1;subst e2
       exact dg (v5 (a7 rfl rfl))
   conv=>lhs;arg 5;whnf
   refine d7 (r8 rfl (ae3 rfl (a7 rfl rfl) (d8 (j2 rfl) (a7 rfl rfl) (xo hp).1) hitem)) ?_
   refine d7 (r8 rfl (d8 (a7 rfl rfl) (jl j4) bv3)) ?_
   induction t using List.casesOn with
   | nil =>
     refine d7 (gu (c:=true) (r0 (a7 rfl rfl) (a7 rfl rfl) (by rw [lg];exact congrArg some (beq_self_eq_true _))) (d7 (bh2 (a7 rfl rfl) (d8 (j2 rfl) (a7 rfl rfl) (xo hp).2) rfl (av0 (k:=0) hs h6.1 rfl)) t8)) ?_
     rw [h6.2.2.1]
     exact loop _ hR.del hb _ rfl
   | cons c t =>
     refine d7 (gu (c:=false) (r0 (a7 rfl rfl) (a7 rfl rfl) ?_) (d7 (nh rfl (w4 (a7 rfl rfl) l8 (r7 (jl j4) rfl) l8 (bz5 ?_)) (a7 rfl rfl) (d8 (j2 rfl) (a7 rfl rfl) (xo hp).2) (aa4 (k:=0) hs h6.1 rfl ⟨?_,?_⟩)) t8)) ?_
     · rw [lg,mz]
       congr 1
       rw [beq_eq_false_iff_ne]
       intro h
       have:=congrArg List.length h
       simp at this
     · unfold lim;lia
     · lia
     · exact fun d hd=>hwc d (List.mem_append_left _ hd)
     · exact loop _ (hR.set h6.1 fun d hd=>hwc d (List.mem_append_left _ hd)) hb _ rfl
 exact gn ["rows","place"] (l:=[("rows",.hdr 0),("place",.int (p:Nat))]) rfl rfl (by decide +kernel) key
end Mine
namespace Mine
open Builtin Builtin.Str StrLaws
noncomputable def nth:List Nat→Nat→Nat
 | [],_=>0
 | x::_,0=>x
 | _::r,i + 1=>nth r i
noncomputable def gh (c:Nat):Nat→List Nat→List Nat
 | acc,[]=>[acc]
 | acc,x::r=>acc::gh c (match Nat.beq x c with
   | true=>acc + 1
   | false=>acc) r
noncomputable def mx (a b:Nat):Nat:=match Nat.ble b a with
 | true=>a
 | false=>b
noncomputable def mn (a b:Nat):Nat:=match Nat.ble a b with
 | true=>a
 | false=>b
noncomputable def qv (v:Nat→Nat):Nat→Nat
 | 0=>v 0
 | m + 1=>mx (v (m + 1)) (qv v m)
noncomputable def ny (v:Nat→Nat):Nat→Nat
 | 0=>v 0
 | m + 1=>mn (v (m + 1)) (ny v m)
noncomputable def fw (l:List Nat):List D:=l.map fun (k:Nat)=>.int (k:Nat)
theorem gy:∀ {l:List Nat} {i:Nat},i < l.length→l[i]? = some (nth l i)
 | [],_,h=>absurd h (Nat.not_lt_zero _)
 | _::_,0,_=>rfl
 | _::r,i + 1,h=>gy (l:=r) (i:=i) (Nat.lt_of_succ_lt_succ h)
theorem ai9 {l:List Nat} {i:Nat} (h:i < l.length):z7 (.lst (fw l)) (.int (i:Nat)) = some (.int (nth l i:Nat)) :=
 ou (by unfold fw;rw [List.getElem?_map,gy h];rfl)
theorem mf {a b:Nat} (h:b≤a):ac6 .Sub (.int (a:Nat)) (.int (b:Nat)) = some (.int ((a - b:Nat):Int)):=by
 show some (D.int ((a:Int) - (b:Int))) = _
 rw [Int.ofNat_sub h]
theorem cb7 {a b:Nat}:(mx a b = a∧b≤a)∨(mx a b = b∧a≤b):=by
 unfold mx
 induction h:Nat.ble b a using Bool.casesOn with
 | true=>exact .inl ⟨rfl,Nat.le_of_ble_eq_true h⟩
 | false=>exact .inr ⟨rfl,Nat.le_of_not_le fun h2=>by rw [Nat.ble_eq_true_of_le h2] at h;injection h⟩
theorem ch1 {a b:Nat}:(mn a b = a∧a≤b)∨(mn a b = b∧b≤a):=by
 unfold mn
 induction h:Nat.ble a b using Bool.casesOn with
 | true=>exact .inl ⟨rfl,Nat.le_of_ble_eq_true h⟩
 | false=>exact .inr ⟨rfl,Nat.le_of_not_le fun h2=>by rw [Nat.ble_eq_true_of_le h2] at h;injection h⟩
theorem ai2 {v:Nat→Nat}:∀ m,(∃ i,i≤m∧qv v m = v i)∧∀ i,i≤m→v i≤qv v m
 | 0=>⟨⟨0,Nat.le_refl _,rfl⟩,fun i h=>by rw [Nat.le_zero.mp h];exact Nat.le_refl _⟩
 | m + 1=>by
   refine za (ai2 (v:=v) m) fun h1 h2=>zea h1 fun i h3 h4=>?_
   rcases cb7 (a:=v (m + 1)) (b:=qv v m) with ⟨e,h⟩ | ⟨e,h⟩
   · refine ⟨⟨m + 1,Nat.le_refl _,e⟩,fun j hj=>?_⟩
     show v j≤mx (v (m + 1)) (qv v m)
     rw [e]
     rcases Nat.lt_or_ge j (m + 1) with h5 | h5
     · exact Nat.le_trans (h2 j (by lia)) h
     · rw [show j = m + 1 by lia];exact Nat.le_refl _
   · refine ⟨⟨i,by lia,e.trans h4⟩,fun j hj=>?_⟩
     show v j≤mx (v (m + 1)) (qv v m)
     rw [e]
     rcases Nat.lt_or_ge j (m + 1) with h5 | h5
     · exact h2 j (by lia)
     · rw [show j = m + 1 by lia];exact h
theorem ah3 {v:Nat→Nat}:∀ m,(∃ i,i≤m∧ny v m = v i)∧∀ i,i≤m→ny v m≤v i
 | 0=>⟨⟨0,Nat.le_refl _,rfl⟩,fun i h=>by rw [Nat.le_zero.mp h];exact Nat.le_refl _⟩
 | m + 1=>by
   refine za (ah3 (v:=v) m) fun h1 h2=>zea h1 fun i h3 h4=>?_
   rcases ch1 (a:=v (m + 1)) (b:=ny v m) with ⟨e,h⟩ | ⟨e,h⟩
   · refine ⟨⟨m + 1,Nat.le_refl _,e⟩,fun j hj=>?_⟩
     show mn (v (m + 1)) (ny v m)≤v j
     rw [e]
     rcases Nat.lt_or_ge j (m + 1) with h5 | h5
     · exact Nat.le_trans h (h2 j (by lia))
     · rw [show j = m + 1 by lia];exact Nat.le_refl _
   · refine ⟨⟨i,by lia,e.trans h4⟩,fun j hj=>?_⟩
     show mn (v (m + 1)) (ny v m)≤v j
     rw [e]
     rcases Nat.lt_or_ge j (m + 1) with h5 | h5
     · exact h2 j (by lia)
     · rw [show j = m + 1 by lia];exact h
theorem nc {α:Type} {f:α→Int}:∀ (l:List α),jm (l.map fun i=>.int (f i)) = some (l.map f)
 | []=>rfl
 | i::r=>by show (jm (r.map fun i=>.int (f i))).map _ = _;rw [nc r];rfl
theorem ba0 {T:Tbl} {v:Nat→Nat} {n:Nat} {g:Sg}:ce T "max" [.lst ((List.range' 0 (n + 1)).map fun (i:Nat)=>.int (v i:Nat))] g = some (.int (qv v n:Nat),g):=by
 show ((jm ((List.range' 0 (n + 1)).map fun (i:Nat)=>.int (v i:Nat))).bind (ba7 true)).map _ = _
 rw [nc]
 have:((List.range' 0 (n + 1)).map fun (i:Nat)=>((v i:Nat):Int)).max? = some ((qv v n:Nat):Int):=by
   refine za (ai2 (v:=v) n) fun h1 h2=>zea h1 fun i h3 h4=>?_
   rw [List.max?_eq_some_iff]
   refine ⟨List.mem_map.mpr ⟨i,List.mem_range'_1.mpr ⟨Nat.zero_le _,by lia⟩,by rw [h4]⟩,fun b hb=>?_⟩
   refine zea (List.mem_map.mp hb) fun j hj e=>?_
   rw [← e]
   exact Int.ofNat_le.mpr (h2 j (by have:=(List.mem_range'_1.mp hj).2;lia))
 show (ba7 true _).map _ = _
 rw [show ba7 true ((List.range' 0 (n + 1)).map fun (i:Nat)=>((v i:Nat):Int)) = some ((qv v n:Nat):Int) from (if_pos rfl).trans this];rfl
theorem bf6 {T:Tbl} {v:Nat→Nat} {n x:Nat} {g:Sg}:ce T "min" [.lst (.int (x:Nat)::(List.range' 0 (n + 1)).map fun (i:Nat)=>.int (v i:Nat))] g = some (.int (mn x (ny v n):Nat),g):=by
 show ((Option.map _ (jm ((List.range' 0 (n + 1)).map fun (i:Nat)=>.int (v i:Nat)))).bind (ba7 false)).map _ = _
 rw [nc]
 have:(((x:Nat):Int)::(List.range' 0 (n + 1)).map fun (i:Nat)=>((v i:Nat):Int)).min? = some ((mn x (ny v n):Nat):Int):=by
   refine za (ah3 (v:=v) n) fun h1 h2=>zea h1 fun i h3 h4=>?_
   rw [List.min?_eq_some_iff]
   have hm:∀ b∈(List.range' 0 (n + 1)).map fun (i:Nat)=>((v i:Nat):Int),((ny v n:Nat):Int)≤b:=fun b hb=>by
     refine zea (List.mem_map.mp hb) fun j hj e=>?_
     rw [← e]
     exact Int.ofNat_le.mpr (h2 j (by have:=(List.mem_range'_1.mp hj).2;lia))
   rcases ch1 (a:=x) (b:=ny v n) with ⟨e,h⟩ | ⟨e,h⟩
   · rw [e]
     refine ⟨.head _,fun b hb=>?_⟩
     rcases List.mem_cons.mp hb with rfl | hb
     · exact Int.le_refl _
     · have:=hm b hb
       lia
   · rw [e]
     refine ⟨.tail _ (List.mem_map.mpr ⟨i,List.mem_range'_1.mpr ⟨Nat.zero_le _,by lia⟩,by rw [h4]⟩),fun b hb=>?_⟩
     rcases List.mem_cons.mp hb with rfl | hb
     · exact Int.ofNat_le.mpr h
     · exact hm b hb
 show (ba7 false _).map _ = _
 rw [show ba7 false (((x:Nat):Int)::(List.range' 0 (n + 1)).map fun (i:Nat)=>((v i:Nat):Int)) = some ((mn x (ny v n):Nat):Int) from (if_neg (by decide)).trans this];rfl
theorem aq9 {T:Tbl} {a b:Nat} {g:Sg}:ce T "max" [.int (a:Nat),.int (b:Nat)] g = some (.int (mx a b:Nat),g):=by
 show some (D.int (if (b:Int) > (a:Int) then (b:Int) else (a:Int)),g) = _
 congr 3
 rcases cb7 (a:=a) (b:=b) with ⟨e,h⟩ | ⟨e,h⟩<;>rw [e]<;>split<;>lia
theorem af3 {c:Nat}:∀ (k:Nat) (acc:Array Nat),(List.replicate k #[c]).foldl (·++·) acc = acc++(List.replicate k c).toArray
 | 0,acc=>by simp
 | k + 1,acc=>by
   rw [List.replicate_succ,List.foldl_cons,af3 k,Array.append_assoc]
   congr 1
   apply Array.toList_inj.mp
   simp [List.replicate_succ]
theorem ct9 {c k:Nat} (h:k≤1000):ac6 .Mult (.str (sOf [c])) (.int (k:Nat)) = some (.str (sOf (List.replicate k c))):=by
 show (if (0:Int)≤(k:Nat)∧(sOf [c]).length * ((k:Nat):Int).toNat≤lim∧((k:Nat):Int)≤lim∧(sOf [c]).length≤lim then some (D.str (Txt.mul (sOf [c]) (k:Nat))) else none) = _
 rw [j5,if_pos (by unfold lim;simp;lia)]
 congr 2
 unfold Txt.mul
 by_cases h0:k = 0
 · subst h0;rfl
 · rw [if_neg (by lia)]
   by_cases h1:k = 1
   · subst h1;rfl
   · rw [if_neg (by rw [j5];simp;lia)]
     show (⟨(List.replicate ((k:Nat):Int).toNat #[c]).foldl (·++·) #[]⟩:Str) = _
     rw [Int.toNat_natCast,af3]
     simp [sOf]
noncomputable def ac5 (c:Nat):List Nat→Nat
 | []=>0
 | x::r=>(match Nat.beq x c with
   | true=>1
   | false=>0) + ac5 c r
theorem bh6 {c:Nat}:∀ l:List Nat,cnt c l = (ac5 c l:Nat)
 | []=>rfl
 | x::r=>by
   rw [cnt_cons,bh6 r]
   show _ = (((match Nat.beq x c with
   | true=>1
   | false=>0) + ac5 c r:Nat):Int)
   induction h:Nat.beq x c using Bool.casesOn with
   | true=>rw [if_pos (Nat.eq_of_beq_eq_true h)];simp
   | false=>rw [if_neg (fun e=>by rw [e,Nat.beq_refl] at h;injection h)];simp
theorem bn3 {T:Tbl} {l:List Nat} {c:Nat} {g:Sg}:ez T "count" (.str (sOf l)) [sg c] g = some (.int (ac5 c l:Nat),g):=by
 show some (D.int (Txt.count (sOf l) (sOf [c])),g) = _
 have:=count_cnt (sOf l) c
 rw [show (sOf [c]) = ⟨#[c]⟩ from rfl,this,show (sOf l).cps.toList = l from rfl,bh6]
theorem vf {c:Nat}:∀ {acc:Nat} {l:List Nat},(gh c acc l).length = l.length + 1
 | _,[]=>rfl
 | acc,x::r=>by
   show (gh c _ r).length + 1 = _
   rw [vf,List.length_cons]
theorem on {c:Nat}:∀ {l:List Nat} {acc:Nat},gh c acc l = (List.range' 0 (l.length + 1)).map fun k=>acc + ac5 c (l.take k)
 | [],acc=>rfl
 | x::r,acc=>by
   show acc::gh c _ r = _
   have e:List.range' 1 (r.length + 1) = (List.range' 0 (r.length + 1)).map (fun x=>1 + x):=(List.map_add_range' 0 (r.length + 1) 1).symm
   rw [on (l:=r),List.length_cons]
   conv=>rhs;rw [List.range'_succ,List.map_cons]
   refine congr (congrArg List.cons (show acc = acc + 0 from rfl)) ?_
   rw [Nat.zero_add,e,List.map_map]
   refine List.map_congr_left fun k J=>?_
   show _ = acc + ac5 c ((x::r).take (1 + k))
   rw [Nat.add_comm 1 k,List.take_succ_cons]
   show (match Nat.beq x c with
   | true=>acc + 1
   | false=>acc) + ac5 c (r.take k) = acc + ((match Nat.beq x c with
   | true=>1
   | false=>0) + ac5 c (r.take k))
   induction Nat.beq x c using Bool.casesOn<;>simp<;>lia
theorem as9 {c:Nat}:∀ {l:List Nat} {i j:Nat},i≤j→ac5 c (l.take i)≤ac5 c (l.take j)
 | [],i,j,_=>by simp
 | x::r,0,j,_=>by simp [ac5]
 | x::r,i + 1,0,h=>absurd h (by lia)
 | x::r,i + 1,j + 1,h=>by
   rw [List.take_succ_cons,List.take_succ_cons]
   exact Nat.add_le_add_left (as9 (l:=r) (Nat.le_of_succ_le_succ h)) _
theorem ae4 {c:Nat} {l:List Nat} {k:Nat} (h:k≤l.length):nth (gh c 0 l) k = ac5 c (l.take k):=by
 have h1:=gy (l:=gh c 0 l) (i:=k) (by rw [vf];lia)
 rw [on,List.getElem?_map,List.getElem?_range' (by lia)] at h1
 rw [← on] at h1
 simpa using h1.symm
theorem ax9 {c:Nat} {l:List Nat} {i j:Nat} (h:i≤j) (hj:j≤l.length):nth (gh c 0 l) i≤nth (gh c 0 l) j:=by
 rw [ae4 hj,ae4 (Nat.le_trans h hj)]
 exact as9 h
end Mine
namespace Mine
open Builtin Builtin.Str StrLaws
noncomputable def cm2 (an bn n two f t:Nat):Option (List (List Nat)) :=
 match Nat.ble an two&&Nat.ble two f&&Nat.ble two (an + bn)&&Nat.ble (f + t + (an + bn - two)) n&&Nat.ble n 100 with
 | false=>none
 | true=>some [List.replicate an 97++List.replicate (two - an) 98++List.replicate (f - two) 99,List.replicate (an + bn - two) 98++List.replicate (n - f - t - (an + bn - two)) 99,List.replicate t 99]
noncomputable def ay7 (a b:List Nat) (n:Nat):Nat:=qv (fun i=>nth a i + nth b n - nth b i) n
noncomputable def qi (a b c:List Nat) (n f:Nat):Nat:=mx (ay7 a b n) (f + nth c n - nth c (n - 1))
noncomputable def ot (a b c:List Nat) (n t:Nat):Nat:=mn (t + nth a n - nth a (n - 1)) (ny (fun i=>nth c i + nth b n - nth b i) n)
noncomputable def aw4 (a b c:List Nat):Nat→Nat→Nat→Nat→Option (List (List (List Nat)))
 | 0,_,_,_=>some []
 | m + 1,n,f,t=>(cm2 (nth a n) (nth b n) n (ay7 a b n) (qi a b c n f) (ot a b c n t)).bind fun r=>(aw4 a b c m (n + 1) (qi a b c n f) (ot a b c n t)).map (r::·)
noncomputable def z3 (r:List (List Nat)):D:=.lst (r.map fun w=>.str (sOf w))
theorem bj1 {an bn n two f t:Nat} {r:List (List Nat)} (h:cm2 an bn n two f t = some r):an≤two∧two≤f∧two≤an + bn∧f + t + (an + bn - two)≤n∧n≤100∧r = [List.replicate an 97++List.replicate (two - an) 98++List.replicate (f - two) 99,List.replicate (an + bn - two) 98++List.replicate (n - f - t - (an + bn - two)) 99,List.replicate t 99]:=by
 unfold cm2 at h
 induction hb:(Nat.ble an two&&Nat.ble two f&&Nat.ble two (an + bn)&&Nat.ble (f + t + (an + bn - two)) n&&Nat.ble n 100) using Bool.casesOn with
 | false=>rw [hb] at h;exact a8 h
 | true =>
   rw [hb] at h
   injection h with h
   rw [Bool.and_eq_true,Bool.and_eq_true,Bool.and_eq_true,Bool.and_eq_true] at hb
   exact ⟨Nat.le_of_ble_eq_true hb.1.1.1.1,Nat.le_of_ble_eq_true hb.1.1.1.2,Nat.le_of_ble_eq_true hb.1.1.2,Nat.le_of_ble_eq_true hb.1.2,Nat.le_of_ble_eq_true hb.2,h.symm⟩
noncomputable def ac4:ae:=jj Tz ["dues"] 56 (aa9 "_law_dues") (o0 "_law_dues") (f9 ["word"])
noncomputable abbrev foD (W a b c:List Nat) (f t:Nat) (acc:List (List (List Nat))) (tl:Fo):Fo :=
 ("word",.val (.str (sOf W)))::("a",.val (.lst (fw a)))::("b",.val (.lst (fw b)))::("c",.val (.lst (fw c)))::("third",.val (.int (t:Nat)))::("first",.val (.int (f:Nat)))::("dues",.own (acc.map z3))::tl
noncomputable abbrev co4:List Stmt:=bo3 ((o0 "_law_dues").drop 2)
theorem r5 {T:Tbl} {mu:List Str} {n:Nat} {kd:Kd} {fo fo1:Fo} {g g1:Sg} {x:Str} {px sp:Pos} {e:Expr} {d:D} (hx:c9 kd x = true) (h:pev T n kd (d6 fo) e g = some (d,g1)) (he:o9 x (.val d) fo = fo1):be T mu (n + 1) kd (.Assign [.Name x px] e sp) fo g = some (.next fo1 g1):=by
 rw [← he];exact r8 hx h
theorem rm {T:Tbl} {m:Nat} {kd:Kd} {ro:Ro} {g:Sg} {e:Expr} {k:Nat} {c:Nat} {p q:Pos} {z:Nat} {s:Str} (hs:s = sOf [c]) (h:pev T (m + 1) kd ro e g = some (.int (k:Nat),g)) (hk:k≤1000):pev T (m + 1 + 1) kd ro (.BinOp (.Constant (.str s) z q) .Mult e p) g = some (.str (sOf (List.replicate k c)),g):=by
 subst hs
 exact j8 (j2 (me (Nat.le_of_ble_eq_true rfl))) h (ct9 hk)
theorem at8 {fo:Fo} {z:Str} {l:List D} {e:Expr} {pz p q:Pos} (h1:fo.lookup z = some (.own l)) (hc:(z != ("__debug__":Str)&&q.endLine==p.line&&f5 e) = true) (hl:l.length < lim):bs6 fo (.Call (.Attribute (.Name z pz) "append" q) [e] [] p) = some (z,l,e):=by
 show (match fo.lookup z with
   | some (.own l)=>if (("append":Str)==("append":Str)&&z != ("__debug__":Str)&&q.endLine==p.line&&f5 e&&decide (l.length < lim)) = true then some (z,l,e) else none
   | _=>none) = _
 rw [h1]
 refine if_pos ?_
 rw [decide_eq_true hl,Bool.and_true,beq_self_eq_true,Bool.true_and]
 exact hc
theorem ci8 {an k n two f t:Nat} (q1:an≤two) (q2:two≤f) (q4:f + t + k≤n) (q5:n≤100):an≤1000∧k≤n - f - t∧f≤n∧t≤n - f∧n≤1000:=by
 have h1:=Nat.le_trans (Nat.le_add_right (f + t) k) q4
 have h2:=Nat.le_trans (Nat.le_add_right f t) h1
 refine ⟨Nat.le_trans (Nat.le_trans q1 (Nat.le_trans q2 h2)) (Nat.le_trans q5 (by decide)),?_,h2,Nat.le_sub_of_add_le' h1,Nat.le_trans q5 (by decide)⟩
 rw [Nat.sub_sub];exact Nat.le_sub_of_add_le' q4
theorem av9 {a b:Nat} (h1:a≤1000) (h2:b≤1000):a + b≤lim:=Nat.le_trans (Nat.add_le_add h1 h2) (by decide)
theorem aq1 {a b c:Nat} (h1:a≤1000) (h2:b≤1000) (h3:c≤1000):a + b + c≤lim:=Nat.le_trans (Nat.add_le_add (Nat.add_le_add h1 h2) h3) (by decide)
theorem ay3 {m n f t:Nat} {W a b c:List Nat} {acc:List (List (List Nat))} {tl:Fo} {g:Sg} {r:List (List Nat)} (ea:gh 97 0 W = a) (eb:gh 98 0 W = b) (ec:gh 99 0 W = c) (h1:1≤n) (hn:n≤W.length) (hW:W.length≤100) (ha:acc.length≤1000) (ht:db ["n","two","low"] tl)
   (hr:cm2 (nth a n) (nth b n) n (ay7 a b n) (qi a b c n f) (ot a b c n t) = some r) :
   ∃ tl1,db ["n","two","low"] tl1∧f7 Tz ["dues"] (m + 30) (nq "_law_dues") co4 (j9 [("n",.int (n:Nat))] (foD W a b c f t acc tl)) g = some (.next (foD W a b c (qi a b c n f) (ot a b c n t) (acc++[r]) tl1) g):=by
 obtain ⟨q1,q2,q3,q4,q5,q6⟩:=bj1 hr
 obtain ⟨tl1,⟨tl2,⟨tl3,h4,s3⟩,s2⟩,s1⟩:=ht
 have la:∀ c i,i≤n→i < (gh c 0 W).length:=fun c i hi=>by rw [vf];lia
 have mono:∀ c i j,i≤j→j≤n→nth (gh c 0 W) i≤nth (gh c 0 W) j:=fun c i j hi hj=>ax9 hi (by lia)
 have e0:j9 [(("n":Str),D.int (n:Nat))] (foD W a b c f t acc tl) = foD W a b c f t acc (("n",.val (.int (n:Nat)))::tl1):=by
   show (("word":Str),_)::(("a":Str),_)::(("b":Str),_)::(("c":Str),_)::(("third":Str),_)::(("first":Str),_)::(("dues":Str),_)::o9 ("n":Str) _ tl = _
   rw [s1]
 have e1:∀ d:D,o9 "two" (.val d) (foD W a b c f t acc (("n",.val (.int (n:Nat)))::tl1)) = foD W a b c f t acc (("n",.val (.int (n:Nat)))::("two",.val d)::tl2):=fun d=>by
   show (("word":Str),_)::(("a":Str),_)::(("b":Str),_)::(("c":Str),_)::(("third":Str),_)::(("first":Str),_)::(("dues":Str),_)::(("n":Str),_)::o9 "two" (.val d) tl1 = _
   rw [s2]
 have e2:∀ (f t:Nat) (v d:D),o9 "low" (.val d) (foD W a b c f t acc (("n",.val (.int (n:Nat)))::("two",.val v)::tl2)) = foD W a b c f t acc (("n",.val (.int (n:Nat)))::("two",.val v)::("low",.val d)::tl3):=fun f t v d=>by
   show (("word":Str),_)::(("a":Str),_)::(("b":Str),_)::(("c":Str),_)::(("third":Str),_)::(("first":Str),_)::(("dues":Str),_)::(("n":Str),_)::(("two":Str),_)::o9 "low" (.val d) tl2 = _
   rw [s3]
 have hrg:=bm3 (b:=n + 1) (by lia)
 have ia:∀ i,i≤n→z7 (.lst (fw a)) (.int (i:Nat)) = some (.int (nth a i:Nat)):=fun i hi=>ai9 (by rw [← ea];exact la 97 i hi)
 have ib:∀ i,i≤n→z7 (.lst (fw b)) (.int (i:Nat)) = some (.int (nth b i:Nat)):=fun i hi=>ai9 (by rw [← eb];exact la 98 i hi)
 have ic:∀ i,i≤n→z7 (.lst (fw c)) (.int (i:Nat)) = some (.int (nth c i:Nat)):=fun i hi=>ai9 (by rw [← ec];exact la 99 i hi)
 have mb:∀ i,i≤n→nth b i≤nth b n:=fun i hi=>by rw [← eb];exact mono 98 i n hi (Nat.le_refl _)
 have ma:nth a (n - 1)≤nth a n:=by rw [← ea];exact mono 97 _ n (by lia) (Nat.le_refl _)
 have mc:nth c (n - 1)≤nth c n:=by rw [← ec];exact mono 99 _ n (by lia) (Nat.le_refl _)
 refine ⟨("n",.val (.int (n:Nat)))::("two",.val (.int (ay7 a b n:Nat)))::("low",.val (.int (nth a n + nth b n - ay7 a b n:Nat)))::tl3,j3 (j3 (j3 h4)),?_⟩
 rw [e0]
 conv=>lhs;arg 5;whnf
 have in1:∀ i∈List.range' 0 (n + 1),i≤n:=fun i hi=>by have:=(List.mem_range'_1.mp hi).2;lia
 refine d7 (r5 rfl (fg rfl rfl rfl rfl rfl (b0 rfl (z1 (ys:=(List.range' 0 (n + 1)).map fun (i:Nat)=>D.int ((nth a i + nth b n - nth b i:Nat):Int)) (g2:=g) rfl (bo rfl (b0 rfl (j8 (a7 rfl rfl) j4 lb) b9) hrg) (u7 fun i hi=>⟨_,rfl,rfl,j8 (j8 (d8 (a7 rfl rfl) (a7 rfl rfl) (ia i (in1 i hi))) (d8 (a7 rfl rfl) (a7 rfl rfl) (ib n (Nat.le_refl _))) lb) (d8 (a7 rfl rfl) (a7 rfl rfl) (ib i (in1 i hi))) (mf (by have:=mb i (in1 i hi);lia))⟩) (by rw [List.length_map,List.length_range'];unfold lim;lia)) b9) ba0) (e1 _)) ?_
 refine d7 (r8 rfl (fg rfl rfl rfl rfl rfl (b0 rfl (a7 rfl rfl) (b0 rfl (j8 (j8 (a7 rfl rfl) (d8 (a7 rfl rfl) (a7 rfl rfl) (ic n (Nat.le_refl _))) lb) (d8 (a7 rfl rfl) (j8 (a7 rfl rfl) j4 (mf (b:=1) h1)) (ic (n - 1) (by lia))) (mf (by lia))) b9)) aq9)) ?_
 refine d7 (r8 rfl (fg rfl rfl rfl rfl rfl (b0 rfl (j8 (di (b0 rfl (j8 (j8 (a7 rfl rfl) (d8 (a7 rfl rfl) (a7 rfl rfl) (ia n (Nat.le_refl _))) lb) (d8 (a7 rfl rfl) (j8 (a7 rfl rfl) j4 (mf (b:=1) h1)) (ia (n - 1) (by lia))) (mf (by lia))) b9) (u9 rfl)) (z1 (ys:=(List.range' 0 (n + 1)).map fun (i:Nat)=>D.int ((nth c i + nth b n - nth b i:Nat):Int)) (g2:=g) rfl (bo rfl (b0 rfl (j8 (a7 rfl rfl) j4 lb) b9) hrg) (u7 fun i hi=>⟨_,rfl,rfl,j8 (j8 (d8 (a7 rfl rfl) (a7 rfl rfl) (ic i (in1 i hi))) (d8 (a7 rfl rfl) (a7 rfl rfl) (ib n (Nat.le_refl _))) lb) (d8 (a7 rfl rfl) (a7 rfl rfl) (ib i (in1 i hi))) (mf (by have:=mb i (in1 i hi);lia))⟩) (by rw [List.length_map,List.length_range'];unfold lim;lia)) (am0 (by rw [List.length_map,List.length_range',List.length_singleton];unfold lim;lia))) b9) bf6)) ?_
 refine d7 (r5 rfl (j8 (j8 (d8 (a7 rfl rfl) (a7 rfl rfl) (ia n (Nat.le_refl _))) (d8 (a7 rfl rfl) (a7 rfl rfl) (ib n (Nat.le_refl _))) lb) (a7 rfl rfl) (mf q3)) (e2 (qi a b c n f) (ot a b c n t) (.int (ay7 a b n:Nat)) _)) ?_
 have hacc:acc.map z3++[z3 r] = (acc++[r]).map z3:=by rw [List.map_append];rfl
 refine d7 (fo1:=foD W a b c (qi a b c n f) (ot a b c n t) (acc++[r]) (("n",.val (.int (n:Nat)))::("two",.val (.int (ay7 a b n:Nat)))::("low",.val (.int (nth a n + nth b n - ay7 a b n:Nat)))::tl3)) (g1:=g) ?_ t8
 have la2:(acc.map z3).length < lim:=by rw [List.length_map];unfold lim;lia
 have an:=ia n (Nat.le_refl _)
 have lenr:∀ k c:Nat,(List.replicate k c).length = k:=fun k c=>List.length_replicate
 refine za4 (ci8 q1 q2 q4 q5) fun b1 q7 q8 q9 bn=>?_
 have bs:∀ {x y:Nat},x≤n→x - y≤1000:=fun h=>Nat.le_trans (Nat.sub_le _ _) (Nat.le_trans h bn)
 have c1:=bs (y:=nth a n) (Nat.le_trans q2 q8)
 have c2:=bs (y:=ay7 a b n) q8
 have b2:=Nat.le_trans q7 (Nat.le_trans (Nat.sub_le _ _) (bs (Nat.le_refl n)))
 have b3:n - qi a b c n f - ot a b c n t - (nth a n + nth b n - ay7 a b n)≤1000:=Nat.le_trans (Nat.sub_le _ _) (Nat.le_trans (Nat.sub_le _ _) (bs (Nat.le_refl n)))
 refine (xr (at8 (l:=acc.map z3) rfl rfl la2) (d:=z3 r) (g1:=g) ?_).trans ?_
 · rw [q6]
   exact di (b0 rfl (j8 (j8 (rm (c:=97) rfl (d8 (a7 rfl rfl) (a7 rfl rfl) an) b1) (rm (c:=98) rfl (j8 (a7 rfl rfl) (d8 (a7 rfl rfl) (a7 rfl rfl) an) (mf q1)) c1) (aj5 (by rw [lenr,lenr];exact av9 b1 c1))) (rm (c:=99) rfl (j8 (a7 rfl rfl) (a7 rfl rfl) (mf q2)) c2) (aj5 (by rw [List.length_append,lenr,lenr,lenr];exact aq1 b1 c1 c2)))
     (b0 rfl (j8 (rm (c:=98) rfl (a7 rfl rfl) b2) (rm (c:=99) rfl (j8 (j8 (j8 (a7 rfl rfl) (a7 rfl rfl) (mf q8)) (a7 rfl rfl) (mf q9)) (a7 rfl rfl) (mf q7)) b3) (aj5 (by rw [lenr,lenr];exact av9 b2 b3)))
     (b0 rfl (rm (c:=99) rfl (a7 rfl rfl) (Nat.le_trans q9 (bs (Nat.le_refl n)))) b9))) (u9 rfl)
 · rw [hacc];rfl
end Mine
namespace Mine
open Builtin Builtin.Str StrLaws
noncomputable def pu (W:List Nat):Option (List (List (List Nat))):=aw4 (gh 97 0 W) (gh 98 0 W) (gh 99 0 W) W.length 1 0 0
theorem cf5 {c:Nat} {W:List Nat}:((List.range' 0 (W.length + 1)).map fun (k:Nat)=>D.int ((ac5 c (W.take k):Nat):Int)) = fw (gh c 0 W):=by
 unfold fw
 rw [on,List.map_map]
 refine List.map_congr_left fun k J=>?_
 show _ = D.int ((0 + ac5 c (W.take k):Nat):Int)
 rw [Nat.zero_add]
theorem ak1 {W:List Nat} {k:Nat} (hW:W.length≤lim) (hk:k≤W.length):y0 (.str (sOf W)) none (some (k:Nat)) none = some (.str (sOf (W.take k))):=by
 refine vq hW ?_
 rw [ie hk]
 show (W.drop 0).take (k - 0) = _
 rw [List.drop_zero,Nat.sub_zero]
theorem bl9 {W:List Nat} {ds:List (List (List Nat))} {g:Sg} (hW:W.length≤100) (h:pu W = some ds):ac4 [.str (sOf W)] g = some (.lst (ds.map z3),g)∧ds.length = W.length:=by
 have key:∀ {m n f t:Nat} {r:List (List (List Nat))},aw4 (gh 97 0 W) (gh 98 0 W) (gh 99 0 W) m n f t = some r→r.length = m:=by
   intro m
   induction m with
   | zero=>intro n f t r h;injection h with h;subst h;rfl
   | succ m ih =>
     intro n f t r h
     refine zea (dr h) fun x h1 h2=>?_
     refine zea (Option.map_eq_some_iff.mp h2) fun y h3 h4=>?_
     rw [← h4,List.length_cons,ih h3]
 refine ⟨?_,key h⟩
 have run:f7 Tz ["dues"] 56 (nq "_law_dues") (o0 "_law_dues") (m0 [("word",.str (sOf W))]) g = some (.ret (.lst (ds.map z3)) g):=by
   have step:=@ay3 22
   conv=>lhs;arg 5;whnf
   refine d7 (gj (fo1:=[("word",.val (.str (sOf W))),("a",.val (.lst (fw (gh 97 0 W)))),("b",.val (.lst (fw (gh 98 0 W)))),("c",.val (.lst (fw (gh 99 0 W))))]) (g1:=g) rfl (z1 (g2:=g) (ys:=[97,98,99].map fun x=>D.lst (fw (gh x 0 W))) rfl (gw rfl (j2 rfl) rfl) (u7 (f:=sg) (l:=[97,98,99]) fun x hx=>⟨_,rfl,rfl,?_⟩) (u9 rfl)) rfl rfl) ?_
   · rw [← cf5]
     refine z1 (g2:=g) rfl (bo rfl (b0 rfl (j8 (fg rfl rfl rfl rfl rfl (b0 rfl (a7 rfl rfl) b9) v7) j4 lb) b9) (bm3 (by lia))) (u7 fun k hk=>⟨_,rfl,rfl,m8 rfl (w4 (a7 rfl rfl) l8 (r7 (a7 rfl rfl) (gq ?_)) l8 (ak1 ?_ ?_)) (b0 rfl (a7 rfl rfl) b9) bn3⟩) ?_
     · have:=(List.mem_range'_1.mp hk).2;lia
     · unfold lim;lia
     · have:=(List.mem_range'_1.mp hk).2;lia
     · rw [List.length_map,List.length_range'];unfold lim;lia
   refine d7 (bf0 (names:=["dues","first","third"]) (fo1:=foD W (gh 97 0 W) (gh 98 0 W) (gh 99 0 W) 0 0 [] []) rfl rfl rfl b9 (b0 rfl j4 (b0 rfl j4 b9)) (u9 rfl) rfl) ?_
   refine si (f:=fun (k:Nat)=>D.int ((1 + k:Nat):Int)) (l:=List.range W.length) (fun _ _=>False)
     (fun l fo g1=>g1 = g∧∃ n m f t acc tl r,l = List.range' n m∧n + m = W.length∧fo = foD W (gh 97 0 W) (gh 98 0 W) (gh 99 0 W) f t acc tl∧acc.length = n∧db ["n","two","low"] tl∧aw4 (gh 97 0 W) (gh 98 0 W) (gh 99 0 W) m (1 + n) f t = some r∧acc++r = ds)
     rfl (nf rfl (bo rfl (b0 rfl j4 (b0 rfl (j8 (fg rfl rfl rfl rfl rfl (b0 rfl (a7 rfl rfl) b9) v7) j4 lb) b9)) ?_)) ⟨rfl,0,W.length,0,0,[],[],ds,by rw [List.range_eq_range'],by lia,rfl,rfl,bq _,h,rfl⟩ ?_ ?_ (fun _ _ h=>h.elim)
   · have:=cu9 (a:=1) (b:=W.length + 1) (by lia) (by lia)
     rw [Nat.add_sub_cancel] at this
     exact this
   · rintro k r fo g1 ⟨rfl,n,m,f,t,acc,tl,rr,e,hnm,rfl,ha,hsl,hd,hs⟩
     induction m using Nat.casesOn with
     | zero=>cases e
     | succ m =>
       rw [List.range'_succ] at e
       injection e with e1 e2
       subst e1;subst e2
       refine zea (dr hd) fun x h1 h2=>?_
       refine zea (Option.map_eq_some_iff.mp h2) fun y h3 h4=>?_
       subst h4
       refine zea (step (n:=1 + k) (acc:=acc) (g:=g1) rfl rfl rfl (by lia) (by lia) hW (by lia) hsl h1) fun tl1 h5 h6=>?_
       exact ⟨_,rfl,rfl,.inl ⟨_,_,h6,rfl,k + 1,m,_,_,_,tl1,y,rfl,by lia,rfl,by rw [List.length_append,List.length_singleton,ha],h5,h3,by rw [List.append_assoc];exact hs⟩⟩
   · rintro fo g1 ⟨rfl,n,m,f,t,acc,tl,rr,e,hnm,rfl,ha,hsl,hd,hs⟩
     have:m = 0:=by
       have:=congrArg List.length e
       rw [List.length_range',List.length_nil] at this
       exact this.symm
     subst this
     injection hd with hd
     subst hd
     rw [List.append_nil] at hs
     rw [← hs]
     exact dg (v5 (a7 rfl rfl))
 exact gn ["word"] (l:=[("word",.str (sOf W))]) rfl rfl (by decide +kernel) run
end Mine
namespace Mine
open Builtin Builtin.Str StrLaws
noncomputable def dig (s:Nat):List Nat:=match Nat.ble s 9 with
 | true=>[48 + s]
 | false=>[49,38 + s]
noncomputable def zw:List (List Nat)→Nat→List Nat
 | [],_=>[]
 | x::_,0=>x
 | _::r,i + 1=>zw r i
theorem ag8:∀ {l:List (List Nat)} {i:Nat},i < l.length→l[i]? = some (zw l i)
 | [],_,h=>absurd h (Nat.not_lt_zero _)
 | _::_,0,_=>rfl
 | _::r,i + 1,h=>ag8 (l:=r) (i:=i) (Nat.lt_of_succ_lt_succ h)
theorem ae8 {l:List (List Nat)} {i:Nat} (h:i < l.length):z7 (z3 l) (.int (i:Nat)) = some (.str (sOf (zw l i))) :=
 ou (by rw [List.getElem?_map,ag8 h];rfl)
theorem ai5 {T:Tbl} {g:Sg} {s:Nat} (h:s < 20):ce T "str" [.int (s:Nat)] g = some (.str (sOf (dig s)),g):=by
 have e:∀ s,s < 20→Str.ofString (toString ((s:Nat):Int)) = sOf (dig s):=by decide +kernel
 show (if ((s:Nat):Int).natAbs.log2 < 1920∧j7 (Str.ofString (toString ((s:Nat):Int))) = true then some (D.str (Str.ofString (toString ((s:Nat):Int))),g) else none) = _
 rw [e s h,if_pos]
 refine ⟨?_,me ?_⟩
 · rw [Int.natAbs_natCast]
   exact Nat.lt_of_le_of_lt (Nat.log2_le_self s) (by lia)
 · unfold dig;split<;>exact Nat.le_of_ble_eq_true rfl
theorem cb2 {s:Nat} (h:s < 20):Wok (dig s):=by
 have:∀ s,s < 20→(dig s).length≤1000∧∀ c∈dig s,32≤c∧c < 127:=by decide +kernel
 exact this s h
theorem ax4 {a b:Nat}:jo .Gt (.int (a:Nat)) (.int (b:Nat)) = some (Nat.ble (b + 1) a):=by
 show some (decide ((b:Int) < (a:Int))) = _
 congr 1
 rw [Bool.eq_iff_iff,decide_eq_true_eq,Nat.ble_eq]
 lia
noncomputable def pD (o:Nat × Nat):D:=.tup [.int (o.1:Nat),.int (o.2:Nat)]
noncomputable def bh4:Rw→Rw→Bool
 | [],[]=>true
 | a::r,b::s=>match Nat.beq a.1 b.1 with
   | true=>match feq a.2 b.2 with
     | true=>bh4 r s
     | false=>false
   | false=>false
 | _,_=>false
theorem ar2:∀ {a b:Rw},bh4 a b = true→a = b
 | [],[],_=>rfl
 | [],_::_,h=>Bool.noConfusion (show false = true from h)
 | _::_,[],h=>Bool.noConfusion (show false = true from h)
 | a::r,b::s,h=>by
   replace h:(match Nat.beq a.1 b.1 with
   | true=>match feq a.2 b.2 with
     | true=>bh4 r s
     | false=>false
   | false=>false) = true:=h
   induction h1:Nat.beq a.1 b.1 using Bool.casesOn with
   | false=>rw [h1] at h;exact Bool.noConfusion (show false = true from h)
   | true =>
     rw [h1] at h
     induction h2:feq a.2 b.2 using Bool.casesOn with
     | false=>rw [h2] at h;exact Bool.noConfusion (show false = true from h)
     | true =>
       rw [h2] at h
       rw [ar2 (a:=r) (b:=s) h,Prod.ext (Nat.eq_of_beq_eq_true h1) (ck.mp h2)]
theorem ar0 {α:Type} {f:α→D} (h:∀ a,eqD (f a) (f a) = some true):∀ l:List α,eqL (l.map f) (l.map f) = some true
 | []=>rfl
 | a::r=>by
   show eqK (eqD (f a) (f a)) (eqL (r.map f) (r.map f)) = _
   rw [h a];exact ar0 h r
theorem an5 {x:Str}:eqD (.str x) (.str x) = some true:=congrArg some (beq_self_eq_true x)
theorem ck3 (q:Nat × List Nat):eqD (ag5 q) (ag5 q) = some true:=by
 show eqK (eqD (sg q.1) (sg q.1)) (eqK (eqD (.str (sOf q.2)) (.str (sOf q.2))) (some true)) = _
 rw [an5,an5];rfl
theorem ab5 {α:Type} {f:α→D} {k:Nat} (h:∀ a,dep (f a)≤k):∀ l:List α,ud (l.map f)≤k
 | []=>Nat.zero_le _
 | a::r=>by
   show max (dep (f a)) (ud (r.map f))≤k
   exact Nat.max_le.mpr ⟨h a,ab5 h r⟩
theorem av8 {α:Type} {f:α→D} {l:List α} (h:∀ a,eqD (f a) (f a) = some true) (hd:∀ a,dep (f a)≤10):jo .NotEq (.lst (l.map f)) (.lst (l.map f)) = some false:=by
 have h1:dep (.lst (l.map f))≤11:=Nat.succ_le_succ (ab5 hd l)
 unfold jo
 rw [if_neg (by lia)]
 show (if (l.map f).length = (l.map f).length then eqL (l.map f) (l.map f) else some false).map (!·) = _
 rw [if_pos rfl,ar0 h l];rfl
theorem br2 (q:Nat × List Nat):dep (ag5 q)≤10:=Nat.le_of_ble_eq_true rfl
theorem ax7 {R:Rw}:jo .NotEq (.lst ((f8 R).map m7)) (.lst (R.map ag5)) = some false:=by
 rw [ac9];exact av8 ck3 br2
noncomputable def ck9 {α:Type}:Nat→List α→List (Nat × α)
 | _,[]=>[]
 | k,a::r=>(k,a)::ck9 (k + 1) r
theorem ad2 {α:Type} {f:α→D}:∀ {l:List α} {k:Nat},az8 k (l.map f) = (ck9 k l).map fun p=>.tup [.int (p.1:Nat),f p.2]
 | [],_=>rfl
 | a::r,k=>by
   show D.tup [.int (k:Nat),f a]::az8 (k + 1) (r.map f) = _
   rw [ad2];rfl
noncomputable def qf (now due:List (List Nat)):List Nat:=[0,1,2].filter fun k=>Nat.ble ((zw due k).length + 1) (zw now k).length
noncomputable def ri (gk s:Nat) (order:List (Nat × Nat)):List (Nat × Nat):=order.filter (fun o=>Nat.ble (gk + 1) o.1)++(List.range' 0 (gk + 1)).map fun k=>(k,s)
noncomputable def ux (now:List (List Nat)) (order:List (Nat × Nat)):Rw:=order.map fun o=>(fnm o.2 o.1,zw now o.1)
noncomputable def dk (W:List Nat):List (List (List Nat))→Nat→Rw→Rw→List (List Nat)→List Nat→List (Nat × Nat)→Option (List (List Nat) × List Nat × Rw × Rw)
 | [],_,R,S,due,places,_=>some (due,places,R,S)
 | now::r,s,R,S,due,places,order=>match qb [0,1,2] (nth W s) s R with
   | none=>none
   | some pR=>match qf now due with
     | []=>none
     | gk::_=>match bh4 pR.2 (ux now (ri gk s order)) with
       | false=>none
       | true=>dk W r (s + 1) pR.2 (S++[(fnm s pR.1,dig s)]) now (places++[gk]) (ri gk s order)
theorem ag4 {W:List Nat} {now:List (List Nat)} {r:List (List (List Nat))} {s:Nat} {R S:Rw} {due:List (List Nat)} {places:List Nat} {order:List (Nat × Nat)} {x:List (List Nat) × List Nat × Rw × Rw} (h:dk W (now::r) s R S due places order = some x) :
   ∃ p R1 gk t,qb [0,1,2] (nth W s) s R = some (p,R1)∧qf now due = gk::t∧R1 = ux now (ri gk s order)∧dk W r (s + 1) R1 (S++[(fnm s p,dig s)]) now (places++[gk]) (ri gk s order) = some x:=by
 replace h:(match qb [0,1,2] (nth W s) s R with
   | none=>none
   | some pR=>match qf now due with
     | []=>none
     | gk::_=>match bh4 pR.2 (ux now (ri gk s order)) with
       | false=>none
       | true=>dk W r (s + 1) pR.2 (S++[(fnm s pR.1,dig s)]) now (places++[gk]) (ri gk s order)) = some x:=h
 induction h1:qb [0,1,2] (nth W s) s R using Option.casesOn with
 | none=>rw [h1] at h;exact a8 h
 | some pR =>
   rw [h1] at h
   replace h:(match qf now due with
     | []=>none
     | gk::_=>match bh4 pR.2 (ux now (ri gk s order)) with
       | false=>none
       | true=>dk W r (s + 1) pR.2 (S++[(fnm s pR.1,dig s)]) now (places++[gk]) (ri gk s order)) = some x:=h
   induction h2:qf now due using List.casesOn with
   | nil=>rw [h2] at h;exact a8 h
   | cons gk t =>
     rw [h2] at h
     replace h:(match bh4 pR.2 (ux now (ri gk s order)) with
       | false=>none
       | true=>dk W r (s + 1) pR.2 (S++[(fnm s pR.1,dig s)]) now (places++[gk]) (ri gk s order)) = some x:=h
     induction h3:bh4 pR.2 (ux now (ri gk s order)) using Bool.casesOn with
     | false=>rw [h3] at h;exact a8 h
     | true =>
       rw [h3] at h
       exact ⟨pR.1,pR.2,gk,t,rfl,rfl,ar2 h3,h⟩
end Mine
end
section
open PySem PySem.W PySem.Calls PyProof.Rows
set_option maxHeartbeats 1000000
namespace Mine
open Builtin Builtin.Str StrLaws
noncomputable def TG:Tbl:=hT [("_law_dues",ac4),("_law_laid",av3)]
noncomputable def ub:ae:=jj TG ["places"] 56 (aa9 "_law_grown") (o0 "_law_grown") (f9 ["word","rows","steps"])
noncomputable abbrev foG (W:List Nat) (order:List (Nat × Nat)) (due:List (List Nat)) (places:List Nat) (tl:Fo):Fo :=
 ("word",.val (.str (sOf W)))::("rows",.val (.hdr 0))::("steps",.val (.hdr 1))::("order",.val (.lst (order.map pD)))::("due",.val (z3 due))::("places",.own (fw places))::tl
noncomputable abbrev cf0:List Stmt:=bo3 ((o0 "_law_grown").drop 1)
theorem ah8 {tr:Ro→Expr→Sg→Option (Bool × Sg)} {c:Expr} {ro:Ro} {g g1:Sg} {b:Bool} (h:tr ro c g = some (b,g1)):trD tr [c] ro g = some (.bool b,g1):=c8 h
theorem au2 {gk s:Nat} {order:List (Nat × Nat)} (hg:gk < 3) (ho:∀ o∈order,o.1 < 3):∀ o∈ri gk s order,o.1 < 3:=fun o h=>by
 rcases List.mem_append.mp h with h | h
 · exact ho o (List.mem_filter.mp h).1
 · refine zea (List.mem_map.mp h) fun k hk e=>?_
   rw [← e]
   have:=(List.mem_range'_1.mp hk).2
   show k < 3
   lia
theorem aj2 {gk s:Nat} {order:List (Nat × Nat)}:(ri gk s order).length≤order.length + (gk + 1):=by
 unfold ri
 rw [List.length_append,List.length_map,List.length_range']
 have:=List.length_filter_le (fun o:Nat × Nat=>Nat.ble (gk + 1) o.1) order
 lia
theorem an8 {now due:List (List Nat)} {gk:Nat} {t:List Nat} (h:qf now due = gk::t):gk < 3:=by
 have:gk∈qf now due:=by rw [h];exact .head _
 have:=(List.mem_filter.mp this).1
 simp only [List.mem_cons,List.not_mem_nil,or_false] at this
 lia
theorem am4 {m s p gk:Nat} {W:List Nat} {now due:List (List Nat)} {R S R1:Rw} {order:List (Nat × Nat)} {places t:List Nat} {tl:Fo} (hs:s < W.length) (hs2:s < 20) (hW:∀ c∈W,32≤c∧c < 127) (hnow:now.length = 3) (hdue:due.length = 3) (hR:Rok R) (hS:S.length≤1000) (hpl:places.length≤1000) (ho:order.length≤1000) (ho3:∀ o∈order,o.1 < 3)
   (hl:qb [0,1,2] (nth W s) s R = some (p,R1)) (hg:qf now due = gk::t) (hR1:R1 = ux now (ri gk s order)) (ht:db ["step","now","place","grown"] tl) :
   ∃ tl1,db ["step","now","place","grown"] tl1∧f7 TG ["places"] (m + 40) (nq "_law_grown") cf0 (j9 [("step",.int (s:Nat)),("now",z3 now)] (foG W order due places tl)) [f8 R,f8 S] = some (.next (foG W (ri gk s order) now (places++[gk]) tl1) [f8 R1,f8 (S++[(fnm s p,dig s)])]):=by
 have hx:=hW _ (List.mem_of_getElem? (gy hs))
 refine za (oh (by decide) hR hx hl) fun hR1k hp=>?_
 have hg3:=an8 hg
 obtain ⟨tl1,⟨tl2,⟨tl3,⟨tl4,h5,s4⟩,s3⟩,s2⟩,s1⟩:=ht
 have e0:j9 [(("step":Str),D.int (s:Nat)),("now",z3 now)] (foG W order due places tl) = foG W order due places (("step",.val (.int (s:Nat)))::("now",.val (z3 now))::tl2):=by
   show (("word":Str),_)::(("rows":Str),_)::(("steps":Str),_)::(("order":Str),_)::(("due":Str),_)::(("places":Str),_)::o9 "now" (.val (z3 now)) (o9 ("step":Str) _ tl) = _
   rw [s1]
   show (("word":Str),_)::(("rows":Str),_)::(("steps":Str),_)::(("order":Str),_)::(("due":Str),_)::(("places":Str),_)::(("step":Str),_)::o9 "now" (.val (z3 now)) tl1 = _
   rw [s2]
 have e1:∀ (d:D),o9 "place" (.val d) (foG W order due places (("step",.val (.int (s:Nat)))::("now",.val (z3 now))::tl2)) = foG W order due places (("step",.val (.int (s:Nat)))::("now",.val (z3 now))::("place",.val d)::tl3):=fun d=>by
   show (("word":Str),_)::(("rows":Str),_)::(("steps":Str),_)::(("order":Str),_)::(("due":Str),_)::(("places":Str),_)::(("step":Str),_)::(("now":Str),_)::o9 "place" (.val d) tl2 = _
   rw [s3]
 have e2:∀ (u d:D),o9 "grown" (.val d) (foG W order due places (("step",.val (.int (s:Nat)))::("now",.val (z3 now))::("place",.val u)::tl3)) = foG W order due places (("step",.val (.int (s:Nat)))::("now",.val (z3 now))::("place",.val u)::("grown",.val d)::tl4):=fun u d=>by
   show (("word":Str),_)::(("rows":Str),_)::(("steps":Str),_)::(("order":Str),_)::(("due":Str),_)::(("places":Str),_)::(("step":Str),_)::(("now":Str),_)::(("place":Str),_)::o9 "grown" (.val d) tl3 = _
   rw [s4]
 have hadd:=bl1 (g:=[f8 R1,f8 S]) (k:=1) (n:=fnm s p) hS (no hp) rfl (cb2 hs2)
 have hlaid:=bj9 (X:=f8 S) hR hx hl
 have hpick:z7 (.lst ((qf now due).map fun (k:Nat)=>D.int (k:Nat))) (.int 0) = some (.int (gk:Nat)):=by
   rw [hg];exact ou (i:=0) rfl
 have hw3:∀ k∈([0,1,2]:List Nat),k < now.length∧k < due.length:=fun k hk=>by
   simp only [List.mem_cons,List.not_mem_nil,or_false] at hk
   lia
 have hord:order.map pD = order.map pD:=rfl
 refine ⟨("step",.val (.int (s:Nat)))::("now",.val (z3 now))::("place",.val (.int (p:Nat)))::("grown",.val (.int (gk:Nat)))::tl4,j3 (j3 (j3 (j3 h5))),?_⟩
 rw [e0]
 conv=>lhs;arg 5;whnf
 refine d7 (r5 rfl (mr rfl rfl rfl rfl rfl (b0 rfl (a7 rfl rfl) (b0 rfl (d8 (a7 rfl rfl) (a7 rfl rfl) (ad9 (gy hs))) (b0 rfl (a7 rfl rfl) b9))) hlaid) (e1 _)) ?_
 refine d7 (br0 rfl rfl (m8 rfl (a7 rfl rfl) (b0 rfl (d8 (d8 (iq (b0 rfl (j2 rfl) (b0 rfl (j2 rfl) b9)) (u9 rfl)) (j8 (a7 rfl rfl) j4 cl3) ac3) (a7 rfl rfl) (bf3 hp)) (b0 rfl (fg rfl rfl rfl rfl rfl (b0 rfl (a7 rfl rfl) b9) (ai5 hs2)) b9)) hadd)) ?_
 refine d7 (r5 rfl (d8 (z1 (ys:=(qf now due).map fun (k:Nat)=>D.int (k:Nat)) (g2:=[f8 R1,f8 (S++[(fnm s p,dig s)])]) rfl (bo rfl (b0 rfl j4 b9) (bm3 (b:=3) (by decide))) (am (q:=fun k=>Nat.ble ((zw due k).length + 1) (zw now k).length) (l:=[0,1,2]) fun k hk=>⟨_,rfl,ah8 (r0 (fg rfl rfl rfl rfl rfl (b0 rfl (d8 (a7 rfl rfl) (a7 rfl rfl) (ae8 (hw3 k hk).1)) b9) v7) (fg rfl rfl rfl rfl rfl (b0 rfl (d8 (a7 rfl rfl) (a7 rfl rfl) (ae8 (hw3 k hk).2)) b9) v7) ax4),fun J=>a7 rfl rfl⟩) (by rw [hg,List.length_map];have:=congrArg List.length hg;have h2:=List.length_filter_le (fun k=>Nat.ble ((zw due k).length + 1) (zw now k).length) [0,1,2];unfold qf at this;rw [this] at h2;unfold lim;simp at h2 ⊢;lia)) j4 hpick) (e2 _ _)) ?_
 refine d7 (r8 rfl (a7 rfl rfl)) ?_
 have la2:(fw places).length < lim:=by unfold fw;rw [List.length_map];unfold lim;lia
 have hpa:fw places++[D.int (gk:Nat)] = fw (places++[gk]):=by unfold fw;rw [List.map_append];rfl
 refine d7 (fo1:=foG W order now (places++[gk]) (("step",.val (.int (s:Nat)))::("now",.val (z3 now))::("place",.val (.int (p:Nat)))::("grown",.val (.int (gk:Nat)))::tl4)) ((xr (at8 (l:=fw places) rfl rfl la2) (a7 rfl rfl)).trans (by rw [hpa];rfl)) ?_
 have hfl:=List.length_filter_le (fun o:Nat × Nat=>Nat.ble (gk + 1) o.1) order
 have hjoin:(order.filter fun o=>Nat.ble (gk + 1) o.1).map pD++(List.range' 0 (gk + 1)).map (fun (k:Nat)=>pD (k,s)) = (ri gk s order).map pD:=by
   unfold ri
   rw [List.map_append,List.map_map];rfl
 refine d7 (r8 rfl (j8 (z1 (ys:=(order.filter fun o=>Nat.ble (gk + 1) o.1).map pD) (g2:=[f8 R1,f8 (S++[(fnm s p,dig s)])]) rfl (gw rfl (a7 rfl rfl) rfl) (am (f:=pD) (h:=pD) (q:=fun o=>Nat.ble (gk + 1) o.1) fun o ho=>⟨_,rfl,ah8 (r0 (d8 (a7 rfl rfl) j4 bu3) (a7 rfl rfl) ax4),fun J=>a7 rfl rfl⟩) (by rw [List.length_map];unfold lim;lia)) (z1 (ys:=(List.range' 0 (gk + 1)).map fun (k:Nat)=>pD (k,s)) (g2:=[f8 R1,f8 (S++[(fnm s p,dig s)])]) rfl (bo rfl (b0 rfl (j8 (a7 rfl rfl) j4 lb) b9) (bm3 (b:=gk + 1) (by lia))) (u7 fun k hk=>⟨_,rfl,rfl,iq (b0 rfl (a7 rfl rfl) (b0 rfl (a7 rfl rfl) b9)) (u9 rfl)⟩) (by rw [List.length_map,List.length_range'];unfold lim;lia)) ((am0 (by rw [List.length_map,List.length_map,List.length_range'];unfold lim;lia)).trans (by rw [hjoin])))) ?_
 have ho4:=au2 (s:=s) hg3 ho3
 have hfo:=aj2 (gk:=gk) (s:=s) (order:=order)
 have hwant:(ux now (ri gk s order)).map ag5 = (ri gk s order).map fun o=>D.tup [sg (fnm o.2 o.1),.str (sOf (zw now o.1))]:=by
   unfold ux
   rw [List.map_map];rfl
 refine d7 (gu (c:=false) (r0 (m8 rfl (a7 rfl rfl) b9 (md (g:=[f8 R1,f8 (S++[(fnm s p,dig s)])]) (k:=0) (R:=R1) rfl)) (z1 (ys:=(ri gk s order).map fun o=>D.tup [sg (fnm o.2 o.1),.str (sOf (zw now o.1))]) (g2:=[f8 R1,f8 (S++[(fnm s p,dig s)])]) rfl (gw rfl (a7 rfl rfl) rfl) (u7 (f:=pD) fun o ho=>⟨_,rfl,rfl,iq (b0 rfl (d8 (d8 (iq (b0 rfl (j2 rfl) (b0 rfl (j2 rfl) b9)) (u9 rfl)) (j8 (a7 rfl rfl) j4 cl3) ac3) (a7 rfl rfl) (bf3 (ho4 o ho))) (b0 rfl (d8 (a7 rfl rfl) (a7 rfl rfl) (ae8 (by have:=ho4 o ho;lia))) b9)) (u9 rfl)⟩) (by rw [List.length_map];unfold lim;lia)) ?_) t8) t8
 rw [← hwant,← hR1]
 exact ax7
end Mine
namespace Mine
open Builtin Builtin.Str StrLaws
theorem qe {a b c:List Nat}:∀ {m n f t:Nat} {ds:List (List (List Nat))},aw4 a b c m n f t = some ds→∀ d∈ds,d.length = 3
 | 0,_,_,_,_,h,d,hd=>by injection h with h;subst h;cases hd
 | m + 1,n,f,t,ds,h,d,hd=>by
   refine zea (dr h) fun x h1 h2=>?_
   refine zea (Option.map_eq_some_iff.mp h2) fun y h3 h4=>?_
   subst h4
   rcases List.mem_cons.mp hd with rfl | hd
   · rw [(bj1 h1).2.2.2.2.2];rfl
   · exact qe h3 d hd
structure GOk (R S:Rw) (due:List (List Nat)) (places:List Nat) (s:Nat):Prop where
 R:Rok R
 Sl:S.length = s
 S:∀ q∈S,Is6 q.1
 due:due.length = 3
 pl:places.length = s
theorem yp {W:List Nat} (hW:∀ c∈W,32≤c∧c < 127):∀ {ds:List (List (List Nat))} {s:Nat} {R S:Rw} {due:List (List Nat)} {places:List Nat} {order:List (Nat × Nat)} {due':List (List Nat)} {places':List Nat} {R' S':Rw},s + ds.length = W.length→(∀ d∈ds,d.length = 3)→GOk R S due places s→dk W ds s R S due places order = some (due',places',R',S')→GOk R' S' due' places' W.length
 | [],s,R,S,due,places,order,due',places',R',S',hs,_,k,h=>by
   injection h with h
   injection h with h1 h
   injection h with h2 h
   injection h with h3 h4
   subst h1;subst h2;subst h3;subst h4
   rw [← show s = W.length from hs]
   exact k
 | now::r,s,R,S,due,places,order,due',places',R',S',hs,hd,k,h=>by
   rw [List.length_cons] at hs
   obtain ⟨p,R1,gk,t,h1,h2,h3,h4⟩:=ag4 h
   refine za (oh (by decide) k.R (hW _ (List.mem_of_getElem? (gy (by lia)))) h1) fun h5 hp=>?_
   refine yp hW (by lia) (fun d hd'=>hd d (.tail _ hd')) ⟨h5,by rw [List.length_append,List.length_singleton,k.Sl],fun q hq=>?_,hd now (.head _),by rw [List.length_append,List.length_singleton,k.pl]⟩ h4
   rcases List.mem_append.mp hq with hq | hq
   · exact k.S q hq
   · rw [List.mem_singleton.mp hq];exact no hp
theorem co6 {α β γ δ:Type} {a a':α} {b b':β} {c c':γ} {d d':δ} (h:some (a,b,c,d) = some (a',b',c',d')):a = a'∧b = b'∧c = c'∧d = d':=by
 injection h with h
 injection h with h1 h
 injection h with h2 h
 injection h with h3 h4
 exact ⟨h1,h2,h3,h4⟩
theorem ap1 {ys:List D} {g:Sg}:ce TG "_law_dues" ys g = ac4 ys g:=rfl
theorem ba3 {W:List Nat} {ds:List (List (List Nat))} {due:List (List Nat)} {places:List Nat} {R S:Rw} (hl:W.length≤20) (hW:∀ c∈W,32≤c∧c < 127) (hds:pu W = some ds) (h:dk W ds 0 [] [] [[],[],[]] [] [] = some (due,places,R,S)) :
   ub [.str (sOf W),.hdr 0,.hdr 1] [f8 [],f8 []] = some (.tup [z3 due,.lst (fw places)],[f8 R,f8 S])∧GOk R S due places W.length:=by
 have h3:=qe hds
 refine za (bl9 (g:=[f8 [],f8 []]) (by lia) hds) fun hdue hlen=>?_
 have g0:GOk [] [] [[],[],[]] [] 0:=⟨(fun q hq=>by cases hq),rfl,(fun q hq=>by cases hq),rfl,rfl⟩
 refine ⟨?_,yp hW (by lia) h3 g0 h⟩
 have run:f7 TG ["places"] 56 (nq "_law_grown") (o0 "_law_grown") (m0 [("word",.str (sOf W)),("rows",.hdr 0),("steps",.hdr 1)]) [f8 [],f8 []] = some (.ret (.tup [z3 due,.lst (fw places)]) [f8 R,f8 S]):=by
   have step:=@am4 13
   conv=>lhs;arg 5;whnf
   refine d7 (bx5 (fo1:=foG W [] [[],[],[]] [] []) (g3:=[f8 [],f8 []]) rfl rfl rfl (b0 rfl (di b9 (u9 rfl)) (b0 rfl (di (b0 rfl (j2 rfl) (b0 rfl (j2 rfl) (b0 rfl (j2 rfl) b9))) (u9 rfl)) b9)) b9 b9 (u9 rfl) rfl) ?_
   refine si (f:=fun (p:Nat × List (List Nat))=>D.tup [.int (p.1:Nat),z3 p.2]) (l:=ck9 0 ds) (g1:=[f8 [],f8 []]) (fun _ _=>False)
     (fun l fo g=>∃ s ds R0 S0 due0 pl0 order tl,l = ck9 s ds∧s + ds.length = W.length∧(∀ d∈ds,d.length = 3)∧fo = foG W order due0 pl0 tl∧g = [f8 R0,f8 S0]∧db ["step","now","place","grown"] tl∧GOk R0 S0 due0 pl0 s∧order.length≤3 * s∧(∀ o∈order,o.1 < 3)∧dk W ds s R0 S0 due0 pl0 order = some (due,places,R,S))
     rfl ?_ ⟨0,ds,[],[],[[],[],[]],[],[],[],rfl,by lia,h3,rfl,rfl,bq _,g0,Nat.zero_le _,(fun o ho=>by cases ho),h⟩ ?_ ?_ (fun _ _ h=>h.elim)
   · refine (an6 (l:=ds.map z3) (g1:=[f8 [],f8 []]) rfl ?_ (by rw [List.length_map];unfold lim;lia)).trans (by rw [ad2])
     exact mr rfl rfl rfl rfl rfl (b0 rfl (a7 rfl rfl) b9) (ap1.trans hdue)
   · rintro c r fo g ⟨s,ds,R0,S0,due0,pl0,order,tl,e,hs,hd,rfl,rfl,hsl,k,ho,ho3,hf⟩
     induction ds using List.casesOn with
     | nil=>cases e
     | cons now rest =>
       injection e with e1 e2
       subst e1;subst e2
       rw [List.length_cons] at hs
       obtain ⟨p,R1,gk,t,h1,h2,h4,h5⟩:=ag4 hf
       have hx:=hW _ (List.mem_of_getElem? (gy (show s < W.length by lia)))
       refine za (oh (by decide) k.R hx h1) fun h6 hp=>?_
       have hg3:=an8 h2
       refine zea (step (s:=s) (tl:=tl) (places:=pl0) (by lia) (by lia) hW (hd now (.head _)) k.due k.R (by rw [k.Sl];lia) (by rw [k.pl];lia) (by lia) ho3 h1 h2 h4 hsl) fun tl1 h7 h8=>?_
       have hfo:=aj2 (gk:=gk) (s:=s) (order:=order)
       refine ⟨_,rfl,rfl,.inl ⟨_,_,h8,s + 1,rest,R1,_,now,_,_,tl1,rfl,by lia,fun d hd'=>hd d (.tail _ hd'),rfl,rfl,h7,⟨h6,by rw [List.length_append,List.length_singleton,k.Sl],fun q hq=>?_,hd now (.head _),by rw [List.length_append,List.length_singleton,k.pl]⟩,by lia,au2 hg3 ho3,h5⟩⟩
       rcases List.mem_append.mp hq with hq | hq
       · exact k.S q hq
       · rw [List.mem_singleton.mp hq];exact no hp
   · rintro fo g ⟨s,ds,R0,S0,due0,pl0,order,tl,e,hs,hd,rfl,rfl,hsl,k,ho,ho3,hf⟩
     induction ds using List.casesOn with
     | cons now rest=>cases e
     | nil =>
       replace hf:some (due0,pl0,R0,S0) = some (due,places,R,S):=hf
       obtain ⟨h1,h2,h3,h4⟩:=co6 hf
       subst h1;subst h2;subst h3;subst h4
       exact dg (v5 (iq (b0 rfl (a7 rfl rfl) (b0 rfl (a7 rfl rfl) b9)) (u9 rfl)))
 exact gn ["word","rows","steps"] (l:=[("word",.str (sOf W)),("rows",.hdr 0),("steps",.hdr 1)]) rfl rfl (by decide +kernel) run
end Mine
namespace Mine
open Builtin Builtin.Str StrLaws
section
variable {T:Tbl} {n:Nat} {kd:Kd} {ro:Ro} {g g1 g2 g3:Sg}
theorem bn1 {S:ae} {o:Option ae} {x:Sg→Option (List D × Sg)} {ev:Sg→Option (D × Sg)} {ds:List D} {d:D} {R:Option (D × Sg)} (hT:o = some S) (h1:x g = some (ds,g1)) (h2:ev g1 = some (d,g2)) (h3:S [.lst ds,d] g2 = R):bq8 o x ev g = R:=by
 subst hT
 show (c7 (x g) fun ds g=>c7 (ev g) fun d g=>S [.lst ds,d] g) = _
 exact (c8 h1).trans ((c8 h2).trans h3)
theorem cr6 {f:Str} {q p:Pos} {as:List Expr} {e c:Expr} {S:ae} {ds:List D} {d r:D} (hkd:kd f = some .globalImplicit) (hf:(f==("__debug__":Str)||f==("_split_list":Str)||f==("Headers":Str)) = false) (hfp:r6 as = true) (hz:ay6 as = some (e,c)) (hT:T.fz f = some S)
   (h1:yx T n kd ro e g = some (ds,g1)) (h2:pev T n kd ro c g1 = some (d,g2)) (h3:S [.lst ds,d] g2 = some (r,g3)):pev T (n + 1) kd ro (.Call (.Name f q) as [] p) g = some (r,g3):=by
 simp only [Bool.or_eq_false_iff] at hf
 show (if (kd f != some .globalImplicit||f==("__debug__":Str)) = true then none else if (f==("_split_list":Str)) = true then bt4 T n kd ro g as else if (f==("Headers":Str)) = true then cm0 T n kd ro g as
     else if (!r6 as) = true then none else match ay6 as with | some (e,c)=>bq8 (T.fz f) (fun g=>yx T n kd ro e g) (fun g=>pev T n kd ro c g) g | none=>if (ay f&&!(as.all f5&&decide (as.length < 20))) = true then none else c7 (evs (pev T n kd ro) as g) fun ys g=>ce T f ys g) = _
 rw [hz]
 have neg:∀ {c:Bool} {x y:Option (D × Sg)},c = false→(if c = true then x else y) = y:=fun h=>by rw [h];rfl
 exact (neg (by rw [hkd,hf.1.1];rfl)).trans ((neg hf.1.2).trans ((neg hf.2).trans ((neg (by rw [hfp];rfl)).trans (bn1 hT h1 h2 h3))))
theorem br9 {q p:Pos} {a b:Expr} {l m:List D} (hkd:kd "zip" = some .globalImplicit) (h1:pev T n kd ro a g = some (.lst l,g1)) (h2:pev T n kd ro b g1 = some (.lst m,g2)):yx T (n + 1) kd ro (.Call (.Name "zip" q) [a,b] [] p) g = some (cr l m,g2):=by
 show (if (kd ("zip":Str) != some .globalImplicit) = true then none else
       c7 (pev T n kd ro a g) fun x g=>c7 (pev T n kd ro b g) fun y g =>
         match x,y with
         | .lst l,.lst m=>some (cr l m,g)
         | _,_=>none) = _
 exact (ft (by rw [hkd];rfl)).trans ((c8 h1).trans (c8 h2))
end
theorem qd:∀ ps:List (Str × Str),jz (ps.map m7) = some ps
 | []=>rfl
 | p::r=>by
   show (au3 (m7 p)).bind (fun q=>(jz (r.map m7)).bind fun ps=>some (q::ps)) = _
   rw [qd r];rfl
theorem rq:∀ R:Rw,cr (R.map fun q=>sg q.1) (R.map fun q=>.str (sOf q.2)) = (f8 R).map m7
 | []=>rfl
 | q::r=>congrArg (D.tup [sg q.1,.str (sOf q.2)]::·) (rq r)
theorem bm1 {S:Rw} {m:Nat} {g:Sg} (h:Six S):cg5 [.lst (cr (S.map fun q=>sg q.1) (S.map fun q=>.str (sOf q.2))),sg m] g = some (.tup [.lst ((am6 S m).map ag5),.lst ((aa7 S m).map ag5)],g):=by
 rw [rq]
 show ((jz ((f8 S).map m7)).bind fun ps=>if ps.all (fun q=>j7 (Txt.lower q.1)) = true then some (D.tup [.lst ((an9 ps (sOf [m])).map m7),.lst ((ka ps (sOf [m])).map m7)],g) else none) = _
 rw [qd]
 refine (if_pos (wk h)).trans ?_
 rw [zl h]
 unfold an9
 rw [aw8 h,ac9,ac9]
theorem ah0 {n:Nat} {w:List Nat} {t:List (List Nat)}:∀ {R:Rw},(am6 R n).map (·.2) = w::t→cz R n = some w
 | [],h=>by cases h
 | q::r,h=>by
   unfold am6 at h
   unfold cz
   induction hb:Nat.beq (low q.1) n using Bool.casesOn with
   | true =>
     rw [List.filter_cons_of_pos (by rw [hb])] at h
     injection h with h
     rw [← h]
   | false =>
     rw [List.filter_cons_of_neg (by rw [hb];decide)] at h
     exact ah0 (R:=r) h
noncomputable def rd (places:List Nat) (k:Nat):List (List Nat):=((List.range' 0 places.length).filter fun s=>Nat.beq (nth places s) k).map dig
noncomputable def bs7:List (List Nat)→List (List Nat)→Bool
 | [],[]=>true
 | a::r,b::s=>match feq a b with
   | true=>bs7 r s
   | false=>false
 | _,_=>false
theorem au7:∀ {a b:List (List Nat)},bs7 a b = true→a = b
 | [],[],_=>rfl
 | [],_::_,h=>Bool.noConfusion (show false = true from h)
 | _::_,[],h=>Bool.noConfusion (show false = true from h)
 | a::r,b::s,h=>by
   replace h:(match feq a b with
   | true=>bs7 r s
   | false=>false) = true:=h
   induction h2:feq a b using Bool.casesOn with
   | false=>rw [h2] at h;exact Bool.noConfusion (show false = true from h)
   | true =>
     rw [h2] at h
     rw [au7 (a:=r) (b:=s) h,ck.mp h2]
noncomputable def bj7 (places:List Nat):List Nat→Rw→Bool
 | [],S=>match S with
   | []=>true
   | _=>false
 | k::r,S=>match bs7 ((am6 S (120 + k)).map (·.2)) (rd places k) with
   | false=>false
   | true=>match rd places k with
     | []=>false
     | _::_=>bj7 places r (aa7 S (120 + k))
theorem ch2 {places:List Nat} {k:Nat} {r:List Nat} {S:Rw} (h:bj7 places (k::r) S = true):∃ w t,rd places k = w::t∧(am6 S (120 + k)).map (·.2) = w::t∧bj7 places r (aa7 S (120 + k)) = true:=by
 replace h:(match bs7 ((am6 S (120 + k)).map (·.2)) (rd places k) with
   | false=>false
   | true=>match rd places k with
     | []=>false
     | _::_=>bj7 places r (aa7 S (120 + k))) = true:=h
 induction h1:bs7 ((am6 S (120 + k)).map (·.2)) (rd places k) using Bool.casesOn with
 | false=>rw [h1] at h;exact Bool.noConfusion (show false = true from h)
 | true =>
   rw [h1] at h
   have e:=au7 h1
   induction h2:rd places k using List.casesOn with
   | nil=>rw [h2] at h;exact Bool.noConfusion (show false = true from h)
   | cons w t =>
     rw [h2] at h
     exact ⟨w,t,rfl,e.trans h2,h⟩
noncomputable def wD (w:List Nat):D:=.str (sOf w)
theorem bu0 {k:Nat} (hk:k < 3):∃ m,z7 (.str "xYz") (.int (k:Nat)) = some (sg m)∧Is6 m∧low m = 120 + k:=by
 rcases (by lia:k = 0∨k = 1∨k = 2) with rfl | rfl | rfl
 · exact ⟨120,rfl,.inl rfl,rfl⟩
 · exact ⟨89,rfl,.inr (.inr (.inr (.inr (.inl rfl)))),rfl⟩
 · exact ⟨122,rfl,.inr (.inr (.inl rfl)),rfl⟩
theorem bw2 {a b:Nat}:jo .Eq (.int (a:Nat)) (.int (b:Nat)) = some (Nat.beq a b):=by
 show some ((a:Int)==(b:Int)) = _
 congr 1
 rw [Bool.eq_iff_iff,beq_iff_eq,Nat.beq_eq]
 lia
noncomputable def oe:ae:=jj Tz [] 56 (aa9 "_law_record") (o0 "_law_record") (f9 ["steps","places"])
noncomputable abbrev foR (places:List Nat) (tl:Fo):Fo:=("steps",.val (.hdr 1))::("places",.val (.lst (fw places)))::tl
noncomputable abbrev cx1:List Stmt:=bo3 (o0 "_law_record")
theorem az0 {n k:Nat} {places:List Nat} {w:List Nat} {t:List (List Nat)} {S:Rw} {X:List (Str × Str)} {tl:Fo} (hk:k < 3) (hS:Six S) (hp:places.length≤20) (h1:rd places k = w::t) (h2:(am6 S (120 + k)).map (·.2) = w::t) (ht:db ["k","own","others","due"] tl) :
   ∃ tl1,db ["k","own","others","due"] tl1∧f7 Tz [] (n + 20) (nq "_law_record") cx1 (j9 [("k",.int (k:Nat))] (foR places tl)) [X,f8 S] = some (.next (foR places tl1) [X,f8 (aa7 S (120 + k))]):=by
 obtain ⟨tl1,⟨tl2,⟨tl3,⟨tl4,h5,s4⟩,s3⟩,s2⟩,s1⟩:=ht
 refine ze (bu0 hk) fun m hm=>za2 hm fun m1 m2 m3=>?_
 have h6:=mo hk
 have e0:j9 [(("k":Str),D.int (k:Nat))] (foR places tl) = foR places (("k",.val (.int (k:Nat)))::tl1):=by
   show (("steps":Str),_)::(("places":Str),_)::o9 ("k":Str) _ tl = _
   rw [s1]
 have e1:∀ (l m:D),dw (nq "_law_record") [.Name "own" ⟨175,8,175,11⟩,.Name "others" ⟨175,13,175,19⟩] [l,m] (foR places (("k",.val (.int (k:Nat)))::tl1)) = some (foR places (("k",.val (.int (k:Nat)))::("own",.val l)::("others",.val m)::tl3)):=fun l m=>by
   show some ((("steps":Str),_)::(("places":Str),_)::(("k":Str),_)::o9 "others" (.val m) (o9 "own" (.val l) tl1)) = _
   rw [s2]
   show some ((("steps":Str),_)::(("places":Str),_)::(("k":Str),_)::("own",.val l)::o9 "others" (.val m) tl2) = _
   rw [s3]
 have e2:∀ (l m d:D),o9 "due" (.val d) (foR places (("k",.val (.int (k:Nat)))::("own",.val l)::("others",.val m)::tl3)) = foR places (("k",.val (.int (k:Nat)))::("own",.val l)::("others",.val m)::("due",.val d)::tl4):=fun l m d=>by
   show (("steps":Str),_)::(("places":Str),_)::(("k":Str),_)::(("own":Str),_)::(("others":Str),_)::o9 "due" (.val d) tl3 = _
   rw [s4]
 have hown2:((am6 S (120 + k)).map fun q=>D.str (sOf q.2)) = (w::t).map wD:=by rw [← h2,List.map_map];rfl
 have hdue:(((List.range' 0 places.length).filter fun s=>Nat.beq (nth places s) k).map fun s=>D.str (sOf (dig s))) = (w::t).map wD:=by
   rw [← h1]
   unfold rd
   rw [List.map_map];rfl
 have jy:=an3 (g:=[X,f8 S]) (k:=1) hS m2 rfl (w:=w) (by rw [m3];exact ah0 h2)
 have hgal:=bf5 (g:=[X,f8 S]) (k:=1) hS h6.2.1 rfl
 rw [h6.2.2.2,hown2] at hgal
 have ka:=av0 (g:=[X,f8 S]) (k:=1) hS m2 rfl
 rw [m3] at ka
 have hsame:jo .NotEq (.lst ((w::t).map wD)) (.lst ((w::t).map wD)) = some false:=av8 (fun a=>an5) (fun a=>Nat.le_of_ble_eq_true rfl)
 have hlen:((w::t).map wD).length≤lim:=by
   have:=congrArg List.length h1
   unfold rd at this
   rw [List.length_map] at this
   have h3:=List.length_filter_le (fun s=>Nat.beq (nth places s) k) (List.range' 0 places.length)
   rw [List.length_range'] at h3
   rw [List.length_map,← this]
   unfold lim;lia
 refine ⟨("k",.val (.int (k:Nat)))::("own",.val (.lst ((am6 S (120 + k)).map ag5)))::("others",.val (.lst ((aa7 S (120 + k)).map ag5)))::("due",.val (.lst ((w::t).map wD)))::tl4,j3 (j3 (j3 (j3 h5))),?_⟩
 rw [e0]
 conv=>lhs;arg 5;whnf
 refine d7 (gj rfl (cr6 rfl rfl rfl rfl rfl (br9 rfl (m8 rfl (a7 rfl rfl) b9 (bf9 (g:=[X,f8 S]) (k:=1) rfl)) (m8 rfl (a7 rfl rfl) b9 (bc4 (g:=[X,f8 S]) (k:=1) rfl))) (d8 (j2 rfl) (a7 rfl rfl) (xo hk).2) (bm1 hS)) rfl (e1 _ _)) ?_
 refine d7 (r5 rfl (z1 (ys:=(w::t).map wD) (g2:=[X,f8 S]) rfl (bo rfl (b0 rfl (fg rfl rfl rfl rfl rfl (b0 rfl (a7 rfl rfl) b9) mi) b9) (bm3 (b:=(fw places).length) (by unfold fw;rw [List.length_map];lia))) ?_ hlen) (e2 _ _ _)) ?_
 · rw [← hdue,show (fw places).length = places.length from List.length_map _]
   refine am (q:=fun s=>Nat.beq (nth places s) k) fun s hs=>⟨_,rfl,ah8 (r0 (d8 (a7 rfl rfl) (a7 rfl rfl) (ai9 ?_)) (a7 rfl rfl) bw2),fun J=>fg rfl rfl rfl rfl rfl (b0 rfl (a7 rfl rfl) b9) (ai5 ?_)⟩
   · have:=(List.mem_range'_1.mp hs).2;lia
   · have:=(List.mem_range'_1.mp hs).2;lia
 refine d7 (gu (c:=false) (bq9 (th (r0 (z1 (ys:=(w::t).map wD) (g2:=[X,f8 S]) rfl (gw rfl (a7 rfl rfl) rfl) (by rw [← hown2];exact u7 (f:=ag5) fun q hq=>⟨_,rfl,rfl,a7 rfl rfl⟩) hlen) (a7 rfl rfl) hsame)
   (th (r0 (m8 rfl (a7 rfl rfl) (b0 rfl (d8 (j2 rfl) (a7 rfl rfl) (xo hk).1) b9) hgal) (a7 rfl rfl) hsame)
   (th (r0 (m8 rfl (a7 rfl rfl) (b0 rfl (d8 (j2 rfl) (a7 rfl rfl) m1) b9) jy) (d8 (a7 rfl rfl) j4 (ou (i:=0) rfl)) (by rw [show wD w = .str (sOf w) from rfl,ut,beq_self_eq_true];rfl)) zg)))) t8) ?_
 refine d7 (bh2 (a7 rfl rfl) (d8 (j2 rfl) (a7 rfl rfl) m1) rfl ka) ?_
 exact d7 (gu (c:=false) (r0 (m8 rfl (a7 rfl rfl) b9 (md (g:=[X,f8 (aa7 S (120 + k))]) (k:=1) rfl)) (a7 rfl rfl) ax7) t8) t8
theorem al0 {T:Tbl} {k m:Nat} {g:Sg} (hT:T.mt "__len__" = some bs0) (h:bs0 [.hdr k] g = some (.int (m:Nat),g)) (hm:m≤1000):ce T "len" [.hdr k] g = some (.int (m:Nat),g):=by
 show c7 (fnC (T.mt "__len__") [.hdr k] g) cl2 = _
 rw [hT]
 refine (c8 (show fnC (some bs0) [.hdr k] g = _ from h)).trans ?_
 exact if_pos ⟨Int.natCast_nonneg m,by lia⟩
theorem au6 {places:List Nat} {S:Rw} {X:List (Str × Str)} (hS:Six S) (hp:places.length≤20) (h:bj7 places [0,1,2] S = true):oe [.hdr 1,.lst (fw places)] [X,f8 S] = some (.bool true,[X,f8 []]):=by
 have run:f7 Tz [] 56 (nq "_law_record") (o0 "_law_record") (m0 [("steps",.hdr 1),("places",.lst (fw places))]) [X,f8 S] = some (.ret (.bool true) [X,f8 []]):=by
   have step:=@az0 34
   conv=>lhs;arg 5;whnf
   refine si (f:=fun (k:Nat)=>D.int (k:Nat)) (l:=[0,1,2]) (fun d g=>False)
     (fun l fo g=>∃ S tl,(∀ k∈l,k < 3)∧fo = foR places tl∧g = [X,f8 S]∧db ["k","own","others","due"] tl∧Six S∧bj7 places l S = true)
     rfl (nf rfl (bo rfl (b0 rfl j4 b9) rfl)) ⟨S,[],by decide,rfl,rfl,bq _,hS,h⟩ ?_ ?_ (fun _ _ h=>h.elim)
   · rintro k r fo g ⟨S,tl,hk,rfl,rfl,ht,hS,h⟩
     refine ⟨_,rfl,rfl,.inl ?_⟩
     refine ze2a2 (ch2 h) fun w t h1 h2 h3=>?_
     refine zea (step (X:=X) (hk k (.head _)) hS hp h1 h2 ht) fun tl1 h4 h5=>?_
     exact ⟨_,_,h5,_,tl1,fun k hk'=>hk k (.tail _ hk'),rfl,rfl,h4,hS.del,h3⟩
   · rintro fo g ⟨S,tl,hk,rfl,rfl,ht,hS,h⟩
     induction S using List.casesOn with
     | cons q r=>exact Bool.noConfusion (show false = true from h)
     | nil=>exact dg (v5 (yo (fg rfl rfl rfl rfl rfl (b0 rfl (a7 rfl rfl) b9) (al0 (m:=0) rfl (bl4 (g:=[X,f8 []]) (k:=1) (R:=[]) rfl) (by decide))) j4 rfl))
 exact gn ["steps","places"] (l:=[("steps",.hdr 1),("places",.lst (fw places))]) rfl rfl (by decide +kernel) run
end Mine
namespace Mine
open Builtin Builtin.Str StrLaws
noncomputable def ak9 (x:Int):Nat:=match (x % 3).toNat with
 | 0=>97
 | 1=>98
 | _=>99
theorem ao5 (x:Int):z7 (.str "abc") (.int (x % 3)) = some (sg (ak9 x)):=by
 have h1:0≤x % 3:=Int.emod_nonneg _ (by decide)
 have h2:x % 3 < 3:=Int.emod_lt_of_pos _ (by decide)
 unfold ak9
 rcases (by lia:x % 3 = 0∨x % 3 = 1∨x % 3 = 2) with e | e | e<;>rw [e]<;>rfl
theorem ct5 {x y:Int} (h:0 < y):ac6 .Mod (.int x) (.int y) = some (.int (x % y)):=if_pos h
theorem qh {l:List D}:y0 (.lst l) none none (some (-1)) = some (.lst l.reverse):=by
 unfold y0
 rw [if_neg (by simp)]
 show some (D.lst ((picks l.length none none (some (-1))).filterMap (l[·]?))) = _
 unfold picks
 rw [show (some (-1:Int)).getD 1 = -1 from rfl,PyProof.Rows.picked_rev,vp]
theorem ar6 {α:Type} {f:α→D} {l:List α} (hd:∀ a,dep (f a)≤10):jo .Is (.lst (l.map f)) .none = some false:=by
 have h1:dep (.lst (l.map f))≤11:=Nat.succ_le_succ (ab5 hd l)
 unfold jo
 rw [if_neg (by rw [show dep .none = 0 from rfl];lia)]
theorem cb0 {a b:Nat}:jo .Lt (.int (a:Nat)) (.int (b:Nat)) = some (Nat.ble (a + 1) b):=ax4
theorem ae6 {a:Str}:jo .NotEq (.str a) (.str a) = some false:=by rw [ut,beq_self_eq_true];rfl
theorem ax2 {p y:Nat} {R R1:Rw} (hp:p < 3) (hR:Rok R) (h:lh p R = some (y,R1)):Rok R1:=by
 refine ze2a2 (ag3 h) fun t x hw hl hb=>?_
 have hwc:=hR.some hw
 have hx:=hwc x (List.mem_append_right _ (.head _))
 induction t using List.casesOn with
 | nil=>exact wi (by lia) hR.del hx hb
 | cons c t=>exact wi (by lia) (hR.set (mo hp).1 fun d hd=>hwc d (List.mem_append_left _ hd)) hx hb
noncomputable def uv:Rw→Rw→Option (List Nat × Rw)
 | [],R=>some ([],R)
 | q::r,R=>match lh (low q.1 - 120) R with
   | none=>none
   | some yR=>match uv r yR.2 with
     | none=>none
     | some zR=>some (yR.1::zR.1,zR.2)
theorem bo2 {q:Nat × List Nat} {r R R2:Rw} {ys:List Nat} (h:uv (q::r) R = some (ys,R2)):∃ y R1 zs,lh (low q.1 - 120) R = some (y,R1)∧uv r R1 = some (zs,R2)∧ys = y::zs:=by
 replace h:(match lh (low q.1 - 120) R with
   | none=>none
   | some yR=>match uv r yR.2 with
     | none=>none
     | some zR=>some (yR.1::zR.1,zR.2)) = some (ys,R2):=h
 induction h1:lh (low q.1 - 120) R using Option.casesOn with
 | none=>rw [h1] at h;exact a8 h
 | some yR =>
   rw [h1] at h
   replace h:(match uv r yR.2 with
     | none=>none
     | some zR=>some (yR.1::zR.1,zR.2)) = some (ys,R2):=h
   induction h2:uv r yR.2 using Option.casesOn with
   | none=>rw [h2] at h;exact a8 h
   | some zR =>
     rw [h2] at h
     injection h with h
     injection h with h3 h4
     exact ⟨yR.1,yR.2,zR.1,rfl,by rw [h2,← h4],h3.symm⟩
theorem pv {T:Tbl} {m:Nat} {g:Sg} (h:Is6 m):ez T "index" (.str "xyz") [sg (low m)] g = some (.int ((low m - 120:Nat):Int),g)∧low m - 120 < 3:=by
 have key:∀ j n:Nat,n = 120 + j→Builtin.Str.occurrences "xyz" (sOf [n]) 0 ("xyz":Str).length 1 = [j]→j < 3→ez T "index" (.str "xyz") [sg n] g = some (.int ((n - 120:Nat):Int),g)∧n - 120 < 3:=fun j n e h1 h2=>by
   subst e
   rw [Nat.add_sub_cancel_left]
   refine ⟨?_,h2⟩
   show ag7 (Builtin.Str.occurrences "xyz" (sOf [120 + j]) 0 ("xyz":Str).length 1) g = _
   rw [h1];rfl
 have h0:=key 0 120 rfl (by decide +kernel) (by decide)
 have h1:=key 1 121 rfl (by decide +kernel) (by decide)
 have h2:=key 2 122 rfl (by decide +kernel) (by decide)
 rcases h with rfl | rfl | rfl | rfl | rfl | rfl<;>first | exact h0 | exact h1 | exact h2
theorem br7 {m:Nat} (h:Is6 m):j7 (Txt.lower (sOf [m])) = true:=by rw [am7 h];exact me (Nat.le_of_ble_eq_true rfl)
theorem yl {tr el:Ro→Sg→Option (D × Sg)} {t:Expr} {base:Ro} {X:List (Str × Str)} (ht:∀ q,tgt t (ag5 q) = some [(("name":Str),sg q.1),(("step":Str),D.str (sOf q.2))]) (htr:∀ ro g,tr ro g = some (.bool true,g))
   (hel:∀ (q:Nat × List Nat) (R:Rw) (y:Nat) (R1:Rw),Is6 q.1→Rok R→lh (low q.1 - 120) R = some (y,R1)→el ([(("name":Str),sg q.1),(("step":Str),D.str (sOf q.2))]++base) [f8 R,X] = some (sg y,[f8 R1,X])) :
   ∀ {Q R:Rw} {ys:List Nat} {R2:Rw},(∀ q∈Q,Is6 q.1)→Rok R→uv Q R = some (ys,R2)→o7 (emK tr el) t base (Q.map ag5) [f8 R,X] = some (ys.map sg,[f8 R2,X])
 | [],R,ys,R2,_,_,h=>by
   injection h with h
   injection h with h1 h2
   subst h1;subst h2;rfl
 | q::r,R,ys,R2,h6,hR,h=>by
   refine ze3a2 (bo2 h) fun y R1 zs h1 h2 h3=>?_
   subst h3
   have hq:=h6 q (.head _)
   exact gp (ht q) (htr _ _) (hel q R y R1 hq hR h1) (yl ht htr hel (fun q hq=>h6 q (.tail _ hq)) (ax2 (pv (T:=Tz) (g:=[]) hq).2 hR h1) h2)
theorem wv:∀ (l:List (List Nat)),Str.join (sOf []) (l.map sOf) = sOf l.flatten
 | []=>rfl
 | [c]=>by show sOf c = _;simp
 | c::d::r=>by
   show sOf c++sOf []++Str.join (sOf []) ((d::r).map sOf) = _
   rw [wv (d::r),jr,jr]
   simp
theorem ah2:∀ (l:List (List Nat)),((l.map sOf).map (·.length)).sum = l.flatten.length
 | []=>rfl
 | c::r=>by rw [List.map_cons,List.map_cons,List.sum_cons,ah2 r,j5,List.flatten_cons,List.length_append]
theorem zv {T:Tbl} {g:Sg} {l:List (List Nat)} (h:l.flatten.length≤1000):ez T "join" (.str "") [.lst (l.map wD)] g = some (.str (sOf l.flatten),g):=by
 show ez T "join" (.str (sOf [])) _ g = _
 have h1:JoinOk (sOf []) (l.map sOf) = true:=by
   unfold JoinOk
   rw [StrLaws.joinTotal,ah2,j5]
   unfold tooLong sizeLine
   simp only [List.length_nil,Nat.mul_zero,Nat.add_zero,Bool.not_eq_true',decide_eq_false_iff_not]
   lia
 have h2:Txt.join (sOf []) (l.map sOf) = sOf l.flatten:=by
   show glued (sOf []) _ = _
   rw [StrLaws.glued_eq_join,wv]
 show ak7 (sOf []) (bv (l.map fun c=>.str (sOf c))) g = _
 rw [jb]
 show (if (JoinOk (sOf []) (l.map sOf)&&j7 (Txt.join (sOf []) (l.map sOf))) = true then _ else _) = _
 rw [h1,h2,me h];rfl
noncomputable def bf4:List (List Nat)→List Nat→Nat
 | [],_=>0
 | a::r,w=>match feq a w with
   | true=>0
   | false=>bf4 r w + 1
noncomputable def il:List (List Nat):=[[97],[98],[99],[97,98],[97,99],[98,99],[97,98,99]]
theorem bi2 {w:List Nat}:∀ l:List (List Nat),rb (l.map sOf) (sOf w) = bf4 l w
 | []=>rfl
 | a::r=>by
   have ih:=bi2 (w:=w) r
   unfold rb at ih ⊢
   rw [List.map_cons,List.findIdx_cons,ih,mz,ar3]
   show _ = match feq a w with
     | true=>0
     | false=>bf4 r w + 1
   induction feq a w using Bool.casesOn<;>rfl
theorem bg2 {T:Tbl} {g:Sg} {w:List Nat} (h:bf4 il w < 7):ez T "index" (.lst (il.map wD)) [wD w] g = some (.int (bf4 il w:Nat),g):=by
 show (match bv (il.map fun c=>.str (sOf c)) with | some ts=>cu6 ts (sOf w) g | none=>none) = _
 rw [jb]
 show (if rb (il.map sOf) (sOf w) < (il.map sOf).length then some (D.int (rb (il.map sOf) (sOf w)),g) else none) = _
 rw [bi2]
 exact if_pos h
noncomputable def ng (w:List Nat):Nat:=97 + bf4 il w
theorem bl7 {i:Nat} (h:i < 7):z7 (.str "abcdefg") (.int (i:Nat)) = some (sg (97 + i)):=by
 rcases (by lia:i = 0∨i = 1∨i = 2∨i = 3∨i = 4∨i = 5∨i = 6) with rfl | rfl | rfl | rfl | rfl | rfl | rfl<;>rfl
noncomputable def ce5 (due:List (List Nat)) (k:Nat):List Nat:=(due.filter fun w=>Nat.ble (k + 1) w.length).map fun w=>nth w k
noncomputable def wb (due:List (List Nat)):List (List Nat):=(List.range' 0 (zw due 0).length).map (ce5 due)
noncomputable def gc:List (List Nat × List Nat):=[([97,100],[100,97]),([97,101],[101,97]),([97,102],[101,98]),([97,103],[103,97]),([98,97],[100]),([98,100],[100,98]),([98,101],[100,99]),([98,102],[102,98]),([98,103],[103,98]),([99,97],[101]),([99,98],[102]),([99,100],[103]),([99,101],[101,99]),([99,102],[102,99]),([99,103],[103,99]),([100,103],[103,100]),([101,100],[103,97]),([101,103],[103,101]),([102,97],[103]),([102,100],[103,98]),([102,101],[103,99]),([102,103],[103,102])]
noncomputable def ps4:List (List Nat × List Nat):=[([100],[98,97]),([101],[99,97]),([102],[99,98]),([103],[99,98,97])]
theorem ax0 {α:Type} {p:α→Prop} [∀ a,Decidable (p a)] {l:List α} (h:(l.all fun a=>decide (p a)) = true):∀ a∈l,p a:=fun a ha=>of_decide_eq_true (List.all_eq_true.mp h a ha)
theorem ar7:∀ p∈gc,zp p∧p.1.length≤1000:=by
 have:∀ p∈gc,((1≤p.1.length∧p.1.all (fun c=>decide (c < 256)) = true∧p.2.length≤1000)∧p.2.length≤p.1.length)∧p.1.length≤1000:=ax0 (by decide +kernel)
 exact this
theorem bv0:∀ p∈ps4,rj p∧max 1 p.2.length≤3:=by
 have:∀ p∈ps4,(1≤p.1.length∧p.1.all (fun c=>decide (c < 256)) = true∧p.2.length≤1000)∧max 1 p.2.length≤3:=ax0 (by decide +kernel)
 exact this
theorem bp8 {T:Tbl} {g:Sg}:ez T "split" (.str "ad da ae ea af eb ag ga ba d bd db be dc bf fb bg gb ca e cb f cd g ce ec cf fc cg gc dg gd ed ga eg ge fa g fd gb fe gc fg gf") [.str " "] g = some (.lst (r9 gc),g):=by
 have e:Txt.split "ad da ae ea af eb ag ga ba d bd db be dc bf fb bg gb ca e cb f cd g ce ec cf fc cg gc dg gd ed ga eg ge fa g fd gb fe gc fg gf" " " = (gc.map fun p=>[sOf p.1,sOf p.2]).flatten:=by decide +kernel
 have h1:(((gc.map fun p=>[sOf p.1,sOf p.2]).flatten).length≤lim∧((gc.map fun p=>[sOf p.1,sOf p.2]).flatten).all j7 = true):=by decide +kernel
 show (if ((" ":Str).length==0) = true then none else if (Txt.split "ad da ae ea af eb ag ga ba d bd db be dc bf fb bg gb ca e cb f cd g ce ec cf fc cg gc dg gd ed ga eg ge fa g fd gb fe gc fg gf" " ").length≤lim∧(Txt.split "ad da ae ea af eb ag ga ba d bd db be dc bf fb bg gb ca e cb f cd g ce ec cf fc cg gc dg gd ed ga eg ge fa g fd gb fe gc fg gf" " ").all j7 = true then some (D.lst ((Txt.split "ad da ae ea af eb ag ga ba d bd db be dc bf fb bg gb ca e cb f cd g ce ec cf fc cg gc dg gd ed ga eg ge fa g fd gb fe gc fg gf" " ").map .str),g) else none) = _
 rw [e]
 exact (if_neg (by decide +kernel)).trans (if_pos h1)
noncomputable def ck5:List Nat:=[42,40,38,36,34,32,30,28,26,24,22,20,18,16,14,12,10,8,6,4,2,0]
theorem az2:m5 42 (-2) (-2) = some (ck5.map fun (k:Nat)=>D.int (k:Nat)):=rfl
theorem yu {em:Em} {t:Expr} {base:Ro} {g:Sg} {α:Type} {f:α→D} {h:α→List D}:∀ {l:List α},(∀ c∈l,∃ b,tgt t (f c) = some b∧em (b++base) g = some (h c,g))→o7 em t base (l.map f) g = some ((l.map h).flatten,g)
 | [],_=>rfl
 | c::r,hh=>by
   refine zea (hh c (.head _)) fun b h1 h2=>?_
   exact mw h1 h2 (yu (l:=r) fun c hc=>hh c (.tail _ hc))
noncomputable def cv5:List Nat:=[0,2,4,6,8,10,12,14,16,18,20,22,24,26,28,30,32,34,36,38,40,42]
theorem bt5:m5 0 44 2 = some (cv5.map fun (k:Nat)=>D.int (k:Nat)):=rfl
theorem bl0:m5 0 ((r9 gc).length:Nat) 2 = some ((List.range' 0 gc.length).map fun (k:Nat)=>D.int ((2 * k:Nat):Int)):=by
 have e:(List.range' 0 gc.length).map (fun k=>2 * k) = cv5:=by decide +kernel
 have e2:=congrArg (fun l=>some (l.map fun (k:Nat)=>D.int (k:Nat))) e
 rw [List.map_map] at e2
 exact bt5.trans e2.symm
end Mine
end
section
open PySem PySem.W PySem.Calls PyProof.Rows
set_option maxHeartbeats 4000000
namespace Mine
open Builtin Builtin.Str StrLaws
noncomputable def TW:Tbl:=hT [("_law_grown",ub),("_law_taken",te),("_law_record",oe),("_law_settled",km),("replace",ir),("_law_put",be3)]
noncomputable def bp4:ae:=jj TW [] 56 (aa9 "law") (o0 "law") (f9 ["script"])
structure cf3 (W:List Nat) (ds:List (List (List Nat))) (due:List (List Nat)) (places:List Nat) (R S:Rw):Prop where
 d1:pu W = some ds
 gr:dk W ds 0 [] [] [[],[],[]] [] [] = some (due,places,R,S)
 tk:uv S.reverse R = some (W.reverse,[])
 rc:bj7 places [0,1,2] S = true
 wd:(zw due 0).length≤12
 cl:∀ w∈wb due,bf4 il w < 7
 s1:bj2 gc 100 W = some ((wb due).map ng)
 s2:bj2 gc.reverse 100 W = some ((wb due).map ng)
 rp:n6 ps4 ((wb due).map ng) = ((wb due).map List.reverse).flatten
theorem bn4 {T:Tbl} {n:Nat} {kd:Kd} {ro:Ro} {g g1:Sg} {f:Expr} {as:List Expr} {p:Pos} {d:D} {c:Bool} (h1:pev T n kd ro (.Call f as [] p) g = some (d,g1)) (h:z6 d = some c):pt T (n + 1) kd ro (.Call f as [] p) g = some (c,g1):=by
 show (c7 (pev T n kd ro (.Call f as [] p) g) fun x g=>(z6 x).map (·,g)) = _
 exact (c8 h1).trans (ah h)
theorem wg {due:List (List Nat)} {k:Nat}:(ce5 due k).length≤due.length:=by
 unfold ce5
 rw [List.length_map]
 exact List.length_filter_le _ _
theorem wm {m:Nat}:∀ {l:List (List Nat)},(∀ w∈l,w.length≤m)→(l.map List.reverse).flatten.length≤l.length * m
 | [],_=>Nat.zero_le _
 | w::r,h=>by
   have h1:=h w (.head _)
   have h2:=wm (l:=r) fun v hv=>h v (.tail _ hv)
   rw [List.map_cons,List.flatten_cons,List.length_append,List.length_reverse,List.length_cons,Nat.succ_mul]
   lia
theorem aa2 {w:List Nat} (h:w.length≤1000):y0 (wD w) none none (some (-1)) = some (wD w.reverse):=yc (by unfold lim;lia)
theorem be8 {ys:List D} {g:Sg}:ce TW "_law_grown" ys g = ub ys g:=rfl
theorem bc2 {ys:List D} {g:Sg}:ce TW "_law_taken" ys g = te ys g:=rfl
theorem ap6 {ys:List D} {g:Sg}:ce TW "_law_record" ys g = oe ys g:=rfl
theorem su {ys:List D} {g:Sg}:ce TW "_law_settled" ys g = km ys g:=rfl
theorem sz {ys:List D} {g:Sg}:ce TW "replace" ys g = ir ys g:=rfl
theorem cj5 {ys:List D} {g:Sg}:ce TW "_law_put" ys g = be3 ys g:=rfl
theorem br6 {tr el:Ro→Sg→Option (D × Sg)} {t:Expr} {base:Ro} {g:Sg} {l:List D} (hh:∀ c∈l,∃ b,tgt t c = some b∧tr (b++base) g = some (.bool true,g)∧el (b++base) g = some (c,g)):o7 (emK tr el) t base l g = some (l,g):=by
 have:=u7 (f:=fun d:D=>d) (h:=fun d:D=>d) (l:=l) hh
 rw [List.map_id'] at this
 exact this
theorem ca1 {xs:List Int} {W:List Nat} {ds:List (List (List Nat))} {due:List (List Nat)} {places:List Nat} {R S:Rw} (hW:(xs.take 6).map ak9++[99,97,98,97,98] = W) (h:cf3 W ds due places R S):bp4 [.lst (xs.map .int)] [] = some (.bool true,[[],[]]):=by
 have hx6:(xs.take 6).length≤6:=by rw [List.length_take];exact Nat.min_le_left _ _
 have hWl:W.length≤11:=by rw [← hW,List.length_append,List.length_map];simp;lia
 have hWc:∀ c∈W,32≤c∧c < 127:=fun c hc=>by
   rw [← hW] at hc
   rcases List.mem_append.mp hc with hc | hc
   · refine zea (List.mem_map.mp hc) fun x J e=>?_
     rw [← e]
     unfold ak9
     split<;>decide
   · simp only [List.mem_cons,List.not_mem_nil,or_false] at hc
     rcases hc with rfl | rfl | rfl | rfl | rfl<;>decide
 refine za (ba3 (by lia) hWc h.d1 h.gr) fun hgrown gok=>?_
 have hS6:Six S:=⟨by rw [gok.Sl];lia,gok.S⟩
 have hrec:=au6 (X:=f8 []) hS6 (by rw [gok.pl];lia) h.rc
 have shr:∀ p∈gc,zp p:=fun p hp=>(ar7 p hp).1
 have hset1:=sk (g:=[f8 [],f8 []]) shr (by decide) (by lia) h.s1
 have hset2:=sk (g:=[f8 [],f8 []]) (ps:=gc.reverse) (fun p hp=>shr p (List.mem_reverse.mp hp)) (by decide) (by lia) h.s2
 have hput:=by3 (g:=[f8 [],f8 []]) (t:=W) ar7 (by lia) bl0
 have hrep:=mm (g:=[f8 [],f8 []]) (t:=W) (ps:=gc) (jd shr (by lia)) (by decide)
 generalize hcs:wb due = cs at *
 have hcl:cs.length≤12:=by rw [← hcs];unfold wb;rw [List.length_map,List.length_range'];exact h.wd
 have hcw:∀ w∈cs,w.length≤3:=fun w hw=>by
   rw [← hcs] at hw
   refine zea (List.mem_map.mp hw) fun k J e=>?_
   rw [← e,← gok.due]
   exact wg
 have hfl:=wm hcw
 have hrep4:=mm (g:=[f8 [],f8 []]) (t:=cs.map ng) (ps:=ps4) (af8 (m:=12) bv0 (by rw [List.length_map];exact hcl) (by decide)) (by decide)
 have hps22:ye gc W:=jd shr (by lia)
 have run:f7 TW [] 56 (nq "law") (o0 "law") (m0 [("script",.lst (xs.map .int))]) [] = some (.ret (.bool true) [[],[]]):=by
   conv=>lhs;arg 5;whnf
   refine d7 (r5 (d:=.str (sOf W)) (g1:=[]) (fo1:=[("script",.val (.lst (xs.map .int))),("word",.val (.str (sOf W)))]) rfl (j8 (m8 rfl (j2 rfl) (b0 rfl (z1 (ys:=((xs.take 6).map ak9).map sg) (g2:=[]) rfl (gw rfl (w4 (a7 rfl rfl) l8 (r7 j4 rfl) l8 (tu (r:=(xs.take 6).map .int) ?_)) rfl) ?_ ?_) b9) (dv (l:=(xs.take 6).map ak9) ?_)) (j2 rfl) ?_) rfl) ?_
   · show ((xs.map D.int).drop 0).take (y7 (some (6:Int)) _ _ - 0) = _
     rw [show (6:Int) = ((6:Nat):Int) from rfl,pj,List.drop_zero,Nat.sub_zero,List.length_map,List.map_take]
     by_cases h6:6≤xs.length
     · rw [Nat.min_eq_left h6]
     · rw [Nat.min_eq_right (by lia),List.take_of_length_le (by rw [List.length_map];exact Nat.le_refl _),List.take_of_length_le (by rw [List.length_map];lia)]
   · rw [List.map_map]
     exact u7 (f:=D.int) fun x hx=>⟨_,rfl,rfl,d8 (j2 rfl) (j8 (a7 rfl rfl) j4 (ct5 (by decide))) (ao5 x)⟩
   · rw [List.length_map,List.length_map];unfold lim;lia
   · rw [List.length_map];unfold lim;lia
   · exact (aj5 (b:=[99,97,98,97,98]) (by rw [List.length_map];unfold lim;simp;lia)).trans (by rw [hW])
   refine d7 (ax1 (ds:=[.hdr 0,.hdr 1]) (g1:=[f8 [],f8 []]) (fo1:=[("script",.val (.lst (xs.map .int))),("word",.val (.str (sOf W))),("rows",.val (.hdr 0)),("steps",.val (.hdr 1))]) rfl rfl (iq (b0 rfl (bh1 (g1:=[[]]) rfl rfl rfl) (b0 rfl (bh1 (g1:=[f8 [],f8 []]) rfl rfl rfl) b9)) (u9 rfl)) rfl) ?_
   refine d7 (gj (g1:=[f8 R,f8 S]) (fo1:=[("script",.val (.lst (xs.map .int))),("word",.val (.str (sOf W))),("rows",.val (.hdr 0)),("steps",.val (.hdr 1)),("due",.val (z3 due)),("places",.val (.lst (fw places)))]) rfl (mr rfl rfl rfl rfl rfl (b0 rfl (a7 rfl rfl) (b0 rfl (a7 rfl rfl) (b0 rfl (a7 rfl rfl) b9))) (be8.trans hgrown)) rfl rfl) ?_
   refine d7 (gu (c:=false) (r0 (a7 rfl rfl) at0 (ar6 fun w=>Nat.le_of_ble_eq_true rfl)) t8) ?_
   refine d7 (r5 (d:=.lst (W.reverse.map sg)) (g1:=[f8 [],f8 S]) (fo1:=[("script",.val (.lst (xs.map .int))),("word",.val (.str (sOf W))),("rows",.val (.hdr 0)),("steps",.val (.hdr 1)),("due",.val (z3 due)),("places",.val (.lst (fw places))),("told",.val (.lst (W.reverse.map sg)))]) rfl (z1 (g2:=[f8 [],f8 S]) rfl (gw rfl (w4 (m8 rfl (a7 rfl rfl) b9 (md (g:=[f8 R,f8 S]) (k:=1) (R:=S) rfl)) l8 l8 (r7 (jl j4) rfl) qh) (ds:=S.reverse.map ag5) (by rw [ac9,← List.map_reverse];rfl))
     (yl (fun q=>rfl) (fun ro g=>rfl) (fun q R y R1 hq hR hf=>mr rfl rfl rfl rfl rfl (b0 rfl (a7 rfl rfl) (b0 rfl (m8 rfl (j2 rfl) (b0 rfl (br (a7 rfl rfl) rfl rfl (br7 hq)) b9) ?_) b9)) (bc2.trans (bg9 (pv (T:=Tz) (g:=[]) hq).2 hR hf))) (fun q hq=>gok.S q (List.mem_reverse.mp hq)) gok.R h.tk) ?_) rfl) ?_
   · rw [am7 hq];exact (pv hq).1
   · rw [List.length_map,List.length_reverse];unfold lim;lia
   have hjt:ez TW "join" (.str "") [.lst (W.reverse.map sg).reverse] [f8 [],f8 S] = some (.str (sOf W),[f8 [],f8 S]):=by
     rw [← List.map_reverse,List.reverse_reverse];exact dv (by unfold lim;lia)
   refine d7 (gu (c:=false) (g1:=[f8 [],f8 []]) (bq9 (th (r0 (m8 rfl (j2 rfl) (b0 rfl (w4 (a7 rfl rfl) l8 l8 (r7 (jl j4) rfl) qh) b9) hjt) (a7 rfl rfl) ae6)
     (th (r0 (m8 rfl (a7 rfl rfl) b9 (md (g:=[f8 [],f8 S]) (k:=0) (R:=[]) rfl)) (di b9 (u9 rfl)) rfl)
     (th (cg6 (c:=true) (bn4 (mr rfl rfl rfl rfl rfl (b0 rfl (a7 rfl rfl) (b0 rfl (a7 rfl rfl) b9)) (ap6.trans hrec)) rfl)) zg)))) t8) ?_
   refine d7 (r5 (d:=.lst (r9 gc)) (g1:=[f8 [],f8 []]) (fo1:=[("script",.val (.lst (xs.map .int))),("word",.val (.str (sOf W))),("rows",.val (.hdr 0)),("steps",.val (.hdr 1)),("due",.val (z3 due)),("places",.val (.lst (fw places))),("told",.val (.lst (W.reverse.map sg))),("pairs",.val (.lst (r9 gc)))]) rfl (m8 rfl (j2 rfl) (b0 rfl (j2 rfl) b9) bp8) rfl) ?_
   refine d7 (r5 (d:=.lst (r9 gc.reverse)) (g1:=[f8 [],f8 []]) (fo1:=[("script",.val (.lst (xs.map .int))),("word",.val (.str (sOf W))),("rows",.val (.hdr 0)),("steps",.val (.hdr 1)),("due",.val (z3 due)),("places",.val (.lst (fw places))),("told",.val (.lst (W.reverse.map sg))),("pairs",.val (.lst (r9 gc))),("turned",.val (.lst (r9 gc.reverse)))]) rfl (bc3 (ds:=ck5.map fun (k:Nat)=>D.int (k:Nat)) (ys:=r9 gc.reverse) (g1:=[f8 [],f8 []]) (g2:=[f8 [],f8 []]) rfl (bo rfl (b0 rfl (j8 (fg rfl rfl rfl rfl rfl (b0 rfl (a7 rfl rfl) b9) mi) j4 (mf (b:=2) (by decide))) (b0 rfl (jl j4) (b0 rfl (jl j4) b9))) az2) ?_ (u9 rfl)) rfl) ?_
   · have e:(ck5.map fun k=>((r9 gc).drop k).take 2).flatten = r9 gc.reverse:=rfl
     rw [← e]
     refine yu (f:=fun (k:Nat)=>D.int (k:Nat)) fun k hk=>⟨_,rfl,?_⟩
     have hk2:k≤42:=ax0 (p:=fun k=>k≤42) (l:=ck5) (by decide +kernel) k hk
     refine (c8 (gw (g1:=[f8 [],f8 []]) (ds:=((r9 gc).drop k).take 2) rfl (w4 (a7 rfl rfl) (r7 (a7 rfl rfl) (gq (by lia))) (r7 (j8 (a7 rfl rfl) j4 (lb (b:=2))) (gq (by lia))) l8 (tu (r:=((r9 gc).drop k).take 2) ?_)) rfl)).trans ?_
     · rw [ie (show k≤(r9 gc).length from Nat.le_trans hk2 (Nat.le_of_ble_eq_true rfl)),ie (show k + 2≤(r9 gc).length from Nat.le_trans (Nat.add_le_add_right hk2 2) (Nat.le_of_ble_eq_true rfl)),Nat.add_sub_cancel_left]
     · exact br6 fun d hd=>⟨_,rfl,rfl,a7 rfl rfl⟩
   refine d7 (r5 (d:=.lst (cs.map wD)) (g1:=[f8 [],f8 []]) (fo1:=[("script",.val (.lst (xs.map .int))),("word",.val (.str (sOf W))),("rows",.val (.hdr 0)),("steps",.val (.hdr 1)),("due",.val (z3 due)),("places",.val (.lst (fw places))),("told",.val (.lst (W.reverse.map sg))),("pairs",.val (.lst (r9 gc))),("turned",.val (.lst (r9 gc.reverse))),("columns",.val (.lst (cs.map wD)))]) rfl (z1 (ys:=cs.map wD) (g2:=[f8 [],f8 []]) rfl (bo rfl (b0 rfl (fg rfl rfl rfl rfl rfl (b0 rfl (d8 (a7 rfl rfl) j4 (ae8 (i:=0) (by rw [gok.due];decide))) b9) v7) b9) (bm3 (by have:=h.wd;lia))) ?_ (by rw [List.length_map];unfold lim;lia)) rfl) ?_
   · rw [← hcs]
     unfold wb
     rw [List.map_map]
     refine u7 (f:=fun (k:Nat)=>D.int (k:Nat)) fun k hk=>⟨_,rfl,rfl,m8 rfl (j2 rfl) (b0 rfl (z1 (ys:=(ce5 due k).map sg) (g2:=[f8 [],f8 []]) rfl (gw rfl (a7 rfl rfl) rfl) ?_ ?_) b9) (dv ?_)⟩
     · unfold ce5
       rw [List.map_map]
       refine am (f:=fun w=>D.str (sOf w)) (q:=fun w=>Nat.ble (k + 1) w.length) fun w hw=>⟨_,rfl,ah8 (r0 (a7 rfl rfl) (fg rfl rfl rfl rfl rfl (b0 rfl (a7 rfl rfl) b9) v7) cb0),fun J=>d8 (a7 rfl rfl) (a7 rfl rfl) (ad9 (gy (Nat.le_of_ble_eq_true J)))⟩
     · have:=wg (due:=due) (k:=k);rw [gok.due] at this;rw [List.length_map];unfold lim;lia
     · have:=wg (due:=due) (k:=k);rw [gok.due] at this;unfold lim;lia
   refine d7 (r5 (d:=.str (sOf (cs.map ng))) (g1:=[f8 [],f8 []]) (fo1:=[("script",.val (.lst (xs.map .int))),("word",.val (.str (sOf W))),("rows",.val (.hdr 0)),("steps",.val (.hdr 1)),("due",.val (z3 due)),("places",.val (.lst (fw places))),("told",.val (.lst (W.reverse.map sg))),("pairs",.val (.lst (r9 gc))),("turned",.val (.lst (r9 gc.reverse))),("columns",.val (.lst (cs.map wD))),("signs",.val (.str (sOf (cs.map ng))))]) rfl (m8 rfl (j2 rfl) (b0 rfl (z1 (ys:=(cs.map ng).map sg) (g2:=[f8 [],f8 []]) rfl (gw rfl (a7 rfl rfl) rfl) ?_ ?_) b9) (dv ?_)) rfl) ?_
   · rw [List.map_map]
     exact u7 (f:=wD) fun w hw=>⟨_,rfl,rfl,d8 (j2 rfl) (m8 rfl (di (b0 rfl (j2 rfl) (b0 rfl (j2 rfl) (b0 rfl (j2 rfl) (b0 rfl (j2 rfl) (b0 rfl (j2 rfl) (b0 rfl (j2 rfl) (b0 rfl (j2 rfl) b9))))))) (u9 rfl)) (b0 rfl (a7 rfl rfl) b9) (bg2 (h.cl w (hcs ▸ hw)))) (bl7 (h.cl w (hcs ▸ hw)))⟩
   · rw [List.length_map,List.length_map];unfold lim;lia
   · rw [List.length_map];unfold lim;lia
   refine d7 (r5 (d:=.str (sOf (cs.map ng))) (g1:=[f8 [],f8 []]) (fo1:=[("script",.val (.lst (xs.map .int))),("word",.val (.str (sOf W))),("rows",.val (.hdr 0)),("steps",.val (.hdr 1)),("due",.val (z3 due)),("places",.val (.lst (fw places))),("told",.val (.lst (W.reverse.map sg))),("pairs",.val (.lst (r9 gc))),("turned",.val (.lst (r9 gc.reverse))),("columns",.val (.lst (cs.map wD))),("signs",.val (.str (sOf (cs.map ng)))),("settled",.val (.str (sOf (cs.map ng))))]) rfl (mr rfl rfl rfl rfl rfl (b0 rfl (a7 rfl rfl) (b0 rfl (a7 rfl rfl) b9)) (su.trans hset1)) rfl) ?_
   refine d7 (gu (c:=false) (g1:=[f8 [],f8 []]) (bq9 (th (r0 (mr rfl rfl rfl rfl rfl (kf rfl (a7 rfl rfl) (a7 rfl rfl)) (sz.trans hrep)) (mr rfl rfl rfl rfl rfl (b0 rfl (a7 rfl rfl) (b0 rfl (a7 rfl rfl) b9)) (cj5.trans hput)) ae6)
     (th (r0 (a7 rfl rfl) (a7 rfl rfl) ae6)
     (th (r0 (mr rfl rfl rfl rfl rfl (b0 rfl (a7 rfl rfl) (b0 rfl (a7 rfl rfl) b9)) (su.trans hset2)) (a7 rfl rfl) ae6) zg)))) t8) ?_
   have hrev:ez TW "join" (.str "") [.lst ((cs.map List.reverse).map wD)] [f8 [],f8 []] = some (.str (sOf (cs.map List.reverse).flatten),[f8 [],f8 []]):=zv (by lia)
   refine dg (v5 (yo (mr rfl rfl rfl rfl rfl (b0 rfl (a7 rfl rfl) (b0 rfl (j2 rfl) (b0 rfl (j2 rfl) (b0 rfl (j2 rfl) (b0 rfl (j2 rfl) (b0 rfl (j2 rfl) (b0 rfl (j2 rfl) (b0 rfl (j2 rfl) (b0 rfl (j2 rfl) b9))))))))) (sz.trans hrep4)) (m8 rfl (j2 rfl) (b0 rfl (z1 (ys:=(cs.map List.reverse).map wD) (g2:=[f8 [],f8 []]) rfl (gw rfl (a7 rfl rfl) rfl) ?_ ?_) b9) hrev) ?_))
   · rw [List.map_map]
     exact u7 (f:=wD) fun w hw=>⟨_,rfl,rfl,w4 (a7 rfl rfl) l8 l8 (r7 (jl j4) rfl) (aa2 (Nat.le_trans (hcw w hw) (by decide)))⟩
   · rw [List.length_map,List.length_map];unfold lim;lia
   · have rp:=h.rp
     rw [hcs] at rp
     rw [lg,rp,beq_self_eq_true]
 exact gn ["script"] (l:=[("script",.lst (xs.map .int))]) rfl rfl (by decide +kernel) run
end Mine
namespace Mine
noncomputable def au0 (a b:Bool):Bool:=match a with
 | true=>b
 | false=>false
theorem w5 {a b:Bool}:au0 a b = true↔a = true∧b = true:=by
 induction a using Bool.casesOn
 · exact ⟨fun h=>Bool.noConfusion (show false = true from h),fun h=>nomatch h.1⟩
 · exact ⟨fun h=>⟨rfl,h⟩,fun h=>h.2⟩
noncomputable def cl7 (o:List Nat):List Nat→Bool:=List.rec (motive:=fun _=>List Nat→Bool) (fun _=>true) (fun a _ ih t=>List.rec (motive:=fun _=>Bool) false (fun b s _=>Bool.rec false (ih s) (Nat.beq a b)) t) o
noncomputable def ct7 (n m:List Nat):List Nat:=List.rec (motive:=fun _=>List Nat) m (fun a _ ih=>a::ih) n
noncomputable def bs8 (o n t:List Nat):Nat→List Nat:=List.rec (motive:=fun _=>Nat→List Nat) (fun _=>[]) (fun c r ih k=>Nat.rec (motive:=fun _=>List Nat) (Bool.rec (c::ih 0) (ct7 n (ih (o.length - 1))) (cl7 o (c::r))) (fun k _=>ih k) k) t
noncomputable def ml (ps:List (List Nat × List Nat)):List Nat→List Nat:=List.rec (motive:=fun _=>List Nat→List Nat) (fun t=>t) (fun p _ ih t=>ih (bs8 p.1 p.2 t 0)) ps
noncomputable def cl1 (a:List Nat):List Nat→Bool:=List.rec (motive:=fun _=>List Nat→Bool) (fun b=>List.rec (motive:=fun _=>Bool) true (fun _ _ _=>false) b) (fun x _ ih b=>List.rec (motive:=fun _=>Bool) false (fun y s _=>Bool.rec false (ih s) (Nat.beq x y)) b) a
noncomputable def bx2 (ps:List (List Nat × List Nat)) (k:Nat):List Nat→Option (List Nat):=Nat.rec (motive:=fun _=>List Nat→Option (List Nat)) (fun _=>none) (fun _ ih B=>(fun C=>Bool.rec (ih C) (some B) (cl1 B C)) (ml ps B)) k
theorem au5:∀ o t:List Nat,cl7 o t = sy o t
 | [],_=>rfl
 | _::_,[]=>rfl
 | a::r,b::s=>by
   show Bool.rec false (cl7 r s) (Nat.beq a b) = match Nat.beq a b with | true=>sy r s | false=>false
   rw [au5 r s]
   induction Nat.beq a b using Bool.casesOn<;>rfl
theorem at3:∀ n m:List Nat,ct7 n m = n++m
 | [],_=>rfl
 | a::r,m=>congrArg (a::·) (at3 r m)
theorem uc {o n:List Nat}:∀ (t:List Nat) (k:Nat),bs8 o n t k = bz o n t k
 | [],k=>by induction k using Nat.casesOn<;>rfl
 | c::r,k + 1=>uc r k
 | c::r,0=>by
   show Bool.rec (c::bs8 o n r 0) (ct7 n (bs8 o n r (o.length - 1))) (cl7 o (c::r)) = match sy o (c::r) with | true=>n++bz o n r (o.length - 1) | false=>c::bz o n r 0
   rw [au5,uc r,uc r,at3]
   induction sy o (c::r) using Bool.casesOn<;>rfl
theorem nb:∀ (ps:List (List Nat × List Nat)) (t:List Nat),ml ps t = n6 ps t
 | [],_=>rfl
 | p::r,t=>by
   show ml r (bs8 p.1 p.2 t 0) = n6 r (bz p.1 p.2 t 0)
   rw [uc,nb r]
theorem ao3:∀ a b:List Nat,cl1 a b = feq a b
 | [],b=>by induction b using List.casesOn<;>rfl
 | _::_,[]=>rfl
 | a::r,b::s=>by
   show Bool.rec false (cl1 r s) (Nat.beq a b) = match Nat.beq a b with | true=>feq r s | false=>false
   rw [ao3 r s]
   induction Nat.beq a b using Bool.casesOn<;>rfl
theorem ab9 {ps:List (List Nat × List Nat)}:∀ (k:Nat) (B:List Nat),bx2 ps k B = bj2 ps k B
 | 0,_=>rfl
 | k + 1,B=>by
   show Bool.rec (bx2 ps k (ml ps B)) (some B) (cl1 B (ml ps B)) = match feq B (n6 ps B) with | true=>some B | false=>bj2 ps k (n6 ps B)
   rw [nb,ao3,ab9 k]
   induction feq B (n6 ps B) using Bool.casesOn<;>rfl
noncomputable def cn3:List (List Nat)→Bool
 | []=>true
 | w::r=>au0 (Nat.ble (bf4 il w) 6) (cn3 r)
theorem aq5:∀ {l:List (List Nat)},cn3 l = true→∀ w∈l,bf4 il w < 7
 | [],_,w,h=>by cases h
 | a::r,h,w,hw=>by
   refine za (w5.mp h) fun h1 h2=>?_
   rcases List.mem_cons.mp hw with rfl | hw
   · exact Nat.lt_succ_of_le (Nat.le_of_ble_eq_true h1)
   · exact aq5 h2 w hw
noncomputable def cs8:List (List Nat × List Nat):=[([102,103],[103,102]),([102,101],[103,99]),([102,100],[103,98]),([102,97],[103]),([101,103],[103,101]),([101,100],[103,97]),([100,103],[103,100]),([99,103],[103,99]),([99,102],[102,99]),([99,101],[101,99]),([99,100],[103]),([99,98],[102]),([99,97],[101]),([98,103],[103,98]),([98,102],[102,98]),([98,101],[100,99]),([98,100],[100,98]),([98,97],[100]),([97,103],[103,97]),([97,102],[101,98]),([97,101],[101,97]),([97,100],[100,97])]
noncomputable def cl0 (x:Option (List Nat)) (w:List Nat):Bool:=match x with
 | none=>false
 | some z=>feq z w
theorem aw6 {x:Option (List Nat)} {w:List Nat} (h:cl0 x w = true):x = some w:=by
 induction x using Option.casesOn with
 | none=>exact Bool.noConfusion (show false = true from h)
 | some z=>rw [ck.mp h]
noncomputable def cw3 (W:List Nat) (cs:List (List Nat)):Bool:=au0 (cn3 cs) (au0 (cl0 (bx2 gc 100 W) (cs.map ng)) (au0 (cl0 (bx2 cs8 100 W) (cs.map ng)) (feq (ml ps4 (cs.map ng)) (cs.map List.reverse).flatten)))
noncomputable def cu4 (W:List Nat) (x:Option (List Nat × Rw)):Bool:=match x with
 | none=>false
 | some y=>match y.2 with
   | []=>feq y.1 W.reverse
   | _::_=>false
theorem bp9 {W:List Nat} {x:Option (List Nat × Rw)} (h:cu4 W x = true):x = some (W.reverse,[]):=by
 induction x using Option.casesOn with
 | none=>exact Bool.noConfusion (show false = true from h)
 | some y =>
   replace h:(match y.2 with
   | []=>feq y.1 W.reverse
   | _::_=>false) = true:=h
   induction e:y.2 using List.casesOn with
   | nil =>
     rw [e] at h
     rw [show y = (y.1,y.2) from rfl,e,ck.mp h]
   | cons a r=>rw [e] at h;exact Bool.noConfusion (show false = true from h)
noncomputable def cr9 (W:List Nat) (x:Option (List (List Nat) × List Nat × Rw × Rw)):Bool:=match x with
 | none=>false
 | some y=>au0 (cu4 W (uv y.2.2.2.reverse y.2.2.1)) (au0 (bj7 y.2.1 [0,1,2] y.2.2.2) (au0 (Nat.ble (zw y.1 0).length 12) (cw3 W (wb y.1))))
noncomputable def cu1 (W:List Nat):Bool:=match pu W with
 | none=>false
 | some ds=>cr9 W (dk W ds 0 [] [] [[],[],[]] [] [])
noncomputable def bs2 (P:List Nat):Bool:=cu1 (P++[99,97,98,97,98])
theorem bp0 {W:List Nat} (h:cu1 W = true):∃ ds due places R S,cf3 W ds due places R S:=by
 unfold cu1 at h
 induction h1:pu W using Option.casesOn with
 | none=>rw [h1] at h;exact Bool.noConfusion (show false = true from h)
 | some ds =>
   rw [h1] at h
   replace h:cr9 W (dk W ds 0 [] [] [[],[],[]] [] []) = true:=h
   unfold cr9 at h
   induction h2:dk W ds 0 [] [] [[],[],[]] [] [] using Option.casesOn with
   | none=>rw [h2] at h;exact Bool.noConfusion (show false = true from h)
   | some y =>
     rw [h2] at h
     refine za (w5.mp h) fun h3 h=>za (w5.mp h) fun h4 h=>za (w5.mp h) fun h5 h=>za (w5.mp h) fun h6 h=>za (w5.mp h) fun h7 h=>za (w5.mp h) fun h8 h9=>?_
     exact ⟨ds,y.1,y.2.1,y.2.2.1,y.2.2.2,h1,h2,bp9 h3,h4,Nat.le_of_ble_eq_true h5,aq5 h6,(ab9 _ _).symm.trans (aw6 h7),(ab9 (ps:=gc.reverse) _ _).symm.trans (aw6 (show cl0 (bx2 gc.reverse 100 W) _ = true from h8)),(nb _ _).symm.trans (ck.mp h9)⟩
theorem bl2 (bb:∀ xs:List Int,bs2 ((xs.take 6).map ak9) = true) (xs:List Int):bp4 [.lst (xs.map .int)] [] = some (.bool true,[[],[]]):=by
 obtain ⟨ds,due,places,R,S,h⟩:=bp0 (bb xs)
 exact ca1 rfl h
end Mine
end
section
open PySem PySem.W PySem.Calls PyProof.Rows
namespace Mine
variable {C:Cst}
noncomputable def ca (C:Cst) (n:Str) (bnd:List D→Option (List (Str × D))):Prop :=
 ∃ a fd,C.mg n = some (.ref a)∧oy C a fd (o0 n)∧fd.scope = aa9 n∧nu C fd bnd
theorem yy.up {lv lv':Nat} {p:Str × ae} (x:yy C lv p) (h:lv≤lv'):yy C lv' p:=by
 refine ze3a3 x fun a o fd h1 h2 h3 h4=>?_;clear x
 exact ⟨a,o,fd,h1,h2,h3,h4.up h⟩
theorem ix {lv:Nat} {T:Tbl} {mu:List Str} {n:Str} {bnd:List D→Option (List (Str × D))} (rt:g9 C) (sp:aj9 C) (tb:dh C lv T) (h:ca C n bnd):yy C (lv + 113) (n,jj T mu 56 (aa9 n) (o0 n) bnd):=by
 refine ze2a3 h fun a fd h1 h2 h3 h4=>?_;clear h
 refine zea h2.get fun o ho hd=>?_
 have:=cs5 (L:=lv + 112) (N:=56) (mu:=mu) rt (tb.up (by lia)) (fun k hk=>(ae0 rt (bi9 sp rt) tb k).up (by lia)) h2 h4
 rw [h3] at this
 exact ⟨a,o,fd,h1,ho,hd,this⟩
theorem cd8 {K:Frag} {ac ag ai ast ad ak av ait al aa an fi ow:Addr} (bb:as8 C K ac ag ai ast ad ak av ait al aa an fi ow) (sp:aj9 C) (rt:g9 C)
   (rR:ca C "replace" (yd "text" "pairs")) (rP:ca C "_law_put" (f9 ["word","row"])) (rD:ca C "_law_dues" (f9 ["word"])) (rQ:ca C "_law_parted" (f9 ["row","letter"])) (rB:ca C "_law_below" (f9 ["row","letter"]))
   (rL:ca C "_law_laid" (f9 ["rows","letter","step"])) (rT:ca C "_law_taken" (f9 ["rows","place"])) (rG:ca C "_law_grown" (f9 ["word","rows","steps"])) (rC:ca C "_law_record" (f9 ["steps","places"])) (rS:ca C "_law_settled" (f9 ["text","pairs"]))
   (rW:ca C "law" (f9 ["script"])):yy C 475 ("law",bp4):=by
 have tz:dh C 23 Tz:=se bb sp rt (Nat.le_refl _) all_nil
 have oR:yy C 136 ("replace",ir):=ix rt sp tz rR
 have oP:yy C 136 ("_law_put",be3):=ix rt sp tz rP
 have oD:yy C 136 ("_law_dues",ac4):=ix rt sp tz rD
 have oQ:yy C 136 ("_law_parted",tm):=ix rt sp tz rQ
 have oB:yy C 136 ("_law_below",zr):=ix rt sp tz rB
 have oC:yy C 136 ("_law_record",oe):=ix rt sp tz rC
 have oL:yy C 249 ("_law_laid",av3):=ix rt sp (se bb sp rt (by decide) (all_cons oQ all_nil)) rL
 have oT:yy C 249 ("_law_taken",te):=ix rt sp (se bb sp rt (by decide) (all_cons oB all_nil)) rT
 have oS:yy C 249 ("_law_settled",km):=ix rt sp (se bb sp rt (by decide) (all_cons oR all_nil)) rS
 have oG:yy C 362 ("_law_grown",ub):=ix rt sp (se bb sp rt (lv:=249) (by decide) (all_cons (oD.up (by decide)) (all_cons oL all_nil))) rG
 exact ix rt sp (se bb sp rt (lv:=362) (by decide) (all_cons oG (all_cons (oT.up (by decide)) (all_cons (oC.up (by decide)) (all_cons (oS.up (by decide)) (all_cons (oR.up (by decide)) (all_cons (oP.up (by decide)) all_nil))))))) rW
theorem ik {n:Str} {a:Addr} {fd:FuncData} {body:List Stmt} {bnd:List D→Option (List (Str × D))} (h1:C.mg n = some (.ref a)) (F:oy C a fd body) (e:bm7 n = some (body,fd.scope)) (hb:nu C fd bnd):ca C n bnd:=by
 refine ⟨a,fd,h1,?_,?_,hb⟩
 · have:o0 n = body:=by unfold o0;rw [e]
   rw [this];exact F
 · unfold aa9;rw [e]
theorem ru {n:Nat} {vs:List Value} (h:vs.length = n + 1):∃ v r,vs = v::r∧r.length = n:=by
 induction vs using List.casesOn with
 | nil=>injection h
 | cons v r=>injection h with h;exact ⟨v,r,rfl,h⟩
theorem au4 {vs:List Value} (h:vs.length = 0):vs = []:=List.length_eq_zero_iff.mp h
theorem bt1 {fd:FuncData} {x:Str} (h:∀ v,bindArgs fd ⟨[v],[]⟩ = pure [(x,v)]):nu C fd (f9 [x]):=ms fun vs hv=>by
 refine ze2a (ru hv) fun v r e h1=>?_
 rw [e,au4 h1];exact h v
theorem al8 {fd:FuncData} {x y:Str} (h:∀ v w,bindArgs fd ⟨[v,w],[]⟩ = pure [(x,v),(y,w)]):nu C fd (f9 [x,y]):=ms fun vs hv=>by
 refine ze2a (ru hv) fun v r e h1=>ze2a (ru h1) fun w r2 e2 h2=>?_
 rw [e,e2,au4 h2];exact h v w
theorem ch5 {fd:FuncData} {x y z:Str} (h:∀ u v w,bindArgs fd ⟨[u,v,w],[]⟩ = pure [(x,u),(y,v),(z,w)]):nu C fd (f9 [x,y,z]):=ms fun vs hv=>by
 refine ze2a (ru hv) fun u r e h1=>ze2a (ru h1) fun v r2 e2 h2=>ze2a (ru h2) fun w r3 e3 h3=>?_
 rw [e,e2,e3,au4 h3];exact h u v w
theorem be2 {P:Params} {V:List Addr} {io:HI} {h:Heap} {xs:List Int}:∀ {vs:List Value},WellAll P h vs (ofPys (xs.map PyData.int))→f0 V io h (xs.map D.int) vs:=by
 induction xs with
 | nil=>intro vs w;cases w;exact rfl
 | cons x r ih =>
   intro vs w
   cases w with
   | cons w1 w2=>cases w1;exact ⟨_,_,rfl,⟨_,rfl⟩,ih w2⟩
theorem am2 {P:Params} {V:List Addr} {io:HI} {h:Heap} {xs:List Int} {v:Value} (w:Well P h v (ofPy (.list (xs.map PyData.int)))) (hl:xs.length≤63) (hV:∀ b∈V,∃ o,h.get? b = some o∧o.cls = .none):f0 V io h [.lst (xs.map D.int)] [v]:=by
 change Well P h v (.list (ofPys (xs.map PyData.int))) at w
 cases w with
 | list h1 h2 =>
   show Exists _
   refine ⟨_,[],rfl,⟨by rw [List.length_map];unfold lim;lia,_,_,rfl,fun hm=>?_,⟨_,h1⟩,?_⟩,rfl⟩
   · refine zea (hV _ hm) fun o ho hc=>?_
     rw [h1] at ho;(injection ho with ho;subst ho);injection hc
   · rw [List.toList_toArray]
     exact be2 h2
theorem bw6 {prog:Program} {w:World} {s s':Shared} {mg mb:Str→Option Value} {cls:Addr} {spc:List (Addr × Addr × Str)} {io':HI} {g':Sg} (hT:TabsAt (jp spc) s.heap)
   (x:q0 (bi5 prog w s.heap mg mb cls spc) [] io' s s') (k:Sok (bi5 prog w s.heap mg mb cls spc) [] io' g' s'):OldK s.heap s'.heap where
 old:=fun b o e=>by
   by_cases hb:b∈spc.map fun t=>t.2.1
   · refine zea (List.mem_map.mp hb) fun t ht e2q=>?_;subst e2q
     refine za (hT _ (wh (c:=t.1) (P:=t.2.1) (q:=t.2.2) ht)) fun h1 h2=>?_
     simp only at h1 h2
     rw [h2] at e
     injection e with e;subst e
     refine zea (k.st.vt t.1 t.2.1 t.2.2 ht) fun ps h3 J=>?_
     obtain ⟨oc,vs,file,tf,flags,tg,inF,text,tt,e1,e2,e3,e4,_⟩:=h1
     exact .inr (.inl ⟨⟨_,_,_,e1,e2,e3,e4⟩,rfl,#[],ps,rfl,by rw [h3];simp [tabObj]⟩)
   · exact .inl (x.keep b o e hb (by simp [adr]))
 there:=fun b o e=>x.alive b o e
end Mine
end
section
open PySem PySem.W PySem.Calls PyProof.Rows
set_option backward.match.sparseCases true
set_option genInjectivity true
set_option genSizeOf true
namespace Mine
noncomputable def k9:Nat→List Nat→Bool
 | 0,w=>bs2 w
 | n + 1,w=>au0 (bs2 w) (au0 (k9 n (w++[97])) (au0 (k9 n (w++[98])) (k9 n (w++[99]))))
theorem j1 {n:Nat} {w:List Nat} (h:bs2 w = true) (h1:k9 n (w++[97]) = true) (h2:k9 n (w++[98]) = true) (h3:k9 n (w++[99]) = true):k9 (n + 1) w = true :=
 w5.mpr ⟨h,w5.mpr ⟨h1,w5.mpr ⟨h2,h3⟩⟩⟩
theorem ug:∀ {n:Nat} {w l:List Nat},k9 n w = true→l.length≤n→(∀ c∈l,c = 97∨c = 98∨c = 99)→bs2 (w++l) = true
 | 0,w,l,h,hl,_=>by
   have:l = []:=List.eq_nil_of_length_eq_zero (Nat.le_zero.mp hl)
   subst this
   rw [List.append_nil];exact h
 | n + 1,w,[],h,hl,_=>by
   rw [List.append_nil];exact (w5.mp h).1
 | n + 1,w,c::r,h,hl,hc=>by
   refine za (w5.mp h) fun _ h=>za (w5.mp h) fun h1 h=>za (w5.mp h) fun h2 h3=>?_
   have hr:r.length≤n:=Nat.le_of_succ_le_succ hl
   have hcr:∀ c∈r,c = 97∨c = 98∨c = 99:=fun x hx=>hc x (.tail _ hx)
   have e:w++c::r = (w++[c])++r:=by simp
   rw [e]
   rcases hc c (.head _) with rfl | rfl | rfl
   · exact ug h1 hr hcr
   · exact ug h2 hr hcr
   · exact ug h3 hr hcr
theorem bo5 (x:Int):ak9 x = 97∨ak9 x = 98∨ak9 x = 99:=by
 unfold ak9
 split
 · exact .inl rfl
 · exact .inr (.inl rfl)
 · exact .inr (.inr rfl)
theorem bw7:k9 2 [97,97,97,97] = true:=by decide +kernel
theorem cd4:k9 2 [97,97,97,98] = true:=by decide +kernel
theorem bv7:k9 2 [97,97,97,99] = true:=by decide +kernel
theorem cr0:k9 3 [97,97,97] = true:=j1 (by decide +kernel) bw7 cd4 bv7
theorem cd2:k9 2 [97,97,98,97] = true:=by decide +kernel
theorem by6:k9 2 [97,97,98,98] = true:=by decide +kernel
theorem bv1:k9 2 [97,97,98,99] = true:=by decide +kernel
theorem co7:k9 3 [97,97,98] = true:=j1 (by decide +kernel) cd2 by6 bv1
theorem ce4:k9 2 [97,97,99,97] = true:=by decide +kernel
theorem cf8:k9 2 [97,97,99,98] = true:=by decide +kernel
theorem cd1:k9 2 [97,97,99,99] = true:=by decide +kernel
theorem cq3:k9 3 [97,97,99] = true:=j1 (by decide +kernel) ce4 cf8 cd1
theorem cx3:k9 4 [97,97] = true:=j1 (by decide +kernel) cr0 co7 cq3
theorem ce7:k9 2 [97,98,97,97] = true:=by decide +kernel
theorem ck4:k9 2 [97,98,97,98] = true:=by decide +kernel
theorem ci5:k9 2 [97,98,97,99] = true:=by decide +kernel
theorem cu0:k9 3 [97,98,97] = true:=j1 (by decide +kernel) ce7 ck4 ci5
theorem cg3:k9 2 [97,98,98,97] = true:=by decide +kernel
theorem cc6:k9 2 [97,98,98,98] = true:=by decide +kernel
theorem bt9:k9 2 [97,98,98,99] = true:=by decide +kernel
theorem cp9:k9 3 [97,98,98] = true:=j1 (by decide +kernel) cg3 cc6 bt9
theorem cg2:k9 2 [97,98,99,97] = true:=by decide +kernel
theorem cg4:k9 2 [97,98,99,98] = true:=by decide +kernel
theorem cj2:k9 2 [97,98,99,99] = true:=by decide +kernel
theorem cs9:k9 3 [97,98,99] = true:=j1 (by decide +kernel) cg2 cg4 cj2
theorem cx6:k9 4 [97,98] = true:=j1 (by decide +kernel) cu0 cp9 cs9
theorem cg1:k9 2 [97,99,97,97] = true:=by decide +kernel
theorem bx1:k9 2 [97,99,97,98] = true:=by decide +kernel
theorem cg9:k9 2 [97,99,97,99] = true:=by decide +kernel
theorem co8:k9 3 [97,99,97] = true:=j1 (by decide +kernel) cg1 bx1 cg9
theorem ce8:k9 2 [97,99,98,97] = true:=by decide +kernel
theorem ch4:k9 2 [97,99,98,98] = true:=by decide +kernel
theorem bv6:k9 2 [97,99,98,99] = true:=by decide +kernel
theorem cq1:k9 3 [97,99,98] = true:=j1 (by decide +kernel) ce8 ch4 bv6
theorem bz6:k9 2 [97,99,99,97] = true:=by decide +kernel
theorem bx8:k9 2 [97,99,99,98] = true:=by decide +kernel
theorem ci2:k9 2 [97,99,99,99] = true:=by decide +kernel
theorem cp6:k9 3 [97,99,99] = true:=j1 (by decide +kernel) bz6 bx8 ci2
theorem cx9:k9 4 [97,99] = true:=j1 (by decide +kernel) co8 cq1 cp6
theorem qwa:k9 5 [97] = true:=j1 (by decide +kernel) cx3 cx6 cx9
theorem bt7:k9 2 [98,97,97,97] = true:=by decide +kernel
theorem bx4:k9 2 [98,97,97,98] = true:=by decide +kernel
theorem by2:k9 2 [98,97,97,99] = true:=by decide +kernel
theorem cn7:k9 3 [98,97,97] = true:=j1 (by decide +kernel) bt7 bx4 by2
theorem bu2:k9 2 [98,97,98,97] = true:=by decide +kernel
theorem cb4:k9 2 [98,97,98,98] = true:=by decide +kernel
theorem ca8:k9 2 [98,97,98,99] = true:=by decide +kernel
theorem cp1:k9 3 [98,97,98] = true:=j1 (by decide +kernel) bu2 cb4 ca8
theorem by8:k9 2 [98,97,99,97] = true:=by decide +kernel
theorem ci7:k9 2 [98,97,99,98] = true:=by decide +kernel
theorem bu6:k9 2 [98,97,99,99] = true:=by decide +kernel
theorem cm8:k9 3 [98,97,99] = true:=j1 (by decide +kernel) by8 ci7 bu6
theorem cw8:k9 4 [98,97] = true:=j1 (by decide +kernel) cn7 cp1 cm8
theorem ce2:k9 2 [98,98,97,97] = true:=by decide +kernel
theorem ca2:k9 2 [98,98,97,98] = true:=by decide +kernel
theorem cf7:k9 2 [98,98,97,99] = true:=by decide +kernel
theorem cs1:k9 3 [98,98,97] = true:=j1 (by decide +kernel) ce2 ca2 cf7
theorem bv8:k9 2 [98,98,98,97] = true:=by decide +kernel
theorem cb9:k9 2 [98,98,98,98] = true:=by decide +kernel
theorem cd9:k9 2 [98,98,98,99] = true:=by decide +kernel
theorem cs0:k9 3 [98,98,98] = true:=j1 (by decide +kernel) bv8 cb9 cd9
theorem ch6:k9 2 [98,98,99,97] = true:=by decide +kernel
theorem bt8:k9 2 [98,98,99,98] = true:=by decide +kernel
theorem bx6:k9 2 [98,98,99,99] = true:=by decide +kernel
theorem cr7:k9 3 [98,98,99] = true:=j1 (by decide +kernel) ch6 bt8 bx6
theorem cw7:k9 4 [98,98] = true:=j1 (by decide +kernel) cs1 cs0 cr7
theorem cc4:k9 2 [98,99,97,97] = true:=by decide +kernel
theorem ch0:k9 2 [98,99,97,98] = true:=by decide +kernel
theorem bw8:k9 2 [98,99,97,99] = true:=by decide +kernel
theorem cp5:k9 3 [98,99,97] = true:=j1 (by decide +kernel) cc4 ch0 bw8
theorem bz8:k9 2 [98,99,98,97] = true:=by decide +kernel
theorem cc5:k9 2 [98,99,98,98] = true:=by decide +kernel
theorem bw9:k9 2 [98,99,98,99] = true:=by decide +kernel
theorem cu2:k9 3 [98,99,98] = true:=j1 (by decide +kernel) bz8 cc5 bw9
theorem bu9:k9 2 [98,99,99,97] = true:=by decide +kernel
theorem bx3:k9 2 [98,99,99,98] = true:=by decide +kernel
theorem ce9:k9 2 [98,99,99,99] = true:=by decide +kernel
theorem ct2:k9 3 [98,99,99] = true:=j1 (by decide +kernel) bu9 bx3 ce9
theorem cx5:k9 4 [98,99] = true:=j1 (by decide +kernel) cp5 cu2 ct2
theorem qwb:k9 5 [98] = true:=j1 (by decide +kernel) cw8 cw7 cx5
theorem ck0:k9 2 [99,97,97,97] = true:=by decide +kernel
theorem cj3:k9 2 [99,97,97,98] = true:=by decide +kernel
theorem bv5:k9 2 [99,97,97,99] = true:=by decide +kernel
theorem co3:k9 3 [99,97,97] = true:=j1 (by decide +kernel) ck0 cj3 bv5
theorem cg8:k9 2 [99,97,98,97] = true:=by decide +kernel
theorem ca9:k9 2 [99,97,98,98] = true:=by decide +kernel
theorem bw1:k9 2 [99,97,98,99] = true:=by decide +kernel
theorem co2:k9 3 [99,97,98] = true:=j1 (by decide +kernel) cg8 ca9 bw1
theorem cd0:k9 2 [99,97,99,97] = true:=by decide +kernel
theorem cc3:k9 2 [99,97,99,98] = true:=by decide +kernel
theorem bv4:k9 2 [99,97,99,99] = true:=by decide +kernel
theorem cr2:k9 3 [99,97,99] = true:=j1 (by decide +kernel) cd0 cc3 bv4
theorem cw2:k9 4 [99,97] = true:=j1 (by decide +kernel) co3 co2 cr2
theorem ch8:k9 2 [99,98,97,97] = true:=by decide +kernel
theorem ca5:k9 2 [99,98,97,98] = true:=by decide +kernel
theorem ci1:k9 2 [99,98,97,99] = true:=by decide +kernel
theorem cq4:k9 3 [99,98,97] = true:=j1 (by decide +kernel) ch8 ca5 ci1
theorem bv9:k9 2 [99,98,98,97] = true:=by decide +kernel
theorem bt3:k9 2 [99,98,98,98] = true:=by decide +kernel
theorem bu5:k9 2 [99,98,98,99] = true:=by decide +kernel
theorem cr3:k9 3 [99,98,98] = true:=j1 (by decide +kernel) bv9 bt3 bu5
theorem cf1:k9 2 [99,98,99,97] = true:=by decide +kernel
theorem ck2:k9 2 [99,98,99,98] = true:=by decide +kernel
theorem cb1:k9 2 [99,98,99,99] = true:=by decide +kernel
theorem cp2:k9 3 [99,98,99] = true:=j1 (by decide +kernel) cf1 ck2 cb1
theorem cw9:k9 4 [99,98] = true:=j1 (by decide +kernel) cq4 cr3 cp2
theorem cf2:k9 2 [99,99,97,97] = true:=by decide +kernel
theorem ce0:k9 2 [99,99,97,98] = true:=by decide +kernel
theorem cb5:k9 2 [99,99,97,99] = true:=by decide +kernel
theorem cq8:k9 3 [99,99,97] = true:=j1 (by decide +kernel) cf2 ce0 cb5
theorem cc9:k9 2 [99,99,98,97] = true:=by decide +kernel
theorem cj8:k9 2 [99,99,98,98] = true:=by decide +kernel
theorem cf6:k9 2 [99,99,98,99] = true:=by decide +kernel
theorem cq6:k9 3 [99,99,98] = true:=j1 (by decide +kernel) cc9 cj8 cf6
theorem bv2:k9 2 [99,99,99,97] = true:=by decide +kernel
theorem by0:k9 2 [99,99,99,98] = true:=by decide +kernel
theorem bt6:k9 2 [99,99,99,99] = true:=by decide +kernel
theorem cn9:k9 3 [99,99,99] = true:=j1 (by decide +kernel) bv2 by0 bt6
theorem cw1:k9 4 [99,99] = true:=j1 (by decide +kernel) cq8 cq6 cn9
theorem qwc:k9 5 [99] = true:=j1 (by decide +kernel) cw2 cw9 cw1
theorem qw:k9 6 [] = true:=j1 (by decide +kernel) qwa qwb qwc
theorem bl8 (xs:List Int):bs2 ((xs.take 6).map ak9) = true:=by
 have:=ug (l:=(xs.take 6).map ak9) qw (by rw [List.length_map,List.length_take];exact Nat.min_le_left _ _) fun c hc=>by
   refine zea (List.mem_map.mp hc) fun x _ e=>?_
   rw [← e]
   exact bo5 x
 rwa [List.nil_append] at this
end Mine
end
section
open PySem PySem.W PyProof.Rows PySem.Calls PySem.Spec PyProof.V
set_option backward.match.sparseCases true
set_option genInjectivity true
set_option genSizeOf true
set_option maxHeartbeats 8000000
namespace Mine
noncomputable def pos90:List Pos:=[⟨36,8,36,15⟩,⟨36,29,36,36⟩,⟨36,44,36,48⟩,⟨36,29,36,48⟩,⟨36,18,36,25⟩,⟨36,54,36,56⟩,⟨36,18,36,56⟩,⟨36,8,36,56⟩,⟨37,11,37,15⟩,⟨37,16,37,23⟩,⟨37,11,37,24⟩,⟨37,32,37,36⟩,⟨37,11,37,36⟩,⟨37,8,38,74⟩,⟨39,8,39,12⟩,⟨39,8,39,21⟩,⟨39,24,39,31⟩,⟨39,8,39,31⟩,⟨40,11,40,20⟩,⟨41,16,41,17⟩,⟨41,19,41,20⟩,⟨41,16,41,20⟩,⟨41,24,41,31⟩,⟨42,16,42,20⟩,⟨42,16,42,41⟩,⟨42,42,42,43⟩,⟨42,50,42,54⟩,⟨42,45,42,54⟩,⟨42,16,42,55⟩,⟨42,16,42,55⟩,⟨43,16,43,20⟩,⟨43,16,43,41⟩,⟨43,42,43,43⟩,⟨43,50,43,55⟩,⟨43,45,43,55⟩,⟨43,16,43,56⟩,⟨43,16,43,56⟩,⟨41,12,43,56⟩,⟨40,8,43,56⟩]
noncomputable def pos104:List Pos:=[⟨54,15,54,18⟩,⟨54,19,54,23⟩,⟨54,19,54,32⟩,⟨54,15,54,33⟩,⟨54,8,54,33⟩]
noncomputable def pos111:List Pos:=[⟨57,12,57,16⟩,⟨57,17,57,21⟩,⟨57,12,57,22⟩,⟨57,8,57,22⟩,⟨58,8,58,12⟩,⟨58,8,58,21⟩,⟨58,8,58,28⟩,⟨58,30,58,34⟩,⟨58,30,58,55⟩,⟨58,56,58,60⟩,⟨58,67,58,71⟩,⟨58,62,58,71⟩,⟨58,30,58,72⟩,⟨58,74,58,78⟩,⟨58,74,58,99⟩,⟨58,100,58,103⟩,⟨58,110,58,115⟩,⟨58,105,58,115⟩,⟨58,74,58,116⟩,⟨58,29,58,117⟩,⟨58,8,58,118⟩,⟨58,8,58,118⟩]
noncomputable def pos116:List Pos:=[⟨61,8,61,12⟩,⟨61,15,61,19⟩,⟨61,15,61,40⟩,⟨61,41,61,45⟩,⟨61,41,61,51⟩,⟨61,41,61,53⟩,⟨61,60,61,64⟩,⟨61,55,61,64⟩,⟨61,15,61,65⟩,⟨61,8,61,65⟩,⟨62,8,62,12⟩,⟨62,8,62,21⟩,⟨62,22,62,23⟩,⟨62,8,62,24⟩,⟨62,28,62,30⟩,⟨62,35,62,37⟩,⟨62,58,62,60⟩,⟨62,61,62,62⟩,⟨62,58,62,63⟩,⟨62,58,62,69⟩,⟨62,58,62,71⟩,⟨62,75,62,79⟩,⟨62,58,62,79⟩,⟨62,41,62,45⟩,⟨62,41,62,54⟩,⟨62,27,62,80⟩,⟨62,8,62,80⟩]
noncomputable def pos123:List Pos:=[⟨65,15,65,19⟩,⟨65,15,65,23⟩,⟨65,24,65,28⟩,⟨65,15,65,29⟩,⟨65,8,65,29⟩]
noncomputable def pos135:List Pos:=[⟨71,8,71,12⟩,⟨71,15,71,19⟩,⟨71,15,71,40⟩,⟨71,41,71,45⟩,⟨71,41,71,51⟩,⟨71,41,71,53⟩,⟨71,60,71,64⟩,⟨71,55,71,64⟩,⟨71,15,71,65⟩,⟨71,8,71,65⟩,⟨72,16,72,18⟩,⟨72,19,72,20⟩,⟨72,16,72,21⟩,⟨72,26,72,28⟩,⟨72,32,72,36⟩,⟨72,32,72,45⟩,⟨72,49,72,51⟩,⟨72,52,72,53⟩,⟨72,49,72,54⟩,⟨72,49,72,60⟩,⟨72,49,72,62⟩,⟨72,66,72,70⟩,⟨72,49,72,70⟩,⟨72,15,72,71⟩,⟨72,8,72,71⟩]
noncomputable def pos143:List Pos:=[⟨75,8,75,12⟩,⟨75,15,75,19⟩,⟨75,15,75,40⟩,⟨75,41,75,45⟩,⟨75,41,75,51⟩,⟨75,41,75,53⟩,⟨75,60,75,64⟩,⟨75,55,75,64⟩,⟨75,15,75,65⟩,⟨75,8,75,65⟩,⟨76,12,76,13⟩,⟨76,15,76,16⟩,⟨76,12,76,16⟩,⟨76,20,76,24⟩,⟨76,20,76,33⟩,⟨77,15,77,16⟩,⟨77,15,77,22⟩,⟨77,15,77,24⟩,⟨77,28,77,32⟩,⟨77,15,77,32⟩,⟨78,23,78,24⟩,⟨78,16,78,24⟩,⟨77,12,78,24⟩,⟨76,8,78,24⟩,⟨79,15,79,22⟩,⟨79,8,79,22⟩]
noncomputable def pos148:List Pos:=[⟨82,16,82,17⟩,⟨82,22,82,23⟩,⟨82,25,82,26⟩,⟨82,22,82,26⟩,⟨82,30,82,34⟩,⟨82,30,82,43⟩,⟨82,15,82,44⟩,⟨82,8,82,44⟩]
noncomputable def pos153:List Pos:=[⟨85,16,85,17⟩,⟨85,22,85,23⟩,⟨85,25,85,26⟩,⟨85,22,85,26⟩,⟨85,30,85,34⟩,⟨85,30,85,43⟩,⟨85,15,85,44⟩,⟨85,8,85,44⟩]
noncomputable def pos160:List Pos:=[⟨88,15,88,19⟩,⟨88,15,88,28⟩,⟨88,29,88,30⟩,⟨88,15,88,31⟩,⟨88,8,88,31⟩]
noncomputable def pos193:List Pos:=[⟨103,8,103,13⟩,⟨103,16,103,18⟩,⟨103,8,103,18⟩,⟨104,11,104,17⟩,⟨104,25,104,29⟩,⟨104,11,104,29⟩,⟨105,12,105,18⟩,⟨105,21,105,25⟩,⟨105,21,105,46⟩,⟨105,47,105,53⟩,⟨105,60,105,65⟩,⟨105,55,105,65⟩,⟨105,21,105,66⟩,⟨105,12,105,66⟩,⟨106,12,106,17⟩,⟨106,12,106,24⟩,⟨106,25,106,31⟩,⟨106,12,106,32⟩,⟨106,12,106,32⟩,⟨104,8,106,32⟩,⟨107,12,107,13⟩,⟨107,15,107,16⟩,⟨107,12,107,16⟩,⟨107,20,107,27⟩,⟨107,20,107,33⟩,⟨107,20,107,35⟩,⟨108,12,108,13⟩,⟨108,16,108,20⟩,⟨108,16,108,41⟩,⟨108,42,108,43⟩,⟨108,50,108,54⟩,⟨108,45,108,54⟩,⟨108,16,108,55⟩,⟨108,12,108,55⟩,⟨109,15,109,16⟩,⟨109,20,109,24⟩,⟨109,15,109,24⟩,⟨110,16,110,21⟩,⟨110,16,110,28⟩,⟨110,29,110,30⟩,⟨110,29,110,38⟩,⟨110,39,110,42⟩,⟨110,44,110,47⟩,⟨110,29,110,48⟩,⟨110,16,110,49⟩,⟨110,16,110,49⟩,⟨112,16,112,17⟩,⟨112,20,112,24⟩,⟨112,20,112,45⟩,⟨112,46,112,47⟩,⟨112,54,112,59⟩,⟨112,49,112,59⟩,⟨112,20,112,60⟩,⟨112,16,112,60⟩,⟨113,16,113,21⟩,⟨113,16,113,28⟩,⟨113,29,113,41⟩,⟨113,42,113,43⟩,⟨113,42,113,51⟩,⟨113,52,113,55⟩,⟨113,57,113,60⟩,⟨113,42,113,61⟩,⟨113,63,113,64⟩,⟨113,29,113,65⟩,⟨113,16,113,66⟩,⟨113,16,113,66⟩,⟨109,12,113,66⟩,⟨107,8,113,66⟩,⟨114,8,114,12⟩,⟨114,8,114,21⟩,⟨114,8,114,28⟩,⟨114,30,114,34⟩,⟨114,30,114,55⟩,⟨114,56,114,61⟩,⟨114,68,114,72⟩,⟨114,63,114,72⟩,⟨114,30,114,73⟩,⟨114,75,114,79⟩,⟨114,75,114,84⟩,⟨114,85,114,90⟩,⟨114,75,114,91⟩,⟨114,29,114,92⟩,⟨114,8,114,93⟩,⟨114,8,114,93⟩]
noncomputable def pos233:List Pos:=[⟨141,11,141,22⟩,⟨141,23,141,28⟩,⟨141,37,141,41⟩,⟨141,43,141,47⟩,⟨141,48,141,49⟩,⟨141,43,141,50⟩,⟨141,43,141,56⟩,⟨141,43,141,58⟩,⟨141,62,141,66⟩,⟨141,43,141,66⟩,⟨141,30,141,66⟩,⟨141,11,141,67⟩,⟨141,4,141,67⟩]
noncomputable def pAt (l:List Pos) (n:Nat):Pos:=l.getD n ⟨0,0,0,0⟩
theorem n7 {C:Cst} {K:Frag} {a c:Addr} {o oc:Obj} {fd:FuncData} {body:List Stmt} {vs:Array Value} {t:Tok} (X:K.In C.H) (h1:K.lookup a = some o) (h2:o.data = .func fd) (h3:fd.body = .stmts body) (h4:fd.closure = []) (h5:fd.globals = mainGlobals) (h6:fd.builtins = builtinsNs)
   (h7:fd.code = .ref c) (h8:K.lookup c = some oc) (h9:oc.data = .fields vs) (h10:vs[1]? = some (.str fd.qualname t)) (h11:fd.scope.kind = .function) (h12:fd.scope.isCoroutine = false) (h13:fd.scope.isGenerator = false) (h14:(fd.scope.names.all fun p=>p.2 != .free) = true)
   (h15:fd.scope.names.lookup ("_split_list":Str) = some .globalImplicit→∃ c P,(c,P,fd.qualname++".<locals>.")∈C.spc∧fd.code = .ref c):oy C a fd body where
 get:=⟨o,X _ _ h1,h2⟩
 body:=h3
 clo:=h4
 gl:=h5
 bi:=h6
 cd:=⟨c,oc,vs,t,h7,X _ _ h8,h9,h10⟩
 kind:=h11
 co:=h12
 gen:=h13
 nofree:=fun p hp=>by simpa using List.all_eq_true.mp h14 p hp
 spl:=h15
noncomputable def g7.tw8163228906742893944:PySem.Program:=PySem.Challenge.pw_pm0047_02
theorem g7.te8163228906742893944:PySem.Challenge.pw_pm0047_02 = g7.tw8163228906742893944:=rfl
set_option Elab.async true in
theorem g7:PySem.Challenge.rw_pm0047_02.Holds:=by
   w_on;o_law;k_head
   case hw=>w_witness2
   k_fill
   intro w s₀ s₁ mg mb G Y fa o pm cd doc dV kV ho hd hcd hD hmg hg args vals as hpre hlay hrd hwl hlo
   have KX:=km_in_of Y
   km_tabs Y
   have X:=(Ground.X G).1
   have V:=(Ground.X G).2
   refine Ground.open G ?_
   intro T B D TE TW
   try (refine guard_noD D (by decide +kernel) ?_;clear D)
   km_lay T hmg ho hd cd
   wrow_args hpre hlay hrd hwl hlo
   have XG:(Mine.g7.heap_1_39 w.params).In (ghostOf s₁.heap [(232,228),(218,214),(225,221)]):=ghost_K hT9 KX (by kernel_rfl)
   let C:Cst:=bi5 PySem.Challenge.rw_pm0047_02.row.prog w s₁.heap mg mb 196 [(232,228,"_law_own.<locals>."),(218,214,"_law_parted.<locals>."),(225,221,"_law_below.<locals>.")]
   have XC:(Mine.g7.heap_1_39 w.params).In C.H:=XG
   have noSp:∀ {sc:Scope} {P:Prop},(sc.names.lookup ("_split_list":Str)==some .globalImplicit) = false→sc.names.lookup ("_split_list":Str) = some .globalImplicit→P:=fun h1 h2=>by rw [h2] at h1;injection h1
   have F52:=n7 (C:=C) (a:=52) (body:=we _ _ _ _ _ _ _ _ _ ⟨0,0,0,0⟩ _ _ _ _ _ _ _ _ _ _ _ _ _ _ _ _ _ _ _) XC (by k_is) rfl rfl rfl rfl rfl rfl (by k_is) rfl rfl rfl rfl rfl rfl (noSp rfl)
   have F97:=n7 (C:=C) (a:=97) (body:=tp _ _ _ _ _ _ _ _ _ _ _ _ _ _ _ _ _ _ _ _ _) XC (by k_is) rfl rfl rfl rfl rfl rfl (by k_is) rfl rfl rfl rfl rfl rfl (noSp rfl)
   have F143:=n7 (C:=C) (a:=143) (body:=ab3 (pAt pos143)) XC (by k_is) rfl rfl rfl rfl rfl rfl (by k_is) rfl rfl rfl rfl rfl rfl (noSp rfl)
   have F123:=n7 (C:=C) (a:=123) (body:=aj0 (pAt pos123)) XC (by k_is) rfl rfl rfl rfl rfl rfl (by k_is) rfl rfl rfl rfl rfl rfl (noSp rfl)
   have F111:=n7 (C:=C) (a:=111) (body:=ab2 (pAt pos111)) XC (by k_is) rfl rfl rfl rfl rfl rfl (by k_is) rfl rfl rfl rfl rfl rfl (noSp rfl)
   have F116:=n7 (C:=C) (a:=116) (body:=ac2 (pAt pos116) _) XC (by k_is) rfl rfl rfl rfl rfl rfl (by k_is) rfl rfl rfl rfl rfl rfl (noSp rfl)
   have F148:=n7 (C:=C) (a:=148) (body:=as3 "k" _ (pAt pos148)) XC (by k_is) rfl rfl rfl rfl rfl rfl (by k_is) rfl rfl rfl rfl rfl rfl (noSp rfl)
   have F153:=n7 (C:=C) (a:=153) (body:=as3 "v" _ (pAt pos153)) XC (by k_is) rfl rfl rfl rfl rfl rfl (by k_is) rfl rfl rfl rfl rfl rfl (noSp rfl)
   have F90:=n7 (C:=C) (a:=90) (body:=vh (pAt pos90) _) XC (by k_is) rfl rfl rfl rfl rfl rfl (by k_is) rfl rfl rfl rfl rfl rfl (noSp rfl)
   have F160:=n7 (C:=C) (a:=160) (body:=kx (pAt pos160)) XC (by k_is) rfl rfl rfl rfl rfl rfl (by k_is) rfl rfl rfl rfl rfl rfl (noSp rfl)
   have F135:=n7 (C:=C) (a:=135) (body:=ae5 (pAt pos135) _) XC (by k_is) rfl rfl rfl rfl rfl rfl (by k_is) rfl rfl rfl rfl rfl rfl (noSp rfl)
   have F193:=n7 (C:=C) (a:=193) (body:=zj (pAt pos193) _) XC (by k_is) rfl rfl rfl rfl rfl rfl (by k_is) rfl rfl rfl rfl rfl rfl (noSp rfl)
   have F104:=n7 (C:=C) (a:=104) (body:=uo (pAt pos104)) XC (by k_is) rfl rfl rfl rfl rfl rfl (by k_is) rfl rfl rfl rfl rfl rfl (noSp rfl)
   have F233:=n7 (C:=C) (a:=233) (body:=an1 (pAt pos233) _) XC (by k_is) rfl rfl rfl rfl rfl rfl (by k_is) rfl rfl rfl rfl rfl rfl (fun J=>⟨232,228,.head _,rfl⟩)
   have hcls:qj C (Mine.g7.heap_1_39 w.params):=⟨XC,by kernel_rfl,by kernel_rfl,by kernel_rfl,by kernel_rfl⟩
   have hnew:rk C (Mine.g7.heap_1_39 w.params) 90:=⟨by kernel_rfl,by kernel_rfl,by kernel_rfl,by kernel_rfl,by kernel_rfl,by kernel_rfl⟩
   have hfns:aj C (Mine.g7.heap_1_39 w.params) (fsL 97 143 123 111 116 148 153 160 135 193 104):=by
     have key:∀ p∈fsL 97 143 123 111 116 148 153 160 135 193 104,findIn (Mine.g7.heap_1_39 w.params) (.ref 196) p.1 = some (some (.ref p.2))∧isFn (Mine.g7.heap_1_39 w.params) (.ref p.2) = true∧fnIn (Mine.g7.heap_1_39 w.params) p.2 = true :=
       all_cons ⟨by kernel_rfl,by kernel_rfl,by kernel_rfl⟩ (all_cons ⟨by kernel_rfl,by kernel_rfl,by kernel_rfl⟩ (all_cons ⟨by kernel_rfl,by kernel_rfl,by kernel_rfl⟩ (all_cons ⟨by kernel_rfl,by kernel_rfl,by kernel_rfl⟩ (all_cons ⟨by kernel_rfl,by kernel_rfl,by kernel_rfl⟩ (all_cons ⟨by kernel_rfl,by kernel_rfl,by kernel_rfl⟩ (all_cons ⟨by kernel_rfl,by kernel_rfl,by kernel_rfl⟩ (all_cons ⟨by kernel_rfl,by kernel_rfl,by kernel_rfl⟩ (all_cons ⟨by kernel_rfl,by kernel_rfl,by kernel_rfl⟩ (all_cons ⟨by kernel_rfl,by kernel_rfl,by kernel_rfl⟩ (all_cons ⟨by kernel_rfl,by kernel_rfl,by kernel_rfl⟩ all_nil))))))))))
     exact ⟨hcls,fun m a hm=>key (m,a) (PySem.mem_of_lookup hm),by decide⟩
   have hcv:cu C 97:=⟨⟨_,_,_,_,_,_,_,_,_,_,_,_,_,_,_,_,_,_,_,_,_,_,F97,rfl,fun x v b=>by rfl,by decide,by decide,by decide⟩,⟨62,67,mg_of KX T.g (by kernel_rfl),mg_of KX T.g (by kernel_rfl),
     ⟨_,_,_,_,_,_,XC 62 _ (by k_is),rfl,rfl,rfl,rfl,rfl,XC 61 _ (by k_is),rfl,by decide +kernel⟩,⟨_,_,_,_,_,_,XC 67 _ (by k_is),rfl,rfl,rfl,rfl,rfl,XC 66 _ (by k_is),rfl,by decide +kernel⟩⟩⟩
   have hgt:aq6 C 143:=⟨⟨_,_,F143,rfl,rfl,rfl,fun x n M A E Q s hb hq=>kp_binds (XC.keeps hb) (fun S=>by kernel_rfl) M A E Q hq,fun x n d M A E Q s hb hq=>kp_binds (XC.keeps hb) (fun S=>by kernel_rfl) M A E Q hq,by decide,by decide⟩⟩
   have hit:av1 C 123:=⟨⟨_,_,F123,rfl,fun x n=>by rfl,by decide,by decide⟩⟩
   have hst:bc5 C 111:=⟨⟨_,_,F111,rfl,rfl,rfl,fun x n v=>by rfl,by decide,by decide⟩⟩
   have hdl:ak5 C 116:=⟨⟨_,_,_,F116,rfl,rfl,rfl,fun x n=>by rfl,rfl,rfl,by decide,by decide,rfl⟩⟩
   have hks:by5 C 148 false:=⟨⟨_,_,_,F148,fun x=>by rfl,rfl,by decide,by decide⟩⟩
   have hvs:by5 C 153 true:=⟨⟨_,_,_,F153,fun x=>by rfl,rfl,by decide,by decide⟩⟩
   have hits:zz C 160 kx (fun _=>False):=⟨_,_,F160,fun x=>by rfl,rfl,by decide,fun y hy=>hy.elim⟩
   have hln:zz C 104 uo (fun y=>y = "len"):=⟨_,_,F104,fun x=>by rfl,rfl,by decide,fun y hy=>by rw [hy];rfl⟩
   have hga:ap2 C 135:=⟨_,_,_,F135,rfl,rfl,rfl,fun x n=>by rfl,rfl,rfl,by decide,rfl,rfl⟩
   have had:bd6 C 193:=⟨_,_,_,F193,rfl,rfl,rfl,rfl,rfl,rfl,fun x n v=>by rfl,by decide,by decide⟩
   have how:bm9 C 233:=⟨_,_,_,F233,rfl,fun x n=>by rfl,rfl,rfl,rfl,rfl,rfl⟩
   have hin:af1 C 90:=by
     refine ⟨_,_,_,F90,rfl,rfl,?_,by decide,by decide,by decide⟩
     intro x M A E Q s hb hq
     refine kp_binds (XC.keeps hb) ?_ M A E Q hq
     clear hq hb Q E A M s F90 F153 F148 F111 F116 F123 F143 F97 F52 F160 F135 F193 F104 F233
     intro S
     kernel_rfl
   have hsc:specialIn (Mine.g7.heap_1_39 w.params) (.ref 196) "__call__" = some (some (.builtin "type.__call__")):=by kernel_rfl
   have hlk:=xt (M:=model C.prog C.w) (K:=(Mine.g7.heap_1_39 w.params)) (a:=196) (by k_is) rfl hsc
   have bb:as8 C (Mine.g7.heap_1_39 w.params) 97 143 123 111 116 148 153 160 135 193 104 90 233:=⟨hfns,hcv,hgt,hit,hst,hdl,hks,hvs,hits,hga,had,hln,hnew,hin,mg_of KX T.g (by kernel_rfl),fun h hb=>hlk h (XC.keeps hb),⟨196,_,XC 196 _ (by k_is),by decide⟩,how,mg_of KX T.g (by kernel_rfl)⟩
   have hno:∀ x∈(["len","sum","max","min","range","zip","enumerate","str"]:List Str),mg x = none:=all_cons (mg_none_of KX T.g (by kernel_rfl)) (all_cons (mg_none_of KX T.g (by kernel_rfl)) (all_cons (mg_none_of KX T.g (by kernel_rfl)) (all_cons (mg_none_of KX T.g (by kernel_rfl)) (all_cons (mg_none_of KX T.g (by kernel_rfl)) (all_cons (mg_none_of KX T.g (by kernel_rfl)) (all_cons (mg_none_of KX T.g (by kernel_rfl)) (all_cons (mg_none_of KX T.g (by kernel_rfl)) all_nil)))))))
   have hno2:∀ x∈(["type","list"]:List Str),mg x = none:=all_cons (mg_none_of KX T.g (by kernel_rfl)) (all_cons (mg_none_of KX T.g (by kernel_rfl)) all_nil)
   have hrt:g9 C:=au8 hT9 T hno hno2
   have hsp:aj9 C:=bq2 hT9 T (by decide) ⟨52,_,_,_,_,_,_,_,_,_,_,_,_,_,_,_,_,_,_,_,_,_,_,_,_,_,_,_,_,_,_,mg_of KX T.g (by kernel_rfl),F52,rfl,rfl,fun v w=>by rfl,by decide,by decide,by decide⟩
   have hsok:Sok C [] [] [] s₁:=bg7 hT9
   have F45:=n7 (C:=C) (a:=45) (body:=_) XC (by k_is) rfl rfl rfl rfl rfl rfl (by k_is) rfl rfl rfl rfl rfl rfl (noSp rfl)
   have m45:C.mg "replace" = some (.ref 45):=mg_of KX T.g (by kernel_rfl)
   have r45:ca C "replace" (yd "text" "pairs"):=ik m45 F45 (by kernel_rfl) (ba8 fun v rest=>yj v rest)
   have F207:=n7 (C:=C) (a:=207) (body:=_) XC (by k_is) rfl rfl rfl rfl rfl rfl (by k_is) rfl rfl rfl rfl rfl rfl (noSp rfl)
   have m207:C.mg "_law_put" = some (.ref 207):=mg_of KX T.g (by kernel_rfl)
   have r207:ca C "_law_put" (f9 ["word","row"]):=ik m207 F207 (by kernel_rfl) (al8 fun v w=>rfl)
   have F212:=n7 (C:=C) (a:=212) (body:=_) XC (by k_is) rfl rfl rfl rfl rfl rfl (by k_is) rfl rfl rfl rfl rfl rfl (noSp rfl)
   have m212:C.mg "_law_dues" = some (.ref 212):=mg_of KX T.g (by kernel_rfl)
   have r212:ca C "_law_dues" (f9 ["word"]):=ik m212 F212 (by kernel_rfl) (bt1 fun v=>rfl)
   have F219:=n7 (C:=C) (a:=219) (body:=_) XC (by k_is) rfl rfl rfl rfl rfl rfl (by k_is) rfl rfl rfl rfl rfl rfl (fun J=>⟨218,214,.tail _ (.head _),rfl⟩)
   have m219:C.mg "_law_parted" = some (.ref 219):=mg_of KX T.g (by kernel_rfl)
   have r219:ca C "_law_parted" (f9 ["row","letter"]):=ik m219 F219 (by kernel_rfl) (al8 fun v w=>rfl)
   have F226:=n7 (C:=C) (a:=226) (body:=_) XC (by k_is) rfl rfl rfl rfl rfl rfl (by k_is) rfl rfl rfl rfl rfl rfl (fun J=>⟨225,221,.tail _ (.tail _ (.head _)),rfl⟩)
   have m226:C.mg "_law_below" = some (.ref 226):=mg_of KX T.g (by kernel_rfl)
   have r226:ca C "_law_below" (f9 ["row","letter"]):=ik m226 F226 (by kernel_rfl) (al8 fun v w=>rfl)
   have F240:=n7 (C:=C) (a:=240) (body:=_) XC (by k_is) rfl rfl rfl rfl rfl rfl (by k_is) rfl rfl rfl rfl rfl rfl (noSp rfl)
   have m240:C.mg "_law_laid" = some (.ref 240):=mg_of KX T.g (by kernel_rfl)
   have r240:ca C "_law_laid" (f9 ["rows","letter","step"]):=ik m240 F240 (by kernel_rfl) (ch5 fun u v w=>rfl)
   have F247:=n7 (C:=C) (a:=247) (body:=_) XC (by k_is) rfl rfl rfl rfl rfl rfl (by k_is) rfl rfl rfl rfl rfl rfl (noSp rfl)
   have m247:C.mg "_law_taken" = some (.ref 247):=mg_of KX T.g (by kernel_rfl)
   have r247:ca C "_law_taken" (f9 ["rows","place"]):=ik m247 F247 (by kernel_rfl) (al8 fun v w=>rfl)
   have F252:=n7 (C:=C) (a:=252) (body:=_) XC (by k_is) rfl rfl rfl rfl rfl rfl (by k_is) rfl rfl rfl rfl rfl rfl (noSp rfl)
   have m252:C.mg "_law_grown" = some (.ref 252):=mg_of KX T.g (by kernel_rfl)
   have r252:ca C "_law_grown" (f9 ["word","rows","steps"]):=ik m252 F252 (by kernel_rfl) (ch5 fun u v w=>rfl)
   have F257:=n7 (C:=C) (a:=257) (body:=_) XC (by k_is) rfl rfl rfl rfl rfl rfl (by k_is) rfl rfl rfl rfl rfl rfl (noSp rfl)
   have m257:C.mg "_law_record" = some (.ref 257):=mg_of KX T.g (by kernel_rfl)
   have r257:ca C "_law_record" (f9 ["steps","places"]):=ik m257 F257 (by kernel_rfl) (al8 fun v w=>rfl)
   have F264:=n7 (C:=C) (a:=264) (body:=_) XC (by k_is) rfl rfl rfl rfl rfl rfl (by k_is) rfl rfl rfl rfl rfl rfl (noSp rfl)
   have m264:C.mg "_law_settled" = some (.ref 264):=mg_of KX T.g (by kernel_rfl)
   have r264:ca C "_law_settled" (f9 ["text","pairs"]):=ik m264 F264 (by kernel_rfl) (al8 fun v w=>rfl)
   have F269:=n7 (C:=C) (a:=269) (body:=_) XC (by k_is) rfl rfl rfl rfl rfl rfl (by k_is) rfl rfl rfl rfl rfl rfl (noSp rfl)
   have m269:C.mg "law" = some (.ref 269):=mg_of KX T.g (by kernel_rfl)
   have r269:ca C "law" (f9 ["script"]):=ik m269 F269 (by kernel_rfl) (bt1 fun v=>rfl)
   refine ze3a3 (cd8 bb hsp hrt r45 r207 r212 r219 r226 r240 r247 r252 r257 r264 r269) fun a o2 fd2 l1 l2 l3 hcall=>?_
   have ea:fa = a:=by
     have:=hmg.symm.trans l1
     injection this with e1
     injection e1
   subst ea
   rename Well _ _ _ _=>hw
   rename ¬_=>hc63
   have hS:=bl2 bl8
   refine wpAny_mono (hcall _ [] _ _ (hS _) callerA [] [] s₁ _ ⟨rfl,by decide,by decide⟩ hsok (am2 hw (by omega) ?_)) (fun v s' hp=>?_) (fun J J x=>x.elim)
   · intro b hb
     have hb:b∈[228,214,221]:=by simpa [VV,adr,C,bi5] using hb
     exact ⟨_,hT8 b hb,rfl⟩
   · obtain ⟨io',g1,k1,hv⟩:=hp
     have hv:v = .bool true:=hv
     subst hv
     have hO:=bw6 (prog:=PySem.Challenge.rw_pm0047_02.row.prog) (w:=w) (mg:=mg) (mb:=mb) (cls:=196) (spc:=[(232,228,"_law_own.<locals>."),(218,214,"_law_parted.<locals>."),(225,221,"_law_below.<locals>.")]) hT9 g1 k1
     refine ze2 g1.same fun h' tk e=>?_
     refine ⟨.inl ⟨_,.bool true,[],rfl,fun cls=>rfl,.bool true,postW_of (by wrow_shape) (by wtm_val) (by str_meet;first | done | w_fin),unshared_nil⟩,hO,?_,?_⟩
     · rw [e]
     · rw [e];exact AllBare.of_eq hg
end Mine
end
theorem PySem.Challenge.cw_pm0047_02_holds : PySem.Challenge.rw_pm0047_02.Holds :=
  Mine.g7
