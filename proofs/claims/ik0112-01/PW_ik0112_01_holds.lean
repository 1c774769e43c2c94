import PyProof.Rows.All
import Wide.All
import OpenK.AllK
import Wide.FinOn
import Lean
import PySem.Challenge.RW_ik0112_01
open PySem PySem.W PyProof.Rows PySem.Calls
set_option Elab.async false
set_option maxRecDepth 100000
set_option linter.all false
set_option compiler.extract_closed false
set_option linter.unusedSimpArgs false
set_option linter.unusedVariables false
set_option rowWalk.seconds 0
set_option maxHeartbeats 8000000
set_option genInjectivity false
set_option genSizeOf false
noncomputable section
namespace Mine
abbrev EV:=ExcName→Option Value
abbrev SV:=Str→Option Value
abbrev GC:=Option (List Code)
abbrev VP:=Value→Shared→Prop
abbrev LO:=List (Addr × Obj)
section
theorem zv1 {u a b c:Nat} (h:u+a < c) (hb:Nat.ble b a=true):u+b < c:=Nat.lt_of_le_of_lt (Nat.add_le_add_left (Nat.le_of_ble_eq_true hb) u) h
theorem zv2 {u a b1 b2 c:Nat} (h:u+a < c) (hb:Nat.ble (b1+b2) a=true):u+b1+b2 < c:=by rw [Nat.add_assoc u b1 b2];exact zv1 h hb
theorem zv3 {u a b1 b2 b3 c:Nat} (h:u+a < c) (hb:Nat.ble (b1+b2+b3) a=true):u+b1+b2+b3 < c:=by rw [Nat.add_assoc u b1 b2];exact zv2 h hb
theorem zv4 {u a b1 b2 b3 b4 c:Nat} (h:u+a < c) (hb:Nat.ble (b1+b2+b3+b4) a=true):u+b1+b2+b3+b4 < c:=by rw [Nat.add_assoc u b1 b2];exact zv3 h hb
theorem zv5 {u a b1 b2 b3 b4 b5 c:Nat} (h:u+a < c) (hb:Nat.ble (b1+b2+b3+b4+b5) a=true):u+b1+b2+b3+b4+b5 < c:=by rw [Nat.add_assoc u b1 b2];exact zv4 h hb
theorem zv6 {u a b1 b2 b3 b4 b5 b6 c:Nat} (h:u+a < c) (hb:Nat.ble (b1+b2+b3+b4+b5+b6) a=true):u+b1+b2+b3+b4+b5+b6 < c:=by rw [Nat.add_assoc u b1 b2];exact zv5 h hb
theorem zv7 {u a b1 b2 b3 b4 b5 b6 b7 c:Nat} (h:u+a < c) (hb:Nat.ble (b1+b2+b3+b4+b5+b6+b7) a=true):u+b1+b2+b3+b4+b5+b6+b7 < c:=by rw [Nat.add_assoc u b1 b2];exact zv6 h hb
theorem nmL {M:Model} {E:Value→Shared→Prop} {cn:Str} {cs:Scope} {a:Addr} {ccd:Value} {cl:List (Str × Addr)} (hk:cs.kind = .function) {x:Str} (hx:∀ L,(envX cn cs L a ccd cl).kindOf x=some .local) (hd:(x == ("__debug__" : Str))=false)
 {pos:Pos} {A:Around} {L:Addr} {h₀:Heap} {m:Str→Option Value} {v:Value} {s:Shared} {Q:Value→Shared→Prop} (F:PyProof.Rows.Fr h₀ L s.heap m) (hv:m x=some v) (h:Q v s) :
 wpAny M A (eval (.Name x pos) (envX cn cs L a ccd cl)) Q E s:=nameX_L F hv h hk (hx L) hd
theorem stL {M:Model} {E:Value→Shared→Prop} {cn:Str} {cs:Scope} {a:Addr} {ccd:Value} {cl:List (Str × Addr)} (hk:cs.kind = .function) {x:Str} (hx:∀ L,(envX cn cs L a ccd cl).kindOf x=some .local)
 {A:Around} {L:Addr} {h₀:Heap} {m:Str→Option Value} {news:List (Addr × Obj)} {v:Value} {s:Shared} {Q:Unit→Shared→Prop} (F:PyProof.Rows.Fr h₀ L s.heap m) (N:News h₀ L s.heap news)
 (h:∀ h',PyProof.Rows.Fr h₀ L h' (fun y=>if y=x then some v else m y)→News h₀ L h' news→Q () { s with heap:=h',toks:=s.toks+1 }):wpAny M A (storeName (envX cn cs L a ccd cl) x v) Q E s:=storeX_L F N h hk (hx L)
theorem pj1 {p0 p1:Prop} (h:p0∧p1):p0:=h.1
theorem pj2 {p0 p1 p2:Prop} (h:p0∧p1∧p2):p1:=h.2.1
theorem pj3 {p0 p1 p2 p3:Prop} (h:p0∧p1∧p2∧p3):p2:=h.2.2.1
theorem pj4 {p0 p1 p2 p3 p4:Prop} (h:p0∧p1∧p2∧p3∧p4):p3:=h.2.2.2.1
theorem pj5 {p0 p1 p2 p3 p4 p5:Prop} (h:p0∧p1∧p2∧p3∧p4∧p5):p4:=h.2.2.2.2.1
theorem pj6 {p0 p1 p2 p3 p4 p5 p6:Prop} (h:p0∧p1∧p2∧p3∧p4∧p5∧p6):p5:=h.2.2.2.2.2.1
theorem pj7 {p0 p1 p2 p3 p4 p5 p6 p7:Prop} (h:p0∧p1∧p2∧p3∧p4∧p5∧p6∧p7):p6:=h.2.2.2.2.2.2.1
theorem pj8 {p0 p1 p2 p3 p4 p5 p6 p7 p8:Prop} (h:p0∧p1∧p2∧p3∧p4∧p5∧p6∧p7∧p8):p7:=h.2.2.2.2.2.2.2.1
theorem pj9 {p0 p1 p2 p3 p4 p5 p6 p7 p8 p9:Prop} (h:p0∧p1∧p2∧p3∧p4∧p5∧p6∧p7∧p8∧p9):p8:=h.2.2.2.2.2.2.2.2.1
theorem Dl {p0 p1 p2 p3 p4 p5 p6 p7 p8 p9 p10:Prop} (h:p0∧p1∧p2∧p3∧p4∧p5∧p6∧p7∧p8∧p9∧p10):p9:=h.2.2.2.2.2.2.2.2.2.1
theorem Dk {p0 p1 p2 p3 p4 p5 p6 p7 p8 p9 p10 p11:Prop} (h:p0∧p1∧p2∧p3∧p4∧p5∧p6∧p7∧p8∧p9∧p10∧p11):p10:=h.2.2.2.2.2.2.2.2.2.2.1
theorem Dj {p0 p1 p2 p3 p4 p5 p6 p7 p8 p9 p10 p11 p12:Prop} (h:p0∧p1∧p2∧p3∧p4∧p5∧p6∧p7∧p8∧p9∧p10∧p11∧p12):p11:=h.2.2.2.2.2.2.2.2.2.2.2.1
theorem Di {p0 p1 p2 p3 p4 p5 p6 p7 p8 p9 p10 p11 p12 p13:Prop} (h:p0∧p1∧p2∧p3∧p4∧p5∧p6∧p7∧p8∧p9∧p10∧p11∧p12∧p13):p12:=h.2.2.2.2.2.2.2.2.2.2.2.2.1
theorem Dh {p0 p1 p2 p3 p4 p5 p6 p7 p8 p9 p10 p11 p12 p13 p14:Prop} (h:p0∧p1∧p2∧p3∧p4∧p5∧p6∧p7∧p8∧p9∧p10∧p11∧p12∧p13∧p14):p13:=h.2.2.2.2.2.2.2.2.2.2.2.2.2.1
theorem tS {α:Type} {M:Model} {A:Around} {x:Sem α} {Q : α→Shared→Prop} {E:Value→Shared→Prop} {s:Shared} (h:∀ (Q' : α→Shared→Prop),(∀ a s,Q a s→Q' a s)→wpAny M A x Q' E s):wpAny M A x Q E s :=
 h Q (fun _ _ h=>h)
theorem dB {α:Type} {M:Model} {A:Around} {x:Sem α} {Q : α→Shared→Prop} {E:Value→Shared→Prop} {s:Shared} (h:∀ (Q' : α→Shared→Prop),(∀ a s,Q a s→Q' a s)→wpAny M A x Q' (fun _ _=>False) s):wpAny M A x Q E s :=
 wpAny_noRaise (h Q (fun _ _ h=>h))
theorem AO {α:Type} {Q Q' : α→Shared→Prop} {a : α} {s:Shared} (h:∀ a s,Q a s→Q' a s) (k:Q a s):Q' a s:=h a s k
theorem Bb {α:Type} (e:Nonempty α) (P : α→Prop):∃ c,P c → ∀ a,P a:=by
 by_cases h:∃ c,¬ P c
 · obtain ⟨c,hc⟩:=h
   exact ⟨c,fun k=>absurd k hc⟩
 · obtain ⟨c⟩:=e
   refine ⟨c,fun _ a=>Classical.byContradiction fun k=>h ⟨a,k⟩⟩
noncomputable def one {α:Type} (e:Nonempty α) (P : α→Prop) : α:=Classical.choose (Bb e P)
theorem wS:Nonempty Params:=by
 constructor
 constructor <;> first | exact default | exact false | exact none | exact 0 | exact fun _=>default | exact fun _ _=>default | exact fun _ _ _=>default | exact fun _=>none | exact fun _ _=>none | exact fun _=>false
theorem yo:Nonempty World:=wS.elim fun p=>⟨⟨fun _ _=>0,p⟩⟩
noncomputable def aW:World:=Classical.choice yo
end
local macro_rules | `(tactic| walk_at $s:str) => `(tactic| k_extra $s)
local macro_rules | `(tactic| k_ne) => `(tactic| k_extra "ne")
local macro_rules | `(tactic| ktr_room) => `(tactic| k_extra "gr")
local macro_rules | `(tactic| ktr_units) => `(tactic| k_extra "un")
local macro_rules | `(tactic| ktr_unf) => `(tactic| k_extra "unf")
local macro_rules | `(tactic| k_all) => `(tactic| k_extra "all")
local macro_rules | `(tactic| k_mem) => `(tactic| k_extra "mem")
theorem kw_0:True:=by
 w_top off
 k_with_none
 k_with "a" => (first | k_extra "ah" | (fail_if_success (fail_if_success (with_reducible show wpAny _ _ (eval (PySem.Expr.Call _ _ _ _) _) _ _ _))) | (fail_if_success (fail_if_success (with_reducible show wpAny _ _ (eval (PySem.Expr.Subscript _ _ _) _) _ _ _))) | (fail_if_success (fail_if_success (with_reducible show wpAny _ _ (eval (PySem.Expr.BinOp _ _ _ _) _) _ _ _))) | (fail_if_success (fail_if_success (with_reducible show wpAny _ _ (eval (PySem.Expr.Compare _ _ _ _) _) _ _ _))) | (fail_if_success (fail_if_success (with_reducible show wpAny _ _ (eval (PySem.Expr.BoolOp _ _ _) _) _ _ _))) | (fail_if_success (fail_if_success (with_reducible show wpAny _ _ (eval (PySem.Expr.IfExp _ _ _ _) _) _ _ _))) | (fail_if_success (fail_if_success (with_reducible show wpAny _ _ (eval (PySem.Expr.List _ _) _) _ _ _))) | (fail_if_success (fail_if_success (with_reducible show wpAny _ _ (eval (PySem.Expr.Tuple _ _ _) _) _ _ _))))
 k_with "b" => (fail_if_success (with_reducible show wpAny _ _ (exec (Stmt.While _ _ _ _) _) _ _ _))
 k_with "c" => (fail_if_success (with_reducible show wpAny _ _ (exec (Stmt.For _ _ _ _ _) _) _ _ _))
 k_with "d" => (case k8=>exact Nat.lt_of_le_of_lt (Nat.le_add_right _ _) hd)
 k_with "e" => (fail_if_success (with_reducible show wpAny _ _ (pyIter (Value.ref _)) _ _ _))
 k_with "f" => (fail_if_success (with_reducible show LCt.CompSrcT _ _ _ _ _ _ _ _ _ _ _ _ _ _ _))
 k_with "h" => (fail_if_success (with_reducible show LCg.CompEnd _ _ _ _ _ _ _ _ _ _ _ _ _ _))
 k_with "i" => (fail_if_success (with_reducible show LCg.CompSrc _ _ _ _ _ _ _ _ _ _ _ _ _ _))
 k_with "j" => ((k_here;k_extra "ai";k_dflt (refine' ri (by k_asm) (by k_asm) (by k_mem) (by exact rfl) (by exact rfl) (by kmk_part) (by kmk_part) ?_ (by with_unfolding_all rfl) (by kmk_pure) (by first | k_extra "g" | (refine om (by with_reducible assumption) ?_;k_extra "g")));intro D'q9 h'q9 F'q9 N'q9 l1q9;(try k_lt l1q9);(try k_sweep)))
 k_with "k" => (intro FG' F' N' B' X' T';(try dsimp only);(try k_fold))
 k_with "m" => (fail_if_success (fail_if_success (with_reducible show wpAny _ _ (subscriptTail _ _ (Value.ref _) (Value.int _ _)) _ _ _)))
 k_with "n" => (with_reducible refine hQ9q _ _ ?_;(try clear hQ9q Q9q))
 k_with "o" => (fail_if_success (with_reducible show wpAny _ _ _ Q9q _ _))
 k_with "p" => (with_reducible refine AO (by assumption) ?_)
 k_with "q" => ((k_here;(fail_if_success (fail_if_success (with_reducible show wpAny _ _ (subscriptTail _ (PySem.Expr.Slice none none (some _) _) (Value.ref _) (Value.ref _)) _ _ _)));k_dflt (refine' AE (by k_asm) (by k_asm) (by k_mem) (by exact rfl) (by exact rfl) (by exact IsPart.int _ _) ?_ (by with_unfolding_all rfl) (by kmk_pure) (by first | k_extra "g" | (refine om (by with_reducible assumption) ?_;k_extra "g")));intro D'q9 h'q9 F'q9 N'q9 l1q9;(try k_lt l1q9);(try k_sweep)))
 k_with "r" => (case k9=>exact BindsTo.of_eq rfl)
 k_with "s" => ((k_here;(fail_if_success (fail_if_success (with_reducible show wpAny _ _ (call (Value.ref 150) _) _ _ _)));k_dflt (refine' vF (by k_asm) (by k_asm) (by k_asm) (by k_asm) (by k_asm) (by exact rfl) (by exact rfl) (by ktr_room) (by ktr_units) (by k_extra "g") (by with_reducible assumption) (by with_reducible assumption) (by with_reducible assumption) (by with_reducible assumption) ?_;k_whole;intro t9q9 h9q9 tk9q9 F9q9 N9q9;(try dsimp only);(try k_fold))))
 k_with "t" => (case k9=>first | exact BindsTo.of_eq rfl | (refine' kp_binds ?kx ?ke;(case kx=>k_in);(case ke=>exact fun _=>rfl)))
 k_with "u" => (first | k_extra "n" | (k_extra "a";k_extra "o";refine dB ?_;intro Q9q hQ9q) | k_extra "ag" | (k_end;wrow_close) | (k_extra "h";k_extra "f";k_extra "i";k_extra "b";k_extra "c";k_extra "e";walk1) | (k_extra "h";k_extra "f";k_extra "i";k_extra "b";k_extra "c";k_extra "e";dsimp only;walk1) | (leave1;walk_say "STEP leave1";try dsimp only) | k_extra "p" | fail "no step")
 k_with "v" => (fail_if_success (with_reducible show wpAny _ _ (call (Value.builtin "sorted") _ _) _ _ _))
 k_with "w" => (first | k_extra "n" | (k_extra "a";k_extra "o";refine dB ?_;intro Q9q hQ9q) | k_extra "ag" | (k_end;wrow_close) | (k_extra "b";k_extra "c";k_extra "e";walk1) | (k_extra "b";k_extra "c";k_extra "e";dsimp only;walk1) | (leave1;walk_say "STEP leave1";try dsimp only) | k_extra "p" | fail "no step")
 k_with "x" => (intro tk' cells' FG' F' N' Y' B' X' T' l1;(try k_lt l1);k_cells Y';(try simp only [List.cons_append,List.nil_append] at N');(try dsimp only);(try k_fold))
 k_with "y" => (first | k_extra "n" | (k_extra "a";k_extra "o";refine dB ?_;intro Q9q hQ9q) | k_extra "ag" | (k_end;wrow_close) | (k_extra "b";k_extra "c";walk1) | (k_extra "b";k_extra "c";dsimp only;walk1) | (leave1;walk_say "STEP leave1";try dsimp only) | k_extra "p" | fail "no step")
 k_with "z" => (fail_if_success (with_reducible show wpAny _ _ (compareOp CmpOp.NotEq (Value.ref _) (Value.ref _)) _ _ _))
 k_with "0" => (k_here;(fail_if_success (fail_if_success (with_reducible show wpAny _ _ (call (Value.builtin "iter") [Value.ref _]) _ _ _)));k_dflt (refine' yh (by k_asm) (by k_asm) (by k_mem) (by exact rfl) (by exact rfl) ?_;k_whole);intro D'q9 h'q9 F'q9 N'q9 l1q9;(try k_lt l1q9);(try k_sweep))
 k_with "1" => (case kB=>exact locs rfl)
 k_with "2" => (fail_if_success (with_reducible show wpAny _ _ (compareOp CmpOp.NotIn _ (Value.ref _)) _ _ _))
 k_with "3" => ((k_here;k_dflt (refine LCg.ListComp_U (F₀:=by k_asm) (by with_unfolding_all rfl) (by decide) (by rfl) (by decide) (by rfl) ?_)))
 k_with "4" => ((k_here;k_extra "m";(with_unfolding_all refine' gA (by k_asm) (by k_mem) (by rfl) (by rfl) (by with_reducible assumption) (by k_extra "g") (by k_extra "g") (by k_extra "g") ?_ (by with_unfolding_all rfl);k_whole);intro y8q9 t8q9 hy8q9 hz8q9))
 k_with "5" => (first | k_extra "n" | (k_extra "a";k_extra "o";refine tS ?_;intro Q9q hQ9q) | k_extra "ag" | (k_end;wrow_close) | walk1 | (dsimp only;walk1) | (leave1;walk_say "STEP leave1";try dsimp only) | k_extra "p" | fail "no step")
 k_with "6" => (case kA=>exact rfl)
 k_with "7" => (case c2=>exact rfl)
 k_with "8" => (case c3=>exact rfl)
 k_with "9" => (case c4=>exact rfl)
 k_with "aa" => ((k_here;k_extra "m";(with_unfolding_all refine' tC (by k_asm) (by k_mem) (by with_reducible assumption) (by k_extra "g") (by k_extra "g") (by k_extra "g") ?_ (by with_unfolding_all rfl);k_whole);intro v8q9 d8q9 hv8q9 hd8q9 hD8q9))
 k_with "ab" => ((k_here;k_dflt (refine' zj (by k_asm) (by k_asm) (by k_asm) (by k_asm) (by k_asm) (by exact rfl) (by exact rfl) (by ktr_room) (by ktr_units)  ?_;  k_whole;intro t9q9 h9q9 tk9q9 F9q9 N9q9;(try dsimp only);(try k_fold))))
 k_with "ac" => (case kF=>exact hf)
 k_with "ad" => (case kK=>exact hk)
 k_with "ae" => (fail_if_success (fail_if_success (with_reducible show wpAny _ _ (call (Value.builtin _) [Value.ref _]) _ _ _)))
 k_with "af" => ((k_here;k_dflt (refine LCg.Assign_ListComp_U (F₀:=by k_asm) (by rfl) (by with_unfolding_all rfl) (by with_unfolding_all rfl) (by decide) (by rfl) (by decide) (by rfl) (by rfl) (by rfl) ?_)))
 k_with "ag" => (k_unfold;(try dsimp only))
 k_with "ah" => (fail_if_success (fail_if_success (with_reducible show wpAny _ _ (execs (_::_) _) _ _ _)))
 k_with "ai" => (fail_if_success (fail_if_success (with_reducible show wpAny _ _ (subscriptTail _ (PySem.Expr.Slice _ _ none _) (Value.ref _) (Value.ref _)) _ _ _)))
 k_with "aj" => (fail_if_success (with_reducible show wpAny _ _ (call (Value.ref 136) _) _ _ _))
 k_with "ak" => (case k1=>k_asm)
 k_with "al" => (case k2=>k_asm)
 k_with "am" => (case k3=>k_asm)
 k_with "an" => (case k4=>k_asm)
 k_with "ao" => (case k5=>k_asm)
 k_with "ap" => (case c5=>decide)
 k_with "aq" => (fail_if_success (with_reducible show wpAny _ _ (subscriptTail _ (PySem.Expr.Subscript _ _ _) (Value.ref _) (Value.int _ _)) _ _ _))
 k_with "ar" => (fail_if_success (with_reducible show wpAny _ _ (subscriptTail _ (PySem.Expr.BinOp _ _ _ _) (Value.ref _) (Value.int _ _)) _ _ _))
 k_with "as" => (fail_if_success (with_reducible show wpAny _ _ (subscriptTail _ (PySem.Expr.Name _ _) (Value.ref _) (Value.int _ _)) _ _ _))
 k_with "at" => (case k6=>k_is)
 k_with "au" => (case k7=>k_is)
 k_with "av" => (rw [Int.fmod_eq_emod_of_nonneg _ (by decide)];k_extra "g")
 k_with "aw" => k_dflt (refine' code_def ?k1 ?k2 ?k3 ?k4 ?k5 ?kA ?kF ?kK ?k6 ?k7 ?k8 ?k9 ?kB ?_ ?c2 ?c3 ?c4 ?c5;k_extra "6";k_extra "ac";k_extra "ad";k_extra "ak";k_extra "al";k_extra "am";k_extra "an";k_extra "ao";k_extra "at";k_extra "au";k_extra "d";k_extra "r";k_extra "ap";k_extra "1";k_extra "7";k_extra "8";k_extra "9";k_whole;intro g' L' h')
 k_with "ax" => rcases List.mem_cons.mp hp with rfl | hp
 k_with "ay" => (with_reducible rename Fr _ _ _ _=>lF')
 k_with "az" => (with_reducible rename News _ _ _ _=>lN')
 k_with "a0" => refine iH.intro (by assumption) (by assumption) (ds.length - (2 * p+2)) _ _ [] (fun p hp=>hp) ho (by exact zal [_,_,_,_] 1 qB qA [(1,qC,zp qA qD),(1,zp qB (zp (zk 2 qD) (zn 2)),qC)] rfl (zs2 _ _) (zs3 (zae [_,_] 1 (zp (zk 2 qB) (zn 2)) qA [(1,zu (zu (zu (zk 2 qB))),qA)] rfl (zit ‹2 * (↑p:Int)+1+1 < (↑ds.length:Int)›)))) ⟨rfl,rfl,rfl,⟨_,rfl⟩,⟨_,rfl⟩,_,2 * p+2,rfl,by (exact zal [_,_] 1 (zp (zk 2 qB) (zn 2)) qA [(1,zu (zu (zu (zk 2 qB))),qA)] rfl (zit ‹2 * (↑p:Int)+1+1 < (↑ds.length:Int)›)),⟨_,congrArg (fun z=>some (Value.int z _)) (show (2 * (p:Int)+1+1:Int)=((2 * p+2:Nat):Int) by (exact zmq (Nat.le_antisymm (zae [_] 1 (zu (zu (zk 2 qA))) (zp (zk 2 qA) (zn 2)) [] rfl) (zae [_] 1 (zp (zk 2 qA) (zn 2)) (zu (zu (zk 2 qA))) [] rfl))))⟩,⟨_,congrArg (fun z=>some (Value.int z _)) (show (2 * (2 * (p:Int)+1+1)+1:Int)=2 * ((2 * p+2:Nat):Int)+1 by (exact zmq (Nat.le_antisymm (zae [_] 1 (zu (zk 2 (zu (zu (zk 2 qA))))) (zu (zk 2 (zp (zk 2 qA) (zn 2)))) [] rfl) (zae [_] 1 (zu (zk 2 (zp (zk 2 qA) (zn 2)))) (zu (zk 2 (zu (zu (zk 2 qA))))) [] rfl))))⟩,DatAll.set hD' p hDq,by rw [List.length_set];exact hl',dL hin (hin _ (List.mem_of_getElem? hq)),hst.symm.trans hgo⟩
 k_with "a1" => refine iH.intro (by assumption) (by assumption) (ds.length - (2 * p+1)) _ _ [] (fun p hp=>hp) ho (by exact zal [_,_,_,_] 1 qB qA [(1,qC,zp qA qD),(1,zp qB (zu (zk 2 qD)),qC)] rfl (zs2 _ _) (zs3 (zae [_,_] 1 (zu (zk 2 qB)) qA [(1,zu (zu (zu (zk 2 qB))),qA)] rfl (zit ‹2 * (↑p:Int)+1+1 < (↑ds.length:Int)›)))) ⟨rfl,rfl,rfl,⟨_,rfl⟩,⟨_,rfl⟩,_,2 * p+1,rfl,by (exact zal [_,_] 1 (zu (zk 2 qB)) qA [(1,zu (zu (zu (zk 2 qB))),qA)] rfl (zit ‹2 * (↑p:Int)+1+1 < (↑ds.length:Int)›)),⟨_,congrArg (fun z=>some (Value.int z _)) (show (2 * (p:Int)+1:Int)=((2 * p+1:Nat):Int) by (exact zmq (Nat.le_antisymm (Nat.le_refl _) (Nat.le_refl _))))⟩,⟨_,congrArg (fun z=>some (Value.int z _)) (show (2 * (2 * (p:Int)+1)+1:Int)=2 * ((2 * p+1:Nat):Int)+1 by (exact zmq (Nat.le_antisymm (Nat.le_refl _) (Nat.le_refl _))))⟩,DatAll.set hD' p hDq,by rw [List.length_set];exact hl',dL hin (hin _ (List.mem_of_getElem? hq)),hst.symm.trans hgo⟩
 k_with "a2" => refine iH.intro (by assumption) (by assumption) (ds.length - (2 * p+1)) _ _ [] (fun p hp=>hp) ho (by exact zal [_,_,_,_] 1 qB qA [(1,qC,zp qA qD),(1,zp qB (zu (zk 2 qD)),qC)] rfl (zs2 _ _) (zs3 (zae [_,_] 1 (zu (zk 2 qB)) qA [(1,zu (zu (zk 2 qB)),qA)] rfl (zit ‹2 * (↑p:Int)+1 < (↑ds.length:Int)›)))) ⟨rfl,rfl,rfl,⟨_,rfl⟩,⟨_,rfl⟩,_,2 * p+1,rfl,by (exact zal [_,_] 1 (zu (zk 2 qB)) qA [(1,zu (zu (zk 2 qB)),qA)] rfl (zit ‹2 * (↑p:Int)+1 < (↑ds.length:Int)›)),⟨_,congrArg (fun z=>some (Value.int z _)) (show (2 * (p:Int)+1:Int)=((2 * p+1:Nat):Int) by (exact zmq (Nat.le_antisymm (Nat.le_refl _) (Nat.le_refl _))))⟩,⟨_,congrArg (fun z=>some (Value.int z _)) (show (2 * (2 * (p:Int)+1)+1:Int)=2 * ((2 * p+1:Nat):Int)+1 by (exact zmq (Nat.le_antisymm (Nat.le_refl _) (Nat.le_refl _))))⟩,DatAll.set hD' p hDq,by rw [List.length_set];exact hl',dL hin (hin _ (List.mem_of_getElem? hq)),hst.symm.trans hgo⟩
 k_with "a3" => refine iH.intro (by assumption) (by assumption) ((n - 1) / 2) _ _ [] (fun p hp=>hp) ho (by exact zal [_,_,_,_] 2 qB qA [(1,zu qC,qA),(1,zk 2 qB,qD),(1,zu qD,qA)] rfl han (zd1 _ _) (zs3 (zae [_,_] 1 (zn 1) qA [(1,zu qB,qA)] rfl han))) ⟨rfl,by (exact zal [_,_,_,_,_] 2 qB qA [(1,zu qC,qD),(2,zu qD,qA),(1,zk 2 qB,qE),(1,zu qE,qD)] rfl han hn (zd1 _ _) (zs3 (zae [_,_] 1 (zn 1) qA [(1,zu qB,qA)] rfl han))),⟨_,congrArg (fun z=>some (Value.int z _)) (hpp (by exact zal [_,_] 1 (zn 0) qA [(1,zu qB,qA)] rfl han))⟩,rfl,rfl,⟨_,rfl⟩,_,DatAll.set hD' n hD9,by rw [List.length_set];exact hl',dL hin (hin _ (List.mem_of_getElem? hd9)),?_⟩
 k_with "a4" => k_dflt (refine' code_defC ?k1 ?k2 ?k3 ?k4 ?k5 ?kA ?kF ?kK ?k6 ?k7 ?k8 ?k9 ?kB ?kD ?_ ?c2 ?c3 ?c4;k_extra "6";k_extra "ac";k_extra "ad";k_extra "ak";k_extra "al";k_extra "am";k_extra "an";k_extra "ao";k_extra "at";k_extra "au";k_extra "d";k_extra "t";(case kB=>exact rfl);(case kD=>decide +kernel);k_extra "7";k_extra "8";k_extra "9";k_whole;intro g' L' h')
 k_with "a5" => k_dflt (refine' code_defC ?k1 ?k2 ?k3 ?k4 ?k5 ?kA ?kF ?kK ?k6 ?k7 ?k8 ?k9 ?kB ?kD ?_ ?c2 ?c3 ?c4;k_extra "6";k_extra "ac";k_extra "ad";k_extra "ak";k_extra "al";k_extra "am";k_extra "an";k_extra "ao";k_extra "at";k_extra "au";k_extra "d";k_extra "t";(case kB=>exact rfl);(case kD=>decide +kernel);k_extra "7";k_extra "8";k_extra "9";k_whole;intro g' L' h' tk' cells' FG' F' N' Y' B' X' T' l1;(try k_lt l1);k_cells Y';(try simp only [List.cons_append,List.nil_append] at N');(try dsimp only);(try k_fold))
 k_with "a6" => exact wpAny_pure ⟨plainId_quiet iv _,ih (i+1) (by exact Nat.le_antisymm (zae [_,_,_,_,_] 1 qB qA [(1,qC,zu qA),(1,qD,zp qC qE),(1,zp qB (zu qE),qD)] rfl (zle hk) (zs2 _ _) (zs3 (zae [_,_] 1 (zu qB) qA [(1,zu qB,qA)] rfl hlt))) (zae [_,_,_,_,_] 1 qB qA [(1,zu qB,qC),(1,qD,zp qA (zu qE)),(1,zp qC qE,qD)] rfl (zge hk) (zs2 _ _) (zs3 (zae [_,_] 1 qB qA [(1,zu qB,qA)] rfl hlt)))) (by exact zae [_,_] 1 (zu qB) qA [(1,zu qB,qA)] rfl hlt) (by exact zae [_,_] 1 (zu qB) qA [(1,zu qB,qA)] rfl hu) hr⟩
 k_with "a7" => refine pm (k:=k) (by assumption) (fun p hp=>List.Mem.tail _ (hcold p hp)) (by assumption) (by assumption) (hok _ (hin _ (List.mem_of_getElem? (by assumption)))) (hok _ (hin _ (List.mem_of_getElem? (by assumption)))) (hcmp _ (hin _ (List.mem_of_getElem? (by assumption))) _ (hin _ (List.mem_of_getElem? (by assumption)))) (by (simp only [units_deeper]);have:=cLine_is;(exact zal [_,_,_] 1 (zp (zp qB (zn 3)) (zk 2 qC)) qA [(1,zu (zp qB (zn 32)),qA),(2,qC,zn 4)] rfl hu hk9)) ?_
 k_with "a8" => all_goals (refine ret _ _ _ ?ra ?rb;(case ra=>k_asm);(case rb=>first | k_asm | (refine' cb_drop ?rx ?ry;(case rx=>assumption);(case ry=>kcj_all))))
 k_with "a9" => rw [show l.length - (j+1)+1=l.length - j by (exact Nat.le_antisymm (zae [_,_,_,_] 1 (zu qB) qA [(1,qC,zp qA qD),(1,zp qB (zu qD),qC)] rfl (zs2 _ _) (zs3 (zae [_,_,_] 1 (zu qB) qA [(1,zu qB,qC),(1,qC,qA)] rfl hj (zs1 _ _)))) (zae [_,_,_,_] 1 qB (zu qA) [(1,qC,zp qA (zu qD)),(1,zp qB qD,qC)] rfl (zs2 _ _) (zs3 (zae [_,_,_] 1 qB qA [(1,zu qB,qC),(1,qC,qA)] rfl hj (zs1 _ _)))))] at this
 k_with "ba" => have hS0:((s.heap.push { cls := .type "list_iterator",data := .fields #[.ref l,.int 0 0] }).push { cls := .type "list",data := .seq ([]:List Value).toArray }).get? (s.heap.push { cls := .type "list_iterator",data := .fields #[.ref l,.int 0 0] }).objs.size=some { cls := .type "list",data := .seq ([]:List Value).toArray }:=Heap.get?_push_size _ rfl
 k_with "bb" => refine aE (List.mem_map.mp ha) ?_
 k_with "bc" => rw [if_pos (by rw [show l.length - (l.length - k)=k by (exact Nat.le_antisymm (zae [_,_,_,_] 1 qB qA [(1,qC,zp qD qA),(1,zp qB qD,qC)] rfl (zs2 _ _) (zs3 (zae [_,_] 1 qB qA [(1,qB,qA)] rfl (zs1 _ _)))) (zae [_,_,_,_] 1 qB qA [(1,qC,zp qA qD),(1,zp qD qB,qC)] rfl (zs2 _ _) (zs3 (zae [_,_] 1 qB qA [(1,qB,qA)] rfl hk))))])]
 k_with "bd" => have F6:=aK (aK (aK (aK (aK (aK (aK (aK F5 (x:=Str.ofString "above") hm1) (x:=Str.ofString "places") hm2) (x:=Str.ofString "place") hm3) (x:=Str.ofString "text") hm4) (x:=Str.ofString "names") hm5) (x:=Str.ofString "heap") hm6) (x:=Str.ofString "told") hm7) (x:=Str.ofString "start") hm8
 k_with "be" => rcases List.mem_append.mp hp with hp | hp
 k_with "bf" => have keep1:∀ (h h':Heap),(∀ b o,s.heap.get? b=some o→h.get? b=some o)→(∀ b o,b ∉ [s.heap.objs.size]→h.get? b=some o→h'.get? b=some o) → ∀ b o,s.heap.get? b=some o→h'.get? b=some o:=fun h h' k1 k2 b o e=>k2 b o (by simpa using old1 b o e) (k1 b o e)
 k_with "bg" => refine cH (xV (bad:=[(c1,o1),(c2,o2),(c3,o3)]) (tl:=tl) N hb (fun p hp => .tail _ (List.mem_append_left _ hp)) (fmc (fun _ _ e=>nomatch d1.symm.trans e) (fmc (fun _ _ e=>nomatch d2.symm.trans e) (fmc (fun _ _ e=>nomatch d3.symm.trans e) (fun _ h=>nomatch h)))) hD) ?_
 k_with "bh" => have hk0:∀ b o,s.heap.get? b=some o→((s.heap.push { cls := .type "list_iterator",data := .fields #[.ref l,.int 0 0] }).push { cls := .type "list",data := .seq ([]:List Value).toArray }).get? b=some o:=fun b o e=>Heap.get?_push_of_some _ (Heap.get?_push_of_some _ e)
 k_with "bi" => refine ⟨h,by (exact Nat.le_antisymm (zae [_,_,_] 2 qB qA [(1,zk 2 qB,qC),(1,zu qC,zu (zk 2 qA))] rfl (zd1 _ _) (zs3 (zae [_] 1 (zn 1) (zu (zk 2 qA)) [] rfl))) (zae [_,_,_] 2 qB qA [(1,zu (zk 2 qB),zu qC),(1,qC,zu (zk 2 qA))] rfl (zs2 _ _) (zd2 _))),fun i x y hi he hx hy => ?_⟩
 k_with "bj" => have keep2:∀ (h h':Heap),(∀ b o,s.heap.get? b=some o→h.get? b=some o)→(∀ b o,b≠S→h.get? b=some o→h'.get? b=some o) → ∀ b o,s.heap.get? b=some o→h'.get? b=some o:=fun h h' k1 k2 b o e=>k2 b o (old2 b o e) (k1 b o e)
 k_with "bk" => refine aE (List.mem_map.mp hd) ?_
 k_with "bl" => refine wpAny_bind (wpAny_tryCatch (wpAny_mono (hn _) (fun r s' hr => ?_) fun _ _ e=>e))
 k_with "bm" => have:=(List.getElem?_eq_some_iff.mp hb).1;(exact False.elim (zar [_,_,_,_,_] [(2,zu qA,qB),(2,qC,qD),(1,zu (zn 0),qA),(2,qB,zu qC),(1,zk 2 qD,qE),(1,zu qE,qA)] rfl this (zge he) hi (zle hl) (zd1 _ _) (zs3 (zae [_] 1 (zn 1) qA [(1,zu (zn 0),qA)] rfl hi))))
 k_with "bn" => have F₂:=aK (aK (aK (aK (aK (aK F₁ (x:=Str.ofString "pos") hm1) (x:=Str.ofString "heap") hm2) (x:=Str.ofString "newitem") hm3) (x:=Str.ofString "startpos") hm4) (x:=Str.ofString "endpos") hm5) (x:=Str.ofString "childpos") hm6
 k_with "bo" => have hst:=im (lt:=(fun p q=>dlt k q p)) (l:=ds') (p:=p) (by exact zal [_,_,_] 1 (zu (zk 2 qB)) qA [(1,zu (zu (zu (zk 2 qB))),qC),(1,qC,qA)] rfl (zit ‹2 * (↑p:Int)+1+1 < (↑ds.length:Int)›) (zge hl')) (by rw [hch];exact hq)
 k_with "bp" => have hst0:((s.heap.push { cls := .type "list_iterator",data := .fields #[.ref l,.int 0 0] }).push { cls := .type "list",data := .seq ([]:List Value).toArray }).IsListIter s.heap.objs.size l 0:=⟨_,Heap.get?_push_of_some _ hI0,rfl,rfl⟩
 k_with "bq" => have F₂:=aK (aK (aK (aK (aK (aK F₁ (x:=Str.ofString "here") hm1) (x:=Str.ofString "both") hm2) (x:=Str.ofString "place") hm3) (x:=Str.ofString "text") hm4) (x:=Str.ofString "ups") hm5) (x:=Str.ofString "names") hm6
 k_with "br" => have F8:=aK (aK (aK (aK (aK (aK F7 (x:=Str.ofString "above") hm1) (x:=Str.ofString "places") hm2) (x:=Str.ofString "text") hm4) (x:=Str.ofString "heap") hm6) (x:=Str.ofString "told") hm7) (x:=Str.ofString "start") hm8
 k_with "bs" => have hst:=im (lt:=(dlt k)) (l:=ds') (p:=p) (by exact zal [_,_,_] 1 (zu (zk 2 qB)) qA [(1,zu (zu (zu (zk 2 qB))),qC),(1,qC,qA)] rfl (zit ‹2 * (↑p:Int)+1+1 < (↑ds.length:Int)›) (zge hl')) (by rw [hch];exact hq)
 k_with "bt" => have itk:∀ (i:Nat) (h h':Heap),h.IsListIter s.heap.objs.size l i→(∀ b o,b≠S→h.get? b=some o→h'.get? b=some o)→h'.IsListIter s.heap.objs.size l i:=fun i h h' x k=>x.at fun o e=>k _ o (Ne.symm hSI) e
 k_with "bu" => refine For_invVF lF' rfl rfl ?_
 k_with "bv" => rw [if_neg (zX h (by exact zae [_,_] 1 qB qA [(1,qB,qA)] rfl (zs1 _ _)) (by exact zal [_,_,_,_,_] 1 qB qA [(1,zu qC,qD),(1,qE,zp qA qC),(1,zp qD qB,qE)] rfl hj (zs2 _ _) (zs3 (zae [_,_] 1 qB qA [(1,qB,qA)] rfl hk))))]
 k_with "bw" => have F₂:=aK (aK (aK (aK (aK F₁ (x:=Str.ofString "dot") hm1) (x:=Str.ofString "dotdot") hm2) (x:=Str.ofString "sep") hm3) (x:=Str.ofString "initial_slashes") hm4) (x:=Str.ofString "new_comps") hm5
 k_with "bx" => refine wpAny_bind (listItems_at hb hd' ?_)
 k_with "by" => have hname:(toString "min" ++ toString ".loop" : String) = "min.loop" := by decide
 k_with "bz" => have F₂:=aK (aK (aK (aK (aK F₁ (x:=Str.ofString "place") hm1) (x:=Str.ofString "both") hm2) (x:=Str.ofString "text") hm3) (x:=Str.ofString "names") hm4) (x:=Str.ofString "ups") hm5
 k_with "b0" => refine wpAny_bind (listItems_at hl hd ?_)
 k_with "b1" => have F6:=aK (aK (aK (aK (aK F5 (x:=Str.ofString "rows") hm1) (x:=Str.ofString "texts") hm2) (x:=Str.ofString "home") hm3) (x:=Str.ofString "start") hm4) (x:=Str.ofString "script") hmS
 k_with "b2" => exact DatAll.append (hA.mono fun p hp => .tail _ hp) (DatAll.one (hYd.mono fun p hp=>by rw [List.mem_singleton.mp hp];exact .head _))
 k_with "b3" => have hpp:(pos - 1) / 2 < l.length:=by (exact zal [_,_,_,_,_] 2 qB qA [(1,zu qC,qD),(2,zu qD,qA),(1,zk 2 qB,qE),(1,zu qE,qD)] rfl hsp hp (zd1 _ _) (zs3 (zae [_,_] 1 (zn 1) qA [(1,zu qB,qA)] rfl hsp)))
 k_with "b4" => exact .tail _ (.tail _ (.head _))
 k_with "b5" => have old:∀ b o,s₂.heap.get? b=some o→h₁.get? b=some o:=fun b o e=>hsb₁.extBut b o (below b (Heap.lt_size e)).1 (Heap.get?_push_of_some _ (hH2 ▸ Heap.get?_push_of_some _ e))
 k_with "b6" => have up:∀ b o,s₁.heap.get? b=some o→(s₁.heap.push { cls := .type "tuple_iterator",data := .fields #[.ref ax,.int 0 0] }).get? b=some o:=fun b o e=>Heap.get?_push_of_some _ e
 k_with "b7" => have below:∀ b,b < s₂.heap.objs.size→b≠H2.objs.size∧b≠s₂.heap.objs.size:=fun b hb=>⟨by rw [hC];exact Nat.ne_of_lt (Nat.lt_succ_of_lt hb),Nat.ne_of_lt hb⟩
 k_with "b8" => have:b=k:=by (exact Nat.le_antisymm (zae [_,_] 1 qB qA [(1,zu qB,zu qA)] rfl hb2) (zae [_,_,_,_] 1 qB qA [(1,qC,qA),(1,zu qB,zu qD),(1,qD,zp qC (zn 0))] rfl hb (zs2 _ _) (zs2 _ _)))
 k_with "b9" => (first | (have e:=xQ (x:=x) (by assumption)) | (have e:=xP (x:=x) (by assumption) (by assumption)) | (have e:=xO (x:=x) (by assumption) (by assumption)))
 k_with "ca" => rcases List.mem_append.mp ha with ha | ha
 k_with "cb" => show wpAny _ A.in1 (tryCatch (pyNext (.ref I)) _ >>= _) _ _ s
 k_with "cc" => refine wpAny_bind (wpAny_pure ?_)
 k_with "cd" => rw [if_neg (by exact Nat.ne_of_gt (zal [_,_,_] 2 qB qA [(1,zu (zn 0),qA),(1,zk 2 qB,qC),(1,zu qC,qA)] rfl hi (zd1 _ _) (zs3 (zae [_] 1 (zn 1) qA [(1,zu (zn 0),qA)] rfl hi))))] at ha
 k_with "ce" => have h4:∀ p∈tl',p.1≠c1∧p.1≠c2∧p.1≠c3:=fun p hp=>⟨h2 p hp _ (.head _),h2 p hp _ (.tail _ (.head _)),h2 p hp _ (.tail _ (.tail _ (.head _)))⟩
 k_with "cf" => have hP:(fun (i:Nat) (v:Value)=>vs.toArray[i]? = some v)=fun i v=>vs[i]? = some v:=by funext i v;simp
 k_with "cg" => generalize (s.heap.push { cls := .type "list_iterator",data := .fields #[.ref l,.int 0 0] }).push { cls := .type "list",data := .seq ([]:List Value).toArray }=H2 at *
 k_with "ch" => have F₂:=aK (aK (aK (aK F₁ (x:=Str.ofString "pos") hm1) (x:=Str.ofString "heap") hm2) (x:=Str.ofString "newitem") hm3) (x:=Str.ofString "startpos") hm4
 k_with "ci" => have led:∀ (h':Heap),(∀ b o,s.heap.get? b=some o→h'.get? b=some o)→Fr h₀ L h' m∧News h₀ L h' news:=fun h' hk=>⟨F.keeps hk,N.grown hk⟩
 k_with "cj" => refine assignInOrder_cons (wpAny_assign_Name (wpAny_storeName_local (lookup_relabel_local hx₂) hn₆ (fun h₇ hn₇ hs₇ => ?_) (by simp [compEnvC,relabel,hkind])))
 k_with "ck" => have hi:i=vs.length:=by (exact Nat.le_antisymm (zae [_,_] 1 qB qA [(1,qB,qA)] rfl hi1) (zae [_,_,_] 1 qB qA [(1,qC,zn 0),(1,qB,zp qC qA)] rfl (zle hk) (zs2 _ _)))
 k_with "cl" => have F₂:=aK (aK (aK (aK F₁ (x:=Str.ofString "common") hk1) (x:=Str.ofString "s1") hk2) (x:=Str.ofString "s2") hk3) (x:=Str.ofString "isabs") hk4
 k_with "cm" => rw [List.getElem?_toArray] at hv5
 k_with "cn" => rintro n m₁ ws₁ c₁ tl h tk₁ ⟨rfl,hm2,hm3,⟨t4,hm4⟩,⟨t5,hm5⟩,ds',p,rfl,hp,⟨t1,hm1⟩,⟨t6,hm6⟩,hD',hl',hin,hgo⟩ ho F₁ N₁
 k_with "co" => have F9:=aK (aK (aK (aK F8 (x:=Str.ofString "home") hm1) (x:=Str.ofString "due") hm2) (x:=Str.ofString "pairs") hm3) (x:=Str.ofString "script") hm4
 k_with "cp" => rw [List.length_cons,Nat.succ_mul];(exact zae [_,_,_,_,_,_] 1 qC (zp qA (zu qB)) [(1,qD,qB),(1,qE,qA),(1,qF,zu qD),(1,qC,zp qF qE)] rfl h6 h5 (zle h4) (zle h3))
 k_with "cq" => refine bA (⟨_,get?_update_seq nS2.1 fun _ => #[v,u]⟩:∃ c2,(h2.update S (Obj.mapSeq fun _ => #[v,u])).get? S=some (seqObj "list" #[v,u] c2)) ?_
 k_with "cr" => have lst:∀ h':Heap,(∀ b o,s.heap.get? b=some o→h'.get? b=some o)→h'.IsList l #[.ref a,.ref b]:=fun h' hk=>hl.at fun o e=>hk _ o e
 k_with "cs" => simp only [List.getElem?_toArray,Int.toNat_natCast]
 k_with "ct" => refine dS.intro lF' lN' ws _ [] (fun p hp=>hp) (aJ hIN hoff2) hoN ⟨rfl,rfl,rfl,⟨_,rfl⟩,⟨_,rfl⟩,rfl,rfl,rfl,⟨_,rfl⟩,?_⟩
 k_with "cu" => have hI0:(s.heap.push { cls := .type "list_iterator",data := .fields #[.ref l,.int 0 0] }).get? s.heap.objs.size=some _:=Heap.get?_push_size _ rfl
 k_with "cv" => show wpAny _ A.in1 (seqItems? (.ref S) >>= _) _ _ s
 k_with "cw" => have hlist:({ s with heap:=h,toks:=tk }:Shared).heap.IsList l vals.toArray:=⟨_,(N₁ _ (.tail _ (.tail _ (.tail _ hl)))).1,rfl,_,rfl⟩
 k_with "cx" => simp only [List.nil_append] at N₁ ho
 k_with "cy" => all_goals (refine' nO (by assumption) (by assumption) off5 ?S5 ?_;(case S5=>exact Or.inr ⟨_,by k_mem,rfl,_,rfl⟩);refine ⟨rfl,?_⟩)
 k_with "cz" => have hlt:i < vs.length:=by (exact zal [_,_,_,_] 1 qB qA [(1,zu qC,qD),(1,zp qD qB,qA)] rfl (zge hk) (zs3 (zae [_,_] 1 qB qA [(1,qB,qA)] rfl hi1)))
 k_with "c0" => rw [Around.under_plainId PySem.F.plain_min_loop _]
 k_with "c1" => refine' nO (by assumption) (by assumption) off5 ?S5 ?_
 k_with "c2" => have h1:n=m:=by (exact Nat.le_antisymm (zae [_,_] 1 qB qA [(1,qB,qA)] rfl (zle (ziq h.1))) (zae [_,_] 1 qB qA [(1,qB,qA)] rfl (zge (ziq h.1))))
 k_with "c3" => have hSz:(s.heap.push { cls := .type "list_iterator",data := .fields #[.ref l,.int 0 0] }).objs.size=s.heap.objs.size+1:=Heap.size_push ..
 k_with "c4" => have hacc:h₁.get? s₂.heap.objs.size=some (lst []):=hsb₁.extBut _ _ hDC (Heap.get?_push_of_some _ (hH2 ▸ Heap.get?_push_size _ rfl))
 k_with "c5" => refine codeAny_builtin PySem.F.entry_min_loop ?_
 k_with "c6" => exact ret _ _ _ _ (by assumption) (by assumption) (DatAll.set hD' n hD8)
 k_with "c7" => have h3:=Int.fmod_nonneg_of_pos script.sum (b:=((aL script).length:Int)) (by exact zmt (zal [_] 1 (zn 0) qA [(1,zn 2,qA)] rfl h1.1))
 k_with "c8" => refine wpAny_bind (wpAny_letGo (wpAny_pure ?_))
 k_with "c9" => rcases List.mem_cons.mp hq with rfl | hq
 k_with "da" => have old2:∀ b o,s.heap.get? b=some o→b≠S:=fun b o e=>by rw [hSz];exact Nat.ne_of_lt (Nat.lt_succ_of_lt (Heap.lt_size e))
 k_with "db" => have h2:=Int.fmod_lt_of_pos script.sum (b:=((aL script).length:Int)) (by exact zmt (zal [_] 1 (zn 0) qA [(1,zn 2,qA)] rfl h1.1))
 k_with "dc" => show wpAny _ _ (Builtin.List.listItems (.ref l) >>= fun _=>_) _ _ _
 k_with "dd" => refine aE (Option.map_eq_some_iff.mp hd) ?_
 k_with "de" => rw [List.drop_eq_nil_iff.mpr (by (exact zae [_,_,_] 1 qB qA [(1,qC,qA),(1,qB,qC)] rfl (zne hu) (zge hly)):ys.length≤i),bS] at hr
 k_with "df" => refine iM (fun d hd => ?_) (fun a ha c hc => ?_) (.inl ⟨true,fun d hd => ?_⟩)
 k_with "dg" => generalize hH2:s₂.heap.push { cls := .type "list",dict:=none,data := .seq ([]:List Value).toArray }=H2 at hns₁ hsb₁ ⊢
 k_with "dh" => intro B F X N hne hcold hD hz hok hcmp hk9 T hf hk hd hu hb hx ret
 k_with "di" => refine wpAny_bind (wpAny_seqItems hS rfl ?_)
 k_with "dj" => intro B F N hne hcold hD hz hok hcmp hk9 T hf hk hd hu hb hx ret X
 k_with "dk" => refine wpAny_bind (m:=firstArgMember _ _) (wpAny_of_eq (a:=Value.none) (by first | rfl | (simp only [firstArgMember];rfl)) ?_)
 k_with "dl" => refine wpAny_bind (wpAny_bind (wpAny_askSetting (wpAny_pure ?_)))
 k_with "dm" => exact .tail _ (.tail _ (.tail _ (.head _)))
 k_with "dn" => intro v I5 oI5 C5 oC5 D5 m5 h5 tk5 E5 hv5 hC5 hx5 F5 N5 off5 ne5
 k_with "do" => intro v I5 oI5 C5 oC5 D5 m5 h5 tk5 E5 hv5 hC5 hx5 F5 N9 off5 ne5
 k_with "dp" => rintro n m₁ ws₁ c₁ tl h tk₁ ⟨rfl,hn,⟨t1,hm1⟩,hm2,hm3,⟨t4,hm4⟩,ds',hD',hl',hin,hgo⟩ ho F₁ N₁
 k_with "dq" => have F₂:=aK (aK (aK F₁ (x:=Str.ofString "home") hm1) (x:=Str.ofString "goal") hm2) (x:=Str.ofString "k") hm3
 k_with "dr" => refine wpAny_comprehension_free (use:=none) rfl hs hclos hkind hnames (wpAny_mono h (fun xv s₁ h₁ => ?_) fun _ _ e=>e)
 k_with "ds" => have hname:(toString "max" ++ toString ".loop" : String) = "max.loop" := by decide
 k_with "dt" => exact go n 0 [] news (by exact Nat.le_antisymm (zae [_] 1 (zp (zn 0) qA) qA [] rfl) (zae [_] 1 qA (zp (zn 0) qA) [] rfl)) h0
 k_with "du" => rw [List.foldl_cons,List.length_cons];(exact zae [_,_,_,_] 1 qC (zp qA (zu qB)) [(1,qD,zu qA),(1,qC,zp qD qB)] rfl h2 h1)
 k_with "dw" => all_goals ((try dsimp only);(try ktr_unf);(try dsimp only))
 k_with "dx" => refine wpAny_bind (wpAny_field hz rfl (x := .ref TI) rfl ?_)
 k_with "dy" => refine wpAny_newObj_type (wpAny_newFunctionEnv hcell (by intro y hy;simp at hy) (fun h₁ hns₁ hsb₁ => ?_) hkind)
 k_with "dz" => have W:=Walks.list (prog:=prog) (w:=w) (A:=A.in1) hh s.heap.objs.size l (Nat.ne_of_lt hlt) #[.ref a,.ref b]
 k_with "d0" => have old1:∀ b o,s.heap.get? b=some o→b≠s.heap.objs.size:=fun b o e=>Nat.ne_of_lt (Heap.lt_size e)
 k_with "d1" => rcases rg hc with rfl | ⟨a,ha,hc⟩
 k_with "d2" => generalize (s.heap.push { cls := .type "list_iterator",data := .fields #[.ref l,.int 0 0] }).objs.size=S at *
 k_with "d3" => have h3:wt (a::l)=wt [a]+wt l:=cK [a] l
 k_with "d4" => refine wpAny_bind (show wpAny _ _ (pure (Value.ref I,[]):Sem (Value × List Value)) _ _ _ from wpAny_pure ?_)
 k_with "d5" => rw [List.getD_eq_getElem?_getD,List.getD_eq_getElem?_getD,List.getElem?_map,List.getElem?_eq_getElem hi];rfl
 k_with "d6" => rw [A9 (by exact zar [_,_] [(1,qB,qA),(1,zu qA,qB)] rfl (rR ‹¬(↑a:Int) < (↑n:Int)›))] at hgo
 k_with "d7" => intro led dp un gd env outer A₀ base h₁ L9 m9 s9 Q9 E9 i v d B1 F1 X1 N1 T1 hf1 hk1 hd1 hu1 hsub hv hd hret
 k_with "d8" => rcases List.eq_nil_or_concat l with h2 | ⟨r,a,h2⟩
 k_with "d9" => exact ksk_news (news:=news) (fun p hp=>N2 p (List.mem_append_right _ (.tail _ (.tail _ hp)))) s1 hnS p hq
 k_with "ea" => have han:a < n:=by (exact zal [_,_] 1 qB qA [(1,zu qB,qA)] rfl (zit ‹(↑a:Int) < (↑n:Int)›))
 k_with "eb" => have hT:s.TypeIs (.ref S) "set" := ⟨_,ho,rfl⟩
 k_with "ec" => refine wpAny_bind (wpAny_isInstance (T := "StopIteration") (b:=true) ⟨o,ho,hc⟩ isSubtype_stop ?_)
 k_with "ed" => (with_reducible rename (List.map aR places)[_]? = some _=>hz0)
 k_with "ee" => rw [List.getElem_map,List.getElem_range,List.getD_eq_getElem?_getD,List.getElem?_eq_getElem hi];rfl
 k_with "ef" => (try clear S);intro St W hlive hI hLI hoff hst F N
 k_with "eg" => have hDC:s₂.heap.objs.size≠H2.objs.size:=by rw [hC];exact Nat.ne_of_lt (Nat.lt_succ_self _)
 k_with "eh" => refine wpAny_call_entry PySem.F.slot_set_add hT PySem.F.entry_set_add ?_ (PySem.F.args_set_add_2 _ _)
 k_with "ei" => have hlen:vs.toArray.size=vs.length:=by simp
 k_with "ej" => rcases List.mem_cons.mp hb with rfl | hb
 k_with "ek" => rw [List.getElem?_eq_none (by (exact zae [_,_] 1 qB qA [(1,qB,qA)] rfl (zge hi)):vs.length≤i)]
 k_with "el" => rw [List.getElem?_eq_none (by (exact zae [_,_] 1 qB qA [(1,qB,qA)] rfl (zne hu)):us.length≤i)]
 k_with "em" => unfold SeqAt.shaped;rw [la.1,Bool.true_and];exact decide_eq_true (Nat.le_trans la.2 (by decide))
 k_with "en" => unfold SeqAt.shaped;rw [lb.1,Bool.true_and];exact decide_eq_true (Nat.le_trans lb.2 (by decide))
 k_with "eo" => simp only [fU,List.mem_cons,List.not_mem_nil,or_false] at h
 k_with "ep" => have hpp : 0 < n→((n:Int) - 1).fdiv (2 ^ Int.toNat 1)=(((n - 1) / 2:Nat):Int):=Dg
 k_with "eq" => refine' nO (by assumption) (by assumption) off5 trivial ?_
 k_with "er" => have Nn:News h₀ L h news:=fun p hp=>N p (List.mem_append_right _ (.tail _ (.tail _ hp)))
 k_with "es" => exact .tail _ (.tail _ (.tail _ (hp)))
 k_with "et" => have h4:wt [a]=a.length+1:=by simp [wt]
 k_with "eu" => have hlt:ax < s₁.heap.objs.size:=Heap.lt_size (N _ hm).1
 k_with "ev" => refine wpAny_bind (wpAny_setState_of (s:={ s with toks:=s.toks+1 }) ho rfl (by rfl) ?_)
 k_with "ew" => show wpAny _ A.in1 (tryCatch (pyNext (.ref I)) _ >>= _) _ _ _
 k_with "ex" => refine wpAny_bind (wpAny_holding ?_)
 k_with "ey" => exact ⟨rfl,vC hY (Ae rfl (by assumption))⟩
 k_with "ez" => have F₂:=aK (aK F₁ (x:=Str.ofString "sep") hsep) (x:=Str.ofString "path") hp
 k_with "e0" => rw [hpp (by exact zal [_,_] 1 (zn 0) qA [(1,zu qB,qA)] rfl han),Int.toNat_natCast] at hd9
 k_with "e1" => have hC₀:h₀.get? H2.objs.size=none:=fresh₀ _ (by rw [hC];exact Nat.le_succ _)
 k_with "e2" => unfold bD;rw [List.range_succ,List.foldl_append];rfl
 k_with "e3" => refine aE (List.mem_map.mp hq) ?_
 k_with "e4" => refine wpAny_assign_Name (wpAny_storeName_local hy F'.ns (fun h₂ hn₂ hs₂ => ?_) hp)
 k_with "e5" => simp only [Dat.tuple.injEq,List.cons.injEq,Dat.int.injEq,Dat.str.injEq,and_true] at h
 k_with "e6" => rcases h with rfl | rfl | rfl | rfl | rfl | rfl | rfl | rfl
 k_with "e7" => show wpAny _ A.in1 (updateSeq S (fun _ => #[]) >>= _) _ _ _
 k_with "e8" => have e2:(Str.ofString "/").cps.toList=[47]:=by decide
 k_with "e9" => have F4:=aK (aK F3 (x:=Str.ofString "tree") hm2) (x:=Str.ofString "names") hm3
 k_with "fa" => refine wpAny_bind (wpAny_specialOf (hM true) PySem.F.slot_bool_hash.lookup ?_)
 k_with "fb" => refine aE (List.mem_map.mp h) ?_
 k_with "fc" => show wpAny _ _ (forIn (#[Value.ref I]:Array Value) (#[]:Array Value) _ >>= _) _ _ _
 k_with "fd" => rw [List.mem_singleton.mp hb];exact Nat.lt_succ_of_lt hlt
 k_with "fe" => exact .tail _ (.tail _ (.tail _ (.tail _ (.tail _ (hp)))))
 k_with "ff" => have N2:=lg (lg N1 (hsub _ (.tail _ (.head _)))) (.tail _ (hsub _ (.head _)))
 k_with "fg" => have hkn:k < n:=by (exact zal [_,_,_] 1 qB qA [(1,zp qB (zu qC),qA)] rfl (zle hk))
 k_with "fh" => simp only [List.nil_append] at N₁ ho hoff
 k_with "fi" => rw [List.take_add_one,hl,List.map_append]
 k_with "fj" => refine wpAny_bind (wpAny_holding (wpAny_truthy_bool ?_))
 k_with "fk" => rw [List.length_dropLast];(exact zae [_,_] 1 qB (zu qA) [(1,qB,qA)] rfl (zs1 _ _))
 k_with "fl" => refine wpAny_bind (wpAny_isInstance (T := "list") (b:=true) hT' sub_list_self ?_)
 k_with "fm" => have hC:H2.objs.size=s₂.heap.objs.size+1:=by rw [← hH2,Heap.size_push]
 k_with "fn" => refine wpAny_bind (wpAny_rule ?_)
 k_with "fo" => refine wpAny_bind (wpAny_newObj_type ?_)
 k_with "fp" => exact .tail _ (.tail _ (.tail _ (.tail _ (.head _))))
 k_with "fq" => have ev':vs[i]? = some (.str x t):=by rw [List.getElem?_eq_getElem hlt,ev]
 k_with "fr" => have eu':us[i]? = some (.str y t2):=by rw [List.getElem?_eq_getElem hu,eu]
 k_with "fs" => have hl:s.heap.IsList l #[.ref a,.ref b]:=⟨_,(N _ hm).1,rfl,_,rfl⟩
 k_with "ft" => have h0 : 0≤(x.fdiv 512).fmod 55000:=Int.fmod_nonneg_of_pos _ (by decide)
 k_with "fu" => have W:=Walks.list (prog:=prog) (w:=w) (A:=A.in1) hh I l hlI vs.toArray
 k_with "fv" => have nS:=N (S,seqObj "list" #[vb,kb] c) (List.mem_append_right _ (.head _))
 k_with "fw" => have hD₀:h₀.get? s₂.heap.objs.size=none:=fresh₀ _ (Nat.le_refl _)
 k_with "fx" => exact turn i v m₁  tl it h tk hi hP hK   (fun p hp=>hoff p (hp)) F₁ N₁
 k_with "fy" => exact ret _ _ _ _ (by assumption) (by assumption) D2
 k_with "fz" => rw [List.getElem?_map,Int.toNat_natCast,hq] at hz0
 k_with "f0" => refine wpAny_bind (wpAny_setField_rec hz (by simp) fun h₁ hz₁ hs₁ => ?_)
 k_with "f1" => simp only [List.zipIdx_cons,List.zipIdx_nil,List.forIn_cons,List.forIn_nil]
 k_with "f2" => have e1:(Str.ofString "/").length=1:=by decide
 k_with "f3" => have q:PyData.eqv (kqdP d) (kqdP e)=true:=(kqd_eqv 8 d e 8 ha hb).mpr he
 k_with "f4" => rw [List.getElem?_set] at ha hb
 k_with "f5" => have hv:ws[k.toNat]? = some (ws[k.toNat]'hk):=List.getElem?_eq_getElem hk
 k_with "f6" => refine wpAny_bind (wpAny_tryCatch (wpAny_holding (wpAny_bind (hcmp _ _ ?_))))
 k_with "f7" => show wpAny _ A.in1 (tryCatch (holding [v] (call (.ref q) [v])) _ >>= _) _ _ _
 k_with "f8" => have hl:x.length=u.length+(v.length+1):=by rw [← dM,h];simp
 k_with "f9" => show wpAny _ A.in1 (seqItems? (.ref S) >>= _) _ _ _
 k_with "ga" => exact hr _ fun b o hb e=>(Heap.get?_update_other _ _ (Ne.symm hb)).trans e
 k_with "gb" => rcases List.mem_cons.mp h with rfl | h
 k_with "gc" => rw [if_neg Bool.false_ne_true]
 k_with "gd" => refine wpAny_mono (done s₁ c hJ hS E') (fun r s' hr => ?_) fun _ _ e=>e
 k_with "ge" => rw [List.take_add_one,hc,List.foldl_append];rfl
 k_with "gf" => rw [Around.under_plainId PySem.F.plain_max_loop _]
 k_with "gg" => (with_reducible rename places[_]? = some _=>hz1)
 k_with "gh" => refine wpAny_bind (wpAny_of_eq (a:=()) (by first | rfl | kernel_rfl) ?_)
 k_with "gi" => rw [Around.under_plainId iv _]
 k_with "gj" => show R (.ok (.ret (.bool (decide (vs.toArray.size < us.toArray.size))))) s
 k_with "gk" => show R (.ok (.ret (.bool (decide (vs.toArray.size > us.toArray.size))))) s
 k_with "gl" => have hSI:S≠s.heap.objs.size:=by rw [hSz];exact Nat.succ_ne_self _
 k_with "gm" => refine wpAny_bind (wpAny_bind (wpAny_onRaise ?_))
 k_with "gn" => have hL₀:h₀.get? env.locals=none:=Heap.get?_none_of_le F'.above
 k_with "go" => show wpAny _ _ (Builtin.SmallTypes.ownedTupleIsFree (.ref z) >>= _) _ _ _
 k_with "gp" => show wpAny _ _ (isInstance (.ref b) (.type "list") >>= fun _=>_) _ _ _
 k_with "gq" => refine codeAny_builtin PySem.F.entry_max_loop ?_
 k_with "gs" => refine' LCt.CompSrcT.ledger rfl (by k_asm) (by k_asm) (by k_mem) ?hsz ?_
 k_with "gt" => refine aE (List.mem_map.mp hb) ?_
 k_with "gu" => refine aE (List.mem_map.mp hx) ?_
 k_with "gv" => have hYD5 : @Ne Nat lY D5:=by k_ne
 k_with "gw" => refine wpAny_bind (wpAny_field hz rfl (x := .none) rfl (wpAny_pure ?_))
 k_with "gx" => (with_reducible rename ∀ p:Addr × Obj,p∈_→p.1 < _=>hl9)
 k_with "gy" => have h1:=Int.fmod_nonneg_of_pos (script.sum+1) (b:=4) (by decide)
 k_with "gz" => refine gW lF' N11 hYI hYC hYD5 off5 ?S5 ?_
 k_with "g0" => refine codeAny_builtin xL ?_
 k_with "g1" => have hYI : @Ne Nat lY I5:=by k_ne
 k_with "g2" => have hYC : @Ne Nat lY C5:=by k_ne
 k_with "g3" => refine wpAny_bind (wpAny_letGo ?_)
 k_with "g4" => have hlf:=htr.1 l (List.mem_of_getElem? hl)
 k_with "g5" => refine aE (DatAll.at hD hv) ?_
 k_with "g6" => (try clear hr);rintro rfl hS' hr
 k_with "g7" => refine wpAny_updateSeq hS' rfl ?_
 k_with "g" => first | k_extra "gr" | lia | omega
 k_with "l" => first | lia | omega
 k_with "dv" => first | exact default | exact {} | exact aW | exact Dat.none | exact ⟨[],[]⟩
 k_with "pj" => first | assumption | exact pj1 (by assumption) | exact pj2 (by assumption) | exact pj3 (by assumption) | exact pj4 (by assumption) | exact pj5 (by assumption) | exact pj6 (by assumption) | exact pj7 (by assumption) | exact pj8 (by assumption) | exact pj9 (by assumption) | exact Dl (by assumption) | exact Dk (by assumption) | exact Dj (by assumption) | exact Di (by assumption) | exact Dh (by assumption)
 k_with "ne" => with_reducible first | exact Nat.ne_of_lt (by k_extra "pj") | exact Nat.ne_of_gt (by k_extra "pj") | k_extra "pj" | exact Ne.symm (by k_extra "pj")
 k_with "gr" => (simp only [Nat.reduceAdd,Nat.reduceMul,Nat.reduceLT,Nat.reduceLeDiff];done)
 k_with "un" => first | k_extra "us" | k_extra "gr"
 trivial
section
section
variable {α β γ δ ε ζ η θ κ μ:Sort _} {g:Prop}
theorem bV {p q:Prop} (h:p∧q) (f:p→q→g):g:=f h.1 h.2
theorem bA {p : α→Prop} (h:∃ x,p x) (f:∀ x,p x→g):g:=h.elim f
theorem cA {p q r:Prop} (h:p∧q∧r) (f:p→q→r→g):g:=f h.1 h.2.1 h.2.2
theorem aE {p q : α→Prop} (h:∃ x,p x∧q x) (f:∀ x,p x→q x→g):g:=h.elim fun x h=>bV h (f x)
theorem pD {p : α → β→Prop} (h:∃ x y,p x y) (f:∀ x y,p x y→g):g:=h.elim fun x h=>bA h (f x)
theorem mf {p q r s:Prop} (h:p∧q∧r∧s) (f:p→q→r→s→g):g:=f h.1 h.2.1 h.2.2.1 h.2.2.2
theorem cH {p q r : α→Prop} (h:∃ x,p x∧q x∧r x) (f:∀ x,p x→q x→r x→g):g:=h.elim fun x h=>cA h (f x)
theorem aV {p q : α → β→Prop} (h:∃ x y,p x y∧q x y) (f:∀ x y,p x y→q x y→g):g:=h.elim fun x h=>aE h (f x)
theorem iB {p q r s t:Prop} (h:p∧q∧r∧s∧t) (f:p→q→r→s→t→g):g:=f h.1 h.2.1 h.2.2.1 h.2.2.2.1 h.2.2.2.2
theorem pE {p q r s : α→Prop} (h:∃ x,p x∧q x∧r x∧s x) (f:∀ x,p x→q x→r x→s x→g):g:=h.elim fun x h=>mf h (f x)
theorem cJ {p q r : α → β→Prop} (h:∃ x y,p x y∧q x y∧r x y) (f:∀ x y,p x y→q x y→r x y→g):g:=h.elim fun x h=>cH h (f x)
theorem zO {p q : α → β → γ→Prop} (h:∃ x y z,p x y z∧q x y z) (f:∀ x y z,p x y z→q x y z→g):g:=h.elim fun x h=>aV h (f x)
theorem jA {p q r s t u:Prop} (h:p∧q∧r∧s∧t∧u) (f:p→q→r→s→t→u→g):g:=f h.1 h.2.1 h.2.2.1 h.2.2.2.1 h.2.2.2.2.1 h.2.2.2.2.2
theorem zQ {p q r s t : α→Prop} (h:∃ x,p x∧q x∧r x∧s x∧t x) (f:∀ x,p x→q x→r x→s x→t x→g):g:=h.elim fun x h=>iB h (f x)
theorem rQ {p q r s : α → β→Prop} (h:∃ x y,p x y∧q x y∧r x y∧s x y) (f:∀ x y,p x y→q x y→r x y→s x y→g):g:=h.elim fun x h=>pE h (f x)
theorem dD {p q r : α → β → γ→Prop} (h:∃ x y z,p x y z∧q x y z∧r x y z) (f:∀ x y z,p x y z→q x y z→r x y z→g):g:=h.elim fun x h=>cJ h (f x)
theorem rP {p q : α → β → γ → δ→Prop} (h:∃ x y z x1,p x y z x1∧q x y z x1) (f:∀ x y z x1,p x y z x1→q x y z x1→g):g:=h.elim fun x h=>zO h (f x)
theorem iA {p q r s t u v:Prop} (h:p∧q∧r∧s∧t∧u∧v) (f:p→q→r→s→t→u→v→g):g:=f h.1 h.2.1 h.2.2.1 h.2.2.2.1 h.2.2.2.2.1 h.2.2.2.2.2.1 h.2.2.2.2.2.2
theorem C0 {p q r s t u : α→Prop} (h:∃ x,p x∧q x∧r x∧s x∧t x∧u x) (f:∀ x,p x→q x→r x→s x→t x→u x→g):g:=h.elim fun x h=>jA h (f x)
theorem CX {p q r s t : α → β→Prop} (h:∃ x y,p x y∧q x y∧r x y∧s x y∧t x y) (f:∀ x y,p x y→q x y→r x y→s x y→t x y→g):g:=h.elim fun x h=>zQ h (f x)
theorem jz {p q r s : α → β → γ→Prop} (h:∃ x y z,p x y z∧q x y z∧r x y z∧s x y z) (f:∀ x y z,p x y z→q x y z→r x y z→s x y z→g):g:=h.elim fun x h=>rQ h (f x)
theorem CP {p q r : α → β → γ → δ→Prop} (h:∃ x y z x1,p x y z x1∧q x y z x1∧r x y z x1) (f:∀ x y z x1,p x y z x1→q x y z x1→r x y z x1→g):g:=h.elim fun x h=>dD h (f x)
theorem rO {p q : α → β → γ → δ → ε→Prop} (h:∃ x y z x1 y1,p x y z x1 y1∧q x y z x1 y1) (f:∀ x y z x1 y1,p x y z x1 y1→q x y z x1 y1→g):g:=h.elim fun x h=>rP h (f x)
theorem pF {p q r s t u v a:Prop} (h:p∧q∧r∧s∧t∧u∧v∧a) (f:p→q→r→s→t→u→v→a→g):g:=f h.1 h.2.1 h.2.2.1 h.2.2.2.1 h.2.2.2.2.1 h.2.2.2.2.2.1 h.2.2.2.2.2.2.1 h.2.2.2.2.2.2.2
theorem CZ {p q r s t u v : α→Prop} (h:∃ x,p x∧q x∧r x∧s x∧t x∧u x∧v x) (f:∀ x,p x→q x→r x→s x→t x→u x→v x→g):g:=h.elim fun x h=>iA h (f x)
theorem zP {p q r s t u : α → β→Prop} (h:∃ x y,p x y∧q x y∧r x y∧s x y∧t x y∧u x y) (f:∀ x y,p x y→q x y→r x y→s x y→t x y→u x y→g):g:=h.elim fun x h=>C0 h (f x)
theorem jy {p q r s t : α → β → γ→Prop} (h:∃ x y z,p x y z∧q x y z∧r x y z∧s x y z∧t x y z) (f:∀ x y z,p x y z→q x y z→r x y z→s x y z→t x y z→g):g:=h.elim fun x h=>CX h (f x)
theorem pC {p q r s : α → β → γ → δ→Prop} (h:∃ x y z x1,p x y z x1∧q x y z x1∧r x y z x1∧s x y z x1) (f:∀ x y z x1,p x y z x1→q x y z x1→r x y z x1→s x y z x1→g):g:=h.elim fun x h=>jz h (f x)
theorem C1 {p q r s t u v a b:Prop} (h:p∧q∧r∧s∧t∧u∧v∧a∧b) (f:p→q→r→s→t→u→v→a→b→g):g:=f h.1 h.2.1 h.2.2.1 h.2.2.2.1 h.2.2.2.2.1 h.2.2.2.2.2.1 h.2.2.2.2.2.2.1 h.2.2.2.2.2.2.2.1 h.2.2.2.2.2.2.2.2
theorem me {p q r s t u v a : α→Prop} (h:∃ x,p x∧q x∧r x∧s x∧t x∧u x∧v x∧a x) (f:∀ x,p x→q x→r x→s x→t x→u x→v x→a x→g):g:=h.elim fun x h=>pF h (f x)
theorem CW {p q r s t u v : α → β→Prop} (h:∃ x y,p x y∧q x y∧r x y∧s x y∧t x y∧u x y∧v x y) (f:∀ x y,p x y→q x y→r x y→s x y→t x y→u x y→v x y→g):g:=h.elim fun x h=>CZ h (f x)
theorem CT {p q r s t u : α → β → γ→Prop} (h:∃ x y z,p x y z∧q x y z∧r x y z∧s x y z∧t x y z∧u x y z) (f:∀ x y z,p x y z→q x y z→r x y z→s x y z→t x y z→u x y z→g):g:=h.elim fun x h=>zP h (f x)
theorem wd {p q r s t : α → β → γ → δ→Prop} (h:∃ x y z x1,p x y z x1∧q x y z x1∧r x y z x1∧s x y z x1∧t x y z x1) (f:∀ x y z x1,p x y z x1→q x y z x1→r x y z x1→s x y z x1→t x y z x1→g):g:=h.elim fun x h=>jy h (f x)
theorem iz {p q r s : α → β → γ → δ → ε→Prop} (h:∃ x y z x1 y1,p x y z x1 y1∧q x y z x1 y1∧r x y z x1 y1∧s x y z x1 y1) (f:∀ x y z x1 y1,p x y z x1 y1→q x y z x1 y1→r x y z x1 y1→s x y z x1 y1→g):g:=h.elim fun x h=>pC h (f x)
theorem tL {p q r s t u v a b c:Prop} (h:p∧q∧r∧s∧t∧u∧v∧a∧b∧c) (f:p→q→r→s→t→u→v→a→b→c→g):g:=f h.1 h.2.1 h.2.2.1 h.2.2.2.1 h.2.2.2.2.1 h.2.2.2.2.2.1 h.2.2.2.2.2.2.1 h.2.2.2.2.2.2.2.1 h.2.2.2.2.2.2.2.2.1 h.2.2.2.2.2.2.2.2.2
theorem CY {p q r s t u v a b : α→Prop} (h:∃ x,p x∧q x∧r x∧s x∧t x∧u x∧v x∧a x∧b x) (f:∀ x,p x→q x→r x→s x→t x→u x→v x→a x→b x→g):g:=h.elim fun x h=>C1 h (f x)
theorem CV {p q r s t u v a : α → β→Prop} (h:∃ x y,p x y∧q x y∧r x y∧s x y∧t x y∧u x y∧v x y∧a x y) (f:∀ x y,p x y→q x y→r x y→s x y→t x y→u x y→v x y→a x y→g):g:=h.elim fun x h=>me h (f x)
theorem CS {p q r s t u v : α → β → γ→Prop} (h:∃ x y z,p x y z∧q x y z∧r x y z∧s x y z∧t x y z∧u x y z∧v x y z) (f:∀ x y z,p x y z→q x y z→r x y z→s x y z→t x y z→u x y z→v x y z→g):g:=h.elim fun x h=>CW h (f x)
theorem wc {p q r s t : α → β → γ → δ → ε→Prop} (h:∃ x y z x1 y1,p x y z x1 y1∧q x y z x1 y1∧r x y z x1 y1∧s x y z x1 y1∧t x y z x1 y1) (f:∀ x y z x1 y1,p x y z x1 y1→q x y z x1 y1→r x y z x1 y1→s x y z x1 y1→t x y z x1 y1→g):g:=h.elim fun x h=>wd h (f x)
theorem CK {p q r s : α → β → γ → δ → ε → ζ→Prop} (h:∃ x y z x1 y1 z1,p x y z x1 y1 z1∧q x y z x1 y1 z1∧r x y z x1 y1 z1∧s x y z x1 y1 z1) (f:∀ x y z x1 y1 z1,p x y z x1 y1 z1→q x y z x1 y1 z1→r x y z x1 y1 z1→s x y z x1 y1 z1→g):g:=h.elim fun x h=>iz h (f x)
theorem Cq {p q r s t u v a b c d:Prop} (h:p∧q∧r∧s∧t∧u∧v∧a∧b∧c∧d) (f:p→q→r→s→t→u→v→a→b→c→d→g):g:=f h.1 h.2.1 h.2.2.1 h.2.2.2.1 h.2.2.2.2.1 h.2.2.2.2.2.1 h.2.2.2.2.2.2.1 h.2.2.2.2.2.2.2.1 h.2.2.2.2.2.2.2.2.1 h.2.2.2.2.2.2.2.2.2.1 h.2.2.2.2.2.2.2.2.2.2
theorem Cp {p q r s t u v a b c : α→Prop} (h:∃ x,p x∧q x∧r x∧s x∧t x∧u x∧v x∧a x∧b x∧c x) (f:∀ x,p x→q x→r x→s x→t x→u x→v x→a x→b x→c x→g):g:=h.elim fun x h=>tL h (f x)
theorem CU {p q r s t u v a b : α → β→Prop} (h:∃ x y,p x y∧q x y∧r x y∧s x y∧t x y∧u x y∧v x y∧a x y∧b x y) (f:∀ x y,p x y→q x y→r x y→s x y→t x y→u x y→v x y→a x y→b x y→g):g:=h.elim fun x h=>CY h (f x)
theorem CR {p q r s t u v a : α → β → γ→Prop} (h:∃ x y z,p x y z∧q x y z∧r x y z∧s x y z∧t x y z∧u x y z∧v x y z∧a x y z) (f:∀ x y z,p x y z→q x y z→r x y z→s x y z→t x y z→u x y z→v x y z→a x y z→g):g:=h.elim fun x h=>CV h (f x)
theorem CO {p q r s t u v : α → β → γ → δ→Prop} (h:∃ x y z x1,p x y z x1∧q x y z x1∧r x y z x1∧s x y z x1∧t x y z x1∧u x y z x1∧v x y z x1) (f:∀ x y z x1,p x y z x1→q x y z x1→r x y z x1→s x y z x1→t x y z x1→u x y z x1→v x y z x1→g):g:=h.elim fun x h=>CS h (f x)
theorem Co {p q r s t u v a b c d : α→Prop} (h:∃ x,p x∧q x∧r x∧s x∧t x∧u x∧v x∧a x∧b x∧c x∧d x) (f:∀ x,p x→q x→r x→s x→t x→u x→v x→a x→b x→c x→d x→g):g:=h.elim fun x h=>Cq h (f x)
theorem Cn {p q r s t u v a b c : α → β→Prop} (h:∃ x y,p x y∧q x y∧r x y∧s x y∧t x y∧u x y∧v x y∧a x y∧b x y∧c x y) (f:∀ x y,p x y→q x y→r x y→s x y→t x y→u x y→v x y→a x y→b x y→c x y→g):g:=h.elim fun x h=>Cp h (f x)
theorem CQ {p q r s t u v a b : α → β → γ→Prop} (h:∃ x y z,p x y z∧q x y z∧r x y z∧s x y z∧t x y z∧u x y z∧v x y z∧a x y z∧b x y z) (f:∀ x y z,p x y z→q x y z→r x y z→s x y z→t x y z→u x y z→v x y z→a x y z→b x y z→g):g:=h.elim fun x h=>CU h (f x)
theorem CN {p q r s t u v a : α → β → γ → δ→Prop} (h:∃ x y z x1,p x y z x1∧q x y z x1∧r x y z x1∧s x y z x1∧t x y z x1∧u x y z x1∧v x y z x1∧a x y z x1) (f:∀ x y z x1,p x y z x1→q x y z x1→r x y z x1→s x y z x1→t x y z x1→u x y z x1→v x y z x1→a x y z x1→g):g:=h.elim fun x h=>CR h (f x)
theorem Cm {p q r s t u v a b c d : α → β→Prop} (h:∃ x y,p x y∧q x y∧r x y∧s x y∧t x y∧u x y∧v x y∧a x y∧b x y∧c x y∧d x y) (f:∀ x y,p x y→q x y→r x y→s x y→t x y→u x y→v x y→a x y→b x y→c x y→d x y→g):g:=h.elim fun x h=>Co h (f x)
theorem Cl {p q r s t u v a b c : α → β → γ→Prop} (h:∃ x y z,p x y z∧q x y z∧r x y z∧s x y z∧t x y z∧u x y z∧v x y z∧a x y z∧b x y z∧c x y z) (f:∀ x y z,p x y z→q x y z→r x y z→s x y z→t x y z→u x y z→v x y z→a x y z→b x y z→c x y z→g):g:=h.elim fun x h=>Cn h (f x)
theorem CM {p q r s t u v a b : α → β → γ → δ→Prop} (h:∃ x y z x1,p x y z x1∧q x y z x1∧r x y z x1∧s x y z x1∧t x y z x1∧u x y z x1∧v x y z x1∧a x y z x1∧b x y z x1) (f:∀ x y z x1,p x y z x1→q x y z x1→r x y z x1→s x y z x1→t x y z x1→u x y z x1→v x y z x1→a x y z x1→b x y z x1→g):g:=h.elim fun x h=>CQ h (f x)
theorem Ck {p q r s t u v a b c d : α → β → γ→Prop} (h:∃ x y z,p x y z∧q x y z∧r x y z∧s x y z∧t x y z∧u x y z∧v x y z∧a x y z∧b x y z∧c x y z∧d x y z) (f:∀ x y z,p x y z→q x y z→r x y z→s x y z→t x y z→u x y z→v x y z→a x y z→b x y z→c x y z→d x y z→g):g:=h.elim fun x h=>Cm h (f x)
theorem Cj {p q r s t u v a b c : α → β → γ → δ→Prop} (h:∃ x y z x1,p x y z x1∧q x y z x1∧r x y z x1∧s x y z x1∧t x y z x1∧u x y z x1∧v x y z x1∧a x y z x1∧b x y z x1∧c x y z x1) (f:∀ x y z x1,p x y z x1→q x y z x1→r x y z x1→s x y z x1→t x y z x1→u x y z x1→v x y z x1→a x y z x1→b x y z x1→c x y z x1→g):g:=h.elim fun x h=>Cl h (f x)
theorem CL {p q r s t u v a b : α → β → γ → δ → ε→Prop} (h:∃ x y z x1 y1,p x y z x1 y1∧q x y z x1 y1∧r x y z x1 y1∧s x y z x1 y1∧t x y z x1 y1∧u x y z x1 y1∧v x y z x1 y1∧a x y z x1 y1∧b x y z x1 y1) (f:∀ x y z x1 y1,p x y z x1 y1→q x y z x1 y1→r x y z x1 y1→s x y z x1 y1→t x y z x1 y1→u x y z x1 y1→v x y z x1 y1→a x y z x1 y1→b x y z x1 y1→g):g:=h.elim fun x h=>CM h (f x)
theorem Ci {p q r s t u v a b c d : α → β → γ → δ→Prop} (h:∃ x y z x1,p x y z x1∧q x y z x1∧r x y z x1∧s x y z x1∧t x y z x1∧u x y z x1∧v x y z x1∧a x y z x1∧b x y z x1∧c x y z x1∧d x y z x1) (f:∀ x y z x1,p x y z x1→q x y z x1→r x y z x1→s x y z x1→t x y z x1→u x y z x1→v x y z x1→a x y z x1→b x y z x1→c x y z x1→d x y z x1→g):g:=h.elim fun x h=>Ck h (f x)
theorem Cg {p q r s t u v a b c : α → β → γ → δ → ε→Prop} (h:∃ x y z x1 y1,p x y z x1 y1∧q x y z x1 y1∧r x y z x1 y1∧s x y z x1 y1∧t x y z x1 y1∧u x y z x1 y1∧v x y z x1 y1∧a x y z x1 y1∧b x y z x1 y1∧c x y z x1 y1) (f:∀ x y z x1 y1,p x y z x1 y1→q x y z x1 y1→r x y z x1 y1→s x y z x1 y1→t x y z x1 y1→u x y z x1 y1→v x y z x1 y1→a x y z x1 y1→b x y z x1 y1→c x y z x1 y1→g):g:=h.elim fun x h=>Cj h (f x)
theorem Cf {p q r s t u v a b c d : α → β → γ → δ → ε→Prop} (h:∃ x y z x1 y1,p x y z x1 y1∧q x y z x1 y1∧r x y z x1 y1∧s x y z x1 y1∧t x y z x1 y1∧u x y z x1 y1∧v x y z x1 y1∧a x y z x1 y1∧b x y z x1 y1∧c x y z x1 y1∧d x y z x1 y1) (f:∀ x y z x1 y1,p x y z x1 y1→q x y z x1 y1→r x y z x1 y1→s x y z x1 y1→t x y z x1 y1→u x y z x1 y1→v x y z x1 y1→a x y z x1 y1→b x y z x1 y1→c x y z x1 y1→d x y z x1 y1→g):g:=h.elim fun x h=>Ci h (f x)
theorem Ce {p q r s t u v a b c : α → β → γ → δ → ε → ζ→Prop} (h:∃ x y z x1 y1 z1,p x y z x1 y1 z1∧q x y z x1 y1 z1∧r x y z x1 y1 z1∧s x y z x1 y1 z1∧t x y z x1 y1 z1∧u x y z x1 y1 z1∧v x y z x1 y1 z1∧a x y z x1 y1 z1∧b x y z x1 y1 z1∧c x y z x1 y1 z1) (f:∀ x y z x1 y1 z1,p x y z x1 y1 z1→q x y z x1 y1 z1→r x y z x1 y1 z1→s x y z x1 y1 z1→t x y z x1 y1 z1→u x y z x1 y1 z1→v x y z x1 y1 z1→a x y z x1 y1 z1→b x y z x1 y1 z1→c x y z x1 y1 z1→g):g:=h.elim fun x h=>Cg h (f x)
theorem Cd {p q r s t u v a b c d : α → β → γ → δ → ε → ζ→Prop} (h:∃ x y z x1 y1 z1,p x y z x1 y1 z1∧q x y z x1 y1 z1∧r x y z x1 y1 z1∧s x y z x1 y1 z1∧t x y z x1 y1 z1∧u x y z x1 y1 z1∧v x y z x1 y1 z1∧a x y z x1 y1 z1∧b x y z x1 y1 z1∧c x y z x1 y1 z1∧d x y z x1 y1 z1) (f:∀ x y z x1 y1 z1,p x y z x1 y1 z1→q x y z x1 y1 z1→r x y z x1 y1 z1→s x y z x1 y1 z1→t x y z x1 y1 z1→u x y z x1 y1 z1→v x y z x1 y1 z1→a x y z x1 y1 z1→b x y z x1 y1 z1→c x y z x1 y1 z1→d x y z x1 y1 z1→g):g:=h.elim fun x h=>Cf h (f x)
end
end
section
noncomputable def Cu (cold:List (Addr × Obj)) (v:Value):Dat→Prop
 | .int i => ∃ t,v = .int i t
 | .str x => ∃ t,v = .str x t
 | .tuple ds => ∃ a vs n,v = .ref a∧(a,({ cls := .type "tuple",data := .seq vs.toArray n }:Obj))∈cold∧DatAll cold vs ds
 | _=>True
theorem iD {cold:List (Addr × Obj)} {v:Value} {d:Dat} (h:DatIn cold v d):Cu cold v d :=
 DatIn.casesOn (motive_1:=fun v d _=>Cu cold v d) h trivial (fun _=>trivial) (fun _ t=>⟨t,rfl⟩) (fun _ t=>⟨t,rfl⟩) (fun _ _=>trivial) (fun hm r=>⟨_,_,_,rfl,hm,r⟩) (fun _ _=>trivial)
noncomputable def zT (cold:List (Addr × Obj)) (vs:List Value):List Dat→Prop
 | []=>vs=[]
 | d::ds => ∃ v r,vs=v::r∧DatIn cold v d∧DatAll cold r ds
theorem cD {cold:List (Addr × Obj)} {vs:List Value} {ds:List Dat} (h:DatAll cold vs ds):zT cold vs ds :=
 DatAll.casesOn (motive_2:=fun vs ds _=>zT cold vs ds) h rfl (fun h r=>⟨_,_,rfl,h,r⟩)
theorem gZ {news:List (Addr × Obj)} {P:List Value→List Dat→Prop} (h0:P [] []) (h1:∀ v d vs ds,DatIn news v d→DatAll news vs ds→P vs ds→P (v::vs) (d::ds)):∀ {ds:List Dat} {vs:List Value},DatAll news vs ds→P vs ds
 | [],vs,h=>(show vs=[] from cD h) ▸ h0
 | _::_,_,h=>cJ (cD h) fun v r e h2 r2=>e ▸ h1 v _ r _ h2 r2 (gZ h0 h1 r2)
theorem wf {cold:List (Addr × Obj)} {v:Value} {x y:Dat} (h:DatIn cold v (.tuple [x,y])):∃ a v1 v2 k,v = .ref a∧(a,({ cls := .type "tuple",data := .seq #[v1,v2] k }:Obj))∈cold∧DatIn cold v1 x∧DatIn cold v2 y :=
 dD (iD h) fun a _ n e hm r=>cJ (cD r) fun v1 _ e1 h1 r1=>cJ (cD r1) fun v2 _ e2 h2 r2 =>
 ⟨a,v1,v2,n,e,(e1.trans (congrArg _ (e2.trans (congrArg _ (cD r2))))) ▸ hm,h1,h2⟩
theorem vi {cold:List (Addr × Obj)} {v:Value} {x y z:Dat} (h:DatIn cold v (.tuple [x,y,z])):∃ a v1 v2 v3 k,v = .ref a∧(a,({ cls := .type "tuple",data := .seq #[v1,v2,v3] k }:Obj))∈cold∧DatIn cold v1 x∧DatIn cold v2 y∧DatIn cold v3 z :=
 dD (iD h) fun a _ n e hm r=>cJ (cD r) fun v1 _ e1 h1 r1=>cJ (cD r1) fun v2 _ e2 h2 r2=>cJ (cD r2) fun v3 _ e3 h3 r3 =>
 ⟨a,v1,v2,v3,n,e,(e1.trans (congrArg _ (e2.trans (congrArg _ (e3.trans (congrArg _ (cD r3))))))) ▸ hm,h1,h2,h3⟩
theorem fI {cold:List (Addr × Obj)} {v:Value} {i:Int} (h:DatIn cold v (.int i)):∃ t,v = .int i t:=iD h
theorem iC {cold:List (Addr × Obj)} {v:Value} {i:Str} (h:DatIn cold v (.str i)):∃ t,v = .str i t:=iD h
theorem md {cold:List (Addr × Obj)} {v:Value} {x y:Dat} {o:Int} (h:DatIn cold v (.tuple [x,.int o,y])):∃ a kv t dv k,v = .ref a∧(a,({ cls := .type "tuple",data := .seq #[kv,.int o t,dv] k }:Obj))∈cold∧DatIn cold kv x∧DatIn cold dv y :=
 wc (vi h) fun a v1 _ v3 n e hm h1 h2 h3=>(fI h2).elim fun t e2=>⟨a,v1,t,v3,n,e,e2 ▸ hm,h1,h3⟩
theorem CH {cold:List (Addr × Obj)} {v:Value} {o:Int} {x:Str} (h:DatIn cold v (.tuple [.int o,.str x])):∃ a t1 t2 k,v = .ref a∧(a,({ cls := .type "tuple",data := .seq #[.int o t1,.str x t2] k }:Obj))∈cold :=
 pC (wf h) fun a _ _ n e hm h1 h2=>(fI h1).elim fun t e1=>(iC h2).elim fun u e2=>⟨a,t,u,n,e,e2 ▸ e1 ▸ hm⟩
theorem CI {cold:List (Addr × Obj)} {v:Value} {o:Int} {x:Int} (h:DatIn cold v (.tuple [.int o,.int x])):∃ a t1 t2 k,v = .ref a∧(a,({ cls := .type "tuple",data := .seq #[.int o t1,.int x t2] k }:Obj))∈cold :=
 pC (wf h) fun a _ _ n e hm h1 h2=>(fI h1).elim fun t e1=>(fI h2).elim fun u e2=>⟨a,t,u,n,e,e2 ▸ e1 ▸ hm⟩
theorem CG {cold:List (Addr × Obj)} {v:Value} {o:Str} {x:Str} (h:DatIn cold v (.tuple [.str o,.str x])):∃ a t1 t2 k,v = .ref a∧(a,({ cls := .type "tuple",data := .seq #[.str o t1,.str x t2] k }:Obj))∈cold :=
 pC (wf h) fun a _ _ n e hm h1 h2=>(iC h1).elim fun t e1=>(iC h2).elim fun u e2=>⟨a,t,u,n,e,e2 ▸ e1 ▸ hm⟩
theorem Bv {cold:List (Addr × Obj)} {v:Value} {x y:Str} {o:Int} (h:DatIn cold v (.tuple [.int o,.str x,.str y])):∃ a t1 t2 t3 k,v = .ref a∧(a,({ cls := .type "tuple",data := .seq #[.int o t1,.str x t2,.str y t3] k }:Obj))∈cold :=
 wc (vi h) fun a _ _ _ n e hm h1 h2 h3=>(fI h1).elim fun t e1=>(iC h2).elim fun u e2=>(iC h3).elim fun w e3=>⟨a,t,u,w,n,e,e3 ▸ e2 ▸ e1 ▸ hm⟩
end
section
noncomputable abbrev NE:=Nat.Internal.Linear.Expr
noncomputable def qA:NE := .var 0
noncomputable def qB:NE := .var 1
noncomputable def qC:NE := .var 2
noncomputable def qD:NE := .var 3
noncomputable def qE:NE := .var 4
noncomputable def qF:NE := .var 5
noncomputable def qG:NE := .var 6
noncomputable def qH:NE := .var 7
noncomputable def qI:NE := .var 8
noncomputable def qJ:NE := .var 9
noncomputable def zn (k:Nat):NE := .num k
noncomputable def zp (x y:NE):NE := .add x y
noncomputable def zu (x:NE):NE := .add x (.num 1)
noncomputable def zk (k:Nat) (x:NE):NE := .mulL k x
noncomputable def zr (x:NE) (k:Nat):NE := .mulR x k
noncomputable def nra (i:Nat):List Nat→Lean.RArray Nat
 | [] => .leaf 0
 | x::t => .branch (i+1) (.leaf x) (nra (i+1) t)
noncomputable def jp (f:NE × NE→NE):List (Nat × NE × NE)→NE
 | [] => .num 0
 | c::t => .add (.mulL c.1 (f c.2)) (jp f t)
noncomputable def nun (c:List (Nat × NE × NE)):Bool:=(Nat.Internal.Linear.ExprCnstr.mk false (jp (·.1) c) (jp (·.2) c)).toNormPoly.isUnsat
noncomputable def ncd (r:Lean.RArray Nat) (P:Prop):List (Nat × NE × NE)→Prop
 | []=>P
 | c::t=>c.2.1.denote r≤c.2.2.denote r→ncd r P t
theorem oQ (r:Lean.RArray Nat) (P:Prop):∀ (c:List (Nat × NE × NE)),((jp (·.1) c).denote r≤(jp (·.2) c).denote r→P)→ncd r P c
 | [],h=>h (Nat.le_refl _)
 | c::t,h=>fun hc=>oQ r P t fun ht=>h (Nat.add_le_add (Nat.mul_le_mul_left c.1 hc) ht)
theorem pZ {c:List (Nat × NE × NE)} (h:nun c=true) (r:Lean.RArray Nat) (hle:(jp (·.1) c).denote r≤(jp (·.2) c).denote r):False :=
 Eq.mp (Nat.Internal.Linear.ExprCnstr.eq_false_of_isUnsat r (Nat.Internal.Linear.ExprCnstr.mk false (jp (·.1) c) (jp (·.2) c)) h) hle
theorem zar (l:List Nat) (c:List (Nat × NE × NE)) (h:nun c=true):ncd (nra 0 l) False c :=
 oQ _ _ c (pZ h _)
theorem zal (l:List Nat) (m:Nat) (y x:NE) (c:List (Nat × NE × NE)) (h:nun ((m,x,y)::c)=true):ncd (nra 0 l) (y.denote (nra 0 l) < x.denote (nra 0 l)) c :=
 oQ _ _ c fun hc=>Nat.lt_of_not_le fun hxy=>pZ h (nra 0 l) (Nat.add_le_add (Nat.mul_le_mul_left m hxy) hc)
theorem zae (l:List Nat) (m:Nat) (y x:NE) (c:List (Nat × NE × NE)) (h:nun ((m,zu x,y)::c)=true):ncd (nra 0 l) (y.denote (nra 0 l)≤x.denote (nra 0 l)) c :=
 oQ _ _ c fun hc=>Nat.le_of_not_lt fun hxy=>pZ h (nra 0 l) (Nat.add_le_add (Nat.mul_le_mul_left m hxy) hc)
theorem zs1 (a b:Nat):a - b≤a:=Nat.sub_le a b
theorem zs2 (a b:Nat):a≤a - b+b:=Nat.le_add_of_sub_le (Nat.le_refl _)
theorem zs3 {a b:Nat} (h:b≤a):a - b+b≤a:=Nat.le_of_eq (Nat.sub_add_cancel h)
theorem zs4 {a b:Nat} (h:a≤b):a - b≤0:=Nat.le_of_eq (Nat.sub_eq_zero_of_le h)
theorem zd1 (a k:Nat):k * (a / k)≤a:=Nat.mul_div_le a k
theorem zd2 (a:Nat):a≤2 * (a / 2)+1:=Nat.le_of_lt_succ (Nat.lt_mul_div_succ a (Nat.zero_lt_succ 1))
theorem zle {a b:Nat} (h:a=b):a≤b:=Nat.le_of_eq h
theorem zge {a b:Nat} (h:a=b):b≤a:=Nat.le_of_eq h.symm
theorem znt {a b:Nat} (h:¬ a≤b):b < a:=Nat.lt_of_not_le h
theorem zne {a b:Nat} (h:¬ a < b):b≤a:=Nat.le_of_not_lt h
theorem zit {a b:Nat} (h:(a:Int) < b):a < b:=Int.ofNat_lt.mp h
theorem rR {a b:Nat} (h:¬ (a:Int) < b):b≤a:=Int.ofNat_le.mp (Int.not_lt.mp h)
theorem ziq {a b:Nat} (h:(a:Int)=b):a=b:=Int.ofNat_inj.mp h
theorem zme {a b:Nat} (h:a≤b):(a:Int)≤b:=Int.ofNat_le.mpr h
theorem zmt {a b:Nat} (h:a < b):(a:Int) < b:=Int.ofNat_lt.mpr h
theorem zmq {a b:Nat} (h:a=b):(a:Int)=b:=congrArg Int.ofNat h
theorem zdi {a b:Nat} {P:Prop} (h:¬ a=b) (h1:a < b→P) (h2:b < a→P):P:=(Nat.lt_or_gt_of_ne h).elim h1 h2
noncomputable def nld {α:Type} (ls:List (List α)):NE→List α
 | .var i=>ls.getD i []
 | .add x y=>nld ls x++nld ls y
 | _=>[]
noncomputable def nlv:NE→List Nat
 | .var i=>[i]
 | .add x y=>nlv x++nlv y
 | _=>[]
theorem sH {α:Type} {ls:List (List α)} {p : α}:∀ {a:NE},p∈nld ls a → ∃ i,i∈nlv a∧p∈ls.getD i []
 | .var i,h=>⟨i,.head _,h⟩
 | .add _ _,h=>(List.mem_append.mp h).elim (fun h=>(sH h).elim fun i k=>⟨i,List.mem_append_left _ k.1,k.2⟩) (fun h=>(sH h).elim fun i k=>⟨i,List.mem_append_right _ k.1,k.2⟩)
 | .num _,h=>nomatch h
 | .mulL _ _,h=>nomatch h
 | .mulR _ _,h=>nomatch h
theorem oP {α:Type} {ls:List (List α)} {p : α} {i:Nat} (hp:p∈ls.getD i []):∀ {a:NE},i∈nlv a→p∈nld ls a
 | .var j,h=>by rw [List.mem_singleton.mp h] at hp;exact hp
 | .add _ _,h=>(List.mem_append.mp h).elim (fun h=>List.mem_append_left _ (oP hp h)) (fun h=>List.mem_append_right _ (oP hp h))
 | .num _,h=>nomatch h
 | .mulL _ _,h=>nomatch h
 | .mulR _ _,h=>nomatch h
theorem bP {α:Type} (ls:List (List α)) (a b:NE) (h:(nlv a).all (fun i=>(nlv b).elem i)=true):∀ p∈nld ls a,p∈nld ls b:=fun _ hp =>
 (sH hp).elim fun i k=>oP k.2 (List.elem_iff.mp (List.all_eq_true.mp h i k.1))
theorem fB {α:Type} {ls:List (List α)} {i:Nat} (b:NE) (h:(nlv b).elem i=true):∀ p,p∈ls.getD i []→p∈nld ls b:=fun _ hp=>oP hp (List.elem_iff.mp h)
end
section
theorem xg {p q:Program} {loose:List Str} {Xt:Shared→Bool} {α:Type} {Yf:Shared → α} {Ya:World → α} {N:Nat} (e:opening p=plainProg p.main.scope.names) (hN:Nat.ble 600 N=true) (f:∀ s,fenceModules? p s=some s)
 (h:∀ (w:World) (os:OsState),(topFrom treeTable p w N ⟨boot_heap w.params,Array.mk [],boot_drawn,boot_toks,os⟩).map (fun s=>(openSeen q loose (importedModules p.main.body) Xt true s,Yf s))=some (openGood q loose,Ya w)):LeftO p q loose Xt Yf Ya N:=fun w=>by
 obtain ⟨⟨hp,gs,d,k,os⟩,hs,hv⟩:=Option.map_eq_some_iff.mp (boot_open e hN f w)
 cases hv
 show ((fencedOpening treeTable p w N).bind (topFrom treeTable p w N)).map _=_
 rw [hs]
 exact h w os
noncomputable def vA:Program:=view PySem.Challenge.rw_ik0112_01.row.toRowW.prog [0,2,4,6,7,9,11,13,14,15,16,17,18,19,20,22,23,24,25,26,27,28,29,32,33,34,35,36,37,38]
theorem y2:PySem.Challenge.rw_ik0112_01.wellSaid=true:=by kernel_rfl
noncomputable def CA (H:Hook):=holds_open (r:=PySem.Challenge.rw_ik0112_01.row) (q:=vA) (loose:=[Str.ofString "nsmallest"]) (Xt:=fun s=>xlAt vA [] s && recOk PySem.Challenge.rw_ik0112_01.row.toRowW.records s) (XP:=XL vA []) (Yf:=Hook.obs H) (Ya:=Hook.val H) (YP:=Hook.says H) (N:=3112) (hY:=Hook.of H) (hYk:=Hook.keeps H) (hX:=fun s e=>xl_of s (Bool.and_eq_true_iff.mp e).1) (hXk:=XL.keeps) (hdef:=by rfl) (hp:=by rfl) (hk:=by rfl) (hRf:=fun s e=>recFacts_of (Bool.and_eq_true_iff.mp e).2) (hwr:=by rfl) (ok:=by decide +kernel) (hb:=⟨rfl,rfl,rfl,rfl,rfl,by decide +kernel⟩)
theorem kw_Hd1_0:True:=by
 w_top off
 k_with "oh" => (case hl=>(refine xg (by kernel_rfl) (by kernel_rfl) (fun s=>by kernel_rfl) (fun w os => ?_);kernel_rfl))
 k_with "ol" => refine holds_law y2 fun said => ?_
 trivial
local macro_rules | `(tactic| o_law) => `(tactic| k_extra "ol")
set_option hygiene false in
local macro_rules | `(tactic| o_head $H) => `(tactic| (refine CA $H ?hl said ?hw ?hc; k_extra "oh"))
open_top hd for PySem.Challenge.rw_ik0112_01
end
section
theorem aK {h₀:Heap} {L:Addr} {h:Heap} {m:Str→Option Value} {x:Str} {v:Value} (F:Fr h₀ L h m) (hm:m x=some v) :
 Fr h₀ L h (fun y=>if y=x then some v else m y):=by
 have:(fun y=>if y=x then some v else m y)=m:=by
  funext y
  by_cases e:y=x
  · rw [if_pos e,e,hm]
  · rw [if_neg e]
 rw [this];exact F
noncomputable def aX (h₀:Heap) (L I:Addr) (it:Obj) (J:(Str→Option Value)→List (Addr × Obj)→Prop) (s₁ s₂:Shared):Prop :=
 ∃ h' tk m' nx,s₂={ s₁ with heap:=h',toks:=tk }∧Fr h₀ L h' m'∧News h₀ L h' ((I,it)::nx)∧(∀ p∈nx,p.1≠I)∧J m' nx
noncomputable def ia (h₀:Heap) (L I:Addr) (it:Obj) (J:(Str→Option Value)→List (Addr × Obj)→Prop) (s₁:Shared) (Q:Flow→Shared→Prop) (f:Flow) (s₂:Shared):Prop :=
 match f with
 | .ret v=>Q (.ret v) s₂
 | .brk=>Q .next s₂
 | _=>aX h₀ L I it J s₁ s₂
theorem aX.intro {h₀:Heap} {L I:Addr} {it:Obj} {J:(Str→Option Value)→List (Addr × Obj)→Prop} {s₁:Shared} {h':Heap} {tk:Nat} {m':Str→Option Value} {all:List (Addr × Obj)}
 (F:Fr h₀ L h' m') (N:News h₀ L h' all) (nx:List (Addr × Obj)) (sub:∀ p∈(I,it)::nx,p∈all) (off:∀ p∈nx,p.1≠I) (hj:J m' nx) :
 aX h₀ L I it J s₁ { s₁ with heap:=h',toks:=tk }:=⟨h',tk,m',nx,rfl,F,fun p hp=>N p (sub p hp),off,hj⟩
section
variable {prog:Program} {w:World} {A:Around} {E:Value→Shared→Prop} {s:Shared} {env:Env} {h₀:Heap} {x:Str} {body:List Stmt} {Q:Flow→Shared→Prop}
theorem ju {I:Addr} {src:List (Addr × Obj)} {n:Nat} {P:Nat→Value→Prop} {St:Nat→Heap→Prop} {m:Str→Option Value} {news:List (Addr × Obj)}
 (W:Walks prog w A I (I::src.map (·.1)) [I] n P St) (hlive:∀ i h,St i h → ∃ o,h.get? I=some o)
 (hI:h₀.get? I=none) (hLI:I≠env.locals) (hoff:∀ p∈news,p.1≠I) (hst:St 0 s.heap)
 (F:Fr h₀ env.locals s.heap m) (N:News h₀ env.locals s.heap news)
 (J:Nat→(Str→Option Value)→List (Addr × Obj)→Prop) (hj:J 0 m news) (hJs:∀ i m nx,J i m nx → ∀ p∈src,p∈nx)
 (turn:∀ i v m₁ nx it h tk,i < n→P i v→J i m₁ nx→(∀ p∈nx,p.1≠I)→Fr h₀ env.locals h (fun y=>if y=x then some v else m₁ y)→News h₀ env.locals h ((I,it)::nx) →
  wpAny (model prog w) A (execs body env) (ia h₀ env.locals I it (J (i+1)) { s with heap:=h,toks:=tk } Q) E { s with heap:=h,toks:=tk })
 (done:∀ m₁ nx h tk,J n m₁ nx→Fr h₀ env.locals h m₁→News h₀ env.locals h nx→Q .next { s with heap:=h,toks:=tk }) :
 LoopAtV prog w A h₀ env x body Q E (.ref I) s:=by
 have hsrc:=hJs 0 m news hj
 refine ⟨I,_,_,n,P,St,m,news,J,rfl,W,?_,?_,?_,hst,F,N,hj,?_,?_⟩
 · intro hm
   rcases List.mem_cons.mp hm with e | hm
   · exact hLI e.symm
   · refine aE (List.mem_map.mp hm) ?_
     intro p hp e
     exact (N p (hsrc p hp)).2.1 e
 · intro b hb;rw [List.mem_singleton.mp hb];exact hI
 · intro p hp hq;exact hoff p hp (List.mem_singleton.mp hq)
 · intro i v m₁ news₁ s₁ own hr1q
   refine pD (hr1q) ?_
   (try clear hr1q);rintro hh' tk' rfl
   intro hin hP hJ hoff₁ hown hget hfp hst₁ F₁ N₁
   refine bA (hlive _ _ hst₁) ?_
   intro it hit
   have hIown:(I,it)∈own:=hfp I (List.mem_cons_self ..) hI it hit
   have hoff₂:∀ p∈news₁,p.1≠I:=fun p hp e=>hoff₁ p hp (List.mem_singleton.mpr e)
   have N₂:News h₀ env.locals hh' ((I,it)::news₁):=fun p hp=>by
    k_extra "ax"
    · exact N₁ _ (List.mem_append_left _ hIown)
    · exact N₁ _ (List.mem_append_right _ hp)
   refine wpAny_mono (turn i v m₁ news₁ it hh' tk' hin hP hJ hoff₂ F₁ N₂) (fun f s₂ p => ?_) fun _ _ e=>e
   have fin:aX h₀ env.locals I it (J (i+1)) { s with heap:=hh',toks:=tk' } s₂→LoopStepU h₀ env.locals [I] own (J (i+1)) { s with heap:=hh',toks:=tk' } .next s₂:=by
    intro hr2q
    refine wd (hr2q) ?_
    (try clear hr2q);intro h' tk m' nx e F' N' ho r
    refine ⟨rfl,h',tk,m',nx,e,F',fun p hp => ?_,fun p hp hq=>ho p hp (List.mem_singleton.mp hq),r⟩
    k_extra "be"
    · rcases List.mem_cons.mp (hown p hp) with e1 | hm
      · have h2:=hget p hp
        rw [e1] at h2
        have h3:p.2=it:=Option.some.inj ((h2.symm.trans hit))
        have:p=(I,it):=Prod.ext e1 h3
        rw [this];exact N' _ (List.mem_cons_self ..)
      · refine aE (List.mem_map.mp hm) ?_
        intro q hq e1
        have h2:=hget p hp
        have h4:=(N₂ q (List.mem_cons_of_mem _ (hJs _ _ _ hJ q hq))).1
        rw [e1] at h4
        have h3:p.2=q.2:=Option.some.inj (h2.symm.trans h4)
        have:p=q:=Prod.ext e1.symm h3
        rw [this];exact N' _ (List.mem_cons_of_mem _ (hJs _ _ _ r q hq))
    · exact N' _ (List.mem_cons_of_mem _ hp)
   cases f with
   | ret v=>exact .ret p
   | brk=>exact .brk p
   | next=>exact .next (fin p)
   | cont=>exact .cont (fin p)
 · intro h' tk m' news' F' N' _ hJ
   exact done m' news' h' tk hJ F' N'
noncomputable def Src (prog:Program) (w:World) (A:Around) (h₀:Heap) (L:Addr) (s:Shared) (m:Str→Option Value) (news:List (Addr × Obj)) (I:Addr) (src:List (Addr × Obj)) (n:Nat) (P:Nat→Value→Prop):Prop :=
 ∃ St:Nat→Heap→Prop,Walks prog w A I (I::src.map (·.1)) [I] n P St∧(∀ i h,St i h → ∃ o,h.get? I=some o)∧h₀.get? I=none∧I≠L∧(∀ p∈news,p.1≠I)∧St 0 s.heap∧Fr h₀ L s.heap m∧News h₀ L s.heap news
theorem dE {l:Addr} {o:Obj} {vs:List Value} {nn:Nat} {m:Str→Option Value} {news:List (Addr × Obj)} {Q':Value→Shared→Prop}
 (hh:A.handled=none) (hl:(l,o)∈news) (hc:o.cls = .type "list") (hd:o.data = .seq vs.toArray nn)
 (F:Fr h₀ env.locals s.heap m) (N:News h₀ env.locals s.heap news)
 (h:∀ I h',Src prog w A h₀ env.locals { s with heap:=h' } m news I [(l,o)] vs.length (fun i v=>vs[i]? = some v)→Q' (.ref I) { s with heap:=h' }) :
 wpAny (model prog w) A (pyIter (.ref l)) Q' E s:=by
 have hol:s.heap.get? l=some o:=(N _ hl).1
 have hls:s.heap.IsList l vs.toArray:=⟨_,hol,hc,nn,hd⟩
 have hne:l≠s.heap.objs.size:=Nat.ne_of_lt (Heap.lt_size hol)
 refine wpAny_pyIter_list hls (h _ _ ?_)
 have W:=Walks.list (prog:=prog) (w:=w) hh s.heap.objs.size l hne vs.toArray
 k_extra "ei"
 k_extra "cf"
 rw [hlen,hP] at W
 exact ⟨_,W,fun _ _ st=>by obtain ⟨⟨oI,h1,_⟩,_⟩:=st;exact ⟨oI,h1⟩,next_is_new F,fun e=>absurd F.ns.lt (e ▸ Nat.lt_irrefl _),fun p hp e=>absurd (Heap.lt_size (N p hp).1) (e ▸ Nat.lt_irrefl _),
  ⟨⟨_,Heap.get?_push_size _ rfl,rfl,rfl⟩,hls.at fun o e=>Heap.get?_push_of_some _ e⟩,F.push _,fun p hp=>⟨Heap.get?_push_of_some _ (N p hp).1,(N p hp).2⟩⟩
theorem v5 {l:Addr} {o:Obj} {vs:List Value} {nn:Nat} {m:Str→Option Value} {news:List (Addr × Obj)} {Q':Value→Shared→Prop}
 (hh:A.handled=none) (hl:(l,o)∈news) (hc:o.cls = .type "tuple") (hd:o.data = .seq vs.toArray nn)
 (F:Fr h₀ env.locals s.heap m) (N:News h₀ env.locals s.heap news)
 (h:∀ I h',Src prog w A h₀ env.locals { s with heap:=h' } m news I [(l,o)] vs.length (fun i v=>vs[i]? = some v)→Q' (.ref I) { s with heap:=h' }) :
 wpAny (model prog w) A (pyIter (.ref l)) Q' E s:=by
 have hol:s.heap.get? l=some o:=(N _ hl).1
 have hls:s.heap.IsTuple l vs.toArray:=⟨_,hol,hc,nn,hd⟩
 have hne:l≠s.heap.objs.size:=Nat.ne_of_lt (Heap.lt_size hol)
 refine wpAny_pyIter_tuple hls (h _ _ ?_)
 have W:=Walks.tuple (prog:=prog) (w:=w) hh s.heap.objs.size l hne vs.toArray
 k_extra "ei"
 k_extra "cf"
 rw [hlen,hP] at W
 exact ⟨_,W,fun _ _ st=>by obtain ⟨⟨oI,h1,_⟩,_⟩:=st;exact ⟨oI,h1⟩,next_is_new F,fun e=>absurd F.ns.lt (e ▸ Nat.lt_irrefl _),fun p hp e=>absurd (Heap.lt_size (N p hp).1) (e ▸ Nat.lt_irrefl _),
  ⟨⟨_,Heap.get?_push_size _ rfl,rfl,rfl⟩,hls.at fun o e=>Heap.get?_push_of_some _ e⟩,F.push _,fun p hp=>⟨Heap.get?_push_of_some _ (N p hp).1,(N p hp).2⟩⟩
theorem v6 {r:Addr} {a₀ b₀:Int} {t₀ u₀ v₀:Tok} {n:Nat} {m:Str→Option Value} {news:List (Addr × Obj)} {Q':Value→Shared→Prop}
 (hh:A.handled=none) (hr:IsRange s.heap r a₀ b₀ 1 t₀ u₀ v₀) (hsmall:Builtin.Range.small a₀ b₀ 1=true) (hsz:Builtin.Range.rangeSize a₀ b₀ 1=(n:Int))
 (F:Fr h₀ env.locals s.heap m) (N:News h₀ env.locals s.heap news)
 (h:∀ I h',Src prog w A h₀ env.locals { s with heap:=h' } m news I [] n (fun i v => ∃ t,v = .int (a₀+(i:Int)) t)→Q' (.ref I) { s with heap:=h' }) :
 wpAny (model prog w) A (pyIter (.ref r)) Q' E s:=by
 refine wpAny_pyIter_range hr hsmall (h _ _ ?_)
 have W:Walks prog w A s.heap.objs.size [s.heap.objs.size] [s.heap.objs.size] n (fun i v => ∃ t,v = .int (a₀+i * 1) t)
  (fun i h=>IsRangeIter h s.heap.objs.size (a₀+(i:Nat) * 1) ((n:Int) - (i:Nat)) 1):=Walks.range hh _ a₀ 1 n
 have hP:(fun (i:Nat) (v:Value) => ∃ t,v = .int (a₀+(i:Int) * 1) t)=fun i v => ∃ t,v = .int (a₀+(i:Int)) t:=by
  funext i v;rw [Int.mul_one]
 rw [hP] at W
 exact ⟨_,W,fun _ _ st=>⟨_,st⟩,next_is_new F,fun e=>absurd F.ns.lt (e ▸ Nat.lt_irrefl _),fun p hp e=>absurd (Heap.lt_size (N p hp).1) (e ▸ Nat.lt_irrefl _),
  by show IsRangeIter _ _ _ _ _;rw [hsz];simpa using Heap.get?_push_size _ rfl,F.push _,fun p hp=>⟨Heap.get?_push_of_some _ (N p hp).1,(N p hp).2⟩⟩
noncomputable def gL  (K:Nat→(Str→Option Value)→List (Addr × Obj)→Prop) (rest:List (Addr × Obj)) (i:Nat) (m':Str→Option Value) (nx:List (Addr × Obj)):Prop :=
 ∃ tl',nx=(tl'++rest)∧K  (i) m' tl'
theorem gL.intro {h₀:Heap} {L I:Addr} {it:Obj} {s₁:Shared} {h':Heap} {tk:Nat} {m':Str→Option Value} {all rest:List (Addr × Obj)} {i:Nat}
 {K:Nat→(Str→Option Value)→List (Addr × Obj)→Prop} (F:Fr h₀ L h' m') (N:News h₀ L h' all)  (tl:List (Addr × Obj))
 (sub:∀ p∈(I,it)::(tl++rest),p∈all) (off:∀ p∈(tl++rest),p.1≠I)  (hk:K  i m' tl) :
 aX h₀ L I it (gL  K rest i) s₁ { s₁ with heap:=h',toks:=tk } :=
 aX.intro F N _ sub off ⟨tl,rfl,hk⟩
theorem kZ {I:Addr} {src:List (Addr × Obj)} {n:Nat} {P:Nat→Value→Prop} {m:Str→Option Value} {rest:List (Addr × Obj)}
 (S:Src prog w A h₀ env.locals s m (rest) I src n P) (hsrc:∀ p∈src,p∈rest)
 (K:Nat→(Str→Option Value)→List (Addr × Obj)→Prop) (hk:K  0 m [])
 (turn:∀ i v m₁  tl it h tk,i < n→P i v→K  i m₁ tl→(∀ p∈tl++rest,p.1≠I)→Fr h₀ env.locals h (fun y=>if y=x then some v else m₁ y)→News h₀ env.locals h ((I,it)::(tl++rest)) →
  wpAny (model prog w) A (execs body env) (ia h₀ env.locals I it (gL  K rest (i+1)) { s with heap:=h,toks:=tk } Q) E { s with heap:=h,toks:=tk })
 (done:∀ m₁  tl h tk,K  n m₁ tl→Fr h₀ env.locals h m₁→News h₀ env.locals h ((tl++rest))→Q .next { s with heap:=h,toks:=tk }) :
 LoopAtV prog w A h₀ env x body Q E (.ref I) s:=by
 refine me (S) ?_
 k_extra "ef"
 refine ju W hlive hI hLI hoff hst F N (gL  K rest) ⟨[],rfl,hk⟩ ?_ ?_ ?_
 · intro i m nx hr3q
   refine aE (hr3q) ?_
   (try clear hr3q);rintro tl rfl _
   intro p hp
   exact List.mem_append_right _ (hsrc p hp)
 · intro i v m₁ nx it h tk hi hP hr4q
   refine aE (hr4q) ?_
   (try clear hr4q);rintro tl rfl hK
   intro hoff F₁ N₁
   k_extra "fx"
 · intro m₁ nx h tk hr5q
   refine aE (hr5q) ?_
   (try clear hr5q);rintro tl rfl hK
   intro F₁ N₁
   exact done m₁  tl h tk hK  F₁ N₁
noncomputable def dS (l1:Addr) (K:Addr→Nat→(Str→Option Value)→List Value→List (Addr × Obj)→Prop) (rest:List (Addr × Obj)) (i:Nat) (m':Str→Option Value) (nx:List (Addr × Obj)):Prop :=
 ∃ w1' n1',∃ tl',nx=(l1,W.listOf (w1').toArray n1')::(tl'++rest)∧(∀ p∈tl'++rest,p.1≠l1)∧K l1 (i) m' w1' tl'
theorem dS.intro {h₀:Heap} {L I:Addr} {it:Obj} {s₁:Shared} {h':Heap} {tk:Nat} {m':Str→Option Value} {all rest:List (Addr × Obj)} {i:Nat} {l1:Addr}
 {K:Addr→Nat→(Str→Option Value)→List Value→List (Addr × Obj)→Prop} (F:Fr h₀ L h' m') (N:News h₀ L h' all) (w1:List Value) (n1:Nat) (tl:List (Addr × Obj))
 (sub:∀ p∈(I,it)::(l1,W.listOf (w1).toArray n1)::(tl++rest),p∈all) (off:∀ p∈(l1,W.listOf (w1).toArray n1)::(tl++rest),p.1≠I) (o1:∀ p∈tl++rest,p.1≠l1) (hk:K l1 i m' w1 tl) :
 aX h₀ L I it (dS l1 K rest i) s₁ { s₁ with heap:=h',toks:=tk } :=
 aX.intro F N _ sub off ⟨w1,n1,tl,rfl,o1,hk⟩
theorem dA {I:Addr} {src:List (Addr × Obj)} {n:Nat} {P:Nat→Value→Prop} {m:Str→Option Value} {rest:List (Addr × Obj)} {l1:Addr} {w1₀:List Value} {n1₀:Nat}
 (S:Src prog w A h₀ env.locals s m ((l1,W.listOf (w1₀).toArray n1₀)::rest) I src n P) (hsrc:∀ p∈src,p∈rest) (hne1:∀ p∈rest,p.1≠l1)
 (K:Addr→Nat→(Str→Option Value)→List Value→List (Addr × Obj)→Prop) (hk:K l1 0 m w1₀ [])
 (turn:∀ i v m₁ w1 n1 tl it h tk,i < n→P i v→K l1 i m₁ w1 tl→(∀ p∈tl++rest,p.1≠l1) → @Ne Nat l1 I→(∀ p∈tl++rest,p.1≠I)→Fr h₀ env.locals h (fun y=>if y=x then some v else m₁ y)→News h₀ env.locals h ((I,it)::(l1,W.listOf (w1).toArray n1)::(tl++rest)) →
  wpAny (model prog w) A (execs body env) (ia h₀ env.locals I it (dS l1 K rest (i+1)) { s with heap:=h,toks:=tk } Q) E { s with heap:=h,toks:=tk })
 (done:∀ m₁ w1 n1 tl h tk,K l1 n m₁ w1 tl→(∀ p∈tl++rest,p.1≠l1)→Fr h₀ env.locals h m₁→News h₀ env.locals h ((l1,W.listOf (w1).toArray n1)::(tl++rest))→Q .next { s with heap:=h,toks:=tk }) :
 LoopAtV prog w A h₀ env x body Q E (.ref I) s:=by
 refine me (S) ?_
 k_extra "ef"
 refine ju W hlive hI hLI hoff hst F N (dS l1 K rest) ⟨_,_,[],rfl,hne1,hk⟩ ?_ ?_ ?_
 · intro i m nx hr6q
   refine dD (hr6q) ?_
   (try clear hr6q);rintro w1 n1 tl rfl _ _
   intro p hp
   exact List.Mem.tail _ (List.mem_append_right _ (hsrc p hp))
 · intro i v m₁ nx it h tk hi hP hr7q
   refine dD (hr7q) ?_
   (try clear hr7q);rintro w1 n1 tl rfl o1 hK
   intro hoff F₁ N₁
   exact turn i v m₁ w1 n1 tl it h tk hi hP hK o1 (hoff _ (List.Mem.head _)) (fun p hp=>hoff p (List.Mem.tail _ (hp))) F₁ N₁
 · intro m₁ nx h tk hr8q
   refine dD (hr8q) ?_
   (try clear hr8q);rintro w1 n1 tl rfl o1 hK
   intro F₁ N₁
   exact done m₁ w1 n1 tl h tk hK o1 F₁ N₁
noncomputable def nZ (l1:Addr) (l2:Addr) (K:Addr→Addr→Nat→(Str→Option Value)→List Value→List Value→List (Addr × Obj)→Prop) (rest:List (Addr × Obj)) (i:Nat) (m':Str→Option Value) (nx:List (Addr × Obj)):Prop :=
 ∃ w1' n1',∃ w2' n2',∃ tl',nx=(l1,W.listOf (w1').toArray n1')::(l2,W.listOf (w2').toArray n2')::(tl'++rest)∧(∀ p∈tl'++rest,p.1≠l1)∧(∀ p∈tl'++rest,p.1≠l2)∧K l1 l2 (i) m' w1' w2' tl'
theorem nZ.intro {h₀:Heap} {L I:Addr} {it:Obj} {s₁:Shared} {h':Heap} {tk:Nat} {m':Str→Option Value} {all rest:List (Addr × Obj)} {i:Nat} {l1 l2:Addr}
 {K:Addr→Addr→Nat→(Str→Option Value)→List Value→List Value→List (Addr × Obj)→Prop} (F:Fr h₀ L h' m') (N:News h₀ L h' all) (w1:List Value) (n1:Nat) (w2:List Value) (n2:Nat) (tl:List (Addr × Obj))
 (sub:∀ p∈(I,it)::(l1,W.listOf (w1).toArray n1)::(l2,W.listOf (w2).toArray n2)::(tl++rest),p∈all) (off:∀ p∈(l1,W.listOf (w1).toArray n1)::(l2,W.listOf (w2).toArray n2)::(tl++rest),p.1≠I) (o1:∀ p∈tl++rest,p.1≠l1) (o2:∀ p∈tl++rest,p.1≠l2) (hk:K l1 l2 i m' w1 w2 tl) :
 aX h₀ L I it (nZ l1 l2 K rest i) s₁ { s₁ with heap:=h',toks:=tk } :=
 aX.intro F N _ sub off ⟨w1,n1,w2,n2,tl,rfl,o1,o2,hk⟩
theorem xe {I:Addr} {src:List (Addr × Obj)} {n:Nat} {P:Nat→Value→Prop} {m:Str→Option Value} {rest:List (Addr × Obj)} {l1 l2:Addr} {w1₀:List Value} {n1₀:Nat} {w2₀:List Value} {n2₀:Nat}
 (S:Src prog w A h₀ env.locals s m ((l1,W.listOf (w1₀).toArray n1₀)::(l2,W.listOf (w2₀).toArray n2₀)::rest) I src n P) (hsrc:∀ p∈src,p∈rest) (hne1:∀ p∈rest,p.1≠l1) (hne2:∀ p∈rest,p.1≠l2) (hd12:l1≠l2)
 (K:Addr→Addr→Nat→(Str→Option Value)→List Value→List Value→List (Addr × Obj)→Prop) (hk:K l1 l2 0 m w1₀ w2₀ [])
 (turn:∀ i v m₁ w1 n1 w2 n2 tl it h tk,i < n→P i v→K l1 l2 i m₁ w1 w2 tl→(∀ p∈tl++rest,p.1≠l1)→(∀ p∈tl++rest,p.1≠l2) → @Ne Nat l1 I → @Ne Nat l2 I→(∀ p∈tl++rest,p.1≠I)→Fr h₀ env.locals h (fun y=>if y=x then some v else m₁ y)→News h₀ env.locals h ((I,it)::(l1,W.listOf (w1).toArray n1)::(l2,W.listOf (w2).toArray n2)::(tl++rest)) →
  wpAny (model prog w) A (execs body env) (ia h₀ env.locals I it (nZ l1 l2 K rest (i+1)) { s with heap:=h,toks:=tk } Q) E { s with heap:=h,toks:=tk })
 (done:∀ m₁ w1 n1 w2 n2 tl h tk,K l1 l2 n m₁ w1 w2 tl→(∀ p∈tl++rest,p.1≠l1)→(∀ p∈tl++rest,p.1≠l2)→Fr h₀ env.locals h m₁→News h₀ env.locals h ((l1,W.listOf (w1).toArray n1)::(l2,W.listOf (w2).toArray n2)::(tl++rest))→Q .next { s with heap:=h,toks:=tk }) :
 LoopAtV prog w A h₀ env x body Q E (.ref I) s:=by
 refine me (S) ?_
 k_extra "ef"
 refine ju W hlive hI hLI hoff hst F N (nZ l1 l2 K rest) ⟨_,_,_,_,[],rfl,hne1,hne2,hk⟩ ?_ ?_ ?_
 · intro i m nx hr9q
   refine iz (hr9q) ?_
   (try clear hr9q);rintro w1 n1 w2 n2 tl rfl _ _ _
   intro p hp
   exact List.Mem.tail _ (List.Mem.tail _ (List.mem_append_right _ (hsrc p hp)))
 · intro i v m₁ nx it h tk hi hP hr10q
   refine iz (hr10q) ?_
   (try clear hr10q);rintro w1 n1 w2 n2 tl rfl o1 o2 hK
   intro hoff F₁ N₁
   exact turn i v m₁ w1 n1 w2 n2 tl it h tk hi hP hK o1 o2 (hoff _ (List.Mem.head _)) (hoff _ (List.Mem.tail _ (List.Mem.head _))) (fun p hp=>hoff p (List.Mem.tail _ (List.Mem.tail _ (hp)))) F₁ N₁
 · intro m₁ nx h tk hr11q
   refine iz (hr11q) ?_
   (try clear hr11q);rintro w1 n1 w2 n2 tl rfl o1 o2 hK
   intro F₁ N₁
   exact done m₁ w1 n1 w2 n2 tl h tk hK o1 o2 F₁ N₁
noncomputable def Cs (l1:Addr) (l2:Addr) (l3:Addr) (K:Addr→Addr→Addr→Nat→(Str→Option Value)→List Value→List Value→List Value→List (Addr × Obj)→Prop) (rest:List (Addr × Obj)) (i:Nat) (m':Str→Option Value) (nx:List (Addr × Obj)):Prop :=
 ∃ w1' n1',∃ w2' n2',∃ w3' n3',∃ tl',nx=(l1,W.listOf (w1').toArray n1')::(l2,W.listOf (w2').toArray n2')::(l3,W.listOf (w3').toArray n3')::(tl'++rest)∧(∀ p∈tl'++rest,p.1≠l1)∧(∀ p∈tl'++rest,p.1≠l2)∧(∀ p∈tl'++rest,p.1≠l3)∧K l1 l2 l3 (i) m' w1' w2' w3' tl'
theorem Cs.intro {h₀:Heap} {L I:Addr} {it:Obj} {s₁:Shared} {h':Heap} {tk:Nat} {m':Str→Option Value} {all rest:List (Addr × Obj)} {i:Nat} {l1 l2 l3:Addr}
 {K:Addr→Addr→Addr→Nat→(Str→Option Value)→List Value→List Value→List Value→List (Addr × Obj)→Prop} (F:Fr h₀ L h' m') (N:News h₀ L h' all) (w1:List Value) (n1:Nat) (w2:List Value) (n2:Nat) (w3:List Value) (n3:Nat) (tl:List (Addr × Obj))
 (sub:∀ p∈(I,it)::(l1,W.listOf (w1).toArray n1)::(l2,W.listOf (w2).toArray n2)::(l3,W.listOf (w3).toArray n3)::(tl++rest),p∈all) (off:∀ p∈(l1,W.listOf (w1).toArray n1)::(l2,W.listOf (w2).toArray n2)::(l3,W.listOf (w3).toArray n3)::(tl++rest),p.1≠I) (o1:∀ p∈tl++rest,p.1≠l1) (o2:∀ p∈tl++rest,p.1≠l2) (o3:∀ p∈tl++rest,p.1≠l3) (hk:K l1 l2 l3 i m' w1 w2 w3 tl) :
 aX h₀ L I it (Cs l1 l2 l3 K rest i) s₁ { s₁ with heap:=h',toks:=tk } :=
 aX.intro F N _ sub off ⟨w1,n1,w2,n2,w3,n3,tl,rfl,o1,o2,o3,hk⟩
end
end
section
theorem gU {n:Nat} (h:n≤1000000):n≤sizeLine:=by rw [sizeLine_eq];(exact zae [_] 1 qA (zn 16777216) [(1,qA,zn 1000000)] rfl h)
theorem dP {d:Addr} {l:List (Addr × Obj)} (h:AllLt d l):∀ p∈l,p.1≠d:=by
 induction l with
 | nil=>intro p hp;cases hp
 | cons q r ih =>
  intro p hp
  k_extra "ax"
  · exact Nat.ne_of_lt h.1
  · exact ih h.2 p hp
section
variable {prog:Program} {w:World} {A:Around} {E:Value→Shared→Prop} {s:Shared} {h₀:Heap} {L D:Addr} {m:Str→Option Value} {news news':List (Addr × Obj)} {n:Nat} {ws:List Value}
theorem hV (N:News h₀ L s.heap news) (hm:(D,W.listOf ws.toArray n)∈news):s.heap.IsList D ws.toArray:=⟨_,(N _ hm).1,rfl,n,rfl⟩
theorem pn {x:Value} {Q:Value→Shared→Prop} (F:Fr h₀ L s.heap m) (N:News h₀ L s.heap news) (U:Upd D (W.listOf ws.toArray n) (W.listOf (ws++[x]).toArray (n+1)) news news')
 (hz:ws.length≤1000000) (h:∀ h',Fr h₀ L h' m→News h₀ L h' news'→Q .none { s with heap:=h' }):wpAny (model prog w) A (call (.builtin "list.append") [.ref D,x]) Q E s:=by
 have e:ws.toArray.push x=(ws++[x]).toArray:=by simp
 rw [← e] at U
 exact append_K F N U h (by rw [List.size_toArray];exact gU hz)
theorem v7 {Q:Bool→Shared→Prop} (N:News h₀ L s.heap news) (hm:(D,W.listOf ws.toArray n)∈news) (hz:ws.length≤1000000)
 (h:Q ((ws.length:Int) != 0) { s with toks:=s.toks+1+1 }):wpAny (model prog w) A (truthy (.ref D)) Q E s:=by
 refine wpAny_truthy_list (hV N hm) (by rw [List.size_toArray];(exact zmt (zal [_] 1 qA (zn 9223372036854775808) [(1,qA,zn 1000000)] rfl hz))) ?_
 have e:(!ws.toArray.isEmpty)=((ws.length:Int) != 0):=by
  cases ws with
  | nil=>rfl
  | cons a r=>simp;(exact fun h09=>(zar [_] [(1,zu qA,zn 0)] rfl (zle (ziq h09))))
 rw [e];exact h
theorem zd {value slice:Expr} {u:Tok} {v:Value} {Q:Value→Shared→Prop} (N:News h₀ L s.heap news) (hm:(D,W.listOf ws.toArray n)∈news) (hv:ws.getLast? = some v) (h:Q v s)
 (hs:subscripted slice false (.ref D) (.int (-1) u)=operate [.ref D,.int (-1) u] (getItem (.ref D) (.int (-1) u)):=by with_unfolding_all rfl) :
 wpAny (model prog w) A (subscriptTail value slice (.ref D) (.int (-1) u)) Q E s:=by
 have hne : 0 < ws.length:=by
  cases ws with
  | nil=>cases hv
  | cons a r=>exact Nat.succ_pos _
 have e:((-1:Int)+(ws.toArray.size:Nat)).toNat=ws.length - 1:=by rw [List.size_toArray];k_extra "l"
 refine tail_any (hV N hm).typeIs slot_list_getitem.lookup (wpAny_getItem_list_neg (x:=v) (hV N hm) (by decide) (by rw [List.size_toArray];k_extra "l") (by decide) ?_ h) hs
 rw [e,List.getElem?_toArray,← List.getLast?_eq_getElem?];exact hv
theorem ve {v:Value} {Q:Value→Shared→Prop} (F:Fr h₀ L s.heap m) (N:News h₀ L s.heap news) (U:Upd D (W.listOf ws.toArray n) (W.listOf ws.dropLast.toArray (n+1)) news news')
 (hz:ws.length≤1000000) (hv:ws.getLast? = some v) (h:∀ h',Fr h₀ L h' m→News h₀ L h' news'→Q v { s with heap:=h' }):wpAny (model prog w) A (call (.builtin "list.pop") [.ref D]) Q E s:=by
 refine kl_pop F N (p:=ws.dropLast) (y:=v) ?_ U (by simpa using gU hz) h
 have e:=kpa_last v ws.dropLast
 have e2:ws.dropLast++[v]=ws:=by
  refine bA (List.getLast?_eq_some_iff.mp hv) ?_
  intro ys hy
  subst hy;simp
 rw [e2] at e
 simpa using e
end
theorem StrsAre.last {ws:List Value} {ys:List Str} (hS:StrsAre ws ys) (hne : 0 < ws.length):∃ y t,ws.getLast? = some (.str y t)∧ys.getLast? = some y:=by
 have hl:=StrsAre.len_eq hS
 have h1:ws.length - 1 < ws.length:=by (exact zal [_,_] 1 qB qA [(1,zu qB,qA)] rfl (zs3 (zae [_] 1 (zn 1) qA [(1,zu (zn 0),qA)] rfl hne)))
 refine aV (StrsAre.item hS (ws.length - 1) _ (List.getElem?_eq_getElem h1)) ?_
 intro y t e1 e2
 refine ⟨y,t,?_,?_⟩
 · rw [List.getLast?_eq_getElem?,List.getElem?_eq_getElem h1,e1]
 · rw [List.getLast?_eq_getElem?,← hl];exact e2
theorem StrsAre.drop_last {ws:List Value} {ys:List Str} (hS:StrsAre ws ys):StrsAre ws.dropLast ys.dropLast:=by
 have hl:=StrsAre.len_eq hS
 rw [List.dropLast_eq_take,List.dropLast_eq_take,hl]
 exact StrsAre.take' hS _
theorem StrsAre.snoc {ws:List Value} {ys:List Str} (hS:StrsAre ws ys) (y:Str) (t:Tok):StrsAre (ws++[.str y t]) (ys++[y]):=StrsAre.append' hS (.cons y t .nil)
section
variable {prog:Program} {w:World} {A:Around} {E:Value→Shared→Prop} {s:Shared} {h₀:Heap} {L D:Addr} {m:Str→Option Value} {news news':List (Addr × Obj)} {n:Nat} {ws:List Value} {ys:List Str}
theorem xE {value slice:Expr} {u:Tok} {Q:Value→Shared→Prop} (N:News h₀ L s.heap news) (hm:(D,W.listOf ws.toArray n)∈news) (hS:StrsAre ws ys) (hne:(ws.length:Int)≠0)
 (h:∀ y t,ws.getLast? = some (.str y t)→ys.getLast? = some y→Q (.str y t) s)
 (hs:subscripted slice false (.ref D) (.int (-1) u)=operate [.ref D,.int (-1) u] (getItem (.ref D) (.int (-1) u)):=by with_unfolding_all rfl) :
 wpAny (model prog w) A (subscriptTail value slice (.ref D) (.int (-1) u)) Q E s:=by
 refine aV (StrsAre.last hS (by k_extra "l")) ?_
 intro y t e1 e2
 exact zd N hm e1 (h y t e1 e2) hs
theorem zb {Q:Value→Shared→Prop} (F:Fr h₀ L s.heap m) (N:News h₀ L s.heap news) (U:Upd D (W.listOf ws.toArray n) (W.listOf ws.dropLast.toArray (n+1)) news news')
 (hz:ws.length≤1000000) (hS:StrsAre ws ys) (hne:(ws.length:Int)≠0) (h:∀ h' y t,Fr h₀ L h' m→News h₀ L h' news'→Q (.str y t) { s with heap:=h' }):wpAny (model prog w) A (call (.builtin "list.pop") [.ref D]) Q E s:=by
 refine aV (StrsAre.last hS (by k_extra "l")) ?_
 intro y t e1 e2
 exact ve F N U hz e1 fun h' F' N'=>h h' y t F' N'
end
noncomputable def wt (ys:List Str):Nat:=(ys.map (·.length)).sum+ys.length
theorem cK (a b:List Str):wt (a++b)=wt a+wt b:=by unfold wt;simp [List.sum_append];(exact Nat.le_antisymm (zae [_,_,_,_] 1 (zp (zp qA qC) (zp qB qD)) (zp (zp qA qB) (zp qC qD)) [] rfl) (zae [_,_,_,_] 1 (zp (zp qA qC) (zp qB qD)) (zp (zp qA qB) (zp qC qD)) [] rfl))
theorem mc {sep:Str} (h1:sep.length=1) (ys:List Str):(Txt.join sep ys).length≤wt ys:=by
 show (PySem.Builtin.Str.glued sep ys).length≤_
 rw [StrLaws.glued_eq_join]
 have h:=StrLaws.join_length_le sep ys
 rw [h1] at h
 unfold wt;(exact zae [_,_,_] 1 qC (zp qA qB) [(1,qC,zp qA (zr qB 1))] rfl h)
section
variable {prog:Program} {w:World} {A:Around} {E:Value→Shared→Prop} {s:Shared} {h₀:Heap} {L D:Addr} {m:Str→Option Value} {news news':List (Addr × Obj)} {n:Nat} {ws:List Value} {ys:List Str}
theorem tB {sep:Str} {t:Tok} {o:Obj} {Q:Value→Shared→Prop} (N:News h₀ L s.heap news) (hm:(D,o)∈news) (hc:o.cls = .type "list") (hd:o.data = .seq ws.toArray n) (hS:StrsAre ws ys) (hw:wt ys≤1000000) (h1:sep.length=1)
 (h:∀ t' k,(Txt.join sep ys).length≤1000000→Q (.str (Txt.join sep ys) t') { s with toks:=k }):wpAny (model prog w) A (call (.builtin "str.join") [.str sep t,.ref D]) Q E s:=by
 have hj:=Nat.le_trans (mc h1 ys) hw
 refine join_list (items:=ws.toArray) (ys:=ys) ⟨_,(N _ hm).1,hc,n,hd⟩ (by simpa using hS) (by rw [h1];unfold wt at hw;(exact zae [_,_] 1 (zp qA (zr qB 1)) (zn 16777216) [(1,zp qA qB,zn 1000000)] rfl hw)) fun t' k=>h t' k hj
end
end
section
open PySem.SeqAt
open AutoSeq1 (wpAny_loadPart')
open MeetsSeq MeetsSeq2 MeetsSeq3 SeqRoads2
noncomputable def fJ (A:Around) (s:Shared) (y x:Value) (b:Bool):Prop :=
 ∀ (prog:Program) (w:World) (E:Value→Shared→Prop) (Q:Value→Shared→Prop),Q (.bool b) s→wpAny (model prog w) A (richCompare .Lt y x) Q E s
inductive LexR (A:Around) (s:Shared) (fin:Bool):List (Value × Value)→Bool→Prop
 | nil:LexR A s fin [] fin
 | eq {p q r b}:EqAt A s p q true→LexR A s fin r b→LexR A s fin ((p,q)::r) b
 | ne {p q r b}:EqAt A s p q false→fJ A s p q b→LexR A s fin ((p,q)::r) b
theorem pS (l b:Addr) (items items2:Array Value) (n n2:Nat) (dd dd2:Option Addr) (sl sl2:Array (Option Value)) (r:Bool) :
 Meets (Builtin.«tuple.__lt__» ⟨[.ref l,.ref b],[]⟩)
  (fun A R s=>s.heap.get? l=some { cls := .type "tuple",dict:=dd,data := .seq items n,slots:=sl }∧s.heap.get? b=some { cls := .type "tuple",dict:=dd2,data := .seq items2 n2,slots:=sl2 } ∧
   LexR A.in1 s (decide (items.size < items2.size)) (items.toList.zip items2.toList) r∧R (.ok (.ret (.bool r))) s) :=
 .of_wp fun prog w A R s h=>by
  obtain ⟨hp,g,d,tk,os⟩:=s;obtain ⟨hl,hb,he,h⟩:=h
  have f2:=AutoSeq1.sub_tuple_tuple
  wp_walk using wpAny_loadPart' hl,wpAny_loadPart' hb,wpAny_forIn_list _ (fun rest b s'=>b.1=none∧s'=⟨hp,g,d,tk,os⟩∧LexR A.in1 ⟨hp,g,d,tk,os⟩ (decide (items.size < items2.size)) rest r) _
  case turn =>
   intro hr1q
   obtain ⟨y,x⟩:=hr1q
   intro rest b s' hr2q
   refine cA (hr2q) ?_
   (try clear hr2q);rintro hb' rfl hz
   cases hz with
   | eq e1 e2 =>
    refine wpAny_bind (e1 prog w _ _ ?_)
    wp_walk
    exact ⟨rfl,rfl,e2⟩
   | ne e1 e2 =>
    refine wpAny_bind (e1 prog w _ _ ?_)
    simp only [Bool.not_false,if_true]
    refine wpAny_bind (wpAny_rule (wpAny_bind (e2 prog w _ _ ?_)))
    refine wpAny_bind (wpAny_pure (wpAny_pure ?_))
    exact wpAny_pure ⟨_,rfl,h⟩
  case fin =>
   intro hr3q
   obtain ⟨b1,b2⟩:=hr3q
   intro s' hr4q
   refine cA (hr4q) ?_
   (try clear hr4q);rintro hb' rfl hz
   simp only at hb'
   subst hb'
   cases hz
   wp_walk
   exact ⟨_,rfl,by simpa [Builtin.Tuple.tupleCompareSizes] using h⟩
  case h =>
   exact ⟨rfl,rfl,he⟩
theorem fJ.tuples {A:Around} {s:Shared} {l b:Addr} {o o':Obj} {vs us:List Value} {n n':Nat} {r:Bool} (hl:s.heap.get? l=some o) (hc:o.cls = .type "tuple") (hd:o.data = .seq vs.toArray n)
 (hb:s.heap.get? b=some o') (hc':o'.cls = .type "tuple") (hd':o'.data = .seq us.toArray n') (hu:A.units < cLine) (he:LexR A.in1 s (decide (vs.length < us.length)) (vs.zip us) r):fJ A s (.ref l) (.ref b) r:=fun prog w E Q h=>by
 obtain ⟨cls,dd,data,sl⟩:=o
 obtain ⟨cls2,dd2,data2,sl2⟩:=o'
 simp only at hc hd hc' hd'
 subst hc hd hc' hd'
 exact richCompare_meets_room (op := .Lt) ⟨_,hl,rfl⟩ ⟨_,hb,rfl⟩ F.slot_tuple_lt F.entry_tuple_lt (F.args_tuple_lt_2 _ _) (pS l b vs.toArray us.toArray n n' dd dd2 sl sl2 r)
  ⟨hl,hb,by simpa using he,show Value.bool r≠Value.notImplemented∧Q (.bool r) s from ⟨(fun x=>nomatch x),h⟩⟩ hu
theorem fJ.int {A:Around} {s:Shared} (a b:Int) (t u:Tok):fJ A s (.int a t) (.int b u) (decide (a < b)):=fun prog w E Q h=>lt_int h
theorem fJ.str {A:Around} {s:Shared} (a b:Str) (t u:Tok):fJ A s (.str a t) (.str b u) (decide (a.cps.toList < b.cps.toList)):=fun prog w E Q h=>PySem.P.lt_str h
noncomputable def bN (lt:Dat→Dat→Bool):List Dat→List Dat→Bool
 | [],[]=>false
 | [],_::_=>true
 | _::_,[]=>false
 | a::as,b::bs=>if PyData.eqv (kqdP a) (kqdP b) then bN lt as bs else lt a b
noncomputable def dlt:Nat→Dat→Dat→Bool
 | _,.int x,.int y=>decide (x < y)
 | _,.str x,.str y=>decide (x.cps.toList < y.cps.toList)
 | n+1,.tuple xs,.tuple ys=>bN (dlt n) xs ys
 | _,_,_=>false
noncomputable def aY:Nat→Dat→Dat→Bool
 | _,.int _,.int _=>true
 | _,.str _,.str _=>true
 | n+1,.tuple xs,.tuple ys=>(xs.zip ys).all fun p=>aY n p.1 p.2
 | _,_,_=>false
section
variable {h₀:Heap} {L:Addr} {news:List (Addr × Obj)} {s:Shared}
theorem xK {A:Around} {v u:Value} {a b:Dat} {n:Nat} (N:News h₀ L s.heap news) (ha:DatIn news v a) (hb:DatIn news u b) (ka:kqdOk n a=true) (kb:kqdOk n b=true) (hu:A.units+n < cLine) :
 EqAt A s v u (PyData.eqv (kqdP a) (kqdP b)):=fun prog w E Q h=>by
 refine bA (kqd_in N n ha ka) ?_
 intro as ra
 refine bA (kqd_in N n hb kb) ?_
 intro bs rb
 have la:=kqd_lay n a ka
 have lb:=kqd_lay n b kb
 exact eqBoolOverData prog w A E s v u _ _ as bs Q ra rb la.1 lb.1 (by exact zal [_,_,_,_,_] 1 (zp qB qC) qA [(1,qD,qE),(1,zu (zp qB qE),qA),(1,qC,qD)] rfl la.2 hu (Nat.min_le_left _ _)) h
theorem vc {f:Dat→Dat→Bool} {bs:List Dat} {fin:Bool} (hf:(0 < bs.length ↔ fin=true)):bN f [] bs=fin:=by
 cases bs with
 | nil=>cases fin with
  | false=>rfl
  | true=>exact absurd (hf.mpr rfl) (Nat.lt_irrefl _)
 | cons _ _=>exact (hf.mp (Nat.succ_pos _)).symm
theorem u8 {f:Dat→Dat→Bool} {a:Dat} {as:List Dat} {fin:Bool} (hf:((a::as).length < 0 ↔ fin=true)):bN f (a::as) []=fin:=by
 cases fin with
 | false=>rfl
 | true=>exact absurd (hf.mpr rfl) (Nat.not_lt_zero _)
theorem u7 {A:Around} {n:Nat} (ih:∀ {v u:Value} {a b:Dat},DatIn news v a→DatIn news u b→kqdOk n a=true→kqdOk n b=true→aY n a b=true→fJ A s v u (dlt n a b)) (N:News h₀ L s.heap news) (hu:A.units+n < cLine) :
 ∀ (as:List Dat) {bs:List Dat} {vs us:List Value},DatAll news vs as→DatAll news us bs→(∀ d∈as,kqdOk n d=true)→(∀ d∈bs,kqdOk n d=true)→((as.zip bs).all fun p=>aY n p.1 p.2)=true →
  ∀ fin,(as.length < bs.length ↔ fin=true)→LexR A s fin (vs.zip us) (bN (dlt n) as bs)
 | [],bs,vs,us,ha,_,_,_,_,fin,hf=>by
  rw [vc hf,show vs=[] from cD ha];exact .nil
 | a::as,[],vs,us,_,hb,_,_,_,fin,hf=>by
  rw [u8 hf,show us=[] from cD hb,List.zip_nil_right];exact .nil
 | a::as,b::bs,vs,us,ha,hb,ka,kb,hc,fin,hf =>
  cJ (cD ha) fun v vs' ev ha1 ra=>cJ (cD hb) fun u us' eu hb1 rb=>by
  have e:=xK (A:=A) N ha1 hb1 (ka _ (.head _)) (kb _ (.head _)) hu
  rw [List.zip_cons_cons,List.all_cons,Bool.and_eq_true] at hc
  rw [ev,eu,List.zip_cons_cons,bN]
  cases hq:PyData.eqv (kqdP a) (kqdP b) with
  | true =>
   rw [hq] at e
   rw [if_pos rfl]
   exact .eq e (u7 ih N hu as ra rb (fun d h=>ka d (.tail _ h)) (fun d h=>kb d (.tail _ h)) hc.2 fin (Nat.succ_lt_succ_iff.symm.trans hf))
  | false =>
   rw [hq] at e
   k_extra "gc"
   exact .ne e (ih ha1 hb1 (ka _ (.head _)) (kb _ (.head _)) hc.1)
theorem gY {n:Nat} {x y:Int}:dlt n (.int x) (.int y)=decide (x < y):=by cases n <;> rfl
theorem i8 {n:Nat} {x y:Str}:dlt n (.str x) (.str y)=decide (x.cps.toList < y.cps.toList):=by cases n <;> rfl
noncomputable def DcI (n:Nat) (a b:Dat):Prop:=(∃ x y,a = .int x∧b = .int y)∨(∃ x y,a = .str x∧b = .str y) ∨ ∃ m xs ys,n=m+1∧a = .tuple xs∧b = .tuple ys
theorem xU {n:Nat} {a b:Dat} (h:aY n a b=true):DcI n a b:=by
 unfold aY at h
 split at h
 · exact .inl ⟨_,_,rfl,rfl⟩
 · exact .inr (.inl ⟨_,_,rfl,rfl⟩)
 · exact .inr (.inr ⟨_,_,_,rfl,rfl,rfl⟩)
 · cases h
noncomputable def LtD (s:Shared) (news:List (Addr × Obj)) (n:Nat):Prop := ∀ {A:Around} {v u:Value} {a b:Dat},DatIn news v a→DatIn news u b→kqdOk n a=true→kqdOk n b=true→aY n a b=true→A.units+2 * n < cLine→fJ A s v u (dlt n a b)
theorem Bj (N:News h₀ L s.heap news) {m:Nat} (ih:LtD s news m) {A:Around} {v u:Value} {xs ys:List Dat} (ha:DatIn news v (.tuple xs)) (hb:DatIn news u (.tuple ys)) (ka:kqdOk (m+1) (.tuple xs)=true) (kb:kqdOk (m+1) (.tuple ys)=true) (hc:aY (m+1) (.tuple xs) (.tuple ys)=true) (hu:A.units+(2 * m+2) < cLine):fJ A s v u (dlt (m+1) (.tuple xs) (.tuple ys)) :=
 dD (iD ha) fun a1 vs n1 e1 hm r=>dD (iD hb) fun a2 us n2 e2 hm' r'=>by
  rw [e1,e2]
  refine fJ.tuples (N.get hm) rfl rfl (N.get hm') rfl rfl (Nat.lt_of_le_of_lt (Nat.le_add_right _ _) hu) ?_
  have h1:A.units+1+2 * m < cLine:=by (exact zal [_,_,_] 1 (zp (zu qB) (zk 2 qC)) qA [(1,zu (zp qB (zp (zk 2 qC) (zn 2))),qA)] rfl hu)
  have h2:A.units+1+m < cLine:=by (exact zal [_,_,_] 1 (zp (zu qB) qC) qA [(1,zu (zp qB (zp (zk 2 qC) (zn 2))),qA)] rfl hu)
  refine u7 (fun h3 h4 h5 h6 h7=>ih h3 h4 h5 h6 h7 h1) N h2 xs r r' (by simpa [kqdOk] using ka) (by simpa [kqdOk] using kb) (by simpa [aY] using hc) _ ?_
  rw [r.length,r'.length];exact decide_eq_true_iff.symm
theorem u3 (N:News h₀ L s.heap news) {n:Nat} (ih:∀ m,n=m+1→LtD s news m):LtD s news n:=fun {A v u a b} ha hb ka kb hc hu =>
 match xU hc with
 | .inl h=>aV h fun x y ea eb=>(fI (ea ▸ ha)).elim fun t ev=>(fI (eb ▸ hb)).elim fun t2 eu=>by
  rw [ea,eb,ev,eu,gY];exact fJ.int _ _ _ _
 | .inr (.inl h)=>aV h fun x y ea eb=>(iC (ea ▸ ha)).elim fun t ev=>(iC (eb ▸ hb)).elim fun t2 eu=>by
  rw [ea,eb,ev,eu,i8];exact fJ.str _ _ _ _
 | .inr (.inr h)=>dD h fun m xs ys en ea eb=>by
  subst en ea eb
  exact Bj N (ih m rfl) ha hb ka kb hc hu
theorem oZ (N:News h₀ L s.heap news):∀ (n:Nat),LtD s news n
 | 0=>u3 N fun _ h=>absurd h.symm (Nat.succ_ne_zero _)
 | n+1=>u3 N fun m h=>Nat.succ.inj h ▸ oZ N n
end
end
section
theorem DatAll.at {news:List (Addr × Obj)} {vs:List Value} {ds:List Dat} (h:DatAll news vs ds) {i:Nat} {v:Value} (hv:vs[i]? = some v):∃ d,ds[i]? = some d∧DatIn news v d:=by
 have hi:i < vs.length:=(List.getElem?_eq_some_iff.mp hv).1
 have hi':i < ds.length:=by rw [← h.length];exact hi
 refine aE (h.get hi') ?_
 intro u e1 e2
 rw [hv] at e1
 exact ⟨_,List.getElem?_eq_getElem hi',(Option.some.inj e1) ▸ e2⟩
theorem DatAll.set {news:List (Addr × Obj)} {vs:List Value} {ds:List Dat} (h:DatAll news vs ds):∀ (i:Nat) {v:Value} {d:Dat},DatIn news v d→DatAll news (vs.set i v) (ds.set i d) :=
 gZ (P:=fun vs ds => ∀ (i:Nat) {v:Value} {d:Dat},DatIn news v d→DatAll news (vs.set i v) (ds.set i d)) (fun _ _ _ _ => .nil) (fun _ _ _ _ h r ih i=>match i with
  | 0=>fun hd => .cons hd r
  | i+1=>fun hd => .cons h (ih i hd)) h
theorem DatAll.dropLast {news:List (Addr × Obj)} {vs:List Value} {ds:List Dat} (h:DatAll news vs ds):DatAll news vs.dropLast ds.dropLast :=
 gZ (P:=fun vs ds=>DatAll news vs.dropLast ds.dropLast) .nil (fun v d vs ds h r ih=>match ds,r,ih with
  | [],r,_=>(show vs=[] from cD r) ▸ .nil
  | _::_,r,ih=>cJ (cD r) fun _ _ e _ _=>by subst e;exact .cons h ih) h
section
variable {prog:Program} {w:World} {A:Around} {E:Value→Shared→Prop} {s:Shared} {h₀:Heap} {L D:Addr} {m:Str→Option Value} {news news' cold:List (Addr × Obj)} {n:Nat} {ws:List Value} {ds:List Dat}
theorem tC {value slice:Expr} {k:Int} {u:Tok} {Q:Value→Shared→Prop} (N:News h₀ L s.heap news) (hm:(D,W.listOf ws.toArray n)∈news) (hD:DatAll cold ws ds) (h0 : 0≤k) (h1:k < ds.length) (h2:k < 2 ^ 63)
 (h:∀ v d,ws[k.toNat]? = some v→ds[k.toNat]? = some d→DatIn cold v d→Q v s)
 (hs:subscripted slice false (.ref D) (.int k u)=operate [.ref D,.int k u] (getItem (.ref D) (.int k u)):=by with_unfolding_all rfl) :
 wpAny (model prog w) A (subscriptTail value slice (.ref D) (.int k u)) Q E s:=by
 have hl:=hD.length
 have hk:k.toNat < ws.length:=by k_extra "l"
 k_extra "f5"
 k_extra "g5"
 intro d e1 e2
 refine tail_any (hV N hm).typeIs slot_list_getitem.lookup (wpAny_getItem_list (x:=ws[k.toNat]'hk) (hV N hm) h0 h2 ?_ (h _ d hv e1 e2)) hs
 rw [List.getElem?_toArray];exact hv
theorem AD {k:Int} {t:Tok} {v:Value} {Q:Unit→Shared→Prop} (F:Fr h₀ L s.heap m) (N:News h₀ L s.heap news) (U:Upd D (W.listOf ws.toArray n) (W.listOf (ws.set k.toNat v).toArray n) news news') (hl:ws.length=ds.length) (h0 : 0≤k) (h1:k < ds.length) (h2:k < 2 ^ 63)
 (h:∀ h',Fr h₀ L h' m→News h₀ L h' news'→Q () { s with heap:=h' }):wpAny (model prog w) A (setItem (.ref D) (.int k t) v) Q E s:=by
 refine rQ (U.split) ?_
 rintro pre post rfl rfl a b
 have z:=N (D,W.listOf ws.toArray n) (List.mem_append.mpr (.inr (.head _)))
 have hs:ws.toArray.size=ds.length:=by rw [List.size_toArray];exact hl
 refine ki_setAt z.1 h0 h2 (by k_extra "l") (h _ (F.change (Heap.SameBut.update ..) z.2.1 z.2.2) (ki_turn _ N a b ?_ ?_))
 · show ws.toArray.setIfInBounds k.toNat v=(ws.set k.toNat v).toArray
   apply Array.toList_inj.mp
   simp
 · simp
theorem pm {k:Nat} {v u:Value} {a b:Dat} {Q:Value→Shared→Prop} (N:News h₀ L s.heap news) (hs:∀ p∈cold,p∈news) (ha:DatIn cold v a) (hb:DatIn cold u b) (ka:kqdOk k a=true) (kb:kqdOk k b=true) (hc:aY k a b=true) (hu:A.units+2 * k < cLine)
 (h:Q (.bool (dlt k a b)) s):wpAny (model prog w) A (compareOp .Lt v u) Q E s :=
 oZ N k (ha.mono hs) (hb.mono hs) ka kb hc hu prog w E Q h
theorem zc {Q:Value→Shared→Prop} (F:Fr h₀ L s.heap m) (N:News h₀ L s.heap news) (U:Upd D (W.listOf ws.toArray n) (W.listOf ws.dropLast.toArray (n+1)) news news')
 (hz:ds.length≤1000000) (hD:DatAll cold ws ds) (hne : 0 < ds.length) (h:∀ h' v d,Fr h₀ L h' m→News h₀ L h' news'→ds.getLast? = some d→DatIn cold v d→DatAll cold ws.dropLast ds.dropLast→Q v { s with heap:=h' }):wpAny (model prog w) A (call (.builtin "list.pop") [.ref D]) Q E s:=by
 have hl:=hD.length
 have hi:ws.length - 1 < ws.length:=by (exact zal [_,_] 1 qB qA [(1,zu qB,qA)] rfl (zs3 (zae [_,_] 1 (zn 1) qA [(1,qB,qA),(1,zu (zn 0),qB)] rfl (zge hl) hne)))
 have hv:ws[ws.length - 1]? = some (ws[ws.length - 1]'hi):=List.getElem?_eq_getElem hi
 k_extra "g5"
 intro d e1 e2
 refine ve F N U (by exact zae [_,_] 1 qA (zn 1000000) [(1,qA,qB),(1,qB,zn 1000000)] rfl (zle hl) hz) (v:=ws[ws.length - 1]'hi) (by rw [List.getLast?_eq_getElem?];exact hv) fun h' F' N'=>h h' _ d F' N' (by rw [List.getLast?_eq_getElem?,← hl];exact e1) e2 (DatAll.dropLast hD)
theorem AF {o:Obj} {Q:Value→Shared→Prop} (N:News h₀ L s.heap news) (hm:(D,o)∈news) (hc:o.cls = .type "list") (hd:o.data = .seq ws.toArray n) (hz:ws.length≤1000000) (h:Q (.int ws.length (s.toks+1)) { s with toks:=s.toks+1+1 }) :
 wpAny (model prog w) A (call (.builtin "len") [.ref D]) Q E s:=by
 refine len_list (items:=ws.toArray) ⟨_,(N _ hm).1,hc,n,hd⟩ (by rw [List.size_toArray];(exact zmt (zal [_] 1 qA (zn 9223372036854775808) [(1,qA,zn 1000000)] rfl hz))) ?_
 rw [List.size_toArray];exact h
end
noncomputable def iH (l1:Addr) (K:Addr→Nat→(Str→Option Value)→List Value→List (Addr × Obj)→Prop) (rest:List (Addr × Obj)) (i:Nat) (m':Str→Option Value) (nx:List (Addr × Obj)):Prop :=
 ∃ w1 n1 tl,nx=(l1,W.listOf w1.toArray n1)::(tl++rest)∧(∀ p∈tl++rest,p.1≠l1)∧K l1 i m' w1 tl
section
variable {prog:Program} {w:World} {A:Around} {E:Value→Shared→Prop} {s:Shared} {env:Env} {h₀:Heap} {L:Addr} {Q:Flow→Shared→Prop}
theorem gN {test:Expr} {body:List Stmt} {pos:Pos} {m:Str→Option Value} {rest:List (Addr × Obj)} {l1:Addr} {w₀:List Value} {k₀ n₀:Nat}
 (F:Fr h₀ L s.heap m) (N:News h₀ L s.heap ((l1,W.listOf w₀.toArray k₀)::rest)) (hne:∀ p∈rest,p.1≠l1)
 (K:Addr→Nat→(Str→Option Value)→List Value→List (Addr × Obj)→Prop) (hk:K l1 n₀ m w₀ [])
 (turn:∀ n m₁ ws k tl h tk,K l1 n m₁ ws tl→(∀ p∈tl++rest,p.1≠l1)→Fr h₀ L h m₁→News h₀ L h ((l1,W.listOf ws.toArray k)::(tl++rest)) →
  wpAny (model prog w) A (isTrue test env (eval test env)) (fun b s₂ =>
   if b=true then wpAny (model prog w) A (execs body env) (WhileStep2 h₀ L s (iH l1 K rest) Q n) E s₂ else Q .next s₂) E { s with heap:=h,toks:=tk })
 (hE:PassesOwn (model prog w) A env E:=by passes_own) :
 wpAny (model prog w) A (exec (.While test body [] pos) env) Q E s:=by
 refine While_inv2 (iH l1 K rest) F N ⟨_,_,[],rfl,hne,hk⟩ ?_ hE
 intro n m₁ nx h tk F₁ N₁ hr1q
 refine dD (hr1q) ?_
 (try clear hr1q);rintro ws k tl rfl ho hK
 exact turn n m₁ ws k tl h tk hK ho F₁ N₁
theorem iH.intro {l1:Addr} {K:Addr→Nat→(Str→Option Value)→List Value→List (Addr × Obj)→Prop} {rest all:List (Addr × Obj)} {n:Nat} {h':Heap} {tk:Nat} {m':Str→Option Value} (F:Fr h₀ L h' m') (N:News h₀ L h' all)
 (n':Nat) (ws:List Value) (k:Nat) (tl:List (Addr × Obj)) (sub:∀ p∈(l1,W.listOf ws.toArray k)::(tl++rest),p∈all) (ho:∀ p∈tl++rest,p.1≠l1) (hn:n' < n) (hk:K l1 n' m' ws tl) :
 ∃ h'' tk'' m₂ news₂ n'',({ s with heap:=h',toks:=tk }:Shared)={ s with heap:=h'',toks:=tk'' }∧Fr h₀ L h'' m₂∧News h₀ L h'' news₂∧n'' < n∧iH l1 K rest n'' m₂ news₂ :=
 ⟨h',tk,m',_,n',rfl,F,fun p hp=>N p (sub p hp),hn,ws,k,tl,rfl,ho,hk⟩
end
section
variable {α:Type} (lt : α → α→Bool)
noncomputable def cY (start:Nat):Nat→List α→Nat → α→List α
 | 0,l,pos,x=>l.set pos x
 | n+1,l,pos,x =>
  if _h:start < pos then
   match l[(pos - 1) / 2]? with
   | some p=>if lt x p then cY start n (l.set pos p) ((pos - 1) / 2) x else l.set pos x
   | none=>l.set pos x
  else l.set pos x
theorem qg {n pos:Nat} (h:pos≤n+1):(pos - 1) / 2≤n:=Nat.le_trans (Nat.div_le_self _ _) (Nat.sub_le_of_le_add h)
theorem kM {start:Nat}:∀ (n m:Nat) (l:List α) (pos:Nat) (x : α),pos≤n→pos≤m→cY lt start n l pos x=cY lt start m l pos x
 | 0,0,_,_,_,_,_=>rfl
 | 0,m+1,l,pos,x,h,_=>by
  rw [cY,cY,dif_neg (fun q=>Nat.not_lt_zero _ (Nat.lt_of_lt_of_le q h))]
 | n+1,0,l,pos,x,_,h=>by
  rw [cY,cY,dif_neg (fun q=>Nat.not_lt_zero _ (Nat.lt_of_lt_of_le q h))]
 | n+1,m+1,l,pos,x,h1,h2=>by
  rw [cY,cY]
  congr 1;funext _;split
  · rw [kM n m _ _ _ (qg h1) (qg h2)]
  · rfl
noncomputable def bG (start:Nat) (l:List α) (pos:Nat) (x : α):List α:=cY lt start pos l pos x
theorem cO (start:Nat) (l:List α) (pos:Nat) (x : α):bG lt start l pos x =
 if _h:start < pos then
  match l[(pos - 1) / 2]? with
  | some p=>if lt x p then bG lt start (l.set pos p) ((pos - 1) / 2) x else l.set pos x
  | none=>l.set pos x
 else l.set pos x:=by
 cases pos with
 | zero=>rw [dif_neg (Nat.not_lt_zero _)];rfl
 | succ n =>
  unfold bG
  rw [cY]
  congr 1;funext _;split
  · rw [kM lt n _ _ _ _ (qg (Nat.le_refl _)) (Nat.le_refl _)]
  · rfl
noncomputable def bK (l:List α) (pos:Nat):Nat :=
 match l[2 * pos+1]?,l[2 * pos+2]? with
 | some a,some b=>if lt a b then 2 * pos+1 else 2 * pos+2
 | _,_=>2 * pos+1
theorem gB (l:List α) (pos:Nat):pos < bK lt l pos:=by
 unfold bK;split
 · split <;> k_extra "l"
 · (exact zal [_] 1 qA (zu (zk 2 qA)) [] rfl)
noncomputable def fC:Nat→List α→Nat→List α × Nat
 | 0,l,pos=>(l,pos)
 | n+1,l,pos =>
  if _h : 2 * pos+1 < l.length then
   match l[bK lt l pos]? with
   | some c=>fC n (l.set pos c) (bK lt l pos)
   | none=>(l,pos)
  else (l,pos)
theorem nX {n:Nat} {l:List α} {pos:Nat} (h:l.length≤n+1+pos) {c : α}:(l.set pos c).length≤n+bK lt l pos:=by
 rw [List.length_set]
 exact Nat.le_trans h (by rw [Nat.add_assoc,Nat.add_comm 1 pos];exact Nat.add_le_add_left (gB lt l pos) n)
theorem uM {l:List α} {pos:Nat} (h:l.length≤0+pos):¬ 2 * pos+1 < l.length:=fun q=>zar [_,_] [(1,zu (zu (zk 2 qB)),qA),(1,qA,zp (zn 0) qB)] rfl q h
theorem si:∀ (n m:Nat) (l:List α) (pos:Nat),l.length≤n+pos→l.length≤m+pos→fC lt n l pos=fC lt m l pos
 | 0,0,_,_,_,_=>rfl
 | 0,m+1,l,pos,h,_=>by rw [fC,fC,dif_neg (uM h)]
 | n+1,0,l,pos,_,h=>by rw [fC,fC,dif_neg (uM h)]
 | n+1,m+1,l,pos,h1,h2=>by
  rw [fC,fC]
  congr 1;funext _;split
  · exact si n m _ _ (nX lt h1) (nX lt h2)
  · rfl
noncomputable def cF (l:List α) (pos:Nat):List α × Nat:=fC lt l.length l pos
theorem eV (l:List α) (pos:Nat):cF lt l pos =
 if _h : 2 * pos+1 < l.length then
  match l[bK lt l pos]? with
  | some c=>cF lt (l.set pos c) (bK lt l pos)
  | none=>(l,pos)
 else (l,pos):=by
 unfold cF
 cases e:l.length with
 | zero=>rw [dif_neg (Nat.not_lt_zero _)];rfl
 | succ n =>
  rw [fC,e]
  congr 1;funext _;split
  · refine si lt _ _ _ _ (nX lt (by rw [e];exact Nat.le_add_right _ _)) (Nat.le_add_right _ _)
  · rfl
noncomputable def bM (l:List α) (pos:Nat) (x : α):List α:=let r:=cF lt l pos;bG lt pos (r.1.set r.2 x) r.2 x
noncomputable def dI (l:List α) (x : α):List α:=bG lt 0 (l++[x]) l.length x
noncomputable def cZ (l:List α) (d : α) : α × List α :=
 let last:=l.getLastD d
 match l.dropLast with
 | []=>(last,[])
 | a::r=>(a,bM lt (last::r) 0 last)
end
end
section
open LCg
open LCg LCt
section
variable {prog:Program} {w:World} {A:Around} {E:Value→Shared→Prop} {s:Shared} {h₀:Heap} {env:Env} {x:Str} {body:List Stmt} {Q:Flow→Shared→Prop}
theorem xd {I:Addr} {src:List (Addr × Obj)} {n:Nat} {P:Nat→Value→Prop} {m:Str→Option Value} {rest tl₀:List (Addr × Obj)}
 (S:Src prog w A h₀ env.locals s m (tl₀++rest) I src n P) (hsrc:∀ p∈src,p∈rest)
 (K:Nat→(Str→Option Value)→List (Addr × Obj)→Prop) (hk:K 0 m tl₀)
 (turn:∀ i v m₁  tl it h tk,i < n→P i v→K  i m₁ tl→(∀ p∈tl++rest,p.1≠I)→Fr h₀ env.locals h (fun y=>if y=x then some v else m₁ y)→News h₀ env.locals h ((I,it)::(tl++rest)) →
  wpAny (model prog w) A (execs body env) (ia h₀ env.locals I it (gL  K rest (i+1)) { s with heap:=h,toks:=tk } Q) E { s with heap:=h,toks:=tk })
 (done:∀ m₁  tl h tk,K  n m₁ tl→Fr h₀ env.locals h m₁→News h₀ env.locals h ((tl++rest))→Q .next { s with heap:=h,toks:=tk }) :
 LoopAtV prog w A h₀ env x body Q E (.ref I) s:=by
 refine me (S) ?_
 k_extra "ef"
 refine ju W hlive hI hLI hoff hst F N (gL  K rest) ⟨tl₀,rfl,hk⟩ ?_ ?_ ?_
 · intro i m nx hr1q
   refine aE (hr1q) ?_
   (try clear hr1q);rintro tl rfl _
   intro p hp
   exact List.mem_append_right _ (hsrc p hp)
 · intro i v m₁ nx it h tk hi hP hr2q
   refine aE (hr2q) ?_
   (try clear hr2q);rintro tl rfl hK
   intro hoff F₁ N₁
   k_extra "fx"
 · intro m₁ nx h tk hr3q
   refine aE (hr3q) ?_
   (try clear hr3q);rintro tl rfl hK
   intro F₁ N₁
   exact done m₁  tl h tk hK  F₁ N₁
end
section
variable {prog:Program} {w:World} {A:Around} {s:Shared} {h₀:Heap} {L:Addr} {m:Str→Option Value} {env:Env} {elt ct:Expr} {x x₂:Str} {scope:Scope} {cl:List (Str × Addr)} {S:List (Addr × Obj)→Prop} {P:Nat→Value→Prop} {Fin:List Value→List (Addr × Obj)→Prop}
theorem nR {I:Addr} {oI:Obj} {C:Addr} {oC:Obj} {D:Addr} {oD:Obj} {s₁ s₂:Shared} {r r':Value→List (Addr × Obj)→Prop} {y:Value} (h:CompEnd h₀ L m s₁ I oI C oC D oD S r y s₂) (hr:∀ y n,r y n→r' y n):CompEnd h₀ L m s₁ I oI C oC D oD S r' y s₂:=by
 refine CT (h) ?_
 (try clear h);intro h' tk nw a b c d e f
 exact ⟨h',tk,nw,a,b,c,d,e,hr _ _ f⟩
theorem dH {n:Nat} {news:List (Addr × Obj)} (K:Nat→List Value→List (Addr × Obj)→Prop) (h0:K 0 [] news)
 (turn:∀ i ys news',i < n→K i ys news' → ∀ v I oI C oC D m₂ h tk (E':Value→Shared→Prop),P i v→NsObj oC m₂→m₂ x=some v→Fr h₀ L h m→News h₀ L h ((I,oI)::(C,oC)::(D,lst ys)::news')→Off3 I C D news'→((@Ne Nat I C)∧(@Ne Nat I D)∧(@Ne Nat C D)) →
  wpAny (model prog w) A (eval elt (compEnvC scope cl C env)) (CompEnd h₀ L m { s with heap:=h,toks:=tk } I oI C oC D (lst ys) S (fun y news''=>K (i+1) (ys++[y]) news'')) E' { s with heap:=h,toks:=tk })
 (fin:∀ ys news',K n ys news'→Fin ys news'):CompRest prog w A h₀ L m env elt x scope cl s S P Fin n 0 [] news:=by
 have go:∀ (k i:Nat) (ys:List Value) (nw:List (Addr × Obj)),i+k=n→K i ys nw→CompRest prog w A h₀ L m env elt x scope cl s S P Fin k i ys nw:=by
  intro k
  induction k with
  | zero=>intro i ys nw e hk;exact fin _ _ (by rw [← e];exact hk)
  | succ k ih =>
   intro i ys nw e hk v I oI C oC D m₂ h tk E' hP hC hx F N o ne
   exact wpAny_mono (turn i ys nw (by exact zal [_,_,_] 1 qB qA [(1,zp qB (zu qC),qA)] rfl (zle e)) hk v I oI C oC D m₂ h tk E' hP hC hx F N o ne) (fun y s' hy=>nR hy fun y nn hk'=>ih (i+1) _ _ (by exact Nat.le_antisymm (zae [_,_,_] 1 (zp (zu qB) qC) qA [(1,zp qB (zu qC),qA)] rfl (zle e)) (zae [_,_,_] 1 qC (zp (zu qA) qB) [(1,qC,zp qA (zu qB))] rfl (zge e))) hk') fun _ _ e=>e
 k_extra "dt"
end
section
variable {prog:Program} {w:World} {A:Around} {s:Shared} {h₀:Heap} {L:Addr} {m:Str→Option Value} {env:Env} {elt ct:Expr} {x x₂:Str} {scope:Scope} {cl:List (Str × Addr)} {S:List (Addr × Obj)→Prop} {P:Nat→Value→Prop} {Fin:List Value→List (Addr × Obj)→Prop}
theorem rm {n:Nat} {news:List (Addr × Obj)} (K:Nat→List Value→List (Addr × Obj)→Prop) (h0:K 0 [] news)
 (turn:∀ i ys news',i < n→K i ys news' → ∀ v I oI C oC D m₂ h tk (E':Value→Shared→Prop),P i v→NsObj oC m₂→m₂ x=some v→Fr h₀ L h m→News h₀ L h ((I,oI)::(C,oC)::(D,lst ys)::news')→Off3 I C D news'→((@Ne Nat I C)∧(@Ne Nat I D)∧(@Ne Nat C D)) →
  wpAny (model prog w) A (isTrue ct (compEnvC scope cl C env) (eval ct (compEnvC scope cl C env))) (fun ok s'=>if ok=true then
   wpAny (model prog w) A (eval elt (compEnvC scope cl C env)) (CompEnd h₀ L m { s with heap:=h,toks:=tk } I oI C oC D (lst ys) S (fun y news''=>K (i+1) (ys++[y]) news'')) E' s'
   else CompEnd h₀ L m { s with heap:=h,toks:=tk } I oI C oC D (lst ys) S (fun _ news''=>K (i+1) ys news'') Value.none s') E' { s with heap:=h,toks:=tk })
 (fin:∀ ys news',K n ys news'→Fin ys news'):CompRestT prog w A h₀ L m env ct elt x scope cl s S P Fin n 0 [] news:=by
 have go:∀ (k i:Nat) (ys:List Value) (nw:List (Addr × Obj)),i+k=n→K i ys nw→CompRestT prog w A h₀ L m env ct elt x scope cl s S P Fin k i ys nw:=by
  intro k
  induction k with
  | zero=>intro i ys nw e hk;exact fin _ _ (by rw [← e];exact hk)
  | succ k ih =>
   intro i ys nw e hk v I oI C oC D m₂ h tk E' hP hC hx F N o ne
   refine wpAny_mono (turn i ys nw (by exact zal [_,_,_] 1 qB qA [(1,zp qB (zu qC),qA)] rfl (zle e)) hk v I oI C oC D m₂ h tk E' hP hC hx F N o ne) (fun ok s' hy => ?_) fun _ _ e=>e
   cases ok with
   | true=>exact wpAny_mono hy (fun y s' hy=>nR hy fun y nn hk'=>ih (i+1) _ _ (by exact Nat.le_antisymm (zae [_,_,_] 1 (zp (zu qB) qC) qA [(1,zp qB (zu qC),qA)] rfl (zle e)) (zae [_,_,_] 1 qC (zp (zu qA) qB) [(1,qC,zp qA (zu qB))] rfl (zge e))) hk') fun _ _ e=>e
   | false =>
    simp only [Bool.false_eq_true,if_false] at hy ⊢
    exact nR hy fun y nn hk'=>ih (i+1) _ _ (by exact Nat.le_antisymm (zae [_,_,_] 1 (zp (zu qB) qC) qA [(1,zp qB (zu qC),qA)] rfl (zle e)) (zae [_,_,_] 1 qC (zp (zu qA) qB) [(1,qC,zp qA (zu qB))] rfl (zge e))) hk'
 k_extra "dt"
end
theorem z6 (ws:List Value):slicePick ws.toArray none (some (-1)) none=ws.dropLast.toArray:=by
 have:=slicePick_butLast ws.toArray 1 (Nat.le_refl 1)
 rw [show (-((1:Nat):Int)) = -1 from rfl] at this
 rw [this,List.dropLast_eq_take,List.size_toArray]
theorem gT (ws:List Value) (k:Nat):slicePick ws.toArray none (some (k:Int)) none=(ws.take k).toArray:=by
 rw [slicePick_upto']
theorem uK (ws:List Value) (k:Nat):slicePick ws.toArray (some (k:Int)) none none=(ws.drop k).toArray:=by
 rw [slicePick_from']
theorem jh {c:Str} (h:c.length=0):c=Str.ofString "" := by
 obtain ⟨a⟩:=c
 have:a = #[]:=Array.eq_empty_of_size_eq_zero h
 subst this
 exact ofString_empty.symm
section
variable {prog:Program} {w:World} {A:Around} {E:Value→Shared→Prop} {s:Shared} {h₀:Heap} {L D:Addr} {m:Str→Option Value} {news:List (Addr × Obj)} {n:Nat} {ws:List Value} {ys:List Str}
theorem gA {value slice:Expr} {k:Int} {u:Tok} {Q:Value→Shared→Prop} {o:Obj} (N:News h₀ L s.heap news) (hm:(D,o)∈news) (hc:o.cls = .type "list") (hd:o.data = .seq ws.toArray n) (hS:StrsAre ws ys) (h0 : 0≤k) (h1:k < ws.length) (h2:k < 2 ^ 63)
 (h:∀ y t,ws[k.toNat]? = some (.str y t)→ys[k.toNat]? = some y→Q (.str y t) s)
 (hs:subscripted slice false (.ref D) (.int k u)=operate [.ref D,.int k u] (getItem (.ref D) (.int k u)):=by with_unfolding_all rfl) :
 wpAny (model prog w) A (subscriptTail value slice (.ref D) (.int k u)) Q E s:=by
 have hl:s.heap.IsList D ws.toArray:=⟨o,(N _ hm).1,hc,n,hd⟩
 have hk:k.toNat < ws.length:=by k_extra "l"
 k_extra "f5"
 refine aV (hS.item _ _ hv) ?_
 intro y t e1 e2
 rw [e1] at hv
 refine tail_any hl.typeIs slot_list_getitem.lookup (wpAny_getItem_list (x := .str y t) hl h0 h2 ?_ (h _ t hv e2)) hs
 rw [List.getElem?_toArray];exact hv
end
noncomputable def jE (h₀:Heap) (L:Addr) (s:Shared) (X:(Str→Option Value)→List (Addr × Obj)→Prop) (s₂:Shared):Prop :=
 ∃ h' tk m' nx,s₂={ s with heap:=h',toks:=tk }∧Fr h₀ L h' m'∧News h₀ L h' nx∧X m' nx
theorem jE.intro {h₀:Heap} {L:Addr} {s:Shared} {X:(Str→Option Value)→List (Addr × Obj)→Prop} {h':Heap} {tk:Nat} {m':Str→Option Value} {nx:List (Addr × Obj)} (F:Fr h₀ L h' m') (N:News h₀ L h' nx) (x:X m' nx) :
 jE h₀ L s X { s with heap:=h',toks:=tk }:=⟨h',tk,m',nx,rfl,F,N,x⟩
theorem WStep.intro {h₀:Heap} {L:Addr} {s:Shared} {J:Nat→(Str→Option Value)→List (Addr × Obj)→Prop} {Q:Flow→Shared→Prop} {n:Nat} {h':Heap} {tk:Nat} {m':Str→Option Value} {nx:List (Addr × Obj)} (F:Fr h₀ L h' m') (N:News h₀ L h' nx) (n':Nat) (hn:n' < n) (x:J n' m' nx) :
 WhileStep2 h₀ L s J Q n .next { s with heap:=h',toks:=tk }:=⟨h',tk,m',nx,n',rfl,F,N,hn,x⟩
section
variable {prog:Program} {w:World} {A:Around} {E:Value→Shared→Prop} {s:Shared} {env:Env} {h₀:Heap} {L:Addr} {Q:Flow→Shared→Prop}
noncomputable def WQ (h₀:Heap) (L:Addr) (s:Shared) (X:(Str→Option Value)→List (Addr × Obj)→Prop) (Q:Flow→Shared→Prop) (f:Flow) (s₂:Shared):Prop :=
 match f with
 | .ret v=>Q (.ret v) s₂
 | _=>jE h₀ L s X s₂
theorem yn {test:Expr} {body:List Stmt} {pos:Pos} {m:Str→Option Value} {news:List (Addr × Obj)} (J:Nat→(Str→Option Value)→List (Addr × Obj)→Prop) (X:(Str→Option Value)→List (Addr × Obj)→Prop) {n₀:Nat}
 (F:Fr h₀ L s.heap m) (N:News h₀ L s.heap news) (hJ:J n₀ m news)
 (turn:∀ n m₁ news₁ h₁ tk₁,Fr h₀ L h₁ m₁→News h₀ L h₁ news₁→J n m₁ news₁ →
  wpAny (model prog w) A (isTrue test env (eval test env)) (fun b s₂ =>
   if b=true then wpAny (model prog w) A (execs body env) (WhileStep2 h₀ L s J (WQ h₀ L s X Q) n) E s₂ else jE h₀ L s X s₂) E { s with heap:=h₁,toks:=tk₁ })
 (exit:∀ m₁ nx h tk,X m₁ nx→Fr h₀ L h m₁→News h₀ L h nx→Q .next { s with heap:=h,toks:=tk })
 (hE:PassesOwn (model prog w) A env E:=by passes_own) :
 wpAny (model prog w) A (exec (.While test body [] pos) env) Q E s:=by
 have hx:∀ s₂,jE h₀ L s X s₂→Q .next s₂:=by
  intro s₂ hr4q
  refine pC (hr4q) ?_
  (try clear hr4q);rintro h' tk m' nx rfl F N x
  exact exit m' nx h' tk x F N
 refine While_inv2 J F N hJ ?_ hE
 intro n m₁ news₁ h₁ tk₁ F₁ N₁ hJ₁
 refine wpAny_mono (turn n m₁ news₁ h₁ tk₁ F₁ N₁ hJ₁) (fun b s₂ hb => ?_) fun _ _ e=>e
 cases b with
 | false =>
  simp only [Bool.false_eq_true,if_false] at hb ⊢
  exact hx _ hb
 | true =>
  simp only [if_true] at hb ⊢
  refine wpAny_mono hb (fun f s₃ hf => ?_) fun _ _ e=>e
  cases f with
  | next=>exact hf
  | cont=>exact hf
  | brk=>exact hx _ hf
  | ret v=>exact hf
end
section
variable {prog:Program} {w:World} {A:Around} {E:Value→Shared→Prop} {s:Shared} {h₀:Heap} {env:Env}
theorem iT {r:Addr} {b₀:Int} {t₀ u₀ v₀:Tok} {n:Nat} {m:Str→Option Value} {news:List (Addr × Obj)} {Q':Value→Shared→Prop}
 (hh:A.handled=none) (hr:IsRange s.heap r 0 b₀ 1 t₀ u₀ v₀) (hb:b₀=(n:Int)) (hn:n≤1000000)
 (F:Fr h₀ env.locals s.heap m) (N:News h₀ env.locals s.heap news)
 (h:∀ I h',Src prog w A h₀ env.locals { s with heap:=h' } m news I [] n (fun i v => ∃ t,v = .int (i:Int) t)→Q' (.ref I) { s with heap:=h' }) :
 wpAny (model prog w) A (pyIter (.ref r)) Q' E s:=by
 subst hb
 refine v6 hh hr (small_one (by k_extra "l") (by exact zmt (zal [] 1 (zn 0) (zn 4611686018427387904) [] rfl)) (by k_extra "l") (by exact zmt (zal [_] 1 qA (zn 4611686018427387904) [(1,qA,zn 1000000)] rfl hn))) (by rw [rangeSize_nat,Int.sub_zero,Int.toNat_natCast]) F N ?_
 intro I h' S
 have hP:(fun (i:Nat) (v:Value) => ∃ t,v = .int (0+(i:Int)) t)=fun i v => ∃ t,v = .int (i:Int) t:=by
  funext i v;rw [Int.zero_add]
 rw [hP] at S
 exact h I h' S
end
end
section
theorem dU:Slot "map" "__next__" "map.__next__" :=
 .of (owner := "map") (n := "__next__") (by rw [typeLookup_type,builtinLookup_eq_fast];kernel_rfl) (by decide +kernel) (by decide +kernel) (by decide +kernel)
  (by first | exact .inl (by decide +kernel) | exact .inr (by decide +kernel)) (by rw [isSubtype_type];kernel_rfl)
theorem jP:Slot "map" "__iter__" "map.__iter__" :=
 .of (owner := "map") (n := "__iter__") (by rw [typeLookup_type,builtinLookup_eq_fast];kernel_rfl) (by decide +kernel) (by decide +kernel) (by decide +kernel)
  (by first | exact .inl (by decide +kernel) | exact .inr (by decide +kernel)) (by rw [isSubtype_type];kernel_rfl)
theorem ru:Slot "map" "__init__" "object.__init__" :=
 .of (owner := "object") (n := "__init__") (by rw [typeLookup_type,builtinLookup_eq_fast];kernel_rfl) (by decide +kernel) (by decide +kernel) (by decide +kernel)
  (by first | exact .inl (by decide +kernel) | exact .inr (by decide +kernel)) (by rw [isSubtype_type];kernel_rfl)
theorem i7:entryFor table "map.__next__" = some Builtin.«map.__next__» := entryFor_of_tree (by kernel_rfl)
theorem rH:entryFor table "map.__new__" = some Builtin.«map.__new__» := entryFor_of_tree (by kernel_rfl)
theorem qQ:Manifest.owners.lookup (String.ofList ['p','a','m'].reverse)=some Manifest.sig_map:=by kernel_rfl
theorem iF (a:Value):argsOk "map.__next__" ⟨[a],[]⟩:=by
 unfold argsOk;rw [signature?_of (id := "map.__next__") (n:=['_','_','t','x','e','n','_','_']) (o:=['p','a','m']) (by kernel_rfl) qQ];kernel_rfl
theorem pO (a:Value):argsOk "map.__iter__" ⟨[a],[]⟩:=by
 unfold argsOk;rw [signature?_of (id := "map.__iter__") (n:=['_','_','r','e','t','i','_','_']) (o:=['p','a','m']) (by kernel_rfl) qQ];kernel_rfl
theorem qj:entryFor table "map.__iter__" = some Builtin.«dict_keyiterator.__iter__» :=
 entryFor_alias (id' := "dict_keyiterator.__iter__") (by rw [fastTable_eq_tree];kernel_rfl) (by first | rfl | decide +kernel | (unfold String.splitOn;simp +decide [String.splitOnAux])) (by decide +kernel) (by rw [fastTable_eq_tree];kernel_rfl)
theorem u1:mroOf (.type "map")=pure [.type "map",.type "object"]:=by rw [mroOf_type];kernel_rfl
theorem qd:typeLookup (.type "map") "__new__" = pure (some (.builtin "map.__new__")):=by rw [typeLookup_type,builtinLookup_eq_fast];kernel_rfl
theorem wj:TypeCalled "map" "map.__new__" "object.__init__" :=
 ⟨by decide +kernel,by decide +kernel,⟨_,_,u1⟩,madeBy_type u1 qd (by decide +kernel),by decide +kernel,by rw [isSubtype_type];kernel_rfl,ru⟩
theorem pR (a b:Value):checkTypeCall "map" ⟨[a,b],[]⟩=pure ():=by kernel_rfl
theorem rD (a b:Value):checkBuiltinCall "map.__new__" ⟨[.type "map",a,b],[]⟩=pure ():=by kernel_rfl
theorem zY:isSubtype (.type "map") (.type "map")=pure true:=by rw [isSubtype_type];kernel_rfl
theorem vY:typeLookup (.type "map") "__len__" = pure none:=by rw [typeLookup_type,builtinLookup_eq_fast];kernel_rfl
theorem uh:typeLookup (.type "map") "__length_hint__" = pure none:=by rw [typeLookup_type,builtinLookup_eq_fast];kernel_rfl
noncomputable abbrev eE (TI:Addr) (f:Value):Obj:={ cls := .type "map",data := .fields #[.ref TI,f] }
noncomputable abbrev jr (h:Heap) (l:Addr):Heap:=h.push { cls := .type "list_iterator",data := .fields #[.ref l,.int 0 0] }
noncomputable abbrev rL (h:Heap) (l:Addr):Heap:=(jr h l).push { cls := .type "tuple",data := .seq #[.ref h.objs.size] }
noncomputable abbrev CC (h:Heap) (l:Addr) (f:Value):Heap:=(rL h l).push (eE (jr h l).objs.size f)
theorem rF (l:Addr) (xs:Array Value) (f:Addr) :
 Meets (Builtin.«map.__new__» ⟨[.type "map",.ref f,.ref l],[]⟩) (fun _ R s=>s.heap.IsList l xs ∧
  R (.ok (.ret (.ref (rL s.heap l).objs.size))) { s with heap:=CC s.heap l (.ref f) }) :=
 .of_wp fun prog w A R s h=>by
  obtain ⟨hp,g,d,tk,os⟩:=s;obtain ⟨hl1,h⟩:=h
  have hsub:=zY
  have hL1:Heap.IsList (Shared.heap ⟨hp,g,d,tk,os⟩) l xs:=hl1
  wp_walk using wpAny_pyIter_list hL1
  exact ⟨_,rfl,h⟩
end
section
section
variable {prog:Program} {w:World} {A:Around} {E:Value→Shared→Prop} {s:Shared} {h₀:Heap} {L:Addr} {m:Str→Option Value} {news:List (Addr × Obj)}
noncomputable abbrev fF (l:Addr) (i:Nat):Obj:={ cls := .type "list_iterator",data := .fields #[.ref l,.int i 0] }
noncomputable abbrev jd (a:Addr):Obj:={ cls := .type "tuple",data := .seq #[.ref a] }
theorem wk {l f:Addr} {xs:Array Value} {Q:Value→Shared→Prop} (F:Fr h₀ L s.heap m) (N:News h₀ L s.heap news) (hl:s.heap.IsList l xs)
 (h:∀ Z TI I h',Fr h₀ L h' m→News h₀ L h' ((Z,eE TI (.ref f))::(TI,jd I)::(I,fF l 0)::news)→(∀ p∈news,p.1 < I)→I < TI→TI < Z→Q (.ref Z) { s with heap:=h' }) :
 wpAny (model prog w) A (call (.type "map") [.ref f,.ref l]) Q E s:=by
 refine callType_new wj (by decide) (pR _ _) (rD _ _) (fun obj=>PySem.F.args_object_init_3 obj _ _) rH (rF l xs f) ⟨hl,?_⟩
 have z1:(jr s.heap l).objs.size=s.heap.objs.size+1:=Heap.size_push ..
 have z2:(rL s.heap l).objs.size=s.heap.objs.size+2:=by rw [Heap.size_push,z1]
 have N1:=News.push F N (fF l 0)
 have F1:=F.push (fF l 0)
 have N2:=News.push F1 N1 (jd s.heap.objs.size)
 have F2:=F1.push (jd s.heap.objs.size)
 have N3:=News.push F2 N2 (eE (jr s.heap l).objs.size (.ref f))
 have F3:=F2.push (eE (jr s.heap l).objs.size (.ref f))
 refine ⟨⟨_,Heap.get?_push_size _ rfl,rfl⟩,h _ _ _ _ F3 N3 (fun p hp=>Heap.lt_size (N p hp).1) ?_ ?_⟩
 · show s.heap.objs.size < (jr s.heap l).objs.size
   rw [z1];exact Nat.lt_succ_self _
 · show (jr s.heap l).objs.size < (rL s.heap l).objs.size
   rw [z1,z2];exact Nat.lt_succ_self _
theorem rC {Z TI I l:Addr} {f x:Value} {k:Nat} {xs:Array Value} {Q:Option Value→Shared→Prop} (hz:s.heap.get? Z=some (eE TI f)) (hT:s.heap.get? TI=some (jd I)) (hi:s.heap.IsListIter I l k) (hl:s.heap.IsList l xs) (hx:xs[k]? = some x)
 (hZI:Z≠I) (h:∀ h',h'.IsListIter I l (k+1)→Heap.SameBut I s.heap h'→wpAny (model prog w) A.in1 (call f [x]) (fun v s'=>Q (some v) s') (fun _ _=>False) { s with heap:=h' }) :
 wpAny (model prog w) A (pyNext (.ref Z)) Q E s:=by
 have hTy:s.TypeIs (.ref Z) "map" := ⟨_,hz,rfl⟩
 unfold pyNext
 refine wpAny_bind (wpAny_attempt (wpAny_callSpecial?_slot (name:=Str.ofString "__next__") hTy dU
  (wpAny_call_entry dU hTy i7 ?_ (iF _))))
 show wpAny _ _ (field (.ref Z) 0 >>= _) _ _ _
 k_extra "dx"
 refine wpAny_bind (wpAny_seqItems hT rfl ?_)
 k_extra "fc"
 simp only [List.forIn_toArray,List.forIn_cons,List.forIn_nil]
 refine wpAny_bind (wpAny_bind (wpAny_bind (wpAny_holding (wpAny_nextOf_list_item hi hl hx fun h' hi' hs'=>wpAny_pure (wpAny_pure ?_)))))
 refine wpAny_bind (wpAny_field (hs'.extBut _ _ hZI hz) rfl (x:=f) rfl ?_)
 k_extra "ex"
 refine wpAny_mono (h h' hi' hs') (fun v s' hv => ?_) fun _ _ e=>e.elim
 k_extra "g3"
 exact wpAny_pure ⟨v,rfl,wpAny_pure hv⟩
theorem sJ {Z TI I l:Addr} {f:Value} {k:Nat} {xs:Array Value} {Q:Option Value→Shared→Prop} (hh:A.handled=none) (hz:s.heap.get? Z=some (eE TI f)) (hT:s.heap.get? TI=some (jd I)) (hi:s.heap.IsListIter I l k) (hl:s.heap.IsList l xs) (hx:xs[k]? = none)
 (h:∀ h',Heap.ExtBut I s.heap h'→Q none { s with heap:=h' }) :
 wpAny (model prog w) A (pyNext (.ref Z)) Q E s:=by
 have hTy:s.TypeIs (.ref Z) "map" := ⟨_,hz,rfl⟩
 unfold pyNext
 refine wpAny_bind (wpAny_attempt (wpAny_callSpecial?_slot (name:=Str.ofString "__next__") hTy dU
  (wpAny_call_entry dU hTy i7 ?_ (iF _))))
 show wpAny _ _ (field (.ref Z) 0 >>= _) _ _ _
 k_extra "dx"
 refine wpAny_bind (wpAny_seqItems hT rfl ?_)
 k_extra "fc"
 simp only [List.forIn_toArray,List.forIn_cons,List.forIn_nil]
 refine wpAny_bind (wpAny_bind (wpAny_bind (wpAny_holding (wpAny_nextOf_list_end hh hi hl hx fun h' e hs' he => ?_))))
 refine aE (he) ?_
 (try clear he);intro o ho hc
 k_extra "ec"
 exact wpAny_pure (h _ hs')
theorem za {Z TI:Addr} {f:Value} {Q:Value→Shared→Prop} (hz:s.heap.get? Z=some (eE TI f)) (h:Q (.ref Z) s):wpAny (model prog w) A (pyIter (.ref Z)) Q E s:=by
 have hT:s.TypeIs (.ref Z) "map" := ⟨_,hz,rfl⟩
 refine wpAny_pyIter_slot hT jP (wpAny_call_entry jP hT qj ?_ (pO _))
 show wpAny _ _ (ret (.ref Z)) _ _ s
 exact wpAny_pure ⟨_,rfl,"map",_,hT,dU.lookup,h⟩
theorem uk {Z S:Addr} {res:Value} {R:Result→Shared→Prop} {n:Nat} {vals:List Value} (hn:vals.length≤100000) (J:Nat→Shared→Prop)
 (stab:∀ i s h',J i s→(∀ b o,b≠S→s.heap.get? b=some o→h'.get? b=some o)→J i { s with heap:=h' })
 (item:∀ i v s c,vals[i]? = some v→J i s→s.heap.get? S=some (listOf (vals.take i).toArray c) → ∀ (E':Value→Shared→Prop),
  wpAny (model prog w) A.in1 (pyNext (.ref Z)) (fun r s'=>r=some v∧J (i+1) s'∧s'.heap.get? S=some (listOf (vals.take i).toArray c)) E' s)
 (done:∀ s c,J vals.length s→s.heap.get? S=some (listOf vals.toArray c) → ∀ (E':Value→Shared→Prop),
  wpAny (model prog w) A.in1 (pyNext (.ref Z)) (fun r s'=>r=none∧R (.ok (.ret res)) s') E' s) :
 ∀ (k i:Nat) (s:Shared) (c:Nat),vals.length - i=k→i≤vals.length→J i s→s.heap.get? S=some (listOf (vals.take i).toArray c) →
 codeAny (model prog w) A (.builtin "list.extend.loop" ⟨[.ref S,.ref Z,res],[]⟩) R s:=by
 intro k
 induction k with
 | zero =>
  intro i s c hk hi hst hS
  have hin:i=vals.length:=by (exact Nat.le_antisymm (zae [_,_] 1 qB qA [(1,qB,qA)] rfl hi) (zae [_,_,_] 1 qB qA [(1,qC,zn 0),(1,qB,zp qC qA)] rfl (zle hk) (zs2 _ _)))
  subst hin
  rw [List.take_length] at hS
  refine codeAny_builtin PySem.F.entry_extend_loop ?_
  rw [Around.under_plainId PySem.F.plain_extend_loop _]
  show wpAny _ A.in1 (pyNext (.ref Z) >>= _) _ _ s
  refine wpAny_bind (wpAny_mono (done s c hst hS _) (fun r s' hr => ?_) fun _ _ e=>e)
  refine bV (hr) ?_
  (try clear hr);rintro rfl hr
  exact wpAny_pure hr
 | succ k ih =>
  intro i s c hk hi hst hS
  have hlt:i < vals.length:=by (exact zal [_,_,_,_] 1 qB qA [(1,zu qC,qD),(1,zp qD qB,qA)] rfl (zge hk) (zs3 (zae [_,_] 1 qB qA [(1,qB,qA)] rfl hi)))
  refine codeAny_builtin PySem.F.entry_extend_loop ?_
  rw [Around.under_plainId PySem.F.plain_extend_loop _]
  show wpAny _ A.in1 (pyNext (.ref Z) >>= _) _ _ s
  refine wpAny_bind (wpAny_mono (item i vals[i] s c (List.getElem?_eq_getElem hlt) hst hS _) (fun r s' hr => ?_) fun _ _ e=>e)
  refine cA (hr) ?_
  (try clear hr);rintro rfl hJ hS'
  show wpAny _ A.in1 (updateSeq S (·.push vals[i]) >>= _) _ _ _
  refine wpAny_bind ?_
  refine wpAny_updateSeq hS' rfl (wpAny_pure ⟨plainId_quiet PySem.F.plain_extend_loop _,ih (i+1) _ (c+1) (by exact Nat.le_antisymm (zae [_,_,_,_,_] 1 qB qA [(1,qC,zu qA),(1,qD,zp qC qE),(1,zp qB (zu qE),qD)] rfl (zle hk) (zs2 _ _) (zs3 (zae [_,_] 1 (zu qB) qA [(1,zu qB,qA)] rfl hlt))) (zae [_,_,_,_,_] 1 qB qA [(1,zu qB,qC),(1,qD,zp qA (zu qE)),(1,zp qC qE,qD)] rfl (zge hk) (zs2 _ _) (zs3 (zae [_,_] 1 qB qA [(1,zu qB,qA)] rfl hlt)))) hlt (stab _ _ _ hJ fun b o hb e => ?_) ?_⟩) ?_ ?_
  · exact (Heap.get?_update_other _ _ (fun h:S=b=>hb h.symm)).trans e
  · rw [Heap.get?_update_self _ hS' rfl]
    have e:(vals.take i).toArray.push vals[i]=(vals.take (i+1)).toArray:=by
     rw [List.push_toArray,List.take_add_one,List.getElem?_eq_getElem hlt];rfl
    rw [← e]
    exact congrArg some (mapSeq_push _ _ _ _ _)
  · rw [List.size_toArray,List.length_take];exact Nat.le_trans (Nat.min_le_right _ _) (Nat.le_trans hn (by rw [sizeLine_eq];(exact zae [] 1 (zn 100000) (zn 16777216) [] rfl)))
  · show ((vals.take i).toArray.push vals[i]).size≤_
    rw [Array.size_push,List.size_toArray,List.length_take,sizeLine_eq];(exact zae [_,_] 1 (zu qA) (zu (zn 16777216)) [(1,qB,zn 100000),(1,qA,qB)] rfl hn (Nat.min_le_right _ _))
theorem uo {Z:Addr} {Q:List Value→Shared→Prop} {vals:List Value} (hn:vals.length≤100000) (J:Nat→Shared→Prop) (hT:∀ i s,J i s → ∃ o,s.heap.get? Z=some o∧o.cls = .type "map")
 (h0:∀ o h',h'=s.heap.push o→J 0 { s with heap:=h' })
 (stab:∀ i s₁ h',J i s₁→(∀ b o,b≠s.heap.objs.size→s₁.heap.get? b=some o→h'.get? b=some o)→J i { s₁ with heap:=h' })
 (self:∀ i s₁ (Q':Value→Shared→Prop) E',J i s₁→Q' (.ref Z) s₁→wpAny (model prog w) A.in1 (pyIter (.ref Z)) Q' E' s₁)
 (item:∀ i v s₁ c,vals[i]? = some v→J i s₁→s₁.heap.get? s.heap.objs.size=some (listOf (vals.take i).toArray c) → ∀ (E':Value→Shared→Prop),
  wpAny (model prog w) A.in1 (pyNext (.ref Z)) (fun r s'=>r=some v∧J (i+1) s'∧s'.heap.get? s.heap.objs.size=some (listOf (vals.take i).toArray c)) E' s₁)
 (done:∀ s₁ c,J vals.length s₁→s₁.heap.get? s.heap.objs.size=some (listOf vals.toArray c) → ∀ (E':Value→Shared→Prop),
  wpAny (model prog w) A.in1 (pyNext (.ref Z)) (fun r s'=>r=none∧Q vals s'∧s'.heap.get? s.heap.objs.size=some (listOf vals.toArray c)) E' s₁) :
 wpAny (model prog w) A (collect (.ref Z)) Q E s:=by
 unfold collect
 refine wpAny_bind (wpAny_runValue (codeAny_builtin PySem.F.entry_proto_collect ?_))
 rw [Around.under_plainId PySem.F.plain_proto_collect _]
 show wpAny _ A.in1 (newList [] >>= fun l=>again (.builtin "list.__iadd__" ⟨[l,.ref Z],[]⟩)) _ _ s
 k_extra "fo"
 refine wpAny_pure ⟨plainId_quiet PySem.F.plain_list_iadd _,codeAny_builtin PySem.F.entry_list_iadd ?_⟩
 rw [Around.under_plainId PySem.F.plain_list_iadd _]
 have hJ0:=h0 { cls := .type "list",data := .seq ([]:List Value).toArray } _ rfl
 show wpAny _ A.in1 (Builtin.List.listExtendWith (.ref s.heap.objs.size) (.ref Z) (.ref s.heap.objs.size)) _ _ _
 unfold Builtin.List.listExtendWith
 have hT0:=hT 0 _ hJ0
 refine wpAny_bind (wpAny_typeOf (T := "map") hT0 ?_)
 have hS₁:(s.heap.push { cls := .type "list",data := .seq ([]:List Value).toArray }).get? s.heap.objs.size=some { cls := .type "list",data := .seq ([]:List Value).toArray }:=Heap.get?_push_size _ rfl
 have hSZ:s.heap.objs.size≠Z:=fun e=>by
  refine aE (hT0) ?_
  (try clear hT0);intro o ho hc
  rw [← e] at ho
  have:=ho.symm.trans hS₁
  cases this;simp at hc
 have h1:Builtin.List.listSameRef (.ref s.heap.objs.size) (.ref Z)=false:=by simp [Builtin.List.listSameRef,hSZ]
 have h2:(Value.type "map" == Value.type "list")=false:=by decide
 have h3:(Value.type "map" == Value.type "tuple")=false:=by decide
 simp only [h1,h2,h3,Bool.or_false,Bool.false_eq_true,if_false]
 refine wpAny_bind (self 0 _ _ _ hJ0 ?_)
 k_extra "ex"
 unfold Builtin.List.listLengthHint
 refine wpAny_bind (wpAny_specialOf (T := "map") hT0 vY ?_)
 show wpAny _ A.in1 (specialOf (Value.ref Z) (Str.ofString "__length_hint__") >>= _) _ _ _
 refine wpAny_bind (wpAny_specialOf (T := "map") hT0 uh ?_)
 refine wpAny_pure ?_
 show wpAny _ A.in1 (rule "list.extend.makes-room" >>= fun _=>Builtin.List.listTouch (.ref s.heap.objs.size) >>= fun _ =>
  again (.builtin "list.extend.loop" ⟨[.ref s.heap.objs.size,.ref Z,.ref s.heap.objs.size],[]⟩)) _ _ _
 k_extra "fn"
 refine wpAny_bind ?_
 show wpAny _ A.in1 (updateSeq s.heap.objs.size (·.push .none) >>= fun _=>updateSeq s.heap.objs.size (·.pop)) _ _ _
 refine wpAny_bind (wpAny_updateSeq hS₁ rfl ?_)
 have hS₂:=Heap.get?_update_self (Obj.mapSeq (·.push Value.none)) hS₁ rfl
 refine wpAny_updateSeq hS₂ rfl ?_
 have hS₃:=Heap.get?_update_self (Obj.mapSeq (·.pop)) hS₂ rfl
 have oth:∀ b o,b≠s.heap.objs.size→(s.heap.push { cls := .type "list",data := .seq ([]:List Value).toArray }).get? b=some o →
  (((s.heap.push { cls := .type "list",data := .seq ([]:List Value).toArray }).update s.heap.objs.size (Obj.mapSeq (·.push Value.none))).update s.heap.objs.size (Obj.mapSeq (·.pop))).get? b=some o :=
  fun b o hb e=>(Heap.get?_update_other _ _ (Ne.symm hb)).trans ((Heap.get?_update_other _ _ (Ne.symm hb)).trans e)
 refine wpAny_pure ⟨plainId_quiet PySem.F.plain_extend_loop _,uk (n:=0) (vals:=vals) hn J (fun i s₁ h' hJ hk=>stab i s₁ h' hJ hk) item ?_ vals.length 0 _ 2 rfl (Nat.zero_le _) (stab 0 { s with heap:=s.heap.push { cls := .type "list",data := .seq ([]:List Value).toArray } } _ hJ0 oth) hS₃⟩
 intro s₁ c hJ hS E'
 k_extra "gd"
 refine cA (hr) ?_
 (try clear hr);rintro rfl hq hS'
 refine ⟨rfl,?_⟩
 show wpAny _ A (load s.heap.objs.size >>= _) _ _ s'
 refine wpAny_bind (wpAny_load hS' ?_)
 exact wpAny_pure hq
theorem ql {Z:Addr} {Q:Value→Shared→Prop} {vals:List Value} (hn:vals.length≤100000) (J:Nat→Shared→Prop) (hT:∀ i s,J i s → ∃ o,s.heap.get? Z=some o∧o.cls = .type "map") (hJs:J 0 s)
 (h0:∀ o h',h'=s.heap.push o→J 0 { s with heap:=h' })
 (stab:∀ i s₁ h',J i s₁→(∀ b o,b≠s.heap.objs.size→s₁.heap.get? b=some o→h'.get? b=some o)→J i { s₁ with heap:=h' })
 (self:∀ i s₁ (Q':Value→Shared→Prop) E',J i s₁→Q' (.ref Z) s₁→wpAny (model prog w) A.in1.in1.in1 (pyIter (.ref Z)) Q' E' s₁)
 (item:∀ i v s₁ c,vals[i]? = some v→J i s₁→s₁.heap.get? s.heap.objs.size=some (listOf (vals.take i).toArray c) → ∀ (E':Value→Shared→Prop),
  wpAny (model prog w) A.in1.in1.in1 (pyNext (.ref Z)) (fun r s'=>r=some v∧J (i+1) s'∧s'.heap.get? s.heap.objs.size=some (listOf (vals.take i).toArray c)) E' s₁)
 (done:∀ s₁ c,J vals.length s₁→s₁.heap.get? s.heap.objs.size=some (listOf vals.toArray c) → ∀ (E':Value→Shared→Prop),
  wpAny (model prog w) A.in1.in1.in1 (pyNext (.ref Z)) (fun r s'=>r=none∧Q (.ref s'.heap.objs.size) { s' with heap:=s'.heap.push { cls := .type "tuple",data := .seq vals.toArray } }∧s'.heap.get? s.heap.objs.size=some (listOf vals.toArray c)) E' s₁) :
 wpAny (model prog w) A (call (.type "tuple") [.ref Z]) Q E s:=by
 refine callType_codes (Q₁:=fun obj s₁=>s₁.TypeIs obj "tuple" ∧ Q obj s₁) PySem.F.called_tuple (PySem.F.typeCall_tuple_1 _) PySem.F.entry_object_init ?_ fun obj s₁ h₁ => ?_
 · refine codeAny_of_tree ?_
   show wpAny _ A.in1.in1 (do checkBuiltinCall "tuple.__new__" ⟨[.type "tuple",.ref Z],[]⟩;again (.builtin "tuple.__new__" ⟨[.type "tuple",.ref Z],[]⟩)) _ _ s
   refine wpAny_bind (wpAny_of_eq (PySem.F.newCall_tuple_1 _) (wpAny_pure ⟨plainId_quiet PySem.F.plain_tuple_new _,codeAny_builtin PySem.F.entry_tuple_new ?_⟩))
   rw [Around.under_plainId PySem.F.plain_tuple_new _]
   have hsub:=sub_tuple_self
   have hinit:=init_tuple_lookup
   have hmh:=madeHere_tuple
   have hTI:s.TypeIs (.ref Z) "map" := hT 0 s hJs
   wp_walk using wpAny_typeOf hTI,uo (A:=A.in1.in1) hn J hT h0 stab self item
   intro s₁ c hJ hS E'
   k_extra "gd"
   refine cA (hr) ?_
   (try clear hr);rintro rfl hq hS'
   refine ⟨rfl,?_,hS'⟩
   show wpAny _ _ (Builtin.Tuple.tupleExact vals.toArray >>= fun v=>ret v) _ _ _
   unfold Builtin.Tuple.tupleExact
   refine wpAny_bind (wpAny_newObj_type ?_ (by show vals.toArray.size≤sizeLine;rw [List.size_toArray,sizeLine_eq];(exact zae [_] 1 qA (zn 16777216) [(1,qA,zn 100000)] rfl hn)))
   refine wpAny_pure ?_
   exact ⟨⟨_,Heap.get?_push_size _ rfl,rfl⟩,hq⟩
 · exact ⟨h₁.1,PySem.F.args_object_init_2 obj _,object_init_meets PySem.F.called_tuple.init.lookup PySem.F.called_tuple.made (by decide) prog w A.in1 _ s₁ ⟨h₁.1,rfl,h₁.2⟩⟩
end
end
section
section
variable {α:Type} (lt : α → α→Bool)
theorem jX (s:Nat):∀ (p:Nat) (l:List α) (x : α),(bG lt s l p x).length=l.length:=by
 intro p
 induction p using Nat.strongRecOn with
 | ind p ih =>
  intro l x
  rw [cO]
  split
  · rename_i h
    split
    · split
      · rw [ih _ (by exact zal [_,_,_,_] 2 qB qA [(1,zu qC,qA),(1,zk 2 qB,qD),(1,zu qD,qA)] rfl h (zd1 _ _) (zs3 (zae [_,_] 1 (zn 1) qA [(1,zu qB,qA)] rfl h))),List.length_set]
      · rw [List.length_set]
    · rw [List.length_set]
  · rw [List.length_set]
theorem jW (s:Nat):∀ (p:Nat) (l:List α) (x : α),∀ a∈bG lt s l p x,a∈l∨a=x:=by
 intro p
 induction p using Nat.strongRecOn with
 | ind p ih =>
  intro l x a ha
  rw [cO] at ha
  split at ha
  · rename_i h
    split at ha
    · rename_i q hq
      split at ha
      · rcases ih _ (by exact zal [_,_,_,_] 2 qB qA [(1,zu qC,qA),(1,zk 2 qB,qD),(1,zu qD,qA)] rfl h (zd1 _ _) (zs3 (zae [_,_] 1 (zn 1) qA [(1,zu qB,qA)] rfl h))) _ _ a ha with h1 | h1
        · rcases List.mem_or_eq_of_mem_set h1 with h2 | h2
          · exact .inl h2
          · exact .inl (h2 ▸ List.mem_of_getElem? hq)
        · exact .inr h1
      · exact List.mem_or_eq_of_mem_set ha
    · exact List.mem_or_eq_of_mem_set ha
  · exact List.mem_or_eq_of_mem_set ha
theorem wH:∀ (n:Nat) (l:List α) (p:Nat),l.length - p=n→(cF lt l p).1.length=l.length:=by
 intro n
 induction n using Nat.strongRecOn with
 | ind n ih =>
  intro l p hn
  rw [eV]
  split
  · rename_i h
    split
    · have:=gB lt l p
      rw [ih (l.length - bK lt l p) (by k_extra "l") _ _ (by rw [List.length_set]),List.length_set]
    · rfl
  · rfl
theorem wG:∀ (n:Nat) (l:List α) (p:Nat),l.length - p=n → ∀ a∈(cF lt l p).1,a∈l:=by
 intro n
 induction n using Nat.strongRecOn with
 | ind n ih =>
  intro l p hn a ha
  rw [eV] at ha
  split at ha
  · rename_i h
    split at ha
    · rename_i c hc
      have:=gB lt l p
      have h1:=ih (l.length - bK lt l p) (by k_extra "l") _ _ (by rw [List.length_set]) a ha
      rcases List.mem_or_eq_of_mem_set h1 with h2 | h2
      · exact h2
      · exact h2 ▸ List.mem_of_getElem? hc
    · exact ha
  · exact ha
theorem fS (l:List α) (p:Nat) (x : α):(bM lt l p x).length=l.length:=by
 unfold bM
 dsimp only
 rw [jX,List.length_set,wH lt _ l p rfl]
theorem iO (l:List α) (p:Nat) (x : α):∀ a∈bM lt l p x,a∈l∨a=x:=by
 intro a ha
 unfold bM at ha
 dsimp only at ha
 rcases jW lt _ _ _ _ a ha with h | h
 · rcases List.mem_or_eq_of_mem_set h with h2 | h2
   · exact .inl (wG lt _ l p rfl a h2)
   · exact .inr h2
 · exact .inr h
noncomputable def bX (l:List α) (i:Nat):List α:=match l[i]? with | some x=>bM lt l i x | none=>l
noncomputable def cV (l:List α):List α:=(List.range (l.length / 2)).reverse.foldl (bX lt) l
theorem tG (l:List α) (i:Nat):(bX lt l i).length=l.length:=by
 unfold bX;split
 · exact fS lt _ _ _
 · rfl
theorem tF (l:List α) (i:Nat):∀ a∈bX lt l i,a∈l:=by
 unfold bX;split
 · rename_i x hx
   intro a ha
   rcases iO lt _ _ _ a ha with h | h
   · exact h
   · exact h ▸ List.mem_of_getElem? hx
 · exact fun _ h=>h
theorem gK (is:List Nat):∀ (l:List α),(is.foldl (bX lt) l).length=l.length:=by
 induction is with
 | nil=>intro l;rfl
 | cons i is ih=>intro l;rw [List.foldl_cons,ih,tG]
theorem gJ (is:List Nat):∀ (l:List α),∀ a∈is.foldl (bX lt) l,a∈l:=by
 induction is with
 | nil=>intro l a h;exact h
 | cons i is ih=>intro l a h;rw [List.foldl_cons] at h;exact tF lt _ _ a (ih _ a h)
end
theorem sm {N i:Nat} (h:i < N):(List.range N).reverse[i]? = some (N - 1 - i):=by
 rw [List.getElem?_reverse (by simpa using h),List.length_range,List.getElem?_range (by exact zal [_,_,_] 1 qB qA [(1,qB,qC),(1,zu qC,qA)] rfl (zs1 _ _) (zs3 (zae [_,_] 1 (zn 1) qA [(1,zu qB,qA)] rfl h)))]
theorem sL {α:Type} {a b : α} {l:List α}:∀ p∈a::b::l,p∈b::a::l:=fun p hp=>by
 k_extra "ax"
 · exact .tail _ (.head _)
 · k_extra "ax"
   · exact .head _
   · exact .tail _ (.tail _ hp)
theorem yT {α:Type} {a b c : α} {l:List α}:∀ p∈c::a::b::l,p∈a::b::c::l:=fun p hp=>by
 k_extra "ax"
 · k_extra "b4"
 · k_extra "ax"
   · exact .head _
   · k_extra "ax"
     · exact .tail _ (.head _)
     · exact .tail _ (.tail _ (.tail _ hp))
theorem aJ {I:Addr} {q:Addr × Obj} {l:List (Addr × Obj)} (h1:q.1≠I) (h2:∀ p∈l,p.1≠I):∀ p∈q::l,p.1≠I:=fun p hp=>by
 k_extra "ax"
 · exact h1
 · exact h2 p hp
theorem uU {I:Addr} {a b:List (Addr × Obj)} (h1:∀ p∈a,p.1≠I) (h2:∀ p∈b,p.1≠I):∀ p∈a++b,p.1≠I:=fun p hp=>by
 k_extra "be"
 · exact h1 p hp
 · exact h2 p hp
end
section
section
variable {α β:Type} (f : α → β) (lt : β → β→Bool)
noncomputable def gH (a b : α):Bool:=lt (f a) (f b)
theorem kE (s:Nat):∀ (p:Nat) (l:List α) (x : α),bG lt s (l.map f) p (f x)=(bG (gH f lt) s l p x).map f:=by
 intro p
 induction p using Nat.strongRecOn with
 | ind p ih =>
  intro l x
  rw [cO,cO]
  split
  · rename_i h
    rw [List.getElem?_map]
    cases hq:l[(p - 1) / 2]? with
    | none=>simp
    | some q =>
     simp only [Option.map_some]
     show (if lt (f x) (f q)=true then _ else _)=List.map f (if lt (f x) (f q)=true then _ else _)
     split
     · rw [← List.map_set,ih _ (by exact zal [_,_,_,_] 2 qB qA [(1,zu qC,qA),(1,zk 2 qB,qD),(1,zu qD,qA)] rfl h (zd1 _ _) (zs3 (zae [_,_] 1 (zn 1) qA [(1,zu qB,qA)] rfl h)))]
     · rw [List.map_set]
  · rw [List.map_set]
theorem xX (l:List α) (p:Nat):bK lt (l.map f) p=bK (gH f lt) l p:=by
 unfold bK
 rw [List.getElem?_map,List.getElem?_map]
 cases l[2 * p+1]? <;> cases l[2 * p+2]? <;> rfl
theorem yD:∀ (n:Nat) (l:List α) (p:Nat),l.length - p=n→cF lt (l.map f) p=((cF (gH f lt) l p).1.map f,(cF (gH f lt) l p).2):=by
 intro n
 induction n using Nat.strongRecOn with
 | ind n ih =>
  intro l p hn
  rw [eV,eV]
  simp only [List.length_map,xX]
  split
  · rename_i h
    have hc:=gB (gH f lt) l p
    rw [List.getElem?_map]
    cases hq:l[bK (gH f lt) l p]? with
    | none=>simp
    | some q =>
     simp only [Option.map_some]
     rw [← List.map_set,ih (l.length - bK (gH f lt) l p) (by k_extra "l") _ _ (by rw [List.length_set])]
  · rfl
theorem vz (l:List α) (p:Nat) (x : α):bM lt (l.map f) p (f x)=(bM (gH f lt) l p x).map f:=by
 unfold bM
 dsimp only
 rw [yD f lt _ l p rfl]
 dsimp only
 rw [← List.map_set,kE]
theorem yH (l:List α) (x : α):dI lt (l.map f) (f x)=(dI (gH f lt) l x).map f:=by
 unfold dI
 rw [List.length_map,show l.map f++[f x]=(l++[x]).map f by simp,kE]
theorem Aa (l:List α) (d : α):cZ lt (l.map f) (f d)=(f (cZ (gH f lt) l d).1,(cZ (gH f lt) l d).2.map f):=by
 unfold cZ
 have e:(l.map f).getLastD (f d)=f (l.getLastD d):=by
  rw [List.getLastD_eq_getLast?,List.getLastD_eq_getLast?,List.getLast?_map]
  cases l.getLast? <;> rfl
 dsimp only
 rw [e,← List.map_dropLast]
 cases l.dropLast with
 | nil=>rfl
 | cons a r =>
  simp only [List.map_cons]
  rw [← List.map_cons (f:=f),vz]
end
end
section
section
variable {n:Nat} (lt:Nat→Nat→Bool)
noncomputable def SB (a b:Nat):Prop:=lt a b=true∨(lt b a=false∧a < b)
structure SWO (n:Nat) (lt:Nat→Nat→Bool):Prop where
 asym:∀ a b,a < n→b < n→lt a b=true→lt b a=false
 ntr:∀ a b c,a < n→b < n→c < n→lt a c=true→lt a b=true∨lt b c=true
variable {lt}
theorem SB.not {a b:Nat} (W:SWO n lt) (ha:a < n) (hb:b < n) (h:SB lt a b):lt b a=false:=by
 rcases h with h | h
 · exact W.asym a b ha hb h
 · exact h.1
theorem jt (W:SWO n lt) {a b c:Nat} (ha:a < n) (hb:b < n) (hc:c < n) (h1:lt a b=true) (h2:lt c b=false):lt a c=true:=by
 rcases W.ntr a c b ha hc hb h1 with h | h
 · exact h
 · rw [h2] at h;cases h
theorem sN (W:SWO n lt) {a b c:Nat} (ha:a < n) (hb:b < n) (hc:c < n) (h1:lt b a=false) (h2:lt b c=true):lt a c=true:=by
 rcases W.ntr b a c hb ha hc h2 with h | h
 · rw [h1] at h;cases h
 · exact h
theorem SB.trans (W:SWO n lt) {a b c:Nat} (ha:a < n) (hb:b < n) (hc:c < n) (h1:SB lt a b) (h2:SB lt b c):SB lt a c:=by
 rcases h1 with h1 | h1
 · exact .inl (jt W ha hb hc h1 (h2.not W hb hc))
 · rcases h2 with h2 | h2
   · exact .inl (sN W ha hb hc h1.1 h2)
   · refine .inr ⟨?_,Nat.lt_trans h1.2 h2.2⟩
     cases e:lt c a with
     | false=>rfl
     | true =>
      rcases W.ntr c b a hc hb ha e with h | h
      · rw [h2.1] at h;cases h
      · rw [h1.1] at h;cases h
noncomputable abbrev at' (p:Array Nat) (k:Nat):Nat:=p.getD k 0
theorem pN {p q:Array Nat} {i j:Nat} (h:p[i]? = q[j]?):at' p i=at' q j:=by
 unfold at'
 rw [Array.getD_eq_getD_getElem?,Array.getD_eq_getD_getElem?,h]
theorem fZ {p:Array Nat} {i j:Nat} (hj:j≤p.size) (k:Nat):at' (kas_rev p i j) k=if i≤k∧k < j then at' p (i+j - 1 - k) else at' p k:=by
 have e:=getElem?_mirror_all (i:=i) hj k
 by_cases h:i≤k∧k < j
 · rw [if_pos h] at e ⊢;exact pN e
 · rw [if_neg h] at e ⊢;exact pN e
theorem pM {p:Array Nat} {l k:Nat} (hk:k < p.size) (hl:l≤k) (x:Nat):at' (bubble p k (k - l)) x=if x=l then at' p k else if l < x∧x≤k then at' p (x - 1) else at' p x:=by
 have e:=getElem?_bubble hk (k - l) (Nat.sub_le _ _) x
 have hkl:k - (k - l)=l:=by (exact Nat.le_antisymm (zae [_,_,_,_] 1 qB qA [(1,qC,zp qD qA),(1,zp qB qD,qC)] rfl (zs2 _ _) (zs3 (zae [_,_] 1 qB qA [(1,qB,qA)] rfl (zs1 _ _)))) (zae [_,_,_,_] 1 qB qA [(1,qC,zp qA qD),(1,zp qD qB,qC)] rfl (zs2 _ _) (zs3 (zae [_,_] 1 qB qA [(1,qB,qA)] rfl hl))))
 rw [hkl] at e
 by_cases h:x=l
 · rw [if_pos h] at e ⊢;exact pN e
 · rw [if_neg h] at e ⊢
   by_cases h2:l < x∧x≤k
   · rw [if_pos h2] at e ⊢;exact pN e
   · rw [if_neg h2] at e ⊢;exact pN e
structure Pl (n:Nat) (p:Array Nat) (k:Nat):Prop where
 size:p.size=n
 le:k≤n
 pre:∀ a,a < k→at' p a < k
 suf:∀ a,k≤a→a < n→at' p a=a
 perm:p.Perm (List.range n).toArray
noncomputable def Asc (lt:Nat→Nat→Bool) (p:Array Nat) (k:Nat):Prop := ∀ a b,a < b→b < k→SB lt (at' p a) (at' p b)
theorem Pl.lo {p:Array Nat} {k a:Nat} (P:Pl n p k) (ha:a < n):at' p a < n:=by
 by_cases h:a < k
 · exact Nat.lt_of_lt_of_le (P.pre a h) P.le
 · rw [P.suf a (by exact zae [_,_] 1 qB qA [(1,qB,qA)] rfl (zne h)) ha];exact ha
theorem Pl.succ {p:Array Nat} {k:Nat} (P:Pl n p k) (hk:k < n):Pl n p (k+1) where
 size:=P.size
 le:=hk
 pre:=fun a ha=>by
  by_cases h:a < k
  · exact Nat.lt_succ_of_lt (P.pre a h)
  · have:a=k:=by (exact Nat.le_antisymm (zae [_,_] 1 qB qA [(1,zu qB,zu qA)] rfl ha) (zae [_,_] 1 qB qA [(1,qB,qA)] rfl (zne h)))
    rw [this,P.suf k (Nat.le_refl _) hk];exact Nat.lt_succ_self _
 suf:=fun a h1 h2=>P.suf a (by exact zae [_,_] 1 qB qA [(1,zu qB,qA)] rfl h1) h2
 perm:=P.perm
theorem Pl.rev {p:Array Nat} {k i j:Nat} (P:Pl n p k) (hij:i≤j) (hj:j≤k):Pl n (kas_rev p i j) k where
 size:=by rw [kas_rev_size];exact P.size
 le:=P.le
 pre:=fun a ha=>by
  rw [fZ (by rw [P.size];have:=P.le;(exact zae [_,_,_] 1 qB qA [(1,qC,qA),(1,qB,qC)] rfl this hj))]
  split
  · exact P.pre _ (by exact zal [_,_,_,_,_,_] 1 qB qA [(1,qC,qD),(1,qE,qA),(1,zu qF,zp qC qE),(1,zp qB qD,qF)] rfl ‹i≤a∧a < j›.1 hj (zs3 (zae [_,_,_] 1 (zn 1) (zp qA qB) [(1,zu qC,qB)] rfl ‹i≤a∧a < j›.2)) (zs3 (zae [_,_,_,_] 1 qB qA [(1,zu qB,qC),(1,zp qD qC,zu qA)] rfl ‹i≤a∧a < j›.2 (zs2 _ _))))
  · exact P.pre _ ha
 suf:=fun a h1 h2=>by
  rw [fZ (by rw [P.size];have:=P.le;(exact zae [_,_,_,_] 1 qB qA [(1,zu qC,qA),(1,qD,qC),(1,qB,qD)] rfl h2 h1 hj)),if_neg (by k_extra "l")]
  exact P.suf a h1 h2
 perm:=(mirror_perm _ _ _ _).trans P.perm
theorem Pl.bub {p:Array Nat} {k l:Nat} (P:Pl n p k) (hk:k < n) (hl:l≤k):Pl n (bubble p k (k - l)) (k+1) where
 size:=by rw [bubble_size];exact P.size
 le:=hk
 pre:=fun a ha=>by
  have hp:=(P.succ hk).pre
  rw [pM (by rw [P.size];exact hk) hl]
  split
  · exact hp k (Nat.lt_succ_self _)
  · split
    · exact hp _ (by exact zal [_,_,_] 1 qB (zu qA) [(1,zu qC,zu qA),(1,zu qB,qC)] rfl ha (zs3 (zae [_,_] 1 (zn 1) qA [(1,zu qB,qA)] rfl ‹l < a∧a≤k›.1)))
    · exact hp _ ha
 suf:=fun a h1 h2=>by
  rw [pM (by rw [P.size];exact hk) hl,if_neg (by exact Nat.ne_of_gt (zal [_,_,_] 1 qB qA [(1,zu qC,qA),(1,qB,qC)] rfl h1 hl)),if_neg (by k_extra "l")]
  exact P.suf a (by exact zae [_,_] 1 qB qA [(1,zu qB,qA)] rfl h1) h2
 perm:=(bubble_perm _ _ _).trans P.perm
theorem Pl.start (hn : 1≤n):Pl n (List.range n).toArray 1 where
 size:=by simp
 le:=hn
 pre:=fun a ha=>by
  have:a=0:=by (exact Nat.le_antisymm (zae [_] 1 qA (zn 0) [(1,zu qA,zn 1)] rfl ha) (zae [_] 1 (zn 0) qA [] rfl))
  subst this
  simp [at',Array.getD_eq_getD_getElem?]
  have : 0 < n:=hn
  simp [this]
 suf:=fun a h1 h2=>by simp [at',Array.getD_eq_getD_getElem?,h2]
 perm := .refl _
theorem zE {p:Array Nat} {k:Nat} (W:SWO n lt) (P:Pl n p k) (A:Asc lt p k) (hk:k < n) (hk1 : 1≤k) (h:lt (at' p k) (at' p (k - 1))=false):Asc lt p (k+1):=by
 have hl:SB lt (at' p (k - 1)) (at' p k) := .inr ⟨h,by rw [P.suf k (Nat.le_refl _) hk];exact P.pre _ (by exact zal [_,_] 1 qB qA [(1,zu qB,qA)] rfl (zs3 (zae [_] 1 (zn 1) qA [(1,zn 1,qA)] rfl hk1)))⟩
 intro a b hab hb
 by_cases h2:b < k
 · exact A a b hab h2
 · have:b=k:=by (exact Nat.le_antisymm (zae [_,_] 1 qB qA [(1,zu qB,zu qA)] rfl hb) (zae [_,_] 1 qB qA [(1,qB,qA)] rfl (zne h2)))
   subst this
   by_cases h3:a=b - 1
   · rw [h3];exact hl
   · exact (A a (b - 1) (by exact zdi h3 (fun h09=>(zal [_,_] 1 qB qA [(1,zu qB,qA)] rfl h09)) (fun h09=>(False.elim (zar [_,_,_] [(1,zu qA,qB),(1,zu qC,qA),(1,qB,zu qC)] rfl hab h09 (zs2 _ _))))) (by exact zal [_,_] 1 qB qA [(1,zu qB,qA)] rfl (zs3 (zae [_] 1 (zn 1) qA [(1,zn 1,qA)] rfl hk1)))).trans W (P.lo (by exact zal [_,_,_] 1 qB qA [(1,zu qC,qA),(1,zu qB,qC)] rfl hk hab)) (P.lo (by exact zal [_,_,_] 1 qB qA [(1,zu qC,qA),(1,zu qB,qC)] rfl hk (zs3 (zae [_] 1 (zn 1) qA [(1,zn 1,qA)] rfl hk1)))) (P.lo hk) hl
end
section
variable {n:Nat} {lt:Nat→Nat→Bool} {cmp:Nat→Nat→(Bool→Shared→Prop)→Shared→Prop} {s:Shared}
theorem tU (hc:∀ i j C,i < n→j < n→C (lt i j) s→cmp i j C s) (W:SWO n lt) {p:Array Nat} {Q:Nat→Shared→Prop}:∀ (f m:Nat),1≤m→m+f=n→Pl n p m→Asc lt p m →
 (∀ m',m≤m'→m'≤n→Pl n p m'→Asc lt p m'→(m' < n→lt (at' p m') (at' p (m' - 1))=true)→Q m' s)→(kas_asc p f m).kasWp cmp Q s
 | 0,m,h1,hm,P,A,h=>h m (Nat.le_refl _) (by exact zae [_,_] 1 qB qA [(1,zp qB (zn 0),qA)] rfl (zle hm)) P A (fun h=>by (exact False.elim (zar [_,_] [(1,zu qA,qB),(1,qB,zp qA (zn 0))] rfl h (zge hm))))
 | f+1,m,h1,hm,P,A,h=>by
  refine hc _ _ _ (P.lo (by exact zal [_,_,_] 1 qB qA [(1,zp qB (zu qC),qA)] rfl (zle hm))) (P.lo (by exact zal [_,_,_,_] 1 qB qA [(1,zp qC (zu qD),qA),(1,zu qB,qC)] rfl (zle hm) (zs3 (zae [_] 1 (zn 1) qA [(1,zn 1,qA)] rfl h1)))) ?_
  cases e:lt (p.getD m 0) (p.getD (m - 1) 0) with
  | true=>exact h m (Nat.le_refl _) (by exact zae [_,_,_] 1 qB qA [(1,zp qB (zu qC),qA)] rfl (zle hm)) P A (fun _=>e)
  | false =>
   show (kas_asc p f (m+1)).kasWp cmp Q s
   exact tU hc W f (m+1) (by exact zae [_] 1 (zn 1) (zu qA) [] rfl) (by exact Nat.le_antisymm (zae [_,_,_] 1 (zp (zu qB) qC) qA [(1,zp qB (zu qC),qA)] rfl (zle hm)) (zae [_,_,_] 1 qC (zp (zu qA) qB) [(1,qC,zp qA (zu qB))] rfl (zge hm))) (P.succ (by exact zal [_,_,_] 1 qB qA [(1,zp qB (zu qC),qA)] rfl (zle hm))) (zE W P A (by exact zal [_,_,_] 1 qB qA [(1,zp qB (zu qC),qA)] rfl (zle hm)) h1 e) fun m' a b c d e=>h m' (by exact zae [_,_] 1 qB qA [(1,zu qB,qA)] rfl a) b c d e
structure DI (n:Nat) (lt:Nat→Nat→Bool) (p:Array Nat) (k q:Nat):Prop where
 pl:Pl n p k
 le:q+1≤k
 front:∀ a b,a < b→b < k - 1 - q→SB lt (at' p b) (at' p a)
 drop:∀ a b,a < k - 1 - q→k - 1 - q≤b→b < k→lt (at' p b) (at' p a)=true
 block:∀ a b,k - 1 - q≤a→a < b→b < k→lt (at' p a) (at' p b)=false∧lt (at' p b) (at' p a)=false∧at' p a < at' p b
noncomputable def zJ (lt:Nat→Nat→Bool) (p:Array Nat) (k:Nat):Prop := ∀ a b,a < b→b < k→SB lt (at' p b) (at' p a)
theorem DI.rev {p:Array Nat} {k q:Nat} (D:DI n lt p k q):Pl n (kas_rev p (k - (q+1)) k) k∧zJ lt (kas_rev p (k - (q+1)) k) k∧(∀ a,a < k → ∃ b,b < k∧at' (kas_rev p (k - (q+1)) k) a=at' p b):=by
 have hle:=D.le
 have hs:k≤p.size:=by rw [D.pl.size];exact D.pl.le
 have e:k - (q+1)=k - 1 - q:=by k_extra "l"
 refine ⟨D.pl.rev (by exact zae [_,_] 1 qB qA [(1,qB,qA)] rfl (zs1 _ _)) (Nat.le_refl _),fun a b hab hb => ?_,fun a ha => ?_⟩
 · rw [fZ hs,fZ hs]
   by_cases ha:a < k - 1 - q
   · rw [if_neg (c:=k - (q+1)≤a∧a < k) (by k_extra "l")]
     by_cases hb2:b < k - 1 - q
     · rw [if_neg (by k_extra "l")];exact D.front a b hab hb2
     · rw [if_pos (by exact ⟨(zae [_,_,_] 1 qB qA [(1,qC,qA),(1,qB,qC)] rfl (zne hb2) (zle e)),(zal [_,_] 1 qB qA [(1,zu qB,qA)] rfl hb)⟩)];exact .inl (D.drop a _ ha (by exact zae [_,_,_,_,_,_] 1 qB qA [(1,zu qC,qD),(1,qB,qE),(1,zp qE qD,zu qF),(1,qF,zp qA qC)] rfl hb (zge e) (zs2 _ _) (zs2 _ _)) (by exact zal [_,_,_,_,_,_] 1 qB qA [(1,qC,qD),(1,qE,qC),(1,zu qF,zp qE qA),(1,zp qB qD,qF)] rfl (zne hb2) (zle e) (zs3 (zae [_,_,_,_] 1 (zn 1) (zp qA qB) [(1,zu qC,qB),(1,zu qD,qC)] rfl hb hab)) (zs3 (zae [_,_,_,_,_,_] 1 qB qA [(1,zu qC,qD),(1,zu qB,qE),(1,qD,qF),(1,zp qF qE,zu qA)] rfl ha hb (zge e) (zs2 _ _)))))
   · rw [if_pos (c:=k - (q+1)≤a∧a < k) (by exact ⟨(zae [_,_,_] 1 qB qA [(1,qC,qA),(1,qB,qC)] rfl (zne ha) (zle e)),(zal [_,_,_] 1 qB qA [(1,zu qC,qA),(1,zu qB,qC)] rfl hb hab)⟩),if_pos (by exact ⟨(zae [_,_,_,_] 1 qB qA [(1,qC,qD),(1,zu qD,qA),(1,qB,qC)] rfl (zne ha) hab (zle e)),(zal [_,_] 1 qB qA [(1,zu qB,qA)] rfl hb)⟩)]
     have:=D.block (k - (q+1)+k - 1 - b) (k - (q+1)+k - 1 - a) (by exact zae [_,_,_,_,_,_] 1 qB qA [(1,zu qC,qD),(1,qB,qE),(1,zp qE qD,zu qF),(1,qF,zp qA qC)] rfl hb (zge e) (zs2 _ _) (zs2 _ _)) (by exact zal [_,_,_,_,_] 1 qB qA [(1,zu qC,qD),(1,qE,zp qA qC),(1,zp qB qD,qE)] rfl hab (zs2 _ _) (zs3 (zae [_,_,_,_] 1 qB qA [(1,zu qB,qC),(1,zp qD qC,zu qA)] rfl hb (zs2 _ _)))) (by exact zal [_,_,_,_,_,_] 1 qB qA [(1,qC,qD),(1,qE,qC),(1,zu qF,zp qE qA),(1,zp qB qD,qF)] rfl (zne ha) (zle e) (zs3 (zae [_,_,_,_] 1 (zn 1) (zp qA qB) [(1,zu qC,qB),(1,zu qD,qC)] rfl hb hab)) (zs3 (zae [_,_,_,_,_] 1 qB qA [(1,zu qC,qD),(1,zu qB,qC),(1,zp qE qD,zu qA)] rfl hb hab (zs2 _ _))))
     exact .inr ⟨this.2.1,this.2.2⟩
 · rw [fZ hs]
   split
   · exact ⟨_,by (exact zal [_,_,_,_,_] 1 qB qA [(1,qC,qD),(1,zu qE,zp qC qA),(1,zp qB qD,qE)] rfl ‹k - (q+1)≤a∧a < k›.1 (zs3 (zae [_,_,_] 1 (zn 1) (zp qA qB) [(1,zu qC,qB)] rfl ha)) (zs3 (zae [_,_,_,_] 1 qB qA [(1,zu qB,qC),(1,zp qD qC,zu qA)] rfl ha (zs2 _ _)))),rfl⟩
   · exact ⟨a,ha,rfl⟩
theorem DI.desc {p:Array Nat} {k:Nat} (D:DI n lt p k 0):zJ lt p k:=fun a b hab hb=>by
 by_cases h:b < k - 1
 · exact D.front a b hab h
 · exact .inl (D.drop a b (by exact zal [_,_,_,_,_] 1 qB qA [(1,zu qC,qD),(1,zu qB,qC),(1,qD,zu qE),(1,qE,zp qA (zn 0))] rfl hb hab (zs2 _ _) (zs2 _ _)) (by exact zae [_,_,_] 1 qB qA [(1,qC,qA),(1,qB,qC)] rfl (zne h) (zs1 _ _)) hb)
theorem mi (hc:∀ i j C,i < n→j < n→C (lt i j) s→cmp i j C s) (W:SWO n lt) {Q:Array Nat × Nat × Nat→Shared→Prop}:∀ (f:Nat) (p:Array Nat) (k q:Nat),k+f=n→DI n lt p k q →
 (∀ p' k' q',DI n lt p' k' q'→Q (p',k',q') s)→(kas_desc f p k q).kasWp cmp Q s
 | 0,p,k,q,hk,D,h=>h p k q D
 | f+1,p,k,q,hk,D,h=>by
  k_extra "fg"
  have hq:=D.le
  have hkk:=D.pl.suf k (Nat.le_refl _) hkn
  have hl:=D.pl.lo (a:=k - 1) (by exact zal [_,_,_] 1 qB qA [(1,zu qC,qA),(1,zu qB,qC)] rfl hkn (zs3 (zae [_,_] 1 (zn 1) qA [(1,zu qB,qA)] rfl hq)))
  refine hc _ _ _ (D.pl.lo hkn) hl ?_
  show KasT.kasWp cmp (if lt (at' p k) (at' p (k - 1))=true then _ else _) _ s
  cases e:lt (at' p k) (at' p (k - 1)) with
  | true =>
   rw [if_pos rfl]
   have low:∀ a,a < k→lt k (at' p a)=true:=fun a ha=>by
    rw [hkk] at e
    by_cases h1:a < k - 1 - q
    · exact jt W hkn hl (D.pl.lo (by exact zal [_,_,_] 1 qB qA [(1,zu qB,qC),(1,zu qC,qA)] rfl ha hkn)) e (W.asym _ _ hl (D.pl.lo (by exact zal [_,_,_] 1 qB qA [(1,zu qB,qC),(1,zu qC,qA)] rfl ha hkn)) (D.drop a (k - 1) h1 (by exact zae [_,_] 1 qB qA [(1,qB,qA)] rfl (zs1 _ _)) (by exact zal [_,_] 1 qB qA [(1,zu qB,qA)] rfl (zs3 (zae [_,_] 1 (zn 1) qA [(1,zu qB,qA)] rfl ha)))))
    · by_cases h2:a=k - 1
      · rw [h2];exact e
      · exact jt W hkn hl (D.pl.lo (by exact zal [_,_,_] 1 qB qA [(1,zu qB,qC),(1,zu qC,qA)] rfl ha hkn)) e (D.block a (k - 1) (by exact zae [_,_] 1 qB qA [(1,qB,qA)] rfl (zne h1)) (by exact zdi h2 (fun h09=>(zal [_,_] 1 qB qA [(1,zu qB,qA)] rfl h09)) (fun h09=>(False.elim (zar [_,_,_] [(1,zu qA,qB),(1,zu qC,qA),(1,qB,zu qC)] rfl ha h09 (zs2 _ _))))) (by exact zal [_,_] 1 qB qA [(1,zu qB,qA)] rfl (zs3 (zae [_,_] 1 (zn 1) qA [(1,zu qB,qA)] rfl ha)))).1
   by_cases h0:q > 0
   · rw [if_pos h0]
     refine cA (D.rev) ?_
     intro P1 D1 R1
     have hk1:=P1.suf k (Nat.le_refl _) hkn
     refine mi hc W f _ (k+1) 0 (by exact Nat.le_antisymm (zae [_,_,_] 1 (zp (zu qB) qC) qA [(1,zp qB (zu qC),qA)] rfl (zle hk)) (zae [_,_,_] 1 qC (zp (zu qA) qB) [(1,qC,zp qA (zu qB))] rfl (zge hk))) ⟨P1.succ hkn,by (exact zae [_] 1 (zu (zn 0)) (zu qA) [] rfl),fun a b hab hb=>D1 a b hab (by exact zal [_,_,_,_] 1 qB qA [(1,zu qB,qC),(1,qC,qD),(1,zu qD,zu qA)] rfl hb (zs1 _ _) (zs3 (zae [_] 1 (zn 1) (zu qA) [] rfl))),fun a b ha hb hb2 => ?_,fun a b ha hab hb=>by k_extra "l"⟩ h
     k_extra "b8"
     subst this
     rw [hk1]
     refine aE (R1 a (by exact zal [_,_,_] 1 qB qA [(1,qC,qA),(1,zu qB,qC)] rfl hb ha)) ?_
     intro c hc2 ec
     rw [ec];exact low c hc2
   · rw [if_neg h0]
     have hq0:q=0:=by (exact Nat.le_antisymm (zae [_] 1 qA (zn 0) [(1,qA,zn 0)] rfl (zne h0)) (zae [_] 1 (zn 0) qA [] rfl))
     subst hq0
     refine mi hc W f _ (k+1) 0 (by exact Nat.le_antisymm (zae [_,_,_] 1 (zp (zu qB) qC) qA [(1,zp qB (zu qC),qA)] rfl (zle hk)) (zae [_,_,_] 1 qC (zp (zu qA) qB) [(1,qC,zp qA (zu qB))] rfl (zge hk))) ⟨D.pl.succ hkn,by (exact zae [_] 1 (zu (zn 0)) (zu qA) [] rfl),fun a b hab hb=>D.desc a b hab (by exact zal [_,_,_,_] 1 qB qA [(1,zu qB,qC),(1,qC,qD),(1,zu qD,zu qA)] rfl hb (zs1 _ _) (zs3 (zae [_] 1 (zn 1) (zu qA) [] rfl))),fun a b ha hb hb2 => ?_,fun a b ha hab hb=>by k_extra "l"⟩ h
     k_extra "b8"
     subst this
     rw [hkk];exact low a (by exact zal [_,_,_] 1 qB qA [(1,qC,qA),(1,zu qB,qC)] rfl hb ha)
  | false =>
   rw [if_neg (by decide)]
   refine hc _ _ _ hl (D.pl.lo hkn) ?_
   show KasT.kasWp cmp (if lt (at' p (k - 1)) (at' p k)=true then _ else _) _ s
   cases e2:lt (at' p (k - 1)) (at' p k) with
   | true=>rw [if_pos rfl];exact h p k q D
   | false =>
    rw [if_neg (by decide)]
    have hcc:k+1 - 1 - (q+1)=k - 1 - q:=by k_extra "l"
    refine mi hc W f p (k+1) (q+1) (by exact Nat.le_antisymm (zae [_,_,_] 1 (zp (zu qB) qC) qA [(1,zp qB (zu qC),qA)] rfl (zle hk)) (zae [_,_,_] 1 qC (zp (zu qA) qB) [(1,qC,zp qA (zu qB))] rfl (zge hk))) ⟨D.pl.succ hkn,by (exact zae [_,_] 1 (zu (zu qB)) (zu qA) [(1,zu qB,qA)] rfl hq),fun a b hab hb=>D.front a b hab (by exact zal [_,_,_] 1 qB qA [(1,zu qB,qC),(1,qC,qA)] rfl hb (zle hcc)),fun a b ha hb hb2 => ?_,fun a b ha hab hb => ?_⟩ h
    · by_cases h1:b < k
      · exact D.drop a b (by exact zal [_,_,_] 1 qB qA [(1,zu qB,qC),(1,qC,qA)] rfl ha (zle hcc)) (by exact zae [_,_,_] 1 qB qA [(1,qC,qA),(1,qB,qC)] rfl hb (zge hcc)) h1
      · have:b=k:=by (exact Nat.le_antisymm (zae [_,_] 1 qB qA [(1,zu qB,zu qA)] rfl hb2) (zae [_,_] 1 qB qA [(1,qB,qA)] rfl (zne h1)))
        subst this
        exact sN W (D.pl.lo hkn) hl (D.pl.lo (by exact zal [_,_,_,_] 1 qB qA [(1,qC,qD),(1,zu qB,qC),(1,zu qD,qA)] rfl hb ha hkn)) e2 (D.drop a (b - 1) (by exact zal [_,_,_] 1 qB qA [(1,zu qB,qC),(1,qC,qA)] rfl ha (zle hcc)) (by exact zae [_,_] 1 qB qA [(1,qB,qA)] rfl (zs1 _ _)) (by exact zal [_,_] 1 qB qA [(1,zu qB,qA)] rfl (zs3 (zae [_,_] 1 (zn 1) qA [(1,zu qB,qA)] rfl hq))))
    · by_cases h1:b < k
      · exact D.block a b (by exact zae [_,_,_] 1 qB qA [(1,qC,qA),(1,qB,qC)] rfl ha (zge hcc)) hab h1
      · have:b=k:=by (exact Nat.le_antisymm (zae [_,_] 1 qB qA [(1,zu qB,zu qA)] rfl hb) (zae [_,_] 1 qB qA [(1,qB,qA)] rfl (zne h1)))
        subst this
        have han:=D.pl.lo (a:=a) (by exact zal [_,_,_] 1 qB qA [(1,zu qC,qA),(1,zu qB,qC)] rfl hkn hab)
        refine ⟨?_,?_,?_⟩
        · cases e3:lt (at' p a) (at' p b) with
          | false=>rfl
          | true =>
           rcases W.ntr _ (at' p (b - 1)) _ han hl (D.pl.lo hkn) e3 with h5 | h5
           · by_cases h6:a=b - 1
             · rw [h6] at h5;rw [W.asym _ _ hl hl h5] at h5;cases h5
             · rw [(D.block a (b - 1) (by exact zae [_,_,_] 1 qB qA [(1,qC,qA),(1,qB,qC)] rfl ha (zge hcc)) (by exact zdi h6 (fun h09=>(zal [_,_] 1 qB qA [(1,zu qB,qA)] rfl h09)) (fun h09=>(False.elim (zar [_,_,_] [(1,zu qA,qB),(1,zu qC,qA),(1,qB,zu qC)] rfl hab h09 (zs2 _ _))))) (by exact zal [_,_] 1 qB qA [(1,zu qB,qA)] rfl (zs3 (zae [_,_] 1 (zn 1) qA [(1,zu qB,qA)] rfl hq)))).1] at h5;cases h5
           · rw [e2] at h5;cases h5
        · cases e3:lt (at' p b) (at' p a) with
          | false=>rfl
          | true =>
           rcases W.ntr _ (at' p (b - 1)) _ (D.pl.lo hkn) hl han e3 with h5 | h5
           · rw [e] at h5;cases h5
           · by_cases h6:a=b - 1
             · rw [h6] at h5;rw [W.asym _ _ hl hl h5] at h5;cases h5
             · rw [(D.block a (b - 1) (by exact zae [_,_,_] 1 qB qA [(1,qC,qA),(1,qB,qC)] rfl ha (zge hcc)) (by exact zdi h6 (fun h09=>(zal [_,_] 1 qB qA [(1,zu qB,qA)] rfl h09)) (fun h09=>(False.elim (zar [_,_,_] [(1,zu qA,qB),(1,zu qC,qA),(1,qB,zu qC)] rfl hab h09 (zs2 _ _))))) (by exact zal [_,_] 1 qB qA [(1,zu qB,qA)] rfl (zs3 (zae [_,_] 1 (zn 1) qA [(1,zu qB,qA)] rfl hq)))).2.1] at h5;cases h5
        · rw [hkk];exact D.pl.pre a (by exact zal [_,_] 1 qB qA [(1,zu qB,qA)] rfl hab)
theorem sc (hc:∀ i j C,i < n→j < n→C (lt i j) s→cmp i j C s) (W:SWO n lt) {Q:Nat × Array Nat→Shared→Prop} {p:Array Nat} {k:Nat} (hk : 1≤k) (P:Pl n p k) (D:zJ lt p k)
 (h:∀ m p',1≤m→Pl n p' m→Asc lt p' m→Q (m,p') s):(kas_tail3 k n p).kasWp cmp Q s:=by
 unfold kas_tail3
 rw [KasT.kasWp_bind]
 have hs:k≤p.size:=by rw [P.size];exact P.le
 have hkn:=P.le
 refine tU hc W (n - k) k hk (by exact Nat.le_antisymm (zae [_,_,_] 1 (zp qB qC) qA [(1,zp qC qB,qA)] rfl (zs3 (zae [_,_] 1 qB qA [(1,qB,qA)] rfl hkn))) (zae [_,_,_] 1 qC (zp qA qB) [(1,qC,zp qB qA)] rfl (zs2 _ _))) (P.rev (Nat.zero_le _) (Nat.le_refl _)) (fun a b hab hb => ?_) fun m' h1 h2 P' A' _=>h m' _ (by exact zae [_,_] 1 (zn 1) qA [(1,qB,qA),(1,zn 1,qB)] rfl h1 hk) P' A'
 rw [fZ hs,fZ hs,if_pos (by exact ⟨(zae [_] 1 (zn 0) qA [] rfl),(zal [_,_,_] 1 qB qA [(1,zu qC,qA),(1,zu qB,qC)] rfl hb hab)⟩),if_pos (by exact ⟨(zae [_] 1 (zn 0) qA [] rfl),(zal [_,_] 1 qB qA [(1,zu qB,qA)] rfl hb)⟩)]
 exact D _ _ (by exact zal [_,_,_,_,_] 1 qB qA [(1,zu qC,qD),(1,qE,zp qA qC),(1,zp qB qD,qE)] rfl hab (zs2 _ _) (zs3 (zae [_,_,_] 1 qB qA [(1,zu qB,qC),(1,zp (zn 0) qC,zu qA)] rfl hb (zs2 _ _)))) (by exact zal [_,_,_] 1 qB qA [(1,qB,qC),(1,zu qC,zp (zn 0) qA)] rfl (zs1 _ _) (zs3 (zae [_,_,_] 1 (zn 1) (zp (zn 0) qA) [(1,zu qB,qA),(1,zu qC,qB)] rfl hb hab)))
theorem na (hc:∀ i j C,i < n→j < n→C (lt i j) s→cmp i j C s) (W:SWO n lt) {Q:Nat × Array Nat→Shared→Prop} {p:Array Nat} {m:Nat} (hm:m < n) (D:DI n lt p (m+1) 0)
 (h:∀ m p',1≤m→Pl n p' m→Asc lt p' m→Q (m,p') s):(kas_descPart m n p).kasWp cmp Q s:=by
 unfold kas_descPart
 rw [KasT.kasWp_bind]
 refine mi hc W _ p (m+1) 0 (by exact Nat.le_antisymm (zae [_,_,_] 1 (zp (zu qB) qC) qA [(1,zp qC (zu qB),qA)] rfl (zs3 (zae [_,_] 1 (zu qB) qA [(1,zu qB,qA)] rfl hm))) (zae [_,_,_] 1 qC (zp (zu qA) qB) [(1,qC,zp qB (zu qA))] rfl (zs2 _ _))) D fun p' k' q' D' => ?_
 have:=D'.le
 dsimp only
 by_cases h0:q' > 0
 · rw [if_pos h0]
   refine cA (D'.rev) ?_
   intro P1 D1 _
   exact sc hc W (by exact zae [_,_] 1 (zn 1) qA [(1,zu (zn 0),qB),(1,zu qB,qA)] rfl h0 this) P1 D1 h
 · rw [if_neg h0]
   have hq0:q'=0:=by (exact Nat.le_antisymm (zae [_] 1 qA (zn 0) [(1,qA,zn 0)] rfl (zne h0)) (zae [_] 1 (zn 0) qA [] rfl))
   subst hq0
   exact sc hc W (by exact zae [_] 1 (zn 1) qA [(1,zu (zn 0),qA)] rfl this) D'.pl D'.desc h
theorem zz (hc:∀ i j C,i < n→j < n→C (lt i j) s→cmp i j C s) (W:SWO n lt) (hn : 1≤n) {Q:Nat × Array Nat→Shared→Prop}
 (h:∀ m p',1≤m→Pl n p' m→Asc lt p' m→Q (m,p') s):(kas_count n (List.toArray (List.range n))).kasWp cmp Q s:=by
 unfold kas_count
 rw [KasT.kasWp_bind]
 refine tU hc W (n - 1) 1 (Nat.le_refl _) (by exact Nat.le_antisymm (zae [_,_] 1 (zp (zn 1) qB) qA [(1,zu qB,qA)] rfl (zs3 (zae [_] 1 (zn 1) qA [(1,zn 1,qA)] rfl hn))) (zae [_,_] 1 qB (zp (zn 1) qA) [(1,qB,zu qA)] rfl (zs2 _ _))) (Pl.start hn) (fun a b hab hb=>by (exact False.elim (zar [_,_] [(1,zu qA,zn 1),(1,zu qB,qA)] rfl hb hab))) fun m h1 h2 P A hstop => ?_
 have hid:∀ a,a < n→at' (List.range n).toArray a=a:=fun a ha=>by
  by_cases h0 : 1≤a
  · exact (Pl.start hn).suf a h0 ha
  · have:a=0:=by (exact Nat.le_antisymm (zae [_] 1 qA (zn 0) [(1,zu qA,zn 1)] rfl (znt h0)) (zae [_] 1 (zn 0) qA [] rfl))
    subst this
    have:=(Pl.start hn).pre 0 (by exact zal [] 1 (zn 0) (zn 1) [] rfl)
    (exact Nat.le_antisymm (zae [_] 1 qA (zn 0) [(1,zu qA,zn 1)] rfl this) (zae [_] 1 (zn 0) qA [] rfl))
 by_cases hmn:m=n
 · subst hmn
   rw [if_pos (by simp)]
   exact h _ _ h1 P A
 · have hmn2:m < n:=by (exact zdi hmn (fun h09=>(zal [_,_] 1 qB qA [(1,zu qB,qA)] rfl h09)) (fun h09=>(False.elim (zar [_,_] [(1,qA,qB),(1,zu qB,qA)] rfl h2 h09))))
   have hs:=hstop hmn2
   rw [hid m hmn2,hid (m - 1) (by exact zal [_,_,_] 1 qB qA [(1,zu qC,qA),(1,zu qB,qC)] rfl hmn2 (zs3 (zae [_] 1 (zn 1) qA [(1,zn 1,qA)] rfl h1)))] at hs
   rw [if_neg (by simpa using hmn)]
   by_cases hm1:m > 1
   · rw [if_pos hm1]
     refine hc _ _ _ (P.lo (by exact zal [_,_] 1 (zn 0) qA [(1,zu (zn 1),qB),(1,zu qB,qA)] rfl hm1 hmn2)) (P.lo (by exact zal [_,_,_] 1 qB qA [(1,zu qC,qA),(1,zu qB,qC)] rfl hmn2 (zs3 (zae [_] 1 (zn 1) qA [(1,zu (zn 1),qA)] rfl hm1)))) ?_
     show KasT.kasWp cmp (if lt (at' (List.range n).toArray 0) (at' (List.range n).toArray (m - 1))=true then _ else _) _ s
     rw [hid 0 (by exact zal [_,_] 1 (zn 0) qA [(1,zu (zn 1),qB),(1,zu qB,qA)] rfl hm1 hmn2),hid (m - 1) (by exact zal [_,_,_] 1 qB qA [(1,zu qC,qA),(1,zu qB,qC)] rfl hmn2 (zs3 (zae [_] 1 (zn 1) qA [(1,zu (zn 1),qA)] rfl hm1)))]
     cases e:lt 0 (m - 1) with
     | true=>rw [if_pos rfl];exact h _ _ h1 P A
     | false =>
      rw [if_neg (by decide)]
      have A2:∀ a b,a < b→b < m→SB lt a b:=fun a b hab hb=>by
       have:=A a b hab hb
       rwa [hid a (by exact zal [_,_,_,_] 1 qB qA [(1,zu qC,qD),(1,zu qB,qC),(1,zu qD,qA)] rfl hb hab hmn2),hid b (by exact zal [_,_,_] 1 qB qA [(1,zu qB,qC),(1,zu qC,qA)] rfl hb hmn2)] at this
      have eqv:∀ a b,a < b→b < m→lt a b=false:=fun a b hab hb=>by
       cases e3:lt a b with
       | false=>rfl
       | true =>
        have h0b:lt 0 b=true:=by
         by_cases ha0:a=0
         · rw [← ha0];exact e3
         · exact sN W (by exact zal [_,_] 1 (zn 0) qA [(1,zu (zn 1),qB),(1,zu qB,qA)] rfl hm1 hmn2) (by (exact zal [_,_,_,_] 1 qB qA [(1,zu qC,qD),(1,zu qB,qC),(1,zu qD,qA)] rfl hb hab hmn2):a < n) (by exact zal [_,_,_] 1 qB qA [(1,zu qB,qC),(1,zu qC,qA)] rfl hb hmn2) ((A2 0 a (by exact zdi ha0 (fun h09=>(False.elim (zar [_] [(1,zu qA,zn 0)] rfl h09))) (fun h09=>(zal [_] 1 (zn 0) qA [(1,zu (zn 0),qA)] rfl h09))) (by exact zal [_,_,_] 1 qB qA [(1,zu qC,qA),(1,zu qB,qC)] rfl hb hab)).not W (by exact zal [_,_] 1 (zn 0) qA [(1,zu (zn 1),qB),(1,zu qB,qA)] rfl hm1 hmn2) (by exact zal [_,_,_,_] 1 qB qA [(1,zu qC,qD),(1,zu qB,qC),(1,zu qD,qA)] rfl hb hab hmn2)) e3
        by_cases hbm:b=m - 1
        · rw [hbm] at h0b;rw [e] at h0b;cases h0b
        · have:=jt W (by exact zal [_,_] 1 (zn 0) qA [(1,zu (zn 1),qB),(1,zu qB,qA)] rfl hm1 hmn2) (by exact zal [_,_,_] 1 qB qA [(1,zu qB,qC),(1,zu qC,qA)] rfl hb hmn2) (by (exact zal [_,_,_] 1 qB qA [(1,zu qC,qA),(1,zu qB,qC)] rfl hmn2 (zs3 (zae [_] 1 (zn 1) qA [(1,zu (zn 1),qA)] rfl hm1))):m - 1 < n) h0b ((A2 b (m - 1) (by exact zdi hbm (fun h09=>(zal [_,_] 1 qB qA [(1,zu qB,qA)] rfl h09)) (fun h09=>(False.elim (zar [_,_,_] [(1,zu qA,qB),(1,zu qC,qA),(1,qB,zu qC)] rfl hb h09 (zs2 _ _))))) (by exact zal [_,_] 1 qB qA [(1,zu qB,qA)] rfl (zs3 (zae [_] 1 (zn 1) qA [(1,zu (zn 1),qA)] rfl hm1)))).not W (by exact zal [_,_,_] 1 qB qA [(1,zu qB,qC),(1,zu qC,qA)] rfl hb hmn2) (by exact zal [_,_,_] 1 qB qA [(1,zu qC,qA),(1,zu qB,qC)] rfl hmn2 (zs3 (zae [_] 1 (zn 1) qA [(1,zu (zn 1),qA)] rfl hm1))))
          rw [e] at this;cases this
      have hsz:m≤(List.range n).toArray.size:=by simp;(exact zae [_,_] 1 qB qA [(1,zu qB,qA)] rfl hmn2)
      have P1:=P.rev (Nat.zero_le _) (Nat.le_refl m)
      have val:∀ a,a < m→at' (kas_rev (List.range n).toArray 0 m) a=m - 1 - a:=fun a ha=>by
       rw [fZ hsz,if_pos (by exact ⟨(zae [_] 1 (zn 0) qA [] rfl),(zal [_,_] 1 qB qA [(1,zu qB,qA)] rfl ha)⟩),hid _ (by exact zal [_,_,_,_] 1 qB qA [(1,zu qC,qA),(1,qB,qD),(1,zu qD,zp (zn 0) qC)] rfl hmn2 (zs1 _ _) (zs3 (zae [_] 1 (zn 1) (zp (zn 0) qA) [(1,zu (zn 1),qA)] rfl hm1)))];k_extra "l"
      have valm:at' (kas_rev (List.range n).toArray 0 m) m=m:=P1.suf m (Nat.le_refl _) hmn2
      refine na hc W hmn2 ⟨P1.succ hmn2,by (exact zae [_] 1 (zu (zn 0)) (zu qA) [] rfl),fun a b hab hb => ?_,fun a b ha hb hb2 => ?_,fun a b ha hab hb=>by k_extra "l"⟩ h
      · rw [val a (by exact zal [_,_,_,_,_] 1 qB qA [(1,zu qC,qD),(1,zu qB,qC),(1,qD,qE),(1,zu qE,zu qA)] rfl hb hab (zs1 _ _) (zs3 (zae [_] 1 (zn 1) (zu qA) [] rfl))),val b (by exact zal [_,_,_,_] 1 qB qA [(1,zu qB,qC),(1,qC,qD),(1,zu qD,zu qA)] rfl hb (zs1 _ _) (zs3 (zae [_] 1 (zn 1) (zu qA) [] rfl)))]
        exact .inr ⟨(A2 (m - 1 - b) (m - 1 - a) (by exact zal [_,_,_,_,_] 1 qB qA [(1,zu qC,qD),(1,qE,zp qA qC),(1,zp qB qD,qE)] rfl hab (zs2 _ _) (zs3 (zae [_,_,_,_,_] 1 qB qA [(1,zu qB,qC),(1,qD,zu qA),(1,qC,qE),(1,zu qE,zu qD)] rfl hb (zs2 _ _) (zs1 _ _) (zs3 (zae [_] 1 (zn 1) (zu qA) [] rfl))))) (by exact zal [_,_,_] 1 qB qA [(1,qB,qC),(1,zu qC,qA)] rfl (zs1 _ _) (zs3 (zae [_] 1 (zn 1) qA [(1,zu (zn 1),qA)] rfl hm1)))).not W (by exact zal [_,_,_,_] 1 qB qA [(1,zu qC,qA),(1,qB,qD),(1,zu qD,qC)] rfl hmn2 (zs1 _ _) (zs3 (zae [_] 1 (zn 1) qA [(1,zu (zn 1),qA)] rfl hm1))) (by exact zal [_,_,_,_] 1 qB qA [(1,zu qC,qA),(1,qB,qD),(1,zu qD,qC)] rfl hmn2 (zs1 _ _) (zs3 (zae [_] 1 (zn 1) qA [(1,zu (zn 1),qA)] rfl hm1))),by (exact zal [_,_,_,_,_] 1 qB qA [(1,zu qC,qD),(1,qE,zp qA qC),(1,zp qB qD,qE)] rfl hab (zs2 _ _) (zs3 (zae [_,_,_,_,_] 1 qB qA [(1,zu qB,qC),(1,qD,zu qA),(1,qC,qE),(1,zu qE,zu qD)] rfl hb (zs2 _ _) (zs1 _ _) (zs3 (zae [_] 1 (zn 1) (zu qA) [] rfl)))))⟩
      · have:b=m:=by (exact Nat.le_antisymm (zae [_,_] 1 qB qA [(1,zu qB,zu qA)] rfl hb2) (zae [_,_,_,_] 1 qB qA [(1,qC,qA),(1,zu qB,zu qD),(1,qD,zp qC (zn 0))] rfl hb (zs2 _ _) (zs2 _ _)))
        subst this
        rw [val a (by exact zal [_,_,_] 1 qB qA [(1,qC,qA),(1,zu qB,qC)] rfl hb ha),valm]
        by_cases hz:b - 1 - a=b - 1
        · rw [hz];exact hs
        · exact jt W (by exact zal [_,_] 1 qB qA [(1,zu qB,qA)] rfl hmn2) (by (exact zal [_,_,_] 1 qB qA [(1,zu qC,qA),(1,zu qB,qC)] rfl hmn2 (zs3 (zae [_] 1 (zn 1) qA [(1,zu (zn 1),qA)] rfl hm1))):b - 1 < n) (by exact zal [_,_,_,_] 1 qB qA [(1,zu qC,qA),(1,qB,qD),(1,zu qD,qC)] rfl hmn2 (zs1 _ _) (zs3 (zae [_] 1 (zn 1) qA [(1,zu (zn 1),qA)] rfl hm1))) hs (eqv _ _ (by exact zdi hz (fun h09=>(zal [_,_] 1 qB qA [(1,zu qB,qA)] rfl h09)) (fun h09=>(False.elim (zar [_,_] [(1,zu qA,qB),(1,qB,qA)] rfl h09 (zs1 _ _))))) (by exact zal [_,_] 1 qB qA [(1,zu qB,qA)] rfl (zs3 (zae [_] 1 (zn 1) qA [(1,zu (zn 1),qA)] rfl hm1))))
   · rw [if_neg hm1]
     have:m=1:=by (exact Nat.le_antisymm (zae [_] 1 qA (zn 1) [(1,qA,zn 1)] rfl (zne hm1)) (zae [_] 1 (zn 1) qA [(1,zn 1,qA)] rfl h1))
     subst this
     refine na hc W hmn2 ⟨P.succ hmn2,by (exact zae [] 1 (zu (zn 0)) (zu (zn 1)) [] rfl),fun a b hab hb=>by (exact False.elim (zar [_,_,_,_] [(1,zu qA,qB),(1,zu qC,qA),(1,qB,qD),(1,zu qD,zu (zn 1))] rfl hb hab (zs1 _ _) (zs3 (zae [] 1 (zn 1) (zu (zn 1)) [] rfl)))),fun a b ha hb hb2 => ?_,fun a b ha hab hb=>by k_extra "l"⟩ h
     have hb1:b=1:=by (exact Nat.le_antisymm (zae [_] 1 qA (zn 1) [(1,zu qA,zu (zn 1))] rfl hb2) (zae [_,_,_] 1 (zn 1) qA [(1,qB,qA),(1,zu qC,qB)] rfl hb ha))
     have ha0:a=0:=by (exact Nat.le_antisymm (zae [_,_,_] 1 qA (zn 0) [(1,zu qB,zu (zn 1)),(1,qC,qB),(1,zu qA,qC)] rfl hb2 hb ha) (zae [_] 1 (zn 0) qA [] rfl))
     subst hb1 ha0
     rw [hid 1 (by exact zal [_] 1 (zn 1) qA [(1,zu (zn 1),qA)] rfl hmn2),hid 0 (by exact zal [_] 1 (zn 0) qA [(1,zu (zn 1),qA)] rfl hmn2)]
     exact hs
theorem nB (hc:∀ i j C,i < n→j < n→C (lt i j) s→cmp i j C s) (W:SWO n lt) {p:Array Nat} {k:Nat} (P:Pl n p k) (A:Asc lt p k) (hk:k < n) {Q:Nat→Shared→Prop}:∀ (f l r:Nat),l≤r→r≤k→r - l≤f →
 (∀ i,i < l→lt k (at' p i)=false)→(∀ i,r≤i→i < k→lt k (at' p i)=true) →
 (∀ l',l'≤k→(∀ i,i < l'→lt k (at' p i)=false)→(∀ i,l'≤i→i < k→lt k (at' p i)=true)→Q l' s)→(kas_place p k f l r).kasWp cmp Q s
 | 0,l,r,hlr,hrk,hf,h1,h2,h=>h l (by exact zae [_,_,_] 1 qB qA [(1,qC,qA),(1,qB,qC)] rfl hrk hlr) h1 (fun i hi=>h2 i (by exact zae [_,_,_,_] 1 qB qA [(1,qC,qA),(1,qD,zn 0),(1,qB,zp qD qC)] rfl hi hf (zs2 _ _)))
 | f+1,l,r,hlr,hrk,hf,h1,h2,h=>by
  unfold kas_place
  by_cases hge:l ≥ r
  · rw [if_pos hge];exact h l (by exact zae [_,_,_] 1 qB qA [(1,qC,qA),(1,qB,qC)] rfl hrk hlr) h1 (fun i hi=>h2 i (by exact zae [_,_,_] 1 qB qA [(1,qC,qA),(1,qB,qC)] rfl hi hge))
  · rw [if_neg hge]
    have hkk:=P.suf k (Nat.le_refl _) hk
    refine hc _ _ _ (P.lo hk) (P.lo (by exact zal [_,_,_,_,_] 2 qB qA [(1,zu qC,qD),(2,qD,qE),(2,zu qE,qA),(1,zk 2 qB,zp qC qD)] rfl (znt hge) hrk hk (zd1 _ _))) ?_
    show KasT.kasWp cmp (if lt (at' p k) (at' p ((l+r) / 2))=true then _ else _) _ s
    rw [hkk]
    have hmid:at' p ((l+r) / 2) < n:=P.lo (by exact zal [_,_,_,_,_] 2 qB qA [(1,zu qC,qD),(2,qD,qE),(2,zu qE,qA),(1,zk 2 qB,zp qC qD)] rfl (znt hge) hrk hk (zd1 _ _))
    cases e:lt k (at' p ((l+r) / 2)) with
    | true =>
     rw [if_pos rfl]
     refine nB hc W P A hk f l ((l+r) / 2) (by exact zae [_,_,_] 2 qB qA [(1,zu qB,qC),(1,zp qB qC,zu (zk 2 qA))] rfl (znt hge) (zd2 _)) (by exact zae [_,_,_,_] 2 qB qA [(1,zu qC,qD),(2,qD,qA),(1,zk 2 qB,zp qC qD)] rfl (znt hge) hrk (zd1 _ _)) (by exact zae [_,_,_,_,_,_] 2 qB qA [(1,qC,zu qA),(1,zk 2 qD,zp qE qF),(1,qF,zp qC qE),(2,zp qB qE,qD)] rfl hf (zd1 _ _) (zs2 _ _) (zs3 (zae [_,_,_] 2 qB qA [(1,zu qB,qC),(1,zp qB qC,zu (zk 2 qA))] rfl (znt hge) (zd2 _)))) h1 (fun i hi hik => ?_) h
     by_cases hi2:i=(l+r) / 2
     · rw [hi2];exact e
     · exact jt W hk hmid (P.lo (by exact zal [_,_,_] 1 qB qA [(1,zu qB,qC),(1,zu qC,qA)] rfl hik hk)) e ((A _ i (by exact zdi hi2 (fun h09=>(False.elim (zar [_,_] [(1,qA,qB),(1,zu qB,qA)] rfl hi h09))) (fun h09=>(zal [_,_] 1 qB qA [(1,zu qB,qA)] rfl h09))) hik).not W hmid (P.lo (by exact zal [_,_,_] 1 qB qA [(1,zu qB,qC),(1,zu qC,qA)] rfl hik hk)))
    | false =>
     rw [if_neg (by decide)]
     refine nB hc W P A hk f ((l+r) / 2+1) r (by exact zae [_,_,_] 2 (zu qB) qA [(1,zu qC,qA),(1,zk 2 qB,zp qC qA)] rfl (znt hge) (zd1 _ _)) hrk (by exact zae [_,_,_,_,_,_] 2 qB qA [(1,qC,zu qA),(1,zp qD qE,zu (zk 2 qF)),(1,qE,zp qC qD),(2,zp qB (zu qF),qE)] rfl hf (zd2 _) (zs2 _ _) (zs3 (zae [_,_,_] 2 (zu qB) qA [(1,zu qC,qA),(1,zk 2 qB,zp qC qA)] rfl (znt hge) (zd1 _ _)))) (fun i hi => ?_) h2 h
     by_cases hi2:i=(l+r) / 2
     · rw [hi2];exact e
     · cases e2:lt k (at' p i) with
       | false=>rfl
       | true =>
        have:=jt W hk (P.lo (by exact zal [_,_,_,_,_,_] 2 qB qA [(2,zu qB,zu qC),(1,zu qD,qE),(2,qE,qF),(2,zu qF,qA),(1,zk 2 qC,zp qD qE)] rfl hi (znt hge) hrk hk (zd1 _ _))) hmid e2 ((A i ((l+r) / 2) (by exact zdi hi2 (fun h09=>(zal [_,_] 1 qB qA [(1,zu qB,qA)] rfl h09)) (fun h09=>(False.elim (zar [_,_] [(1,zu qA,zu qB),(1,zu qB,qA)] rfl hi h09)))) (by exact zal [_,_,_,_] 2 qB qA [(1,zu qC,qD),(2,qD,qA),(1,zk 2 qB,zp qC qD)] rfl (znt hge) hrk (zd1 _ _))).not W (P.lo (by exact zal [_,_,_,_,_,_] 2 qB qA [(2,zu qB,zu qC),(1,zu qD,qE),(2,qE,qF),(2,zu qF,qA),(1,zk 2 qC,zp qD qE)] rfl hi (znt hge) hrk hk (zd1 _ _))) hmid)
        rw [e] at this;cases this
theorem yi (hc:∀ i j C,i < n→j < n→C (lt i j) s→cmp i j C s) (W:SWO n lt) {Q:Array Nat→Shared→Prop} (h:∀ p,Pl n p n→Asc lt p n→Q p s):∀ (f:Nat) (p:Array Nat) (k:Nat),k+f=n→Pl n p k→Asc lt p k →
 (kas_bin f p k).kasWp cmp Q s
 | 0,p,k,hk,P,A=>by
  have:k=n:=by (exact Nat.le_antisymm (zae [_,_] 1 qB qA [(1,zp qB (zn 0),qA)] rfl (zle hk)) (zae [_,_] 1 qB qA [(1,qB,zp qA (zn 0))] rfl (zge hk)))
  subst this
  exact h p P A
 | f+1,p,k,hk,P,A=>by
  k_extra "fg"
  unfold kas_bin
  rw [KasT.kasWp_bind]
  refine nB hc W P A hkn k 0 k (Nat.zero_le _) (Nat.le_refl _) (by exact zae [_,_] 1 qB qA [(1,qB,qA)] rfl (zs1 _ _)) (fun i hi=>by (exact False.elim (zar [_] [(1,zu qA,zn 0)] rfl hi))) (fun i h1 h2=>by (exact False.elim (zar [_,_] [(1,zu qA,qB),(1,qB,qA)] rfl h2 h1))) fun l hl h1 h2 => ?_
  refine yi hc W h f _ (k+1) (by exact Nat.le_antisymm (zae [_,_,_] 1 (zp (zu qB) qC) qA [(1,zp qB (zu qC),qA)] rfl (zle hk)) (zae [_,_,_] 1 qC (zp (zu qA) qB) [(1,qC,zp qA (zu qB))] rfl (zge hk))) (P.bub hkn hl) fun a b hab hb => ?_
  have hs:k < p.size:=by rw [P.size];exact hkn
  have hkk:=P.suf k (Nat.le_refl _) hkn
  rw [pM hs hl,pM hs hl,hkk]
  by_cases ea:a=l
  · rw [if_pos ea,if_neg (by exact Nat.ne_of_gt (zal [_,_,_] 1 qB qA [(1,qB,qC),(1,zu qC,qA)] rfl (zge ea) hab)),if_pos (by exact ⟨(zal [_,_,_] 1 qB qA [(1,qB,qC),(1,zu qC,qA)] rfl (zge ea) hab),(zae [_,_] 1 qB qA [(1,zu qB,zu qA)] rfl hb)⟩)]
    exact .inl (h2 _ (by exact zae [_,_,_,_] 1 qB qA [(1,qB,qC),(1,zu qC,qD),(1,qD,zu qA)] rfl (zge ea) hab (zs2 _ _)) (by exact zal [_,_,_] 1 qB qA [(1,zu qC,zu qA),(1,zu qB,qC)] rfl hb (zs3 (zae [_,_] 1 (zn 1) qA [(1,zu qB,qA)] rfl hab))))
  · rw [if_neg ea]
    by_cases eb:b=l
    · rw [if_pos eb,if_neg (by k_extra "l")]
      exact .inr ⟨h1 _ (by exact zal [_,_,_] 1 qB qA [(1,qC,qA),(1,zu qB,qC)] rfl (zle eb) hab),P.pre _ (by exact zal [_,_,_] 1 qB qA [(1,zu qC,zu qA),(1,zu qB,qC)] rfl hb hab)⟩
    · rw [if_neg eb]
      by_cases ha:l < a∧a≤k
      · rw [if_pos ha,if_pos (by exact ⟨(zal [_,_,_] 1 qB qA [(1,zu qB,qC),(1,zu qC,qA)] rfl ha.1 hab),(zae [_,_] 1 qB qA [(1,zu qB,zu qA)] rfl hb)⟩)];exact A _ _ (by exact zal [_,_,_,_] 1 qB qA [(1,zu qC,qD),(1,qD,zu qA),(1,zu qB,qC)] rfl hab (zs2 _ _) (zs3 (zae [_,_] 1 (zn 1) qA [(1,zu qB,qA)] rfl ha.1))) (by exact zal [_,_,_] 1 qB qA [(1,zu qC,zu qA),(1,zu qB,qC)] rfl hb (zs3 (zae [_,_,_] 1 (zn 1) qA [(1,zu qB,qC),(1,zu qC,qA)] rfl ha.1 hab)))
      · rw [if_neg ha]
        by_cases hb2:l < b∧b≤k
        · rw [if_pos hb2];exact A _ _ (by k_extra "l") (by exact zal [_,_,_] 1 qB qA [(1,zu qC,zu qA),(1,zu qB,qC)] rfl hb (zs3 (zae [_,_] 1 (zn 1) qA [(1,zu qB,qA)] rfl hab)))
        · rw [if_neg hb2];exact A _ _ (by exact zal [_,_] 1 qB qA [(1,zu qB,qA)] rfl hab) (by k_extra "l")
theorem uL (hc:∀ i j C,i < n→j < n→C (lt i j) s→cmp i j C s) (W:SWO n lt) (hn : 1≤n) {Q:Array Nat→Shared→Prop} (h:∀ p,p.toList.Perm (List.range n)→p.toList.Pairwise (SB lt)→Q p s) :
 (kas_sort n).kasWp cmp Q s:=by
 have fin:∀ p,Pl n p n→Asc lt p n→Q p s:=fun p P A=>by
  refine h p ?_ ?_
  · have:=P.perm
    simpa using Array.perm_iff_toList_perm.mp this
  · rw [List.pairwise_iff_getElem]
    intro i j hi hj hij
    have hi':i < p.size:=by simpa using hi
    have hj':j < p.size:=by simpa using hj
    have:=A i j hij (by rw [← P.size];exact hj')
    have e1:at' p i=p.toList[i]:=by simp [at',Array.getD,hi']
    have e2:at' p j=p.toList[j]:=by simp [at',Array.getD,hj']
    rwa [e1,e2] at this
 unfold kas_sort
 rw [KasT.kasWp_bind]
 refine zz hc W hn fun m p hm P A => ?_
 dsimp only
 have hmx:max m 1=m:=by k_extra "l"
 rw [hmx]
 have hle:=P.le
 by_cases hmn:m < n
 · rw [if_pos hmn]
   exact yi hc W fin (n - m) p m (by exact Nat.le_antisymm (zae [_,_,_] 1 (zp qB qC) qA [(1,zp qC qB,qA)] rfl (zs3 (zae [_,_] 1 qB qA [(1,zu qB,qA)] rfl hmn))) (zae [_,_,_] 1 qC (zp qA qB) [(1,qC,zp qB qA)] rfl (zs2 _ _))) P A
 · rw [if_neg hmn]
   have:m=n:=by (exact Nat.le_antisymm (zae [_,_] 1 qB qA [(1,qB,qA)] rfl hle) (zae [_,_] 1 qB qA [(1,qB,qA)] rfl (zne hmn)))
   subst this
   exact fin p P A
end
end
section
open PySem.SeqAt
section
variable {prog:Program} {w:World} {A:Around} {s:Shared} {h₀:Heap} {L:Addr} {news:List (Addr × Obj)}
noncomputable def ib (b:Bool) (d:Dat):Prop := ∃ x r,d = .tuple (x::r)∧(if b=true then ∃ p,x = .int p else ∃ q,x = .tuple q)
theorem Bk (N:News h₀ L s.heap news) {n:Nat} {b:Bool} {Q:Bool→Shared→Prop} (hu:A.units+2 * n+8 < cLine) :
 ∀ (as:List Dat) {bs:List Dat} {vs us:List Value},DatAll news vs as→DatAll news us bs→(∀ d∈as,kqdOk n d=true)→(∀ d∈bs,kqdOk n d=true)→((as.zip bs).all fun p=>aY n p.1 p.2)=true →
  ∀ (i:Nat),(b=true→i=0 → ∀ x y,as.head? = some x→bs.head? = some y→(∃ p,x = .int p) ∧ ∃ q,y = .int q) →
  ∀ fin,(as.length < bs.length ↔ fin=true)→Q (bN (dlt n) as bs) s→KatLex prog w A b fin Q (vs.zip us) i s
 | [],bs,vs,us,ha,_,_,_,_,i,_,fin,hf,hq=>by
  rw [vc hf] at hq
  rw [show vs=[] from cD ha];exact kat_nil hq
 | a::as,[],vs,us,_,hb,_,_,_,i,_,fin,hf,hq=>by
  rw [u8 hf] at hq
  rw [show us=[] from cD hb,List.zip_nil_right];exact kat_nil hq
 | a::as,c::bs,vs,us,ha,hb,ka,kb,hc,i,hint,fin,hf,hq =>
  cJ (cD ha) fun v vs' ev ha1 ra=>cJ (cD hb) fun u us' eu hb1 rb=>by
  rw [List.zip_cons_cons,List.all_cons,Bool.and_eq_true] at hc
  rw [ev,eu,List.zip_cons_cons]
  refine kat_cons ((xK (A:=A) N ha1 hb1 (ka _ (.head _)) (kb _ (.head _)) (by k_extra "l")) prog w _ _ ?_)
  rw [bN] at hq
  cases he:PyData.eqv (kqdP a) (kqdP c) with
  | true =>
   rw [he,if_pos rfl] at hq
   exact kat_yes (Bk N hu as ra rb (fun d h=>ka d (.tail _ h)) (fun d h=>kb d (.tail _ h)) hc.2 (i+1) (fun _ h=>absurd h (Nat.succ_ne_zero _)) fin (Nat.succ_lt_succ_iff.symm.trans hf) hq)
  | false =>
   rw [he,if_neg Bool.false_ne_true] at hq
   refine kat_no ?_
   cases hbi:(b && i == 0) with
   | true =>
    rw [Bool.and_eq_true,beq_iff_eq] at hbi
    refine bV (hint hbi.1 hbi.2 a c rfl rfl) fun h1 h2=>h1.elim fun p ea=>h2.elim fun q ec => ?_
    refine (fI (ea ▸ ha1)).elim fun t1 e1=>(fI (ec ▸ hb1)).elim fun t2 e2 => ?_
    rw [e1,e2]
    refine oneLt_int ?_
    rw [ea,ec,gY] at hq;exact hq
   | false =>
    refine kat_one _ _ ?_
    exact oZ N n ha1 hb1 (ka _ (.head _)) (kb _ (.head _)) hc.1 (by k_extra "l") prog w _ _ hq
theorem i9 {vs:List Value} {ds:List Dat} (h:DatAll news vs ds) {i:Nat} (hi:i < ds.length):DatIn news (vs.getD i .none) (ds.getD i .none):=by
 refine aE (h.get hi) ?_
 intro v e hv
 rw [List.getD_eq_getElem?_getD,e,List.getD_eq_getElem?_getD,List.getElem?_eq_getElem hi]
 exact hv
theorem bL {α:Type} {ds:List α} {i:Nat} {d : α} (hi:i < ds.length):ds.getD i d∈ds:=by
 rw [List.getD_eq_getElem?_getD,List.getElem?_eq_getElem hi]
 exact List.getElem_mem hi
theorem AQ (N:News h₀ L s.heap news) {k:Nat} {b:Bool} {vs:List Value} {ds:List Dat} (hD:DatAll news vs ds) (hok:∀ d∈ds,kqdOk (k+1) d=true) (hcmp:∀ a∈ds,∀ c∈ds,aY (k+1) a c=true) (ht:∀ d∈ds,ib b d)
 (hu:A.units+2 * k+8 < cLine) {i j:Nat} (hi:i < ds.length) (hj:j < ds.length) {C:Bool→Shared→Prop} (hC:C (dlt (k+1) (ds.getD i .none) (ds.getD j .none)) s):kas_ask prog w A (tuples' b) vs i j C s:=by
 unfold kas_ask
 have d1:=i9 hD hi
 have d2:=i9 hD hj
 have m1:=bL (d:=Dat.none) hi
 have m2:=bL (d:=Dat.none) hj
 generalize vs.getD i .none=v at *
 generalize vs.getD j .none=u at *
 generalize ds.getD i .none=a at *
 generalize ds.getD j .none=c at *
 refine aV (ht a m1) ?_
 rintro x r rfl hx
 refine aV (ht c m2) ?_
 rintro y r' rfl hy
 have ka:=hok _ m1
 have kc:=hok _ m2
 have hc:=hcmp _ m1 _ m2
 cases d1 with
 | tuple hm ra=>cases d2 with
  | tuple hm' rc =>
   refine kat_lt (N.get hm) rfl (N.get hm') rfl ?_
   refine Bk N hu _ ra rc (by simpa [kqdOk] using ka) (by simpa [kqdOk] using kc) (by simpa [aY] using hc) 0 (fun hb _ x' y' e1 e2 => ?_) _ ?_ hC
   · cases e1;cases e2
     rw [if_pos hb] at hx hy
     exact ⟨hx,hy⟩
   · have l1:=ra.length
     have l2:=rc.length
     simp only [List.size_toArray,decide_eq_true_eq,l1,l2]
theorem C4 {cold:List (Addr × Obj)} {v:Value} {ds:List Dat} (h:DatIn cold v (.tuple ds)):∃ a vs n,v = .ref a∧(a,({ cls := .type "tuple",data := .seq vs.toArray n }:Obj))∈cold∧DatAll cold vs ds:=iD h
noncomputable def kTy (b:Bool):String:=if b=true then "int" else "tuple"
theorem uj (N:News h₀ L s.heap news) {b:Bool} {v:Value} {d:Dat} (hd:DatIn news v d) (ht:ib b d):∃ a f fr n,v = .ref a∧(a,({ cls := .type "tuple",data := .seq (List.toArray (f::fr)) n }:Obj))∈news∧Looks (model prog w) s.heap (typeOf f) (.type (kTy b)) :=
 aV ht fun x q e hx=>by
  rw [e] at hd
  refine dD (iD hd) fun a vs n e1 hm r=>cJ (cD r) fun f fr e2 hf _=>⟨a,f,fr,n,e1,e2 ▸ hm,?_⟩
  cases b with
  | true=>exact Exists.elim (show ∃ p,x = .int p from hx) fun p e3=>(fI (e3 ▸ hf)).elim fun t e4=>by rw [e4];exact Looks.of_pure rfl
  | false=>exact Exists.elim (show ∃ p,x = .tuple p from hx) fun p e3=>dD (C4 (ds:=p) (e3 ▸ hf)) fun a2 v2 n2 e4 hm2 _=>by rw [e4];exact (Looks.ld (N.get hm2)).andThen .now
theorem xn (N:News h₀ L s.heap news) {b:Bool} {vs:List Value} {ds:List Dat} (hD:DatAll news vs ds):(∀ d∈ds,ib b d) →
 ∃ fs,KatTups s.heap vs fs∧fs.length=ds.length ∧ ∀ v∈fs,Looks (model prog w) s.heap (typeOf v) (.type (kTy b)) :=
 gZ (P:=fun vs ds=>(∀ d∈ds,ib b d) → ∃ fs,KatTups s.heap vs fs∧fs.length=ds.length ∧ ∀ v∈fs,Looks (model prog w) s.heap (typeOf v) (.type (kTy b)))
  (fun _=>⟨[],KatTups.nil,rfl,fun _ h=>nomatch h⟩)
  (fun v d vs ds hd r ih ht=>cH (ih fun d h=>ht d (.tail _ h)) fun fs h1 h2 h3=>CP (uj (prog:=prog) (w:=w) N hd (ht d (.head _))) fun a f fr n e hm hl =>
   ⟨f::fs,e ▸ KatTups.cons (N.get hm) rfl rfl rfl h1,congrArg Nat.succ h2,fun v hv=>(List.mem_cons.mp hv).elim (fun e=>e ▸ hl) (h3 v)⟩) hD
theorem y4 (N:News h₀ L s.heap news) {b:Bool} {vs:List Value} {ds:List Dat} {E:Value→Shared→Prop} {Q:SortKind→Shared→Prop} (hD:DatAll news vs ds) (ht:∀ d∈ds,ib b d) (hne : 0 < ds.length) (h:Q (tuples' b) s) :
 wpAny (model prog w) A (keyKind' vs.toArray) Q E s:=by
 refine cH (xn (prog:=prog) (w:=w) N hD ht) ?_
 intro fs h1 h2 h3
 refine kat_kind h1 (by exact zal [_,_] 1 (zn 0) qA [(1,qB,qA),(1,zu (zn 0),qB)] rfl (zge h2) hne) h3 (by cases b <;> decide) ?_
 cases b <;> exact h
theorem xo (N:News h₀ L s.heap news) {vs:List Value} {ds:List Dat} {E:Value→Shared→Prop} {Q:SortKind→Shared→Prop} (hD:DatAll news vs ds) (ht:∀ d∈ds,∃ p,d = .int p) (hne : 2≤ds.length) (h:Q oneType' s) :
 wpAny (model prog w) A (keyKind' vs.toArray) Q E s:=by
 have hl:=hD.length
 refine kas_kind (T := .type "int") (by exact zae [_,_] 1 (zn 2) qA [(1,qB,qA),(1,zn 2,qB)] rfl (zge hl) hne) (fun v hv => ?_) (by decide) (by decide) h
 obtain ⟨i,hi,rfl⟩:=List.getElem_of_mem hv
 refine aE (DatAll.at hD (List.getElem?_eq_getElem hi)) ?_
 intro d e hd
 refine bA (ht d (List.mem_of_getElem? e)) ?_
 rintro p rfl
 refine bA (fI hd) ?_
 intro t e2
 rw [e2];exact Looks.of_pure rfl
theorem AR {vs:List Value} {ds:List Dat} (hD:DatAll news vs ds) (ht:∀ d∈ds,∃ p,d = .int p) {k i j:Nat} (hi:i < ds.length) (hj:j < ds.length) {C:Bool→Shared→Prop} (hC:C (dlt k (ds.getD i .none) (ds.getD j .none)) s):kas_ask prog w A oneType' vs i j C s:=by
 unfold kas_ask
 have d1:=i9 hD hi
 have d2:=i9 hD hj
 refine bA (ht _ (bL (d:=Dat.none) hi)) ?_
 intro p e1
 refine bA (ht _ (bL (d:=Dat.none) hj)) ?_
 intro q e2
 generalize vs.getD i .none=v at *
 generalize vs.getD j .none=u at *
 rw [e1] at d1 hC
 rw [e2] at d2 hC
 have e:dlt k (.int p) (.int q)=decide (p < q):=by cases k <;> rfl
 rw [e] at hC
 cases d1;cases d2
 exact kat_lt_int hC
noncomputable def bC (k:Nat) (ds:List Dat) (i j:Nat):Bool:=dlt k (ds.getD i .none) (ds.getD j .none)
noncomputable def bB (k:Nat) (ks ds es:List Dat):Prop := ∃ p:List Nat,p.Perm (List.range ks.length)∧p.Pairwise (SB (bC k ks))∧es=p.map fun i=>ds.getD i .none
theorem jC {vs:List Value} {ds:List Dat} (hD:DatAll news vs ds):∀ (p:List Nat),(∀ i∈p,i < ds.length)→DatAll news (p.map fun i=>vs.getD i .none) (p.map fun i=>ds.getD i .none)
 | [],_ => .nil
 | i::p,h => .cons (i9 hD (h i (.head _))) (jC hD p (fun j hj=>h j (.tail _ hj)))
structure Sortable (k:Nat) (ds:List Dat):Prop where
 ok:∀ d∈ds,kqdOk (k+1) d=true
 cmp:∀ a∈ds,∀ c∈ds,aY (k+1) a c=true
 swo:SWO ds.length (bC (k+1) ds)
 kind:(∃ b,∀ d∈ds,ib b d) ∨ ∀ d∈ds,∃ p,d = .int p
theorem nv (N:News h₀ L s.heap news) {k:Nat} {vs:List Value} {ds:List Dat} (hD:DatAll news vs ds) (S:Sortable k ds) (h2 : 2≤ds.length) (hu:A.units+2 * k+8 < cLine) {Q:Array Nat→Shared→Prop} {E:Value→Shared→Prop}
 (h:∀ p:Array Nat,p.toList.Perm (List.range ds.length)→p.toList.Pairwise (SB (bC (k+1) ds))→Q p s) :
 wpAny (model prog w) A (keyKind' vs.toArray) (fun κ s'=>(kas_sort vs.length).kasWp (kas_ask prog w A κ vs) Q s') E s:=by
 have hl:=hD.length
 rcases S.kind with ⟨b,hb⟩ | hi
 · refine y4 N hD hb (by exact zal [_] 1 (zn 0) qA [(1,zn 2,qA)] rfl h2) ?_
   rw [hl]
   exact uL (fun i j C hi hj hC=>AQ N hD S.ok S.cmp hb hu hi hj hC) S.swo (by exact zae [_] 1 (zn 1) qA [(1,zn 2,qA)] rfl h2) h
 · refine xo N hD hi (by exact zae [_] 1 (zn 2) qA [(1,zn 2,qA)] rfl h2) ?_
   rw [hl]
   exact uL (fun i j C hi' hj hC=>AR hD hi hi' hj hC) S.swo (by exact zae [_] 1 (zn 1) qA [(1,zn 2,qA)] rfl h2) h
end
section
variable {prog:Program} {w:World} {A:Around} {E:Value→Shared→Prop} {s:Shared} {h₀:Heap} {L l:Addr} {m:Str→Option Value} {news cold:List (Addr × Obj)}
theorem oq {k c:Nat} {vs:List Value} {ds:List Dat} {Q:Value→Shared→Prop} (F:Fr h₀ L s.heap m) (N:News h₀ L s.heap news) (hm:(l,listOf vs.toArray c)∈news) (hD:DatAll cold vs ds) (hs:∀ p∈cold,p∈news) (S:Sortable k ds) (h2 : 2≤ds.length) (h64:ds.length < 64)
 (hu:A.units+2 * k+16 < cLine)
 (ret:∀ D us es c h',Fr h₀ L h' m→News h₀ L h' ((D,listOf us.toArray c)::news)→(∀ p∈news,p.1 < D)→DatAll cold us es→bB (k+1) ds ds es→Q (.ref D) { s with heap:=h' }) :
 wpAny (model prog w) A (call (.builtin "sorted") [.ref l]) Q E s:=by
 have hl:=hD.length
 refine kat_sorted F N ⟨_,(N _ hm).1,rfl,_,rfl⟩ (by exact zae [_,_] 1 (zn 2) qA [(1,qB,qA),(1,zn 2,qB)] rfl (zge hl) h2) (by exact zal [_,_] 1 qA (zn 64) [(1,qA,qB),(1,zu qB,zn 64)] rfl (zle hl) h64) fun D e1 h' F' N' l1 => ?_
 refine nv N' (hD.mono fun p hp => .tail _ (hs p hp)) S h2 (by show A.units+1+1+_+_ < _;(exact zal [_,_,_] 1 (zp (zp (zu (zu qB)) (zk 2 qC)) (zn 8)) qA [(1,zu (zp (zp qB (zk 2 qC)) (zn 16)),qA)] rfl hu)) fun p hp hw => ?_
 refine KasFin.intro F' N' (UpdF.head fun q hq=>Nat.ne_of_lt (l1 q hq)) fun h2 c2 F2 N2 => ?_
 exact ret D _ _ c2 h2 F2 N2 l1 (jC hD p.toList fun i hi=>by simpa using (hp.mem_iff.mp hi)) ⟨_,hp,hw,rfl⟩
theorem xc {k c:Nat} {vs:List Value} {ds:List Dat} {Q:Value→Shared→Prop} (F:Fr h₀ L s.heap m) (N:News h₀ L s.heap ((l,listOf vs.toArray c)::news)) (hne:∀ p∈news,p.1≠l) (hD:DatAll cold vs ds) (hs:∀ p∈cold,p∈news) (S:Sortable k ds) (h2 : 2≤ds.length) (h64:ds.length < 64)
 (hu:A.units+2 * k+16 < cLine)
 (ret:∀ us es c h',Fr h₀ L h' m→News h₀ L h' ((l,listOf us.toArray c)::news)→DatAll cold us es→bB (k+1) ds ds es→Q .none { s with heap:=h' }) :
 wpAny (model prog w) A (call (.builtin "list.sort") [.ref l]) Q E s:=by
 have hl:=hD.length
 refine kat_lsort F N (UpdF.head hne) (List.toList_toArray ..) (by exact zae [_,_] 1 (zn 2) qA [(1,qB,qA),(1,zn 2,qB)] rfl (zge hl) h2) (by exact zal [_,_] 1 qA (zn 64) [(1,qA,qB),(1,zu qB,zn 64)] rfl (zle hl) h64) fun e1 h' F' N' => ?_
 refine nv N' (hD.mono fun p hp => .tail _ (hs p hp)) S h2 (by show A.units+1+_+_ < _;(exact zal [_,_,_] 1 (zp (zp (zu qB) (zk 2 qC)) (zn 8)) qA [(1,zu (zp (zp qB (zk 2 qC)) (zn 16)),qA)] rfl hu)) fun p hp hw => ?_
 refine KasFin.intro F' N' (UpdF.head hne) fun h2 c2 F2 N2 => ?_
 exact ret _ _ c2 h2 F2 N2 (jC hD p.toList fun i hi=>by simpa using (hp.mem_iff.mp hi)) ⟨_,hp,hw,rfl⟩
noncomputable def mj (prog:Program) (w:World) (A:Around) (h₀:Heap) (L:Addr) (m:Str→Option Value) (base:List (Addr × Obj)) (f:Value) (v:Value) (d:Dat):Prop :=
 ∀ (s:Shared) (led:List (Addr × Obj)) (Q:Value→Shared→Prop) (E:Value→Shared→Prop),Fr h₀ L s.heap m→(∀ p∈base,p∈led)→News h₀ L s.heap led →
  (∀ u tl h tk,Fr h₀ L h m→News h₀ L h (tl++led)→(∀ p∈tl,∀ q∈led,q.1 < p.1)→DatIn tl u d→Q u { s with heap:=h,toks:=tk })→wpAny (model prog w) A (call f [v]) Q E s
theorem jc {d:Addr} {o:Obj} {r:List (Addr × Obj)} (hr:∀ p∈r,p.1≠d):∀ (pre:List (Addr × Obj)),(∀ p∈pre,p.1≠d)→UpdF d o (pre++(d,o)::r) (fun o'=>pre++(d,o')::r)
 | [],_=>UpdF.head hr
 | p::pre,h=>UpdF.tail (h p (.head _)) (jc hr pre (fun q hq=>h q (.tail _ hq)))
theorem vd {kS D:Addr} {f:Value} {Fin:List Value→Nat→Shared→Prop} {e1:Nat} (hkD : @Ne Nat kS D) (hnk:∀ p∈news,p.1≠kS) :
 ∀ (r:List Value) (rd:List Dat) (ks:List Value) (kd:List Dat) (e:Nat) (pre:List (Addr × Obj)) (s:Shared),r.length=rd.length→(∀ (i:Nat) v d,r[i]? = some v→rd[i]? = some d→mj prog w A h₀ L m news f v d) →
  Fr h₀ L s.heap m→News h₀ L s.heap (pre++(kS,seqObj "list" (List.toArray ks) e)::(D,seqObj "list" #[] e1)::news)→(∀ p∈pre,p.1≠kS∧p.1≠D)→DatAll pre ks kd →
  (∀ ks' e' pre' h tk,Fr h₀ L h m→News h₀ L h (pre'++(kS,seqObj "list" (List.toArray ks') e')::(D,seqObj "list" #[] e1)::news)→(∀ p∈pre',p.1≠kS∧p.1≠D)→DatAll pre' ks' (kd++rd)→Fin ks' e' { s with heap:=h,toks:=tk }) →
  KatKeys prog w A h₀ L m kS f Fin r ks e s
 | [],rd,ks,kd,e,pre,s,hl,hk,F,N,hp,hD,fin=>by
  have:rd=[]:=List.eq_nil_of_length_eq_zero hl.symm
  subst this
  rw [List.append_nil] at fin
  exact KatKeys.nil (fin ks e pre s.heap s.toks F N hp hD)
 | v::r,[],ks,kd,e,pre,s,hl,hk,F,N,hp,hD,fin=>by cases hl
 | v::r,d::rd,ks,kd,e,pre,s,hl,hk,F,N,hp,hD,fin=>by
  refine KatKeys.cons (hk 0 v d rfl rfl s _ _ _ F (fun p hp=>List.mem_append_right _ (.tail _ (.tail _ hp))) N fun u tl h tk F' N' hfr hu => ?_)
  have hk1:∀ p∈tl,p.1≠kS∧p.1≠D:=fun p hpt=>⟨Nat.ne_of_gt (hfr p hpt _ (List.mem_append_right _ (.head _))),Nat.ne_of_gt (hfr p hpt _ (List.mem_append_right _ (.tail _ (.head _))))⟩
  have hp':∀ p∈tl++pre,p.1≠kS∧p.1≠D:=fun p hq=>(List.mem_append.mp hq).elim (hk1 p) (hp p)
  rw [← List.append_assoc] at N'
  refine KatBack.intro F' N' (jc (aJ (Ne.symm hkD) hnk) (tl++pre) fun p hq=>(hp' p hq).1) fun h2 c F2 N2 => ?_
  refine vd hkD hnk r rd (ks++[u]) (kd++[d]) c (tl++pre) _ (Nat.succ.inj hl) (fun i v d h1 h2=>hk (i+1) v d h1 h2) F2 N2 hp' (DatAll.append (hD.mono fun p hq=>List.mem_append_right _ hq) (DatAll.one (hu.mono fun p hq=>List.mem_append_left _ hq))) ?_
  intro ks' e' pre' h3 tk3 F3 N3 hp3 hD3
  refine fin ks' e' pre' h3 tk3 F3 N3 hp3 ?_
  rwa [List.append_assoc] at hD3
theorem ub {k c:Nat} {f:Addr} {vs:List Value} {ds ks:List Dat} {Q:Value→Shared→Prop} (F:Fr h₀ L s.heap m) (N:News h₀ L s.heap news) (hm:(l,listOf vs.toArray c)∈news) (hD:DatAll cold vs ds) (hs:∀ p∈cold,p∈news) (hkl:ks.length=ds.length) (S:Sortable k ks) (h2 : 2≤ds.length) (h64:ds.length < 64)
 (hu:A.units+2 * k+16 < cLine) (hkey:∀ (i:Nat) v d,vs[i]? = some v→ks[i]? = some d→mj prog w A.in1.in1 h₀ L m news (.ref f) v d)
 (ret:∀ D us es c h' tk,Fr h₀ L h' m→News h₀ L h' ((D,listOf us.toArray c)::news)→(∀ p∈news,p.1 < D)→DatAll cold us es→bB (k+1) ks ds es→Q (.ref D) { s with heap:=h',toks:=tk }) :
 wpAny (model prog w) A (call (.builtin "sorted") [.ref l] [(Str.ofString "key",.ref f)]) Q E s:=by
 have hl:=hD.length
 refine kat_sortedK (b:=false) F N ⟨_,(N _ hm).1,rfl,_,rfl⟩ (by exact zae [_,_] 1 (zn 2) qA [(1,qB,qA),(1,zn 2,qB)] rfl (zge hl) h2) (by exact zal [_,_] 1 qA (zn 64) [(1,qA,qB),(1,zu qB,zn 64)] rfl (zle hl) h64) (ksk_s1 _ _) (fun _=>ksk_l1 _ _) (fun _=>ksk_t1 _ _) fun D kS e1 h' F' N' hlt l1 => ?_
 have hkD : @Ne Nat kS D:=Nat.ne_of_gt hlt
 have hnD:∀ p∈news,p.1≠D:=fun p hp=>Nat.ne_of_lt (l1 p hp)
 have hnk:∀ p∈news,p.1≠kS:=fun p hp=>Nat.ne_of_lt (Nat.lt_trans (l1 p hp) hlt)
 refine vd hkD hnk vs ks [] [] 0 [] _ (by exact Nat.le_antisymm (zae [_,_,_] 1 qB qA [(1,qB,qC),(1,qC,qA)] rfl (zle hl) (zge hkl)) (zae [_,_,_] 1 qB qA [(1,qC,qA),(1,qB,qC)] rfl (zge hl) (zle hkl))) hkey F' N' (fun _ h=>nomatch h) .nil ?_
 intro ks' e' pre' h3 tk3 F3 N3 hp3 hD3
 rw [List.nil_append] at hD3
 have hl3:=hD3.length
 have e:vs.length=ks'.length:=by (exact Nat.le_antisymm (zae [_,_,_,_] 1 qB qA [(1,qC,qA),(1,qB,qD),(1,qD,qC)] rfl (zge hl3) (zle hl) (zge hkl)) (zae [_,_,_,_] 1 qB qA [(1,qB,qC),(1,qD,qA),(1,qC,qD)] rfl (zle hl3) (zge hl) (zle hkl)))
 rw [e]
 refine nv N3 (hD3.mono fun p hp=>List.mem_append_left _ hp) S (by exact zae [_,_] 1 (zn 2) qA [(1,zn 2,qB),(1,qB,qA)] rfl h2 (zge hkl)) (by show A.units+1+1+_+_ < _;(exact zal [_,_,_] 1 (zp (zp (zu (zu qB)) (zk 2 qC)) (zn 8)) qA [(1,zu (zp (zp qB (zk 2 qC)) (zn 16)),qA)] rfl hu)) fun p hp hw => ?_
 refine KatFin.intro F3 N3 (jc (aJ (Ne.symm hkD) hnk) pre' fun p hq=>(hp3 p hq).1) fun h4 c4 F4 N4 => ?_
 have N5:News h₀ L h4 ((pre'++[(kS,seqObj "list" #[] c4)])++(D,seqObj "list" #[] e1)::news):=by rw [List.append_assoc];exact N4
 refine KasFin.intro F4 N5 (jc hnD _ fun p hq => ?_) fun h5 c5 F5 N6 => ?_
 · rcases List.mem_append.mp hq with hq | hq
   · exact (hp3 p hq).2
   · rw [List.mem_singleton.mp hq];exact hkD
 · refine ret D _ _ c5 h5 tk3 F5 (fun p hp=>N6 p (List.mem_append_right _ hp)) l1 (jC hD p.toList fun i hi => ?_) ⟨_,hp,hw,rfl⟩
   have:=hp.mem_iff.mp hi
   rw [List.mem_range] at this
   (exact zal [_,_,_] 1 qB qA [(1,zu qB,qC),(1,qC,qA)] rfl this (zle hkl))
end
end
section
open PyProof.Rows.LCg
open PyProof.Rows.LCg
open PyProof.Rows.LCg
open PyProof.Rows.LCg
open PyProof.Rows.LCg
open PyProof.Rows.LCg
open PyProof
open PyProof
open PyProof PyProof.Rows.LCg PyProof.Rows.LCp
open PyProof PyProof.Rows.LCg PyProof.Rows.LCp
open PyProof PyProof.Rows.LCg PyProof.Rows.LCp
open PyProof PyProof.Rows.LCg PyProof.Rows.LCp
open PyProof PyProof.Rows.LCg PyProof.Rows.LCp
open PyProof.Rows.LCg
open PyProof.Rows.LCg
open PyProof.Rows.LCg
open PyProof.Rows.LCg
open PyProof.Rows.LCg
open PyProof.Rows.LCg
open PyProof
open PyProof
open PyProof
open PyProof
open PyProof PyProof.Rows.LCg PyProof.Rows.LCp
open PyProof PyProof.Rows.LCg PyProof.Rows.LCp
open PyProof PyProof.Rows.LCg PyProof.Rows.LCp
open LCg
open LCg
section
section
variable {prog:Program} {w:World} {A:Around} {E:Value→Shared→Prop} {s:Shared} {h₀:Heap} {L:Addr} {m:Str→Option Value} {env:Env}
noncomputable def tV (prog:Program) (w:World) (A:Around) (h₀:Heap) (L:Addr) (m:Str→Option Value) (env:Env) (elt:Expr) (x:Str) (scope:Scope) (cl:List (Str × Addr)) (Fin:Shared→List Value→List (Addr × Obj)→Prop) (it:Value) (s₂:Shared):Prop :=
 ∃ (I:Addr) (fp:List Addr) (n:Nat) (P:Nat→Value→Prop) (St:Nat→Heap→Prop) (S:List (Addr × Obj)→Prop) (news:List (Addr × Obj)),it = .ref I∧Walks prog w A I fp [I] n P St∧n≤sizeLine∧(∀ i h,St i h → ∃ o,h.get? I=some o) ∧
  (∀ i h h' o nw,St i h→h.get? I=some o→h'.get? I=some o→(∀ b o,h₀.get? b=some o→h'.get? b=some o)→News h₀ L h' nw→S nw→St i h')∧St 0 s₂.heap∧(∀ b∈fp,b < s₂.heap.objs.size) ∧
  Fr h₀ L s₂.heap m∧News h₀ L s₂.heap news∧L≠I∧h₀.get? I=none∧(∀ p∈news,p.1≠I)∧S news∧CompRest prog w A h₀ L m env elt x scope cl s₂ S P (Fin s₂) n 0 [] news
end
end
section
section
variable {prog:Program} {w:World} {A:Around} {E:Value→Shared→Prop} {s:Shared} {h₀:Heap} {L:Addr} {m:Str→Option Value} {env:Env}
noncomputable def wm (ax:Addr) (its:Array Value) (news:List (Addr × Obj)):Prop := ∃ o,(ax,o)∈news∧o.cls = .type "tuple" ∧ ∃ n,o.data = .seq its n
end
end
noncomputable def fU (x:Int):List Str:=[Str.ofString "",Str.ofString "a",Str.ofString "ab",Str.ofString "...",Str.ofString ".",Str.ofString "..",Str.ofString "b",Str.mk #[(48+(x.fdiv 512).fmod 55000).toNat]]
noncomputable def dC (x:Int) (p:Nat):Str:=(fU x).getD ((x.fdiv (8 ^ p)).fmod 8).toNat (Str.ofString "")
noncomputable def aO (x:Int):Str:=Str.ofString "/./" ++ Txt.join (Str.ofString "/") ((List.range 3).map (dC x))
noncomputable def cM (x:Str):Str:=Txt.slice x none (some (Txt.rfind x (Str.ofString "/")+1))
noncomputable def bJ (x:Str):Str:=Txt.slice x (some (Txt.rfind x (Str.ofString "/")+1)) none
noncomputable def aR (x:Str):Str:=if (cM x).length=0 then cM x else if (cM x != Txt.mul (Str.ofString "/") ((cM x).length:Int))=true then Txt.rstripChars (cM x) (Str.ofString "/") else cM x
noncomputable def aG (x y:Str):Str:=if Txt.startswith y (Str.ofString "/")=true then y else if x.length=0 then y else if Txt.endswith x (Str.ofString "/")=true then x++y else x++(Str.ofString "/" ++ y)
noncomputable def bU (acc:List Str) (c:Str):List Str :=
 if c.length=0 then acc else if c=Str.ofString "." then acc else if c=Str.ofString ".." then acc.dropLast else acc++[c]
noncomputable def dW (l:List Str):List Str:=l.foldl bU []
noncomputable def bZ (x:Str):Str:=Str.ofString "/" ++ Txt.join (Str.ofString "/") (dW (Txt.split (Txt.slice x (some 1) none) (Str.ofString "/")))
noncomputable def aF (acc:List Str) (c:Str):List Str :=
 if c=Str.ofString ".." then acc.dropLast else if c.length=0∨c=Str.ofString "." then acc else acc++[c]
noncomputable def aA (x:Str):List Str:=(Txt.split x (Str.ofString "/")).foldl aF []
noncomputable def aI:List Str→List Str→Nat
 | a::x,b::y=>if a=b then aI x y+1 else 0
 | _,_=>0
noncomputable def cN (home goal:List Str):Str:=Txt.join (Str.ofString "/") (List.replicate (home.length - aI home goal) (Str.ofString "..")++goal.drop (aI home goal))
noncomputable def cL (l:List Str):Dat := .list (l.map .str)
noncomputable def bF (names:List Str) (acc:List (List Str)) (k:Nat):List (List Str):=if names.take k∈acc then acc else acc++[names.take k]
noncomputable def bR (acc:List (List Str)) (x:Str):List (List Str):=(List.range ((aA x).length+1)).foldl (bF (aA x)) acc
noncomputable def bT (ts:List Str):List (List Str):=ts.foldl bR []
section
section
variable {prog:Program} {w:World} {A:Around} {E:Value→Shared→Prop} {s:Shared} {h₀:Heap} {L:Addr} {m:Str→Option Value} {env:Env}
noncomputable abbrev dK (w:World):Bool:=w.params.followText "set-order"
end
end
section
section
variable {prog:Program} {w:World} {A:Around} {E:Value→Shared→Prop} {s:Shared} {h₀:Heap} {L:Addr} {m:Str→Option Value} {env:Env}
noncomputable def vt (led:Bool):SetTable:={ mask:=7,place := #[1],dummies := #[],finger:=0,led:=led,moves:=0,plain:=true }
end
end
section
section
variable {prog:Program} {w:World} {A:Around} {E:Value→Shared→Prop} {s:Shared} {h₀:Heap} {L:Addr} {m:Str→Option Value} {env:Env}
noncomputable abbrev dN (w:World):Obj:={ cls := .type "set",dict:=none,data := .set #[(1,.bool true)] 1 (vt (!dK w)) }
end
end
section
section
variable {prog:Program} {w:World} {A:Around} {E:Value→Shared→Prop} {s:Shared} {h₀:Heap} {L:Addr} {m:Str→Option Value} {env:Env}
noncomputable abbrev jl (S:Addr) (k i:Nat):Obj:={ cls := .type "set_iterator",data := .fields #[.int k 0,.int i 0,.ref S,.int 1 0,.int 1 0] }
end
end
noncomputable def bS:List Str→List Str→Bool
 | [],[]=>false
 | [],_::_=>true
 | _::_,[]=>false
 | a::x,b::y=>if a=b then bS x y else decide (a.cps.toList < b.cps.toList)
noncomputable def cQ (c:Str):Bool:=decide (c.length≠0) && decide (c≠Str.ofString ".")
noncomputable def pf (x:Str):List Str:=(Txt.split x (Str.ofString "/")).filter cQ
noncomputable def aU (a b:Str):Str:=Str.ofString "/" ++ Txt.join (Str.ofString "/") ((pf a).take (aI (pf a) (pf b)))
noncomputable def aZ {α:Type} (f : α → α):Nat → α → α
 | 0,x=>x
 | n+1,x=>f (aZ f n x)
noncomputable def cR (both:Str) (s:Str × Nat):Str × Nat:=if s.1=both then s else (aR s.1,s.2+1)
noncomputable def cI (both:Str) (s:Str × List Str):Str × List Str:=if s.1=both then s else (aR s.1,s.2++[bJ s.1])
noncomputable def u4 (here both:Str):Nat:=(aZ (cR both) ((Txt.split here (Str.ofString "/")).length - 1) (here,0)).2
noncomputable def qX (place both:Str):List Str:=(aZ (cI both) ((Txt.split place (Str.ofString "/")).length - 1) (place,[])).2
noncomputable def o7 (here place:Str):Str:=(List.replicate (u4 here (aU here place)) (Str.ofString "..")++(qX place (aU here place)).reverse).foldl aG (Str.ofString "")
noncomputable abbrev Ent:=Nat × Str
noncomputable abbrev Row:=Nat × Str × Str
noncomputable def bQ (e:Ent):Dat := .tuple [.int (e.1:Int),.str e.2]
noncomputable def cX (r:Row):Dat := .tuple [.int (r.1:Int),.str r.2.1,.str r.2.2]
noncomputable def ltE:Ent→Ent→Bool:=gH bQ (dlt 2)
noncomputable def dJ (places:List Str) (place:Str):List Str:=Str.ofString ".." :: (places.filter (fun q=>decide (aR q=place) && decide (q≠place))).map bJ
noncomputable def cC (text:Str) (H:List Ent) (ns:List Str):List Ent:=ns.foldl (fun H nm=>dI ltE H ((aG text nm).length,aG text nm)) H
noncomputable def cB (start:Str) (places:List Str) (s:List Ent × List Row):List Ent × List Row :=
 if s.1=[] then s else
  let r:=cZ ltE s.1 (0,Str.ofString "")
  let place:=bZ (aG start r.1.2)
  if place∈s.2.map (fun r=>r.2.2) then (r.2,s.2)
  else (cC r.1.2 r.2 (dJ places place),s.2++[(r.1.1,r.1.2,place)])
noncomputable def jf (start:Str) (places:List Str):List Ent × List Row:=aZ (cB start places) (2 * places.length+1) ([(0,Str.ofString "")],[])
section
noncomputable def bW (lt:Nat→Nat→Bool):Nat→Nat
 | 0=>0
 | j+1=>if lt (j+1) (bW lt j)=true then j+1 else bW lt j
end
section
section
variable {prog:Program} {w:World} {A:Around} {E:Value→Shared→Prop} {s:Shared}
structure ZAp (z TI TO i1 i2 l2:Addr):Prop where
 TIz:TI≠z
 TOz:TO≠z
 i1z:i1≠z
 i2z:i2≠z
 TITO:TI≠TO
 TIi1:TI≠i1
 TIi2:TI≠i2
 TOi1:TO≠i1
 TOi2:TO≠i2
 i12:i1≠i2
 l2z:l2≠z
 l2TO:l2≠TO
 l2i1:l2≠i1
 l2i2:l2≠i2
end
end
section
noncomputable def ZL (z TO TI i1 I:Addr) (a b:Value) (n i:Nat) (oI:Obj):List (Addr × Obj) :=
 [(z,{ cls := .type "zip",dict:=none,data := .fields #[.none,.bool false,.bool false,.ref TI,.ref TO],slots := #[] }),(TO,{ cls := .type "tuple",data := .seq #[a,b] }),(TI,{ cls := .type "tuple",data := .seq #[.ref i1,.ref I] }),
  (i1,{ cls := .type "range_iterator",dict:=none,data := .fields #[rawInt (i:Int),rawInt ((n:Int) - i),rawInt 1],slots := #[] }),(I,oI)]
end
section
noncomputable def ZA (z TO TI i1 I:Addr) (p:Addr):Prop:=p≠z∧p≠TO∧p≠TI∧p≠i1∧p≠I
end
section
noncomputable def ZIt (oI:Obj) (l:Addr) (i:Nat):Prop:=oI.cls = .type "list_iterator" ∧ oI.data = .fields #[.ref l,.int i 0]
end
section
noncomputable def zG (h₀:Heap) (L:Addr) (m:Str→Option Value) (s₁:Shared) (C:Addr) (oC:Obj) (D:Addr) (oD:Obj) (zl:List (Addr × Obj)) (r:Value→List (Addr × Obj)→Prop) (old:List (Addr × Obj)) (y:Value) (s₂:Shared):Prop :=
 ∃ h' tk tl,s₂={ s₁ with heap:=h',toks:=tk }∧Fr h₀ L h' m∧News h₀ L h' ((C,oC)::(D,oD)::(zl++(tl++old)))∧(∀ p∈tl,∀ q∈(C,oC)::(D,oD)::(zl++old),q.1 < p.1)∧r y (tl++old)
end
section
section
variable {prog:Program} {w:World} {A:Around} {E:Value→Shared→Prop} {s:Shared} {h₀:Heap} {L:Addr} {m:Str→Option Value} {env:Env}
noncomputable def Cr (prog:Program) (w:World) (A:Around) (h₀:Heap) (L:Addr) (m:Str→Option Value) (env:Env) (elt:Expr) (x x₂:Str) (scope:Scope) (cl:List (Str × Addr)) (y:Str) (Q:Flow→Shared→Prop) (xv:Value) (s₁:Shared):Prop :=
 ∃ (z TO TI i1 I l:Addr) (n c:Nat) (oI ol:Obj) (vs:List Value) (news:List (Addr × Obj)) (K:Nat→List Value→List (Addr × Obj)→Prop),xv = .ref z∧ZAp z TI TO i1 I l∧Fr h₀ L s₁.heap m∧News h₀ L s₁.heap (ZL z TO TI i1 I .none .none n 0 oI++news)∧(∀ p∈news,ZA z TO TI i1 I p.1) ∧
  (∀ i ys nw,K i ys nw→(l,ol)∈nw)∧ol.cls = .type "list" ∧ ol.data = .seq vs.toArray c∧n≤vs.length∧n≤100000∧ZIt oI l 0∧K 0 [] news ∧
  (∀ i ys nw a b oI,i < n→K i ys nw → ∀ v t C oC D m₂ h tk (E':Value→Shared→Prop),vs[i]? = some v→NsObj oC m₂→m₂ x=some (.int i t)→m₂ x₂=some v→Fr h₀ L h m→News h₀ L h ((C,oC)::(D,lst ys)::(ZL z TO TI i1 I a b n (i+1) oI++nw)) →
   (∀ p∈nw,p.1≠C∧p.1≠D) → @Ne Nat C D →
   wpAny (model prog w) A (eval elt (compEnvC scope cl C env)) (zG h₀ L m { s₁ with heap:=h,toks:=tk } C oC D (lst ys) (ZL z TO TI i1 I a b n (i+1) oI) (fun y nw'=>K (i+1) (ys++[y]) nw') nw) E' { s₁ with heap:=h,toks:=tk }) ∧
  (∀ D ys nw oI h tk,K n ys nw→ZIt oI l n→Fr h₀ L h (fun q=>if q=y then some (.ref D) else m q)→News h₀ L h ((D,lst ys)::(I,oI)::nw)→(∀ p∈nw,p.1≠D∧p.1≠I) → @Ne Nat D I→Q .next { s₁ with heap:=h,toks:=tk })
end
end
noncomputable def gC (ks ds:List Dat) (j:Nat):Dat := .tuple [ks.getD j .none,.int (j:Int),ds.getD j .none]
noncomputable def qh:Dat→Dat
 | .tuple (x::_)=>x
 | _ => .none
noncomputable def fE (k:Nat) (ks ds:List Dat) (st:List Dat × Nat) (j:Nat):List Dat × Nat :=
 if dlt k (ks.getD j .none) (qh (st.1.getD 0 .none))=true then
  (bM (fun p q=>dlt (k+1) q p) (st.1.set 0 (.tuple [ks.getD j .none,.int (st.2:Int),ds.getD j .none])) 0 (.tuple [ks.getD j .none,.int (st.2:Int),ds.getD j .none]),st.2+1)
 else st
noncomputable def bD (k:Nat) (ks ds:List Dat) (n i:Nat):List Dat × Nat:=(List.range i).foldl (fun st j=>fE k ks ds st (n+j)) (cV (fun p q=>dlt (k+1) q p) ((List.range n).map (gC ks ds)),n)
noncomputable def yz:Dat→Dat
 | .tuple [_,_,x]=>x
 | _ => .none
section
variable (w:World) (p:Program) (loose:List Str) (mean:ExcName→Option Value) (mg:Str→Option Value) (mb:Str→Option Value) (news:List (Addr × Obj)) (dp:Nat) (un:Nat) (gd:Option (List Code)) (env:Env) (outer:List Env) (A₀:Around) (base:Heap) (h₀:Heap) (L:Addr) (m:Str→Option Value) (s:Shared) (Q:Value→Shared→Prop) (E:Value→Shared→Prop)
noncomputable def iJ (prog:Program) (A:Around) (Z TI I l f:Addr) (c:Nat) (vals:List Value):Prop := ∀ (hh:A.handled=none) (hn:vals.length≤100000) (F:Fr h₀ L s.heap m) (N:News h₀ L s.heap ((Z,eE TI (.ref f))::(TI,jd I)::(I,fF l 0)::news)) (hl:(l,listOf vals.toArray c)∈news) (hIn:∀ p∈news,p.1≠I) (hZI:Z≠I) (hTI:TI≠I) (fcall:∀ v∈vals,∀ h tk led,Fr h₀ L h m→News h₀ L h led→wpAny (model prog w) A.in1.in1.in1.in1 (call (.ref f) [v]) (fun r s' => ∃ h' tk',r=v∧s'={ s with heap:=h',toks:=tk' }∧Fr h₀ L h' m∧News h₀ L h' led) (fun _ _=>False) { s with heap:=h,toks:=tk }) (ret:∀ T h tk,Fr h₀ L h m→News h₀ L h ((T,{ cls := .type "tuple",data := .seq vals.toArray })::news)→(∀ p∈news,p.1 < T)→Q (.ref T) { s with heap:=h,toks:=tk }),
 wpAny (model prog w) A (call (.type "tuple") [.ref Z]) Q E s
section
noncomputable def dY (prog:Program) (A:Around) (elt iter:Expr) (x y:Str) (px py:Pos) (scope:Scope) (cl:List (Str × Addr)) (pos spos:Pos) (Q:Flow→Shared→Prop):Prop := ∀ {L:Addr} (F₀:Fr h₀ L s.heap m) (hLe:env.locals=L) (hsw:swapsWith (.ListComp elt [⟨.Name x px,iter,[],0⟩] scope pos) (some (.Name y py)) spos.line env=pure true) (hclos:closureFor scope env=pure cl) (hcell:∀ z∈scope.names,z.2 ≠ .cell) (hkind:scope.kind = .function) (hnames:∀ z∈scope.names,z.2 = .local→scope.names.lookup z.1=some .local) (hx:scope.names.lookup x=some .local) (hy:env.kindOf y=some .local) (hp:(env.scope.kind == .class || (env.scope.kind == .module && env.locals != env.globals))=false) (h:wpAny (model prog w) A (eval iter env) (fun xv s₁=>wpAny (model prog w) A (pyIter xv) (tV prog w A h₀ L m env elt x scope cl (fun s₂=>FinA h₀ L m s₂ y Q)) E s₁) E s) (hs:∀ x,foldedSetIterable iter env x=pure x),wpAny (model prog w) A (exec (.Assign [.Name y py] (.ListComp elt [⟨.Name x px,iter,[],0⟩] scope pos) spos) env) Q E s
end
section
noncomputable def lu (prog:Program) (A:Around) (elt:Expr) (x:Str) (scope:Scope) (cl:List (Str × Addr)) (Fin:Shared→List Value→List (Addr × Obj)→Prop) (ax:Addr) (its:Array Value) (k:Nat) (s₁:Shared):Prop := ∀ (hh:A.handled=none) (F:Fr h₀ L s₁.heap m) (N:News h₀ L s₁.heap news) (hm:(ax,({ cls := .type "tuple",data := .seq its k }:Obj))∈news) (hsz:its.size≤sizeLine) (h:∀ g,CompRest prog w A h₀ L m env elt x scope cl { s₁ with heap:=g } (wm ax its) (fun i v=>its[i]? = some v) (Fin { s₁ with heap:=g }) its.size 0 [] news),wpAny (model prog w) A (pyIter (.ref ax)) (tV prog w A h₀ L m env elt x scope cl Fin) E s₁
end
noncomputable def nr (x:Int) (tx:Tok):Prop := ∀ (B:Below A₀ base outer h₀) (F:Fr h₀ L s.heap m) (X:(hd.heap_1 w.params).In h₀) (N:News h₀ L s.heap news) (T:Top p loose mean mg mb h₀) (hf:env.frame=some L) (hk:env.scope.kind = .function) (hd:dp+2 < recursionLimit) (hu:un+100 < cLine) (ret:∀ t h1 tk,Fr h₀ L h1 m→News h₀ L h1 news→Q (.str (aO x) t) { s with heap:=h1,toks:=tk }),
 wpAny (model Challenge.rw_ik0112_01.row.prog w) { handled:=none,depth:=dp,frames:=some (env::outer),guards:=gd,units:=un } (call (.ref 222) [.int x tx]) Q E s
noncomputable def pz (x:Str) (t:Tok):Prop := ∀ (B:Below A₀ base outer h₀) (F:Fr h₀ L s.heap m) (X:(hd.heap_1 w.params).In h₀) (N:News h₀ L s.heap news) (T:Top p loose mean mg mb h₀) (hf:env.frame=some L) (hk:env.scope.kind = .function) (hd:dp+1 < recursionLimit) (hu:un+8 < cLine) (ret:∀ t h1 tk,Fr h₀ L h1 m→News h₀ L h1 news→Q (.str x t) { s with heap:=h1,toks:=tk }),
 wpAny (model Challenge.rw_ik0112_01.row.prog w) { handled:=none,depth:=dp,frames:=some (env::outer),guards:=gd,units:=un } (call (.ref 94) [.str x t]) Q E s
noncomputable def pv (x:Str) (t:Tok):{Pq9:PySem.Heap→PySem.Addr→PySem.Heap→Prop // (∀ g L h,Pq9 g L h)→pz w p loose mean mg mb news dp un gd env outer A₀ base h₀ L m s Q E x t}:=⟨_,fun K=>by
 intro B F X N T hf hk hd hu ret
 revert X;k_fill;intro X
 refine wpAny_call ?_
 k_extra "aw"
 repeat revert ‹(_:Prop)›
 intro K
 exact K g' L' h'⟩
noncomputable def ly (x:Str) (t:Tok) (g':PySem.Heap) (L':Addr) (h':PySem.Heap):Prop:=(pv w p loose mean mg mb news dp un gd env outer A₀ base h₀ L m s Q E x t).1 g' L' h'
noncomputable def ps (x:Str) (t:Tok):Prop := ∀ (B:Below A₀ base outer h₀) (F:Fr h₀ L s.heap m) (X:(hd.heap_1 w.params).In h₀) (N:News h₀ L s.heap news) (T:Top p loose mean mg mb h₀) (hf:env.frame=some L) (hk:env.scope.kind = .function) (hd:dp+1 < recursionLimit) (hu:un+8 < cLine) (ret:∀ t h1 tk,Fr h₀ L h1 m→News h₀ L h1 news→Q (.str (Str.ofString "/") t) { s with heap:=h1,toks:=tk }),
 wpAny (model Challenge.rw_ik0112_01.row.prog w) { handled:=none,depth:=dp,frames:=some (env::outer),guards:=gd,units:=un } (call (.ref 108) [.str x t]) Q E s
noncomputable def po (x:Str) (t:Tok):{Pq9:PySem.Heap→PySem.Addr→PySem.Heap→Prop // (∀ g L h,Pq9 g L h)→ps w p loose mean mg mb news dp un gd env outer A₀ base h₀ L m s Q E x t}:=⟨_,fun K=>by
 intro B F X N T hf hk hd hu ret
 revert X;k_fill;intro X
 refine wpAny_call ?_
 k_extra "aw"
 repeat revert ‹(_:Prop)›
 intro K
 exact K g' L' h'⟩
noncomputable def lx (x:Str) (t:Tok) (g':PySem.Heap) (L':Addr) (h':PySem.Heap):Prop:=(po w p loose mean mg mb news dp un gd env outer A₀ base h₀ L m s Q E x t).1 g' L' h'
noncomputable def lO (x:Str) (t:Tok):Prop := ∀ (B:Below A₀ base outer h₀) (F:Fr h₀ L s.heap m) (X:(hd.heap_1 w.params).In h₀) (N:News h₀ L s.heap news) (T:Top p loose mean mg mb h₀) (hf:env.frame=some L) (hk:env.scope.kind = .function) (hd:dp+2 < recursionLimit) (hu:un+16 < cLine) (hx:x.length≤100000) (ret:∀ t h1 tk,Fr h₀ L h1 m→News h₀ L h1 news→Q (.str (bJ x) t) { s with heap:=h1,toks:=tk }),
 wpAny (model Challenge.rw_ik0112_01.row.prog w) { handled:=none,depth:=dp,frames:=some (env::outer),guards:=gd,units:=un } (call (.ref 136) [.str x t]) Q E s
noncomputable def lL (x:Str) (t:Tok):{Pq9:PySem.Heap→PySem.Addr→PySem.Heap→Prop // (∀ g L h,Pq9 g L h)→lO w p loose mean mg mb news dp un gd env outer A₀ base h₀ L m s Q E x t}:=⟨_,fun K=>by
 intro B F X N T hf hk hd hu hx ret
 revert X;k_fill;intro X
 refine wpAny_call ?_
 k_extra "aw"
 repeat revert ‹(_:Prop)›
 intro K
 exact K g' L' h'⟩
noncomputable def jb (x:Str) (t:Tok) (g':PySem.Heap) (L':Addr) (h':PySem.Heap):Prop:=(lL w p loose mean mg mb news dp un gd env outer A₀ base h₀ L m s Q E x t).1 g' L' h'
noncomputable def m7 (x:Str) (t:Tok):Prop := ∀ (B:Below A₀ base outer h₀) (F:Fr h₀ L s.heap m) (X:(hd.heap_1 w.params).In h₀) (N:News h₀ L s.heap news) (T:Top p loose mean mg mb h₀) (hf:env.frame=some L) (hk:env.scope.kind = .function) (hd:dp+2 < recursionLimit) (hu:un+16 < cLine) (hx:x.length≤100000) (ret:∀ t h1 tk,Fr h₀ L h1 m→News h₀ L h1 news→Q (.str (aR x) t) { s with heap:=h1,toks:=tk }),
 wpAny (model Challenge.rw_ik0112_01.row.prog w) { handled:=none,depth:=dp,frames:=some (env::outer),guards:=gd,units:=un } (call (.ref 143) [.str x t]) Q E s
noncomputable def m4 (x:Str) (t:Tok):{Pq9:PySem.Heap→PySem.Addr→PySem.Heap→Prop // (∀ g L h,Pq9 g L h)→m7 w p loose mean mg mb news dp un gd env outer A₀ base h₀ L m s Q E x t}:=⟨_,fun K=>by
 intro B F X N T hf hk hd hu hx ret
 revert X;k_fill;intro X
 refine wpAny_call ?_
 k_extra "aw"
 repeat revert ‹(_:Prop)›
 intro K
 exact K g' L' h'⟩
noncomputable def kl (x:Str) (t:Tok) (g':PySem.Heap) (L':Addr) (h':PySem.Heap):Prop:=(m4 w p loose mean mg mb news dp un gd env outer A₀ base h₀ L m s Q E x t).1 g' L' h'
noncomputable def qy (x:Str) (t:Tok):Prop := ∀ (B:Below A₀ base outer h₀) (F:Fr h₀ L s.heap m) (X:(hd.heap_1 w.params).In h₀) (N:News h₀ L s.heap news) (T:Top p loose mean mg mb h₀) (hf:env.frame=some L) (hk:env.scope.kind = .function) (hd:dp+2 < recursionLimit) (hu:un+16 < cLine) (hx:x.length≤100000) (ret:∀ D t1 t2 h1 tk,Fr h₀ L h1 m→News h₀ L h1 ((D,{ cls := .type "tuple",data := .seq #[.str (aR x) t1,.str (bJ x) t2] })::news)→Q (.ref D) { s with heap:=h1,toks:=tk }),
 wpAny (model Challenge.rw_ik0112_01.row.prog w) { handled:=none,depth:=dp,frames:=some (env::outer),guards:=gd,units:=un } (call (.ref 122) [.str x t]) Q E s
noncomputable def qv (x:Str) (t:Tok):{Pq9:PySem.Heap→PySem.Addr→PySem.Heap→Prop // (∀ g L h,Pq9 g L h)→qy w p loose mean mg mb news dp un gd env outer A₀ base h₀ L m s Q E x t}:=⟨_,fun K=>by
 intro B F X N T hf hk hd hu hx ret
 revert X;k_fill;intro X
 refine wpAny_call ?_
 k_extra "aw"
 repeat revert ‹(_:Prop)›
 intro K
 exact K g' L' h'⟩
noncomputable def mv (x:Str) (t:Tok) (g':PySem.Heap) (L':Addr) (h':PySem.Heap):Prop:=(qv w p loose mean mg mb news dp un gd env outer A₀ base h₀ L m s Q E x t).1 g' L' h'
noncomputable def jM (x:Str) (t:Tok):Prop := ∀ (B:Below A₀ base outer h₀) (F:Fr h₀ L s.heap m) (X:(hd.heap_1 w.params).In h₀) (N:News h₀ L s.heap news) (T:Top p loose mean mg mb h₀) (hf:env.frame=some L) (hk:env.scope.kind = .function) (hd:dp+2 < recursionLimit) (hu:un+16 < cLine) (hx:x.length≤100000) (hs1:(Txt.slice x none (some 1) != Str.ofString "/")=false) (hs2:(Txt.slice x (some 1) (some 2) != Str.ofString "/")=true) (ret:∀ D t1 t2 t3 h1 tk,Fr h₀ L h1 m→News h₀ L h1 ((D,{ cls := .type "tuple",data := .seq #[.str (Str.ofString "") t1,.str (Str.ofString "/") t2,.str (Txt.slice x (some 1) none) t3] })::news)→Q (.ref D) { s with heap:=h1,toks:=tk }),
 wpAny (model Challenge.rw_ik0112_01.row.prog w) { handled:=none,depth:=dp,frames:=some (env::outer),guards:=gd,units:=un } (call (.ref 129) [.str x t]) Q E s
noncomputable def jK (x:Str) (t:Tok):{Pq9:PySem.Heap→PySem.Addr→PySem.Heap→Prop // (∀ g L h,Pq9 g L h)→jM w p loose mean mg mb news dp un gd env outer A₀ base h₀ L m s Q E x t}:=⟨_,fun K=>by
 intro B F X N T hf hk hd hu hx hs1 hs2 ret
 revert X;k_fill;intro X
 refine wpAny_call ?_
 k_extra "aw"
 repeat revert ‹(_:Prop)›
 intro K
 exact K g' L' h'⟩
noncomputable def il (x:Str) (t:Tok) (g':PySem.Heap) (L':Addr) (h':PySem.Heap):Prop:=(jK w p loose mean mg mb news dp un gd env outer A₀ base h₀ L m s Q E x t).1 g' L' h'
noncomputable def nJ (x y:Str) (t u:Tok):Prop := ∀ (B:Below A₀ base outer h₀) (F:Fr h₀ L s.heap m) (X:(hd.heap_1 w.params).In h₀) (N:News h₀ L s.heap news) (T:Top p loose mean mg mb h₀) (hf:env.frame=some L) (hk:env.scope.kind = .function) (hd:dp+2 < recursionLimit) (hu:un+16 < cLine) (hx:x.length≤100000) (hy:y.length≤100000) (ret:∀ t h1 tk,Fr h₀ L h1 m→News h₀ L h1 news→Q (.str (aG x y) t) { s with heap:=h1,toks:=tk }),
 wpAny (model Challenge.rw_ik0112_01.row.prog w) { handled:=none,depth:=dp,frames:=some (env::outer),guards:=gd,units:=un } (call (.ref 115) [.str x t,.str y u]) Q E s
noncomputable def kX (x:Str) (t:Tok):Prop := ∀ (B:Below A₀ base outer h₀) (F:Fr h₀ L s.heap m) (X:(hd.heap_1 w.params).In h₀) (N:News h₀ L s.heap news) (T:Top p loose mean mg mb h₀) (hf:env.frame=some L) (hk:env.scope.kind = .function) (hd:dp+3 < recursionLimit) (hu:un+24 < cLine) (hx:x.length≤100000) (hx0:(x.length:Int)≠0) (hs1:(Txt.slice x none (some 1) != Str.ofString "/")=false) (hs2:(Txt.slice x (some 1) (some 2) != Str.ofString "/")=true) (hsp:wt (Txt.split (Txt.slice x (some 1) none) (Str.ofString "/"))≤100000) (ret:∀ t h1 tk,Fr h₀ L h1 m→News h₀ L h1 news→Q (.str (bZ x) t) { s with heap:=h1,toks:=tk }),
 wpAny (model Challenge.rw_ik0112_01.row.prog w) { handled:=none,depth:=dp,frames:=some (env::outer),guards:=gd,units:=un } (call (.ref 150) [.str x t]) Q E s
noncomputable def kU (x:Str) (t:Tok):{Pq9:PySem.Heap→PySem.Addr→PySem.Heap→Prop // (∀ g L h,Pq9 g L h)→kX w p loose mean mg mb news dp un gd env outer A₀ base h₀ L m s Q E x t}:=⟨_,fun K=>by
 intro B F X N T hf hk hd hu hx hx0 hs1 hs2 hsp ret
 revert X;k_fill;intro X
 refine wpAny_call ?_
 k_extra "aw"
 repeat revert ‹(_:Prop)›
 intro K
 exact K g' L' h'⟩
noncomputable def iY (x:Str) (t:Tok) (g':PySem.Heap) (L':Addr) (h':PySem.Heap):Prop:=(kU w p loose mean mg mb news dp un gd env outer A₀ base h₀ L m s Q E x t).1 g' L' h'
noncomputable def ky (x:Str) (u:Tok):Prop := ∀ (B:Below A₀ base outer h₀) (F:Fr h₀ L s.heap m) (X:(hd.heap_1 w.params).In h₀) (N:News h₀ L s.heap news) (T:Top p loose mean mg mb h₀) (hf:env.frame=some L) (hk:env.scope.kind = .function) (hd:dp+1 < recursionLimit) (hu:un+16 < cLine) (hx:x.length≤100000) (hx2:(Txt.split x (Str.ofString "/")).length≤100000) (ret:∀ D ws n h1 tk,Fr h₀ L h1 m→News h₀ L h1 ((D,W.listOf ws.toArray n)::news)→(∀ p∈news,p.1≠D)→StrsAre ws (aA x)→Q (.ref D) { s with heap:=h1,toks:=tk }),
 wpAny (model Challenge.rw_ik0112_01.row.prog w) { handled:=none,depth:=dp,frames:=some (env::outer),guards:=gd,units:=un } (call (.ref 229) [.str x u]) Q E s
noncomputable def kt (x:Str) (u:Tok):{Pq9:PySem.Heap→PySem.Addr→PySem.Heap→Prop // (∀ g L h,Pq9 g L h)→ky w p loose mean mg mb news dp un gd env outer A₀ base h₀ L m s Q E x u}:=⟨_,fun K=>by
 intro B F X N T hf hk hd hu hx hx2 ret
 revert X;k_fill;intro X
 refine wpAny_call ?_
 k_extra "aw"
 repeat revert ‹(_:Prop)›
 intro K
 exact K g' L' h'⟩
noncomputable def iV (x:Str) (u:Tok) (g':PySem.Heap) (L':Addr) (h':PySem.Heap):Prop:=(kt w p loose mean mg mb news dp un gd env outer A₀ base h₀ L m s Q E x u).1 g' L' h'
noncomputable def uy (H G:Addr) (ws1 ws2:List Value) (c1 c2:Nat) (home goal:List Str):Prop := ∀ (B:Below A₀ base outer h₀) (F:Fr h₀ L s.heap m) (X:(hd.heap_1 w.params).In h₀) (N:News h₀ L s.heap ((H,W.listOf ws1.toArray c1)::(G,W.listOf ws2.toArray c2)::news)) (T:Top p loose mean mg mb h₀) (hf:env.frame=some L) (hk:env.scope.kind = .function) (hd:dp+1 < recursionLimit) (hu:un+16 < cLine) (hS1:StrsAre ws1 home) (hS2:StrsAre ws2 goal) (hz1:home.length≤100) (hz2:goal.length≤1000) (hw:wt goal≤100000) (ret:∀ t h1 tk,Fr h₀ L h1 m→News h₀ L h1 ((H,W.listOf ws1.toArray c1)::(G,W.listOf ws2.toArray c2)::news)→Q (.str (cN home goal) t) { s with heap:=h1,toks:=tk }),
 wpAny (model Challenge.rw_ik0112_01.row.prog w) { handled:=none,depth:=dp,frames:=some (env::outer),guards:=gd,units:=un } (call (.ref 236) [.ref H,.ref G]) Q E s
noncomputable def uv (H:Addr) (G:Addr) (ws1:List Value) (ws2:List Value) (c1:Nat) (c2:Nat) (home:List Str) (goal:List Str):{Pq9:PySem.Heap→PySem.Addr→PySem.Heap→Prop // (∀ g L h,Pq9 g L h)→uy w p loose mean mg mb news dp un gd env outer A₀ base h₀ L m s Q E H G ws1 ws2 c1 c2 home goal}:=⟨_,fun K=>by
 intro B F X N T hf hk hd hu hS1 hS2 hz1 hz2 hw ret
 revert X;k_fill;intro X
 refine wpAny_call ?_
 k_extra "aw"
 repeat revert ‹(_:Prop)›
 intro K
 exact K g' L' h'⟩
noncomputable def qn (H G:Addr) (ws1 ws2:List Value) (c1 c2:Nat) (home goal:List Str) (g':PySem.Heap) (L':Addr) (h':PySem.Heap):Prop:=(uv w p loose mean mg mb news dp un gd env outer A₀ base h₀ L m s Q E H G ws1 ws2 c1 c2 home goal).1 g' L' h'
noncomputable def rY (H:Addr) (ws:List Value) (c:Nat) (ts:List Str):Prop := ∀ (B:Below A₀ base outer h₀) (F:Fr h₀ L s.heap m) (X:(hd.heap_1 w.params).In h₀) (N:News h₀ L s.heap ((H,W.listOf ws.toArray c)::news)) (T:Top p loose mean mg mb h₀) (hf:env.frame=some L) (hk:env.scope.kind = .function) (hd:dp+2 < recursionLimit) (hu:un+200 < cLine) (hS:StrsAre ws ts) (hz:ts.length≤10) (hx:∀ x∈ts,x.length≤100000∧(Txt.split x (Str.ofString "/")).length≤100000∧(aA x).length≤10∧kqdOk 8 (cL (aA x))=true) (ret:∀ D wt n tl h1 tk,Fr h₀ L h1 m→News h₀ L h1 ((D,W.listOf wt.toArray n)::(tl++(H,W.listOf ws.toArray c)::news))→(∀ p∈tl++(H,W.listOf ws.toArray c)::news,p.1≠D)→DatAll tl wt ((bT ts).map cL)→Q (.ref D) { s with heap:=h1,toks:=tk }),
 wpAny (model Challenge.rw_ik0112_01.row.prog w) { handled:=none,depth:=dp,frames:=some (env::outer),guards:=gd,units:=un } (call (.ref 243) [.ref H]) Q E s
noncomputable def rW (H:Addr) (ws:List Value) (c:Nat) (ts:List Str):{Pq9:PySem.Heap→PySem.Addr→PySem.Heap→Prop // (∀ g L h,Pq9 g L h)→rY w p loose mean mg mb news dp un gd env outer A₀ base h₀ L m s Q E H ws c ts}:=⟨_,fun K=>by
 intro B F X N T hf hk hd hu hS hz hx ret
 revert X;k_fill;intro X
 refine wpAny_call ?_
 k_extra "aw"
 repeat revert ‹(_:Prop)›
 intro K
 exact K g' L' h'⟩
noncomputable def n4 (H:Addr) (ws:List Value) (c:Nat) (ts:List Str) (g':PySem.Heap) (L':Addr) (h':PySem.Heap):Prop:=(rW w p loose mean mg mb news dp un gd env outer A₀ base h₀ L m s Q E H ws c ts).1 g' L' h'
noncomputable def kh (x:Str) (t:Tok):Prop := ∀ (B:Below A₀ base outer h₀) (F:Fr h₀ L s.heap m) (X:(hd.heap_1 w.params).In h₀) (N:News h₀ L s.heap news) (T:Top p loose mean mg mb h₀) (hf:env.frame=some L) (hk:env.scope.kind = .function) (hd:dp+1 < recursionLimit) (hu:un+8 < cLine) (ret:∀ h1 tk,Fr h₀ L h1 m→News h₀ L h1 news→Q (.str x t) { s with heap:=h1,toks:=tk }),
 wpAny (model Challenge.rw_ik0112_01.row.prog w) { handled:=none,depth:=dp,frames:=some (env::outer),guards:=gd,units:=un } (call (.ref 94) [.str x t]) Q E s
noncomputable def j7 (x:Str) (t:Tok):{Pq9:PySem.Heap→PySem.Addr→PySem.Heap→Prop // (∀ g L h,Pq9 g L h)→kh w p loose mean mg mb news dp un gd env outer A₀ base h₀ L m s Q E x t}:=⟨_,fun K=>by
 intro B F X N T hf hk hd hu ret
 revert X;k_fill;intro X
 refine wpAny_call ?_
 k_extra "aw"
 repeat revert ‹(_:Prop)›
 intro K
 exact K g' L' h'⟩
noncomputable def iy (x:Str) (t:Tok) (g':PySem.Heap) (L':Addr) (h':PySem.Heap):Prop:=(j7 w p loose mean mg mb news dp un gd env outer A₀ base h₀ L m s Q E x t).1 g' L' h'
section
noncomputable def np (prog:Program) (A:Around) (S:Addr):Prop := ∀ (ho:s.heap.get? S=some (dN w)) (h:∀ tk,Q .none { s with toks:=tk }),wpAny (model prog w) A (call (.builtin "set.add") [.ref S,.bool true]) Q E s
end
section
noncomputable def i0 (prog:Program) (A:Around) (I S:Addr) (k:Nat) (Q:Option Value→Shared→Prop):Prop := ∀ (hh:A.handled=none) (hi:s.heap.get? I=some (jl S k 1)) (hk:dK w=false→k=2) (ho:s.heap.get? S=some (dN w)) (hIS:S≠I) (h:∀ h',Heap.ExtBut I s.heap h'→Q none { s with heap:=h' }),wpAny (model prog w) A (pyNext (.ref I)) Q E s
end
section
noncomputable def jG (prog:Program) (A:Around) (S:Addr) (t:Value→Sem Unit) (Q:Unit→Shared→Prop):Prop := ∀ (hh:A.handled=none) (ho:s.heap.get? S=some (dN w)) (h:∀ h',(∀ b o,s.heap.get? b=some o→h'.get? b=some o)→wpAny (model prog w) A (assignInOrder [t] [.bool true]) Q E { s with heap:=h' }),wpAny (model prog w) A (unpack (.ref S) [(false,t)]) Q E s
end
section
noncomputable def iP (prog:Program) (A:Around) (elt iter:Expr) (x:Str) (px:Pos) (scope:Scope) (cl:List (Str × Addr)) (pos:Pos) (I:Addr) (fp:List Addr) (n:Nat) (P:Nat→Value→Prop) (St:Nat→Heap→Prop) (RR:Value→Addr→Result→Shared→Prop):Prop := ∀ (W:Walks prog w A I fp [I] n P St) (hn : 0 < n) (hIo:∀ i h,St i h → ∃ o,h.get? I=some o) (hSt:∀ i h h' o,St i h→h.get? I=some o→h'.get? I=some o→News h₀ L h' news→St i h') (hcell:∀ y∈scope.names,y.2 ≠ .cell) (hkind:scope.kind = .function) (hx:scope.names.lookup x=some .local) (hst:St 0 s.heap) (hfp:∀ b∈fp,b < s.heap.objs.size) (F:Fr h₀ L s.heap m) (N:News h₀ L s.heap news) (hIL:L≠I) (hI₀:h₀.get? I=none) (off:∀ p∈news,p.1≠I) (turn:∀ i v I' oI C oC D oD m₂ h tk (E':Value→Shared→Prop),i < n→P i v→NsObj oC m₂→m₂ x=some v→Fr h₀ L h m→News h₀ L h ((I',oI)::(C,oC)::(D,oD)::news) →
 wpAny (model prog w) A (eval elt (compEnvC scope cl C env)) (fun y s'=>y = .bool true ∧ ∃ h' tk',s'={ s with heap:=h',toks:=tk' }∧Fr h₀ L h' m∧News h₀ L h' ((I',oI)::(C,oC)::(D,oD)::news)) E' { s with heap:=h,toks:=tk }) (hRR:∀ D C h tk m',Fr h₀ L h m→News h₀ L h ((D,dN w)::news)→(∀ p∈news,p.1 < D)→h.Ns C m'→h₀.get? C=none→C≠L→C≠D→(∀ p∈news,p.1≠C)→RR (.ref D) C (.ok .next) { s with heap:=h,toks:=tk }),
 wpAny (model prog w) A (newSet (.type "set")) (fun acc s₃=>wpAny (model prog w) A (newFunctionEnv scope env.globals cl [] env.qual none .none (some env)) (fun cenv s₄ =>
  codeAny (model prog w) A (.compStart (.SetComp elt [⟨.Name x px,iter,[],0⟩] scope pos) 0 (.ref I) acc { cenv with scope:=relabel scope env }) (RR acc cenv.locals) s₄) E s₃) E s
end
noncomputable def sV (prog:Program) (A:Around) (R:Result→Shared→Prop) (l b:Addr) (o o':Obj) (vs us:List Value) (n n':Nat) (xs ys:List Str):Prop := ∀ (hl:s.heap.get? l=some o) (hd:o.data = .seq vs.toArray n) (hb:s.heap.get? b=some o') (hd':o'.data = .seq us.toArray n') (hX:StrsAre vs xs) (hY:StrsAre us ys),∀ (k i:Nat),vs.length - i=k→i≤vs.length→i≤us.length→R (.ok (.ret (.bool (bS (xs.drop i) (ys.drop i))))) s→codeAny (model prog w) A (.builtin "list.__eq__.loop" ⟨[.ref l,.ref b,.int (i:Int) 0,.int 0 0],[]⟩) R s
noncomputable def sY (prog:Program) (A:Around) (R:Result→Shared→Prop) (l b:Addr) (o o':Obj) (vs us:List Value) (n n':Nat) (xs ys:List Str):Prop := ∀ (hl:s.heap.get? l=some o) (hd:o.data = .seq vs.toArray n) (hb:s.heap.get? b=some o') (hd':o'.data = .seq us.toArray n') (hX:StrsAre vs xs) (hY:StrsAre us ys),∀ (k i:Nat),vs.length - i=k→i≤vs.length→i≤us.length→R (.ok (.ret (.bool (bS (ys.drop i) (xs.drop i))))) s→codeAny (model prog w) A (.builtin "list.__eq__.loop" ⟨[.ref l,.ref b,.int (i:Int) 0,.int 4 0],[]⟩) R s
noncomputable def qU (prog:Program) (A:Around) (R:Result→Shared→Prop) (I S:Addr) (v:Value) (c:Nat):Prop := ∀ (hS:s.heap.get? S=some { cls := .type "list",dict:=none,data := .seq #[v,v] c,slots := #[] }) (hn:∀ (E':Value→Shared→Prop),wpAny (model prog w) A.in1 (pyNext (.ref I)) (fun r s'=>r=none∧s'.heap.get? S=some { cls := .type "list",dict:=none,data := .seq #[v,v] c,slots := #[] } ∧ ∀ h',(∀ b o,b≠S→s'.heap.get? b=some o→h'.get? b=some o)→R (.ok (.ret v)) { s' with heap:=h' }) E' s),codeAny (model prog w) A (.builtin "min.loop" ⟨[.ref I,.none,.ref S],[]⟩) R s
noncomputable def jq (prog:Program) (A:Around) (R:Result→Shared→Prop) (I S:Addr) (o v:Value) (c:Nat):Prop := ∀ {b:Bool} (hS:s.heap.get? S=some { cls := .type "list",dict:=none,data := .seq #[o,o] c,slots := #[] }) (hn:∀ (E':Value→Shared→Prop),wpAny (model prog w) A.in1 (pyNext (.ref I)) (fun r s'=>r=some v∧s'.heap.get? S=some { cls := .type "list",dict:=none,data := .seq #[o,o] c,slots := #[] }∧(∀ (E':Value→Shared→Prop) (Q':Value→Shared→Prop),Q' (.bool b) s'→wpAny (model prog w) A.in1 (richCompare .Lt v o) Q' E' s') ∧ ∀ h' c',h'.get? S=some { cls := .type "list",dict:=none,data := .seq (if b then #[v,v] else #[o,o]) c',slots := #[] }→(∀ b o,b≠S→s'.heap.get? b=some o→h'.get? b=some o)→codeAny (model prog w) A (.builtin "min.loop" ⟨[.ref I,.none,.ref S],[]⟩) R { s' with heap:=h' }) E' s),codeAny (model prog w) A (.builtin "min.loop" ⟨[.ref I,.none,.ref S],[]⟩) R s
noncomputable def nj (prog:Program) (A:Around) (l a b:Addr) (k ka kb:Nat) (va vb:List Value) (xs ys:List Str):Prop := ∀ (hh:A.handled=none) (hu:A.units+5 < cLine) (F:Fr h₀ L s.heap m) (N:News h₀ L s.heap news) (hm:(l,listOf #[.ref a,.ref b] k)∈news) (ha:(a,listOf va.toArray ka)∈news) (hb:(b,listOf vb.toArray kb)∈news) (hX:StrsAre va xs) (hY:StrsAre vb ys) (ret:∀ h tk,Fr h₀ L h m→News h₀ L h news→Q (.ref (if bS ys xs then b else a)) { s with heap:=h,toks:=tk }),wpAny (model prog w) A (call (.builtin "min") [.ref l]) Q E s
noncomputable def pK (H:Addr) (a b:Str) (ta tb:Tok) (c:Nat):Prop := ∀ (B:Below A₀ base outer h₀) (F:Fr h₀ L s.heap m) (X:(hd.heap_1 w.params).In h₀) (N:News h₀ L s.heap ((H,W.listOf [.str a ta,.str b tb].toArray c)::news)) (T:Top p loose mean mg mb h₀) (hf:env.frame=some L) (hk:env.scope.kind = .function) (hd:dp+2 < recursionLimit) (hu:un+32 < cLine) (ha:a.length≤1000) (hb:b.length≤1000) (ha2:Txt.startswith a (Str.ofString "/")=true) (hsa5:(Txt.split a (Str.ofString "/")).length≤1000) (hsb5:(Txt.split b (Str.ofString "/")).length≤1000) (hb2:Txt.startswith b (Str.ofString "/")=true) (hwa:wt (Txt.split a (Str.ofString "/"))≤100000) (hwb:wt (Txt.split b (Str.ofString "/"))≤100000) (ret:∀ t h1 tk,Fr h₀ L h1 m→News h₀ L h1 ((H,W.listOf [.str a ta,.str b tb].toArray c)::news)→Q (.str (aU a b) t) { s with heap:=h1,toks:=tk }),
 wpAny (model Challenge.rw_ik0112_01.row.prog w) { handled:=none,depth:=dp,frames:=some (env::outer),guards:=gd,units:=un } (call (.ref 155) [.ref H]) Q E s
noncomputable def pI (H:Addr) (a:Str) (b:Str) (ta:Tok) (tb:Tok) (c:Nat):{Pq9:PySem.Heap→PySem.Addr→PySem.Heap→Prop // (∀ g L h,Pq9 g L h)→pK w p loose mean mg mb news dp un gd env outer A₀ base h₀ L m s Q E H a b ta tb c}:=⟨_,fun K=>by
 intro B F X N T hf hk hd hu ha hb ha2 hsa5 hsb5 hb2 hwa hwb ret
 revert X;k_fill;intro X
 refine wpAny_call ?_
 k_extra "a4"
 repeat revert ‹(_:Prop)›
 intro K
 exact K g' L' h'⟩
noncomputable def lK (H:Addr) (a b:Str) (ta tb:Tok) (c:Nat) (g':PySem.Heap) (L':Addr) (h':PySem.Heap):Prop:=(pI w p loose mean mg mb news dp un gd env outer A₀ base h₀ L m s Q E H a b ta tb c).1 g' L' h'
noncomputable def sS (a b:Str) (ta tb:Tok):Prop := ∀ (B:Below A₀ base outer h₀) (F:Fr h₀ L s.heap m) (X:(hd.heap_1 w.params).In h₀) (N:News h₀ L s.heap news) (T:Top p loose mean mg mb h₀) (hf:env.frame=some L) (hk:env.scope.kind = .function) (hd:dp+4 < recursionLimit) (hu:un+200 < cLine) (ha:a.length≤100) (hb:b.length≤100) (ha2:Txt.startswith a (Str.ofString "/")=true) (hb2:Txt.startswith b (Str.ofString "/")=true) (ret:∀ t h1 tk,Fr h₀ L h1 m→News h₀ L h1 news→Q (.str (o7 a b) t) { s with heap:=h1,toks:=tk }),
 wpAny (model Challenge.rw_ik0112_01.row.prog w) { handled:=none,depth:=dp,frames:=some (env::outer),guards:=gd,units:=un } (call (.ref 255) [.str a ta,.str b tb]) Q E s
noncomputable def sQ (a:Str) (b:Str) (ta:Tok) (tb:Tok):{Pq9:PySem.Heap→PySem.Addr→PySem.Heap→Prop // (∀ g L h,Pq9 g L h)→sS w p loose mean mg mb news dp un gd env outer A₀ base h₀ L m s Q E a b ta tb}:=⟨_,fun K=>by
 intro B F X N T hf hk hd hu ha hb ha2 hb2 ret
 revert X;k_fill;intro X
 refine wpAny_call ?_
 k_extra "aw"
 repeat revert ‹(_:Prop)›
 intro K
 exact K g' L' h'⟩
noncomputable def o6 (a b:Str) (ta tb:Tok) (g':PySem.Heap) (L':Addr) (h':PySem.Heap):Prop:=(sQ w p loose mean mg mb news dp un gd env outer A₀ base h₀ L m s Q E a b ta tb).1 g' L' h'
noncomputable def kJ (rest cold:LO) (D:Addr) (ws:List Value) (c:Nat) (ds:List Dat) (k a b:Nat) (t u:Tok) (x:Dat):Prop := ∀ (B:Below A₀ base outer h₀) (F:Fr h₀ L s.heap m) (X:(hd.heap_1 w.params).In h₀) (N:News h₀ L s.heap ((D,W.listOf ws.toArray c)::rest)) (hne:∀ p∈rest,p.1≠D) (hcold:∀ p∈cold,p∈rest) (hD:DatAll cold ws ds) (hz:ds.length≤100000) (hok:∀ a∈ds,kqdOk k a=true) (hcmp:∀ a∈ds,∀ b∈ds,aY k a b=true) (hk9:k≤4) (T:Top p loose mean mg mb h₀) (hf:env.frame=some L) (hk:env.scope.kind = .function) (hd:dp+1 < recursionLimit) (hu:un+16 < cLine) (hb:b < ds.length) (hx:ds[b]? = some x) (ret:∀  ws1 c1 h1 tk,Fr h₀ L h1 m→News h₀ L h1 ((D,W.listOf ws1.toArray c1)::rest)→DatAll cold ws1 (bG (dlt k) a ds b x)→Q (.none) { s with heap:=h1,toks:=tk }),
 wpAny (model Challenge.rw_ik0112_01.row.prog w) { handled:=none,depth:=dp,frames:=some (env::outer),guards:=gd,units:=un } (call (.ref 190) [.ref D,.int a t,.int b u]) Q E s
noncomputable def kH (rest:List (Addr × Obj)) (cold:List (Addr × Obj)) (D:Addr) (ws:List Value) (c:Nat) (ds:List Dat) (k:Nat) (a:Nat) (b:Nat) (t:Tok) (u:Tok) (x:Dat):{Pq9:PySem.Heap→PySem.Addr→PySem.Heap→Prop // (∀ g L h,Pq9 g L h)→kJ w p loose mean mg mb dp un gd env outer A₀ base h₀ L m s Q E rest cold D ws c ds k a b t u x}:=⟨_,fun K=>by
 k_extra "dh"
 revert X;k_fill;intro X
 refine wpAny_call ?_
 k_extra "aw"
 repeat revert ‹(_:Prop)›
 intro K
 exact K g' L' h'⟩
noncomputable def iW (rest cold:LO) (D:Addr) (ws:List Value) (c:Nat) (ds:List Dat) (k a b:Nat) (t u:Tok) (x:Dat) (g':PySem.Heap) (L':Addr) (h':PySem.Heap):Prop:=(kH w p loose mean mg mb dp un gd env outer A₀ base h₀ L m s Q E rest cold D ws c ds k a b t u x).1 g' L' h'
noncomputable def ir (rest cold:LO) (D:Addr) (ws:List Value) (c:Nat) (ds:List Dat) (k a b:Nat) (t u:Tok) (x:Dat):Prop := ∀ (B:Below A₀ base outer h₀) (F:Fr h₀ L s.heap m) (X:(hd.heap_1 w.params).In h₀) (N:News h₀ L s.heap ((D,W.listOf ws.toArray c)::rest)) (hne:∀ p∈rest,p.1≠D) (hcold:∀ p∈cold,p∈rest) (hD:DatAll cold ws ds) (hz:ds.length≤100000) (hok:∀ a∈ds,kqdOk k a=true) (hcmp:∀ a∈ds,∀ b∈ds,aY k a b=true) (hk9:k≤4) (T:Top p loose mean mg mb h₀) (hf:env.frame=some L) (hk:env.scope.kind = .function) (hd:dp+1 < recursionLimit) (hu:un+16 < cLine) (hb:b < ds.length) (hx:ds[b]? = some x) (ret:∀  ws1 c1 h1 tk,Fr h₀ L h1 m→News h₀ L h1 ((D,W.listOf ws1.toArray c1)::rest)→DatAll cold ws1 (bG (fun p q=>dlt k q p) a ds b x)→Q (.none) { s with heap:=h1,toks:=tk }),
 wpAny (model Challenge.rw_ik0112_01.row.prog w) { handled:=none,depth:=dp,frames:=some (env::outer),guards:=gd,units:=un } (call (.ref 204) [.ref D,.int a t,.int b u]) Q E s
noncomputable def ip (rest:List (Addr × Obj)) (cold:List (Addr × Obj)) (D:Addr) (ws:List Value) (c:Nat) (ds:List Dat) (k:Nat) (a:Nat) (b:Nat) (t:Tok) (u:Tok) (x:Dat):{Pq9:PySem.Heap→PySem.Addr→PySem.Heap→Prop // (∀ g L h,Pq9 g L h)→ir w p loose mean mg mb dp un gd env outer A₀ base h₀ L m s Q E rest cold D ws c ds k a b t u x}:=⟨_,fun K=>by
 k_extra "dh"
 revert X;k_fill;intro X
 refine wpAny_call ?_
 k_extra "aw"
 repeat revert ‹(_:Prop)›
 intro K
 exact K g' L' h'⟩
noncomputable def gM (rest cold:LO) (D:Addr) (ws:List Value) (c:Nat) (ds:List Dat) (k a b:Nat) (t u:Tok) (x:Dat) (g':PySem.Heap) (L':Addr) (h':PySem.Heap):Prop:=(ip w p loose mean mg mb dp un gd env outer A₀ base h₀ L m s Q E rest cold D ws c ds k a b t u x).1 g' L' h'
noncomputable def ow (rest cold:LO) (D:Addr) (ws:List Value) (c:Nat) (ds:List Dat) (k a:Nat) (t:Tok) (x:Dat):Prop := ∀ (B:Below A₀ base outer h₀) (F:Fr h₀ L s.heap m) (X:(hd.heap_1 w.params).In h₀) (N:News h₀ L s.heap ((D,W.listOf ws.toArray c)::rest)) (hne:∀ p∈rest,p.1≠D) (hcold:∀ p∈cold,p∈rest) (hD:DatAll cold ws ds) (hz:ds.length≤100000) (hok:∀ a∈ds,kqdOk k a=true) (hcmp:∀ a∈ds,∀ b∈ds,aY k a b=true) (hk9:k≤4) (T:Top p loose mean mg mb h₀) (hf:env.frame=some L) (hk:env.scope.kind = .function) (hd:dp+2 < recursionLimit) (hu:un+32 < cLine) (hb:a < ds.length) (hx:ds[a]? = some x) (ret:∀  ws1 c1 h1 tk,Fr h₀ L h1 m→News h₀ L h1 ((D,W.listOf ws1.toArray c1)::rest)→DatAll cold ws1 (bM (dlt k) ds a x)→Q (.none) { s with heap:=h1,toks:=tk }),
 wpAny (model Challenge.rw_ik0112_01.row.prog w) { handled:=none,depth:=dp,frames:=some (env::outer),guards:=gd,units:=un } (call (.ref 197) [.ref D,.int a t]) Q E s
noncomputable def ou (rest:List (Addr × Obj)) (cold:List (Addr × Obj)) (D:Addr) (ws:List Value) (c:Nat) (ds:List Dat) (k:Nat) (a:Nat) (t:Tok) (x:Dat):{Pq9:PySem.Heap→PySem.Addr→PySem.Heap→Prop // (∀ g L h,Pq9 g L h)→ow w p loose mean mg mb dp un gd env outer A₀ base h₀ L m s Q E rest cold D ws c ds k a t x}:=⟨_,fun K=>by
 k_extra "dh"
 revert X;k_fill;intro X
 refine wpAny_call ?_
 k_extra "aw"
 repeat revert ‹(_:Prop)›
 intro K
 exact K g' L' h'⟩
noncomputable def kC (rest cold:LO) (D:Addr) (ws:List Value) (c:Nat) (ds:List Dat) (k a:Nat) (t:Tok) (x:Dat) (g':PySem.Heap) (L':Addr) (h':PySem.Heap):Prop:=(ou w p loose mean mg mb dp un gd env outer A₀ base h₀ L m s Q E rest cold D ws c ds k a t x).1 g' L' h'
noncomputable def jS (rest cold:LO) (D:Addr) (ws:List Value) (c:Nat) (ds:List Dat) (k a:Nat) (t:Tok) (x:Dat):Prop := ∀ (B:Below A₀ base outer h₀) (F:Fr h₀ L s.heap m) (X:(hd.heap_1 w.params).In h₀) (N:News h₀ L s.heap ((D,W.listOf ws.toArray c)::rest)) (hne:∀ p∈rest,p.1≠D) (hcold:∀ p∈cold,p∈rest) (hD:DatAll cold ws ds) (hz:ds.length≤100000) (hok:∀ a∈ds,kqdOk k a=true) (hcmp:∀ a∈ds,∀ b∈ds,aY k a b=true) (hk9:k≤4) (T:Top p loose mean mg mb h₀) (hf:env.frame=some L) (hk:env.scope.kind = .function) (hd:dp+2 < recursionLimit) (hu:un+32 < cLine) (hb:a < ds.length) (hx:ds[a]? = some x) (ret:∀  ws1 c1 h1 tk,Fr h₀ L h1 m→News h₀ L h1 ((D,W.listOf ws1.toArray c1)::rest)→DatAll cold ws1 (bM (fun p q=>dlt k q p) ds a x)→Q (.none) { s with heap:=h1,toks:=tk }),
 wpAny (model Challenge.rw_ik0112_01.row.prog w) { handled:=none,depth:=dp,frames:=some (env::outer),guards:=gd,units:=un } (call (.ref 211) [.ref D,.int a t]) Q E s
noncomputable def jQ (rest:List (Addr × Obj)) (cold:List (Addr × Obj)) (D:Addr) (ws:List Value) (c:Nat) (ds:List Dat) (k:Nat) (a:Nat) (t:Tok) (x:Dat):{Pq9:PySem.Heap→PySem.Addr→PySem.Heap→Prop // (∀ g L h,Pq9 g L h)→jS w p loose mean mg mb dp un gd env outer A₀ base h₀ L m s Q E rest cold D ws c ds k a t x}:=⟨_,fun K=>by
 k_extra "dh"
 revert X;k_fill;intro X
 refine wpAny_call ?_
 k_extra "aw"
 repeat revert ‹(_:Prop)›
 intro K
 exact K g' L' h'⟩
noncomputable def io (rest cold:LO) (D:Addr) (ws:List Value) (c:Nat) (ds:List Dat) (k a:Nat) (t:Tok) (x:Dat) (g':PySem.Heap) (L':Addr) (h':PySem.Heap):Prop:=(jQ w p loose mean mg mb dp un gd env outer A₀ base h₀ L m s Q E rest cold D ws c ds k a t x).1 g' L' h'
noncomputable def lp (rest cold:LO) (D:Addr) (ws:List Value) (c:Nat) (ds:List Dat) (k:Nat) (v:Value) (d:Dat):Prop := ∀ (B:Below A₀ base outer h₀) (F:Fr h₀ L s.heap m) (X:(hd.heap_1 w.params).In h₀) (N:News h₀ L s.heap ((D,W.listOf ws.toArray c)::rest)) (hne:∀ p∈rest,p.1≠D) (hcold:∀ p∈cold,p∈rest) (hD:DatAll cold ws ds) (hz:ds.length≤100000) (hok:∀ a∈ds,kqdOk k a=true) (hcmp:∀ a∈ds,∀ b∈ds,aY k a b=true) (hk9:k≤4) (T:Top p loose mean mg mb h₀) (hf:env.frame=some L) (hk:env.scope.kind = .function) (hd:dp+2 < recursionLimit) (hu:un+32 < cLine) (hz2:ds.length < 100000) (hd8:DatIn cold v d) (hok2:∀ a∈ds++[d],kqdOk k a=true) (hcmp2:∀ a∈ds++[d],∀ b∈ds++[d],aY k a b=true) (ret:∀  ws1 c1 h1 tk,Fr h₀ L h1 m→News h₀ L h1 ((D,W.listOf ws1.toArray c1)::rest)→DatAll cold ws1 (dI (dlt k) ds d)→Q (.none) { s with heap:=h1,toks:=tk }),
 wpAny (model Challenge.rw_ik0112_01.row.prog w) { handled:=none,depth:=dp,frames:=some (env::outer),guards:=gd,units:=un } (call (.ref 162) [.ref D,v]) Q E s
noncomputable def ll (rest:List (Addr × Obj)) (cold:List (Addr × Obj)) (D:Addr) (ws:List Value) (c:Nat) (ds:List Dat) (k:Nat) (v:Value) (d:Dat):{Pq9:PySem.Heap→PySem.Addr→PySem.Heap→Prop // (∀ g L h,Pq9 g L h)→lp w p loose mean mg mb dp un gd env outer A₀ base h₀ L m s Q E rest cold D ws c ds k v d}:=⟨_,fun K=>by
 intro B F X N hne hcold hD hz hok hcmp hk9 T hf hk hd hu hz2 hd8 hok2 hcmp2 ret
 revert X;k_fill;intro X
 refine wpAny_call ?_
 k_extra "aw"
 repeat revert ‹(_:Prop)›
 intro K
 exact K g' L' h'⟩
noncomputable def i5 (rest cold:LO) (D:Addr) (ws:List Value) (c:Nat) (ds:List Dat) (k:Nat) (v:Value) (d:Dat) (g':PySem.Heap) (L':Addr) (h':PySem.Heap):Prop:=(ll w p loose mean mg mb dp un gd env outer A₀ base h₀ L m s Q E rest cold D ws c ds k v d).1 g' L' h'
noncomputable def mW (rest cold:LO) (D:Addr) (ws:List Value) (c:Nat) (ds:List Dat) (k:Nat) (d0:Dat):Prop := ∀ (B:Below A₀ base outer h₀) (F:Fr h₀ L s.heap m) (X:(hd.heap_1 w.params).In h₀) (N:News h₀ L s.heap ((D,W.listOf ws.toArray c)::rest)) (hne:∀ p∈rest,p.1≠D) (hcold:∀ p∈cold,p∈rest) (hD:DatAll cold ws ds) (hz:ds.length≤100000) (hok:∀ a∈ds,kqdOk k a=true) (hcmp:∀ a∈ds,∀ b∈ds,aY k a b=true) (hk9:k≤4) (T:Top p loose mean mg mb h₀) (hf:env.frame=some L) (hk:env.scope.kind = .function) (hd:dp+3 < recursionLimit) (hu:un+48 < cLine) (hp : 0 < ds.length) (ret:∀ v ws1 c1 h1 tk,Fr h₀ L h1 m→News h₀ L h1 ((D,W.listOf ws1.toArray c1)::rest)→DatIn cold v (cZ (dlt k) ds d0).1→DatAll cold ws1 (cZ (dlt k) ds d0).2→Q v { s with heap:=h1,toks:=tk }),
 wpAny (model Challenge.rw_ik0112_01.row.prog w) { handled:=none,depth:=dp,frames:=some (env::outer),guards:=gd,units:=un } (call (.ref 169) [.ref D]) Q E s
noncomputable def mU (rest:List (Addr × Obj)) (cold:List (Addr × Obj)) (D:Addr) (ws:List Value) (c:Nat) (ds:List Dat) (k:Nat) (d0:Dat):{Pq9:PySem.Heap→PySem.Addr→PySem.Heap→Prop // (∀ g L h,Pq9 g L h)→mW w p loose mean mg mb dp un gd env outer A₀ base h₀ L m s Q E rest cold D ws c ds k d0}:=⟨_,fun K=>by
 intro B F X N hne hcold hD hz hok hcmp hk9 T hf hk hd hu hp ret
 revert X;k_fill;intro X
 refine wpAny_call ?_
 k_extra "aw"
 repeat revert ‹(_:Prop)›
 intro K
 exact K g' L' h'⟩
noncomputable def j5 (rest cold:LO) (D:Addr) (ws:List Value) (c:Nat) (ds:List Dat) (k:Nat) (d0:Dat) (g':PySem.Heap) (L':Addr) (h':PySem.Heap):Prop:=(mU w p loose mean mg mb dp un gd env outer A₀ base h₀ L m s Q E rest cold D ws c ds k d0).1 g' L' h'
noncomputable def mS (rest cold:LO) (D:Addr) (ws:List Value) (c:Nat) (ds:List Dat) (k:Nat) (v:Value) (d x:Dat):Prop := ∀ (B:Below A₀ base outer h₀) (F:Fr h₀ L s.heap m) (X:(hd.heap_1 w.params).In h₀) (N:News h₀ L s.heap ((D,W.listOf ws.toArray c)::rest)) (hne:∀ p∈rest,p.1≠D) (hcold:∀ p∈cold,p∈rest) (hD:DatAll cold ws ds) (hz:ds.length≤100000) (hok:∀ a∈ds,kqdOk k a=true) (hcmp:∀ a∈ds,∀ b∈ds,aY k a b=true) (hk9:k≤4) (T:Top p loose mean mg mb h₀) (hf:env.frame=some L) (hk:env.scope.kind = .function) (hd:dp+3 < recursionLimit) (hu:un+48 < cLine) (hx:ds[0]? = some x) (hd8:DatIn cold v d) (hok2:∀ a∈ds++[d],kqdOk k a=true) (hcmp2:∀ a∈ds++[d],∀ b∈ds++[d],aY k a b=true) (ret:∀ u ws1 c1 h1 tk,Fr h₀ L h1 m→News h₀ L h1 ((D,W.listOf ws1.toArray c1)::rest)→DatIn cold u x→DatAll cold ws1 (bM (fun p q=>dlt k q p) (ds.set 0 d) 0 d)→Q u { s with heap:=h1,toks:=tk }),
 wpAny (model Challenge.rw_ik0112_01.row.prog w) { handled:=none,depth:=dp,frames:=some (env::outer),guards:=gd,units:=un } (call (.ref 176) [.ref D,v]) Q E s
noncomputable def mQ (rest:List (Addr × Obj)) (cold:List (Addr × Obj)) (D:Addr) (ws:List Value) (c:Nat) (ds:List Dat) (k:Nat) (v:Value) (d:Dat) (x:Dat):{Pq9:PySem.Heap→PySem.Addr→PySem.Heap→Prop // (∀ g L h,Pq9 g L h)→mS w p loose mean mg mb dp un gd env outer A₀ base h₀ L m s Q E rest cold D ws c ds k v d x}:=⟨_,fun K=>by
 intro B F X N hne hcold hD hz hok hcmp hk9 T hf hk hd hu hx hd8 hok2 hcmp2 ret
 revert X;k_fill;intro X
 refine wpAny_call ?_
 k_extra "aw"
 repeat revert ‹(_:Prop)›
 intro K
 exact K g' L' h'⟩
noncomputable def j4 (rest cold:LO) (D:Addr) (ws:List Value) (c:Nat) (ds:List Dat) (k:Nat) (v:Value) (d x:Dat) (g':PySem.Heap) (L':Addr) (h':PySem.Heap):Prop:=(mQ w p loose mean mg mb dp un gd env outer A₀ base h₀ L m s Q E rest cold D ws c ds k v d x).1 g' L' h'
noncomputable def r6 (G:Str→Prop) (P:Addr) (wp:List Value) (cp:Nat) (start:Str) (ts:Tok) (places:List Str):Prop := ∀ (B:Below A₀ base outer h₀) (F:Fr h₀ L s.heap m) (X:(hd.heap_1 w.params).In h₀) (N:News h₀ L s.heap ((P,W.listOf wp.toArray cp)::news)) (T:Top p loose mean mg mb h₀) (hf:env.frame=some L) (hk:env.scope.kind = .function) (hd:dp+5 < recursionLimit) (hu:un+300 < cLine) (hS:StrsAre wp places) (hpz:places.length≤20) (hst:start.length≤100) (hG0:G (Str.ofString "")) (hGj:∀ x y,G x→G y→G (aG x y)) (hGd:G (Str.ofString "..")) (hGb:∀ q∈places,G (bJ q)) (hGo:∀ x,G x→PyData.strOk x=true) (hpo:∀ q∈places,q.length≤100∧PyData.strOk q=true) (hGn:∀ t,G t→t.length≤10000→((aG start t).length:Int)≠0∧(Txt.slice (aG start t) none (some 1) != Str.ofString "/")=false∧(Txt.slice (aG start t) (some 1) (some 2) != Str.ofString "/")=true∧PyData.strOk (bZ (aG start t))=true) (ret:∀ D nw h1 tk,Fr h₀ L h1 m→News h₀ L h1 (nw++(P,W.listOf wp.toArray cp)::news)→DatIn (nw++(P,W.listOf wp.toArray cp)::news) (.ref D) (.tuple [.list ((jf start places).2.map cX),.list ((jf start places).1.map bQ)])→Q (.ref D) { s with heap:=h1,toks:=tk }),
 wpAny (model Challenge.rw_ik0112_01.row.prog w) { handled:=none,depth:=dp,frames:=some (env::outer),guards:=gd,units:=un } (call (.ref 248) [.str start ts,.ref P]) Q E s
noncomputable def r4 (G:Str→Prop) (P:Addr) (wp:List Value) (cp:Nat) (start:Str) (ts:Tok) (places:List Str):{Pq9:PySem.Heap→PySem.Addr→PySem.Heap→Prop // (∀ g L h,Pq9 g L h)→r6 w p loose mean mg mb news dp un gd env outer A₀ base h₀ L m s Q E G P wp cp start ts places}:=⟨_,fun K=>by
 intro B F X N T hf hk hd hu hS hpz hst hG0 hGj hGd hGb hGo hpo hGn ret
 revert X;k_fill;intro X
 refine wpAny_call ?_
 k_extra "aw"
 repeat revert ‹(_:Prop)›
 intro K
 exact K g' L' h'⟩
noncomputable def n6 (G:Str→Prop) (P:Addr) (wp:List Value) (cp:Nat) (start:Str) (ts:Tok) (places:List Str) (g':PySem.Heap) (L':Addr) (h':PySem.Heap):Prop:=(r4 w p loose mean mg mb news dp un gd env outer A₀ base h₀ L m s Q E G P wp cp start ts places).1 g' L' h'
section
noncomputable def mB (prog:Program) (A:Around) (l q I S:Addr) (vs:List Value) (R:Result→Shared→Prop) (kd:List Dat) (k:Nat) (kw:List (Str × Value)):Prop := ∀ (hh:A.handled=none) (hu:A.units+2 * k+8 < cLine) (hl:∀ h,News h₀ L h news→h.IsList l vs.toArray) (hlI:l≠I) (hSI:S≠I) (hnS:∀ p∈news,p.1≠S) (hnI:∀ p∈news,p.1≠I) (hkl:kd.length=vs.length) (hok:∀ d∈kd,kqdOk k d=true) (hcmp:∀ a∈kd,∀ c∈kd,aY k a c=true) (turn:∀ (i:Nat) v d,vs[i]? = some v→kd[i]? = some d→mj prog w A.in1 h₀ L m news (.ref q) v d) (hR:∀ v h' tk',vs[bW (bC k kd) (vs.length - 1)]? = some v→Fr h₀ L h' m→News h₀ L h' news→R (.ok (.ret v)) { s with heap:=h',toks:=tk' }),∀ (r j:Nat) (h:Heap) (tk:Nat) (vb kb:Value) (c:Nat) (oI:Obj) (pre:List (Addr × Obj)),vs.length - (j+1)=r→j+1≤vs.length→Fr h₀ L h m→News h₀ L h (pre++(S,seqObj "list" #[vb,kb] c)::(I,oI)::news)→(∀ p∈pre,p.1≠S∧p.1≠I)→h.IsListIter I l (j+1)→vs[bW (bC k kd) j]? = some vb→DatIn pre kb (kd.getD (bW (bC k kd) j) .none)→codeAny (model prog w) A (.builtin "min.loop" ⟨[.ref I,.ref q,.ref S],kw⟩) R { s with heap:=h,toks:=tk }
end
section
noncomputable def ng (prog:Program) (A:Around) (l q I:Addr) (vs:List Value) (kd:List Dat) (k c:Nat) (o:Obj) (df:Value):Prop := ∀ (hh:A.handled=none) (hu:A.units+2 * k+16 < cLine) (F:Fr h₀ L s.heap m) (N:News h₀ L s.heap ((I,{ cls := .type "list_iterator",data := .fields #[.ref l,.int 0 0] })::news)) (hnI:∀ p∈news,p.1≠I) (hm:(l,o)∈news) (hc:o.cls = .type "list") (hd:o.data = .seq vs.toArray c) (hne : 0 < vs.length) (hkl:kd.length=vs.length) (hok:∀ d∈kd,kqdOk k d=true) (hcmp:∀ a∈kd,∀ c∈kd,aY k a c=true) (turn:∀ (i:Nat) v d,vs[i]? = some v→kd[i]? = some d→mj prog w A.in1 h₀ L m news (.ref q) v d) (ret:∀ v h' tk',vs[bW (bC k kd) (vs.length - 1)]? = some v→Fr h₀ L h' m→News h₀ L h' news→Q v { s with heap:=h',toks:=tk' }),wpAny (model prog w) A (call (.builtin "min") [.ref I] [(Str.ofString "default",df),(Str.ofString "key",.ref q)]) Q E s
end
section
noncomputable def eU (prog:Program) (A:Around) (z TI TO i1 i2 l2:Addr) (k2:Nat) (x left:Int) (ys:Array Value) (y a b:Value):Prop := ∀ (D:ZAp z TI TO i1 i2 l2) (hz:IsZip s.heap z TI TO .none) (hTI:IsPair s.heap TI (.ref i1) (.ref i2)) (hTO:IsPair s.heap TO a b) (h1:IsRangeIter s.heap i1 x left 1) (hleft : 0 < left) (h2:s.heap.IsListIter i2 l2 k2) (hl2:s.heap.IsList l2 ys) (hy:ys[k2]? = some y) (hQ:∀ h',IsZip h' z TI TO (rawInt s.heap.objs.size)→IsPair h' TO (.int x s.toks) y→IsRangeIter h' i1 (x+1) (left - 1) 1→h'.IsListIter i2 l2 (k2+1)→IsPair h' s.heap.objs.size (.int x s.toks) y→h'.objs.size=s.heap.objs.size+1 →
 (∀ c o,c≠z→c≠TO→c≠i1→c≠i2→s.heap.get? c=some o→h'.get? c=some o)→Q (.ref s.heap.objs.size) { s with heap:=h',toks:=s.toks+1 }),
 wpAny (model prog w) A (Builtin.«zip.__next__» ⟨[.ref z],[]⟩) (fun fin s' => ∃ v,fin = .done (.ret v)∧Q v s') E s
end
section
noncomputable def ig (prog:Program) (A:Around) (z TI TO i1 i2:Addr) (x left:Int) (Q:Fin→Shared→Prop):Prop := ∀ (hh:A.handled=none) (i1z:i1≠z) (hz:IsZip s.heap z TI TO .none) (hTI:IsPair s.heap TI (.ref i1) (.ref i2)) (h1:IsRangeIter s.heap i1 x left 1) (hleft:left≤0) (hE:∀ h' e,(∀ c o,c≠z→c≠i1→s.heap.get? c=some o→h'.get? c=some o)→(∃ o,h'.get? e=some o∧o.cls = .type "StopIteration")→E (.ref e) { s with heap:=h' }),wpAny (model prog w) A (Builtin.«zip.__next__» ⟨[.ref z],[]⟩) Q E s
end
section
noncomputable def iI (prog:Program) (A:Around) (elt iter:Expr) (x x₂:Str) (px px₂ tp:Pos) (tkn:Nat) (scope:Scope) (cl:List (Str × Addr)) (pos:Pos) (s₂:Shared) (z TO TI i1 I l:Addr) (n c:Nat) (oI ol:Obj) (vs:List Value) (RR:Value→Addr→Result→Shared→Prop):Prop := ∀ (K:Nat→List Value→List (Addr × Obj)→Prop) (hcell:∀ y∈scope.names,y.2 ≠ .cell) (hkind:scope.kind = .function) (hx:scope.names.lookup x=some .local) (hx₂:scope.names.lookup x₂=some .local) (hxx:x≠x₂) (hh:A.handled=none) (D:ZAp z TI TO i1 I l) (F:Fr h₀ L s₂.heap m) (N:News h₀ L s₂.heap (ZL z TO TI i1 I .none .none n 0 oI++news)) (off:∀ p∈news,ZA z TO TI i1 I p.1) (hl:∀ i ys nw,K i ys nw→(l,ol)∈nw) (hlc:ol.cls = .type "list") (hld:ol.data = .seq vs.toArray c) (hn:n≤vs.length) (hnz:n≤100000) (hoI:ZIt oI l 0) (h0:K 0 [] news) (turn:∀ i ys nw a b oI,i < n→K i ys nw → ∀ v t C oC D m₂ h tk (E':Value→Shared→Prop),vs[i]? = some v→NsObj oC m₂→m₂ x=some (.int i t)→m₂ x₂=some v→Fr h₀ L h m→News h₀ L h ((C,oC)::(D,lst ys)::(ZL z TO TI i1 I a b n (i+1) oI++nw)) →
 (∀ p∈nw,p.1≠C∧p.1≠D) → @Ne Nat C D →
 wpAny (model prog w) A (eval elt (compEnvC scope cl C env)) (zG h₀ L m { s₂ with heap:=h,toks:=tk } C oC D (lst ys) (ZL z TO TI i1 I a b n (i+1) oI) (fun y nw'=>K (i+1) (ys++[y]) nw') nw) E' { s₂ with heap:=h,toks:=tk }) (hRR:∀ D C h tk m' ys nw oI,K n ys nw→ZIt oI l n→Fr h₀ L h m→News h₀ L h ((D,lst ys)::(I,oI)::nw)→(∀ p∈nw,p.1≠D∧p.1≠I∧p.1≠C) → @Ne Nat D I → @Ne Nat I C→h.Ns C m'→h₀.get? C=none→h₀.get? D=none→C≠L→D≠L→C≠D→RR (.ref D) C (.ok .next) { s₂ with heap:=h,toks:=tk }),
 wpAny (model prog w) A (newList []) (fun acc s₃=>wpAny (model prog w) A (newFunctionEnv scope env.globals cl [] env.qual none .none (some env)) (fun cenv s₄ =>
  codeAny (model prog w) A (.compStart (.ListComp elt [⟨.Tuple [.Name x px,.Name x₂ px₂] tkn tp,iter,[],0⟩] scope pos) 0 (.ref z) acc { cenv with scope:=relabel scope env }) (RR acc cenv.locals) s₄) E s₃) E s₂
end
section
noncomputable def dX (prog:Program) (A:Around) (elt iter:Expr) (x x₂ y:Str) (px px₂ tp py:Pos) (tkn:Nat) (scope:Scope) (cl:List (Str × Addr)) (pos spos:Pos) (Q:Flow→Shared→Prop):Prop := ∀ {L:Addr} (hh:A.handled=none) (F₀:Fr h₀ L s.heap m) (hLe:env.locals=L) (hsw:swapsWith (.ListComp elt [⟨.Tuple [.Name x px,.Name x₂ px₂] tkn tp,iter,[],0⟩] scope pos) (some (.Name y py)) spos.line env=pure true) (hclos:closureFor scope env=pure cl) (hcell:∀ z∈scope.names,z.2 ≠ .cell) (hkind:scope.kind = .function) (hnames:∀ z∈scope.names,z.2 = .local→scope.names.lookup z.1=some .local) (hx:scope.names.lookup x=some .local) (hx₂:scope.names.lookup x₂=some .local) (hxx:x≠x₂) (hy:env.kindOf y=some .local) (hp:(env.scope.kind == .class || (env.scope.kind == .module && env.locals != env.globals))=false) (h:wpAny (model prog w) A (eval iter env) (Cr prog w A h₀ L m env elt x x₂ scope cl y Q) E s) (hs:∀ x,foldedSetIterable iter env x=pure x),wpAny (model prog w) A (exec (.Assign [.Name y py] (.ListComp elt [⟨.Tuple [.Name x px,.Name x₂ px₂] tkn tp,iter,[],0⟩] scope pos) spos) env) Q E s
end
section
noncomputable def jg (prog:Program) (A:Around) (elt iter:Expr) (x₁ x₂ x₃:Str) (p₁ p₂ p₃ tp:Pos) (tkn:Nat) (scope:Scope) (cl:List (Str × Addr)) (pos:Pos) (s₂:Shared) (l I:Addr) (c:Nat) (ol:Obj) (vs:List Value) (RR:Value→Addr→Result→Shared→Prop):Prop := ∀ (K:Nat→List Value→Prop) (hcell:∀ y∈scope.names,y.2 ≠ .cell) (hkind:scope.kind = .function) (hx₁:scope.names.lookup x₁=some .local) (hx₂:scope.names.lookup x₂=some .local) (hx₃:scope.names.lookup x₃=some .local) (h12:x₁≠x₂) (h13:x₁≠x₃) (h23:x₂≠x₃) (hh:A.handled=none) (F:Fr h₀ L s₂.heap m) (N:News h₀ L s₂.heap news) (hI:s₂.heap.IsListIter I l 0) (hIL:I≠L) (hI0:h₀.get? I=none) (off:∀ p∈news,p.1≠I) (hl:(l,ol)∈news) (hlc:ol.cls = .type "list") (hld:ol.data = .seq vs.toArray c) (hnz:vs.length≤100000) (h0:K 0 []) (hv:∀ (i:Nat) v,vs[i]? = some v → ∃ (t:Addr) (ot:Obj) (a b d:Value) (nt:Nat),v = .ref t∧(t,ot)∈news∧ot.cls = .type "tuple" ∧ ot.data = .seq #[a,b,d] nt) (turn:∀ (i:Nat) ys t (ot:Obj) a b d nt,K i ys→vs[i]? = some (.ref t)→(t,ot)∈news→ot.data = .seq #[a,b,d] nt → ∀ C oC D m₂ h tk (E':Value→Shared→Prop),NsObj oC m₂→m₂ x₁=some a→m₂ x₂=some b→m₂ x₃=some d→Fr h₀ L h m→News h₀ L h ((C,oC)::(D,lst ys)::news) →
 wpAny (model prog w) A (eval elt (compEnvC scope cl C env)) (fun y s' => ∃ tk',s'={ s₂ with heap:=h,toks:=tk' }∧K (i+1) (ys++[y])) E' { s₂ with heap:=h,toks:=tk }) (hRR:∀ D C h tk m' ys,K vs.length ys→Fr h₀ L h m→News h₀ L h ((D,lst ys)::news)→(∀ p∈news,p.1 < D∧p.1≠C)→h.Ns C m'→h₀.get? C=none→h₀.get? D=none→C≠L→D≠L→C≠D→RR (.ref D) C (.ok .next) { s₂ with heap:=h,toks:=tk }),
 wpAny (model prog w) A (newList []) (fun acc s₃=>wpAny (model prog w) A (newFunctionEnv scope env.globals cl [] env.qual none .none (some env)) (fun cenv s₄ =>
  codeAny (model prog w) A (.compStart (.ListComp elt [⟨.Tuple [.Name x₁ p₁,.Name x₂ p₂,.Name x₃ p₃] tkn tp,iter,[],0⟩] scope pos) 0 (.ref I) acc { cenv with scope:=relabel scope env }) (RR acc cenv.locals) s₄) E s₃) E s₂
end
noncomputable def m0 (rest cold:LO) (D:Addr) (ws:List Value) (c:Nat) (ds:List Dat) (k:Nat):Prop := ∀ (B:Below A₀ base outer h₀) (F:Fr h₀ L s.heap m) (X:(hd.heap_1 w.params).In h₀) (N:News h₀ L s.heap ((D,W.listOf ws.toArray c)::rest)) (hne:∀ p∈rest,p.1≠D) (hcold:∀ p∈cold,p∈rest) (hD:DatAll cold ws ds) (hz:ds.length≤100000) (hok:∀ a∈ds,kqdOk k a=true) (hcmp:∀ a∈ds,∀ b∈ds,aY k a b=true) (hk9:k≤4) (T:Top p loose mean mg mb h₀) (hf:env.frame=some L) (hk:env.scope.kind = .function) (hd:dp+3 < recursionLimit) (hu:un+48 < cLine) (ret:∀ ws1 c1 h1 tk,Fr h₀ L h1 m→News h₀ L h1 ((D,W.listOf ws1.toArray c1)::rest)→DatAll cold ws1 (cV (fun p q=>dlt k q p) ds)→Q (.none) { s with heap:=h1,toks:=tk }),wpAny (model Challenge.rw_ik0112_01.row.prog w) { handled:=none,depth:=dp,frames:=some (env::outer),guards:=gd,units:=un } (call (.ref 183) [.ref D]) Q E s
noncomputable def mY (rest:List (Addr × Obj)) (cold:List (Addr × Obj)) (D:Addr) (ws:List Value) (c:Nat) (ds:List Dat) (k:Nat):{Pq9:PySem.Heap→PySem.Addr→PySem.Heap→Prop // (∀ g L h,Pq9 g L h)→m0 w p loose mean mg mb dp un gd env outer A₀ base h₀ L m s Q E rest cold D ws c ds k}:=⟨_,fun K=>by
 intro B F X N hne hcold hD hz hok hcmp hk9 T hf hk hd hu ret
 revert X;k_fill;intro X
 refine wpAny_call ?_
 k_extra "aw"
 repeat revert ‹(_:Prop)›
 intro K
 exact K g' L' h'⟩
noncomputable def j6 (rest cold:LO) (D:Addr) (ws:List Value) (c:Nat) (ds:List Dat) (k:Nat) (g':PySem.Heap) (L':Addr) (h':PySem.Heap):Prop:=(mY w p loose mean mg mb dp un gd env outer A₀ base h₀ L m s Q E rest cold D ws c ds k).1 g' L' h'
noncomputable def nE (P kf:Addr) (foc:Value) (fod:Option Addr) (ffd:FuncData) (fsl:Array (Option Value)) (ws:List Value) (c:Nat) (cold:LO) (ds ks:List Dat) (tn:Tok) (kk:Nat):Prop := ∀ {n:Nat} (B:Below A₀ base outer h₀) (F:Fr h₀ L s.heap m) (X:(hd.heap_1 w.params).In h₀) (N:News h₀ L s.heap ((P,W.listOf ws.toArray c)::(kf,⟨foc,fod,.func ffd,fsl⟩)::news)) (T:Top p loose mean mg mb h₀) (hf:env.frame=some L) (hk:env.scope.kind = .function) (hd:dp+8 < recursionLimit) (hu:un+600 < cLine) (hD:DatAll cold ws ds) (hcold:∀ p∈cold,p∈news) (hkl:ks.length=ds.length) (hz:ds.length < 60) (hkey:∀ {led:List (Addr × Obj)} {dp un:Nat} {gd:Option (List Code)} {env:Env} {outer:List Env} {A₀:Around} {base h₁:Heap} {L:Addr} {m:Str→Option Value} {s:Shared} {Q E:Value→Shared→Prop} (i:Nat) (v:Value) (d:Dat),Below A₀ base outer h₁→Fr h₁ L s.heap m→(Mine.hd.heap_1 w.params).In h₁→News h₁ L s.heap led→Top p loose mean mg mb h₁→env.frame=some L→env.scope.kind = .function→dp+6 < recursionLimit→un+300 < cLine→(∀ p∈(kf,⟨foc,fod,.func ffd,fsl⟩)::news,p∈led)→ws[i]? = some v→ks[i]? = some d→(∀ u tl h tk,Fr h₁ L h m→News h₁ L h (tl++led)→(∀ p∈tl,∀ q∈led,q.1 < p.1)→DatIn tl u d→Q u { s with heap:=h,toks:=tk })→wpAny (model Challenge.rw_ik0112_01.row.prog w) { handled:=none,depth:=dp,frames:=some (env::outer),guards:=gd,units:=un } (call (.ref kf) [v]) Q E s) (hn:n=1) (hz0 : 0 < ds.length) (hkk:kk≤8) (hok:∀ d∈ks,kqdOk kk d=true) (hcmp:∀ a∈ks,∀ c∈ks,aY kk a c=true) (ret:∀ D nw h1 tk,Fr h₀ L h1 m→News h₀ L h1 (nw++(P,W.listOf ws.toArray c)::(kf,⟨foc,fod,.func ffd,fsl⟩)::news)→DatIn (nw++(P,W.listOf ws.toArray c)::(kf,⟨foc,fod,.func ffd,fsl⟩)::news) (.ref D) (.list [ds.getD (bW (bC kk ks) (ds.length - 1)) .none])→Q (.ref D) { s with heap:=h1,toks:=tk }),wpAny (model Challenge.rw_ik0112_01.row.prog w) { handled:=none,depth:=dp,frames:=some (env::outer),guards:=gd,units:=un } (call (.ref 217) [.int n tn,.ref P] [(Str.ofString "key",.ref kf)]) Q E s
noncomputable def sC (P kf:Addr) (foc:Value) (fod:Option Addr) (ffd:FuncData) (fsl:Array (Option Value)) (ws:List Value) (c:Nat) (cold:LO) (ds ks:List Dat) (n:Nat) (tn:Tok) (kk:Nat):Prop := ∀ (B:Below A₀ base outer h₀) (F:Fr h₀ L s.heap m) (X:(hd.heap_1 w.params).In h₀) (N:News h₀ L s.heap ((P,W.listOf ws.toArray c)::(kf,⟨foc,fod,.func ffd,fsl⟩)::news)) (T:Top p loose mean mg mb h₀) (hf:env.frame=some L) (hk:env.scope.kind = .function) (hd:dp+8 < recursionLimit) (hu:un+600 < cLine) (hD:DatAll cold ws ds) (hcold:∀ p∈cold,p∈news) (hkl:ks.length=ds.length) (hz:ds.length < 60) (hkey:∀ {led:List (Addr × Obj)} {dp un:Nat} {gd:Option (List Code)} {env:Env} {outer:List Env} {A₀:Around} {base h₁:Heap} {L:Addr} {m:Str→Option Value} {s:Shared} {Q E:Value→Shared→Prop} (i:Nat) (v:Value) (d:Dat),Below A₀ base outer h₁→Fr h₁ L s.heap m→(Mine.hd.heap_1 w.params).In h₁→News h₁ L s.heap led→Top p loose mean mg mb h₁→env.frame=some L→env.scope.kind = .function→dp+6 < recursionLimit→un+300 < cLine→(∀ p∈(kf,⟨foc,fod,.func ffd,fsl⟩)::news,p∈led) →
 ws[i]? = some v→ks[i]? = some d→(∀ u tl h tk,Fr h₁ L h m→News h₁ L h (tl++led)→(∀ p∈tl,∀ q∈led,q.1 < p.1)→DatIn tl u d→Q u { s with heap:=h,toks:=tk }) →
 wpAny (model Challenge.rw_ik0112_01.row.prog w) { handled:=none,depth:=dp,frames:=some (env::outer),guards:=gd,units:=un } (call (.ref kf) [v]) Q E s) (hn:n≠1) (hn2:ds.length≤n) (hz0 : 2≤ds.length) (hkk:kk≤8) (hS:Sortable kk ks) (ret:∀ D nw es h1 tk,Fr h₀ L h1 m→News h₀ L h1 (nw++(P,W.listOf ws.toArray c)::(kf,⟨foc,fod,.func ffd,fsl⟩)::news)→bB (kk+1) ks ds es→DatIn (nw++(P,W.listOf ws.toArray c)::(kf,⟨foc,fod,.func ffd,fsl⟩)::news) (.ref D) (.list (es.take n))→Q (.ref D) { s with heap:=h1,toks:=tk }),
 wpAny (model Challenge.rw_ik0112_01.row.prog w) { handled:=none,depth:=dp,frames:=some (env::outer),guards:=gd,units:=un } (call (.ref 217) [.int n tn,.ref P] [(Str.ofString "key",.ref kf)]) Q E s
noncomputable def sA (P:Addr) (kf:Addr) (foc:Value) (fod:Option Addr) (ffd:FuncData) (fsl:Array (Option Value)) (ws:List Value) (c:Nat) (cold:List (Addr × Obj)) (ds:List Dat) (ks:List Dat) (n:Nat) (tn:Tok) (kk:Nat):{Pq9:PySem.Heap→PySem.Addr→PySem.Heap→Prop // (∀ g L h,Pq9 g L h)→sC w p loose mean mg mb news dp un gd env outer A₀ base h₀ L m s Q E P kf foc fod ffd fsl ws c cold ds ks n tn kk}:=⟨_,fun K=>by
 intro B F X N T hf hk hd hu hD hcold hkl hz hkey hn hn2 hz0 hkk hS ret
 revert X;k_fill;intro X
 refine wpAny_call ?_
 k_extra "a4"
 repeat revert ‹(_:Prop)›
 intro K
 exact K g' L' h'⟩
noncomputable def oO (P kf:Addr) (foc:Value) (fod:Option Addr) (ffd:FuncData) (fsl:Array (Option Value)) (ws:List Value) (c:Nat) (cold:LO) (ds ks:List Dat) (n:Nat) (tn:Tok) (kk:Nat) (g':PySem.Heap) (L':Addr) (h':PySem.Heap):Prop:=(sA w p loose mean mg mb news dp un gd env outer A₀ base h₀ L m s Q E P kf foc fod ffd fsl ws c cold ds ks n tn kk).1 g' L' h'
noncomputable def sx (P kf:Addr) (foc:Value) (fod:Option Addr) (ffd:FuncData) (fsl:Array (Option Value)) (ws:List Value) (c:Nat) (cold:LO) (ds ks:List Dat) (n:Nat) (tn:Tok) (kk:Nat):Prop := ∀ (B:Below A₀ base outer h₀) (F:Fr h₀ L s.heap m) (X:(hd.heap_1 w.params).In h₀) (N:News h₀ L s.heap ((P,W.listOf ws.toArray c)::(kf,⟨foc,fod,.func ffd,fsl⟩)::news)) (T:Top p loose mean mg mb h₀) (hf:env.frame=some L) (hk:env.scope.kind = .function) (hd:dp+8 < recursionLimit) (hu:un+600 < cLine) (hD:DatAll cold ws ds) (hcold:∀ p∈cold,p∈news) (hkl:ks.length=ds.length) (hz:ds.length < 60) (hkey:∀ {led:List (Addr × Obj)} {dp un:Nat} {gd:Option (List Code)} {env:Env} {outer:List Env} {A₀:Around} {base h₁:Heap} {L:Addr} {m:Str→Option Value} {s:Shared} {Q E:Value→Shared→Prop} (i:Nat) (v:Value) (d:Dat),Below A₀ base outer h₁→Fr h₁ L s.heap m→(Mine.hd.heap_1 w.params).In h₁→News h₁ L s.heap led→Top p loose mean mg mb h₁→env.frame=some L→env.scope.kind = .function→dp+6 < recursionLimit→un+300 < cLine→(∀ p∈(kf,⟨foc,fod,.func ffd,fsl⟩)::news,p∈led) →
 ws[i]? = some v→ks[i]? = some d→(∀ u tl h tk,Fr h₁ L h m→News h₁ L h (tl++led)→(∀ p∈tl,∀ q∈led,q.1 < p.1)→DatIn tl u d→Q u { s with heap:=h,toks:=tk }) →
 wpAny (model Challenge.rw_ik0112_01.row.prog w) { handled:=none,depth:=dp,frames:=some (env::outer),guards:=gd,units:=un } (call (.ref kf) [v]) Q E s) (hn : 2≤n) (hn2:n < ds.length) (hkk:kk≤2) (hS:Sortable kk ks) (hokd:∀ d∈ds,kqdOk (kk+1) d=true) (hcmpd:∀ a∈ds,∀ c∈ds,aY (kk+1) a c=true) (hS3:Sortable (kk+1) (bD (kk+1) ks ds n (ds.length - n)).1) (ret:∀ D nw es h1 tk,Fr h₀ L h1 m→News h₀ L h1 (nw++(P,W.listOf ws.toArray c)::(kf,⟨foc,fod,.func ffd,fsl⟩)::news)→bB (kk+1+1) (bD (kk+1) ks ds n (ds.length - n)).1 (bD (kk+1) ks ds n (ds.length - n)).1 es→DatIn (nw++(P,W.listOf ws.toArray c)::(kf,⟨foc,fod,.func ffd,fsl⟩)::news) (.ref D) (.list (es.map yz))→Q (.ref D) { s with heap:=h1,toks:=tk }),
 wpAny (model Challenge.rw_ik0112_01.row.prog w) { handled:=none,depth:=dp,frames:=some (env::outer),guards:=gd,units:=un } (call (.ref 217) [.int n tn,.ref P] [(Str.ofString "key",.ref kf)]) Q E s
noncomputable def sv (P:Addr) (kf:Addr) (foc:Value) (fod:Option Addr) (ffd:FuncData) (fsl:Array (Option Value)) (ws:List Value) (c:Nat) (cold:List (Addr × Obj)) (ds:List Dat) (ks:List Dat) (n:Nat) (tn:Tok) (kk:Nat):{Pq9:PySem.Heap→PySem.Addr→PySem.Heap→Prop // (∀ g L h,Pq9 g L h)→sx w p loose mean mg mb news dp un gd env outer A₀ base h₀ L m s Q E P kf foc fod ffd fsl ws c cold ds ks n tn kk}:=⟨_,fun K=>by
 intro B F X N T hf hk hd hu hD hcold hkl hz hkey hn hn2 hkk hS hokd hcmpd hS3 ret
 revert X;k_fill;intro X
 refine wpAny_call ?_
 k_extra "a4"
 repeat revert ‹(_:Prop)›
 intro K
 exact K g' L' h'⟩
noncomputable def oN (P kf:Addr) (foc:Value) (fod:Option Addr) (ffd:FuncData) (fsl:Array (Option Value)) (ws:List Value) (c:Nat) (cold:LO) (ds ks:List Dat) (n:Nat) (tn:Tok) (kk:Nat) (g':PySem.Heap) (L':Addr) (h':PySem.Heap):Prop:=(sv w p loose mean mg mb news dp un gd env outer A₀ base h₀ L m s Q E P kf foc fod ffd fsl ws c cold ds ks n tn kk).1 g' L' h'
noncomputable def mO (h:Heap) (lQ lP lS lT:Addr) (vQ vP vS vT:List Value) (nQ nP nS nT:Nat) (c3 c2 c1 R X H t:Addr × Obj) (tq t3 t2:LO) (dsQ dsS dsT:List Dat):Prop := ∀ (N:News h₀ L h ([]++(lQ,W.listOf vQ.toArray nQ)::(tq++(lP,W.listOf vP.toArray nP)::(lS,W.listOf vS.toArray nS)::c3::c2::c1::R::(lT,W.listOf vT.toArray nT)::X::H::(t3++(t2++[t]))))) (hbd:∀ xs n,t.2.data ≠ .seq xs n) (n3:t.1≠c3.1) (n2:t.1≠c2.1) (n1:t.1≠c1.1) (aQ:DatAll tq vQ dsQ) (aS:DatAll t3 vS dsS) (aT:DatAll t2 vT dsT),∃ (lP':Addr) (tl:List (Addr × Obj)),lP'=lP∧News h₀ L h (t::(lQ,W.listOf vQ.toArray nQ)::(lP',W.listOf vP.toArray nP)::(lS,W.listOf vS.toArray nS)::(lT,W.listOf vT.toArray nT)::c3::c2::c1::tl)∧(∀ p∈(lQ,W.listOf vQ.toArray nQ)::(lP',W.listOf vP.toArray nP)::(lS,W.listOf vS.toArray nS)::(lT,W.listOf vT.toArray nT)::c3::c2::c1::tl,p.1≠t.1)∧DatAll tl vQ dsQ∧DatAll tl vS dsS∧DatAll tl vT dsT
noncomputable def mL (h:Heap) (lN lP lS lT:Addr) (vP vS vT:List Value) (nP nS nT:Nat) (c3 c2 c1 t:Addr × Obj) (led tl:LO) (dsN:List Dat):Prop := ∀ (N:News h₀ L h led) (mt:t∈led) (m:∀ p∈(lP,W.listOf vP.toArray nP)::(lS,W.listOf vS.toArray nS)::(lT,W.listOf vT.toArray nT)::c3::c2::c1::tl,p∈led) (hbd:∀ xs n,t.2.data ≠ .seq xs n) (hne:∀ p∈(lP,W.listOf vP.toArray nP)::(lS,W.listOf vS.toArray nS)::(lT,W.listOf vT.toArray nT)::c3::c2::c1::tl,p.1≠t.1) (aN:DatIn led (.ref lN) (.list dsN)),∃ (vN:List Value) (nN:Nat) (tn:List (Addr × Obj)),News h₀ L h (t::(lN,W.listOf vN.toArray nN)::(lP,W.listOf vP.toArray nP)::(lS,W.listOf vS.toArray nS)::(lT,W.listOf vT.toArray nT)::c3::c2::c1::(tl++tn))∧(∀ p∈(lN,W.listOf vN.toArray nN)::(lP,W.listOf vP.toArray nP)::(lS,W.listOf vS.toArray nS)::(lT,W.listOf vT.toArray nT)::c3::c2::c1::(tl++tn),p.1≠t.1)∧DatAll tn vN dsN
noncomputable def mI (h:Heap) (lH:Addr) (P f c t N S T c3 c2 c1:Addr × Obj) (nw r:LO) (dsH:List Dat):Prop := ∀ (N0:News h₀ L h (nw++P::f::c::t::N::S::T::c3::c2::c1::r)) (aH:DatIn (nw++P::f::c::t::N::S::T::c3::c2::c1::r) (.ref lH) (.list dsH)),∃ (vH:List Value) (nH:Nat) (ld:List (Addr × Obj)),News h₀ L h ((lH,W.listOf vH.toArray nH)::P::N::S::T::c3::c2::c1::ld)∧DatAll ld vH dsH∧(∀ p∈r,p∈ld)∧t∈ld
section
noncomputable def mF (h:Heap) (lT c1 c2 c3:Addr) (oT o1 o2 o3:Obj) (X H a b c:Addr × Obj) (tl r:LO) (vs:List Value) (ds:List Dat) (x1 x2 x3:Option Value):Prop := ∀ (N:News h₀ L h ((lT,oT)::(tl++X::H::a::b::c::(c3,o3)::(c2,o2)::(c1,o1)::r))) (hne:∀ p∈tl++X::H::a::b::c::(c3,o3)::(c2,o2)::(c1,o1)::r,p.1≠lT) (d3:o3.data = .cell x3) (d2:o2.data = .cell x2) (d1:o1.data = .cell x1) (hD:DatAll tl vs ds) (dn:∀ p∈(lT,oT)::X::H::r,∀ x,p.2.data ≠ .cell x),∃ tl',(∀ p∈tl',p.1≠c1∧p.1≠c2∧p.1≠c3)∧(∀ p∈tl',p.1≠lT)∧DatAll tl' vs ds∧(∀ p∈(lT,oT)::X::H::(tl'++r),p.1≠c1∧p.1≠c2∧p.1≠c3)∧News h₀ L h ((c3,o3)::(c2,o2)::(c1,o1)::(lT,oT)::X::H::(tl'++r))
end
section
noncomputable def li (h:Heap) (lR c1 c2 c3:Addr) (oR o1 o2 o3:Obj) (T X H:Addr × Obj) (tl r:LO) (vs:List Value) (ds:List Dat) (x1 x2 x3:Option Value):Prop := ∀ (N:News h₀ L h ((lR,oR)::(tl++(c3,o3)::(c2,o2)::(c1,o1)::T::X::H::r))) (hcc:∀ p∈T::X::H::r,p.1≠c1∧p.1≠c2∧p.1≠c3) (d3:o3.data = .cell x3) (d2:o2.data = .cell x2) (d1:o1.data = .cell x1) (hD:DatAll tl vs ds) (dR:∀ x,oR.data ≠ .cell x),∃ tl',DatAll tl' vs ds∧(∀ p∈(lR,oR)::T::X::H::(tl'++r),p.1≠c1∧p.1≠c2∧p.1≠c3)∧News h₀ L h ((c3,o3)::(c2,o2)::(c1,o1)::(lR,oR)::T::X::H::(tl'++r))
end
end
structure KV where
 w:World
 p:Program
 loose:List Str
 mean:ExcName→Option Value
 mg:Str→Option Value
 mb:Str→Option Value
 news:List (Addr × Obj)
 dp:Nat
 un:Nat
 gd:Option (List Code)
 env:Env
 outer:List Env
 A₀:Around
 base:Heap
 h₀:Heap
 L:Addr
 m:Str→Option Value
 s:Shared
 Q:Value→Shared→Prop
 E:Value→Shared→Prop
 q1:Program
 q2:Around
 q3:Addr
 q4:Addr
 q5:Addr
 q6:Addr
 q7:Addr
 q8:Nat
 q9:List Value
 q10:Expr
 q11:Expr
 q12:Str
 q13:Str
 q14:Pos
 q15:Pos
 q16:Scope
 q17:List (Str × Addr)
 q18:Pos
 q19:Pos
 q20:Flow→Shared→Prop
 q21:Shared→List Value→List (Addr × Obj)→Prop
 q22:Array Value
 q23:Nat
 q24:Shared
 q25:Int
 q26:Tok
 q27:Heap
 q28:Heap
 q29:Tok
 q30:List Value
 q31:List Str
 q32:List Str
 q33:Option Value→Shared→Prop
 q34:Value→Sem Unit
 q35:Unit→Shared→Prop
 q36:List Addr
 q37:Nat→Value→Prop
 q38:Nat→Heap→Prop
 q39:Value→Addr→Result→Shared→Prop
 q40:Result→Shared→Prop
 q41:Obj
 q42:Obj
 q43:Value
 q44:Value
 q45:Nat
 q46:List (Addr × Obj)
 q47:List (Addr × Obj)
 q48:List Dat
 q49:Nat
 q50:Dat
 q51:Dat
 q52:Str→Prop
 q53:List (Str × Value)
 q54:Addr
 q55:Int
 q56:Value
 q57:Fin→Shared→Prop
 q58:Str
 q59:Pos
 q60:Pos
 q61:Option Addr
 q62:FuncData
 q63:Array (Option Value)
 q64:List Dat
 q65:List Value
 q66:List Value
 q67:Addr × Obj
 q68:Addr × Obj
 q69:Addr × Obj
 q70:Addr × Obj
 q71:Addr × Obj
 q72:Addr × Obj
 q73:Addr × Obj
 q74:List (Addr × Obj)
 q75:List Dat
 q76:Addr × Obj
 q77:Addr × Obj
 q78:Addr × Obj
 q79:Obj
 q80:Obj
 q81:Option Value
 q82:Option Value
 q83:Option Value
noncomputable def mu (v:KV):Prop:=iJ v.w v.news v.h₀ v.L v.m v.s v.Q v.E v.q1 v.q2 v.q3 v.q4 v.q5 v.q6 v.q7 v.q8 v.q9
noncomputable def fN (v:KV):Prop:=dY v.w v.env v.h₀ v.m v.s v.E v.q1 v.q2 v.q10 v.q11 v.q12 v.q13 v.q14 v.q15 v.q16 v.q17 v.q18 v.q19 v.q20
noncomputable def lw (v:KV):Prop:=lu v.w v.news v.env v.h₀ v.L v.m v.E v.q1 v.q2 v.q10 v.q12 v.q16 v.q17 v.q21 v.q3 v.q22 v.q23 v.q24
noncomputable def r9 (v:KV):Prop:=nr v.w v.p v.loose v.mean v.mg v.mb v.news v.dp v.un v.gd v.env v.outer v.A₀ v.base v.h₀ v.L v.m v.s v.Q v.E v.q25 v.q26
noncomputable def pA (v:KV):Prop:=ly v.w v.p v.loose v.mean v.mg v.mb v.news v.dp v.un v.gd v.env v.outer v.A₀ v.base v.h₀ v.L v.m v.s v.Q v.E v.q12 v.q26 v.q27 v.q3 v.q28
noncomputable def pt (v:KV):Prop:=lx v.w v.p v.loose v.mean v.mg v.mb v.news v.dp v.un v.gd v.env v.outer v.A₀ v.base v.h₀ v.L v.m v.s v.Q v.E v.q12 v.q26 v.q27 v.q3 v.q28
noncomputable def lU (v:KV):Prop:=jb v.w v.p v.loose v.mean v.mg v.mb v.news v.dp v.un v.gd v.env v.outer v.A₀ v.base v.h₀ v.L v.m v.s v.Q v.E v.q12 v.q26 v.q27 v.q3 v.q28
noncomputable def m8 (v:KV):Prop:=kl v.w v.p v.loose v.mean v.mg v.mb v.news v.dp v.un v.gd v.env v.outer v.A₀ v.base v.h₀ v.L v.m v.s v.Q v.E v.q12 v.q26 v.q27 v.q3 v.q28
noncomputable def qz (v:KV):Prop:=mv v.w v.p v.loose v.mean v.mg v.mb v.news v.dp v.un v.gd v.env v.outer v.A₀ v.base v.h₀ v.L v.m v.s v.Q v.E v.q12 v.q26 v.q27 v.q3 v.q28
noncomputable def jN (v:KV):Prop:=il v.w v.p v.loose v.mean v.mg v.mb v.news v.dp v.un v.gd v.env v.outer v.A₀ v.base v.h₀ v.L v.m v.s v.Q v.E v.q12 v.q26 v.q27 v.q3 v.q28
noncomputable def ty (v:KV):Prop:=nJ v.w v.p v.loose v.mean v.mg v.mb v.news v.dp v.un v.gd v.env v.outer v.A₀ v.base v.h₀ v.L v.m v.s v.Q v.E v.q12 v.q13 v.q26 v.q29
noncomputable def kY (v:KV):Prop:=iY v.w v.p v.loose v.mean v.mg v.mb v.news v.dp v.un v.gd v.env v.outer v.A₀ v.base v.h₀ v.L v.m v.s v.Q v.E v.q12 v.q26 v.q27 v.q3 v.q28
noncomputable def kz (v:KV):Prop:=iV v.w v.p v.loose v.mean v.mg v.mb v.news v.dp v.un v.gd v.env v.outer v.A₀ v.base v.h₀ v.L v.m v.s v.Q v.E v.q12 v.q29 v.q27 v.q3 v.q28
noncomputable def uz (v:KV):Prop:=qn v.w v.p v.loose v.mean v.mg v.mb v.news v.dp v.un v.gd v.env v.outer v.A₀ v.base v.h₀ v.L v.m v.s v.Q v.E v.q4 v.q5 v.q9 v.q30 v.q8 v.q23 v.q31 v.q32 v.q27 v.q3 v.q28
noncomputable def rZ (v:KV):Prop:=n4 v.w v.p v.loose v.mean v.mg v.mb v.news v.dp v.un v.gd v.env v.outer v.A₀ v.base v.h₀ v.L v.m v.s v.Q v.E v.q4 v.q9 v.q8 v.q31 v.q27 v.q3 v.q28
noncomputable def ki (v:KV):Prop:=iy v.w v.p v.loose v.mean v.mg v.mb v.news v.dp v.un v.gd v.env v.outer v.A₀ v.base v.h₀ v.L v.m v.s v.Q v.E v.q12 v.q26 v.q27 v.q3 v.q28
noncomputable def nq (v:KV):Prop:=np v.w v.s v.Q v.E v.q1 v.q2 v.q3
noncomputable def i3 (v:KV):Prop:=i0 v.w v.s v.E v.q1 v.q2 v.q5 v.q3 v.q23 v.q33
noncomputable def jH (v:KV):Prop:=jG v.w v.s v.E v.q1 v.q2 v.q3 v.q34 v.q35
noncomputable def my (v:KV):Prop:=iP v.w v.news v.env v.h₀ v.L v.m v.s v.E v.q1 v.q2 v.q10 v.q11 v.q12 v.q14 v.q16 v.q17 v.q18 v.q5 v.q36 v.q23 v.q37 v.q38 v.q39
noncomputable def sW (v:KV):Prop:=sV v.w v.s v.q1 v.q2 v.q40 v.q6 v.q3 v.q41 v.q42 v.q9 v.q30 v.q23 v.q8 v.q31 v.q32
noncomputable def sZ (v:KV):Prop:=sY v.w v.s v.q1 v.q2 v.q40 v.q6 v.q3 v.q41 v.q42 v.q9 v.q30 v.q23 v.q8 v.q31 v.q32
noncomputable def qV (v:KV):Prop:=qU v.w v.s v.q1 v.q2 v.q40 v.q5 v.q3 v.q43 v.q8
noncomputable def oU (v:KV):Prop:=jq v.w v.s v.q1 v.q2 v.q40 v.q5 v.q3 v.q44 v.q43 v.q8
noncomputable def nk (v:KV):Prop:=nj v.w v.news v.h₀ v.L v.m v.s v.Q v.E v.q1 v.q2 v.q6 v.q4 v.q3 v.q23 v.q8 v.q45 v.q9 v.q30 v.q31 v.q32
noncomputable def pL (v:KV):Prop:=lK v.w v.p v.loose v.mean v.mg v.mb v.news v.dp v.un v.gd v.env v.outer v.A₀ v.base v.h₀ v.L v.m v.s v.Q v.E v.q4 v.q12 v.q13 v.q26 v.q29 v.q8 v.q27 v.q3 v.q28
noncomputable def sT (v:KV):Prop:=o6 v.w v.p v.loose v.mean v.mg v.mb v.news v.dp v.un v.gd v.env v.outer v.A₀ v.base v.h₀ v.L v.m v.s v.Q v.E v.q12 v.q13 v.q26 v.q29 v.q27 v.q3 v.q28
noncomputable def kL (v:KV):Prop:=iW v.w v.p v.loose v.mean v.mg v.mb v.dp v.un v.gd v.env v.outer v.A₀ v.base v.h₀ v.L v.m v.s v.Q v.E v.q46 v.q47 v.q4 v.q9 v.q8 v.q48 v.q23 v.q45 v.q49 v.q26 v.q29 v.q50 v.q27 v.q3 v.q28
noncomputable def iu (v:KV):Prop:=gM v.w v.p v.loose v.mean v.mg v.mb v.dp v.un v.gd v.env v.outer v.A₀ v.base v.h₀ v.L v.m v.s v.Q v.E v.q46 v.q47 v.q4 v.q9 v.q8 v.q48 v.q23 v.q45 v.q49 v.q26 v.q29 v.q50 v.q27 v.q3 v.q28
noncomputable def oy (v:KV):Prop:=kC v.w v.p v.loose v.mean v.mg v.mb v.dp v.un v.gd v.env v.outer v.A₀ v.base v.h₀ v.L v.m v.s v.Q v.E v.q46 v.q47 v.q4 v.q9 v.q8 v.q48 v.q23 v.q45 v.q26 v.q50 v.q27 v.q3 v.q28
noncomputable def jT (v:KV):Prop:=io v.w v.p v.loose v.mean v.mg v.mb v.dp v.un v.gd v.env v.outer v.A₀ v.base v.h₀ v.L v.m v.s v.Q v.E v.q46 v.q47 v.q4 v.q9 v.q8 v.q48 v.q23 v.q45 v.q26 v.q50 v.q27 v.q3 v.q28
noncomputable def lq (v:KV):Prop:=i5 v.w v.p v.loose v.mean v.mg v.mb v.dp v.un v.gd v.env v.outer v.A₀ v.base v.h₀ v.L v.m v.s v.Q v.E v.q46 v.q47 v.q4 v.q9 v.q8 v.q48 v.q23 v.q43 v.q51 v.q27 v.q3 v.q28
noncomputable def mX (v:KV):Prop:=j5 v.w v.p v.loose v.mean v.mg v.mb v.dp v.un v.gd v.env v.outer v.A₀ v.base v.h₀ v.L v.m v.s v.Q v.E v.q46 v.q47 v.q4 v.q9 v.q8 v.q48 v.q23 v.q50 v.q27 v.q3 v.q28
noncomputable def mT (v:KV):Prop:=j4 v.w v.p v.loose v.mean v.mg v.mb v.dp v.un v.gd v.env v.outer v.A₀ v.base v.h₀ v.L v.m v.s v.Q v.E v.q46 v.q47 v.q4 v.q9 v.q8 v.q48 v.q23 v.q43 v.q51 v.q50 v.q27 v.q3 v.q28
noncomputable def r7 (v:KV):Prop:=n6 v.w v.p v.loose v.mean v.mg v.mb v.news v.dp v.un v.gd v.env v.outer v.A₀ v.base v.h₀ v.L v.m v.s v.Q v.E v.q52 v.q4 v.q9 v.q8 v.q12 v.q26 v.q31 v.q27 v.q3 v.q28
noncomputable def mC (v:KV):Prop:=mB v.w v.news v.h₀ v.L v.m v.s v.q1 v.q2 v.q6 v.q4 v.q5 v.q3 v.q9 v.q40 v.q48 v.q23 v.q53
noncomputable def nh (v:KV):Prop:=ng v.w v.news v.h₀ v.L v.m v.s v.Q v.E v.q1 v.q2 v.q6 v.q4 v.q5 v.q9 v.q48 v.q23 v.q8 v.q41 v.q43
noncomputable def hG (v:KV):Prop:=eU v.w v.s v.Q v.E v.q1 v.q2 v.q3 v.q4 v.q7 v.q54 v.q5 v.q6 v.q8 v.q25 v.q55 v.q22 v.q43 v.q44 v.q56
noncomputable def ii (v:KV):Prop:=ig v.w v.s v.E v.q1 v.q2 v.q3 v.q4 v.q7 v.q54 v.q5 v.q25 v.q55 v.q57
noncomputable def mr (v:KV):Prop:=iI v.w v.news v.env v.h₀ v.L v.m v.E v.q1 v.q2 v.q10 v.q11 v.q12 v.q58 v.q14 v.q59 v.q60 v.q45 v.q16 v.q17 v.q18 v.q24 v.q3 v.q7 v.q4 v.q54 v.q5 v.q6 v.q23 v.q8 v.q41 v.q42 v.q9 v.q39
noncomputable def fL (v:KV):Prop:=dX v.w v.env v.h₀ v.m v.s v.E v.q1 v.q2 v.q10 v.q11 v.q12 v.q58 v.q13 v.q14 v.q59 v.q60 v.q15 v.q45 v.q16 v.q17 v.q18 v.q19 v.q20
noncomputable def ob (v:KV):Prop:=jg v.w v.news v.env v.h₀ v.L v.m v.E v.q1 v.q2 v.q10 v.q11 v.q12 v.q58 v.q13 v.q14 v.q15 v.q19 v.q60 v.q45 v.q16 v.q17 v.q18 v.q24 v.q6 v.q5 v.q8 v.q42 v.q9 v.q39
noncomputable def m3 (v:KV):Prop:=j6 v.w v.p v.loose v.mean v.mg v.mb v.dp v.un v.gd v.env v.outer v.A₀ v.base v.h₀ v.L v.m v.s v.Q v.E v.q46 v.q47 v.q4 v.q9 v.q8 v.q48 v.q23 v.q27 v.q3 v.q28
noncomputable def sF (v:KV):Prop:=nE v.w v.p v.loose v.mean v.mg v.mb v.news v.dp v.un v.gd v.env v.outer v.A₀ v.base v.h₀ v.L v.m v.s v.Q v.E v.q4 v.q5 v.q43 v.q61 v.q62 v.q63 v.q9 v.q8 v.q47 v.q48 v.q64 v.q26 v.q45
noncomputable def sD (v:KV):Prop:=oO v.w v.p v.loose v.mean v.mg v.mb v.news v.dp v.un v.gd v.env v.outer v.A₀ v.base v.h₀ v.L v.m v.s v.Q v.E v.q4 v.q5 v.q43 v.q61 v.q62 v.q63 v.q9 v.q8 v.q47 v.q48 v.q64 v.q23 v.q26 v.q45 v.q27 v.q3 v.q28
noncomputable def sy (v:KV):Prop:=oN v.w v.p v.loose v.mean v.mg v.mb v.news v.dp v.un v.gd v.env v.outer v.A₀ v.base v.h₀ v.L v.m v.s v.Q v.E v.q4 v.q5 v.q43 v.q61 v.q62 v.q63 v.q9 v.q8 v.q47 v.q48 v.q64 v.q23 v.q26 v.q45 v.q27 v.q3 v.q28
noncomputable def mP (v:KV):Prop:=mO v.h₀ v.L v.q27 v.q3 v.q4 v.q5 v.q6 v.q9 v.q30 v.q65 v.q66 v.q8 v.q23 v.q45 v.q49 v.q67 v.q68 v.q69 v.q70 v.q71 v.q72 v.q73 v.q46 v.q47 v.q74 v.q48 v.q64 v.q75
noncomputable def mM (v:KV):Prop:=mL v.h₀ v.L v.q27 v.q3 v.q4 v.q5 v.q6 v.q30 v.q65 v.q66 v.q23 v.q45 v.q49 v.q67 v.q68 v.q69 v.q73 v.q46 v.q47 v.q48
noncomputable def mJ (v:KV):Prop:=mI v.h₀ v.L v.q27 v.q3 v.q70 v.q71 v.q76 v.q73 v.q72 v.q77 v.q78 v.q67 v.q68 v.q69 v.q46 v.q74 v.q48
noncomputable def mG (v:KV):Prop:=mF v.h₀ v.L v.q27 v.q6 v.q3 v.q4 v.q5 v.q41 v.q42 v.q79 v.q80 v.q71 v.q72 v.q67 v.q68 v.q76 v.q47 v.q74 v.q9 v.q48 v.q81 v.q82 v.q83
noncomputable def lj (v:KV):Prop:=li v.h₀ v.L v.q27 v.q6 v.q3 v.q4 v.q5 v.q41 v.q42 v.q79 v.q80 v.q78 v.q71 v.q72 v.q47 v.q74 v.q9 v.q48 v.q81 v.q82 v.q83
theorem zN:Nonempty KV:=by
 constructor
 constructor <;> first | exact aW | exact default | exact {} | exact Dat.none | exact ⟨[],[]⟩
noncomputable def Ch {α:Type} (l:List (α→Prop)) (o : α):Prop:=l.foldr (fun P c=>(P o → ∀ v,P v)∧((∀ v,P v)→c)) True
theorem ch0 {α:Type} (e:Nonempty α) (l:List (α→Prop)):∃ o,Ch l o:=by
 induction l with
 | nil=>exact e.elim fun o=>⟨o,trivial⟩
 | cons P l ih =>
  by_cases h:∀ v,P v
  · exact ih.elim fun o k=>⟨o,fun _=>h,fun _=>k⟩
  · exact (Classical.not_forall.mp h).elim fun o k=>⟨o,fun a=>absurd a k,fun a=>absurd a h⟩
theorem ch1 {α:Type} {P : α→Prop} {l:List (α→Prop)} {o : α} (h:Ch (P::l) o) (k:P o):∀ v,P v:=h.1 k
theorem ch2 {α:Type} {P : α→Prop} {l:List (α→Prop)} {o : α} (h:Ch (P::l) o) (k:∀ v,P v):Ch l o:=h.2 k
noncomputable def PL:List (KV→Prop):=[mu,fN,lw,r9,pA,pt,lU,m8,qz,jN,ty,kY,kz,uz,rZ,ki,nq,i3,jH,my,sW,sZ,qV,oU,nk,pL,sT,kL,iu,oy,jT,lq,mX,mT,r7,mC,nh,hG,ii,mr,fL,ob,m3,sF,sD,sy,mP,mM,mJ,mG,lj]
noncomputable def oV:KV:=Classical.choose (ch0 zN PL)
theorem hq0:Ch (PL.drop 0) oV:=Classical.choose_spec (ch0 zN PL)
namespace K
noncomputable def w:=oV.w
noncomputable def p:=oV.p
noncomputable def loose:=oV.loose
noncomputable def mean:=oV.mean
noncomputable def mg:=oV.mg
noncomputable def mb:=oV.mb
noncomputable def news:=oV.news
noncomputable def dp:=oV.dp
noncomputable def un:=oV.un
noncomputable def gd:=oV.gd
noncomputable def env:=oV.env
noncomputable def outer:=oV.outer
noncomputable def A₀:=oV.A₀
noncomputable def base:=oV.base
noncomputable def h₀:=oV.h₀
noncomputable def L:=oV.L
noncomputable def m:=oV.m
noncomputable def s:=oV.s
noncomputable def Q:=oV.Q
noncomputable def E:=oV.E
noncomputable def prog:=oV.q1
noncomputable def A:=oV.q2
noncomputable def Z:=oV.q3
noncomputable def TI:=oV.q4
noncomputable def I:=oV.q5
noncomputable def l:=oV.q6
noncomputable def f:=oV.q7
noncomputable def c:=oV.q8
noncomputable def vals:=oV.q9
noncomputable def elt:=oV.q10
noncomputable def iter:=oV.q11
noncomputable def x:=oV.q12
noncomputable def y:=oV.q13
noncomputable def px:=oV.q14
noncomputable def py:=oV.q15
noncomputable def scope:=oV.q16
noncomputable def cl:=oV.q17
noncomputable def pos:=oV.q18
noncomputable def spos:=oV.q19
noncomputable def Fin:=oV.q21
noncomputable def ax:=oV.q3
noncomputable def its:=oV.q22
noncomputable def k:=oV.q23
noncomputable def s₁:=oV.q24
noncomputable def tx:=oV.q26
noncomputable def t:=oV.q26
noncomputable def g':=oV.q27
noncomputable def L':=oV.q3
noncomputable def h':=oV.q28
noncomputable def u:=oV.q29
noncomputable def H:=oV.q4
noncomputable def G:=oV.q5
noncomputable def ws1:=oV.q9
noncomputable def ws2:=oV.q30
noncomputable def home:=oV.q31
noncomputable def goal:=oV.q32
noncomputable def ws:=oV.q9
noncomputable def ts:=oV.q31
noncomputable def S:=oV.q3
noncomputable def fp:=oV.q36
noncomputable def n:=oV.q23
noncomputable def St:=oV.q38
noncomputable def RR:=oV.q39
noncomputable def R:=oV.q40
noncomputable def b:=oV.q3
noncomputable def o:=oV.q41
noncomputable def o':=oV.q42
noncomputable def vs:=oV.q9
noncomputable def us:=oV.q30
noncomputable def n':=oV.q8
noncomputable def xs:=oV.q31
noncomputable def ys:=oV.q32
noncomputable def v:=oV.q43
noncomputable def ka:=oV.q8
noncomputable def kb:=oV.q45
noncomputable def va:=oV.q9
noncomputable def vb:=oV.q30
noncomputable def ta:=oV.q26
noncomputable def tb:=oV.q29
noncomputable def rest:=oV.q46
noncomputable def cold:=oV.q47
noncomputable def D:=oV.q4
noncomputable def ds:=oV.q48
noncomputable def a:=oV.q45
noncomputable def d:=oV.q51
noncomputable def d0:=oV.q50
noncomputable def P:=oV.q4
noncomputable def wp:=oV.q9
noncomputable def cp:=oV.q8
noncomputable def start:=oV.q12
noncomputable def places:=oV.q31
noncomputable def q:=oV.q4
noncomputable def kd:=oV.q48
noncomputable def kw:=oV.q53
noncomputable def df:=oV.q43
noncomputable def z:=oV.q3
noncomputable def TO:=oV.q7
noncomputable def i1:=oV.q54
noncomputable def i2:=oV.q5
noncomputable def l2:=oV.q6
noncomputable def k2:=oV.q8
noncomputable def left:=oV.q55
noncomputable def x₂:=oV.q58
noncomputable def px₂:=oV.q59
noncomputable def tp:=oV.q60
noncomputable def tkn:=oV.q45
noncomputable def s₂:=oV.q24
noncomputable def oI:=oV.q41
noncomputable def ol:=oV.q42
noncomputable def x₁:=oV.q12
noncomputable def x₃:=oV.q13
noncomputable def p₁:=oV.q14
noncomputable def p₂:=oV.q15
noncomputable def p₃:=oV.q19
noncomputable def kf:=oV.q5
noncomputable def foc:=oV.q43
noncomputable def fod:=oV.q61
noncomputable def ffd:=oV.q62
noncomputable def fsl:=oV.q63
noncomputable def ks:=oV.q64
noncomputable def tn:=oV.q26
noncomputable def kk:=oV.q45
noncomputable def h:=oV.q27
noncomputable def lQ:=oV.q3
noncomputable def lP:=oV.q4
noncomputable def lS:=oV.q5
noncomputable def lT:=oV.q6
noncomputable def vQ:=oV.q9
noncomputable def vP:=oV.q30
noncomputable def vS:=oV.q65
noncomputable def vT:=oV.q66
noncomputable def nQ:=oV.q8
noncomputable def nP:=oV.q23
noncomputable def nS:=oV.q45
noncomputable def nT:=oV.q49
noncomputable def c3:=oV.q67
noncomputable def c2:=oV.q68
noncomputable def c1:=oV.q69
noncomputable def X:=oV.q71
noncomputable def tq:=oV.q46
noncomputable def t3:=oV.q47
noncomputable def t2:=oV.q74
noncomputable def dsQ:=oV.q48
noncomputable def dsS:=oV.q64
noncomputable def dsT:=oV.q75
noncomputable def lN:=oV.q3
noncomputable def led:=oV.q46
noncomputable def tl:=oV.q47
noncomputable def dsN:=oV.q48
noncomputable def lH:=oV.q3
noncomputable def N:=oV.q72
noncomputable def T:=oV.q78
noncomputable def nw:=oV.q46
noncomputable def r:=oV.q74
noncomputable def dsH:=oV.q48
noncomputable def oT:=oV.q41
noncomputable def o1:=oV.q42
noncomputable def o2:=oV.q79
noncomputable def o3:=oV.q80
noncomputable def x1:=oV.q81
noncomputable def x2:=oV.q82
noncomputable def x3:=oV.q83
noncomputable def lR:=oV.q6
noncomputable def oR:=oV.q41
namespace V0
noncomputable def G:=oV.q52
noncomputable def ts:=oV.q26
end V0
namespace V1
noncomputable def H:=oV.q72
noncomputable def R:=oV.q70
noncomputable def t:=oV.q73
end V1
namespace V2
noncomputable def H:=oV.q72
noncomputable def a:=oV.q67
noncomputable def b:=oV.q68
noncomputable def c:=oV.q76
noncomputable def c1:=oV.q3
noncomputable def c2:=oV.q4
noncomputable def c3:=oV.q5
end V2
namespace V3
noncomputable def H:=oV.q72
noncomputable def c1:=oV.q3
noncomputable def c2:=oV.q4
noncomputable def c3:=oV.q5
end V3
namespace V4
noncomputable def P:=oV.q37
end V4
namespace V5
noncomputable def P:=oV.q70
noncomputable def S:=oV.q77
noncomputable def c:=oV.q76
noncomputable def f:=oV.q71
noncomputable def t:=oV.q73
end V5
namespace V6
noncomputable def Q:=oV.q20
end V6
namespace V7
noncomputable def Q:=oV.q33
end V7
namespace V8
noncomputable def Q:=oV.q35
noncomputable def t:=oV.q34
end V8
namespace V9
noncomputable def Q:=oV.q57
noncomputable def x:=oV.q25
end V9
namespace V10
noncomputable def a:=oV.q4
end V10
namespace V11
noncomputable def a:=oV.q12
noncomputable def b:=oV.q13
end V11
namespace V12
noncomputable def a:=oV.q44
noncomputable def b:=oV.q56
noncomputable def x:=oV.q25
noncomputable def y:=oV.q43
noncomputable def ys:=oV.q22
end V12
namespace V13
noncomputable def b:=oV.q49
noncomputable def x:=oV.q50
end V13
namespace V14
noncomputable def c1:=oV.q8
noncomputable def c2:=oV.q23
end V14
namespace V15
noncomputable def o:=oV.q44
end V15
namespace V16
noncomputable def t:=oV.q73
end V16
namespace V17
noncomputable def x:=oV.q25
end V17
namespace V18
noncomputable def x:=oV.q50
end V18
end K
end
section
theorem oi:isSubtype (.type "range_iterator") (.type "reversed")=pure false:=by rw [isSubtype_type];kernel_rfl
section
variable {prog:Program} {w:World} {A:Around} {E:Value→Shared→Prop} {s:Shared}
noncomputable def gV (n:Nat):Obj:={ cls := .type "range_iterator",data := .fields #[rawInt ((n:Int) - 1),rawInt n,rawInt (-1)] }
theorem kp {r:Addr} {n:Nat} {t u v:Tok} {Q:Value→Shared→Prop} (hr:IsRange s.heap r 0 n 1 t u v) (hn:n≤1000000)
 (h:Q (.ref s.heap.objs.size) { s with heap:=s.heap.push (gV n) }):wpAny (model prog w) A (call (.builtin "range.__reversed__") [.ref r]) Q E s:=by
 have hT:s.TypeIs (.ref r) "range" := ⟨_,hr,rfl⟩
 have hsz:Builtin.Range.rangeSize 0 (n:Int) 1=(n:Int):=by
  unfold Builtin.Range.rangeSize
  simp;k_extra "l"
 refine wpAny_call_entry F.slot_range_reversed hT F.entry_range_reversed ?_ (F.args_range_reversed_1 _)
 have hs:(Builtin.Range.rangeFitsLong 0 && Builtin.Range.rangeFitsLong (n:Int) && Builtin.Range.rangeFitsLong 1 && Builtin.Range.rangeFitsLong (-1) && Builtin.Range.rangeFitsLong (0 - 1) && Builtin.Range.rangeFitsLong (n:Int))=true:=by
  unfold Builtin.Range.rangeFitsLong
  simp only [Bool.and_eq_true,decide_eq_true_eq]
  refine ⟨⟨⟨⟨⟨⟨by decide,by decide⟩,by k_extra "l",by (exact zmt (zal [_] 1 qA (zn 9223372036854775808) [(1,qA,zn 1000000)] rfl hn))⟩,by decide,by decide⟩,by decide,by decide⟩,by decide,by decide⟩,by k_extra "l",by (exact zmt (zal [_] 1 qA (zn 9223372036854775808) [(1,qA,zn 1000000)] rfl hn))⟩
 have body:wpAny (model prog w) A.in1 (Builtin.«range.__reversed__» ⟨[.ref r],[]⟩) (fun fin s' => ∃ v,fin=Fin.done (Flow.ret v)∧Q v s') E s:=by
  unfold Builtin.«range.__reversed__»
  refine wpAny_bind (wpAny_of_eq (a:=Value.ref r) rfl ?_)
  have hf:wpAny (model prog w) A.in1 (Builtin.Range.rangeFields (.ref r)) (fun x s'=>x=((0:Int),(n:Int),(1:Int))∧s'=s) E s:=by
   unfold Builtin.Range.rangeFields
   repeat (any_goals (first | (refine wpAny_bind (wpAny_field hr rfl rfl ?_)) | assumption | wp_step))
   exact ⟨rfl,rfl⟩
  refine wpAny_bind (wpAny_mono hf (fun x s' hx => ?_) fun _ _ e=>e)
  refine bV (hx) ?_
  (try clear hx);rintro rfl rfl
  dsimp only
  rw [hsz,hs]
  simp only [Bool.not_true,Bool.false_eq_true,if_false,if_true]
  have e1:(0:Int)+((n:Int) - 1) * 1=(n:Int) - 1:=by k_extra "l"
  rw [e1]
  refine wpAny_bind (wpAny_newObj_type (wpAny_pure ⟨_,rfl,h⟩))
 exact body
theorem kn {r:Addr} {n:Nat} {t u v:Tok} {Q₁:Value→Shared→Prop} (hr:IsRange s.heap r 0 n 1 t u v) (hn:n≤1000000)
 (h:Q₁ (.ref s.heap.objs.size) { s with heap:=s.heap.push (gV n) }) :
 codeAny (model prog w) A (.call (.builtin "reversed.__new__") ⟨[.type "reversed",.ref r],[]⟩) (wants Q₁ E) s:=by
 have hT:s.TypeIs (.ref r) "range" := ⟨_,hr,rfl⟩
 refine codeAny_of_tree ?_
 show wpAny _ A.in1 (do checkBuiltinCall "reversed.__new__" ⟨[.type "reversed",.ref r],[]⟩;again (.builtin "reversed.__new__" ⟨[.type "reversed",.ref r],[]⟩)) _ _ s
 refine wpAny_bind (wpAny_of_eq (F.newCall_reversed_1 _) (wpAny_pure ⟨plainId_quiet F.plain_reversed_new _,codeAny_builtin F.entry_reversed_new ?_⟩))
 rw [Around.under_plainId F.plain_reversed_new _]
 unfold Builtin.«reversed.__new__»
 refine wpAny_bind (wpAny_of_eq (newClass_reversed _) ?_)
 try dsimp only
 k_extra "gh"
 k_extra "gh"
 try dsimp only
 refine wpAny_bind (wpAny_specialOf hT F.slot_range_reversed.lookup ?_)
 try dsimp only
 refine wpAny_bind (wpAny_of_eq (F.slot_range_reversed.bind _) ?_)
 try dsimp only
 first
 | rw [if_neg (show ¬ ((Value.builtin "range.__reversed__" == Value.none)=true) from Bool.false_ne_true)]
 | (show wpAny _ _ (if (Value.builtin "range.__reversed__" == Value.none)=true then _ else _) _ _ _;rw [if_neg (show ¬ ((Value.builtin "range.__reversed__" == Value.none)=true) from Bool.false_ne_true)])
 k_extra "fn"
 refine wpAny_bind (m:=runValue (.call (.builtin "range.__reversed__") ⟨[.ref r],[]⟩)) (show wpAny _ _ (call (.builtin "range.__reversed__") [.ref r]) _ _ _ from kp hr hn ?_)
 first
 | exact wpAny_pure h
 | exact wpAny_bind (wpAny_pure (wpAny_pure h))
theorem ko {r:Addr} {n:Nat} {t u v:Tok} {Q:Value→Shared→Prop} (hr:IsRange s.heap r 0 n 1 t u v) (hn:n≤1000000)
 (h:Q (.ref s.heap.objs.size) { s with heap:=s.heap.push (gV n) }):wpAny (model prog w) A (call (.type "reversed") [.ref r]) Q E s:=by
 refine callType_other (U := "range_iterator") (Q₁:=fun obj s₁=>obj = .ref s.heap.objs.size∧s₁={ s with heap:=s.heap.push (gV n) }) (by decide +kernel) F.create_reversed ⟨_,_,F.mro_reversed⟩ F.made_reversed oi (F.typeCall_reversed_1 _) (kn hr hn ⟨rfl,rfl⟩) ?_
 intro obj s₁ hr1q
 refine bV (hr1q) ?_
 (try clear hr1q);rintro rfl rfl
 exact ⟨⟨_,Heap.get?_push_size _ rfl,rfl⟩,h⟩
theorem rz {h₀:Heap} {L:Addr} {m:Str→Option Value} {news:List (Addr × Obj)} {r:Addr} {n:Nat} {t u v:Tok} {Q:Value→Shared→Prop} (hh:A.handled=none) (F:Fr h₀ L s.heap m) (N:News h₀ L s.heap news)
 (hr:IsRange s.heap r 0 n 1 t u v) (hn:n≤1000000)
 (h:∀ I h',Src prog w A h₀ L { s with heap:=h' } m news I [] n (fun i v => ∃ t,v = .int ((n:Int) - 1 - i) t)→Q (.ref I) { s with heap:=h' }):wpAny (model prog w) A (call (.type "reversed") [.ref r]) Q E s:=by
 refine ko hr hn (h _ _ ?_)
 have W:=Walks.range (prog:=prog) (w:=w) hh s.heap.objs.size ((n:Int) - 1) (-1) n
 have hP:(fun (i:Nat) (v:Value) => ∃ t,v = .int ((n:Int) - 1+(i:Int) * (-1)) t)=fun i v => ∃ t,v = .int ((n:Int) - 1 - i) t:=by
  funext i v
  have:(n:Int) - 1+(i:Int) * (-1)=(n:Int) - 1 - i:=by k_extra "l"
  rw [this]
 rw [hP] at W
 exact ⟨_,W,fun _ _ st=>⟨_,st⟩,next_is_new F,fun e=>absurd F.ns.lt (e ▸ Nat.lt_irrefl _),fun p hp e=>absurd (Heap.lt_size (N p hp).1) (e ▸ Nat.lt_irrefl _),
  by show IsRangeIter _ _ _ _ _;simpa [gV] using Heap.get?_push_size s.heap (o:=gV n) rfl,F.push _,fun p hp=>⟨Heap.get?_push_of_some _ (N p hp).1,(N p hp).2⟩⟩
theorem xA {h₀:Heap} {L:Addr} {m:Str→Option Value} {news src:List (Addr × Obj)} {I:Addr} {n:Nat} {P:Nat→Value→Prop} {Q:Value→Shared→Prop} (S:Src prog w A h₀ L s m news I src n P) (h:Q (.ref I) s) :
 wpAny (model prog w) A (pyIter (.ref I)) Q E s:=by
 refine me (S) ?_
 (try clear S);intro St W _ _ _ _ hst _ _
 exact W.self 0 s Q E hst h
end
end
section
section
variable {prog:Program} {w:World} {A:Around} {E:Value→Shared→Prop} {s:Shared} {env:Env} {h₀:Heap} {target:Expr} {body:List Stmt} {Q:Flow→Shared→Prop}
theorem xC {ws:List (Addr × String)} {keep:List (Addr × Obj)} {xs:List Itm} {m:Str→Option Value} {news:List (Addr × Obj)}
 (K:Nat→(Str→Option Value)→List (Addr × Obj)→Prop) (h0:K 0 m news)
 (turn:∀ i a v h tk m₁ nw₁,xs[i]? = some a→a.Is v h→K i m₁ nw₁→Fr h₀ env.locals h m₁→AllObj ws (fun its=>News h₀ env.locals h (its++nw₁) →
  wpAny (model prog w) A (assign target env v) (fun _ s₂=>wpAny (model prog w) A (execs body env) (UnrPostW h₀ env.locals { s with heap:=h,toks:=tk } its (fun m' n'=>SubL keep n'∧K (i+1) m' n') Q) E s₂) E { s with heap:=h,toks:=tk }))
 (done:∀ m' n' h tk,K xs.length m' n'→Fr h₀ env.locals h m'→News h₀ env.locals h n'→Q .next { s with heap:=h,toks:=tk }) :
 ItemsRest prog w A E h₀ env target body Q s ws keep xs m news:=by
 have mono:∀ (its:List (Addr × Obj)) (s₁:Shared) (R R':(Str→Option Value)→List (Addr × Obj)→Prop) (f:Flow) (s₂:Shared),(∀ m n,R m n→R' m n)→UnrPostW h₀ env.locals s₁ its R Q f s₂→UnrPostW h₀ env.locals s₁ its R' Q f s₂:=by
  intro its s₁ R R' f s₂ hr h
  have e:UnrEndW h₀ env.locals s₁ its R s₂→UnrEndW h₀ env.locals s₁ its R' s₂:=by
   intro hr1q
   refine wd (hr1q) ?_
   (try clear hr1q);intro h' tk m' n' a b c d r
   exact ⟨h',tk,m',n',a,b,c,d,hr _ _ r⟩
  cases f with
  | ret v=>exact h
  | brk=>exact h
  | cont=>exact e h
  | next=>exact e h
 have objm:∀ (ws:List (Addr × String)) (k k':List (Addr × Obj)→Prop),(∀ its,k its→k' its)→AllObj ws k→AllObj ws k':=by
  intro ws
  induction ws with
  | nil=>intro k k' hk h;exact hk _ h
  | cons a r ih=>intro k k' hk h o ho;exact ih _ _ (fun its=>hk _) (h o ho)
 have go:∀ (r:List Itm) (i:Nat) (m₁:Str→Option Value) (nw₁:List (Addr × Obj)),xs.drop i=r→i+r.length=xs.length→K i m₁ nw₁→ItemsRest prog w A E h₀ env target body Q s ws keep r m₁ nw₁:=by
  intro r
  induction r with
  | nil =>
   intro i m₁ nw₁ e hi hk h tk F N
   have e2:i=xs.length:=by simpa using hi
   exact done _ _ _ _ (e2 ▸ hk) F N
  | cons a r ih =>
   intro i m₁ nw₁ e hi hk v h tk hav F
   have hx:xs[i]? = some a:=by
    have:=congrArg List.head? e
    rw [List.head?_drop] at this
    exact this
   refine objm _ _ _ (fun its hh N => ?_) (turn i a v h tk m₁ nw₁ hx hav hk F)
   refine wpAny_mono (hh N) (fun _ s₂ h₂=>wpAny_mono h₂ (fun f s₃ h₃ => ?_) fun _ _ e=>e) fun _ _ e=>e
   refine mono _ _ _ _ _ _ (fun m' n' hr=>⟨hr.1,ih (i+1) _ _ ?_ (by rw [List.length_cons] at hi;(exact Nat.le_antisymm (zae [_,_,_] 1 (zp (zu qB) qC) qA [(1,zp qB (zu qC),qA)] rfl (zle hi)) (zae [_,_,_] 1 qC (zp (zu qA) qB) [(1,qC,zp qA (zu qB))] rfl (zge hi)))) hr.2⟩) h₃
   have:=congrArg List.tail e
   rw [List.tail_drop] at this
   exact this
 exact go xs 0 m news rfl (Nat.zero_add _) h0
theorem ri {h₀:Heap} {L l:Addr} {m:Str→Option Value} {news:List (Addr × Obj)} {o:Obj} {ws:List Value} {n:Nat} {value slice:PySem.Expr} {vl vu:Value} {lo hi:Option Int} {Q:Value→Shared→Prop}
 (F:Fr h₀ L s.heap m) (N:News h₀ L s.heap news) (hm:(l,o)∈news) (hc:o.cls = .type "list") (hd:o.data = .seq ws.toArray n) (pl:IsPart vl lo) (pu:IsPart vu hi)
 (h:∀ D h',Fr h₀ L h' m→News h₀ L h' ((D,listOf (slicePick ws.toArray lo hi none) 0)::news)→(∀ p∈news,p.1 < D)→Q (.ref D) { s with heap:=h' })
 (hs:subscripted slice false (.ref l) (.ref s.heap.objs.size)=operate [.ref s.heap.objs.size,.ref l] (getItem (.ref l) (.ref s.heap.objs.size))) (ht:∀ r,letTemporaryGo value (.ref l) r=pure ()) (hz:ws.length≤1000000) :
 wpAny (model prog w) A (subscriptTail value slice (.ref l) (.ref s.heap.objs.size)) Q E { s with heap:=s.heap.push { cls := .type "slice",data := .fields #[vl,vu,.none] } } :=
 kmk_slice F N ⟨o,(N _ hm).1,hc,n,hd⟩ pl pu h hs ht (by rw [List.size_toArray,sizeLine_eq];(exact zae [_] 1 qA (zn 16777216) [(1,qA,zn 1000000)] rfl hz))
theorem AE {h₀:Heap} {L l:Addr} {m:Str→Option Value} {news:List (Addr × Obj)} {o:Obj} {ws:List Value} {n:Nat} {value slice:PySem.Expr} {vk:Value} {ops:List Value} {Q:Value→Shared→Prop}
 (F:Fr h₀ L s.heap m) (N:News h₀ L s.heap news) (hm:(l,o)∈news) (hc:o.cls = .type "list") (hd:o.data = .seq ws.toArray n) (pk:IsPart vk (some (-1)))
 (h:∀ D h',Fr h₀ L h' m→News h₀ L h' ((D,listOf ws.reverse.toArray 0)::news)→(∀ p∈news,p.1 < D)→Q (.ref D) { s with heap:=h' })
 (hs:subscripted slice false (.ref l) (.ref s.heap.objs.size)=operate ops (getItem (.ref l) (.ref s.heap.objs.size))) (ht:∀ r,letTemporaryGo value (.ref l) r=pure ()) (hz:ws.length≤1000000) :
 wpAny (model prog w) A (subscriptTail value slice (.ref l) (.ref s.heap.objs.size)) Q E { s with heap:=s.heap.push { cls := .type "slice",data := .fields #[.none,.none,vk] } } :=
 krv_lit (its:=ws.toArray) F N ⟨o,(N _ hm).1,hc,n,hd⟩ pk (by simp) h hs ht (by rw [List.size_toArray,sizeLine_eq];(exact zae [_] 1 qA (zn 16777216) [(1,qA,zn 1000000)] rfl hz))
theorem AG {h₀:Heap} {L a b:Addr} {m:Str→Option Value} {news:List (Addr × Obj)} {o1 o2:Obj} {ws us:List Value} {n1 n2:Nat} {Q:Value→Shared→Prop}
 (F:Fr h₀ L s.heap m) (N:News h₀ L s.heap news) (hm1:(a,o1)∈news) (hc1:o1.cls = .type "list") (hd1:o1.data = .seq ws.toArray n1) (hm2:(b,o2)∈news) (hc2:o2.cls = .type "list") (hd2:o2.data = .seq us.toArray n2)
 (h:∀ D h',Fr h₀ L h' m→News h₀ L h' ((D,listOf (ws++us).toArray 0)::news)→(∀ p∈news,p.1 < D)→Q (.ref D) { s with heap:=h' })
 (hz:ws.length+us.length≤1000000):wpAny (model prog w) A (binaryOp .Add (.ref a) (.ref b)) Q E s :=
 kmk_add_lit (its:=ws.toArray) (its2:=us.toArray) F N ⟨o1,(N _ hm1).1,hc1,n1,hd1⟩ ⟨o2,(N _ hm2).1,hc2,n2,hd2⟩ rfl h (by simp only [List.toList_toArray,sizeLine_eq];(exact zae [_,_] 1 (zp qA qB) (zn 16777216) [(1,zp qA qB,zn 1000000)] rfl hz))
theorem om {l:List (Str × Tok)} {x y:Str} {k:Nat} (h:l.map (fun x=>x.1)=Txt.split x y) (hb:(Txt.split x y).length≤k):(strValues l).length≤k:=by
 rw [← h,List.length_map] at hb
 simpa [strValues] using hb
theorem zo {h₀:Heap} {L I:Addr} {o1 o2:Obj} {rest:(Str→Option Value)→List (Addr × Obj)→Prop} {s₁:Shared} {h':Heap} {tk:Nat} {m':Str→Option Value} {nw:List (Addr × Obj)} (F:Fr h₀ L h' m') (N:News h₀ L h' ((I+1,o1)::(I,o2)::nw))
 (hI:∀ p∈nw,p.1 < I) (r:rest m' nw):UnrEndW h₀ L s₁ [(I+1,o1),(I,o2)] rest { s₁ with heap:=h',toks:=tk }:=by
 refine ⟨h',tk,m',nw,rfl,F,N,fun p hp q hq => ?_,r⟩
 have h1:=hI p hp
 k_extra "c9"
 · exact Nat.ne_of_lt (Nat.lt_succ_of_lt h1)
 · rw [List.mem_singleton.mp hq];exact Nat.ne_of_lt h1
end
end
section
theorem fR {d:Addr} {l:List (Addr × Obj)} (h:AllLt d l):∀ p∈l,p.1 < d:=by
 induction l with
 | nil=>intro p hp;cases hp
 | cons q r ih =>
  intro p hp
  k_extra "ax"
  · exact h.1
  · exact ih h.2 p hp
theorem iG {d e:Addr} {l:List (Addr × Obj)} (h:AllLt d l) (hde:d≤e):∀ p∈l,p.1≠e:=fun p hp=>Nat.ne_of_lt (Nat.lt_of_lt_of_le (fR h p hp) hde)
section
variable {prog:Program} {w:World} {A:Around} {E:Value→Shared→Prop} {s:Shared} {h₀:Heap} {L:Addr} {m:Str→Option Value} {news:List (Addr × Obj)}
end
namespace K
theorem tuple_map_m:iJ w news h₀ L m s Q E prog A Z TI I l f c vals:=by
 intro hh hn F N hl hIn hZI hTI fcall ret
 have hSL:s.heap.objs.size≠L:=fun e=>absurd F.ns.lt (e ▸ Nat.lt_irrefl _)
 have hS0:h₀.get? s.heap.objs.size=none:=next_is_new F
 have hSn:∀ p∈(Z,eE TI (.ref f))::(TI,jd I)::(I,fF l 0)::news,p.1≠s.heap.objs.size:=fun p hp=>Nat.ne_of_lt (Heap.lt_size (N p hp).1)
 have hIL:=(N (I,fF l 0) (.tail _ (.tail _ (.head _)))).2
 refine ql hn (fun i s₁ => ∃ h tk oI,s₁={ s with heap:=h,toks:=tk }∧oI.cls = .type "list_iterator" ∧ oI.data = .fields #[.ref l,.int i 0]∧Fr h₀ L h m∧News h₀ L h ((Z,eE TI (.ref f))::(TI,jd I)::(I,oI)::news))
  ?hT ⟨_,_,fF l 0,rfl,rfl,rfl,F,N⟩ ?h0 ?stab ?self ?item ?done
 case hT =>
  intro i s₁ hr1q
  refine jy (hr1q) ?_
  (try clear hr1q);rintro h tk oI rfl hc hd F₁ N₁
  exact ⟨_,(N₁ _ (.head _)).1,rfl⟩
 case h0 =>
  rintro o h' rfl
  exact ⟨_,_,fF l 0,rfl,rfl,rfl,F.push o,fun p hp=>⟨Heap.get?_push_of_some _ (N p hp).1,(N p hp).2⟩⟩
 case stab =>
  intro i s₁ h' hr2q
  refine jy (hr2q) ?_
  (try clear hr2q);rintro h tk oI rfl hc hd F₁ N₁
  intro hk
  refine ⟨h',tk,oI,rfl,hc,hd,⟨F₁.ns.at' fun o e=>hk L o (Ne.symm hSL) e,fun b o e=>hk b o (fun q=>by rw [q,hS0] at e;cases e) (F₁.keep b o e),F₁.above⟩,fun p hp=>⟨hk _ _ ?_ (N₁ p hp).1,(N₁ p hp).2⟩⟩
  k_extra "ax"
  · exact hSn _ (.head _)
  · k_extra "ax"
    · exact hSn _ (.tail _ (.head _))
    · k_extra "ax"
      · exact hSn (I,fF l 0) (.tail _ (.tail _ (.head _)))
      · exact hSn _ (.tail _ (.tail _ (.tail _ hp)))
 case self =>
  intro i s₁ Q' E' hr3q
  refine jy (hr3q) ?_
  (try clear hr3q);rintro h tk oI rfl hc hd F₁ N₁
  intro hq
  exact za (N₁ _ (.head _)).1 hq
 case item =>
  intro i v s₁ c' hv hr4q
  refine jy (hr4q) ?_
  (try clear hr4q);rintro h tk oI rfl hc hd F₁ N₁
  intro hS E'
  k_extra "cw"
  refine rC (N₁ _ (.head _)).1 (N₁ _ (.tail _ (.head _))).1 ⟨oI,(N₁ _ (.tail _ (.tail _ (.head _)))).1,hc,hd⟩ hlist (by rw [List.getElem?_toArray];exact hv) hZI fun h' hi' hs' => ?_
  refine cH (hi') ?_
  (try clear hi');intro oI' eI' hc' hd'
  have F₂:Fr h₀ L h' m:=F₁.change hs' hIL.1 hIL.2
  have N₂:News h₀ L h' ((s.heap.objs.size,listOf (vals.take i).toArray c')::(Z,eE TI (.ref f))::(TI,jd I)::(I,oI')::news):=fun p hp=>by
   k_extra "ax"
   · exact ⟨hs'.extBut _ _ (Ne.symm (hSn (I,fF l 0) (.tail _ (.tail _ (.head _))))) hS,hSL,hS0⟩
   · k_extra "ax"
     · exact ⟨hs'.extBut _ _ hZI (N₁ _ (.head _)).1,(N₁ _ (.head _)).2⟩
     · k_extra "ax"
       · exact ⟨hs'.extBut _ _ hTI (N₁ _ (.tail _ (.head _))).1,(N₁ _ (.tail _ (.head _))).2⟩
       · k_extra "ax"
         · exact ⟨eI',hIL⟩
         · have z:=N₁ p (.tail _ (.tail _ (.tail _ hp)))
           exact ⟨hs'.extBut _ _ (hIn p hp) z.1,z.2⟩
  refine wpAny_mono (fcall v (List.mem_of_getElem? hv) h' tk _ F₂ N₂) (fun r s' hr => ?_) fun _ _ e=>e
  refine rQ (hr) ?_
  (try clear hr);rintro h2 tk2 rfl rfl F₃ N₃
  exact ⟨rfl,⟨h2,tk2,oI',rfl,hc',hd',F₃,fun p hp=>N₃ p (.tail _ hp)⟩,(N₃ _ (.head _)).1⟩
 case done =>
  intro s₁ c' hr5q
  refine jy (hr5q) ?_
  (try clear hr5q);rintro h tk oI rfl hc hd F₁ N₁
  intro hS E'
  k_extra "cw"
  refine sJ hh (N₁ _ (.head _)).1 (N₁ _ (.tail _ (.head _))).1 ⟨oI,(N₁ _ (.tail _ (.tail _ (.head _)))).1,hc,hd⟩ hlist (by rw [List.getElem?_toArray];exact List.getElem?_eq_none (Nat.le_refl _)) fun h' hs' => ?_
  have F₂:Fr h₀ L h' m:=⟨F₁.ns.at' fun o e=>hs' L o hIL.1.symm e,fun b o e=>hs' b o (fun q=>by rw [q,hIL.2] at e;cases e) (F₁.keep b o e),F₁.above⟩
  have N₂:News h₀ L h' news:=fun p hp=>by
   have z:=N₁ p (.tail _ (.tail _ (.tail _ hp)))
   exact ⟨hs' _ _ (hIn p hp) z.1,z.2⟩
  refine ⟨rfl,ret _ _ _ (F₂.push _) (News.push F₂ N₂ _) (fun p hp=>Heap.lt_size (N₂ p hp).1),hs' _ _ (Ne.symm (hSn (I,fF l 0) (.tail _ (.tail _ (.head _))))) hS⟩
end K
theorem ms:∀ v,mu v:=ch1 (l:=PL.drop 1) hq0 K.tuple_map_m
theorem hq1:Ch (PL.drop 1) oV:=ch2 (l:=PL.drop 1) hq0 ms
theorem wq {prog:Program} {TI:Addr} {vals:List Value}:iJ w news h₀ L m s Q E prog A Z TI I l f c vals:=ms { oV with w,news,h₀,L,m,s,Q,E,q1:=prog,q2:=A,q3:=Z,q4:=TI,q5:=I,q6:=l,q7:=f,q8:=c,q9:=vals }
section
variable {prog:Program} {w:World} {A:Around} {E:Value→Shared→Prop} {s:Shared} {h₀:Heap} {L:Addr} {m:Str→Option Value} {news:List (Addr × Obj)}
end
end
section
open PyProof.Rows.LCg
section
variable {prog:Program} {w:World} {A:Around} {E:Value→Shared→Prop} {s:Shared} {h₀:Heap} {L:Addr} {m:Str→Option Value} {env:Env}
end
namespace K
namespace V6
theorem Assign_ListComp_G_m:dY w env h₀ m s E prog A elt iter x y px py scope cl pos spos Q:=by
 intro L F₀ hLe hsw hclos hcell hkind hnames hx hy hp h hs
 subst hLe
 rw [exec_Assign_Name_used _ _ _ _ hsw]
 refine wpAny_bind (wpAny_standAt (wpAny_bind ?_))
 show wpAny _ A (do let _ ← comprehension (.ListComp elt [⟨.Name x px,iter,[],0⟩] scope pos) scope env _ (newList []) false (eval iter env) (some (assign (.Name y py) env))) _ _ s
 refine wpAny_bind (wpAny_mono (wpAny_comprehension_free (use:=some (assign (.Name y py) env)) (Q:=fun _ s'=>Q .next s') rfl hs hclos hkind hnames
  (wpAny_mono h (fun xv s₁ h₁ => ?_) fun _ _ e=>e)) (fun _ s' hq=>wpAny_pure (wpAny_pure hq)) fun _ _ e=>e)
 refine wpAny_mono h₁ (fun it s₂ h₂ => ?_) fun _ _ e=>e
 obtain ⟨I,fp,n,P,St,S,news,rfl,W,hsz,hIo,hSt,hst,hfp,F,N,hLI,hI₀,off,hS,R⟩:=h₂
 refine block_U W hsz hIo hSt hcell hkind hx hst hfp F N hLI hI₀ off hS R ?_
 intro D C h' tk m' ys news' F' N' o1 hn hC₀ hD₀ hCL hDL hCD offC fin
 show wpAny _ A (assign (.Name y py) env (.ref D)) _ _ _
 k_extra "e4"
 k_extra "gn"
 have F₂:Fr h₀ env.locals h₂ (fun z=>if z=y then some (.ref D) else m z):=⟨hn₂,fun b o e=>hs₂.extBut b o (fun q=>by rw [q,hL₀] at e;cases e) (F'.keep b o e),F'.above⟩
 refine ⟨m',hn.sameBut hs₂ hCL,fun h'' hs''=>fin D h'' _ (F₂.change hs'' hCL hC₀) (fun p hp => ?_) o1⟩
 have z:h₂.get? p.1=some p.2:=hs₂.extBut _ _ (N' p hp).2.1 (N' p hp).1
 refine ⟨hs''.extBut _ _ ?_ z,(N' p hp).2⟩
 k_extra "ax"
 · exact Ne.symm hCD
 · exact offC p hp
end V6
end K
section
variable {prog:Program} {w:World} {A:Around} {E:Value→Shared→Prop} {s:Shared} {h₀:Heap} {L:Addr} {m:Str→Option Value} {env:Env}
theorem fM:∀ v,fN v:=ch1 (l:=PL.drop 2) hq1 K.V6.Assign_ListComp_G_m
theorem hq2:Ch (PL.drop 2) oV:=ch2 (l:=PL.drop 2) hq1 fM
theorem mo {elt iter:Expr} {x y:Str} {px py:Pos} {scope:Scope} {cl:List (Str × Addr)} {pos spos:Pos} {Q:Flow→Shared→Prop} (F₀:Fr h₀ L s.heap m) (hLe:env.locals=L)
 (hsw:swapsWith (.ListComp elt [⟨.Name x px,iter,[],0⟩] scope pos) (some (.Name y py)) spos.line env=pure true)
 (hclos:closureFor scope env=pure cl) (hcell:∀ z∈scope.names,z.2 ≠ .cell) (hkind:scope.kind = .function)
 (hnames:∀ z∈scope.names,z.2 = .local→scope.names.lookup z.1=some .local) (hx:scope.names.lookup x=some .local)
 (hy:env.kindOf y=some .local) (hp:(env.scope.kind == .class || (env.scope.kind == .module && env.locals != env.globals))=false)
 (h:wpAny (model prog w) A (eval iter env) (fun xv s₁=>wpAny (model prog w) A (pyIter xv) (tV prog w A h₀ L m env elt x scope cl (fun s₂=>FinA h₀ L m s₂ y Q)) E s₁) E s)
 (hs:∀ x,foldedSetIterable iter env x=pure x:=by intro _;rfl) :
 wpAny (model prog w) A (exec (.Assign [.Name y py] (.ListComp elt [⟨.Name x px,iter,[],0⟩] scope pos) spos) env) Q E s:=(show dY w env h₀ m s E prog A elt iter x y px py scope cl pos spos Q from fM { oV with w,env,h₀,m,s,E,q1:=prog,q2:=A,q10:=elt,q11:=iter,q12:=x,q13:=y,q14:=px,q15:=py,q16:=scope,q17:=cl,q18:=pos,q19:=spos,q20:=Q }) F₀ hLe hsw hclos hcell hkind hnames hx hy hp h hs
end
namespace K
theorem gsrc_tuple_m:lu w news env h₀ L m E prog A elt x scope cl Fin ax its k s₁:=by
 intro hh F N hm hsz h
 have hl:s₁.heap.IsTuple ax its:=⟨_,(N _ hm).1,rfl,_,rfl⟩
 k_extra "eu"
 refine wpAny_pyIter_tuple hl ?_
 k_extra "b6"
 refine ⟨_,_,_,_,_,wm ax its,news,rfl,Walks.tuple hh s₁.heap.objs.size ax (Nat.ne_of_lt hlt) its,hsz,fun i h st=>by obtain ⟨o,e,_⟩:=st.1;exact ⟨o,e⟩,?_,⟨⟨_,Heap.get?_push_size _ rfl,rfl,rfl⟩,hl.at (up _)⟩,fun b hb => ?_,F.keeps up,N.grown up,Nat.ne_of_lt F.ns.lt,next_is_new F,fun p hp=>Nat.ne_of_lt (Heap.lt_size (N p hp).1),⟨_,hm,rfl,_,rfl⟩,h _⟩
 · rintro i h h' o nw st e e' kk NN ⟨o2,hm2,hc2,n2,hd2⟩
   exact ⟨by obtain ⟨o',q,r⟩:=st.1;rw [e] at q;cases q;exact ⟨o,e',r⟩,⟨o2,(NN _ hm2).1,hc2,n2,hd2⟩⟩
 · show b < (s₁.heap.push _).objs.size
   rw [Heap.size_push]
   k_extra "ej"
   · exact Nat.lt_succ_self _
   · k_extra "fd"
end K
section
variable {prog:Program} {w:World} {A:Around} {E:Value→Shared→Prop} {s:Shared} {h₀:Heap} {L:Addr} {m:Str→Option Value} {env:Env}
theorem lr:∀ v,lw v:=ch1 (l:=PL.drop 3) hq2 K.gsrc_tuple_m
theorem hq3:Ch (PL.drop 3) oV:=ch2 (l:=PL.drop 3) hq2 lr
theorem wb {elt:Expr} {x:Str} {scope:Scope} {cl:List (Str × Addr)} {Fin:Shared→List Value→List (Addr × Obj)→Prop} {ax:Addr} {its:Array Value} {k:Nat} {news:List (Addr × Obj)} {s₁:Shared}
 (hh:A.handled=none) (F:Fr h₀ L s₁.heap m) (N:News h₀ L s₁.heap news) (hm:(ax,({ cls := .type "tuple",data := .seq its k }:Obj))∈news) (hsz:its.size≤sizeLine)
 (h:∀ g,CompRest prog w A h₀ L m env elt x scope cl { s₁ with heap:=g } (wm ax its) (fun i v=>its[i]? = some v) (Fin { s₁ with heap:=g }) its.size 0 [] news) :
 wpAny (model prog w) A (pyIter (.ref ax)) (tV prog w A h₀ L m env elt x scope cl Fin) E s₁:=lr { oV with w,news,env,h₀,L,m,E,q1:=prog,q2:=A,q10:=elt,q12:=x,q16:=scope,q17:=cl,q21:=Fin,q3:=ax,q22:=its,q23:=k,q24:=s₁ } hh F N hm hsz h
end
section
variable {h₀:Heap} {L I C D:Addr} {m:Str→Option Value} {s₁:Shared} {oI oC oD:Obj} {S:List (Addr × Obj)→Prop} {r:Value→List (Addr × Obj)→Prop} {y:Value} {h':Heap} {tk:Nat} {rest:List (Addr × Obj)} {x:Addr × Obj}
theorem nO (F:Fr h₀ L h' m) (N:News h₀ L h' ((I,oI)::(C,oC)::(D,oD)::rest)) (off:Off3 I C D rest) (hS:S rest) (hr:r y rest):CompEnd h₀ L m s₁ I oI C oC D oD S r y { s₁ with heap:=h',toks:=tk } :=
 ⟨h',tk,rest,rfl,F,N,off,hS,hr⟩
theorem gW (F:Fr h₀ L h' m) (N:News h₀ L h' (x::(I,oI)::(C,oC)::(D,oD)::rest)) (hI : @Ne Nat x.1 I) (hC : @Ne Nat x.1 C) (hD : @Ne Nat x.1 D) (off:Off3 I C D rest) (hS:S (x::rest)) (hr:r y (x::rest)) :
 CompEnd h₀ L m s₁ I oI C oC D oD S r y { s₁ with heap:=h',toks:=tk } :=
 ⟨h',tk,x::rest,rfl,F,fun p hp=>N p (by
  k_extra "ax"
  · exact .tail _ (.head _)
  · k_extra "ax"
    · k_extra "b4"
    · k_extra "ax"
      · k_extra "dm"
      · k_extra "ax"
        · exact .head _
        · exact .tail _ (.tail _ (.tail _ (.tail _ hp)))),⟨⟨hI,hC,hD⟩,off⟩,hS,hr⟩
theorem eK {h:Heap} {a:Addr} {o:Obj} {l:List (Addr × Obj)} (N:News h₀ L h l) (hm:(a,o)∈l) : @Ne Nat h.objs.size a:=Nat.ne_of_gt (Heap.lt_size (N _ hm).1)
end
end
section
theorem kw_A20_0:True:=by
 w_top off
 k_with "eval Name" => first | ((name_kind "local";k_dflt (refine' nmL (by rfl) (by intro _;rfl) (by decide) (by k_asm) (by exact Eq.refl (some _)) ?_;k_whole))) | fail
 k_with "storeName" => first | ((k_dflt (refine' stL (by rfl) (by intro _;rfl) (by k_asm) (by k_asm) ?_;k_whole);intro h'q9 F'q9 N'q9;(try k_sweep))) | fail
 k_with "us" => (first | exact zv1 hu rfl | exact zv2 hu rfl | exact zv3 hu rfl | exact zv4 hu rfl | exact zv5 hu rfl | exact zv6 hu rfl | exact zv7 hu rfl)
 k_with "unf" => repeat' k_extra "u"
 k_with "lf" => ((repeat (first | k_extra "n" | k_extra "p"));(try dsimp only))
 k_with "all" => first | (first | assumption | exact dP (by assumption) | exact dP (And.right (by assumption)) | exact dP (And.right (And.right (by assumption))) | exact dP (And.right (And.right (And.right (by assumption)))) | exact dP (And.right (And.right (And.right (And.right (by assumption))))) | exact dP (And.right (And.right (And.right (And.right (And.right (by assumption)))))) | exact dP (And.right (And.right (And.right (And.right (And.right (And.right (by assumption))))))) | exact dP (And.right (And.right (And.right (And.right (And.right (And.right (And.right (by assumption)))))))) | exact dP (And.right (And.right (And.right (And.right (And.right (And.right (And.right (And.right (by assumption)))))))))) | fail
 k_with "call builtin:str.join" => first | ((k_here;(fail_if_success (fail_if_success (with_reducible show wpAny _ _ (call (Value.builtin _) [Value.str _ _,Value.ref _]) _ _ _)));k_dflt (refine' tB (by k_asm) (by k_mem) (by rfl) (by rfl) (by with_reducible assumption) (by with_reducible assumption) (by decide) ?_;k_whole);intro t8q9 k8q9 hj8q9)) | fail
 k_with "eval ListComp" => first | k_extra "3" | fail
 k_with "subscriptTail Name BinOp ref int" => first | ((k_here;k_extra "m";(with_unfolding_all refine' gA (by k_asm) (by k_mem) (by rfl) (by rfl) (by with_reducible assumption) (by first | k_extra "g" | k_extra "av") (by first | k_extra "g" | k_extra "av") (by first | k_extra "g" | k_extra "av") ?_ (by with_unfolding_all rfl);k_whole);intro y8q9 t8q9 hy8q9 hz8q9)) | fail
 trivial
theorem so {x:Int} {c:Str} (h:c∈fU x):c.length≤3:=by
 k_extra "eo"
 k_extra "e6"
 · decide
 · decide
 · decide
 · decide
 · decide
 · decide
 · decide
 · show (1:Nat)≤3;decide
theorem Ae {x k:Int} {p:Nat} {y:Str} (hk:(8:Int) ^ p=k) (h:(fU x)[((x.fdiv k).fmod 8).toNat]? = some y):dC x p=y:=by
 unfold dC
 rw [hk,List.getD_eq_getElem?_getD,h];rfl
theorem yK (x:Int) (p:Nat):(dC x p).length≤3:=by
 unfold dC
 rw [List.getD_eq_getElem?_getD]
 cases h:(fU x)[((x.fdiv (8 ^ p)).fmod 8).toNat]? with
 | none=>decide
 | some y=>exact so (List.mem_of_getElem? h)
theorem n0 {l:List Str} {b:Nat} (h:∀ y∈l,y.length≤b):wt l≤l.length * (b+1):=by
 induction l with
 | nil=>simp [wt]
 | cons a l ih =>
  k_extra "d3"
  k_extra "et"
  have h5:=ih fun y hy=>h y (.tail _ hy)
  have h6:=h a (.head _)
  k_extra "cp"
theorem uG (x:Int):wt ((List.range 3).map (dC x))≤12:=by
 have:=n0 (l:=(List.range 3).map (dC x)) (b:=3) (fun y hy=>by
  refine aE (List.mem_map.mp hy) ?_
  rintro p _ rfl
  exact yK x p)
 simpa using this
theorem vC {f:Nat→Str} {ys:List Value} {i:Nat} {y:Str} {t:Tok} (h:StrsAre ys ((List.range i).map f)) (e:f i=y):StrsAre (ys++[.str y t]) ((List.range (i+1)).map f):=by
 rw [List.range_succ,List.map_append,List.map_singleton,e]
 exact StrsAre.snoc h _ _
theorem AS {h₀ h:Heap} {L l:Addr} {ws:List Value} {k:Nat} {r:List (Addr × Obj)} {ys:List Str} (N:News h₀ L h ((l,W.listOf (List.toArray ws) k)::r)) (hS:StrsAre ws ys):∃ vs:List Value,StrsAre vs ys∧News h₀ L h ((l,W.listOf vs.toArray k)::r):=⟨ws,hS,N⟩
namespace K
namespace V17
theorem text_c_m:nr w p loose mean mg mb news dp un gd env outer A₀ base h₀ L m s Q E x tx:=by
 intro B F X N T hf hk hd hu ret
 revert X;k_fill;intro X
 refine wpAny_call ?_
 k_extra "a5"
 have hL1:=iG (allLt_of l1) (Nat.le_succ L')
 have hL2:=iG (allLt_of l1) (Nat.le_add_right L' 2)
 ktr_unf
 k_extra "ay"
 k_extra "az"
 rename IsRange _ _ _ _ _ _ _ _=>hR
 refine aE (AS (ys:=fU x) lN' (.cons _ _ (.cons _ _ (.cons _ _ (.cons _ _ (.cons _ _ (.cons _ _ (.cons _ _ (.cons _ _ .nil))))))))) ?_
 intro vs hpS N2
 have hpl:vs.length=8:=hpS.len_eq
 clear lN'
 refine LCg.CompSrc.range (n:=3) rfl lF' N2 hR (by decide) (by decide) (by rw [sizeLine_eq];decide) ?_
 intro g5
 refine dH (fun i ys nw=>nw=_∧StrsAre ys ((List.range i).map (dC x))) ⟨rfl,.nil⟩ ?turnT ?finT
 case turnT =>
  intro i ys nw hi hr1q
  refine bV (hr1q) ?_
  (try clear hr1q);rintro rfl hY
  intro v I5 oI5 C5 oC5 D5 m5 h5 tk5 E5 hr2q
  refine bA (hr2q) ?_
  (try clear hr2q);rintro t5 rfl
  intro hC5 hx5 F5 N5 off5 ne5
  have hf0:=Int.emod_nonneg (x / 1) (by decide:(8:Int)≠0)
  obtain rfl | rfl | rfl:i=0∨i=1∨i=2:=by k_extra "g"
  · rw [show ((0:Int)+((0:Nat):Int))=0 from rfl] at hx5
    ktr_unf
    k_extra "eq"
    k_extra "ey"
  · rw [show ((0:Int)+((1:Nat):Int))=1 from rfl] at hx5
    ktr_unf
    k_extra "eq"
    k_extra "ey"
  · rw [show ((0:Int)+((2:Nat):Int))=2 from rfl] at hx5
    ktr_unf
    k_extra "eq"
    k_extra "ey"
 case finT =>
  intro ysX nw hr3q
  refine bV (hr3q) ?_
  (try clear hr3q);rintro rfl hYX
  have hwt:=uG x
  have hwt2:wt ((List.range 3).map (dC x))≤1000000:=by (exact zae [_] 1 qA (zn 1000000) [(1,qA,zn 12)] rfl hwt)
  have hsl:(Str.ofString "/").length=1:=by decide
  have hst:Str.ofString "/./" ++ Txt.join (Str.ofString "/") ((List.range 3).map (dC x))=aO x:=rfl
  ktr_unf
  rw [hst]
  refine ret _ _ _ ?ra ?rb
  case ra=>k_asm
  case rb=>(refine' cb_drop ?rx ?ry;(case rx=>assumption);(case ry=>(intro p hp;repeat (first | exact hp | exact List.Mem.head _ | refine List.Mem.tail _ ?_))))
end V17
end K
theorem r8:∀ v,r9 v:=ch1 (l:=PL.drop 4) hq3 K.V17.text_c_m
theorem hq4:Ch (PL.drop 4) oV:=ch2 (l:=PL.drop 4) hq3 r8
theorem A8 {tx:Tok}:nr w p loose mean mg mb news dp un gd env outer A₀ base h₀ L m s Q E x tx:=r8 { oV with w,p,loose,mean,mg,mb,news,dp,un,gd,env,outer,A₀,base,h₀,L,m,s,Q,E,q25:=x,q26:=tx }
end
section
section
variable {prog:Program} {w:World} {A:Around} {E:Value→Shared→Prop} {s:Shared}
theorem t7:isSubtype (.type "str") (.type "str")=pure true:=by rw [isSubtype_type];kernel_rfl
theorem hZ (a b c:Value):argsOk "issubclass.nested" ⟨[a,b,c],[]⟩:=by unfold argsOk;kernel_rfl
theorem iR:builtinKind "issubclass.nested" = none:=by decide +kernel
theorem ic:plainId "issubclass.nested" = true:=by decide +kernel
theorem nL {k:Value} {dep:Int} {tk:Tok} {Q:Fin→Shared→Prop} (hk:k = .int dep tk) (hq:Q (.done (.ret (.bool true))) s) :
 wpAny (model prog w) A (Builtin.«issubclass.nested» ⟨[.type "str",.type "str",k],[]⟩) Q E s:=by
 subst hk
 have hself:=t7
 repeat (any_goals (first | assumption | (rw [hself]) | wp_step))
theorem pg (dep:Int) (tk:Tok):Meets (Builtin.«issubclass.nested» ⟨[.type "str",.type "str",.int dep tk],[]⟩) (fun _ R s=>R (.ok (.ret (.bool true))) s) :=
 fun _ _ _ _ _ hs=>nL rfl hs
theorem nK {tp:Addr} {o:Obj} {n:Nat} {r cs:List Value} {tk:Tok} {Q:Fin→Shared→Prop}
 (htp:s.heap.get? tp=some o) (hc:o.cls = .type "tuple") (hcs:cs=Value.type "str" :: r) (hd:o.data = .seq cs.toArray n)
 (hq:Q (.done (.ret (.bool true))) s):wpAny (model prog w) A (Builtin.«issubclass.nested» ⟨[.type "str",.ref tp,.int 0 tk],[]⟩) Q E s:=by
 obtain ⟨h,g,d,t,os⟩:=s
 obtain ⟨oc,od,odat,osl⟩:=o
 dsimp only at hc hd
 subst hc hd
 have hT2:(⟨h,g,d,t,os⟩:Shared).TypeIs (.ref tp) "tuple" := ⟨_,htp,rfl⟩
 have f1:=F.isi_sub_tuple
 repeat (any_goals (first | assumption | wp_step))
 refine wpAny_arrayLoop ?_
 simp only [Option.getD_some,List.toList_toArray]
 subst hcs
 rw [List.forIn_cons]
 refine wpAny_bind (wpAny_bind (call_function_meets iR ic F.entry_issubclass_nested (hZ _ _ _) (pg _ _) ?_))
 repeat (any_goals (first | assumption | wp_step))
theorem xD {tp:Addr} {o:Obj} {n:Nat} {r:List Value} {Q:Value→Shared→Prop}
 (htp:s.heap.get? tp=some o) (hc:o.cls = .type "tuple") (hd:o.data = .seq (Value.type "str" :: r).toArray n) (hq:Q (.bool true) s) :
 wpAny (model prog w) A (call (.builtin "issubclass") [.type "str",.ref tp]) Q E s:=by
 refine call_issubclass (S:=fun _ R s'=>R (.ok (.ret (.bool true))) s'∧s'.heap=s.heap) (fun _ _ _ _ s' hs => ?_) ⟨hq,rfl⟩
 exact issubclass_outer (nK (by rw [hs.2];exact htp) hc rfl hd hs.1)
end
end
section
theorem kw_A2_0:True:=by
 w_top off
 k_with "unf" => repeat' k_extra "5"
 k_with "call builtin:issubclass" => first | ((k_here;k_dflt (refine' xD (s:=_) (by exact News.get (by k_asm) (by k_mem)) (by rfl) (by rfl) ?_;k_whole))) | fail
 trivial
namespace K
theorem fspath_c_m:ly w p loose mean mg mb news dp un gd env outer A₀ base h₀ L m s Q E x t g' L' h':=by
 intro B F N T hf hk hd hu ret X
 revert X;k_fill;intro X
 k_dflt k_extra "k"
 ktr_unf
 k_extra "a8"
end K
theorem pw:∀ v,pA v:=ch1 (l:=PL.drop 5) hq4 K.fspath_c_m
theorem hq5:Ch (PL.drop 5) oV:=ch2 (l:=PL.drop 5) hq4 pw
theorem zj:pz w p loose mean mg mb news dp un gd env outer A₀ base h₀ L m s Q E x t:=(pv w p loose mean mg mb news dp un gd env outer A₀ base h₀ L m s Q E x t).2 fun g' L' h'=>pw { oV with w,p,loose,mean,mg,mb,news,dp,un,gd,env,outer,A₀,base,h₀,L,m,s,Q,E,q12:=x,q26:=t,q27:=g',q3:=L',q28:=h' }
namespace K
theorem getsep_c_m:lx w p loose mean mg mb news dp un gd env outer A₀ base h₀ L m s Q E x t g' L' h':=by
 intro B F N T hf hk hd hu ret X
 revert X;k_fill;intro X
 k_dflt k_extra "k"
 ktr_unf
 k_extra "a8"
end K
theorem pq:∀ v,pt v:=ch1 (l:=PL.drop 6) hq5 K.getsep_c_m
theorem hq6:Ch (PL.drop 6) oV:=ch2 (l:=PL.drop 6) hq5 pq
theorem zi:ps w p loose mean mg mb news dp un gd env outer A₀ base h₀ L m s Q E x t:=(po w p loose mean mg mb news dp un gd env outer A₀ base h₀ L m s Q E x t).2 fun g' L' h'=>pq { oV with w,p,loose,mean,mg,mb,news,dp,un,gd,env,outer,A₀,base,h₀,L,m,s,Q,E,q12:=x,q26:=t,q27:=g',q3:=L',q28:=h' }
end
section
theorem kw_A3_0:True:=by
 w_top off
 k_with "call ref" => first | k_extra "ab" | fail
 k_with "call ref" => first | ((k_here;k_dflt (refine' zi (by k_asm) (by k_asm) (by k_asm) (by k_asm) (by k_asm) (by exact rfl) (by exact rfl) (by ktr_room) (by ktr_units)  ?_;  k_whole;intro t9q9 h9q9 tk9q9 F9q9 N9q9;(try dsimp only);(try k_fold)))) | fail
 trivial
theorem xQ {x:Str} (h:((cM x).length:Int)=0):aR x=cM x:=by unfold aR;rw [if_pos (by exact Nat.le_antisymm (zae [_] 1 qA (zn 0) [(1,qA,zn 0)] rfl (zle (ziq h))) (zae [_] 1 (zn 0) qA [] rfl))]
theorem xP {x:Str} (h:((cM x).length:Int)≠0) (h2:(cM x != Txt.mul (Str.ofString "/") ((cM x).length:Int))=true):aR x=Txt.rstripChars (cM x) (Str.ofString "/"):=by
 unfold aR;rw [if_neg (by k_extra "g"),if_pos h2]
theorem xO {x:Str} (h:((cM x).length:Int)≠0) (h2:(cM x != Txt.mul (Str.ofString "/") ((cM x).length:Int))=false):aR x=cM x:=by
 unfold aR;rw [if_neg (by k_extra "g"),if_neg (by rw [h2];decide)]
theorem Bt {x y:Str} (h:Txt.startswith y (Str.ofString "/")=true):aG x y=y:=by unfold aG;rw [if_pos h]
theorem Bs {x y:Str} (h:Txt.startswith y (Str.ofString "/")=false) (h2:(x.length:Int)=0):aG x y=y:=by
 unfold aG;rw [if_neg (by rw [h];decide),if_pos (by exact Nat.le_antisymm (zae [_] 1 qA (zn 0) [(1,qA,zn 0)] rfl (zle (ziq h2))) (zae [_] 1 (zn 0) qA [] rfl))]
theorem Br {x y:Str} (h:Txt.startswith y (Str.ofString "/")=false) (h2:(x.length:Int)≠0) (h3:Txt.endswith x (Str.ofString "/")=true):aG x y=x++y:=by
 unfold aG;rw [if_neg (by rw [h];decide),if_neg (by k_extra "g"),if_pos h3]
theorem Bq {x y:Str} (h:Txt.startswith y (Str.ofString "/")=false) (h2:(x.length:Int)≠0) (h3:Txt.endswith x (Str.ofString "/")=false):aG x y=x++(Str.ofString "/" ++ y):=by
 unfold aG;rw [if_neg (by rw [h];decide),if_neg (by k_extra "g"),if_neg (by rw [h3];decide)]
namespace K
theorem basename_c_m:jb w p loose mean mg mb news dp un gd env outer A₀ base h₀ L m s Q E x t g' L' h':=by
 intro B F N T hf hk hd hu hx ret X
 revert X;k_fill;intro X
 k_dflt k_extra "k"
 ktr_unf
 k_extra "a8"
theorem dirname_c_m:kl w p loose mean mg mb news dp un gd env outer A₀ base h₀ L m s Q E x t g' L' h':=by
 intro B F N T hf hk hd hu hx ret X
 revert X;k_fill;intro X
 k_dflt k_extra "k"
 ktr_unf
 all_goals (
  k_extra "b9"
  rw [e] at ret)
 k_extra "a8"
theorem split_c_m:mv w p loose mean mg mb news dp un gd env outer A₀ base h₀ L m s Q E x t g' L' h':=by
 intro B F N T hf hk hd hu hx ret X
 revert X;k_fill;intro X
 k_dflt k_extra "k"
 ktr_unf
 all_goals (
  k_extra "b9"
  rw [e] at ret)
 all_goals (refine' ret _ _ _ _ _ ?ra ?rb;(case rb=>first | k_asm | (refine' cb_drop ?rx ?ry;(case rx=>assumption);(case ry=>kcj_all)));(case ra=>k_asm))
theorem splitroot_c_m:il w p loose mean mg mb news dp un gd env outer A₀ base h₀ L m s Q E x t g' L' h':=by
 intro B F N T hf hk hd hu hx hs1 hs2 ret X
 revert X;k_fill;intro X
 k_dflt k_extra "k"
 ktr_unf
 all_goals (try (exfalso;simp_all;done))
 all_goals (refine' ret _ _ _ _ _ _ ?ra ?rb;(case rb=>first | k_asm | (refine' cb_drop ?rx ?ry;(case rx=>assumption);(case ry=>kcj_all)));(case ra=>k_asm))
theorem join_c_m:nJ w p loose mean mg mb news dp un gd env outer A₀ base h₀ L m s Q E x y t u:=by
 intro B F X N T hf hk hd hu hx hy ret
 revert X;k_fill;intro X
 refine wpAny_call ?_
 k_dflt (refine' kp_rest ?k1 ?k2 ?k3 ?k4 ?k5 ?kA ?kF ?kK ?k6 ?k7 ?k8 ?kV ?kP ?kG ?kB ?_ ?c2 ?c3 ?c4 ?c5;k_extra "6";k_extra "ac";k_extra "ad";k_extra "ak";k_extra "al";k_extra "am";k_extra "an";k_extra "ao";k_extra "at";k_extra "au";k_extra "d";(case kV=>kl_lit);(case kP=>exact rfl);(case kG=>exact fun _=>rfl);(case kB=>exact fun _=>locs rfl);k_extra "ap";k_extra "7";k_extra "8";k_extra "9";k_whole;intro D' g' L' h' l1 FG' F' N' B' X' T';(try k_lt l1);(try dsimp only);(try k_fold))
 ktr_unf
 k_extra "ay"
 k_extra "az"
 k_extra "bu"
 refine ld lF' rfl ?_
 refine v5 rfl (List.Mem.head _) rfl rfl lF' lN' (fun I h' S=>kZ S (fun p hp=>by rw [List.mem_singleton.mp hp];exact List.Mem.head _) (fun i m' tl=>tl=[]∧(∃ t',m' (Str.ofString "path")=some (.str (if i=0 then x else aG x y) t'))∧(∃ t',m' (Str.ofString "sep")=some (.str (Str.ofString "/") t'))) ⟨rfl,⟨_,rfl⟩,⟨_,rfl⟩⟩ ?_ ?_)
 · intro i v m₁ tl it h tk hlt hv hr1q
   refine cA (hr1q) ?_
   (try clear hr1q);rintro rfl ⟨t',hp⟩ ⟨t'',hsep⟩
   intro hoff F₁ N₁
   have hi:i=0:=by
    cases i with
    | zero=>rfl
    | succ i=>simp at hv
   subst hi
   have hv':v = .str y u:=by simpa using hv.symm
   subst hv'
   simp only [if_true] at hp
   k_extra "ez"
   clear F₁ lF' lN'
   ktr_unf
   all_goals (
    (show aX _ _ _ _ _ _ _)
    (first | (have e:=Bt (x:=x) (y:=y) (by assumption)) | (have e:=Bs (x:=x) (y:=y) (by assumption) (by assumption)) | (have e:=Br (x:=x) (y:=y) (by assumption) (by assumption) (by assumption)) | (have e:=Bq (x:=x) (y:=y) (by assumption) (by assumption) (by assumption)))
    refine gL.intro (by assumption) (by assumption) [] (fun p hp=>hp) hoff ⟨rfl,⟨_,congrArg (fun z=>some (Value.str z _)) e.symm⟩,⟨_,rfl⟩⟩)
 · intro m₁ tl h tk hr2q
   refine cA (hr2q) ?_
   (try clear hr2q);rintro rfl ⟨t',hp⟩ ⟨t'',hsep⟩
   intro F₁ N₁
   simp only [List.length_cons,List.length_nil,Nat.zero_add,Nat.one_ne_zero,if_false] at hp
   k_extra "ez"
   clear F₁ lF' lN'
   ktr_unf
   k_extra "a8"
end K
theorem lM:∀ v,lU v:=ch1 (l:=PL.drop 7) hq6 K.basename_c_m
theorem hq7:Ch (PL.drop 7) oV:=ch2 (l:=PL.drop 7) hq6 lM
theorem wl:lO w p loose mean mg mb news dp un gd env outer A₀ base h₀ L m s Q E x t:=(lL w p loose mean mg mb news dp un gd env outer A₀ base h₀ L m s Q E x t).2 fun g' L' h'=>lM { oV with w,p,loose,mean,mg,mb,news,dp,un,gd,env,outer,A₀,base,h₀,L,m,s,Q,E,q12:=x,q26:=t,q27:=g',q3:=L',q28:=h' }
theorem m6:∀ v,m8 v:=ch1 (l:=PL.drop 8) hq7 K.dirname_c_m
theorem hq8:Ch (PL.drop 8) oV:=ch2 (l:=PL.drop 8) hq7 m6
theorem rk:m7 w p loose mean mg mb news dp un gd env outer A₀ base h₀ L m s Q E x t:=(m4 w p loose mean mg mb news dp un gd env outer A₀ base h₀ L m s Q E x t).2 fun g' L' h'=>m6 { oV with w,p,loose,mean,mg,mb,news,dp,un,gd,env,outer,A₀,base,h₀,L,m,s,Q,E,q12:=x,q26:=t,q27:=g',q3:=L',q28:=h' }
theorem qw:∀ v,qz v:=ch1 (l:=PL.drop 9) hq8 K.split_c_m
theorem hq9:Ch (PL.drop 9) oV:=ch2 (l:=PL.drop 9) hq8 qw
theorem z5:qy w p loose mean mg mb news dp un gd env outer A₀ base h₀ L m s Q E x t:=(qv w p loose mean mg mb news dp un gd env outer A₀ base h₀ L m s Q E x t).2 fun g' L' h'=>qw { oV with w,p,loose,mean,mg,mb,news,dp,un,gd,env,outer,A₀,base,h₀,L,m,s,Q,E,q12:=x,q26:=t,q27:=g',q3:=L',q28:=h' }
theorem jL:∀ v,jN v:=ch1 (l:=PL.drop 10) hq9 K.splitroot_c_m
theorem Cb:Ch (PL.drop 10) oV:=ch2 (l:=PL.drop 10) hq9 jL
theorem ua:jM w p loose mean mg mb news dp un gd env outer A₀ base h₀ L m s Q E x t:=(jK w p loose mean mg mb news dp un gd env outer A₀ base h₀ L m s Q E x t).2 fun g' L' h'=>jL { oV with w,p,loose,mean,mg,mb,news,dp,un,gd,env,outer,A₀,base,h₀,L,m,s,Q,E,q12:=x,q26:=t,q27:=g',q3:=L',q28:=h' }
theorem tu:∀ v,ty v:=ch1 (l:=PL.drop 11) Cb K.join_c_m
theorem Ca:Ch (PL.drop 11) oV:=ch2 (l:=PL.drop 11) Cb tu
theorem xu:nJ w p loose mean mg mb news dp un gd env outer A₀ base h₀ L m s Q E x y t u:=tu { oV with w,p,loose,mean,mg,mb,news,dp,un,gd,env,outer,A₀,base,h₀,L,m,s,Q,E,q12:=x,q13:=y,q26:=t,q29:=u }
end
section
theorem kw_A5_0:True:=by
 w_top off
 k_with "unf" => repeat' (first | k_extra "n" | (k_extra "a";k_extra "o";refine dB ?_;intro Q9q hQ9q) | k_extra "ag" | (k_end;wrow_close) | walk1 | (dsimp only;walk1) | (leave1;walk_say "STEP leave1";try dsimp only) | k_extra "p" | fail "no step")
 k_with "call ref" => first | k_extra "ab" | fail
 k_with "call ref" => first | ((k_here;k_dflt (refine' ua (by k_asm) (by k_asm) (by k_asm) (by k_asm) (by k_asm) (by exact rfl) (by exact rfl) (by ktr_room) (by ktr_units) (by with_reducible assumption) (by with_reducible assumption) (by with_reducible assumption) ?_;k_whole;intro D9q9 t91q9 t92q9 t93q9 h9q9 tk9q9 F9q9 N9q9;(try dsimp only);(try k_fold)))) | fail
 trivial
theorem oM:∀ (l acc:List Str),(l.foldl bU acc).length≤acc.length+l.length
 | [],acc=>Nat.le_add_right _ _
 | c::l,acc=>by
  have h1:=oM l (bU acc c)
  have h2:(bU acc c).length≤acc.length+1:=by
   unfold bU;split
   · (exact zae [_] 1 qA (zu qA) [] rfl)
   · split
     · (exact zae [_] 1 qA (zu qA) [] rfl)
     · split
       · k_extra "fk"
       · rw [List.length_append];simp
  k_extra "du"
theorem tW (l:List Str):wt l.dropLast≤wt l:=by
 rcases List.eq_nil_or_concat l with rfl | ⟨r,a,rfl⟩
 · exact Nat.le_refl _
 · rw [List.concat_eq_append,List.dropLast_concat,cK];(exact zae [_,_] 1 qA (zp qA qB) [] rfl)
theorem qN:∀ (l acc:List Str),wt (l.foldl bU acc)≤wt acc+wt l
 | [],acc=>Nat.le_add_right _ _
 | c::l,acc=>by
  have h1:=qN l (bU acc c)
  have h3:wt (c::l)=wt [c]+wt l:=cK [c] l
  have h2:wt (bU acc c)≤wt acc+wt [c]:=by
   unfold bU;split
   · (exact zae [_,_] 1 qA (zp qA qB) [] rfl)
   · split
     · (exact zae [_,_] 1 qA (zp qA qB) [] rfl)
     · split
       · have:=tW acc;(exact zae [_,_,_] 1 qC (zp qA qB) [(1,qC,qA)] rfl this)
       · rw [cK];(exact Nat.le_refl _)
  rw [List.foldl_cons];(exact zae [_,_,_,_,_,_] 1 qC (zp qA qB) [(1,qD,zp qA qE),(1,zp qE qF,qB),(1,qC,zp qD qF)] rfl h2 (zge h3) h1)
theorem qO:∀ (l acc:List Str),(∀ a∈acc,a≠Str.ofString "..") → ∀ a∈l.foldl bU acc,a≠Str.ofString ".."
 | [],acc,h=>h
 | c::l,acc,h=>by
  rw [List.foldl_cons]
  refine qO l _ ?_
  unfold bU;split
  · exact h
  · split
    · exact h
    · split
      · exact fun a ha=>h a (List.dropLast_subset _ ha)
      · rename_i hne
        intro a ha
        k_extra "ca"
        · exact h a ha
        · rw [List.mem_singleton.mp ha];exact hne
theorem uc {ys:List Str} {i:Nat} {c:Str} (hc:ys[i]? = some c):dW (ys.take (i+1))=bU (dW (ys.take i)) c:=by
 unfold dW
 k_extra "ge"
theorem Ad {acc:List Str} {c:Str} (h:(c.length:Int)=0):bU acc c=acc:=by unfold bU;rw [if_pos (by exact Nat.le_antisymm (zae [_] 1 qA (zn 0) [(1,qA,zn 0)] rfl (zle (ziq h))) (zae [_] 1 (zn 0) qA [] rfl))]
theorem Ac {acc:List Str} {c:Str} (h0:(c.length:Int)≠0) (h:(c == Str.ofString ".")=true):bU acc c=acc:=by
 unfold bU;rw [if_neg (by k_extra "g"),if_pos (beq_iff_eq.mp h)]
theorem Ab {acc:List Str} {c:Str} (h0:(c.length:Int)≠0) (h:(c == Str.ofString ".")=false) (h2:(c != Str.ofString "..")=true):bU acc c=acc++[c]:=by
 unfold bU;rw [if_neg (by k_extra "g"),if_neg (by simpa using h),if_neg (by simpa using h2)]
theorem uQ {acc:List Str} {c:Str} (h0:(c.length:Int)≠0) (h:(c == Str.ofString ".")=false) (h2:(c != Str.ofString "..")=false):bU acc c=acc.dropLast:=by
 unfold bU;rw [if_neg (by k_extra "g"),if_neg (by simpa using h),if_pos (by simpa using h2)]
theorem Ai {ws:List Value} {acc:List Str} {c:Str} (hW:StrsAre ws acc) (h0:(c.length:Int)≠0) (h:(c == Str.ofString ".")=false) (h2:(c != Str.ofString "..")=false) (hz:(ws.length:Int)=0):StrsAre ws (bU acc c):=by
 rw [uQ h0 h h2]
 have hl:=StrsAre.len_eq hW
 have:acc=[]:=List.eq_nil_of_length_eq_zero (by exact Nat.le_antisymm (zae [_,_] 1 qA (zn 0) [(1,qA,qB),(1,qB,zn 0)] rfl (zge hl) (zle (ziq hz))) (zae [_] 1 (zn 0) qA [] rfl))
 subst this;exact hW
theorem wW {acc:List Str} {y:Str} (hdd:∀ a∈acc,a≠Str.ofString "..") (hz:acc.getLast? = some y) (h:(y == Str.ofString "..")=true):False :=
 hdd y (List.mem_of_getLast? hz) (beq_iff_eq.mp h)
theorem kw_A5_1:True:=by
 w_top off
 k_with "call builtin:list.append" => first | ((k_here;(fail_if_success (fail_if_success (with_reducible show wpAny _ _ (call (Value.builtin _) [Value.ref _,_]) _ _ _)));k_dflt (refine' pn (by k_asm) (by k_asm) (by k_upd) (by first | with_reducible assumption | k_extra "g" | (simp only [List.length_append,List.length_cons,List.length_nil];k_extra "g")) ?_;k_whole);intro h'q9 F'q9 N'q9;(try k_sweep))) | fail
 k_with "truthy ref" => first | ((k_here;k_dflt (refine' v7 (by k_asm) (by k_mem) (by first | with_reducible assumption | k_extra "g") ?_;k_whole))) | fail
 k_with "subscriptTail Name UnaryOp ref int" => first | ((k_here;k_extra "m";(with_unfolding_all refine' xE (by k_asm) (by k_mem) (by with_reducible assumption) (by with_reducible assumption) ?_ (by with_unfolding_all rfl);k_whole);intro y8q9 t8q9 hy8q9 hz8q9)) | fail
 k_with "call builtin:list.pop" => first | ((k_here;k_extra "ae";k_dflt (refine' zb (by k_asm) (by k_asm) (by k_upd) (by first | with_reducible assumption | k_extra "g") (by with_reducible assumption) (by with_reducible assumption) ?_;k_whole);intro h'q9 y8q9 t8q9 F'q9 N'q9;(try k_sweep))) | fail
 trivial
namespace K
theorem normpath_c_m:iY w p loose mean mg mb news dp un gd env outer A₀ base h₀ L m s Q E x t g' L' h':=by
 intro B F N T hf hk hd hu hx hx0 hs1 hs2 hsp ret X
 revert X;k_fill;intro X
 k_dflt k_extra "k"
 ktr_unf
 all_goals (try (exfalso;k_extra "g"))
 k_extra "ay"
 k_extra "az"
 rename List (Str × Tok)=>l
 rename List.map _ l=_=>hl
 rename StrsAre _ _=>hS
 rename ∀ a:Str,a∈List.map _ l→_=>hlen
 generalize hsv:strValues l=vs at *
 generalize hys:List.map (fun x=>x.fst) l=ys at *
 k_extra "bu"
 refine ld lF' rfl ?_
 refine dE rfl (List.Mem.tail _ (List.Mem.head _)) rfl rfl lF' lN' (fun I h' S=>dA S (fun p hp=>by rw [List.mem_singleton.mp hp];exact List.Mem.head _) ?hne (fun lc i m' ws tl=>tl=[]∧StrsAre ws (dW (ys.take i))∧(∃ t',m' (Str.ofString "dot")=some (.str (Str.ofString ".") t'))∧(∃ t',m' (Str.ofString "dotdot")=some (.str (Str.ofString "..") t'))∧(∃ t',m' (Str.ofString "sep")=some (.str (Str.ofString "/") t'))∧(∃ t',m' (Str.ofString "initial_slashes")=some (.str (Str.ofString "/") t'))∧m' (Str.ofString "new_comps")=some (.ref lc)) ?hk ?turn ?done)
 case hne=>(k_all)
 case hk=>exact ⟨rfl,StrsAre.nil,⟨_,rfl⟩,⟨_,rfl⟩,⟨_,rfl⟩,⟨_,rfl⟩,rfl⟩
 case turn =>
  intro i v m₁ ws n tl it h tk hi hv hr1q
  refine iA (hr1q) ?_
  (try clear hr1q);rintro rfl hW ⟨t1,hm1⟩ ⟨t2,hm2⟩ ⟨t3,hm3⟩ ⟨t4,hm4⟩ hm5
  intro ho hI hoff F₁ N₁
  refine aV (hS.item i v hv) ?_
  rintro c tc rfl hc
  k_extra "bw"
  k_extra "fh"
  have hwl:ws.length≤100000:=by
   have h1:=StrsAre.len_eq hW
   have h2:=oM (ys.take i) []
   have h3:=StrsAre.len_eq hS
   simp only [dW,List.length_take,List.length_nil] at h1 h2
   rw [← hl] at hsp
   unfold wt at hsp
   (exact zae [_,_,_,_,_,_,_] 1 qA (zn 100000) [(1,qB,zp (zn 0) qC),(1,qD,qE),(1,qA,qB),(1,zu qF,qD),(1,zp qG qE,zn 100000),(1,qC,qF)] rfl h2 (zle h3) (zle h1) hi hsp (Nat.min_le_left _ _))
  have hdd:=qO (ys.take i) [] (fun _ h=>nomatch h)
  have hcl:c.length≤100000:=Nat.le_trans (hlen c (List.mem_of_getElem? hc)) (Nat.le_trans (Txt.slice_le _ _ _) hx)
  clear F₁ lF' lN' S
  ktr_unf
  all_goals (try (exfalso;first | k_extra "g" | (exact wW hdd (by assumption) (by assumption))))
  all_goals (
   (show aX _ _ _ _ _ _ _)
   (refine dS.intro (by assumption) (by assumption) _ _ [] (fun p hp=>hp) ?_ ho ⟨rfl,?_,⟨_,rfl⟩,⟨_,rfl⟩,⟨_,rfl⟩,⟨_,rfl⟩,rfl⟩)
   (· intro p hp;rcases List.mem_cons.mp hp with rfl | hp;exact hI;exact hoff p hp)
   (· rw [uc hc];first
       | (rw [Ad (by assumption)];exact hW)
       | (rw [Ac (by assumption) (by assumption)];exact hW)
       | (rw [Ab (by assumption) (by assumption) (by assumption)];exact StrsAre.snoc hW _ _)
       | (exact Ai hW (by assumption) (by assumption) (by assumption) (by assumption))
       | (rw [uQ (by assumption) (by assumption) (by assumption)];exact StrsAre.drop_last hW)))
 case done =>
  intro m₁ ws n tl h tk hr2q
  refine iA (hr2q) ?_
  (try clear hr2q);rintro rfl hW ⟨t1,hm1⟩ ⟨t2,hm2⟩ ⟨t3,hm3⟩ ⟨t4,hm4⟩ hm5
  intro ho F₁ N₁
  k_extra "bw"
  k_extra "cx"
  rw [StrsAre.len_eq hS,List.take_length] at hW
  have hpw:wt (dW ys)≤1000000:=by
   have h1:=qN ys []
   rw [← hl] at hsp
   have h2:wt ([]:List Str)=0:=rfl
   unfold dW
   (exact zae [_,_,_] 1 qA (zn 1000000) [(1,qB,zn 0),(1,qA,zp qB qC),(1,qC,zn 100000)] rfl (zle h2) h1 hsp)
  rw [hl] at hW hpw
  clear F₁ lF' lN' S
  ktr_unf
  k_extra "a8"
end K
theorem kW:∀ v,kY v:=ch1 (l:=PL.drop 12) Ca K.normpath_c_m
theorem B9:Ch (PL.drop 12) oV:=ch2 (l:=PL.drop 12) Ca kW
theorem vF:kX w p loose mean mg mb news dp un gd env outer A₀ base h₀ L m s Q E x t:=(kU w p loose mean mg mb news dp un gd env outer A₀ base h₀ L m s Q E x t).2 fun g' L' h'=>kW { oV with w,p,loose,mean,mg,mb,news,dp,un,gd,env,outer,A₀,base,h₀,L,m,s,Q,E,q12:=x,q26:=t,q27:=g',q3:=L',q28:=h' }
end
section
theorem kw_A14_0:True:=by
 w_top off
 k_with "unf" => repeat' k_extra "w"
 trivial
theorem hU:∀ (l acc:List Str),(l.foldl aF acc).length≤acc.length+l.length
 | [],acc=>Nat.le_add_right _ _
 | c::l,acc=>by
  have h1:=hU l (aF acc c)
  have h2:(aF acc c).length≤acc.length+1:=by
   unfold aF;split
   · k_extra "fk"
   · split
     · (exact zae [_] 1 qA (zu qA) [] rfl)
     · rw [List.length_append];simp
  k_extra "du"
theorem gE {ys:List Str} {i:Nat} {c:Str} (hc:ys[i]? = some c):(ys.take (i+1)).foldl aF []=aF ((ys.take i).foldl aF []) c:=by
 k_extra "ge"
namespace K
theorem straight_c_m:iV w p loose mean mg mb news dp un gd env outer A₀ base h₀ L m s Q E x u g' L' h':=by
 intro B F N T hf hk hd hu hx hx2 ret X
 revert X;k_fill;intro X
 k_dflt k_extra "k"
 ktr_unf
 k_extra "ay"
 k_extra "bu"
 ktr_unf
 k_extra "ay"
 k_extra "az"
 rename List (Str × Tok)=>l
 rename List.map _ l=_=>hl
 rename StrsAre _ _=>hS
 rename ∀ p∈news,p.1 < _=>hAl
 rename ∀ a:Str,a∈List.map _ l→_=>hlen
 generalize hsv:strValues l=vs at *
 generalize hys:List.map (fun x=>x.fst) l=ys at *
 have N2:=cb_drop lN' sL
 refine dE rfl (List.Mem.tail _ (List.Mem.head _)) rfl rfl lF' N2 (fun I h' S=>xd (tl₀:=[_]) (rest:=_::news) S (fun p hp=>by rw [List.mem_singleton.mp hp];exact List.Mem.head _) (fun i m' tl => ∃ nm ws n,tl=[(nm,W.listOf ws.toArray n)]∧m' (Str.ofString "names")=some (.ref nm)∧(∀ p∈news,p.1≠nm)∧StrsAre ws ((ys.take i).foldl aF [])) ?hk ?turn ?done)
 case hk=>exact ⟨_,[],0,rfl,rfl,fun p hp=>Nat.ne_of_lt (hAl p hp),.nil⟩
 case turn =>
  intro i v m₁ tl it h tk hi hv hr1q
  refine jz (hr1q) ?_
  (try clear hr1q);rintro nm ws n rfl hm1 hfr hW
  intro hoff F₁ N₁
  refine aV (hS.item i v hv) ?_
  rintro c tc rfl hc
  have F₂:=aK F₁ (x:=Str.ofString "names") hm1
  simp only [List.cons_append,List.nil_append] at N₁ hoff
  have hwl:ws.length≤200000:=by
   have h1:=StrsAre.len_eq hW
   have h2:=hU (ys.take i) []
   have h3:=StrsAre.len_eq hS
   simp only [List.length_take,List.length_nil] at h1 h2
   rw [← hl] at hx2
   (exact zae [_,_,_,_] 1 qA (zn 200000) [(1,qB,zp (zn 0) qC),(1,qA,qB),(1,qD,zn 100000),(1,qC,qD)] rfl h2 (zle h1) hx2 (Nat.min_le_right _ _))
  clear F₁
  ktr_unf
  all_goals (
   (rename News _ _ _ _=>lN9)
   (rename Fr _ _ _ _=>lF9)
   (show aX _ _ _ _ _ _ _))
  · rename (c == _)=true=>hc9
    rw [z6] at lN9
    refine' gL.intro lF9 lN9 [_] ?sub ?off ⟨_,ws.dropLast,0,?tl,rfl,?fr,?str⟩
    case tl=>exact rfl
    case sub=>kcj_all
    case fr=>exact fun p hp=>Nat.ne_of_lt (Nat.lt_succ_of_lt (Heap.lt_size (N₁ p (.tail _ (.tail _ (.tail _ hp)))).1))
    case off=>exact aJ (Nat.ne_of_gt (Nat.lt_succ_of_lt (Heap.lt_size (N₁ (I,it) (.head _)).1))) (fun p hp=>hoff p (.tail _ hp))
    case str =>
     rw [gE hc,aF,if_pos (beq_iff_eq.mp hc9)]
     exact StrsAre.drop_last hW
  · rename (c == _)=false=>hc9
    rename List.any _ _=true=>ha9
    refine' gL.intro lF9 lN9 [_] ?sub ?off ⟨_,ws,n,?tl,rfl,?fr,?str⟩
    case tl=>exact rfl
    case sub=>kcj_all
    case off=>exact hoff
    case fr=>exact hfr
    case str =>
     rw [gE hc,aF,if_neg (by simpa using hc9),if_pos]
     · exact hW
     · simp only [List.any_cons,List.any_nil,Bool.or_false,Bool.or_eq_true,beq_iff_eq] at ha9
       rcases ha9 with rfl | rfl
       · exact .inl rfl
       · exact .inr rfl
  · rename (c == _)=false=>hc9
    rename List.any _ _=false=>ha9
    refine' gL.intro lF9 lN9 [_] ?sub ?off ⟨_,ws++[.str c tc],0,?tl,rfl,?fr,?str⟩
    case tl=>exact rfl
    case sub=>kcj_all
    case fr=>exact fun p hp=>Nat.ne_of_lt (Heap.lt_size (o:=p.2) (News.get (by assumption) (List.Mem.tail _ (List.Mem.tail _ (List.Mem.tail _ (List.Mem.tail _ (List.Mem.tail _ hp)))))))
    case off =>
     refine aJ ?_ (fun p hp=>hoff p (.tail _ hp))
     exact Nat.ne_of_gt (Heap.lt_size (News.get (by assumption) (by k_mem)))
    case str =>
     rw [gE hc,aF,if_neg (by simpa using hc9),if_neg]
     · exact StrsAre.snoc (by assumption) _ _
     · simp only [List.any_cons,List.any_nil,Bool.or_false,Bool.or_eq_false_iff,beq_eq_false_iff_ne] at ha9
       rintro (h0 | rfl)
       · exact ha9.1 (jh h0).symm
       · exact ha9.2 rfl
 case done =>
  intro m₁ tl h tk hr2q
  refine jz (hr2q) ?_
  (try clear hr2q);rintro nm ws n rfl hm1 hfr hW
  intro F₁ N₁
  simp only [List.cons_append,List.nil_append] at N₁
  rw [StrsAre.len_eq hS,List.take_length,hl] at hW
  have F₂:=aK F₁ (x:=Str.ofString "names") hm1
  clear F₁
  ktr_unf
  refine ret nm ws n _ _ (by assumption) ?_ hfr hW
  refine' cb_drop ?rx ?ry
  case rx=>assumption
  case ry=>kcj_all
end K
theorem ku:∀ v,kz v:=ch1 (l:=PL.drop 13) B9 K.straight_c_m
theorem B8:Ch (PL.drop 13) oV:=ch2 (l:=PL.drop 13) B9 ku
theorem oj:ky w p loose mean mg mb news dp un gd env outer A₀ base h₀ L m s Q E x u:=(kt w p loose mean mg mb news dp un gd env outer A₀ base h₀ L m s Q E x u).2 fun g' L' h'=>ku { oV with w,p,loose,mean,mg,mb,news,dp,un,gd,env,outer,A₀,base,h₀,L,m,s,Q,E,q12:=x,q29:=u,q27:=g',q3:=L',q28:=h' }
end
section
theorem kw_A15_0:True:=by
 w_top off
 k_with "unf" => repeat' k_extra "y"
 k_with "subscriptTail Name Name ref int" => first | k_extra "4" | fail
 k_with "call builtin:len" => first | ((k_here;(fail_if_success (fail_if_success (with_reducible show wpAny _ _ (call (Value.builtin "len") [Value.ref _]) _ _ _)));k_dflt (refine' AF (by k_asm) (by k_mem) (by rfl) (by rfl) (by first | with_reducible assumption | k_extra "g" | (simp only [List.length_append,List.length_cons,List.length_nil,List.length_set];k_extra "g")) ?_;k_whole))) | fail
 k_with "binaryOp Mult ref int" => first | ((k_here;(fail_if_success (fail_if_success (with_reducible show wpAny _ _ (binaryOp Operator.Mult (Value.ref _) (Value.int _ _)) _ _ _)));k_dflt (refine' KMa.mul (by k_asm) (by k_asm) (by is_list) (by k_extra "g") (by k_extra "g") (by (simp only [List.length_cons,List.length_nil];k_extra "g")) (by exact rfl) ?_;k_whole);intro D'q9 h'q9 F'q9 N'q9 l1q9;(try k_lt l1q9);(try k_sweep))) | fail
 trivial
theorem pd:∀ (x y:List Str),aI x y≤x.length∧aI x y≤y.length
 | [],y=>by simp [aI]
 | a::x,[]=>by simp [aI]
 | a::x,b::y=>by
  have:=pd x y
  simp only [aI,List.length_cons]
  split <;> k_extra "g"
theorem xi {x y:List Str} {k:Nat} (h:x.length≤k∨y.length≤k):aI (x.drop k) (y.drop k)=0:=by
 have:=pd (x.drop k) (y.drop k)
 simp only [List.length_drop] at this
 (exact h.elim (fun h09=>(Nat.le_antisymm (zae [_,_] 1 qA (zn 0) [(1,qA,qB),(1,qB,zn 0)] rfl this.1 (zs4 (zae [_,_] 1 qB qA [(1,qB,qA)] rfl h09))) (zae [_] 1 (zn 0) qA [] rfl))) (fun h09=>(Nat.le_antisymm (zae [_,_] 1 qA (zn 0) [(1,qA,qB),(1,qB,zn 0)] rfl this.2 (zs4 (zae [_,_] 1 qB qA [(1,qB,qA)] rfl h09))) (zae [_] 1 (zn 0) qA [] rfl))))
theorem s5 {x y:List Str} {k:Nat} {a b:Str} (ha:x[k]? = some a) (hb:y[k]? = some b):aI (x.drop k) (y.drop k)=if a=b then aI (x.drop (k+1)) (y.drop (k+1))+1 else 0:=by
 refine bA (List.getElem?_eq_some_iff.mp ha) ?_
 intro h1 e1
 refine bA (List.getElem?_eq_some_iff.mp hb) ?_
 intro h2 e2
 rw [List.drop_eq_getElem_cons h1,List.drop_eq_getElem_cons h2,e1,e2,aI]
theorem ny (v:Str) (t:Tok):∀ n,StrsAre (List.replicate n [Value.str v t]).flatten (List.replicate n v)
 | 0 => .nil
 | n+1=>by
  rw [List.replicate_succ,List.replicate_succ,List.flatten_cons]
  exact .cons _ _ (ny v t n)
theorem kr {ws:List Value} {ys:List Str} (h:StrsAre ws ys):∀ n,StrsAre (ws.drop n) (ys.drop n):=by
 induction h with
 | nil=>intro n;rw [List.drop_nil,List.drop_nil];exact .nil
 | cons y t r ih=>intro n;cases n with
  | zero=>exact .cons y t r
  | succ n=>exact ih n
theorem zU (l:List Str) (n:Nat):wt (l.drop n)≤wt l:=by
 have:=cK (l.take n) (l.drop n)
 rw [List.take_append_drop] at this;(exact zae [_,_,_] 1 qB qA [(1,zp qC qB,qA)] rfl (zge this))
theorem rS (n:Nat) (v:Str):wt (List.replicate n v)=n * (v.length+1):=by
 induction n with
 | zero=>simp [wt]
 | succ n ih =>
  rw [List.replicate_succ,show v::List.replicate n v=[v]++List.replicate n v from rfl,cK,ih,Nat.succ_mul]
  simp only [wt,List.map_cons,List.map_nil,List.sum_cons,List.sum_nil,List.length_cons,List.length_nil];(exact Nat.le_antisymm (zae [_,_] 1 (zp (zp (zp qB (zn 0)) (zu (zn 0))) qA) (zp qA (zu qB)) [] rfl) (zae [_,_] 1 (zp qB (zu qA)) (zp (zp (zp qA (zn 0)) (zu (zn 0))) qB) [] rfl))
namespace K
namespace V14
theorem way_c_m:qn w p loose mean mg mb news dp un gd env outer A₀ base h₀ L m s Q E H G ws1 ws2 c1 c2 home goal g' L' h':=by
 intro B F N T hf hk hd hu hS1 hS2 hz1 hz2 hw ret X
 revert X;k_fill;intro X
 k_dflt k_extra "k"
 have hl1:=StrsAre.len_eq hS1
 have hl2:=StrsAre.len_eq hS2
 ktr_unf
 k_extra "ay"
 k_extra "az"
 have hle:=pd home goal
 refine yn (n₀:=ws1.length) (fun n m' nx=>nx=(H,W.listOf ws1.toArray c1)::(G,W.listOf ws2.toArray c2)::news∧m' (Str.ofString "home")=some (.ref H)∧m' (Str.ofString "goal")=some (.ref G) ∧ ∃ k:Nat,n=ws1.length - k∧(∃ t,m' (Str.ofString "k")=some (.int k t))∧k≤aI home goal∧aI (home.drop k) (goal.drop k)+k=aI home goal)
  (fun m' nx=>nx=(H,W.listOf ws1.toArray c1)::(G,W.listOf ws2.toArray c2)::news∧m' (Str.ofString "home")=some (.ref H)∧m' (Str.ofString "goal")=some (.ref G) ∧ ∃ t,m' (Str.ofString "k")=some (.int (aI home goal) t)) lF' lN' ⟨rfl,rfl,rfl,0,by (exact Nat.le_antisymm (zae [_,_] 1 qB qA [(1,qB,zp qA (zn 0))] rfl (zs2 _ _)) (zae [_,_] 1 qB qA [(1,qB,qA)] rfl (zs1 _ _))),⟨_,rfl⟩,Nat.zero_le _,by simp⟩ ?turn ?exit
 case exit =>
  intro m₁ nx h tk hr1q
  obtain ⟨rfl,hm1,hm2,t3,hm3⟩:=hr1q
  intro F₁ N₁
  k_extra "dq"
  clear F₁ lF' lN'
  ktr_unf
  rename News _ _ _ _=>lN9
  rename Fr _ _ _ _=>lF9
  rw [uK] at lN9
  refine' kmk_add_lit lF9 lN9 ?a ?b ?e ?h ?z
  case a=>exact ⟨_,(lN9 _ (.tail _ (.head _))).1,rfl,_,rfl⟩
  case b=>exact ⟨_,(lN9 _ (.head _)).1,rfl,_,rfl⟩
  case e=>exact rfl
  case z=>rw [sizeLine_eq];simp only [List.toList_toArray,List.length_drop,(ny _ _ _).len_eq,List.length_replicate];k_extra "g"
  case h =>
   intro D9 h9 F9 N9 l9
   have hS9:StrsAre ((List.replicate ((ws1.length:Int) - (aI home goal:Int)).toNat [Value.str (Str.ofString "..") (tk+1)]).flatten++ws2.drop (aI home goal)) (List.replicate (home.length - aI home goal) (Str.ofString "..")++goal.drop (aI home goal)):=by
    have e:((ws1.length:Int) - (aI home goal:Int)).toNat=home.length - aI home goal:=by k_extra "g"
    rw [e]
    exact StrsAre.append' (ny _ _ _) (kr hS2 _)
   have hw9:wt (List.replicate (home.length - aI home goal) (Str.ofString "..")++goal.drop (aI home goal))≤1000000:=by
    have h1:=zU goal (aI home goal)
    rw [cK,rS]
    have h2:(Str.ofString "..").length=2:=by decide
    rw [h2]
    k_extra "g"
   try simp only [] at N9
   clear lF9 lN9
   ktr_unf
   refine ret _ _ _ (by assumption) ?_
   refine' cb_drop ?rx ?ry
   case rx=>assumption
   case ry=>kcj_all
 case turn =>
 intro n m₁ nx h tk F₁ N₁ hr2q
 obtain ⟨rfl,hm1,hm2,k,rfl,⟨t3,hm3⟩,hk,he⟩:=hr2q
 k_extra "dq"
 clear F₁ lF' lN'
 ktr_unf
 · rename (_ == _)=true=>hq
   rename home[_]? = _=>hh
   rename goal[_]? = _=>hg
   rw [Int.toNat_natCast] at hh hg
   have hq':=beq_iff_eq.mp hq
   have h5:=s5 hh hg
   rw [if_pos hq'] at h5
   refine WStep.intro (by assumption) (by assumption) (ws1.length - (k+1)) (by exact zal [_,_,_,_] 1 qB qA [(1,qC,zp qA qD),(1,zp qB (zu qD),qC)] rfl (zs2 _ _) (zs3 (zae [_,_,_,_,_,_] 1 (zu qB) qA [(1,zu qC,qD),(1,zp qD qB,qE),(1,qE,qF),(1,qF,qA)] rfl (zge h5) (zle he) hle.1 (zge hl1)))) ⟨rfl,rfl,rfl,k+1,rfl,⟨_,congrArg (fun z=>some (Value.int z _)) (show ((k:Int)+1)=((k+1:Nat):Int) by (exact zmq (Nat.le_antisymm (Nat.le_refl _) (Nat.le_refl _))))⟩,by (exact zae [_,_,_,_] 1 (zu qB) qA [(1,zu qC,qD),(1,zp qD qB,qA)] rfl (zge h5) (zle he)),by (exact Nat.le_antisymm (zae [_,_,_,_] 1 (zp qB (zu qC)) qA [(1,zu qB,qD),(1,zp qD qC,qA)] rfl (zge h5) (zle he)) (zae [_,_,_,_] 1 qC (zp qA (zu qB)) [(1,qD,zu qA),(1,qC,zp qD qB)] rfl (zle h5) (zge he)))⟩
 · rename (_ == _)=false=>hq
   rename home[_]? = _=>hh
   rename goal[_]? = _=>hg
   rw [Int.toNat_natCast] at hh hg
   have hq':=beq_eq_false_iff_ne.mp hq
   have h5:=s5 hh hg
   rw [if_neg hq'] at h5
   refine jE.intro (by assumption) (by assumption) ⟨rfl,rfl,rfl,_,congrArg (fun z=>some (Value.int z _)) (show (k:Int)=(aI home goal:Nat) by (exact zmq (Nat.le_antisymm (zae [_,_] 1 qB qA [(1,qB,qA)] rfl hk) (zae [_,_,_] 1 qB qA [(1,qC,zn 0),(1,qB,zp qC qA)] rfl (zle h5) (zge he)))))⟩
 all_goals (
  have h5:=xi (x:=home) (y:=goal) (k:=k) (by k_extra "g")
  refine jE.intro (by assumption) (by assumption) ⟨rfl,rfl,rfl,_,congrArg (fun z=>some (Value.int z _)) (show (k:Int)=(aI home goal:Nat) by (exact zmq (Nat.le_antisymm (zae [_,_] 1 qB qA [(1,qB,qA)] rfl hk) (zae [_,_,_] 1 qB qA [(1,qC,zn 0),(1,qB,zp qC qA)] rfl (zle h5) (zge he)))))⟩)
end V14
end K
theorem uw:∀ v,uz v:=ch1 (l:=PL.drop 14) B8 K.V14.way_c_m
theorem B7:Ch (PL.drop 14) oV:=ch2 (l:=PL.drop 14) B8 uw
theorem zK {ws1:List Value} {ws2:List Value} {c1:Nat} {c2:Nat} {home:List Str} {goal:List Str}:uy w p loose mean mg mb news dp un gd env outer A₀ base h₀ L m s Q E H G ws1 ws2 c1 c2 home goal:=(uv w p loose mean mg mb news dp un gd env outer A₀ base h₀ L m s Q E H G ws1 ws2 c1 c2 home goal).2 fun g' L' h'=>uw { oV with w,p,loose,mean,mg,mb,news,dp,un,gd,env,outer,A₀,base,h₀,L,m,s,Q,E,q4:=H,q5:=G,q9:=ws1,q30:=ws2,q8:=c1,q23:=c2,q31:=home,q32:=goal,q27:=g',q3:=L',q28:=h' }
end
section
theorem kw_A16_0:True:=by
 w_top off
 k_with "unf" => repeat' k_extra "w"
 k_with "call ref" => first | ((k_here;k_dflt (refine' oj (by k_asm) (by k_asm) (by k_asm) (by k_asm) (by k_asm) (by exact rfl) (by exact rfl) (by ktr_room) (by ktr_units) (by with_reducible assumption) (by with_reducible assumption) ?_;k_whole;intro D9q9 ws9q9 n9q9 h9q9 tk9q9 F9q9 N9q9 hfr9q9 hS9q9;(try dsimp only);(try k_fold)))) | fail
 trivial
theorem vL {α:Type} (i2 l d i h : α) (t2 t n:List α):∀ p∈l::d::i2::i::h::(t2++(t++n)),p∈i2::l::(t2++d::i::(t++h::n)):=bP [[_],[_],[_],[_],[_],_,_,_] (zp qA (zp qB (zp qC (zp qD (zp qE (zp qF (zp qG qH))))))) (zp qC (zp qA (zp qF (zp qB (zp qD (zp qG (zp qE qH))))))) rfl
theorem w0 {α:Type} (i2 l d i h d1 : α) (t2 t n:List α):∀ p∈t2++t,p∈d1::l::d::i2::i::h::(t2++(t++n)):=bP [_,_,[_],[_],[_],[_],[_],[_],_] (zp qA qB) (zp qC (zp qD (zp qE (zp qF (zp qG (zp qH (zp qA (zp qB qI)))))))) rfl
theorem vI {α:Type} (i l d : α) (t2 t n:List α):∀ p∈i::l::((t2++t)++n),p∈l::(t2++d::i::(t++n)):=bP [[_],[_],_,_,_,[_]] (zp qA (zp qB (zp (zp qC qD) qE))) (zp qB (zp qC (zp qF (zp qA (zp qD qE))))) rfl
theorem wZ {α:Type} (i d : α) (t2 t n:List α):∀ p∈(t2++t)++n,p∈t2++d::i::(t++n):=bP [_,_,_,[_],[_]] (zp (zp qA qB) qC) (zp qA (zp qD (zp qE (zp qB qC)))) rfl
theorem wY {α:Type} (i2 d i h : α) (t2 t n:List α):∀ p∈d::i2::i::h::(t2++(t++n)),p∈i2::(t2++d::i::(t++h::n)):=bP [[_],[_],[_],[_],_,_,_] (zp qA (zp qB (zp qC (zp qD (zp qE (zp qF qG)))))) (zp qB (zp qE (zp qA (zp qC (zp qF (zp qD qG)))))) rfl
theorem vK {α:Type} (i2 l d i h d1 d2 : α) (t2 t n:List α):∀ p∈i2::l::((d2::t2)++(d::i::(t++h::n))),p∈d2::d1::l::d::i2::i::h::(t2++(t++n)):=bP [[_],[_],[_],_,[_],[_],_,[_],_,[_]] (zp qA (zp qB (zp (zp qC qD) (zp qE (zp qF (zp qG (zp qH qI))))))) (zp qC (zp qJ (zp qB (zp qE (zp qA (zp qF (zp qH (zp qD (zp qG qI))))))))) rfl
theorem vJ {α:Type} (i2 l d i h d1 : α) (t2 t n:List α):∀ p∈i2::l::(t2++(d::i::(t++h::n))),p∈d1::l::d::i2::i::h::(t2++(t++n)):=bP [[_],[_],_,[_],[_],_,[_],_,[_]] (zp qA (zp qB (zp qC (zp qD (zp qE (zp qF (zp qG qH))))))) (zp qI (zp qB (zp qD (zp qA (zp qE (zp qG (zp qC (zp qF qH)))))))) rfl
theorem nu {news:List (Addr × Obj)} {ws:List Value} {ys:List Str} (h:StrsAre ws ys):DatAll news ws (ys.map .str):=by
 induction h with
 | nil=>exact .nil
 | cons y t r ih=>exact .cons (.str y t) ih
theorem qt {ws:List Value} {ys:List Str} (h:StrsAre ws ys):∀ n,StrsAre (ws.take n) (ys.take n):=by
 induction h with
 | nil=>intro n;rw [List.take_nil,List.take_nil];exact .nil
 | cons y t r ih=>intro n;cases n with
  | zero=>exact .nil
  | succ n=>exact .cons y t (ih n)
noncomputable def okN (l:List Str):Prop:=kqdOk 8 (cL l)=true
theorem uS {l:List Str}:okN l ↔ ∀ x∈l,PyData.strOk x=true:=by
 unfold okN cL
 simp [kqdOk]
theorem sr {l:List Str} (h:okN l) (k:Nat):okN (l.take k):=uS.mpr fun x hx=>uS.mp h x (List.mem_of_mem_take hx)
theorem oW:∀ {a b:List Str},a.map Dat.str=b.map Dat.str→a=b
 | [],[],_=>rfl
 | x::a,y::b,h=>by
  simp only [List.map_cons,List.cons.injEq,Dat.str.injEq] at h
  rw [h.1,oW h.2]
theorem vU {a b:List Str} (h:cL a=cL b):a=b:=by
 unfold cL at h
 exact oW (Dat.list.inj h)
theorem vX {a:List Str} {l:List (List Str)}:cL a∈l.map cL ↔ a∈l:=by
 constructor
 · intro h
   k_extra "fb"
   intro b hb e
   exact vU e ▸ hb
 · exact List.mem_map_of_mem
theorem xT {a:List Str} {l:List (List Str)} {i:Decidable (cL a∈l.map cL)} : @decide _ i=decide (a∈l):=decide_eq_decide.mpr vX
namespace K
theorem tree_c_m:n4 w p loose mean mg mb news dp un gd env outer A₀ base h₀ L m s Q E H ws c ts g' L' h':=by
 intro B F N T hf hk hd hu hS hz hx ret X
 revert X;k_fill;intro X
 k_dflt k_extra "k"
 have hlen:=StrsAre.len_eq hS
 ktr_unf
 k_extra "ay"
 k_extra "az"
 k_extra "bu"
 ktr_unf
 refine dE rfl (List.Mem.tail _ (List.Mem.head _)) rfl rfl lF' lN' (fun I h' S=>dA S (fun p hp=>by rw [List.mem_singleton.mp hp];exact List.Mem.head _) ?hne (fun lc i m' wt tl=>m' (Str.ofString "tree")=some (.ref lc)∧DatAll tl wt (((ts.take i).foldl bR []).map cL)∧(∀ a∈(ts.take i).foldl bR [],okN a)∧((ts.take i).foldl bR []).length≤11 * i) ⟨rfl,.nil,fun _ h=>(nomatch h),Nat.le_refl _⟩ ?turn ?done)
 case hne=>k_all
 case turn =>
  intro i v m₁ wt n tl it h tk hi hv hr1q
  refine mf (hr1q) ?_
  (try clear hr1q);intro hm1 hA hkA hzA
  intro ho hI hoff F₁ N₁
  refine aV (hS.item i v hv) ?_
  rintro x tx rfl hx1
  have F₂:=aK F₁ (x:=Str.ofString "tree") hm1
  have hx2:=hx x (List.mem_of_getElem? hx1)
  have hx3:=hx2.1
  have hx4:=hx2.2.1
  clear F₁ lF' lN'
  ktr_unf
  k_extra "ay"
  k_extra "bu"
  ktr_unf
  k_extra "ay"
  k_extra "az"
  rename IsRange _ _ _ _ _ _ _ _=>hR
  rename StrsAre _ (aA x)=>hW
  have hl3:=StrsAre.len_eq hW
  rename ∀ p∈(I,it)::_,p.1≠_=>hf9
  have N3:=cb_drop lN' yT
  refine iT (n:=(aA x).length+1) rfl hR rfl (by exact zae [_] 1 (zu qA) (zn 1000000) [(1,qA,zn 10)] rfl hx2.2.2.1) lF' N3 (fun I2 h2 S2=>dA S2 (fun p hp=>nomatch hp) ?hne2 (fun lc k m' w2 tl2=>m' (Str.ofString "tree")=some (.ref lc)∧m' (Str.ofString "names")=some _∧DatAll (tl2++tl) w2 (((List.range k).foldl (bF (aA x)) ((ts.take i).foldl bR [])).map cL)∧(∀ a∈(List.range k).foldl (bF (aA x)) ((ts.take i).foldl bR []),okN a)∧((List.range k).foldl (bF (aA x)) ((ts.take i).foldl bR [])).length≤11 * i+k ∧ ∀ p∈tl2,p.1≠I) ⟨rfl,rfl,hA,hkA,hzA,fun _ h=>(nomatch h)⟩ ?turn2 ?done2)
  case hne2 =>
   exact aJ (Ne.symm (hf9 _ (.tail _ (.head _)))) (aJ (Ne.symm hI) ho)
  case turn2 =>
   intro k v2 m₂ w2 n2 tl2 it2 h2 tk2 hk2 hr2q
   refine bA (hr2q) ?_
   (try clear hr2q);rintro t2 rfl
   intro hr3q
   refine jA (hr3q) ?_
   (try clear hr3q);intro hm2 hm3 hA2 hkA2 hzA2 hoI
   intro ho2 hI2 hoff2 F3 N3
   k_extra "e9"
   have N4:=cb_drop N3 (vL _ _ _ _ _ _ _ _)
   have hnext:(List.range (k+1)).foldl (bF (aA x)) ((ts.take i).foldl bR [])=bF (aA x) ((List.range k).foldl (bF (aA x)) ((ts.take i).foldl bR [])) k:=by
    rw [List.range_succ,List.foldl_append];rfl
   generalize (List.range k).foldl (bF (aA x)) ((ts.take i).foldl bR [])=acc at hA2 hkA2 hzA2 hnext
   have hlw:=hA2.length
   rw [List.length_map] at hlw
   have hi10:i < 10:=by (exact zal [_,_,_] 1 qA (zn 10) [(1,zu qA,qB),(1,qB,qC),(1,qC,zn 10)] rfl hi (zle hlen) hz)
   have hW2:=hW
   clear F3 lF' lN' N3 N₁
   ktr_unf
   rename News _ _ _ _=>lN9
   rw [gT] at lN9
   refine' kqd_notIn (ds:=acc.map cL) (d:=cL ((aA x).take k)) lN9 (.tail _ (.head _)) rfl rfl hA2 ?sa (DatIn.list (.head _) (nu (qt hW2 k))) (fun _ h=>h) ?ha (sr hx2.2.2.2 k) ?hu ?_
   case sa=>exact w0 _ _ _ _ _ _ _ _ _
   case ha=>exact fun d hd=>by obtain ⟨a,ha,rfl⟩:=List.mem_map.mp hd;exact hkA2 a ha
   case hu=>ktr_units
   rw [xT]
   ktr_unf
   · rename _∈acc=>hin
     show aX _ _ _ _ _ _ _
     refine dS.intro (by assumption) lN9 w2 n2 tl2 (vJ _ _ _ _ _ _ _ _ _) (aJ hI2 hoff2) ho2 ⟨rfl,rfl,?_,?_,?_,hoI⟩
     all_goals rw [hnext,bF,if_pos hin]
     · exact hA2
     · exact hkA2
     · (exact zae [_,_,_] 1 qC (zp (zk 11 qA) (zu qB)) [(1,qC,zp (zk 11 qA) qB)] rfl hzA2)
   · rename ¬ _∈acc=>hin
     rename News _ _ _ _=>lN8
     rw [gT] at lN8
     have hd1:=Nat.ne_of_gt (Nat.lt_succ_of_lt (Heap.lt_size (News.get N4 (List.Mem.head _))))
     have hd2:=Nat.ne_of_gt (Nat.lt_succ_of_lt (Heap.lt_size (News.get lN9 (List.Mem.tail _ (List.Mem.head _)))))
     have hd3:=Nat.ne_of_gt (Nat.lt_succ_of_lt (Heap.lt_size (News.get lN9 (List.Mem.tail _ (List.Mem.tail _ (List.Mem.tail _ (List.Mem.tail _ (List.Mem.head _))))))))
     have hall:=fun (p:Addr × Obj) hp=>aJ (q:=(I2,it2)) (Ne.symm hI2) ho2 p (wY _ _ _ _ _ _ _ p hp)
     refine pn (ws:=w2) (n:=n2) (by assumption) lN8 (Upd.tail hd2 (Upd.tail hd1 (Upd.head hall))) (by exact zae [_,_,_,_,_] 1 qA (zn 1000000) [(11,zu qB,zn 10),(1,qA,qC),(1,qC,zp (zk 11 qB) qD),(1,zu qD,zu qE),(1,qE,zn 10)] rfl hi10 (zle hlw) hzA2 hk2 hx2.2.2.1) ?_
     intro h7 F7 N7
     ktr_unf
     show aX _ _ _ _ _ _ _
     refine dS.intro (by assumption) N7 (w2++[_]) (n2+1) (_::tl2) (vK _ _ _ _ _ _ _ _ _ _) (aJ hI2 (aJ ?_ hoff2)) (aJ hd2 ho2) ⟨rfl,rfl,?_,?_,?_,aJ hd3 hoI⟩
     · exact Nat.ne_of_gt (Nat.lt_succ_of_lt (Heap.lt_size (News.get lN9 (List.Mem.tail _ (List.Mem.tail _ (List.Mem.tail _ (List.Mem.head _)))))))
     all_goals rw [hnext,bF,if_neg hin]
     · rw [List.map_append]
       exact DatAll.append (hA2.mono (fun p hp => .tail _ hp)) (DatAll.one (DatIn.list (.head _) (nu (qt hW2 k))))
     · intro a ha
       k_extra "ca"
       · exact hkA2 a ha
       · rw [List.mem_singleton.mp ha];exact sr hx2.2.2.2 k
     · rw [List.length_append,List.length_singleton];(exact zae [_,_,_] 1 (zu qC) (zp (zk 11 qA) (zu qB)) [(1,qC,zp (zk 11 qA) qB)] rfl hzA2)
  case done2 =>
   intro m₂ w2 n2 tl2 h2 tk2 hr4q
   refine jA (hr4q) ?_
   (try clear hr4q);intro hm2 hm3 hA2 hkA2 hzA2 hoI
   intro ho2 F3 N3
   k_extra "e9"
   clear F3 lF' lN'
   have hnext:(ts.take (i+1)).foldl bR []=(List.range ((aA x).length+1)).foldl (bF (aA x)) ((ts.take i).foldl bR []):=by
    rw [List.take_add_one,hx1,List.foldl_append];rfl
   ktr_unf
   show aX _ _ _ _ _ _ _
   refine dS.intro F4 N3 w2 n2 (tl2++tl) (vI _ _ _ _ _ _) (aJ hI ?_) ?_ ⟨rfl,by rw [hnext];exact hA2,by rw [hnext];exact hkA2,by rw [hnext];(exact zae [_,_,_] 1 qB (zk 11 (zu qA)) [(1,qB,zp (zk 11 qA) (zu qC)),(1,qC,zn 10)] rfl hzA2 hx2.2.2.1)⟩
   · exact uU (uU hoI (fun p hp=>hoff p (List.mem_append_left _ hp))) (fun p hp=>hoff p (List.mem_append_right _ hp))
   · exact fun p hp=>ho2 p (wZ _ _ _ _ _ p hp)
 case done =>
  intro m₁ wt n tl h tk hr5q
  refine mf (hr5q) ?_
  (try clear hr5q);intro hm1 hA hkA hzA
  intro ho F₁ N₁
  have F₂:=aK F₁ (x:=Str.ofString "tree") hm1
  rw [List.take_of_length_le (by exact zae [_,_] 1 qB qA [(1,qB,qA)] rfl (zge hlen))] at hA
  clear F₁ lF' lN'
  ktr_unf
  exact ret _ _ _ _ _ _ (by assumption) (by assumption) ho hA
end K
theorem rX:∀ v,rZ v:=ch1 (l:=PL.drop 15) B7 K.tree_c_m
theorem B6:Ch (PL.drop 15) oV:=ch2 (l:=PL.drop 15) B7 rX
theorem A0 {ws:List Value} {ts:List Str}:rY w p loose mean mg mb news dp un gd env outer A₀ base h₀ L m s Q E H ws c ts:=(rW w p loose mean mg mb news dp un gd env outer A₀ base h₀ L m s Q E H ws c ts).2 fun g' L' h'=>rX { oV with w,p,loose,mean,mg,mb,news,dp,un,gd,env,outer,A₀,base,h₀,L,m,s,Q,E,q4:=H,q9:=ws,q8:=c,q31:=ts,q27:=g',q3:=L',q28:=h' }
end
section
theorem kw_A2b_0:True:=by
 w_top off
 k_with "unf" => repeat' k_extra "5"
 trivial
namespace K
theorem fspath_same_m:iy w p loose mean mg mb news dp un gd env outer A₀ base h₀ L m s Q E x t g' L' h':=by
 intro B F N T hf hk hd hu ret X
 revert X;k_fill;intro X
 k_dflt k_extra "k"
 ktr_unf
 all_goals (refine ret _ _ ?ra ?rb;(case ra=>k_asm);(case rb=>first | k_asm | (refine' cb_drop ?rx ?ry;(case rx=>assumption);(case ry=>kcj_all))))
end K
theorem kg:∀ v,ki v:=ch1 (l:=PL.drop 16) B6 K.fspath_same_m
theorem B5:Ch (PL.drop 16) oV:=ch2 (l:=PL.drop 16) B6 kg
theorem ui:kh w p loose mean mg mb news dp un gd env outer A₀ base h₀ L m s Q E x t:=(j7 w p loose mean mg mb news dp un gd env outer A₀ base h₀ L m s Q E x t).2 fun g' L' h'=>kg { oV with w,p,loose,mean,mg,mb,news,dp,un,gd,env,outer,A₀,base,h₀,L,m,s,Q,E,q12:=x,q26:=t,q27:=g',q3:=L',q28:=h' }
end
section
open PyProof.Rows.LCg
section
variable {prog:Program} {w:World} {A:Around} {E:Value→Shared→Prop} {s:Shared} {h₀:Heap} {L:Addr} {m:Str→Option Value} {env:Env}
noncomputable abbrev gG (w:World):Obj:={ cls := .type "set",dict:=none,data := .set #[] 0 (.fresh 0 0 (!dK w)) }
theorem y0 (led:Bool):layNew (.fresh 0 0 led) #[] 1 (.bool true)=(#[(1,.bool true)],vt led,false,false):=by cases led <;> decide +kernel
theorem hM (b:Bool):s.TypeIs (.bool b) "bool" := by rfl
theorem rj {Q:Int→Shared→Prop} (h:Q 1 { s with toks:=s.toks+1 }):wpAny (model prog w) A (pyHash (.bool true)) Q E s:=by
 show wpAny _ A (pyHashByItsType (.bool true)) _ _ _
 unfold pyHashByItsType
 have hv:[Value.bool true].any Value.onHeap=false:=rfl
 refine wpAny_bind ?_
 rw [cRoomFor,if_neg (by rw [hv];exact Bool.false_ne_true)];refine wpAny_pure ?_
 k_extra "fa"
 show wpAny _ _ (if (some (Value.builtin "int.__hash__") == some Value.none)=true then _ else _) Q E s
 rw [if_neg (by rw [beq_builtin_none];exact Bool.false_ne_true)]
 k_extra "fa"
 show wpAny _ _ (callSpecialIfBoundUnlessNone? (.bool true) "__hash__" _ >>= _) Q E s
 refine wpAny_bind (wpAny_callSpecialIfBoundUnlessNone?_slot (hM true) PySem.F.slot_bool_hash
  (wpAny_call_entry PySem.F.slot_bool_hash (hM true) entry_int_hash
   (show wpAny _ _ (do ret (← mkInt (rawHash 1))) _ _ s from wpAny_ret_mkInt ?_) (args_int_hash _)))
 exact wpAny_pure h
theorem ym {S:Addr} {Q:Value→Shared→Prop} (ho:s.heap.get? S=some (gG w)) (h:∀ h' tk,Heap.SameBut S s.heap h'→h'.get? S=some (dN w)→Q .none { s with heap:=h',toks:=tk }) :
 wpAny (model prog w) A (call (.builtin "set.add") [.ref S,.bool true]) Q E s:=by
 k_extra "eb"
 k_extra "eh"
 unfold Builtin.«set.add» Builtin.Frozenset.oneOther
 simp only [List.isEmpty_nil,bind_assoc]
 unfold Builtin.Frozenset.addrOf setAdd
 k_extra "cc"
 try dsimp only
 k_extra "cc"
 try dsimp only
 refine wpAny_bind ?_
 refine wpAny_holding ?_
 refine wpAny_bind (rj ?_)
 unfold setAddHashed setAddHashedIn
 refine wpAny_holding ?_
 k_extra "ev"
 try dsimp only
 rw [if_pos (by decide +kernel)]
 unfold setAddByScan
 refine wpAny_bind (wpAny_bind (wpAny_rule ?_))
 refine wpAny_bind (show wpAny _ _ (setScan S (.bool true) 1 true #[]) _ _ _ from wpAny_pure ?_)
 try dsimp only
 rw [y0]
 refine wpAny_bind (show wpAny _ _ (pure ():Sem Unit) _ _ _ from wpAny_pure ?_)
 show wpAny _ _ (if true=true then _ else _) _ _ _
 rw [if_pos rfl]
 refine wpAny_bind (show wpAny _ _ (pure true:Sem Bool) _ _ _ from wpAny_pure ?_)
 try dsimp only
 rw [if_pos rfl]
 have tf:((!false) && (vt (!dK w)).tooFull)=false:=by cases dK w <;> decide +kernel
 refine wpAny_bind (wpAny_storeSet_of (s:={ s with toks:=s.toks+1 }) ho rfl ?_ (by rw [sizeLine_eq];exact Nat.le_add_left 1 _))
 try dsimp only
 rw [tf]
 k_extra "gc"
 refine wpAny_pure ?_
 try dsimp only
 refine wpAny_pure ?_
 show wpAny _ _ (ret Value.none) _ _ _
 refine wpAny_pure ⟨_,rfl,h _ _ (Heap.SameBut.update ..) ?_⟩
 rw [Heap.get?_update_self _ ho rfl]
 rfl
end
namespace K
theorem add_true1_m:np w s Q E prog A S:=by
 intro ho h
 k_extra "eb"
 k_extra "eh"
 unfold Builtin.«set.add» Builtin.Frozenset.oneOther
 simp only [List.isEmpty_nil,bind_assoc]
 unfold Builtin.Frozenset.addrOf setAdd
 k_extra "cc"
 try dsimp only
 k_extra "cc"
 try dsimp only
 refine wpAny_bind ?_
 refine wpAny_holding ?_
 refine wpAny_bind (rj ?_)
 unfold setAddHashed setAddHashedIn
 refine wpAny_holding ?_
 k_extra "ev"
 try dsimp only
 rw [if_pos (by decide +kernel)]
 unfold setAddByScan
 refine wpAny_bind (wpAny_bind (wpAny_rule ?_))
 refine wpAny_bind ?_
 show wpAny _ _ (setScanFrom S (.bool true) 1 true [(1,.bool true)] 0) _ _ _
 unfold setScanFrom
 rw [if_pos (by decide)]
 refine wpAny_bind (wpAny_setEpoch_of (s:={ s with toks:=s.toks+1 }) ho rfl (by rfl) ?_)
 refine wpAny_bind (m:=eqBool (.bool true) (.bool true)) ?_
 unfold eqBool
 refine wpAny_holding ?_
 rw [if_pos (by decide)]
 refine wpAny_bind (wpAny_rule (wpAny_pure ?_))
 rw [if_pos rfl]
 refine wpAny_pure ?_
 try dsimp only
 refine wpAny_pure (wpAny_pure ?_)
 show wpAny _ _ (ret Value.none) _ _ _
 exact wpAny_pure ⟨_,rfl,h _⟩
end K
section
variable {prog:Program} {w:World} {A:Around} {E:Value→Shared→Prop} {s:Shared} {h₀:Heap} {L:Addr} {m:Str→Option Value} {env:Env}
theorem nl:∀ v,nq v:=ch1 (l:=PL.drop 17) B5 K.add_true1_m
theorem B4:Ch (PL.drop 17) oV:=ch2 (l:=PL.drop 17) B5 nl
theorem yl {S:Addr} {Q:Value→Shared→Prop} (ho:s.heap.get? S=some (dN w)) (h:∀ tk,Q .none { s with toks:=tk }) :
 wpAny (model prog w) A (call (.builtin "set.add") [.ref S,.bool true]) Q E s:=nl { oV with w,s,Q,E,q1:=prog,q2:=A,q3:=S } ho h
theorem qi:entryFor table "set.__iter__" = some Builtin.«frozenset.__iter__» :=
 entryFor_alias (id' := "frozenset.__iter__") (by rw [fastTable_eq_tree];kernel_rfl) (by first | rfl | decide +kernel | (unfold String.splitOn;simp +decide [String.splitOnAux])) (by decide +kernel) (by rw [fastTable_eq_tree];kernel_rfl)
theorem dZ:Slot "set_iterator" "__next__" "set_iterator.__next__" :=
 .of (owner := "set_iterator") (n := "__next__") (by rw [typeLookup_type,builtinLookup_eq_fast];kernel_rfl) (by decide +kernel) (by decide +kernel) (by decide +kernel)
  (by first | exact .inl (by decide +kernel) | exact .inr (by decide +kernel)) (by rw [isSubtype_type];kernel_rfl)
theorem kj:entryFor table "set_iterator.__next__" = some Builtin.«set_iterator.__next__» := entryFor_of_tree (by kernel_rfl)
theorem lV (a:Value):argsOk "set_iterator.__next__" ⟨[a],[]⟩:=by unfold argsOk;kernel_rfl
theorem xz {S:Addr} {Q:Value→Shared→Prop} (ho:s.heap.get? S=some (dN w)) (h:Q (.ref s.heap.objs.size) { s with heap:=s.heap.push (jl S 0 0) }) :
 wpAny (model prog w) A (pyIter (.ref S)) Q E s:=by
 k_extra "eb"
 refine wpAny_pyIter_slot hT PySem.F.slot_set_iter (wpAny_call_entry PySem.F.slot_set_iter hT qi ?_ (PySem.F.args_set_iter_1 _))
 show wpAny _ _ (Builtin.«frozenset.__iter__» ⟨[.ref S],[]⟩) _ _ s
 unfold Builtin.«frozenset.__iter__»
 refine wpAny_bind (show wpAny _ _ (pure S:Sem Addr) _ _ _ from wpAny_pure ?_)
 unfold Builtin.Frozenset.sizeOf
 refine wpAny_bind (wpAny_bind (wpAny_setEntries_of ho rfl (by rfl) (wpAny_pure ?_)))
 unfold setDrawn
 refine wpAny_bind (wpAny_bind (wpAny_setState_of ho rfl (by rfl) ?_))
 try dsimp only
 unfold setsByText
 k_extra "dl"
 refine wpAny_pure ?_
 try dsimp only
 split
 · rename_i hh
   exact absurd (show false=true from (Bool.and_eq_true_iff.mp hh).2) Bool.false_ne_true
 k_extra "cc"
 refine wpAny_bind (wpAny_setEpoch_of ho rfl (by rfl) ?_)
 unfold newFields
 refine wpAny_bind ?_
 refine wpAny_newObj_type ?_
 exact wpAny_pure ⟨_,rfl,"set_iterator",_,⟨_,Heap.get?_push_size _ rfl,rfl⟩,dZ.lookup,h⟩
theorem Cz {α:Type} (f:Nat→Nat) (x : α):pickOrder f #[x] = #[x]:=by
 show pickOrder.go f 1 0 [x] #[]=_
 unfold pickOrder.go
 have e:f 0 % [x].length=0:=Nat.mod_one _
 rw [e]
 rfl
theorem wJ {S:Addr} {Q:Array (Int × Value)→Shared→Prop} (ho:s.heap.get? S=some (dN w)) (h:Q #[(1,.bool true)] s):wpAny (model prog w) A (setWalk S) Q E s:=by
 unfold setWalk
 refine wpAny_bind (wpAny_setState_of ho rfl (by rfl) ?_)
 try dsimp only
 unfold setsByText
 k_extra "dl"
 split
 · refine wpAny_bind (wpAny_askSetting ?_)
   rw [Cz]
   exact wpAny_pure h
 · split
   · rename_i hh
     exact absurd (show false=true from hh) Bool.false_ne_true
   · refine wpAny_bind ?_
     show wpAny _ _ (if (!(vt (!dK w)).led && false)=true then _ else pure ()) _ _ _
     rw [if_neg (by rw [Bool.and_false];exact Bool.false_ne_true)]
     exact wpAny_pure (wpAny_pure h)
theorem mz {S:Addr} {k g:Nat} {r:Option (Value × Nat)} {Q:Option (Value × Nat)→Shared→Prop} (ho:s.heap.get? S=some (dN w))
 (h1:dK w=true→(#[((1:Int),Value.bool true)]:Array (Int × Value))[g]?.map (fun e=>(e.2,k))=r)
 (h2:dK w=false→(match (#[((1:Int),Value.bool true)]:Array (Int × Value))[SetTable.below #[1] k]?,(#[1]:Array Nat)[SetTable.below #[1] k]? with | some (_,x),some j=>some (x,j+1) | _,_=>none)=r)
 (h:Q r s):wpAny (model prog w) A (setNext S k g 1) Q E s:=by
 unfold setNext
 refine wpAny_bind (wpAny_setState_of ho rfl (by rfl) ?_)
 try dsimp only
 unfold setsByText
 k_extra "dl"
 cases hb:dK w with
 | true =>
  show wpAny _ _ (if dK w=true then _ else _) _ _ _
  rw [if_pos hb]
  rw [if_neg (by decide)]
  refine wpAny_bind (wJ ho (wpAny_pure ?_))
  rw [h1 hb];exact h
 | false =>
  show wpAny _ _ (if dK w=true then _ else _) _ _ _
  rw [if_neg (by rw [hb];exact Bool.false_ne_true)]
  split
  · rename_i hh
    exact absurd (show false=true from hh) Bool.false_ne_true
  · refine wpAny_bind ?_
    show wpAny _ _ (if false=true then _ else pure ()) _ _ _
    k_extra "gc"
    refine wpAny_pure (wpAny_pure ?_)
    rw [← h2 hb] at h
    exact h
theorem yG {S:Addr} {Q:Option (Value × Nat)→Shared→Prop} (ho:s.heap.get? S=some (dN w)) (h:Q (some (.bool true,if dK w then 0 else 2)) s):wpAny (model prog w) A (setNext S 0 0 1) Q E s:=by
 refine mz ho (fun hb => ?_) (fun hb => ?_) h
 · rw [if_pos hb];rfl
 · rw [if_neg (by rw [hb];exact Bool.false_ne_true)];rfl
theorem yF {S:Addr} {k:Nat} {Q:Option (Value × Nat)→Shared→Prop} (hk:dK w=false→k=2) (ho:s.heap.get? S=some (dN w)) (h:Q none s):wpAny (model prog w) A (setNext S k 1 1) Q E s:=by
 refine mz ho (fun hb=>rfl) (fun hb => ?_) h
 rw [hk hb];rfl
theorem rB {I S:Addr} {Q:Option Value→Shared→Prop} (hi:s.heap.get? I=some (jl S 0 0)) (ho:s.heap.get? S=some (dN w)) (hIS:S≠I)
 (h:∀ h' k,Heap.SameBut I s.heap h'→h'.get? I=some (jl S k 1)→(dK w=false→k=2)→Q (some (.bool true)) { s with heap:=h' }):wpAny (model prog w) A (pyNext (.ref I)) Q E s:=by
 have hT:s.TypeIs (.ref I) "set_iterator" := ⟨_,hi,rfl⟩
 unfold pyNext
 refine wpAny_bind (wpAny_attempt (wpAny_callSpecial?_slot (name:=Str.ofString "__next__") hT dZ
  (wpAny_call_entry dZ hT kj ?_ (lV _))))
 unfold Builtin.«set_iterator.__next__»
 k_extra "d4"
 refine wpAny_bind (wpAny_fieldsOf hi rfl ?_)
 try dsimp only
 refine wpAny_bind (wpAny_setEntries_of ho rfl (by rfl) ?_)
 rw [if_neg (by decide)]
 try dsimp only
 refine wpAny_bind (yG ho ?_)
 try dsimp only
 refine wpAny_bind (wpAny_setField_rec hi (by simp) fun h1 e1 b1 => ?_)
 refine wpAny_bind (wpAny_setField_rec e1 (by simp) fun h2 e2 b2 => ?_)
 refine wpAny_pure ⟨_,rfl,wpAny_pure (h h2 (if dK w then 0 else 2) (b1.trans b2) e2 ?_)⟩
 intro hb
 rw [if_neg (by rw [hb];exact Bool.false_ne_true)]
end
namespace K
namespace V7
theorem next_set_end_m:i0 w s E prog A I S k Q:=by
 intro hh hi hk ho hIS h
 have hT:s.TypeIs (.ref I) "set_iterator" := ⟨_,hi,rfl⟩
 unfold pyNext
 refine wpAny_bind (wpAny_attempt (wpAny_callSpecial?_slot (name:=Str.ofString "__next__") hT dZ
  (wpAny_call_entry dZ hT kj ?_ (lV _))))
 unfold Builtin.«set_iterator.__next__»
 k_extra "d4"
 refine wpAny_bind (wpAny_fieldsOf hi rfl ?_)
 try dsimp only
 refine wpAny_bind (wpAny_setEntries_of ho rfl (by rfl) ?_)
 rw [if_neg (by decide)]
 try dsimp only
 refine wpAny_bind (yF hk ho ?_)
 try dsimp only
 refine wpAny_bind (wpAny_setField_rec hi (by simp) fun h1 e1 b1 => ?_)
 show wpAny _ _ (newExc (.type "StopIteration") [] >>= _) _ _ _
 refine wpAny_bind ?_
 simp only [newExc,newTuple]
 refine wpAny_bind (wpAny_newObj_type ?_ (by size_fits))
 k_extra "dk"
 refine wpAny_newObj_type ?_ (by size_fits)
 simp only [raiseNew]
 refine wpAny_bind (wpAny_handled ?_)
 first | rw [show A.in1.handled=none from hh] | rw [hh]
 refine wpAny_bind (wpAny_pure (wpAny_throw ?_))
 refine wpAny_bind (wpAny_isInstance (T := "StopIteration") (b:=true) ⟨_,Heap.get?_push_size _ rfl,rfl⟩ isSubtype_stop ?_)
 exact wpAny_pure (h _ ((b1.extBut.push _).push _))
end V7
end K
section
variable {prog:Program} {w:World} {A:Around} {E:Value→Shared→Prop} {s:Shared} {h₀:Heap} {L:Addr} {m:Str→Option Value} {env:Env}
theorem iZ:∀ v,i3 v:=ch1 (l:=PL.drop 18) B4 K.V7.next_set_end_m
theorem B3:Ch (PL.drop 18) oV:=ch2 (l:=PL.drop 18) B4 iZ
theorem sI {I S:Addr} {k:Nat} {Q:Option Value→Shared→Prop} (hh:A.handled=none) (hi:s.heap.get? I=some (jl S k 1)) (hk:dK w=false→k=2) (ho:s.heap.get? S=some (dN w)) (hIS:S≠I)
 (h:∀ h',Heap.ExtBut I s.heap h'→Q none { s with heap:=h' }):wpAny (model prog w) A (pyNext (.ref I)) Q E s:=iZ { oV with w,s,E,q1:=prog,q2:=A,q5:=I,q3:=S,q23:=k,q33:=Q } hh hi hk ho hIS h
end
namespace K
namespace V8
theorem unpack_set1_m:jG w s E prog A S t Q:=by
 intro hh ho h
 unfold unpack
 k_extra "ex"
 k_extra "eb"
 have hne:S≠s.heap.objs.size:=Nat.ne_of_lt (Heap.lt_size ho)
 unfold unpackItems
 refine wpAny_bind ?_
 unfold notIterableAtAll
 refine wpAny_bind (wpAny_specialOf hT PySem.F.slot_set_iter.lookup ?_)
 refine wpAny_pure ?_
 simp only [Bool.false_eq_true,if_false]
 refine wpAny_bind (wpAny_holding (xz ho ?_))
 have e0:(s.heap.push (jl S 0 0)).get? s.heap.objs.size=some (jl S 0 0):=Heap.get?_push_size _ rfl
 k_extra "ex"
 show wpAny _ _ (draw (.ref s.heap.objs.size) 1) _ _ _
 unfold draw
 refine wpAny_bind (rB e0 (Heap.get?_push_of_some _ ho) hne fun h1 k b1 e1 hk => ?_)
 try dsimp only
 k_extra "ex"
 show wpAny _ _ (pure []) _ _ _
 refine wpAny_pure (wpAny_pure ?_)
 rw [if_neg (by simp)]
 refine wpAny_bind (wpAny_holding (sI hh e1 hk (b1.extBut _ _ hne (Heap.get?_push_of_some _ ho)) hne fun h2 b2 => ?_))
 simp only [Option.isSome_none,Bool.false_eq_true,if_false]
 refine wpAny_pure (h h2 fun b o e => ?_)
 have hb:b≠s.heap.objs.size:=Nat.ne_of_lt (Heap.lt_size e)
 exact b2 _ _ hb (b1.extBut _ _ hb (Heap.get?_push_of_some _ e))
end V8
end K
section
variable {prog:Program} {w:World} {A:Around} {E:Value→Shared→Prop} {s:Shared} {h₀:Heap} {L:Addr} {m:Str→Option Value} {env:Env}
theorem jF:∀ v,jH v:=ch1 (l:=PL.drop 19) B3 K.V8.unpack_set1_m
theorem B2:Ch (PL.drop 19) oV:=ch2 (l:=PL.drop 19) B3 jF
theorem tY {S:Addr} {t:Value→Sem Unit} {Q:Unit→Shared→Prop} (hh:A.handled=none) (ho:s.heap.get? S=some (dN w))
 (h:∀ h',(∀ b o,s.heap.get? b=some o→h'.get? b=some o)→wpAny (model prog w) A (assignInOrder [t] [.bool true]) Q E { s with heap:=h' }):wpAny (model prog w) A (unpack (.ref S) [(false,t)]) Q E s:=jF { oV with w,s,E,q1:=prog,q2:=A,q3:=S,q34:=t,q35:=Q } hh ho h
end
end
section
open PyProof.Rows.LCg
section
variable {prog:Program} {w:World} {A:Around} {E:Value→Shared→Prop} {R:Result→Shared→Prop} {s:Shared} {h₀:Heap} {L:Addr} {m:Str→Option Value} {env:Env}
theorem ja {elt target iter ifs rest scope pos it acc env}
 (h0:codeAny (model prog w) A (.compLoop (.SetComp elt (⟨target,iter,ifs,0⟩::rest) scope pos) 0 it acc env) R s)
 (h:wpAny (model prog w) A (pyIter it) (fun it' s'=>codeAny (model prog w) A (.compLoop (.SetComp elt (⟨target,iter,ifs,0⟩::rest) scope pos) 0 it' acc env) R s')
  (notedBy (model prog w) A env fun x s'=>R (.error x) s') s) :
 codeAny (model prog w) A (.compStart (.SetComp elt (⟨target,iter,ifs,0⟩::rest) scope pos) 0 it acc env) R s:=by
 refine codeAny_of_tree ?_
 show wpAny _ _ ((compStart (.SetComp elt (⟨target,iter,ifs,0⟩::rest) scope pos) 0 it acc env).onRaise (fun x=>do noteFrame x env;standAt theWindowsPlace)) _ _ s
 refine wpAny_notedAt ?_
 unfold compStart
 show wpAny _ _ (ask >>= _) _ _ s
 refine wpAny_bind (wpAny_askSetting (wpAny_ite ?_))
 split
 · first
    | exact wpAny_bind (wpAny_pure (wpAny_pure (And.intro rfl h0)))
    | exact wpAny_pure (And.intro rfl h0)
 · first
    | exact wpAny_bind (wpAny_rule (wpAny_bind (wpAny_standAt (wpAny_bind (wpAny_mono h (fun it' s' h'=>wpAny_pure (And.intro rfl h')) fun _ _ x=>x)))))
    | (refine wpAny_bind (wpAny_rule ?_);show wpAny _ _ (standAt iter.pos >>= _) _ _ s;exact wpAny_bind (wpAny_standAt (wpAny_bind (wpAny_mono h (fun it' s' h'=>wpAny_pure (And.intro rfl h')) fun _ _ x=>x))))
theorem rI (elt target iter:Expr) (scope:Scope) (pos:Pos) (it acc:Value) (env:Env) :
 compTurn (.SetComp elt [⟨target,iter,[],0⟩] scope pos) 0 it acc env=(standAt iter.pos >>= fun _=>pyNext it >>= fun r=>match r with
  | none=>pure (.done .next)
  | some v=>letOwnedTupleGo target it v >>= fun _=>assign target env v >>= fun _ =>
   (eval elt env >>= fun x=>standAt elt.pos >>= fun _=>call (.builtin "set.add") [acc,x] >>= fun _=>pure ()) >>= fun _ =>
    again (.compLoop (.SetComp elt [⟨target,iter,[],0⟩] scope pos) 0 it acc env)):=by rfl
theorem jD {elt target iter:Expr} {scope:Scope} {pos:Pos} {it acc:Value} {env:Env} (I:Nat→Shared→Prop)
 (turn:∀ n s,I n s→wpAny (model prog w) A (pyNext it) (fun r s₁=>match r with
  | none=>R (.ok .next) s₁
  | some v=>wpAny (model prog w) A (assign target env v) (fun _ s₂=>wpAny (model prog w) A (eval elt env) (fun x s₃ =>
   wpAny (model prog w) A (call (.builtin "set.add") [acc,x]) (fun _ s₄ => ∃ m,m < n∧I m s₄) (notedBy (model prog w) A env fun e s'=>R (.error e) s') s₃)
   (notedBy (model prog w) A env fun e s'=>R (.error e) s') s₂) (notedBy (model prog w) A env fun e s'=>R (.error e) s') s₁) (notedBy (model prog w) A env fun e s'=>R (.error e) s') s)
 (n:Nat) (h:I n s) (ht:∀ v,letOwnedTupleGo target it v=pure ():=by intro _;rfl) :
 codeAny (model prog w) A (.compLoop (.SetComp elt [⟨target,iter,[],0⟩] scope pos) 0 it acc env) R s:=by
 refine codeAny_loop rfl I (fun n s hI => ?_) n h
 show wpAny _ _ ((compTurn (.SetComp elt [⟨target,iter,[],0⟩] scope pos) 0 it acc env).onRaise (fun x=>do noteFrame x env;theTreesLotGoes x)) _ _ s
 refine wpAny_noted ?_
 rw [rI]
 refine wpAny_bind (wpAny_standAt (wpAny_bind (wpAny_mono (turn n s hI) (fun r s₁ h₁ => ?_) fun _ _ h'=>h')))
 cases r with
 | none=>exact wpAny_pure h₁
 | some v =>
  refine wpAny_bind (wpAny_of_eq (ht v) ?_)
  exact wpAny_bind (wpAny_mono h₁ (fun _ s₂ h₂=>wpAny_bind (wpAny_bind (wpAny_mono h₂ (fun x s₃ h₃=>wpAny_bind (wpAny_standAt (wpAny_bind (wpAny_mono h₃
   (fun _ s₄ h₄=>wpAny_pure (wpAny_pure ⟨rfl,h₄⟩)) fun _ _ h'=>h')))) fun _ _ h'=>h'))) fun _ _ h'=>h')
end
namespace K
namespace V4
theorem set_block_m:iP w news env h₀ L m s E prog A elt iter x px scope cl pos I fp n P St RR:=by
 intro W hn hIo hSt hcell hkind hx hst hfp F N hIL hI₀ off turn hRR
 have hDn:∀ p∈news,p.1 < s.heap.objs.size:=fun p hp=>Heap.lt_size (N p hp).1
 have hLlt:L < s.heap.objs.size:=F.ns.lt
 have hD₀:h₀.get? s.heap.objs.size=none:=next_is_new F
 have hset:∀ Q':Value→Shared→Prop,Q' (.ref s.heap.objs.size) { s with heap:=s.heap.push (gG w) }→wpAny (model prog w) A (newSet (.type "set")) Q' E s:=by
  intro Q' hq
  unfold newSet setsByText
  k_extra "dl"
  dsimp only
  simp only [newObj]
  exact wpAny_bind (wpAny_alloc (wpAny_pure hq))
 refine hset _ ?_
 refine wpAny_newFunctionEnv hcell (by intro y hy;simp at hy) (fun h₁ hns₁ hsb₁ => ?_) hkind
 dsimp only at hns₁ hsb₁ ⊢
 have hCs:(s.heap.push (gG w)).objs.size=s.heap.objs.size+1:=Heap.size_push ..
 generalize hC:(s.heap.push (gG w)).objs.size=C at hns₁ hsb₁ hCs ⊢
 have hCD:C≠s.heap.objs.size:=by rw [hCs];exact Nat.ne_of_gt (Nat.lt_succ_self _)
 have F₀:=F.push (gG w)
 have N₀:=News.push F N (gG w)
 have hC₀:h₀.get? C=none:=by rw [← hC];exact next_is_new F₀
 have hCL:C≠L:=by rw [hCs];exact Nat.ne_of_gt (Nat.lt_succ_of_lt hLlt)
 have old:∀ b o,b≠C→(s.heap.push (gG w)).get? b=some o→h₁.get? b=some o:=fun b o hb e=>hsb₁.extBut b o hb (Heap.get?_push_of_some _ e)
 have hnC:∀ p∈(s.heap.objs.size,gG w)::news,p.1≠C:=fun p hp=>Nat.ne_of_lt (by rw [← hC];exact Heap.lt_size (N₀ p hp).1)
 have F₁:Fr h₀ L h₁ m:=⟨F₀.ns.at' fun o e=>old L o (Ne.symm hCL) e,fun b o e=>old b o (fun q=>by rw [q,hC₀] at e;cases e) (F₀.keep b o e),F₀.above⟩
 have N₁:News h₀ L h₁ ((s.heap.objs.size,gG w)::news):=fun p hp=>⟨old _ _ (hnC p hp) (N₀ p hp).1,(N₀ p hp).2⟩
 have hIf:I∈fp:=W.sub I (List.mem_singleton.mpr rfl)
 have hIlt:I < s.heap.objs.size:=hfp I hIf
 have hst₁:St 0 h₁:=W.frame _ _ _ hst fun b hb o e=>old b o (fun q=>by have:=hfp b hb;rw [q,hCs] at this;exact absurd this (Nat.not_lt.mpr (Nat.le_succ _))) (Heap.get?_push_of_some _ e)
 have hDf:s.heap.objs.size ∉ fp:=fun hm=>Nat.lt_irrefl _ (hfp _ hm)
 have hCf:C ∉ fp:=fun hm=>by have:=hfp _ hm;rw [hCs] at this;exact absurd this (Nat.not_lt.mpr (Nat.le_succ _))
 have hCI:C≠I:=fun e=>hCf (e ▸ hIf)
 have hDI:s.heap.objs.size≠I:=fun e=>hDf (e ▸ hIf)
 have loop:∀ s₃:Shared,s₃={ s with heap:=h₁,toks:=s.toks+([]:List (Str × Value)).length } →
  codeAny (model prog w) A (.compLoop (.SetComp elt [⟨.Name x px,iter,[],0⟩] scope pos) 0 (.ref I) (.ref s.heap.objs.size) (compEnvC scope cl C env)) (RR (.ref s.heap.objs.size) C) s₃:=by
  rintro s₃ rfl
  refine jD
   (fun k s' => ∃ h' tk i m',s'={ s with heap:=h',toks:=tk }∧i≤n∧k=n+1 - i∧St i h'∧Fr h₀ L h' m∧h'.Ns C m'∧News h₀ L h' ((s.heap.objs.size,if i=0 then gG w else dN w)::news)) ?_ (n+1)
   ⟨h₁,_,0,_,rfl,Nat.zero_le _,rfl,hst₁,F₁,hns₁,N₁⟩
  intro k s' hr1q
  refine CO (hr1q) ?_
  (try clear hr1q);rintro h' tk i m' rfl hi rfl hst' F' hn' N'
  by_cases hlt:i < n
  · refine W.item i _ _ _ hlt hst' fun v h₂ tk₂ hPv hst₂ hk₂ => ?_
    have F₂:Fr h₀ L h₂ m:=fr_but F' hk₂ hIL hI₀
    have N₂:=news_but N' hk₂ (fun p hp=>by
     k_extra "ax"
     · exact hDI
     · exact off p hp)
    refine wpAny_assign_Name (wpAny_storeName_local (lookup_relabel_local hx) (hn'.at' fun o e=>hk₂ _ o (by simpa using hCI) e) (fun h₃ hn₃ hs₃ => ?_) (by simp [compEnvC,relabel,hkind]))
    have hst₃:St (i+1) h₃:=W.frame _ _ _ hst₂ fun b hb o e=>hs₃.extBut b o (fun q=>hCf (by have q':b=C:=q;rw [← q'];exact hb)) e
    refine bA (hIo _ _ hst₃) ?_
    intro oI heI
    refine aE (ns_obj hn₃) ?_
    intro oC heC hoC
    have F₃:Fr h₀ L h₃ m:=F₂.change hs₃ hCL hC₀
    have N₃:News h₀ L h₃ ((I,oI)::(C,oC)::(s.heap.objs.size,if i=0 then gG w else dN w)::news):=fun p hp=>by
     k_extra "ax"
     · exact ⟨heI,Ne.symm hIL,hI₀⟩
     · k_extra "ax"
       · exact ⟨heC,hCL,hC₀⟩
       · refine ⟨hs₃.extBut _ _ ?_ (N₂ p hp).1,(N₂ p hp).2⟩
         k_extra "ax"
         · exact Ne.symm hCD
         · exact hnC p (.tail _ hp)
    refine wpAny_mono (turn i v I oI C oC s.heap.objs.size _ _ h₃ _ _ hlt hPv hoC (by simp) F₃ N₃) (fun y s₄ h₄ => ?_) fun _ _ e=>e
    obtain ⟨rfl,h₄',tk₄,rfl,F₄,N₄⟩:=h₄
    have zD:=(N₄ _ (.tail _ (.tail _ (.head _)))).1
    have zI:=(N₄ _ (.head _)).1
    have zC:=(N₄ _ (.tail _ (.head _))).1
    have N₄':News h₀ L h₄' news:=fun p hp=>N₄ p (.tail _ (.tail _ (.tail _ hp)))
    have hst₄:St (i+1) h₄':=hSt _ _ _ _ hst₃ heI zI N₄'
    have fin:∀ h₅ tk₅,Heap.SameBut s.heap.objs.size h₄' h₅→h₅.get? s.heap.objs.size=some (dN w) → ∃ mm,mm < n+1 - i ∧ ∃ h' tk i m',({ s with heap:=h₅,toks:=tk₅ }:Shared)={ s with heap:=h',toks:=tk }∧i≤n∧mm=n+1 - i∧St i h'∧Fr h₀ L h' m∧h'.Ns C m'∧News h₀ L h' ((s.heap.objs.size,if i=0 then gG w else dN w)::news):=by
     intro h₅ tk₅ hs₅ e₅
     refine ⟨n+1 - (i+1),by (exact zal [_,_,_,_] 1 qB qA [(1,zu qC,zp qA qD),(1,zp qB (zu qD),zu qC)] rfl (zs2 _ _) (zs3 (zae [_,_] 1 (zu qB) (zu qA) [(1,zu qB,qA)] rfl hlt))),h₅,tk₅,i+1,_,rfl,hlt,rfl,W.frame _ _ _ hst₄ fun b hb o e=>hs₅.extBut b o (fun q=>hDf (q ▸ hb)) e,F₄.change hs₅ (Nat.ne_of_gt hLlt) hD₀,(hoC.ns zC).sameBut hs₅ hCD,fun p hp => ?_⟩
     k_extra "ax"
     · exact ⟨by rw [if_neg (Nat.succ_ne_zero i)];exact e₅,Nat.ne_of_gt hLlt,hD₀⟩
     · exact ⟨hs₅.extBut _ _ (Nat.ne_of_lt (hDn p hp)) (N₄' p hp).1,(N₄' p hp).2⟩
    by_cases hi0:i=0
    · rw [if_pos hi0] at zD
      exact ym zD fun h₅ tk₅ hs₅ e₅=>fin h₅ tk₅ hs₅ e₅
    · rw [if_neg hi0] at zD
      exact yl zD fun tk₅=>fin h₄' tk₅ (.refl ..) zD
  · obtain rfl:i=n:=Nat.le_antisymm hi (Nat.not_lt.mp hlt)
    refine W.done _ _ _ hst' fun h₂ tk₂ hk₂ => ?_
    rw [if_neg (Nat.ne_of_gt hn)] at N'
    exact hRR _ _ h₂ tk₂ _ (fr_but F' hk₂ hIL hI₀) (news_but N' hk₂ fun p hp=>by
     k_extra "ax"
     · exact hDI
     · exact off p hp) hDn (hn'.at' fun o e=>hk₂ _ o (by simpa using hCI) e) hC₀ hCL hCD (fun p hp=>hnC p (.tail _ hp))
 exact ja (loop _ rfl) (W.self 0 _ _ _ hst₁ (loop _ rfl))
end V4
end K
theorem mx:∀ v,my v:=ch1 (l:=PL.drop 20) B2 K.V4.set_block_m
theorem B0:Ch (PL.drop 20) oV:=ch2 (l:=PL.drop 20) B2 mx
theorem wI {prog:Program} {elt:Expr} {iter:Expr} {px:Pos} {scope:Scope} {cl:List (Str × Addr)} {pos:Pos} {fp:List Addr} {St:Nat→Heap→Prop} {RR:Value→Addr→Result→Shared→Prop}:iP w news env h₀ L m s E prog A elt iter x px scope cl pos I fp n P St RR:=mx { oV with w,news,env,h₀,L,m,s,E,q1:=prog,q2:=A,q10:=elt,q11:=iter,q12:=x,q14:=px,q16:=scope,q17:=cl,q18:=pos,q5:=I,q36:=fp,q23:=n,q37:=P,q38:=St,q39:=RR }
section
variable {prog:Program} {w:World} {A:Around} {E:Value→Shared→Prop} {R:Result→Shared→Prop} {s:Shared} {h₀:Heap} {L:Addr} {m:Str→Option Value} {env:Env}
noncomputable def AT (prog:Program) (w:World) (A:Around) (h₀:Heap) (L:Addr) (m:Str→Option Value) (env:Env) (elt:Expr) (x:Str) (scope:Scope) (cl:List (Str × Addr)) (s:Shared) (news:List (Addr × Obj)) (v:Value):Prop :=
 ∀ I' oI C oC D oD m₂ h tk (E':Value→Shared→Prop),NsObj oC m₂→m₂ x=some v→Fr h₀ L h m→News h₀ L h ((I',oI)::(C,oC)::(D,oD)::news) →
  wpAny (model prog w) A (eval elt (compEnvC scope cl C env)) (fun y s'=>y = .bool true ∧ ∃ h' tk',s'={ s with heap:=h',toks:=tk' }∧Fr h₀ L h' m∧News h₀ L h' ((I',oI)::(C,oC)::(D,oD)::news)) E' { s with heap:=h,toks:=tk }
theorem rJ {elt iter:Expr} {x:Str} {px:Pos} {scope:Scope} {cl:List (Str × Addr)} {pos:Pos} {Q:Value→Shared→Prop} (_F₀:Fr h₀ L s.heap m)
 (hclos:closureFor scope env=pure cl) (hcell:∀ y∈scope.names,y.2 ≠ .cell) (hkind:scope.kind = .function)
 (hnames:∀ y∈scope.names,y.2 = .local→scope.names.lookup y.1=some .local) (hx:scope.names.lookup x=some .local)
 (h:wpAny (model prog w) A (eval iter env) (fun xv s₁ => ∃ ax its k news,xv = .ref ax∧A.handled=none∧Fr h₀ L s₁.heap m∧News h₀ L s₁.heap news∧(ax,({ cls := .type "tuple",data := .seq its k }:Obj))∈news∧0 < its.size ∧
  (∀ v∈its,AT prog w A h₀ L m env elt x scope cl s₁ news v) ∧ ∀ D h tk,Fr h₀ L h m→News h₀ L h ((D,dN w)::news)→(∀ p∈news,p.1 < D)→Q (.ref D) { s₁ with heap:=h,toks:=tk }) E s)
 (hs:∀ x,foldedSetIterable iter env x=pure x:=by intro _;rfl) :
 wpAny (model prog w) A (eval (.SetComp elt [⟨.Name x px,iter,[],0⟩] scope pos) env) Q E s:=by
 show wpAny _ A (comprehension (.SetComp elt [⟨.Name x px,iter,[],0⟩] scope pos) scope env _ (newSet (.type "set")) false (eval iter env)) _ _ s
 k_extra "dr"
 refine CN (h₁) ?_
 (try clear h₁);rintro ax its k news rfl hh F N hm h0 turn fin
 have hl:s₁.heap.IsTuple ax its:=⟨_,(N _ hm).1,rfl,_,rfl⟩
 k_extra "eu"
 k_extra "b6"
 refine wpAny_pyIter_tuple hl ?_
 refine wI (Walks.tuple hh s₁.heap.objs.size ax (Nat.ne_of_lt hlt) its) h0 (fun i h st=>by obtain ⟨o,e,_⟩:=st.1;exact ⟨o,e⟩) ?_ hcell hkind hx ⟨⟨_,Heap.get?_push_size _ rfl,rfl,rfl⟩,hl.at (up _)⟩ (fun b hb => ?_)
  (F.keeps up) (N.grown up) (Nat.ne_of_lt F.ns.lt) (next_is_new F) (fun p hp=>Nat.ne_of_lt (Heap.lt_size (N p hp).1)) ?_ ?_
 · rintro i h h' o st e e' NN
   exact ⟨by obtain ⟨o',q,r⟩:=st.1;rw [e] at q;cases q;exact ⟨o,e',r⟩,⟨_,(NN _ hm).1,rfl,_,rfl⟩⟩
 · show b < (s₁.heap.push _).objs.size
   rw [Heap.size_push]
   k_extra "ej"
   · exact Nat.lt_succ_self _
   · k_extra "fd"
 · intro i v I' oI C oC D oD m₂ h tk E' hi hP hC hm2 F' N'
   exact turn v (Array.mem_of_getElem? hP) I' oI C oC D oD m₂ h tk E' hC hm2 F' N'
 · intro D C h tk m' F' N' hD hn hC₀ hCL hCD offC
   refine ⟨m',hn,fun h'' hs''=>fin D h'' tk (F'.change hs'' hCL hC₀) (fun p hp => ?_) hD⟩
   refine ⟨hs''.extBut _ _ ?_ (N' p hp).1,(N' p hp).2⟩
   k_extra "ax"
   · exact Ne.symm hCD
   · exact offC p hp
theorem xJ {elt:Expr} {x:Str} {scope:Scope} {cl:List (Str × Addr)} {Fin:Shared→List Value→List (Addr × Obj)→Prop} {ax:Addr} {its:Array Value} {k:Nat} {news:List (Addr × Obj)} {s₁:Shared}
 (hh:A.handled=none) (F:Fr h₀ L s₁.heap m) (N:News h₀ L s₁.heap news) (hm:(ax,({ cls := .type "list",data := .seq its k }:Obj))∈news) (hsz:its.size≤sizeLine)
 (h:∀ g,CompRest prog w A h₀ L m env elt x scope cl { s₁ with heap:=g } (SrcAt h₀ ax its) (fun i v=>its[i]? = some v) (Fin { s₁ with heap:=g }) its.size 0 [] news) :
 wpAny (model prog w) A (pyIter (.ref ax)) (tV prog w A h₀ L m env elt x scope cl Fin) E s₁:=by
 have hl:s₁.heap.IsList ax its:=⟨_,(N _ hm).1,rfl,_,rfl⟩
 k_extra "eu"
 refine wpAny_pyIter_list hl ?_
 have up:∀ b o,s₁.heap.get? b=some o→(s₁.heap.push { cls := .type "list_iterator",data := .fields #[.ref ax,.int 0 0] }).get? b=some o:=fun b o e=>Heap.get?_push_of_some _ e
 refine ⟨_,_,_,_,_,SrcAt h₀ ax its,news,rfl,Walks.list hh s₁.heap.objs.size ax (Nat.ne_of_lt hlt) its,hsz,fun i h st=>by obtain ⟨o,e,_⟩:=st.1;exact ⟨o,e⟩,list_st,⟨⟨_,Heap.get?_push_size _ rfl,rfl,rfl⟩,hl.at (up _)⟩,fun b hb => ?_,F.keeps up,N.grown up,Nat.ne_of_lt F.ns.lt,next_is_new F,fun p hp=>Nat.ne_of_lt (Heap.lt_size (N p hp).1),.inr ⟨_,hm,rfl,_,rfl⟩,h _⟩
 show b < (s₁.heap.push _).objs.size
 rw [Heap.size_push]
 k_extra "ej"
 · exact Nat.lt_succ_self _
 · k_extra "fd"
end
end
section
theorem xL:entryFor table "list.__eq__.loop" = some Builtin.«list.__eq__.loop» := entryFor_of_tree (by kernel_rfl)
theorem iv:plainId "list.__eq__.loop" = true:=by decide +kernel
section
variable {prog:Program} {w:World} {A:Around} {E:Value→Shared→Prop} {s:Shared} {R:Result→Shared→Prop}
theorem Au {ys:List Str} {i:Nat}:bS [] (ys.drop i)=decide (i < ys.length):=by
 cases h:ys.drop i with
 | nil=>rw [bS];have:=List.drop_eq_nil_iff.mp h;simp;(exact zae [_,_] 1 qB qA [(1,qB,qA)] rfl this)
 | cons a r =>
  rw [bS]
  have h2:(ys.drop i).length=(a::r).length:=by rw [h]
  rw [List.length_drop,List.length_cons] at h2
  simp;k_extra "l"
end
namespace K
theorem lel_lt_m:sV w s prog A R l b o o' vs us n n' xs ys:=by
 intro hl hd hb hd' hX hY
 have hlx:=hX.len_eq
 have hly:=hY.len_eq
 intro k
 induction k with
 | zero =>
  intro i hk hi1 hi2 hr
  k_extra "ck"
  k_extra "g0"
  k_extra "gi"
  k_extra "dc"
  k_extra "b0"
  k_extra "bx"
  k_extra "cs"
  k_extra "ek"
  k_extra "b0"
  k_extra "bx"
  refine wpAny_pure ?_
  rw [List.drop_eq_nil_iff.mpr (by (exact zae [_,_,_] 1 qB qA [(1,qC,qA),(1,qB,qC)] rfl (zge hi) (zge hlx)):xs.length≤i),Au] at hr
  k_extra "gj"
  rw [List.size_toArray,List.size_toArray,← hi,hly]
  exact hr
 | succ k ih =>
  intro i hk hi1 hi2 hr
  k_extra "cz"
  refine aV (hX.item i _ (List.getElem?_eq_getElem hlt)) ?_
  intro x t ev ex
  k_extra "fq"
  refine bA (List.getElem?_eq_some_iff.mp ex) ?_
  intro hx1 hx2
  rw [List.drop_eq_getElem_cons hx1,hx2] at hr
  k_extra "g0"
  k_extra "gi"
  k_extra "dc"
  k_extra "b0"
  k_extra "bx"
  k_extra "cs"
  rw [ev']
  by_cases hu:i < us.length
  · refine aV (hY.item i _ (List.getElem?_eq_getElem hu)) ?_
    intro y t2 eu ey
    k_extra "fr"
    refine bA (List.getElem?_eq_some_iff.mp ey) ?_
    intro hy1 hy2
    rw [List.drop_eq_getElem_cons hy1,hy2,bS] at hr
    rw [eu']
    refine wpAny_bind (wpAny_eqBool_str ?_)
    by_cases hxy:x=y
    · rw [if_pos hxy] at hr
      rw [if_pos (by rw [hxy];exact beq_self_eq_true y)]
      k_extra "a6"
    · rw [if_neg hxy] at hr
      rw [if_neg (by simpa using hxy)]
      k_extra "b0"
      k_extra "bx"
      k_extra "cs"
      rw [ev',eu']
      refine wpAny_bind (fJ.str x y t t2 prog w _ _ ?_)
      exact wpAny_pure hr
  · k_extra "el"
    k_extra "b0"
    k_extra "bx"
    refine wpAny_pure ?_
    k_extra "de"
    k_extra "gj"
    rw [List.size_toArray,List.size_toArray,decide_eq_false (by exact zar [_,_,_] [(1,qB,qC),(1,zu qC,qA),(1,zu qA,qB)] rfl (zne hu) hlt)]
    exact hr
end K
section
variable {prog:Program} {w:World} {A:Around} {E:Value→Shared→Prop} {s:Shared} {R:Result→Shared→Prop}
theorem sU:∀ v,sW v:=ch1 (l:=PL.drop 21) B0 K.lel_lt_m
theorem BZ:Ch (PL.drop 21) oV:=ch2 (l:=PL.drop 21) B0 sU
theorem Bl {l b:Addr} {o o':Obj} {vs us:List Value} {n n':Nat} {xs ys:List Str} (hl:s.heap.get? l=some o) (hd:o.data = .seq vs.toArray n) (hb:s.heap.get? b=some o') (hd':o'.data = .seq us.toArray n')
 (hX:StrsAre vs xs) (hY:StrsAre us ys):∀ (k i:Nat),vs.length - i=k→i≤vs.length→i≤us.length→R (.ok (.ret (.bool (bS (xs.drop i) (ys.drop i))))) s →
 codeAny (model prog w) A (.builtin "list.__eq__.loop" ⟨[.ref l,.ref b,.int (i:Int) 0,.int 0 0],[]⟩) R s:=sU { oV with w,s,q1:=prog,q2:=A,q40:=R,q6:=l,q3:=b,q41:=o,q42:=o',q9:=vs,q30:=us,q23:=n,q8:=n',q31:=xs,q32:=ys } hl hd hb hd' hX hY
end
end
section
section
variable {prog:Program} {w:World} {A:Around} {E:Value→Shared→Prop} {s:Shared}
theorem CD {l:List Str}:bS l []=false:=by cases l <;> rfl
variable {R:Result→Shared→Prop}
end
namespace K
theorem lel_gt_m:sY w s prog A R l b o o' vs us n n' xs ys:=by
 intro hl hd hb hd' hX hY
 have hlx:=hX.len_eq
 have hly:=hY.len_eq
 intro k
 induction k with
 | zero =>
  intro i hk hi1 hi2 hr
  k_extra "ck"
  k_extra "g0"
  k_extra "gi"
  k_extra "dc"
  k_extra "b0"
  k_extra "bx"
  k_extra "cs"
  k_extra "ek"
  k_extra "b0"
  k_extra "bx"
  refine wpAny_pure ?_
  rw [List.drop_eq_nil_iff.mpr (by (exact zae [_,_,_] 1 qB qA [(1,qC,qA),(1,qB,qC)] rfl (zge hi) (zge hlx)):xs.length≤i),CD] at hr
  k_extra "gk"
  rw [List.size_toArray,List.size_toArray,decide_eq_false (by exact zar [_,_,_] [(1,qB,qC),(1,qC,qA),(1,zu qA,qB)] rfl (zge hi) hi2)]
  exact hr
 | succ k ih =>
  intro i hk hi1 hi2 hr
  k_extra "cz"
  refine aV (hX.item i _ (List.getElem?_eq_getElem hlt)) ?_
  intro x t ev ex
  k_extra "fq"
  refine bA (List.getElem?_eq_some_iff.mp ex) ?_
  intro hx1 hx2
  rw [List.drop_eq_getElem_cons hx1,hx2] at hr
  k_extra "g0"
  k_extra "gi"
  k_extra "dc"
  k_extra "b0"
  k_extra "bx"
  k_extra "cs"
  rw [ev']
  by_cases hu:i < us.length
  · refine aV (hY.item i _ (List.getElem?_eq_getElem hu)) ?_
    intro y t2 eu ey
    k_extra "fr"
    refine bA (List.getElem?_eq_some_iff.mp ey) ?_
    intro hy1 hy2
    rw [List.drop_eq_getElem_cons hy1,hy2,bS] at hr
    rw [eu']
    refine wpAny_bind (wpAny_eqBool_str ?_)
    by_cases hxy:y=x
    · rw [if_pos hxy] at hr
      rw [if_pos (by rw [hxy];exact beq_self_eq_true x)]
      k_extra "a6"
    · rw [if_neg hxy] at hr
      rw [if_neg (by simpa using fun e:x=y=>hxy e.symm)]
      k_extra "b0"
      k_extra "bx"
      k_extra "cs"
      rw [ev',eu']
      refine wpAny_bind (PySem.P.gt_str ?_)
      exact wpAny_pure hr
  · k_extra "el"
    k_extra "b0"
    k_extra "bx"
    refine wpAny_pure ?_
    k_extra "de"
    k_extra "gk"
    rw [List.size_toArray,List.size_toArray,decide_eq_true (by exact zal [_,_,_] 1 qB qA [(1,qB,qC),(1,zu qC,qA)] rfl (zne hu) hlt)]
    exact hr
end K
section
variable {prog:Program} {w:World} {A:Around} {E:Value→Shared→Prop} {s:Shared}
variable {R:Result→Shared→Prop}
theorem sX:∀ v,sZ v:=ch1 (l:=PL.drop 22) BZ K.lel_gt_m
theorem BY:Ch (PL.drop 22) oV:=ch2 (l:=PL.drop 22) BZ sX
theorem Bm {l b:Addr} {o o':Obj} {vs us:List Value} {n n':Nat} {xs ys:List Str} (hl:s.heap.get? l=some o) (hd:o.data = .seq vs.toArray n) (hb:s.heap.get? b=some o') (hd':o'.data = .seq us.toArray n')
 (hX:StrsAre vs xs) (hY:StrsAre us ys):∀ (k i:Nat),vs.length - i=k→i≤vs.length→i≤us.length→R (.ok (.ret (.bool (bS (ys.drop i) (xs.drop i))))) s →
 codeAny (model prog w) A (.builtin "list.__eq__.loop" ⟨[.ref l,.ref b,.int (i:Int) 0,.int 4 0],[]⟩) R s:=sX { oV with w,s,q1:=prog,q2:=A,q40:=R,q6:=l,q3:=b,q41:=o,q42:=o',q9:=vs,q30:=us,q23:=n,q8:=n',q31:=xs,q32:=ys } hl hd hb hd' hX hY
theorem Ar {l b:Addr} {o o':Obj} {vs us:List Value} {n n':Nat} {xs ys:List Str} {Q:Value→Shared→Prop} (hl:s.heap.get? l=some o) (hc:o.cls = .type "list") (hd:o.data = .seq vs.toArray n) (hb:s.heap.get? b=some o') (hc':o'.cls = .type "list") (hd':o'.data = .seq us.toArray n')
 (hX:StrsAre vs xs) (hY:StrsAre us ys) (hu:A.units < cLine) (h:Q (.bool (bS xs ys)) s):wpAny (model prog w) A (richCompare .Lt (.ref l) (.ref b)) Q E s:=by
 have hT:s.TypeIs (.ref l) "list" := ⟨_,hl,hc⟩
 have hT':s.TypeIs (.ref b) "list" := ⟨_,hb,hc'⟩
 refine wpAny_richCompare_same_room (op := .Lt) hT hT' PySem.F.slot_list_lt ?_ hu
 refine wpAny_call (codeAny_call_builtin PySem.F.slot_list_lt.plain PySem.F.entry_list_lt (PySem.F.slot_list_lt.check _ _ _ _ _ _ _ _ hT (PySem.F.args_list_lt_2 _ _) ?_))
 unfold Builtin.«list.__lt__»
 k_extra "gp"
 k_extra "fl"
 show wpAny _ _ (again (.builtin "list.__eq__.loop" ⟨[.ref l,.ref b,.int ((0:Nat):Int) 0,.int 0 0],[]⟩)) _ _ _
 exact wpAny_pure ⟨plainId_quiet iv _,Bl hl hd hb hd' hX hY _ 0 rfl (Nat.zero_le _) (Nat.zero_le _) ⟨(fun x=>nomatch x),h⟩⟩
theorem As {l b:Addr} {o o':Obj} {vs us:List Value} {n n':Nat} {xs ys:List Str} {Q:Value→Shared→Prop} (hl:s.heap.get? l=some o) (hc:o.cls = .type "list") (hd:o.data = .seq vs.toArray n) (hb:s.heap.get? b=some o') (hc':o'.cls = .type "list") (hd':o'.data = .seq us.toArray n')
 (hX:StrsAre vs xs) (hY:StrsAre us ys) (hu:A.units < cLine) (h:Q (.bool (bS ys xs)) s):wpAny (model prog w) A (richCompare .Gt (.ref l) (.ref b)) Q E s:=by
 have hT:s.TypeIs (.ref l) "list" := ⟨_,hl,hc⟩
 have hT':s.TypeIs (.ref b) "list" := ⟨_,hb,hc'⟩
 refine wpAny_richCompare_same_room (op := .Gt) hT hT' PySem.F.slot_list_gt ?_ hu
 refine wpAny_call (codeAny_call_builtin PySem.F.slot_list_gt.plain PySem.F.entry_list_gt (PySem.F.slot_list_gt.check _ _ _ _ _ _ _ _ hT (PySem.F.args_list_gt_2 _ _) ?_))
 unfold Builtin.«list.__gt__»
 k_extra "gp"
 k_extra "fl"
 show wpAny _ _ (again (.builtin "list.__eq__.loop" ⟨[.ref l,.ref b,.int ((0:Nat):Int) 0,.int 4 0],[]⟩)) _ _ _
 exact wpAny_pure ⟨plainId_quiet iv _,Bm hl hd hb hd' hX hY _ 0 rfl (Nat.zero_le _) (Nat.zero_le _) ⟨(fun x=>nomatch x),h⟩⟩
end
end
section
section
variable {prog:Program} {w:World} {A:Around} {E:Value→Shared→Prop} {s:Shared} {R:Result→Shared→Prop}
end
namespace K
theorem min_end_m:qU w s prog A R I S v c:=by
 intro hS hn
 k_extra "c5"
 k_extra "c0"
 k_extra "cv"
 k_extra "di"
 k_extra "cb"
 k_extra "bl"
 refine cA (hr) ?_
 k_extra "g6"
 k_extra "e7"
 refine wpAny_bind ?_
 k_extra "g7"
 k_extra "c8"
 k_extra "ga"
end K
section
variable {prog:Program} {w:World} {A:Around} {E:Value→Shared→Prop} {s:Shared} {R:Result→Shared→Prop}
theorem qT:∀ v,qV v:=ch1 (l:=PL.drop 23) BY K.min_end_m
theorem BX:Ch (PL.drop 23) oV:=ch2 (l:=PL.drop 23) BY qT
theorem Ao {I S:Addr} {v:Value} {c:Nat} (hS:s.heap.get? S=some { cls := .type "list",dict:=none,data := .seq #[v,v] c,slots := #[] })
 (hn:∀ (E':Value→Shared→Prop),wpAny (model prog w) A.in1 (pyNext (.ref I)) (fun r s'=>r=none∧s'.heap.get? S=some { cls := .type "list",dict:=none,data := .seq #[v,v] c,slots := #[] } ∧
  ∀ h',(∀ b o,b≠S→s'.heap.get? b=some o→h'.get? b=some o)→R (.ok (.ret v)) { s' with heap:=h' }) E' s) :
 codeAny (model prog w) A (.builtin "min.loop" ⟨[.ref I,.none,.ref S],[]⟩) R s:=qT { oV with w,s,q1:=prog,q2:=A,q40:=R,q5:=I,q3:=S,q43:=v,q8:=c } hS hn
end
namespace K
namespace V15
theorem min_turn_m:jq w s prog A R I S o v c:=by
 intro b hS hn
 k_extra "by"
 k_extra "c5"
 k_extra "c0"
 k_extra "cv"
 k_extra "di"
 k_extra "cb"
 k_extra "bl"
 refine mf (hr) ?_
 (try clear hr);rintro rfl hS' hcmp hr
 k_extra "cc"
 show wpAny _ A.in1 (tryCatch (holding [v,v] (richCompare .Lt v o >>= _)) _ >>= _) _ _ _
 k_extra "f6"
 k_extra "fj"
 k_extra "c8"
 rw [hname]
 cases b with
 | true =>
  rw [if_pos rfl]
  refine wpAny_bind ?_
  refine wpAny_updateSeq hS' rfl (wpAny_bind (wpAny_letGo ?_))
  refine wpAny_pure ⟨plainId_quiet PySem.F.plain_min_loop _,hr _ c ?_ fun b o hb e=>(Heap.get?_update_other _ _ (Ne.symm hb)).trans e⟩
  rw [Heap.get?_update_self _ hS' rfl];rfl
 | false =>
  k_extra "gc"
  k_extra "g3"
  exact wpAny_pure ⟨plainId_quiet PySem.F.plain_min_loop _,hr s'.heap c hS' fun _ _ _ e=>e⟩
end V15
end K
section
variable {prog:Program} {w:World} {A:Around} {E:Value→Shared→Prop} {s:Shared} {R:Result→Shared→Prop}
theorem oS:∀ v,oU v:=ch1 (l:=PL.drop 24) BX K.V15.min_turn_m
theorem BW:Ch (PL.drop 24) oV:=ch2 (l:=PL.drop 24) BX oS
theorem yS {I S:Addr} {o v:Value} {c:Nat} {b:Bool} (hS:s.heap.get? S=some { cls := .type "list",dict:=none,data := .seq #[o,o] c,slots := #[] })
 (hn:∀ (E':Value→Shared→Prop),wpAny (model prog w) A.in1 (pyNext (.ref I)) (fun r s'=>r=some v∧s'.heap.get? S=some { cls := .type "list",dict:=none,data := .seq #[o,o] c,slots := #[] } ∧
  (∀ (E':Value→Shared→Prop) (Q':Value→Shared→Prop),Q' (.bool b) s'→wpAny (model prog w) A.in1 (richCompare .Lt v o) Q' E' s') ∧
  ∀ h' c',h'.get? S=some { cls := .type "list",dict:=none,data := .seq (if b then #[v,v] else #[o,o]) c',slots := #[] }→(∀ b o,b≠S→s'.heap.get? b=some o→h'.get? b=some o)→codeAny (model prog w) A (.builtin "min.loop" ⟨[.ref I,.none,.ref S],[]⟩) R { s' with heap:=h' }) E' s) :
 codeAny (model prog w) A (.builtin "min.loop" ⟨[.ref I,.none,.ref S],[]⟩) R s:=(show jq w s prog A R I S o v c from oS { oV with w,s,q1:=prog,q2:=A,q40:=R,q5:=I,q3:=S,q44:=o,q43:=v,q8:=c }) hS hn
theorem w8 {I S:Addr} {v:Value} {c:Nat} (hS:s.heap.get? S=some { cls := .type "list",dict:=none,data := .seq #[] c,slots := #[] })
 (hn:∀ (E':Value→Shared→Prop),wpAny (model prog w) A.in1 (pyNext (.ref I)) (fun r s'=>r=some v∧s'.heap.get? S=some { cls := .type "list",dict:=none,data := .seq #[] c,slots := #[] } ∧
  ∀ h' c',h'.get? S=some { cls := .type "list",dict:=none,data := .seq #[v,v] c',slots := #[] }→(∀ b o,b≠S→s'.heap.get? b=some o→h'.get? b=some o)→codeAny (model prog w) A (.builtin "min.loop" ⟨[.ref I,.none,.ref S],[]⟩) R { s' with heap:=h' }) E' s) :
 codeAny (model prog w) A (.builtin "min.loop" ⟨[.ref I,.none,.ref S],[]⟩) R s:=by
 k_extra "by"
 k_extra "c5"
 k_extra "c0"
 k_extra "cv"
 k_extra "di"
 k_extra "cb"
 k_extra "bl"
 refine cA (hr) ?_
 k_extra "g6"
 show wpAny _ A.in1 (updateSeq S (fun _ => #[v,v]) >>= _) _ _ _
 refine wpAny_bind ?_
 k_extra "g7"
 rw [hname]
 refine wpAny_pure ⟨plainId_quiet PySem.F.plain_min_loop _,hr _ (c+1) ?_ fun b o hb e=>(Heap.get?_update_other _ _ (Ne.symm hb)).trans e⟩
 rw [Heap.get?_update_self _ hS' rfl];rfl
theorem Ap {I S:Addr} {v:Value} {c:Nat} (hS:s.heap.get? S=some { cls := .type "list",dict:=none,data := .seq #[v,v] c,slots := #[] })
 (hn:∀ (E':Value→Shared→Prop),wpAny (model prog w) A.in1 (pyNext (.ref I)) (fun r s'=>r=none∧s'.heap.get? S=some { cls := .type "list",dict:=none,data := .seq #[v,v] c,slots := #[] } ∧
  ∀ h',(∀ b o,b≠S→s'.heap.get? b=some o→h'.get? b=some o)→R (.ok (.ret v)) { s' with heap:=h' }) E' s) :
 codeAny (model prog w) A (.builtin "max.loop" ⟨[.ref I,.none,.ref S],[]⟩) R s:=by
 k_extra "gq"
 k_extra "gf"
 k_extra "cv"
 k_extra "di"
 k_extra "cb"
 k_extra "bl"
 refine cA (hr) ?_
 k_extra "g6"
 k_extra "e7"
 refine wpAny_bind ?_
 k_extra "g7"
 k_extra "c8"
 k_extra "ga"
theorem yU {I S:Addr} {o v:Value} {c:Nat} {b:Bool} (hS:s.heap.get? S=some { cls := .type "list",dict:=none,data := .seq #[o,o] c,slots := #[] })
 (hn:∀ (E':Value→Shared→Prop),wpAny (model prog w) A.in1 (pyNext (.ref I)) (fun r s'=>r=some v∧s'.heap.get? S=some { cls := .type "list",dict:=none,data := .seq #[o,o] c,slots := #[] } ∧
  (∀ (E':Value→Shared→Prop) (Q':Value→Shared→Prop),Q' (.bool b) s'→wpAny (model prog w) A.in1 (richCompare .Gt v o) Q' E' s') ∧
  ∀ h' c',h'.get? S=some { cls := .type "list",dict:=none,data := .seq (if b then #[v,v] else #[o,o]) c',slots := #[] }→(∀ b o,b≠S→s'.heap.get? b=some o→h'.get? b=some o)→codeAny (model prog w) A (.builtin "max.loop" ⟨[.ref I,.none,.ref S],[]⟩) R { s' with heap:=h' }) E' s) :
 codeAny (model prog w) A (.builtin "max.loop" ⟨[.ref I,.none,.ref S],[]⟩) R s:=by
 k_extra "ds"
 k_extra "gq"
 k_extra "gf"
 k_extra "cv"
 k_extra "di"
 k_extra "cb"
 k_extra "bl"
 refine mf (hr) ?_
 (try clear hr);rintro rfl hS' hcmp hr
 k_extra "cc"
 show wpAny _ A.in1 (tryCatch (holding [v,v] (richCompare .Gt v o >>= _)) _ >>= _) _ _ _
 k_extra "f6"
 k_extra "fj"
 k_extra "c8"
 rw [hname]
 cases b with
 | true =>
  rw [if_pos rfl]
  refine wpAny_bind ?_
  refine wpAny_updateSeq hS' rfl (wpAny_bind (wpAny_letGo ?_))
  refine wpAny_pure ⟨plainId_quiet PySem.F.plain_max_loop _,hr _ c ?_ fun b o hb e=>(Heap.get?_update_other _ _ (Ne.symm hb)).trans e⟩
  rw [Heap.get?_update_self _ hS' rfl];rfl
 | false =>
  k_extra "gc"
  k_extra "g3"
  exact wpAny_pure ⟨plainId_quiet PySem.F.plain_max_loop _,hr s'.heap c hS' fun _ _ _ e=>e⟩
theorem xb {I S:Addr} {v:Value} {c:Nat} (hS:s.heap.get? S=some { cls := .type "list",dict:=none,data := .seq #[] c,slots := #[] })
 (hn:∀ (E':Value→Shared→Prop),wpAny (model prog w) A.in1 (pyNext (.ref I)) (fun r s'=>r=some v∧s'.heap.get? S=some { cls := .type "list",dict:=none,data := .seq #[] c,slots := #[] } ∧
  ∀ h' c',h'.get? S=some { cls := .type "list",dict:=none,data := .seq #[v,v] c',slots := #[] }→(∀ b o,b≠S→s'.heap.get? b=some o→h'.get? b=some o)→codeAny (model prog w) A (.builtin "max.loop" ⟨[.ref I,.none,.ref S],[]⟩) R { s' with heap:=h' }) E' s) :
 codeAny (model prog w) A (.builtin "max.loop" ⟨[.ref I,.none,.ref S],[]⟩) R s:=by
 k_extra "ds"
 k_extra "gq"
 k_extra "gf"
 k_extra "cv"
 k_extra "di"
 k_extra "cb"
 k_extra "bl"
 refine cA (hr) ?_
 k_extra "g6"
 show wpAny _ A.in1 (updateSeq S (fun _ => #[v,v]) >>= _) _ _ _
 refine wpAny_bind ?_
 k_extra "g7"
 rw [hname]
 refine wpAny_pure ⟨plainId_quiet PySem.F.plain_max_loop _,hr _ (c+1) ?_ fun b o hb e=>(Heap.get?_update_other _ _ (Ne.symm hb)).trans e⟩
 rw [Heap.get?_update_self _ hS' rfl];rfl
end
end
section
section
variable {prog:Program} {w:World} {A:Around} {E:Value→Shared→Prop} {s:Shared} {h₀:Heap} {L:Addr} {m:Str→Option Value} {news:List (Addr × Obj)}
end
namespace K
namespace V10
theorem call_min2_m:nj w news h₀ L m s Q E prog A l a b k ka kb va vb xs ys:=by
 intro hh hu F N hm ha hb hX hY ret
 k_extra "by"
 k_extra "fs"
 have hlt:l < s.heap.objs.size:=Heap.lt_size (N _ hm).1
 refine call_function_tree PySem.F.kind_min PySem.F.plain_min PySem.F.entry_min (PySem.F.args_min1 _) ?_
 show wpAny _ A.in1 (Builtin.Builtins.bindParams "min" ["key","default"] 0 ⟨[],[]⟩ >>= _) _ _ s
 refine wpAny_bind (wpAny_of_eq (show Builtin.Builtins.bindParams "min" ["key","default"] 0 ⟨[],[]⟩=pure [none,none] from rfl) ?_)
 k_extra "cc"
 refine wpAny_bind (wpAny_pyIter_list hl ?_)
 k_extra "fo"
 rw [hname]
 k_extra "dz"
 k_extra "ba"
 k_extra "c3"
 k_extra "cu"
 k_extra "bh"
 k_extra "bp"
 show wpAny _ _ (again (.builtin "min.loop" ⟨[.ref s.heap.objs.size,.none,.ref (s.heap.push { cls := .type "list_iterator",data := .fields #[.ref l,.int 0 0] }).objs.size],[]⟩)) _ _ { s with heap:=(s.heap.push { cls := .type "list_iterator",data := .fields #[.ref l,.int 0 0] }).push { cls := .type "list",data := .seq ([]:List Value).toArray } }
 k_extra "cg"
 k_extra "d2"
 k_extra "gl"
 k_extra "d0"
 k_extra "da"
 k_extra "cr"
 k_extra "ci"
 k_extra "bf"
 k_extra "bj"
 k_extra "bt"
 refine wpAny_pure ⟨plainId_quiet PySem.F.plain_min_loop _,w8 (v := .ref a) hS0 fun E1=>W.item 0 _ _ _ (by simp) ⟨hst0,lst _ hk0⟩ fun v1 h1 t1 hv1 hst1 hk1=>⟨by simpa using hv1.symm,hk1 _ _ (by simpa using hSI) hS0,fun h2 c2 hS2 hk2 => ?_⟩⟩
 have K1:=keep1 _ _ hk0 hk1
 have K2:=keep2 _ _ K1 hk2
 refine yS (o := .ref a) (v := .ref b) (b:=bS ys xs) hS2 fun E2=>W.item 1 _ _ _ (by simp) ⟨itk _ _ _ hst1.1 hk2,lst _ K2⟩ fun v3 h3 t3 hv3 hst3 hk3=>⟨by simpa using hv3.symm,hk3 _ _ (by simpa using hSI) hS2,?_,fun h4 c4 hS4 hk4 => ?_⟩
 · intro E3 Q3 hq
   have K3:=keep1 _ _ K2 hk3
   have N3:=(led _ K3).2
   exact Ar (s:={ s with heap:=h3,toks:=t3 }) (N3 _ hb).1 rfl rfl (N3 _ ha).1 rfl rfl hY hX (by show A.units+1 < cLine;(exact zal [_,_] 1 (zu qB) qA [(1,zu (zp qB (zn 5)),qA)] rfl hu)) hq
 · have K3:=keep1 _ _ K2 hk3
   have K4:=keep2 _ _ K3 hk4
   have e4:(if bS ys xs=true then (#[.ref b,.ref b]:Array Value) else #[.ref a,.ref a]) = #[.ref (if bS ys xs=true then b else a),.ref (if bS ys xs=true then b else a)]:=by split <;> rfl
   rw [e4] at hS4
   refine Ao hS4 fun E5=>W.done _ _ _ ⟨itk _ _ _ hst3.1 hk4,lst _ K4⟩ fun h5 t5 hk5=>⟨rfl,hk5 _ _ (by simpa using hSI) hS4,fun h6 hk6 => ?_⟩
   have K6:=keep2 _ _ (keep1 _ _ K4 hk5) hk6
   exact ret h6 t5 (led _ K6).1 (led _ K6).2
end V10
end K
section
variable {prog:Program} {w:World} {A:Around} {E:Value→Shared→Prop} {s:Shared} {h₀:Heap} {L:Addr} {m:Str→Option Value} {news:List (Addr × Obj)}
theorem ni:∀ v,nk v:=ch1 (l:=PL.drop 25) BW K.V10.call_min2_m
theorem BV:Ch (PL.drop 25) oV:=ch2 (l:=PL.drop 25) BW ni
theorem yd {l a b:Addr} {k ka kb:Nat} {va vb:List Value} {xs ys:List Str} {Q:Value→Shared→Prop} (hh:A.handled=none) (hu:A.units+5 < cLine) (F:Fr h₀ L s.heap m) (N:News h₀ L s.heap news)
 (hm:(l,listOf #[.ref a,.ref b] k)∈news) (ha:(a,listOf va.toArray ka)∈news) (hb:(b,listOf vb.toArray kb)∈news) (hX:StrsAre va xs) (hY:StrsAre vb ys)
 (ret:∀ h tk,Fr h₀ L h m→News h₀ L h news→Q (.ref (if bS ys xs then b else a)) { s with heap:=h,toks:=tk }):wpAny (model prog w) A (call (.builtin "min") [.ref l]) Q E s:=ni { oV with w,news,h₀,L,m,s,Q,E,q1:=prog,q2:=A,q6:=l,q4:=a,q3:=b,q23:=k,q8:=ka,q45:=kb,q9:=va,q30:=vb,q31:=xs,q32:=ys } hh hu F N hm ha hb hX hY ret
theorem ye {l a b:Addr} {k ka kb:Nat} {va vb:List Value} {xs ys:List Str} {Q:Value→Shared→Prop} (hh:A.handled=none) (hu:A.units+5 < cLine) (F:Fr h₀ L s.heap m) (N:News h₀ L s.heap news)
 (hm:(l,listOf #[.ref a,.ref b] k)∈news) (ha:(a,listOf va.toArray ka)∈news) (hb:(b,listOf vb.toArray kb)∈news) (hX:StrsAre va xs) (hY:StrsAre vb ys)
 (ret:∀ h tk,Fr h₀ L h m→News h₀ L h news→Q (.ref (if bS xs ys then b else a)) { s with heap:=h,toks:=tk }):wpAny (model prog w) A (call (.builtin "max") [.ref l]) Q E s:=by
 k_extra "ds"
 k_extra "fs"
 have hlt:l < s.heap.objs.size:=Heap.lt_size (N _ hm).1
 refine call_function_tree PySem.F.kind_max PySem.F.plain_max PySem.F.entry_max (PySem.F.args_max1 _) ?_
 show wpAny _ A.in1 (Builtin.Builtins.bindParams "max" ["key","default"] 0 ⟨[],[]⟩ >>= _) _ _ s
 refine wpAny_bind (wpAny_of_eq (show Builtin.Builtins.bindParams "max" ["key","default"] 0 ⟨[],[]⟩=pure [none,none] from rfl) ?_)
 k_extra "cc"
 refine wpAny_bind (wpAny_pyIter_list hl ?_)
 k_extra "fo"
 rw [hname]
 k_extra "dz"
 k_extra "ba"
 k_extra "c3"
 k_extra "cu"
 k_extra "bh"
 k_extra "bp"
 show wpAny _ _ (again (.builtin "max.loop" ⟨[.ref s.heap.objs.size,.none,.ref (s.heap.push { cls := .type "list_iterator",data := .fields #[.ref l,.int 0 0] }).objs.size],[]⟩)) _ _ { s with heap:=(s.heap.push { cls := .type "list_iterator",data := .fields #[.ref l,.int 0 0] }).push { cls := .type "list",data := .seq ([]:List Value).toArray } }
 k_extra "cg"
 k_extra "d2"
 k_extra "gl"
 k_extra "d0"
 k_extra "da"
 k_extra "cr"
 k_extra "ci"
 k_extra "bf"
 k_extra "bj"
 k_extra "bt"
 refine wpAny_pure ⟨plainId_quiet PySem.F.plain_max_loop _,xb (v := .ref a) hS0 fun E1=>W.item 0 _ _ _ (by simp) ⟨hst0,lst _ hk0⟩ fun v1 h1 t1 hv1 hst1 hk1=>⟨by simpa using hv1.symm,hk1 _ _ (by simpa using hSI) hS0,fun h2 c2 hS2 hk2 => ?_⟩⟩
 have K1:=keep1 _ _ hk0 hk1
 have K2:=keep2 _ _ K1 hk2
 refine yU (o := .ref a) (v := .ref b) (b:=bS xs ys) hS2 fun E2=>W.item 1 _ _ _ (by simp) ⟨itk _ _ _ hst1.1 hk2,lst _ K2⟩ fun v3 h3 t3 hv3 hst3 hk3=>⟨by simpa using hv3.symm,hk3 _ _ (by simpa using hSI) hS2,?_,fun h4 c4 hS4 hk4 => ?_⟩
 · intro E3 Q3 hq
   have K3:=keep1 _ _ K2 hk3
   have N3:=(led _ K3).2
   exact As (s:={ s with heap:=h3,toks:=t3 }) (N3 _ hb).1 rfl rfl (N3 _ ha).1 rfl rfl hY hX (by show A.units+1 < cLine;(exact zal [_,_] 1 (zu qB) qA [(1,zu (zp qB (zn 5)),qA)] rfl hu)) hq
 · have K3:=keep1 _ _ K2 hk3
   have K4:=keep2 _ _ K3 hk4
   have e4:(if bS xs ys=true then (#[.ref b,.ref b]:Array Value) else #[.ref a,.ref a]) = #[.ref (if bS xs ys=true then b else a),.ref (if bS xs ys=true then b else a)]:=by split <;> rfl
   rw [e4] at hS4
   refine Ap hS4 fun E5=>W.done _ _ _ ⟨itk _ _ _ hst3.1 hk4,lst _ K4⟩ fun h5 t5 hk5=>⟨rfl,hk5 _ _ (by simpa using hSI) hS4,fun h6 hk6 => ?_⟩
   have K6:=keep2 _ _ (keep1 _ _ K4 hk5) hk6
   exact ret h6 t5 (led _ K6).1 (led _ K6).2
end
end
section
theorem rE {a b:List Nat} (h:a < b):¬ b < a:=List.lt_asymm h
theorem pc:∀ {x y:List Str},bS x y=true→bS y x=false
 | [],[],h=>by simp [bS] at h
 | [],_::_,_=>by simp [bS]
 | _::_,[],h=>by simp [bS] at h
 | a::x,b::y,h=>by
  rw [bS] at h ⊢
  by_cases e:a=b
  · subst e
    rw [if_pos rfl] at h ⊢
    exact pc h
  · rw [if_neg e] at h
    rw [if_neg (Ne.symm e)]
    have:=rE (of_decide_eq_true h)
    simpa using this
theorem mD:∀ {x y:List Str} {i:Nat},bS y x=false→x.take i=y.take i→i < x.length→i < y.length
 | [],_,i,_,_,h=>absurd h (Nat.not_lt_zero _)
 | a::x,[],i,hl,_,_=>by simp [bS] at hl
 | a::x,b::y,0,_,_,_=>Nat.succ_pos _
 | a::x,b::y,i+1,hl,ht,h=>by
  simp only [List.take_succ_cons,List.cons.injEq] at ht
  rw [bS,if_pos ht.1.symm] at hl
  have:=mD hl ht.2 (Nat.lt_of_succ_lt_succ h)
  simpa using this
theorem s7:∀ (x y:List Str),aI x y=aI y x
 | [],[]=>rfl
 | [],_::_=>by simp [aI]
 | _::_,[]=>by simp [aI]
 | a::x,b::y=>by
  rw [aI,aI,s7 x y]
  by_cases e:a=b
  · rw [if_pos e,if_pos e.symm]
  · rw [if_neg e,if_neg (Ne.symm e)]
theorem s4:∀ (x y:List Str),x.take (aI x y)=y.take (aI x y)
 | [],[]=>rfl
 | [],_::_=>by simp [aI]
 | _::_,[]=>by simp [aI]
 | a::x,b::y=>by
  rw [aI]
  by_cases e:a=b
  · rw [if_pos e,e,List.take_succ_cons,List.take_succ_cons,s4 x y]
  · rw [if_neg e];rfl
theorem Ax {x y:List Str} (h:x.take x.length=y.take x.length):aI x y=x.length:=by
 induction x generalizing y with
 | nil=>simp [aI]
 | cons a x ih =>
  cases y with
  | nil=>simp at h
  | cons b y =>
   simp only [List.length_cons,List.take_succ_cons,List.cons.injEq] at h
   rw [aI,if_pos h.1,ih h.2];rfl
theorem Bn {x y:List Str} {i:Nat} {a b:Str} (ht:x.take i=y.take i) (ha:x[i]? = some a) (hb:y[i]? = some b) (hne:a≠b):aI x y=i:=by
 induction i generalizing x y with
 | zero =>
  cases x with
  | nil=>simp at ha
  | cons c x =>
   cases y with
   | nil=>simp at hb
   | cons d y =>
    simp only [List.getElem?_cons_zero,Option.some.injEq] at ha hb
    subst ha hb
    rw [aI,if_neg hne]
 | succ i ih =>
  cases x with
  | nil=>simp at ha
  | cons c x =>
   cases y with
   | nil=>simp at hb
   | cons d y =>
    simp only [List.take_succ_cons,List.cons.injEq] at ht
    simp only [List.getElem?_cons_succ] at ha hb
    rw [aI,if_pos ht.1,ih ht.2 ha hb]
theorem wB {x y:List Str} {i:Nat} {a:Str} (ht:x.take i=y.take i) (ha:x[i]? = some a) (hb:y[i]? = some a):x.take (i+1)=y.take (i+1):=by
 rw [List.take_add_one,List.take_add_one,ht,ha,hb]
theorem qm (p:Str→Bool) (l:List Str):wt (l.filter p)≤wt l:=by
 induction l with
 | nil=>exact Nat.le_refl _
 | cons a l ih =>
  have h1:wt (a::l)=wt [a]+wt l:=cK [a] l
  rw [List.filter_cons]
  split
  · have h2:wt (a::l.filter p)=wt [a]+wt (l.filter p):=cK [a] _
    (exact zae [_,_,_,_,_] 1 qB qA [(1,qB,zp qC qD),(1,zp qC qE,qA),(1,qD,qE)] rfl (zle h2) (zge h1) ih)
  · (exact zae [_,_,_,_] 1 qB qA [(1,zp qC qD,qA),(1,qB,qD)] rfl (zge h1) ih)
theorem ut (l:List Str) (n:Nat):wt (l.take n)≤wt l:=by
 have:=cK (l.take n) (l.drop n)
 rw [List.take_append_drop] at this;(exact zae [_,_,_] 1 qB qA [(1,zp qB qC,qA)] rfl (zge this))
theorem Cy {news:List (Addr × Obj)} {h₀ h:Heap} {L:Addr} (N:News h₀ L h news) {a b:Addr} {va vb:List Value} {xs ys:List Str} (hma:(a,LCg.lst va)∈news) (hmb:(b,LCg.lst vb)∈news)
 (hX:StrsAre va xs) (hY:StrsAre vb ys) :
 ∃ A1 v1 p1 A2 v2 p2,(if bS ys xs=true then b else a)=A1∧(if bS xs ys=true then b else a)=A2∧(A1,LCg.lst v1)∈news∧StrsAre v1 p1 ∧
  (A2,LCg.lst v2)∈news∧StrsAre v2 p2∧bS p2 p1=false∧p1.take (aI p1 p2)=xs.take (aI xs ys)∧p1.length≤xs.length+ys.length∧wt p1≤wt xs+wt ys:=by
 cases h1:bS ys xs with
 | true =>
  have h2:=pc h1
  refine ⟨b,vb,ys,a,va,xs,rfl,by rw [h2];rfl,hmb,hY,hma,hX,h2,?_,by (exact zae [_,_] 1 qB (zp qA qB) [] rfl),by (exact zae [_,_] 1 qB (zp qA qB) [] rfl)⟩
  rw [s7 ys xs,s4]
 | false =>
  cases h2:bS xs ys with
  | true=>exact ⟨a,va,xs,b,vb,ys,rfl,rfl,hma,hX,hmb,hY,h1,rfl,by (exact zae [_,_] 1 qA (zp qA qB) [] rfl),by (exact zae [_,_] 1 qA (zp qA qB) [] rfl)⟩
  | false =>
   have e:xs=ys:=by
    clear hX hY hma hmb
    induction xs generalizing ys with
    | nil=>cases ys with
     | nil=>rfl
     | cons b y=>simp [bS] at h2
    | cons c xs ih=>cases ys with
     | nil=>simp [bS] at h1
     | cons d ys =>
      rw [bS] at h1 h2
      by_cases e:c=d
      · subst e
        rw [if_pos rfl] at h1 h2
        rw [ih h1 h2]
      · rw [if_neg (Ne.symm e)] at h1
        rw [if_neg e] at h2
        have h3:=of_decide_eq_false h1
        have h4:=of_decide_eq_false h2
        have h5:c.cps.toList=d.cps.toList:=List.le_antisymm (by simpa using h3) (by simpa using h4)
        exact absurd (by cases c;cases d;simp_all) e
   subst e
   refine ⟨a,va,xs,a,va,xs,rfl,rfl,hma,hX,hma,hX,h1,rfl,by (exact zae [_] 1 qA (zp qA qA) [] rfl),by (exact zae [_] 1 qA (zp qA qA) [] rfl)⟩
end
section
theorem kw_A18_0:True:=by
 w_top off
 k_with "unf" => repeat' (first | k_extra "n" | ((first | k_extra "ah");k_extra "o";refine tS ?_;intro Q9q hQ9q) | k_extra "ag" | (k_end;wrow_close) | (k_extra "h";k_extra "f";k_extra "i";k_extra "b";k_extra "c";k_extra "e";walk1) | (k_extra "h";k_extra "f";k_extra "i";k_extra "b";k_extra "c";k_extra "e";dsimp only;walk1) | (leave1;walk_say "STEP leave1";try dsimp only) | k_extra "p" | fail "no step")
 k_with "subscriptTail Name Slice ref ref" => first | ((k_here;k_extra "ai";k_dflt (refine' ri (by k_asm) (by k_asm) (by k_mem) (by exact rfl) (by exact rfl) (by kmk_part) (by kmk_part) ?_ (by with_unfolding_all rfl) (by kmk_pure) (by k_extra "g"));intro D'q9 h'q9 F'q9 N'q9 l1q9;(try k_lt l1q9);(try k_sweep))) | fail
 k_with "call type:map" => first | ((k_here;(fail_if_success (fail_if_success (with_reducible show wpAny _ _ (call (Value.type _) [Value.ref _,Value.ref _]) _ _ _)));k_dflt (refine' wk (by k_asm) (by k_asm) (by is_list) ?_;k_whole);intro Z9q9 T9q9 I9q9 h'q9 F'q9 N'q9 l1q9 l2q9 l3q9;(try dsimp only))) | fail
 k_with "exec Try" => first | (((fail_if_success (fail_if_success (with_reducible show wpAny _ _ (exec (Stmt.Try _ (_::_) _ [] _) _) _ _ _)));refine wpAny_Try_except ?_)) | fail
 k_with "call builtin:min" => first | ((k_here;k_extra "ae";k_dflt (refine' yd (by exact rfl) (by ktr_units) (by k_asm) (by k_asm) (by k_mem) (by k_mem) (by k_mem) (by with_reducible assumption) (by with_reducible assumption) ?_;k_whole);intro h9q9 tk9q9 F9q9 N9q9;(try dsimp only))) | fail
 k_with "call builtin:max" => first | ((k_here;k_extra "ae";k_dflt (refine' ye (by exact rfl) (by ktr_units) (by k_asm) (by k_asm) (by k_mem) (by k_mem) (by k_mem) (by with_reducible assumption) (by with_reducible assumption) ?_;k_whole);intro h9q9 tk9q9 F9q9 N9q9;(try dsimp only))) | fail
 k_with "eval ListComp" => first | ((k_here;k_dflt (refine LCt.ListComp_T (F₀:=by k_asm) (by with_unfolding_all rfl) (by decide) (by rfl) (by decide) (by rfl) ?_))) | fail
 k_with "exec Assign cons ListComp" => first | ((k_here;k_dflt (refine mo (F₀:=by k_asm) (by rfl) (by with_unfolding_all rfl) (by with_unfolding_all rfl) (by decide) (by rfl) (by decide) (by rfl) (by rfl) (by rfl) ?_))) | fail
 trivial
theorem Av {h₀ h:Heap} {L A1 A2:Addr} {o1 o2:Obj} {x0 x1 x2 x3 x4 x5 x6 x7 c1 c2 q:Addr × Obj} {r:List (Addr × Obj)} (N:News h₀ L h (x0::x1::x2::x3::x4::x5::x6::x7::c1::c2::q::r))
 (h1:(A1,o1)∈x0::x1::x2::x3::x4::x5::x6::x7::c1::c2::q::r) (h2:(A2,o2)∈x0::x1::x2::x3::x4::x5::x6::x7::c1::c2::q::r):News h₀ L h ((A1,o1)::(A2,o2)::c1::c2::q::r):=fun p hp=>by
 k_extra "ax"
 · exact N _ h1
 · k_extra "ax"
   · exact N _ h2
   · exact N _ (.tail _ (.tail _ (.tail _ (.tail _ (.tail _ (.tail _ (.tail _ (.tail _ hp))))))))
theorem su {a b:Str} (h:(a != b)=false):a=b:=by simpa using h
theorem tj {c:Str} (h1:(c.length:Int)≠0) (h2:(c != Str.ofString ".")=true):(some c).toList.filter cQ=[c]:=by
 have h3:c.length≠0:=by k_extra "g"
 have h4:c≠Str.ofString "." := by simpa using h2
 simp [cQ,h3,h4]
theorem tt {c:Str} (h1:(c.length:Int)=0):(some c).toList.filter cQ=[]:=by
 have h3:c.length=0:=by (exact Nat.le_antisymm (zae [_] 1 qA (zn 0) [(1,qA,zn 0)] rfl (zle (ziq h1))) (zae [_] 1 (zn 0) qA [] rfl))
 simp [cQ,h3]
theorem tm {c:Str} (h2:(c != Str.ofString ".")=false):(some c).toList.filter cQ=[]:=by
 have h4:c=Str.ofString "." := by simpa using h2
 simp [cQ,h4]
theorem k0 {l:List (Str × Tok)} {r:List Str} {x c:Str} (h:l.map (·.1)=r) (hl:∀ z:Str,z∈l.map (fun x=>x.1)→z.length≤x.length) (hc:c∈r):c.length≤x.length:=hl c (h ▸ hc)
theorem jI {l:List (Str × Tok)} {r:List Str} (h:l.map (·.1)=r) (hS:StrsAre (strValues l) (l.map (·.1))):StrsAre (strValues l) r:=h ▸ hS
namespace K
namespace V11
theorem common_c_m:lK w p loose mean mg mb news dp un gd env outer A₀ base h₀ L m s Q E H a b ta tb c g' L' h':=by
 intro B F N T hf hk hd hu ha hb ha2 hsa5 hsb5 hb2 hwa hwb ret X
 revert X;k_fill;intro X
 k_dflt k_extra "x"
 have hL1:=iG l1.2 (Nat.le_succ L')
 have hL2:=iG l1.2 (Nat.le_add_right L' 2)
 ktr_unf
 rename ∀ p∈(_:List (Addr × Obj)),p.1 < (_:Nat)=>hlt
 have hIn:=fun p hp=>Nat.ne_of_lt (hlt p hp)
 have hn2:[Value.str a ta,Value.str b tb].length≤100000:=by rw [List.length_cons,List.length_cons,List.length_nil];k_extra "g"
 refine' wq (vals:=[.str a ta,.str b tb]) rfl hn2 ?F ?N ?l hIn ?z1 ?z2 ?fc ?_
 case F=>k_asm
 case N=>k_asm
 case l=>k_mem
 case z1=>exact Nat.ne_of_gt (Nat.lt_trans (by assumption) (by assumption))
 case z2=>exact Nat.ne_of_gt (by assumption)
 case fc =>
  intro v hv h tk led F1 N1
  obtain ⟨x,tx,rfl⟩:∃ x t,v = .str x t:=by
   rcases List.mem_cons.mp hv with rfl | hv
   · exact ⟨_,_,rfl⟩
   · rw [List.mem_singleton.mp hv];exact ⟨_,_,rfl⟩
  refine ui (by k_asm) F1 (by k_asm) N1 (by k_asm) rfl rfl (by ktr_room) (by ktr_units) ?_
  exact fun h1 tk1 F2 N2=>⟨h1,tk1,rfl,rfl,F2,N2⟩
 intro T9 h9 tk9 F9 N9 l9;k_lt l9
 ktr_unf
 refine wb rfl (by k_asm) (by k_asm) (by k_mem) (by size_fits) ?_
 intro g'
 (show LCg.CompRest _ _ _ _ _ _ _ _ _ _ _ _ _ _ _ 2 0 [] _)
 ktr_unf
 rename News _ _ _ _=>lN9
 refine' gW (by assumption) lN9 ?x1 ?x2 ?x3 ?off ?S ?_
 case x1=>exact eK (by assumption) (List.Mem.head _)
 case x2=>exact eK (by assumption) (List.Mem.tail _ (List.Mem.head _))
 case x3=>exact eK (by assumption) (List.Mem.tail _ (List.Mem.tail _ (List.Mem.head _)))
 case off=>assumption
 case S=>exact ⟨_,by k_mem,rfl,_,rfl⟩
 ktr_unf
 rename News _ _ _ _=>lN9
 refine' gW (by assumption) lN9 ?x1 ?x2 ?x3 ?off ?S ?_
 case x1=>exact eK (by assumption) (List.Mem.head _)
 case x2=>exact eK (by assumption) (List.Mem.tail _ (List.Mem.head _))
 case x3=>exact eK (by assumption) (List.Mem.tail _ (List.Mem.tail _ (List.Mem.head _)))
 case off=>assumption
 case S=>exact ⟨_,by k_mem,rfl,_,rfl⟩
 ktr_unf
 refine rJ (by k_asm) (by with_unfolding_all rfl) (by decide) (by rfl) (by decide) (by rfl) ?_
 walk1
 refine ⟨_,_,_,_,rfl,rfl,(by k_asm),(by k_asm),(by k_mem),(by simp),?turn,?fin⟩
 case turn =>
  intro v hv I2 oI2 C2 oC2 D2 oD2 m2 h2 tk2 E2 hC2 hm2 F2 N2
  obtain ⟨x,tx,rfl,hxs⟩:∃ x t,v = .str x t∧Txt.startswith x (Str.ofString "/")=true:=by
   simp only [List.mem_toArray,List.mem_cons,List.not_mem_nil,or_false] at hv
   rcases hv with rfl | rfl
   · exact ⟨_,_,rfl,ha2⟩
   · exact ⟨_,_,rfl,hb2⟩
  ktr_unf
  all_goals (first | assumption | (rw [hxs];done) | exact congrArg _ hxs)
 case fin =>
  intro D2 h2 tk2 F2 N2 hD2
  k_lt hD2
  rw [PyProof.Rows.assign_Tuple]
  refine wpAny_bind (wpAny_standAt (tY rfl (N2 _ (List.Mem.head _)).1 fun h3 hk3 => ?_))
  have F3:=F2.keeps hk3
  have N3:=N2.grown hk3
  clear F2 N2
  refine assignInOrder_cons ?_
  ktr_unf
  refine xJ rfl (by k_asm) (by k_asm) (by k_mem) (by size_fits) ?_
  intro g'
  (show LCg.CompRest _ _ _ _ _ _ _ _ _ _ _ _ _ _ _ 2 0 [] _)
  ktr_unf
  have hsa:=jI ‹_=Txt.split a (Str.ofString "/")› (by assumption)
  k_extra "gs"
  case hsz=>rw [List.size_toArray,hsa.len_eq,sizeLine_eq];(exact zae [_] 1 qA (zn 16777216) [(1,qA,zn 1000)] rfl hsa5)
  intro g5
  refine rm (fun i ys nw=>nw=_∧StrsAre ys (((Txt.split a (Str.ofString "/")).take i).filter cQ)) ⟨rfl,.nil⟩ ?turnT ?finT
  case turnT =>
   intro i ys nw hi hr1q
   refine bV (hr1q) ?_
   (try clear hr1q);rintro rfl hY
   k_extra "dn"
   k_extra "cm"
   refine aV (hsa.item _ _ hv5) ?_
   rintro c5 t5 rfl hc5
   have hcl:c5.length≤100000:=Nat.le_trans (k0 ‹_=Txt.split a (Str.ofString "/")› (by assumption) (List.mem_of_getElem? hc5)) (by exact zae [_] 1 qA (zn 100000) [(1,qA,zn 1000)] rfl ha)
   ktr_unf
   k_extra "cy"
   all_goals (rw [List.take_add_one,hc5,List.filter_append])
   all_goals first
    | (rw [show (some c5).toList.filter cQ=[c5] from tj (by assumption) (by assumption)];exact StrsAre.snoc hY _ _)
    | (rw [show (some c5).toList.filter cQ=[] from tt (by assumption),List.append_nil];exact hY)
    | (rw [show (some c5).toList.filter cQ=[] from tm (by assumption),List.append_nil];exact hY)
  case finT =>
  intro ysa nw hr2q
  refine bV (hr2q) ?_
  (try clear hr2q);rintro rfl hYa
  rw [List.size_toArray,hsa.len_eq,List.take_length] at hYa
  ktr_unf
  refine' gW (by assumption) (by assumption) ?x1 ?x2 ?x3 ?off ?S ?_
  case x1=>k_ne
  case x2=>k_ne
  case x3=>k_ne
  case off=>assumption
  case S=>exact Or.inr ⟨_,by k_mem,rfl,_,rfl⟩
  ktr_unf
  have hsb:=jI ‹_=Txt.split b (Str.ofString "/")› (by assumption)
  k_extra "gs"
  case hsz=>rw [List.size_toArray,hsb.len_eq,sizeLine_eq];(exact zae [_] 1 qA (zn 16777216) [(1,qA,zn 1000)] rfl hsb5)
  intro g5
  refine rm (fun i ys nw=>nw=_∧StrsAre ys (((Txt.split b (Str.ofString "/")).take i).filter cQ)) ⟨rfl,.nil⟩ ?turnT ?finT
  case turnT =>
   intro i ys nw hi hr3q
   refine bV (hr3q) ?_
   (try clear hr3q);rintro rfl hY
   k_extra "dn"
   k_extra "cm"
   refine aV (hsb.item _ _ hv5) ?_
   rintro c5 t5 rfl hc5
   have hcl:c5.length≤100000:=Nat.le_trans (k0 ‹_=Txt.split b (Str.ofString "/")› (by assumption) (List.mem_of_getElem? hc5)) (by exact zae [_] 1 qA (zn 100000) [(1,qA,zn 1000)] rfl hb)
   ktr_unf
   k_extra "cy"
   all_goals (rw [List.take_add_one,hc5,List.filter_append])
   all_goals first
    | (rw [show (some c5).toList.filter cQ=[c5] from tj (by assumption) (by assumption)];exact StrsAre.snoc hY _ _)
    | (rw [show (some c5).toList.filter cQ=[] from tt (by assumption),List.append_nil];exact hY)
    | (rw [show (some c5).toList.filter cQ=[] from tm (by assumption),List.append_nil];exact hY)
  case finT =>
  intro ysb nw hr4q
  refine bV (hr4q) ?_
  (try clear hr4q);rintro rfl hYb
  rw [List.size_toArray,hsb.len_eq,List.take_length] at hYb
  ktr_unf
  refine' gW (by assumption) (by assumption) ?x1 ?x2 ?x3 ?off ?S ?_
  case x1=>k_ne
  case x2=>k_ne
  case x3=>k_ne
  case off=>assumption
  case S=>exact Or.inr ⟨_,by k_mem,rfl,_,rfl⟩
  ktr_unf
  k_extra "ay"
  (with_reducible rename News _ _ _ ((_,LCg.lst [Value.ref _,Value.ref _])::(_,LCg.lst ysb)::(_,LCg.lst ysa)::_)=>lN')
  refine Ce (Cy lN' (a:=_) (b:=_) (va:=ysa) (vb:=ysb) (List.Mem.tail _ (List.Mem.tail _ (List.Mem.head _))) (List.Mem.tail _ (List.Mem.head _)) hYa hYb) ?_
  intro A1 v1 p1 A2 v2 p2 e1 e2 hm1 hS1 hm2 hS2 hlx hlcp hp1 hwp1
  have F5:=aK (aK (aK lF' (x:=Str.ofString "s1") (v := .ref A1) (congrArg (fun z=>some (Value.ref z)) e1)) (x:=Str.ofString "s2") (v := .ref A2) (congrArg (fun z=>some (Value.ref z)) e2)) (x:=Str.ofString "common") (v := .ref A1) (congrArg (fun z=>some (Value.ref z)) e1)
  have N5:=Av lN' hm1 hm2
  have hw1:=qm cQ (Txt.split a (Str.ofString "/"))
  have hw2:=qm cQ (Txt.split b (Str.ofString "/"))
  have hw3:wt p1≤1000000:=by (exact zae [_,_,_,_,_] 1 qA (zn 1000000) [(1,qB,qC),(1,qD,qE),(1,qA,zp qD qB),(1,qC,zn 100000),(1,qE,zn 100000)] rfl hw2 hw1 hwp1 hwb hwa)
  have hw4:wt (p1.take (aI p1 p2))≤1000000:=Nat.le_trans (ut _ _) hw3
  have hf1:=List.length_filter_le cQ (Txt.split a (Str.ofString "/"))
  have hf2:=List.length_filter_le cQ (Txt.split b (Str.ofString "/"))
  have hl3:p1.length≤10000:=by (exact zae [_,_,_,_,_] 1 qA (zn 10000) [(1,qB,qC),(1,qD,qE),(1,qA,zp qD qB),(1,qC,zn 1000),(1,qE,zn 1000)] rfl hf2 hf1 hp1 hsb5 hsa5)
  clear hf1 hf2 hw1 hw2 hwp1 hp1 hwa hwb ha hb hsa5 hsb5
  have hl1:=hS1.len_eq
  have hl2:=hS2.len_eq
  have hcw:Str.ofString "/" ++ Txt.join (Str.ofString "/") (p1.take (aI p1 p2))=aU a b:=by rw [hlcp];rfl
  refine For_turns F5 ?_
  clear lF' lN'
  ktr_unf
  k_extra "ay"
  k_extra "az"
  refine ktu_enum (vs:=v1) rfl lF' lN' (List.Mem.head _) rfl rfl rfl (fun I hI=>xC (fun i m' nw=>nw=_∧m' (Str.ofString "common")=some (.ref A1)∧m' (Str.ofString "s1")=some (.ref A1)∧m' (Str.ofString "s2")=some (.ref A2)∧m' (Str.ofString "isabs")=some (.bool true)∧p1.take i=p2.take i) ⟨rfl,rfl,rfl,rfl,rfl,rfl⟩ ?turn ?done)
  case turn =>
   intro i a v h tk m₁ nw₁ hx hav hr5q
   refine jA (hr5q) ?_
   (try clear hr5q);rintro rfl hk1 hk2 hk3 hk4 hk5
   intro F₁
   refine AllObj.cons fun o1 ho1=>AllObj.cons fun o2 ho2=>AllObj.nil fun N₁ => ?_
   have hi:i < v1.length:=by
    have:=(List.getElem?_eq_some_iff.mp hx).1
    rwa [enumItems_length] at this
   have hv1:=List.getElem?_eq_getElem hi
   refine aV (hS1.item _ _ hv1) ?_
   intro c5 t5 e5 hc5
   rw [e5] at hv1
   have hx2:=enumItems_get v1 0 i hv1
   rw [hx2] at hx
   cases hx
   refine aV (hav) ?_
   (try clear hav);rintro T tT rfl hT
   k_extra "cl"
   clear F₁ lF' lN'
   have hi2:=mD hlx hk5 (by exact zal [_,_,_] 1 qB qA [(1,zu qB,qC),(1,qC,qA)] rfl hi (zle hl1))
   dsimp only at hT
   rw [Nat.zero_add] at hT
   simp only [List.cons_append,List.nil_append] at N₁
   ktr_unf
   · rename (_ != _)=true=>hne
     rename p2[_]? = _=>hq2
     rw [Int.toNat_natCast] at hq2
     have hl:=Bn hk5 hc5 hq2 (by simpa using hne)
     rw [hl] at hcw hw4
     rename News _ _ _ _=>lN9
     rw [gT] at lN9
     refine tB lN9 (.head _) rfl rfl (StrsAre.take' hS1 i) hw4 (by decide) ?_
     intro t8 k8 hj8
     ktr_unf
     rw [hcw]
     k_extra "lf"
     refine ret _ _ _ ?ra ?rb
     case ra=>k_asm
     case rb=>(refine' cb_drop ?rx ?ry;(case rx=>assumption);(case ry=>(intro p hp;repeat (first | exact hp | exact List.Mem.head _ | refine List.Mem.tail _ ?_))))
   · rename (_ != _)=false=>hne
     rename p2[_]? = _=>hq2
     rw [Int.toNat_natCast] at hq2
     rw [← su hne] at hq2
     refine zo (by assumption) (by assumption) hI ⟨⟨List.Mem.head _,trivial⟩,rfl,rfl,rfl,rfl,rfl,wB hk5 hc5 hq2⟩
  case done =>
   intro m₁ nw₁ h tk hr6q
   refine jA (hr6q) ?_
   (try clear hr6q);rintro rfl hk1 hk2 hk3 hk4 hk5
   intro F₁ N₁
   k_extra "cl"
   clear F₁ lF' lN'
   rw [enumItems_length,hl1] at hk5
   rw [Ax hk5,List.take_length] at hcw
   ktr_unf
   rw [hcw]
   k_extra "lf"
   refine ret _ _ _ ?rc ?rd
   case rc=>k_asm
   case rd=>(refine' cb_drop ?rx ?ry;(case rx=>assumption);(case ry=>(intro p hp;repeat (first | exact hp | exact List.Mem.head _ | refine List.Mem.tail _ ?_))))
end V11
end K
theorem pJ:∀ v,pL v:=ch1 (l:=PL.drop 26) BV K.V11.common_c_m
theorem BU:Ch (PL.drop 26) oV:=ch2 (l:=PL.drop 26) BV pJ
theorem zA {ta:Tok} {tb:Tok}:pK w p loose mean mg mb news dp un gd env outer A₀ base h₀ L m s Q E H a b ta tb c:=(pI w p loose mean mg mb news dp un gd env outer A₀ base h₀ L m s Q E H a b ta tb c).2 fun g' L' h'=>pJ { oV with w,p,loose,mean,mg,mb,news,dp,un,gd,env,outer,A₀,base,h₀,L,m,s,Q,E,q4:=H,q12:=a,q13:=b,q26:=ta,q29:=tb,q8:=c,q27:=g',q3:=L',q28:=h' }
end
section
theorem kw_A19_0:True:=by
 w_top off
 k_with "unf" => repeat' k_extra "u"
 k_with "subscriptTail Name Slice ref ref" => first | k_extra "j" | fail
 k_with "subscriptTail Name Slice ref ref" => first | k_extra "q" | fail
 k_with "binaryOp Add ref ref" => first | ((k_here;(fail_if_success (fail_if_success (with_reducible show wpAny _ _ (binaryOp _ (Value.ref _) (Value.ref _)) _ _ _)));k_dflt (refine' AG (by k_asm) (by k_asm) (by k_mem) (by exact rfl) (by exact rfl) (by k_mem) (by exact rfl) (by exact rfl) ?_ (by first | k_extra "g" | (simp only [List.length_reverse,List.length_cons,List.length_nil];k_extra "g")));intro D'q9 h'q9 F'q9 N'q9 l1q9;(try k_lt l1q9);(try k_sweep))) | fail
 k_with "call ref" => first | ((k_here;k_dflt (refine' zA (by k_asm) (by k_asm) (by k_asm) (by k_asm) (by k_asm) (by exact rfl) (by exact rfl) (by ktr_room) (by ktr_units) (by k_extra "g") (by k_extra "g") (by with_reducible assumption) (by k_extra "g") (by k_extra "g") (by with_reducible assumption) (by k_extra "g") (by k_extra "g") ?_;k_whole;intro t9q9 h9q9 tk9q9 F9q9 N9q9;(try dsimp only);(try k_fold)))) | fail
 k_with "call ref" => first | ((k_here;k_dflt (refine' rk (by k_asm) (by k_asm) (by k_asm) (by k_asm) (by k_asm) (by exact rfl) (by exact rfl) (by ktr_room) (by ktr_units) (by k_extra "g") ?_;k_whole;intro t9q9 h9q9 tk9q9 F9q9 N9q9;(try dsimp only);(try k_fold)))) | fail
 k_with "call ref" => first | ((k_here;k_dflt (refine' z5 (by k_asm) (by k_asm) (by k_asm) (by k_asm) (by k_asm) (by exact rfl) (by exact rfl) (by ktr_room) (by ktr_units) (by k_extra "g") ?_;k_whole;intro D9q9 t91q9 t92q9 h9q9 tk9q9 F9q9 N9q9;(try dsimp only);(try k_fold)))) | fail
 k_with "call ref" => first | ((k_here;k_dflt (refine' xu (by k_asm) (by k_asm) (by k_asm) (by k_asm) (by k_asm) (by exact rfl) (by exact rfl) (by ktr_room) (by ktr_units) (by k_extra "g") (by k_extra "g") ?_;k_whole;intro t9q9 h9q9 tk9q9 F9q9 N9q9;(try dsimp only);(try k_fold)))) | fail
 trivial
theorem xI (x:Str):(cM x).length≤x.length:=Txt.slice_le _ _ _
theorem km (x:Str):(bJ x).length≤x.length:=Txt.slice_le _ _ _
theorem lJ (x:Str):(aR x).length≤x.length:=by
 have:=xI x
 unfold aR
 split
 · exact this
 · split
   · exact Nat.le_trans (len_rstripChars _ _) this
   · exact this
theorem rT (both x:Str):∀ n,(aZ (cR both) n (x,0)).1.length≤x.length∧(aZ (cR both) n (x,0)).2≤n
 | 0=>⟨Nat.le_refl _,Nat.le_refl _⟩
 | n+1=>by
  have h:=rT both x n
  have h2:=lJ (aZ (cR both) n (x,0)).1
  rw [aZ,cR]
  split
  · exact ⟨h.1,Nat.le_succ_of_le h.2⟩
  · exact ⟨Nat.le_trans h2 h.1,Nat.succ_le_succ h.2⟩
theorem sG (both x:Str):∀ n,(aZ (cI both) n (x,[])).1.length≤x.length∧(aZ (cI both) n (x,[])).2.length≤n ∧ ∀ y∈(aZ (cI both) n (x,[])).2,y.length≤x.length
 | 0=>⟨Nat.le_refl _,Nat.le_refl _,fun _ h=>nomatch h⟩
 | n+1=>by
  have h:=sG both x n
  have h2:=lJ (aZ (cI both) n (x,[])).1
  have h3:=km (aZ (cI both) n (x,[])).1
  rw [aZ,cI]
  split
  · exact ⟨h.1,Nat.le_succ_of_le h.2.1,h.2.2⟩
  · refine ⟨Nat.le_trans h2 h.1,?_,fun y hy => ?_⟩
    · rw [List.length_append];exact Nat.succ_le_succ h.2.1
    · rcases List.mem_append.mp hy with hy | hy
      · exact h.2.2 y hy
      · rw [List.mem_singleton.mp hy];exact Nat.le_trans h3 h.1
theorem ix (x y:Str):(aG x y).length≤x.length+1+y.length:=by
 have h1:(Str.ofString "/").length=1:=by decide
 unfold aG
 split
 · (exact zae [_,_] 1 qB (zp (zu qA) qB) [] rfl)
 · split
   · (exact zae [_,_] 1 qB (zp (zu qA) qB) [] rfl)
   · split
     · rw [Str.length_append];(exact zae [_,_] 1 (zp qA qB) (zp (zu qA) qB) [] rfl)
     · rw [Str.length_append,Str.length_append,h1];(exact zae [_,_] 1 (zp qA (zp (zn 1) qB)) (zp (zu qA) qB) [] rfl)
theorem re:∀ (l:List Str) (x:Str),(l.foldl aG x).length≤x.length+wt l
 | [],x=>by simp [wt]
 | a::l,x=>by
  have h:=re l (aG x a)
  have h2:=ix x a
  k_extra "d3"
  k_extra "et"
  rw [List.foldl_cons];(exact zae [_,_,_,_,_,_,_] 1 qC (zp qA qB) [(1,zu qD,qE),(1,zp qE qF,qB),(1,qG,zp (zu qA) qD),(1,qC,zp qG qF)] rfl (zge h4) (zge h3) h2 h)
theorem Cw {l:List Str} {b:Nat} (h:∀ y∈l,y.length≤b):wt l≤l.length * (b+1):=by
 induction l with
 | nil=>simp [wt]
 | cons a l ih =>
  k_extra "d3"
  k_extra "et"
  have h5:=ih fun y hy=>h y (.tail _ hy)
  have h6:=h a (.head _)
  k_extra "cp"
theorem wP {α:Type} (p s t n u h : α) (r:List α):∀ x∈u::p::n::h::r,x∈p::s::t::n::u::h::r:=bP [[_],[_],[_],[_],_,[_],[_]] (zp qA (zp qB (zp qC (zp qD qE)))) (zp qB (zp qF (zp qG (zp qC (zp qA (zp qD qE)))))) rfl
theorem vE {α:Type} (p s u q n h : α) (r:List α):∀ x∈n::p::u::h::r,x∈p::s::u::q::n::h::r:=bP [[_],[_],[_],[_],_,[_],[_]] (zp qA (zp qB (zp qC (zp qD qE)))) (zp qB (zp qF (zp qC (zp qG (zp qA (zp qD qE)))))) rfl
theorem vp (l:List Str):wt l.reverse=wt l:=by unfold wt;rw [List.map_reverse,List.sum_reverse,List.length_reverse]
theorem vD {α:Type} (x y n q u h : α) (r:List α):∀ p∈x::r,p∈x::y::n::q::u::h::r:=bP [[_],_,[_],[_],[_],[_],[_]] (zp qA qB) (zp qA (zp qC (zp qD (zp qE (zp qF (zp qG qB)))))) rfl
theorem AX {l:List Str} {c:Str} (h:c∈l):c.length≤wt l:=by
 induction l with
 | nil=>cases h
 | cons a l ih =>
  k_extra "d3"
  k_extra "et"
  k_extra "gb"
  · (exact zae [_,_,_,_] 1 qB qA [(1,zu qB,qC),(1,zp qC qD,qA)] rfl (zge h4) (zge h3))
  · have:=ih h;(exact zae [_,_,_,_,_] 1 qB qA [(1,qB,qC),(1,zu qD,qE),(1,zp qE qC,qA)] rfl this (zge h4) (zge h3))
theorem se (ws:List Value):slicePick ws.toArray (some 1) none none=(ws.drop 1).toArray:=uK ws 1
theorem rp {ws:List Value} {n:Nat} {v:Str} (h:StrsAre ws (List.replicate n v)) (t:Tok):StrsAre (ws++[.str v t]) (List.replicate (n+1) v):=by
 rw [List.replicate_succ'];exact StrsAre.snoc h _ _
theorem yB {ws:List Value} {ys:List Str} (h:StrsAre ws ys):StrsAre ws.reverse ys.reverse:=by
 induction h with
 | nil=>exact .nil
 | cons y t r ih=>rw [List.reverse_cons,List.reverse_cons];exact StrsAre.snoc ih _ _
namespace K
namespace V11
theorem link_c_m:o6 w p loose mean mg mb news dp un gd env outer A₀ base h₀ L m s Q E a b ta tb g' L' h':=by
 intro B F N T hf hk hd hu ha hb ha2 hb2 ret X
 revert X;k_fill;intro X
 k_dflt k_extra "k"
 have hwa:wt (Txt.split a (Str.ofString "/"))≤101:=by have:=split_weight a (Str.ofString "/") (by decide);unfold wt;(exact zae [_,_,_] 1 (zp qA qB) (zn 101) [(1,zp qA qB,zu qC),(1,qC,zn 100)] rfl this ha)
 have hwb:wt (Txt.split b (Str.ofString "/"))≤101:=by have:=split_weight b (Str.ofString "/") (by decide);unfold wt;(exact zae [_,_,_] 1 (zp qA qB) (zn 101) [(1,zp qA qB,zu qC),(1,qC,zn 100)] rfl this hb)
 have hla:(Txt.split a (Str.ofString "/")).length≤101:=by unfold wt at hwa;(exact zae [_,_] 1 qA (zn 101) [(1,zp qB qA,zn 101)] rfl hwa)
 have hlb:(Txt.split b (Str.ofString "/")).length≤101:=by unfold wt at hwb;(exact zae [_,_] 1 qA (zn 101) [(1,zp qB qA,zn 101)] rfl hwb)
 ktr_unf
 k_extra "ay"
 k_extra "bu"
 ktr_unf
 k_extra "ay"
 k_extra "az"
 rename List (Str × Tok)=>l
 rename List.map _ l=_=>hl
 rename StrsAre _ _=>hS
 rw [hl] at hS
 rw [se] at lN'
 have hSd:=kr hS 1
 generalize (strValues l).drop 1=vs at *
 have N2:=cb_drop lN' (wP _ _ _ _ _ _ _)
 refine dE rfl (List.Mem.tail _ (List.Mem.head _)) rfl rfl lF' N2 (fun I h' S=>dA S (fun p hp=>by rw [List.mem_singleton.mp hp];exact List.Mem.head _) ?hne (fun lc i m' ws tl=>tl=[]∧(∃ t,m' (Str.ofString "here")=some (.str (aZ (cR (aU a b)) i (a,0)).1 t))∧(∃ t,m' (Str.ofString "both")=some (.str (aU a b) t))∧(∃ t,m' (Str.ofString "place")=some (.str b t))∧(∃ t,m' (Str.ofString "text")=some (.str (Str.ofString "") t))∧m' (Str.ofString "ups")=some (.ref lc)∧m' (Str.ofString "names")=some (.ref _)∧StrsAre ws (List.replicate (aZ (cR (aU a b)) i (a,0)).2 (Str.ofString ".."))) ⟨rfl,⟨_,rfl⟩,⟨_,rfl⟩,⟨_,rfl⟩,⟨_,rfl⟩,rfl,rfl,.nil⟩ ?turn ?done)
 case hne=>(k_all)
 case turn =>
  intro i v m₁ wt n tl it h tk hi hv hr1q
  refine pF (hr1q) ?_
  (try clear hr1q);rintro rfl ⟨t1,hm1⟩ ⟨t2,hm2⟩ ⟨t3,hm3⟩ ⟨t4,hm4⟩ hm5 hm6 hW
  intro ho hI hoff F₁ N₁
  k_extra "bq"
  k_extra "fh"
  try dsimp only at hm6
  have hb1:=rT (aU a b) a i
  have hst:aZ (cR (aU a b)) (i+1) (a,0)=cR (aU a b) (aZ (cR (aU a b)) i (a,0)):=rfl
  generalize aZ (cR (aU a b)) i (a,0)=st at *
  obtain ⟨hx,ux⟩:=st
  try dsimp only at hb1 hW hm1
  have hi2:vs.length=(Txt.split a (Str.ofString "/")).length - 1:=by rw [hSd.len_eq,List.length_drop]
  have hwl:=hW.len_eq
  rw [List.length_replicate] at hwl
  clear F₁ lF' lN'
  ktr_unf
  all_goals (show aX _ _ _ _ _ _ _)
  · rename (_ != _)=true=>hq
    have e:hx≠aU a b:=by simpa using hq
    rw [cR,if_neg e] at hst
    refine dS.intro (by assumption) (by assumption) _ _ [] (fun p hp=>hp) ?_ ho ⟨rfl,⟨_,by rw [hst];rfl⟩,⟨_,rfl⟩,⟨_,rfl⟩,⟨_,rfl⟩,rfl,rfl,by rw [hst];exact rp hW _⟩
    exact aJ hI hoff
  · rename (_ != _)=false=>hq
    have e:hx=aU a b:=by simpa using hq
    rw [cR,if_pos e] at hst
    refine dS.intro (by assumption) (by assumption) _ _ [] (fun p hp=>hp) ?_ ho ⟨rfl,⟨_,by rw [hst];rfl⟩,⟨_,rfl⟩,⟨_,rfl⟩,⟨_,rfl⟩,rfl,rfl,by rw [hst];exact hW⟩
    exact aJ hI hoff
 case done =>
  intro m₁ wU nU tl h tk hr2q
  refine pF (hr2q) ?_
  (try clear hr2q);rintro rfl ⟨t1,hm1⟩ ⟨t2,hm2⟩ ⟨t3,hm3⟩ ⟨t4,hm4⟩ hm5 hm6 hWU
  intro ho F₁ N₁
  try dsimp only at hm6
  k_extra "bq"
  k_extra "cx"
  rw [hSd.len_eq,List.length_drop] at hWU
  clear F₁ lF' lN' N2
  ktr_unf
  k_extra "ay"
  k_extra "bu"
  ktr_unf
  k_extra "ay"
  k_extra "az"
  rename List (Str × Tok)=>l2
  rename List.map _ l2=_=>hl2
  rename StrsAre (strValues l2) _=>hS2
  rw [hl2] at hS2
  rw [se] at lN'
  have hSe:=kr hS2 1
  generalize (strValues l2).drop 1=vs2 at *
  have N2:=cb_drop lN' (vE _ _ _ _ _ _ _)
  have hvl:=hSe.len_eq
  rw [List.length_drop] at hvl
  have hwu:=hWU.len_eq
  rw [List.length_replicate] at hwu
  have hul:=(rT (aU a b) a ((Txt.split a (Str.ofString "/")).length - 1)).2
  clear hS hSd hS2 hl hl2
  refine dE rfl (List.Mem.tail _ (List.Mem.head _)) rfl rfl lF' N2 (fun I h' S=>dA S (fun p hp=>by rw [List.mem_singleton.mp hp];exact List.Mem.head _) ?hne2 (fun lc i m' ws tl=>tl=[]∧(∃ t,m' (Str.ofString "place")=some (.str (aZ (cI (aU a b)) i (b,[])).1 t))∧(∃ t,m' (Str.ofString "both")=some (.str (aU a b) t))∧(∃ t,m' (Str.ofString "text")=some (.str (Str.ofString "") t))∧m' (Str.ofString "names")=some (.ref lc)∧m' (Str.ofString "ups")=some (.ref _)∧StrsAre ws (aZ (cI (aU a b)) i (b,[])).2) ⟨rfl,⟨_,rfl⟩,⟨_,rfl⟩,⟨_,rfl⟩,rfl,rfl,.nil⟩ ?turn2 ?done2)
  case hne2=>(k_all)
  case turn2 =>
   intro i v m₁ wt n tl it h tk hi hv hr3q
   refine iA (hr3q) ?_
   (try clear hr3q);rintro rfl ⟨t1,hm1⟩ ⟨t2,hm2⟩ ⟨t3,hm3⟩ hm4 hm5 hW
   intro ho hI hoff F₁ N₁
   k_extra "bz"
   k_extra "fh"
   try dsimp only at hm5
   have hb1:=sG (aU a b) b i
   have hst:aZ (cI (aU a b)) (i+1) (b,[])=cI (aU a b) (aZ (cI (aU a b)) i (b,[])):=rfl
   generalize aZ (cI (aU a b)) i (b,[])=st at *
   obtain ⟨px,nx⟩:=st
   try dsimp only at hb1 hW hm1
   refine cA (hb1) ?_
   (try clear hb1);intro hb2 hb3 hb4
   clear hb4
   have hwl:=hW.len_eq
   clear F₁ lF' lN'
   ktr_unf
   · rename News _ _ _ _=>lN9
     have lN8:=cb_drop lN9 (fun p hp => .tail _ hp)
     clear lN9
     ktr_unf
     rename (_ != _)=true=>hq
     show aX _ _ _ _ _ _ _
     have e:px≠aU a b:=by simpa using hq
     rw [cI,if_neg e] at hst
     refine dS.intro (by assumption) (by assumption) _ _ [] (fun p hp=>hp) ?_ ho ⟨rfl,⟨_,by rw [hst];rfl⟩,⟨_,rfl⟩,⟨_,rfl⟩,rfl,rfl,by rw [hst];exact StrsAre.snoc hW _ _⟩
     exact aJ hI hoff
   · rename (_ != _)=false=>hq
     show aX _ _ _ _ _ _ _
     have e:px=aU a b:=by simpa using hq
     rw [cI,if_pos e] at hst
     refine dS.intro (by assumption) (by assumption) _ _ [] (fun p hp=>hp) ?_ ho ⟨rfl,⟨_,by rw [hst];rfl⟩,⟨_,rfl⟩,⟨_,rfl⟩,rfl,rfl,by rw [hst];exact hW⟩
     exact aJ hI hoff
  case done2 =>
   intro m₁ wN nN tl h tk hr4q
   refine iA (hr4q) ?_
   (try clear hr4q);rintro rfl ⟨t1,hm1⟩ ⟨t2,hm2⟩ ⟨t3,hm3⟩ hm4 hm5 hWN
   intro ho F₁ N₁
   k_extra "bz"
   k_extra "cx"
   try dsimp only at hm5
   rw [hvl] at hWN
   have hwn:=hWN.len_eq
   refine cA (sG (aU a b) b ((Txt.split b (Str.ofString "/")).length - 1)) ?_
   rintro - hnl hny
   have hwtn:=Cw hny
   clear F₁ lF' lN' N2
   clear hny hvl
   have hSA:=StrsAre.append' hWU (yB hWN)
   have hlk:o7 a b=(List.replicate (aZ (cR (aU a b)) ((Txt.split a (Str.ofString "/")).length - 1) (a,0)).2 (Str.ofString "..")++(aZ (cI (aU a b)) ((Txt.split b (Str.ofString "/")).length - 1) (b,[])).2.reverse).foldl aG (Str.ofString ""):=rfl
   have hww:wt (List.replicate (aZ (cR (aU a b)) ((Txt.split a (Str.ofString "/")).length - 1) (a,0)).2 (Str.ofString "..")++(aZ (cI (aU a b)) ((Txt.split b (Str.ofString "/")).length - 1) (b,[])).2.reverse)≤20000:=by
    rw [cK,rS,vp]
    have h1:(Str.ofString "..").length=2:=by decide
    rw [h1]
    have h5:(aZ (cI (aU a b)) ((Txt.split b (Str.ofString "/")).length - 1) (b,[])).2.length * (b.length+1)≤100 * 101:=Nat.mul_le_mul (by k_extra "g") (by exact zae [_] 1 (zu qA) (zn 101) [(1,qA,zn 100)] rfl hb)
    k_extra "g"
   generalize hX:(List.replicate (aZ (cR (aU a b)) ((Txt.split a (Str.ofString "/")).length - 1) (a,0)).2 (Str.ofString "..")++(aZ (cI (aU a b)) ((Txt.split b (Str.ofString "/")).length - 1) (b,[])).2.reverse)=X at hSA hlk hww
   clear hX hwtn
   ktr_unf
   k_extra "ay"
   k_extra "bu"
   ktr_unf
   k_extra "ay"
   k_extra "az"
   have N3:=cb_drop lN' (vD _ _ _ _ _ _ _)
   have hxl:=hSA.len_eq
   refine dE rfl (List.Mem.head _) rfl rfl lF' N3 (fun I h' S=>kZ S (fun p hp=>by rw [List.mem_singleton.mp hp];exact List.Mem.head _) (fun i m' tl=>tl=[] ∧ ∃ t,m' (Str.ofString "text")=some (.str ((X.take i).foldl aG (Str.ofString "")) t)) ⟨rfl,_,rfl⟩ ?turn3 ?done3)
   case turn3 =>
    intro i v m₁ tl it h tk hi hv hr5q
    obtain ⟨rfl,t1,hm1⟩:=hr5q
    intro hoff F₁ N₁
    refine aV (hSA.item i v hv) ?_
    rintro c tc rfl hc
    have F₂:=aK F₁ (x:=Str.ofString "text") hm1
    simp only [List.nil_append] at N₁ hoff
    have hnx:(X.take (i+1)).foldl aG (Str.ofString "")=aG ((X.take i).foldl aG (Str.ofString "")) c:=by
     k_extra "ge"
    have hl5:=re (X.take i) (Str.ofString "")
    have hl6:=ut X i
    have hl7:(Str.ofString "").length=0:=by decide
    have hcl:c.length≤20000:=by
     have:=AX (List.mem_of_getElem? hc)
     (exact zae [_,_] 1 qA (zn 20000) [(1,qA,qB),(1,qB,zn 20000)] rfl this hww)
    rw [hl7] at hl5
    generalize (X.take i).foldl aG (Str.ofString "")=tx at *
    clear F₁ lF' lN' S
    ktr_unf
    show aX _ _ _ _ _ _ _
    refine gL.intro (by assumption) (by assumption) [] (fun p hp=>hp) hoff ⟨rfl,_,by rw [hnx];rfl⟩
   case done3 =>
    intro m₁ tl h tk hr6q
    obtain ⟨rfl,t1,hm1⟩:=hr6q
    intro F₁ N₁
    rw [hxl,List.take_length,← hlk] at hm1
    have F₂:=aK F₁ (x:=Str.ofString "text") hm1
    simp only [List.nil_append] at N₁
    clear F₁ lF' lN' N3
    ktr_unf
    refine ret _ _ _ ?ra ?rb
    case ra=>k_asm
    case rb=>(refine' cb_drop ?rx ?ry;(case rx=>assumption);(case ry=>(intro p hp;repeat (first | exact hp | exact List.Mem.head _ | refine List.Mem.tail _ ?_))))
end V11
end K
theorem sR:∀ v,sT v:=ch1 (l:=PL.drop 27) BU K.V11.link_c_m
theorem BT:Ch (PL.drop 27) oV:=ch2 (l:=PL.drop 27) BU sR
theorem xf {ta:Tok} {tb:Tok}:sS w p loose mean mg mb news dp un gd env outer A₀ base h₀ L m s Q E a b ta tb:=(sQ w p loose mean mg mb news dp un gd env outer A₀ base h₀ L m s Q E a b ta tb).2 fun g' L' h'=>sR { oV with w,p,loose,mean,mg,mb,news,dp,un,gd,env,outer,A₀,base,h₀,L,m,s,Q,E,q12:=a,q13:=b,q26:=ta,q29:=tb,q27:=g',q3:=L',q28:=h' }
end
section
theorem Dr {h₀ h:Heap} {L a b c d e:Addr} {o1 o2 o3 o4 o5:Obj} {r:List (Addr × Obj)} (N:News h₀ L h ((a,o1)::(b,o2)::(c,o3)::(d,o4)::(e,o5)::r)) :
 ∃ a' b' c' d' e':Addr,a'=a∧b'=b∧c'=c∧d'=d∧e'=e:=⟨_,_,_,_,_,rfl,rfl,rfl,rfl,rfl⟩
section
variable {G:Str→Prop} {start:Str} {places:List Str}
theorem sn {α:Type} (lt : α → α→Bool) {l:List α} {d : α} (h:l≠[]):(cZ lt l d).1∈l∧(∀ x∈(cZ lt l d).2,x∈l)∧(cZ lt l d).2.length+1=l.length:=by
 obtain ⟨r,a,rfl⟩:∃ r a,l=r++[a]:=by
  k_extra "d8"
  · exact absurd h2 h
  · exact ⟨r,a,by simpa using h2⟩
 unfold cZ
 have e:(r++[a]).getLastD d=a:=by rw [List.getLastD_eq_getLast?,List.getLast?_concat];rfl
 dsimp only
 rw [e,List.dropLast_concat]
 cases r with
 | nil=>exact ⟨by simp,fun x h=>(nomatch h),rfl⟩
 | cons b r =>
  refine ⟨by simp,fun x hx => ?_,?_⟩
  · dsimp only at hx
    rcases iO lt _ _ _ x hx with h1 | h1
    · rcases List.mem_cons.mp h1 with h1 | h1
      · rw [h1];simp
      · simp [h1]
    · rw [h1];simp
  · dsimp only
    rw [fS];simp
theorem wL {α:Type} (lt : α → α→Bool) {l:List α} {d : α}:(∀ x∈dI lt l d,x∈l∨x=d)∧(dI lt l d).length=l.length+1:=by
 unfold dI
 refine ⟨fun x hx => ?_,by rw [jX];simp⟩
 rcases jW lt _ _ _ _ x hx with h | h
 · rcases List.mem_append.mp h with h | h
   · exact .inl h
   · exact .inr (List.mem_singleton.mp h)
 · exact .inr h
theorem fT {text:Str}:∀ (ns:List Str) (H:List Ent),(∀ x∈cC text H ns,x∈H ∨ ∃ nm∈ns,x=((aG text nm).length,aG text nm))∧(cC text H ns).length=H.length+ns.length
 | [],H=>⟨fun x h => .inl h,rfl⟩
 | n::ns,H=>by
  have h1:=wL ltE (l:=H) (d:=((aG text n).length,aG text n))
  have h2:=fT (text:=text) ns (dI ltE H ((aG text n).length,aG text n))
  have e:cC text H (n::ns)=cC text (dI ltE H ((aG text n).length,aG text n)) ns:=rfl
  rw [e]
  refine ⟨fun x hx => ?_,by rw [h2.2,h1.2,List.length_cons];(exact Nat.le_antisymm (zae [_,_] 1 (zp (zu qA) qB) (zp qA (zu qB)) [] rfl) (zae [_,_] 1 (zp qA (zu qB)) (zp (zu qA) qB) [] rfl))⟩
  rcases h2.1 x hx with h | ⟨nm,h,rfl⟩
  · rcases h1.1 x h with h | h
    · exact .inl h
    · exact .inr ⟨n,.head _,h⟩
  · exact .inr ⟨nm,.tail _ h,rfl⟩
structure TInv (G:Str→Prop) (s:List Ent × List Row) (i:Nat):Prop where
 heap:∀ e∈s.1,G e.2∧e.2.length≤101 * i∧e.1=e.2.length
 told:∀ r∈s.2,PyData.strOk r.2.1=true∧PyData.strOk r.2.2=true
 hl:s.1.length≤1+21 * i
 tl:s.2.length≤i
theorem te {place:Str} (hGd:G (Str.ofString "..")) (hGb:∀ q∈places,G (bJ q)) (hpo:∀ q∈places,q.length≤100):∀ n∈dJ places place,G n∧n.length≤100:=by
 intro n hn
 rcases List.mem_cons.mp hn with rfl | hn
 · exact ⟨hGd,by decide⟩
 · refine aE (List.mem_map.mp hn) ?_
   rintro q hq rfl
   have hq:=(List.mem_filter.mp hq).1
   exact ⟨hGb q hq,Nat.le_trans (km q) (hpo q hq)⟩
theorem tg {place:Str}:(dJ places place).length≤1+places.length:=by
 unfold dJ
 rw [List.length_cons,List.length_map]
 have:=List.length_filter_le (fun q=>decide (aR q=place) && decide (q≠place)) places
 (exact zae [_,_] 1 (zu qB) (zp (zn 1) qA) [(1,qB,qA)] rfl this)
theorem r0 (hG0:G (Str.ofString "")) (hGj:∀ x y,G x→G y→G (aG x y)) (hGd:G (Str.ofString "..")) (hGb:∀ q∈places,G (bJ q)) (hGo:∀ x,G x→PyData.strOk x=true)
 (hpo:∀ q∈places,q.length≤100) (hpz:places.length≤20) (hGn:∀ t,G t→t.length≤10000→PyData.strOk (bZ (aG start t))=true) :
 ∀ i,i≤50→TInv G (aZ (cB start places) i ([(0,Str.ofString "")],[])) i
 | 0,_=>⟨fun e he=>by rw [List.mem_singleton.mp he];exact ⟨hG0,by decide,by decide⟩,fun r h=>(nomatch h),Nat.le_refl _,Nat.le_refl _⟩
 | i+1,hi=>by
  have ih:=r0 hG0 hGj hGd hGb hGo hpo hpz hGn i (by exact zae [_] 1 qA (zn 50) [(1,zu qA,zn 50)] rfl hi)
  rw [aZ]
  generalize aZ (cB start places) i ([(0,Str.ofString "")],[])=s at ih
  unfold cB
  split
  · exact ⟨fun e he=>by have:=ih.heap e he;exact ⟨this.1,by (exact zae [_,_] 1 qB (zk 101 (zu qA)) [(1,qB,zk 101 qA)] rfl this.2.1),this.2.2⟩,ih.told,by have:=ih.hl;(exact zae [_,_] 1 qB (zp (zn 1) (zk 21 (zu qA))) [(1,qB,zp (zn 1) (zk 21 qA))] rfl this),by have:=ih.tl;(exact zae [_,_] 1 qB (zu qA) [(1,qB,qA)] rfl this)⟩
  · rename_i hne
    have hp:=sn ltE (d:=(0,Str.ofString "")) hne
    generalize cZ ltE s.1 (0,Str.ofString "")=r at hp
    have hr:=ih.heap _ hp.1
    dsimp only
    split
    · exact ⟨fun e he=>by have:=ih.heap e (hp.2.1 e he);exact ⟨this.1,by (exact zae [_,_] 1 qB (zk 101 (zu qA)) [(1,qB,zk 101 qA)] rfl this.2.1),this.2.2⟩,ih.told,by have:=ih.hl;have:=hp.2.2;dsimp only;(exact zae [_,_,_] 1 qB (zp (zn 1) (zk 21 (zu qA))) [(1,zu qB,qC),(1,qC,zp (zn 1) (zk 21 qA))] rfl (zle this) ‹s.fst.length≤1+21 * i›),by have:=ih.tl;dsimp only;(exact zae [_,_] 1 qB (zu qA) [(1,qB,qA)] rfl this)⟩
    · have hk:=te (place:=bZ (aG start r.1.2)) hGd hGb hpo
      have hkl:=tg (places:=places) (place:=bZ (aG start r.1.2))
      have hpa:=fT (text:=r.1.2) (dJ places (bZ (aG start r.1.2))) r.2
      refine ⟨fun e he => ?_,fun x hx => ?_,?_,?_⟩
      · rcases hpa.1 e he with h | ⟨nm,hn,rfl⟩
        · have:=ih.heap e (hp.2.1 e h);exact ⟨this.1,by (exact zae [_,_] 1 qB (zk 101 (zu qA)) [(1,qB,zk 101 qA)] rfl this.2.1),this.2.2⟩
        · have h1:=hk nm hn
          have h2:=ix r.1.2 nm
          exact ⟨hGj _ _ hr.1 h1.1,by dsimp only;(exact zae [_,_,_,_] 1 qB (zk 101 (zu qA)) [(1,qB,zp (zu qC) qD),(1,qD,zn 100),(1,qC,zk 101 qA)] rfl h2 h1.2 hr.2.1),rfl⟩
      · rcases List.mem_append.mp hx with hx | hx
        · exact ih.told x hx
        · rw [List.mem_singleton.mp hx]
          exact ⟨hGo _ hr.1,hGn _ hr.1 (by exact zae [_,_] 1 qA (zn 10000) [(1,qA,zk 101 qB),(101,zu qB,zn 50)] rfl hr.2.1 hi)⟩
      · dsimp only;rw [hpa.2];have:=hp.2.2;have:=ih.hl;(exact zae [_,_,_,_,_] 1 (zp qB qC) (zp (zn 1) (zk 21 (zu qA))) [(1,qD,zp (zn 1) (zk 21 qA)),(1,qC,zp (zn 1) qE),(1,zu qB,qD),(1,qE,zn 20)] rfl this hkl (zle hp.2.2) hpz)
      · dsimp only;rw [List.length_append,List.length_singleton];have:=ih.tl;(exact zae [_,_] 1 (zu qB) (zu qA) [(1,qB,qA)] rfl this)
end
end
section
theorem kw_A6_0:True:=by
 w_top off
 k_with "unf" => repeat' k_extra "y"
 k_with "subscriptTail Name Name ref int" => first | k_extra "aa" | fail
 k_with "setItem ref int" => first | ((k_here;(fail_if_success (fail_if_success (with_reducible show wpAny _ _ (PySem.setItem (Value.ref _) (Value.int _ _) _) _ _ _)));k_dflt (refine' AD (by k_asm) (by k_asm) (by k_upd) (by exact DatAll.length (by with_reducible assumption)) (by k_extra "g") (by k_extra "g") (by k_extra "g") ?_;k_whole);intro h'q9 F'q9 N'q9;(try k_sweep))) | fail
 trivial
section
variable {α:Type} {lt : α → α→Bool} {a n:Nat} {l:List α} {x p : α}
theorem uO (h:a < n) (hp:l[(n - 1) / 2]? = some p) (hl:lt x p=true):bG lt a l n x=bG lt a (l.set n p) ((n - 1) / 2) x:=by
 rw [cO,dif_pos h,hp];simp only [hl,if_true]
theorem uN (h:a < n) (hp:l[(n - 1) / 2]? = some p) (hl:lt x p=false):bG lt a l n x=l.set n x:=by
 rw [cO,dif_pos h,hp];simp only [hl,Bool.false_eq_true,if_false]
theorem A9 (h:¬ a < n):bG lt a l n x=l.set n x:=by
 rw [cO,dif_neg h]
end
theorem dL {α:Type} {l m:List α} {n:Nat} {p : α} (h:∀ a∈l,a∈m) (hp:p∈m):∀ a∈l.set n p,a∈m:=fun a ha =>
 (List.mem_or_eq_of_mem_set ha).elim (h a) fun e=>e ▸ hp
theorem Dg {n:Nat} (h : 0 < n):((n:Int) - 1).fdiv (2 ^ Int.toNat 1)=(((n - 1) / 2:Nat):Int):=by
 have e:(2:Int) ^ Int.toNat 1=2:=by decide
 rw [e,Int.fdiv_eq_ediv_of_nonneg _ (by decide)]
 k_extra "g"
namespace K
namespace V13
theorem siftdown_c_m:iW w p loose mean mg mb dp un gd env outer A₀ base h₀ L m s Q E rest cold D ws c ds k a b t u x g' L' h':=by
 k_extra "dj"
 revert X;k_fill;intro X
 k_dflt k_extra "k"
 ktr_unf
 k_extra "ay"
 k_extra "az"
 rename ds[(b:Int).toNat]? = _=>hd8
 rename DatIn _ _ _=>hD8
 have e8:=hd8
 rw [Int.toNat_natCast,hx] at e8
 cases e8
 refine gN lF' lN' hne (fun lc n m' ws tl=>tl=[]∧n < ds.length∧(∃ t,m' (Str.ofString "pos")=some (.int (n:Nat) t))∧m' (Str.ofString "heap")=some (.ref lc)∧m' (Str.ofString "newitem")=some _∧(∃ t,m' (Str.ofString "startpos")=some (.int (a:Nat) t)) ∧ ∃ ds',DatAll cold ws ds'∧ds'.length=ds.length∧(∀ a∈ds',a∈ds)∧bG (dlt k) a ds' n x=bG (dlt k) a ds b x) ⟨rfl,hb,⟨_,rfl⟩,rfl,rfl,⟨_,rfl⟩,ds,hD,rfl,fun _ h=>h,rfl⟩ ?_
 k_extra "dp"
 k_extra "ch"
 k_extra "cx"
 k_extra "ep"
 clear F₁ lF' lN' hD
 ktr_unf
 · rename ds'[_]? = _=>hd9
   rename DatIn _ _ _=>hD9
   rename News _ _ _ _=>lN'
   k_extra "ea"
   k_extra "e0"
   refine pm (k:=k) lN' (fun p hp=>List.Mem.tail _ (hcold p hp)) hD8 hD9 (hok _ (List.mem_of_getElem? hx)) (hok _ (hin _ (List.mem_of_getElem? hd9))) (hcmp _ (List.mem_of_getElem? hx) _ (hin _ (List.mem_of_getElem? hd9))) (by (simp only [units_deeper]);have:=cLine_is;(exact zal [_,_,_] 1 (zp (zp qB (zn 3)) (zk 2 qC)) qA [(1,zu (zp qB (zn 16)),qA),(2,qC,zn 4)] rfl hu hk9)) ?_
   ktr_unf
   k_extra "dw"
   · unfold WhileStep2
     dsimp only
     k_extra "a3"
     exact (uO (lt:=(dlt k)) han hd9 (by assumption)).symm.trans hgo
   · unfold WhileStep2
     dsimp only
     ktr_unf
     rw [uN (lt:=(dlt k)) han hd9 (by assumption)] at hgo
     rw [← hgo] at ret
     k_extra "c6"
 · k_extra "d6"
   rw [← hgo] at ret
   k_extra "c6"
end V13
end K
namespace K
namespace V13
theorem siftdownmax_c_m:gM w p loose mean mg mb dp un gd env outer A₀ base h₀ L m s Q E rest cold D ws c ds k a b t u x g' L' h':=by
 k_extra "dj"
 revert X;k_fill;intro X
 k_dflt k_extra "k"
 ktr_unf
 k_extra "ay"
 k_extra "az"
 rename ds[(b:Int).toNat]? = _=>hd8
 rename DatIn _ _ _=>hD8
 have e8:=hd8
 rw [Int.toNat_natCast,hx] at e8
 cases e8
 refine gN lF' lN' hne (fun lc n m' ws tl=>tl=[]∧n < ds.length∧(∃ t,m' (Str.ofString "pos")=some (.int (n:Nat) t))∧m' (Str.ofString "heap")=some (.ref lc)∧m' (Str.ofString "newitem")=some _∧(∃ t,m' (Str.ofString "startpos")=some (.int (a:Nat) t)) ∧ ∃ ds',DatAll cold ws ds'∧ds'.length=ds.length∧(∀ a∈ds',a∈ds)∧bG (fun p q=>dlt k q p) a ds' n x=bG (fun p q=>dlt k q p) a ds b x) ⟨rfl,hb,⟨_,rfl⟩,rfl,rfl,⟨_,rfl⟩,ds,hD,rfl,fun _ h=>h,rfl⟩ ?_
 k_extra "dp"
 k_extra "ch"
 k_extra "cx"
 k_extra "ep"
 clear F₁ lF' lN' hD
 ktr_unf
 · rename ds'[_]? = _=>hd9
   rename DatIn _ _ _=>hD9
   rename News _ _ _ _=>lN'
   k_extra "ea"
   k_extra "e0"
   refine pm (k:=k) lN' (fun p hp=>List.Mem.tail _ (hcold p hp)) hD9 hD8 (hok _ (hin _ (List.mem_of_getElem? hd9))) (hok _ (List.mem_of_getElem? hx)) (hcmp _ (hin _ (List.mem_of_getElem? hd9)) _ (List.mem_of_getElem? hx)) (by (simp only [units_deeper]);have:=cLine_is;(exact zal [_,_,_] 1 (zp (zp qB (zn 3)) (zk 2 qC)) qA [(1,zu (zp qB (zn 16)),qA),(2,qC,zn 4)] rfl hu hk9)) ?_
   ktr_unf
   k_extra "dw"
   · unfold WhileStep2
     dsimp only
     k_extra "a3"
     exact (uO (lt:=(fun p q=>dlt k q p)) han hd9 (by assumption)).symm.trans hgo
   · unfold WhileStep2
     dsimp only
     ktr_unf
     rw [uN (lt:=(fun p q=>dlt k q p)) han hd9 (by assumption)] at hgo
     rw [← hgo] at ret
     k_extra "c6"
 · k_extra "d6"
   rw [← hgo] at ret
   k_extra "c6"
end V13
end K
theorem kI:∀ v,kL v:=ch1 (l:=PL.drop 28) BT K.V13.siftdown_c_m
theorem BS:Ch (PL.drop 28) oV:=ch2 (l:=PL.drop 28) BT kI
theorem oz {rest:List (Addr × Obj)} {cold:List (Addr × Obj)} {ws:List Value} {ds:List Dat}:kJ w p loose mean mg mb dp un gd env outer A₀ base h₀ L m s Q E rest cold D ws c ds k a b t u x:=(kH w p loose mean mg mb dp un gd env outer A₀ base h₀ L m s Q E rest cold D ws c ds k a b t u x).2 fun g' L' h'=>kI { oV with w,p,loose,mean,mg,mb,dp,un,gd,env,outer,A₀,base,h₀,L,m,s,Q,E,q46:=rest,q47:=cold,q4:=D,q9:=ws,q8:=c,q48:=ds,q23:=k,q45:=a,q49:=b,q26:=t,q29:=u,q50:=x,q27:=g',q3:=L',q28:=h' }
theorem iq:∀ v,iu v:=ch1 (l:=PL.drop 29) BS K.V13.siftdownmax_c_m
theorem BR:Ch (PL.drop 29) oV:=ch2 (l:=PL.drop 29) BS iq
theorem rv {rest:List (Addr × Obj)} {cold:List (Addr × Obj)} {ws:List Value} {ds:List Dat}:ir w p loose mean mg mb dp un gd env outer A₀ base h₀ L m s Q E rest cold D ws c ds k a b t u x:=(ip w p loose mean mg mb dp un gd env outer A₀ base h₀ L m s Q E rest cold D ws c ds k a b t u x).2 fun g' L' h'=>iq { oV with w,p,loose,mean,mg,mb,dp,un,gd,env,outer,A₀,base,h₀,L,m,s,Q,E,q46:=rest,q47:=cold,q4:=D,q9:=ws,q8:=c,q48:=ds,q23:=k,q45:=a,q49:=b,q26:=t,q29:=u,q50:=x,q27:=g',q3:=L',q28:=h' }
end
section
theorem kw_A7_0:True:=by
 w_top off
 trivial
section
variable {α:Type} {lt : α → α→Bool} {p:Nat} {l:List α} {a b c : α}
theorem im (h : 2 * p+1 < l.length) (hc:l[bK lt l p]? = some c):cF lt l p=cF lt (l.set p c) (bK lt l p):=by
 rw [eV,dif_pos h,hc]
theorem sh (h:¬ 2 * p+1 < l.length):cF lt l p=(l,p):=by
 rw [eV,dif_neg h]
theorem x8 (h:l.length≤2 * p+2):bK lt l p=2 * p+1:=by
 unfold bK
 rw [List.getElem?_eq_none h]
 cases l[2 * p+1]? <;> rfl
theorem xZ (h1:l[2 * p+1]? = some a) (h2:l[2 * p+2]? = some b) (h:lt a b=true):bK lt l p=2 * p+1:=by
 unfold bK
 rw [h1,h2];simp [h]
theorem xY (h1:l[2 * p+1]? = some a) (h2:l[2 * p+2]? = some b) (h:lt a b=false):bK lt l p=2 * p+2:=by
 unfold bK
 rw [h1,h2];simp [h]
end
theorem fY (p:Nat):(2 * (p:Int)+1).toNat=2 * p+1:=by k_extra "g"
theorem iU (p:Nat):(2 * (p:Int)+1+1).toNat=2 * p+2:=by k_extra "g"
namespace K
namespace V18
theorem siftup_c_m:kC w p loose mean mg mb dp un gd env outer A₀ base h₀ L m s Q E rest cold D ws c ds k a t x g' L' h':=by
 k_extra "dj"
 revert X;k_fill;intro X
 k_dflt k_extra "k"
 ktr_unf
 k_extra "ay"
 k_extra "az"
 rename ds[(a:Int).toNat]? = _=>hd8
 rename DatIn _ _ _=>hD8
 have e8:=hd8
 rw [Int.toNat_natCast,hx] at e8
 cases e8
 have hlen:=hD.length
 refine gN (n₀:=ds.length - a) lF' lN' hne (fun lc n m' ws tl=>tl=[]∧m' (Str.ofString "heap")=some (.ref lc)∧m' (Str.ofString "newitem")=some _∧(∃ t,m' (Str.ofString "startpos")=some (.int (a:Nat) t))∧(∃ t,m' (Str.ofString "endpos")=some (.int (ds.length:Nat) t)) ∧ ∃ ds':List Dat,∃ p:Nat,n=ds.length - p∧p < ds.length∧(∃ t,m' (Str.ofString "pos")=some (.int (p:Nat) t))∧(∃ t,m' (Str.ofString "childpos")=some (.int (2 * (p:Int)+1) t))∧DatAll cold ws ds'∧ds'.length=ds.length∧(∀ a∈ds',a∈ds)∧cF (dlt k) ds' p=cF (dlt k) ds a) ⟨rfl,rfl,rfl,⟨_,rfl⟩,⟨_,by rw [← hlen];rfl⟩,ds,a,rfl,hb,⟨_,rfl⟩,⟨_,rfl⟩,hD,rfl,fun _ h=>h,rfl⟩ ?_
 k_extra "cn"
 k_extra "bn"
 k_extra "cx"
 clear F₁ lF' lN' hD
 ktr_unf
 · k_extra "a7"
   ktr_unf
   k_extra "dw"
   all_goals (
    (rename ds'[_]? = _=>hq)
    (rename DatIn _ _ _=>hDq))
   · have hch:bK (dlt k) ds' p=2 * p+1:=by
      refine' xZ ?h1 ?h2 ?h
      case h=>assumption
      case h1=>rw [← fY];assumption
      case h2=>rw [← iU];assumption
     rw [fY] at hq
     k_extra "bs"
     rw [hch] at hst
     unfold WhileStep2
     dsimp only
     k_extra "a1"
   · have hch:bK (dlt k) ds' p=2 * p+2:=by
      refine' xY ?h1 ?h2 ?h
      case h=>assumption
      case h1=>rw [← fY];assumption
      case h2=>rw [← iU];assumption
     rw [iU] at hq
     k_extra "bs"
     rw [hch] at hst
     unfold WhileStep2
     dsimp only
     k_extra "a0"
 · (rename ds'[_]? = _=>hq)
   (rename DatIn _ _ _=>hDq)
   have hch:bK (dlt k) ds' p=2 * p+1:=x8 (by exact zae [_,_,_] 1 qB (zp (zk 2 qA) (zn 2)) [(1,qC,zu (zu (zk 2 qA))),(1,qB,qC)] rfl (rR ‹¬2 * (↑p:Int)+1+1 < (↑ds.length:Int)›) (zle hl'))
   rw [fY] at hq
   have hst:=im (lt:=(dlt k)) (l:=ds') (p:=p) (by exact zal [_,_,_] 1 (zu (zk 2 qB)) qA [(1,zu (zu (zk 2 qB)),qC),(1,qC,qA)] rfl (zit ‹2 * (↑p:Int)+1 < (↑ds.length:Int)›) (zge hl')) (by rw [hch];exact hq)
   rw [hch] at hst
   unfold WhileStep2
   dsimp only
   k_extra "a2"
 · have hend:=sh (lt:=(dlt k)) (l:=ds') (p:=p) (by exact zar [_,_,_] [(1,qC,zu (zk 2 qA)),(1,qB,qC),(1,zu (zu (zk 2 qA)),qB)] rfl (rR ‹¬2 * (↑p:Int)+1 < (↑ds.length:Int)›) (zle hl'))
   rw [hend] at hgo
   have hfin:bM (dlt k) ds a x=bG (dlt k) a (ds'.set p x) p x:=by unfold bM;rw [← hgo]
   rw [hfin] at ret
   refine oz (ds:=ds'.set p x) (x:=x) (k:=k) (by assumption) (by assumption) (by assumption) (by assumption) hne hcold (DatAll.set hD' p hD8) (by rw [List.length_set];(exact zae [_,_] 1 qA (zn 100000) [(1,qA,qB),(1,qB,zn 100000)] rfl (zle hl') hz)) (fun a ha=>hok a (dL hin (List.mem_of_getElem? hx) a ha)) (fun a ha b hb=>hcmp a (dL hin (List.mem_of_getElem? hx) a ha) b (dL hin (List.mem_of_getElem? hx) b hb)) hk9 (by assumption) rfl rfl (by ktr_room) (by ktr_units) (by rw [List.length_set];(exact zal [_,_,_] 1 qB qA [(1,qC,qA),(1,zu qB,qC)] rfl (zge hl') hp)) (by rw [List.getElem?_set_self (by exact zal [_,_,_] 1 qB qA [(1,qC,qA),(1,zu qB,qC)] rfl (zge hl') hp)]) ?_
   intro ws2 c2 h2 tk2 F2 N2 D2
   (try dsimp only)
   ktr_unf
   k_extra "fy"
end V18
end K
namespace K
namespace V18
theorem siftupmax_c_m:io w p loose mean mg mb dp un gd env outer A₀ base h₀ L m s Q E rest cold D ws c ds k a t x g' L' h':=by
 k_extra "dj"
 revert X;k_fill;intro X
 k_dflt k_extra "k"
 ktr_unf
 k_extra "ay"
 k_extra "az"
 rename ds[(a:Int).toNat]? = _=>hd8
 rename DatIn _ _ _=>hD8
 have e8:=hd8
 rw [Int.toNat_natCast,hx] at e8
 cases e8
 have hlen:=hD.length
 refine gN (n₀:=ds.length - a) lF' lN' hne (fun lc n m' ws tl=>tl=[]∧m' (Str.ofString "heap")=some (.ref lc)∧m' (Str.ofString "newitem")=some _∧(∃ t,m' (Str.ofString "startpos")=some (.int (a:Nat) t))∧(∃ t,m' (Str.ofString "endpos")=some (.int (ds.length:Nat) t)) ∧ ∃ ds':List Dat,∃ p:Nat,n=ds.length - p∧p < ds.length∧(∃ t,m' (Str.ofString "pos")=some (.int (p:Nat) t))∧(∃ t,m' (Str.ofString "childpos")=some (.int (2 * (p:Int)+1) t))∧DatAll cold ws ds'∧ds'.length=ds.length∧(∀ a∈ds',a∈ds)∧cF (fun p q=>dlt k q p) ds' p=cF (fun p q=>dlt k q p) ds a) ⟨rfl,rfl,rfl,⟨_,rfl⟩,⟨_,by rw [← hlen];rfl⟩,ds,a,rfl,hb,⟨_,rfl⟩,⟨_,rfl⟩,hD,rfl,fun _ h=>h,rfl⟩ ?_
 k_extra "cn"
 k_extra "bn"
 k_extra "cx"
 clear F₁ lF' lN' hD
 ktr_unf
 · k_extra "a7"
   ktr_unf
   k_extra "dw"
   all_goals (
    (rename ds'[_]? = _=>hq)
    (rename DatIn _ _ _=>hDq))
   · have hch:bK (fun p q=>dlt k q p) ds' p=2 * p+1:=by
      refine' xZ ?h1 ?h2 ?h
      case h=>assumption
      case h1=>rw [← fY];assumption
      case h2=>rw [← iU];assumption
     rw [fY] at hq
     k_extra "bo"
     rw [hch] at hst
     unfold WhileStep2
     dsimp only
     k_extra "a1"
   · have hch:bK (fun p q=>dlt k q p) ds' p=2 * p+2:=by
      refine' xY ?h1 ?h2 ?h
      case h=>assumption
      case h1=>rw [← fY];assumption
      case h2=>rw [← iU];assumption
     rw [iU] at hq
     k_extra "bo"
     rw [hch] at hst
     unfold WhileStep2
     dsimp only
     k_extra "a0"
 · (rename ds'[_]? = _=>hq)
   (rename DatIn _ _ _=>hDq)
   have hch:bK (fun p q=>dlt k q p) ds' p=2 * p+1:=x8 (by exact zae [_,_,_] 1 qB (zp (zk 2 qA) (zn 2)) [(1,qC,zu (zu (zk 2 qA))),(1,qB,qC)] rfl (rR ‹¬2 * (↑p:Int)+1+1 < (↑ds.length:Int)›) (zle hl'))
   rw [fY] at hq
   have hst:=im (lt:=(fun p q=>dlt k q p)) (l:=ds') (p:=p) (by exact zal [_,_,_] 1 (zu (zk 2 qB)) qA [(1,zu (zu (zk 2 qB)),qC),(1,qC,qA)] rfl (zit ‹2 * (↑p:Int)+1 < (↑ds.length:Int)›) (zge hl')) (by rw [hch];exact hq)
   rw [hch] at hst
   unfold WhileStep2
   dsimp only
   k_extra "a2"
 · have hend:=sh (lt:=(fun p q=>dlt k q p)) (l:=ds') (p:=p) (by exact zar [_,_,_] [(1,qC,zu (zk 2 qA)),(1,qB,qC),(1,zu (zu (zk 2 qA)),qB)] rfl (rR ‹¬2 * (↑p:Int)+1 < (↑ds.length:Int)›) (zle hl'))
   rw [hend] at hgo
   have hfin:bM (fun p q=>dlt k q p) ds a x=bG (fun p q=>dlt k q p) a (ds'.set p x) p x:=by unfold bM;rw [← hgo]
   rw [hfin] at ret
   refine rv (ds:=ds'.set p x) (x:=x) (k:=k) (by assumption) (by assumption) (by assumption) (by assumption) hne hcold (DatAll.set hD' p hD8) (by rw [List.length_set];(exact zae [_,_] 1 qA (zn 100000) [(1,qA,qB),(1,qB,zn 100000)] rfl (zle hl') hz)) (fun a ha=>hok a (dL hin (List.mem_of_getElem? hx) a ha)) (fun a ha b hb=>hcmp a (dL hin (List.mem_of_getElem? hx) a ha) b (dL hin (List.mem_of_getElem? hx) b hb)) hk9 (by assumption) rfl rfl (by ktr_room) (by ktr_units) (by rw [List.length_set];(exact zal [_,_,_] 1 qB qA [(1,qC,qA),(1,zu qB,qC)] rfl (zge hl') hp)) (by rw [List.getElem?_set_self (by exact zal [_,_,_] 1 qB qA [(1,qC,qA),(1,zu qB,qC)] rfl (zge hl') hp)]) ?_
   intro ws2 c2 h2 tk2 F2 N2 D2
   (try dsimp only)
   ktr_unf
   k_extra "fy"
end V18
end K
theorem ov:∀ v,oy v:=ch1 (l:=PL.drop 30) BR K.V18.siftup_c_m
theorem BQ:Ch (PL.drop 30) oV:=ch2 (l:=PL.drop 30) BR ov
theorem yE {rest:List (Addr × Obj)} {cold:List (Addr × Obj)} {ws:List Value} {ds:List Dat}:ow w p loose mean mg mb dp un gd env outer A₀ base h₀ L m s Q E rest cold D ws c ds k a t x:=(ou w p loose mean mg mb dp un gd env outer A₀ base h₀ L m s Q E rest cold D ws c ds k a t x).2 fun g' L' h'=>ov { oV with w,p,loose,mean,mg,mb,dp,un,gd,env,outer,A₀,base,h₀,L,m,s,Q,E,q46:=rest,q47:=cold,q4:=D,q9:=ws,q8:=c,q48:=ds,q23:=k,q45:=a,q26:=t,q50:=x,q27:=g',q3:=L',q28:=h' }
theorem jR:∀ v,jT v:=ch1 (l:=PL.drop 31) BQ K.V18.siftupmax_c_m
theorem BP:Ch (PL.drop 31) oV:=ch2 (l:=PL.drop 31) BQ jR
theorem mw {rest:List (Addr × Obj)} {cold:List (Addr × Obj)} {ws:List Value} {ds:List Dat}:jS w p loose mean mg mb dp un gd env outer A₀ base h₀ L m s Q E rest cold D ws c ds k a t x:=(jQ w p loose mean mg mb dp un gd env outer A₀ base h₀ L m s Q E rest cold D ws c ds k a t x).2 fun g' L' h'=>jR { oV with w,p,loose,mean,mg,mb,dp,un,gd,env,outer,A₀,base,h₀,L,m,s,Q,E,q46:=rest,q47:=cold,q4:=D,q9:=ws,q8:=c,q48:=ds,q23:=k,q45:=a,q26:=t,q50:=x,q27:=g',q3:=L',q28:=h' }
end
section
theorem kw_A8_0:True:=by
 w_top off
 k_with "subscriptTail Name Constant ref int" => first | k_extra "aa" | fail
 trivial
namespace K
namespace V18
theorem heappush_c_m:i5 w p loose mean mg mb dp un gd env outer A₀ base h₀ L m s Q E rest cold D ws c ds k v d g' L' h':=by
 intro B F N hne hcold hD hz hok hcmp hk9 T hf hk hd hu hz2 hd8 hok2 hcmp2 ret X
 revert X;k_fill;intro X
 k_dflt k_extra "k"
 have hlen:=hD.length
 ktr_unf
 have e1:((ws++[v]).length:Int) - 1=((ds.length:Nat):Int):=by rw [List.length_append,List.length_singleton];k_extra "g"
 rw [e1]
 refine oz (a:=0) (b:=ds.length) (ds:=ds++[d]) (x:=d) (k:=k) (by assumption) (by assumption) (by assumption) (by assumption) hne hcold (DatAll.append hD (DatAll.one hd8)) (by rw [List.length_append,List.length_singleton];(exact zae [_] 1 (zu qA) (zn 100000) [(1,zu qA,zn 100000)] rfl hz2)) hok2 hcmp2 hk9 (by assumption) rfl rfl (by ktr_room) (by ktr_units) (by rw [List.length_append,List.length_singleton];(exact zal [_] 1 qA (zu qA) [] rfl)) (by simp) ?_
 intro ws2 c2 h2 tk2 F2 N2 D2
 (try dsimp only)
 ktr_unf
 k_extra "fy"
theorem heappop_c_m:j5 w p loose mean mg mb dp un gd env outer A₀ base h₀ L m s Q E rest cold D ws c ds k d0 g' L' h':=by
 intro B F N hne hcold hD hz hok hcmp hk9 T hf hk hd hu hp ret X
 revert X;k_fill;intro X
 k_dflt k_extra "k"
 have hlen:=hD.length
 ktr_unf
 dsimp only
 rename News _ _ _ _=>lN'
 rename Fr _ _ _ _=>lF'
 refine' zc (ws:=ws) (ds:=ds) lF' lN' ?U ?z ?D ?e ?_
 case U=>k_upd
 case z=>(exact zae [_] 1 qA (zn 1000000) [(1,qA,zn 100000)] rfl hz)
 case D=>assumption
 case e=>(exact zal [_] 1 (zn 0) qA [(1,zu (zn 0),qA)] rfl hp)
 intro h9 v9 d9 F9 N9 hd9 hD9 hA9
 have hlast:ds.getLastD d0=d9:=by rw [List.getLastD_eq_getLast?,hd9];rfl
 have hlen2:=hA9.length
 rw [List.length_dropLast,List.length_dropLast] at hlen2
 have hdl:ws.dropLast.length=ds.dropLast.length:=hA9.length
 clear lF' lN'
 have hq9:ws.dropLast.length=ws.length - 1:=List.length_dropLast
 have hz9:ws.dropLast.length≤1000000:=by rw [List.length_dropLast];(exact zae [_,_,_] 1 qA (zn 1000000) [(1,qB,qC),(1,qC,zn 100000),(1,qA,qB)] rfl (zle hlen) hz (zs1 _ _))
 have hmem9:d9∈ds:=List.mem_of_getLast? hd9
 have hsub:∀ a∈ds.dropLast,a∈ds:=fun a ha=>List.dropLast_subset _ ha
 try dsimp only
 ktr_unf
 · rename ds.dropLast[_]? = _=>hd0
   rename DatIn _ _ _=>hD0
   have e0:Int.toNat 0=0:=rfl
   rw [e0] at hd0
   obtain ⟨a,r,har⟩:∃ a r,ds.dropLast=a::r:=by
    cases hq:ds.dropLast with
    | nil=>rw [hq] at hd0;cases hd0
    | cons a r=>exact ⟨a,r,rfl⟩
   rw [har] at hd0 hsub
   have ea:a=_:=Option.some.inj hd0
   rw [← ea] at hD0
   have hpop:cZ (dlt k) ds d0=(a,bM (dlt k) (d9::r) 0 d9):=by unfold cZ;rw [har,hlast]
   rw [hpop] at ret
   have hA0:DatAll cold (ws.dropLast.set 0 v9) (d9::r):=by
    have:=DatAll.set hA9 0 hD9
    rw [har] at this;exact this
   have hsub2:∀ a∈d9::r,a∈ds:=fun b hb=>by
    k_extra "ej"
    · exact hmem9
    · exact hsub b (.tail _ hb)
   have hl9:=hA0.length
   rw [List.length_set] at hl9
   refine yE (a:=0) (ds:=d9::r) (x:=d9) (k:=k) (by assumption) (by assumption) (by assumption) (by assumption) hne hcold hA0 (by exact zae [_,_,_,_,_] 1 qA (zn 100000) [(1,qA,qB),(1,qB,qC),(1,qC,qD),(1,qE,zn 100000),(1,zu qD,qE)] rfl (zge hl9) (zle hq9) (zle hlen2) hz (zs3 (zae [_] 1 (zn 1) qA [(1,zu (zn 0),qA)] rfl hp))) (fun a ha=>hok a (hsub2 a ha)) (fun a ha b hb=>hcmp a (hsub2 a ha) b (hsub2 b hb)) hk9 (by assumption) rfl rfl (by ktr_room) (by ktr_units) (Nat.succ_pos _) rfl ?_
   intro ws2 c2 h2 tk2 F2 N2 D2
   (try dsimp only)
   ktr_unf
   exact ret _ _ _ _ _ (by assumption) (by assumption) hD0 D2
 · have hnil:ds.dropLast=[]:=List.eq_nil_of_length_eq_zero (by exact Nat.le_antisymm (zae [_,_] 1 qA (zn 0) [(1,qB,zn 0),(1,qA,qB)] rfl (zle (ziq ‹(↑ws.dropLast.length:Int)=0›)) (zge hdl)) (zae [_] 1 (zn 0) qA [] rfl))
   have hpop:cZ (dlt k) ds d0=(d9,[]):=by unfold cZ;rw [hnil,hlast]
   rw [hpop] at ret
   have hw:ws.dropLast=[]:=List.eq_nil_of_length_eq_zero (by exact Nat.le_antisymm (zae [_] 1 qA (zn 0) [(1,qA,zn 0)] rfl (zle (ziq ‹(↑ws.dropLast.length:Int)=0›))) (zae [_] 1 (zn 0) qA [] rfl))
   refine ret _ ws.dropLast _ _ _ (by assumption) (by assumption) hD9 ?_
   rw [hw];exact .nil
theorem heaprep_c_m:j4 w p loose mean mg mb dp un gd env outer A₀ base h₀ L m s Q E rest cold D ws c ds k v d x g' L' h':=by
 intro B F N hne hcold hD hz hok hcmp hk9 T hf hk hd hu hx hd8 hok2 hcmp2 ret X
 revert X;k_fill;intro X
 k_dflt k_extra "k"
 have hlen:=hD.length
 have h0 : 0 < ds.length:=(List.getElem?_eq_some_iff.mp hx).1
 ktr_unf
 rename ds[_]? = _=>hd9
 rename DatIn _ _ _=>hD9
 have e0:Int.toNat 0=0:=rfl
 rw [e0,hx] at hd9
 cases hd9
 have hsub:∀ a∈ds.set 0 d,a∈ds++[d]:=dL (fun a ha=>List.mem_append_left _ ha) (List.mem_append_right _ (List.mem_singleton.mpr rfl))
 refine mw (a:=0) (ds:=ds.set 0 d) (x:=d) (k:=k) (by assumption) (by assumption) (by assumption) (by assumption) hne hcold (DatAll.set hD 0 hd8) (by rw [List.length_set];(exact zae [_] 1 qA (zn 100000) [(1,qA,zn 100000)] rfl hz)) (fun a ha=>hok2 a (hsub a ha)) (fun a ha b hb=>hcmp2 a (hsub a ha) b (hsub b hb)) hk9 (by assumption) rfl rfl (by ktr_room) (by ktr_units) (by rw [List.length_set];exact h0) (by rw [List.getElem?_set_self h0]) ?_
 intro ws2 c2 h2 tk2 F2 N2 D2
 (try dsimp only)
 ktr_unf
 exact ret _ _ _ _ _ (by assumption) (by assumption) hD9 D2
end V18
end K
theorem lm:∀ v,lq v:=ch1 (l:=PL.drop 32) BP K.V18.heappush_c_m
theorem BO:Ch (PL.drop 32) oV:=ch2 (l:=PL.drop 32) BP lm
theorem wa {rest:List (Addr × Obj)} {cold:List (Addr × Obj)} {ws:List Value} {ds:List Dat}:lp w p loose mean mg mb dp un gd env outer A₀ base h₀ L m s Q E rest cold D ws c ds k v d:=(ll w p loose mean mg mb dp un gd env outer A₀ base h₀ L m s Q E rest cold D ws c ds k v d).2 fun g' L' h'=>lm { oV with w,p,loose,mean,mg,mb,dp,un,gd,env,outer,A₀,base,h₀,L,m,s,Q,E,q46:=rest,q47:=cold,q4:=D,q9:=ws,q8:=c,q48:=ds,q23:=k,q43:=v,q51:=d,q27:=g',q3:=L',q28:=h' }
theorem mV:∀ v,mX v:=ch1 (l:=PL.drop 33) BO K.V18.heappop_c_m
theorem BN:Ch (PL.drop 33) oV:=ch2 (l:=PL.drop 33) BO mV
theorem xG {rest:List (Addr × Obj)} {cold:List (Addr × Obj)} {ws:List Value} {ds:List Dat} {d0:Dat}:mW w p loose mean mg mb dp un gd env outer A₀ base h₀ L m s Q E rest cold D ws c ds k d0:=(mU w p loose mean mg mb dp un gd env outer A₀ base h₀ L m s Q E rest cold D ws c ds k d0).2 fun g' L' h'=>mV { oV with w,p,loose,mean,mg,mb,dp,un,gd,env,outer,A₀,base,h₀,L,m,s,Q,E,q46:=rest,q47:=cold,q4:=D,q9:=ws,q8:=c,q48:=ds,q23:=k,q50:=d0,q27:=g',q3:=L',q28:=h' }
theorem mR:∀ v,mT v:=ch1 (l:=PL.drop 34) BN K.V18.heaprep_c_m
theorem BM:Ch (PL.drop 34) oV:=ch2 (l:=PL.drop 34) BN mR
theorem xF {rest:List (Addr × Obj)} {cold:List (Addr × Obj)} {ws:List Value} {ds:List Dat}:mS w p loose mean mg mb dp un gd env outer A₀ base h₀ L m s Q E rest cold D ws c ds k v d x:=(mQ w p loose mean mg mb dp un gd env outer A₀ base h₀ L m s Q E rest cold D ws c ds k v d x).2 fun g' L' h'=>mR { oV with w,p,loose,mean,mg,mb,dp,un,gd,env,outer,A₀,base,h₀,L,m,s,Q,E,q46:=rest,q47:=cold,q4:=D,q9:=ws,q8:=c,q48:=ds,q23:=k,q43:=v,q51:=d,q50:=x,q27:=g',q3:=L',q28:=h' }
end
section
theorem kw_A21_0:True:=by
 w_top off
 k_with "unf" => repeat' (first | k_extra "n" | (k_extra "a";k_extra "o";refine dB ?_;intro Q9q hQ9q) | k_extra "ag" | (k_end;wrow_close) | (k_extra "h";k_extra "f";k_extra "i";k_extra "b";k_extra "c";k_extra "e";k_extra "z";k_extra "2";(fail_if_success (with_reducible show wpAny _ _ (call (Value.ref 169) _) _ _ _));(fail_if_success (with_reducible show wpAny _ _ (call (Value.ref 162) _) _ _ _));k_extra "aj";walk1) | (k_extra "h";k_extra "f";k_extra "i";k_extra "b";k_extra "c";k_extra "e";k_extra "z";k_extra "2";(fail_if_success (with_reducible show wpAny _ _ (call (Value.ref 169) _) _ _ _));(fail_if_success (with_reducible show wpAny _ _ (call (Value.ref 162) _) _ _ _));k_extra "aj";dsimp only;walk1) | (leave1;walk_say "STEP leave1";try dsimp only) | k_extra "p" | fail "no step")
 k_with "subscriptTail Name Name ref int" => first | k_extra "4" | fail
 k_with "eval ListComp" => first | k_extra "3" | fail
 k_with "exec Assign cons ListComp" => first | k_extra "af" | fail
 k_with "subscriptTail Name Constant ref int" => first | ((k_here;k_extra "m";k_dflt (refine' item_tupleT (by exact News.isTup (by k_asm) (by first | with_reducible assumption | k_mem)) (by decide) (by decide) (by rfl) (by rfl) ?_;k_whole))) | fail
 k_with "newList" => first | ((k_here;k_dflt (refine' newList_K (by k_asm) (by k_asm) ?_ (by first | exact Nat.le_trans (m:=1) (Nat.le_refl _) (gU (by k_extra "g")) | exact Nat.le_trans (m:=0) (Nat.le_refl _) (gU (by k_extra "g")) | exact Nat.le_trans (m:=2) (Nat.le_refl _) (gU (by k_extra "g")) | exact Nat.le_trans (m:=3) (Nat.le_refl _) (gU (by k_extra "g")));k_whole);intro l'q9 h'q9 F'q9 N'q9 l1q9;(try k_lt l1q9);(try k_sweep))) | fail
 k_with "mem" => ((repeat (first | (with_reducible exact List.mem_cons_self) | (with_reducible refine List.mem_append_right _ ?_) | (with_reducible refine List.mem_cons_of_mem _ ?_)));done)
 k_with "call ref" => first | ((k_here;(fail_if_success (fail_if_success (with_reducible show wpAny _ _ (call (Value.ref 143) _) _ _ _)));k_dflt (refine' rk (by k_asm) (by k_asm) (by k_asm) (by k_asm) (by k_asm) (by exact rfl) (by exact rfl) (by ktr_room) (by ktr_units) (by k_extra "g") ?_;k_whole;intro t9q9 h9q9 tk9q9 F9q9 N9q9;(try dsimp only);(try k_fold)))) | fail
 k_with "call ref" => first | ((k_here;(fail_if_success k_extra "aj");k_dflt (refine' wl (by k_asm) (by k_asm) (by k_asm) (by k_asm) (by k_asm) (by exact rfl) (by exact rfl) (by ktr_room) (by ktr_units) (by k_extra "g") ?_;k_whole;intro t9q9 h9q9 tk9q9 F9q9 N9q9;(try dsimp only);(try k_fold)))) | fail
 k_with "call ref" => first | ((k_here;(fail_if_success (fail_if_success (with_reducible show wpAny _ _ (call (Value.ref 115) _) _ _ _)));k_dflt (refine' xu (by k_asm) (by k_asm) (by k_asm) (by k_asm) (by k_asm) (by exact rfl) (by exact rfl) (by ktr_room) (by ktr_units) (by k_extra "g") (by k_extra "g") ?_;k_whole;intro t9q9 h9q9 tk9q9 F9q9 N9q9;(try dsimp only);(try k_fold)))) | fail
 k_with "call ref" => first | k_extra "s" | fail
 trivial
theorem vr {α:Type} (t T H e a : α) (r:List α):∀ p∈H::T::e::a::r,p∈t::T::H::e::a::r:=bP [[_],[_],[_],[_],_,[_]] (zp qA (zp qB (zp qC (zp qD qE)))) (zp qF (zp qB (zp qA (zp qC (zp qD qE))))) rfl
theorem tp7 {α:Type} {H X I : α} {r:List α}:∀ p∈I::H::X::r,p∈H::X::I::r:=fun p hp=>by
 k_extra "ax"
 · k_extra "b4"
 k_extra "ax"
 · exact .head _
 k_extra "ax"
 · exact .tail _ (.head _)
 k_extra "es"
theorem tp5 {α:Type} {X I H : α} {r:List α}:∀ p∈H::X::I::r,p∈X::I::H::r:=fun p hp=>by
 k_extra "ax"
 · k_extra "b4"
 k_extra "ax"
 · exact .head _
 k_extra "ax"
 · exact .tail _ (.head _)
 k_extra "es"
theorem tp4 {α:Type} {N D H T I : α} {r:List α}:∀ p∈H::N::D::T::I::r,p∈N::D::H::T::I::r:=fun p hp=>by
 k_extra "ax"
 · k_extra "b4"
 k_extra "ax"
 · exact .head _
 k_extra "ax"
 · exact .tail _ (.head _)
 k_extra "ax"
 · k_extra "dm"
 k_extra "ax"
 · k_extra "fp"
 k_extra "fe"
theorem tp1 {α:Type} {l I H T : α} {r:List α}:∀ p∈H::T::I::r,p∈l::I::H::T::r:=fun p hp=>by
 k_extra "ax"
 · k_extra "b4"
 k_extra "ax"
 · k_extra "dm"
 k_extra "ax"
 · exact .tail _ (.head _)
 exact .tail _ (.tail _ (.tail _ (.tail _ (hp))))
theorem tp2 {α:Type} {H T I : α} {r:List α}:∀ p∈I::H::T::r,p∈H::T::I::r:=fun p hp=>by
 k_extra "ax"
 · k_extra "b4"
 k_extra "ax"
 · exact .head _
 k_extra "ax"
 · exact .tail _ (.head _)
 k_extra "es"
theorem okE {e:Ent} (h:PyData.strOk e.2=true):∀ k,kqdOk (k+1) (bQ e)=true:=fun k=>by cases k <;> simp [bQ,kqdOk,h]
theorem okR {e:Row} (h1:PyData.strOk e.2.1=true) (h2:PyData.strOk e.2.2=true):∀ k,kqdOk (k+1) (cX e)=true:=fun k=>by cases k <;> simp [cX,kqdOk,h1,h2]
theorem uT {G:Str→Prop} {st:List Ent × List Row} {i:Nat} (hGo:∀ x,G x→PyData.strOk x=true) (h:TInv G st i) {k:Nat}:∀ d∈st.1.map bQ,kqdOk (k+1) d=true:=fun d hd=>by
 k_extra "bk"
 rintro e he rfl
 exact okE (hGo _ (h.heap e he).1) k
theorem zB (H:List Ent):∀ a∈H.map bQ,∀ b∈H.map bQ,aY 2 a b=true:=fun a ha b hb=>by
 k_extra "bb"
 rintro e he rfl
 k_extra "gt"
 rintro e he rfl
 rfl
theorem Bw {cold:List (Addr × Obj)} {v:Value} {n:Nat} {x:Str} (h:DatIn cold v (bQ (n,x))):∃ a t1 t2 k,v = .ref a∧(a,({ cls := .type "tuple",data := .seq #[.int (n:Int) t1,.str x t2] k }:Obj))∈cold:=CH h
theorem ph {cold:List (Addr × Obj)} {v:Value} {n:Nat} {x y:Str} (h:DatIn cold v (cX (n,x,y))):∃ a t1 t2 t3 k,v = .ref a∧(a,({ cls := .type "tuple",data := .seq #[.int (n:Int) t1,.str x t2,.str y t3] k }:Obj))∈cold:=Bv h
theorem tp3 {h₀ h:Heap} {L:Addr} {H T I x:Addr × Obj} {r:List (Addr × Obj)} (hm:x∈r) (N:News h₀ L h (H::T::I::r)):News h₀ L h (x::H::T::I::r):=fun p hp=>by
 k_extra "ax"
 · exact N _ (.tail _ (.tail _ (.tail _ hm)))
 · exact N _ hp
theorem tm6 {α:Type} {a b c d e f x : α} {r:List α} (h:x∈r):x∈a::b::c::d::e::f::r := .tail _ (.tail _ (.tail _ (.tail _ (.tail _ (.tail _ h)))))
theorem wD {news:List (Addr × Obj)} {ws:List Value} {ys:List Str} (h:StrsAre ws ys):DatAll news ws (ys.map .str):=by
 induction h with
 | nil=>exact .nil
 | cons y t r ih=>exact .cons (.str y t) ih
theorem Af {G:Str→Prop} {st:List Ent × List Row} {i:Nat} (h:TInv G st i) {k:Nat}:∀ d∈(st.2.map (fun r=>r.2.2)).map Dat.str,kqdOk k d=true:=fun d hd=>by
 k_extra "bk"
 rintro e he rfl
 refine aE (List.mem_map.mp he) ?_
 rintro r hr rfl
 have:=(h.told r hr).2
 cases k <;> simp [kqdOk,this]
theorem tO {y:Str} {l:List Str}:Dat.str y∈l.map Dat.str ↔ y∈l:=⟨fun h=>by
 k_extra "fb"
 intro z hz e
 rw [← Dat.str.inj e];exact hz,fun h=>List.mem_map.mpr ⟨y,h,rfl⟩⟩
theorem AL {y:Str} {l:List Str} (inst:Decidable (Dat.str y∈l.map Dat.str)) (h:y∈l):(!@decide _ inst)=false:=by
 rw [decide_eq_true (tO.mpr h)];rfl
theorem zt {y:Str} {l:List Str} (inst:Decidable (Dat.str y∈l.map Dat.str)) (h:y ∉ l):(!@decide _ inst)=true:=by
 rw [decide_eq_false (fun q=>h (tO.mp q))];rfl
theorem ww {h₀ h:Heap} {L n d:Addr} {H T I:Addr × Obj} {on:Obj} {sz:Nat} {tx pl:Str} {t1 t2 t3:Tok} {r:List (Addr × Obj)} (N:News h₀ L h ((n,on)::(d,{ cls := .type "tuple",data := .seq #[.int (sz:Int) t1,.str tx t2,.str pl t3] })::H::T::I::r)) :
 ∃ (n' d':Addr) (od:Obj),n'=n∧d'=d∧DatIn [(d,od)] (.ref d) (cX (sz,tx,pl))∧News h₀ L h ((n,on)::(d,od)::H::T::I::r) :=
 ⟨_,_,_,rfl,rfl,.tuple (vs:=[.int (sz:Int) t1,.str tx t2,.str pl t3]) (.head _) (.cons (.int _ _) (.cons (.str _ _) (.cons (.str _ _) .nil))),N⟩
noncomputable def fG (place q:Str):Bool:=decide (aR q=place) && decide (q≠place)
theorem y7 {places:List Str} {pl q:Str} {k:Nat} (hq:places[k]? = some q) (h1:(aR q == pl)=true) (h2:(q != pl)=true):Str.ofString ".." :: ((places.take (k+1)).filter (fG pl)).map bJ=(Str.ofString ".." :: ((places.take k).filter (fG pl)).map bJ)++[bJ q]:=by
 have e:fG pl q=true:=by unfold fG;rw [decide_eq_true (beq_iff_eq.mp h1),decide_eq_true (by simpa using h2)];rfl
 rw [List.take_add_one,hq,List.filter_append,List.map_append,List.cons_append]
 simp [e]
theorem xp {places:List Str} {pl q:Str} {k:Nat} (hq:places[k]? = some q) (h2:(q != pl)=false):Str.ofString ".." :: ((places.take (k+1)).filter (fG pl)).map bJ=(Str.ofString ".." :: ((places.take k).filter (fG pl)).map bJ):=by
 have e:fG pl q=false:=by unfold fG;rw [decide_eq_false (p:=q≠pl) (by simpa using h2),Bool.and_false]
 rw [List.take_add_one,hq,List.filter_append,List.map_append]
 simp [e]
theorem xq {places:List Str} {pl q:Str} {k:Nat} (hq:places[k]? = some q) (h2:(aR q == pl)=false):Str.ofString ".." :: ((places.take (k+1)).filter (fG pl)).map bJ=(Str.ofString ".." :: ((places.take k).filter (fG pl)).map bJ):=by
 have e:fG pl q=false:=by unfold fG;rw [decide_eq_false (p:=aR q=pl) (by simpa using h2),Bool.false_and]
 rw [List.take_add_one,hq,List.filter_append,List.map_append]
 simp [e]
theorem Df {h:Addr} {l:List (Addr × Obj)} (hl:AllLt h l):∀ p∈l,@Ne Nat h p.1:=fun p hp=>Nat.ne_of_gt (fR hl p hp)
theorem wv {h₀ h:Heap} {L x:Addr} {n:Nat} {jn:Str} {t1 t2:Tok} {r:List (Addr × Obj)} (N:News h₀ L h ((x,{ cls := .type "tuple",data := .seq #[.int (n:Int) t1,.str jn t2] })::r)) (hl:AllLt x r) :
 ∃ (x':Addr) (ox:Obj),x'=x∧DatIn [(x,ox)] (.ref x) (bQ (n,jn))∧News h₀ L h ((x,ox)::r)∧AllLt x r :=
 ⟨_,_,rfl,.tuple (vs:=[.int (n:Int) t1,.str jn t2]) (.head _) (.cons (.int _ _) (.cons (.str _ _) .nil)),N,hl⟩
theorem ss {PA:List Ent} (h:∀ e∈PA,PyData.strOk e.2=true) {k:Nat}:∀ d∈PA.map bQ,kqdOk (k+1) d=true:=fun d hd=>by
 k_extra "bk"
 rintro e he rfl
 exact okE (h e he) k
theorem yO {PA:List Ent} {n:Nat} {x:Str} (h:∀ e∈PA,PyData.strOk e.2=true) (hx:PyData.strOk x=true) {k:Nat}:∀ d∈PA.map bQ++[bQ (n,x)],kqdOk (k+1) d=true:=fun d hd=>by
 rcases List.mem_append.mp hd with hd | hd
 · exact ss h d hd
 · rw [List.mem_singleton.mp hd];exact okE hx k
theorem xW (PA:List Ent) (e:Ent):∀ a∈PA.map bQ++[bQ e],∀ b∈PA.map bQ++[bQ e],aY 2 a b=true:=by
 have:=zB (PA++[e])
 rwa [List.map_append] at this
theorem tp6 {α:Type} {X I N D T I2 : α} {t3 r:List α}:∀ p∈X::(t3++r),p∈X::I::(t3++N::D::T::I2::r):=fun p hp=>by
 k_extra "ax"
 · exact .head _
 · k_extra "be"
   · exact .tail _ (.tail _ (List.mem_append_left _ hp))
   · exact .tail _ (.tail _ (List.mem_append_right _ (.tail _ (.tail _ (.tail _ (.tail _ hp))))))
theorem yy {a:Addr} {t3 tl b:List (Addr × Obj)} {d:Addr × Obj} (h1:∀ p∈t3,p.1≠a) (h2 : @Ne Nat d.1 a) (h3:∀ p∈tl++b,p.1≠a):∀ p∈(t3++d::tl)++b,p.1≠a:=fun p hp=>by
 k_extra "be"
 · k_extra "be"
   · exact h1 p hp
   · k_extra "ax"
     · exact h2
     · exact h3 p (List.mem_append_left _ hp)
 · exact h3 p (List.mem_append_right _ hp)
theorem tp8 {α:Type} (H N D T I : α) (t3 t b:List α):∀ p∈I::H::T::((t3++D::t)++b),p∈H::(t3++N::D::T::I::(t++b)):=bP [[_],[_],[_],_,[_],_,_,[_]] (zp qA (zp qB (zp qC (zp (zp qD (zp qE qF)) qG)))) (zp qB (zp qD (zp qH (zp qE (zp qC (zp qA (zp qF qG))))))) rfl
theorem tp9 {α:Type} (D : α) (t3 t b:List α):∀ p∈t3++(t++b),p∈(t3++D::t)++b:=bP [_,_,_,[_]] (zp qA (zp qB qC)) (zp (zp qA (zp qD qB)) qC) rfl
theorem De {α:Type} (D H T e a : α) (t b:List α):∀ p∈(D::H::T::(t++[e,a]))++b,p∈D::H::T::(t++e::a::b):=bP [[_],[_],[_],_,[_],[_],_] (zp (zp qA (zp qB (zp qC (zp qD (zp qE qF))))) qG) (zp qA (zp qB (zp qC (zp qD (zp qE (zp qF qG)))))) rfl
theorem Dd {α:Type} (D H T e a : α) (t b:List α):∀ p∈t++e::a::b,p∈(D::H::T::(t++[e,a]))++b:=bP [_,[_],[_],_,[_],[_],[_]] (zp qA (zp qB (zp qC qD))) (zp (zp qE (zp qF (zp qG (zp qA (zp qB qC))))) qD) rfl
theorem yx {h₀ h:Heap} {L t T H e:Addr} {a:Addr × Obj} {ot oT oH:Obj} {k1 k2:Tok} {r:List (Addr × Obj)} (N:News h₀ L h ((t,ot)::(T,oT)::(H,oH)::(e,{ cls := .type "tuple",data := .seq #[.int 0 k1,.str (Str.ofString "") k2] })::a::r)) :
 ∃ oe,DatIn ((e,oe)::a::r) (.ref e) (bQ (0,Str.ofString ""))∧News h₀ L h ((H,oH)::(T,oT)::(e,oe)::a::r) :=
 ⟨_,.tuple (vs:=[.int 0 k1,.str (Str.ofString "") k2]) (.head _) (.cons (.int _ _) (.cons (.str _ _) .nil)),cb_drop N (vr _ _ _ _ _ _)⟩
namespace K
namespace V0
theorem told_c_m:n6 w p loose mean mg mb news dp un gd env outer A₀ base h₀ L m s Q E G P wp cp start ts places g' L' h':=by
 intro B F N T hf hk hd hu hS hpz hst hG0 hGj hGd hGb hGo hpo hGn ret X
 revert X;k_fill;intro X
 k_dflt k_extra "k"
 have hpl:=hS.len_eq
 ktr_unf
 refine LCg.CompSrc.ledger rfl (by k_asm) (by k_asm) (List.Mem.head _) (by rw [List.size_toArray,sizeLine_eq];(exact zae [_,_] 1 qA (zn 16777216) [(1,qA,qB),(1,qB,zn 20)] rfl (zle hpl) hpz)) ?_
 intro g5
 refine dH (fun i ys nw=>nw=_∧StrsAre ys ((places.take i).map aR)) ⟨rfl,.nil⟩ ?turnA ?finA
 case turnA =>
  intro i ys nw hi hr1q
  refine bV (hr1q) ?_
  (try clear hr1q);rintro rfl hY
  k_extra "dn"
  k_extra "cm"
  refine aV (hS.item _ _ hv5) ?_
  rintro q tq rfl hq
  have hql:=(hpo q (List.mem_of_getElem? hq)).1
  ktr_unf
  k_extra "c1"
  case S5=>exact Or.inr ⟨_,.head _,rfl,_,rfl⟩
  refine ⟨rfl,?_⟩
  rw [List.take_add_one,hq,List.map_append]
  exact StrsAre.snoc hY _ _
 case finA =>
  intro ya nw hr2q
  refine bV (hr2q) ?_
  (try clear hr2q);rintro rfl hYA
  rw [List.size_toArray,hpl,List.take_length] at hYA
  ktr_unf
  k_extra "ay"
  k_extra "az"
  refine wc (Dr lN') ?_
  intro lt' lT lH lE lA et eT eH ee eA
  subst et eT eH ee eA
  k_extra "bu"
  ktr_unf
  k_extra "ay"
  k_extra "az"
  rename IsRange _ _ _ _ _ _ _ _=>hR
  refine aE (yx lN') ?_
  intro oE hE0 N2
  have hHT : @Ne Nat lH lT:=by k_ne
  refine iT (n:=2 * places.length+1) rfl hR (by exact zmq (Nat.le_antisymm (zae [_,_] 1 (zu (zk 2 qB)) (zu (zk 2 qA)) [(2,qB,qA)] rfl (zle hpl)) (zae [_,_] 1 (zu (zk 2 qB)) (zu (zk 2 qA)) [(2,qB,qA)] rfl (zge hpl)))) (by exact zae [_] 1 (zu (zk 2 qA)) (zn 1000000) [(2,qA,zn 20)] rfl hpz) lF' N2 (fun I h' S=>xe S (fun p hp=>nomatch hp) ?hne1 ?hne2 ?hd12 (fun lh lt i m' w1 w2 tl=>m' (Str.ofString "heap")=some (.ref lh)∧m' (Str.ofString "told")=some (.ref lt)∧m' (Str.ofString "above")=some (.ref lA)∧m' (Str.ofString "places")=some (.ref P)∧(∃ t,m' (Str.ofString "start")=some (.str start t)) ∧
   DatAll (tl++(lE,oE)::(lA,LCg.lst ya)::(P,W.listOf wp.toArray cp)::news) w1 ((aZ (cB start places) i ([(0,Str.ofString "")],[])).1.map bQ) ∧
   DatAll (tl++(lE,oE)::(lA,LCg.lst ya)::(P,W.listOf wp.toArray cp)::news) w2 ((aZ (cB start places) i ([(0,Str.ofString "")],[])).2.map cX)) ⟨rfl,rfl,rfl,rfl,⟨_,rfl⟩,.cons hE0 .nil,.nil⟩ ?turn ?done)
  case hne1=>(k_all)
  case hne2=>(k_all)
  case hd12=>k_ne
  case turn =>
   intro i v m₁ w1 n1 w2 n2 tl it h tk hi hr3q
   refine bA (hr3q) ?_
   (try clear hr3q);rintro t0 rfl
   intro hr4q
   refine iA (hr4q) ?_
   (try clear hr4q);rintro hm1 hm2 hm3 hm4 ⟨ts2,hm5⟩ hA1 hA2
   intro ho1 ho2 hI1 hI2 hoff F₁ N₁
   have F₂:=aK (aK (aK (aK (aK F₁ (x:=Str.ofString "heap") hm1) (x:=Str.ofString "told") hm2) (x:=Str.ofString "above") hm3) (x:=Str.ofString "places") hm4) (x:=Str.ofString "start") hm5
   have hinv:=r0 (start:=start) hG0 hGj hGd hGb hGo (fun q hq=>(hpo q hq).1) hpz (fun t h1 h2=>(hGn t h1 h2).2.2.2) i (by exact zae [_,_] 1 qA (zn 50) [(1,zu qA,zu (zk 2 qB)),(2,qB,zn 20)] rfl hi hpz)
   have hst2:aZ (cB start places) (i+1) ([(0,Str.ofString "")],[])=cB start places (aZ (cB start places) i ([(0,Str.ofString "")],[])):=rfl
   generalize aZ (cB start places) i ([(0,Str.ofString "")],[])=st at *
   obtain ⟨H,Tl⟩:=st
   dsimp only at hA1 hA2
   clear F₁ lF' lN' N2 S
   ktr_unf
   k_extra "ay"
   k_extra "az"
   refine kqd_ne lN' (.tail _ (.tail _ (.head _))) rfl rfl hA1 (fun p hp => .tail _ (.tail _ (.tail _ (.tail _ hp)))) (.head _) rfl rfl (DatAll.nil (news:=[])) (fun p hp=>nomatch hp) (uT hGo hinv) (fun d hd=>nomatch hd) (by ktr_units) ?_
   have N3:=cb_drop lN' tp1
   clear lN'
   by_cases hH:H=[]
   · have eb:∀ (inst:Decidable (H.map bQ=[])),(!@decide _ inst)=false:=fun inst=>by simp [hH]
     rw [eb]
     ktr_unf
     show aX _ _ _ _ _ _ _
     have e2:cB start places (H,Tl)=(H,Tl):=by unfold cB;exact if_pos hH
     refine nZ.intro (by assumption) N3 w1 n1 w2 n2 tl tp2 (aJ hI1 (aJ hI2 hoff)) ho1 ho2 ⟨rfl,rfl,rfl,rfl,⟨_,rfl⟩,?_,?_⟩
     · rw [hst2,e2];exact hA1
     · rw [hst2,e2];exact hA2
   · have eb:∀ (inst:Decidable (H.map bQ=[])),(!@decide _ inst)=true:=fun inst=>by simp [hH]
     rw [eb]
     ktr_unf
     have hpm:=sn ltE (d:=(0,Str.ofString "")) hH
     have hts:cB start places (H,Tl)=_:=if_neg hH
     dsimp only at hts
     refine xG (D:=lH) (ds:=H.map bQ) (k:=2) (d0:=bQ (0,Str.ofString "")) (cold:=tl++(lE,oE)::(lA,LCg.lst ya)::(P,W.listOf wp.toArray cp)::news) (by assumption) lF' (by assumption) N3 (aJ (Ne.symm hHT) (aJ (Ne.symm hI1) ho1)) (fun p hp => .tail _ (.tail _ hp)) hA1 ?hz (uT hGo hinv) (zB H) (by decide) (by assumption) rfl rfl (by ktr_room) (by ktr_units) ?hp ?_
     case hz=>have:=hinv.hl;dsimp only at this;rw [List.length_map];(exact zae [_,_,_] 1 qA (zn 100000) [(1,qA,zp (zn 1) (zk 21 qB)),(21,zu qB,zu (zk 2 qC)),(42,qC,zn 20)] rfl this hi hpz)
     case hp=>rw [List.length_map];exact List.length_pos_iff.mpr hH
     intro v3 w3 n3 h3 tk3 F3 N4 hv3 hA3
     rw [Aa] at hv3 hA3
     change DatIn _ v3 (bQ (cZ ltE H (0,Str.ofString "")).1) at hv3
     change DatAll _ w3 ((cZ ltE H (0,Str.ofString "")).2.map bQ) at hA3
     generalize cZ ltE H (0,Str.ofString "")=pr at *
     obtain ⟨⟨sz,tx⟩,H2⟩:=pr
     dsimp only at hv3 hA3 hpm hts
     refine cA (hpm) ?_
     (try clear hpm);intro hpm1 hpm2 hpm3
     have hen:=hinv.heap _ hpm1
     dsimp only at hen
     refine cA (hen) ?_
     (try clear hen);intro hG9 hel hsz
     refine rP (Bw hv3) ?_
     rintro a9 t91 t92 n9 rfl hm9
     have N5:=tp3 hm9 N4
     have hg:=hGn tx hG9 (by exact zae [_,_,_] 1 qA (zn 10000) [(1,qA,zk 101 qB),(101,zu qB,zu (zk 2 qC)),(202,qC,zn 20)] rfl hel hi hpz)
     refine mf (hg) ?_
     (try clear hg);intro hg1 hg2 hg3 hg4
     have hjl:=ix start tx
     have hsw:wt (Txt.split (Txt.slice (aG start tx) (some 1) none) (Str.ofString "/"))≤100000:=by
      have h1:=split_weight (Txt.slice (aG start tx) (some 1) none) (Str.ofString "/") (by decide)
      have h2:=Txt.slice_le (aG start tx) (some 1) none
      unfold wt;(exact zae [_,_,_,_,_,_,_,_] 1 (zp qA qB) (zn 100000) [(1,qC,qD),(1,zp qA qB,zu qC),(1,qD,zp (zu qE) qF),(1,qF,zk 101 qG),(101,zu qG,zu (zk 2 qH)),(1,qE,zn 100),(202,qH,zn 20)] rfl h2 h1 hjl hel hi hst hpz)
     clear N4 N3 lF'
     try dsimp only
     ktr_unf
     k_extra "ay"
     k_extra "az"
     have hA2l:=hA2.length
     rw [List.length_map] at hA2l
     have htl:=hinv.tl
     dsimp only at htl
     have N6:=cb_drop lN' (fun p hp => .tail _ hp)
     clear lN'
     refine LCg.CompSrc.ledger rfl lF' N6 (.tail _ (.head _)) (by rw [List.size_toArray,sizeLine_eq];(exact zae [_,_,_,_] 1 qA (zn 16777216) [(1,qB,qC),(1,qA,qB),(1,zu qC,zu (zk 2 qD)),(2,qD,zn 20)] rfl htl (zle hA2l) hi hpz)) ?_
     intro g6
     refine dH (fun i ys nw=>nw=_∧StrsAre ys ((Tl.take i).map (fun r=>r.2.2))) ⟨rfl,.nil⟩ ?turnB ?finB
     case turnB =>
      intro k ys nw hk hr5q
      refine bV (hr5q) ?_
      (try clear hr5q);rintro rfl hY
      intro v I5 oI5 C5 oC5 D5 m5 h5 tk5 E5 hv5 hC5 hx5 F5 N7 off5 ne5
      k_extra "cm"
      refine aE (DatAll.at hA2 hv5) ?_
      intro d hd hdin
      rw [List.getElem?_map] at hd
      k_extra "dd"
      rintro ⟨rn,rx,ry⟩ hr rfl
      refine rO (ph hdin) ?_
      rintro a8 s1 s2 s3 k8 rfl hm8
      have hm7:=tm6 (a:=(I5,oI5)) (b:=(C5,oC5)) (c:=(D5,LCg.lst ys)) (d:=(lH,W.listOf w3.toArray n3)) (e:=(lT,W.listOf w2.toArray n2)) (f:=(I,it)) hm8
      ktr_unf
      k_extra "c1"
      case S5=>exact Or.inr ⟨_,.tail _ (.head _),rfl,_,rfl⟩
      refine ⟨rfl,?_⟩
      rw [List.take_add_one,hr,List.map_append]
      exact StrsAre.snoc hY _ _
     case finB =>
      intro yb nw hr6q
      refine bV (hr6q) ?_
      (try clear hr6q);rintro rfl hYB
      rw [List.size_toArray,hA2l,List.take_length] at hYB
      generalize bZ (aG start tx)=pl at *
      ktr_unf
      k_extra "ay"
      k_extra "az"
      refine kqd_notIn lN' (.head _) rfl rfl (wD (news:=[]) hYB) (fun p hp=>nomatch hp) (DatIn.str (news:=[]) _ _) (fun p hp=>nomatch hp) (Af hinv) hg4 (by ktr_units) ?_
      have N8:=cb_drop lN' (fun p hp => .tail _ hp)
      clear lN'
      by_cases hP:pl∈Tl.map (fun r=>r.2.2)
      · have eb:∀ (inst:Decidable (Dat.str pl∈(Tl.map (fun r=>r.2.2)).map Dat.str)),(!@decide _ inst)=false:=fun inst=>AL inst hP
        rw [eb]
        rw [if_pos hP] at hts
        ktr_unf
        show aX _ _ _ _ _ _ _
        refine nZ.intro (by assumption) N8 w3 n3 w2 n2 tl tp2 (aJ hI1 (aJ hI2 hoff)) ho1 ho2 ⟨rfl,rfl,rfl,rfl,⟨_,rfl⟩,?_,?_⟩
        · rw [hst2,hts];exact hA3
        · rw [hst2,hts];exact hA2
      · have eb:∀ (inst:Decidable (Dat.str pl∈(Tl.map (fun r=>r.2.2)).map Dat.str)),(!@decide _ inst)=true:=fun inst=>zt inst hP
        rw [eb]
        rw [if_neg hP] at hts
        have hTI:=aJ (q:=(I,it)) (Ne.symm hI2) ho2
        have hw2:w2.length≤100:=by (exact zae [_,_,_,_] 1 qA (zn 100) [(1,qB,qC),(1,qA,qB),(1,zu qC,zu (zk 2 qD)),(2,qD,zn 20)] rfl htl (zle hA2l) hi hpz)
        ktr_unf
        k_extra "ay"
        k_extra "az"
        try clear N8
        refine jz (ww lN') ?_
        intro lN lD oD en ed hR9 N9
        subst en ed
        have hDH : @Ne Nat lD lH:=by k_ne
        have hDT : @Ne Nat lD lT:=by k_ne
        have hDI : @Ne Nat lD I:=by k_ne
        clear lN'
        k_extra "bu"
        ktr_unf
        k_extra "ay"
        k_extra "az"
        (with_reducible rename IsRange _ _ _ _ _ _ _ _=>hR2)
        refine iT (n:=places.length) rfl hR2 (by exact zmq (Nat.le_antisymm (zae [_,_] 1 qB qA [(1,qB,qA)] rfl (zle hpl)) (zae [_,_] 1 qB qA [(1,qB,qA)] rfl (zge hpl)))) (by exact zae [_] 1 qA (zn 1000000) [(1,qA,zn 20)] rfl hpz) lF' lN' (fun I2 h2 S2=>dA S2 (fun p hp=>nomatch hp) ?hneN (fun lc k m' ws tl2=>tl2=[]∧m' (Str.ofString "above")=some (.ref lA)∧m' (Str.ofString "places")=some (.ref P)∧(∃ t,m' (Str.ofString "place")=some (.str pl t))∧(∃ t,m' (Str.ofString "text")=some (.str tx t))∧m' (Str.ofString "names")=some (.ref lc)∧m' (Str.ofString "heap")=some (.ref lH)∧m' (Str.ofString "told")=some (.ref lT)∧(∃ t,m' (Str.ofString "start")=some (.str start t))∧StrsAre ws (Str.ofString ".." :: ((places.take k).filter (fG pl)).map bJ)) ⟨rfl,rfl,rfl,⟨_,rfl⟩,⟨_,rfl⟩,rfl,rfl,rfl,⟨_,rfl⟩,.cons _ _ .nil⟩ ?turnN ?doneN)
        case hneN=>(k_all)
        case turnN =>
         intro k v m₂ ws k9 tl2 it2 h2 tk2 hk hr7q
         refine bA (hr7q) ?_
         (try clear hr7q);rintro t2 rfl
         intro hr8q
         refine tL (hr8q) ?_
         (try clear hr8q);rintro rfl hm1 hm2 ⟨t3,hm3⟩ ⟨t4,hm4⟩ hm5 hm6 hm7 ⟨t5,hm8⟩ hW
         intro hoN hIN hoff2 F5 N5
         k_extra "bd"
         simp only [List.nil_append] at N5 hoN hoff2
         refine bA (⟨_,List.getElem?_eq_getElem hk⟩:∃ q,places[k]? = some q) ?_
         intro q hq
         have hyl:=hYA.len_eq
         rw [List.length_map] at hyl
         have hql:=(hpo q (List.mem_of_getElem? hq)).1
         have hwl:ws.length≤101:=by rw [hW.len_eq,List.length_cons,List.length_map];have:=List.length_filter_le (fG pl) (places.take k);rw [List.length_take] at this;(exact zae [_,_,_] 1 (zu qA) (zn 101) [(1,qA,qB),(1,qC,zn 20),(1,qB,qC)] rfl this hpz (Nat.min_le_right _ _))
         clear F5 lF' lN'
         ktr_unf
         · k_extra "gg"
           k_extra "ed"
           rw [Int.toNat_natCast,hq] at hz1
           k_extra "fz"
           cases hz1
           cases hz0
           k_extra "gg"
           rw [Int.toNat_natCast,hq] at hz1
           cases hz1
           walk1
           ktr_unf
           k_extra "ay"
           k_extra "az"
           show aX _ _ _ _ _ _ _
           refine dS.intro lF' lN' _ _ [] (fun p hp=>hp) (aJ hIN hoff2) hoN ⟨rfl,rfl,rfl,⟨_,rfl⟩,⟨_,rfl⟩,rfl,rfl,rfl,⟨_,rfl⟩,?_⟩
           rw [y7 hq (by with_reducible assumption) (by with_reducible assumption)]
           exact StrsAre.snoc hW _ _
         · k_extra "gg"
           k_extra "ed"
           rw [Int.toNat_natCast,hq] at hz1
           k_extra "fz"
           cases hz1
           cases hz0
           k_extra "ay"
           k_extra "az"
           show aX _ _ _ _ _ _ _
           k_extra "ct"
           rw [xp hq (by with_reducible assumption)]
           exact hW
         · k_extra "ed"
           k_extra "fz"
           cases hz0
           k_extra "ay"
           k_extra "az"
           show aX _ _ _ _ _ _ _
           k_extra "ct"
           rw [xq hq (by with_reducible assumption)]
           exact hW
        case doneN =>
         intro m₂ wN kN tl2 h2 tk2 hr9q
         refine tL (hr9q) ?_
         (try clear hr9q);rintro rfl hm1 hm2 ⟨t3,hm3⟩ ⟨t4,hm4⟩ hm5 hm6 hm7 ⟨t5,hm8⟩ hW
         intro hoN F5 N5
         k_extra "bd"
         simp only [List.nil_append] at N5 hoN
         rw [List.take_length] at hW
         change StrsAre wN (dJ places pl) at hW
         have hkm:=te (G:=G) (place:=pl) hGd hGb (fun q hq=>(hpo q hq).1)
         have hkl:=tg (places:=places) (place:=pl)
         have hwl:=hW.len_eq
         generalize dJ places pl=ns at *
         have hA30:DatAll ([]++(tl++(lE,oE)::(lA,LCg.lst ya)::(P,W.listOf wp.toArray cp)::news)) w3 ((cC tx H2 (ns.take 0)).map bQ):=hA3
         clear F5 lF' lN'
         ktr_unf
         k_extra "ay"
         k_extra "bu"
         ktr_unf
         k_extra "ay"
         have N6:=cb_drop N5 tp4
         clear N5
         refine dE rfl (List.Mem.tail _ (List.Mem.head _)) rfl rfl lF' N6 (fun I3 h3 S3=>dA S3 (fun p hp=>by rw [List.mem_singleton.mp hp];exact List.Mem.head _) ?hneP (fun lc j m' w tl3=>m' (Str.ofString "above")=some (.ref lA)∧m' (Str.ofString "places")=some (.ref P)∧(∃ t,m' (Str.ofString "text")=some (.str tx t))∧m' (Str.ofString "heap")=some (.ref lc)∧m' (Str.ofString "told")=some (.ref lT)∧(∃ t,m' (Str.ofString "start")=some (.str start t)) ∧
          DatAll (tl3++(tl++(lE,oE)::(lA,LCg.lst ya)::(P,W.listOf wp.toArray cp)::news)) w ((cC tx H2 (ns.take j)).map bQ)∧(∀ p∈tl3,p.1≠lT∧p.1≠I)) ⟨rfl,rfl,⟨_,rfl⟩,rfl,rfl,⟨_,rfl⟩,hA30,fun p hp=>nomatch hp⟩ ?turnP ?doneP)
         case hneP=>exact aJ (Ne.symm (hoN _ (.tail _ (.head _)))) (aJ hDH (aJ (Ne.symm hHT) (aJ (Ne.symm hI1) ho1)))
         case turnP =>
          intro j v m₃ w k9 tl3 it3 h3 tk3 hj hv hr10q
          refine pF (hr10q) ?_
          (try clear hr10q);rintro hm1 hm2 ⟨t4,hm4⟩ hm6 hm7 ⟨t5,hm8⟩ hA4 hfr
          intro ho3 hI3 hoff3 F7 N7
          k_extra "br"
          refine aV (hW.item j v hv) ?_
          rintro nm tn rfl hn
          have hnm:=hkm nm (List.mem_of_getElem? hn)
          refine bV (hnm) ?_
          (try clear hnm);intro hnG hnl
          have hjl2:=ix tx nm
          clear F7 lF'
          ktr_unf
          k_extra "ay"
          k_extra "az"
          (with_reducible rename _ < _∧_=>hl9)
          refine rQ (wv lN' hl9) ?_
          intro lX oX eX hX9 N9 hlX
          subst eX
          clear lN' hl9
          have hpa:=fT (text:=tx) (ns.take j) H2
          refine bV (hpa) ?_
          (try clear hpa);intro hpa1 hpa2
          have hpl9:(cC tx H2 (ns.take j)).length≤10000:=by
           rw [hpa2,List.length_take]
           have:=hinv.hl
           dsimp only at this
           (exact zae [_,_,_,_,_,_] 1 (zp qA qB) (zn 10000) [(1,qC,zp (zn 1) (zk 21 qD)),(1,qE,zp (zn 1) qF),(1,zu qA,qC),(21,zu qD,zu (zk 2 qF)),(43,qF,zn 20),(1,qB,qE)] rfl this hkl (zle hpm3) hi hpz (Nat.min_le_right _ _))
          have hns:cC tx H2 (ns.take (j+1))=dI ltE (cC tx H2 (ns.take j)) ((aG tx nm).length,aG tx nm):=by
           rw [List.take_add_one,hn];unfold cC;rw [List.foldl_append];rfl
          have hok9:∀ e∈cC tx H2 (ns.take j),PyData.strOk e.2=true:=fun e he=>by
           rcases hpa1 e he with h | ⟨n',hn',rfl⟩
           · exact hGo _ (hinv.heap e (hpm2 e h)).1
           · exact hGo _ (hGj _ _ hG9 (hkm _ (List.mem_of_mem_take hn')).1)
          have hokX:PyData.strOk (aG tx nm)=true:=hGo _ (hGj _ _ hG9 hnG)
          clear hpa1 hpa2
          generalize cC tx H2 (ns.take j)=PA at *
          generalize aG tx nm=jn at *
          have N10:=cb_drop N9 tp5
          have hfX:=Df hlX
          refine wa (D:=lH) (ds:=PA.map bQ) (d:=bQ (jn.length,jn)) (k:=2) (cold:=(lX,oX)::(tl3++(tl++(lE,oE)::(lA,LCg.lst ya)::(P,W.listOf wp.toArray cp)::news))) (by assumption) lF' (by assumption) N10 (aJ (hfX _ (.tail _ (.head _))) (aJ (Ne.symm hI3) ho3)) tp6 (hA4.mono (fun p hp => .tail _ hp)) ?hz (ss hok9) (zB PA) (by decide) (by assumption) rfl rfl (by ktr_room) (by ktr_units) ?hz2 (hX9.mono (fun p hp=>by rw [List.mem_singleton.mp hp];exact .head _)) (yO hok9 hokX) (xW PA _) ?_
          case hz=>rw [List.length_map];(exact zae [_] 1 qA (zn 100000) [(1,qA,zn 10000)] rfl hpl9)
          case hz2=>rw [List.length_map];(exact zal [_] 1 qA (zn 100000) [(1,qA,zn 10000)] rfl hpl9)
          intro w5 n5 h5 tk5 F9 N11 hA5
          rw [yH] at hA5
          change DatAll _ w5 ((dI ltE PA (jn.length,jn)).map bQ) at hA5
          rw [← hns] at hA5
          ktr_unf
          k_extra "ay"
          show aX _ _ _ _ _ _ _
          refine dS.intro lF' N11 w5 n5 ((lX,oX)::tl3) tp7 (aJ hI3 (aJ (hfX _ (.head _)) hoff3)) (aJ (hfX _ (.tail _ (.head _))) ho3) ⟨rfl,rfl,⟨_,rfl⟩,rfl,rfl,⟨_,rfl⟩,hA5,?_⟩
          intro p hp
          k_extra "ax"
          · exact ⟨hfX _ (.tail _ (.tail _ (List.mem_append_right _ (.tail _ (.tail _ (.head _)))))),hfX _ (.tail _ (.tail _ (List.mem_append_right _ (.tail _ (.tail _ (.tail _ (.head _)))))))⟩
          · exact hfr p hp
         case doneP =>
          intro m₃ w k9 tl3 h3 tk3 hr11q
          refine pF (hr11q) ?_
          (try clear hr11q);rintro hm1 hm2 ⟨t4,hm4⟩ hm6 hm7 ⟨t5,hm8⟩ hA4 hfr
          intro ho3 F7 N7
          k_extra "br"
          rw [hwl,List.take_length] at hA4
          clear F7 lF'
          ktr_unf
          k_extra "ay"
          show aX _ _ _ _ _ _ _
          refine nZ.intro lF' N7 w k9 (w2++[.ref lD]) (n2+1) (tl3++(lD,oD)::tl) (tp8 _ _ _ _ _ _ _ _) (aJ hI1 (aJ hI2 (yy (fun p hp=>(hfr p hp).2) hDI hoff))) (yy (fun p hp=>ho3 p (List.mem_append_left _ hp)) hDH ho1) (yy (fun p hp=>(hfr p hp).1) hDT ho2) ⟨rfl,rfl,rfl,rfl,⟨_,rfl⟩,?_,?_⟩
          · rw [hst2,hts];exact hA4.mono (tp9 _ _ _ _)
          · rw [hst2,hts]
            dsimp only
            rw [List.map_append]
            exact DatAll.append (hA2.mono (fun p hp=>tp9 _ _ _ _ p (List.mem_append_right _ hp))) (DatAll.one (hR9.mono (fun p hp=>by rw [List.mem_singleton.mp hp];exact List.mem_append_left _ (List.mem_append_right _ (.head _)))))
  case done =>
   intro m₁ w1 n1 w2 n2 tl h tk hr12q
   refine iA (hr12q) ?_
   (try clear hr12q);rintro hm1 hm2 hm3 hm4 ⟨ts2,hm5⟩ hA1 hA2
   intro ho1 ho2 F₁ N₁
   have F₂:=aK (aK F₁ (x:=Str.ofString "heap") hm1) (x:=Str.ofString "told") hm2
   clear F₁ lF' lN' N2
   ktr_unf
   k_extra "ay"
   k_extra "az"
   refine ret _ (_::_::_::(tl++[_,_])) _ _ lF' (cb_drop lN' (De _ _ _ _ _ _ _)) (.tuple (vs:=[.ref lT,.ref lH]) (.head _) (.cons (.list (.tail _ (.tail _ (.head _))) (hA2.mono ?_)) (.cons (.list (.tail _ (.head _)) (hA1.mono ?_)) .nil)))
   all_goals exact Dd _ _ _ _ _ _ _
end V0
end K
theorem r5:∀ v,r7 v:=ch1 (l:=PL.drop 35) BM K.V0.told_c_m
theorem BL:Ch (PL.drop 35) oV:=ch2 (l:=PL.drop 35) BM r5
theorem A6 {wp:List Value} {cp:Nat} {start:Str} {ts:Tok} {places:List Str}:r6 w p loose mean mg mb news dp un gd env outer A₀ base h₀ L m s Q E G P wp cp start ts places:=(r4 w p loose mean mg mb news dp un gd env outer A₀ base h₀ L m s Q E G P wp cp start ts places).2 fun g' L' h'=>r5 { oV with w,p,loose,mean,mg,mb,news,dp,un,gd,env,outer,A₀,base,h₀,L,m,s,Q,E,q52:=G,q4:=P,q9:=wp,q8:=cp,q12:=start,q26:=ts,q31:=places,q27:=g',q3:=L',q28:=h' }
end
section
noncomputable abbrev cp (x:Str):List Nat:=x.cps.toList
theorem cT {x y:Str} (h:cp x=cp y):x=y:=by
 cases x;cases y
 simp only [cp,Array.toList_inj] at h
 rw [h]
theorem dF (x y:Str):cp (x++y)=cp x++cp y:=by
 show ((x++y).cps).toList=_
 rw [show (x++y).cps=x.cps++y.cps from rfl,Array.toList_append]
theorem dM (x:Str):(cp x).length=x.length:=by simp [cp,Str.length]
noncomputable def bE (c:Nat):List (List Nat)→List Nat
 | []=>[]
 | [a]=>a
 | a::b::r=>a++c::bE c (b::r)
theorem cU:cp (Str.ofString "/")=[47]:=by decide
theorem bY:∀ (l:List Str),cp (Txt.join (Str.ofString "/") l)=bE 47 (l.map cp)
 | []=>by decide
 | [a]=>by
  show cp (PySem.Builtin.Str.glued _ _)=_
  rw [StrLaws.glued_eq_join]
  rfl
 | a::b::r=>by
  have ih:=bY (b::r)
  show cp (PySem.Builtin.Str.glued _ _)=_
  rw [StrLaws.glued_eq_join]
  have e:Str.join (Str.ofString "/") (a::b::r)=a++Str.ofString "/" ++ Str.join (Str.ofString "/") (b::r):=rfl
  rw [e,dF,dF,cU]
  rw [show Txt.join (Str.ofString "/") (b::r)=PySem.Builtin.Str.glued (Str.ofString "/") (b::r) from rfl,StrLaws.glued_eq_join] at ih
  rw [ih]
  simp [bE]
theorem xy {c:Nat}:∀ {l k:List (List Nat)},l≠[]→k≠[]→(∀ a∈l,c ∉ a)→(∀ a∈k,c ∉ a)→bE c l=bE c k→l=k:=by
 have cut:∀ {a b:List Nat} {r s:List Nat},c ∉ a→c ∉ b→a++c::r=b++c::s→a=b∧r=s:=by
  intro a
  induction a with
  | nil =>
   intro b r s ha hb h
   cases b with
   | nil=>exact ⟨rfl,by simpa using h⟩
   | cons x b =>
    simp only [List.nil_append,List.cons_append,List.cons.injEq] at h
    exact absurd (h.1 ▸ List.mem_cons_self) hb
  | cons x a ih =>
   intro b r s ha hb h
   cases b with
   | nil =>
    simp only [List.nil_append,List.cons_append,List.cons.injEq] at h
    exact absurd (h.1 ▸ List.mem_cons_self) ha
   | cons y b =>
    simp only [List.cons_append,List.cons.injEq] at h
    refine bV (h) ?_
    (try clear h);rintro rfl h
    have:=ih (fun q=>ha (.tail _ q)) (fun q=>hb (.tail _ q)) h
    exact ⟨by rw [this.1],this.2⟩
 have no:∀ {a:List Nat} {b r:List Nat},c ∉ a→a≠b++c::r:=by
  rintro a b r ha rfl
  exact ha (List.mem_append_right _ (.head _))
 intro l
 induction l with
 | nil=>intro k h;exact absurd rfl h
 | cons a l ih =>
  intro k _ hk hl hk2 h
  cases k with
  | nil=>exact absurd rfl hk
  | cons b k =>
   cases l with
   | nil =>
    cases k with
    | nil=>simpa [bE] using h
    | cons d k=>exact absurd h (by simp only [bE];exact no (hl a (.head _)))
   | cons d l =>
    cases k with
    | nil=>exact absurd h.symm (by simp only [bE];exact no (hk2 b (.head _)))
    | cons f k =>
     simp only [bE] at h
     refine bV (cut (hl a (.head _)) (hk2 b (.head _)) h) ?_
     rintro rfl h2
     rw [ih (by simp) (by simp) (fun q hq=>hl q (.tail _ hq)) (fun q hq=>hk2 q (.tail _ hq)) h2]
noncomputable def SF (x:Str):Prop:=47 ∉ cp x
theorem jj (x:Str):Txt.split x (Str.ofString "/")≠[]:=by
 intro h
 have h1:=StrLaws.join_split x (Str.ofString "/")
 rw [h] at h1
 have h2:x=Str.ofString "" := by rw [← h1];decide
 rw [h2] at h
 revert h
 decide
theorem sg:Str.ofString "/" = ⟨#[47]⟩:=by decide
theorem gP {l:List Str} (hne:l≠[]) (h:∀ a∈l,SF a):Txt.split (Txt.join (Str.ofString "/") l) (Str.ofString "/")=l:=by
 have h1:=StrLaws.join_split (Txt.join (Str.ofString "/") l) (Str.ofString "/")
 have h2:∀ p∈Txt.split (Txt.join (Str.ofString "/") l) (Str.ofString "/"),SF p:=by
  rw [sg]
  exact StrLaws.split_free _ 47
 have h3:=jj (Txt.join (Str.ofString "/") l)
 generalize Txt.split (Txt.join (Str.ofString "/") l) (Str.ofString "/")=k at h1 h2 h3
 have e:Txt.join (Str.ofString "/") k=Str.join (Str.ofString "/") k:=by
  show PySem.Builtin.Str.glued _ _=_
  rw [StrLaws.glued_eq_join]
 rw [← e] at h1
 have h4:=congrArg cp h1
 rw [bY,bY] at h4
 have h5:=xy (c:=47) (by simpa using h3) (by simpa using hne) (fun a ha=>by obtain ⟨x,hx,rfl⟩:=List.mem_map.mp ha;exact h2 x hx) (fun a ha=>by obtain ⟨x,hx,rfl⟩:=List.mem_map.mp ha;exact h x hx) h4
 have inj:∀ {a b:List Str},a.map cp=b.map cp→a=b:=by
  intro a
  induction a with
  | nil=>intro b h;cases b with | nil=>rfl | cons _ _=>simp at h
  | cons x a ih=>intro b h;cases b with
   | nil=>simp at h
   | cons y b =>
    simp only [List.map_cons,List.cons.injEq] at h
    rw [cT h.1,ih h.2]
 exact inj h5
end
section
structure Nm (x:Str):Prop where
 sf:SF x
 ne:x≠Str.ofString ""
 dot:x≠Str.ofString "."
 dd:x≠Str.ofString ".."
 ok:PyData.strOk x=true
 len:x.length≤3
theorem cE (x:Str):PyData.strOk x=true ↔ ∀ c∈cp x,c < 0x110000:=by
 unfold PyData.strOk
 rw [Array.all_eq_true_iff_forall_mem]
 simp
theorem jm {x:Int} {c:Str} (h:c∈fU x):SF c∧PyData.strOk c=true∧c.length≤3:=by
 refine ⟨?_,?_,so h⟩
 · k_extra "eo"
   k_extra "e6"
   · unfold SF;decide
   · unfold SF;decide
   · unfold SF;decide
   · unfold SF;decide
   · unfold SF;decide
   · unfold SF;decide
   · unfold SF;decide
   · unfold SF cp
     k_extra "ft"
     simp
     k_extra "l"
 · k_extra "eo"
   k_extra "e6"
   · decide +kernel
   · decide +kernel
   · decide +kernel
   · decide +kernel
   · decide +kernel
   · decide +kernel
   · decide +kernel
   · k_extra "ft"
     have h1:(x.fdiv 512).fmod 55000 < 55000:=Int.fmod_lt_of_pos _ (by decide)
     rw [cE]
     intro c hc
     have:c=(48+(x.fdiv 512).fmod 55000).toNat:=by simpa using hc
     k_extra "l"
theorem nC (x:Int) (p:Nat):dC x p∈fU x:=by
 unfold dC
 rw [List.getD_eq_getElem?_getD]
 cases h:(fU x)[((x.fdiv (8 ^ p)).fmod 8).toNat]? with
 | none=>simp [fU]
 | some y=>exact List.mem_of_getElem? h
theorem qs (x:Int):aO x=Txt.join (Str.ofString "/") (Str.ofString "" :: Str.ofString "." :: (List.range 3).map (dC x)):=by
 apply cT
 unfold aO
 rw [dF,bY,bY]
 have e:cp (Str.ofString "/./")=[47,46,47]:=by decide
 have e1:cp (Str.ofString "")=[]:=by decide
 have e2:cp (Str.ofString ".")=[46]:=by decide
 rw [e,List.map_cons,List.map_cons,e1,e2]
 rfl
theorem vw (x:Int):Txt.split (aO x) (Str.ofString "/")=Str.ofString "" :: Str.ofString "." :: (List.range 3).map (dC x):=by
 rw [qs]
 refine gP (by simp) fun a ha => ?_
 rcases List.mem_cons.mp ha with rfl | ha
 · unfold SF;decide
 · rcases List.mem_cons.mp ha with rfl | ha
   · unfold SF;decide
   · k_extra "bb"
     rintro p _ rfl
     exact (jm (nC x p)).1
theorem jJ:∀ (l acc:List Str),(∀ a∈l,SF a∧PyData.strOk a=true∧a.length≤3)→(∀ a∈acc,Nm a) → ∀ a∈l.foldl aF acc,Nm a
 | [],acc,h,ha=>ha
 | c::l,acc,h,ha=>by
  rw [List.foldl_cons]
  refine jJ l _ (fun a q=>h a (.tail _ q)) ?_
  unfold aF
  split
  · exact fun a q=>ha a (List.dropLast_subset _ q)
  · split
    · exact ha
    · rename_i h1 h2
      intro a q
      rcases List.mem_append.mp q with q | q
      · exact ha a q
      · rw [List.mem_singleton.mp q]
        have hc:=h c (.head _)
        refine ⟨hc.1,fun e=>h2 (.inl (by rw [e];decide)),fun e=>h2 (.inr e),h1,hc.2.1,hc.2.2⟩
theorem rq (x:Int):aA (aO x)=((List.range 3).map (dC x)).foldl aF []:=by
 unfold aA
 rw [vw,List.foldl_cons,List.foldl_cons]
 rfl
theorem eL (x:Int):(∀ a∈aA (aO x),Nm a)∧(aA (aO x)).length≤3:=by
 rw [rq]
 refine ⟨jJ _ _ (fun a ha => ?_) (fun a h=>nomatch h),?_⟩
 · k_extra "bb"
   rintro p _ rfl
   exact jm (nC x p)
 · have:=hU ((List.range 3).map (dC x)) []
   simpa using this
end
section
theorem nc {x:Str} {k:Nat} (h:k≤x.length):cp (Txt.slice x none (some (k:Int)))=(cp x).take k:=by
 have:=beq_iff_eq.mp (slice_closes_toL (x:=x) (j:=(k:Int)) (by exact zme (zae [_] 1 (zn 0) qA [] rfl)) (by exact zme (zae [_,_] 1 qB qA [(1,qB,qA)] rfl h)))
 rw [this]
 simp [cp]
theorem eS {x:Str} {k:Nat} (h:k≤x.length):cp (Txt.slice x (some (k:Int)) none)=(cp x).drop k:=by
 have:=slice_from_eq (x:=x) (i:=(k:Int)) (b:=x.length) (by exact zme (zae [_] 1 (zn 0) qA [] rfl)) (by exact zme (zae [_,_] 1 qB qA [(1,qB,qA)] rfl h)) rfl
 rw [this]
 have hl:(cp x).length=x.length:=dM x
 simp only [cp,Int.toNat_natCast]
 rw [List.take_of_length_le]
 rw [List.length_drop]
 have:x.cps.toList.length=x.length:=hl
 k_extra "l"
theorem zy {x:Str} {i j:Nat} (h1:i≤j) (h:j≤x.length):cp (Txt.slice x (some (i:Int)) (some (j:Int)))=((cp x).drop i).take (j - i):=by
 have:=beq_iff_eq.mp (slice_closesL (x:=x) (i:=(i:Int)) (j:=(j:Int)) (by exact zme (zae [_] 1 (zn 0) qA [] rfl)) (by exact zme (zae [_,_] 1 qB qA [(1,qB,qA)] rfl h1)) (by exact zme (zae [_,_] 1 qB qA [(1,qB,qA)] rfl h)))
 rw [this]
 have e:((j:Int) - (i:Int)).toNat=j - i:=by k_extra "l"
 simp only [cp,Int.toNat_natCast,e]
theorem oB {x:Str} {c:Nat} {r:List Nat} (h:cp x=47::c::r) (hc:c≠47) :
 (x.length:Int)≠0∧(Txt.slice x none (some 1) != Str.ofString "/")=false∧(Txt.slice x (some 1) (some 2) != Str.ofString "/")=true∧cp (Txt.slice x (some 1) none)=c::r:=by
 have hl:x.length=r.length+2:=by rw [← dM,h];rfl
 refine ⟨by k_extra "l",?_,?_,?_⟩
 · have e:Txt.slice x none (some 1)=Str.ofString "/" := cT (by
    rw [show (1:Int)=((1:Nat):Int) from rfl,nc (by exact zae [_,_] 1 (zn 1) qA [(1,zp qB (zn 2),qA)] rfl (zge hl)),h,cU];rfl)
   rw [e];simp
 · have e:cp (Txt.slice x (some 1) (some 2))=[c]:=by
    rw [show (1:Int)=((1:Nat):Int) from rfl,show (2:Int)=((2:Nat):Int) from rfl,zy (by exact zae [] 1 (zn 1) (zn 2) [] rfl) (by exact zae [_,_] 1 (zn 2) qA [(1,zp qB (zn 2),qA)] rfl (zge hl)),h];rfl
   have ne:Txt.slice x (some 1) (some 2)≠Str.ofString "/" := fun q=>by
    rw [q,cU] at e
    exact hc (List.cons.inj e).1.symm
   simpa using ne
 · rw [show (1:Int)=((1:Nat):Int) from rfl,eS (by exact zae [_,_] 1 (zn 1) qA [(1,zp qB (zn 2),qA)] rfl (zge hl)),h];rfl
theorem l0 (n:Int):∃ r,cp (aO n)=47::46::r:=by
 unfold aO
 rw [dF]
 have e:cp (Str.ofString "/./")=[47,46,47]:=by decide
 rw [e]
 exact ⟨_,rfl⟩
theorem wz (n:Int):((aO n).length:Int)≠0∧(Txt.slice (aO n) none (some 1) != Str.ofString "/")=false∧(Txt.slice (aO n) (some 1) (some 2) != Str.ofString "/")=true:=by
 refine bA (l0 n) ?_
 intro r h
 have:=oB h (by decide)
 exact ⟨this.1,this.2.1,this.2.2.1⟩
end
section
open PyProof
theorem u0:mroOf (.type "object")=pure [.type "object"]:=by rw [mroOf_type];kernel_rfl
theorem sP:typeLookup (.type "object") "__new__" = pure (some (.builtin "object.__new__")):=by rw [typeLookup_type,builtinLookup_eq_fast];kernel_rfl
theorem sM:Bind.madeBy (.type "object")=pure (some "object.__new__"):=madeBy_type u0 sP (by decide +kernel)
theorem wh:TypeCalled "object" "object.__new__" "object.__init__" :=
 ⟨by decide +kernel,by decide +kernel,⟨_,_,u0⟩,sM,by decide +kernel,by rw [isSubtype_type];kernel_rfl,PySem.F.slot_object_init⟩
theorem rU:checkTypeCall "object" ⟨[],[]⟩=pure ():=by kernel_rfl
theorem uf:checkBuiltinCall "object.__new__" ⟨[.type "object"],[]⟩=pure ():=by kernel_rfl
theorem zg:Bind.madeHere "object.__new__" (.type "object")=pure ():=by
 unfold Bind.madeHere
 have e:Bind.staticBase (.type "object")=pure (.type "object"):=by first | rfl | kernel_rfl
 rw [e]
 simp only [pure_bind,sM]
 first | rfl | kernel_rfl | (simp;rfl)
theorem rA:Meets (Builtin.«object.__new__» ⟨[.type "object"],[]⟩) (fun _ R s=>R (.ok (.ret (.ref s.heap.objs.size))) { s with heap:=s.heap.push { cls := .type "object",data := .plain } }) :=
 .of_wp fun prog w A R s h=>by
  unfold Builtin.«object.__new__»
  dsimp only
  refine wpAny_bind (wpAny_of_eq (show isType (.type "object")=pure true from rfl) ?_)
  simp only [Bool.not_true,Bool.false_eq_true,if_false]
  rw [if_neg (by decide +kernel)]
  refine wpAny_bind (wpAny_of_eq zg ?_)
  rw [if_neg (by decide)]
  rw [if_neg (by decide +kernel)]
  k_extra "cc"
  k_extra "fo"
  rw [if_neg (by decide +kernel)]
  exact wpAny_pure ⟨_,rfl,h⟩
section
variable {prog:Program} {w:World} {A:Around} {E:Value→Shared→Prop} {s:Shared} {h₀:Heap} {L:Addr} {m:Str→Option Value} {news:List (Addr × Obj)}
theorem uq {Q:Value→Shared→Prop} (F:Fr h₀ L s.heap m) (N:News h₀ L s.heap news)
 (h:∀ D h',Fr h₀ L h' m→News h₀ L h' ((D,{ cls := .type "object",data := .plain })::news)→(∀ p∈news,p.1 < D)→Q (.ref D) { s with heap:=h' }):wpAny (model prog w) A (call (.type "object") []) Q E s :=
 callType_meets wh rU uf PySem.F.entry_object_new PySem.F.entry_object_init rA (Q₁:=fun obj s₁=>obj = .ref s.heap.objs.size∧s₁={ s with heap:=s.heap.push { cls := .type "object",data := .plain } }) ⟨rfl,rfl⟩
  fun obj s₁ hq=>by
   refine bV (hq) ?_
   (try clear hq);rintro rfl rfl
   refine ⟨⟨_,Heap.get?_push_size _ rfl,rfl⟩,PySem.F.args_object_init_1 _,fun _ R s=>R (.ok (.ret .none)) s,.of_wp fun prog w A R s hs=>wpAny_pure ⟨_,rfl,hs⟩,rfl,?_⟩
   exact h _ _ (F.push _) (News.push F N _) (fun p hp=>Heap.lt_size (N p hp).1)
theorem yh {l:Addr} {o:Obj} {vs:List Value} {c:Nat} {Q:Value→Shared→Prop} (F:Fr h₀ L s.heap m) (N:News h₀ L s.heap news) (hm:(l,o)∈news) (hc:o.cls = .type "list") (hd:o.data = .seq vs.toArray c)
 (h:∀ I h',Fr h₀ L h' m→News h₀ L h' ((I,{ cls := .type "list_iterator",data := .fields #[.ref l,.int 0 0] })::news)→(∀ p∈news,p.1 < I)→Q (.ref I) { s with heap:=h' }) :
 wpAny (model prog w) A (call (.builtin "iter") [.ref l]) Q E s:=by
 refine call_function_entry (by decide +kernel) (by decide +kernel) kdk_entry_iter (kdk_args_iter _) ?_
 unfold Builtin.«iter»
 refine wpAny_bind (m:=someArgs "iter" 1 2 _) (wpAny_of_eq (a:=[Value.ref l]) (by first | rfl | kernel_rfl!) ?_)
 show wpAny _ _ (pyIter (.ref l) >>= _) _ _ _
 refine wpAny_bind (wpAny_pyIter_list ⟨o,(N _ hm).1,hc,c,hd⟩ ?_)
 exact wpAny_pure ⟨_,rfl,h _ _ (F.push _) (News.push F N _ rfl) (fun p hp=>Heap.lt_size (N p hp).1)⟩
end
end
section
open PyProof
theorem l7 (lt:Nat→Nat→Bool):∀ j,bW lt j≤j
 | 0=>Nat.le_refl _
 | j+1=>by rw [bW];split;exact Nat.le_refl _;exact Nat.le_succ_of_le (l7 lt j)
theorem w9 (a d v:Value):argsOk "min" ⟨[a],[(Str.ofString "default",d),(Str.ofString "key",v)]⟩:=by unfold argsOk;kernel_rfl
section
variable {prog:Program} {w:World} {A:Around} {E:Value→Shared→Prop} {s:Shared} {h₀:Heap} {L l q I S:Addr} {m:Str→Option Value} {news:List (Addr × Obj)} {vs:List Value} {R:Result→Shared→Prop} {Q:Value→Shared→Prop}
end
namespace K
theorem minK_loop_m:mB w news h₀ L m s prog A l q I S vs R kd k kw:=by
 intro hh hu hl hlI hSI hnS hnI hkl hok hcmp turn hR
 k_extra "by"
 k_extra "fu"
 have hsz:vs.toArray.size=vs.length:=List.size_toArray ..
 intro r
 induction r with
 | zero =>
  intro j h tk vb kb c oI pre hr hj F N hpre hit hvb hkb
  have hin:j+1=vs.length:=by (exact Nat.le_antisymm (zae [_,_] 1 (zu qB) qA [(1,zu qB,qA)] rfl hj) (zae [_,_,_] 1 qB (zu qA) [(1,qC,zn 0),(1,qB,zp qC (zu qA))] rfl (zle hr) (zs2 _ _)))
  k_extra "fv"
  have nI:=N (I,oI) (List.mem_append_right _ (.tail _ (.head _)))
  k_extra "er"
  k_extra "c5"
  k_extra "c0"
  k_extra "f9"
  refine wpAny_bind (wpAny_seqItems nS.1 rfl ?_)
  k_extra "ew"
  refine wpAny_bind (wpAny_tryCatch (W.done _ _ _ ⟨by rw [hsz,← hin];exact hit,hl h Nn⟩ fun h' tk' hk' => ?_))
  have F1:=kmk_fr F hk' nI.2.1 nI.2.2
  have N1:=kmk_news Nn hk' hnI
  have hS':=hk' S _ (by simpa using hSI) nS.1
  have s1:=Heap.SameBut.update h' S (Obj.mapSeq fun _=>(#[]:Array Value))
  k_extra "e7"
  refine wpAny_bind ?_
  refine wpAny_updateSeq hS' rfl (wpAny_bind (wpAny_letGo (wpAny_pure ?_)))
  exact hR vb _ _ (by rw [show vs.length - 1=j by (exact Nat.le_antisymm (zae [_,_,_] 1 qB qA [(1,qC,zu qA),(1,zu qB,qC)] rfl (zge hin) (zs3 (zae [_,_] 1 (zn 1) qA [(1,zu qB,qA)] rfl hj))) (zae [_,_,_] 1 qB qA [(1,zu qB,qC),(1,qC,zu qA)] rfl hj (zs2 _ _)))];exact hvb) (ksk_fr F1 s1 nS.2.1 nS.2.2) (ksk_news N1 s1 hnS)
 | succ r ih =>
  intro j h tk vb kb c oI pre hr hj F N hpre hit hvb hkb
  have hlt:j+1 < vs.length:=by (exact zal [_,_,_,_] 1 (zu qB) qA [(1,zu qC,qD),(1,zp qD (zu qB),qA)] rfl (zge hr) (zs3 (zae [_,_] 1 (zu qB) qA [(1,zu qB,qA)] rfl hj)))
  k_extra "fv"
  have nI:=N (I,oI) (List.mem_append_right _ (.tail _ (.head _)))
  k_extra "er"
  k_extra "c5"
  k_extra "c0"
  k_extra "f9"
  refine wpAny_bind (wpAny_seqItems nS.1 rfl ?_)
  k_extra "ew"
  refine wpAny_bind (wpAny_tryCatch (W.item (j+1) _ _ _ (by rw [hsz];exact hlt) ⟨hit,hl h Nn⟩ fun v h' tk' hP hst' hk' => ?_))
  have hv:vs[j+1]? = some v:=by simpa using hP
  refine cH (id hst'.1) ?_
  intro oI' hoI' hoc hod
  have F1:=kmk_fr F hk' nI.2.1 nI.2.2
  have N1:News h₀ L h' (pre++(S,seqObj "list" #[vb,kb] c)::(I,oI')::news):=fun p hp=>by
   k_extra "be"
   · exact ⟨hk' p.1 _ (by simpa using (hpre p hp).2) (N p (List.mem_append_left _ hp)).1,(N p (List.mem_append_left _ hp)).2⟩
   · k_extra "ax"
     · exact ⟨hk' S _ (by simpa using hSI) nS.1,nS.2⟩
     · k_extra "ax"
       · exact ⟨hoI',nI.2⟩
       · exact kmk_news Nn hk' hnI p hp
  k_extra "f7"
  have hjk:j+1 < kd.length:=by (exact zal [_,_,_] 1 (zu qB) qA [(1,zu (zu qB),qC),(1,qC,qA)] rfl hlt (zge hkl))
  have hdk:kd[j+1]? = some (kd[j+1]'hjk):=List.getElem?_eq_getElem hjk
  refine wpAny_bind (wpAny_tryCatch (wpAny_holding (turn (j+1) v _ hv hdk _ _ _ _ F1 (fun p hp=>List.mem_append_right _ (.tail _ (.tail _ hp))) N1 fun u tl h2 tk2 F2 N2 hfr hu2 => ?_)))
  have hfS:∀ p∈tl++pre,p.1≠S∧p.1≠I:=fun p hp=>by
   k_extra "be"
   · exact ⟨Nat.ne_of_gt (hfr p hp _ (List.mem_append_right _ (.head _))),Nat.ne_of_gt (hfr p hp _ (List.mem_append_right _ (.tail _ (.head _))))⟩
   · exact hpre p hp
  rw [← List.append_assoc] at N2
  have nS2:=N2 (S,seqObj "list" #[vb,kb] c) (List.mem_append_right _ (.head _))
  have nI2:=N2 (I,oI') (List.mem_append_right _ (.tail _ (.head _)))
  have hit2:h2.IsListIter I l (j+1+1):=⟨oI',nI2.1,hoc,hod⟩
  have hmj:=l7 (bC k kd) j
  have hmk:bW (bC k kd) j < kd.length:=by (exact zal [_,_,_] 1 qB qA [(1,qB,qC),(1,zu (zu qC),qA)] rfl hmj hjk)
  have hlx:bC k kd (j+1) (bW (bC k kd) j)=dlt k (kd[j+1]'hjk) (kd.getD (bW (bC k kd) j) .none):=by
   unfold bC
   rw [List.getD_eq_getElem?_getD,hdk];rfl
  show wpAny _ A.in1 (tryCatch (holding [v,u] (richCompare .Lt u kb >>= _)) _ >>= _) _ _ _
  refine wpAny_bind (wpAny_tryCatch (wpAny_holding (wpAny_bind (oZ (s:={ s with heap:=h2,toks:=tk2 }) N2 k (hu2.mono fun p hp=>List.mem_append_left _ (List.mem_append_left _ hp)) (hkb.mono fun p hp=>List.mem_append_left _ (List.mem_append_right _ hp)) (hok _ (List.getElem_mem hjk)) (hok _ (bL hmk)) (hcmp _ (List.getElem_mem hjk) _ (bL hmk)) (by show A.units+1+2 * k < cLine;(exact zal [_,_,_] 1 (zp (zu qB) (zk 2 qC)) qA [(1,zu (zp (zp qB (zk 2 qC)) (zn 8)),qA)] rfl hu)) prog w _ _ ?_))))
  rw [← hlx]
  k_extra "fj"
  k_extra "c8"
  cases hb:bC k kd (j+1) (bW (bC k kd) j) with
  | true =>
   have hmF:bW (bC k kd) (j+1)=j+1:=by rw [bW,if_pos hb]
   have s1:=Heap.SameBut.update h2 S (Obj.mapSeq fun _ => #[v,u])
   k_extra "cq"
   intro c2 hc2
   simp only [if_true]
   refine wpAny_bind ?_
   refine wpAny_updateSeq nS2.1 rfl (wpAny_bind (wpAny_letGo ?_))
   rw [hname]
   refine wpAny_pure ⟨plainId_quiet PySem.F.plain_min_loop _,ih (j+1) _ _ v u c2 oI' (tl++pre) (by exact Nat.le_antisymm (zae [_,_,_,_,_] 1 qB qA [(1,qC,zu qA),(1,qD,zp qC (zu qE)),(1,zp qB (zu (zu qE)),qD)] rfl (zle hr) (zs2 _ _) (zs3 (zae [_,_] 1 (zu (zu qB)) qA [(1,zu (zu qB),qA)] rfl hlt))) (zae [_,_,_,_,_] 1 qB qA [(1,zu qB,qC),(1,qD,zp qA (zu (zu qE))),(1,zp qC (zu qE),qD)] rfl (zge hr) (zs2 _ _) (zs3 (zae [_,_] 1 (zu qB) qA [(1,zu (zu qB),qA)] rfl hlt)))) hlt (ksk_fr F2 s1 nS2.2.1 nS2.2.2) (fun p hp => ?_) hfS ⟨oI',(s1.2 I hSI.symm).trans nI2.1,hoc,hod⟩ (by rw [hmF];exact hv) ?_⟩
   · rcases List.mem_append.mp hp with hq | hq
     · exact ksk_news (news:=tl++pre) (fun p hp=>N2 p (List.mem_append_left _ hp)) s1 (fun p hp=>(hfS p hp).1) p hq
     · k_extra "c9"
       · exact ⟨hc2,nS2.2⟩
       · k_extra "c9"
         · exact ⟨(s1.2 I hSI.symm).trans nI2.1,nI2.2⟩
         · k_extra "d9"
   · rw [hmF,List.getD_eq_getElem?_getD,hdk]
     exact hu2.mono fun p hp=>List.mem_append_left _ hp
  | false =>
   have hmF:bW (bC k kd) (j+1)=bW (bC k kd) j:=by rw [bW,if_neg (by rw [hb];decide)]
   simp only [Bool.false_eq_true,if_false]
   k_extra "g3"
   rw [hname]
   refine wpAny_pure ⟨plainId_quiet PySem.F.plain_min_loop _,ih (j+1) _ _ vb kb c oI' (tl++pre) (by exact Nat.le_antisymm (zae [_,_,_,_,_] 1 qB qA [(1,qC,zu qA),(1,qD,zp qC (zu qE)),(1,zp qB (zu (zu qE)),qD)] rfl (zle hr) (zs2 _ _) (zs3 (zae [_,_] 1 (zu (zu qB)) qA [(1,zu (zu qB),qA)] rfl hlt))) (zae [_,_,_,_,_] 1 qB qA [(1,zu qB,qC),(1,qD,zp qA (zu (zu qE))),(1,zp qC (zu qE),qD)] rfl (zge hr) (zs2 _ _) (zs3 (zae [_,_] 1 (zu qB) qA [(1,zu (zu qB),qA)] rfl hlt)))) hlt F2 N2 hfS hit2 (by rw [hmF];exact hvb) (by rw [hmF];exact hkb.mono fun p hp=>List.mem_append_right _ hp)⟩
end K
section
variable {prog:Program} {w:World} {A:Around} {E:Value→Shared→Prop} {s:Shared} {h₀:Heap} {L l q I S:Addr} {m:Str→Option Value} {news:List (Addr × Obj)} {vs:List Value} {R:Result→Shared→Prop} {Q:Value→Shared→Prop}
theorem mA:∀ v,mC v:=ch1 (l:=PL.drop 36) BL K.minK_loop_m
theorem BK:Ch (PL.drop 36) oV:=ch2 (l:=PL.drop 36) BL mA
theorem xa {kd:List Dat} {k:Nat} {kw:List (Str × Value)} (hh:A.handled=none) (hu:A.units+2 * k+8 < cLine) (hl:∀ h,News h₀ L h news→h.IsList l vs.toArray) (hlI:l≠I) (hSI:S≠I) (hnS:∀ p∈news,p.1≠S) (hnI:∀ p∈news,p.1≠I)
 (hkl:kd.length=vs.length) (hok:∀ d∈kd,kqdOk k d=true) (hcmp:∀ a∈kd,∀ c∈kd,aY k a c=true)
 (turn:∀ (i:Nat) v d,vs[i]? = some v→kd[i]? = some d→mj prog w A.in1 h₀ L m news (.ref q) v d)
 (hR:∀ v h' tk',vs[bW (bC k kd) (vs.length - 1)]? = some v→Fr h₀ L h' m→News h₀ L h' news→R (.ok (.ret v)) { s with heap:=h',toks:=tk' }) :
 ∀ (r j:Nat) (h:Heap) (tk:Nat) (vb kb:Value) (c:Nat) (oI:Obj) (pre:List (Addr × Obj)),vs.length - (j+1)=r→j+1≤vs.length→Fr h₀ L h m →
  News h₀ L h (pre++(S,seqObj "list" #[vb,kb] c)::(I,oI)::news)→(∀ p∈pre,p.1≠S∧p.1≠I)→h.IsListIter I l (j+1)→vs[bW (bC k kd) j]? = some vb→DatIn pre kb (kd.getD (bW (bC k kd) j) .none) →
  codeAny (model prog w) A (.builtin "min.loop" ⟨[.ref I,.ref q,.ref S],kw⟩) R { s with heap:=h,toks:=tk }:=mA { oV with w,news,h₀,L,m,s,q1:=prog,q2:=A,q6:=l,q4:=q,q5:=I,q3:=S,q9:=vs,q40:=R,q48:=kd,q23:=k,q53:=kw } hh hu hl hlI hSI hnS hnI hkl hok hcmp turn hR
end
namespace K
theorem call_minK_m:ng w news h₀ L m s Q E prog A l q I vs kd k c o df:=by
 intro hh hu F N hnI hm hc hd hne hkl hok hcmp turn ret
 k_extra "by"
 have nI:=N (I,{ cls := .type "list_iterator",data := .fields #[.ref l,.int 0 0] }) (.head _)
 have Nn:News h₀ L s.heap news:=fun p hp=>N p (.tail _ hp)
 have hl:∀ h,News h₀ L h news→h.IsList l vs.toArray:=fun h N=>⟨o,(N _ hm).1,hc,c,hd⟩
 have hlI:l≠I:=hnI _ hm
 have hIz:I < s.heap.objs.size:=Heap.lt_size nI.1
 refine kmk_tree PySem.F.kind_min PySem.F.plain_min PySem.F.entry_min (w9 _ _ _) ?_
 show wpAny _ A.in1 (Builtin.Builtins.bindParams "min" ["key","default"] 0 ⟨[],[(Str.ofString "default",df),(Str.ofString "key",.ref q)]⟩ >>= _) _ _ s
 refine wpAny_bind (wpAny_of_eq (show Builtin.Builtins.bindParams "min" ["key","default"] 0 ⟨[],[(Str.ofString "default",df),(Str.ofString "key",.ref q)]⟩=pure [some (.ref q),some df] from rfl) ?_)
 k_extra "cc"
 k_extra "fu"
 have hsz:vs.toArray.size=vs.length:=List.size_toArray ..
 have hit0:s.heap.IsListIter I l 0:=⟨_,nI.1,rfl,rfl⟩
 refine wpAny_bind (W.self 0 s _ _ ⟨hit0,hl _ Nn⟩ ?_)
 refine wpAny_bind (wpAny_newList ?_ (Nat.zero_le _))
 rw [hname]
 refine wpAny_pure ⟨plainId_quiet PySem.F.plain_min_loop _,?_⟩
 have hL:L < s.heap.objs.size:=F.ns.lt
 have hSI:s.heap.objs.size≠I:=Nat.ne_of_gt hIz
 have FH:Fr h₀ L (s.heap.push (seqObj "list" #[] 0)) m:=F.push _
 have gS:(s.heap.push (seqObj "list" #[] 0)).get? s.heap.objs.size=some (seqObj "list" #[] 0):=Heap.get?_push_size _ rfl
 have NH:News h₀ L (s.heap.push (seqObj "list" #[] 0)) news:=Nn.grown fun b x e=>Heap.get?_push_of_some _ e
 have gI:=Heap.get?_push_of_some (seqObj "list" #[] 0) nI.1
 have hnS:∀ p∈news,p.1≠s.heap.objs.size:=fun p hp=>Nat.ne_of_lt (Heap.lt_size (Nn p hp).1)
 have aS:s.heap.objs.size≠L:=Nat.ne_of_gt hL
 have zS:h₀.get? s.heap.objs.size=none:=next_is_new F
 show codeAny _ _ (.builtin "min.loop" ⟨[.ref I,.ref q,.ref s.heap.objs.size],[(Str.ofString "default",df)]⟩) _ { s with heap:=s.heap.push (seqObj "list" #[] 0) }
 generalize s.heap.push (seqObj "list" #[] 0)=H1 at *
 generalize s.heap.objs.size=S at *
 k_extra "c5"
 k_extra "c0"
 k_extra "f9"
 refine wpAny_bind (wpAny_seqItems gS rfl ?_)
 k_extra "ew"
 refine wpAny_bind (wpAny_tryCatch (W.item 0 _ _ _ (by rw [hsz];exact hne) ⟨⟨_,gI,rfl,rfl⟩,hl _ NH⟩ fun v h' tk' hP hst' hk' => ?_))
 have hv:vs[0]? = some v:=by simpa using hP
 refine cH (id hst'.1) ?_
 intro oI' hoI' hoc hod
 have F1:=kmk_fr FH hk' nI.2.1 nI.2.2
 have N1:News h₀ L h' ((S,seqObj "list" #[] 0)::(I,oI')::news):=fun p hp=>by
  k_extra "ax"
  · exact ⟨hk' _ _ (by simpa using hSI) gS,aS,zS⟩
  · k_extra "ax"
    · exact ⟨hoI',nI.2⟩
    · exact kmk_news NH hk' hnI p hp
 k_extra "f7"
 have hjk : 0 < kd.length:=by (exact zal [_,_] 1 (zn 0) qA [(1,qB,qA),(1,zu (zn 0),qB)] rfl (zge hkl) hne)
 have hdk:kd[0]? = some (kd[0]'hjk):=List.getElem?_eq_getElem hjk
 refine wpAny_bind (wpAny_tryCatch (wpAny_holding (turn 0 v _ hv hdk _ _ _ _ F1 (fun p hp => .tail _ (.tail _ hp)) N1 fun u tl h2 tk2 F2 N2 hfr hu2 => ?_)))
 have hfS:∀ p∈tl,p.1≠S∧p.1≠I:=fun p hp=>⟨Nat.ne_of_gt (hfr p hp _ (.head _)),Nat.ne_of_gt (hfr p hp _ (.tail _ (.head _)))⟩
 have nS2:=N2 (S,seqObj "list" #[] 0) (List.mem_append_right _ (.head _))
 have nI2:=N2 (I,oI') (List.mem_append_right _ (.tail _ (.head _)))
 have s1:=Heap.SameBut.update h2 S (Obj.mapSeq fun _ => #[v,u])
 k_extra "cq"
 intro c2 hc2
 show wpAny _ A.in1 (updateSeq S (fun _ => #[v,u]) >>= _) _ _ _
 refine wpAny_bind ?_
 refine wpAny_updateSeq nS2.1 rfl ?_
 rw [hname]
 refine wpAny_pure ⟨plainId_quiet PySem.F.plain_min_loop _,xa (k:=k) (kd:=kd) (s:=s) hh (by exact zal [_,_,_] 1 (zp (zp qB (zk 2 qC)) (zn 8)) qA [(1,zu (zp (zp qB (zk 2 qC)) (zn 16)),qA)] rfl hu) hl hlI hSI hnS hnI hkl hok hcmp turn (fun v h' tk' hv F N=>ret v h' tk' hv F N) _ 0 _ _ v u c2 oI' tl rfl hne (ksk_fr F2 s1 nS2.2.1 nS2.2.2) (fun p hp => ?_) hfS ⟨oI',(s1.2 I hSI.symm).trans nI2.1,hoc,hod⟩ (by rw [bW];exact hv) ?_⟩
 · rcases List.mem_append.mp hp with hq | hq
   · exact ksk_news (news:=tl) (fun p hp=>N2 p (List.mem_append_left _ hp)) s1 (fun p hp=>(hfS p hp).1) p hq
   · k_extra "c9"
     · exact ⟨hc2,nS2.2⟩
     · k_extra "c9"
       · exact ⟨(s1.2 I hSI.symm).trans nI2.1,nI2.2⟩
       · k_extra "d9"
 · rw [bW,List.getD_eq_getElem?_getD,hdk]
   exact hu2
end K
section
variable {prog:Program} {w:World} {A:Around} {E:Value→Shared→Prop} {s:Shared} {h₀:Heap} {L l q I S:Addr} {m:Str→Option Value} {news:List (Addr × Obj)} {vs:List Value} {R:Result→Shared→Prop} {Q:Value→Shared→Prop}
theorem nf:∀ v,nh v:=ch1 (l:=PL.drop 37) BK K.call_minK_m
theorem BJ:Ch (PL.drop 37) oV:=ch2 (l:=PL.drop 37) BK nf
theorem yc {kd:List Dat} {k:Nat} {c:Nat} {o:Obj} {df:Value} (hh:A.handled=none) (hu:A.units+2 * k+16 < cLine) (F:Fr h₀ L s.heap m) (N:News h₀ L s.heap ((I,{ cls := .type "list_iterator",data := .fields #[.ref l,.int 0 0] })::news))
 (hnI:∀ p∈news,p.1≠I) (hm:(l,o)∈news) (hc:o.cls = .type "list") (hd:o.data = .seq vs.toArray c) (hne : 0 < vs.length)
 (hkl:kd.length=vs.length) (hok:∀ d∈kd,kqdOk k d=true) (hcmp:∀ a∈kd,∀ c∈kd,aY k a c=true)
 (turn:∀ (i:Nat) v d,vs[i]? = some v→kd[i]? = some d→mj prog w A.in1 h₀ L m news (.ref q) v d)
 (ret:∀ v h' tk',vs[bW (bC k kd) (vs.length - 1)]? = some v→Fr h₀ L h' m→News h₀ L h' news→Q v { s with heap:=h',toks:=tk' }) :
 wpAny (model prog w) A (call (.builtin "min") [.ref I] [(Str.ofString "default",df),(Str.ofString "key",.ref q)]) Q E s:=nf { oV with w,news,h₀,L,m,s,Q,E,q1:=prog,q2:=A,q6:=l,q4:=q,q5:=I,q9:=vs,q48:=kd,q23:=k,q8:=c,q41:=o,q43:=df } hh hu F N hnI hm hc hd hne hkl hok hcmp turn ret
end
end
section
open PyProof
section
variable {prog:Program} {w:World} {A:Around} {E:Value→Shared→Prop} {s:Shared}
theorem ml {it:Addr} {x left step:Int} {Q:Value→Shared→Prop} (hit:IsRangeIter s.heap it x left step) (hleft : 0 < left)
 (hQ:∀ h',IsRangeIter h' it (x+step) (left - 1) step→Heap.SameBut it s.heap h'→Q (.int x s.toks) { s with heap:=h',toks:=s.toks+1 }) :
 wpAny (model prog w) A (Builtin.SmallTypes.nextOf (.ref it)) Q E s:=by
 have hT:s.TypeIs (.ref it) "range_iterator" := ⟨_,hit,rfl⟩
 unfold Builtin.SmallTypes.nextOf
 refine wpAny_bind (wpAny_callSpecial?_slot (name:=Str.ofString "__next__") hT F.slot_range_iterator_next
  (call_meets F.slot_range_iterator_next hT F.entry_range_iterator_next (F.args_range_iterator_next_1 _) (AutoRange.range_iterator___next___range_iterator_1 it x left step (by k_extra "g")) ⟨hit,?_⟩))
 exact wpAny_pure (hQ _ (Heap.get?_update_self _ (Heap.get?_update_self _ hit rfl) rfl) ((Heap.SameBut.update ..).trans (Heap.SameBut.update ..)))
theorem nF {it:Addr} {x left step:Int} {Q:Value→Shared→Prop} (hh:A.handled=none) (hit:IsRangeIter s.heap it x left step) (hleft:left≤0)
 (hE:∀ h' e,Heap.ExtBut it s.heap h'→(∃ o,h'.get? e=some o∧o.cls = .type "StopIteration")→E (.ref e) { s with heap:=h' }) :
 wpAny (model prog w) A (Builtin.SmallTypes.nextOf (.ref it)) Q E s:=by
 have hT:s.TypeIs (.ref it) "range_iterator" := ⟨_,hit,rfl⟩
 unfold Builtin.SmallTypes.nextOf
 refine wpAny_bind (wpAny_callSpecial?_slot (name:=Str.ofString "__next__") hT F.slot_range_iterator_next
  (wpAny_call_entry F.slot_range_iterator_next hT F.entry_range_iterator_next ?_ (F.args_range_iterator_next_1 _)))
 show wpAny _ _ (field (.ref it) 0 >>= _) _ _ s
 refine wpAny_bind (wpAny_field hit rfl (x:=rawInt x) rfl ?_)
 show wpAny _ _ (field (.ref it) 1 >>= _) _ _ s
 refine wpAny_bind (wpAny_field hit rfl (x:=rawInt left) rfl ?_)
 show wpAny _ _ (field (.ref it) 2 >>= _) _ _ s
 refine wpAny_bind (wpAny_field hit rfl (x:=rawInt step) rfl ?_)
 show wpAny _ _ (if left≤0 then _ else _) _ _ s
 rw [if_pos hleft]
 k_extra "fn"
 refine wpAny_bind ?_
 show wpAny _ _ (newExc (.type "StopIteration") [] >>= _) _ _ _
 refine wpAny_bind ?_
 simp only [newExc,newTuple]
 refine wpAny_bind (wpAny_newObj_type ?_ (by size_fits))
 k_extra "dk"
 refine wpAny_newObj_type ?_ (by size_fits)
 simp only [raiseNew]
 refine wpAny_bind (wpAny_handled ?_)
 first | rw [show A.in1.handled=none from hh] | rw [hh]
 refine wpAny_bind (wpAny_pure (wpAny_throw ?_))
 refine hE _ _ (fun b o _ e=>Heap.get?_push_of_some _ (Heap.get?_push_of_some _ e)) ⟨_,Heap.get?_push_size _ rfl,rfl⟩
end
namespace K
namespace V12
theorem zipR_next_item_m:eU w s Q E prog A z TI TO i1 i2 l2 k2 x left ys y a b:=by
 intro D hz hTI hTO h1 hleft h2 hl2 hy hQ
 show wpAny _ _ (field (.ref z) 2 >>= _) _ _ _
 refine wpAny_bind (wpAny_field hz rfl (x := .bool false) rfl ?_)
 show wpAny _ _ (field (.ref z) 3 >>= _) _ _ _
 k_extra "dx"
 refine wpAny_bind (wpAny_seqItems hTI rfl ?_)
 k_extra "go"
 refine wpAny_bind ?_
 unfold Builtin.SmallTypes.ownedTupleIsFree
 k_extra "gw"
 simp only [if_true]
 k_extra "fn"
 refine wpAny_bind (wpAny_field hz rfl (x := .ref TO) rfl ?_)
 k_extra "f0"
 replace hz₁:IsZip h₁ z TI TO .ellipsis:=hz₁
 refine wpAny_bind ?_
 k_extra "f1"
 k_extra "gm"
 show wpAny _ _ (Builtin.SmallTypes.nextOf (.ref i1) >>= _) _ _ _
 refine wpAny_bind (ml (hs₁.extBut _ _ D.i1z h1) hleft fun h₂ h1₂ hs₂=>wpAny_pure ?_)
 have hTO₂:IsPair h₂ TO a b:=hs₂.extBut _ _ D.TOi1 (hs₁.extBut _ _ D.TOz hTO)
 refine wpAny_bind (wpAny_seqItems hTO₂ rfl ?_)
 refine wpAny_bind (wpAny_updateSeq_pair hTO₂ fun h₃ hTO₃ hs₃ => ?_)
 replace hTO₃:IsPair h₃ TO (.int x s.toks) b:=hTO₃
 k_extra "c8"
 k_extra "gm"
 show wpAny _ _ (Builtin.SmallTypes.nextOf (.ref i2) >>= _) _ _ _
 refine wpAny_bind (wpAny_nextOf_list_item (((h2.extBut hs₁.extBut D.i2z).extBut hs₂.extBut D.i12.symm).extBut hs₃.extBut D.TOi2.symm)
  (((hl2.extBut hs₁.extBut D.l2z).extBut hs₂.extBut D.l2i1).extBut hs₃.extBut D.l2TO) hy fun h₄ h2₄ hs₄=>wpAny_pure ?_)
 have hTO₄:IsPair h₄ TO (.int x s.toks) b:=hs₄.extBut _ _ D.TOi2 hTO₃
 refine wpAny_bind (wpAny_seqItems hTO₄ rfl ?_)
 refine wpAny_bind (wpAny_updateSeq_pair hTO₄ fun h₅ hTO₅ hs₅ => ?_)
 replace hTO₅:IsPair h₅ TO (.int x s.toks) y:=hTO₅
 refine wpAny_bind (wpAny_letGo (wpAny_pure (wpAny_pure ?_)))
 refine wpAny_bind (wpAny_seqItems hTO₅ rfl ?_)
 refine wpAny_bind (wpAny_newTuple ?_)
 have hsz:h₅.objs.size=s.heap.objs.size:=by rw [hs₅.1,hs₄.1,hs₃.1,hs₂.1,hs₁.1]
 have hz₅:IsZip h₅ z TI TO .ellipsis:=hs₅.extBut _ _ D.TOz.symm (hs₄.extBut _ _ D.i2z.symm (hs₃.extBut _ _ D.TOz.symm (hs₂.extBut _ _ D.i1z.symm hz₁)))
 have hk₅:∀ c o,c≠z→c≠TO→c≠i1→c≠i2→s.heap.get? c=some o→h₅.get? c=some o:=fun c o c1 c2 c3 c4 e =>
  hs₅.extBut _ _ c2 (hs₄.extBut _ _ c4 (hs₃.extBut _ _ c2 (hs₂.extBut _ _ c3 (hs₁.extBut _ _ c1 e))))
 have h1₅:IsRangeIter h₅ i1 (x+1) (left - 1) 1:=hs₅.extBut _ _ D.TOi1.symm (hs₄.extBut _ _ D.i12 (hs₃.extBut _ _ D.TOi1.symm h1₂))
 have h2₅:h₅.IsListIter i2 l2 (k2+1):=h2₄.extBut hs₅.extBut D.TOi2.symm
 have hzlt:z < h₅.objs.size:=Heap.lt_size hz₅
 show wpAny _ _ (Builtin.SmallTypes.ownedTupleHandOut (.ref z) (.ref h₅.objs.size) >>= _) _ _ _
 refine wpAny_bind ?_
 unfold Builtin.SmallTypes.ownedTupleHandOut
 have hz₆:IsZip (h₅.push { cls := .type "tuple",data := .seq #[.int x s.toks,y] }) z TI TO .ellipsis:=Heap.get?_push_of_some _ hz₅
 refine wpAny_bind (wpAny_setField_rec hz₆ (by simp) fun h₇ hz₇ hs₇ => ?_)
 replace hz₇:IsZip h₇ z TI TO (rawInt h₅.objs.size):=hz₇
 refine wpAny_setField_rec hz₇ (by simp) fun h₈ hz₈ hs₈ => ?_
 replace hz₈:IsZip h₈ z TI TO (rawInt h₅.objs.size):=hz₈
 have up:∀ c o,c≠z→h₅.get? c=some o→h₈.get? c=some o:=fun c o c1 e=>hs₈.extBut _ _ c1 (hs₇.extBut _ _ c1 (Heap.get?_push_of_some _ e))
 have hT₈:IsPair h₈ h₅.objs.size (.int x s.toks) y:=hs₈.extBut _ _ (Nat.ne_of_gt hzlt) (hs₇.extBut _ _ (Nat.ne_of_gt hzlt) (Heap.get?_push_size _ rfl))
 have hz8:h₈.objs.size=h₅.objs.size+1:=by rw [hs₈.1,hs₇.1,Heap.size_push]
 rw [hsz] at hz₈ hT₈ hz8
 refine wpAny_pure ⟨_,rfl,?_⟩
 show Q (.ref h₅.objs.size) _
 rw [hsz]
 exact hQ h₈ hz₈ (up _ _ D.TOz hTO₅) (up _ _ D.i1z h1₅) (h2₅.at fun o e=>up _ o D.i2z e) hT₈ hz8 fun c o c1 c2 c3 c4 e=>up c o c1 (hk₅ c o c1 c2 c3 c4 e)
end V12
end K
theorem hF:∀ v,hG v:=ch1 (l:=PL.drop 38) BJ K.V12.zipR_next_item_m
theorem BI:Ch (PL.drop 38) oV:=ch2 (l:=PL.drop 38) BJ hF
theorem pQ {prog:Program} {TI:Addr} {TO:Addr} {i1:Addr} {i2:Addr} {l2:Addr} {k2:Nat} {left:Int} {ys:Array Value}:eU w s Q E prog A z TI TO i1 i2 l2 k2 x left ys y a b:=hF { oV with w,s,Q,E,q1:=prog,q2:=A,q3:=z,q4:=TI,q7:=TO,q54:=i1,q5:=i2,q6:=l2,q8:=k2,q25:=x,q55:=left,q22:=ys,q43:=y,q44:=a,q56:=b }
section
variable {prog:Program} {w:World} {A:Around} {E:Value→Shared→Prop} {s:Shared}
end
namespace K
namespace V9
theorem zipR_next_end_m:ig w s E prog A z TI TO i1 i2 x left Q:=by
 intro hh i1z hz hTI h1 hleft hE
 show wpAny _ _ (field (.ref z) 2 >>= _) _ _ _
 refine wpAny_bind (wpAny_field hz rfl (x := .bool false) rfl ?_)
 show wpAny _ _ (field (.ref z) 3 >>= _) _ _ _
 k_extra "dx"
 refine wpAny_bind (wpAny_seqItems hTI rfl ?_)
 k_extra "go"
 refine wpAny_bind ?_
 unfold Builtin.SmallTypes.ownedTupleIsFree
 k_extra "gw"
 simp only [if_true]
 k_extra "fn"
 refine wpAny_bind (wpAny_field hz rfl (x := .ref TO) rfl ?_)
 k_extra "f0"
 replace hz₁:IsZip h₁ z TI TO .ellipsis:=hz₁
 refine wpAny_bind ?_
 k_extra "f1"
 k_extra "gm"
 show wpAny _ _ (Builtin.SmallTypes.nextOf (.ref i1) >>= _) _ _ _
 refine wpAny_bind (nF hh (hs₁.extBut _ _ i1z h1) hleft fun h₂ e hs₂ he => ?_)
 refine aE (he) ?_
 (try clear he);intro oe hoe hce
 have hz₂:IsZip h₂ z TI TO .ellipsis:=hs₂ _ _ i1z.symm hz₁
 have hez:e≠z:=fun x=>by subst x;rw [hz₂] at hoe;cases hoe;simp at hce
 refine wpAny_setField_rec hz₂ (by simp) fun h₃ _ hs₃=>hE h₃ e (fun c o c1 c3 x=>hs₃.extBut _ _ c1 (hs₂ _ _ c3 (hs₁.extBut _ _ c1 x))) ⟨oe,hs₃.extBut _ _ hez hoe,hce⟩
end V9
end K
section
variable {prog:Program} {w:World} {A:Around} {E:Value→Shared→Prop} {s:Shared}
theorem ie:∀ v,ii v:=ch1 (l:=PL.drop 39) BI K.V9.zipR_next_end_m
theorem BH:Ch (PL.drop 39) oV:=ch2 (l:=PL.drop 39) BI ie
theorem ro {z TI TO i1 i2:Addr} {x left:Int} {Q:Fin→Shared→Prop} (hh:A.handled=none) (i1z:i1≠z)
 (hz:IsZip s.heap z TI TO .none) (hTI:IsPair s.heap TI (.ref i1) (.ref i2)) (h1:IsRangeIter s.heap i1 x left 1) (hleft:left≤0)
 (hE:∀ h' e,(∀ c o,c≠z→c≠i1→s.heap.get? c=some o→h'.get? c=some o)→(∃ o,h'.get? e=some o∧o.cls = .type "StopIteration")→E (.ref e) { s with heap:=h' }) :
 wpAny (model prog w) A (Builtin.«zip.__next__» ⟨[.ref z],[]⟩) Q E s:=ie { oV with w,s,E,q1:=prog,q2:=A,q3:=z,q4:=TI,q7:=TO,q54:=i1,q5:=i2,q25:=x,q55:=left,q57:=Q } hh i1z hz hTI h1 hleft hE
theorem nA {z TI TO i1 i2 l2:Addr} {k2:Nat} {x left:Int} {ys:Array Value} {y a b:Value} {Q:Option Value→Shared→Prop} (D:ZAp z TI TO i1 i2 l2)
 (hz:IsZip s.heap z TI TO .none) (hTI:IsPair s.heap TI (.ref i1) (.ref i2)) (hTO:IsPair s.heap TO a b)
 (h1:IsRangeIter s.heap i1 x left 1) (hleft : 0 < left) (h2:s.heap.IsListIter i2 l2 k2) (hl2:s.heap.IsList l2 ys) (hy:ys[k2]? = some y)
 (hQ:∀ h',IsZip h' z TI TO (rawInt s.heap.objs.size)→IsPair h' TO (.int x s.toks) y→IsRangeIter h' i1 (x+1) (left - 1) 1→h'.IsListIter i2 l2 (k2+1)→IsPair h' s.heap.objs.size (.int x s.toks) y→h'.objs.size=s.heap.objs.size+1 →
  (∀ c o,c≠z→c≠TO→c≠i1→c≠i2→s.heap.get? c=some o→h'.get? c=some o)→Q (some (.ref s.heap.objs.size)) { s with heap:=h',toks:=s.toks+1 }) :
 wpAny (model prog w) A (pyNext (.ref z)) Q E s:=by
 have hT:s.TypeIs (.ref z) "zip" := ⟨_,hz,rfl⟩
 unfold pyNext
 exact wpAny_bind (wpAny_attempt (wpAny_callSpecial?_slot (name:=Str.ofString "__next__") hT F.slot_zip_next
  (wpAny_call_entry F.slot_zip_next hT F.entry_zip_next
   (pQ D hz hTI hTO h1 hleft h2 hl2 hy fun h' a1 a2 a3 a4 a5 a6 a7=>wpAny_pure (hQ h' a1 a2 a3 a4 a5 a6 a7)) (F.args_zip_next_1 _))))
theorem oF {z TI TO i1 i2:Addr} {x left:Int} {Q:Option Value→Shared→Prop} (hh:A.handled=none) (i1z:i1≠z)
 (hz:IsZip s.heap z TI TO .none) (hTI:IsPair s.heap TI (.ref i1) (.ref i2)) (h1:IsRangeIter s.heap i1 x left 1) (hleft:left≤0)
 (hQ:∀ h',(∀ c o,c≠z→c≠i1→s.heap.get? c=some o→h'.get? c=some o)→Q none { s with heap:=h' }):wpAny (model prog w) A (pyNext (.ref z)) Q E s:=by
 have hT:s.TypeIs (.ref z) "zip" := ⟨_,hz,rfl⟩
 unfold pyNext
 refine wpAny_bind (wpAny_attempt (wpAny_callSpecial?_slot (name:=Str.ofString "__next__") hT F.slot_zip_next
  (wpAny_call_entry F.slot_zip_next hT F.entry_zip_next (ro hh i1z hz hTI h1 hleft fun h' e hk he => ?_) (F.args_zip_next_1 _))))
 refine aE (he) ?_
 (try clear he);intro o ho hc
 k_extra "ec"
 exact wpAny_pure (hQ _ hk)
end
end
section
open PyProof
noncomputable abbrev zrI (n:Nat):Obj:={ cls := .type "range_iterator",dict:=none,data := .fields #[rawInt 0,rawInt (Builtin.Range.rangeSize 0 (n:Int) 1),rawInt 1],slots := #[] }
noncomputable abbrev vo (h:Heap) (n:Nat):Heap:=h.push (zrI n)
noncomputable abbrev vn (h:Heap) (n:Nat) (I:Addr):Heap:=(vo h n).push { cls := .type "tuple",data := .seq #[.ref h.objs.size,.ref I] }
noncomputable abbrev vm (h:Heap) (n:Nat) (I:Addr):Heap:=(vn h n I).push { cls := .type "tuple",data := .seq #[.none,.none] }
noncomputable abbrev zrZ (h:Heap) (n:Nat) (I:Addr):Obj:={ cls := .type "zip",data := .fields #[.none,.bool false,.bool false,.ref (vo h n).objs.size,.ref (vn h n I).objs.size] }
noncomputable abbrev AV (h:Heap) (n:Nat) (I:Addr):Heap:=(vm h n I).push (zrZ h n I)
theorem qc (r I l:Addr) (k n:Nat) (t u v:Tok) (hsm:Builtin.Range.small 0 (n:Int) 1=true) :
 Meets (Builtin.«zip.__new__» ⟨[.type "zip",.ref r,.ref I],[]⟩) (fun _ R s=>IsRange s.heap r 0 (n:Int) 1 t u v∧s.heap.IsListIter I l k ∧
  R (.ok (.ret (.ref (vm s.heap n I).objs.size))) { s with heap:=AV s.heap n I }) :=
 .of_wp fun prog w A R s h=>by
  obtain ⟨hp,g,d,tk,os⟩:=s;obtain ⟨hl1,hl2,h⟩:=h
  have hsub:=sub_zip
  have hL1:IsRange (Shared.heap ⟨hp,g,d,tk,os⟩) r 0 (n:Int) 1 t u v:=hl1
  have hL2:Heap.IsListIter (Shared.heap ⟨hp.push (zrI n),g,d,tk,os⟩) I l k:=hl2.at fun o e=>Heap.get?_push_of_some _ e
  wp_walk using wpAny_pyIter_range hL1 hsm,wpAny_pyIter_listiter hL2
  exact ⟨_,rfl,h⟩
section
variable {prog:Program} {w:World} {A:Around} {E:Value→Shared→Prop} {s:Shared} {h₀:Heap} {L:Addr} {m:Str→Option Value} {news:List (Addr × Obj)}
theorem x9 {r I l:Addr} {k n:Nat} {t u v:Tok} {Q:Value→Shared→Prop} (F:Fr h₀ L s.heap m) (N:News h₀ L s.heap news) (hr:IsRange s.heap r 0 (n:Int) 1 t u v) (hsm:Builtin.Range.small 0 (n:Int) 1=true) (hit:s.heap.IsListIter I l k)
 (h:∀ (z TO TI i1:Addr) h',Fr h₀ L h' m→News h₀ L h' ((z,{ cls := .type "zip",dict:=none,data := .fields #[.none,.bool false,.bool false,.ref TI,.ref TO],slots := #[] })::(TO,{ cls := .type "tuple",data := .seq #[.none,.none] })::(TI,{ cls := .type "tuple",data := .seq #[.ref i1,.ref I] })::(i1,zrI n)::news) →
  TO < z→TI < TO→i1 < TI→(∀ p∈news,p.1 < i1)→I < i1→Q (.ref z) { s with heap:=h' }) :
 wpAny (model prog w) A (call (.type "zip") [.ref r,.ref I]) Q E s:=by
 refine callType_new PySem.F.called_zip (by decide) (PySem.F.typeCall_zip_2 _ _) (PySem.F.newCall_zip_2 _ _) (fun obj=>PySem.F.args_object_init_3 obj _ _) PySem.F.entry_zip_new
  (qc r I l k n t u v hsm) ⟨hr,hit,?_⟩
 have z1:(vo s.heap n).objs.size=s.heap.objs.size+1:=Heap.size_push ..
 have z2:(vn s.heap n I).objs.size=s.heap.objs.size+2:=by rw [Heap.size_push,z1]
 have z3:(vm s.heap n I).objs.size=s.heap.objs.size+3:=by rw [Heap.size_push,z2]
 have g4:(AV s.heap n I).get? (vm s.heap n I).objs.size=some _:=Heap.get?_push_size _ rfl
 refine ⟨⟨_,g4,rfl⟩,h _ (vn s.heap n I).objs.size (vo s.heap n).objs.size s.heap.objs.size _ ((((F.push _).push _).push _).push _) (News.push (((F.push _).push _).push _) (News.push ((F.push _).push _) (News.push (F.push _) (News.push F N _) _) _) _) ?_ ?_ ?_ (fun p hp=>Heap.lt_size (N p hp).1) ?_⟩
 · rw [z2,z3];exact Nat.lt_succ_self _
 · rw [z1,z2];exact Nat.lt_succ_self _
 · rw [z1];exact Nat.lt_succ_self _
 · obtain ⟨o,e,_⟩:=hit;exact Heap.lt_size e
end
end
section
open PyProof PyProof.Rows.LCg PyProof.Rows.LCp
section
variable {prog:Program} {w:World} {A:Around} {E:Value→Shared→Prop} {s:Shared} {h₀:Heap} {L:Addr} {m:Str→Option Value} {env:Env}
theorem wn {z TO TI i1 I:Addr} {a b:Value} {n i:Nat} {oI:Obj} {p:Addr} (h:ZA z TO TI i1 I p):∀ q∈ZL z TO TI i1 I a b n i oI,p≠q.1:=fun q hq=>by
 refine iB (h) ?_
 (try clear h);intro h1 h2 h3 h4 h5
 simp only [ZL,List.mem_cons,List.not_mem_nil,or_false] at hq
 rcases hq with rfl | rfl | rfl | rfl | rfl
 · exact h1
 · exact h2
 · exact h3
 · exact h4
 · exact h5
theorem Cv {z TO TI i1 I:Addr} {a b:Value} {n i:Nat} {oI:Obj} {p:Addr} (h:∀ q∈ZL z TO TI i1 I a b n i oI,p≠q.1):ZA z TO TI i1 I p :=
 ⟨h _ (.head _),h _ (.tail _ (.head _)),h _ (.tail _ (.tail _ (.head _))),h _ (.tail _ (.tail _ (.tail _ (.head _)))),h _ (.tail _ (.tail _ (.tail _ (.tail _ (.head _)))))⟩
end
namespace K
theorem zip_block_m:iI w news env h₀ L m E prog A elt iter x x₂ px px₂ tp tkn scope cl pos s₂ z TO TI i1 I l n c oI ol vs RR:=by
 intro K hcell hkind hx hx₂ hxx hh D F N off hl hlc hld hn hnz hoI h0 turn hRR
 k_extra "dy"
 dsimp only at hns₁ hsb₁ ⊢
 k_extra "dg"
 k_extra "fm"
 k_extra "eg"
 k_extra "b7"
 k_extra "b5"
 k_extra "c4"
 have fresh:∀ a,s₂.heap.objs.size≤a→s₂.heap.get? a=none:=fun a ha=>by
  cases e:s₂.heap.get? a with
  | none=>rfl
  | some o'=>exact absurd (Heap.lt_size e) (Nat.not_lt.mpr ha)
 have fresh₀:∀ a,s₂.heap.objs.size≤a→h₀.get? a=none:=fun a ha=>by
  cases e:h₀.get? a with
  | none=>rfl
  | some o'=>have:=F.keep a o' e;rw [fresh a ha] at this;cases this
 k_extra "fw"
 k_extra "e1"
 have hLlt:L < s₂.heap.objs.size:=F.ns.lt
 have hDL:s₂.heap.objs.size≠L:=Ne.symm (below L hLlt).2
 have hCL:H2.objs.size≠L:=Ne.symm (below L hLlt).1
 have zlt:∀ p∈ZL z TO TI i1 I .none .none n 0 oI++news,p.1 < s₂.heap.objs.size:=fun p hp=>Heap.lt_size (N p hp).1
 have bz:=below z (zlt _ (.head _))
 have bTO:=below TO (zlt _ (.tail _ (.head _)))
 have bTI:=below TI (zlt _ (.tail _ (.tail _ (.head _))))
 have bi1:=below i1 (zlt _ (.tail _ (.tail _ (.tail _ (.head _)))))
 have bI:=below I (zlt _ (.tail _ (.tail _ (.tail _ (.tail _ (.head _))))))
 have aC:∀ {a b:Value} {i:Nat} {oI:Obj},∀ p∈ZL z TO TI i1 I a b n i oI,p.1≠H2.objs.size:=fun {a b i oI} p hp=>Ne.symm (wn (a:=a) (b:=b) (n:=n) (i:=i) (oI:=oI) ⟨Ne.symm bz.1,Ne.symm bTO.1,Ne.symm bTI.1,Ne.symm bi1.1,Ne.symm bI.1⟩ p hp)
 have aD:∀ {a b:Value} {i:Nat} {oI:Obj},∀ p∈ZL z TO TI i1 I a b n i oI,p.1≠s₂.heap.objs.size:=fun {a b i oI} p hp=>Ne.symm (wn (a:=a) (b:=b) (n:=n) (i:=i) (oI:=oI) ⟨Ne.symm bz.2,Ne.symm bTO.2,Ne.symm bTI.2,Ne.symm bi1.2,Ne.symm bI.2⟩ p hp)
 have hzL:∀ q:Addr,q=z∨q=TO∨q=TI∨q=i1∨q=I→q≠L∧h₀.get? q=none:=by
  rintro q (rfl | rfl | rfl | rfl | rfl)
  · exact (N _ (.head _)).2
  · exact (N _ (.tail _ (.head _))).2
  · exact (N _ (.tail _ (.tail _ (.head _)))).2
  · exact (N _ (.tail _ (.tail _ (.tail _ (.head _))))).2
  · exact (N _ (.tail _ (.tail _ (.tail _ (.tail _ (.head _)))))).2
 have frz:∀ {h h':Heap},Fr h₀ L h m→(∀ c o,c≠z→c≠TO→c≠i1→c≠I→h.get? c=some o→h'.get? c=some o)→Fr h₀ L h' m:=fun {h h'} F k=>by
  refine zO (F.ns) ?_
  intro oL a1 a2 hoL a3
  refine ⟨⟨oL,a1,a2,k _ _ (Ne.symm (hzL z (.inl rfl)).1) (Ne.symm (hzL TO (.inr (.inl rfl))).1) (Ne.symm (hzL i1 (.inr (.inr (.inr (.inl rfl))))).1) (Ne.symm (hzL I (.inr (.inr (.inr (.inr rfl))))).1) hoL,a3⟩,fun b o e=>k b o ?_ ?_ ?_ ?_ (F.keep b o e),F.above⟩
  · rintro rfl;rw [(hzL _ (.inl rfl)).2] at e;cases e
  · rintro rfl;rw [(hzL _ (.inr (.inl rfl))).2] at e;cases e
  · rintro rfl;rw [(hzL _ (.inr (.inr (.inr (.inl rfl))))).2] at e;cases e
  · rintro rfl;rw [(hzL _ (.inr (.inr (.inr (.inr rfl))))).2] at e;cases e
 have loop:∀ s₃:Shared,s₃={ s₂ with heap:=h₁,toks:=s₂.toks+([]:List (Str × Value)).length } →
  codeAny (model prog w) A (.compLoop (.ListComp elt [⟨.Tuple [.Name x px,.Name x₂ px₂] tkn tp,iter,[],0⟩] scope pos) 0 (.ref z) (.ref s₂.heap.objs.size) (compEnvC scope cl H2.objs.size env))
   (RR (.ref s₂.heap.objs.size) H2.objs.size) s₃:=by
  rintro s₃ rfl
  refine codeAny_compLoop_pair
   (fun k s' => ∃ h' tk i ys m' nw a b oI,s'={ s₂ with heap:=h',toks:=tk }∧i≤n∧k=n+1 - i∧ys.length=i∧ZIt oI l i∧Fr h₀ L h' m∧h'.Ns H2.objs.size m'∧News h₀ L h' ((s₂.heap.objs.size,lst ys)::(ZL z TO TI i1 I a b n i oI++nw)) ∧
    (∀ p∈nw,p.1≠H2.objs.size∧p.1≠s₂.heap.objs.size∧ZA z TO TI i1 I p.1)∧K i ys nw) ?_ (n+1)
   ⟨h₁,_,0,[],_,news,.none,.none,oI,rfl,Nat.zero_le _,rfl,rfl,hoI,F.keeps old,hns₁,fun p hp => ?_,fun p hp=>⟨(below _ (zlt p (List.mem_append_right _ hp))).1,(below _ (zlt p (List.mem_append_right _ hp))).2,off p hp⟩,h0⟩
  · intro k s' hr1q
    obtain ⟨h',tk,i,ys,m',nw,a,b,oJ,rfl,hi,rfl,hyl,hoJ,F',hn',N',off',hK⟩:=hr1q
    have gz:=N' (z,_) (.tail _ (.head _))
    have gTO:=N' (TO,_) (.tail _ (.tail _ (.head _)))
    have gTI:=N' (TI,_) (.tail _ (.tail _ (.tail _ (.head _))))
    have gi1:=N' (i1,_) (.tail _ (.tail _ (.tail _ (.tail _ (.head _)))))
    have gI:=N' (I,_) (.tail _ (.tail _ (.tail _ (.tail _ (.tail _ (.head _))))))
    have gD:=N' (s₂.heap.objs.size,_) (.head _)
    have gnw:∀ p∈nw,h'.get? p.1=some p.2∧p.1≠L∧h₀.get? p.1=none:=fun p hp=>N' p (.tail _ (List.mem_append_right _ hp))
    by_cases hlt:i < n
    · have hv:vs[i]? = some (vs[i]'(by exact zal [_,_,_] 1 qB qA [(1,zu qB,qC),(1,qC,qA)] rfl hlt hn)):=List.getElem?_eq_getElem (by exact zal [_,_,_] 1 qB qA [(1,zu qB,qC),(1,qC,qA)] rfl hlt hn)
      generalize vs[i]'(by exact zal [_,_,_] 1 qB qA [(1,zu qB,qC),(1,qC,qA)] rfl hlt hn)=v at hv
      have hlm:=gnw _ (hl _ _ _ hK)
      refine nA (s:={ s₂ with heap:=h',toks:=tk }) D gz.1 gTI.1 gTO.1 gi1.1 (by k_extra "g") ⟨_,gI.1,hoJ.1,hoJ.2⟩ ⟨_,hlm.1,hlc,c,hld⟩ (by rw [List.getElem?_toArray];exact hv) fun h₂ q1 q2 q3 q4 q5 q6 q7 => ?_
      dsimp only
      refine wpAny_letOwnedTupleGo_zip q1 fun h₃ r1 r2 => ?_
      refine cH (q4) ?_
      (try clear q4);intro oK e4 hKc hKd
      have szz:h'.objs.size≠z:=Nat.ne_of_gt (Heap.lt_size gz.1)
      have keep3:∀ c o,c≠z→c≠TO→c≠i1→c≠I→h'.get? c=some o→h₃.get? c=some o:=fun c o c1 c2 c3 c4 e=>r2.extBut _ _ c1 (q7 c o c1 c2 c3 c4 e)
      have ht:IsTup h₃ h'.objs.size #[.int (i:Int) tk,v]:=⟨_,r2.extBut _ _ szz q5,rfl,_,rfl⟩
      refine assign_Tuple_tuple hh ht rfl rfl fun h₅ he => ?_
      have he':∀ b o,h₃.get? b=some o→h₅.get? b=some o:=fun b o e=>he b o (Nat.ne_of_lt (Heap.lt_size e)) e
      have keep5:∀ c o,c≠z→c≠TO→c≠i1→c≠I→h'.get? c=some o→h₅.get? c=some o:=fun c o c1 c2 c3 c4 e=>he' _ _ (keep3 c o c1 c2 c3 c4 e)
      refine assignInOrder_cons (wpAny_assign_Name (wpAny_storeName_local (lookup_relabel_local hx) (hn'.at' fun o e=>keep5 _ o (Ne.symm bz.1) (Ne.symm bTO.1) (Ne.symm bi1.1) (Ne.symm bI.1) e) (fun h₆ hn₆ hs₆ => ?_) (by simp [compEnvC,relabel,hkind])))
      k_extra "cj"
      refine assignInOrder_nil ?_
      have st:∀ b o,b≠H2.objs.size→h₅.get? b=some o→h₇.get? b=some o:=fun b o hb e=>hs₇.extBut b o hb (hs₆.extBut b o hb e)
      refine aE (ns_obj hn₇) ?_
      intro oC heC hoC
      have F₇:Fr h₀ L h₇ m:=((frz F' keep5).change hs₆ hCL hC₀).change hs₇ hCL hC₀
      have N₇:News h₀ L h₇ ((H2.objs.size,oC)::(s₂.heap.objs.size,lst ys)::(ZL z TO TI i1 I (.int (i:Int) tk) v n (i+1) oK++nw)):=fun p hp=>by
       k_extra "ax"
       · exact ⟨heC,hCL,hC₀⟩
       · k_extra "ax"
         · exact ⟨st _ _ hDC (keep5 _ _ (Ne.symm bz.2) (Ne.symm bTO.2) (Ne.symm bi1.2) (Ne.symm bI.2) gD.1),gD.2⟩
         · k_extra "be"
           · have hpC:=aC p hp
             simp only [ZL,List.mem_cons,List.not_mem_nil,or_false] at hp
             rcases hp with rfl | rfl | rfl | rfl | rfl
             · exact ⟨st _ _ hpC (he' _ _ r1),gz.2⟩
             · exact ⟨st _ _ hpC (he' _ _ (r2.extBut _ _ D.TOz q2)),gTO.2⟩
             · exact ⟨st _ _ hpC (keep5 _ _ D.TIz D.TITO D.TIi1 D.TIi2 gTI.1),gTI.2⟩
             · refine ⟨st _ _ hpC (he' _ _ (r2.extBut _ _ D.i1z ?_)),gi1.2⟩
               have e1:((i+1:Nat):Int)=(i:Int)+1:=by push_cast;rfl
               have e2:(n:Int) - ((i+1:Nat):Int)=(n:Int) - (i:Int) - 1:=by push_cast;k_extra "g"
               rw [e2,e1];exact q3
             · exact ⟨st _ _ hpC (he' _ _ (r2.extBut _ _ D.i2z e4)),gI.2⟩
           · have z1:=gnw p hp
             refine cA (off' p hp) ?_
             intro w1 w2 w3
             exact ⟨st _ _ w1 (keep5 _ _ w3.1 w3.2.1 w3.2.2.2.1 w3.2.2.2.2 z1.1),z1.2⟩
      refine wpAny_mono (turn i ys nw _ _ oK hlt hK v tk H2.objs.size oC s₂.heap.objs.size _ h₇ _ _ hv hoC (by simp [hxx]) (by simp) F₇ N₇ (fun p hp=>⟨(off' p hp).1,(off' p hp).2.1⟩) (Ne.symm hDC)) (fun y s₄ h₄ => ?_) fun _ _ e=>e
      refine jy (h₄) ?_
      (try clear h₄);rintro h₄ tk₄ tl rfl F₄ N₄ fr₄ K₄
      have zD:=(N₄ (s₂.heap.objs.size,lst ys) (.tail _ (.head _))).1
      have zC:=(N₄ (H2.objs.size,oC) (.head _)).1
      refine append_at (hsz:=by show ys.toArray.size≤sizeLine;rw [List.size_toArray,hyl,sizeLine_eq];(exact zae [_,_] 1 qA (zn 16777216) [(1,qA,qB),(1,qB,zn 100000)] rfl hi hnz)) zD fun h₅ hs₅ hD₅ => ?_
      have hoff2:∀ p∈tl++nw,p.1≠H2.objs.size∧p.1≠s₂.heap.objs.size∧ZA z TO TI i1 I p.1:=fun p hp=>by
       k_extra "be"
       · exact ⟨Nat.ne_of_gt (fr₄ p hp _ (.head _)),Nat.ne_of_gt (fr₄ p hp _ (.tail _ (.head _))),Cv (a := .int (i:Int) tk) (b:=v) (n:=n) (i:=i+1) (oI:=oK) fun q hq=>Nat.ne_of_gt (fr₄ p hp q (.tail _ (.tail _ (List.mem_append_left _ hq))))⟩
       · exact off' p hp
      refine ⟨n+1 - (i+1),by (exact zal [_,_,_,_] 1 qB qA [(1,zu qC,zp qA qD),(1,zp qB (zu qD),zu qC)] rfl (zs2 _ _) (zs3 (zae [_,_] 1 (zu qB) (zu qA) [(1,zu qB,qA)] rfl hlt))),h₅,tk₄,i+1,ys++[y],_,tl++nw,.int (i:Int) tk,v,oK,rfl,hlt,rfl,by rw [List.length_append,List.length_singleton,hyl],⟨hKc,by rw [hKd]⟩,F₄.change hs₅ hDL hD₀,(hoC.ns zC).sameBut hs₅ (Ne.symm hDC),fun p hp => ?_,hoff2,K₄⟩
      k_extra "ax"
      · exact ⟨hD₅.trans (congrArg some (lst_snoc ys y)),hDL,hD₀⟩
      · have z2:=N₄ p (.tail _ (.tail _ hp))
        refine ⟨hs₅.extBut _ _ ?_ z2.1,z2.2⟩
        k_extra "be"
        · exact aD p hp
        · exact (hoff2 p hp).2.1
    · obtain rfl:i=n:=Nat.le_antisymm hi (Nat.not_lt.mp hlt)
      refine oF (s:={ s₂ with heap:=h',toks:=tk }) hh D.i1z gz.1 gTI.1 gi1.1 (by k_extra "g") fun h₂ hk₂ => ?_
      refine hRR _ _ h₂ tk _ ys nw oJ hK hoJ (frz F' fun c o c1 _ c3 _ e=>hk₂ c o c1 c3 e) (fun p hp => ?_) (fun p hp=>⟨(off' p hp).2.1,(off' p hp).2.2.2.2.2.2,(off' p hp).1⟩) (Ne.symm bI.2) bI.1 (hn'.at' fun o e=>hk₂ _ o (Ne.symm bz.1) (Ne.symm bi1.1) e) hC₀ hD₀ hCL hDL (Ne.symm hDC)
      k_extra "ax"
      · exact ⟨hk₂ _ _ (Ne.symm bz.2) (Ne.symm bi1.2) gD.1,gD.2⟩
      · k_extra "ax"
        · exact ⟨hk₂ _ _ D.i2z D.i12.symm gI.1,gI.2⟩
        · refine cA (off' p hp) ?_
          intro w1 w2 w3
          exact ⟨hk₂ _ _ w3.1 w3.2.2.2.1 (gnw p hp).1,(gnw p hp).2⟩
  · k_extra "ax"
    · exact ⟨hacc,hDL,hD₀⟩
    · exact ⟨old _ _ (N p hp).1,(N p hp).2⟩
 have gz:=old _ _ (N (z,_) (.head _)).1
 exact codeAny_compStart_list (loop _ rfl) (wpAny_pyIter_zip (f0 := .none) (TI:=TI) (TO:=TO) gz (loop _ rfl))
end K
theorem mq:∀ v,mr v:=ch1 (l:=PL.drop 40) BH K.zip_block_m
theorem BG:Ch (PL.drop 40) oV:=ch2 (l:=PL.drop 40) BH mq
theorem wo {prog:Program} {elt:Expr} {iter:Expr} {x₂:Str} {px:Pos} {px₂:Pos} {tp:Pos} {tkn:Nat} {scope:Scope} {cl:List (Str × Addr)} {pos:Pos} {s₂:Shared} {TO:Addr} {TI:Addr} {i1:Addr} {oI:Obj} {ol:Obj} {vs:List Value} {RR:Value→Addr→Result→Shared→Prop}:iI w news env h₀ L m E prog A elt iter x x₂ px px₂ tp tkn scope cl pos s₂ z TO TI i1 I l n c oI ol vs RR:=mq { oV with w,news,env,h₀,L,m,E,q1:=prog,q2:=A,q10:=elt,q11:=iter,q12:=x,q58:=x₂,q14:=px,q59:=px₂,q60:=tp,q45:=tkn,q16:=scope,q17:=cl,q18:=pos,q24:=s₂,q3:=z,q7:=TO,q4:=TI,q54:=i1,q5:=I,q6:=l,q23:=n,q8:=c,q41:=oI,q42:=ol,q9:=vs,q39:=RR }
section
variable {prog:Program} {w:World} {A:Around} {E:Value→Shared→Prop} {s:Shared} {h₀:Heap} {L:Addr} {m:Str→Option Value} {env:Env}
end
namespace K
namespace V6
theorem Assign_ListComp_Z_m:dX w env h₀ m s E prog A elt iter x x₂ y px px₂ tp py tkn scope cl pos spos Q:=by
 intro L hh F₀ hLe hsw hclos hcell hkind hnames hx hx₂ hxx hy hp h hs
 subst hLe
 rw [exec_Assign_Name_used _ _ _ _ hsw]
 refine wpAny_bind (wpAny_standAt (wpAny_bind ?_))
 show wpAny _ A (do let _ ← comprehension (.ListComp elt [⟨.Tuple [.Name x px,.Name x₂ px₂] tkn tp,iter,[],0⟩] scope pos) scope env _ (newList []) false (eval iter env) (some (assign (.Name y py) env))) _ _ s
 refine wpAny_bind (wpAny_mono (wpAny_comprehension_free (use:=some (assign (.Name y py) env)) (Q:=fun _ s'=>Q .next s') rfl hs hclos hkind hnames
  (wpAny_mono h (fun xv s₁ h₁ => ?_) fun _ _ e=>e)) (fun _ s' hq=>wpAny_pure (wpAny_pure hq)) fun _ _ e=>e)
 obtain ⟨z,TO,TI,i1,I,l,n,c,oI,ol,vs,news,K,rfl,D,F,N,off,hl,hlc,hld,hn,hnz,hoI,h0,turn,fin⟩:=h₁
 refine wpAny_pyIter_zip (f0 := .none) (TI:=TI) (TO:=TO) (N (z,_) (.head _)).1 ?_
 refine wo K hcell hkind hx hx₂ hxx hh D F N off hl hlc hld hn hnz hoI h0 turn ?_
 intro D C h' tk m' ys nw oJ hK hoJ F' N' o1 hDI hIC hn hC₀ hD₀ hCL hDL hCD
 show wpAny _ A (assign (.Name y py) env (.ref D)) _ _ _
 k_extra "e4"
 k_extra "gn"
 have F₂:Fr h₀ env.locals h₂ (fun q=>if q=y then some (.ref D) else m q):=⟨hn₂,fun b o e=>hs₂.extBut b o (fun q=>by rw [q,hL₀] at e;cases e) (F'.keep b o e),F'.above⟩
 refine ⟨m',hn.sameBut hs₂ hCL,fun h'' hs''=>fin D ys nw oJ h'' _ hK hoJ (F₂.change hs'' hCL hC₀) (fun p hp => ?_) (fun p hp=>⟨(o1 p hp).1,(o1 p hp).2.1⟩) hDI⟩
 have z':h₂.get? p.1=some p.2:=hs₂.extBut _ _ (N' p hp).2.1 (N' p hp).1
 refine ⟨hs''.extBut _ _ ?_ z',(N' p hp).2⟩
 k_extra "ax"
 · exact Ne.symm hCD
 · k_extra "ax"
   · exact hIC
   · exact (o1 p hp).2.2
end V6
end K
section
variable {prog:Program} {w:World} {A:Around} {E:Value→Shared→Prop} {s:Shared} {h₀:Heap} {L:Addr} {m:Str→Option Value} {env:Env}
theorem fK:∀ v,fL v:=ch1 (l:=PL.drop 41) BG K.V6.Assign_ListComp_Z_m
theorem BF:Ch (PL.drop 41) oV:=ch2 (l:=PL.drop 41) BG fK
theorem mn {elt iter:Expr} {x x₂ y:Str} {px px₂ tp py:Pos} {tkn} {scope:Scope} {cl:List (Str × Addr)} {pos spos:Pos} {Q:Flow→Shared→Prop} (hh:A.handled=none) (F₀:Fr h₀ L s.heap m) (hLe:env.locals=L)
 (hsw:swapsWith (.ListComp elt [⟨.Tuple [.Name x px,.Name x₂ px₂] tkn tp,iter,[],0⟩] scope pos) (some (.Name y py)) spos.line env=pure true)
 (hclos:closureFor scope env=pure cl) (hcell:∀ z∈scope.names,z.2 ≠ .cell) (hkind:scope.kind = .function)
 (hnames:∀ z∈scope.names,z.2 = .local→scope.names.lookup z.1=some .local) (hx:scope.names.lookup x=some .local) (hx₂:scope.names.lookup x₂=some .local) (hxx:x≠x₂)
 (hy:env.kindOf y=some .local) (hp:(env.scope.kind == .class || (env.scope.kind == .module && env.locals != env.globals))=false)
 (h:wpAny (model prog w) A (eval iter env) (Cr prog w A h₀ L m env elt x x₂ scope cl y Q) E s)
 (hs:∀ x,foldedSetIterable iter env x=pure x:=by intro _;rfl) :
 wpAny (model prog w) A (exec (.Assign [.Name y py] (.ListComp elt [⟨.Tuple [.Name x px,.Name x₂ px₂] tkn tp,iter,[],0⟩] scope pos) spos) env) Q E s:=(show dX w env h₀ m s E prog A elt iter x x₂ y px px₂ tp py tkn scope cl pos spos Q from fK { oV with w,env,h₀,m,s,E,q1:=prog,q2:=A,q10:=elt,q11:=iter,q12:=x,q58:=x₂,q13:=y,q14:=px,q59:=px₂,q60:=tp,q15:=py,q45:=tkn,q16:=scope,q17:=cl,q18:=pos,q19:=spos,q20:=Q }) hh F₀ hLe hsw hclos hcell hkind hnames hx hx₂ hxx hy hp h hs
end
end
section
open PyProof PyProof.Rows.LCg PyProof.Rows.LCp
theorem tX {prog:Program} {w:World} {A:Around} {I:Addr} {fp wr:List Addr} {n k:Nat} {P:Nat→Value→Prop} {St:Nat→Heap→Prop} (W:Walks prog w A I fp wr n P St) (hk:k≤n) :
 Walks prog w A I fp wr (n - k) (fun i v=>P (i+k) v) (fun i h=>St (i+k) h) where
 sub:=W.sub
 frame:=fun i h h' st hh=>W.frame _ h h' st hh
 item:=fun i s Q E hi st hQ=>W.item (i+k) s Q E (by exact zal [_,_,_,_] 1 (zp qB qC) qA [(1,zu qB,qD),(1,zp qD qC,qA)] rfl hi (zs3 (zae [_,_] 1 qB qA [(1,qB,qA)] rfl hk))) st fun v h' tk hP hst hh=>hQ v h' tk hP (by rw [Nat.add_right_comm];exact hst) hh
 done:=fun s Q E st hQ=>W.done s Q E (by rwa [Nat.sub_add_cancel hk] at st) hQ
 self:=fun i s Q E st hQ=>W.self (i+k) s Q E st hQ
section
variable {prog:Program} {w:World} {A:Around} {E:Value→Shared→Prop} {s:Shared} {h₀:Heap} {env:Env}
theorem xB {l I:Addr} {o oI:Obj} {vs:List Value} {nn k:Nat} {m:Str→Option Value} {news:List (Addr × Obj)} {Q':Value→Shared→Prop}
 (hh:A.handled=none) (hl:(l,o)∈news) (hc:o.cls = .type "list") (hd:o.data = .seq vs.toArray nn) (hI:ZIt oI l k) (hk:k≤vs.length)
 (F:Fr h₀ env.locals s.heap m) (N:News h₀ env.locals s.heap ((I,oI)::news)) (hne:∀ p∈news,p.1≠I)
 (h:Src prog w A h₀ env.locals s m news I [(l,o)] (vs.length - k) (fun i v=>vs[i+k]? = some v)→Q' (.ref I) s) :
 wpAny (model prog w) A (pyIter (.ref I)) Q' E s:=by
 have nI:=N _ (.head _)
 have Nn:News h₀ env.locals s.heap news:=fun p hp=>N p (.tail _ hp)
 have hls:s.heap.IsList l vs.toArray:=⟨o,(Nn _ hl).1,hc,nn,hd⟩
 have hit:s.heap.IsListIter I l k:=⟨oI,nI.1,hI.1,hI.2⟩
 refine wpAny_pyIter_listiter hit (h ?_)
 have W:=Walks.list (prog:=prog) (w:=w) hh I l (hne _ hl) vs.toArray
 k_extra "ei"
 k_extra "cf"
 rw [hlen,hP] at W
 have W2:=tX W hk
 exact ⟨_,W2,fun _ _ st=>by obtain ⟨⟨oI,h1,_⟩,_⟩:=st;exact ⟨oI,h1⟩,nI.2.2,nI.2.1,hne,⟨by rw [Nat.zero_add];exact hit,hls⟩,F,Nn⟩
end
end
section
open PyProof PyProof.Rows.LCg PyProof.Rows.LCp
section
variable {prog:Program} {w:World} {A:Around} {E:Value→Shared→Prop} {s:Shared} {h₀:Heap} {L:Addr} {m:Str→Option Value} {env:Env}
end
namespace K
theorem t3_block_m:jg w news env h₀ L m E prog A elt iter x₁ x₂ x₃ p₁ p₂ p₃ tp tkn scope cl pos s₂ l I c ol vs RR:=by
 intro K hcell hkind hx₁ hx₂ hx₃ h12 h13 h23 hh F N hI hIL hI0 off hl hlc hld hnz h0 hv turn hRR
 k_extra "dy"
 dsimp only at hns₁ hsb₁ ⊢
 k_extra "dg"
 k_extra "fm"
 k_extra "eg"
 k_extra "b7"
 k_extra "b5"
 k_extra "c4"
 have fresh₀:∀ a,s₂.heap.objs.size≤a→h₀.get? a=none:=fun a ha=>by
  cases e:h₀.get? a with
  | none=>rfl
  | some o'=>exact absurd (Heap.lt_size (F.keep a o' e)) (Nat.not_lt.mpr ha)
 k_extra "fw"
 k_extra "e1"
 have hLlt:L < s₂.heap.objs.size:=F.ns.lt
 have hDL:s₂.heap.objs.size≠L:=Ne.symm (below L hLlt).2
 have hCL:H2.objs.size≠L:=Ne.symm (below L hLlt).1
 have bI:I≠H2.objs.size∧I≠s₂.heap.objs.size:=below I (by obtain ⟨_,e,_⟩:=hI;exact Heap.lt_size e)
 have bn:∀ p∈news,p.1≠H2.objs.size∧p.1≠s₂.heap.objs.size:=fun p hp=>below _ (Heap.lt_size (N p hp).1)
 have hlI:l≠I:=off _ hl
 have W:=Walks.list (prog:=prog) (w:=w) hh I l hlI vs.toArray
 k_extra "ei"
 have loop:∀ s₃:Shared,s₃={ s₂ with heap:=h₁,toks:=s₂.toks+([]:List (Str × Value)).length } →
  codeAny (model prog w) A (.compLoop (.ListComp elt [⟨.Tuple [.Name x₁ p₁,.Name x₂ p₂,.Name x₃ p₃] tkn tp,iter,[],0⟩] scope pos) 0 (.ref I) (.ref s₂.heap.objs.size) (compEnvC scope cl H2.objs.size env))
   (RR (.ref s₂.heap.objs.size) H2.objs.size) s₃:=by
  rintro s₃ rfl
  refine codeAny_compLoop_pair
   (fun k s' => ∃ h' tk i ys m',s'={ s₂ with heap:=h',toks:=tk }∧i≤vs.length∧k=vs.length+1 - i∧ys.length=i∧h'.IsListIter I l i∧Fr h₀ L h' m∧h'.Ns H2.objs.size m'∧News h₀ L h' ((s₂.heap.objs.size,lst ys)::news)∧K i ys) ?_ (vs.length+1)
   ⟨h₁,_,0,[],_,rfl,Nat.zero_le _,rfl,rfl,hI.at fun o e=>old _ o e,F.keeps old,hns₁,fun p hp => ?_,h0⟩
  · intro k s' hr1q
    refine CL (hr1q) ?_
    (try clear hr1q);rintro h' tk i ys m' rfl hi rfl hyl hit F' hn' N' hK
    have gD:=N' (s₂.heap.objs.size,_) (.head _)
    have gn:∀ p∈news,h'.get? p.1=some p.2∧p.1≠L∧h₀.get? p.1=none:=fun p hp=>N' p (.tail _ hp)
    have hst:h'.IsListIter I l i∧h'.IsList l vs.toArray:=⟨hit,_,(gn _ hl).1,hlc,c,hld⟩
    by_cases hlt:i < vs.length
    · refine W.item i { s₂ with heap:=h',toks:=tk } _ _ (by rw [hlen];exact hlt) hst fun v h₂ tk₂ hPv hst₂ hk₂ => ?_
      have hvi:vs[i]? = some v:=by simpa using hPv
      refine CK (hv i v hvi) ?_
      rintro t ot a b d nt rfl hmt hct hdt
      have N₂:News h₀ L h₂ ((s₂.heap.objs.size,lst ys)::news):=news_but N' hk₂ fun p hp=>by
       k_extra "ax"
       · exact Ne.symm bI.2
       · exact off p hp
      have ht:IsTup h₂ t #[a,b,d]:=⟨ot,(N₂ _ (.tail _ hmt)).1,hct,nt,hdt⟩
      refine wpAny_letOwnedTupleGo_listiter hst₂.1 ?_
      refine assign_Tuple_tuple hh ht rfl rfl fun h₅ he => ?_
      have he':∀ b o,h₂.get? b=some o→h₅.get? b=some o:=fun b o e=>he b o (Nat.ne_of_lt (Heap.lt_size e)) e
      refine assignInOrder_cons (wpAny_assign_Name (wpAny_storeName_local (lookup_relabel_local hx₁) ((hn'.at' fun o e=>hk₂ _ o (by simpa using Ne.symm bI.1) e).at' fun o e=>he' _ o e) (fun h₆ hn₆ hs₆ => ?_) (by simp [compEnvC,relabel,hkind])))
      k_extra "cj"
      refine assignInOrder_cons (wpAny_assign_Name (wpAny_storeName_local (lookup_relabel_local hx₃) hn₇ (fun h₈ hn₈ hs₈ => ?_) (by simp [compEnvC,relabel,hkind])))
      refine assignInOrder_nil ?_
      have st:∀ b o,b≠H2.objs.size→h₂.get? b=some o→h₈.get? b=some o:=fun b o hb e=>hs₈.extBut b o hb (hs₇.extBut b o hb (hs₆.extBut b o hb (he' b o e)))
      refine aE (ns_obj hn₈) ?_
      intro oC heC hoC
      have F₈:Fr h₀ L h₈ m:=((((fr_but F' hk₂ (Ne.symm hIL) hI0).keeps he').change hs₆ hCL hC₀).change hs₇ hCL hC₀).change hs₈ hCL hC₀
      have N₈:News h₀ L h₈ ((H2.objs.size,oC)::(s₂.heap.objs.size,lst ys)::news):=fun p hp=>by
       k_extra "ax"
       · exact ⟨heC,hCL,hC₀⟩
       · have z:=N₂ p hp
         refine ⟨st _ _ ?_ z.1,z.2⟩
         k_extra "ax"
         · exact hDC
         · exact (bn p hp).1
      have hit₈:h₈.IsListIter I l (i+1):=hst₂.1.at fun o e=>st _ o bI.1 e
      refine wpAny_mono (turn i ys t ot a b d nt hK hvi hmt hdt H2.objs.size oC s₂.heap.objs.size _ h₈ _ _ hoC (by simp [h12,h13]) (by simp [h23]) (by simp) F₈ N₈) (fun y s₄ h₄ => ?_) fun _ _ e=>e
      refine aE (h₄) ?_
      (try clear h₄);rintro tk₄ rfl K₄
      have zD:=(N₈ (s₂.heap.objs.size,lst ys) (.tail _ (.head _))).1
      have zC:=(N₈ (H2.objs.size,oC) (.head _)).1
      refine append_at (hsz:=by show ys.toArray.size≤sizeLine;rw [List.size_toArray,hyl,sizeLine_eq];(exact zae [_,_] 1 qA (zn 16777216) [(1,qA,qB),(1,qB,zn 100000)] rfl hi hnz)) zD fun h₉ hs₉ hD₉ => ?_
      refine ⟨vs.length+1 - (i+1),by (exact zal [_,_,_,_] 1 qB qA [(1,zu qC,zp qA qD),(1,zp qB (zu qD),zu qC)] rfl (zs2 _ _) (zs3 (zae [_,_] 1 (zu qB) (zu qA) [(1,zu qB,qA)] rfl hlt))),h₉,tk₄,i+1,ys++[y],_,rfl,hlt,rfl,by rw [List.length_append,List.length_singleton,hyl],hit₈.at fun o e=>hs₉.extBut _ o bI.2 e,F₈.change hs₉ hDL hD₀,(hoC.ns zC).sameBut hs₉ (Ne.symm hDC),fun p hp => ?_,K₄⟩
      k_extra "ax"
      · exact ⟨hD₉.trans (congrArg some (lst_snoc ys y)),hDL,hD₀⟩
      · have z2:=N₈ p (.tail _ (.tail _ hp))
        exact ⟨hs₉.extBut _ _ (bn p hp).2 z2.1,z2.2⟩
    · obtain rfl:i=vs.length:=Nat.le_antisymm hi (Nat.not_lt.mp hlt)
      refine W.done { s₂ with heap:=h',toks:=tk } _ _ (by rw [hlen];exact hst) fun h₂ tk₂ hk₂ => ?_
      refine hRR _ _ h₂ tk₂ _ ys hK (fr_but F' hk₂ (Ne.symm hIL) hI0) (news_but N' hk₂ fun p hp=>by
       k_extra "ax"
       · exact Ne.symm bI.2
       · exact off p hp) (fun p hp=>⟨Heap.lt_size (N p hp).1,(bn p hp).1⟩) (hn'.at' fun o e=>hk₂ _ o (by simpa using Ne.symm bI.1) e) hC₀ hD₀ hCL hDL (Ne.symm hDC)
  · k_extra "ax"
    · exact ⟨hacc,hDL,hD₀⟩
    · exact ⟨old _ _ (N p hp).1,(N p hp).2⟩
 exact codeAny_compStart_list (loop _ rfl) (wpAny_pyIter_listiter (hI.at fun o e=>old _ o e) (loop _ rfl))
end K
theorem n7:∀ v,ob v:=ch1 (l:=PL.drop 42) BF K.t3_block_m
theorem BE:Ch (PL.drop 42) oV:=ch2 (l:=PL.drop 42) BF n7
theorem yA {prog:Program} {elt:Expr} {iter:Expr} {x₁:Str} {x₂:Str} {x₃:Str} {p₁:Pos} {p₂:Pos} {p₃:Pos} {tp:Pos} {tkn:Nat} {scope:Scope} {cl:List (Str × Addr)} {pos:Pos} {s₂:Shared} {ol:Obj} {vs:List Value} {RR:Value→Addr→Result→Shared→Prop}:jg w news env h₀ L m E prog A elt iter x₁ x₂ x₃ p₁ p₂ p₃ tp tkn scope cl pos s₂ l I c ol vs RR:=n7 { oV with w,news,env,h₀,L,m,E,q1:=prog,q2:=A,q10:=elt,q11:=iter,q12:=x₁,q58:=x₂,q13:=x₃,q14:=p₁,q15:=p₂,q19:=p₃,q60:=tp,q45:=tkn,q16:=scope,q17:=cl,q18:=pos,q24:=s₂,q6:=l,q5:=I,q8:=c,q42:=ol,q9:=vs,q39:=RR }
section
variable {prog:Program} {w:World} {A:Around} {E:Value→Shared→Prop} {s:Shared} {h₀:Heap} {L:Addr} {m:Str→Option Value} {env:Env}
noncomputable def C6 (prog:Program) (w:World) (A:Around) (h₀:Heap) (L:Addr) (m:Str→Option Value) (env:Env) (elt:Expr) (x₁ x₂ x₃:Str) (scope:Scope) (cl:List (Str × Addr)) (Q:Value→Shared→Prop) (xv:Value) (s₁:Shared):Prop :=
 ∃ (l:Addr) (c:Nat) (ol:Obj) (vs:List Value) (news:List (Addr × Obj)) (K:Nat→List Value→Prop),xv = .ref l∧Fr h₀ L s₁.heap m∧News h₀ L s₁.heap news∧(l,ol)∈news∧ol.cls = .type "list" ∧ ol.data = .seq vs.toArray c∧vs.length≤100000∧K 0 [] ∧
  (∀ (i:Nat) v,vs[i]? = some v → ∃ (t:Addr) (ot:Obj) (a b d:Value) (nt:Nat),v = .ref t∧(t,ot)∈news∧ot.cls = .type "tuple" ∧ ot.data = .seq #[a,b,d] nt) ∧
  (∀ g,∀ (i:Nat) ys t (ot:Obj) a b d nt,K i ys→vs[i]? = some (.ref t)→(t,ot)∈news→ot.data = .seq #[a,b,d] nt → ∀ C oC D m₂ h tk (E':Value→Shared→Prop),NsObj oC m₂→m₂ x₁=some a→m₂ x₂=some b→m₂ x₃=some d→Fr h₀ L h m→News h₀ L h ((C,oC)::(D,lst ys)::news) →
   wpAny (model prog w) A (eval elt (compEnvC scope cl C env)) (fun y s' => ∃ tk',s'={ ({ s₁ with heap:=g }:Shared) with heap:=h,toks:=tk' }∧K (i+1) (ys++[y])) E' { ({ s₁ with heap:=g }:Shared) with heap:=h,toks:=tk }) ∧
  (∀ D ys h tk,K vs.length ys→Fr h₀ L h m→News h₀ L h ((D,lst ys)::news)→(∀ p∈news,p.1 < D)→Q (.ref D) { s₁ with heap:=h,toks:=tk })
theorem ur {elt iter:Expr} {x₁ x₂ x₃:Str} {p₁ p₂ p₃ tp:Pos} {tkn} {scope:Scope} {cl:List (Str × Addr)} {pos:Pos} {Q:Value→Shared→Prop} (hh:A.handled=none) (F₀:Fr h₀ L s.heap m)
 (hclos:closureFor scope env=pure cl) (hcell:∀ y∈scope.names,y.2 ≠ .cell) (hkind:scope.kind = .function)
 (hnames:∀ y∈scope.names,y.2 = .local→scope.names.lookup y.1=some .local) (hx₁:scope.names.lookup x₁=some .local) (hx₂:scope.names.lookup x₂=some .local) (hx₃:scope.names.lookup x₃=some .local) (h12:x₁≠x₂) (h13:x₁≠x₃) (h23:x₂≠x₃)
 (h:wpAny (model prog w) A (eval iter env) (C6 prog w A h₀ L m env elt x₁ x₂ x₃ scope cl Q) E s)
 (hs:∀ x,foldedSetIterable iter env x=pure x:=by intro _;rfl) :
 wpAny (model prog w) A (eval (.ListComp elt [⟨.Tuple [.Name x₁ p₁,.Name x₂ p₂,.Name x₃ p₃] tkn tp,iter,[],0⟩] scope pos) env) Q E s:=by
 rw [eval_ListComp]
 k_extra "dr"
 refine Cd (h₁) ?_
 (try clear h₁);rintro l c ol vs news K rfl F N hl hlc hld hnz h0 hv turn fin
 refine wpAny_pyIter_list ⟨ol,(N _ hl).1,hlc,c,hld⟩ ?_
 have up:∀ b o,s₁.heap.get? b=some o→(s₁.heap.push { cls := .type "list_iterator",data := .fields #[.ref l,.int 0 0] }).get? b=some o:=fun b o e=>Heap.get?_push_of_some _ e
 refine yA (s₂:={ s₁ with heap:=s₁.heap.push { cls := .type "list_iterator",data := .fields #[.ref l,.int 0 0] } }) K hcell hkind hx₁ hx₂ hx₃ h12 h13 h23 hh (F.keeps up) (N.grown up) ⟨_,Heap.get?_push_size _ rfl,rfl,rfl⟩ (fun e=>absurd F.ns.lt (e ▸ Nat.lt_irrefl _)) (next_is_new F) (fun p hp=>Nat.ne_of_lt (Heap.lt_size (N p hp).1)) hl hlc hld hnz h0 hv (turn _) ?_
 intro D C h tk m' ys hK F' N' o1 hn hC₀ hD₀ hCL hDL hCD
 refine ⟨m',hn,fun h'' hs''=>fin D ys h'' tk hK (F'.change hs'' hCL hC₀) (fun p hp => ?_) fun p hp=>(o1 p hp).1⟩
 refine ⟨hs''.extBut _ _ ?_ (N' p hp).1,(N' p hp).2⟩
 k_extra "ax"
 · exact Ne.symm hCD
 · exact (o1 p hp).2
end
end
section
section
variable {tl tl':List (Addr × Obj)}
theorem we (hk:∀ p∈tl,(∃ xs n,p.2.data = .seq xs n)→p∈tl') {v:Value} {d:Dat} (h:DatIn tl v d):DatIn tl' v d :=
 DatIn.rec (motive_1:=fun v d _=>DatIn tl' v d) (motive_2:=fun vs ds _=>DatAll tl' vs ds) .none .bool .int .str .bytes (fun hm _ r => .tuple (hk _ hm ⟨_,_,rfl⟩) r) (fun hm _ r => .list (hk _ hm ⟨_,_,rfl⟩) r) .nil (fun _ _ h r => .cons h r) h
theorem nb (hk:∀ p∈tl,(∃ xs n,p.2.data = .seq xs n)→p∈tl') {vs:List Value} {ds:List Dat} (h:DatAll tl vs ds):DatAll tl' vs ds :=
 DatAll.rec (motive_1:=fun v d _=>DatIn tl' v d) (motive_2:=fun vs ds _=>DatAll tl' vs ds) .none .bool .int .str .bytes (fun hm _ r => .tuple (hk _ hm ⟨_,_,rfl⟩) r) (fun hm _ r => .list (hk _ hm ⟨_,_,rfl⟩) r) .nil (fun _ _ h r => .cons h r) h
end
theorem xV {h₀ h:Heap} {L:Addr} {led bad tl:List (Addr × Obj)} (N:News h₀ L h led) (hb:∀ b∈bad,b∈led) (ht:∀ p∈tl,p∈led) (hbd:∀ b∈bad,∀ xs n,b.2.data ≠ .seq xs n) {vs:List Value} {ds:List Dat} (hD:DatAll tl vs ds) :
 ∃ tl',(∀ p∈tl',p∈tl)∧(∀ p∈tl',∀ b∈bad,p.1≠b.1)∧DatAll tl' vs ds:=by
 classical
 refine ⟨tl.filter (fun p=>decide (∀ b∈bad,p.1≠b.1)),fun p hp=>(List.mem_filter.mp hp).1,fun p hp=>by simpa using (List.mem_filter.mp hp).2,nb (fun p hp hs => ?_) hD⟩
 refine List.mem_filter.mpr ⟨hp,decide_eq_true fun b hbm e => ?_⟩
 refine pD (hs) ?_
 (try clear hs);intro xs n hx
 have h1:=(N _ (ht _ hp)).1
 have h2:=(N _ (hb _ hbm)).1
 rw [e,h2] at h1
 have:=Option.some.inj h1
 exact hbd b hbm xs n (by rw [this];exact hx)
end
section
theorem kw_A9_0:True:=by
 w_top off
 k_with "unf" => repeat' (first | k_extra "n" | ((first | k_extra "ah");k_extra "o";refine dB ?_;intro Q9q hQ9q) | k_extra "ag" | (k_end;wrow_close) | (k_extra "b";k_extra "c";walk1) | (k_extra "b";k_extra "c";dsimp only;walk1) | (leave1;walk_say "STEP leave1";try dsimp only) | k_extra "p" | fail "no step")
 trivial
namespace K
theorem heapify_c_m:j6 w p loose mean mg mb dp un gd env outer A₀ base h₀ L m s Q E rest cold D ws c ds k g' L' h':=by
 intro B F N hne hcold hD hz hok hcmp hk9 T hf hk hd hu ret X
 revert X;k_fill;intro X
 k_dflt k_extra "k"
 have hlen:=hD.length
 ktr_unf
 k_extra "ay"
 k_extra "bu"
 ktr_unf
 rename IsRange _ _ _ _ _ _ _ _=>hR
 have eN:((ws.length:Int)).fdiv 2=((ds.length / 2:Nat):Int):=by rw [Int.fdiv_eq_ediv_of_nonneg _ (by decide)];k_extra "g"
 rw [eN] at hR
 refine rz rfl (by assumption) (by assumption) hR (by exact zae [_,_] 2 qA (zn 1000000) [(1,qB,zn 100000),(1,zk 2 qA,qB)] rfl hz (zd1 _ _)) (fun I h' S=>xA S (dA S (fun p hp=>nomatch hp) hne (fun lc i m' ws tl=>tl=[]∧m' (Str.ofString "x")=some (.ref lc)∧DatAll cold ws (((List.range (ds.length / 2)).reverse.take i).foldl (bX (fun p q=>dlt k q p)) ds)) ⟨rfl,rfl,hD⟩ ?turn ?done))
 case turn =>
  intro i v m₁ ws₁ n tl it h tk hi hr1q
  refine bA (hr1q) ?_
  (try clear hr1q);rintro tv rfl
  intro hr2q
  refine cA (hr2q) ?_
  (try clear hr2q);rintro rfl hm1 hA
  intro ho hI hoff F₁ N₁
  have F₂:=aK F₁ (x:=Str.ofString "x") hm1
  k_extra "fh"
  have hat:=sm hi
  have hl1:=gK (fun p q=>dlt k q p) ((List.range (ds.length / 2)).reverse.take i) ds
  have hm9:=gJ (fun p q=>dlt k q p) ((List.range (ds.length / 2)).reverse.take i) ds
  have hnext:((List.range (ds.length / 2)).reverse.take (i+1)).foldl (bX (fun p q=>dlt k q p)) ds=bX (fun p q=>dlt k q p) (((List.range (ds.length / 2)).reverse.take i).foldl (bX (fun p q=>dlt k q p)) ds) (ds.length / 2 - 1 - i):=by
   rw [List.take_add_one,hat,List.foldl_append];rfl
  generalize ((List.range (ds.length / 2)).reverse.take i).foldl (bX (fun p q=>dlt k q p)) ds=ds' at hA hl1 hm9 hnext
  have hj:ds.length / 2 - 1 - i < ds'.length:=by (exact zal [_,_,_,_,_,_] 1 qB qA [(1,qC,qA),(1,zu qD,qE),(1,zk 2 qE,qC),(1,qB,qF),(1,zu qF,qE)] rfl (zge hl1) hi (zd1 _ _) (zs1 _ _) (zs3 (zae [_,_] 1 (zn 1) qA [(1,zu qB,qA)] rfl hi)))
  have hx:ds'[ds.length / 2 - 1 - i]? = some (ds'[ds.length / 2 - 1 - i]'hj):=List.getElem?_eq_getElem hj
  have hs:bX (fun p q=>dlt k q p) ds' (ds.length / 2 - 1 - i)=bM (fun p q=>dlt k q p) ds' (ds.length / 2 - 1 - i) (ds'[ds.length / 2 - 1 - i]'hj):=by unfold bX;rw [hx]
  rw [hs] at hnext
  ktr_unf
  have ej:(((ds.length / 2:Nat):Int) - 1 - (i:Int))=((ds.length / 2 - 1 - i:Nat):Int):=by k_extra "g"
  rw [ej]
  have N₃:=cb_drop (news:=(D,W.listOf ws₁.toArray n)::(I,it)::rest) N₁ (fun p hp=>by
   k_extra "ax"
   · exact List.Mem.tail _ (List.Mem.head _)
   · k_extra "ax"
     · exact List.Mem.head _
     · exact List.Mem.tail _ (List.Mem.tail _ hp))
  have hl2:=hA.length
  have hne3:∀ p∈(I,it)::rest,p.1≠D:=fun p hp=>by
   k_extra "ax"
   · exact fun e=>hI e.symm
   · exact hne p hp
  refine mw (a:=ds.length / 2 - 1 - i) (ds:=ds') (x:=ds'[ds.length / 2 - 1 - i]'hj) (k:=k) (by assumption) (by assumption) (by assumption) N₃ hne3 (fun p hp => .tail _ (hcold p hp)) hA (by exact zae [_,_] 1 qA (zn 100000) [(1,qA,qB),(1,qB,zn 100000)] rfl (zle hl1) hz) (fun a ha=>hok a (hm9 a ha)) (fun a ha b hb=>hcmp a (hm9 a ha) b (hm9 b hb)) hk9 (by assumption) rfl rfl (by ktr_room) (by ktr_units) hj hx ?_
  intro ws2 c2 h2 tk2 F2 N2 D2
  (try dsimp only)
  ktr_unf
  show aX _ _ _ _ _ _ _
  refine dS.intro (by assumption) (by assumption) ws2 c2 [] sL (aJ hI hoff) (fun p hp=>hne p hp) ⟨rfl,rfl,by rw [hnext];exact D2⟩
 case done =>
  intro m₁ ws₁ n tl h tk hr3q
  refine cA (hr3q) ?_
  (try clear hr3q);rintro rfl hm1 hA
  intro ho F₁ N₁
  k_extra "cx"
  rw [List.take_of_length_le (by simp)] at hA
  have F₂:=aK F₁ (x:=Str.ofString "x") hm1
  clear F₁
  ktr_unf
  exact ret _ _ _ _ (by assumption) (by assumption) hA
end K
theorem mZ:∀ v,m3 v:=ch1 (l:=PL.drop 43) BE K.heapify_c_m
theorem BD:Ch (PL.drop 43) oV:=ch2 (l:=PL.drop 43) BE mZ
theorem xH {w:World} {p:Program} {loose:List Str} {mean:ExcName→Option Value} {mg mb:Str→Option Value} {rest cold:List (Addr × Obj)} {D:Addr} {ws:List Value} {c:Nat} {ds:List Dat} {k:Nat}
 {dp un:Nat} {gd:Option (List Code)} {env:Env} {outer:List Env} {A₀:Around} {base h₀:Heap} {L:Addr} {m:Str→Option Value} {s:Shared} {Q E:Value→Shared→Prop}
 (B:Below A₀ base outer h₀) (F:Fr h₀ L s.heap m) (X:(hd.heap_1 w.params).In h₀) (N:News h₀ L s.heap ((D,W.listOf ws.toArray c)::rest)) (hne:∀ p∈rest,p.1≠D) (hcold:∀ p∈cold,p∈rest) (hD:DatAll cold ws ds) (hz:ds.length≤100000) (hok:∀ a∈ds,kqdOk k a=true) (hcmp:∀ a∈ds,∀ b∈ds,aY k a b=true) (hk9:k≤4) (T:Top p loose mean mg mb h₀)
 (hf:env.frame=some L) (hk:env.scope.kind = .function) (hd:dp+3 < recursionLimit) (hu:un+48 < cLine)
 (ret:∀  ws1 c1 h1 tk,Fr h₀ L h1 m→News h₀ L h1 ((D,W.listOf ws1.toArray c1)::rest)→DatAll cold ws1 (cV (fun p q=>dlt k q p) ds)→Q (.none) { s with heap:=h1,toks:=tk }) :
 wpAny (model Challenge.rw_ik0112_01.row.prog w) { handled:=none,depth:=dp,frames:=some (env::outer),guards:=gd,units:=un } (call (.ref 183) [.ref D]) Q E s:=(show m0 w p loose mean mg mb dp un gd env outer A₀ base h₀ L m s Q E rest cold D ws c ds k from (mY w p loose mean mg mb dp un gd env outer A₀ base h₀ L m s Q E rest cold D ws c ds k).2 fun g' L' h'=>mZ { oV with w,p,loose,mean,mg,mb,dp,un,gd,env,outer,A₀,base,h₀,L,m,s,Q,E,q46:=rest,q47:=cold,q4:=D,q9:=ws,q8:=c,q48:=ds,q23:=k,q27:=g',q3:=L',q28:=h' }) B F X N hne hcold hD hz hok hcmp hk9 T hf hk hd hu ret
end
section
theorem kw_A22_0:True:=by
 w_top off
 k_with "unf" => repeat' (first | k_extra "n" | (k_extra "a";k_extra "o";refine dB ?_;intro Q9q hQ9q) | k_extra "ag" | (k_end;wrow_close) | (k_extra "h";k_extra "f";k_extra "i";k_extra "b";k_extra "c";k_extra "e";(fail_if_success (with_reducible show wpAny _ _ (call (Value.builtin "min") _ _) _ _ _));(fail_if_success (with_reducible show wpAny _ _ (compareOp CmpOp.Is _ (Value.ref _)) _ _ _));walk1) | (k_extra "h";k_extra "f";k_extra "i";k_extra "b";k_extra "c";k_extra "e";(fail_if_success (with_reducible show wpAny _ _ (call (Value.builtin "min") _ _) _ _ _));(fail_if_success (with_reducible show wpAny _ _ (compareOp CmpOp.Is _ (Value.ref _)) _ _ _));dsimp only;walk1) | (leave1;walk_say "STEP leave1";try dsimp only) | k_extra "p" | fail "no step")
 k_with "call builtin:iter" => first | (((fail_if_success (clear hn2));k_extra "0")) | fail
 k_with "call type:object" => first | ((k_here;k_dflt (refine' uq (by k_asm) (by k_asm) ?_;k_whole);intro D'q9 h'q9 F'q9 N'q9 l1q9;(try k_lt l1q9);(try k_sweep))) | fail
 trivial
theorem np1 {α:Type} {D I : α} {r:List α}:∀ p∈I::D::r,p∈D::I::r:=fun p hp=>by
 k_extra "ax"
 · exact .tail _ (.head _)
 k_extra "ax"
 · exact .head _
 exact .tail _ (.tail _ (hp))
theorem Ds {h₀ h:Heap} {L a b:Addr} {o1 o2:Obj} {r:List (Addr × Obj)} (N:News h₀ L h ((a,o1)::(b,o2)::r)):∃ a' b':Addr,a'=a∧b'=b:=⟨_,_,rfl,rfl⟩
theorem yV {h₀ h:Heap} {L a:Addr} {o1:Obj} {r:List (Addr × Obj)} (N:News h₀ L h ((a,o1)::r)) (hl:AllLt a r):AllLt a r:=hl
theorem Aq {h₀ h:Heap} {L a b:Addr} {o1 o2:Obj} {r:List (Addr × Obj)} (N:News h₀ L h ((a,o1)::(b,o2)::r)) (hl:AllLt b r):AllLt b r:=hl
theorem Bu {prog:Program} {w:World} {A:Around} {E:Value→Shared→Prop} {s:Shared} {h₀:Heap} {L:Addr} {news cold:List (Addr × Obj)} {v:Value} {d:Dat} {D:Addr} {oD:Obj} {Q:Value→Shared→Prop} (N:News h₀ L s.heap news) (hs:∀ p∈cold,p∈news) (hv:DatIn cold v d) (hD:∀ p∈cold,p.1≠D) (hm:(D,oD)∈news) (hc:oD.cls = .type "object")
 (hq:Q (.bool false) s):wpAny (model prog w) A (compareOp .Is v (.ref D)) Q E s:=by
 have e:compareOp .Is v (.ref D)=(do return .bool (← isSame v (.ref D))):=rfl
 have hnt:oD.cls ≠ .type "tuple" := by rw [hc];decide
 rw [e]
 cases hv with
 | tuple hma _=>exact wpAny_bind (PySem.SeqAt.wpAny_isSame_ref_other' (hD _ hma) (N _ (hs _ hma)).1 (N _ hm).1 hnt (wpAny_pure hq))
 | list hma _=>exact wpAny_bind (PySem.SeqAt.wpAny_isSame_ref_other' (hD _ hma) (N _ (hs _ hma)).1 (N _ hm).1 hnt (wpAny_pure hq))
 | _=>exact wpAny_bind (wpAny_isSame_plain rfl (wpAny_pure hq))
namespace K
theorem nsm1_c_m:nE w p loose mean mg mb news dp un gd env outer A₀ base h₀ L m s Q E P kf foc fod ffd fsl ws c cold ds ks tn kk:=by
 intro n B F X N T hf hk hd hu hD hcold hkl hz hkey hn hz0 hkk hok hcmp ret
 revert X;k_fill;intro X
 refine wpAny_call ?_
 k_extra "a5"
 subst hn
 have hdl:=hD.length
 ktr_unf
 k_extra "ay"
 k_extra "az"
 refine aV (Ds lN') ?_
 intro lD lI eD eI
 subst eD eI
 have hDI : @Ne Nat lD lI:=by k_ne
 (with_reducible rename lI < lD∧_=>hl8)
 have hlD:=yV lN' hl8
 (with_reducible rename _ < lI∧_=>hl7)
 have hlI:=Aq lN' hl7
 show wpAny _ _ (call (.builtin "min") [.ref lI] [(Str.ofString "default",.ref lD),(Str.ofString "key",.ref kf)]) _ _ _
 refine yc (I:=lI) (vs:=ws) (kd:=ks) (k:=kk) rfl (by ktr_units) lF' (cb_drop lN' np1) ?hnI (.tail _ (.tail _ (.head _))) rfl rfl (by exact zal [_,_] 1 (zn 0) qA [(1,qB,qA),(1,zu (zn 0),qB)] rfl (zge hdl) hz0) (by exact Nat.le_antisymm (zae [_,_,_] 1 qB qA [(1,qC,qA),(1,qB,qC)] rfl (zge hdl) (zle hkl)) (zae [_,_,_] 1 qB qA [(1,qB,qC),(1,qC,qA)] rfl (zle hdl) (zge hkl))) hok hcmp (fun i v d hv hd s1 led Q1 E1 F1 hb N1 hr=>hkey i v d (by assumption) F1 (by assumption) N1 (by assumption) rfl rfl (by ktr_room) (by ktr_units) (fun p hp=>hb p ?sub) hv hd hr) ?_
 case hnI=>exact aJ hDI (fun p hp=>Nat.ne_of_lt (fR hlI p hp))
 case sub =>
  k_extra "ax"
  · k_extra "dm"
  · exact .tail _ (.tail _ (.tail _ (.tail _ hp)))
 intro v9 h9 tk9 hv9 F9 N9
 refine aE (DatAll.at hD hv9) ?_
 intro d9 hd9 hin9
 dsimp only
 ktr_unf
 k_extra "ay"
 k_extra "az"
 have hDc:∀ p∈cold,p.1≠lD:=fun p hp=>Nat.ne_of_lt (fR hlD p (.tail _ (.tail _ (.tail _ (.tail _ (hcold p hp))))))
 refine Bu lN' (fun p hp => .tail _ (.tail _ (.tail _ (.tail _ (hcold p hp))))) hin9 hDc (.head _) rfl ?_
 ktr_unf
 k_extra "ay"
 k_extra "az"
 have e9:ds.getD (bW (bC kk ks) (ds.length - 1)) .none=d9:=by rw [List.getD_eq_getElem?_getD,← hdl,hd9];rfl
 refine ret _ [_,_,_] _ _ lF' lN' (.list (vs:=[v9]) (.head _) (DatAll.one ?_))
 rw [e9]
 exact hin9.mono (fun p hp => .tail _ (.tail _ (.tail _ (.tail _ (.tail _ (hcold p hp))))))
end K
theorem sE:∀ v,sF v:=ch1 (l:=PL.drop 44) BD K.nsm1_c_m
theorem BC:Ch (PL.drop 44) oV:=ch2 (l:=PL.drop 44) BD sE
theorem Bf {w:World} {p:Program} {loose:List Str} {mean:ExcName→Option Value} {mg mb:Str→Option Value} {news:List (Addr × Obj)}
 {dp un:Nat} {gd:Option (List Code)} {env:Env} {outer:List Env} {A₀:Around} {base h₀:Heap} {L:Addr} {m:Str→Option Value} {s:Shared} {Q E:Value→Shared→Prop} {P kf:Addr} {foc:Value} {fod:Option Addr} {ffd:FuncData} {fsl:Array (Option Value)} {ws:List Value} {c:Nat} {cold:List (Addr × Obj)} {ds ks:List Dat} {n:Nat} {tn:Tok}
 (B:Below A₀ base outer h₀) (F:Fr h₀ L s.heap m) (X:(hd.heap_1 w.params).In h₀) (N:News h₀ L s.heap ((P,W.listOf ws.toArray c)::(kf,⟨foc,fod,.func ffd,fsl⟩)::news)) (T:Top p loose mean mg mb h₀)
 (hf:env.frame=some L) (hk:env.scope.kind = .function) (hd:dp+8 < recursionLimit) (hu:un+600 < cLine) (hD:DatAll cold ws ds) (hcold:∀ p∈cold,p∈news) (hkl:ks.length=ds.length) (hz:ds.length < 60) (hkey:∀ {led:List (Addr × Obj)} {dp un:Nat} {gd:Option (List Code)} {env:Env} {outer:List Env} {A₀:Around} {base h₁:Heap} {L:Addr} {m:Str→Option Value} {s:Shared} {Q E:Value→Shared→Prop} (i:Nat) (v:Value) (d:Dat),Below A₀ base outer h₁→Fr h₁ L s.heap m→(Mine.hd.heap_1 w.params).In h₁→News h₁ L s.heap led→Top p loose mean mg mb h₁→env.frame=some L→env.scope.kind = .function→dp+6 < recursionLimit→un+300 < cLine→(∀ p∈(kf,⟨foc,fod,.func ffd,fsl⟩)::news,p∈led) →
  ws[i]? = some v→ks[i]? = some d→(∀ u tl h tk,Fr h₁ L h m→News h₁ L h (tl++led)→(∀ p∈tl,∀ q∈led,q.1 < p.1)→DatIn tl u d→Q u { s with heap:=h,toks:=tk }) →
  wpAny (model Challenge.rw_ik0112_01.row.prog w) { handled:=none,depth:=dp,frames:=some (env::outer),guards:=gd,units:=un } (call (.ref kf) [v]) Q E s) {kk:Nat} (hn:n=1) (hz0 : 0 < ds.length) (hkk:kk≤8) (hok:∀ d∈ks,kqdOk kk d=true) (hcmp:∀ a∈ks,∀ c∈ks,aY kk a c=true)
 (ret:∀ D nw h1 tk,Fr h₀ L h1 m→News h₀ L h1 (nw++(P,W.listOf ws.toArray c)::(kf,⟨foc,fod,.func ffd,fsl⟩)::news)→DatIn (nw++(P,W.listOf ws.toArray c)::(kf,⟨foc,fod,.func ffd,fsl⟩)::news) (.ref D) (.list [ds.getD (bW (bC kk ks) (ds.length - 1)) .none])→Q (.ref D) { s with heap:=h1,toks:=tk }) :
 wpAny (model Challenge.rw_ik0112_01.row.prog w) { handled:=none,depth:=dp,frames:=some (env::outer),guards:=gd,units:=un } (call (.ref 217) [.int n tn,.ref P] [(Str.ofString "key",.ref kf)]) Q E s:=(show nE w p loose mean mg mb news dp un gd env outer A₀ base h₀ L m s Q E P kf foc fod ffd fsl ws c cold ds ks tn kk from sE { oV with w,p,loose,mean,mg,mb,news,dp,un,gd,env,outer,A₀,base,h₀,L,m,s,Q,E,q4:=P,q5:=kf,q43:=foc,q61:=fod,q62:=ffd,q63:=fsl,q9:=ws,q8:=c,q47:=cold,q48:=ds,q64:=ks,q26:=tn,q45:=kk }) B F X N T hf hk hd hu hD hcold hkl hz hkey hn hz0 hkk hok hcmp ret
end
section
theorem kw_A23_0:True:=by
 w_top off
 k_with "unf" => repeat' (first | k_extra "n" | (k_extra "a";k_extra "o";refine dB ?_;intro Q9q hQ9q) | k_extra "ag" | (k_end;wrow_close) | (k_extra "h";k_extra "f";k_extra "i";k_extra "b";k_extra "c";k_extra "e";k_extra "v";walk1) | (k_extra "h";k_extra "f";k_extra "i";k_extra "b";k_extra "c";k_extra "e";k_extra "v";dsimp only;walk1) | (leave1;walk_say "STEP leave1";try dsimp only) | k_extra "p" | fail "no step")
 k_with "subscriptTail Name Slice ref ref" => first | k_extra "j" | fail
 trivial
theorem nW {news:List (Addr × Obj)} {vs:List Value} {ds:List Dat} (h:DatAll news vs ds):∀ n,DatAll news (vs.take n) (ds.take n) :=
 gZ (P:=fun vs ds => ∀ n,DatAll news (vs.take n) (ds.take n)) (fun n=>by rw [List.take_nil,List.take_nil];exact .nil) (fun _ _ _ _ h _ ih n=>match n with
  | 0 => .nil
  | n+1 => .cons h (ih n)) h
namespace K
theorem nsm2_c_m:oO w p loose mean mg mb news dp un gd env outer A₀ base h₀ L m s Q E P kf foc fod ffd fsl ws c cold ds ks n tn kk g' L' h':=by
 intro B F N T hf hk hd hu hD hcold hkl hz hkey hn hn2 hz0 hkk hS ret X
 revert X;k_fill;intro X
 k_dflt k_extra "x"
 have hdl:=hD.length
 ktr_unf
 all_goals (try (exfalso;k_extra "g"))
 k_extra "ay"
 k_extra "az"
 show wpAny _ _ (call (.builtin "sorted") [.ref P] [(Str.ofString "key",.ref kf)]) _ _ _
 refine ub (k:=kk) (vs:=ws) (ks:=ks) (ds:=ds) (cold:=cold) lF' lN' (.tail _ (.head _)) hD (fun p hp => .tail _ (.tail _ (.tail _ (hcold p hp)))) hkl hS (by exact zae [_] 1 (zn 2) qA [(1,zn 2,qA)] rfl hz0) (by exact zal [_] 1 qA (zn 64) [(1,zu qA,zn 60)] rfl hz) (by ktr_units) (fun i v d hv hd s1 led Q1 E1 F1 hb N1 hr=>hkey i v d (by assumption) F1 (by assumption) N1 (by assumption) rfl rfl (by ktr_room) (by ktr_units) (fun p hp=>hb p ?sub) hv hd hr) ?_
 case sub =>
  k_extra "ax"
  · k_extra "b4"
  · exact .tail _ (.tail _ (.tail _ hp))
 intro D9 us es c9 h9 tk9 F9 N9 hlt9 hA9 hS9
 clear lF' lN'
 have hul:=hA9.length
 refine cH (id hS9) ?_
 intro p9 hp9 hw9 he9
 have hel:es.length=ds.length:=by rw [he9,List.length_map,hp9.length_eq,List.length_range,hkl]
 dsimp only
 ktr_unf
 k_extra "ay"
 k_extra "az"
 rw [gT] at lN'
 refine ret _ [_,_,_] es _ _ lF' lN' hS9 (.list (vs:=us.take n) (.head _) ?_)
 have hA8:DatAll cold (us.take n) (es.take n):=nW hA9 n
 exact hA8.mono (fun p hp => .tail _ (.tail _ (.tail _ (.tail _ (.tail _ (hcold p hp))))))
end K
theorem sB:∀ v,sD v:=ch1 (l:=PL.drop 45) BC K.nsm2_c_m
theorem BB:Ch (PL.drop 45) oV:=ch2 (l:=PL.drop 45) BC sB
theorem Be {kf:Addr} {foc:Value} {fod:Option Addr} {ffd:FuncData} {fsl:Array (Option Value)} {ws:List Value} {cold:List (Addr × Obj)} {ds:List Dat} {ks:List Dat} {tn:Tok} {kk:Nat}:sC w p loose mean mg mb news dp un gd env outer A₀ base h₀ L m s Q E P kf foc fod ffd fsl ws c cold ds ks n tn kk:=(sA w p loose mean mg mb news dp un gd env outer A₀ base h₀ L m s Q E P kf foc fod ffd fsl ws c cold ds ks n tn kk).2 fun g' L' h'=>sB { oV with w,p,loose,mean,mg,mb,news,dp,un,gd,env,outer,A₀,base,h₀,L,m,s,Q,E,q4:=P,q5:=kf,q43:=foc,q61:=fod,q62:=ffd,q63:=fsl,q9:=ws,q8:=c,q47:=cold,q48:=ds,q64:=ks,q23:=n,q26:=tn,q45:=kk,q27:=g',q3:=L',q28:=h' }
end
section
theorem kw_A24_0:True:=by
 w_top off
 k_with "unf" => repeat' (first | k_extra "n" | (k_extra "a";k_extra "o";refine dB ?_;intro Q9q hQ9q) | k_extra "ag" | (k_end;wrow_close) | (k_extra "h";k_extra "f";k_extra "i";k_extra "b";k_extra "c";k_extra "e";k_extra "v";(fail_if_success (with_reducible show wpAny _ _ (call (Value.builtin "list.sort") _) _ _ _));(fail_if_success (with_reducible show wpAny _ _ (call (Value.ref _) _) _ _ _));(fail_if_success (with_reducible show wpAny _ _ (call (Value.type "zip") _) _ _ _));(fail_if_success (with_reducible show wpAny _ _ (compareOp CmpOp.Lt _ _) _ _ _));walk1) | (k_extra "h";k_extra "f";k_extra "i";k_extra "b";k_extra "c";k_extra "e";k_extra "v";(fail_if_success (with_reducible show wpAny _ _ (call (Value.builtin "list.sort") _) _ _ _));(fail_if_success (with_reducible show wpAny _ _ (call (Value.ref _) _) _ _ _));(fail_if_success (with_reducible show wpAny _ _ (call (Value.type "zip") _) _ _ _));(fail_if_success (with_reducible show wpAny _ _ (compareOp CmpOp.Lt _ _) _ _ _));dsimp only;walk1) | (leave1;walk_say "STEP leave1";try dsimp only) | k_extra "p" | fail "no step")
 k_with "exec Assign cons ListComp" => first | ((k_here;k_dflt (refine mn rfl (F₀:=by k_asm) (by rfl) (by with_unfolding_all rfl) (by with_unfolding_all rfl) (by decide) (by rfl) (by decide) (by rfl) (by rfl) (by decide) (by rfl) (by rfl) ?_))) | fail
 k_with "eval ListComp" => first | ((k_here;k_dflt (refine ur rfl (F₀:=by k_asm) (by with_unfolding_all rfl) (by decide) (by rfl) (by decide) (by rfl) (by rfl) (by rfl) (by decide) (by decide) (by decide) ?_))) | fail
 k_with "call builtin:iter" => first | (k_extra "0") | fail
 k_with "callWith ref" => first | ((k_here;k_dflt (refine' callWith_F (by exact FnAt.of (by k_asm) (by k_mem)) ?_;k_whole))) | fail
 trivial
theorem Bc {h₀ h:Heap} {L a b:Addr} {o1 o2:Obj} {r:List (Addr × Obj)} (N:News h₀ L h ((a,o1)::(b,o2)::r)):∃ (a':Addr) (oc:Obj),a'=a∧oc=o2∧News h₀ L h ((a',o1)::(b,oc)::r):=⟨_,_,rfl,rfl,N⟩
theorem AU (n:Nat):zrI n={ cls := .type "range_iterator",dict:=none,data := .fields #[rawInt ((0:Nat):Int),rawInt ((n:Int) - ((0:Nat):Int)),rawInt 1],slots := #[] }:=by
 unfold zrI
 rw [rangeSize_nat,Int.sub_zero,Int.toNat_natCast]
 rw [show ((0:Nat):Int)=0 from rfl,Int.sub_zero]
theorem AW {z TO TI i1 I l:Addr} {oI ol:Obj} {news:List (Addr × Obj)} (l1:TO < z) (l2:TI < TO) (l3:i1 < TI) (l4:∀ p∈(I,oI)::news,p.1 < i1) (hI:∀ p∈news,p.1 < I) (hl:(l,ol)∈news) :
 ZAp z TI TO i1 I l ∧ ∀ p∈news,ZA z TO TI i1 I p.1:=by
 have h5:I < i1:=l4 _ (.head _)
 have h6:l < I:=hI _ hl
 have t1:TI < z:=Nat.lt_trans l2 l1
 have t2:i1 < TO:=Nat.lt_trans l3 l2
 have t3:i1 < z:=Nat.lt_trans t2 l1
 have t4:I < TI:=Nat.lt_trans h5 l3
 have t5:I < TO:=Nat.lt_trans h5 t2
 have t6:I < z:=Nat.lt_trans h5 t3
 refine ⟨⟨Nat.ne_of_lt t1,Nat.ne_of_lt l1,Nat.ne_of_lt t3,Nat.ne_of_lt t6,Nat.ne_of_lt l2,Nat.ne_of_gt l3,Nat.ne_of_gt t4,Nat.ne_of_gt t2,Nat.ne_of_gt t5,Nat.ne_of_gt h5,Nat.ne_of_lt (Nat.lt_trans h6 t6),Nat.ne_of_lt (Nat.lt_trans h6 t5),Nat.ne_of_lt (Nat.lt_trans h6 h5),Nat.ne_of_lt h6⟩,fun p hp => ?_⟩
 have h7:p.1 < I:=hI p hp
 exact ⟨Nat.ne_of_lt (Nat.lt_trans h7 t6),Nat.ne_of_lt (Nat.lt_trans h7 t5),Nat.ne_of_lt (Nat.lt_trans h7 t4),Nat.ne_of_lt (Nat.lt_trans h7 h5),Nat.ne_of_lt h7⟩
theorem zp1 {α:Type} (c d x : α) (zl t2 r:List α):∀ p∈c::d::(zl++((x::t2)++r)),p∈x::(t2++c::d::(zl++r)):=bP [[_],[_],_,[_],_,_] (zp qA (zp qB (zp qC (zp (zp qD qE) qF)))) (zp qD (zp qE (zp qA (zp qB (zp qC qF))))) rfl
theorem zp2 {α:Type} (x : α) (t2 tl r:List α):∀ p∈tl++r,p∈((x::t2)++tl)++r:=bP [_,_,[_],_] (zp qA qB) (zp (zp (zp qC qD) qA) qB) rfl
theorem zp3 {α:Type} (x : α) (t2 tl r:List α):∀ p∈t2,p∈((x::t2)++tl)++r:=bP [_,[_],_,_] qA (zp (zp (zp qB qA) qC) qD) rfl
theorem C7 {h₀ h':Heap} {L C D X:Addr} {m:Str→Option Value} {s₁:Shared} {oC oD oX:Obj} {zl t2 old:List (Addr × Obj)} {r:Value→List (Addr × Obj)→Prop} {tk:Nat} (F:Fr h₀ L h' m) (N:News h₀ L h' ((X,oX)::(t2++(C,oC)::(D,oD)::(zl++old))))
 (hl:∀ p∈t2++(C,oC)::(D,oD)::(zl++old),p.1 < X) (hf:∀ p∈t2,∀ q∈(C,oC)::(D,oD)::(zl++old),q.1 < p.1) (hr:r (.ref X) (((X,oX)::t2)++old)) :
 zG h₀ L m s₁ C oC D oD zl r old (.ref X) { s₁ with heap:=h',toks:=tk } :=
 ⟨h',tk,(X,oX)::t2,rfl,F,cb_drop N (zp1 _ _ _ _ _ _),fun p hp q hq=>by
  k_extra "ax"
  · exact hl q (List.mem_append_right _ hq)
  · exact hf p hp q hq,hr⟩
noncomputable def dQ (ks ds:List Dat) (d:Dat):Prop := ∃ (j:Nat) (o:Int),j < ds.length∧d = .tuple [ks.getD j .none,.int o,ds.getD j .none]
theorem dV {ks ds:List Dat} {k:Nat} (hl:ks.length=ds.length) (h1:∀ d∈ks,kqdOk (k+1) d=true) (h2:∀ d∈ds,kqdOk (k+1) d=true) {a:Dat} (ha:dQ ks ds a):kqdOk (k+2) a=true:=by
 refine aV (ha) ?_
 (try clear ha);rintro j o hj rfl
 have e1:=h1 _ (bL (d:=Dat.none) (show j < ks.length by (exact zal [_,_,_] 1 qB qA [(1,zu qB,qC),(1,qC,qA)] rfl hj (zge hl))))
 have e2:=h2 _ (bL (d:=Dat.none) hj)
 generalize ks.getD j .none=x at *
 generalize ds.getD j .none=y at *
 simp only [kqdOk,List.all_cons,List.all_nil,Bool.and_true,Bool.and_eq_true]
 exact ⟨e1,trivial,e2⟩
theorem fO {ks ds:List Dat} {k:Nat} (hl:ks.length=ds.length) (h1:∀ a∈ks,∀ c∈ks,aY (k+1) a c=true) (h2:∀ a∈ds,∀ c∈ds,aY (k+1) a c=true) {a b:Dat} (ha:dQ ks ds a) (hb:dQ ks ds b):aY (k+2) a b=true:=by
 refine aV (ha) ?_
 (try clear ha);rintro j o hj rfl
 refine aV (hb) ?_
 (try clear hb);rintro j' o' hj' rfl
 have e1:=h1 _ (bL (d:=Dat.none) (show j < ks.length by (exact zal [_,_,_] 1 qB qA [(1,zu qB,qC),(1,qC,qA)] rfl hj (zge hl)))) _ (bL (d:=Dat.none) (show j' < ks.length by (exact zal [_,_,_] 1 qB qA [(1,zu qB,qC),(1,qC,qA)] rfl hj' (zge hl))))
 have e2:=h2 _ (bL (d:=Dat.none) hj) _ (bL (d:=Dat.none) hj')
 generalize ks.getD j .none=x at *
 generalize ds.getD j .none=y at *
 generalize ks.getD j' .none=x' at *
 generalize ds.getD j' .none=y' at *
 simp only [aY,List.zip_cons_cons,List.zip_nil_left,List.all_cons,List.all_nil,Bool.and_true,Bool.and_eq_true]
 exact ⟨e1,trivial,e2⟩
theorem tq2 {α:Type} {a b x : α} {r:List α} (h:x∈r):x∈a::b::r := .tail _ (.tail _ h)
theorem tq3 {α:Type} {a b : α} {r:List α}:∀ p∈b::a::r,p∈a::b::r:=fun p hp=>by
 k_extra "ax"
 · exact .tail _ (.head _)
 · k_extra "ax"
   · exact .head _
   · exact .tail _ (.tail _ hp)
theorem kT {k n:Nat} {ks ds:List Dat} (hl:ks.length=ds.length) (hn:n < ds.length):∀ i,i≤ds.length - n→(∀ a∈(bD k ks ds n i).1,dQ ks ds a)∧(bD k ks ds n i).1.length=n∧(bD k ks ds n i).2≤n+i
 | 0,_=>by
  refine ⟨fun a ha => ?_,?_,Nat.le_refl _⟩
  · have:=gJ _ _ _ a ha
    refine aE (List.mem_map.mp this) ?_
    rintro j hj rfl
    rw [List.mem_range] at hj
    exact ⟨j,j,by (exact zal [_,_,_] 1 qB qA [(1,zu qB,qC),(1,zu qC,qA)] rfl hj hn),rfl⟩
  · show (cV _ _).length=n
    unfold cV;rw [gK];simp
 | i+1,hi=>by
  have ih:=kT (k:=k) hl hn i (by exact zae [_,_] 1 qB qA [(1,zu qB,qA)] rfl hi)
  have e:bD k ks ds n (i+1)=fE k ks ds (bD k ks ds n i) (n+i):=by
   k_extra "e2"
  rw [e]
  generalize bD k ks ds n i=st at ih
  unfold fE
  split
  · refine ⟨fun a ha => ?_,?_,by dsimp only;(exact zae [_,_,_] 1 (zu qC) (zp qA (zu qB)) [(1,qC,zp qA qB)] rfl ih.2.2)⟩
    · have hT:dQ ks ds (.tuple [ks.getD (n+i) .none,.int (st.2:Int),ds.getD (n+i) .none]):=⟨n+i,st.2,by (exact zal [_,_,_,_] 1 (zp qB qC) qA [(1,zu qC,qD),(1,zp qD qB,qA)] rfl hi (zs3 (zae [_,_] 1 qB qA [(1,zu qB,qA)] rfl hn))),rfl⟩
      rcases iO _ _ _ _ a ha with h | h
      · rcases List.mem_or_eq_of_mem_set h with h | h
        · exact ih.1 a h
        · rw [h];exact hT
      · rw [h];exact hT
    · dsimp only;rw [fS,List.length_set];exact ih.2.1
  · exact ⟨ih.1,ih.2.1,by (exact zae [_,_,_] 1 qC (zp qA (zu qB)) [(1,qC,zp qA qB)] rfl ih.2.2)⟩
theorem tq4 {α:Type} (a b : α) (t r:List α):∀ p∈t++r,p∈t++a::b::r:=bP [_,_,[_],[_]] (zp qA qB) (zp qA (zp qC (zp qD qB))) rfl
theorem tq5 {α:Type} (x a b : α) (t r:List α):∀ p∈b::x::a::(t++r),p∈x::(t++a::b::r):=bP [[_],[_],[_],_,_] (zp qA (zp qB (zp qC (zp qD qE)))) (zp qB (zp qD (zp qC (zp qA qE)))) rfl
theorem tq6 {α:Type} (x a : α) (t r:List α):∀ p∈x::(t++r),p∈x::a::(t++r):=bP [[_],_,_,[_]] (zp qA (zp qB qC)) (zp qA (zp qD (zp qB qC))) rfl
theorem Bh {h₀ h:Heap} {L x:Addr} {u v:Value} {o:Int} {t:Tok} {r:List (Addr × Obj)} (N:News h₀ L h ((x,{ cls := .type "tuple",data := .seq #[u,.int o t,v] })::r)) :
 ∃ (x':Addr) (ox:Obj),x'=x∧(∀ cold kd dd,DatIn cold u kd→DatIn cold v dd→DatIn ((x,ox)::cold) (.ref x) (.tuple [kd,.int o,dd]))∧News h₀ L h ((x,ox)::r) :=
 ⟨_,_,rfl,fun cold kd dd h1 h2 => .tuple (vs:=[u,.int o t,v]) (.head _) (.cons (h1.mono fun p hp => .tail _ hp) (.cons (.int _ _) (.cons (h2.mono fun p hp => .tail _ hp) .nil))),N⟩
theorem tq7 {α:Type} (y D X I : α) (t3 t2 r:List α):∀ p∈I::D::((X::(t3++t2))++r),p∈y::D::X::I::(t3++(t2++r)):=bP [[_],[_],[_],_,_,_,[_]] (zp qA (zp qB (zp (zp qC (zp qD qE)) qF))) (zp qG (zp qB (zp qC (zp qA (zp qD (zp qE qF)))))) rfl
theorem tq8 {h₀ h:Heap} {L:Addr} {D X I x:Addr × Obj} {r:List (Addr × Obj)} (N:News h₀ L h (D::X::I::r)) (hm:x∈X::r):News h₀ L h (x::D::X::I::r):=fun p hp=>by
 k_extra "ax"
 · rcases List.mem_cons.mp hm with rfl | hm
   · exact N _ (.tail _ (.head _))
   · exact N _ (.tail _ (.tail _ (.tail _ hm)))
 · exact N _ hp
theorem tq9 {a:Addr} {X:Addr × Obj} {t3 t2 r:List (Addr × Obj)} (h1 : @Ne Nat X.1 a) (h2:∀ p∈t3,@Ne Nat p.1 a) (h3:∀ p∈t2++r,p.1≠a):∀ p∈(X::(t3++t2))++r,p.1≠a:=fun p hp=>by
 k_extra "be"
 · k_extra "ax"
   · exact h1
   · k_extra "be"
     · exact h2 p hp
     · exact h3 p (List.mem_append_left _ hp)
 · exact h3 p (List.mem_append_right _ hp)
theorem A5 {α:Type} (X : α) (t3 t2 r:List α):∀ p∈X::(t3++(t2++r)),p∈(X::(t3++t2))++r:=bP [[_],_,_,_] (zp qA (zp qB (zp qC qD))) (zp (zp qA (zp qB qC)) qD) rfl
theorem Dc {α:Type} (I D : α) (t3 t2 r:List α):∀ p∈I::D::((t3++t2)++r),p∈t3++I::D::(t2++r):=bP [[_],[_],_,_,_] (zp qA (zp qB (zp (zp qC qD) qE))) (zp qC (zp qA (zp qB (zp qD qE)))) rfl
theorem A4 {a:Addr} {t3 t2 r:List (Addr × Obj)} (h2:∀ p∈t3,@Ne Nat p.1 a) (h3:∀ p∈t2++r,p.1≠a):∀ p∈(t3++t2)++r,p.1≠a:=fun p hp=>by
 k_extra "be"
 · k_extra "be"
   · exact h2 p hp
   · exact h3 p (List.mem_append_left _ hp)
 · exact h3 p (List.mem_append_right _ hp)
theorem A3 {α:Type} (t3 t2 r:List α):∀ p∈t2++r,p∈(t3++t2)++r:=bP [_,_,_] (zp qA qB) (zp (zp qC qA) qB) rfl
theorem C9 {α:Type} (x D c : α) (t2 t r:List α):∀ p∈(x::D::(t2++t++[c]))++r,p∈x::D::(t2++(t++c::r)):=bP [[_],[_],_,_,[_],_] (zp (zp qA (zp qB (zp (zp qC qD) qE))) qF) (zp qA (zp qB (zp qC (zp qD (zp qE qF))))) rfl
theorem C8 {α:Type} (x D c : α) (t2 t r:List α):∀ p∈t2++(t++c::r),p∈(x::D::(t2++t++[c]))++r:=bP [_,_,[_],_,[_],[_]] (zp qA (zp qB (zp qC qD))) (zp (zp qE (zp qF (zp (zp qA qB) qC))) qD) rfl
theorem sO {h₀ h:Heap} {L a:Addr} {o1:Obj} {r:List (Addr × Obj)} (N:News h₀ L h ((a,o1)::r)) (hl:AllLt a r):∀ p∈r,p.1 < a:=fR hl
namespace K
theorem nsm3_c_m:oN w p loose mean mg mb news dp un gd env outer A₀ base h₀ L m s Q E P kf foc fod ffd fsl ws c cold ds ks n tn kk g' L' h':=by
 intro B F N T hf hk hd hu hD hcold hkl hz hkey hn hn2 hkk hS hokd hcmpd hS3 ret X
 revert X;k_fill;intro X
 k_dflt k_extra "x"
 have hdl:=hD.length
 ktr_unf
 all_goals (try (exfalso;k_extra "g"))
 k_extra "ay"
 k_extra "az"
 (with_reducible rename IsRange _ _ _ _ _ _ _ _=>hR)
 refine cJ (Bc lN') ?_
 intro lI oC' eI e2 lN2
 subst eI e2
 (with_reducible rename _ < lI∧_=>hl7)
 have hlI:=sO lN2 hl7
 refine x9 (I:=lI) (l:=P) (k:=0) lF' lN2 hR (small_one (by k_extra "g") (by exact zmt (zal [] 1 (zn 0) (zn 4611686018427387904) [] rfl)) (by k_extra "g") (by exact zmt (zal [_,_] 1 qA (zn 4611686018427387904) [(1,zu qA,qB),(1,zu qB,zn 60)] rfl hn2 hz))) ⟨_,(lN2 _ (.head _)).1,rfl,rfl⟩ ?_
 intro z TO TI i1 h9 F9 N9 l1 l2 l3 l4 l5
 clear lN'
 k_extra "lf"
 rw [AU] at N9
 refine bV (AW l1 l2 l3 l4 hlI (.tail _ (.head _))) ?_
 intro hza hzo
 refine ⟨z,TO,TI,i1,lI,P,n,c,_,W.listOf ws.toArray c,ws,_,fun i ys nw => ∃ tl,nw=tl++(L'+1,oC')::(P,W.listOf ws.toArray c)::(kf,⟨foc,fod,.func ffd,fsl⟩)::news∧DatAll (tl++(L'+1,oC')::(P,W.listOf ws.toArray c)::(kf,⟨foc,fod,.func ffd,fsl⟩)::news) ys ((List.range i).map (gC ks ds)),rfl,hza,F9,N9,hzo,?hl,rfl,rfl,by (exact zae [_,_,_] 1 qB qA [(1,qC,qA),(1,zu qB,qC)] rfl (zge hdl) hn2),by (exact zae [_,_] 1 qA (zn 100000) [(1,zu qA,qB),(1,zu qB,zn 60)] rfl hn2 hz),⟨rfl,rfl⟩,⟨[],rfl,.nil⟩,?turnZ,?finZ⟩
 case hl=>rintro i ys nw ⟨tl,rfl,_⟩;exact List.mem_append_right _ (.tail _ (.head _))
 case turnZ =>
  intro i ys nw a b oI hi hr1q
  refine aE (hr1q) ?_
  (try clear hr1q);rintro tl rfl hA
  intro v t C oC D m₂ h tk E' hv hC hx1 hx2 F N off hCD
  clear lF' lN2 N9 F9
  have hdi:i < ds.length:=by (exact zal [_,_,_] 1 qB qA [(1,zu qB,qC),(1,zu qC,qA)] rfl hi hn2)
  have hki:i < ks.length:=by (exact zal [_,_,_,_] 1 qB qA [(1,zu qB,qC),(1,zu qC,qD),(1,qD,qA)] rfl hi hn2 (zge hkl))
  have hki2:ks[i]? = some (ks.getD i .none):=by rw [List.getD_eq_getElem?_getD,List.getElem?_eq_getElem hki];rfl
  k_extra "g5"
  intro d hd hdin
  ktr_unf
  refine hkey i v (ks.getD i .none) (by assumption) F (by assumption) (by assumption) (by assumption) rfl rfl (by ktr_room) (by ktr_units) ?sub hv hki2 ?_
  case sub =>
   intro p hp
   refine .tail _ (.tail _ (List.mem_append_right _ (List.mem_append_right _ (.tail _ (.tail _ hp)))))
  intro u tl2 h2 tk2 F2 N2 hfr2 hu2
  clear N F
  dsimp only
  ktr_unf
  k_extra "ay"
  k_extra "az"
  k_extra "gx"
  refine C7 lF' lN' hl9 hfr2 ⟨_,(List.append_assoc _ _ _).symm,?_⟩
  rw [List.range_succ,List.map_append]
  refine DatAll.append (hA.mono (zp2 _ _ _ _)) (DatAll.one ?_)
  have hdd:ds.getD i .none=d:=by rw [List.getD_eq_getElem?_getD,hd];rfl
  unfold gC
  rw [hdd]
  refine .tuple (vs:=[u,.int (i:Int) t,v]) (.head _) (.cons (hu2.mono (zp3 _ _ _ _)) (.cons (.int _ _) (.cons (hdin.mono fun p hp => ?_) .nil)))
  exact .tail _ (List.mem_append_right _ (.tail _ (.tail _ (.tail _ (hcold p hp)))))
 case finZ =>
  intro D ys nw oJ h tk hr2q
  refine aE (hr2q) ?_
  (try clear hr2q);rintro tl rfl hA
  intro hoJ F N off hDI
  change News _ _ _ ((D,W.listOf ys.toArray ys.length)::(lI,oJ)::_) at N
  have hyl:ys.length=n:=by have:=hA.length;simpa using this
  clear lF' lN2 N9 F9
  have off2:=fun (p:Addr × Obj) hp=>aJ (q:=(lI,oJ)) (Ne.symm hDI) (fun p hp=>(off p hp).1) p hp
  ktr_unf
  rotate_left
  · exfalso;k_extra "g"
  k_extra "ay"
  have hT0:∀ a∈(List.range n).map (gC ks ds),dQ ks ds a:=fun a ha=>by
   k_extra "bb"
   rintro j hj rfl
   rw [List.mem_range] at hj
   exact ⟨j,j,by (exact zal [_,_,_] 1 qB qA [(1,zu qB,qC),(1,zu qC,qA)] rfl hj hn2),rfl⟩
  refine xH (D:=D) (ds:=(List.range n).map (gC ks ds)) (k:=kk+2) (by assumption) lF' (by assumption) N off2 (fun p hp => .tail _ hp) hA (by simp;(exact zae [_,_] 1 qA (zn 100000) [(1,zu qA,qB),(1,zu qB,zn 60)] rfl hn2 hz)) (fun a ha=>dV hkl hS.ok hokd (hT0 a ha)) (fun a ha b hb=>fO hkl hS.cmp hcmpd (hT0 a ha) (hT0 b hb)) (by exact zae [_] 1 (zp qA (zn 2)) (zn 4) [(1,qA,zn 2)] rfl hkk) (by assumption) rfl rfl (by ktr_room) (by ktr_units) ?_
  intro ws1 c1 h1 tk1 F1 N1 hA1
  have hT1:∀ a∈cV (fun p q=>dlt (kk+2) q p) ((List.range n).map (gC ks ds)),dQ ks ds a:=fun a ha=>hT0 a (gJ _ _ _ a ha)
  have hl1:(cV (fun p q=>dlt (kk+2) q p) ((List.range n).map (gC ks ds))).length=n:=by
   unfold cV;rw [gK];simp
  generalize hH0:cV (fun p q=>dlt (kk+2) q p) ((List.range n).map (gC ks ds))=H0 at *
  clear N F lF' hT0 hA
  dsimp only
  have hl2:=hA1.length
  ktr_unf
  (with_reducible rename DatIn _ _ _=>hD8)
  (with_reducible rename H0[_]? = some _=>hd8)
  rw [show Int.toNat 0=0 from rfl] at hd8
  refine aV (hT1 _ (List.mem_of_getElem? hd8)) ?_
  rintro j8 o8 hj8 rfl
  refine iz (md hD8) ?_
  rintro a8 kv8 t8 dv8 n8 rfl hm8 hk8 hdv8
  have hm9:=tq2 (a:=(D,W.listOf ws1.toArray c1)) (b:=(lI,oJ)) hm8
  ktr_unf
  k_extra "ay"
  k_extra "az"
  k_extra "bu"
  ktr_unf
  k_extra "ay"
  have N2:=cb_drop lN' tq3
  clear lN'
  have htop0:DatIn ([]++(tl++(L'+1,oC')::(P,W.listOf ws.toArray c)::(kf,⟨foc,fod,.func ffd,fsl⟩)::news)) kv8 (qh ((bD (kk+1) ks ds n 0).1.getD 0 .none)):=by
   have e:(bD (kk+1) ks ds n 0).1.getD 0 .none = .tuple [ks.getD j8 .none,.int o8,ds.getD j8 .none]:=by
    unfold bD;rw [List.range_zero,List.foldl_nil]
    show (cV (fun p q=>dlt (kk+2) q p) ((List.range n).map (gC ks ds))).getD 0 .none=_
    rw [hH0,List.getD_eq_getElem?_getD,hd8];rfl
   rw [e];exact hk8
  have hA10:DatAll ([]++(tl++(L'+1,oC')::(P,W.listOf ws.toArray c)::(kf,⟨foc,fod,.func ffd,fsl⟩)::news)) ws1 (bD (kk+1) ks ds n 0).1:=by
   unfold bD;rw [List.range_zero,List.foldl_nil]
   show DatAll _ ws1 (cV (fun p q=>dlt (kk+2) q p) ((List.range n).map (gC ks ds)))
   rw [hH0];exact hA1
  refine xB (k:=n) rfl (.tail _ (List.mem_append_right _ (.tail _ (.head _)))) rfl rfl hoJ (by exact zae [_,_,_] 1 qB qA [(1,qC,qA),(1,zu qB,qC)] rfl (zge hdl) hn2) lF' N2 (aJ hDI (fun p hp=>(off p hp).2)) (fun S=>dA S (fun p hp=>by rw [List.mem_singleton.mp hp];exact List.mem_append_right _ (.tail _ (.head _))) (fun p hp=>(off p hp).1) (fun lc i m' w tl2=>m' (Str.ofString "result")=some (.ref lc)∧(∃ v,m' (Str.ofString "top")=some v∧DatIn (tl2++(tl++(L'+1,oC')::(P,W.listOf ws.toArray c)::(kf,⟨foc,fod,.func ffd,fsl⟩)::news)) v (qh ((bD (kk+1) ks ds n i).1.getD 0 .none)))∧(∃ t,m' (Str.ofString "order")=some (.int ((bD (kk+1) ks ds n i).2:Nat) t))∧m' (Str.ofString "_heapreplace")=some (.ref 176)∧DatAll (tl2++(tl++(L'+1,oC')::(P,W.listOf ws.toArray c)::(kf,⟨foc,fod,.func ffd,fsl⟩)::news)) w (bD (kk+1) ks ds n i).1) ⟨rfl,⟨_,rfl,htop0⟩,⟨_,rfl⟩,rfl,hA10⟩ ?turnQ ?doneQ)
  case turnQ =>
   intro i v m₁ w n1 tl2 it h2 tk2 hi hv hr3q
   refine iB (hr3q) ?_
   (try clear hr3q);rintro hm1 ⟨tv,hm2,htop⟩ ⟨t3,hm3⟩ hm4 hA2
   intro ho hI2 hoff F3 N3
   have F4:=aK (aK (aK (aK F3 (x:=Str.ofString "result") hm1) (x:=Str.ofString "top") hm2) (x:=Str.ofString "order") hm3) (x:=Str.ofString "_heapreplace") hm4
   have hinv:=kT (k:=kk+1) hkl hn2 i (by exact zae [_,_,_,_,_,_] 1 qB qA [(1,zu qB,qC),(1,qD,qE),(1,qE,zp qA qF),(1,zp qC qF,qD)] rfl hi (zle hdl) (zs2 _ _) (zs3 (zae [_,_,_] 1 qB qA [(1,qC,qA),(1,zu qB,qC)] rfl (zge hdl) hn2)))
   have hst2:bD (kk+1) ks ds n (i+1)=fE (kk+1) ks ds (bD (kk+1) ks ds n i) (n+i):=by
    k_extra "e2"
   generalize bD (kk+1) ks ds n i=st at *
   obtain ⟨Hp,od⟩:=st
   dsimp only at hA2 htop hinv
   clear F3 lF' N2 S
   have hin:n+i < ds.length:=by (exact zal [_,_,_,_,_] 1 (zp qB qC) qA [(1,zu qC,qD),(1,qE,qA),(1,zp qD qB,qE)] rfl hi (zle hdl) (zs3 (zae [_,_,_] 1 qB qA [(1,qC,qA),(1,zu qB,qC)] rfl (zge hdl) hn2)))
   have hik:n+i < ks.length:=by (exact zal [_,_,_,_] 1 (zp qB qC) qA [(1,zu (zp qB qC),qD),(1,qD,qA)] rfl hin (zge hkl))
   rw [Nat.add_comm i n] at hv
   have hki2:ks[n+i]? = some (ks.getD (n+i) .none):=by rw [List.getD_eq_getElem?_getD,List.getElem?_eq_getElem hik];rfl
   k_extra "g5"
   intro d hd hdin
   have hwl:=hA2.length
   have hdd:ds.getD (n+i) .none=d:=by rw [List.getD_eq_getElem?_getD,hd];rfl
   have hkm:=bL (d:=Dat.none) hik
   ktr_unf
   k_extra "ay"
   k_extra "az"
   refine hkey (n+i) v (ks.getD (n+i) .none) (by assumption) lF' (by assumption) lN' (by assumption) rfl rfl (by ktr_room) (by ktr_units) ?sub hv hki2 ?_
   case sub =>
    intro p hp
    exact .tail _ (.tail _ (List.mem_append_right _ (List.mem_append_right _ (.tail _ (.tail _ hp)))))
   intro u tl3 h3 tk3 F5 N5 hfr3 hu3
   clear lN' lF'
   dsimp only
   refine cA (hinv) ?_
   (try clear hinv);intro hiT hil hio
   refine aV (hiT _ (bL (d:=Dat.none) (show 0 < Hp.length by (exact zal [_,_] 1 (zn 0) qA [(1,qB,qA),(1,zn 2,qB)] rfl (zge hil) hn)))) ?_
   intro j0 o0 hj0 e0
   have hft:qh (Hp.getD 0 .none)=ks.getD j0 .none:=by rw [e0];rfl
   rw [hft] at htop
   have hkm0:=bL (d:=Dat.none) (show j0 < ks.length by (exact zal [_,_,_] 1 qB qA [(1,zu qB,qC),(1,qC,qA)] rfl hj0 (zge hkl)))
   ktr_unf
   k_extra "ay"
   k_extra "az"
   refine pm (k:=kk+1) lN' (tq4 _ _ _ _) (hu3.mono (fun p hp=>List.mem_append_left _ hp)) (htop.mono (fun p hp=>List.mem_append_right _ hp)) (hS.ok _ hkm) (hS.ok _ hkm0) (hS.cmp _ hkm _ hkm0) (by ktr_units) ?_
   by_cases hb:dlt (kk+1) (ks.getD (n+i) .none) (ks.getD j0 .none)=true
   · rw [hb]
     have hstT:fE (kk+1) ks ds (Hp,od) (n+i)=_:=if_pos (by rw [hft];exact hb)
     dsimp only at hstT
     ktr_unf
     k_extra "ay"
     k_extra "az"
     k_extra "gx"
     refine cJ (Bh lN') ?_
     intro lX oX eX hX N9
     subst eX
     clear lN'
     have N10:=cb_drop N9 (tq5 _ _ _ _ _)
     have hTe:dQ ks ds (.tuple [ks.getD (n+i) .none,.int (od:Int),ds.getD (n+i) .none]):=⟨n+i,od,hin,rfl⟩
     have hT2:∀ a∈Hp++[.tuple [ks.getD (n+i) .none,.int (od:Int),ds.getD (n+i) .none]],dQ ks ds a:=fun a ha=>by
      k_extra "ca"
      · exact hiT a ha
      · rw [List.mem_singleton.mp ha];exact hTe
     refine xF (D:=D) (ds:=Hp) (d := .tuple [ks.getD (n+i) .none,.int (od:Int),ds.getD (n+i) .none]) (x:=Hp.getD 0 .none) (k:=kk+2) (cold:=(lX,oX)::(tl3++(tl2++(tl++(L'+1,oC')::(P,W.listOf ws.toArray c)::(kf,⟨foc,fod,.func ffd,fsl⟩)::news)))) (by assumption) lF' (by assumption) N10 ?hne (tq6 _ _ _ _) (hA2.mono (fun p hp => .tail _ (List.mem_append_right _ hp))) (by exact zae [_,_,_,_] 1 qA (zn 100000) [(1,qA,qB),(1,zu (zp qB qC),qD),(1,zu qD,zn 60)] rfl (zle hil) hin hz) (fun a ha=>dV hkl hS.ok hokd (hiT a ha)) (fun a ha b hb=>fO hkl hS.cmp hcmpd (hiT a ha) (hiT b hb)) (by exact zae [_] 1 (zp qA (zn 2)) (zn 4) [(1,qA,zn 2)] rfl hkk) (by assumption) rfl rfl (by ktr_room) (by ktr_units) (by rw [List.getD_eq_getElem?_getD,List.getElem?_eq_getElem (show 0 < Hp.length by (exact zal [_,_] 1 (zn 0) qA [(1,qB,qA),(1,zn 2,qB)] rfl (zge hil) hn))];rfl)
      (hX _ _ _ (hu3.mono (fun p hp=>List.mem_append_left _ hp)) (by rw [hdd];exact hdin.mono fun p hp=>List.mem_append_right _ (List.mem_append_right _ (List.mem_append_right _ (.tail _ (.tail _ (.tail _ (hcold p hp)))))))) (fun a ha=>dV hkl hS.ok hokd (hT2 a ha)) (fun a ha b hb=>fO hkl hS.cmp hcmpd (hT2 a ha) (hT2 b hb)) ?_
     case hne =>
      intro p hp
      k_extra "ax"
      · exact Nat.ne_of_gt (hl9 _ (List.mem_append_right _ (.tail _ (.head _))))
      · k_extra "ax"
        · exact Ne.symm hI2
        · k_extra "be"
          · exact Nat.ne_of_gt (hfr3 p hp _ (.tail _ (.head _)))
          · exact ho p hp
     intro u9 w5 n5 h5 tk5 F9 N11 hu9 hA5
     have hinv2:=kT (k:=kk+1) hkl hn2 (i+1) (by exact zae [_,_,_,_] 1 (zu qB) qA [(1,zu (zp qC qB),qD),(1,qD,zp qA qC)] rfl hin (zs2 _ _))
     rw [hst2,hstT] at hinv2
     dsimp only at hinv2
     generalize bM (fun p q=>dlt (kk+1+1) q p) (Hp.set 0 (.tuple [ks.getD (n+i) .none,.int (od:Int),ds.getD (n+i) .none])) 0 (.tuple [ks.getD (n+i) .none,.int (od:Int),ds.getD (n+i) .none])=H5 at *
     refine cA (hinv2) ?_
     (try clear hinv2);intro hiT5 hil5 hio5
     clear lF' N10 N9
     dsimp only
     ktr_unf
     (with_reducible rename DatIn _ _ _=>hD9)
     (with_reducible rename H5[_]? = some _=>hd9)
     rw [show Int.toNat 0=0 from rfl] at hd9
     refine aV (hiT5 _ (List.mem_of_getElem? hd9)) ?_
     intro j9 o9 hj9 e9
     rw [e9] at hD9 hd9
     refine iz (md hD9) ?_
     rintro a9 kv9 t9 dv9 n9 rfl hm10 hk10 hdv10
     have hft5:qh (H5.getD 0 .none)=ks.getD j9 .none:=by rw [List.getD_eq_getElem?_getD,hd9];rfl
     have N12:=tq8 N11 hm10
     clear N11
     ktr_unf
     k_extra "ay"
     k_extra "az"
     show aX _ _ _ _ _ _ _
     have hsnd:(bD (kk+1) ks ds n (i+1)).2=od+1:=by rw [hst2,hstT]
     refine dS.intro lF' lN' w5 n5 ((lX,oX)::(tl3++tl2)) (tq7 _ _ _ _ _ _ _) (aJ hI2 ?o1) ?o2 ⟨rfl,⟨_,rfl,?dt⟩,⟨_,by rw [hsnd];rfl⟩,rfl,?da⟩
     case o1 =>
      refine tq9 (Nat.ne_of_gt (hl9 _ (List.mem_append_right _ (.head _)))) (fun p hp=>Nat.ne_of_gt (hfr3 p hp _ (.head _))) hoff
     case o2 =>
      refine tq9 (Nat.ne_of_gt (hl9 _ (List.mem_append_right _ (.tail _ (.head _))))) (fun p hp=>Nat.ne_of_gt (hfr3 p hp _ (.tail _ (.head _)))) ho
     case dt =>
      rw [hst2,hstT]
      dsimp only
      rw [hft5]
      exact hk10.mono (A5 _ _ _ _)
     case da =>
      rw [hst2,hstT]
      exact hA5.mono (A5 _ _ _ _)
   · have hb':dlt (kk+1) (ks.getD (n+i) .none) (ks.getD j0 .none)=false:=by simpa using hb
     rw [hb']
     have hstT:fE (kk+1) ks ds (Hp,od) (n+i)=(Hp,od):=if_neg (by rw [hft];exact hb)
     ktr_unf
     k_extra "ay"
     k_extra "az"
     show aX _ _ _ _ _ _ _
     refine dS.intro lF' lN' w n1 (tl3++tl2) (Dc _ _ _ _ _) (aJ hI2 ?o1) ?o2 ⟨rfl,⟨_,rfl,?dt⟩,⟨_,by rw [hst2,hstT];rfl⟩,rfl,?da⟩
     case o1=>exact A4 (fun p hp=>Nat.ne_of_gt (hfr3 p hp _ (.head _))) hoff
     case o2=>exact A4 (fun p hp=>Nat.ne_of_gt (hfr3 p hp _ (.tail _ (.head _)))) ho
     case dt =>
      rw [hst2,hstT]
      dsimp only
      rw [hft]
      exact htop.mono (A3 _ _ _)
     case da =>
      rw [hst2,hstT]
      exact hA2.mono (A3 _ _ _)
  case doneQ =>
   intro m₁ w n1 tl2 h2 tk2 hr4q
   refine iB (hr4q) ?_
   (try clear hr4q);rintro hm1 ⟨tv,hm2,htop⟩ ⟨t3,hm3⟩ hm4 hA2
   intro ho F3 N3
   have F4:=aK F3 (x:=Str.ofString "result") hm1
   have hinv:=kT (k:=kk+1) hkl hn2 (ds.length - n) (by exact Nat.le_refl _)
   rw [hdl] at hA2
   have hwl:=hA2.length
   refine cA (hinv) ?_
   (try clear hinv);intro hiT hil hio
   generalize (bD (kk+1) ks ds n (ds.length - n)).1=HF at *
   clear F3 lF' N2
   ktr_unf
   k_extra "ay"
   show wpAny _ _ (call (.builtin "list.sort") [.ref D]) _ _ _
   refine xc (k:=kk+1) lF' N3 ho hA2 (fun p hp=>hp) hS3 (by exact zae [_,_] 1 (zn 2) qA [(1,qB,qA),(1,zn 2,qB)] rfl (zge hil) hn) (by exact zal [_,_,_] 1 qA (zn 64) [(1,qA,qB),(1,zu qB,qC),(1,zu qC,zn 60)] rfl (zle hil) hn2 hz) (by ktr_units) ?_
   intro us es c5 h5 F5 N5 hA5 hS5
   have hul:=hA5.length
   refine cH (id hS5) ?_
   intro pp hpp hpw hpe
   have hel:es.length=n:=by rw [hpe,List.length_map,hpp.length_eq,List.length_range];exact hil
   have hiT5:∀ a∈es,dQ ks ds a:=fun a ha=>by
    rw [hpe] at ha
    k_extra "bb"
    rintro i hi rfl
    have:=hpp.mem_iff.mp hi
    rw [List.mem_range] at this
    exact hiT _ (bL this)
   clear lF'
   dsimp only
   ktr_unf
   refine ⟨D,c5,_,us,_,fun i ys=>DatAll (tl2++(tl++(L'+1,oC')::(P,W.listOf ws.toArray c)::(kf,⟨foc,fod,.func ffd,fsl⟩)::news)) ys ((es.take i).map yz),rfl,F5,N5,.head _,rfl,rfl,by (exact zae [_,_,_,_] 1 qA (zn 100000) [(1,qB,qC),(1,qA,qB),(1,zu qC,qD),(1,zu qD,zn 60)] rfl (zle hel) (zle hul) hn2 hz),.nil,?hv,?turnT,?finT⟩
   case hv =>
    intro i v hv
    refine aE (DatAll.at hA5 hv) ?_
    intro d hd hdin
    refine aV (hiT5 _ (List.mem_of_getElem? hd)) ?_
    rintro j o hj rfl
    refine iz (md hdin) ?_
    rintro a8 kv8 t8 dv8 n8 rfl hm8 hk8 hdv8
    exact ⟨_,_,_,_,_,_,rfl,.tail _ hm8,rfl,rfl⟩
   case turnT =>
    intro g i ys t ot a b d nt hK hvs hmt hdt C oC D2 m₂ h7 tk7 E' hC hx1 hx2 hx3 F7 N7
    refine aE (DatAll.at hA5 hvs) ?_
    intro e he hdin
    refine aV (hiT5 _ (List.mem_of_getElem? he)) ?_
    rintro j o hj rfl
    refine iz (md hdin) ?_
    intro a8 kv8 t8 dv8 n8 hae hm8 hk8 hdv8
    cases hae
    have hob:=(N7 _ (.tail _ (.tail _ hmt))).1.symm.trans (N7 _ (.tail _ (.tail _ (.tail _ hm8)))).1
    cases Option.some.inj hob
    cases hdt
    ktr_unf
    try (refine ⟨_,rfl,?_⟩)
    dsimp only
    rw [List.take_add_one,he,List.map_append]
    exact DatAll.append hK (DatAll.one hdv8)
   case finT =>
    intro D2 ys h7 tk7 hK F7 N7 hlt7
    rw [hul,List.take_length] at hK
    change News _ _ _ ((D2,W.listOf ys.toArray ys.length)::_) at N7
    ktr_unf
    k_extra "ay"
    k_extra "az"
    refine ret D2 (_::_::(tl2++tl++[_])) es _ _ lF' (cb_drop lN' (C9 _ _ _ _ _ _)) hS5 (.list (.head _) (hK.mono (C8 _ _ _ _ _ _)))
end K
theorem sw:∀ v,sy v:=ch1 (l:=PL.drop 46) BB K.nsm3_c_m
theorem BA:Ch (PL.drop 46) oV:=ch2 (l:=PL.drop 46) BB sw
theorem Bd {kf:Addr} {foc:Value} {fod:Option Addr} {ffd:FuncData} {fsl:Array (Option Value)} {ws:List Value} {cold:List (Addr × Obj)} {ds:List Dat} {ks:List Dat} {tn:Tok} {kk:Nat}:sx w p loose mean mg mb news dp un gd env outer A₀ base h₀ L m s Q E P kf foc fod ffd fsl ws c cold ds ks n tn kk:=(sv w p loose mean mg mb news dp un gd env outer A₀ base h₀ L m s Q E P kf foc fod ffd fsl ws c cold ds ks n tn kk).2 fun g' L' h'=>sw { oV with w,p,loose,mean,mg,mb,news,dp,un,gd,env,outer,A₀,base,h₀,L,m,s,Q,E,q4:=P,q5:=kf,q43:=foc,q61:=fod,q62:=ffd,q63:=fsl,q9:=ws,q8:=c,q47:=cold,q48:=ds,q64:=ks,q23:=n,q26:=tn,q45:=kk,q27:=g',q3:=L',q28:=h' }
end
section
theorem fV {α:Type} {R : α → α→Prop}:∀ {l k:List α},l.Perm k→(∀ x∈l,∀ y∈l,R x y → ¬ R y x)→l.Pairwise R→k.Pairwise R→l=k
 | [],k,h,_,_,_=>(List.nil_perm.mp h).symm
 | a::l,[],h,_,_,_=>absurd h.length_eq (by simp)
 | a::l,b::k,h,hn,h1,h2=>by
  rw [List.pairwise_cons] at h1 h2
  have e:a=b:=by
   have ha:a∈b::k:=h.mem_iff.mp (.head _)
   have hb:b∈a::l:=h.mem_iff.mpr (.head _)
   rcases List.mem_cons.mp ha with e | ha
   · exact e
   · rcases List.mem_cons.mp hb with e | hb
     · exact e.symm
     · exact absurd (h1.1 b hb) (hn b (.tail _ hb) a (.head _) (h2.1 a ha))
  subst e
  rw [fV (List.perm_cons a |>.mp h) (fun x hx y hy=>hn x (.tail _ hx) y (.tail _ hy)) h1.2 h2.2]
section
variable {n:Nat} {lt:Nat→Nat→Bool}
theorem SB.asym (W:SWO n lt) {a b:Nat} (ha:a < n) (hb:b < n) (h:SB lt a b):¬ SB lt b a:=fun h'=>by
 rcases h' with h' | h'
 · rw [h.not W ha hb] at h';cases h'
 · rcases h with h | h
   · rw [h'.1] at h;cases h
   · exact Nat.lt_asymm h.2 h'.2
theorem SB.total {a b:Nat} (h:a≠b):SB lt a b∨SB lt b a:=by
 cases e:lt a b with
 | true=>exact .inl (.inl e)
 | false =>
  cases e':lt b a with
  | true=>exact .inr (.inl e')
  | false =>
   rcases Nat.lt_or_gt_of_ne h with q | q
   · exact .inl (.inr ⟨e',q⟩)
   · exact .inr (.inr ⟨e,q⟩)
theorem qL (W:SWO n lt) {a:Nat} (ha:a < n):∀ (q:List Nat),(∀ x∈q,x < n)→a ∉ q→q.Pairwise (SB lt) → ∃ q':List Nat,q'.Perm (a::q)∧q'.Pairwise (SB lt)
 | [],_,_,_=>⟨[a],.refl _,by simp⟩
 | b::q,h1,h2,h3=>by
  rw [List.pairwise_cons] at h3
  have hb:=h1 b (.head _)
  rcases SB.total (lt:=lt) (a:=a) (b:=b) (fun e=>h2 (e ▸ .head _)) with h | h
  · refine ⟨a::b::q,.refl _,?_⟩
    rw [List.pairwise_cons,List.pairwise_cons]
    refine ⟨fun x hx => ?_,h3⟩
    rcases List.mem_cons.mp hx with rfl | hx
    · exact h
    · exact h.trans W ha hb (h1 x (.tail _ hx)) (h3.1 x hx)
  · refine aE (qL W ha q (fun x hx=>h1 x (.tail _ hx)) (fun e=>h2 (.tail _ e)) h3.2) ?_
    intro q' hp hq
    refine ⟨b::q',((hp.cons b).trans (List.Perm.swap a b q)),?_⟩
    rw [List.pairwise_cons]
    refine ⟨fun x hx => ?_,hq⟩
    rcases List.mem_cons.mp (hp.mem_iff.mp hx) with rfl | hx
    · exact h
    · exact h3.1 x hx
theorem kO (W:SWO n lt):∀ (p:List Nat),(∀ x∈p,x < n)→p.Nodup → ∃ q:List Nat,q.Perm p∧q.Pairwise (SB lt)
 | [],_,_=>⟨[],.refl _,.nil⟩
 | a::p,h1,h2=>by
  rw [List.nodup_cons] at h2
  refine aE (kO W p (fun x hx=>h1 x (.tail _ hx)) h2.2) ?_
  intro q hp hq
  refine aE (qL W (h1 a (.head _)) q (fun x hx=>h1 x (.tail _ (hp.mem_iff.mp hx))) (fun e=>h2.1 (hp.mem_iff.mp e)) hq) ?_
  intro q' hp' hq'
  exact ⟨q',hp'.trans (hp.cons a),hq'⟩
theorem u2 (W:SWO n lt):∀ (j:Nat),j < n → ∀ i,i≤j→i≠bW lt j→SB lt (bW lt j) i
 | 0,_,i,hi,h=>absurd (by rw [bW];(exact Nat.le_antisymm (zae [_] 1 qA (zn 0) [(1,qA,zn 0)] rfl hi) (zae [_] 1 (zn 0) qA [] rfl))) h
 | j+1,hj,i,hi,h=>by
  have hm:=l7 lt j
  have ih:=u2 W j (by exact zal [_,_] 1 qB qA [(1,zu (zu qB),qA)] rfl hj)
  rw [bW] at h ⊢
  by_cases e:lt (j+1) (bW lt j)=true
  · rw [if_pos e] at h ⊢
    have h1:SB lt (j+1) (bW lt j) := .inl e
    by_cases h2:i=bW lt j
    · rw [h2];exact h1
    · exact h1.trans W hj (by exact zal [_,_,_] 1 qB qA [(1,qB,qC),(1,zu (zu qC),qA)] rfl hm hj) (by exact zal [_,_,_] 1 qB qA [(1,qB,zu qC),(1,zu (zu qC),qA)] rfl hi hj) (ih i (by exact zdi h2 (fun h09=>(zae [_,_,_] 1 qB qA [(1,qC,qA),(1,zu qB,qC)] rfl hm h09)) (fun h09=>(zdi h (fun h19=>(zae [_,_] 1 qB qA [(1,zu qB,zu qA)] rfl h19)) (fun h19=>(False.elim (zar [_,_] [(1,qA,zu qB),(1,zu (zu qB),qA)] rfl hi h19)))))) h2)
  · rw [if_neg e] at h ⊢
    by_cases h2:i=j+1
    · subst h2
      cases e':lt (bW lt j) (j+1) with
      | true=>exact .inl e'
      | false=>exact .inr ⟨by simpa using e,by (exact zal [_,_] 1 qB (zu qA) [(1,qB,qA)] rfl hm)⟩
    · exact ih i (by exact zdi h2 (fun h09=>(zae [_,_] 1 qB qA [(1,zu qB,zu qA)] rfl h09)) (fun h09=>(False.elim (zar [_,_] [(1,qA,zu qB),(1,zu (zu qB),qA)] rfl hi h09)))) h
end
theorem jk {k:Nat} {ks:List Dat} {p p':List Nat} (W:SWO ks.length (bC k ks)) (h1:p.Perm (List.range ks.length)) (h2:p.Pairwise (SB (bC k ks))) (h1':p'.Perm (List.range ks.length)) (h2':p'.Pairwise (SB (bC k ks))):p=p' :=
 fV (h1.trans h1'.symm) (fun x hx y hy=>SB.asym W (List.mem_range.mp (h1.mem_iff.mp hx)) (List.mem_range.mp (h1.mem_iff.mp hy))) h2 h2'
theorem rt {k:Nat} {ks ds es es':List Dat} (W:SWO ks.length (bC k ks)) (h1:bB k ks ds es) (h2:bB k ks ds es'):es=es':=by
 refine cH (h1) ?_
 (try clear h1);rintro p a b rfl
 refine cH (h2) ?_
 (try clear h2);rintro p' a' b' rfl
 rw [jk W a b a' b']
theorem qK {k:Nat} {ks:List Dat} (ds:List Dat) (W:SWO ks.length (bC k ks)):∃ es,bB k ks ds es:=by
 refine aE (kO W (List.range ks.length) (fun x hx=>List.mem_range.mp hx) List.nodup_range) ?_
 intro q h1 h2
 exact ⟨_,q,h1,h2,rfl⟩
theorem An {k:Nat} {ks ds es:List Dat} (W:SWO ks.length (bC k ks)) (hl:ks.length=ds.length) (h0 : 0 < ds.length) (h:bB k ks ds es):es.take 1=[ds.getD (bW (bC k ks) (ds.length - 1)) .none]:=by
 refine cH (h) ?_
 (try clear h);rintro p h1 h2 rfl
 have hm:=l7 (bC k ks) (ds.length - 1)
 have hmp:bW (bC k ks) (ds.length - 1)∈p:=h1.mem_iff.mpr (List.mem_range.mpr (by exact zal [_,_,_,_] 1 qB qA [(1,qB,qC),(1,qD,qA),(1,zu qC,qD)] rfl hm (zge hl) (zs3 (zae [_] 1 (zn 1) qA [(1,zu (zn 0),qA)] rfl h0))))
 cases p with
 | nil=>exact nomatch hmp
 | cons a p =>
  rw [List.pairwise_cons] at h2
  have ha:a < ks.length:=List.mem_range.mp (h1.mem_iff.mp (.head _))
  have e:a=bW (bC k ks) (ds.length - 1):=by
   rcases List.mem_cons.mp hmp with e | hmp
   · exact e.symm
   · by_cases q:a=bW (bC k ks) (ds.length - 1)
     · exact q
     · exact absurd (h2.1 _ hmp) (SB.asym W (by exact zal [_,_,_,_] 1 qB qA [(1,qB,qC),(1,qD,qA),(1,zu qC,qD)] rfl hm (zge hl) (zs3 (zae [_] 1 (zn 1) qA [(1,zu (zn 0),qA)] rfl h0))) ha (u2 W (ds.length - 1) (by exact zal [_,_,_] 1 qB qA [(1,qC,qA),(1,zu qB,qC)] rfl (zge hl) (zs3 (zae [_] 1 (zn 1) qA [(1,zu (zn 0),qA)] rfl h0))) a (by exact zae [_,_,_,_] 1 qB qA [(1,zu qB,qC),(1,qC,qD),(1,qD,zu qA)] rfl ha (zle hl) (zs2 _ _)) q))
  rw [← e];rfl
end
section
theorem qu (y:Str):Txt.startswith y (Str.ofString "/")=decide ((cp y).head? = some 47):=by
 unfold Txt.startswith
 rw [StrLaws.subAt_eq]
 k_extra "f2"
 k_extra "e8"
 have e3:=dM y
 rw [e1,e2,← e3]
 show (decide (0+1≤(cp y).length) && (((cp y).drop 0).take 1 == [47]))=_
 cases h:cp y with
 | nil=>simp
 | cons a r=>by_cases ha:a=47 <;> simp [ha]
theorem AK (x:Str):Txt.endswith x (Str.ofString "/")=decide ((cp x).getLast? = some 47):=by
 unfold Txt.endswith
 rw [StrLaws.subAt_eq]
 k_extra "f2"
 k_extra "e8"
 have e3:=dM x
 rw [e1,e2,← e3]
 show (decide (0+1≤(cp x).length) && (((cp x).drop ((cp x).length - 1)).take 1 == [47]))=_
 rcases List.eq_nil_or_concat (cp x) with h | ⟨l,a,h⟩
 · rw [h];simp
 · rw [h,List.concat_eq_append];by_cases ha:a=47 <;> simp [ha]
theorem fQ (x y:Str) (hy:(cp y).head? ≠ some 47):cp (aG x y)=if cp x=[] then cp y else if (cp x).getLast? = some 47 then cp x++cp y else cp x++47::cp y:=by
 unfold aG
 rw [qu,AK]
 have e3:=dM x
 rw [if_neg (by simpa using hy)]
 by_cases h:cp x=[]
 · rw [if_pos h,if_pos (by rw [← e3,h];rfl)]
 · rw [if_neg h,if_neg (by rw [← e3];simpa using h)]
   by_cases h2:(cp x).getLast? = some 47
   · rw [if_pos h2,if_pos (by simpa using h2),dF]
   · rw [if_neg h2,if_neg (by simpa using h2),dF,dF,cU];rfl
theorem rg {s c:Nat}:∀ {l:List (List Nat)},c∈bE s l→c=s ∨ ∃ a∈l,c∈a
 | [],h=>nomatch h
 | [a],h => .inr ⟨a,.head _,h⟩
 | a::b::r,h=>by
  simp only [bE,List.mem_append,List.mem_cons] at h
  rcases h with h | h | h
  · exact .inr ⟨a,.head _,h⟩
  · exact .inl h
  · rcases rg h with h | ⟨x,hx,h⟩
    · exact .inl h
    · exact .inr ⟨x,.tail _ hx,h⟩
theorem qW {s c:Nat}:∀ {l:List (List Nat)} {a:List Nat},a∈l→c∈a→c∈bE s l
 | [a],_,h,hc=>by rw [List.mem_singleton] at h;subst h;exact hc
 | a::b::r,x,h,hc=>by
  simp only [bE,List.mem_append,List.mem_cons]
  k_extra "gb"
  · exact .inl hc
  · exact .inr (.inr (qW h hc))
theorem iS (x:Str):Txt.join (Str.ofString "/") (Txt.split x (Str.ofString "/"))=x:=by
 have h1:=StrLaws.join_split x (Str.ofString "/")
 have e:∀ k,Txt.join (Str.ofString "/") k=Str.join (Str.ofString "/") k:=fun k=>by
  show PySem.Builtin.Str.glued _ _=_
  rw [StrLaws.glued_eq_join]
 rw [e,h1]
theorem wE {x q:Str} (h:q∈Txt.split x (Str.ofString "/")):∀ c∈cp q,c∈cp x:=fun c hc=>by
 have h1:=congrArg cp (iS x)
 rw [bY] at h1
 rw [← h1]
 exact qW (List.mem_map.mpr ⟨q,h,rfl⟩) hc
theorem oG:∀ (l acc:List Str),∀ a∈l.foldl bU acc,a∈acc∨a∈l
 | [],acc,a,h => .inl h
 | c::l,acc,a,h=>by
  rw [List.foldl_cons] at h
  rcases oG l _ a h with h | h
  · unfold bU at h
    split at h
    · exact .inl h
    · split at h
      · exact .inl h
      · split at h
        · exact .inl (List.dropLast_subset _ h)
        · rcases List.mem_append.mp h with h | h
          · exact .inl h
          · rw [List.mem_singleton.mp h];exact .inr (.head _)
  · exact .inr (.tail _ h)
theorem Aj (x:Str):cp (bZ x)=47::bE 47 ((dW (Txt.split (Txt.slice x (some 1) none) (Str.ofString "/"))).map cp):=by
 unfold bZ
 rw [dF,cU,bY];rfl
theorem Ah {x:Str} (h1 : 1≤x.length) (h:PyData.strOk x=true):PyData.strOk (bZ x)=true:=by
 rw [cE] at h ⊢
 rw [Aj]
 intro c hc
 rcases List.mem_cons.mp hc with rfl | hc
 · decide
 · k_extra "d1"
   · decide
   · k_extra "bb"
     rintro q hq rfl
     rcases oG _ _ q hq with hq | hq
     · exact nomatch hq
     · have:=wE hq c hc
       rw [show (1:Int)=((1:Nat):Int) from rfl,eS h1] at this
       exact h c (List.mem_of_mem_drop this)
noncomputable def GR (x:Str):Prop:=PyData.strOk x=true∧(cp x).head? ≠ some 47
theorem AJ {x y:Str} (hx:GR x) (hy:GR y):GR (aG x y):=by
 unfold GR at *
 rw [cE] at *
 rw [fQ x y hy.2]
 split
 · exact hy
 · rename_i hn
   have hh:∀ r,(cp x++r).head? = (cp x).head? := fun r=>by
    cases h:cp x with
    | nil=>exact absurd h hn
    | cons a b=>rfl
   split
   · exact ⟨fun c hc=>(List.mem_append.mp hc).elim (hx.1 c) (hy.1 c),by rw [hh];exact hx.2⟩
   · refine ⟨fun c hc=>(List.mem_append.mp hc).elim (hx.1 c) fun h => ?_,by rw [hh];exact hx.2⟩
     k_extra "gb"
     · decide
     · exact hy.1 c h
theorem zh {start t:Str} {r:List Nat} (h:cp start=47::46::r) (hok:PyData.strOk start=true) (ht:GR t) :
 ((aG start t).length:Int)≠0∧(Txt.slice (aG start t) none (some 1) != Str.ofString "/")=false∧(Txt.slice (aG start t) (some 1) (some 2) != Str.ofString "/")=true∧PyData.strOk (bZ (aG start t))=true:=by
 have e:∃ r',cp (aG start t)=47::46::r':=by
  rw [fQ _ _ ht.2,h]
  split
  · rename_i h;cases h
  · split
    · exact ⟨_,rfl⟩
    · exact ⟨_,rfl⟩
 have ok2:PyData.strOk (aG start t)=true:=by
  rw [cE] at *
  rw [fQ _ _ ht.2]
  have h1:=(cE t).mp ht.1
  split
  · exact h1
  · split
    · exact fun c hc=>(List.mem_append.mp hc).elim (hok c) (h1 c)
    · refine fun c hc=>(List.mem_append.mp hc).elim (hok c) fun h => ?_
      k_extra "gb"
      · decide
      · exact h1 c h
 refine bA (e) ?_
 (try clear e);intro r' e
 have hr:=oB e (by decide)
 refine ⟨hr.1,hr.2.1,hr.2.2.1,Ah ?_ ok2⟩
 rw [← dM,e];simp
end
section
noncomputable def aB (l:List Str):Str:=Str.ofString "/" ++ Txt.join (Str.ofString "/") l
theorem eZ (l:List Str):cp (aB l)=47::bE 47 (l.map cp):=by
 unfold aB
 rw [dF,cU,bY];rfl
theorem nY (x:Str) (i:Nat):StrLaws.At x (Str.ofString "/") x.length i ↔ (cp x)[i]? = some 47:=by
 unfold StrLaws.At
 rw [StrLaws.subAt_eq]
 k_extra "f2"
 k_extra "e8"
 have e3:=dM x
 rw [e1,e2,← e3]
 show (i+1≤(cp x).length∧(((cp x).drop i).take 1 == [47])=true) ↔ _
 rw [← List.head?_drop]
 cases h:(cp x).drop i with
 | nil=>simp
 | cons a r =>
  have h2:i < (cp x).length:=by
   have:=congrArg List.length h
   rw [List.length_drop,List.length_cons] at this
   k_extra "l"
  constructor
  · intro hr1q
    refine bV (hr1q) ?_
    (try clear hr1q);intro _ q
    simpa using q
  · intro q
    refine ⟨h2,by simpa using q⟩
theorem sk {x:Str} {u v:List Nat} (h:cp x=u++47::v) (hv : 47 ∉ v):Txt.rfind x (Str.ofString "/")=(u.length:Int):=by
 unfold Txt.rfind
 have h0:(cp x)[u.length]? = some 47:=by rw [h];simp
 rcases StrLaws.last_spec x (Str.ofString "/") with ⟨e,hn⟩ | ⟨i,e,hi,hk⟩
 · exact absurd ((nY x _).mpr h0) (hn _)
 · rw [e]
   show (i:Int)=_
   have h1:=(nY x i).mp hi
   have h2:¬ i < u.length:=fun q=>hk _ q ((nY x _).mpr h0)
   by_cases h3:u.length < i
   · rw [h,List.getElem?_append_right (by exact zae [_,_] 1 qB qA [(1,zu qB,qA)] rfl h3)] at h1
     refine bA (⟨i - u.length - 1,by (exact Nat.le_antisymm (zae [_,_,_,_] 1 qC (zp qA (zu qB)) [(1,qC,zp qD qA),(1,qD,zu qB)] rfl (zs2 _ _) (zs2 _ _)) (zae [_,_,_,_] 1 (zp qB (zu qC)) qA [(1,zp qD qB,qA),(1,zu qC,qD)] rfl (zs3 (zae [_,_] 1 qB qA [(1,zu qB,qA)] rfl h3)) (zs3 (zae [_,_,_] 1 (zn 1) qA [(1,zu qB,qC),(1,qC,zp qA qB)] rfl h3 (zs2 _ _)))))⟩:∃ j,i=u.length+(j+1)) ?_
     rintro j rfl
     rw [Nat.add_sub_cancel_left,List.getElem?_cons_succ] at h1
     exact absurd (List.mem_of_getElem? h1) hv
   · (exact zmq (Nat.le_antisymm (zae [_,_] 1 qB qA [(1,qB,qA)] rfl (zne h3)) (zae [_,_] 1 qB qA [(1,qB,qA)] rfl (zne h2))))
theorem vj {x:Str} {u v:List Nat} (h:cp x=u++47::v) (hv : 47 ∉ v):cp (bJ x)=v:=by
 unfold bJ
 rw [sk h hv]
 k_extra "f8"
 rw [show ((u.length:Int)+1)=((u.length+1:Nat):Int) by (exact zmq (Nat.le_antisymm (Nat.le_refl _) (Nat.le_refl _))),eS (by exact zae [_,_,_] 1 (zu qB) qA [(1,zp qB (zu qC),qA)] rfl (zge hl)),h]
 simp
theorem AI {x:Str} {u v:List Nat} (h:cp x=u++47::v) (hv : 47 ∉ v):cp (cM x)=u++[47]:=by
 unfold cM
 rw [sk h hv]
 k_extra "f8"
 rw [show ((u.length:Int)+1)=((u.length+1:Nat):Int) by (exact zmq (Nat.le_antisymm (Nat.le_refl _) (Nat.le_refl _))),nc (by exact zae [_,_,_] 1 (zu qB) qA [(1,zp qB (zu qC),qA)] rfl (zge hl)),h,show u++47::v=(u++[47])++v by simp]
 exact List.take_left' (by simp)
theorem w7 (n:Nat):∀ c∈cp (Txt.mul (Str.ofString "/") (n:Int)),c=47:=by
 intro c hc
 unfold Txt.mul at hc
 split at hc
 · simp [Str.empty,cp] at hc
 · split at hc
   · rw [cU] at hc;simpa using hc
   · have:∀ (l:List (Array Nat)) (a:Array Nat),(∀ y∈l,∀ c∈y.toList,c=47)→(∀ c∈a.toList,c=47) → ∀ c∈(l.foldl (· ++ ·) a).toList,c=47:=by
      intro l
      induction l with
      | nil=>exact fun a _ h=>h
      | cons y l ih =>
       intro a h1 h2
       rw [List.foldl_cons]
       refine ih _ (fun z hz=>h1 z (.tail _ hz)) fun c hc => ?_
       rw [Array.toList_append] at hc
       exact (List.mem_append.mp hc).elim (h2 c) (h1 y (.head _) c)
     refine this _ #[] (fun y hy c hc => ?_) (fun c h=>nomatch h) c hc
     rw [(List.mem_replicate.mp hy).2] at hc
     have:=cU
     unfold cp at this
     rw [this] at hc
     simpa using hc
theorem sj {x:Str} {u:List Nat} (h:cp x=u++[47]) (hu:u.getLast? ≠ some 47):cp (Txt.rstripChars x (Str.ofString "/"))=u:=by
 unfold Txt.rstripChars
 rw [PyProof.Rows.stripBy_eq]
 show ((PySem.Builtin.Str.strSub x 0 (stripHi _ true x 0)).cps).toList=u
 rw [StrLaws.strSub_toList]
 have e2:(Str.ofString "/").cps = #[47]:=by decide
 unfold stripHi
 have e3:x.cps.toList=u++[47]:=h
 have hl:x.length=u.length+1:=by rw [← dM,h];simp
 rw [if_pos rfl,e2,e3,List.drop_zero,List.reverse_append,hl]
 have e4:([47].reverse++u.reverse).takeWhile ((#[47]:Array Nat).contains ·)=[47]:=by
  rcases List.eq_nil_or_concat u with h | ⟨l,a,h⟩
  · rw [h];simp
  · subst h
    rw [List.concat_eq_append] at hu ⊢
    have ha:a≠47:=by simpa using hu
    simp [List.takeWhile_cons,ha]
 rw [show (fun c=>(#[47]:Array Nat).contains c)=((#[47]:Array Nat).contains ·) from rfl] at *
 rw [e4]
 simp
theorem xR {x:Str} {u v:List Nat} (h:cp x=u++47::v) (hv : 47 ∉ v) (hu:u.getLast? ≠ some 47):cp (aR x)=if u=[] then [47] else u:=by
 have hh:=AI h hv
 unfold aR
 have hl:(cM x).length=u.length+1:=by rw [← dM,hh];simp
 rw [if_neg (by exact Nat.ne_of_gt (zal [_,_] 1 (zn 0) qA [(1,zu qB,qA)] rfl (zge hl)))]
 by_cases he:u=[]
 · subst he
   rw [if_pos rfl]
   have e:cM x=Str.ofString "/" := cT (by rw [hh,cU];rfl)
   rw [e]
   have e1:(if (Str.ofString "/" != Txt.mul (Str.ofString "/") ((Str.ofString "/").length:Int))=true then Txt.rstripChars (Str.ofString "/") (Str.ofString "/") else Str.ofString "/")=Str.ofString "/" := by decide
   rw [e1]
   exact cU
 · rw [if_neg he]
   have ne:cM x≠Txt.mul (Str.ofString "/") ((cM x).length:Int):=fun e=>by
    have h1:=w7 (cM x).length
    rw [← e,hh] at h1
    rcases List.eq_nil_or_concat u with h | ⟨l,a,h⟩
    · exact he h
    · subst h
      rw [List.concat_eq_append] at *
      have ha:a≠47:=by simpa using hu
      exact ha (h1 a (by simp))
   rw [if_pos (by simpa using ne)]
   exact sj hh hu
theorem gQ {s:Nat}:∀ {l:List (List Nat)} {a:List Nat},l≠[]→bE s (l++[a])=bE s l++s::a
 | [],_,h=>absurd rfl h
 | [b],a,_=>rfl
 | b::c::r,a,_=>by
  have:=gQ (s:=s) (l:=c::r) (a:=a) (by simp)
  show b++s::bE s ((c::r)++[a])=(b++s::bE s (c::r))++s::a
  rw [this];simp
theorem qP (l:List Str) (a:Str):cp (aB (l++[a]))=(if l=[] then [] else cp (aB l))++47::cp a:=by
 rw [eZ,eZ,List.map_append]
 cases l with
 | nil=>rfl
 | cons b r =>
  rw [if_neg (by simp),show [a].map cp=[cp a] from rfl,gQ (by simp)];simp
theorem iE (l:List Str) {a:Str} (ha:SF a):bJ (aB (l++[a]))=a:=cT (vj (qP l a) ha)
theorem yj:bJ (aB [])=Str.ofString "" := by
 have e:aB []=Str.ofString "/" := by decide
 have e2:cp (Str.ofString "")=[]:=by decide
 exact cT (by rw [e,e2];exact vj (u:=[]) (v:=[]) cU (by simp))
theorem jw {s:Nat}:∀ {l:List (List Nat)},(∀ a∈l,a≠[]∧s ∉ a)→(bE s l).getLast? ≠ some s
 | [],_=>by simp [bE]
 | [a],h=>fun e=>(h a (.head _)).2 (List.mem_of_getLast? e)
 | a::b::r,h=>by
  have ih:=jw (l:=b::r) fun x hx=>h x (.tail _ hx)
  have ne:bE s (b::r)≠[]:=by
   cases r with
   | nil=>exact (h b (.tail _ (.head _))).1
   | cons c r=>simp [bE]
  show (a++s::bE s (b::r)).getLast? ≠ some s
  rw [List.getLast?_append,List.getLast?_cons]
  cases hj:(bE s (b::r)).getLast? with
  | none=>exact absurd (List.getLast?_eq_none_iff.mp hj) ne
  | some y=>rw [hj] at ih;simpa using ih
theorem wQ {l:List Str} (hne:l≠[]) (h:∀ a∈l,a≠Str.ofString "" ∧ SF a):(cp (aB l)).getLast? ≠ some 47:=by
 rw [eZ,List.getLast?_cons]
 have h1:=jw (s:=47) (l:=l.map cp) fun x hx=>by
  k_extra "gu"
  rintro a ha rfl
  refine ⟨fun e=>(h a ha).1 (cT ?_),(h a ha).2⟩
  rw [e];decide
 have ne:bE 47 (l.map cp)≠[]:=by
  cases l with
  | nil=>exact absurd rfl hne
  | cons a r=>cases r with
   | nil =>
    intro e
    refine (h a (.head _)).1 (cT ?_)
    rw [show cp a=[] from e];decide
   | cons b r=>simp [bE]
 cases hj:(bE 47 (l.map cp)).getLast? with
 | none=>exact absurd (List.getLast?_eq_none_iff.mp hj) ne
 | some y=>rw [hj] at h1;simpa using h1
theorem nV {l:List Str} {a:Str} (ha:SF a) (h:∀ b∈l,b≠Str.ofString "" ∧ SF b):aR (aB (l++[a]))=aB l:=by
 apply cT
 rw [xR (qP l a) ha]
 · by_cases hl:l=[]
   · subst hl
     rw [if_pos rfl,eZ];rfl
   · rw [if_neg hl,if_neg]
     rw [eZ];simp
 · by_cases hl:l=[]
   · rw [if_pos hl];simp
   · rw [if_neg hl];exact wQ hl h
theorem zw:aR (aB [])=aB []:=by
 have e:aB []=Str.ofString "/" := by decide
 apply cT
 rw [e,xR (u:=[]) (v:=[]) cU (by simp) (by simp),cU];rfl
end
section
section
variable {prog:Program} {w:World} {A:Around} {E:Value→Shared→Prop} {s:Shared} {h₀:Heap} {L:Addr} {news n₁ n₂:List (Addr × Obj)} {v u:Value} {d e:Dat} {Q:Value→Shared→Prop}
theorem uY (N:News h₀ L s.heap news) (Da:DatIn n₁ v d) (sa:∀ p∈n₁,p∈news) (Db:DatIn n₂ u e) (sb:∀ p∈n₂,p∈news) (ha:kqdOk 8 d=true) (hb:kqdOk 8 e=true) (hu:A.units+64 < cLine)
 (he:d=e) (h:Q (.bool false) s):wpAny (model prog w) A (compareOp .NotEq v u) Q E s:=by
 refine bA (kqd_in N 8 (Da.mono sa) ha) ?_
 intro as ra
 refine bA (kqd_in N 8 (Db.mono sb) hb) ?_
 intro bs rb
 have la:=kqd_lay 8 d ha
 have lb:=kqd_lay 8 e hb
 k_extra "f3"
 refine ne_dataH ra rb ?_ ?_ hu (by rw [q];exact h)
 · k_extra "em"
 · k_extra "en"
theorem vh (N:News h₀ L s.heap news) (Da:DatIn n₁ v d) (sa:∀ p∈n₁,p∈news) (Db:DatIn n₂ u e) (sb:∀ p∈n₂,p∈news) (ha:kqdOk 8 d=true) (hb:kqdOk 8 e=true) (hu:A.units+64 < cLine)
 (he:d=e) (h:Q (.bool true) s):wpAny (model prog w) A (compareOp .Eq v u) Q E s:=by
 refine bA (kqd_in N 8 (Da.mono sa) ha) ?_
 intro as ra
 refine bA (kqd_in N 8 (Db.mono sb) hb) ?_
 intro bs rb
 have la:=kqd_lay 8 d ha
 have lb:=kqd_lay 8 e hb
 k_extra "f3"
 refine eq_dataH ra rb ?_ ?_ hu (by rw [q];exact h)
 · k_extra "em"
 · k_extra "en"
end
theorem eY {l:List Str} (h:∀ a∈l,Nm a):PyData.strOk (aB l)=true:=by
 rw [cE,eZ]
 intro c hc
 rcases List.mem_cons.mp hc with rfl | hc
 · decide
 · k_extra "d1"
   · decide
   · k_extra "bb"
     rintro q hq rfl
     exact (cE q).mp (h q hq).ok c hc
theorem jo {l:List Str} (h:∀ a∈l,Nm a) (h3:l.length≤3):(aB l).length≤13:=by
 have h1:wt l≤l.length * 4:=n0 fun y hy=>(h y hy).len
 have h2:(Txt.join (Str.ofString "/") l).length≤wt l:=mc (by decide) _
 have h3:(Str.ofString "/").length=1:=by decide
 unfold aB
 rw [Str.length_append];k_extra "l"
theorem CB {a:Str} (h:Nm a):GR a:=by
 refine ⟨h.ok,fun e=>h.sf ?_⟩
 cases hc:cp a with
 | nil=>rw [hc] at e;cases e
 | cons x r=>rw [hc] at e;rw [Option.some.inj e];exact .head _
theorem nM:GR (Str.ofString ""):=by
 have e:cp (Str.ofString "")=[]:=by decide
 refine ⟨by decide +kernel,by rw [e];simp⟩
theorem rN:GR (Str.ofString ".."):=by
 have e:cp (Str.ofString "..")=[46,46]:=by decide
 refine ⟨by decide +kernel,by rw [e];simp⟩
theorem AP {l:List Str} (h:∀ a∈l,Nm a):GR (bJ (aB l)):=by
 k_extra "d8"
 · rw [h2,yj];exact nM
 · rw [List.concat_eq_append] at h2
   subst h2
   have ha:=h a (by simp)
   rw [iE r ha.sf];exact CB ha
theorem zW (n:Int):PyData.strOk (aO n)=true:=by
 rw [cE,qs,bY]
 intro c hc
 k_extra "d1"
 · decide
 · k_extra "bb"
   rintro q hq rfl
   k_extra "c9"
   · exact nomatch hc
   · k_extra "c9"
     · have e:cp (Str.ofString ".")=[46]:=by decide
       rw [e] at hc
       rw [List.mem_singleton.mp hc];decide
     · k_extra "e3"
       rintro p _ rfl
       exact (cE _).mp (jm (nC n p)).2.1 c hc
theorem fX {home l:List Str} (h:∀ a∈l,Nm a):PyData.strOk (cN home l)=true:=by
 unfold cN
 rw [cE,bY]
 intro c hc
 k_extra "d1"
 · decide
 · k_extra "bb"
   rintro q hq rfl
   rcases List.mem_append.mp hq with hq | hq
   · rw [(List.mem_replicate.mp hq).2] at hc
     exact (cE _).mp rN.1 c hc
   · exact (cE q).mp (h q (List.mem_of_mem_drop hq)).ok c hc
theorem sp {tr:List (List Str)} (h:∀ l∈tr,(∀ a∈l,Nm a)∧l.length≤3):∀ q∈tr.map aB,GR (bJ q)∧q.length≤100∧PyData.strOk q=true:=fun q hq=>by
 k_extra "e3"
 rintro l hl rfl
 have h1:=h l hl
 exact ⟨AP h1.1,Nat.le_trans (jo h1.1 h1.2) (by decide),eY h1.1⟩
theorem yC (n:Int) (t:Str) (ht:GR t):((aG (aO n) t).length:Int)≠0∧(Txt.slice (aG (aO n) t) none (some 1) != Str.ofString "/")=false∧(Txt.slice (aG (aO n) t) (some 1) (some 2) != Str.ofString "/")=true∧PyData.strOk (bZ (aG (aO n) t))=true:=by
 refine bA (l0 n) ?_
 intro r h
 exact zh h (zW n) ht
end
section
theorem pH {h₀ h:Heap} {L:Addr} {led tl:List (Addr × Obj)} {t:Addr × Obj} (N:News h₀ L h led) (hb:t∈led) (ht:∀ p∈tl,p∈led) (hbd:∀ xs n,t.2.data ≠ .seq xs n) :
 ∃ tl',(∀ p∈tl',p∈tl)∧(∀ p∈tl',p.1≠t.1)∧(∀ vs ds,DatAll tl vs ds→DatAll tl' vs ds)∧(∀ v d,DatIn tl v d→DatIn tl' v d):=by
 have key:∀ p∈tl,(∃ xs n,p.2.data = .seq xs n)→p∈tl.filter (fun p=>decide (p.1≠t.1)):=fun p hp hs=>by
  refine List.mem_filter.mpr ⟨hp,decide_eq_true fun e => ?_⟩
  refine pD (hs) ?_
  (try clear hs);intro xs n hx
  have h1:=(N _ (ht _ hp)).1
  have h2:=(N _ hb).1
  rw [e,h2] at h1
  have:=Option.some.inj h1
  exact hbd xs n (by rw [this];exact hx)
 exact ⟨tl.filter (fun p=>decide (p.1≠t.1)),fun p hp=>(List.mem_filter.mp hp).1,fun p hp=>by simpa using (List.mem_filter.mp hp).2,fun vs ds hD=>nb key hD,fun v d hD=>we key hD⟩
theorem oA {h₀ h:Heap} {L:Addr} {led:List (Addr × Obj)} {t p:Addr × Obj} (N:News h₀ L h led) (ht:t∈led) (hp:p∈led) (hbd:∀ xs n,t.2.data ≠ .seq xs n) {xs:Array Value} {n:Nat} (hx:p.2.data = .seq xs n):p.1≠t.1:=fun e=>by
 have h1:=(N _ hp).1
 have h2:=(N _ ht).1
 rw [e,h2] at h1
 have:=Option.some.inj h1
 exact hbd xs n (by rw [this];exact hx)
theorem fmc {α:Type} {P : α→Prop} {a : α} {l:List α} (h:P a) (k:∀ p∈l,P p):∀ p∈a::l,P p:=List.forall_mem_cons.mpr ⟨h,k⟩
theorem zF {α:Type} {a b:List α} (l:List α) (h:∀ p∈a,p∈b):∀ p∈l++a,p∈l++b:=fun p hp=>(List.mem_append.mp hp).elim (List.mem_append_left _) (fun k=>List.mem_append_right _ (h p k))
theorem ln1 {α:Type} (Q P S T c3 c2 c1 R X H t : α) (tq t3 t2:List α):∀ p∈Q::P::S::T::c3::c2::c1::(tq++(t3++t2)),p∈[]++Q::(tq++P::S::c3::c2::c1::R::T::X::H::(t3++(t2++[t]))):=bP [[_],[_],[_],[_],[_],[_],[_],_,_,_,[_],[_],[_],[_]] (zp qA (zp qB (zp qC (zp qD (zp qE (zp qF (zp qG (zp qH (zp qI qJ))))))))) (zp (zn 0) (zp qA (zp qH (zp qB (zp qC (zp qE (zp qF (zp qG (zp (.var 10) (zp qD (zp (.var 11) (zp (.var 12) (zp qI (zp qJ (.var 13))))))))))))))) rfl
theorem ln2 {α:Type} (Q P S T c3 c2 c1 R X H t : α) (tq t3 t2:List α):∀ p∈tq++(t3++t2),p∈[]++Q::(tq++P::S::c3::c2::c1::R::T::X::H::(t3++(t2++[t]))):=bP [_,_,_,[_],[_],[_],[_],[_],[_],[_],[_],[_],[_],[_]] (zp qA (zp qB qC)) (zp (zn 0) (zp qD (zp qA (zp qE (zp qF (zp qG (zp qH (zp qI (zp qJ (zp (.var 10) (zp (.var 11) (zp (.var 12) (zp qB (zp qC (.var 13))))))))))))))) rfl
theorem ln3 {α:Type} (Q P S T c3 c2 c1 R X H t : α) (tq t3 t2:List α):t∈[]++Q::(tq++P::S::c3::c2::c1::R::T::X::H::(t3++(t2++[t]))):=fB (i:=13) (ls:=[[_],_,[_],[_],[_],[_],[_],[_],[_],[_],[_],_,_,[_]]) (zp (zn 0) (zp qA (zp qB (zp qC (zp qD (zp qE (zp qF (zp qG (zp qH (zp qI (zp qJ (zp (.var 10) (zp (.var 11) (zp (.var 12) (.var 13))))))))))))))) rfl _ (.head _)
theorem ln4 {α:Type} (P f c t N S T c3 c2 c1 : α) (nw r:List α):∀ p∈P::N::S::T::c3::c2::c1::(nw++P::f::c::t::N::S::T::c3::c2::c1::r),p∈nw++P::f::c::t::N::S::T::c3::c2::c1::r:=bP [[_],[_],[_],[_],[_],[_],[_],_,[_],[_],[_],_] (zp qA (zp qB (zp qC (zp qD (zp qE (zp qF (zp qG (zp qH (zp qA (zp qI (zp qJ (zp (.var 10) (zp qB (zp qC (zp qD (zp qE (zp qF (zp qG (.var 11))))))))))))))))))) (zp qH (zp qA (zp qI (zp qJ (zp (.var 10) (zp qB (zp qC (zp qD (zp qE (zp qF (zp qG (.var 11)))))))))))) rfl
theorem ln5 {α:Type} (P f c t N S T c3 c2 c1 : α) (nw r:List α):∀ p∈r,p∈nw++P::f::c::t::N::S::T::c3::c2::c1::r:=bP [_,_,[_],[_],[_],[_],[_],[_],[_],[_],[_],[_]] qA (zp qB (zp qC (zp qD (zp qE (zp qF (zp qG (zp qH (zp qI (zp qJ (zp (.var 10) (zp (.var 11) qA))))))))))) rfl
theorem ln6 {α:Type} (P f c t N S T c3 c2 c1 : α) (nw r:List α):t∈nw++P::f::c::t::N::S::T::c3::c2::c1::r:=fB (i:=4) (ls:=[_,[_],[_],[_],[_],[_],[_],[_],[_],[_],[_],_]) (zp qA (zp qB (zp qC (zp qD (zp qE (zp qF (zp qG (zp qH (zp qI (zp qJ (zp (.var 10) (.var 11)))))))))))) rfl _ (.head _)
namespace K
namespace V1
theorem law_norm1_m:mO h₀ L h lQ lP lS lT vQ vP vS vT nQ nP nS nT c3 c2 c1 R X H t tq t3 t2 dsQ dsS dsT:=by
 intro N hbd n3 n2 n1 aQ aS aT
 have mt:=ln3 (lQ,W.listOf vQ.toArray nQ) (lP,W.listOf vP.toArray nP) (lS,W.listOf vS.toArray nS) (lT,W.listOf vT.toArray nT) c3 c2 c1 R X H t tq t3 t2
 refine pE (pH (tl:=tq++(t3++t2)) N mt (ln2 _ _ _ _ _ _ _ _ _ _ _ _ _ _) hbd) ?_
 intro tl h1 h2 h3 h4
 have sub:∀ p∈(lQ,W.listOf vQ.toArray nQ)::(lP,W.listOf vP.toArray nP)::(lS,W.listOf vS.toArray nS)::(lT,W.listOf vT.toArray nT)::c3::c2::c1::tl,p∈([]++(lQ,W.listOf vQ.toArray nQ)::(tq++(lP,W.listOf vP.toArray nP)::(lS,W.listOf vS.toArray nS)::c3::c2::c1::R::(lT,W.listOf vT.toArray nT)::X::H::(t3++(t2++[t])))):=fun p hp=>ln1 _ _ _ _ _ _ _ _ _ _ _ _ _ _ p (zF [_,_,_,_,_,_,_] h1 p hp)
 refine ⟨lP,tl,rfl,fun p hp => ?_,fmc (oA N mt (sub _ (.head _)) hbd rfl) (fmc (oA N mt (sub _ (.tail _ (.head _))) hbd rfl) (fmc (oA N mt (sub _ (.tail _ (.tail _ (.head _)))) hbd rfl) (fmc (oA N mt (sub _ (.tail _ (.tail _ (.tail _ (.head _))))) hbd rfl) (fmc n3.symm (fmc n2.symm (fmc n1.symm h2)))))),
  h3 _ _ (aQ.mono fun p hp=>List.mem_append_left _ hp),h3 _ _ (aS.mono fun p hp=>List.mem_append_right _ (List.mem_append_left _ hp)),h3 _ _ (aT.mono fun p hp=>List.mem_append_right _ (List.mem_append_right _ hp))⟩
 k_extra "ax"
 · exact N _ mt
 · exact N _ (sub p hp)
end V1
end K
theorem mN:∀ v,mP v:=ch1 (l:=PL.drop 47) BA K.V1.law_norm1_m
theorem Bz:Ch (PL.drop 47) oV:=ch2 (l:=PL.drop 47) BA mN
theorem xm {h₀ h:Heap} {L lQ lP lS lT:Addr} {vQ vP vS vT:List Value} {nQ nP nS nT:Nat} {c3 c2 c1 R X H t:Addr × Obj} {tq t3 t2:List (Addr × Obj)} {dsQ dsS dsT:List Dat}
 (N:News h₀ L h ([]++(lQ,W.listOf vQ.toArray nQ)::(tq++(lP,W.listOf vP.toArray nP)::(lS,W.listOf vS.toArray nS)::c3::c2::c1::R::(lT,W.listOf vT.toArray nT)::X::H::(t3++(t2++[t])))))
 (hbd:∀ xs n,t.2.data ≠ .seq xs n) (n3:t.1≠c3.1) (n2:t.1≠c2.1) (n1:t.1≠c1.1) (aQ:DatAll tq vQ dsQ) (aS:DatAll t3 vS dsS) (aT:DatAll t2 vT dsT) :
 ∃ (lP':Addr) (tl:List (Addr × Obj)),lP'=lP∧News h₀ L h (t::(lQ,W.listOf vQ.toArray nQ)::(lP',W.listOf vP.toArray nP)::(lS,W.listOf vS.toArray nS)::(lT,W.listOf vT.toArray nT)::c3::c2::c1::tl) ∧
  (∀ p∈(lQ,W.listOf vQ.toArray nQ)::(lP',W.listOf vP.toArray nP)::(lS,W.listOf vS.toArray nS)::(lT,W.listOf vT.toArray nT)::c3::c2::c1::tl,p.1≠t.1)∧DatAll tl vQ dsQ∧DatAll tl vS dsS∧DatAll tl vT dsT:=mN { oV with h₀,L,q27:=h,q3:=lQ,q4:=lP,q5:=lS,q6:=lT,q9:=vQ,q30:=vP,q65:=vS,q66:=vT,q8:=nQ,q23:=nP,q45:=nS,q49:=nT,q67:=c3,q68:=c2,q69:=c1,q70:=R,q71:=X,q72:=H,q73:=t,q46:=tq,q47:=t3,q74:=t2,q48:=dsQ,q64:=dsS,q75:=dsT } N hbd n3 n2 n1 aQ aS aT
theorem tA {cold:List (Addr × Obj)} {D:Addr} {ds:List Dat} (h:DatIn cold (.ref D) (.list ds)):∃ vs n,(D,W.listOf vs.toArray n)∈cold∧DatAll cold vs ds:=by
 cases h with
 | list hm r=>exact ⟨_,_,hm,r⟩
namespace K
namespace V16
theorem law_norm2_m:mL h₀ L h lN lP lS lT vP vS vT nP nS nT c3 c2 c1 t led tl dsN:=by
 intro N mt m hbd hne aN
 refine pE (pH (tl:=led) N mt (fun p hp=>hp) hbd) ?_
 intro tn h1 h2 h3 h4
 refine aV (tA (h4 _ _ aN)) ?_
 intro vN nN hm hA
 refine ⟨vN,nN,tn,fun p hp=>N p ?_,fmc (h2 _ hm) fun p hp => ?_,hA⟩
 · k_extra "ax"
   · exact mt
   · k_extra "ax"
     · exact h1 _ hm
     · exact (List.mem_append.mp (show p∈(_::_::_::_::_::_::tl)++tn from hp)).elim (m p) (h1 p)
 · exact (List.mem_append.mp (show p∈(_::_::_::_::_::_::tl)++tn from hp)).elim (hne p) (h2 p)
end V16
end K
theorem mK:∀ v,mM v:=ch1 (l:=PL.drop 48) Bz K.V16.law_norm2_m
theorem By:Ch (PL.drop 48) oV:=ch2 (l:=PL.drop 48) Bz mK
theorem xl {h₀ h:Heap} {L lN lP lS lT:Addr} {vP vS vT:List Value} {nP nS nT:Nat} {c3 c2 c1 t:Addr × Obj} {led tl:List (Addr × Obj)} {dsN:List Dat}
 (N:News h₀ L h led) (mt:t∈led) (m:∀ p∈(lP,W.listOf vP.toArray nP)::(lS,W.listOf vS.toArray nS)::(lT,W.listOf vT.toArray nT)::c3::c2::c1::tl,p∈led)
 (hbd:∀ xs n,t.2.data ≠ .seq xs n) (hne:∀ p∈(lP,W.listOf vP.toArray nP)::(lS,W.listOf vS.toArray nS)::(lT,W.listOf vT.toArray nT)::c3::c2::c1::tl,p.1≠t.1) (aN:DatIn led (.ref lN) (.list dsN)) :
 ∃ (vN:List Value) (nN:Nat) (tn:List (Addr × Obj)),News h₀ L h (t::(lN,W.listOf vN.toArray nN)::(lP,W.listOf vP.toArray nP)::(lS,W.listOf vS.toArray nS)::(lT,W.listOf vT.toArray nT)::c3::c2::c1::(tl++tn)) ∧
  (∀ p∈(lN,W.listOf vN.toArray nN)::(lP,W.listOf vP.toArray nP)::(lS,W.listOf vS.toArray nS)::(lT,W.listOf vT.toArray nT)::c3::c2::c1::(tl++tn),p.1≠t.1)∧DatAll tn vN dsN:=mK { oV with h₀,L,q27:=h,q3:=lN,q4:=lP,q5:=lS,q6:=lT,q30:=vP,q65:=vS,q66:=vT,q23:=nP,q45:=nS,q49:=nT,q67:=c3,q68:=c2,q69:=c1,q73:=t,q46:=led,q47:=tl,q48:=dsN } N mt m hbd hne aN
namespace K
namespace V5
theorem law_norm3_m:mI h₀ L h lH P f c t N S T c3 c2 c1 nw r dsH:=by
 intro N0 aH
 refine aV (tA aH) ?_
 intro vH nH hm hA
 refine ⟨vH,nH,nw++P::f::c::t::N::S::T::c3::c2::c1::r,fun p hp=>N0 p ?_,hA,ln5 _ _ _ _ _ _ _ _ _ _ _ _,ln6 _ _ _ _ _ _ _ _ _ _ _ _⟩
 k_extra "ax"
 · exact hm
 · exact ln4 _ _ _ _ _ _ _ _ _ _ _ _ p hp
end V5
end K
theorem mH:∀ v,mJ v:=ch1 (l:=PL.drop 49) By K.V5.law_norm3_m
theorem Bx:Ch (PL.drop 49) oV:=ch2 (l:=PL.drop 49) By mH
theorem xk {h₀ h:Heap} {L lH:Addr} {P f c t N S T c3 c2 c1:Addr × Obj} {nw r:List (Addr × Obj)} {dsH:List Dat} (N0:News h₀ L h (nw++P::f::c::t::N::S::T::c3::c2::c1::r)) (aH:DatIn (nw++P::f::c::t::N::S::T::c3::c2::c1::r) (.ref lH) (.list dsH)) :
 ∃ (vH:List Value) (nH:Nat) (ld:List (Addr × Obj)),News h₀ L h ((lH,W.listOf vH.toArray nH)::P::N::S::T::c3::c2::c1::ld)∧DatAll ld vH dsH∧(∀ p∈r,p∈ld)∧t∈ld:=mH { oV with h₀,L,q27:=h,q3:=lH,q70:=P,q71:=f,q76:=c,q73:=t,q72:=N,q77:=S,q78:=T,q67:=c3,q68:=c2,q69:=c1,q46:=nw,q74:=r,q48:=dsH } N0 aH
end
section
noncomputable def l8 (script:List Int):List Int:=[17,170]++script.take 4
noncomputable def aL (script:List Int):List Str:=(l8 script).map aO
theorem ij (script:List Int) : 2≤(aL script).length∧(aL script).length≤6:=by
 unfold aL l8
 simp
 (exact zae [_] 1 qA (zn 4) [(1,qA,zn 4)] rfl (Nat.min_le_left _ _))
noncomputable def aM (script:List Int):Str:=(aL script).getD (script.sum.fmod ((aL script).length:Int)).toNat (Str.ofString "")
noncomputable def cP (home l:List Str):Row:=((cN home l).length,cN home l,aB l)
noncomputable def fD (script:List Int):List Dat:=(bT (aL script)).map fun l=>cX (cP (aA (aM script)) l)
noncomputable def eO (home l:List Str):Dat := .tuple [.str (cN home l),.str (aB l)]
noncomputable def ti (home l:List Str):Dat := .tuple [.int ((cN home l).length:Int),.str (cN home l)]
noncomputable def rK (script:List Int):List Dat:=((bT (aL script)).map (ti (aA (aM script)))).reverse
noncomputable def iX:Dat→Dat
 | .tuple [_,a,b] => .tuple [a,b]
 | _ => .none
noncomputable def v0 (l:List Str):Dat := .int (l.length:Int)
noncomputable def rM (script:List Int):List Dat:=(bT (aL script)).map v0
noncomputable def dO (tr:List (List Str)) (i:Nat):Dat := .tuple [.int ((tr.getD i []).length:Int),.int (i:Int)]
noncomputable def fW (tr:List (List Str)):List Dat:=(List.range tr.length).map (dO tr)
noncomputable def dG (places:List Str):Dat→Dat
 | .tuple [_,.int i] => .str (places.getD i.toNat (Str.ofString ""))
 | _ => .none
end
section
theorem iQ {l:List Str} (h:∀ a∈l,SF a):Txt.split (aB l) (Str.ofString "/")=Str.ofString "" :: (if l=[] then [Str.ofString ""] else l):=by
 have e:aB l=Txt.join (Str.ofString "/") (Str.ofString "" :: (if l=[] then [Str.ofString ""] else l)):=by
  apply cT
  rw [eZ,bY]
  have e1:cp (Str.ofString "")=[]:=by decide
  by_cases hl:l=[]
  · subst hl;simp [bE,e1]
  · rw [if_neg hl]
    cases l with
    | nil=>exact absurd rfl hl
    | cons a r=>simp [bE,e1]
 rw [e]
 refine gP (by simp) fun a ha => ?_
 rcases List.mem_cons.mp ha with rfl | ha
 · unfold SF;decide
 · split at ha
   · rw [List.mem_singleton.mp ha];unfold SF;decide
   · exact h a ha
theorem hO:∀ (l acc:List Str),(∀ a∈l,Nm a)→l.foldl aF acc=acc++l
 | [],acc,_=>by simp
 | a::l,acc,h=>by
  have ha:=h a (.head _)
  have e:aF acc a=acc++[a]:=by
   unfold aF
   rw [if_neg ha.dd,if_neg]
   rintro (q | q)
   · exact ha.ne (jh q)
   · exact ha.dot q
  rw [List.foldl_cons,e,hO l _ fun b hb=>h b (.tail _ hb)]
  simp
theorem gF {l:List Str} (h:∀ a∈l,Nm a):aA (aB l)=l:=by
 unfold aA
 rw [iQ fun a ha=>(h a ha).sf,List.foldl_cons]
 have e:aF [] (Str.ofString "")=[]:=by decide
 rw [e]
 by_cases hl:l=[]
 · subst hl;rw [if_pos rfl,List.foldl_cons,e];rfl
 · rw [if_neg hl,hO l [] h];rfl
end
section
theorem sd (x:Str):∀ p∈Txt.split x (Str.ofString "/"),SF p:=by
 rw [sg]
 exact StrLaws.split_free _ 47
theorem rh {s:Nat}:∀ {l k:List (List Nat)},l≠[]→k≠[]→bE s (l++k)=bE s l++s::bE s k
 | [],_,h,_=>absurd rfl h
 | [a],b::k,_,_=>rfl
 | a::b::l,k,_,hk=>by
  have:=rh (s:=s) (l:=b::l) (k:=k) (by simp) hk
  show a++s::bE s ((b::l)++k)=(a++s::bE s (b::l))++s::bE s k
  rw [this];simp
theorem vx {x a b:Str} (h:cp x=cp a++47::cp b):Txt.split x (Str.ofString "/")=Txt.split a (Str.ofString "/")++Txt.split b (Str.ofString "/"):=by
 have e:x=Txt.join (Str.ofString "/") (Txt.split a (Str.ofString "/")++Txt.split b (Str.ofString "/")):=by
  apply cT
  rw [bY,List.map_append,rh (by simpa using jj a) (by simpa using jj b),← bY,← bY,iS,iS,h]
 have e2:(Txt.split a (Str.ofString "/")++Txt.split b (Str.ofString "/"))≠[]:=by simp [jj a]
 have:=gP e2 (fun p hp=>(List.mem_append.mp hp).elim (sd a p) (sd b p))
 rw [← e] at this
 exact this
theorem iL:Txt.split (Str.ofString "") (Str.ofString "/")=[Str.ofString ""]:=by decide
theorem ji (acc:List Str):aF acc (Str.ofString "")=acc:=by
 unfold aF
 rw [if_neg (by decide),if_pos (.inl (by decide))]
theorem eM {x a b:Str} (h:cp x=cp a++47::cp b):aA x=(Txt.split b (Str.ofString "/")).foldl aF (aA a):=by
 unfold aA
 rw [vx h,List.foldl_append]
theorem zR (l:List Nat):cp ⟨l.toArray⟩=l:=by simp [cp]
theorem rs {a b:Str} (ha:cp a≠[]) (hb:(cp b).head? ≠ some 47):aA (aG a b)=(Txt.split b (Str.ofString "/")).foldl aF (aA a):=by
 have e:=fQ a b hb
 rw [if_neg ha] at e
 by_cases h:(cp a).getLast? = some 47
 · rw [if_pos h] at e
   rcases List.eq_nil_or_concat (cp a) with h2 | ⟨u,c,h2⟩
   · exact absurd h2 ha
   · rw [List.concat_eq_append] at h2
     have hc:c=47:=by rw [h2] at h;simpa using h
     subst hc
     have e1:cp (aG a b)=cp (⟨u.toArray⟩:Str)++47::cp b:=by rw [e,h2,zR];simp
     have e3:cp (Str.ofString "")=[]:=by decide
     have e2:cp a=cp (⟨u.toArray⟩:Str)++47::cp (Str.ofString ""):=by rw [h2,zR,e3]
     rw [eM e1,eM e2,iL,List.foldl_cons,ji];rfl
 · rw [if_neg h] at e
   exact eM e
theorem yJ (acc:List Str) (c:Str):bU acc c=aF acc c:=by
 unfold bU aF
 by_cases h1:c.length=0
 · rw [if_pos h1]
   have:c≠Str.ofString ".." := fun e=>by rw [e] at h1;exact absurd h1 (by decide)
   rw [if_neg this,if_pos (.inl h1)]
 · rw [if_neg h1]
   by_cases h2:c=Str.ofString "."
   · rw [if_pos h2]
     have:c≠Str.ofString ".." := fun e=>by rw [e] at h2;exact absurd h2 (by decide)
     rw [if_neg this,if_pos (.inr h2)]
   · rw [if_neg h2]
     by_cases h3:c=Str.ofString ".."
     · rw [if_pos h3,if_pos h3]
     · rw [if_neg h3,if_neg h3,if_neg]
       rintro (q | q)
       · exact h1 q
       · exact h2 q
theorem uV {x:Str} {r:List Nat} (h:cp x=47::r):bZ x=aB (aA x):=by
 have hl : 1≤x.length:=by rw [← dM,h];simp
 have h1:cp (Txt.slice x (some 1) none)=r:=by
  rw [show (1:Int)=((1:Nat):Int) from rfl,eS hl,h];rfl
 have e3:cp (Str.ofString "")=[]:=by decide
 have e:cp x=cp (Str.ofString "")++47::cp (Txt.slice x (some 1) none):=by rw [h1,e3,h];rfl
 have e4:aA (Str.ofString "")=[]:=by unfold aA;rw [iL,List.foldl_cons,ji];rfl
 rw [eM e,e4]
 unfold bZ aB dW
 have:bU=aF:=by funext a c;exact yJ a c
 rw [this]
theorem qR (n:Int):bZ (aO n)=aB (aA (aO n)):=by
 refine bA (l0 n) ?_
 intro r h
 exact uV h
theorem wX (n:Int) {t:Str} (ht:GR t):bZ (aG (aO n) t)=aB ((Txt.split t (Str.ofString "/")).foldl aF (aA (aO n))):=by
 refine bA (l0 n) ?_
 intro r h
 have ha:cp (aO n)≠[]:=by rw [h];simp
 rw [← rs ha ht.2]
 have e:∃ r',cp (aG (aO n) t)=47::r':=by
  rw [fQ _ _ ht.2,h]
  split
  · rename_i h;cases h
  · split
    · exact ⟨_,rfl⟩
    · exact ⟨_,rfl⟩
 refine bA (e) ?_
 (try clear e);intro r' e
 exact uV e
end
section
theorem eW {l k:List Str} (h1:∀ a∈l,Nm a) (h2:∀ a∈k,Nm a) (e:aB l=aB k):l=k:=by
 rw [← gF h1,← gF h2,e]
theorem uW {l:List Str} (h:∀ a∈l,Nm a) (k:Nat):∀ a∈l.take k,Nm a:=fun a ha=>h a (List.mem_of_mem_take ha)
theorem Ak {a:Str} (h:Nm a):cQ a=true:=by
 have h1:a.length≠0:=fun q=>h.ne (jh q)
 unfold cQ
 rw [decide_eq_true h1,decide_eq_true h.dot];rfl
theorem qZ {l:List Str} (h:∀ a∈l,Nm a):pf (aB l)=l:=by
 unfold pf
 rw [iQ fun a ha=>(h a ha).sf]
 have e:cQ (Str.ofString "")=false:=by decide
 rw [List.filter_cons,if_neg (by rw [e];decide)]
 by_cases hl:l=[]
 · subst hl;rw [if_pos rfl,List.filter_cons,if_neg (by rw [e];decide)];rfl
 · rw [if_neg hl,List.filter_eq_self]
   exact fun a ha=>Ak (h a ha)
theorem um {l k:List Str} (h1:∀ a∈l,Nm a) (h2:∀ a∈k,Nm a):aU (aB l) (aB k)=aB (l.take (aI l k)):=by
 unfold aU
 rw [qZ h1,qZ h2];rfl
theorem tQ {l:List Str} (h:∀ a∈l,Nm a) {i:Nat} (hi:i < l.length):aR (aB (l.take (i+1)))=aB (l.take i)∧bJ (aB (l.take (i+1)))=l[i]:=by
 have e:l.take (i+1)=l.take i++[l[i]]:=by rw [List.take_add_one,List.getElem?_eq_getElem hi];rfl
 have hs:SF l[i]:=(h _ (List.getElem_mem hi)).sf
 rw [e]
 exact ⟨nV hs fun b hb=>⟨(h b (List.mem_of_mem_take hb)).ne,(h b (List.mem_of_mem_take hb)).sf⟩,iE _ hs⟩
theorem zX {l:List Str} (h:∀ a∈l,Nm a) {i k:Nat} (hi:i≤l.length) (hk:k < i):aB (l.take i)≠aB (l.take k):=fun e=>by
 have:=congrArg List.length (eW (uW h i) (uW h k) e)
 rw [List.length_take,List.length_take] at this
 k_extra "l"
theorem uA {l:List Str} (h:∀ a∈l,Nm a) {k:Nat} (hk:k≤l.length):∀ j,aZ (cR (aB (l.take k))) j (aB l,0)=(aB (l.take (l.length - min j (l.length - k))),min j (l.length - k))
 | 0=>by simp [aZ]
 | j+1=>by
  rw [aZ,uA h hk j]
  unfold cR
  by_cases hj:j < l.length - k
  · have e1:min j (l.length - k)=j:=by k_extra "l"
    have e2:min (j+1) (l.length - k)=j+1:=by k_extra "l"
    rw [e1,e2]
    dsimp only
    k_extra "bv"
    have:=(tQ h (i:=l.length - (j+1)) (by exact zal [_,_,_] 1 qB qA [(1,zp qB (zu qC),qA)] rfl (zs3 (zae [_,_,_] 1 (zu qB) qA [(1,zu qB,qC),(1,qC,qA)] rfl hj (zs1 _ _))))).1
    k_extra "a9"
    rw [this]
  · have e1:min j (l.length - k)=l.length - k:=by k_extra "l"
    have e2:min (j+1) (l.length - k)=l.length - k:=by k_extra "l"
    rw [e1,e2]
    dsimp only
    k_extra "bc"
theorem uX {l:List Str} (h:∀ a∈l,Nm a) {k:Nat} (hk:k≤l.length):∀ j,aZ (cI (aB (l.take k))) j (aB l,[])=(aB (l.take (l.length - min j (l.length - k))),(l.drop (l.length - min j (l.length - k))).reverse)
 | 0=>by simp [aZ]
 | j+1=>by
  rw [aZ,uX h hk j]
  unfold cI
  by_cases hj:j < l.length - k
  · have e1:min j (l.length - k)=j:=by k_extra "l"
    have e2:min (j+1) (l.length - k)=j+1:=by k_extra "l"
    rw [e1,e2]
    dsimp only
    k_extra "bv"
    have hi:l.length - (j+1) < l.length:=by (exact zal [_,_,_] 1 qB qA [(1,zp qB (zu qC),qA)] rfl (zs3 (zae [_,_,_] 1 (zu qB) qA [(1,zu qB,qC),(1,qC,qA)] rfl hj (zs1 _ _))))
    have:=tQ h hi
    k_extra "a9"
    rw [this.1,this.2,List.drop_eq_getElem_cons hi,List.reverse_cons,show l.length - (j+1)+1=l.length - j by (exact Nat.le_antisymm (zae [_,_,_,_] 1 (zu qB) qA [(1,qC,zp qA qD),(1,zp qB (zu qD),qC)] rfl (zs2 _ _) (zs3 (zae [_,_,_] 1 (zu qB) qA [(1,zu qB,qC),(1,qC,qA)] rfl hj (zs1 _ _)))) (zae [_,_,_,_] 1 qB (zu qA) [(1,qC,zp qA (zu qD)),(1,zp qB qD,qC)] rfl (zs2 _ _) (zs3 (zae [_,_,_] 1 qB qA [(1,zu qB,qC),(1,qC,qA)] rfl hj (zs1 _ _)))))]
  · have e1:min j (l.length - k)=l.length - k:=by k_extra "l"
    have e2:min (j+1) (l.length - k)=l.length - k:=by k_extra "l"
    rw [e1,e2]
    dsimp only
    k_extra "bc"
noncomputable def Mv (x:Str):Prop:=SF x∧x≠Str.ofString ""
theorem vV:Mv (Str.ofString ".."):=⟨by unfold SF;decide,by decide⟩
theorem vG {x:Str} (h:Nm x):Mv x:=⟨h.sf,h.ne⟩
theorem vW {x:Str} (h:Mv x):cp x≠[]:=fun e=>h.2 (cT (by rw [e];decide))
theorem xw {s:Nat}:∀ {l:List (List Nat)},l≠[]→(∀ a∈l,a≠[])→bE s l≠[]
 | [],h,_=>absurd rfl h
 | [a],_,h=>h a (.head _)
 | a::b::r,_,_=>by simp [bE]
theorem uZ {l:List Str} (h:∀ a∈l,Mv a) {a:Str} (ha:Mv a):aG (Txt.join (Str.ofString "/") l) a=Txt.join (Str.ofString "/") (l++[a]):=by
 apply cT
 have hh:(cp a).head? ≠ some 47:=fun e=>ha.1 (List.mem_of_head? e)
 have hm:∀ b∈l.map cp,b≠[]∧47 ∉ b:=fun b hb=>by
  k_extra "gt"
  rintro x hx rfl
  exact ⟨vW (h x hx),(h x hx).1⟩
 rw [fQ _ _ hh,bY,bY,List.map_append]
 by_cases hl:l=[]
 · subst hl;simp [bE]
 · have h1:bE 47 (l.map cp)≠[]:=xw (by simpa using hl) fun b hb=>(hm b hb).1
   rw [if_neg h1,if_neg (jw hm),show [a].map cp=[cp a] from rfl,gQ (by simpa using hl)]
theorem rf:∀ (r l:List Str),(∀ a∈l,Mv a)→(∀ a∈r,Mv a)→r.foldl aG (Txt.join (Str.ofString "/") l)=Txt.join (Str.ofString "/") (l++r)
 | [],l,_,_=>by simp
 | a::r,l,h1,h2=>by
  rw [List.foldl_cons,uZ h1 (h2 a (.head _)),rf r _ (fun b hb => ?_) fun b hb=>h2 b (.tail _ hb)]
  · simp
  · rcases List.mem_append.mp hb with hb | hb
    · exact h1 b hb
    · rw [List.mem_singleton.mp hb];exact h2 a (.head _)
theorem nG:Txt.join (Str.ofString "/") []=Str.ofString "" := by decide
theorem kR {l:List Str} (h:∀ a∈l,Nm a):l.length≤(Txt.split (aB l) (Str.ofString "/")).length - 1:=by
 rw [iQ fun a ha=>(h a ha).sf]
 split
 · rename_i e;subst e;simp
 · simp
theorem yW {home l:List Str} (h1:∀ a∈home,Nm a) (h2:∀ a∈l,Nm a):o7 (aB home) (aB l)=cN home l:=by
 have hk:=pd home l
 have e9:l.take (aI home l)=home.take (aI home l):=by
  have:∀ (x y:List Str),y.take (aI x y)=x.take (aI x y):=by
   intro x
   induction x with
   | nil=>intro y;simp [aI]
   | cons a x ih =>
    intro y
    cases y with
    | nil=>simp [aI]
    | cons b y =>
     simp only [aI]
     split
     · rename_i e;rw [List.take_succ_cons,List.take_succ_cons,e,ih]
     · simp
  exact this home l
 unfold o7
 rw [um h1 h2]
 unfold u4 qX
 have e1:=kR h1
 have e2:=kR h2
 rw [uA h1 hk.1,← e9,uX h2 hk.2]
 dsimp only
 rw [show min ((Txt.split (aB home) (Str.ofString "/")).length - 1) (home.length - aI home l)=home.length - aI home l by k_extra "l",show min ((Txt.split (aB l) (Str.ofString "/")).length - 1) (l.length - aI home l)=l.length - aI home l by k_extra "l",show l.length - (l.length - aI home l)=aI home l by (exact Nat.le_antisymm (zae [_,_,_,_] 1 qB qA [(1,qC,zp qD qA),(1,zp qB qD,qC)] rfl (zs2 _ _) (zs3 (zae [_,_] 1 qB qA [(1,qB,qA)] rfl (zs1 _ _)))) (zae [_,_,_,_] 1 qB qA [(1,qC,zp qA qD),(1,zp qD qB,qC)] rfl (zs2 _ _) (zs3 (zae [_,_] 1 qB qA [(1,qB,qA)] rfl hk.2)))),List.reverse_reverse]
 rw [← nG,rf _ [] (fun a h=>nomatch h) fun a ha => ?_]
 · rfl
 · k_extra "ca"
   · rw [(List.mem_replicate.mp ha).2];exact vV
   · exact vG (h2 a (List.mem_of_mem_drop ha))
end
section
theorem cW {n:Nat} {a b:Dat} (ha:kqdOk n a=true) (hb:kqdOk n b=true):PyData.eqv (kqdP a) (kqdP b)=true ↔ a=b:=kqd_eqv n a b n ha hb
theorem u6 {n:Nat} (ih:∀ d,kqdOk n d=true→dlt n d d=false):∀ xs:List Dat,(∀ d∈xs,kqdOk n d=true)→bN (dlt n) xs xs=false
 | [],_=>rfl
 | a::xs,h=>by
  unfold bN
  rw [if_pos ((cW (h a (.head _)) (h a (.head _))).mpr rfl)]
  exact u6 ih xs fun d hd=>h d (.tail _ hd)
theorem mh:∀ (n:Nat) (d:Dat),kqdOk n d=true→dlt n d d=false
 | 0,d,h=>by cases d <;> simp_all [dlt,kqdOk]
 | n+1,d,h=>by
  cases d with
  | tuple xs=>exact u6 (mh n) xs (by simpa [kqdOk] using h)
  | _=>simp_all [dlt,kqdOk]
theorem u5 {n:Nat} (ih:∀ a b,kqdOk n a=true→kqdOk n b=true→aY n a b=true→a≠b→dlt n a b=true∨dlt n b a=true):∀ xs ys:List Dat,(∀ d∈xs,kqdOk n d=true)→(∀ d∈ys,kqdOk n d=true)→((xs.zip ys).all fun p=>aY n p.1 p.2)=true→xs≠ys→bN (dlt n) xs ys=true∨bN (dlt n) ys xs=true
 | [],[],_,_,_,h=>absurd rfl h
 | [],_::_,_,_,_,_ => .inl rfl
 | _::_,[],_,_,_,_ => .inr rfl
 | a::xs,b::ys,h1,h2,h3,h4=>by
  simp only [List.zip_cons_cons,List.all_cons,Bool.and_eq_true] at h3
  have e1:=cW (h1 a (.head _)) (h2 b (.head _))
  have e2:=cW (h2 b (.head _)) (h1 a (.head _))
  unfold bN
  by_cases hab:a=b
  · rw [if_pos (e1.mpr hab),if_pos (e2.mpr hab.symm)]
    exact u5 ih xs ys (fun d hd=>h1 d (.tail _ hd)) (fun d hd=>h2 d (.tail _ hd)) h3.2 (fun q=>h4 (by rw [hab,q]))
  · rw [if_neg (fun q=>hab (e1.mp q)),if_neg (fun q=>hab (e2.mp q).symm)]
    exact ih a b (h1 a (.head _)) (h2 b (.head _)) h3.1 hab
theorem zZ {x y:Str} (h:x≠y):x.cps.toList < y.cps.toList∨y.cps.toList < x.cps.toList:=by
 rcases Std.lt_trichotomy x.cps.toList y.cps.toList with q | q | q
 · exact .inl q
 · exact absurd (cT q) h
 · exact .inr q
noncomputable def zH (n:Nat):Prop := ∀ (a b:Dat),kqdOk n a=true→kqdOk n b=true→aY n a b=true→a≠b→dlt n a b=true∨dlt n b a=true
theorem i4 {n:Nat} {xs:List Dat} (h:kqdOk (n+1) (.tuple xs)=true):∀ d∈xs,kqdOk n d=true:=by simpa [kqdOk] using h
theorem rV {n:Nat} (ih:∀ m,n=m+1→zH m):zH n:=fun a b h1 h2 h3 h4 =>
 match xU h3 with
 | .inl h=>aV h fun x y ea eb=>by
  rw [ea,eb,gY,gY]
  exact (Int.lt_or_gt_of_ne fun q=>h4 (by rw [ea,eb,q])).imp decide_eq_true decide_eq_true
 | .inr (.inl h)=>aV h fun x y ea eb=>by
  rw [ea,eb,i8,i8]
  exact (zZ fun q=>h4 (by rw [ea,eb,q])).imp decide_eq_true decide_eq_true
 | .inr (.inr h)=>dD h fun m xs ys en ea eb=>by
  subst en ea eb
  exact u5 (ih m rfl) _ _ (i4 h1) (i4 h2) (by simpa [aY] using h3) (fun q=>h4 (congrArg Dat.tuple q))
theorem gX:∀ (n:Nat),zH n
 | 0=>rV fun _ h=>absurd h.symm (Nat.succ_ne_zero _)
 | n+1=>rV fun m h=>Nat.succ.inj h ▸ gX n
theorem qY {n:Nat} (ih:∀ a b c,kqdOk n a=true→kqdOk n b=true→kqdOk n c=true→dlt n a b=true→dlt n b c=true→dlt n a c=true):∀ xs ys zs:List Dat,(∀ d∈xs,kqdOk n d=true)→(∀ d∈ys,kqdOk n d=true)→(∀ d∈zs,kqdOk n d=true)→bN (dlt n) xs ys=true→bN (dlt n) ys zs=true→bN (dlt n) xs zs=true
 | [],[],_,_,_,_,h,_=>by simp [bN] at h
 | [],_::_,[],_,_,_,_,h=>by simp [bN] at h
 | [],_::_,_::_,_,_,_,_,_=>rfl
 | _::_,[],_,_,_,_,h,_=>by simp [bN] at h
 | _::_,_::_,[],_,_,_,_,h=>by simp [bN] at h
 | a::xs,b::ys,c::zs,h1,h2,h3,h,h'=>by
  have ka:=h1 a (.head _)
  have kb:=h2 b (.head _)
  have kc:=h3 c (.head _)
  unfold bN at h h' ⊢
  by_cases hab:a=b
  · subst hab
    rw [if_pos ((cW ka ka).mpr rfl)] at h
    by_cases hac:a=c
    · subst hac
      rw [if_pos ((cW ka ka).mpr rfl)] at h' ⊢
      exact qY ih xs ys zs (fun d hd=>h1 d (.tail _ hd)) (fun d hd=>h2 d (.tail _ hd)) (fun d hd=>h3 d (.tail _ hd)) h h'
    · rw [if_neg (fun q=>hac ((cW ka kc).mp q))] at h' ⊢
      exact h'
  · rw [if_neg (fun q=>hab ((cW ka kb).mp q))] at h
    by_cases hbc:b=c
    · subst hbc
      rw [if_neg (fun q=>hab ((cW ka kb).mp q))]
      exact h
    · rw [if_neg (fun q=>hbc ((cW kb kc).mp q))] at h'
      have hac:a≠c:=fun e=>by
       subst e
       have:=ih a b a ka kb ka h h'
       rw [mh n a ka] at this
       cases this
      rw [if_neg (fun q=>hac ((cW ka kc).mp q))]
      exact ih a b c ka kb kc h h'
noncomputable def TrP (n:Nat):Prop := ∀ (a b c:Dat),kqdOk n a=true→kqdOk n b=true→kqdOk n c=true→dlt n a b=true→dlt n b c=true→dlt n a c=true
theorem xN {n:Nat} {a b:Dat} (h:dlt n a b=true):DcI n a b:=by
 unfold dlt at h
 split at h
 · exact .inl ⟨_,_,rfl,rfl⟩
 · exact .inr (.inl ⟨_,_,rfl,rfl⟩)
 · exact .inr (.inr ⟨_,_,_,rfl,rfl,rfl⟩)
 · cases h
noncomputable def RSh (c:Dat):Dat→Prop
 | .int _ => ∃ z,c = .int z
 | .str _ => ∃ z,c = .str z
 | .tuple _ => ∃ z,c = .tuple z
 | _=>True
theorem zv {n:Nat} {b c:Dat} (h:dlt n b c=true):RSh c b :=
 match xN h with
 | .inl h=>aV h fun _ y eb ec=>by rw [eb];exact ⟨y,ec⟩
 | .inr (.inl h)=>aV h fun _ y eb ec=>by rw [eb];exact ⟨y,ec⟩
 | .inr (.inr h)=>dD h fun _ _ y _ eb ec=>by rw [eb];exact ⟨y,ec⟩
theorem uD {n:Nat} (ih:∀ m,n=m+1→TrP m):TrP n:=fun a b c h1 h2 h3 h h' =>
 match xN h with
 | .inl k=>aV k fun x y ea eb=>by
  rw [ea] at h ⊢;rw [eb] at h h'
  refine (zv h').elim fun z ec => ?_
  rw [ec,gY] at h' ⊢;rw [gY] at h
  exact decide_eq_true (Int.lt_trans (of_decide_eq_true h) (of_decide_eq_true h'))
 | .inr (.inl k)=>aV k fun x y ea eb=>by
  rw [ea] at h ⊢;rw [eb] at h h'
  refine (zv h').elim fun z ec => ?_
  rw [ec,i8] at h' ⊢;rw [i8] at h
  exact decide_eq_true (Std.lt_trans (of_decide_eq_true h) (of_decide_eq_true h'))
 | .inr (.inr k)=>dD k fun m xs ys en ea eb=>by
  subst en ea eb
  refine (zv h').elim fun z ec => ?_
  subst ec
  exact qY (ih m rfl) _ _ _ (i4 h1) (i4 h2) (i4 h3) h h'
theorem lB:∀ (n:Nat),TrP n
 | 0=>uD fun _ h=>absurd h.symm (Nat.succ_ne_zero _)
 | n+1=>uD fun m h=>Nat.succ.inj h ▸ lB n
theorem jB {n:Nat} {a b:Dat} (h1:kqdOk n a=true) (h2:kqdOk n b=true) (h:dlt n a b=true):dlt n b a=false:=by
 cases e:dlt n b a with
 | false=>rfl
 | true =>
  have:=lB n a b a h1 h2 h1 h e
  rw [mh n a h1] at this;cases this
theorem qk {n:Nat} {a b c:Dat} (h1:kqdOk n a=true) (h2:kqdOk n b=true) (h3:kqdOk n c=true) (hc:aY n a b=true) (h:dlt n a c=true):dlt n a b=true∨dlt n b c=true:=by
 by_cases e:a=b
 · subst e;exact .inr h
 · rcases gX n a b h1 h2 hc e with q | q
   · exact .inl q
   · exact .inr (lB n b a c h2 h1 h3 q h)
theorem wC {n:Nat} {ks:List Dat} (h1:∀ d∈ks,kqdOk n d=true) (h2:∀ a∈ks,∀ c∈ks,aY n a c=true):SWO ks.length (bC n ks):=by
 have hm:∀ {i},i < ks.length→ks.getD i .none∈ks:=fun {i} hi=>bL hi
 refine ⟨fun a b ha hb h=>jB (h1 _ (hm ha)) (h1 _ (hm hb)) h,fun a b c ha hb hc h=>qk (h1 _ (hm ha)) (h1 _ (hm hb)) (h1 _ (hm hc)) (h2 _ (hm ha) _ (hm hb)) h⟩
theorem iM {k:Nat} {ks:List Dat} (h1:∀ d∈ks,kqdOk (k+1) d=true) (h2:∀ a∈ks,∀ c∈ks,aY (k+1) a c=true) (h3:(∃ b,∀ d∈ks,ib b d) ∨ ∀ d∈ks,∃ p,d = .int p):Sortable k ks:=⟨h1,h2,wC h1 h2,h3⟩
end
section
structure SW {α:Type} (P : α→Prop) (lt : α → α→Bool):Prop where
 asym:∀ a b,P a→P b→lt a b=true→lt b a=false
 ntr:∀ a b c,P a→P b→P c→lt a c=true→lt a b=true∨lt b c=true
section
variable {α:Type} {P : α→Prop} {lt : α → α→Bool}
theorem SW.le_trans (W:SW P lt) {a b c : α} (ha:P a) (hb:P b) (hc:P c) (h1:lt b a=false) (h2:lt c b=false):lt c a=false:=by
 cases e:lt c a with
 | false=>rfl
 | true =>
  rcases W.ntr c b a hc hb ha e with h | h
  · rw [h2] at h;cases h
  · rw [h1] at h;cases h
inductive Dsc (s:Nat):Nat→Prop
 | refl:Dsc s s
 | step {p:Nat} : 0 < p→Dsc s ((p - 1) / 2)→Dsc s p
theorem Dsc.le {s:Nat}:∀ {p:Nat},Dsc s p→s≤p
 | _,.refl=>Nat.le_refl _
 | p,.step h d=>by have:=d.le;(exact zae [_,_,_,_] 2 qB qA [(2,qB,qC),(1,zu (zn 0),qA),(1,zk 2 qC,qD),(1,zu qD,qA)] rfl this h (zd1 _ _) (zs3 (zae [_] 1 (zn 1) qA [(1,zu (zn 0),qA)] rfl h)))
theorem Dsc.up {s p:Nat} (d:Dsc s p) (h:s < p):Dsc s ((p - 1) / 2):=by
 cases d with
 | refl=>(exact False.elim (zar [_] [(1,zu qA,qA)] rfl h))
 | step _ d=>exact d
theorem Dsc.zero:∀ (p:Nat),Dsc 0 p:=fun p=>by
 induction p using Nat.strongRecOn with
 | ind p ih =>
  by_cases h:p=0
  · subst h;exact .refl
  · exact .step (by exact zdi h (fun h09=>(False.elim (zar [_] [(1,zu qA,zn 0)] rfl h09))) (fun h09=>(zal [_] 1 (zn 0) qA [(1,zu (zn 0),qA)] rfl h09))) (ih _ (by exact zdi h (fun h09=>(False.elim (zar [_] [(1,zu qA,zn 0)] rfl h09))) (fun h09=>(zal [_,_,_] 2 qB qA [(1,zu (zn 0),qA),(1,zk 2 qB,qC),(1,zu qC,qA)] rfl h09 (zd1 _ _) (zs3 (zae [_] 1 (zn 1) qA [(1,zu (zn 0),qA)] rfl h09))))))
variable (lt)
noncomputable def Ct (l:List α) (j i:Nat):Prop := ∀ a b,l[j]? = some a→l[i]? = some b→lt b a=false
noncomputable def dT (s:Nat) (l:List α):Prop := ∀ i,0 < i→s≤(i - 1) / 2→Ct lt l ((i - 1) / 2) i
noncomputable def pP (s:Nat) (l:List α) (pos:Nat):Prop := ∀ i,0 < i→s≤(i - 1) / 2→i≠pos→(i - 1) / 2≠pos→Ct lt l ((i - 1) / 2) i
variable {lt}
theorem fA {l:List α} {i:Nat} {a : α} (h:l[i]? = some a):a∈l:=List.mem_of_getElem? h
theorem l6 {l:List α} {i:Nat} {x : α} (hl:∀ a∈l,P a) (hx:P x):∀ a∈l.set i x,P a:=fun a ha=>(List.mem_or_eq_of_mem_set ha).elim (hl a) fun e=>e ▸ hx
theorem jV (W:SW P lt) (s:Nat):∀ (pos:Nat) (l:List α) (x : α),pos < l.length→Dsc s pos→(∀ a∈l,P a)→P x→pP lt s l pos →
 (∀ i b,0 < i→(i - 1) / 2=pos→l[i]? = some b→lt b x=false)→(∀ i a b,0 < i→(i - 1) / 2=pos→s < pos→l[(pos - 1) / 2]? = some a→l[i]? = some b→lt b a=false)→dT lt s (bG lt s l pos x):=by
 intro pos
 induction pos using Nat.strongRecOn with
 | ind pos ih =>
  intro l x hp hd hP hx hB h1 h2
  have fin:(s < pos → ∀ a,l[(pos - 1) / 2]? = some a→lt x a=false)→dT lt s (l.set pos x):=by
   intro hq i hi hs a b ha hb
   k_extra "f4"
   by_cases e1:pos=i
   · subst e1
     rw [if_pos rfl,if_pos hp] at hb
     k_extra "cd"
     cases hb
     exact hq (by exact zal [_,_,_,_] 2 qB qA [(2,qB,qC),(1,zu (zn 0),qA),(1,zk 2 qC,qD),(1,zu qD,qA)] rfl hs hi (zd1 _ _) (zs3 (zae [_] 1 (zn 1) qA [(1,zu (zn 0),qA)] rfl hi))) a ha
   · rw [if_neg e1] at hb
     by_cases e2:pos=(i - 1) / 2
     · rw [if_pos e2,if_pos hp] at ha
       cases ha
       exact h1 i b hi e2.symm hb
     · rw [if_neg e2] at ha
       exact hB i hi hs (fun q=>e1 q.symm) (fun q=>e2 q.symm) a b ha hb
  rw [cO]
  split
  · rename_i hsp
    k_extra "b3"
    rw [List.getElem?_eq_getElem hpp]
    dsimp only
    have hPp:P (l[(pos - 1) / 2]):=hP _ (List.getElem_mem hpp)
    have hgp:l[(pos - 1) / 2]? = some (l[(pos - 1) / 2]):=List.getElem?_eq_getElem hpp
    generalize l[(pos - 1) / 2]=p at *
    split
    · rename_i hlt
      have hxp:=W.asym _ _ hx hPp hlt
      refine ih ((pos - 1) / 2) (by exact zal [_,_,_,_] 2 qB qA [(1,zu qC,qA),(1,zk 2 qB,qD),(1,zu qD,qA)] rfl hsp (zd1 _ _) (zs3 (zae [_,_] 1 (zn 1) qA [(1,zu qB,qA)] rfl hsp))) (l.set pos p) x (by rw [List.length_set];exact hpp) (hd.up hsp) (l6 hP hPp) hx ?_ ?_ ?_
      · intro i hi hs e1 e2 a b ha hb
        k_extra "f4"
        have e3:pos≠i:=fun q=>e2 (by rw [← q])
        rw [if_neg e3] at hb
        by_cases e4:pos=(i - 1) / 2
        · rw [if_pos e4,if_pos hp] at ha
          cases ha
          exact h2 i _ b hi e4.symm hsp hgp hb
        · rw [if_neg e4] at ha
          exact hB i hi hs (fun q=>e3 q.symm) (fun q=>e4 q.symm) a b ha hb
      · intro i b hi e hb
        rw [List.getElem?_set] at hb
        by_cases e1:pos=i
        · subst e1
          rw [if_pos rfl,if_pos hp] at hb
          cases hb
          exact hxp
        · rw [if_neg e1] at hb
          have hs':s≤(i - 1) / 2:=by rw [e];exact (hd.up hsp).le
          have q:=hB i hi hs' (fun q=>e1 q.symm) (by exact Nat.ne_of_lt (zal [_,_,_,_,_] 2 qB qA [(2,qB,qC),(1,zu qD,qA),(1,zk 2 qC,qE),(1,zu qE,qA)] rfl (zle e) hsp (zd1 _ _) (zs3 (zae [_,_] 1 (zn 1) qA [(1,zu qB,qA)] rfl hsp)))) p b (by rw [e];exact hgp) hb
          exact W.le_trans hx hPp (hP _ (fA hb)) hxp q
      · intro i a b hi e hs' ha hb
        k_extra "f4"
        rw [if_neg (by exact Nat.ne_of_gt (zal [_,_,_,_,_,_] 2 qB qA [(3,zu qC,qD),(2,zk 2 qD,qE),(1,zk 2 qB,qF),(2,zu qE,qA),(1,zu qF,qD)] rfl hs' (zd1 _ _) (zd1 _ _) (zs3 (zae [_,_] 1 (zn 1) qA [(1,zu qB,qA)] rfl hsp)) (zs3 (zae [_,_] 1 (zn 1) qA [(1,zu qB,qA)] rfl hs'))))] at ha
        have q0:lt p a=false:=hB ((pos - 1) / 2) (by exact zal [_,_] 1 (zn 0) qA [(1,zu qB,qA)] rfl hs') ((hd.up hsp).up hs').le (by exact Nat.ne_of_lt (zal [_,_,_,_] 1 qB qA [(1,zu qC,qB),(1,zk 2 qB,qD),(1,zu qD,qA)] rfl hs' (zd1 _ _) (zs3 (zae [_,_] 1 (zn 1) qA [(1,zu qB,qA)] rfl hsp)))) (by exact Nat.ne_of_lt (zal [_,_,_,_,_,_] 2 qB qA [(3,zu qC,qD),(2,zk 2 qD,qE),(1,zk 2 qB,qF),(2,zu qE,qA),(1,zu qF,qD)] rfl hs' (zd1 _ _) (zd1 _ _) (zs3 (zae [_,_] 1 (zn 1) qA [(1,zu qB,qA)] rfl hsp)) (zs3 (zae [_,_] 1 (zn 1) qA [(1,zu qB,qA)] rfl hs')))) a p ha hgp
        by_cases e1:pos=i
        · subst e1
          rw [if_pos rfl,if_pos hp] at hb
          cases hb
          exact q0
        · rw [if_neg e1] at hb
          have q:=hB i hi (by rw [e];exact (hd.up hsp).le) (fun q=>e1 q.symm) (by exact Nat.ne_of_lt (zal [_,_,_,_,_] 1 qB qA [(1,zu qC,qD),(1,qB,qD),(1,zk 2 qD,qE),(1,zu qE,qA)] rfl hs' (zle e) (zd1 _ _) (zs3 (zae [_,_] 1 (zn 1) qA [(1,zu qB,qA)] rfl hsp)))) p b (by rw [e];exact hgp) hb
          exact W.le_trans (hP _ (fA ha)) hPp (hP _ (fA hb)) q0 q
    · rename_i hlt
      exact fin fun _ a ha=>by
       rw [hgp] at ha;cases ha
       simpa using hlt
  · rename_i hsp
    exact fin fun h=>absurd h hsp
theorem jU (s:Nat):∀ (pos:Nat) (l:List α) (x : α),pos < l.length→(bG lt s l pos x).Perm (l.set pos x):=by
 intro pos
 induction pos using Nat.strongRecOn with
 | ind pos ih =>
  intro l x hp
  rw [cO]
  split
  · rename_i hsp
    k_extra "b3"
    rw [List.getElem?_eq_getElem hpp]
    dsimp only
    split
    · refine (ih ((pos - 1) / 2) (by exact zal [_,_,_,_] 2 qB qA [(1,zu qC,qA),(1,zk 2 qB,qD),(1,zu qD,qA)] rfl hsp (zd1 _ _) (zs3 (zae [_,_] 1 (zn 1) qA [(1,zu qB,qA)] rfl hsp))) (l.set pos l[(pos - 1) / 2]) x (by rw [List.length_set];exact hpp)).trans ?_
      have:=List.set_set_perm (as:=l.set pos x) (i:=pos) (j:=(pos - 1) / 2) (by rw [List.length_set];exact hp) (by rw [List.length_set];exact hpp)
      rw [List.getElem_set_ne (by exact Nat.ne_of_gt (zal [_,_,_,_] 2 qB qA [(1,zu qC,qA),(1,zk 2 qB,qD),(1,zu qD,qA)] rfl hsp (zd1 _ _) (zs3 (zae [_,_] 1 (zn 1) qA [(1,zu qB,qA)] rfl hsp)))),List.getElem_set_self,List.set_set] at this
      exact this
    · exact .refl _
  · exact .refl _
theorem wg (W:SW P lt) {l:List α} (hP:∀ a∈l,P a) {pos:Nat} (h : 2 * pos+1 < l.length):bK lt l pos < l.length∧(bK lt l pos - 1) / 2=pos ∧ ∀ i a b,0 < i→(i - 1) / 2=pos→l[bK lt l pos]? = some a→l[i]? = some b→lt b a=false:=by
 have irr:∀ a,P a→lt a a=false:=fun a ha=>by
  cases e:lt a a with
  | false=>rfl
  | true=>have:=W.asym a a ha ha e;rw [e] at this;cases this
 have ha:l[2 * pos+1]? = some (l[2 * pos+1]):=List.getElem?_eq_getElem h
 have two:∀ i,0 < i→(i - 1) / 2=pos→i=2 * pos+1∨i=2 * pos+2:=by intro i h1 h2;k_extra "l"
 unfold bK
 rw [ha]
 by_cases h2 : 2 * pos+2 < l.length
 · have hb:l[2 * pos+2]? = some (l[2 * pos+2]):=List.getElem?_eq_getElem h2
   rw [hb]
   dsimp only
   have pa:=hP _ (List.getElem_mem h)
   have pb:=hP _ (List.getElem_mem h2)
   generalize l[2 * pos+1]=a at *
   generalize l[2 * pos+2]=b at *
   split
   · rename_i hlt
     k_extra "bi"
     rw [ha] at hx;cases hx
     rcases two i hi he with rfl | rfl
     · rw [ha] at hy;cases hy;exact irr _ pa
     · rw [hb] at hy;cases hy;exact W.asym _ _ pa pb hlt
   · rename_i hlt
     refine ⟨h2,by (exact Nat.le_antisymm (zae [_,_,_] 2 qB qA [(1,zk 2 qB,qC),(1,zu qC,zp (zk 2 qA) (zn 2))] rfl (zd1 _ _) (zs3 (zae [_] 1 (zn 1) (zp (zk 2 qA) (zn 2)) [] rfl))) (zae [_,_,_] 2 qB qA [(1,zp (zk 2 qB) (zn 2),zu qC),(1,qC,zu (zk 2 qA))] rfl (zs2 _ _) (zd2 _))),fun i x y hi he hx hy => ?_⟩
     rw [hb] at hx;cases hx
     rcases two i hi he with rfl | rfl
     · rw [ha] at hy;cases hy;simpa using hlt
     · rw [hb] at hy;cases hy;exact irr _ pb
 · have hb:l[2 * pos+2]? = none:=List.getElem?_eq_none (by exact zae [_,_] 1 qB (zp (zk 2 qA) (zn 2)) [(1,qB,zp (zk 2 qA) (zn 2))] rfl (zne h2))
   rw [hb]
   dsimp only
   k_extra "bi"
   rw [ha] at hx;cases hx
   rcases two i hi he with rfl | rfl
   · rw [ha] at hy;cases hy;exact irr _ (hP _ (List.getElem_mem h))
   · rw [hb] at hy;cases hy
theorem wF (W:SW P lt) (s:Nat):∀ (n:Nat) (l:List α) (pos:Nat),l.length - pos=n→pos < l.length→Dsc s pos→(∀ a∈l,P a)→pP lt s l pos →
 (∀ i a b,0 < i→(i - 1) / 2=pos→s < pos→l[(pos - 1) / 2]? = some a→l[i]? = some b→lt b a=false) →
 (cF lt l pos).2 < l.length∧(cF lt l pos).1.length=l.length∧Dsc s (cF lt l pos).2∧(∀ a∈(cF lt l pos).1,P a)∧pP lt s (cF lt l pos).1 (cF lt l pos).2∧l.length≤2 * (cF lt l pos).2+1 ∧ ∀ x,((cF lt l pos).1.set (cF lt l pos).2 x).Perm (l.set pos x):=by
 intro n
 induction n using Nat.strongRecOn with
 | ind n ih =>
  intro l pos hn hp hd hP hB h2
  rw [eV]
  split
  · rename_i h
    refine cA (wg W hP h) ?_
    intro c1 c2 c3
    have hc0:=gB lt l pos
    generalize bK lt l pos=c at *
    rw [List.getElem?_eq_getElem c1]
    dsimp only
    have hgc:l[c]? = some (l[c]):=List.getElem?_eq_getElem c1
    have hPc:P l[c]:=hP _ (List.getElem_mem c1)
    have key:=ih (l.length - c) (by exact zal [_,_,_,_,_,_] 1 qB qA [(1,zu qC,qD),(1,qE,qA),(1,qF,zp qE qC),(1,zp qB qD,qF)] rfl hc0 (zle hn) (zs2 _ _) (zs3 (zae [_,_] 1 qB qA [(1,zu qB,qA)] rfl c1))) (l.set pos l[c]) c (by rw [List.length_set]) (by rw [List.length_set];exact c1) (.step (by exact zal [_,_] 1 (zn 0) qA [(1,zu qB,qA)] rfl hc0) (by rw [c2];exact hd)) (l6 hP hPc) (fun i hi hs e1 e2 a b ha hb=>by
     k_extra "f4"
     by_cases e3:pos=i
     · subst e3
       rw [if_pos rfl,if_pos hp] at hb
       k_extra "cd"
       cases hb
       exact h2 c a _ (by exact zal [_,_] 1 (zn 0) qA [(1,zu (zn 0),qB),(1,zu qB,qA)] rfl hi hc0) c2 (by exact zal [_,_,_,_] 2 qB qA [(2,qB,qC),(1,zu (zn 0),qA),(1,zk 2 qC,qD),(1,zu qD,qA)] rfl hs hi (zd1 _ _) (zs3 (zae [_] 1 (zn 1) qA [(1,zu (zn 0),qA)] rfl hi))) ha hgc
     · rw [if_neg e3] at hb
       by_cases e4:pos=(i - 1) / 2
       · rw [if_pos e4,if_pos hp] at ha
         cases ha
         exact c3 i _ b hi e4.symm hgc hb
       · rw [if_neg e4] at ha
         exact hB i hi hs (fun q=>e3 q.symm) (fun q=>e4 q.symm) a b ha hb) (fun i a b hi he hs ha hb=>by
     k_extra "f4"
     rw [if_pos (by exact Nat.le_antisymm (zae [_,_] 1 qB qA [(1,qB,qA)] rfl (zge c2)) (zae [_,_] 1 qB qA [(1,qB,qA)] rfl (zle c2))),if_pos hp] at ha
     rw [if_neg (by exact Nat.ne_of_lt (zal [_,_,_,_,_] 2 qB qA [(2,qC,qD),(1,zu (zn 0),qA),(2,zu qB,qC),(1,zk 2 qD,qE),(1,zu qE,qA)] rfl (zge he) hi hc0 (zd1 _ _) (zs3 (zae [_] 1 (zn 1) qA [(1,zu (zn 0),qA)] rfl hi))))] at hb
     cases ha
     exact hB i hi (by have:=hd.le;(exact zae [_,_,_] 1 qB qA [(1,zu qB,qC),(1,qC,qA)] rfl hs (zge he))) (by exact Nat.ne_of_gt (zal [_,_,_,_,_] 2 qB qA [(2,qC,qD),(1,zu (zn 0),qA),(2,zu qB,qC),(1,zk 2 qD,qE),(1,zu qE,qA)] rfl (zge he) hi hc0 (zd1 _ _) (zs3 (zae [_] 1 (zn 1) qA [(1,zu (zn 0),qA)] rfl hi)))) (by exact Nat.ne_of_gt (zal [_,_,_] 1 qB qA [(1,qC,qA),(1,zu qB,qC)] rfl (zge he) hc0)) _ b (by rw [he];exact hgc) hb)
    rw [List.length_set] at key
    refine ⟨key.1,key.2.1,key.2.2.1,key.2.2.2.1,key.2.2.2.2.1,key.2.2.2.2.2.1,fun x=>(key.2.2.2.2.2.2 x).trans ?_⟩
    have:=List.set_set_perm (as:=l.set pos x) (i:=pos) (j:=c) (by rw [List.length_set];exact hp) (by rw [List.length_set];exact c1)
    rw [List.getElem_set_ne (by exact Nat.ne_of_lt (zal [_,_] 1 qB qA [(1,zu qB,qA)] rfl hc0)),List.getElem_set_self,List.set_set] at this
    exact this
  · rename_i h
    exact ⟨hp,rfl,hd,hP,hB,by dsimp only;(exact zae [_,_] 1 qB (zu (zk 2 qA)) [(1,qB,zu (zk 2 qA))] rfl (zne h)),fun x => .refl _⟩
theorem iN (W:SW P lt) {l:List α} {s:Nat} {x : α} (hs:s < l.length) (hP:∀ a∈l,P a) (hx:P x) (hB:pP lt s l s):dT lt s (bM lt l s x)∧(bM lt l s x).Perm (l.set s x):=by
 refine iA (wF W s _ l s rfl hs .refl hP hB (fun i a b _ _ h=>absurd h (Nat.lt_irrefl _))) ?_
 intro h1 h2 h3 h4 h5 h6 h7
 unfold bM
 dsimp only
 generalize cF lt l s=r at *
 have hl:(r.1.set r.2 x).length=l.length:=by rw [List.length_set,h2]
 have none:∀ i,0 < i→(i - 1) / 2=r.2→(r.1.set r.2 x)[i]? = none:=fun i hi he=>List.getElem?_eq_none (by exact zae [_,_,_,_,_,_] 1 qB qA [(2,qC,qD),(1,qB,qE),(1,qE,zu (zk 2 qC)),(1,zk 2 qD,qF),(1,zu qF,qA)] rfl (zge he) (zle hl) h6 (zd1 _ _) (zs3 (zae [_] 1 (zn 1) qA [(1,zu (zn 0),qA)] rfl hi)))
 constructor
 · refine jV W s r.2 (r.1.set r.2 x) x (by exact zal [_,_,_] 1 qB qA [(1,qC,qA),(1,zu qB,qC)] rfl (zge hl) h1) h3 (l6 h4 hx) hx ?_ ?_ ?_
   · intro i hi hs' e1 e2 a b ha hb
     rw [List.getElem?_set,if_neg (fun q=>e2 q.symm)] at ha
     rw [List.getElem?_set,if_neg (fun q=>e1 q.symm)] at hb
     exact h5 i hi hs' e1 e2 a b ha hb
   · intro i b hi he hb
     rw [none i hi he] at hb;cases hb
   · intro i a b hi he _ _ hb
     rw [none i hi he] at hb;cases hb
 · refine (jU s r.2 _ x (by exact zal [_,_,_] 1 qB qA [(1,qC,qA),(1,zu qB,qC)] rfl (zge hl) h1)).trans ?_
   rw [List.set_set]
   exact h7 x
theorem wK (W:SW P lt) {l:List α} {x : α} (hP:∀ a∈l,P a) (hx:P x) (hH:dT lt 0 l):dT lt 0 (dI lt l x)∧(dI lt l x).Perm (x::l):=by
 unfold dI
 have hl:(l++[x]).length=l.length+1:=by simp
 constructor
 · refine jV W 0 l.length (l++[x]) x (by exact zal [_,_] 1 qB qA [(1,zu qB,qA)] rfl (zge hl)) (Dsc.zero _) (fun a ha=>(List.mem_append.mp ha).elim (hP a) fun e=>List.mem_singleton.mp e ▸ hx) hx ?_ ?_ ?_
   · intro i hi hs e1 e2 a b ha hb
     have hil:i < l.length:=by
      have:=(List.getElem?_eq_some_iff.mp hb).1;(exact zdi e1 (fun h09=>(zal [_,_] 1 qB qA [(1,zu qB,qA)] rfl h09)) (fun h09=>(False.elim (zar [_,_,_] [(1,zu qA,qB),(1,qB,zu qC),(1,zu qC,qA)] rfl this (zle hl) h09))))
     rw [List.getElem?_append_left (by k_extra "l")] at ha hb
     exact hH i hi hs a b ha hb
   · intro i b hi he hb
     k_extra "bm"
   · intro i a b hi he _ _ hb
     k_extra "bm"
 · refine (jU 0 l.length _ x (by exact zal [_,_] 1 qB qA [(1,zu qB,qA)] rfl (zge hl))).trans ?_
   rw [List.set_append_right _ _ (Nat.le_refl _)]
   simp only [Nat.sub_self,List.set_cons_zero]
   exact List.perm_append_singleton x l
theorem tE (W:SW P lt) {l:List α} (hP:∀ a∈l,P a) (hH:dT lt 0 l) {a : α} (ha:l[0]? = some a):∀ (i:Nat) b,l[i]? = some b→lt b a=false:=by
 intro i
 induction i using Nat.strongRecOn with
 | ind i ih =>
  intro b hb
  by_cases h:i=0
  · subst h
    rw [ha] at hb;cases hb
    cases e:lt a a with
    | false=>rfl
    | true=>have:=W.asym a a (hP _ (fA ha)) (hP _ (fA ha)) e;rw [e] at this;cases this
  · have hi:=(List.getElem?_eq_some_iff.mp hb).1
    have hpp:(i - 1) / 2 < l.length:=by (exact zal [_,_,_,_] 2 qB qA [(2,zu qC,qA),(1,qD,qC),(1,zk 2 qB,qD)] rfl hi (zs1 _ _) (zd1 _ _))
    have hp:l[(i - 1) / 2]? = some (l[(i - 1) / 2]):=List.getElem?_eq_getElem hpp
    exact W.le_trans (hP _ (fA ha)) (hP _ (fA hp)) (hP _ (fA hb)) (ih _ (by exact zdi h (fun h09=>(False.elim (zar [_] [(1,zu qA,zn 0)] rfl h09))) (fun h09=>(zal [_,_,_] 2 qB qA [(1,zu (zn 0),qA),(1,zk 2 qB,qC),(1,zu qC,qA)] rfl h09 (zd1 _ _) (zs3 (zae [_] 1 (zn 1) qA [(1,zu (zn 0),qA)] rfl h09))))) _ hp) (hH i (by exact zdi h (fun h09=>(False.elim (zar [_] [(1,zu qA,zn 0)] rfl h09))) (fun h09=>(zal [_] 1 (zn 0) qA [(1,zu (zn 0),qA)] rfl h09))) (Nat.zero_le _) _ _ hp hb)
theorem yI (W:SW P lt) {l:List α} {d : α} (hne:l≠[]) (hP:∀ a∈l,P a) (hH:dT lt 0 l):dT lt 0 (cZ lt l d).2∧((cZ lt l d).1::(cZ lt l d).2).Perm l ∧ ∀ b∈l,lt b (cZ lt l d).1=false:=by
 obtain ⟨r,z,rfl⟩:∃ r a,l=r++[a]:=by
  k_extra "d8"
  · exact absurd h2 hne
  · exact ⟨r,a,by simpa using h2⟩
 unfold cZ
 have e:(r++[z]).getLastD d=z:=by rw [List.getLastD_eq_getLast?,List.getLast?_concat];rfl
 dsimp only
 rw [e,List.dropLast_concat]
 have hmin:∀ a,(r++[z])[0]? = some a → ∀ b∈r++[z],lt b a=false:=fun a ha b hb=>by
  refine bA (List.getElem?_of_mem hb) ?_
  intro i hi
  exact tE W hP hH ha i b hi
 cases r with
 | nil=>exact ⟨fun i _ _ a b ha _=>by simp at ha,.refl _,hmin z rfl⟩
 | cons a r =>
  dsimp only
  have hPz:P z:=hP z (by simp)
  have hP2:∀ b∈z::r,P b:=fun b hb=>by
   k_extra "ej"
   · exact hPz
   · exact hP b (by simp [hb])
  have hB:pP lt 0 (z::r) 0:=fun i hi _ e1 e2 x y hx hy=>by
   refine bA (⟨(i - 1) / 2 - 1,by (exact zdi e2 (fun h09=>(Nat.le_antisymm (zae [_,_] 1 qB (zu qA) [(1,zu qB,zn 0)] rfl h09) (False.elim (zar [_] [(1,zu qA,zn 0)] rfl h09)))) (fun h09=>(Nat.le_antisymm (zae [_,_] 1 qB (zu qA) [(1,qB,zu qA)] rfl (zs2 _ _)) (zae [_,_] 1 (zu qB) qA [(1,zu qB,qA)] rfl (zs3 (zae [_] 1 (zn 1) qA [(1,zu (zn 0),qA)] rfl h09))))))⟩:∃ j,(i - 1) / 2=j+1) ?_
   intro j hj
   refine bA (⟨i - 1,by (exact Nat.le_antisymm (zae [_,_] 1 qB (zu qA) [(1,qB,zu qA)] rfl (zs2 _ _)) (zae [_,_] 1 (zu qB) qA [(1,zu qB,qA)] rfl (zs3 (zae [_] 1 (zn 1) qA [(1,zu (zn 0),qA)] rfl hi))))⟩:∃ k,i=k+1) ?_
   intro k hk
   have hil:=(List.getElem?_eq_some_iff.mp hy).1
   have hjl:=(List.getElem?_eq_some_iff.mp hx).1
   refine hH i hi (Nat.zero_le _) x y ?_ ?_
   · rw [hj] at hx hjl ⊢
     rw [List.getElem?_cons_succ] at hx
     rw [List.getElem?_append_left (by simp at hjl ⊢;(exact zal [_,_] 1 qB qA [(1,zu qB,qA)] rfl hjl)),List.getElem?_cons_succ]
     exact hx
   · subst hk
     rw [List.getElem?_cons_succ] at hy
     rw [List.getElem?_append_left (by simp at hil ⊢;(exact zal [_,_] 1 qB qA [(1,zu qB,qA)] rfl hil)),List.getElem?_cons_succ]
     exact hy
  have h:=iN W (l:=z::r) (s:=0) (x:=z) (by simp) hP2 hPz hB
  refine ⟨h.1,?_,hmin a rfl⟩
  refine (h.2.cons a).trans ?_
  rw [List.set_cons_zero,List.cons_append]
  exact (List.perm_append_singleton z r).symm.cons a
theorem i6 (W:SW P lt):∀ (k:Nat) (l:List α),k≤l.length / 2→(∀ a∈l,P a)→dT lt k l→dT lt 0 ((List.range k).reverse.foldl (bX lt) l)∧((List.range k).reverse.foldl (bX lt) l).Perm l
 | 0,l,_,_,h=>⟨h,.refl _⟩
 | k+1,l,hk,hP,h=>by
  rw [List.range_succ,List.reverse_append,List.reverse_singleton,List.singleton_append,List.foldl_cons]
  have hkl:k < l.length:=by (exact zal [_,_,_] 1 qB qA [(2,zu qB,qC),(1,zk 2 qC,qA)] rfl hk (zd1 _ _))
  have e:bX lt l k=bM lt l k l[k]:=by unfold bX;rw [List.getElem?_eq_getElem hkl]
  have hs:=iN W (l:=l) (s:=k) (x:=l[k]) hkl hP (hP _ (List.getElem_mem hkl)) (fun i hi hs e1 e2=>h i hi (by exact zdi e2 (fun h09=>(False.elim (zar [_,_] [(1,qA,qB),(1,zu qB,qA)] rfl hs h09))) (fun h09=>(zae [_,_] 1 (zu qB) qA [(1,zu qB,qA)] rfl h09))))
  rw [List.set_getElem_self] at hs
  rw [e]
  have ih:=i6 W k (bM lt l k l[k]) (by rw [fS];(exact zae [_,_] 1 qB qA [(1,zu qB,qA)] rfl hk)) (fun a ha=>hP a (hs.2.mem_iff.mp ha)) hs.1
  exact ⟨ih.1,ih.2.trans hs.2⟩
theorem tD (W:SW P lt) {l:List α} (hP:∀ a∈l,P a):dT lt 0 (cV lt l)∧(cV lt l).Perm l :=
 i6 W (l.length / 2) l (Nat.le_refl _) hP fun i hi hs a b _ hb=>by
  have:=(List.getElem?_eq_some_iff.mp hb).1;(exact False.elim (zar [_,_,_,_,_] [(1,zu qA,qB),(2,qC,qD),(1,qB,zu (zk 2 qC)),(1,zk 2 qD,qE),(1,zu qE,qA)] rfl this hs (zd2 _) (zd1 _ _) (zs3 (zae [_] 1 (zn 1) qA [(1,zu (zn 0),qA)] rfl hi))))
end
end
section
theorem ue {kk n:Nat} {ks ds:List Dat} (hl:ks.length=ds.length) (h2 : 2≤n) (hn:n < ds.length) (hS:Sortable kk ks) (hok:∀ d∈ds,kqdOk (kk+1) d=true) (hcmp:∀ a∈ds,∀ c∈ds,aY (kk+1) a c=true):Sortable (kk+1) (bD (kk+1) ks ds n (ds.length - n)).1:=by
 have hi:=(kT (k:=kk+1) hl hn (ds.length - n) (Nat.le_refl _)).1
 refine iM (fun d hd=>dV hl hS.ok hok (hi d hd)) (fun a ha c hc=>fO hl hS.cmp hcmp (hi a ha) (hi c hc)) (.inl ?_)
 rcases hS.kind with ⟨b,hb⟩ | hb
 · refine ⟨false,fun d hd => ?_⟩
   refine aV (hi d hd) ?_
   rintro j o hj rfl
   refine aV (hb _ (bL (d:=Dat.none) (show j < ks.length by (exact zal [_,_,_] 1 qB qA [(1,zu qB,qC),(1,qC,qA)] rfl hj (zge hl))))) ?_
   intro x r e _
   exact ⟨_,_,rfl,_,e⟩
 · refine ⟨true,fun d hd => ?_⟩
   refine aV (hi d hd) ?_
   rintro j o hj rfl
   refine bA (hb _ (bL (d:=Dat.none) (show j < ks.length by (exact zal [_,_,_] 1 qB qA [(1,zu qB,qC),(1,qC,qA)] rfl hj (zge hl))))) ?_
   intro p e
   exact ⟨_,_,rfl,_,e⟩
end
section
section
variable (names:List Str)
theorem AY {acc:List (List Str)} {k:Nat} {a:List Str}:a∈bF names acc k ↔ a∈acc∨a=names.take k:=by
 unfold bF
 split
 · rename_i h
   constructor
   · exact .inl
   · rintro (q | rfl)
     · exact q
     · exact h
 · rw [List.mem_append,List.mem_singleton]
theorem uB:∀ (ks:List Nat) (acc:List (List Str)) (a:List Str),a∈ks.foldl (bF names) acc ↔ a∈acc ∨ ∃ k∈ks,a=names.take k
 | [],acc,a=>by simp
 | k::ks,acc,a=>by
  rw [List.foldl_cons,uB ks,AY]
  constructor
  · rintro ((q | q) | ⟨j,hj,q⟩)
    · exact .inl q
    · exact .inr ⟨k,.head _,q⟩
    · exact .inr ⟨j,.tail _ hj,q⟩
  · rintro (q | ⟨j,hj,q⟩)
    · exact .inl (.inl q)
    · rcases List.mem_cons.mp hj with rfl | hj
      · exact .inl (.inr q)
      · exact .inr ⟨j,hj,q⟩
theorem yu {acc:List (List Str)} {k:Nat} (h:acc.Nodup):(bF names acc k).Nodup:=by
 unfold bF
 split
 · exact h
 · rename_i hn
   rw [List.nodup_append]
   refine ⟨h,by simp,fun a ha b hb => ?_⟩
   rw [List.mem_singleton.mp hb]
   exact fun e=>hn (e ▸ ha)
theorem qo:∀ (ks:List Nat) (acc:List (List Str)),acc.Nodup→(ks.foldl (bF names) acc).Nodup
 | [],_,h=>h
 | k::ks,acc,h=>qo ks _ (yu names h)
theorem AZ {acc:List (List Str)} {k:Nat}:acc.length≤(bF names acc k).length∧(bF names acc k).length≤acc.length+1:=by
 unfold bF
 split
 · (exact ⟨(Nat.le_refl _),(zae [_] 1 qA (zu qA) [] rfl)⟩)
 · rw [List.length_append,List.length_singleton];(exact ⟨(zae [_] 1 qA (zu qA) [] rfl),(Nat.le_refl _)⟩)
theorem pT:∀ (ks:List Nat) (acc:List (List Str)),acc.length≤(ks.foldl (bF names) acc).length∧(ks.foldl (bF names) acc).length≤acc.length+ks.length
 | [],_=>by simp
 | k::ks,acc=>by
  have h1:=AZ names (acc:=acc) (k:=k)
  have h2:=pT ks (bF names acc k)
  rw [List.foldl_cons,List.length_cons];(exact ⟨(zae [_,_,_] 1 qB qA [(1,qC,qA),(1,qB,qC)] rfl h2.1 h1.1),(zae [_,_,_,_] 1 qC (zp qA (zu qB)) [(1,qC,zp qD qB),(1,qD,zu qA)] rfl h2.2 h1.2)⟩)
end
theorem wx {acc:List (List Str)} {x:Str} {a:List Str}:a∈bR acc x ↔ a∈acc ∨ ∃ k,k≤(aA x).length∧a=(aA x).take k:=by
 unfold bR
 rw [uB]
 constructor
 · rintro (q | ⟨k,hk,q⟩)
   · exact .inl q
   · exact .inr ⟨k,by have:=List.mem_range.mp hk;(exact zae [_,_] 1 qB qA [(1,zu qB,zu qA)] rfl this),q⟩
 · rintro (q | ⟨k,hk,q⟩)
   · exact .inl q
   · exact .inr ⟨k,List.mem_range.mpr (by exact zal [_,_] 1 qB (zu qA) [(1,qB,qA)] rfl hk),q⟩
theorem uF:∀ (ts:List Str) (acc:List (List Str)) (a:List Str),a∈ts.foldl bR acc ↔ a∈acc ∨ ∃ x∈ts,∃ k,k≤(aA x).length∧a=(aA x).take k
 | [],acc,a=>by simp
 | x::ts,acc,a=>by
  rw [List.foldl_cons,uF ts,wx]
  constructor
  · rintro ((q | q) | ⟨y,hy,q⟩)
    · exact .inl q
    · exact .inr ⟨x,.head _,q⟩
    · exact .inr ⟨y,.tail _ hy,q⟩
  · rintro (q | ⟨y,hy,q⟩)
    · exact .inl (.inl q)
    · rcases List.mem_cons.mp hy with rfl | hy
      · exact .inl (.inr q)
      · exact .inr ⟨y,hy,q⟩
theorem je {ts:List Str} {a:List Str}:a∈bT ts ↔ ∃ x∈ts,∃ k,k≤(aA x).length∧a=(aA x).take k:=by
 unfold bT
 rw [uF];simp
theorem qp:∀ (ts:List Str) (acc:List (List Str)),acc.Nodup→(ts.foldl bR acc).Nodup
 | [],_,h=>h
 | x::ts,acc,h=>qp ts _ (qo _ _ _ h)
theorem vq (ts:List Str):(bT ts).Nodup:=qp ts [] List.nodup_nil
theorem A7 {acc:List (List Str)} {x:Str} (h:(aA x).length≤3):acc.length≤(bR acc x).length∧[]∈bR acc x∧(bR acc x).length≤acc.length+3+(if []∈acc then 0 else 1):=by
 refine ⟨(pT _ _ _).1,wx.mpr (.inr ⟨0,by (exact zae [_] 1 (zn 0) qA [] rfl),rfl⟩),?_⟩
 unfold bR
 rw [List.range_succ_eq_map,List.foldl_cons]
 have h1:=(pT (aA x) (List.map Nat.succ (List.range (aA x).length)) (bF (aA x) acc 0)).2
 rw [List.length_map,List.length_range] at h1
 have h2:(bF (aA x) acc 0).length=acc.length+(if []∈acc then 0 else 1):=by
  unfold bF
  rw [List.take_zero]
  split
  · rfl
  · rw [List.length_append];rfl
 (exact zae [_,_,_,_,_] 1 qC (zp (zp qA (zn 3)) qB) [(1,qD,zp qA qB),(1,qC,zp qD qE),(1,qE,zn 3)] rfl (zle h2) h1 h)
theorem pU:∀ (ts:List Str) (acc:List (List Str)),(∀ x∈ts,(aA x).length≤3)→acc.length≤(ts.foldl bR acc).length∧(ts.foldl bR acc).length≤acc.length+3 * ts.length+(if []∈acc then 0 else 1)
 | [],acc,_=>by simp
 | x::ts,acc,h=>by
  have h1:=A7 (acc:=acc) (h x (.head _))
  have h2:=pU ts (bR acc x) fun y hy=>h y (.tail _ hy)
  rw [if_pos h1.2.1] at h2
  rw [List.foldl_cons,List.length_cons]
  (exact ⟨(zae [_,_,_] 1 qB qA [(1,qC,qA),(1,qB,qC)] rfl h2.1 h1.1),(zae [_,_,_,_,_] 1 qD (zp (zp qA (zk 3 (zu qB))) qC) [(1,qD,zp (zp qE (zk 3 qB)) (zn 0)),(1,qE,zp (zp qA (zn 3)) qC)] rfl h2.2 h1.2.2)⟩)
theorem yv:(bT [aO 17,aO 170]).length=4:=by decide +kernel
theorem pV (script:List Int):∀ x∈aL script,(∀ a∈aA x,Nm a)∧(aA x).length≤3:=fun x hx=>by
 k_extra "gu"
 rintro n _ rfl
 exact eL n
theorem gO (script:List Int):(∀ l∈bT (aL script),(∀ a∈l,Nm a)∧l.length≤3)∧((bT (aL script)).length≤19∧4≤(bT (aL script)).length):=by
 refine ⟨fun l hl => ?_,?_,?_⟩
 · obtain ⟨x,hx,k,hk,rfl⟩:=je.mp hl
   have:=pV script x hx
   exact ⟨fun a ha=>this.1 a (List.mem_of_mem_take ha),by rw [List.length_take];(exact zae [_,_] 1 qA (zn 3) [(1,qB,zn 3),(1,qA,qB)] rfl this.2 (Nat.min_le_right _ _))⟩
 · have h1:=(pU (aL script) [] fun x hx=>(pV script x hx).2).2
   have h2:=(ij script).2
   unfold bT
   simp at h1
   (exact zae [_,_] 1 qA (zn 19) [(1,qA,zu (zk 3 qB)),(3,qB,zn 6)] rfl h1 h2)
 · have e:aL script=[aO 17,aO 170]++(script.take 4).map aO:=rfl
   have h:=yv
   unfold bT at h ⊢
   rw [e,List.foldl_append]
   have h1:=(pU ((script.take 4).map aO) ([aO 17,aO 170].foldl bR []) fun x hx=>(pV script x (by rw [e];exact List.mem_append_right _ hx)).2).1
   (exact zae [_,_] 1 (zn 4) qA [(1,qB,qA),(1,zn 4,qB)] rfl h1 (zge h))
theorem ik (script:List Int):aM script∈aL script:=by
 have h1:=ij script
 unfold aM
 k_extra "db"
 k_extra "c7"
 exact bL (by k_extra "l")
theorem tZ {ts:List Str} {a:List Str} (h:a∈bT ts) (k:Nat):a.take k∈bT ts:=by
 obtain ⟨x,hx,j,hj,rfl⟩:=je.mp h
 exact je.mpr ⟨x,hx,min k j,by (exact zae [_,_,_] 1 qB qA [(1,qC,qA),(1,qB,qC)] rfl hj (Nat.min_le_right _ _)),by rw [List.take_take]⟩
theorem ze (script:List Int):aA (aM script)∈bT (aL script):=je.mpr ⟨_,ik script,_,Nat.le_refl _,(List.take_length).symm⟩
theorem jY (script:List Int):Sortable 0 ((bT (aL script)).map fun l=>cX (cP (aA (aM script)) l)):=by
 k_extra "df"
 · k_extra "bk"
   rintro l hl rfl
   have h:=((gO script).1 l hl).1
   exact okR (fX h) (eY h) 0
 · k_extra "bb"
   rintro l hl rfl
   refine aE (List.mem_map.mp hc) ?_
   rintro k hk rfl
   rfl
 · k_extra "bk"
   rintro l hl rfl
   exact ⟨_,_,rfl,_,rfl⟩
theorem jZ (script:List Int):Sortable 0 (rK script):=by
 k_extra "df"
 · refine aE (List.mem_map.mp (List.mem_reverse.mp hd)) ?_
   rintro l hl rfl
   have h:=((gO script).1 l hl).1
   have:=fX (home:=aA (aM script)) h
   simp [ti,kqdOk,this]
 · refine aE (List.mem_map.mp (List.mem_reverse.mp ha)) ?_
   rintro l hl rfl
   refine aE (List.mem_map.mp (List.mem_reverse.mp hc)) ?_
   rintro k hk rfl
   rfl
 · refine aE (List.mem_map.mp (List.mem_reverse.mp hd)) ?_
   rintro l hl rfl
   exact ⟨_,_,rfl,_,rfl⟩
theorem j3 (script:List Int):Sortable 0 (rM script):=by
 refine iM (fun d hd => ?_) (fun a ha c hc => ?_) (.inr fun d hd => ?_)
 · k_extra "bk"
   rintro l hl rfl
   rfl
 · k_extra "bb"
   rintro l hl rfl
   refine aE (List.mem_map.mp hc) ?_
   rintro k hk rfl
   rfl
 · k_extra "bk"
   rintro l hl rfl
   exact ⟨_,rfl⟩
theorem rG {tr:List (List Str)}:Sortable 0 ((List.range tr.length).map (dO tr)):=by
 k_extra "df"
 · k_extra "bk"
   rintro l hl rfl
   rfl
 · k_extra "bb"
   rintro l hl rfl
   refine aE (List.mem_map.mp hc) ?_
   rintro k hk rfl
   rfl
 · k_extra "bk"
   rintro l hl rfl
   exact ⟨_,_,rfl,_,rfl⟩
end
section
noncomputable def bH (home l:List Str):List Str:=List.replicate (home.length - aI home l) (Str.ofString "..")++l.drop (aI home l)
theorem xh:∀ {home:List Str} {k:Nat} {s:List Str},k≤home.length→(∀ a,s.head? = some a→home[k]? ≠ some a)→aI home (home.take k++s)=k
 | home,0,s,_,h=>by
  cases home with
  | nil=>simp [aI]
  | cons b home =>
   cases s with
   | nil=>simp [aI]
   | cons a s =>
    have:b≠a:=fun e=>h a rfl (by rw [e];rfl)
    simp [aI,this]
 | [],k+1,s,hk,_=>by simp at hk
 | b::home,k+1,s,hk,h=>by
  have ih:=xh (home:=home) (k:=k) (s:=s) (by simpa using hk) (fun a ha=>by simpa using h a ha)
  simp [aI,ih]
theorem jv:∀ (home l:List Str),∃ s,l=home.take (aI home l)++s∧aI home l≤home.length∧(∀ a,s.head? = some a→home[aI home l]? ≠ some a)
 | [],l=>⟨l,by simp [aI],by simp [aI],by simp [aI]⟩
 | b::home,[]=>⟨[],by simp [aI],by simp [aI],by simp⟩
 | b::home,a::l=>by
  refine cH (jv home l) ?_
  intro s h1 h2 h3
  by_cases e:b=a
  · subst e
    refine ⟨s,?_,?_,fun a ha => ?_⟩
    · simp only [aI,if_true]
      rw [List.take_succ_cons,List.cons_append,← h1]
    · simp only [aI,if_true,List.length_cons];(exact zae [_,_] 1 (zu qB) (zu qA) [(1,qB,qA)] rfl h2)
    · simp only [aI,if_true,List.getElem?_cons_succ];exact h3 a ha
  · refine ⟨a::l,by simp [aI,e],by simp [aI,e],fun c hc => ?_⟩
    simp only [aI,if_neg e,List.getElem?_cons_zero]
    simp only [List.head?_cons,Option.some.injEq] at hc ⊢
    rw [← hc];exact fun q=>e (Option.some.inj q)
theorem eB {home:List Str} {k:Nat} {s:List Str} (hk:k≤home.length) (h:∀ a,s.head? = some a→home[k]? ≠ some a):bH home (home.take k++s)=List.replicate (home.length - k) (Str.ofString "..")++s:=by
 unfold bH
 rw [xh hk h]
 rw [List.drop_left' (by rw [List.length_take];k_extra "l")]
theorem vR (home:List Str):bH home home=[]:=by
 have:=eB (home:=home) (k:=home.length) (s:=[]) (Nat.le_refl _) (by simp)
 simpa using this
theorem eJ {home:List Str} {k:Nat} (hk:k≤home.length):bH home (home.take k)=List.replicate (home.length - k) (Str.ofString ".."):=by
 have:=eB (home:=home) (k:=k) (s:=[]) hk (by simp)
 simpa using this
theorem nz (n:Nat) (v:Str):List.replicate (n+1) v=List.replicate n v++[v]:=by rw [List.replicate_succ']
noncomputable def mvW (p:List Str) (nm:Str):List Str:=if nm=Str.ofString ".." then p.dropLast else p++[nm]
theorem vM {home q:List Str} (hq:∀ a∈q,Nm a) (hne:q≠home):∃ v nm,bH home q=bH home v++[nm]∧((nm=Str.ofString ".." ∧ (∃ k,k < home.length∧v=home.take (k+1)∧q=home.take k))∨q=v++[nm]):=by
 refine cH (jv home q) ?_
 intro s h1 h2 h3
 generalize aI home q=k at *
 rcases List.eq_nil_or_concat s with hs | ⟨s0,a,hs⟩
 · subst hs
   rw [List.append_nil] at h1
   have hk:k < home.length:=by
    rcases Nat.lt_or_ge k home.length with h | h
    · exact h
    · exact absurd (by rw [h1,List.take_of_length_le h]) hne
   refine ⟨home.take (k+1),_,?_,.inl ⟨rfl,k,hk,rfl,h1⟩⟩
   rw [h1,eJ h2,eJ (by exact zae [_,_] 1 (zu qB) qA [(1,zu qB,qA)] rfl hk),← nz]
   congr 1;(exact Nat.le_antisymm (zae [_,_,_,_] 1 qB (zu qA) [(1,qC,zp qA (zu qD)),(1,zp qB qD,qC)] rfl (zs2 _ _) (zs3 (zae [_,_] 1 qB qA [(1,zu qB,qA)] rfl hk))) (zae [_,_,_,_] 1 (zu qB) qA [(1,qC,zp qA qD),(1,zp qB (zu qD),qC)] rfl (zs2 _ _) (zs3 (zae [_,_] 1 (zu qB) qA [(1,zu qB,qA)] rfl hk))))
 · rw [List.concat_eq_append] at hs
   subst hs
   refine ⟨home.take k++s0,a,?_,.inr (by rw [h1,List.append_assoc])⟩
   rw [h1,eB h2 h3,eB h2 (fun b hb=>h3 b (by cases s0 with | nil=>simp at hb | cons c s0=>simpa using hb)),List.append_assoc]
theorem w6 {home p:List Str} (hp:∀ a∈p,Nm a) {nm:Str} (hn:nm=Str.ofString ".." ∨ nm≠Str.ofString ".."):bH home (mvW p nm)=bH home p++[nm]∨mvW p nm=p ∨ ∃ c,bH home p=bH home (mvW p nm)++[c]:=by
 refine cH (jv home p) ?_
 intro s h1 h2 h3
 generalize aI home p=k at *
 unfold mvW
 rcases hn with rfl | hn
 · rw [if_pos rfl]
   rcases List.eq_nil_or_concat s with hs | ⟨s0,a,hs⟩
   · subst hs
     rw [List.append_nil] at h1
     cases k with
     | zero=>exact .inr (.inl (by rw [h1];simp))
     | succ k =>
      have e:p.dropLast=home.take k:=by
       rw [h1,List.dropLast_eq_take,List.length_take,List.take_take]
       congr 1;k_extra "l"
      refine .inl ?_
      rw [e,h1,eJ h2,eJ (by exact zae [_,_] 1 qB qA [(1,zu qB,qA)] rfl h2),← nz]
      congr 1;(exact Nat.le_antisymm (zae [_,_,_,_] 1 qB (zu qA) [(1,qC,zp qA (zu qD)),(1,zp qB qD,qC)] rfl (zs2 _ _) (zs3 (zae [_,_] 1 qB qA [(1,zu qB,qA)] rfl h2))) (zae [_,_,_,_] 1 (zu qB) qA [(1,qC,zp qA qD),(1,zp qB (zu qD),qC)] rfl (zs2 _ _) (zs3 (zae [_,_] 1 (zu qB) qA [(1,zu qB,qA)] rfl h2))))
   · rw [List.concat_eq_append] at hs
     subst hs
     refine .inr (.inr ⟨a,?_⟩)
     rw [h1,← List.append_assoc,List.dropLast_concat,List.append_assoc,eB h2 h3,eB h2 (fun b hb=>h3 b (by cases s0 with | nil=>simp at hb | cons c s0=>simpa using hb)),List.append_assoc]
 · rw [if_neg hn]
   by_cases hc:s=[]∧home[k]? = some nm
   · refine bV (hc) ?_
     (try clear hc);rintro rfl hc
     rw [List.append_nil] at h1
     have hk:=(List.getElem?_eq_some_iff.mp hc).1
     refine .inr (.inr ⟨Str.ofString "..",?_⟩)
     have e:p++[nm]=home.take (k+1):=by rw [h1,List.take_add_one,hc];rfl
     rw [e,h1,eJ h2,eJ (by exact zae [_,_] 1 (zu qB) qA [(1,zu qB,qA)] rfl hk),← nz]
     congr 1;(exact Nat.le_antisymm (zae [_,_,_,_] 1 qB (zu qA) [(1,qC,zp qA (zu qD)),(1,zp qB qD,qC)] rfl (zs2 _ _) (zs3 (zae [_,_] 1 qB qA [(1,zu qB,qA)] rfl hk))) (zae [_,_,_,_] 1 (zu qB) qA [(1,qC,zp qA qD),(1,zp qB (zu qD),qC)] rfl (zs2 _ _) (zs3 (zae [_,_] 1 (zu qB) qA [(1,zu qB,qA)] rfl hk))))
   · refine .inl ?_
     rw [h1,List.append_assoc,eB h2 h3,eB h2 (fun b hb => ?_),List.append_assoc]
     cases s with
     | nil =>
      simp at hb
      subst hb
      exact fun e=>hc ⟨rfl,e⟩
     | cons c s=>exact h3 b (by simpa using hb)
theorem fP {home l:List Str} (h:∀ a∈l,Nm a):∀ a∈bH home l,Mv a:=fun a ha=>by
 k_extra "ca"
 · rw [(List.mem_replicate.mp ha).2];exact vV
 · exact vG (h a (List.mem_of_mem_drop ha))
theorem uJ (acc:List Str):aF acc (Str.ofString "..")=acc.dropLast:=by
 unfold aF;rw [if_pos rfl]
theorem z0 (acc:List Str) {a:Str} (h:Nm a):aF acc a=acc++[a]:=by
 unfold aF
 rw [if_neg h.dd,if_neg]
 rintro (q | q)
 · exact h.ne (jh q)
 · exact h.dot q
theorem z4 (p:List Str) {nm:Str} (h:nm=Str.ofString ".." ∨ Nm nm):aF p nm=mvW p nm:=by
 unfold mvW
 rcases h with rfl | h
 · rw [if_pos rfl,uJ]
 · rw [if_neg h.dd,z0 p h]
theorem vf:∀ (n:Nat) (acc:List Str),(List.replicate n (Str.ofString "..")).foldl aF acc=acc.take (acc.length - n)
 | 0,acc=>by simp
 | n+1,acc=>by
  rw [List.replicate_succ,List.foldl_cons,uJ,vf n,List.length_dropLast,List.dropLast_eq_take,List.take_take,Nat.sub_sub,Nat.add_comm 1 n,Nat.min_eq_left (Nat.sub_le_sub_left (Nat.succ_le_succ (Nat.zero_le n)) _)]
theorem jx {home l:List Str} (h:∀ a∈l,Nm a):(bH home l).foldl aF home=l:=by
 refine cH (jv home l) ?_
 intro s h1 h2 h3
 have e:l.drop (aI home l)=s:=by
  conv=>lhs;rw [h1]
  rw [List.drop_left' (by rw [List.length_take,← h1];k_extra "l")]
 unfold bH
 rw [List.foldl_append,vf,hO _ _ (fun a ha=>h a (List.mem_of_mem_drop ha)),e]
 rw [show home.length - (home.length - aI home l)=aI home l by (exact Nat.le_antisymm (zae [_,_,_,_] 1 qB qA [(1,qC,zp qD qA),(1,zp qB qD,qC)] rfl (zs2 _ _) (zs3 (zae [_,_] 1 qB qA [(1,qB,qA)] rfl (zs1 _ _)))) (zae [_,_,_,_] 1 qB qA [(1,qC,zp qA qD),(1,zp qD qB,qC)] rfl (zs2 _ _) (zs3 (zae [_,_] 1 qB qA [(1,qB,qA)] rfl h2))))]
 exact h1.symm
theorem lz {r:List Str} (h:∀ a∈r,Mv a) (acc:List Str):(Txt.split (Txt.join (Str.ofString "/") r) (Str.ofString "/")).foldl aF acc=r.foldl aF acc:=by
 by_cases hr:r=[]
 · subst hr
   rw [nG,iL,List.foldl_cons,ji]
 · rw [gP hr fun a ha=>(h a ha).1]
end
section
noncomputable def POk (e:Ent):Prop:=PyData.strOk e.2=true
theorem tK {a b:Ent} (h:bQ a=bQ b):a=b:=by
 obtain ⟨n,x⟩:=a
 obtain ⟨m,y⟩:=b
 unfold bQ at h
 k_extra "e5"
 k_extra "c2"
 rw [h1,h.2]
theorem pW:SW POk ltE:=⟨fun a b ha hb h=>jB (okE ha 1) (okE hb 1) h,fun a b c ha hb hc h=>qk (okE ha 1) (okE hb 1) (okE hc 1) rfl h⟩
theorem Cx {a b:Ent} (ha:POk a) (hb:POk b) (h:a≠b):ltE a b=true∨ltE b a=true:=gX 2 _ _ (okE ha 1) (okE hb 1) rfl fun e=>h (tK e)
theorem CE {a b:Ent} (h:a.1 < b.1):ltE a b=true:=by
 obtain ⟨n,x⟩:=a
 obtain ⟨m,y⟩:=b
 show dlt 2 (bQ (n,x)) (bQ (m,y))=true
 unfold bQ
 show bN (dlt 1) [.int (n:Int),.str x] [.int (m:Int),.str y]=true
 unfold bN
 have hne:¬ PyData.eqv (kqdP (.int (n:Int))) (kqdP (.int (m:Int)))=true:=fun q=>by
  have:=(cW (n:=1) (a := .int (n:Int)) (b := .int (m:Int)) rfl rfl).mp q
  have h2:=Dat.int.inj this
  dsimp only at h;(exact zar [_,_] [(1,qA,qB),(1,zu qB,qA)] rfl (zge (ziq h2)) h)
 rw [if_neg hne]
 show decide ((n:Int) < (m:Int))=true
 dsimp only at h
 rw [decide_eq_true_eq];(exact zmt (zal [_,_] 1 qB qA [(1,zu qB,qA)] rfl h))
noncomputable def gR (r:List Str):Ent:=((Txt.join (Str.ofString "/") r).length,Txt.join (Str.ofString "/") r)
noncomputable def bO (home l:List Str):Ent:=gR (bH home l)
theorem v4 {r:List Str} {c:Str} (h:Mv c):(gR r).1 < (gR (r++[c])).1:=by
 have hc : 0 < (cp c).length:=List.length_pos_iff.mpr (vW h)
 unfold gR
 dsimp only
 rw [← dM,← dM,bY,bY,List.map_append]
 by_cases hr:r=[]
 · subst hr;simpa [bE] using hc
 · rw [show [c].map cp=[cp c] from rfl,gQ (by simpa using hr)];simp
theorem qf {r:List Str} (h:∀ a∈r,PyData.strOk a=true):PyData.strOk (Txt.join (Str.ofString "/") r)=true:=by
 rw [cE,bY]
 intro c hc
 k_extra "d1"
 · decide
 · k_extra "bb"
   rintro q hq rfl
   exact (cE q).mp (h q hq) c hc
theorem iw {home l:List Str} (h:∀ a∈l,Nm a):∀ a∈bH home l,PyData.strOk a=true:=fun a ha=>by
 k_extra "ca"
 · rw [(List.mem_replicate.mp ha).2];exact rN.1
 · exact (h a (List.mem_of_mem_drop ha)).ok
theorem Az {r:List Str} (h:∀ a∈r,Mv a) (h2:∀ a∈r,PyData.strOk a=true):GR (Txt.join (Str.ofString "/") r):=by
 refine ⟨qf h2,fun e => ?_⟩
 rw [bY] at e
 cases r with
 | nil=>simp [bE] at e
 | cons a r =>
  have ha:=h a (.head _)
  have hne:=vW ha
  cases r with
  | nil=>exact ha.1 (List.mem_of_head? e)
  | cons b r =>
   simp only [List.map_cons,bE] at e
   cases hc:cp a with
   | nil=>exact hne hc
   | cons x y =>
    rw [hc] at e
    simp only [List.cons_append,List.head?_cons,Option.some.injEq] at e
    exact ha.1 (by show 47∈cp a;rw [hc,e];exact .head _)
theorem sq (n:Int) {r:List Str} (h:∀ a∈r,Mv a) (h2:∀ a∈r,PyData.strOk a=true):bZ (aG (aO n) (Txt.join (Str.ofString "/") r))=aB (r.foldl aF (aA (aO n))):=by
 rw [wX n (Az h h2),lz h]
theorem Ay {home l k:List Str} (h1:∀ a∈l,Nm a) (h2:∀ a∈k,Nm a) (h:bO home l=bO home k):l=k:=by
 have e:Txt.join (Str.ofString "/") (bH home l)=Txt.join (Str.ofString "/") (bH home k):=congrArg Prod.snd h
 rw [← jx (home:=home) h1,← jx (home:=home) h2,← lz (fP h1),← lz (fP h2),e]
theorem kQ {text:Str}:∀ (ns:List Str) (H:List Ent),(∀ e∈H,POk e)→(∀ nm∈ns,POk ((aG text nm).length,aG text nm))→dT ltE 0 H →
 dT ltE 0 (cC text H ns) ∧ ∀ e,e∈cC text H ns ↔ e∈H ∨ ∃ nm∈ns,e=((aG text nm).length,aG text nm)
 | [],H,_,_,hH=>⟨hH,fun e=>by simp [cC]⟩
 | nm::ns,H,h1,h2,hH=>by
  have hx:=h2 nm (.head _)
  have s:=wK pW h1 hx hH
  have ih:=kQ (text:=text) ns _ (fun e he=>by
   rcases List.mem_cons.mp (s.2.mem_iff.mp he) with rfl | he
   · exact hx
   · exact h1 e he) (fun m hm=>h2 m (.tail _ hm)) s.1
  have e0:cC text H (nm::ns)=cC text (dI ltE H ((aG text nm).length,aG text nm)) ns:=rfl
  rw [e0]
  refine ⟨ih.1,fun e=>(ih.2 e).trans ?_⟩
  rw [s.2.mem_iff,List.mem_cons]
  constructor
  · rintro ((h | h) | ⟨m,hm,h⟩)
    · exact .inr ⟨nm,.head _,h⟩
    · exact .inl h
    · exact .inr ⟨m,.tail _ hm,h⟩
  · rintro (h | ⟨m,hm,h⟩)
    · exact .inl (.inr h)
    · rcases List.mem_cons.mp hm with rfl | hm
      · exact .inl (.inl h)
      · exact .inr ⟨m,hm,h⟩
noncomputable def Kid (tr:List (List Str)) (p:List Str) (nm:Str):Prop:=nm=Str.ofString ".." ∨ (Nm nm∧p++[nm]∈tr)
theorem y6 {tr:List (List Str)} (h:∀ l∈tr,∀ a∈l,Nm a) {p:List Str} (hp:∀ a∈p,Nm a) {nm:Str}:nm∈dJ (tr.map aB) (aB p) ↔ Kid tr p nm:=by
 unfold dJ Kid
 rw [List.mem_cons]
 refine or_congr Iff.rfl ?_
 rw [List.mem_map]
 constructor
 · intro hr1q
   refine aE (hr1q) ?_
   (try clear hr1q);rintro q hq rfl
   rw [List.mem_filter,Bool.and_eq_true,decide_eq_true_eq,decide_eq_true_eq] at hq
   refine cA (hq) ?_
   (try clear hq);intro hq hd hne
   k_extra "e3"
   rintro l hl rfl
   have hln:=h l hl
   k_extra "d8"
   · subst h2
     rw [zw] at hd
     exact absurd hd hne
   · rw [List.concat_eq_append] at h2
     subst h2
     have ha:Nm a:=hln a (by simp)
     have hr:∀ b∈r,Nm b:=fun b hb=>hln b (by simp [hb])
     rw [nV ha.sf fun b hb=>⟨(hr b hb).ne,(hr b hb).sf⟩] at hd
     have e:=eW hr hp hd
     subst e
     rw [iE _ ha.sf]
     exact ⟨ha,hl⟩
 · intro hr2q
   refine bV (hr2q) ?_
   (try clear hr2q);intro ha hl
   refine ⟨aB (p++[nm]),?_,iE _ ha.sf⟩
   rw [List.mem_filter,Bool.and_eq_true,decide_eq_true_eq,decide_eq_true_eq]
   refine ⟨List.mem_map_of_mem hl,nV ha.sf fun b hb=>⟨(hp b hb).ne,(hp b hb).sf⟩,fun e => ?_⟩
   have:=congrArg List.length (eW (h _ hl) hp e)
   simp at this
end
section
structure TreeOk (home:List Str) (tr:List (List Str)):Prop where
 nm:∀ l∈tr,∀ a∈l,Nm a
 pre:∀ l∈tr,∀ k,l.take k∈tr
 home:home∈tr
 nd:tr.Nodup
structure Dij (home:List Str) (tr:List (List Str)) (H:List Ent) (ls:List (List Str)):Prop where
 nd:ls.Nodup
 sub:∀ l∈ls,l∈tr
 srt:ls.Pairwise fun a b=>ltE (bO home a) (bO home b)=true
 ahead:∀ l∈ls,∀ q∈tr,q ∉ ls→ltE (bO home l) (bO home q)=true
 heap:dT ltE 0 H
 ok:∀ e∈H,POk e
 ent:∀ e∈H,(ls=[]∧e=bO home home) ∨ ∃ p∈ls,∃ nm,Kid tr p nm∧e=gR (bH home p++[nm])
 one:ls=[]→H=[bO home home]
 fwd:∀ q∈tr,q ∉ ls→(q=home ∨ ∃ p∈ls,∃ nm,Kid tr p nm∧bH home q=bH home p++[nm])→bO home q∈H
section
variable {home:List Str} {tr:List (List Str)}
theorem xr {p:List Str} {nm:Str} (k:Kid tr p nm):nm=Str.ofString ".." ∨ Nm nm:=k.imp id And.left
theorem qe (T:TreeOk home tr) {p:List Str} (hp:p∈tr) {nm:Str} (k:Kid tr p nm):mvW p nm∈tr:=by
 unfold mvW
 rcases k with rfl | ⟨h,h2⟩
 · rw [if_pos rfl,List.dropLast_eq_take];exact T.pre p hp _
 · rw [if_neg h.dd];exact h2
theorem lk {p:List Str} {nm:Str} (k:Kid tr p nm):Mv nm∧PyData.strOk nm=true:=by
 rcases k with rfl | ⟨h,_⟩
 · exact ⟨vV,rN.1⟩
 · exact ⟨vG h,h.ok⟩
theorem fH (T:TreeOk home tr) {q:List Str} (hq:q∈tr):POk (bO home q):=qf (iw (T.nm q hq))
theorem xM (T:TreeOk home tr) {p:List Str} (hp:p∈tr) {nm:Str} (k:Kid tr p nm):POk (gR (bH home p++[nm])):=qf fun a ha=>by
 k_extra "ca"
 · exact iw (T.nm p hp) a ha
 · rw [List.mem_singleton.mp ha];exact (lk k).2
theorem uP (T:TreeOk home tr) {q:List Str} (hq:q∈tr) (hne:q≠home):∃ v∈tr,∃ nm,Kid tr v nm∧bH home q=bH home v++[nm]:=by
 refine aV (vM (home:=home) (T.nm q hq) hne) ?_
 intro v nm h1 h2
 rcases h2 with ⟨rfl,k,hk,hv,_⟩ | h2
 · exact ⟨v,hv ▸ T.pre home T.home _,_,.inl rfl,h1⟩
 · refine ⟨v,?_,nm,.inr ⟨T.nm q hq nm (by rw [h2];simp),h2 ▸ hq⟩,h1⟩
   have:=T.pre q hq v.length
   rw [h2,List.take_left'  rfl] at this
   exact this
theorem xt {p q:List Str} {c:Str} (hc:Mv c) (h:bH home p=bH home q++[c]):ltE (bO home q) (bO home p)=true:=by
 refine CE ?_
 unfold bO
 rw [h]
 exact v4 hc
theorem vO {p:List Str} {r:List Str} {c:Str} (hp:∀ a∈p,Nm a) (h:bH home p=r++[c]):Mv c:=fP (home:=home) hp c (by rw [h];simp)
theorem CF (T:TreeOk home tr) {H:List Ent} {ls:List (List Str)} (D:Dij home tr H ls) {e:Ent} (hmin:∀ b∈H,ltE b e=false) (heo:POk e):∀ (m:Nat) (u:List Str),(bH home u).length=m→u∈tr→u ∉ ls→ltE (bO home u) e=false:=by
 intro m
 induction m using Nat.strongRecOn with
 | ind m ih =>
  intro u hm hu hn
  by_cases hh:u=home
  · exact hmin _ (D.fwd u hu hn (.inl hh))
  · obtain ⟨v,hv,nm,k,hnm⟩:=uP T hu hh
    by_cases hvl:v∈ls
    · exact hmin _ (D.fwd u hu hn (.inr ⟨v,hvl,nm,k,hnm⟩))
    · have h1:=ih (bH home v).length (by rw [← hm,hnm];simp) v rfl hv hvl
      have h2:=xt (lk k).1 hnm
      exact pW.le_trans heo (fH T hv) (fH T hu) h1 (pW.asym _ _ (fH T hv) (fH T hu) h2)
variable {n:Int}
theorem qM (T:TreeOk (aA (aO n)) tr) {u:List Str} (hu:u∈tr):bZ (aG (aO n) (bO (aA (aO n)) u).2)=aB u:=by
 have:=sq n (fP (home:=aA (aO n)) (T.nm u hu)) (iw (T.nm u hu))
 rw [jx (T.nm u hu)] at this
 exact this
theorem wO (T:TreeOk (aA (aO n)) tr) {p:List Str} (hp:p∈tr) {nm:Str} (k:Kid tr p nm):bZ (aG (aO n) (gR (bH (aA (aO n)) p++[nm])).2)=aB (mvW p nm):=by
 have:=sq n (r:=bH (aA (aO n)) p++[nm]) (fun a ha=>by
  k_extra "ca"
  · exact fP (T.nm p hp) a ha
  · rw [List.mem_singleton.mp ha];exact (lk k).1) (fun a ha=>by
  k_extra "ca"
  · exact iw (T.nm p hp) a ha
  · rw [List.mem_singleton.mp ha];exact (lk k).2)
 rw [List.foldl_append,jx (T.nm p hp),List.foldl_cons,z4 p (xr k)] at this
 exact this
end
end
section
section
variable {tr:List (List Str)} {n:Int}
theorem zx {home:List Str} (hh:aA (aO n)=home) (T:TreeOk home tr) {H:List Ent} {ls:List (List Str)} (D:Dij home tr H ls) (hne:H≠[]) :
 ∃ H' ls',cB (aO n) (tr.map aB) (H,ls.map (cP home))=(H',ls'.map (cP home))∧Dij home tr H' ls'∧((ls'=ls∧H'.length+1=H.length) ∨ ∃ q,ls'=ls++[q]∧H'.length+1=H.length+(dJ (tr.map aB) (aB q)).length):=by
 have hpop:=yI pW (d:=(0,Str.ofString "")) hne D.ok D.heap
 unfold cB
 rw [if_neg hne]
 dsimp only
 generalize cZ ltE H (0,Str.ofString "")=r at *
 obtain ⟨r1,r2⟩:=r
 refine cA (hpop) ?_
 (try clear hpop);intro h1 h2 h3
 dsimp only at h1 h2 h3 ⊢
 have hmem:∀ e,e∈H ↔ e=r1∨e∈r2:=fun e=>by rw [← h2.mem_iff,List.mem_cons]
 have he:r1∈H:=(hmem r1).mpr (.inl rfl)
 have hlen:r2.length+1=H.length:=by rw [← h2.length_eq];rfl
 have hr1:POk r1:=D.ok r1 he
 obtain ⟨q,hq,hpl,hkey⟩:∃ q∈tr,bZ (aG (aO n) r1.2)=aB q∧(q ∉ ls→r1=bO home q):=by
  rcases D.ent r1 he with ⟨_,hk⟩ | ⟨p,hp,nm,k,hk⟩
  · refine ⟨home,T.home,?_,fun _=>hk⟩
    rw [hk];subst hh;exact qM T T.home
  · have hpt:=D.sub p hp
    refine ⟨mvW p nm,qe T hpt k,?_,fun hn => ?_⟩
    · rw [hk];subst hh;exact wO T hpt k
    · have hnb:=w6 (home:=home) (T.nm p hpt) (nm:=nm) ((xr k).imp id Nm.dd)
      rcases hnb with h | h | ⟨c,h⟩
      · unfold bO;rw [h];exact hk
      · rw [h] at hn;exact absurd hp hn
      · have hb:=D.ahead p hp _ (qe T hpt k) hn
        have hb2:=xt (vO (T.nm p hpt) h) h
        rw [pW.asym _ _ (fH T (qe T hpt k)) (fH T hpt) hb2] at hb
        cases hb
 have hpk:∀ u∈tr,bO home u=r1→u=q:=fun u hu e=>by
  have:bZ (aG (aO n) (bO home u).2)=aB u:=by subst hh;exact qM T hu
  rw [e,hpl] at this
  exact (eW (T.nm q hq) (T.nm u hu) this).symm
 rw [hpl]
 have hmap:aB q∈(ls.map (cP home)).map (fun r=>r.2.2) ↔ q∈ls:=by
  rw [List.map_map,List.mem_map]
  constructor
  · intro hr1q
    refine aE (hr1q) ?_
    (try clear hr1q);intro l hl e
    have:l=q:=eW (T.nm l (D.sub l hl)) (T.nm q hq) e
    exact this ▸ hl
  · exact fun h=>⟨q,h,rfl⟩
 by_cases hql:q∈ls
 · rw [if_pos (hmap.mpr hql)]
   refine ⟨r2,ls,rfl,⟨D.nd,D.sub,D.srt,D.ahead,h1,fun e h=>D.ok e ((hmem e).mpr (.inr h)),fun e h=>D.ent e ((hmem e).mpr (.inr h)),fun h => ?_,fun u hu hul hp => ?_⟩,.inl ⟨rfl,hlen⟩⟩
   · rw [h] at hql;cases hql
   · rcases (hmem _).mp (D.fwd u hu hul hp) with e | h
     · exact absurd (hpk u hu e ▸ hql) hul
     · exact h
 · rw [if_neg (fun q'=>hql (hmap.mp q'))]
   have hk:=hkey hql
   subst hk
   have hkm:∀ nm,nm∈dJ (tr.map aB) (aB q) ↔ Kid tr q nm:=fun nm=>y6 T.nm (T.nm q hq)
   have hent:∀ nm,Kid tr q nm→((aG (bO home q).2 nm).length,aG (bO home q).2 nm)=gR (bH home q++[nm]):=fun nm k=>by
    have e:aG (bO home q).2 nm=Txt.join (Str.ofString "/") (bH home q++[nm]):=uZ (fP (T.nm q hq)) (lk k).1
    rw [e];rfl
   have hpa:=kQ (text:=(bO home q).2) (dJ (tr.map aB) (aB q)) r2 (fun e h=>D.ok e ((hmem e).mpr (.inr h))) (fun nm hn=>by rw [hent nm ((hkm nm).mp hn)];exact xM T hq ((hkm nm).mp hn)) h1
   have hpl2:=(fT (text:=(bO home q).2) (dJ (tr.map aB) (aB q)) r2).2
   generalize cC (bO home q).2 r2 (dJ (tr.map aB) (aB q))=H' at *
   have hmin:∀ u∈tr,u ∉ ls→u≠q→ltE (bO home q) (bO home u)=true:=fun u hu hul hne2=>by
    have hl:=CF T D h3 hr1 _ u rfl hu hul
    rcases Cx hr1 (fH T hu) (fun e=>hne2 (hpk u hu e.symm)) with h | h
    · exact h
    · rw [hl] at h;cases h
   have hlq:∀ x,x∈ls++[q] ↔ x∈ls∨x=q:=fun x=>by rw [List.mem_append,List.mem_singleton]
   refine ⟨H',ls++[q],?_,⟨?_,?_,?_,?_,hpa.1,?_,?_,?_,?_⟩,.inr ⟨q,rfl,by (exact Nat.le_antisymm (zae [_,_,_,_] 1 (zu qC) (zp qA qB) [(1,qC,zp qD qB),(1,zu qD,qA)] rfl (zle hpl2) (zle hlen)) (zae [_,_,_,_] 1 (zp qB qC) (zu qA) [(1,zp qD qC,qA),(1,qB,zu qD)] rfl (zge hpl2) (zge hlen)))⟩⟩
   · rw [List.map_append];rfl
   · rw [List.nodup_append]
     exact ⟨D.nd,by simp,fun a ha b hb e=>hql (by rw [List.mem_singleton.mp hb] at e;exact e ▸ ha)⟩
   · intro l hl
     rcases (hlq l).mp hl with h | rfl
     · exact D.sub l h
     · exact hq
   · rw [List.pairwise_append]
     refine ⟨D.srt,by simp,fun a ha b hb => ?_⟩
     rw [List.mem_singleton.mp hb]
     exact D.ahead a ha q hq hql
   · intro l hl u hu hul
     have hu1:u ∉ ls:=fun h=>hul ((hlq u).mpr (.inl h))
     have hu2:u≠q:=fun h=>hul ((hlq u).mpr (.inr h))
     rcases (hlq l).mp hl with h | rfl
     · exact D.ahead l h u hu hu1
     · exact hmin u hu hu1 hu2
   · intro e h
     rcases (hpa.2 e).mp h with h | ⟨nm,hn,rfl⟩
     · exact D.ok e ((hmem e).mpr (.inr h))
     · rw [hent nm ((hkm nm).mp hn)];exact xM T hq ((hkm nm).mp hn)
   · intro e h
     refine .inr ?_
     rcases (hpa.2 e).mp h with h | ⟨nm,hn,rfl⟩
     · rcases D.ent e ((hmem e).mpr (.inr h)) with ⟨h0,_⟩ | ⟨p,hp,nm,k,hk⟩
       · have:=D.one h0
         rw [this] at hlen
         simp at hlen
         rw [hlen] at h;cases h
       · exact ⟨p,(hlq p).mpr (.inl hp),nm,k,hk⟩
     · exact ⟨q,(hlq q).mpr (.inr rfl),nm,(hkm nm).mp hn,hent nm ((hkm nm).mp hn)⟩
   · intro h;simp at h
   · intro u hu hul hp
     have hu1:u ∉ ls:=fun h=>hul ((hlq u).mpr (.inl h))
     have hu2:u≠q:=fun h=>hul ((hlq u).mpr (.inr h))
     have keep:(u=home ∨ ∃ p∈ls,∃ nm,Kid tr p nm∧bH home u=bH home p++[nm])→bO home u∈H':=fun hp=>by
      rcases (hmem _).mp (D.fwd u hu hu1 hp) with e | h
      · exact absurd (hpk u hu e) hu2
      · exact (hpa.2 _).mpr (.inl h)
     rcases hp with hp | ⟨p,hp,nm,k,hn⟩
     · exact keep (.inl hp)
     · rcases (hlq p).mp hp with h | rfl
       · exact keep (.inr ⟨p,h,nm,k,hn⟩)
       · refine (hpa.2 _).mpr (.inr ⟨nm,(hkm nm).mpr k,?_⟩)
         rw [hent nm k];unfold bO;rw [hn]
theorem xS {home:List Str} (T:TreeOk home tr):Dij home tr [(0,Str.ofString "")] []:=by
 have e:bO home home=(0,Str.ofString ""):=by
  unfold bO gR;rw [vR,nG];rfl
 refine ⟨.nil,(fun _ h=>nomatch h),.nil,(fun _ h=>nomatch h),fun i hi hs a b ha hb => ?_,fun e' h => ?_,fun e' h => .inl ⟨rfl,?_⟩,fun _=>by rw [e],fun q hq _ h => ?_⟩
 · have:=(List.getElem?_eq_some_iff.mp hb).1
   simp at this;(exact False.elim (zar [_] [(1,qA,zn 0),(1,zu (zn 0),qA)] rfl (zle this) hi))
 · rw [List.mem_singleton.mp h];exact nM.1
 · rw [List.mem_singleton.mp h,e]
 · rcases h with rfl | ⟨p,hp,_⟩
   · rw [e];exact .head _
   · cases hp
end
end
section
theorem uI {α:Type} [DecidableEq α]:∀ {l k:List α},l.Nodup→(∀ a∈l,a∈k)→l.length≤k.length
 | [],k,_,_=>Nat.zero_le _
 | a::l,k,h1,h2=>by
  rw [List.nodup_cons] at h1
  have ha:a∈k:=h2 a (.head _)
  have h3:=uI (l:=l) (k:=k.erase a) h1.2 (fun b hb=>(List.mem_erase_of_ne (fun (e:b=a)=>h1.1 (by rw [← e];exact hb))).mpr (h2 b (.tail _ hb)))
  rw [List.length_erase_of_mem ha] at h3
  have : 0 < k.length:=List.length_pos_of_mem ha
  rw [List.length_cons];(exact zae [_,_,_] 1 (zu qB) qA [(1,qB,qC),(1,zu qC,qA)] rfl h3 (zs3 (zae [_] 1 (zn 1) qA [(1,zu (zn 0),qA)] rfl this)))
theorem uH {α β:Type} [DecidableEq β] (f : α → β) (c : α→Bool) (x : β):∀ (ls:List α),(ls.map f).Nodup→(ls.map fun l=>if (decide (x=f l) && c l)=true then 1 else 0).sum≤1
 | [],_=>by simp
 | a::ls,h=>by
  rw [List.map_cons,List.nodup_cons] at h
  rw [List.map_cons,List.sum_cons]
  have ih:=uH f c x ls h.2
  by_cases e:x=f a
  · have z:(ls.map fun l=>if (decide (x=f l) && c l)=true then 1 else 0).sum=0:=by
     have:∀ (ks:List α),(∀ b∈ks,x≠f b)→(ks.map fun l=>if (decide (x=f l) && c l)=true then 1 else 0).sum=0:=by
      intro ks
      induction ks with
      | nil=>intro _;rfl
      | cons b ks ihk =>
       intro hk
       rw [List.map_cons,List.sum_cons,ihk (fun d hd=>hk d (.tail _ hd)),decide_eq_false (hk b (.head _))]
       simp
     exact this ls fun b hb q=>h.1 (by rw [← e,q];exact List.mem_map_of_mem hb)
    rw [z]
    split <;> k_extra "l"
  · rw [decide_eq_false e]
    simpa using ih
theorem pX {α:Type} (f g : α→Nat):∀ ls:List α,(ls.map fun l=>f l+g l).sum=(ls.map f).sum+(ls.map g).sum
 | []=>rfl
 | a::ls=>by simp only [List.map_cons,List.sum_cons,pX f g ls];(exact Nat.le_antisymm (zae [_,_,_,_] 1 (zp (zp qA qC) (zp qB qD)) (zp (zp qA qB) (zp qC qD)) [] rfl) (zae [_,_,_,_] 1 (zp (zp qA qC) (zp qB qD)) (zp (zp qA qB) (zp qC qD)) [] rfl))
theorem kq {α:Type} (c:Nat):∀ ls:List α,(ls.map fun _=>c).sum=c * ls.length
 | []=>by simp
 | a::ls=>by simp only [List.map_cons,List.sum_cons,kq c ls,List.length_cons,Nat.mul_succ];(exact Nat.le_antisymm (zae [_,_] 1 (zp qB qA) (zp qA qB) [] rfl) (zae [_,_] 1 (zp qB qA) (zp qA qB) [] rfl))
theorem og {α:Type} (f : α→Str) (ls:List α) (hn:(ls.map f).Nodup):∀ (Q:List Str),(ls.map fun l=>(Q.filter fun q=>decide (aR q=f l) && decide (q≠f l)).length).sum≤Q.length
 | []=>by
  simp only [List.filter_nil,List.length_nil]
  rw [kq];(exact zae [_] 1 (zk 0 qA) (zn 0) [] rfl)
 | q::Q=>by
  have ih:=og f ls hn Q
  have h1:=uH f (fun l=>decide (q≠f l)) (aR q) ls hn
  have e:(fun l=>((q::Q).filter fun q=>decide (aR q=f l) && decide (q≠f l)).length)=fun l=>(if (decide (aR q=f l) && decide (q≠f l))=true then 1 else 0)+(Q.filter fun q=>decide (aR q=f l) && decide (q≠f l)).length:=by
   funext l
   rw [List.filter_cons]
   split
   · rw [List.length_cons];(exact Nat.le_antisymm (zae [_] 1 (zu qA) (zp (zn 1) qA) [] rfl) (zae [_] 1 (zp (zn 1) qA) (zu qA) [] rfl))
   · (exact Nat.le_antisymm (zae [_] 1 qA (zp (zn 0) qA) [] rfl) (zae [_] 1 (zp (zn 0) qA) qA [] rfl))
  rw [e,pX,List.length_cons]
  (exact zae [_,_,_] 1 (zp qB qC) (zu qA) [(1,qB,zn 1),(1,qC,qA)] rfl h1 ih)
section
variable {tr:List (List Str)} {n:Int} {home:List Str}
noncomputable def pe (tr:List (List Str)) (l:List Str):Nat:=(dJ (tr.map aB) (aB l)).length
theorem y5 (T:TreeOk home tr) {ls:List (List Str)} (h1:ls.Nodup) (h2:∀ l∈ls,l∈tr):(ls.map (pe tr)).sum≤2 * tr.length:=by
 have hm:(ls.map aB).Nodup:=by
  unfold List.Nodup
  rw [List.pairwise_map]
  exact h1.imp_of_mem fun ha hb hne e=>hne (eW (T.nm _ (h2 _ ha)) (T.nm _ (h2 _ hb)) e)
 have h3:=og aB ls hm (tr.map aB)
 have e:pe tr=fun l=>1+((tr.map aB).filter fun q=>decide (aR q=aB l) && decide (q≠aB l)).length:=by
  funext l
  unfold pe dJ
  rw [List.length_cons,List.length_map];(exact Nat.le_antisymm (zae [_] 1 (zu qA) (zp (zn 1) qA) [] rfl) (zae [_] 1 (zp (zn 1) qA) (zu qA) [] rfl))
 rw [e,pX,kq]
 have h4:=uI h1 h2
 rw [List.length_map] at h3
 (exact zae [_,_,_] 1 (zp (zk 1 qB) qC) (zk 2 qA) [(1,qB,qA),(1,qC,qA)] rfl h4 h3)
theorem rl (hh:aA (aO n)=home) (T:TreeOk home tr):∀ i,∃ H ls,aZ (cB (aO n) (tr.map aB)) i ([(0,Str.ofString "")],[])=(H,ls.map (cP home))∧Dij home tr H ls∧(H=[]∨i+H.length=1+(ls.map (pe tr)).sum)
 | 0=>⟨_,[],rfl,xS T,.inr rfl⟩
 | i+1=>by
  refine cJ (rl hh T i) ?_
  intro H ls h1 h2 h3
  rw [aZ,h1]
  by_cases he:H=[]
  · subst he
    refine ⟨[],ls,?_,h2,.inl rfl⟩
    unfold cB;rw [if_pos rfl]
  · refine cJ (zx hh T h2 he) ?_
    intro H' ls' a b c
    refine ⟨H',ls',a,b,.inr ?_⟩
    have h4:=h3.resolve_left he
    rcases c with ⟨rfl,c⟩ | ⟨q,rfl,c⟩
    · (exact Nat.le_antisymm (zae [_,_,_,_] 1 (zp (zu qB) qC) (zp (zn 1) qA) [(1,zp qB qD,zp (zn 1) qA),(1,zu qC,qD)] rfl (zle h4) (zle c)) (zae [_,_,_,_] 1 (zp (zn 1) qC) (zp (zu qA) qB) [(1,zp (zn 1) qC,zp qA qD),(1,qD,zu qB)] rfl (zge h4) (zge c)))
    · rw [List.map_append,List.sum_append]
      simp only [List.map_cons,List.map_nil,List.sum_cons,List.sum_nil,pe] at *
      (exact Nat.le_antisymm (zae [_,_,_,_,_] 1 (zp (zu qC) qD) (zp (zn 1) (zp qA (zp qB (zn 0)))) [(1,zu qD,zp qE qB),(1,zp qC qE,zp (zn 1) qA)] rfl (zle c) (zle h4)) (zae [_,_,_,_,_] 1 (zp (zn 1) (zp qC (zp qD (zn 0)))) (zp (zu qA) qB) [(1,zp qE qD,zu qB),(1,zp (zn 1) qC,zp qA qE)] rfl (zge c) (zge h4)))
theorem AM (hh:aA (aO n)=home) (T:TreeOk home tr):∃ ls:List (List Str),jf (aO n) (tr.map aB)=([],ls.map (cP home))∧ls.Perm tr∧ls.Pairwise fun a b=>ltE (bO home a) (bO home b)=true:=by
 refine cJ (rl hh T (2 * (tr.map aB).length+1)) ?_
 intro H ls h1 D h3
 have hs:=y5 T D.nd D.sub
 have hH:H=[]:=by
  rcases h3 with h | h
  · exact h
  · rw [List.length_map] at h;exact List.eq_nil_of_length_eq_zero (by exact Nat.le_antisymm (zae [_,_,_] 1 qA (zn 0) [(1,zp (zu (zk 2 qB)) qA,zp (zn 1) qC),(1,qC,zk 2 qB)] rfl (zle h) hs) (zae [_] 1 (zn 0) qA [] rfl))
 subst hH
 have all:∀ (m:Nat) (u:List Str),(bH home u).length=m→u∈tr→u∈ls:=by
  intro m
  induction m using Nat.strongRecOn with
  | ind m ih =>
   intro u hm hu
   refine Classical.byContradiction fun hn => ?_
   by_cases hh2:u=home
   · exact nomatch D.fwd u hu hn (.inl hh2)
   · obtain ⟨v,hv,nm,k,hnm⟩:=uP T hu hh2
     exact nomatch D.fwd u hu hn (.inr ⟨v,ih _ (by rw [← hm,hnm];simp) v rfl hv,nm,k,hnm⟩)
 refine ⟨ls,h1,?_,D.srt⟩
 rw [List.perm_ext_iff_of_nodup D.nd T.nd]
 exact fun a=>⟨D.sub a,all _ a rfl⟩
end
end
section
theorem jO {k:Nat} {ks es:List Dat} (h1:∀ d∈ks,kqdOk k d=true) (h2:∀ a∈ks,∀ c∈ks,aY k a c=true) (hn:ks.Nodup) (h:bB k ks ks es):es.Perm ks∧es.Pairwise fun a b=>dlt k a b=true:=by
 refine cH (h) ?_
 (try clear h);rintro p hp hs rfl
 have hm:∀ {i},i∈p→i < ks.length:=fun {i} hi=>List.mem_range.mp (hp.mem_iff.mp hi)
 constructor
 · have:=hp.map fun i=>ks.getD i .none
   refine this.trans (.of_eq ?_)
   refine List.ext_getElem (by simp) fun i hi _ => ?_
   simp only [List.length_map,List.length_range] at hi
   k_extra "ee"
 · rw [List.pairwise_map]
   have hnd:p.Nodup:=hp.nodup_iff.mpr List.nodup_range
   have both:p.Pairwise fun a b=>SB (bC k ks) a b∧a≠b:=by
    have:=hs.and hnd
    exact this
   refine both.imp_of_mem fun {a b} ha hb ⟨hab,hne⟩ => ?_
   have la:=hm ha
   have lb:=hm hb
   rcases hab with h | ⟨h,_⟩
   · exact h
   · have ea:ks.getD a .none=ks[a]:=by rw [List.getD_eq_getElem?_getD,List.getElem?_eq_getElem la];rfl
     have eb:ks.getD b .none=ks[b]:=by rw [List.getD_eq_getElem?_getD,List.getElem?_eq_getElem lb];rfl
     have hd:ks[a]≠ks[b]:=fun e=>by
      have hg:=List.pairwise_iff_getElem.mp hn
      rcases Nat.lt_or_gt_of_ne hne with q | q
      · exact hg a b la lb q e
      · exact hg b a lb la q e.symm
     have ma:ks[a]∈ks:=List.getElem_mem la
     have mb:ks[b]∈ks:=List.getElem_mem lb
     unfold bC at h
     rw [ea,eb] at h ⊢
     rcases gX k _ _ (h1 _ ma) (h1 _ mb) (h2 _ ma _ mb) hd with q | q
     · exact q
     · rw [h] at q;cases q
theorem lZ (script:List Int):TreeOk (aA (aM script)) (bT (aL script)) :=
 ⟨fun l hl=>((gO script).1 l hl).1,fun l hl k=>tZ hl k,ze script,vq _⟩
theorem Ba {home l k:List Str} (h1:PyData.strOk (cN home l)=true) (h2:PyData.strOk (cN home k)=true) (h:ltE (bO home l) (bO home k)=true):dlt 1 (cX (cP home l)) (cX (cP home k))=true:=by
 have h':dlt 2 (bQ ((cN home l).length,cN home l)) (bQ ((cN home k).length,cN home k))=true:=h
 unfold bQ at h'
 unfold cX cP
 change bN (dlt 1) [.int ((cN home l).length:Int),.str (cN home l)] [.int ((cN home k).length:Int),.str (cN home k)]=true at h'
 show bN (dlt 0) [.int ((cN home l).length:Int),.str (cN home l),.str (aB l)] [.int ((cN home k).length:Int),.str (cN home k),.str (aB k)]=true
 generalize cN home l=x at *
 generalize cN home k=y at *
 unfold bN at h' ⊢
 split
 · rename_i e
   rw [if_pos e] at h'
   unfold bN at h' ⊢
   split
   · rename_i e2
     rw [if_pos e2] at h'
     simp [bN] at h'
   · rename_i e2
     rw [if_neg e2] at h'
     exact h'
 · rename_i e
   rw [if_neg e] at h'
   exact h'
theorem zq {a b:Row} (h:cX a=cX b):a=b:=by
 obtain ⟨n,x,p⟩:=a
 obtain ⟨m,y,q⟩:=b
 unfold cX at h
 k_extra "e5"
 k_extra "c2"
 rw [h1,h.2.1,h.2.2]
theorem vB (script:List Int):(fD script).Nodup:=by
 unfold fD List.Nodup
 rw [List.pairwise_map]
 have T:=lZ script
 exact T.nd.imp_of_mem fun ha hb hne e=>hne (eW (T.nm _ ha) (T.nm _ hb) (congrArg (fun r:Row=>r.2.2) (zq e)))
theorem wu (script:List Int):∃ ls:List (List Str),jf (aM script) ((bT (aL script)).map aB)=([],ls.map (cP (aA (aM script))))∧ls.Perm (bT (aL script))∧ls.Pairwise fun a b=>ltE (bO (aA (aM script)) a) (bO (aA (aM script)) b)=true:=by
 refine aE (List.mem_map.mp (ik script)) ?_
 intro n _ e
 have T:=lZ script
 rw [← e] at T ⊢
 exact AM rfl T
theorem tN (script:List Int) {es:List Dat} (h:bB 1 (fD script) (fD script) es):∃ ls:List (List Str),jf (aM script) ((bT (aL script)).map aB)=([],ls.map (cP (aA (aM script))))∧ls.Perm (bT (aL script))∧(ls.Pairwise fun a b=>ltE (bO (aA (aM script)) a) (bO (aA (aM script)) b)=true)∧es=ls.map fun l=>cX (cP (aA (aM script)) l):=by
 refine cH (wu script) ?_
 intro ls h1 h2 h3
 refine ⟨ls,h1,h2,h3,?_⟩
 have S:=jY script
 have T:=lZ script
 have hs:=jO S.ok S.cmp (vB script) h
 have hp:(ls.map fun l=>cX (cP (aA (aM script)) l)).Perm (fD script):=h2.map _
 refine fV (hs.1.trans hp.symm) (fun x hx y hy hxy hyx => ?_) hs.2 ?_
 · have:=jB (S.ok _ (hs.1.mem_iff.mp hx)) (S.ok _ (hs.1.mem_iff.mp hy)) hxy
   rw [hyx] at this;cases this
 · rw [List.pairwise_map]
   refine h3.imp_of_mem fun ha hb hab=>Ba ?_ ?_ hab
   · exact fX (T.nm _ (h2.mem_iff.mp ha))
   · exact fX (T.nm _ (h2.mem_iff.mp hb))
theorem yw (script:List Int) {es:List Dat} (h:bB 1 (fD script) (fD script) es):(jf (aM script) ((bT (aL script)).map aB)).2.map cX=es∧(jf (aM script) ((bT (aL script)).map aB)).1=[]:=by
 refine pE (tN script h) ?_
 intro ls h1 _ _ h4
 rw [h1,h4]
 exact ⟨by rw [List.map_map];rfl,rfl⟩
end
section
noncomputable def TP (ks ds:List Dat) (p:Nat × Nat):Dat := .tuple [ks.getD p.1 .none,.int (p.2:Int),ds.getD p.1 .none]
theorem ud {α β:Type} {f : α → β}:∀ {l:List β} {k:List α},l.Perm (k.map f) → ∃ k':List α,k'.Perm k∧l=k'.map f:=by
 intro l
 induction l with
 | nil =>
  intro k h
  have:k.map f=[]:=List.nil_perm.mp h
  exact ⟨[],by rw [List.map_eq_nil_iff] at this;rw [this],rfl⟩
 | cons a l ih =>
  intro k h
  have ha:a∈k.map f:=h.mem_iff.mp (.head _)
  k_extra "bb"
  rintro x hx rfl
  refine pD (List.append_of_mem hx) ?_
  rintro k1 k2 rfl
  have e:(k1++x::k2).Perm (x::(k1++k2)):=List.perm_middle
  have h2:=(h.trans (e.map f))
  rw [List.map_cons,List.perm_cons] at h2
  refine aE (ih h2) ?_
  rintro k' p rfl
  exact ⟨x::k',(p.cons x).trans e.symm,rfl⟩
theorem w4 {α β:Type}:∀ {js:List (α × β)},(js.map Prod.fst).Nodup → ∀ {p q : α × β},p∈js→q∈js→p.1=q.1→p=q
 | [],_,p,q,hp,_,_=>nomatch hp
 | a::js,h,p,q,hp,hq,e=>by
  rw [List.map_cons,List.nodup_cons] at h
  rcases List.mem_cons.mp hp with e1 | h1 <;> rcases List.mem_cons.mp hq with e2 | h2
  · rw [e1,e2]
  · exact absurd (List.mem_map.mpr ⟨q,h2,by rw [← e,e1]⟩) h.1
  · exact absurd (List.mem_map.mpr ⟨p,h1,by rw [e,e2]⟩) h.1
  · exact w4 h.2 h1 h2 e
section
variable {k:Nat} {ks ds:List Dat}
theorem zL (hl:ks.length=ds.length) (hok:∀ d∈ks,kqdOk (k+1) d=true) (hcmp:∀ a∈ks,∀ c∈ks,aY (k+1) a c=true) {p q:Nat × Nat} (hp:p.1 < ds.length) (hq:q.1 < ds.length) (hne:p.1≠q.1) (h1:p.1 < q.1→p.2 < q.2) (h2:q.1 < p.1→q.2 < p.2) :
 dlt (k+2) (TP ks ds p) (TP ks ds q)=true ↔ SB (bC (k+1) ks) p.1 q.1:=by
 have m1:=bL (d:=Dat.none) (show p.1 < ks.length by (exact zal [_,_,_] 1 qB qA [(1,zu qB,qC),(1,qC,qA)] rfl hp (zge hl)))
 have m2:=bL (d:=Dat.none) (show q.1 < ks.length by (exact zal [_,_,_] 1 qB qA [(1,zu qB,qC),(1,qC,qA)] rfl hq (zge hl)))
 have o1:=hok _ m1
 have o2:=hok _ m2
 have c1:=hcmp _ m1 _ m2
 show bN (dlt (k+1)) [ks.getD p.1 .none,.int (p.2:Int),ds.getD p.1 .none] [ks.getD q.1 .none,.int (q.2:Int),ds.getD q.1 .none]=true ↔ _
 unfold SB bC
 generalize ks.getD p.1 .none=x at *
 generalize ks.getD q.1 .none=y at *
 rw [bN]
 by_cases e:x=y
 · subst e
   rw [if_pos ((cW o1 o1).mpr rfl),mh _ _ o1,bN]
   have i1:kqdOk (k+1) (Dat.int (p.2:Int))=true:=rfl
   have i2:kqdOk (k+1) (Dat.int (q.2:Int))=true:=rfl
   rw [if_neg (fun h=>by
    have:=(cW i1 i2).mp h
    injection this with this
    k_extra "l")]
   show decide ((p.2:Int) < (q.2:Int))=true ↔ _
   rw [decide_eq_true_eq]
   constructor
   · intro h
     exact .inr ⟨rfl,by k_extra "l"⟩
   · rintro (h | h)
     · cases h
     · have:=h1 h.2;(exact zmt (zal [_,_] 1 qB qA [(1,zu qB,qA)] rfl this))
 · rw [if_neg (fun h=>e ((cW o1 o2).mp h))]
   constructor
   · exact .inl
   · rintro (h | h)
     · exact h
     · rcases gX _ x y o1 o2 c1 e with q | q
       · exact q
       · rw [h.1] at q;cases q
structure NsI (k:Nat) (ks ds:List Dat) (n m:Nat) (st:List Dat × Nat) (js:List (Nat × Nat)):Prop where
 perm:st.1.Perm (js.map (TP ks ds))
 nd:(js.map Prod.fst).Nodup
 len:js.length=n
 lt:∀ p∈js,p.1 < m∧p.2 < st.2
 mono:∀ p∈js,∀ q∈js,p.1 < q.1→p.2 < q.2
 heap:dT (fun p q=>dlt (k+2) q p) 0 st.1
 top:∀ i,i < m→i ∉ js.map Prod.fst → ∀ p∈js,SB (bC (k+1) ks) p.1 i
theorem uC (hl:ks.length=ds.length) (h1:∀ d∈ks,kqdOk (k+1) d=true) (h2:∀ a∈ks,∀ c∈ks,aY (k+1) a c=true) (h3:∀ d∈ds,kqdOk (k+1) d=true) (h4:∀ a∈ds,∀ c∈ds,aY (k+1) a c=true):SW (dQ ks ds) (fun p q=>dlt (k+2) q p) :=
 ⟨fun a b ha hb h=>jB (dV hl h1 h3 hb) (dV hl h1 h3 ha) h,fun a b c ha hb hc h=>(qk (dV hl h1 h3 hc) (dV hl h1 h3 hb) (dV hl h1 h3 ha) (fO hl h2 h4 hc hb) h).symm⟩
theorem uE {m:Nat} {p:Nat × Nat} (h:p.1 < m) (hm:m≤ds.length):dQ ks ds (TP ks ds p):=⟨p.1,p.2,by (exact zal [_,_,_] 1 qB qA [(1,qC,qA),(1,zu qB,qC)] rfl hm h),rfl⟩
theorem yP {n:Nat} (hl:ks.length=ds.length) (hn:n < ds.length) (h1:∀ d∈ks,kqdOk (k+1) d=true) (h2:∀ a∈ks,∀ c∈ks,aY (k+1) a c=true) (h3:∀ d∈ds,kqdOk (k+1) d=true) (h4:∀ a∈ds,∀ c∈ds,aY (k+1) a c=true):NsI k ks ds n n (bD (k+1) ks ds n 0) ((List.range n).map fun j=>(j,j)):=by
 have e:(List.range n).map (gC ks ds)=((List.range n).map fun j=>(j,j)).map (TP ks ds):=by rw [List.map_map];rfl
 have hs:=tD (uC hl h1 h2 h3 h4) (l:=(List.range n).map (gC ks ds)) (fun a ha=>by
  k_extra "bb"
  rintro j hj rfl
  rw [List.mem_range] at hj
  exact ⟨j,j,by (exact zal [_,_,_] 1 qB qA [(1,zu qB,qC),(1,zu qC,qA)] rfl hj hn),rfl⟩)
 have ef:((List.range n).map fun j=>(j,j)).map Prod.fst=List.range n:=by
  rw [List.map_map];exact List.map_id _
 refine ⟨hs.2.trans (.of_eq e),?_,?_,?_,?_,hs.1,?_⟩
 · rw [ef];exact List.nodup_range
 · simp
 · intro p hp
   refine aE (List.mem_map.mp hp) ?_
   rintro j hj rfl
   rw [List.mem_range] at hj
   exact ⟨hj,hj⟩
 · intro p hp q hq h
   refine aE (List.mem_map.mp hp) ?_
   rintro j hj rfl
   k_extra "e3"
   rintro i hi rfl
   exact h
 · intro i hi h
   rw [ef] at h
   exact absurd (List.mem_range.mpr hi) h
theorem Ag {n m:Nat} {st:List Dat × Nat} {js:List (Nat × Nat)} (hl:ks.length=ds.length) (h0 : 0 < n) (hm:m < ds.length) (h1:∀ d∈ks,kqdOk (k+1) d=true) (h2:∀ a∈ks,∀ c∈ks,aY (k+1) a c=true) (h3:∀ d∈ds,kqdOk (k+1) d=true) (h4:∀ a∈ds,∀ c∈ds,aY (k+1) a c=true) (I:NsI k ks ds n m st js):∃ js',NsI k ks ds n (m+1) (fE (k+1) ks ds st m) js':=by
 have W:SWO ks.length (bC (k+1) ks):=wC h1 h2
 have V:=uC hl h1 h2 h3 h4
 obtain ⟨L,c⟩:=st
 have hP:∀ a∈L,dQ ks ds a:=fun a ha=>by
  refine aE (List.mem_map.mp (I.perm.mem_iff.mp ha)) ?_
  rintro p hp rfl
  exact uE (I.lt p hp).1 (by exact zae [_,_] 1 qB qA [(1,zu qB,qA)] rfl hm)
 have hlen:L.length=n:=by have:=I.perm.length_eq;rw [List.length_map,I.len] at this;exact this
 have hLp:L.Perm (js.map (TP ks ds)):=I.perm
 cases L with
 | nil=>simp at hlen;(exact False.elim (zar [_] [(1,qA,zn 0),(1,zu (zn 0),qA)] rfl (zge hlen) h0))
 | cons d0 r =>
 refine aE (List.mem_map.mp (hLp.mem_iff.mp (.head _))) ?_
 intro x hx ex
 have hmin:=tE V hP I.heap (a:=d0) rfl
 have hxm:=(I.lt x hx).1
 have htop:∀ p∈js,p.1≠x.1→SB (bC (k+1) ks) p.1 x.1:=fun p hp hne=>by
  rcases SB.total (lt:=bC (k+1) ks) hne with h | h
  · exact h
  · exfalso
    have:=(zL hl h1 h2 (p:=x) (q:=p) (by exact zal [_,_,_] 1 qB qA [(1,zu qB,qC),(1,zu qC,qA)] rfl hxm hm) (by have:=(I.lt p hp).1;(exact zal [_,_,_] 1 qB qA [(1,zu qB,qC),(1,zu qC,qA)] rfl this hm)) (fun e=>hne e.symm) (I.mono x hx p hp) (I.mono p hp x hx)).mpr h
    refine bA (List.getElem?_of_mem (hLp.mem_iff.mpr (List.mem_map.mpr ⟨p,hp,rfl⟩))) ?_
    intro i hi
    have q:=hmin i _ hi
    rw [← ex,this] at q;cases q
 unfold fE
 dsimp only
 have e0:(d0::r).getD 0 Dat.none=d0:=rfl
 have e1:qh d0=ks.getD x.1 .none:=by rw [← ex];rfl
 rw [e0,e1]
 show ∃ js',NsI k ks ds n (m+1) (if bC (k+1) ks m x.1=true then (bM (fun p q=>dlt (k+2) q p) ((d0::r).set 0 (TP ks ds (m,c))) 0 (TP ks ds (m,c)),c+1) else (d0::r,c)) js'
 by_cases hc:bC (k+1) ks m x.1=true
 · rw [if_pos hc]
   refine pD (List.append_of_mem hx) ?_
   intro j1 j2 ej
   have hj:js.Perm (x::(j1++j2)):=by rw [ej];exact List.perm_middle
   generalize j1++j2=js0 at hj
   clear ej j1 j2
   have hsub:∀ p∈js0,p∈js:=fun p hp=>hj.mem_iff.mpr (.tail _ hp)
   have hnd:(x::js0).map Prod.fst |>.Nodup:=(hj.map Prod.fst).nodup_iff.mp I.nd
   rw [List.map_cons,List.nodup_cons] at hnd
   have hne:∀ p∈js0,p.1≠x.1:=fun p hp e=>hnd.1 (List.mem_map.mpr ⟨p,hp,e⟩)
   have hr:r.Perm (js0.map (TP ks ds)):=by
    have:=hLp.trans (hj.map (TP ks ds))
    rw [List.map_cons,ex,List.perm_cons] at this
    exact this
   have hnew:dQ ks ds (TP ks ds (m,c)):=⟨m,c,hm,rfl⟩
   have hs:=iN V (l:=(d0::r).set 0 (TP ks ds (m,c))) (s:=0) (x:=TP ks ds (m,c)) (by simp) (l6 hP hnew) hnew (fun i hi hs e1 e2 a b ha hb=>by
    rw [List.getElem?_set,if_neg (fun q=>e2 q.symm)] at ha
    rw [List.getElem?_set,if_neg (fun q=>e1 q.symm)] at hb
    exact I.heap i hi hs a b ha hb)
   refine ⟨(m,c)::js0,?_,?_,?_,?_,?_,hs.1,?_⟩
   · refine hs.2.trans ?_
     rw [List.set_set,List.set_cons_zero,List.map_cons]
     exact hr.cons _
   · rw [List.map_cons,List.nodup_cons]
     refine ⟨fun h => ?_,hnd.2⟩
     k_extra "fb"
     intro p hp e
     have:=(I.lt p (hsub p hp)).1
     dsimp only at e;(exact zar [_,_] [(1,zu qA,qB),(1,qB,qA)] rfl this (zge e))
   · have:=hj.length_eq
     rw [I.len] at this
     simp only [List.length_cons] at this ⊢
     exact this.symm
   · intro p hp
     k_extra "ax"
     · exact ⟨Nat.lt_succ_self _,Nat.lt_succ_self _⟩
     · have:=I.lt p (hsub p hp)
       exact ⟨Nat.lt_succ_of_lt this.1,Nat.lt_succ_of_lt this.2⟩
   · intro p hp q hq h
     rcases List.mem_cons.mp hp with rfl | hp <;> rcases List.mem_cons.mp hq with rfl | hq
     · exact absurd h (Nat.lt_irrefl _)
     · have:=(I.lt q (hsub q hq)).1
       dsimp only at h;(exact False.elim (zar [_,_] [(1,zu qA,qB),(1,zu qB,qA)] rfl this h))
     · exact (I.lt p (hsub p hp)).2
     · exact I.mono p (hsub p hp) q (hsub q hq) h
   · intro i hi h p hp
     rw [List.map_cons,List.mem_cons,not_or] at h
     have him:i < m:=by
      have:=h.1;dsimp only at this;(exact zdi this (fun h09=>(zal [_,_] 1 qB qA [(1,zu qB,qA)] rfl h09)) (fun h09=>(False.elim (zar [_,_] [(1,zu qA,zu qB),(1,zu qB,qA)] rfl hi h09))))
     have hxi:i=x.1∨SB (bC (k+1) ks) x.1 i:=by
      by_cases q:i=x.1
      · exact .inl q
      · refine .inr (I.top i him (fun h' => ?_) x hx)
        have:=(hj.map Prod.fst).mem_iff.mp h'
        rw [List.map_cons,List.mem_cons] at this
        exact this.elim q h.2
     k_extra "ax"
     · have hmx:SB (bC (k+1) ks) m x.1 := .inl hc
       rcases hxi with rfl | q
       · exact hmx
       · exact hmx.trans W (by k_extra "l") (by exact zal [_,_,_,_] 1 qB qA [(1,zu qB,qC),(1,zu qC,qD),(1,qD,qA)] rfl hxm hm (zge hl)) (by exact zal [_,_,_,_] 1 qB qA [(1,zu qB,qC),(1,zu qC,qD),(1,qD,qA)] rfl him hm (zge hl)) q
     · have hpl:=(I.lt p (hsub p hp)).1
       have hpx:=htop p (hsub p hp) (hne p hp)
       rcases hxi with rfl | q
       · exact hpx
       · exact hpx.trans W (by exact zal [_,_,_,_] 1 qB qA [(1,zu qB,qC),(1,zu qC,qD),(1,qD,qA)] rfl hpl hm (zge hl)) (by exact zal [_,_,_,_] 1 qB qA [(1,zu qB,qC),(1,zu qC,qD),(1,qD,qA)] rfl hxm hm (zge hl)) (by exact zal [_,_,_,_] 1 qB qA [(1,zu qB,qC),(1,zu qC,qD),(1,qD,qA)] rfl him hm (zge hl)) q
 · rw [if_neg hc]
   refine ⟨js,I.perm,I.nd,I.len,fun p hp=>⟨Nat.lt_succ_of_lt (I.lt p hp).1,(I.lt p hp).2⟩,I.mono,I.heap,?_⟩
   intro i hi h p hp
   by_cases q:i < m
   · exact I.top i q h p hp
   · obtain rfl:i=m:=by (exact Nat.le_antisymm (zae [_,_] 1 qB qA [(1,zu qB,zu qA)] rfl hi) (zae [_,_] 1 qB qA [(1,qB,qA)] rfl (zne q)))
     have hxi:SB (bC (k+1) ks) x.1 i := .inr ⟨by simpa using hc,hxm⟩
     have hpl:=(I.lt p hp).1
     by_cases q:p.1=x.1
     · rw [q];exact hxi
     · exact (htop p hp q).trans W (by exact zal [_,_,_,_] 1 qB qA [(1,zu qB,qC),(1,zu qC,qD),(1,qD,qA)] rfl hpl hm (zge hl)) (by exact zal [_,_,_,_] 1 qB qA [(1,zu qB,qC),(1,zu qC,qD),(1,qD,qA)] rfl hxm hm (zge hl)) (by exact zal [_,_,_] 1 qB qA [(1,zu qB,qC),(1,qC,qA)] rfl hm (zge hl)) hxi
theorem wV {n:Nat} (hl:ks.length=ds.length) (h0 : 0 < n) (hn:n < ds.length) (h1:∀ d∈ks,kqdOk (k+1) d=true) (h2:∀ a∈ks,∀ c∈ks,aY (k+1) a c=true) (h3:∀ d∈ds,kqdOk (k+1) d=true) (h4:∀ a∈ds,∀ c∈ds,aY (k+1) a c=true):∀ i,n+i≤ds.length → ∃ js,NsI k ks ds n (n+i) (bD (k+1) ks ds n i) js
 | 0,_=>⟨_,yP hl hn h1 h2 h3 h4⟩
 | i+1,hi=>by
  refine bA (wV hl h0 hn h1 h2 h3 h4 i (by exact zae [_,_,_] 1 (zp qB qC) qA [(1,zp qB (zu qC),qA)] rfl hi)) ?_
  intro js I
  have e:bD (k+1) ks ds n (i+1)=fE (k+1) ks ds (bD (k+1) ks ds n i) (n+i):=by
   k_extra "e2"
  rw [e]
  have hm:n+i < ds.length:=by (exact zal [_,_,_] 1 (zp qB qC) qA [(1,zp qB (zu qC),qA)] rfl hi)
  exact Ag hl h0 hm h1 h2 h3 h4 I
end
theorem Bg {kk n:Nat} {ks ds es es':List Dat} (hl:ks.length=ds.length) (h2 : 2≤n) (hn:n < ds.length) (hS:Sortable kk ks) (hok:∀ d∈ds,kqdOk (kk+1) d=true) (hcmp:∀ a∈ds,∀ c∈ds,aY (kk+1) a c=true) (h:bB (kk+1) ks ds es) (h':bB (kk+2) (bD (kk+1) ks ds n (ds.length - n)).1 (bD (kk+1) ks ds n (ds.length - n)).1 es'):es'.map yz=es.take n:=by
 refine bA (wV hl (by exact zal [_] 1 (zn 0) qA [(1,zn 2,qA)] rfl h2) hn hS.ok hS.cmp hok hcmp (ds.length - n) (by exact zae [_,_,_] 1 (zp qB qC) qA [(1,zp qC qB,qA)] rfl (zs3 (zae [_,_] 1 qB qA [(1,zu qB,qA)] rfl hn)))) ?_
 intro js I
 rw [show n+(ds.length - n)=ds.length by (exact Nat.le_antisymm (zae [_,_,_] 1 (zp qB qC) qA [(1,zp qC qB,qA)] rfl (zs3 (zae [_,_] 1 qB qA [(1,zu qB,qA)] rfl hn))) (zae [_,_,_] 1 qC (zp qA qB) [(1,qC,zp qB qA)] rfl (zs2 _ _)))] at I
 generalize bD (kk+1) ks ds n (ds.length - n)=st at *
 have hP:∀ a∈st.1,dQ ks ds a:=fun a ha=>by
  refine aE (List.mem_map.mp (I.perm.mem_iff.mp ha)) ?_
  rintro p hp rfl
  exact uE (I.lt p hp).1 (Nat.le_refl _)
 have hjn:js.Nodup:=List.Pairwise.of_map Prod.fst (fun a b h e=>h (congrArg _ e)) I.nd
 have hinj:∀ p∈js,∀ q∈js,TP ks ds p=TP ks ds q→p=q:=fun p hp q hq e=>by
  refine w4 I.nd hp hq ?_
  unfold TP at e
  injection e with e
  injection e with _ e
  injection e with e _
  injection e with e
  have m1:=I.mono p hp q hq
  have m2:=I.mono q hq p hp
  k_extra "l"
 have hnd:st.1.Nodup:=by
  rw [I.perm.nodup_iff]
  show List.Pairwise _ _
  rw [List.pairwise_map]
  exact List.Pairwise.imp_of_mem (fun {a b} ha hb hab e=>hab (hinj a ha b hb e)) hjn
 refine bV (jO (fun d hd=>dV hl hS.ok hok (hP d hd)) (fun a ha c hc=>fO hl hS.cmp hcmp (hP a ha) (hP c hc)) hnd h') ?_
 intro s1 s2
 refine aE (ud (s1.trans I.perm)) ?_
 rintro ls hls rfl
 have hlm:∀ p∈ls,p∈js:=fun p hp=>hls.mem_iff.mp hp
 have hlnd:(ls.map Prod.fst).Nodup:=(hls.map Prod.fst).nodup_iff.mpr I.nd
 have W:=hS.swo
 have hlp:(ls.map Prod.fst).Pairwise (SB (bC (kk+1) ks)):=by
  rw [List.pairwise_map] at s2 ⊢
  have hn':ls.Pairwise fun a b=>a.1≠b.1:=by
   have:List.Pairwise _ _:=hlnd
   rw [List.pairwise_map] at this;exact this
  refine List.Pairwise.imp_of_mem (fun {a b} ha hb hab => ?_) (s2.and hn')
  exact (zL hl hS.ok hS.cmp (by have:=(I.lt a (hlm a ha)).1;(exact zal [_,_] 1 qB qA [(1,zu qB,qA)] rfl this)) (by have:=(I.lt b (hlm b hb)).1;(exact zal [_,_] 1 qB qA [(1,zu qB,qA)] rfl this)) hab.2 (I.mono a (hlm a ha) b (hlm b hb)) (I.mono b (hlm b hb) a (hlm a ha))).mp hab.1
 refine aE (kO W ((List.range ks.length).filter fun i => !((ls.map Prod.fst).contains i)) (fun x hx=>List.mem_range.mp (List.mem_filter.mp hx).1) (List.Pairwise.filter _ List.nodup_range)) ?_
 intro q hq1 hq2
 have hqm:∀ i,i∈q ↔ i < ks.length∧i ∉ ls.map Prod.fst:=fun i=>by
  rw [hq1.mem_iff,List.mem_filter,List.mem_range]
  simp
 have hqn:q.Nodup:=hq1.nodup_iff.mpr (List.Pairwise.filter _ List.nodup_range)
 refine cH (h) ?_
 (try clear h);rintro p hp1 hp2 rfl
 have hmem:∀ i,i∈ls.map Prod.fst→i∈js.map Prod.fst:=fun i hi=>(hls.map Prod.fst).mem_iff.mp hi
 have e:p=ls.map Prod.fst++q:=by
  refine jk W hp1 hp2 ?_ ?_
  · rw [List.perm_ext_iff_of_nodup]
    · intro i
      rw [List.mem_append,hqm,List.mem_range]
      constructor
      · rintro (h | h)
        · k_extra "fb"
          rintro x hx rfl
          have:=(I.lt x (hlm x hx)).1;(exact zal [_,_,_] 1 qB qA [(1,zu qB,qC),(1,qC,qA)] rfl this (zge hl))
        · exact h.1
      · intro h
        by_cases hh:i∈ls.map Prod.fst
        · exact .inl hh
        · exact .inr ⟨h,hh⟩
    · rw [List.nodup_append]
      exact ⟨hlnd,hqn,fun a ha b hb e=>((hqm b).mp hb).2 (e ▸ ha)⟩
    · exact List.nodup_range
  · rw [List.pairwise_append]
    refine ⟨hlp,hq2,fun a ha b hb => ?_⟩
    k_extra "bb"
    rintro x hx rfl
    have hb':=(hqm b).mp hb
    exact I.top b (by exact zal [_,_,_] 1 qB qA [(1,zu qB,qC),(1,qC,qA)] rfl hb'.1 (zle hl)) (fun h=>hb'.2 ((hls.map Prod.fst).mem_iff.mpr h)) x (hlm x hx)
 rw [e,List.map_append,List.take_append_of_le_length (by rw [List.length_map,List.length_map,hls.length_eq,I.len];exact Nat.le_refl _),List.take_of_length_le (by rw [List.length_map,List.length_map,hls.length_eq,I.len];exact Nat.le_refl _),List.map_map,List.map_map]
 rfl
end
section
theorem zM {w:World} {p:Program} {loose:List Str} {mean:ExcName→Option Value} {mg mb:Str→Option Value} {news:List (Addr × Obj)}
 {dp un:Nat} {gd:Option (List Code)} {env:Env} {outer:List Env} {A₀:Around} {base h₀:Heap} {L:Addr} {m:Str→Option Value} {s:Shared} {Q E:Value→Shared→Prop} {P kf:Addr} {foc:Value} {fod:Option Addr} {ffd:FuncData} {fsl:Array (Option Value)} {ws:List Value} {c:Nat} {cold:List (Addr × Obj)} {ds ks:List Dat} {n:Nat} {tn:Tok}
 (B:Below A₀ base outer h₀) (F:Fr h₀ L s.heap m) (X:(hd.heap_1 w.params).In h₀) (N:News h₀ L s.heap ((P,W.listOf ws.toArray c)::(kf,⟨foc,fod,.func ffd,fsl⟩)::news)) (T:Top p loose mean mg mb h₀)
 (hf:env.frame=some L) (hk:env.scope.kind = .function) (hd:dp+8 < recursionLimit) (hu:un+600 < cLine) (hD:DatAll cold ws ds) (hcold:∀ p∈cold,p∈news) (hkl:ks.length=ds.length) (hz:ds.length < 60) (hkey:∀ {led:List (Addr × Obj)} {dp un:Nat} {gd:Option (List Code)} {env:Env} {outer:List Env} {A₀:Around} {base h₁:Heap} {L:Addr} {m:Str→Option Value} {s:Shared} {Q E:Value→Shared→Prop} (i:Nat) (v:Value) (d:Dat),Below A₀ base outer h₁→Fr h₁ L s.heap m→(Mine.hd.heap_1 w.params).In h₁→News h₁ L s.heap led→Top p loose mean mg mb h₁→env.frame=some L→env.scope.kind = .function→dp+6 < recursionLimit→un+300 < cLine→(∀ p∈(kf,⟨foc,fod,.func ffd,fsl⟩)::news,p∈led) →
  ws[i]? = some v→ks[i]? = some d→(∀ u tl h tk,Fr h₁ L h m→News h₁ L h (tl++led)→(∀ p∈tl,∀ q∈led,q.1 < p.1)→DatIn tl u d→Q u { s with heap:=h,toks:=tk }) →
  wpAny (model Challenge.rw_ik0112_01.row.prog w) { handled:=none,depth:=dp,frames:=some (env::outer),guards:=gd,units:=un } (call (.ref kf) [v]) Q E s) {kk:Nat} {es:List Dat} (hn1 : 1≤n) (hz2 : 2≤ds.length) (hkk:kk≤2) (hS:Sortable kk ks) (hokd:∀ d∈ds,kqdOk (kk+1) d=true) (hcmpd:∀ a∈ds,∀ c∈ds,aY (kk+1) a c=true) (hes:bB (kk+1) ks ds es)
 (ret:∀ D nw h1 tk,Fr h₀ L h1 m→News h₀ L h1 (nw++(P,W.listOf ws.toArray c)::(kf,⟨foc,fod,.func ffd,fsl⟩)::news)→DatIn (nw++(P,W.listOf ws.toArray c)::(kf,⟨foc,fod,.func ffd,fsl⟩)::news) (.ref D) (.list (es.take n))→Q (.ref D) { s with heap:=h1,toks:=tk }) :
 wpAny (model Challenge.rw_ik0112_01.row.prog w) { handled:=none,depth:=dp,frames:=some (env::outer),guards:=gd,units:=un } (call (.ref 217) [.int n tn,.ref P] [(Str.ofString "key",.ref kf)]) Q E s:=by
 by_cases h1:n=1
 · refine Bf (kk:=kk+1) B F X N T hf hk (by exact zal [_,_] 1 (zp qB (zn 8)) qA [(1,zu (zp qB (zn 8)),qA)] rfl hd) (by exact zal [_,_] 1 (zp qB (zn 600)) qA [(1,zu (zp qB (zn 600)),qA)] rfl hu) hD hcold hkl hz hkey h1 (by exact zal [_] 1 (zn 0) qA [(1,zn 2,qA)] rfl hz2) (by exact zae [_] 1 (zu qA) (zn 8) [(1,qA,zn 2)] rfl hkk) hS.ok hS.cmp ?_
   intro D nw h1' tk F1 N1 hd1
   refine ret D nw h1' tk F1 N1 ?_
   rw [h1,An (k:=kk+1) hS.swo hkl (by exact zal [_] 1 (zn 0) qA [(1,zn 2,qA)] rfl hz2) hes]
   exact hd1
 · by_cases h2:ds.length≤n
   · refine Be (kk:=kk) B F X N T hf hk (by exact zal [_,_] 1 (zp qB (zn 8)) qA [(1,zu (zp qB (zn 8)),qA)] rfl hd) (by exact zal [_,_] 1 (zp qB (zn 600)) qA [(1,zu (zp qB (zn 600)),qA)] rfl hu) hD hcold hkl hz hkey h1 h2 hz2 (by exact zae [_] 1 qA (zn 8) [(1,qA,zn 2)] rfl hkk) hS ?_
     intro D nw es' h1' tk F1 N1 hs' hd1
     refine ret D nw h1' tk F1 N1 ?_
     rw [rt hS.swo hes hs']
     exact hd1
   · refine Bd (kk:=kk) B F X N T hf hk (by exact zal [_,_] 1 (zp qB (zn 8)) qA [(1,zu (zp qB (zn 8)),qA)] rfl hd) (by exact zal [_,_] 1 (zp qB (zn 600)) qA [(1,zu (zp qB (zn 600)),qA)] rfl hu) hD hcold hkl hz hkey (by exact zdi h1 (fun h09=>(False.elim (zar [_] [(1,zn 1,qA),(1,zu qA,zn 1)] rfl hn1 h09))) (fun h09=>(zae [_] 1 (zn 2) qA [(1,zu (zn 1),qA)] rfl h09))) (by exact zal [_,_] 1 qB qA [(1,zu qB,qA)] rfl (znt h2)) (by exact zae [_] 1 qA (zn 2) [(1,qA,zn 2)] rfl hkk) hS hokd hcmpd (ue hkl (by exact zdi h1 (fun h09=>(False.elim (zar [_] [(1,zn 1,qA),(1,zu qA,zn 1)] rfl hn1 h09))) (fun h09=>(zae [_] 1 (zn 2) qA [(1,zu (zn 1),qA)] rfl h09))) (by exact zal [_,_] 1 qB qA [(1,zu qB,qA)] rfl (znt h2)) hS hokd hcmpd) ?_
     intro D nw es' h1' tk F1 N1 hs' hd1
     refine ret D nw h1' tk F1 N1 ?_
     rw [← Bg hkl (by exact zdi h1 (fun h09=>(False.elim (zar [_] [(1,zn 1,qA),(1,zu qA,zn 1)] rfl hn1 h09))) (fun h09=>(zae [_] 1 (zn 2) qA [(1,zu (zn 1),qA)] rfl h09))) (by exact zal [_,_] 1 qB qA [(1,zu qB,qA)] rfl (znt h2)) hS hokd hcmpd hes hs']
     exact hd1
end
section
theorem vy {α:Type} (d0 : α) {f g : α→Dat} {l:List α} {k:Nat} {es:List Dat} (h1:∀ a∈l,kqdOk k (f a)=true) (h2:∀ a∈l,∀ c∈l,aY k (f a) (f c)=true) (hn:(l.map f).Nodup) (h:bB k (l.map f) (l.map g) es) :
 ∃ ls:List α,ls.Perm l∧(ls.Pairwise fun a b=>dlt k (f a) (f b)=true)∧es=ls.map g:=by
 refine cH (h) ?_
 (try clear h);rintro p hp hs rfl
 rw [List.length_map] at hp
 have hm:∀ {i},i∈p→i < l.length:=fun {i} hi=>List.mem_range.mp (hp.mem_iff.mp hi)
 have getf:∀ {i},i < l.length → ∀ φ : α→Dat,(l.map φ).getD i .none = φ (l.getD i d0):=fun {i} hi φ=>by
  k_extra "d5"
 have hmem:∀ {i},i < l.length→l.getD i d0∈l:=fun {i} hi=>bL hi
 refine ⟨p.map fun i=>l.getD i d0,?_,?_,?_⟩
 · refine (hp.map fun i=>l.getD i d0).trans (.of_eq ?_)
   refine List.ext_getElem (by simp) fun i hi _ => ?_
   simp only [List.length_map,List.length_range] at hi
   k_extra "ee"
 · rw [List.pairwise_map]
   have hnd:p.Nodup:=hp.nodup_iff.mpr List.nodup_range
   refine (hs.and hnd).imp_of_mem fun {a b} ha hb ⟨hab,hne⟩ => ?_
   have la:=hm ha
   have lb:=hm hb
   unfold SB bC at hab
   rw [getf la f,getf lb f] at hab
   rcases hab with h | ⟨h,_⟩
   · exact h
   · have hd:f (l.getD a d0)≠f (l.getD b d0):=fun e=>by
      have hg:=List.pairwise_iff_getElem.mp hn
      have e':(l.map f)[a]'(by simpa using la)=(l.map f)[b]'(by simpa using lb):=by
       rw [List.getElem_map,List.getElem_map]
       rw [List.getD_eq_getElem?_getD,List.getD_eq_getElem?_getD,List.getElem?_eq_getElem la,List.getElem?_eq_getElem lb] at e
       exact e
      rcases Nat.lt_or_gt_of_ne hne with q | q
      · exact hg a b (by simpa using la) (by simpa using lb) q e'
      · exact hg b a (by simpa using lb) (by simpa using la) q e'.symm
     rcases gX k _ _ (h1 _ (hmem la)) (h1 _ (hmem lb)) (h2 _ (hmem la) _ (hmem lb)) hd with q | q
     · exact q
     · rw [h] at q;cases q
 · rw [List.map_map]
   exact List.map_congr_left fun i hi=>getf (hm hi) g
end
section
theorem th (home l:List Str):ti home l=bQ (bO home l):=rfl
theorem C3 (a b:Ent):dlt 1 (bQ a) (bQ b)=dlt 2 (bQ a) (bQ b):=rfl
theorem y9 {home a b:List Str} (q:dlt 1 (ti home a) (ti home b)=true):ltE (bO home a) (bO home b)=true:=by
 rw [th,th,C3] at q;exact q
theorem yQ (script:List Int) (n:Nat) {es es2:List Dat} (h:bB 1 (fD script) (fD script) es) (h2:bB 1 (rK script) (((bT (aL script)).map (eO (aA (aM script)))).reverse) es2):es2.take n=(es.take n).map iX:=by
 refine pE (tN script h) ?_
 rintro ls _ hp hs rfl
 have T:=lZ script
 have S:=jZ script
 unfold rK at h2 S
 rw [← List.map_reverse] at h2 S
 rw [← List.map_reverse] at h2
 obtain ⟨ls2,hp2,hs2,rfl⟩:=vy [] (fun a ha=>S.ok _ (List.mem_map_of_mem ha)) (fun a ha c hc=>S.cmp _ (List.mem_map_of_mem ha) _ (List.mem_map_of_mem hc)) (by
  unfold List.Nodup
  rw [List.pairwise_map]
  have hr:(bT (aL script)).reverse.Nodup:=(List.reverse_perm _).nodup_iff.mpr T.nd
  refine hr.imp_of_mem fun ha hb hne e=>hne (Ay (T.nm _ (List.mem_reverse.mp ha)) (T.nm _ (List.mem_reverse.mp hb)) (tK e))) h2
 have hpt:ls2.Perm ls:=(hp2.trans (List.reverse_perm _)).trans hp.symm
 have e:ls2=ls:=fV (R:=fun a b=>ltE (bO (aA (aM script)) a) (bO (aA (aM script)) b)=true) hpt (fun x hx y hy hxy hyx=>by
  have hx':=hp.mem_iff.mp (hpt.mem_iff.mp hx)
  have hy':=hp.mem_iff.mp (hpt.mem_iff.mp hy)
  have:=pW.asym _ _ (fH T hx') (fH T hy') hxy
  rw [hyx] at this;cases this) (hs2.imp fun {a b} q=>y9 q) hs
 rw [e,← List.map_take,← List.map_take,List.map_map]
 rfl
end
section
theorem pG (n:Nat) (a b:Int):dlt n (.int a) (.int b)=decide (a < b):=by cases n <;> rfl
theorem pB (a b:Int):PyData.eqv (kqdP (.int a)) (kqdP (.int b))=true ↔ a=b:=by
 rw [cW (n:=1) rfl rfl]
 exact ⟨fun e=>Dat.int.inj e,fun e=>by rw [e]⟩
theorem tP (a b i j:Int):dlt 1 (.tuple [.int a,.int i]) (.tuple [.int b,.int j])=true ↔ a < b∨(a=b∧i < j):=by
 show bN (dlt 0) [.int a,.int i] [.int b,.int j]=true ↔ _
 unfold bN
 by_cases h:a=b
 · rw [if_pos ((pB a b).mpr h)]
   unfold bN
   by_cases h2:i=j
   · rw [if_pos ((pB i j).mpr h2)]
     simp [bN];k_extra "l"
   · rw [if_neg (fun q=>h2 ((pB i j).mp q)),pG,decide_eq_true_eq];k_extra "l"
 · rw [if_neg (fun q=>h ((pB a b).mp q)),pG,decide_eq_true_eq];k_extra "l"
theorem z7 {tr:List (List Str)} {i j:Nat} (hi:i < tr.length) (hj:j < tr.length) (h:SB (bC 1 (fW tr)) i j):SB (bC 1 (tr.map v0)) i j:=by
 have ef:∀ {i},i < tr.length→(fW tr).getD i .none = .tuple [.int ((tr.getD i []).length:Int),.int (i:Int)]:=fun {i} hi=>by
  unfold fW
  rw [List.getD_eq_getElem?_getD,List.getElem?_map,List.getElem?_range hi];rfl
 have ek:∀ {i},i < tr.length→(tr.map v0).getD i .none = .int ((tr.getD i []).length:Int):=fun {i} hi=>by
  k_extra "d5"
 unfold SB bC at h ⊢
 rw [ef hi,ef hj] at h
 rw [ek hi,ek hj,pG,pG]
 rw [← Bool.not_eq_true,tP,tP] at h
 rw [decide_eq_true_eq,decide_eq_false_iff_not]
 k_extra "l"
theorem zf (script:List Int) (n:Nat) {es es2:List Dat} (h:bB 1 (fW (bT (aL script))) (fW (bT (aL script))) es) (h2:bB 1 (rM script) (((bT (aL script)).map aB).map .str) es2):es2.take n=(es.take n).map (dG ((bT (aL script)).map aB)):=by
 have S:=j3 script
 unfold rM at h2 S
 generalize bT (aL script)=tr at *
 refine cH (h) ?_
 (try clear h);rintro p hp hs rfl
 refine cH (h2) ?_
 (try clear h2);rintro p2 hp2 hs2 rfl
 have hl:(fW tr).length=tr.length:=by unfold fW;simp
 rw [hl] at hp
 have hm:∀ {i},i∈p→i < tr.length:=fun {i} hi=>List.mem_range.mp (hp.mem_iff.mp hi)
 have hs':p.Pairwise (SB (bC 1 (tr.map v0))):=hs.imp_of_mem fun ha hb q=>z7 (hm ha) (hm hb) q
 have e:p2=p:=jk S.swo hp2 hs2 (by rw [List.length_map];exact hp) hs'
 subst e
 rw [← List.map_take,← List.map_take]
 rw [List.map_map (g:=dG _)]
 refine List.map_congr_left fun i hi => ?_
 have hi':=hm (List.mem_of_mem_take hi)
 show ((tr.map aB).map Dat.str).getD i .none=dG (tr.map aB) ((fW tr).getD i .none)
 unfold fW dG
 rw [List.getD_eq_getElem?_getD,List.getD_eq_getElem?_getD,List.getElem?_map,List.getElem?_map,List.getElem?_map,List.getElem?_range hi',List.getElem?_eq_getElem hi']
 show Dat.str (aB tr[i])=Dat.str ((tr.map aB).getD ((i:Int)).toNat _)
 rw [Int.toNat_natCast,List.getD_eq_getElem?_getD,List.getElem?_map,List.getElem?_eq_getElem hi'];rfl
end
section
open LCg
theorem kw_T30_0:True:=by
 w_top off
 k_with "unf" => repeat' (first | k_extra "n" | (k_extra "a";k_extra "o";refine dB ?_;intro Q9q hQ9q) | k_extra "ag" | (k_end;wrow_close) | (k_extra "h";k_extra "f";k_extra "i";k_extra "b";k_extra "c";k_extra "e";k_extra "z";(fail_if_success (with_reducible show wpAny _ _ (compareOp CmpOp.Eq (Value.ref _) (Value.ref _)) _ _ _));k_extra "2";k_extra "v";(fail_if_success (with_reducible show wpAny _ _ (call (Value.ref 243) _) _ _ _));(fail_if_success (with_reducible show wpAny _ _ (call (Value.ref 236) _) _ _ _));(fail_if_success (with_reducible show wpAny _ _ (call (Value.ref 248) _) _ _ _));(fail_if_success (with_reducible show wpAny _ _ (call (Value.ref 217) _ _) _ _ _));(fail_if_success (with_reducible show wpAny _ _ (call (Value.ref 255) _) _ _ _));k_extra "ar";k_extra "as";k_extra "aq";walk1) | (k_extra "h";k_extra "f";k_extra "i";k_extra "b";k_extra "c";k_extra "e";k_extra "z";(fail_if_success (with_reducible show wpAny _ _ (compareOp CmpOp.Eq (Value.ref _) (Value.ref _)) _ _ _));k_extra "2";k_extra "v";(fail_if_success (with_reducible show wpAny _ _ (call (Value.ref 243) _) _ _ _));(fail_if_success (with_reducible show wpAny _ _ (call (Value.ref 236) _) _ _ _));(fail_if_success (with_reducible show wpAny _ _ (call (Value.ref 248) _) _ _ _));(fail_if_success (with_reducible show wpAny _ _ (call (Value.ref 217) _ _) _ _ _));(fail_if_success (with_reducible show wpAny _ _ (call (Value.ref 255) _) _ _ _));k_extra "ar";k_extra "as";k_extra "aq";dsimp only;walk1) | (leave1;walk_say "STEP leave1";try dsimp only) | k_extra "p" | fail "no step")
 k_with "subscriptTail Name Slice ref ref" => first | k_extra "j" | fail
 k_with "subscriptTail Name Slice ref ref" => first | k_extra "q" | fail
 k_with "exec Assign cons ListComp" => first | k_extra "af" | fail
 k_with "eval ListComp" => first | k_extra "3" | fail
 k_with "subscriptTail Name BinOp ref int" => first | ((k_here;k_extra "m";(with_unfolding_all refine' gA (by k_asm) (by k_mem) (by rfl) (by rfl) (by with_reducible assumption) (by exact vg _ (by k_extra "g")) (by exact tH _ (by k_extra "g")) (by exact tI _ (by k_extra "g") (by k_extra "g")) ?_ (by with_unfolding_all rfl);k_whole);intro y8q9 t8q9 hy8q9 hz8q9)) | fail
 k_with "call ref" => first | k_extra "s" | fail
 k_with "call ref" => first | ((k_here;(fail_if_success (fail_if_success (with_reducible show wpAny _ _ (call (Value.ref 222) _) _ _ _)));k_dflt (refine' A8 (by k_asm) (by k_asm) (by k_asm) (by k_asm) (by k_asm) (by exact rfl) (by exact rfl) (by ktr_room) (by ktr_units)  ?_;k_whole;intro t9q9 h9q9 tk9q9 F9q9 N9q9;(try dsimp only);(try k_fold)))) | fail
 k_with "call ref" => first | ((k_here;(fail_if_success (fail_if_success (with_reducible show wpAny _ _ (call (Value.ref 229) _) _ _ _)));k_dflt (refine' oj (by k_asm) (by k_asm) (by k_asm) (by k_asm) (by k_asm) (by exact rfl) (by exact rfl) (by ktr_room) (by ktr_units) (by k_extra "g") (by k_extra "g") ?_;k_whole;intro D9q9 ws9q9 n9q9 h9q9 tk9q9 F9q9 N9q9 hl9q9 hS9q9;have hq9q9:=StrsAre.len_eq hS9q9;(try dsimp only);(try k_fold)))) | fail
 trivial
theorem vg (a:Int) {b:Int} (h : 0 < b) : 0≤a.fmod b:=Int.fmod_nonneg_of_pos a h
theorem tH (a:Int) {b:Int} (h : 0 < b):a.fmod b < b:=Int.fmod_lt_of_pos a h
theorem tI (a:Int) {b:Int} (h : 0 < b) (h2:b≤1000000):a.fmod b < 2 ^ 63:=Int.lt_of_lt_of_le (Int.lt_of_lt_of_le (Int.fmod_lt_of_pos a h) h2) (by decide)
theorem yX {vs:List Value} {ns:List Int} (h:IntsAre vs ns):vs.length=ns.length:=by
 have:=IntsAre.length h
 k_extra "g"
theorem wA (x:Int):(aO x).length≤15:=by
 have h1:=uG x
 have h2:(Txt.join (Str.ofString "/") ((List.range 3).map (dC x))).length≤wt ((List.range 3).map (dC x)):=mc (by decide) _
 have h3:(Str.ofString "/./").length=3:=by decide
 unfold aO
 rw [Str.length_append];(exact zae [_,_,_] 1 (zp qA qB) (zn 15) [(1,qA,zn 3),(1,qB,qC),(1,qC,zn 12)] rfl (zle h3) h2 h1)
theorem eG (script:List Int) (x:Str) (h:x∈aL script):x.length≤15∧(Txt.split x (Str.ofString "/")).length≤16∧wt (Txt.split x (Str.ofString "/"))≤16:=by
 k_extra "fb"
 rintro n _ rfl
 have h1:=wA n
 have h2:=split_weight (aO n) (Str.ofString "/") (by decide)
 unfold wt
 exact ⟨h1,by (exact zae [_,_,_] 1 qA (zn 16) [(1,zp qB qA,zu qC),(1,qC,zn 15)] rfl h2 h1),by (exact zae [_,_,_] 1 (zp qA qB) (zn 16) [(1,zp qA qB,zu qC),(1,qC,zn 15)] rfl h2 h1)⟩
theorem yR {l:List Str} (h:∀ a∈l,PyData.strOk a=true) {k:Nat}:kqdOk (k+1) (cL l)=true:=by
 unfold cL
 simp only [kqdOk,List.all_eq_true,List.mem_map]
 intro d hr1q
 refine aE (hr1q) ?_
 (try clear hr1q);rintro a ha rfl
 have:=h a ha
 cases k <;> simpa [kqdOk] using this
theorem wy (script:List Int):∀ x∈aL script,x.length≤100000∧(Txt.split x (Str.ofString "/")).length≤100000∧(aA x).length≤10∧kqdOk 8 (cL (aA x))=true:=fun x hx=>by
 have h1:=eG script x hx
 k_extra "gu"
 rintro n _ rfl
 have h2:=eL n
 exact ⟨by (exact zae [_] 1 qA (zn 100000) [(1,qA,zn 15)] rfl h1.1),by (exact zae [_] 1 qA (zn 100000) [(1,qA,zn 16)] rfl h1.2.1),by (exact zae [_] 1 qA (zn 10) [(1,qA,zn 3)] rfl h2.2),yR fun a ha=>(h2.1 a ha).ok⟩
theorem lw1 {α:Type} {a b : α} {r:List α}:∀ p∈b::a::r,p∈a::b::r:=fun p hp=>by
 k_extra "ax"
 · exact .tail _ (.head _)
 · k_extra "ax"
   · exact .head _
   · exact .tail _ (.tail _ hp)
theorem ls1 {α:Type} (Y X H a b c C B A : α) (tl r:List α):∀ p∈[A,B,C],p∈Y::(tl++X::H::a::b::c::C::B::A::r):=bP [[_],[_],[_],[_],_,[_],[_],[_],[_],[_],_] (zp qA (zp qB qC)) (zp qD (zp qE (zp qF (zp qG (zp qH (zp qI (zp qJ (zp qC (zp qB (zp qA (.var 10))))))))))) rfl
theorem ls2 {α:Type} (Y X H a b c C B A : α) (tl r:List α):∀ p∈Y::X::H::r,p∈Y::(tl++X::H::a::b::c::C::B::A::r):=bP [[_],[_],[_],_,_,[_],[_],[_],[_],[_],[_]] (zp qA (zp qB (zp qC qD))) (zp qA (zp qE (zp qB (zp qC (zp qF (zp qG (zp qH (zp qI (zp qJ (zp (.var 10) qD)))))))))) rfl
theorem ls3 {α:Type} (Y X H : α) (tl r:List α):∀ p∈Y::X::H::(tl++r),p∈tl++Y::X::H::r:=bP [[_],[_],[_],_,_] (zp qA (zp qB (zp qC (zp qD qE)))) (zp qD (zp qA (zp qB (zp qC qE)))) rfl
theorem ls5 {α:Type} (C B A Y X H : α) (tl r:List α):∀ p∈C::B::A::Y::X::H::(tl++r),p∈tl++C::B::A::Y::X::H::r:=bP [[_],[_],[_],[_],[_],[_],_,_] (zp qA (zp qB (zp qC (zp qD (zp qE (zp qF (zp qG qH))))))) (zp qG (zp qA (zp qB (zp qC (zp qD (zp qE (zp qF qH))))))) rfl
theorem ls6 {α:Type} (Y X H a b c C B A : α) (tl r:List α):∀ p∈C::B::A::Y::X::H::r,p∈Y::(tl++X::H::a::b::c::C::B::A::r):=bP [[_],[_],[_],[_],[_],[_],_,_,[_],[_],[_]] (zp qA (zp qB (zp qC (zp qD (zp qE (zp qF qG)))))) (zp qD (zp qH (zp qE (zp qF (zp qI (zp qJ (zp (.var 10) (zp qA (zp qB (zp qC qG)))))))))) rfl
theorem lt1 {α:Type} (Y C B A T X H : α) (tl r:List α):∀ p∈[A,B,C],p∈Y::(tl++C::B::A::T::X::H::r):=bP [[_],[_],[_],[_],_,[_],[_],[_],_] (zp qA (zp qB qC)) (zp qD (zp qE (zp qC (zp qB (zp qA (zp qF (zp qG (zp qH qI)))))))) rfl
theorem lt3 {α:Type} (Y T X H : α) (tl r:List α):∀ p∈T::X::H::(tl++r),p∈tl++T::X::H::r:=bP [[_],[_],[_],_,_] (zp qA (zp qB (zp qC (zp qD qE)))) (zp qD (zp qA (zp qB (zp qC qE)))) rfl
theorem lt5 {α:Type} (C B A Y T X H : α) (tl r:List α):∀ p∈C::B::A::Y::T::X::H::(tl++r),p∈tl++C::B::A::Y::T::X::H::r:=bP [[_],[_],[_],[_],[_],[_],[_],_,_] (zp qA (zp qB (zp qC (zp qD (zp qE (zp qF (zp qG (zp qH qI)))))))) (zp qH (zp qA (zp qB (zp qC (zp qD (zp qE (zp qF (zp qG qI)))))))) rfl
theorem lt6 {α:Type} (Y C B A T X H : α) (tl r:List α):∀ p∈C::B::A::Y::T::X::H::r,p∈Y::(tl++C::B::A::T::X::H::r):=bP [[_],[_],[_],[_],[_],[_],[_],_,_] (zp qA (zp qB (zp qC (zp qD (zp qE (zp qF (zp qG qH))))))) (zp qD (zp qI (zp qA (zp qB (zp qC (zp qE (zp qF (zp qG qH)))))))) rfl
namespace K
namespace V2
theorem law_split_m:mF h₀ L h lT c1 c2 c3 oT o1 o2 o3 X H a b c tl r vs ds x1 x2 x3:=by
 intro N hne d3 d2 d1 hD dn
 have hb:=ls1 (lT,oT) X H a b c (c3,o3) (c2,o2) (c1,o1) tl r
 k_extra "bg"
 intro tl' h1 h2 h3
 k_extra "ce"
 refine ⟨tl',h4,fun p hp=>hne p (List.mem_append_left _ (h1 p hp)),h3,fun p hp => ?_,fun p hp=>N p ?_⟩
 · have key:∀ q∈(lT,oT)::X::H::r,q.1≠c1∧q.1≠c2∧q.1≠c3:=fun q hq=>by
    have hqN:=ls2 (lT,oT) X H a b c (c3,o3) (c2,o2) (c1,o1) tl r q hq
    have go:∀ (cc:Addr) (oo:Obj) (xx:Option Value),(cc,oo)∈(lT,oT)::(tl++X::H::a::b::c::(c3,o3)::(c2,o2)::(c1,o1)::r)→oo.data = .cell xx→q.1≠cc:=fun cc oo xx hcc hd e=>by
     have h1:=(N _ hqN).1
     have h2:=(N _ hcc).1
     rw [e,h2] at h1
     exact dn q hq xx (by rw [← Option.some.inj h1];exact hd)
    exact ⟨go c1 o1 x1 (hb _ (.head _)) d1,go c2 o2 x2 (hb _ (.tail _ (.head _))) d2,go c3 o3 x3 (hb _ (.tail _ (.tail _ (.head _)))) d3⟩
   exact (List.mem_append.mp (ls3 _ _ _ _ _ p hp)).elim (h4 p) (key p)
 exact (List.mem_append.mp (ls5 _ _ _ _ _ _ _ _ p hp)).elim (fun h => .tail _ (List.mem_append_left _ (h1 p h))) (ls6 _ _ _ _ _ _ _ _ _ _ _ p)
end V2
end K
theorem mE:∀ v,mG v:=ch1 (l:=PL.drop 50) Bx K.V2.law_split_m
theorem Dq:Ch (PL.drop 50) oV:=ch2 (l:=PL.drop 50) Bx mE
theorem xj {h₀ h:Heap} {L lT c1 c2 c3:Addr} {oT o1 o2 o3:Obj} {X H a b c:Addr × Obj} {tl r:List (Addr × Obj)} {vs:List Value} {ds:List Dat} {x1 x2 x3:Option Value} (N:News h₀ L h ((lT,oT)::(tl++X::H::a::b::c::(c3,o3)::(c2,o2)::(c1,o1)::r)))
 (hne:∀ p∈tl++X::H::a::b::c::(c3,o3)::(c2,o2)::(c1,o1)::r,p.1≠lT) (d3:o3.data = .cell x3) (d2:o2.data = .cell x2) (d1:o1.data = .cell x1) (hD:DatAll tl vs ds) (dn:∀ p∈(lT,oT)::X::H::r,∀ x,p.2.data ≠ .cell x) :
 ∃ tl',(∀ p∈tl',p.1≠c1∧p.1≠c2∧p.1≠c3)∧(∀ p∈tl',p.1≠lT)∧DatAll tl' vs ds∧(∀ p∈(lT,oT)::X::H::(tl'++r),p.1≠c1∧p.1≠c2∧p.1≠c3)∧News h₀ L h ((c3,o3)::(c2,o2)::(c1,o1)::(lT,oT)::X::H::(tl'++r)):=mE { oV with h₀,L,q27:=h,q6:=lT,q3:=c1,q4:=c2,q5:=c3,q41:=oT,q42:=o1,q79:=o2,q80:=o3,q71:=X,q72:=H,q67:=a,q68:=b,q76:=c,q47:=tl,q74:=r,q9:=vs,q48:=ds,q81:=x1,q82:=x2,q83:=x3 } N hne d3 d2 d1 hD dn
namespace K
namespace V3
theorem law_split2_m:li h₀ L h lR c1 c2 c3 oR o1 o2 o3 T X H tl r vs ds x1 x2 x3:=by
 intro N hcc d3 d2 d1 hD dR
 have hb:=lt1 (lR,oR) (c3,o3) (c2,o2) (c1,o1) T X H tl r
 k_extra "bg"
 intro tl' h1 h2 h3
 k_extra "ce"
 have go:∀ (cc:Addr) (oo:Obj) (xx:Option Value),(cc,oo)∈(lR,oR)::(tl++(c3,o3)::(c2,o2)::(c1,o1)::T::X::H::r)→oo.data = .cell xx→lR≠cc:=fun cc oo xx hcc hd e=>by
  have h1:=(N _ (.head _)).1
  have h2:=(N _ hcc).1
  simp only at h1 h2
  rw [e,h2] at h1
  exact dR xx (by rw [← Option.some.inj h1];exact hd)
 refine ⟨tl',h3,fmc ⟨go c1 o1 x1 (hb _ (.head _)) d1,go c2 o2 x2 (hb _ (.tail _ (.head _))) d2,go c3 o3 x3 (hb _ (.tail _ (.tail _ (.head _)))) d3⟩ (fun p hp => ?_),fun p hp=>N p ?_⟩
 · exact (List.mem_append.mp (lt3 p _ _ _ _ _ p hp)).elim (h4 p) (hcc p)
 exact (List.mem_append.mp (lt5 _ _ _ _ _ _ _ _ _ p hp)).elim (fun h => .tail _ (List.mem_append_left _ (h1 p h))) (lt6 _ _ _ _ _ _ _ _ _ p)
end V3
end K
theorem td:∀ v,lj v:=ch1 (l:=PL.drop 51) Dq K.V3.law_split2_m
theorem vZ {h₀ h:Heap} {L lR c1 c2 c3:Addr} {oR o1 o2 o3:Obj} {T X H:Addr × Obj} {tl r:List (Addr × Obj)} {vs:List Value} {ds:List Dat} {x1 x2 x3:Option Value} (N:News h₀ L h ((lR,oR)::(tl++(c3,o3)::(c2,o2)::(c1,o1)::T::X::H::r)))
 (hcc:∀ p∈T::X::H::r,p.1≠c1∧p.1≠c2∧p.1≠c3) (d3:o3.data = .cell x3) (d2:o2.data = .cell x2) (d1:o1.data = .cell x1) (hD:DatAll tl vs ds) (dR:∀ x,oR.data ≠ .cell x) :
 ∃ tl',DatAll tl' vs ds∧(∀ p∈(lR,oR)::T::X::H::(tl'++r),p.1≠c1∧p.1≠c2∧p.1≠c3)∧News h₀ L h ((c3,o3)::(c2,o2)::(c1,o1)::(lR,oR)::T::X::H::(tl'++r)):=td { oV with h₀,L,q27:=h,q6:=lR,q3:=c1,q4:=c2,q5:=c3,q41:=oR,q42:=o1,q79:=o2,q80:=o3,q78:=T,q71:=X,q72:=H,q47:=tl,q74:=r,q9:=vs,q48:=ds,q81:=x1,q82:=x2,q83:=x3 } N hcc d3 d2 d1 hD dR
theorem Bp {lT X H:Addr} {a b c:List Value} {i j k:Nat} {t:Addr}:∀ p∈(lT,W.listOf a.toArray i)::(X,W.listOf b.toArray j)::(H,W.listOf c.toArray k)::[(t,tabObj #[])],∀ x,p.2.data ≠ .cell x:=fun p hp x=>by
 simp only [List.mem_cons,List.not_mem_nil,or_false] at hp
 rcases hp with rfl | rfl | rfl | rfl <;> exact fun e=>nomatch e
theorem y3 {h₀ h:Heap} {L R X H:Addr} {t c3 c2 c1 T:Addr × Obj} {oR oX oH:Obj} {r:List (Addr × Obj)} (N:News h₀ L h (t::(R,oR)::c3::c2::c1::T::(X,oX)::(H,oH)::r)) :
 ∃ R' X' H':Addr,R'=R∧X'=X∧H'=H∧News h₀ L h ((R',oR)::c3::c2::c1::T::(X',oX)::(H',oH)::r):=⟨_,_,_,rfl,rfl,rfl,cb_drop N fun p hp => .tail _ hp⟩
theorem tR {news:List (Addr × Obj)}:∀ {l:List Str} {vs:List Value},DatAll news vs (l.map .str)→StrsAre vs l
 | [],vs,h=>(show vs=[] from cD h) ▸ .nil
 | _::_,_,h=>cJ (cD h) fun _ _ e h1 r=>(iC h1).elim fun t e1=>by subst e e1;exact .cons _ t (tR r)
theorem tz {cold:List (Addr × Obj)} {v:Value} {l:List Str} (h:DatIn cold v (cL l)):∃ a vs n,v = .ref a∧(a,W.listOf (List.toArray vs) n)∈cold∧StrsAre vs l:=by
 unfold cL at h
 cases h with
 | list hm r=>exact ⟨_,_,_,rfl,hm,tR r⟩
theorem iK (script:List Int):(∀ a∈aA (aM script),Nm a)∧(aA (aM script)).length≤3∧(aM script).length≤15:=by
 have h1:=ij script
 have hm:aM script∈aL script:=by
  unfold aM
  k_extra "db"
  k_extra "c7"
  exact bL (by k_extra "g")
 have h2:=(eG script _ hm).1
 refine aE (List.mem_map.mp hm) ?_
 intro n _ e
 rw [← e] at h2 ⊢
 exact ⟨(eL n).1,(eL n).2,h2⟩
theorem Bo {h₀ h:Heap} {L la:Addr} {oa:Obj} {i R c3 c2 c1 T X H:Addr × Obj} {t3 t2 r:List (Addr × Obj)} (N:News h₀ L h (i::R::(t3++c3::c2::c1::T::X::H::(t2++r)))) (hm:(la,oa)∈t2) :
 News h₀ L h (H::(la,oa)::i::R::(t3++c3::c2::c1::T::X::H::(t2++r))):=fun p hp=>by
 k_extra "ax"
 · exact N _ (.tail _ (.tail _ (List.mem_append_right _ (.tail _ (.tail _ (.tail _ (.tail _ (.tail _ (.head _)))))))))
 · k_extra "ax"
   · exact N _ (.tail _ (.tail _ (List.mem_append_right _ (.tail _ (.tail _ (.tail _ (.tail _ (.tail _ (.tail _ (List.mem_append_left _ hm))))))))))
   · exact N _ hp
theorem z9 {h₀ h:Heap} {L x:Addr} {n:Nat} {y q:Str} {t1 t2 t3:Tok} {r:List (Addr × Obj)} (N:News h₀ L h ((x,{ cls := .type "tuple",data := .seq #[.int (n:Int) t1,.str y t2,.str q t3] })::r)) :
 ∃ (x':Addr) (ox:Obj),x'=x∧DatIn [(x,ox)] (.ref x) (cX (n,y,q))∧News h₀ L h ((x,ox)::r) :=
 ⟨_,_,rfl,.tuple (vs:=[.int (n:Int) t1,.str y t2,.str q t3]) (.head _) (.cons (.int _ _) (.cons (.str _ _) (.cons (.str _ _) .nil))),N⟩
theorem lw3 {α:Type} (x y i R : α) (t r:List α):∀ p∈i::R::((x::t)++r),p∈x::y::i::R::(t++r):=bP [[_],[_],[_],_,_,[_]] (zp qA (zp qB (zp (zp qC qD) qE))) (zp qC (zp qF (zp qA (zp qB (zp qD qE))))) rfl
theorem lw6 {h₀ h:Heap} {L:Addr} {a b c d e f g i j k x:Addr × Obj} {t r:List (Addr × Obj)} (N:News h₀ L h (a::b::c::d::e::f::g::i::j::k::(t++r))) (hx:x∈t):x∈a::b::c::d::e::f::g::i::j::k::(t++r):=by simp [hx]
theorem lw7 {α:Type} {t S P : α} {r:List α}:∀ p∈P::S::r,p∈t::S::P::r:=fun p hp=>by
 k_extra "ax"
 · k_extra "b4"
 k_extra "ax"
 · exact .tail _ (.head _)
 k_extra "es"
theorem lw8 {α:Type} {a b : α} {l r:List α}:∀ p∈r,p∈a::b::(l++r):=fun p hp => .tail _ (.tail _ (List.mem_append_right _ hp))
theorem bB.length {k:Nat} {ks ds es:List Dat} (h:bB k ks ds es):es.length=ks.length:=by
 refine cH (h) ?_
 (try clear h);rintro p h1 _ rfl
 rw [List.length_map,h1.length_eq,List.length_range]
theorem bB.mem {k:Nat} {ks es:List Dat} (h:bB k ks ks es):∀ d∈es,d∈ks:=by
 refine cH (h) ?_
 (try clear h);rintro p h1 _ rfl
 intro d hd
 k_extra "bk"
 rintro i hi rfl
 have:=List.mem_range.mp (h1.mem_iff.mp hi)
 rw [List.getD_eq_getElem?_getD,List.getElem?_eq_getElem this]
 exact List.getElem_mem _
theorem CJ {k:Nat} {ks es:List Dat} (h:bB k ks ks es) (hok:∀ d∈ks,kqdOk 6 d=true):kqdOk 8 (.tuple [.list es,.list []])=true:=by
 have:∀ d∈es,kqdOk 6 d=true:=fun d hd=>hok d (h.mem d hd)
 simpa [kqdOk] using this
theorem z8 {home:List Str} {tr:List (List Str)} (h:∀ l∈tr,(∀ a∈l,Nm a)∧l.length≤3):∀ d∈tr.map (fun l=>cX (cP home l)),kqdOk 6 d=true:=fun d hd=>by
 k_extra "bk"
 rintro l hl rfl
 exact okR (fX (h l hl).1) (eY (h l hl).1) 5
theorem uR {l:List Str}:Txt.startswith (aB l) (Str.ofString "/")=true:=by
 rw [qu,eZ];rfl
theorem qS {x:Str} {home:List Str} (hx:bZ x=aB home) (h:∀ a∈home,Nm a) (h3:home.length≤3):(bZ x).length≤100∧Txt.startswith (bZ x) (Str.ofString "/")=true ∧ ∀ l,(∀ a∈l,Nm a)→o7 (bZ x) (aB l)=cN home l :=
 ⟨by rw [hx];exact Nat.le_trans (jo h h3) (by decide),by rw [hx];exact uR,fun l hl=>by rw [hx];exact yW h hl⟩
theorem nD {h₀ h:Heap} {L x:Addr} {y q:Str} {t2 t3:Tok} {r:List (Addr × Obj)} (N:News h₀ L h ((x,{ cls := .type "tuple",data := .seq #[.str y t2,.str q t3] })::r)) :
 ∃ (x':Addr) (ox:Obj),x'=x∧DatIn [(x,ox)] (.ref x) (.tuple [.str y,.str q])∧News h₀ L h ((x,ox)::r) :=
 ⟨_,_,rfl,.tuple (vs:=[.str y t2,.str q t3]) (.head _) (.cons (.str _ _) (.cons (.str _ _) .nil)),N⟩
theorem lq1 {α:Type} (a b c d e f R : α) (t r:List α):R∈a::(t++b::c::d::e::f::R::r):=fB (i:=7) (ls:=[[_],_,[_],[_],[_],[_],[_],[_],_]) (zp qA (zp qB (zp qC (zp qD (zp qE (zp qF (zp qG (zp qH qI)))))))) rfl _ (.head _)
theorem lq2 {h₀ h9:Heap} {L:Addr} {a b c p q z d e f R T X H x:Addr × Obj} {t t2 t3 r:List (Addr × Obj)} (N:News h₀ L h9 (a::b::c::(t++p::(t2++q::z::d::e::f::R::T::X::H::(t3++r))))) (hx:x∈t3):x∈a::b::c::(t++p::(t2++q::z::d::e::f::R::T::X::H::(t3++r))):=by simp [hx]
theorem lq3 {α:Type} {a : α} {l r:List α}:∀ p∈r,p∈a::(l++r):=fun p hp => .tail _ (List.mem_append_right _ hp)
theorem lq4 {α:Type} (a b c d e f R T X : α) (t r:List α):X∈a::(t++b::c::d::e::f::R::T::X::r):=fB (i:=9) (ls:=[[_],_,[_],[_],[_],[_],[_],[_],[_],[_],_]) (zp qA (zp qB (zp qC (zp qD (zp qE (zp qF (zp qG (zp qH (zp qI (zp qJ (.var 10))))))))))) rfl _ (.head _)
theorem yM {home:List Str} {tr:List (List Str)} (h:∀ l∈tr,(∀ a∈l,Nm a)∧l.length≤3):kqdOk 8 (.list (tr.map (eO home)))=true:=by
 have:∀ l∈tr,kqdOk 7 (eO home l)=true:=fun l hl=>by
  have h1:=fX (home:=home) (h l hl).1
  have h2:=eY (h l hl).1
  simp [eO,kqdOk,h1,h2]
 simpa [kqdOk] using this
theorem AA {h:Heap} {a:Addr} {vs:Array Value} (H:h.IsList a vs):∃ a':Addr,a'=a∧h.IsList a' vs:=⟨_,rfl,H⟩
theorem Aw {h₀ h:Heap} {L a:Addr} {o:Obj} {r:List (Addr × Obj)} (N:News h₀ L h ((a,o)::r)):∃ a':Addr,a'=a∧News h₀ L h ((a',o)::r):=⟨_,rfl,N⟩
theorem uu (home l:List Str):(cN home l).length≤3 * home.length+wt l:=by
 have h1:(cN home l).length≤wt (List.replicate (home.length - aI home l) (Str.ofString "..")++l.drop (aI home l)):=mc (by decide) _
 rw [cK,rS] at h1
 have h2:=cK (l.take (aI home l)) (l.drop (aI home l))
 rw [List.take_append_drop] at h2
 have h3:(Str.ofString "..").length=2:=by decide
 rw [h3] at h1
 have h4:(home.length - aI home l) * (2+1)≤home.length * 3:=Nat.mul_le_mul_right 3 (Nat.sub_le _ _)
 (exact zae [_,_,_,_,_,_] 1 qC (zp (zk 3 qA) qB) [(1,qD,zr qA 3),(1,zp qE qF,qB),(1,qC,zp qD qF)] rfl h4 (zge h2) h1)
theorem sK {l:List Str} (h:∀ a∈l,Nm a) (h3:l.length≤3):wt l≤12:=by
 have h1:wt l≤l.length * 4:=n0 fun y hy=>(h y hy).len
 (exact zae [_,_] 1 qA (zn 12) [(1,qA,zr qB 4),(4,qB,zn 3)] rfl h1 h3)
theorem lg {h₀ h:Heap} {L:Addr} {x:Addr × Obj} {l:List (Addr × Obj)} (N:News h₀ L h l) (hm:x∈l):News h₀ L h (x::l):=fun p hp=>by
 k_extra "ax"
 · exact N _ hm
 · exact N _ hp
theorem lq5 {α:Type} (a i q b c d e f R T X H : α) {t:List α} (r:List α):H∈a::i::([]++q::(t++b::c::d::e::f::R::T::X::H::r)):=fB (i:=12) (ls:=[[_],[_],[_],_,[_],[_],[_],[_],[_],[_],[_],[_],[_],_]) (zp qA (zp qB (zp (zn 0) (zp qC (zp qD (zp qE (zp qF (zp qG (zp qH (zp qI (zp qJ (zp (.var 10) (zp (.var 11) (zp (.var 12) (.var 13))))))))))))))) rfl _ (.head _)
theorem Am {a:Str} (h:(a != a)=true):False:=by simp at h
theorem lq7 {α:Type} (a b c t : α) (l:List α):t∈a::b::c::(l++[t]):=fB (i:=4) (ls:=[[_],[_],[_],_,[_]]) (zp qA (zp qB (zp qC (zp qD qE)))) rfl _ (.head _)
theorem lw9 {α:Type} {f c D : α} {r:List α}:∀ p∈D::f::c::r,p∈f::c::D::r:=fun p hp=>by
 k_extra "ax"
 · k_extra "b4"
 k_extra "ax"
 · exact .head _
 k_extra "ax"
 · exact .tail _ (.head _)
 k_extra "es"
theorem yY {h₀ h:Heap} {L a b c:Addr} {o1 o2 o3:Obj} {r:List (Addr × Obj)} (N:News h₀ L h ((a,o1)::(b,o2)::(c,o3)::r)):∃ a' b' c':Addr,a'=a∧b'=b∧c'=c∧News h₀ L h ((a',o1)::(b',o2)::(c',o3)::r):=⟨_,_,_,rfl,rfl,rfl,N⟩
noncomputable def lW (script:List Int):Nat:=(1+(script.sum+1).fmod 4).toNat
theorem zV (script:List Int) : 1+(script.sum+1).fmod 4=(lW script:Int):=by
 k_extra "gy"
 unfold lW;k_extra "g"
theorem yr (script:List Int) : 1≤lW script∧lW script≤4:=by
 k_extra "gy"
 have h2:=Int.fmod_lt_of_pos (script.sum+1) (b:=4) (by decide)
 unfold lW;k_extra "g"
theorem AN {news:List (Addr × Obj)} {vs:List Value} {ds:List Dat} (h:DatAll news vs ds):DatAll news vs.reverse ds.reverse :=
 gZ (P:=fun vs ds=>DatAll news vs.reverse ds.reverse) .nil (fun _ _ _ _ h _ ih=>by
  rw [List.reverse_cons,List.reverse_cons]
  exact DatAll.append ih (DatAll.one h)) h
theorem yN {home:List Str} {tr:List (List Str)} (h:∀ l∈tr,(∀ a∈l,Nm a)∧l.length≤3):∀ d∈tr.map (eO home),kqdOk 1 d=true:=fun d hd=>by
 k_extra "bk"
 rintro l hl rfl
 have h1:=fX (home:=home) (h l hl).1
 have h2:=eY (h l hl).1
 simp [eO,kqdOk,h1,h2]
theorem wT {home:List Str} {tr:List (List Str)}:∀ a∈tr.map (eO home),∀ b∈tr.map (eO home),aY 1 a b=true:=fun a ha b hb=>by
 k_extra "bb"
 rintro l _ rfl
 k_extra "gt"
 rintro k _ rfl
 rfl
theorem AB {cold:List (Addr × Obj)} {v:Value} {home l:List Str} (h:DatIn cold v (eO home l)):∃ a t1 t2 k,v = .ref a∧(a,({ cls := .type "tuple",data := .seq #[.str (cN home l) t1,.str (aB l) t2] k }:Obj))∈cold:=CG h
theorem lq8 {α:Type} {x : α} {r:List α} (f c t Q P S T c3 c2 c1 : α) (h:x∈r):x∈f::c::t::Q::P::S::T::c3::c2::c1::r:=fB (i:=10) (ls:=[[_],[_],[_],[_],[_],[_],[_],[_],[_],[_],_]) (zp qA (zp qB (zp qC (zp qD (zp qE (zp qF (zp qG (zp qH (zp qI (zp qJ (.var 10))))))))))) rfl _ h
theorem yt {home l:List Str} (h:home.length≤3) (h1:∀ a∈l,Nm a) (h2:l.length≤3):(cN home l).length≤30:=by
 have h3:=uu home l
 have h4:=sK h1 h2
 (exact zae [_,_,_] 1 qA (zn 30) [(1,qB,zn 12),(1,qA,zp (zk 3 qC) qB),(3,qC,zn 3)] rfl h4 h3 h)
theorem Do {α:Type} {x a b c : α} {l:List α}:∀ p∈[x]++l,p∈x::a::b::c::l:=bP [[_],_,[_],[_],[_]] (zp qA qB) (zp qA (zp qC (zp qD (zp qE qB)))) rfl
theorem lq9 {α:Type} (n:List α) (d f c t : α) (r:List α):t∈n++d::f::c::t::r:=fB (i:=4) (ls:=[_,[_],[_],[_],[_],_]) (zp qA (zp qB (zp qC (zp qD (zp qE qF))))) rfl _ (.head _)
theorem Cc {h₀ h:Heap} {L:Addr} {k:Str} {i:Int} {t:Tok} {m:Str→Option Value} (F:Fr h₀ L h (fun y=>if y=k then some (.int i t) else m y)):∃ t',Fr h₀ L h (fun y=>if y=k then some (.int i t') else m y):=⟨_,F⟩
theorem Dn {α:Type} {f c t N P : α} {r:List α}:∀ p∈P::f::c::t::N::r,p∈f::c::t::N::P::r:=fun p hp=>by
 k_extra "ax"
 · k_extra "fp"
 k_extra "ax"
 · exact .head _
 k_extra "ax"
 · exact .tail _ (.head _)
 k_extra "ax"
 · k_extra "b4"
 k_extra "ax"
 · k_extra "dm"
 k_extra "fe"
theorem yZ {h₀ h:Heap} {L a b:Addr} {o1 o2:Obj} {r:List (Addr × Obj)} (N:News h₀ L h ((a,o1)::(b,o2)::r)):∃ a' b':Addr,a'=a∧b'=b∧News h₀ L h ((a',o1)::(b',o2)::r):=⟨_,_,rfl,rfl,N⟩
theorem yL {tr:List (List Str)} (h:∀ l∈tr,(∀ a∈l,Nm a)∧l.length≤3):∀ d∈(tr.map aB).map Dat.str,kqdOk 1 d=true:=fun d hd=>by
 k_extra "bk"
 rintro q hq rfl
 k_extra "e3"
 rintro l hl rfl
 have h2:=eY (h l hl).1
 simp [kqdOk,h2]
theorem wR {l:List Str}:∀ a∈l.map Dat.str,∀ b∈l.map Dat.str,aY 1 a b=true:=fun a ha b hb=>by
 k_extra "bb"
 rintro l _ rfl
 k_extra "gt"
 rintro k _ rfl
 rfl
theorem pY {l:List Str}:(Txt.split (aB l) (Str.ofString "/")).length≤(aB l).length+1:=by
 have h2:=split_weight (aB l) (Str.ofString "/") (by decide)
 (exact zae [_,_,_] 1 qB (zu qA) [(1,zp qC qB,zu qA)] rfl h2)
theorem Dm {α:Type} {a b c : α} {l:List α}:∀ p∈[]++l,p∈a::b::c::l:=bP [_,[_],[_],[_]] (zp (zn 0) qA) (zp qB (zp qC (zp qD qA))) rfl
section
variable {prog:Program} {w:World} {A:Around} {h₀:Heap} {L:Addr} {m:Str→Option Value} {env:Env}
theorem ul {elt:Expr} {x:Str} {scope:Scope} {cl:List (Str × Addr)} {Fin:Shared→List Value→List (Addr × Obj)→Prop} {rr:Addr} {n9:Nat} {tt9 uu9 vv9:Tok} {news:List (Addr × Obj)} {s₁:Shared}
 (hh:A.handled=none) (F:Fr h₀ L s₁.heap m) (N:News h₀ L s₁.heap news) (hr:IsRange s₁.heap rr 0 (n9:Int) 1 tt9 uu9 vv9) (hn:n9≤1000000)
 (h:∀ g,CompRest prog w A h₀ L m env elt x scope cl { s₁ with heap:=g } (fun _=>True) (fun i v => ∃ t,v = .int (i:Int) t) (Fin { s₁ with heap:=g }) n9 0 [] news) :
 CompSrc prog w A h₀ L m env elt x scope cl Fin (.ref rr) s₁:=by
 have hP:(fun (i:Nat) (v:Value) => ∃ t,v = .int (0+(i:Int)) t)=fun i v => ∃ t,v = .int (i:Int) t:=by
  funext i v;rw [Int.zero_add]
 exact CompSrc.range hh F N hr (small_one (by k_extra "g") (by exact zmt (zal [] 1 (zn 0) (zn 4611686018427387904) [] rfl)) (by k_extra "g") (by exact zmt (zal [_] 1 qA (zn 4611686018427387904) [(1,qA,zn 1000000)] rfl hn))) (by rw [rangeSize_nat,Int.sub_zero,Int.toNat_natCast]) (by rw [sizeLine_eq];(exact zae [_] 1 qA (zn 16777216) [(1,qA,zn 1000000)] rfl hn)) (fun g=>by rw [hP];exact h g)
end
theorem lm3 {α:Type} {Y a I C D : α} {r:List α}:∀ p∈Y::I::C::D::r,p∈Y::a::I::C::D::r:=fun p hp=>by
 k_extra "ax"
 · exact .head _
 k_extra "ax"
 · k_extra "b4"
 k_extra "ax"
 · k_extra "dm"
 k_extra "ax"
 · k_extra "fp"
 k_extra "fe"
theorem lm2 {α:Type} {x : α} {r:List α} (I C D P N S T c3 c2 c1 H : α) {q:List α} (h:x∈r):x∈I::C::D::(q++H::P::N::S::T::c3::c2::c1::r):=fB (i:=12) (ls:=[[_],[_],[_],_,[_],[_],[_],[_],[_],[_],[_],[_],_]) (zp qA (zp qB (zp qC (zp qD (zp qE (zp qF (zp qG (zp qH (zp qI (zp qJ (zp (.var 10) (zp (.var 11) (.var 12))))))))))))) rfl _ h
theorem zm {h₀ h:Heap} {L x:Addr} {i j:Int} {t2 t3:Tok} {r:List (Addr × Obj)} (N:News h₀ L h ((x,{ cls := .type "tuple",data := .seq #[.int i t2,.int j t3] })::r)) :
 ∃ (x':Addr) (ox:Obj),x'=x∧DatIn [(x,ox)] (.ref x) (.tuple [.int i,.int j])∧News h₀ L h ((x,ox)::r) :=
 ⟨_,_,rfl,.tuple (vs:=[.int i t2,.int j t3]) (.head _) (.cons (.int _ _) (.cons (.int _ _) .nil)),N⟩
theorem tJ {home:List Str} {tr:List (List Str)} {es:List Dat} {k:Nat} (h:bB k (tr.map fun l=>cX (cP home l)) (tr.map fun l=>cX (cP home l)) es) {d:Dat} (hd:d∈es):∃ l∈tr,d=cX (cP home l):=by
 refine aE (List.mem_map.mp (h.mem d hd)) ?_
 intro l hl e
 exact ⟨l,hl,e.symm⟩
theorem Al {home:List Str} {tr:List (List Str)} {es:List Dat} {k:Nat} (wi:Nat) (h:bB k (tr.map fun l=>cX (cP home l)) (tr.map fun l=>cX (cP home l)) es) (hn:∀ l∈tr,(∀ a∈l,Nm a)∧l.length≤3):kqdOk 8 (.list ((es.take wi).map iX))=true:=by
 have:∀ d∈(es.take wi).map iX,kqdOk 7 d=true:=fun d hd=>by
  k_extra "bk"
  rintro e he rfl
  refine aE (tJ h (List.mem_of_mem_take he)) ?_
  rintro l hl rfl
  have h1:=fX (home:=home) (hn l hl).1
  have h2:=eY (hn l hl).1
  simp [iX,cX,cP,kqdOk,h1,h2]
 simpa [kqdOk] using this
theorem lm4 {h₀ h9:Heap} {L:Addr} {I C D X G F H P N S T c3 c2 c1 x:Addr × Obj} {q q2 r:List (Addr × Obj)} (N0:News h₀ L h9 (I::C::D::(q++X::G::F::(q2++H::P::N::S::T::c3::c2::c1::r)))) (hx:x∈r):x∈I::C::D::(q++X::G::F::(q2++H::P::N::S::T::c3::c2::c1::r)):=by simp [hx]
theorem lm5 {α:Type} (E X G F H P N S T c3 c2 c1 : α) {q q2 r:List α}:N∈E::(q++X::G::F::(q2++H::P::N::S::T::c3::c2::c1::r)):=fB (i:=8) (ls:=[[_],_,[_],[_],[_],_,[_],[_],[_],[_],[_],[_],[_],[_],_]) (zp qA (zp qB (zp qC (zp qD (zp qE (zp qF (zp qG (zp qH (zp qI (zp qJ (zp (.var 10) (zp (.var 11) (zp (.var 12) (zp (.var 13) (.var 14))))))))))))))) rfl _ (.head _)
theorem lm6 {α:Type} {x : α} {r:List α} (E X G F H P N S T c : α) {c2 c1 : α} {q q2:List α} (h:x∈r):x∈E::(q++X::G::F::(q2++H::P::N::S::T::c::c2::c1::r)):=fB (i:=14) (ls:=[[_],_,[_],[_],[_],_,[_],[_],[_],[_],[_],[_],[_],[_],_]) (zp qA (zp qB (zp qC (zp qD (zp qE (zp qF (zp qG (zp qH (zp qI (zp qJ (zp (.var 10) (zp (.var 11) (zp (.var 12) (zp (.var 13) (.var 14))))))))))))))) rfl _ h
theorem tM {tr:List (List Str)} {es:List Dat} {k:Nat} (h:bB k ((List.range tr.length).map (dO tr)) ((List.range tr.length).map (dO tr)) es) {d:Dat} (hd:d∈es):∃ i,i < tr.length∧d=dO tr i:=by
 refine aE (List.mem_map.mp (h.mem d hd)) ?_
 intro i hi e
 exact ⟨i,List.mem_range.mp hi,e.symm⟩
theorem AC {cold:List (Addr × Obj)} {v:Value} {tr:List (List Str)} {i:Nat} (h:DatIn cold v (dO tr i)):∃ a t1 t2 k,v = .ref a∧(a,({ cls := .type "tuple",data := .seq #[.int ((tr.getD i []).length:Int) t1,.int (i:Int) t2] k }:Obj))∈cold:=CI h
theorem AH {tr:List (List Str)} {es:List Dat} {k wi:Nat} (h:bB k ((List.range tr.length).map (dO tr)) ((List.range tr.length).map (dO tr)) es) (hn:∀ l∈tr,(∀ a∈l,Nm a)∧l.length≤3):kqdOk 8 (.list ((es.take wi).map (dG (tr.map aB))))=true:=by
 have:∀ d∈(es.take wi).map (dG (tr.map aB)),kqdOk 7 d=true:=fun d hd=>by
  k_extra "bk"
  rintro e he rfl
  refine aE (tM h (List.mem_of_mem_take he)) ?_
  rintro i hi rfl
  unfold dO dG
  simp only [Int.toNat_natCast]
  rw [List.getD_eq_getElem?_getD,List.getElem?_map,List.getElem?_eq_getElem hi]
  have h2:=eY (hn _ (List.getElem_mem hi)).1
  simpa [kqdOk] using h2
 simpa [kqdOk] using this
theorem lm7 {h₀ h9:Heap} {L:Addr} {I C D Z X G F x:Addr × Obj} {q2 r:List (Addr × Obj)} (N0:News h₀ L h9 (I::C::D::Z::X::G::F::(q2++r))) (hx:x∈q2):x∈I::C::D::Z::X::G::F::(q2++r):=by simp [hx]
theorem lm8 {α:Type} (K Z X G F H P N S T c3 c2 : α) {q2 r:List α}:H∈K::Z::X::G::F::(q2++H::P::N::S::T::c3::c2::r):=fB (i:=6) (ls:=[[_],[_],[_],[_],[_],_,[_],[_],[_],[_],[_],[_],[_],_]) (zp qA (zp qB (zp qC (zp qD (zp qE (zp qF (zp qG (zp qH (zp qI (zp qJ (zp (.var 10) (zp (.var 11) (zp (.var 12) (.var 13)))))))))))))) rfl _ (.head _)
theorem lm9 {α:Type} {x : α} {r:List α} (K Z X G F H P N S T : α) {c3 c2 c1 : α} {q2:List α} (h:x∈r):x∈K::Z::X::G::F::(q2++H::P::N::S::T::c3::c2::c1::r):=fB (i:=14) (ls:=[[_],[_],[_],[_],[_],_,[_],[_],[_],[_],[_],[_],[_],[_],_]) (zp qA (zp qB (zp qC (zp qD (zp qE (zp qF (zp qG (zp qH (zp qI (zp qJ (zp (.var 10) (zp (.var 11) (zp (.var 12) (zp (.var 13) (.var 14))))))))))))))) rfl _ h
theorem Dp {α:Type} (I C D Z X G F H P : α) {q2 r:List α}:P∈I::C::D::Z::X::G::F::(q2++H::P::r):=fB (i:=9) (ls:=[[_],[_],[_],[_],[_],[_],[_],_,[_],[_],_]) (zp qA (zp qB (zp qC (zp qD (zp qE (zp qF (zp qG (zp qH (zp qI (zp qJ (.var 10))))))))))) rfl _ (.head _)
theorem wM (script:List Int):Challenge.rw_ik0112_01.row.claim.post [ofPy (PyData.list (List.map PyData.int script))] (.bool true) [ofPy (PyData.list (List.map PyData.int script))]=true:=by
 wrow_post
theorem Bi {α:Type} {l:List α}:∀ p∈([]:List α),p∈l:=fun p hp=>nomatch hp
theorem qq (script:List Int) (x:Str) (hx:x∈aL script):x.length≤15∧(x.length:Int)≠0∧(Txt.slice x none (some 1) != Str.ofString "/")=false∧(Txt.slice x (some 1) (some 2) != Str.ofString "/")=true∧wt (Txt.split (Txt.slice x (some 1) none) (Str.ofString "/"))≤100000:=by
 have h:=(eG script x hx).1
 k_extra "gu"
 rintro n _ rfl
 have h2:=wz n
 refine ⟨h,h2.1,h2.2.1,h2.2.2,?_⟩
 have h3:=split_weight (Txt.slice (aO n) (some 1) none) (Str.ofString "/") (by decide)
 have h4:=Txt.slice_le (aO n) (some 1) none
 unfold wt;(exact zae [_,_,_,_] 1 (zp qA qB) (zn 100000) [(1,qC,qD),(1,zp qA qB,zu qC),(1,qD,zn 15)] rfl h4 h3 h)
theorem vv (script:List Int):(aM script).length≤15∧((aM script).length:Int)≠0∧(Txt.slice (aM script) none (some 1) != Str.ofString "/")=false∧(Txt.slice (aM script) (some 1) (some 2) != Str.ofString "/")=true∧wt (Txt.split (Txt.slice (aM script) (some 1) none) (Str.ofString "/"))≤100000:=qq script (aM script) (ik script)
theorem lawtry:PySem.Challenge.rw_ik0112_01.Holds:=by
 refine hd ?_
 w_strict (
  k_go0
  (all_goals try k_fold)
  ktr_unf
  k_extra "ay"
  k_extra "az"
  (with_reducible rename IntsAre _ ([17,170]++List.take 4 _)=>hXs)
  (with_reducible rename List Int=>script)
  (with_reducible rename Heap.IsList (ghostOf _ _) _ _=>hLs)
  refine aE (AA hLs) ?_
  intro lSc eSc hLs2
  subst eSc
  clear hLs2
  have hXl:=yX hXs
  refine LCg.CompSrc.ledger rfl lF' lN' (List.Mem.head _) (by rw [List.size_toArray,sizeLine_eq];simp at hXl;(exact zae [_,_] 1 qA (zn 16777216) [(1,qA,zu (zu qB)),(1,qB,zn 4)] rfl (zle hXl) (Nat.min_le_left _ _))) ?_
  intro g5
  refine dH (fun i ys nw=>nw=_∧StrsAre ys (((l8 script).take i).map aO)) ⟨rfl,.nil⟩ ?turnA ?finA
  case turnA =>
   intro i ys nw hi hr2q
   refine bV (hr2q) ?_
   (try clear hr2q);rintro rfl hY
   k_extra "dn"
   k_extra "cm"
   rw [List.size_toArray] at hi
   refine bA (⟨_,List.getElem?_eq_getElem (by unfold l8;(exact zal [_,_,_] 1 qB qA [(1,zu qB,qC),(1,qC,qA)] rfl hi (zle hXl)))⟩:∃ q,(l8 script)[i]? = some q) ?_
   intro q hq
   refine bA (hXs.get i q hq) ?_
   intro tq htq
   rw [htq] at hv5
   cases hv5
   ktr_unf
   k_extra "c1"
   case S5=>exact Or.inr ⟨_,.head _,rfl,_,rfl⟩
   refine ⟨rfl,?_⟩
   rw [List.take_add_one,hq,List.map_append]
   exact StrsAre.snoc hY _ _
  case finA =>
   intro ya nw hr3q
   refine bV (hr3q) ?_
   (try clear hr3q);rintro rfl hYA
   have e9:_=(l8 script).length:=hXl
   rw [List.size_toArray,e9,List.take_length] at hYA
   change StrsAre ya (aL script) at hYA
   have hyl:=hYA.len_eq
   have hyl2:=ij script
   ktr_unf
   k_extra "ay"
   k_extra "az"
   (with_unfolding_all refine' gA lN' (.head _) rfl rfl hYA ?qa ?qb ?qx ?_ ?qr)
   case qa=>exact vg _ (by exact zmt (zal [_,_] 1 (zn 0) qA [(1,zn 2,qB),(1,qB,qA)] rfl hyl2.1 (zge hyl)))
   case qb=>exact tH _ (by exact zmt (zal [_,_] 1 (zn 0) qA [(1,zn 2,qB),(1,qB,qA)] rfl hyl2.1 (zge hyl)))
   case qx=>exact tI _ (by exact zmt (zal [_,_] 1 (zn 0) qA [(1,zn 2,qB),(1,qB,qA)] rfl hyl2.1 (zge hyl))) (by exact zme (zae [_,_] 1 qA (zn 1000000) [(1,qB,zn 6),(1,qA,qB)] rfl hyl2.2 (zle hyl)))
   case qr=>with_unfolding_all rfl
   intro y8 t8 hy8 hz8
   have hst:aM script=y8:=by unfold aM;rw [hyl] at hz8;rw [List.getD_eq_getElem?_getD,hz8];rfl
   have hsl:=(eG script y8 (List.mem_of_getElem? hz8)).1
   have hss:=(eG script y8 (List.mem_of_getElem? hz8)).2.1
   rw [← hst] at hsl hss hy8
   clear hz8
   subst hst
   ktr_unf
   k_extra "ay"
   k_extra "az"
   have N2:=cb_drop lN' lw1
   refine A0 (ts:=aL script) (by assumption) lF' (by assumption) N2 (by assumption) rfl rfl (by ktr_room) (by ktr_units) hYA (by exact zae [_] 1 qA (zn 10) [(1,qA,zn 6)] rfl hyl2.2) (wy script) ?_
   intro lT wtT nT tlT h2 tk2 F2 N3 hneT hAT
   refine zQ (xj N3 hneT (by with_reducible assumption) (by with_reducible assumption) (by with_reducible assumption) hAT Bp) ?_
   intro tl2 hc2 hl2 hA2 hcc N4
   have hcc1:=fun (p:Addr × Obj) hp=>(hcc p hp).1
   have hcc2:=fun (p:Addr × Obj) hp=>(hcc p hp).2.1
   have hcc3:=fun (p:Addr × Obj) hp=>(hcc p hp).2.2
   clear N3 hneT N2 lN' lF'
   dsimp only
   ktr_unf
   k_extra "ay"
   k_extra "az"
   refine jz (y3 lN') ?_
   intro lR lX lH eR eX eH N5
   subst eR eX eH
   (with_reducible rename _ < lR∧_=>hltR)
   have hltR2:=sO N5 hltR
   clear lN'
   k_extra "bu"
   ktr_unf
   k_extra "ay"
   have htl:=hA2.length
   rw [List.length_map] at htl
   have htr:=gO script
   generalize htrW:bT (aL script)=tr at *
   refine dE rfl (.tail _ (.tail _ (.tail _ (.tail _ (.head _))))) rfl rfl lF' N5 (fun I h' S=>dA S (fun p hp=>by rw [List.mem_singleton.mp hp];exact .tail _ (.tail _ (.tail _ (.head _)))) ?hneR (fun lc i m' w tl3=>m' (Str.ofString "rows")=some (.ref lc)∧m' (Str.ofString "texts")=some (.ref lX)∧m' (Str.ofString "home")=some (.ref lH)∧(∃ t,m' (Str.ofString "start")=some (.str (aM script) t))∧m' (Str.ofString "script")=some (.ref lSc)∧DatAll tl3 w ((tr.take i).map (fun l=>cX (cP (aA (aM script)) l)))) ⟨rfl,rfl,rfl,⟨_,rfl⟩,rfl,.nil⟩ ?turnR ?doneR)
   case hneR=>exact fun p hp=>Nat.ne_of_lt (hltR2 p hp)
   case turnR =>
    intro i v m₁ w n1 tl3 it h4 tk4 hi hv hr4q
    refine jA (hr4q) ?_
    (try clear hr4q);rintro hm1 hm2 hm3 ⟨t4,hm4⟩ hmS hA3
    intro ho hI hoff F5 N6
    k_extra "b1"
    refine aE (DatAll.at hA2 hv) ?_
    intro d hd hdin
    rw [List.getElem?_map] at hd
    k_extra "dd"
    rintro l hl rfl
    refine dD (tz hdin) ?_
    rintro la lv ln rfl hlm hlS
    clear F5
    k_extra "g4"
    have hsf:=iK script
    have hwl:wt l≤12:=by
     have:=n0 (l:=l) (b:=3) fun y hy=>(hlf.1 y hy).len
     have h3:=hlf.2
     have:l.length * 4≤3 * 4:=Nat.mul_le_mul_right 4 h3
     k_extra "g"
    have hwl2:wt l≤1000000:=by (exact zae [_] 1 qA (zn 1000000) [(1,qA,zn 12)] rfl hwl)
    have hll:=hlf.2
    have hlaR : @Ne Nat la lR:=ho (la,_) (List.mem_append_right _ (.tail _ (.tail _ (.tail _ (.tail _ (.tail _ (.tail _ (List.mem_append_left _ hlm))))))))
    have N7:=Bo N6 hlm
    clear N6
    ktr_unf
    k_extra "ay"
    refine zK (home:=aA (aM script)) (goal:=l) (by assumption) lF' (by assumption) N7 (by assumption) rfl rfl (by ktr_room) (by ktr_units) (by with_reducible assumption) hlS (by exact zae [_] 1 qA (zn 100) [(1,qA,zn 3)] rfl hsf.2.1) (by exact zae [_] 1 qA (zn 1000) [(1,qA,zn 3)] rfl hll) (by exact zae [_] 1 qA (zn 100000) [(1,qA,zn 12)] rfl hwl) ?_
    intro tw h5 tk5 F7 N8
    have N9:=cb_drop N8 (fun p hp => .tail _ hp)
    clear N8 N7 lF'
    have hw3:w.length≤19:=by
     have h1:=hA3.length
     rw [List.length_map,List.length_take] at h1
     have:=htr.2.1
     (exact zae [_,_,_,_,_] 1 qA (zn 19) [(1,qB,zn 19),(1,qA,qC),(1,zu qD,qE),(1,qE,qB),(1,qC,qD)] rfl this (zle h1) hi (zle htl) (Nat.min_le_left _ _))
    have hs1:(Str.ofString "/").length=1:=by decide
    have hwy:=uu (aA (aM script)) l
    dsimp only
    ktr_unf
    k_extra "ay"
    k_extra "az"
    refine cJ (z9 lN') ?_
    intro lY oY e9 hYd N10
    subst e9
    have hYI : @Ne Nat lY I:=by k_ne
    have hYR : @Ne Nat lY lR:=by k_ne
    show aX _ _ _ _ _ _ _
    refine dS.intro lF' N10 (w++[.ref lY]) (n1+1) ((lY,oY)::tl3) (lw3 _ _ _ _ _ _) (aJ hI (aJ hYI hoff)) (aJ hYR ho) ⟨rfl,rfl,rfl,⟨_,rfl⟩,rfl,?_⟩
    k_extra "fi"
    exact DatAll.append (hA3.mono fun p hp => .tail _ hp) (DatAll.one (hYd.mono fun p hp=>by rw [List.mem_singleton.mp hp];exact .head _))
   case doneR =>
    intro m₁ w n1 tl3 h4 tk4 hr5q
    refine jA (hr5q) ?_
    (try clear hr5q);rintro hm1 hm2 hm3 ⟨t4,hm4⟩ hmS hA3
    intro ho F5 N6
    k_extra "b1"
    rw [htl,List.take_length] at hA3
    clear F5
    refine cH (vZ N6 hcc (by with_reducible assumption) (by with_reducible assumption) (by with_reducible assumption) hA3 (fun _ e=>nomatch e)) ?_
    intro tl3b hA3 hdd N6
    have hdd1:=fun (p:Addr × Obj) hp=>(hdd p hp).1
    have hdd2:=fun (p:Addr × Obj) hp=>(hdd p hp).2.1
    have hdd3:=fun (p:Addr × Obj) hp=>(hdd p hp).2.2
    have hwl:=hA3.length
    rw [List.length_map] at hwl
    have htr2:=htr.2.1
    ktr_unf
    k_extra "ay"
    refine LCg.CompSrc.ledger rfl lF' N6 (.tail _ (.tail _ (.tail _ (.head _)))) (by rw [List.size_toArray,sizeLine_eq];(exact zae [_,_] 1 qA (zn 16777216) [(1,qB,zn 19),(1,qA,qB)] rfl htr2 (zle hwl))) ?_
    intro g6
    refine dH (fun i ys nw=>nw=_∧StrsAre ys ((tr.take i).map aB)) ⟨rfl,.nil⟩ ?turnP ?finP
    case turnP =>
     intro k ys nw hk hr6q
     refine bV (hr6q) ?_
     (try clear hr6q);rintro rfl hY
     intro v I5 oI5 C5 oC5 D5 m5 h5 tk5 E5 hv5 hC5 hx5 F5 N7 off5 ne5
     k_extra "cm"
     refine aE (DatAll.at hA3 hv5) ?_
     intro d hd hdin
     rw [List.getElem?_map] at hd
     k_extra "dd"
     rintro l hl rfl
     refine rO (ph hdin) ?_
     rintro a8 s1 s2 s3 k8 rfl hm8
     have hm7:=lw6 N7 hm8
     ktr_unf
     k_extra "c1"
     case S5=>exact Or.inr ⟨_,.tail _ (.tail _ (.tail _ (.head _))),rfl,_,rfl⟩
     refine ⟨rfl,?_⟩
     k_extra "fi"
     exact StrsAre.snoc hY _ _
    case finP =>
     intro yp nw hr7q
     refine bV (hr7q) ?_
     (try clear hr7q);rintro rfl hYP
     rw [List.size_toArray,hwl,List.take_length] at hYP
     ktr_unf
     k_extra "ay"
     k_extra "az"
     have htr3:=htr.2.2
     refine oq (k:=0) (vs:=w) (cold:=tl3b) lF' lN' (by k_mem) hA3 (fun p hp=>by simp [hp]) (by rw [← htrW];exact jY script) (by rw [List.length_map];(exact zae [_] 1 (zn 2) qA [(1,zn 4,qA)] rfl htr3)) (by rw [List.length_map];(exact zal [_] 1 qA (zn 64) [(1,qA,zn 19)] rfl htr2)) (by ktr_units) ?_
     intro lS us es cS hS9 FS NS hltS hAS hSB
     (try k_lt hltS)
     refine iB (vv script) ?_
     intro hr1 hr2 hr3 hr4 hr5
     dsimp only
     ktr_unf
     k_extra "ay"
     k_extra "az"
     have hTL:=yw script (es:=es) (by unfold fD;rw [htrW];exact hSB)
     rw [htrW] at hTL
     have hpf:=sp htr.1
     have hsl3:=(iK script).2.2
     refine aE (List.mem_map.mp (ik script)) ?_
     intro nst _ hst9
     refine A6 (G:=GR) (by assumption) lF' (by assumption) (cb_drop lN' lw7) (by assumption) rfl rfl (by ktr_room) (by ktr_units) hYP (by rw [List.length_map];(exact zae [_] 1 qA (zn 20) [(1,qA,zn 19)] rfl htr2)) (by exact zae [_] 1 qA (zn 100) [(1,qA,zn 15)] rfl hr1) nM (fun x y h1 h2=>AJ h1 h2) rN (fun q hq=>(hpf q hq).1) (fun x h=>h.1) (fun q hq=>(hpf q hq).2) (fun t ht _=>by rw [← hst9];exact yC nst t ht) ?_
     intro lDT nwT h7 tk7 F7 N7 hDT
     rw [hTL.1,hTL.2] at hDT
     clear lF' lN'
     dsimp only
     ktr_unf
     k_extra "ay"
     k_extra "az"
     have hesl:=hSB.length
     have hok:=z8 (home:=aA (aM script)) htr.1
     have heso:kqdOk 8 (.tuple [.list es,.list []])=true:=CJ hSB hok
     refine uY lN' (hDT.mono (fun p hp => .tail _ (.tail _ hp))) (fun p hp=>hp) (.tuple (vs:=[.ref lS,.ref _]) (.head _) (.cons (.list (.tail _ (.tail _ (List.mem_append_right _ (.tail _ (.head _))))) (hAS.mono ?s9)) (.cons (.list (vs:=[]) (.tail _ (.head _)) .nil) .nil))) (fun p hp=>hp) heso heso (by ktr_units) rfl ?_
     case s9=>exact fun p hp=>by simp [hp]
     have N8:=cb_drop lN' lw8
     clear lN' hDT
     have hno:bZ (aM script)=aB (aA (aM script)):=by rw [← hst9];exact qR nst
     have hsf:=iK script
     have hlk:=qS hno hsf.1 hsf.2.1
     have hyl9:=hYP.len_eq
     rw [List.length_map] at hyl9
     ktr_unf
     k_extra "ay"
     refine LCg.CompSrc.ledger rfl lF' N8 (.head _) (by rw [List.size_toArray,sizeLine_eq];(exact zae [_,_] 1 qA (zn 16777216) [(1,qA,qB),(1,qB,zn 19)] rfl (zle hyl9) htr2)) ?_
     intro g7
     refine dH (fun i ys nw => ∃ tq,nw=tq++_∧DatAll tq ys ((tr.take i).map (eO (aA (aM script))))) ⟨[],rfl,.nil⟩ ?turnQ ?finQ
     case turnQ =>
      intro k ys nw hk hr8q
      refine aE (hr8q) ?_
      (try clear hr8q);rintro tq rfl hA
      k_extra "do"
      k_extra "cm"
      refine aV (hYP.item k v hv5) ?_
      rintro x tx rfl hx
      rw [List.getElem?_map] at hx
      refine aE (Option.map_eq_some_iff.mp hx) ?_
      rintro l hl rfl
      k_extra "g4"
      clear lF' N8
      ktr_unf
      k_extra "ay"
      k_extra "az"
      refine xf (by assumption) lF' (by assumption) lN' (by assumption) rfl rfl (by ktr_room) (by ktr_units) hlk.1 (Nat.le_trans (jo hlf.1 hlf.2) (by decide)) hlk.2.1 uR ?_
      intro t9 h9 tk9 F9 N10
      rw [hlk.2.2 l hlf.1]
      clear lF' lN'
      dsimp only
      ktr_unf
      k_extra "ay"
      k_extra "az"
      refine cJ (nD lN') ?_
      intro lY oY e9 hYd N11
      subst e9
      k_extra "g1"
      k_extra "g2"
      k_extra "gv"
      k_extra "gz"
      case S5=>exact Or.inr ⟨_,.tail _ (List.mem_append_right _ (.head _)),rfl,_,rfl⟩
      refine ⟨_::tq,rfl,?_⟩
      k_extra "fi"
      k_extra "b2"
     case finQ =>
      intro yq nw hr9q
      refine aE (hr9q) ?_
      (try clear hr9q);rintro tq rfl hAQ
      rw [List.size_toArray,hyl9,List.take_length] at hAQ
      clear lF' N8
      ktr_unf
      k_extra "ay"
      k_extra "az"
      refine LCg.CompSrc.ledger rfl lF' lN' (lq1 _ _ _ _ _ _ _ _ _) (by rw [List.size_toArray,sizeLine_eq];(exact zae [_,_] 1 qA (zn 16777216) [(1,qB,zn 19),(1,qA,qB)] rfl htr2 (zle hwl))) ?_
      intro g8
      refine dH (fun i ys nw => ∃ tr2,nw=tr2++_∧DatAll tr2 ys ((tr.take i).map (eO (aA (aM script))))) ⟨[],rfl,.nil⟩ ?turnS ?finS
      case turnS =>
       intro k ys nw hk hr10q
       refine aE (hr10q) ?_
       (try clear hr10q);rintro ts rfl hA
       k_extra "do"
       k_extra "cm"
       refine aE (DatAll.at hA3 hv5) ?_
       intro d hd hdin
       rw [List.getElem?_map] at hd
       k_extra "dd"
       rintro l hl rfl
       refine rO (ph hdin) ?_
       rintro a8 s1 s2 s3 k8 rfl hm8
       have hm7:=lq2 N9 hm8
       clear lF' lN'
       ktr_unf
       k_extra "ay"
       k_extra "az"
       refine cJ (nD lN') ?_
       intro lY oY e9 hYd N11
       subst e9
       k_extra "g1"
       k_extra "g2"
       k_extra "gv"
       k_extra "gz"
       case S5=>exact Or.inr ⟨_,.tail _ (List.mem_append_right _ (lq1 _ _ _ _ _ _ _ _ _)),rfl,_,rfl⟩
       refine ⟨_::ts,rfl,?_⟩
       k_extra "fi"
       k_extra "b2"
      case finS =>
       intro ys nw hr11q
       refine aE (hr11q) ?_
       (try clear hr11q);rintro ts rfl hAS2
       rw [List.size_toArray,hwl,List.take_length] at hAS2
       clear lF' lN'
       ktr_unf
       k_extra "ay"
       k_extra "az"
       have hpo:=yM (home:=aA (aM script)) htr.1
       refine uY lN' (.list (.tail _ (List.mem_append_right _ (.head _))) (hAQ.mono ?s8)) (fun p hp=>hp) (.list (.head _) (hAS2.mono ?s9)) (fun p hp=>hp) hpo hpo (by ktr_units) rfl ?_
       case s8=>exact fun p hp => .tail _ (List.mem_append_right _ (.tail _ (List.mem_append_left _ hp)))
       case s9=>exact fun p hp => .tail _ (List.mem_append_left _ hp)
       refine aE (Aw (cb_drop lN' lq3)) ?_
       intro lQ eQ N8
       subst eQ
       clear lN'
       have hyl8:=hYA.len_eq
       ktr_unf
       k_extra "ay"
       k_extra "bu"
       ktr_unf
       k_extra "ay"
       refine dE rfl (lq4 _ _ _ _ _ _ _ _ _ _ _) rfl rfl lF' N8 (fun I h' S=>kZ S (fun p hp=>by rw [List.mem_singleton.mp hp];exact lq4 _ _ _ _ _ _ _ _ _ _ _) (fun i m' tl=>tl=[]∧m' (Str.ofString "home")=some (.ref lH)∧m' (Str.ofString "due")=some (.ref lS)∧m' (Str.ofString "pairs")=some (.ref lQ)∧m' (Str.ofString "script")=some (.ref lSc)) ⟨rfl,rfl,rfl,rfl,rfl⟩ ?turnX ?doneX)
       case turnX =>
        intro i v m₂ tl it h8 tk8 hi hv hr12q
        refine iB (hr12q) ?_
        (try clear hr12q);rintro rfl hm1 hm2 hm3 hm4
        intro hI F8 N9
        k_extra "co"
        clear F8 lF' N8
        refine aV (hYA.item i v hv) ?_
        rintro x tx rfl hx
        have hxm:=List.mem_of_getElem? hx
        refine iB (qq script x hxm) ?_
        intro hr6 hr7 hr8 hr9 hr10
        refine aE (List.mem_map.mp hxm) ?_
        intro nx _ hnx
        have hxn:bZ x=aB (aA x):=by rw [← hnx];exact qR nx
        have hxl:=eG script x hxm
        have hxs:(∀ a∈aA x,Nm a)∧(aA x).length≤3:=by rw [← hnx];exact eL nx
        have hxk:=qS hxn hxs.1 hxs.2
        have hxw:=sK hxs.1 hxs.2
        ktr_unf
        k_extra "ay"
        k_extra "az"
        refine xf (by assumption) lF' (by assumption) lN' (by assumption) rfl rfl (by ktr_room) (by ktr_units) hlk.1 hxk.1 hlk.2.1 hxk.2.1 ?_
        intro t9 h9 tk9 F9 N10
        rw [hxn,hlk.2.2 _ hxs.1]
        clear lF' lN'
        dsimp only
        ktr_unf
        k_extra "ay"
        k_extra "az"
        (with_reducible rename StrsAre _ (aA x)=>hSx)
        refine zK (home:=aA (aM script)) (goal:=aA x) (by assumption) lF' (by assumption) (lg lN' (lq5 _ _ _ _ _ _ _ _ _ _ _ _ _)) (by assumption) rfl rfl (by ktr_room) (by ktr_units) (by with_reducible assumption) hSx (by exact zae [_] 1 qA (zn 100) [(1,qA,zn 3)] rfl hsf.2.1) (by exact zae [_] 1 qA (zn 1000) [(1,qA,zn 3)] rfl hxs.2) (by exact zae [_] 1 qA (zn 100000) [(1,qA,zn 12)] rfl hxw) ?_
        intro tw h11 tk11 F11 N11
        have N12:=cb_drop N11 (fun p hp => .tail _ (.tail _ hp))
        clear N11 lN' lF'
        dsimp only
        ktr_unf
        · exact (Am (by with_reducible assumption)).elim
        k_extra "ay"
        k_extra "az"
        show aX _ _ _ _ _ _ _
        exact gL.intro lF' lN' [] (fun p hp=>hp) hI ⟨rfl,rfl,rfl,rfl,rfl⟩
       case doneX =>
        intro m₂ tl h8 tk8 hr13q
        refine iB (hr13q) ?_
        (try clear hr13q);rintro rfl hm1 hm2 hm3 hm4
        intro F8 N9
        k_extra "co"
        refine zP (xm N9 (fun xs n e=>nomatch e) (hcc (257,tabObj #[]) (lq7 _ _ _ _ _)).2.2 (hcc (257,tabObj #[]) (lq7 _ _ _ _ _)).2.1 (hcc (257,tabObj #[]) (lq7 _ _ _ _ _)).1 hAQ hAS hA2) ?_
        intro lP tl9 eP N10 h257 aQ aS aT
        subst eP
        clear F8 lF' N8 N9
        have hql:=hAQ.length
        rw [List.length_map] at hql
        have hql2:yq.length≤19:=by (exact zae [_,_] 1 qA (zn 19) [(1,qA,qB),(1,qB,zn 19)] rfl (zle hql) htr2)
        dsimp only
        ktr_unf
        k_extra "ay"
        k_extra "az"
        refine jz (yY lN') ?_
        intro lF lC lD eF eC eD N11
        subst eF eC eD
        have hwi:=zV script
        have hwr:=yr script
        rw [hwi] at lF' ⊢
        refine bA (Cc lF') ?_
        intro tw9 lF'
        generalize lW script=wi at *
        show wpAny _ _ (call (.ref 217) [.int (wi:Int) _,.ref lD] [(Str.ofString "key",.ref lF)]) _ _ _
        have hSN:=jZ script
        refine bA (qK (ds:=(tr.map (eO (aA (aM script)))).reverse) hSN.swo) ?_
        intro esN hesN
        have hNL:=yQ script wi (es:=es) (es2:=esN) (by unfold fD;rw [htrW];exact hSB) (by rw [htrW];exact hesN)
        unfold rK at hSN hesN
        rw [htrW] at hSN hesN
        have aQr:=AN aQ
        clear lN' N10
        refine zM (kk:=0) (by assumption) lF' (by assumption) (cb_drop N11 lw9) (by assumption) rfl rfl (by ktr_room) (by ktr_units) aQr ?hcold ?hkl ?hz ?hkey ?hn1 ?hz2 (by k_extra "g") hSN ?hokd ?hcmpd hesN ?_
        case hcold=>exact fun p hp=>by simp [hp]
        case hkl=>simp
        case hz=>simp;(exact zal [_] 1 qA (zn 60) [(1,qA,zn 19)] rfl htr2)
        case hn1=>exact hwr.1
        case hz2=>simp;(exact zae [_] 1 (zn 2) qA [(1,zn 4,qA)] rfl htr3)
        case hokd=>exact fun d hd=>yN htr.1 d (List.mem_reverse.mp hd)
        case hcmpd=>exact fun a ha c hc=>wT a (List.mem_reverse.mp ha) c (List.mem_reverse.mp hc)
        case hkey =>
         k_extra "d7"
         k_extra "ff"
         refine aE (DatAll.at aQr hv) ?_
         intro d0 hd0 hin0
         rw [← List.map_reverse,List.getElem?_map] at hd0 hd
         k_extra "dd"
         rintro l hl rfl
         rw [hl] at hd0
         cases hd0
         refine rP (AB hin0) ?_
         rintro a8 s1 s2 k8 rfl hm8
         have N3:=lg N2 (.tail _ (.tail _ (hsub _ (lq8 _ _ _ _ _ _ _ _ _ _ hm8))))
         clear F9 lF' N11 aQ aQr hNL hesN N2 hin0 hd hv
         refine wpAny_call ?_
         refine' kla_code B1 F1 X1 N3 T1 ?kA hf1 hk1 ?k6 ?k7 ?k8 ?k9 ?kB ?_ ?c2 ?c3 ?c4 ?c5
         case kA=>exact rfl
         case k6=>exact .tail _ (.head _)
         case k7=>exact codeRec_news N3 (.tail _ (.tail _ (.head _))) (by with_reducible assumption) (by with_reducible assumption)
         case k8=>exact Nat.lt_of_le_of_lt (Nat.le_add_right _ _) hd1
         case k9=>exact rfl
         case c5=>decide
         case kB=>exact locs rfl
         case c2=>exact rfl
         case c3=>exact rfl
         case c4=>exact rfl
         clear F1 N3 N1
         have hlf:=htr.1 l (List.mem_reverse.mp (List.mem_of_getElem? hl))
         have hwy:=yt (home:=aA (aM script)) hsf.2.1 hlf.1 hlf.2
         intro g' L' h' FG' F' N' B' X' T'
         dsimp only
         (try k_fold)
         ktr_unf
         (with_reducible rename Fr _ L9 _ _=>lF')
         (with_reducible rename News _ L9 _ _=>lN')
         (with_reducible rename a8 < _∧_=>hl9)
         refine hret _ [_] _ _ lF' (cb_drop lN' Do) ?lt ?dat
         case lt=>exact fun p hp q hq=>by rw [List.mem_singleton.mp hp];exact fR hl9.2.2.2 q hq
         case dat=>exact .tuple (vs:=[.int _ _,.str _ _]) (.head _) (.cons (.int _ _) (.cons (.str _ _) .nil))
        intro lNr nwN h14 tk14 F14 N14 hDN
        refine dD (xl N14 (lq9 _ _ _ _ _ _) (fun p hp=>List.mem_append_right _ (.tail _ (.tail _ (.tail _ (.tail _ (.tail _ hp)))))) (fun xs n e=>nomatch e) (fun p hp=>h257 p (.tail _ hp)) hDN) ?_
        intro vN nN tn N15 h257b aN
        clear N14 N11 lF' hDN
        ktr_unf
        k_extra "ay"
        k_extra "az"
        refine cJ (yZ lN') ?_
        intro lF2 lC2 eF eC N16
        subst eF eC
        show wpAny _ _ (call (.ref 217) [.int (wi:Int) _,.ref lP] [(Str.ofString "key",.ref lF2)]) _ _ _
        have hSH:=j3 script
        refine bA (qK (ds:=(tr.map aB).map .str) hSH.swo) ?_
        intro esH hesH
        have hHL:=fun es2 h=>zf script wi (es:=es2) (es2:=esH) h (by rw [htrW];exact hesH)
        unfold rM at hSH hesH
        rw [htrW] at hSH hesH
        have aP:DatAll [] yp ((tr.map aB).map .str):=nu hYP
        clear lN'
        refine zM (kk:=0) (by assumption) lF' (by assumption) (cb_drop N16 Dn) (by assumption) rfl rfl (by ktr_room) (by ktr_units) aP (fun p hp=>nomatch hp) ?hkl ?hz ?hkey ?hn1 ?hz2 (by k_extra "g") hSH ?hokd ?hcmpd hesH ?_
        case hkl=>simp
        case hz=>simp;(exact zal [_] 1 qA (zn 60) [(1,qA,zn 19)] rfl htr2)
        case hn1=>exact hwr.1
        case hz2=>simp;(exact zae [_] 1 (zn 2) qA [(1,zn 4,qA)] rfl htr3)
        case hokd=>exact yL htr.1
        case hcmpd=>exact wR
        case hkey =>
         k_extra "d7"
         k_extra "ff"
         refine aV (hYP.item i v hv) ?_
         rintro x tx rfl hx
         rw [List.getElem?_map] at hx hd
         k_extra "dd"
         rintro l hl rfl
         rw [hl] at hx
         cases hx
         k_extra "g4"
         clear F9 lF' N16 hHL hesH hd hv
         refine wpAny_call ?_
         refine' kla_code B1 F1 X1 N2 T1 ?kA hf1 hk1 ?k6 ?k7 ?k8 ?k9 ?kB ?_ ?c2 ?c3 ?c4 ?c5
         case kA=>exact rfl
         case k6=>exact .head _
         case k7=>exact codeRec_news N2 (.tail _ (.head _)) (by with_reducible assumption) (by with_reducible assumption)
         case k8=>exact Nat.lt_of_le_of_lt (Nat.le_add_right _ _) hd1
         case k9=>exact rfl
         case c5=>decide
         case kB=>exact locs rfl
         case c2=>exact rfl
         case c3=>exact rfl
         case c4=>exact rfl
         clear F1 N2 N1
         have hpl:=jo hlf.1 hlf.2
         have hps:=pY (l:=l)
         have hsl9:(aA (aB l)).length=l.length:=congrArg List.length (gF hlf.1)
         intro g' L' h' FG' F' N' B' X' T'
         dsimp only
         (try k_fold)
         ktr_unf
         (with_reducible rename Fr _ L9 _ _=>lF')
         (with_reducible rename News _ L9 _ _=>lN')
         (with_reducible rename List.length _=List.length (aA _)=>hq9)
         rw [hq9,hsl9]
         exact hret _ [] _ _ lF' (cb_drop lN' Dm) (fun p hp=>nomatch hp) (.int _ _)
        intro lHr nwH h15 tk15 F15 N17 hDH
        refine jz (xk N17 hDH) ?_
        intro vH nH ld N18 aH hld hlt9
        have aT2:=aT.mono (fun p hp=>hld p (List.mem_append_left _ hp))
        have aS2:=aS.mono (fun p hp=>hld p (List.mem_append_left _ hp))
        have aN2:=aN.mono (fun p hp=>hld p (List.mem_append_right _ hp))
        clear N16 lF' N17 hDH
        ktr_unf
        k_extra "ay"
        k_extra "az"
        (with_reducible rename IsRange _ _ _ _ _ _ _ _=>hR)
        refine ul rfl lF' lN' hR (by exact zae [_,_] 1 qA (zn 1000000) [(1,qB,zn 19),(1,qA,qB)] rfl htr2 (zle htl)) ?_
        intro g9
        refine dH (fun i ys nw => ∃ tq,nw=tq++_∧DatAll tq ys ((List.range i).map (dO tr))) ⟨[],rfl,.nil⟩ ?turnF ?finF
        case turnF =>
         intro k ys nw hk hr14q
         refine aE (hr14q) ?_
         (try clear hr14q);rintro tq rfl hA
         intro v I5 oI5 C5 oC5 D5 m5 h5 tk5 E5 hr15q
         refine bA (hr15q) ?_
         (try clear hr15q);rintro t5 rfl
         intro hC5 hx5 F5 N9 off5 ne5
         clear lF' lN'
         ktr_unf
         k_extra "ay"
         k_extra "az"
         (with_unfolding_all refine' tC lN' ?mm aT2 ?aa ?bb ?cc ?_ ?rr)
         case mm=>k_mem
         case aa=>(exact zme (zae [_] 1 (zn 0) qA [] rfl))
         case bb=>rw [List.length_map];(exact zmt (zal [_,_,_] 1 qB qA [(1,zu qB,qC),(1,qC,qA)] rfl hk (zle htl)))
         case cc=>(exact zmt (zal [_,_,_] 1 qA (zn 9223372036854775808) [(1,zu qA,qB),(1,qC,zn 19),(1,qB,qC)] rfl hk htr2 (zle htl)))
         case rr=>with_unfolding_all rfl
         intro v8 d8 hv8 hd8 hD8
         rw [List.getElem?_map,Int.toNat_natCast] at hd8
         refine aE (Option.map_eq_some_iff.mp hd8) ?_
         rintro l hl rfl
         refine dD (tz hD8) ?_
         rintro la lv ln rfl hlm hlS
         have N12:=lg lN' (lm2 _ _ _ _ _ _ _ _ _ _ _ hlm)
         have hlz:=hlS.len_eq
         have hlf:=(htr.1 l (List.mem_of_getElem? hl)).2
         clear lN'
         ktr_unf
         k_extra "ay"
         k_extra "az"
         refine cJ (zm lN') ?_
         intro lY oY e9 hYd N11
         subst e9
         k_extra "g1"
         k_extra "g2"
         k_extra "gv"
         refine gW lF' (cb_drop N11 lm3) hYI hYC hYD5 off5 trivial ?_
         refine ⟨_::tq,rfl,?_⟩
         rw [List.range_succ,List.map_append]
         refine DatAll.append (hA.mono fun p hp => .tail _ hp) (DatAll.one ?_)
         have e7:dO tr k = .tuple [.int (lv.length:Int),.int (k:Int)]:=by
          unfold dO;rw [List.getD_eq_getElem?_getD,hl,hlz];rfl
         rw [e7]
         exact hYd.mono fun p hp=>by rw [List.mem_singleton.mp hp];exact .head _
        case finF =>
         intro yf nw hr16q
         refine aE (hr16q) ?_
         (try clear hr16q);rintro tq rfl hAF
         rw [htl] at hAF
         clear lF' lN'
         ktr_unf
         k_extra "ay"
         k_extra "az"
         have hSF:=rG (tr:=tr)
         refine oq (k:=0) (vs:=yf) (cold:=tq) lF' lN' (.head _) hAF (fun p hp => .tail _ (List.mem_append_left _ hp)) hSF (by rw [List.length_map,List.length_range];(exact zae [_] 1 (zn 2) qA [(1,zn 4,qA)] rfl htr3)) (by rw [List.length_map,List.length_range];(exact zal [_] 1 qA (zn 64) [(1,qA,zn 19)] rfl htr2)) (by ktr_units) ?_
         intro lG ug ef cG hG9 FG NG hltG hAG hSG
         (try k_lt hltG)
         have hus:us.length≤19:=by rw [aS2.length,hesl,List.length_map];(exact zae [_] 1 qA (zn 19) [(1,qA,zn 19)] rfl htr2)
         have hug:=hAG.length
         rw [hSG.length,List.length_map,List.length_range] at hug
         clear lF' lN'
         ktr_unf
         k_extra "ay"
         k_extra "az"
         rw [gT] at lN'
         have hul:(us.take wi).length=(es.take wi).length:=by rw [List.length_take,List.length_take,aS2.length]
         refine LCg.CompSrc.ledger rfl lF' lN' (.head _) (by rw [List.size_toArray,sizeLine_eq,List.length_take];(exact zae [_,_] 1 qA (zn 16777216) [(1,qB,zn 19),(1,qA,qB)] rfl hus (Nat.min_le_right _ _))) ?_
         intro g10
         refine dH (fun i ys nw => ∃ tq2,nw=tq2++_∧DatAll tq2 ys (((es.take wi).take i).map iX)) ⟨[],rfl,by rw [List.take_zero];exact .nil⟩ ?turnG ?finG
         case turnG =>
          intro k ys nw hk hr17q
          refine aE (hr17q) ?_
          (try clear hr17q);rintro tq2 rfl hA
          k_extra "do"
          k_extra "cm"
          refine aE (DatAll.at (nW aS2 wi) hv5) ?_
          intro d hd hdin
          refine aE (tJ hSB (List.mem_of_mem_take (List.mem_of_getElem? hd)):∃ l∈tr,d=cX (cP (aA (aM script)) l)) ?_
          rintro l hl rfl
          refine rO (ph hdin) ?_
          rintro a8 s1 s2 s3 k8 rfl hm8
          have hm7:=lm4 N9 hm8
          clear lF' lN'
          ktr_unf
          k_extra "ay"
          k_extra "az"
          refine cJ (nD lN') ?_
          intro lY oY e9 hYd N11
          subst e9
          k_extra "g1"
          k_extra "g2"
          k_extra "gv"
          k_extra "gz"
          case S5=>exact Or.inr ⟨_,.tail _ (List.mem_append_right _ (.head _)),rfl,_,rfl⟩
          refine ⟨_::tq2,rfl,?_⟩
          rw [List.take_add_one,hd,List.map_append]
          k_extra "b2"
         case finG =>
          intro yg nw hr18q
          refine aE (hr18q) ?_
          (try clear hr18q);rintro tq2 rfl hAG2
          rw [List.size_toArray,hul,List.take_length] at hAG2
          clear lF' lN'
          ktr_unf
          k_extra "ay"
          k_extra "az"
          have hgo:=Al wi hSB htr.1
          rw [hNL] at aN2
          refine vh lN' (.list (lm5 _ _ _ _ _ _ _ _ _ _ _ _) (aN2.mono ?s8)) (fun p hp=>hp) (.list (.head _) (hAG2.mono ?s9)) (fun p hp=>hp) hgo hgo (by ktr_units) rfl ?_
          case s8=>exact fun p hp=>lm6 _ _ _ _ _ _ _ _ _ _ hp
          case s9=>exact fun p hp => .tail _ (List.mem_append_left _ hp)
          have N8:=cb_drop lN' lq3
          clear lN' hAG2
          have hug2:ug.length≤19:=by (exact zae [_,_] 1 qA (zn 19) [(1,qA,qB),(1,qB,zn 19)] rfl (zle hug) htr2)
          ktr_unf
          k_extra "ay"
          k_extra "az"
          rw [gT] at lN'
          have hef:=hSG.length
          rw [List.length_map,List.length_range] at hef
          have hgl:(ug.take wi).length=(ef.take wi).length:=by rw [List.length_take,List.length_take,hAG.length]
          refine LCg.CompSrc.ledger rfl lF' lN' (.head _) (by rw [List.size_toArray,sizeLine_eq,List.length_take];(exact zae [_,_] 1 qA (zn 16777216) [(1,qB,zn 4),(1,qA,qB)] rfl hwr.2 (Nat.min_le_left _ _))) ?_
          intro g11
          refine dH (fun i ys nw=>nw=_∧DatAll [] ys (((ef.take wi).take i).map (dG (tr.map aB)))) ⟨rfl,by rw [List.take_zero];exact .nil⟩ ?turnK ?finK
          case turnK =>
           intro k ys nw hk hr19q
           refine bV (hr19q) ?_
           (try clear hr19q);rintro rfl hA
           k_extra "do"
           k_extra "cm"
           refine aE (DatAll.at (nW hAG wi) hv5) ?_
           intro d hd hdin
           refine aE (tM hSG (List.mem_of_mem_take (List.mem_of_getElem? hd)):∃ i,i < tr.length∧d=dO tr i) ?_
           rintro i hi rfl
           refine rP (AC hdin) ?_
           rintro a8 s1 s2 k8 rfl hm8
           have hm7:=lm7 N9 hm8
           clear lF' lN'
           ktr_unf
           k_extra "ay"
           k_extra "az"
           (with_unfolding_all refine' gA lN' (Dp _ _ _ _ _ _ _ _ _) rfl rfl hYP ?aa ?bb ?cc ?_ ?rr)
           case aa=>(exact zme (zae [_] 1 (zn 0) qA [] rfl))
           case bb=>(exact zmt (zal [_,_,_] 1 qB qA [(1,zu qB,qC),(1,qC,qA)] rfl hi (zge hyl9)))
           case cc=>(exact zmt (zal [_,_] 1 qA (zn 9223372036854775808) [(1,zu qA,qB),(1,qB,zn 19)] rfl hi htr2))
           case rr=>with_unfolding_all rfl
           intro y8 t8 hy8 hz8
           rw [Int.toNat_natCast] at hz8
           ktr_unf
           k_extra "c1"
           case S5=>exact Or.inr ⟨_,.head _,rfl,_,rfl⟩
           refine ⟨rfl,?_⟩
           rw [List.take_add_one,hd,List.map_append]
           refine DatAll.append hA (DatAll.one ?_)
           have e7:dG (tr.map aB) (dO tr i) = .str y8:=by
            unfold dO dG;simp only [Int.toNat_natCast];rw [List.getD_eq_getElem?_getD,hz8];rfl
           rw [e7]
           exact .str _ _
          case finK =>
           intro yk nw hr20q
           refine bV (hr20q) ?_
           (try clear hr20q);rintro rfl hAK
           rw [List.size_toArray,hgl,List.take_length] at hAK
           clear lF' lN'
           ktr_unf
           k_extra "ay"
           k_extra "az"
           have hH:=hHL ef (by unfold fW;rw [htrW];exact hSG)
           rw [htrW] at hH
           have hgo2:=AH (wi:=wi) hSG htr.1
           rw [hH] at aH
           refine vh lN' (.list (lm8 _ _ _ _ _ _ _ _ _ _ _ _) (aH.mono ?s6)) (fun p hp=>hp) (.list (.head _) (hAK.mono Bi)) (fun p hp=>hp) hgo2 hgo2 (by ktr_units) rfl ?_
           case s6=>exact fun p hp=>lm9 _ _ _ _ _ _ _ _ _ _ hp
           (k_extra "lf");(iterate 6 (first | (k_unfold;(try dsimp only)) | skip))
           refine ⟨goodW_bool lF' (by with_reducible assumption) (raisesW_false ?hn9) ?hp9,GrownAt.of lN' (lm9 _ _ _ _ _ _ _ _ _ _ hlt9),trivial⟩
           case hn9=>wrow_none_raised
           case hp9=>exact wM script
  )
end
end Mine
end
theorem PySem.Challenge.cw_ik0112_01_holds : PySem.Challenge.rw_ik0112_01.Holds :=
 Mine.lawtry
