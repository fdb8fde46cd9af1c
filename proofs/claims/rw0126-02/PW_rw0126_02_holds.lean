import PyProof.Rows.All
import Wide.All
import OpenK.AllK
import Wide.FinOn
import Open.Tops
import KE.KSuper
import KE.KFromBytes
import OpenK.KUnr
import PyProof.StrWalks
import PyProof.WalksMore
import PyProof.WalksPairs
import PyProof.ForAny
import KE.KState
import KE.KLcTest
import KE.KPop
import KE.KSlice
import KE.LcSums
import PyProof.StrLawsTight
import PyProof.StrLawsChain
import KE.KxSplit
import KE.KDeep
import KE.KStateDown
import PyProof.CompUse
import PyProof.ListIndexNeg
import PyProof.Rows.CatFin
import PyProof.Rows.SortStrRead
import PyProof.Rows.TupIter
import Lean
import PySem.Challenge.RW_rw0126_02
set_option Elab.async false
set_option maxRecDepth 100000
set_option linter.all false
set_option maxHeartbeats 0
set_option compiler.extract_closed false
set_option genInjectivity false
set_option genSizeOf false
set_option genSizeOfSpec false
namespace Mine.Internal
open PySem.Str (ofString)
theorem zQ {a x : PySem.Addr} {o : PySem.Obj} {l : List (PySem.Addr × PySem.Obj)} (h : a ≠ x) (h' : ∀ p ∈ l, p.1 ≠ x) : ∀ p ∈ (a, o) :: l, p.1 ≠ x := List.forall_mem_cons.2 ⟨h, h'⟩
theorem zR {a x : PySem.Addr} {o : PySem.Obj} {l : List (PySem.Addr × PySem.Obj)} (h : @LT.lt Nat _ a x) (h' : ∀ p ∈ l, @LT.lt Nat _ p.1 x) : ∀ p ∈ (a, o) :: l, @LT.lt Nat _ p.1 x := List.forall_mem_cons.2 ⟨h, h'⟩
theorem abv {α : Type} {P : α -> Prop} : ∀ p ∈ ([] : List α), P p := λ _ h => absurd h List.not_mem_nil
theorem aj {α : Type} {P : α -> Prop} {a : α} {l : List α} (h : P a /\ ∀ x ∈ l, P x) : ∀ x ∈ a :: l, P x := List.forall_mem_cons.2 h
inductive Missed : Prop where
 | mk
local macro_rules | `(tactic| tm_at $s:str) => `(tactic| k_extra $s)
local macro_rules | `(tactic| walk_at $s:str) => `(tactic| (k_extra $(Lean.quote ("W " ++ s.getString)); fail_if_success (rename Missed => m9)))
local macro_rules | `(tactic| k_room) => `(tactic| k_extra "!k_room")
local macro_rules | `(tactic| k_units) => `(tactic| k_extra "!k_units")
local macro_rules | `(tactic| k_inst) => `(tactic| k_extra "!k_inst")
local macro_rules | `(tactic| k_all) => `(tactic| k_extra "!k_all")
local macro_rules | `(tactic| k_updF) => `(tactic| k_extra "!k_updF")
local macro_rules | `(tactic| k_mem) => `(tactic| k_extra "!k_mem")
local macro_rules | `(tactic| k_ne) => `(tactic| k_extra "!k_ne")
local macro_rules | `(tactic| ktr_room) => `(tactic| k_extra "!ktr_room")
local macro_rules | `(tactic| ktr_units) => `(tactic| k_extra "!ktr_units")
local macro_rules | `(tactic| passes_own) => `(tactic| k_extra "!passes_own")
example : True := by
 k_with "V" => (refine hG9 ?_; clear hG9)
 k_with "5" => try dsimp only [PySem.W.StrBack, PySem.W.LenBack, PySem.W.InitBack, PySem.W.CmpBack, PySem.W.BoolBack]
 k_with "Z" => intro p9 hp9; repeat (first | exact hp9 | apply List.Mem.tail)
 k_with "aa" => first | assumption | decide | ((tm_at "aN"); tm_at "om")
 k_with "8" => repeat' (first | refine zQ ?_ ?_ | refine zR ?_ ?_ | exact abv)
 k_with "h" => with_reducible assumption
 k_with "aO" => first | exact ⟨by k_mem, trivial⟩ | exact ⟨by k_mem, by k_mem, trivial⟩ | assumption | exact trivial | ((repeat (first | assumption | refine AllIn.cons ?_)); done) | exact AllIn.snoc (by first | exact trivial | assumption | ((repeat (first | assumption | refine AllIn.cons ?_)); done)) (by k_mem) | (repeat (refine And.intro ?_ ?_; (first | k_mem | exact trivial)))
 k_with "X" => refine Classical.byContradiction λ hG9 => ?_
 k_with "4" => try dsimp only [List.cons_append, List.nil_append]
 k_with "Y" => repeat (refine bO ?_ ?_; focus first | tm_at "memq" | k_mem)
 k_with "Q" => refine neN ?_; tm_at "om"
 k_with "ah" => with_reducible (repeat (first | exact List.mem_cons_self | apply List.mem_cons_of_mem))
 k_with "6" => try (refine ⟨⟨by lia, by lia⟩, ?_⟩)
 k_with "ax" => k_dflt ((repeat (refine lw (by exact rfl) ?_)); exact fC)
 k_with "7" => repeat (first | exact Sel.head | apply Sel.tail)
 k_with "bo" => first | assumption | exact λ q hq => absurd hq List.not_mem_nil | exact jO (by first | assumption | exact λ q hq => absurd hq List.not_mem_nil) (by first | assumption | lia | (unfold wide at *; dsimp only; lia)) | exact wQ (by first | assumption | (unfold wide at *; dsimp only; lia)) | exact acU (by first | assumption | (unfold wide at *; dsimp only; lia)) (by first | assumption | (unfold wide at *; dsimp only; lia))
 k_with "aP" => first | assumption | exact λ q hq => absurd hq List.not_mem_nil | exact jO (by first | assumption | exact λ q hq => absurd hq List.not_mem_nil) (by first | assumption | lia | (unfold wide at *; dsimp only; lia))
 k_with "ap" => with_reducible show wpAny _ _ (subscriptTail _ _ (Value.ref _) (Value.int _ _)) _ _ _
 k_with "aj" => try dsimp only [sr, List.cons_append, List.nil_append]
 k_with "ak" => first | tm_at "ac" | tm_at "ad" | tm_at "miss"
 k_with "bp" => first | assumption | exact trivial | ((repeat (first | assumption | refine AllIn.cons ?_)); done) | exact AllIn.snoc (by first | exact trivial | assumption | ((repeat (first | assumption | refine AllIn.cons ?_)); done)) (by k_mem) | (repeat (refine And.intro ?_ ?_; (first | k_mem | exact trivial)))
 k_with "aG" => with_reducible show wpAny _ _ (pyIter (Value.ref _)) (λ it gQ => bB _ _ _ _ _ _ _ _ _ _ it gQ) _ _
 k_with "ay" => first | exact λ p9 hp9 => absurd hp9 List.not_mem_nil | (tm_at "Z")
 k_with "9" => rename News _ _ _ _ => lN'
 k_with "aQ" => simp only [List.size_toArray, List.length_map, List.length_append, List.length_cons, List.length_nil]; lia
 k_with "aA" => try simp only [cH, ie, oR, oV, rW]
 k_with "an" => rcases List.mem_cons.mp hp with rfl | hp
 k_with "aH" => with_reducible show wpAny _ _ (call (Value.builtin _) [Value.ref _]) _ _ _
 k_with "bZ" => all_goals (clear lF' lN'; first | (intro I' j' t' vs' k' R' it' h' tk' b1' b2' lR' off' of2' hz' F' N'; (simp only [List.cons_append] at off' of2' N'); (tm_at "az"); (replace of2' := allNe_of of2'); (k_lt off'); (k_lt of2'); (have hne9 := aF of2')) | (intro u' h' tk' vs' k' R' tr' lR' F' N'))
 k_with "ae" => first | assumption | k_get
 k_with "aq" => first | tm_at "c4" | tm_at "miss"
 k_with "aR" => first | assumption | rfl | (refine Eq.trans (by assumption) ?_; try dsimp only)
 k_with "aY" => replace N := fD (fD N hsub) (λ p hp => List.mem_append.mpr (.inr (hsuv p hp)))
 k_with "af" => rename Fr _ _ _ _ => lF'
 k_with "bq" => have e : run.map (bH env pos) ++ [bH env pos x] = (run ++ [x]).map (bH env pos) := by rw [List.map_append]; rfl
 k_with "au" => exact News.isList (by k_asm) (by k_mem)
 k_with "bs" => obtain ⟨dy, fs, nf, U1, U2, us, un', ut, ub, ub', rfl, hj, rfl, k1, k2, k3, k4, k5, k6, k7, k8, k9, k10⟩ := hV'
 k_with "b0" => first | with_reducible assumption | ((tm_at "8") <;> first | with_reducible assumption | exact aA (by tm_at "h") | exact aF (by tm_at "h") | exact aH (by tm_at "h") | (tm_at "Q"))
 k_with "ai" => rw [<- gk hA] at F
 k_with "bt" => obtain ⟨dx, es, ne, T1, T2, vs, tn, tt, tb, sb, rfl, hi, rfl, g1, g2, g3, g4, g5, g6, g7, g8, g9, g10⟩ := hW'
 k_with "b2" => all_goals first | (intro g' c' u' I' oI' C' oC' D' ys' m' h' tk' E' hc' hC' hx' F' N' off' ne') | (intro g' ys' hy'; unfold LCg.FinE; intro D' h' tk' F' N' o1'; (replace o1' := allNe_of (gj o1')); k_lt o1')
 k_with "b3" => refine afC ?_; (tm_at "av"); ((tm_at "aj"); (tm_at "8") <;> first | with_reducible assumption | exact aF (by tm_at "h") | exact aH (by tm_at "h") | (tm_at "Q"))
 k_with "b4" => refine vq ?_; (tm_at "av"); ((tm_at "aj"); (tm_at "8") <;> first | with_reducible assumption | exact aF (by tm_at "h") | exact aH (by tm_at "h") | (tm_at "Q"))
 k_with "bu" => with_reducible show wpAny _ _ (pyIter (Value.ref _)) (λ it gQ => eX _ _ _ _ _ _ _ _ _ _ it gQ) _ _
 k_with "aB" => case sub => ((tm_at "Y"); (tm_at "Z"))
 k_with "aI" => simp only [List.cons_append, List.nil_append] at N
 k_with "b5" => have hx2 : (x, (⟨.ref 178, some dx, .seq ((l.map λ q => (q.a, Value.str q.f q.tf, Value.str q.p q.tp)).map λ t => Value.ref t.1).toArray n, sl⟩ : Obj)) ∈ news := by rw [hr]; exact hx
 k_with "b6" => refine wpAny_bind (wpAny_specialOf (T := "int") (typeIs_int s _ t) int_index (wpAny_ite_false rfl (wpAny_bind (wpAny_of_eq (a := i) rfl (wpAny_ite_false (by rw [hf]; rfl) (wpAny_pure ?_))))))
 k_with "bv" => refine wpAny_bind (wpAny_bind (wpAny_bind (I.type.here ((looks_findIn X hs).here (wpAny_pure ?_)))))
 k_with "aZ" => simp only [List.length_append, List.length_cons, List.length_nil]; lia
 k_with "b7" => all_goals (refine hret _ _ _ (by k_asm) ?_ (by assumption); (show News _ _ _ (_ :: g ⟨.ref 178, some dx, .seq (refs (l ++ [_])).toArray (n + 1), #[]⟩)); rw [<- oO]; k_asm)
 k_with "bw" => with_reducible show wpAny _ _ (call (Value.builtin "str.join") [Value.str _ _, Value.ref _]) _ _ _
 k_with "aS" => first | assumption | (apply Ne.symm; assumption) | k_ne
 k_with "a0" => first | tm_at "aT" | tm_at "aT" | tm_at "aJ" | tm_at "miss"
 k_with "aN" => try simp only [List.length_append, List.length_cons, List.length_nil]
 k_with "ag" => dsimp only [kstB] at F
 k_with "aC" => try simp only [List.push_toArray] at lN'
 k_with "a4" => with_reducible first | assumption | exact bC (by assumption)
 k_with "bx" => simp [SeqAt.shaped, PyData.canLay0, PyData.canLayAll0, PyData.depth, PyData.depthAll, ok1]
 k_with "by" => with_reducible show wpAny _ _ (call (Value.builtin _) [Value.str _ _, Value.ref _]) _ _ _
 k_with "o" => tm_at "miss"
 k_with "bz" => have hz9 : (refs l).toArray.size <= sizeLine := by rw [jM, sizeLine_eq]; lia
 k_with "b8" => first | exact ahT (by assumption) | exact ahU (by assumption) | exact ahX (by assumption) | exact ahY (by assumption) | exact ahW (by assumption)
 k_with "a5" => with_reducible show wpAny _ _ (call (Value.ref 145) _) _ _ _
 k_with "al" => case ha => tm_at "ax"
 k_with "b9" => exact hret _ _ _ _ _ (by assumption) (by k_asm) (az N9 (bO (.head _) λ p hp => .tail _ (.tail _ (.tail _ (.tail _ hp))))) (by assumption)
 k_with "a6" => have e : (ofString "").length = 0 := by decide +kernel
 k_with "bA" => repeat (first | exact List.mem_cons_self | refine' gR ?_ | assumption)
 k_with "aK" => first | tm_at "ca" | tm_at "miss"
 k_with "aL" => first | tm_at "cb" | tm_at "miss"
 k_with "cc" => all_goals first | (intro g' a' b' c' T' t1' t2' t3' I' oI' C' oC' D' ys' m₂' h' tk' E' hT' hC' hx' F' N' off' ne') | (intro g' ys' tr')
 k_with "a7" => first | tm_at "c5" | tm_at "ca" | tm_at "miss"
 k_with "a8" => first | tm_at "c6" | tm_at "cb" | tm_at "miss"
 k_with "aD" => refine wpAny_bind (wpAny_pure ?_)
 k_with "a9" => first | tm_at "aT" | tm_at "aJ" | tm_at "miss"
 k_with "cd" => intro p9 hp9; repeat (first | exact hp9 | exact List.mem_append_right _ hp9 | refine List.mem_append_left _ ?_ | apply List.Mem.tail)
 k_with "bB" => exact aq.bind (n := 1) (m := 0) (dU hn ho dJ) aq.pure
 k_with "ce" => have hr : ((l.map λ q => (q.a, Value.str q.f q.tf, Value.str q.p q.tp)).map λ t => Value.ref t.1) = refs l := by simp [refs]
 k_with "cf" => exact ⟨⟨by refine neN ?_; tm_at "om", by refine neN ?_; tm_at "om", by refine neN ?_; tm_at "om"⟩, by assumption⟩
 k_with "bC" => refine aJ.mono (by assumption) ?_; ((tm_at "Y"); (tm_at "Z"))
 k_with "cg" => exact wpAny_bind (wpAny_mono hcall (λ r gQ hr => wpAny_bind (wpAny_holding (wpAny_point (wpAny_pure hr)))) λ _ _ x => x)
 k_with "ci" => refine wpAny_comprehension_free (use := none) rfl hs hclos hkind hnames (wpAny_mono h (λ xv gJ h₁ => ?_) λ _ _ e => e)
 k_with "aU" => rcases List.mem_append.mp hp with hp | hp
 k_with "cj" => all_goals first | (intro g' p' T' t' u' I' oI' C' oC' D' ys' m₂' h' tk' E' hT' hC' hx' F' N' off' ne') | (intro g' ys' hy')
 k_with "bb" => refine wpAny_bind (wpAny_standAt (wpAny_bind ?_))
 k_with "aE" => intro _; with_unfolding_all rfl
 k_with "ck" => obtain ⟨dx, es, ne, T1, T2, vs, tn, tt1, tb1, sb1, rfl, hi, rfl, g1, g2, g3, g4, g5, g6, g7, g8, g9, g10⟩ := hW0
 k_with "cl" => obtain ⟨dy, fs, nf, U1, U2, us, un, ut1, ub1, sc1, rfl, hj, rfl, k1, k2, k3, k4, k5, k6, k7, k8, k9, k10⟩ := hW1
 k_with "cm" => obtain ⟨dx, es, ne, T1, T2, vs, tn, tt1, tb1, sb1, rfl, hi, rfl, g1, g2, g3, g4, g5, g6, g7, g8, g9, g10⟩ := hW
 k_with "cn" => exact ⟨this.1, by have := this.2.1; simp at this ⊢; lia, λ _ => this.2.2.1 (.inr (by simp)), this.2.2.2⟩
 k_with "co" => with_reducible show wpAny _ _ (pyIter (Value.str _ _)) (λ it gQ => bB _ _ _ _ _ _ _ _ _ _ it gQ) _ _
 k_with "cp" => obtain ⟨dx, es, ne, T1, T2, vs, tn, tt, tb, sb, rfl, hi, hsb, g1, g2, g3, g4, g5, g6, g7, g8, g9, g10⟩ := hW
 k_with "cq" => refine wpAny_bind (m := Builtin.List.listItems (.ref x)) (wpAny_bind (wpAny_seqItems I.at_ hd (wpAny_pure ?_)))
 k_with "bD" => have e : ofString "\n" = ⟨#[10]⟩ := by decide +kernel
 k_with "az" => replace off' := allNe_of off'
 k_with "cr" => with_reducible show wpAny _ _ (subscriptTail _ (Expr.Slice (some _) (some _) none _) (Value.str _ _) _) _ _ _
 k_with "cs" => refine gM (o := alive o) (λ e => by dsimp only at h; rw [e] at h; exact cC h) λ o' ho' => ?_
 k_with "ct" => have hg : (T.ins n (dictOf [] 0)).get n = some (dictOf [] 0) := by rw [BT.get_ins _ _ _ (hr _), if_pos rfl]
 k_with "bE" => with_reducible show wpAny _ _ (call (Value.ref 152) _) _ _ _
 k_with "bF" => refine Bool.and_eq_true_iff.mpr ⟨?_, decide_eq_true ?_⟩
 k_with "bG" => with_reducible show wpAny _ _ (call (Value.ref _) []) _ _ _
 k_with "cu" => have e2 : ep + 1 + (y :: r).length = ep + (x :: y :: r).length := by rw [List.length_cons (a := x)]; lia
 k_with "av" => simp only [List.cons_append]
 k_with "aF" => rename News gO L _ _ => N9
 k_with "cv" => refine (wpAny_bind (ym hTs ?_) : wpAny _ _ (Builtin.List.listSubscript? (.ref sl) >>= _) _ _ s)
 k_with "aw" => first | rfl | kernel_rfl
 k_with "aV" => refine ok.casesOn λ h tk es => ?_
 k_with "bc" => have X : K.In s.heap := X₀.keeps Fx.keep
 k_with "bd" => have : n = 2 \/ n = 3 \/ n = 4 := by lia
 k_with "ao" => refine wpAny_bind ?_
 k_with "bH" => refine uQ X I hq hs (lZ X I hsl ?_)
 k_with "bf" => exact .inr ⟨_, by k_mem, rfl, _, rfl⟩
 k_with "cw" => refine ⟨m', hn, λ h'' hs'' => fin D h'' tk (F'.change hs'' hCL hC₀) (λ p hp => ?_) o1⟩
 k_with "cx" => first | exact ⟨by k_mem, trivial⟩ | exact ⟨by k_mem, by k_mem, trivial⟩ | (tm_at "aO")
 k_with "bI" => have hd := RR.dm d (List.mem_append_right _ (.head _))
 k_with "cy" => refine h.elim λ e1 h => h.elim λ s1 h => ?_; have k := pK h.1; rw [h.2.2.2]; exact k
 k_with "bg" => rcases List.mem_cons.mp hq with rfl | hq
 k_with "cz" => have hmx0 : 0 <= (if aC q9 > aC p9 then aC q9 else aC p9) := by split <;> lia
 k_with "cA" => refine wpAny_bind (wpAny_mkText (wpAny_holding (wpAny_bind (L0.at (wpAny_bind (L1.at ?_))))))
 k_with "cB" => obtain ⟨⟨oc, od, cd, sl, hC, e1, e2, e4⟩, made, base, self, top, new, call, typ⟩ := Y
 k_with "bJ" => first | tm_at "bK" | tm_at "bh" | tm_at "miss"
 k_with "cC" => have hmx1 : (if aC q9 > aC p9 then aC q9 else aC p9) < 98 := by split <;> lia
 k_with "cD" => refine gM (o := T.get a₁) (λ e => by rw [e] at h; exact cC h) λ o ho => ?_
 k_with "cE" => rw [show onTheHeap (.builtin "list.__getattribute__") = false from rfl, Bool.and_false]; rfl
 k_with "cF" => with_reducible show wpAny _ _ (binaryOp Operator.Mult (Value.str _ _) (Value.int _ _)) _ _ _
 k_with "bi" => first | tm_at "LENK" | tm_at "miss"
 k_with "bL" => refine wpAny_bind (wpAny_attempt (wpAny_holding ?_))
 k_with "bj" => replace N := Sel.news5 S1 S2 S3 S4 S5 N
 k_with "bM" => exact wpAny_bind (wpAny_newObj_type (wpAny_pure h))
 k_with "bk" => first | tm_at "c7" | tm_at "miss"
 k_with "aM" => unfold aC; split <;> lia
 k_with "bl" => first | tm_at "c9" | tm_at "miss"
 k_with "bN" => rw [if_neg (by rw [ne]; exact Bool.false_ne_true)]
 k_with "cG" => refine (wpAny_bind ?_ : wpAny _ _ (Builtin.List.listSubscript? (.int i t) >>= _) _ _ s)
 k_with "cH" => have hl : l.length = vs.toArray.size := by rw [List.size_toArray]; exact hT.length.symm
 k_with "cI" => try simp only [depth_under_make, depth_under_kw, depth_in1, depth_deeper, depth_caller]
 k_with "cJ" => with_reducible show wpAny _ _ (compareOp CmpOp.NotEq (Value.ref _) (Value.ref _)) _ _ _
 k_with "miss" => (have m9 : Missed := Missed.mk)
 k_with "APPM" => (k_here; (with_reducible show wpAny _ _ (getMethod (Value.ref _) (PySem.Str.ofString "append") _) _ _ _); k_dflt (refine' listMethod_K ?A0 ?A1 PySem.F.slot_list_append PySem.F.type_list_append ?_; (case A0 => k_asm); (case A1 => k_mem)))
 k_with "APK" => (k_here; (with_reducible show wpAny _ _ (call (Value.builtin _) [Value.ref _, _]) _ _ _); k_dflt (refine' append_K ?A2 ?A3 ?A4 ?_ ?A5; (case A2 | A3 => k_asm); (case A4 => k_upd); (case A5 => size_fits); k_whole); intro h' F' N'; (try k_sweep))
 k_with "TUP" => (k_here; (tm_at "ap"); k_dflt (refine' item_tupleT ?A6 ?A7 ?A8 ?A9 ?Aa ?_; (case A6 => exact News.isTup (by k_asm) (by k_mem)); (case A7 | A8 => decide); (case A9 | Aa => rfl); k_whole))
 k_with "KBA" => (k_here; (fail_if_success (with_reducible show wpAny _ _ (subscriptTail (PySem.Expr.Name _ _) _ _ _) _ _ _)); k_dflt (refine kba_turn (value' := PySem.Expr.Name (PySem.Str.ofString "_") ⟨0, 0, 0, 0⟩) (λ _ => rfl) ?_))
 k_with "memq" => with_reducible (first | assumption | ((tm_at "bA"); done))
 k_with "qinst" => first | (refine' bx ?Ab ?Ac ?Ad; (case Ab => k_asm); (case Ac | Ad => tm_at "memq")) | (refine' InstAt.of_news ?Ae ?Af ?Ag; (case Ae => k_asm); (case Af | Ag => tm_at "memq"))
 k_with "LENK" => (k_here; (with_reducible show wpAny _ _ (call (Value.builtin "len") [Value.ref _]) _ _ _); k_dflt (refine' len_K ?Ah ?Ai ?Aj ?Ak ?Al ?_; (case Ah | Ai => k_asm); (case Aj => tm_at "qinst"); (case Ak | Al => k_is); k_whole))
 k_with "W call builtin:len" => tm_at "bi"
 k_with "ne" => repeat' (first | refine acS ?_ ?_ | exact ⟨default⟩ | exact ⟨aWorld 1⟩ | exact ⟨callerA⟩ | exact ⟨⟨0, default, 0, default, 0⟩⟩ | exact ⟨⟨0, default, 0, default, 0, default, 0⟩⟩ | exact ⟨λ _ => ⟨0, default, 0, default, 0, default, 0⟩⟩ | exact ⟨⟨0, 0, 0, []⟩⟩ | exact ⟨⟨[], [], []⟩⟩ | exact ⟨{}⟩)
 k_with "GP" => (k_here; gp_on)
 k_with "SUBT" => first | (tm_at "W subscriptTail"; fail_if_success (rename Missed => m9)) | tm_at "TUP" | tm_at "GP" | tm_at "KBA" | tm_at "miss"
 k_with "W subscriptTail" => tm_at "o"
 k_with "W subscriptTail Name" => tm_at "SUBT"
 k_with "W subscriptTail Subscript" => tm_at "SUBT"
 k_with "W subscriptTail Attribute" => tm_at "SUBT"
 k_with "W subscriptTail Name Name ref int" => tm_at "SUBT"
 k_with "W subscriptTail Name Constant ref int" => tm_at "SUBT"
 k_with "W subscriptTail Subscript Constant ref int" => tm_at "SUBT"
 k_with "W subscriptTail Subscript Name ref int" => tm_at "SUBT"
 k_with "W subscriptTail Attribute Name ref int" => tm_at "SUBT"
 k_with "W subscriptTail Attribute Constant ref int" => tm_at "SUBT"
 k_with "k_room" => tm_at "o"
 k_with "k_units" => tm_at "o"
 k_with "k_inst" => tm_at "o"
 k_with "k_all" => tm_at "o"
 k_with "k_updF" => tm_at "o"
 k_with "k_mem" => tm_at "o"
 k_with "k_ne" => tm_at "o"
 k_with "ktr_room" => tm_at "o"
 k_with "ktr_units" => tm_at "o"
 k_with "passes_own" => tm_at "o"
 k_with "!k_room" => (tm_at "k_room"; fail_if_success (rename Missed => m9))
 k_with "!k_units" => (tm_at "k_units"; fail_if_success (rename Missed => m9))
 k_with "!k_inst" => (tm_at "k_inst"; fail_if_success (rename Missed => m9))
 k_with "!k_all" => (tm_at "k_all"; fail_if_success (rename Missed => m9))
 k_with "!k_updF" => (tm_at "k_updF"; fail_if_success (rename Missed => m9))
 k_with "!k_mem" => (tm_at "k_mem"; fail_if_success (rename Missed => m9))
 k_with "!k_ne" => (tm_at "k_ne"; fail_if_success (rename Missed => m9))
 k_with "!ktr_room" => (tm_at "ktr_room"; fail_if_success (rename Missed => m9))
 k_with "!ktr_units" => (tm_at "ktr_units"; fail_if_success (rename Missed => m9))
 k_with "!passes_own" => (tm_at "passes_own"; fail_if_success (rename Missed => m9))
 trivial
open PySem PySem.W PyProof.Rows PySem.Challenge
section
set_option tactic.hygienic false
theorem cC {α : Type _} {x : α} {G : Prop} (h : none = some x) : G := by cases h
theorem gK {α : Type _} {b : Bool} {x : Option α} {r : α} {G : Prop} (h : (match b with | true => x | false => none) = some r) (k : b = true -> x = some r -> G) : G := by
 cases b with
 | true => exact k rfl h
 | false => cases h
theorem xH {α : Type _} {b : Bool} {x : Option α} {r : α} {G : Prop} (h : (match b with | true => none | false => x) = some r) (k : b = false -> x = some r -> G) : G := by
 cases b with
 | true => cases h
 | false => exact k rfl h
theorem gM {β : Type _} {o : Option β} {G : Prop} (h1 : o = none -> G) (h2 : ∀ v, o = some v -> G) : G := by
 cases h : o with
 | none => exact h1 h
 | some v => exact h2 v h
theorem adL {A B C : Type _} {a a' : A} {b b' : B} {c c' : C} {P : A -> B -> C -> Prop} (h : some (a, b, c) = some (a', b', c')) (k : P a b c) : P a' b' c' :=
 Eq.subst (motive := λ x => P x.1 x.2.1 x.2.2) (Option.some.inj h) k
theorem wC {A B C D : Type _} {a a' : A} {b b' : B} {c c' : C} {d d' : D} {P : A -> B -> C -> D -> Prop} (h : some (a, b, c, d) = some (a', b', c', d')) (k : P a b c d) : P a' b' c' d' :=
 Eq.subst (motive := λ x => P x.1 x.2.1 x.2.2.1 x.2.2.2) (Option.some.inj h) k
noncomputable def eO (gZ : Nat) (ann : Option Value) (a : Addr) : Bool := Nat.ble gZ a || a == mainNs || a == cStatics || ann == some (.ref a)
noncomputable def eQ (c : Code) : Bool := Thread.atCollectorCode ⟨.pure (.again c), c, default, []⟩
section
variable (den : Code -> Sem PySem.Fin) (p : Program) (w : World) (gZ : Nat) (ann : Option Value)
mutual
noncomputable def bA : Nat -> Nat -> Code -> List (Code × Pos) -> {α : Type} -> Sem α -> SharedT -> Pos -> Option (Except Value α × SharedT × Pos × Nat)
 | 0, _, _, _, _, _, _, _ => none
 | d + 1, k, co, bs, _, t, s, q => match t with
   | .pure a => some (.ok a, s, q, k)
   | .raise e => some (.error e, s, q, k)
   | .rule _ c => (match k with | 0 => none | k + 1 => bA d k co bs (c ()) s q)
   | .at q' c => (match k with | 0 => none | k + 1 => bA d k co bs (c ()) s q')
   | .point _ c => (match k with | 0 => none | k + 1 => bA d k co bs (c ()) s q)
   | .ask c => (match k with | 0 => none | k + 1 => bA d k co bs (c ⟨p, w.params⟩) s q)
   | .fresh c => (match k, s with | 0, _ => none | k + 1, ⟨T, n, life, gens, drawn, toks, os⟩ => bA d k co bs (c toks) ⟨T, n, life, gens, drawn, toks + 1, os⟩ q)
   | .load a _ c => (match k, s with
     | 0, _ => none
     | k + 1, ⟨T, n, life, gens, drawn, toks, os⟩ => match Nat.blt a n with
       | true => match T.get a with
         | some o => match alive o with
           | some o' => bA d k co bs (c o') ⟨T, n, life, gens, drawn, toks, os⟩ q
           | none => none
         | none => none
       | false => none)
   | .update a _ f c => (match k, s with
     | 0, _ => none
     | k + 1, ⟨T, n, life, gens, drawn, toks, os⟩ => match eO gZ ann a with
       | true => match Nat.blt a n with
         | true => match T.get a with
           | some o => match alive o with
             | some _ => bA d k co bs (c ()) ⟨T.set a f, n, life, gens, drawn, toks, os⟩ q
             | none => none
           | none => none
         | false => none
       | false => none)
   | .alloc o c => (match k, s with
     | 0, _ => none
     | k + 1, ⟨T, n, life, gens, drawn, toks, os⟩ => match ((T.ins n o).get n).isSome with
       | true => bA d k co bs (c n) ⟨T.ins n o, n + 1, life, gens, drawn, toks, os⟩ q
       | false => none)
   | .handled own c => (match k, own with
     | 0, _ => none
     | _, true => none
     | k + 1, false => bA d k co bs (c none) s q)
   | .call c hd _ _ kk => (match k, hd with
     | 0, _ => none
     | _, some _ => none
     | k + 1, none => match pW d k c ((co, q) :: bs) (den c) s q with
       | some (r, s', k') => bA d k' co bs (kk r) s' q
       | none => none)
   | .stack c => (match k with | 0 => none | k + 1 => bA d k co bs (c ((co, q) :: bs)) s q)
   | _ => none
noncomputable def pW : Nat -> Nat -> Code -> List (Code × Pos) -> Sem Fin -> SharedT -> Pos -> Option (Result × SharedT × Nat)
 | 0, _, _, _, _, _, _ => none
 | d + 1, k, co, bs, t, s, q => match bA d k co bs t s q with
   | some (fin, s', q', k') => (match k', fin with
     | 0, _ => none
     | k' + 1, .error e => some (.error e, s', k')
     | k' + 1, .ok (.done f) => some (.ok f, s', k')
     | k' + 1, .ok (.again c) => match eQ c with
       | true => none
       | false => pW d k' c bs (den c) s' q')
   | none => none
end
end
section
variable {tb : String -> Option Builtin} {p : Program} {w : World} {gZ : Nat} {ann : Option Value}
theorem jC {s s' : SharedT} {t t' : Thread} {n : Nat} {r : SharedT × Thread} (he : endAt 1 t = none) (hk : stepOk gZ ann t = true) (hs : stepT (denote tb) p w s t = some (s', t')) (h : segGoT tb p w gZ ann 1 n s' t' = some r) : segGoT tb p w gZ ann 1 (n + 1) s t = some r := by
 unfold segGoT;rw [he, hk, hs];exact h
theorem lJ {n m : Nat} {s gJ : SharedT} {t t₁ : Thread} {r : SharedT × Thread} (h : segGoT tb p w gZ ann 1 n s t = some (gJ, t₁)) (k : segGoT tb p w gZ ann 1 m gJ t₁ = some r) : segGoT tb p w gZ ann 1 (n + m) s t = some r := by
 induction n generalizing s t with
 | zero => cases h; rw [Nat.zero_add]; exact k
 | succ n ih =>
   rw [Nat.succ_add];unfold segGoT at h;cases he : endAt 1 t with
   | some x => rw [he] at h; cases h
   | none =>
     rw [he] at h;cases hk : stepOk gZ ann t with
     | false => rw [hk] at h; cases h
     | true =>
       rw [hk] at h;cases hs : stepT (denote tb) p w s t with
       | none => rw [hs] at h; cases h
       | some x =>
         rw [hs] at h;exact jC (s' := x.1) (t' := x.2) he hk hs (ih h)
theorem bL {cur : Sem Fin} {c : Code} {q : Pos} {B : List Frame} (h : ∀ F, endAt 1 ⟨cur, c, q, [F]⟩ = none) : endAt 1 ⟨cur, c, q, B⟩ = none := by
 cases B with
 | nil => rfl
 | cons F B => cases B with
   | nil => exact h F
   | cons G B => rfl
theorem iB {cur : Sem Fin} {c : Code} {q : Pos} {f : Frame} {B : List Frame} (hB : B ≠ []) : endAt 1 ⟨cur, c, q, f :: B⟩ = none := by
 unfold endAt;have : ((f :: B).length == 1) = false := by
   cases B with
   | nil => exact absurd rfl hB
   | cons b B => rfl
 dsimp only;rw [this]
noncomputable def agt {α β : Type} (K : α -> Sem β) (H : Value -> Sem β) : Except Value α -> Sem β
 | .ok a => K a
 | .error e => H e
variable (tb p w gZ ann) in
noncomputable def aq {α : Type} (co : Code) (bs : List (Code × Pos)) (n : Nat) (t : Sem α) (s : SharedT) (q : Pos) (r : Except Value α) (s' : SharedT) (q' : Pos) : Prop :=
 ∀ (K : α -> Sem Fin) (H : Value -> Sem Fin) (gd : Bool -> Bool) (lv : List Value -> List Value) (B : List Frame), B ≠ [] -> topHandled B = none -> B.map Frame.where_ = bs ->
   segGoT tb p w gZ ann 1 n s ⟨t.wrap K H gd lv, co, q, B⟩ = some (s', ⟨agt K H r, co, q', B⟩)
variable (tb p w gZ ann) in
noncomputable def lg (co : Code) (bs : List (Code × Pos)) (n : Nat) (t : Sem Fin) (s : SharedT) (q : Pos) (r : Result) (s' : SharedT) : Prop :=
 ∀ (k : Result -> Sem Fin) (g : Bool) (l : List Value) (code : Code) (pos : Pos) (kept : List Value) (B : List Frame), B ≠ [] -> topHandled B = none -> (code, pos) :: B.map Frame.where_ = bs ->
   segGoT tb p w gZ ann 1 n s ⟨t, co, q, .ret k none g l code pos kept :: B⟩ = some (s', ⟨k r, code, pos, B⟩)
theorem abw {α : Type} (t : Sem α) : t.wrap .pure .raise id id = t := by
 induction t <;> simp only [Sem.wrap, id, *]
section
variable {co : Code} {bs : List (Code × Pos)}
theorem aq.pure {α : Type} {a : α} {s : SharedT} {q : Pos} : aq tb p w gZ ann co bs 0 (.pure a) s q (.ok a) s q := λ _ _ _ _ _ _ _ _ => rfl
theorem aq.raise {α : Type} {e : Value} {s : SharedT} {q : Pos} : aq tb p w gZ ann co bs 0 (.raise e : Sem α) s q (.error e) s q := λ _ _ _ _ _ _ _ _ => rfl
theorem aq.bind {α β : Type} {n m : Nat} {t : Sem α} {f : α -> Sem β} {s gJ gQ : SharedT} {q q₁ q₂ : Pos} {a : α} {b : Except Value β} (h : aq tb p w gZ ann co bs n t s q (.ok a) gJ q₁) (k : aq tb p w gZ ann co bs m (f a) gJ q₁ b gQ q₂) :
   aq tb p w gZ ann co bs (n + m) (t >>= f) s q b gQ q₂ := λ K H gd lv B hB ht hw => by
 rw [Sem.bind_eq_wrap', Sem.wrap_wrap];exact lJ (h _ _ _ _ B hB ht hw) (k K H gd lv B hB ht hw)
theorem aq.keep {α : Type} {n : Nat} {t : Sem α} {s s' : SharedT} {q q' : Pos} {a : Except Value α} (vs : List Value) (h : aq tb p w gZ ann co bs n t s q a s' q') : aq tb p w gZ ann co bs n (t.keep vs) s q a s' q' :=
 λ K H gd lv B hB ht hw => by
   rw [Sem.keep_eq_wrap, Sem.wrap_wrap];have := h (λ a => (Sem.pure a : Sem α).wrap K H gd lv) (λ e => (Sem.raise e : Sem α).wrap K H gd lv) (λ g => gd (id g)) (λ l => lv (vs ++ l)) B hB ht hw;cases a <;> exact this
theorem aq.holding {α : Type} {n : Nat} {t : Sem α} {s s' : SharedT} {q q' : Pos} {a : Except Value α} (vs : List Value) (h : aq tb p w gZ ann co bs n t s q a s' q') : aq tb p w gZ ann co bs n (PySem.holding vs t) s q a s' q' := by
 unfold PySem.holding;split
 · exact h
 · exact h.keep _
theorem aq.onRaise {α : Type} {n : Nat} {t : Sem α} {s s' : SharedT} {q q' : Pos} {a : α} (f : Value -> Sem Unit) (h : aq tb p w gZ ann co bs n t s q (.ok a) s' q') : aq tb p w gZ ann co bs n (t.onRaise f) s q (.ok a) s' q' :=
 λ K H gd lv B hB ht hw => by
   rw [Sem.onRaise_eq_wrap, Sem.wrap_wrap];exact h _ _ _ _ B hB ht hw
theorem aq.call {α : Type} {n m : Nat} {c : Code} {g : Bool} {l : List Value} {kk : Result -> Sem α} {s gJ s' : SharedT} {q q' : Pos} {r : Result} {a : Except Value α} (h : lg tb p w gZ ann c ((co, q) :: bs) n (denote tb c) s q r gJ)
   (k : aq tb p w gZ ann co bs m (kk r) gJ q a s' q') : aq tb p w gZ ann co bs (n + m + 1) (.call c none g l kk) s q a s' q' := λ K H gd lv B hB ht hw => by
 obtain ⟨T, n, life, gens, drawn, toks, os⟩ := s;refine jC (s' := ⟨T, n, life, gens, drawn, toks, os⟩) (bL λ _ => rfl) rfl rfl ?_;exact lJ (h _ (gd g) (lv l) co q _ B hB ht (by rw [hw])) (k K H gd lv B hB ht hw)
theorem lg.start {n : Nat} {t : Sem Fin} {s s' : SharedT} {q q' : Pos} {r : Except Value Fin} (h : aq tb p w gZ ann co bs n t s q r s' q') (F : Frame) (B : List Frame) (ht : topHandled (F :: B) = none) (hw : F.where_ :: B.map Frame.where_ = bs) : segGoT tb p w gZ ann 1 n s ⟨t, co, q, F :: B⟩ = some (s', ⟨agt .pure .raise r, co, q', F :: B⟩) := by
 have := h .pure .raise id id (F :: B) (by simp) ht hw;rw [abw] at this;exact this
theorem lg.done {n : Nat} {t : Sem Fin} {s s' : SharedT} {q q' : Pos} {f : Flow} (h : aq tb p w gZ ann co bs n t s q (.ok (.done f)) s' q') : lg tb p w gZ ann co bs (n + 1) t s q (.ok f) s' := λ kk g l code pos kept B hB ht hw =>
 lJ (lg.start h (.ret kk none g l code pos kept) B ht hw) (jC (iB hB) rfl rfl rfl)
theorem lg.error {n : Nat} {t : Sem Fin} {s s' : SharedT} {q q' : Pos} {e : Value} (h : aq tb p w gZ ann co bs n t s q (.error e) s' q') : lg tb p w gZ ann co bs (n + 1) t s q (.error e) s' := λ kk g l code pos kept B hB ht hw =>
 lJ (lg.start h (.ret kk none g l code pos kept) B ht hw) (jC (iB hB) rfl rfl rfl)
theorem lg.again {n m : Nat} {t : Sem Fin} {s gJ s' : SharedT} {q q₁ : Pos} {r : Result} {c₁ : Code} (h : aq tb p w gZ ann co bs n t s q (.ok (.again c₁)) gJ q₁) (hl : eQ c₁ = false)
   (k : lg tb p w gZ ann c₁ bs m (denote tb c₁) gJ q₁ r s') : lg tb p w gZ ann co bs (n + (m + 1)) t s q r s' := λ kk g l code pos kept B hB ht hw => by
 refine lJ (lg.start h (.ret kk none g l code pos kept) B ht hw) (jC (s' := gJ) (t' := ⟨denote tb c₁, c₁, q₁, .ret kk none g l code pos (keptBy co c₁ l kept) :: B⟩) (iB hB) ?_ ?_ (k kk g l code pos _ B hB ht hw))
 · show ((!eQ c₁ || _) && _ && true && true) = true
   rw [hl]; rfl
 · obtain ⟨T, n, life, gens, drawn, toks, os⟩ := gJ
   show (match step (denote tb) p w ⟨{}, gens, drawn, toks, os⟩ ⟨.pure (.again c₁), co, q₁, .ret kk none g l code pos kept :: B⟩ with
     | .go s' t' => some ((⟨T, n, life, s'.gens, s'.drawn, s'.toks, s'.os⟩ : SharedT), t')
     | .halt _ _ => none) = _
   rw [PySem.W.step_again]
end
theorem xJ {a : Addr} {q : Option Value} {f : Obj -> Obj} {k : Unit -> Sem Fin} {c : Code} {pos : Pos} {B : List Frame} (h : eO gZ ann a = true) : stepOk gZ ann ⟨.update a q f k, c, pos, B⟩ = true := by
 unfold stepOk;unfold eO at h;dsimp only;rw [h];rfl
theorem agu {k k' k₁ : Nat} (h1 : k₁ <= k) (h2 : k' <= k₁) : k + 1 - k' = (k - k₁) + (k₁ - k') + 1 := by rw [Nat.sub_add_sub_cancel h1 h2, Nat.succ_sub (Nat.le_trans h2 h1)]
theorem adM {k k₁ : Nat} (h : k₁ + 1 <= k) : k - k₁ = (k - (k₁ + 1)) + 1 := by rw [Nat.sub_add_eq, Nat.sub_add_cancel (Nat.sub_pos_of_lt h)]
theorem agv {k k' k₁ : Nat} (h1 : k₁ + 1 <= k) (h2 : k' <= k₁) : k - k' = (k - (k₁ + 1)) + ((k₁ - k') + 1) := by rw [show k₁ - k' + 1 = k₁ + 1 - k' from (Nat.succ_sub h2).symm, Nat.sub_add_sub_cancel h1 (Nat.le_succ_of_le h2)]
theorem xK {den : Code -> Sem PySem.Fin} {d k : Nat} {co : Code} {bs : List (Code × Pos)} {α : Type} {a : Addr} {part : Option Value} {o o' : Obj} {c : Obj -> Sem α} {T : BT} {n : Nat} {life : Life} {gens : Array GenState} {drawn : Drawn} {toks : Nat} {os : OsState} {q : Pos} (hn : Nat.blt a n = true) (ho : T.get a = some o) (ha : alive o = some o') : bA den p w gZ ann (d + 1) (k + 1) co bs (.load a part c) ⟨T, n, life, gens, drawn, toks, os⟩ q = bA den p w gZ ann d k co bs (c o') ⟨T, n, life, gens, drawn, toks, os⟩ q := by
 show (match Nat.blt a n with | true => (match T.get a with | some o => (match alive o with | some o' => bA den p w gZ ann d k co bs (c o') ⟨T, n, life, gens, drawn, toks, os⟩ q | none => none) | none => none) | false => none) = _;rw [hn, ho];show (match alive o with | some o' => bA den p w gZ ann d k co bs (c o') ⟨T, n, life, gens, drawn, toks, os⟩ q | none => none) = _;rw [ha]
theorem qW {den : Code -> Sem PySem.Fin} {d k : Nat} {co : Code} {bs : List (Code × Pos)} {α : Type} {a : Addr} {part : Option Value} {o o' : Obj} {f : Obj -> Obj} {c : Unit -> Sem α} {T : BT} {n : Nat} {life : Life} {gens : Array GenState} {drawn : Drawn} {toks : Nat} {os : OsState} {q : Pos} (hu : eO gZ ann a = true) (hn : Nat.blt a n = true) (ho : T.get a = some o) (ha : alive o = some o') : bA den p w gZ ann (d + 1) (k + 1) co bs (.update a part f c) ⟨T, n, life, gens, drawn, toks, os⟩ q = bA den p w gZ ann d k co bs (c ()) ⟨T.set a f, n, life, gens, drawn, toks, os⟩ q := by
 show (match eO gZ ann a with | true => (match Nat.blt a n with | true => (match T.get a with | some o => (match alive o with | some _ => bA den p w gZ ann d k co bs (c ()) ⟨T.set a f, n, life, gens, drawn, toks, os⟩ q | none => none) | none => none) | false => none) | false => none) = _;rw [hu, hn, ho];show (match alive o with | some _ => bA den p w gZ ann d k co bs (c ()) ⟨T.set a f, n, life, gens, drawn, toks, os⟩ q | none => none) = _;rw [ha]
theorem uC {den : Code -> Sem PySem.Fin} {d k : Nat} {co : Code} {bs : List (Code × Pos)} {α : Type} {o : Obj} {c : Addr -> Sem α} {T : BT} {n : Nat} {life : Life} {gens : Array GenState} {drawn : Drawn} {toks : Nat} {os : OsState} {q : Pos} (hr : ((T.ins n o).get n).isSome = true) : bA den p w gZ ann (d + 1) (k + 1) co bs (.alloc o c) ⟨T, n, life, gens, drawn, toks, os⟩ q = bA den p w gZ ann d k co bs (c n) ⟨T.ins n o, n + 1, life, gens, drawn, toks, os⟩ q := by
 show (match ((T.ins n o).get n).isSome with | true => bA den p w gZ ann d k co bs (c n) ⟨T.ins n o, n + 1, life, gens, drawn, toks, os⟩ q | false => none) = _;rw [hr]
theorem xM {den : Code -> Sem PySem.Fin} {d k : Nat} {co c : Code} {bs : List (Code × Pos)} {α : Type} {g : Bool} {l : List Value} {kk : Result -> Sem α} {s : SharedT} {q : Pos} :
   bA den p w gZ ann (d + 1) (k + 1) co bs (.call c none g l kk) s q = (match pW den p w gZ ann d k c ((co, q) :: bs) (den c) s q with | some (r, s', k') => bA den p w gZ ann d k' co bs (kk r) s' q | none => none) := rfl
theorem xN {den : Code -> Sem PySem.Fin} {d k : Nat} {co : Code} {bs : List (Code × Pos)} {t : Sem PySem.Fin} {s : SharedT} {q : Pos} :
   pW den p w gZ ann (d + 1) k co bs t s q = (match bA den p w gZ ann d k co bs t s q with
   | some (fin, s', q', k') => (match k', fin with
     | 0, _ => none
     | k' + 1, .error e => some (.error e, s', k')
     | k' + 1, .ok (.done f) => some (.ok f, s', k')
     | k' + 1, .ok (.again c) => match eQ c with
       | true => none
       | false => pW den p w gZ ann d k' c bs (den c) s' q')
   | none => none) := rfl
theorem bW {d k : Nat} {co : Code} {bs : List (Code × Pos)} {α : Type} {t t₁ : Sem α} {s gJ : SharedT} {q q₁ : Pos} {a : Except Value α} {s' : SharedT} {q' : Pos} {k' : Nat} (ihS : ∀ (k : Nat) (co : Code) (bs : List (Code × Pos)) {α : Type} (t : Sem α) (s : SharedT) (q : Pos) (a : Except Value α) (s' : SharedT) (q' : Pos) (k' : Nat), bA (denote tb) p w gZ ann d k co bs t s q = some (a, s', q', k') -> k' <= k /\ aq tb p w gZ ann co bs (k - k') t s q a s' q') (hr : bA (denote tb) p w gZ ann d k co bs t₁ gJ q₁ = some (a, s', q', k')) (hstep : ∀ (K : α -> Sem Fin) (H : Value -> Sem Fin) (gd : Bool -> Bool) (lv : List Value -> List Value) (B : List Frame), B ≠ [] -> topHandled B = none -> B.map Frame.where_ = bs -> endAt 1 ⟨t.wrap K H gd lv, co, q, B⟩ = none /\ stepOk gZ ann ⟨t.wrap K H gd lv, co, q, B⟩ = true /\ stepT (denote tb) p w s ⟨t.wrap K H gd lv, co, q, B⟩ = some (gJ, ⟨t₁.wrap K H gd lv, co, q₁, B⟩)) : k' <= k + 1 /\ aq tb p w gZ ann co bs (k + 1 - k') t s q a s' q' := by
 obtain ⟨hle, hgo⟩ := ihS k co bs t₁ gJ q₁ a s' q' k' hr;refine ⟨Nat.le_succ_of_le hle, λ K H gd lv B hB ht hw => ?_⟩;rw [show k + 1 - k' = (k - k') + 1 from Nat.succ_sub hle];obtain ⟨h1, h2, h3⟩ := hstep K H gd lv B hB ht hw;exact jC h1 h2 h3 (hgo K H gd lv B hB ht hw)
theorem jD {den : Code -> Sem PySem.Fin} (hden : denote tb = den) : ∀ d : Nat, (∀ (k : Nat) (co : Code) (bs : List (Code × Pos)) {α : Type} (t : Sem α) (s : SharedT) (q : Pos) (a : Except Value α) (s' : SharedT) (q' : Pos) (k' : Nat), bA den p w gZ ann d k co bs t s q = some (a, s', q', k') -> k' <= k /\ aq tb p w gZ ann co bs (k - k') t s q a s' q') /\ (∀ (k : Nat) (co : Code) (bs : List (Code × Pos)) (t : Sem Fin) (s : SharedT) (q : Pos) (f : Result) (s' : SharedT) (k' : Nat), pW den p w gZ ann d k co bs t s q = some (f, s', k') -> k' <= k /\ lg tb p w gZ ann co bs (k - k') t s q f s') := by
 subst hden;intro d
 induction d with
 | zero => exact ⟨λ k co bs α t s q a s' q' k' h => cC h, λ k co bs t s q f s' k' h => cC h⟩
 | succ d ih =>
   obtain ⟨ihS, ihF⟩ := ih;constructor
   · intro k co bs α t s q a s' q' k' h
     obtain ⟨T, n, life, gens, drawn, toks, os⟩ := s;cases k with
     | zero =>
       cases t with
       | pure b =>
         exact wC (P := λ a s' q' k' => k' <= 0 /\ aq tb p w gZ ann co bs (0 - k') (.pure b) _ q a s' q') h ⟨Nat.le_refl _, Nat.sub_self 0 ▸ aq.pure⟩
       | raise e =>
         exact wC (P := λ a s' q' k' => k' <= 0 /\ aq tb p w gZ ann co bs (0 - k') (.raise e) _ q a s' q') h ⟨Nat.le_refl _, Nat.sub_self 0 ▸ aq.raise⟩
       | _ => exact cC h
     | succ k =>
       cases t with
       | pure b =>
         exact wC (P := λ a s' q' k' => k' <= k + 1 /\ aq tb p w gZ ann co bs (k + 1 - k') (.pure b) _ q a s' q') h ⟨Nat.le_refl _, Nat.sub_self (k + 1) ▸ aq.pure⟩
       | raise e =>
         exact wC (P := λ a s' q' k' => k' <= k + 1 /\ aq tb p w gZ ann co bs (k + 1 - k') (.raise e) _ q a s' q') h ⟨Nat.le_refl _, Nat.sub_self (k + 1) ▸ aq.raise⟩
       | rule tg c =>
         exact bW ihS h λ K H gd lv B hB ht hw => ⟨bL λ _ => rfl, rfl, rfl⟩
       | «at» q₁ c =>
         exact bW ihS h λ K H gd lv B hB ht hw => ⟨bL λ _ => rfl, rfl, rfl⟩
       | point l c =>
         exact bW ihS h λ K H gd lv B hB ht hw => ⟨bL λ _ => rfl, rfl, rfl⟩
       | ask c =>
         exact bW ihS h λ K H gd lv B hB ht hw => ⟨bL λ _ => rfl, rfl, rfl⟩
       | fresh c =>
         exact bW ihS h λ K H gd lv B hB ht hw => ⟨bL λ _ => rfl, rfl, rfl⟩
       | stack c =>
         exact bW ihS h λ K H gd lv B hB ht hw => ⟨bL λ _ => rfl, rfl, by subst hw; rfl⟩
       | handled own c =>
         cases own with
         | true => exact cC h
         | false => exact bW ihS h λ K H gd lv B hB ht hw => ⟨bL λ _ => rfl, rfl, by
             show some ((⟨T, n, life, gens, drawn, toks, os⟩ : SharedT), (⟨(c (topHandled B)).wrap K H gd lv, co, q, B⟩ : Thread)) = _;rw [ht]⟩
       | load a₁ part c =>
         refine gK (b := Nat.blt a₁ n) h λ hb h => ?_
         tm_at "cD";rw [ho] at h;tm_at "cs";dsimp only at h;rw [ho'] at h;exact bW ihS h λ K H gd lv B hB ht hw => ⟨bL λ _ => rfl, rfl, by simp only [Sem.wrap, stepT, hb, ho, ho']⟩
       | update a₁ part f c =>
         refine gK (b := eO gZ ann a₁) h λ hu h => gK (b := Nat.blt a₁ n) h λ hb h => ?_
         tm_at "cD";rw [ho] at h;tm_at "cs";dsimp only at h;rw [ho'] at h;exact bW ihS h λ K H gd lv B hB ht hw => ⟨bL λ _ => rfl, xJ hu, by simp only [Sem.wrap, stepT, hb, ho, ho']⟩
       | alloc o c =>
         exact gK (b := ((T.ins n o).get n).isSome) h λ hb h => bW ihS h λ K H gd lv B hB ht hw => ⟨bL λ _ => rfl, rfl, by simp only [Sem.wrap, stepT, hb]⟩
       | call c₁ hd g l kk =>
         cases hd with
         | some _ => exact cC h
         | none =>
           rw [xM] at h;refine gM (o := pW (denote tb) p w gZ ann d k c₁ ((co, q) :: bs) (denote tb c₁) ⟨T, n, life, gens, drawn, toks, os⟩ q) (λ e => by rw [e] at h; exact cC h) λ x hf => ?_
           rw [hf] at h;have r₁ := ihF k c₁ ((co, q) :: bs) _ _ q x.1 x.2.1 x.2.2 hf;have r₂ := ihS x.2.2 co bs (kk x.1) x.2.1 q a s' q' k' h;exact ⟨by lia, (agu r₁.1 r₂.1).symm ▸ aq.call r₁.2 r₂.2⟩
       | _ => exact cC h
   · intro k co bs t s q f s' k' h
     rw [xN] at h;refine gM (o := bA (denote tb) p w gZ ann d k co bs t s q) (λ e => by rw [e] at h; exact cC h) λ ⟨fin, gJ, q₁, k₁⟩ hr => ?_
     rw [hr] at h;have r₁ := ihS k co bs t s q fin gJ q₁ k₁ hr;cases k₁ with
     | zero => exact cC h
     | succ k₁ =>
       cases fin with
       | error e => exact adL (P := λ f s' k' => k' <= k /\ lg tb p w gZ ann co bs (k - k') t s q f s') h ⟨Nat.le_of_succ_le r₁.1, (adM r₁.1).symm ▸ lg.error r₁.2⟩
       | ok fin =>
         cases fin with
         | done f₁ => exact adL (P := λ f s' k' => k' <= k /\ lg tb p w gZ ann co bs (k - k') t s q f s') h ⟨Nat.le_of_succ_le r₁.1, (adM r₁.1).symm ▸ lg.done r₁.2⟩
         | again c₁ =>
           exact xH (b := eQ c₁) h λ hl h => ⟨by have := (ihF k₁ c₁ bs _ gJ q₁ f s' k' h).1; have := r₁.1; lia, (agv r₁.1 (ihF k₁ c₁ bs _ gJ q₁ f s' k' h).1).symm ▸ lg.again r₁.2 hl (ihF k₁ c₁ bs _ gJ q₁ f s' k' h).2⟩
theorem aq.of_runD {den : Code -> Sem PySem.Fin} (hden : denote tb = den) {d k k' : Nat} {co : Code} {bs : List (Code × Pos)} {α : Type} {t : Sem α} {s s' : SharedT} {q q' : Pos} {a : Except Value α} (h : bA den p w gZ ann d k co bs t s q = some (a, s', q', k')) : aq tb p w gZ ann co bs (k - k') t s q a s' q' := ((jD hden d).1 k co bs t s q a s' q' k' h).2
theorem aq.of_run {d k k' : Nat} {co : Code} {bs : List (Code × Pos)} {α : Type} {t : Sem α} {s s' : SharedT} {q q' : Pos} {a : Except Value α} (h : bA (denote tb) p w gZ ann d k co bs t s q = some (a, s', q', k')) : aq tb p w gZ ann co bs (k - k') t s q a s' q' := ((jD rfl d).1 k co bs t s q a s' q' k' h).2
theorem lg.of_run {d k k' : Nat} {co : Code} {bs : List (Code × Pos)} {t : Sem Fin} {s s' : SharedT} {q : Pos} {f : Result} (h : pW (denote tb) p w gZ ann d k co bs t s q = some (f, s', k')) : lg tb p w gZ ann co bs (k - k') t s q f s' := ((jD rfl d).2 k co bs t s q f s' k' h).2
end
section
variable {p : Program} {w : World} {gZ : Nat} {ann : Option Value} {co : Code} {bs : List (Code × Pos)} {T : BT} {n : Nat} {life : Life} {gens : Array GenState} {drawn : Drawn} {toks : Nat} {os : OsState} {q : Pos}
noncomputable def iU (x : Int) : Int := let h : Int := x.natAbs % (2 ^ 61 - 1 : Nat); let h := if x < 0 then -h else h; if h == -1 then -2 else h
theorem nY {x : Int} (h0 : 0 <= x) (h1 : x < 2 ^ 60) : iU x = x := by
 unfold iU;have e : (x.natAbs : Int) = x := by lia
 have h2 : ((x.natAbs : Int) % ((2 ^ 61 - 1 : Nat) : Int)) = x := by
   rw [e]; exact Int.emod_eq_of_lt h0 (by lia)
 have h3 : ¬ x < 0 := by lia
 have h4 : (x == -1) = false := beq_eq_false_iff_ne.mpr (by lia);simp only [h2, if_neg h3, h4, Bool.false_eq_true, if_false]
theorem oE (i : Int) (tk : Tok) : bA (denote treeTable) p w gZ ann 30 30 co bs (specialOf (.int i tk) "__hash__") ⟨T, n, life, gens, drawn, toks, os⟩ q = some (.ok (some (.builtin "int.__hash__")), ⟨T, n, life, gens, drawn, toks, os⟩, q, 30) := by
 kernel_rfl
theorem xO (b : Bool) (i : Int) (tk : Tok) (rf : Sem Value) : bA (denote treeTable) p (w.withFollow "special-get-raises" b) gZ ann 60 60 co bs (callSpecialIfBoundUnlessNone? (.int i tk) "__hash__" rf) ⟨T, n, life, gens, drawn, toks, os⟩ q = some (.ok (some (.int (iU i) toks)), ⟨T, n, life, gens, drawn, toks + 1, os⟩, q, 55) := by
 cases b
 · kernel_rfl
 · kernel_rfl
theorem iV {P : World -> Prop} (r : String) (h : ∀ b w, P (World.withFollow w r b)) (w : World) : P w := by
 have := h (w.params.followText r) w
 rwa [World.withFollow_self] at this
theorem pX (i : Int) (tk : Tok) (rf : Sem Value) : aq treeTable p w gZ ann co bs 5 (callSpecialIfBoundUnlessNone? (.int i tk) "__hash__" rf) ⟨T, n, life, gens, drawn, toks, os⟩ q (.ok (some (.int (iU i) toks))) ⟨T, n, life, gens, drawn, toks + 1, os⟩ q :=
 iV (P := λ w => aq treeTable p w gZ ann co bs 5 (callSpecialIfBoundUnlessNone? (.int i tk) "__hash__" rf) ⟨T, n, life, gens, drawn, toks, os⟩ q (.ok (some (.int (iU i) toks))) ⟨T, n, life, gens, drawn, toks + 1, os⟩ q)
   "special-get-raises" (λ b w => aq.of_run (xO b i tk rf)) w
theorem nZ {i : Int} (h0 : 0 <= i) (h1 : i < 2 ^ 60) : pyHashByItsType.reduced i = (pure i : Sem Int) := by
 unfold pyHashByItsType.reduced;have h2 : (decide (-(2 ^ 63 : Int) <= i) && decide (i < 2 ^ 63)) = true := by
   simp only [Bool.and_eq_true, decide_eq_true_eq]; lia
 have h4 : (i == -1) = false := beq_eq_false_iff_ne.mpr (by lia);rw [if_pos h2, h4];rfl
theorem abx {i : Int} (h0 : 0 <= i) (h1 : i < 2 ^ 60) (tk : Tok) : aq treeTable p w gZ ann co bs 5 (pyHash (.int i tk)) ⟨T, n, life, gens, drawn, toks, os⟩ q (.ok i) ⟨T, n, life, gens, drawn, toks + 1, os⟩ q := by
 show aq treeTable p w gZ ann co bs (0 + (0 + (0 + (5 + 0)))) (pyHashByItsType (.int i tk)) _ _ _ _ _;unfold pyHashByItsType;refine aq.bind (a := ()) aq.pure ?_;refine aq.bind (aq.of_run (d := 30) (k := 30) (k' := 30) (oE i tk)) ?_;dsimp only;refine aq.bind (aq.of_run (d := 30) (k := 30) (k' := 30) (oE i tk)) ?_;refine aq.bind (pX i tk _) ?_;rw [nY h0 h1];show aq treeTable p w gZ ann co bs 0 (pyHashByItsType.reduced i) _ _ _ _ _;rw [nZ h0 h1];exact aq.pure
end
theorem jE {f g : Obj -> Obj} : ∀ {T : BT} {d : Nat} {o : Obj}, T.get d = some o -> f o = g o -> T.set d f = T.set d g
 | .nil, _, _, h, _ => by cases h
 | .node v l r, d, o, h, e => by
   rw [BT.get_node] at h;rw [BT.set_node, BT.set_node]
   by_cases h0 : d = 0
   · rw [if_pos h0] at h
     cases h
     rw [if_pos h0, if_pos h0, e]
   · rw [if_neg h0] at h
     rw [if_neg h0, if_neg h0]
     by_cases h1 : d % 2 = 1
     · rw [if_pos h1] at h
       rw [if_pos h1, if_pos h1, jE h e]
     · rw [if_neg h1] at h
       rw [if_neg h1, if_neg h1, jE h e]
theorem iW {f g : Obj -> Obj} : ∀ (T : BT) (d : Nat), (T.set d f).set d g = T.set d (λ o => g (f o))
 | .nil, _ => rfl
 | .node v l r, d => by
   rw [BT.set_node, BT.set_node]
   by_cases h0 : d = 0
   · rw [if_pos h0, if_pos h0, BT.set_node, if_pos h0]
   · rw [if_neg h0, if_neg h0]
     by_cases h1 : d % 2 = 1
     · rw [if_pos h1, if_pos h1, BT.set_node, if_neg h0, if_pos h1, iW l]
     · rw [if_neg h1, if_neg h1, BT.set_node, if_neg h0, if_neg h1, iW r]
theorem lr {f : Obj -> Obj} : ∀ (T : BT) (n : Nat) (o : Obj), ((T.ins n o).get n).isSome = true -> (T.ins n o).set n f = T.ins n (f o)
 | .nil, n, o, h => by
   have e : ∀ o, (BT.nil.ins n o) = .node o .nil .nil := λ _ => rfl
   rw [e, BT.get_node] at h;have h0 : n = 0 := by
     by_cases h0 : n = 0
     · exact h0
     · rw [if_neg h0] at h
       by_cases h1 : n % 2 = 1
       · rw [if_pos h1] at h; cases h
       · rw [if_neg h1] at h; cases h
   rw [e, e, BT.set_node, if_pos h0]
 | .node v l r, n, o, h => by
   rw [BT.ins_node] at h ⊢;rw [BT.ins_node]
   by_cases h0 : n = 0
   · rw [if_pos h0, if_pos h0, BT.set_node, if_pos h0]
   · rw [if_neg h0] at h ⊢
     rw [if_neg h0]
     by_cases h1 : n % 2 = 1
     · rw [if_pos h1] at h ⊢
       rw [if_pos h1, BT.set_node, if_neg h0, if_pos h1];rw [BT.get_node, if_neg h0, if_pos h1] at h;rw [lr l _ o h]
     · rw [if_neg h1] at h ⊢
       rw [if_neg h1, BT.set_node, if_neg h0, if_neg h1];rw [BT.get_node, if_neg h0, if_neg h1] at h;rw [lr r _ o h]
section
variable {p : Program} {w : World} {gZ : Nat} {ann : Option Value} {co : Code} {bs : List (Code × Pos)} {T : BT} {n : Nat} {life : Life} {gens : Array GenState} {drawn : Drawn} {toks : Nat} {os : OsState} {q : Pos} {d : Addr} {es : List DictEntry} {ep : Nat}
theorem dU {a : Addr} {part : Option Value} {o : Obj} (hn : Nat.blt a n = true) (ho : T.get a = some o) (ha : alive o = some o) : aq treeTable p w gZ ann co bs 1 (loadPart a part) ⟨T, n, life, gens, drawn, toks, os⟩ q (.ok o) ⟨T, n, life, gens, drawn, toks, os⟩ q := by
 refine aq.of_run (d := 3) (k := 1) (k' := 0) ?_;unfold loadPart;rw [xK hn ho ha];rfl
theorem n6 {a : Addr} {part : Option Value} {o : Obj} {f : Obj -> Obj} (hu : eO gZ ann a = true) (hn : Nat.blt a n = true) (ho : T.get a = some o) (ha : alive o = some o) : aq treeTable p w gZ ann co bs 1 (updatePart a part f) ⟨T, n, life, gens, drawn, toks, os⟩ q (.ok ()) ⟨T.set a (λ _ => f o), n, life, gens, drawn, toks, os⟩ q := by
 refine aq.of_run (d := 3) (k := 1) (k' := 0) ?_;unfold updatePart;rw [qW hu hn ho ha];rw [jE (g := λ _ => f o) ho rfl];rfl
theorem wD {tag : String} {s : SharedT} : aq treeTable p w gZ ann co bs 1 (rule tag) s q (.ok ()) s q := aq.of_run (d := 3) (k := 1) (k' := 0) rfl
theorem dJ : alive (dictOf es ep) = some (dictOf es ep) := rfl
theorem fX {hashAt : Nat -> Option Int} {h : Int} : ∀ (n i : Nat), (∀ j, hashAt j ≠ some h) -> PySem.Fast.placesFrom hashAt h n i = []
 | 0, _, _ => rfl
 | n + 1, i, hh => by
   unfold PySem.Fast.placesFrom;rw [if_neg (by simpa using hh i)];exact fX n (i + 1) hh
theorem uD {h : Int} (hf : ∀ e ∈ es, e.hash ≠ h) (m : Nat) : placesWithHash m (λ i => es.toArray[i]?.map (·.hash)) h = [] := by
 rw [PySem.Fast.places_eq];refine fX m 0 λ j e => ?_
 obtain ⟨x, hx, he⟩ := Option.map_eq_some_iff.mp e;exact hf x (by simpa using Array.mem_of_getElem? hx) he
theorem wG {k h : Int} {tk : Tok} (hn : Nat.blt d n = true) (ho : T.get d = some (dictOf es ep)) (hf : ∀ e ∈ es, e.hash ≠ h) : aq treeTable p w gZ ann co bs 1 (dictFind d (.int k tk) h) ⟨T, n, life, gens, drawn, toks, os⟩ q (.ok none) ⟨T, n, life, gens, drawn, toks, os⟩ q := by
 unfold dictFind;refine aq.holding _ ?_;refine aq.bind (n := 1) (m := 0) (a := es.toArray) (by
   unfold dictEntries;exact aq.bind (n := 1) (m := 0) (dU hn ho dJ) aq.pure) ?_
 dsimp only;rw [uD hf];exact aq.pure
theorem oF {e : DictEntry} {part : Option Value} (hu : eO gZ ann d = true) (hn : Nat.blt d n = true) (ho : T.get d = some (dictOf es ep)) (hz : es.length < 10000) : aq treeTable p w gZ ann co bs 3 (updateDictKeys d (·.push e) part) ⟨T, n, life, gens, drawn, toks, os⟩ q (.ok ()) ⟨T.set d (λ _ => dictOf (es ++ [e]) (ep + 1)), n, life, gens, drawn, toks, os⟩ q := by
 unfold updateDictKeys;refine aq.bind (n := 1) (m := 2) (dU hn ho dJ) ?_;dsimp only;have e1 : Obj.mapDictKeys (·.push e) (dictOf es ep) = dictOf (es ++ [e]) (ep + 1) := by
   simp [Obj.mapDictKeys, dictOf]
 refine aq.bind (n := 1) (m := 1) (a := ()) (gJ := ⟨T.set d (λ _ => dictOf (es ++ [e]) (ep + 1)), n, life, gens, drawn, toks, os⟩) (q₁ := q) ?_ ?_
 · have := n6 (p := p) (w := w) (co := co) (bs := bs) (life := life) (gens := gens) (drawn := drawn) (toks := toks) (os := os) (q := q) (part := part) (f := Obj.mapDictKeys (·.push e)) hu hn ho dJ
   rw [e1] at this;exact this
 · unfold lookBehind
   have hg : (T.set d (λ _ => dictOf (es ++ [e]) (ep + 1))).get d = some (dictOf (es ++ [e]) (ep + 1)) := by
     rw [BT.get_set, if_pos rfl, ho]; rfl
   refine aq.bind (n := 1) (m := 0) (dU hn hg dJ) ?_;have : (dictOf (es ++ [e]) (ep + 1)).data.pastItsLine = none := by
     show (if (es ++ [e]).toArray.size > sizeLine + 1 then some "dict:memory" else none) = none;rw [if_neg];rw [List.size_toArray, List.length_append, List.length_singleton, sizeLine_eq];lia
   rw [this];exact aq.pure
theorem aq.cast {α : Type} {m k : Nat} {t : Sem α} {s s' : SharedT} {q q' : Pos} {a : Except Value α} (h : aq treeTable p w gZ ann co bs m t s q a s' q') (e : m = k) : aq treeTable p w gZ ann co bs k t s q a s' q' := e ▸ h
theorem pY {k h : Int} {tk : Tok} {v : Value} (hu : eO gZ ann d = true) (hn : Nat.blt d n = true) (ho : T.get d = some (dictOf es ep)) (hf : ∀ e ∈ es, e.hash ≠ h) (hz : es.length < 10000) : aq treeTable p w gZ ann co bs 5 (dictSetHashed d (.int k tk) h v) ⟨T, n, life, gens, drawn, toks, os⟩ q (.ok ()) ⟨T.set d (λ _ => dictOf (es ++ [⟨h, .int k tk, v⟩]) (ep + 1)), n, life, gens, drawn, toks, os⟩ q := by
 unfold dictSetHashed;refine aq.holding _ ?_;refine aq.bind (n := 1) (m := 4) (wG hn ho hf) ?_;dsimp only;refine aq.bind (n := 1) (m := 3) wD ?_;exact oF hu hn ho hz
theorem zT {k : Int} {tk : Tok} {v : Value} (h0 : 0 <= k) (h1 : k < 2 ^ 60) (hu : eO gZ ann d = true) (hn : Nat.blt d n = true) (ho : T.get d = some (dictOf es ep)) (hf : ∀ e ∈ es, e.hash ≠ k) (hz : es.length < 10000) : aq treeTable p w gZ ann co bs 10 (dictSet d (.int k tk) v) ⟨T, n, life, gens, drawn, toks, os⟩ q (.ok ()) ⟨T.set d (λ _ => dictOf (es ++ [⟨k, .int k tk, v⟩]) (ep + 1)), n, life, gens, drawn, toks + 1, os⟩ q := by
 unfold dictSet;refine aq.holding _ ?_;exact aq.bind (n := 5) (m := 5) (abx h0 h1 tk) (pY hu hn ho hf hz)
theorem ae8 {k h : Int} {tk : Tok} {v : Value} (hu : eO gZ ann d = true) (hn : Nat.blt d n = true) (ho : T.get d = some (dictOf es ep)) (hf : ∀ e ∈ es, e.hash ≠ h) (hz : es.length < 10000) : aq treeTable p w gZ ann co bs 4 (dictPut d h (.int k tk) v) ⟨T, n, life, gens, drawn, toks, os⟩ q (.ok ()) ⟨T.set d (λ _ => dictOf (es ++ [⟨h, .int k tk, v⟩]) (ep + 1)), n, life, gens, drawn, toks, os⟩ q := by
 unfold dictPut;refine aq.bind (n := 1) (m := 3) (wG hn ho hf) ?_;exact oF hu hn ho hz
noncomputable def ae9 (env : Env) (k : Int) : Sem Value := constValue env (.int k)
noncomputable def afa (env : Env) (pos : Pos) (v : Str) : Sem Value := do let x <- constValue env (.str v); standAt pos; pure x
theorem zU {env : Env} {k : Int} : aq treeTable p w gZ ann co bs 1 (ae9 env k) ⟨T, n, life, gens, drawn, toks, os⟩ q (.ok (.int k toks)) ⟨T, n, life, gens, drawn, toks + 1, os⟩ q := aq.of_run (d := 3) (k := 1) (k' := 0) rfl
theorem zV {env : Env} {pos : Pos} {v : Str} : aq treeTable p w gZ ann co bs 2 (afa env pos v) ⟨T, n, life, gens, drawn, toks, os⟩ q (.ok (.str v toks)) ⟨T, n, life, gens, drawn, toks + 1, os⟩ pos := aq.of_run (d := 4) (k := 2) (k' := 0) rfl
noncomputable abbrev bH (env : Env) (pos : Pos) (x : Int × Str) : Sem Value × Sem Value := (ae9 env x.1, afa env pos x.2)
noncomputable def aY : Nat -> List (Int × Str) -> List DictEntry
 | _, [] => []
 | t, x :: r => ⟨x.1, .int x.1 t, .str x.2 (t + 1)⟩ :: aY (t + 3) r
theorem aP : ∀ (l : List (Int × Str)) (t : Nat), (aY t l).length = l.length
 | [], _ => rfl
 | _ :: r, t => by rw [aY, List.length_cons, List.length_cons, aP r]
noncomputable def dK : Int -> List (Int × Str) -> Bool
 | _, [] => true
 | b, x :: r => decide (b < x.1) && dK x.1 r
noncomputable def cD (b : Int) (es : List DictEntry) : Prop := ∀ e ∈ es, e.hash <= b
theorem qX {env : Env} {pos : Pos} (hu : eO gZ ann d = true) (hn : Nat.blt d n = true) : ∀ (l : List (Int × Str)) (T : BT) (es : List DictEntry) (ep toks : Nat) (b : Int) (q : Pos), l ≠ [] -> T.get d = some (dictOf es ep) -> cD b es -> 0 <= b -> dK b l = true -> (∀ x ∈ l, x.1 < 2 ^ 60) -> es.length + l.length < 10000 ->
   aq treeTable p w gZ ann co bs (13 * l.length) (forIn (l.map (bH env pos)) PUnit.unit λ x _ => (do
       let kv <- x.1
       let vv <- holding [kv] x.2
       holding [kv, vv] (dictSet d kv vv)
       pure (ForInStep.yield PUnit.unit) : Sem (ForInStep PUnit))) ⟨T, n, life, gens, drawn, toks, os⟩ q (.ok PUnit.unit)
     ⟨T.set d (λ _ => dictOf (es ++ aY toks l) (ep + l.length)), n, life, gens, drawn, toks + 3 * l.length, os⟩ pos
 | [], _, _, _, _, _, _, h, _, _, _, _, _, _ => absurd rfl h
 | x :: r, T, es, ep, toks, b, q, _, ho, hb, h0, hr, hk, hz => by
   obtain ⟨hx, hr⟩ := Bool.and_eq_true_iff.mp hr;have hx := of_decide_eq_true hx;rw [List.map_cons, List.forIn_cons];refine aq.cast (m := (1 + (2 + (10 + 0))) + (13 * r.length)) ?_ (by rw [List.length_cons]; lia);refine aq.bind (a := ForInStep.yield PUnit.unit) (gJ := ⟨T.set d (λ _ => dictOf (es ++ [⟨x.1, .int x.1 toks, .str x.2 (toks + 1)⟩]) (ep + 1)), n, life, gens, drawn, toks + 1 + 1 + 1, os⟩) (q₁ := pos) ?_ ?_
   · refine aq.bind (zU (env := env)) ?_
     refine aq.bind (aq.holding _ zV) ?_;refine aq.bind (aq.holding _ (zT (by lia) (hk x (.head _)) hu hn ho (λ e he => ?_) (by rw [List.length_cons] at hz; lia))) aq.pure;have := hb e he;lia
   · have hg : (T.set d (λ _ => dictOf (es ++ [⟨x.1, .int x.1 toks, .str x.2 (toks + 1)⟩]) (ep + 1))).get d = some (dictOf (es ++ [⟨x.1, .int x.1 toks, .str x.2 (toks + 1)⟩]) (ep + 1)) := by
       rw [BT.get_set, if_pos rfl, ho]; rfl
     cases r with
     | nil =>
       show aq treeTable p w gZ ann co bs 0 (pure PUnit.unit) _ _ _ _ _;exact aq.pure
     | cons y r =>
       have := qX (env := env) (pos := pos) hu hn (y :: r) _ _ _ (toks + 3) x.1 pos (by simp) hg (by
         intro e he;rcases List.mem_append.mp he with he | he
         · have := hb e he; lia
         · rw [List.mem_singleton] at he; subst he; exact Int.le_refl _) (by lia) hr (λ z hz => hk z (.tail _ hz)) (by
         rw [List.length_append, List.length_singleton]; rw [List.length_cons] at hz; lia)
       rw [iW] at this;have e1 : es ++ [⟨x.1, .int x.1 toks, .str x.2 (toks + 1)⟩] ++ aY (toks + 3) (y :: r) = es ++ aY toks (x :: y :: r) := by
         rw [List.append_assoc]; rfl
       tm_at "cu";have e3 : toks + 3 + 3 * (y :: r).length = toks + 3 * (x :: y :: r).length := by rw [List.length_cons (a := x)]; lia
       rw [e1, e2, e3] at this;exact this
theorem qY {o : Obj} (hr : ((T.ins n o).get n).isSome = true) : aq treeTable p w gZ ann co bs 1 (alloc o) ⟨T, n, life, gens, drawn, toks, os⟩ q (.ok n) ⟨T.ins n o, n + 1, life, gens, drawn, toks, os⟩ q := by
 refine aq.of_run (d := 3) (k := 1) (k' := 0) ?_;unfold alloc;rw [uC hr];rfl
theorem oG {b : Int} : cD b [] := λ _ h => nomatch h
theorem lK {env : Env} {pos : Pos} {l : List (Int × Str)} (hr : ∀ o, ((T.ins n o).get n).isSome = true) (hu : Nat.ble gZ n = true) (hl : 15 < l.length) (hz : l.length < 9000) (hk : dK 0 l = true) (hk2 : ∀ x ∈ l, x.1 < 2 ^ 60) : aq treeTable p w gZ ann co bs (2 + 13 * l.length) (subDict (l.map (bH env pos))) ⟨T, n, life, gens, drawn, toks, os⟩ q (.ok n) ⟨T.ins n (dictOf (aY toks l) l.length), n + 1, life, gens, drawn, toks + 3 * l.length, os⟩ pos := by
 unfold subDict;refine aq.cast (m := 1 + ((1 + 13 * l.length) + 0)) ?_ (by lia);refine aq.bind (qY (hr _)) ?_;refine aq.bind (a := PUnit.unit) (gJ := ⟨T.ins n (dictOf (aY toks l) l.length), n + 1, life, gens, drawn, toks + 3 * l.length, os⟩) (q₁ := pos) (aq.holding _ ?_) aq.pure;rw [if_neg (by rw [List.length_map]; lia)];refine aq.bind wD ?_;have hne : l ≠ [] := by rintro rfl; simp at hl
 tm_at "ct";have := qX (p := p) (w := w) (gZ := gZ) (ann := ann) (co := co) (bs := bs) (n := n + 1) (life := life) (gens := gens) (drawn := drawn) (os := os) (d := n) (env := env) (pos := pos) (by unfold eO; rw [hu]; rfl) (by simp [Nat.blt]) l (T.ins n (dictOf [] 0)) [] 0 toks 0 q hne hg oG (Int.le_refl _) hk hk2 (by rw [List.length_nil]; lia);rw [lr _ _ _ (hr _), List.nil_append, Nat.zero_add] at this;exact aq.bind (n := 13 * l.length) (m := 0) this aq.pure
noncomputable def pZ : Nat -> List (Int × Str) -> List (Value × Value)
 | _, [] => []
 | t, x :: r => (.int x.1 t, .str x.2 (t + 1)) :: pZ (t + 2) r
noncomputable def bM : Nat -> List (Int × Str) -> List DictEntry
 | _, [] => []
 | t, x :: r => ⟨x.1, .int x.1 t, .str x.2 (t + 1)⟩ :: bM (t + 2) r
theorem cF : ∀ (l : List (Int × Str)) (t : Nat), (bM t l).length = l.length
 | [], _ => rfl
 | _ :: r, t => by rw [bM, List.length_cons, List.length_cons, cF r]
theorem iY {env : Env} {pos : Pos} : ∀ (l : List (Int × Str)) (toks : Nat) (q : Pos), l ≠ [] ->
   aq treeTable p w gZ ann co bs (3 * l.length) (evalPairs (l.map (bH env pos))) ⟨T, n, life, gens, drawn, toks, os⟩ q (.ok (pZ toks l)) ⟨T, n, life, gens, drawn, toks + 2 * l.length, os⟩ pos
 | [], _, _, h => absurd rfl h
 | x :: r, toks, q, _ => by
   rw [List.map_cons];unfold evalPairs;refine aq.cast (m := 1 + (2 + (3 * r.length + 0))) ?_ (by rw [List.length_cons]; lia);refine aq.bind (zU (env := env)) ?_;refine aq.bind (aq.holding _ zV) ?_;cases r with
   | nil => exact aq.bind (n := 0) (m := 0) (aq.holding _ aq.pure) aq.pure
   | cons y r =>
     have := iY (env := env) (pos := pos) (y :: r) (toks + 1 + 1) pos (by simp);have e : toks + 1 + 1 + 2 * (y :: r).length = toks + 2 * (x :: y :: r).length := by rw [List.length_cons (a := x)]; lia
     rw [e] at this;exact aq.bind (aq.holding _ this) aq.pure
theorem wH (hu : eO gZ ann d = true) (hn : Nat.blt d n = true) : ∀ (l : List (Int × Str)) (T : BT) (es : List DictEntry) (ep tp toks : Nat) (b : Int) (q : Pos), l ≠ [] -> T.get d = some (dictOf es ep) -> cD b es -> 0 <= b -> dK b l = true -> (∀ x ∈ l, x.1 < 2 ^ 60) -> es.length + l.length < 10000 ->
   aq treeTable p w gZ ann co bs (10 * l.length) (forIn (pZ tp l) PUnit.unit λ x _ => (do
       dictSet d x.1 x.2
       pure (ForInStep.yield PUnit.unit) : Sem (ForInStep PUnit))) ⟨T, n, life, gens, drawn, toks, os⟩ q (.ok PUnit.unit)
     ⟨T.set d (λ _ => dictOf (es ++ bM tp l) (ep + l.length)), n, life, gens, drawn, toks + l.length, os⟩ q
 | [], _, _, _, _, _, _, _, h, _, _, _, _, _, _ => absurd rfl h
 | x :: r, T, es, ep, tp, toks, b, q, _, ho, hb, h0, hr, hk, hz => by
   obtain ⟨hx, hr⟩ := Bool.and_eq_true_iff.mp hr;have hx := of_decide_eq_true hx;rw [pZ, List.forIn_cons];refine aq.cast (m := (10 + 0) + (10 * r.length)) ?_ (by rw [List.length_cons]; lia);refine aq.bind (a := ForInStep.yield PUnit.unit) (gJ := ⟨T.set d (λ _ => dictOf (es ++ [⟨x.1, .int x.1 tp, .str x.2 (tp + 1)⟩]) (ep + 1)), n, life, gens, drawn, toks + 1, os⟩) (q₁ := q) ?_ ?_
   · refine aq.bind (zT (by lia) (hk x (.head _)) hu hn ho (λ e he => ?_) (by rw [List.length_cons] at hz; lia)) aq.pure
     have := hb e he;lia
   · have hg : (T.set d (λ _ => dictOf (es ++ [⟨x.1, .int x.1 tp, .str x.2 (tp + 1)⟩]) (ep + 1))).get d = some (dictOf (es ++ [⟨x.1, .int x.1 tp, .str x.2 (tp + 1)⟩]) (ep + 1)) := by
       rw [BT.get_set, if_pos rfl, ho]; rfl
     cases r with
     | nil =>
       show aq treeTable p w gZ ann co bs 0 (pure PUnit.unit) _ _ _ _ _;exact aq.pure
     | cons y r =>
       have := wH hu hn (y :: r) _ _ _ (tp + 2) (toks + 1) x.1 q (by simp) hg (by
         intro e he;rcases List.mem_append.mp he with he | he
         · have := hb e he; lia
         · rw [List.mem_singleton] at he; subst he; exact Int.le_refl _) (by lia) hr (λ z hz => hk z (.tail _ hz)) (by
         rw [List.length_append, List.length_singleton]; rw [List.length_cons] at hz; lia)
       rw [iW] at this;have e1 : es ++ [⟨x.1, .int x.1 tp, .str x.2 (tp + 1)⟩] ++ bM (tp + 2) (y :: r) = es ++ bM tp (x :: y :: r) := by
         rw [List.append_assoc]; rfl
       tm_at "cu";have e3 : toks + 1 + (y :: r).length = toks + (x :: y :: r).length := by rw [List.length_cons (a := x)]; lia
       rw [e1, e2, e3] at this;exact this
theorem qZ {env : Env} {pos : Pos} {l : List (Int × Str)} (hr : ∀ o, ((T.ins n o).get n).isSome = true) (hu : Nat.ble gZ n = true) (hne : l ≠ []) (hl : l.length <= 15) (hk : dK 0 l = true) (hk2 : ∀ x ∈ l, x.1 < 2 ^ 60) : aq treeTable p w gZ ann co bs (1 + 13 * l.length) (subDict (l.map (bH env pos))) ⟨T, n, life, gens, drawn, toks, os⟩ q (.ok n) ⟨T.ins n (dictOf (bM toks l) l.length), n + 1, life, gens, drawn, toks + 3 * l.length, os⟩ pos := by
 unfold subDict;refine aq.cast (m := 1 + ((3 * l.length + 10 * l.length) + 0)) ?_ (by lia);refine aq.bind (qY (hr _)) ?_;refine aq.bind (a := PUnit.unit) (gJ := ⟨T.ins n (dictOf (bM toks l) l.length), n + 1, life, gens, drawn, toks + 3 * l.length, os⟩) (q₁ := pos) (aq.holding _ ?_) aq.pure;rw [if_pos (by rw [List.length_map]; lia)];refine aq.bind (iY l toks q hne) ?_;refine aq.holding _ ?_;tm_at "ct";have := wH (p := p) (w := w) (gZ := gZ) (ann := ann) (co := co) (bs := bs) (n := n + 1) (life := life) (gens := gens) (drawn := drawn) (os := os) (d := n) (by unfold eO; rw [hu]; rfl) (by simp [Nat.blt]) l (T.ins n (dictOf [] 0)) [] 0 toks (toks + 2 * l.length) 0 pos hne hg oG (Int.le_refl _) hk hk2 (by rw [List.length_nil]; lia);rw [lr _ _ _ (hr _), List.nil_append, Nat.zero_add, show toks + 2 * l.length + l.length = toks + 3 * l.length by lia] at this;exact aq.bind (n := 10 * l.length) (m := 0) this aq.pure
end
section
variable {p : Program} {w : World} {gZ : Nat} {ann : Option Value} {co : Code} {bs : List (Code × Pos)} {T : BT} {n : Nat} {life : Life} {gens : Array GenState} {drawn : Drawn} {toks : Nat} {os : OsState} {q : Pos} {d a : Addr} {es : List DictEntry} {ep : Nat}
noncomputable def q7 : Int -> List DictEntry -> Prop
 | _, [] => True
 | b, e :: r => (∃ tk, e.key = .int e.hash tk) /\ b < e.hash /\ q7 e.hash r
theorem q8 (hn : Nat.blt a n = true) (ho : T.get a = some (dictOf es ep)) : aq treeTable p w gZ ann co bs 1 (dictEpoch a) ⟨T, n, life, gens, drawn, toks, os⟩ q (.ok ep) ⟨T, n, life, gens, drawn, toks, os⟩ q := by
 unfold dictEpoch;tm_at "bB"
theorem iC (hn : Nat.blt a n = true) (ho : T.get a = some (dictOf es ep)) : aq treeTable p w gZ ann co bs 1 (dictEntries a) ⟨T, n, life, gens, drawn, toks, os⟩ q (.ok es.toArray) ⟨T, n, life, gens, drawn, toks, os⟩ q := by
 unfold dictEntries;tm_at "bB"
theorem lL {f : Obj -> Obj} (h : a ≠ d) : (T.set d f).get a = T.get a := by rw [BT.get_set, if_neg h]
theorem fu {f : Obj -> Obj} {o : Obj} (h : T.get d = some o) : (T.set d f).get d = some (f o) := by rw [BT.get_set, if_pos rfl, h]; rfl
theorem iZ {es' : List DictEntry} {ep' : Nat} {B : Nat -> PUnit -> Sem (ForInStep PUnit)} (hda : a ≠ d)
   (step : ∀ (i : Nat) (e : DictEntry) (T : BT) (es : List DictEntry) (ep : Nat), es'[i]? = some e -> T.get d = some (dictOf es ep) -> T.get a = some (dictOf es' ep') -> (∀ x ∈ es, x.hash ≠ e.hash) -> (∃ tk, e.key = .int e.hash tk) -> es.length < 10000 ->
     aq treeTable p w gZ ann co bs 6 (B i PUnit.unit) ⟨T, n, life, gens, drawn, toks, os⟩ q (.ok (ForInStep.yield PUnit.unit)) ⟨T.set d (λ _ => dictOf (es ++ [e]) (ep + 1)), n, life, gens, drawn, toks, os⟩ q) :
   ∀ (r : List DictEntry) (i : Nat) (T : BT) (es : List DictEntry) (ep : Nat) (b : Int), r ≠ [] -> es'.drop i = r ->
   T.get d = some (dictOf es ep) -> T.get a = some (dictOf es' ep') -> cD b es -> q7 b r -> es.length + r.length < 10000 ->
   aq treeTable p w gZ ann co bs (6 * r.length) (forIn (List.range' i r.length) PUnit.unit B) ⟨T, n, life, gens, drawn, toks, os⟩ q (.ok PUnit.unit)
     ⟨T.set d (λ _ => dictOf (es ++ r) (ep + r.length)), n, life, gens, drawn, toks, os⟩ q
 | [], _, _, _, _, _, h, _, _, _, _, _, _ => absurd rfl h
 | e :: r, i, T, es, ep, b, _, hi, ho, ha, hb, hr, hz => by
   obtain ⟨hk, hx, hr⟩ := hr;have hi' : es'[i]? = some e := by
     have := congrArg (λ l => l[0]?) hi
     simpa using this
   rw [List.length_cons, List.range'_succ, List.forIn_cons];refine aq.cast (m := 6 + 6 * r.length) ?_ (by lia);refine aq.bind (step i e T es ep hi' ho ha (λ x hx' => by have := hb x hx'; lia) hk (by rw [List.length_cons] at hz; lia)) ?_;cases r with
   | nil =>
     show aq treeTable p w gZ ann co bs 0 (pure PUnit.unit) _ _ _ _ _;exact aq.pure
   | cons y r =>
     have hd : es'.drop (i + 1) = y :: r := by
       rw [<- List.tail_drop, hi]; rfl
     have := iZ hda step (y :: r) (i + 1) (T.set d (λ _ => dictOf (es ++ [e]) (ep + 1))) (es ++ [e]) (ep + 1) e.hash (by simp) hd (fu ho) (by rw [lL hda]; exact ha) (by
       intro z hz;rcases List.mem_append.mp hz with hz | hz
       · have := hb z hz; lia
       · rw [List.mem_singleton] at hz; subst hz; exact Int.le_refl _) hr (by
       rw [List.length_append, List.length_singleton]; rw [List.length_cons] at hz; lia)
     rw [iW, List.append_assoc, show ep + 1 + (y :: r).length = ep + ((y :: r).length + 1) by lia] at this;exact this
theorem xP : bA (denote treeTable) p w gZ ann 30 30 co bs (typeLookup (.type "dict") "__iter__") ⟨T, n, life, gens, drawn, toks, os⟩ q = some (.ok (some (.builtin "dict.__iter__")), ⟨T, n, life, gens, drawn, toks, os⟩, q, 30) := by
 kernel_rfl
theorem zW : bA (denote treeTable) p w gZ ann 30 30 co bs (isSubtype (.type "dict") (.type "dict")) ⟨T, n, life, gens, drawn, toks, os⟩ q = some (.ok true, ⟨T, n, life, gens, drawn, toks, os⟩, q, 30) := by
 kernel_rfl
theorem oH (hn : Nat.blt a n = true) (ho : T.get a = some (dictOf es ep)) : aq treeTable p w gZ ann co bs 1 (typeOf (.ref a)) ⟨T, n, life, gens, drawn, toks, os⟩ q (.ok (.type "dict")) ⟨T, n, life, gens, drawn, toks, os⟩ q := by
 unfold typeOf;tm_at "bB"
theorem rm {es' : List DictEntry} {ep' : Nat} {b : Int} (hu : eO gZ ann d = true) (hn : Nat.blt d n = true) (hna : Nat.blt a n = true) (hda : a ≠ d) (hs : (a == sysModules) = false) (hne : es ≠ []) (hne' : es' ≠ []) (ho : T.get d = some (dictOf es ep)) (ha : T.get a = some (dictOf es' ep')) (hb : cD b es) (hr : q7 b es') (hz : es.length + es'.length < 10000) : aq treeTable p w gZ ann co bs (5 + 6 * es'.length) (mergeMapping d (.ref a) false) ⟨T, n, life, gens, drawn, toks, os⟩ q (.ok ()) ⟨T.set d (λ _ => dictOf (es ++ es') (ep + es'.length)), n, life, gens, drawn, toks, os⟩ q := by
 unfold mergeMapping;refine aq.cast (m := (1 + 0) + ((1 + 0) + (0 + (1 + (1 + (1 + (6 * es'.length + 0))))))) ?_ (by lia);refine aq.bind (a := true) (aq.bind (oH hna ha) (aq.of_run (d := 30) (k := 30) (k' := 30) zW)) ?_;rw [if_pos rfl];refine aq.bind (aq.bind (oH hna ha) (aq.of_run (d := 30) (k := 30) (k' := 30) xP)) ?_;refine aq.bind (a := true) (by
   have : (some (Value.builtin "dict.__iter__") == some (Value.builtin "dict.__iter__")) = true := by decide
   rw [this]; exact aq.pure) ?_
 dsimp only;rw [if_neg (by rw [hs]; exact Bool.false_ne_true)];refine aq.bind (iC hn ho) ?_;have he : es.toArray.isEmpty = false := by
   cases es with
   | nil => exact absurd rfl hne
   | cons x r => rfl
 rw [if_neg (by rw [he]; exact Bool.false_ne_true)];refine aq.bind (iC hna ha) ?_;refine aq.bind (q8 hna ha) ?_;refine aq.bind (a := PUnit.unit) ?_ aq.pure;rw [List.size_toArray, List.range_eq_range'];refine iZ hda (λ i e T es ep hi ho ha hf hk hz => ?_) es' 0 T es ep b hne' rfl ho ha hb hr hz;refine aq.cast (m := 1 + (4 + (1 + 0))) ?_ rfl;refine aq.bind (iC hna ha) ?_;have hi2 : es'.toArray[i]? = some e := by simpa using hi
 rw [hi2];dsimp only;obtain ⟨tk, hk⟩ := hk;refine aq.bind (a := ()) (gJ := ⟨T.set d (λ _ => dictOf (es ++ [e]) (ep + 1)), n, life, gens, drawn, toks, os⟩) (q₁ := q) (aq.holding _ ?_) ?_
 · rw [if_neg Bool.false_ne_true]
   have := ae8 (p := p) (w := w) (co := co) (bs := bs) (life := life) (gens := gens) (drawn := drawn) (toks := toks) (os := os) (q := q) (k := e.hash) (h := e.hash) (tk := tk) (v := e.val) hu hn ho hf hz;rw [<- hk] at this;exact this
 · refine aq.bind (q8 (es := es') (ep := ep') hna (by rw [lL hda]; exact ha)) ?_
   rw [if_neg (by simp)];exact aq.pure
end
theorem jb {o o' : Obj} : ∀ {T : BT} {n : Nat}, ((T.ins n o).get n).isSome = true -> ((T.ins n o').get n).isSome = true
 | .nil, n, h => by
   have e : ∀ o, (BT.nil.ins n o) = .node o .nil .nil := λ _ => rfl
   rw [e, BT.get_node] at h ⊢
   by_cases h0 : n = 0
   · rw [if_pos h0]; rfl
   · rw [if_neg h0] at h ⊢; exact h
 | .node v l r, n, h => by
   rw [BT.ins_node] at h ⊢
   by_cases h0 : n = 0
   · rw [if_pos h0, BT.get_node, if_pos h0]; rfl
   · rw [if_neg h0] at h ⊢
     by_cases h1 : n % 2 = 1
     · rw [if_pos h1, BT.get_node, if_neg h0, if_pos h1] at h ⊢
       exact jb h
     · rw [if_neg h1, BT.get_node, if_neg h0, if_neg h1] at h ⊢
       exact jb h
theorem j4 : ∀ (l : List (Int × Str)) (t : Nat) (b : Int), dK b l = true -> q7 b (aY t l)
 | [], _, _, _ => trivial
 | x :: r, t, b, h => by
   obtain ⟨hx, hr⟩ := Bool.and_eq_true_iff.mp h;exact ⟨⟨_, rfl⟩, of_decide_eq_true hx, j4 r _ _ hr⟩
theorem j5 : ∀ (l : List (Int × Str)) (t : Nat) (b : Int), dK b l = true -> q7 b (bM t l)
 | [], _, _, _ => trivial
 | x :: r, t, b, h => by
   obtain ⟨hx, hr⟩ := Bool.and_eq_true_iff.mp h;exact ⟨⟨_, rfl⟩, of_decide_eq_true hx, j5 r _ _ hr⟩
noncomputable def dz : Int -> List (Int × Str) -> Int
 | b, [] => b
 | _, x :: r => dz x.1 r
theorem cz : ∀ (l : List (Int × Str)) (b : Int), dK b l = true -> b <= dz b l
 | [], b, _ => Int.le_refl b
 | x :: r, b, h => by
   obtain ⟨hx, hr⟩ := Bool.and_eq_true_iff.mp h;have := of_decide_eq_true hx;have := cz r x.1 hr;show b <= dz x.1 r;lia
theorem cV : ∀ (l : List (Int × Str)) (t : Nat) (b : Int), dK b l = true -> cD (dz b l) (aY t l)
 | [], _, _, _ => λ _ h => nomatch h
 | x :: r, t, b, h => by
   obtain ⟨hx, hr⟩ := Bool.and_eq_true_iff.mp h;intro e he;rcases List.mem_cons.mp he with rfl | he
   · exact cz r x.1 hr
   · exact cV r _ x.1 hr e he
theorem dW : ∀ (l m : List (Int × Str)) (b : Int), dK b (l ++ m) = true -> dK b l = true /\ dK (dz b l) m = true
 | [], _, _, h => ⟨rfl, h⟩
 | x :: r, m, b, h => by
   obtain ⟨hx, hr⟩ := Bool.and_eq_true_iff.mp h;obtain ⟨h1, h2⟩ := dW r m x.1 hr;exact ⟨Bool.and_eq_true_iff.mpr ⟨hx, h1⟩, h2⟩
theorem oJ {b : Int} {l : List (Int × Str)} (h0 : 0 <= b) (h : dK b l = true) : dK 0 l = true := by
 cases l with
 | nil => rfl
 | cons x r =>
   obtain ⟨hx, hr⟩ := Bool.and_eq_true_iff.mp h;have := of_decide_eq_true hx;exact Bool.and_eq_true_iff.mpr ⟨decide_eq_true (by lia), hr⟩
section
variable (gZ : Nat) (d : Addr)
noncomputable def chk (T : BT) (n : Nat) : Bool := ((T.ins n (dictOf [] 0)).get n).isSome && Nat.blt d n && !(n == sysModules) && Nat.ble gZ n
noncomputable def bG : List (Int × Str) -> List (Int × Str) -> BT -> Nat -> Nat -> List DictEntry -> Option (BT × Nat × Nat × List DictEntry × List (Int × Str))
 | [], run, T, n, t, es => some (T, n, t, es, run)
 | x :: r, run, T, n, t, es => match Nat.beq (run ++ [x]).length 17 with
   | true => (match chk gZ d T n with
     | true => bG r [] ((T.ins n (dictOf (aY t (run ++ [x])) 17)).set d (λ _ => dictOf (es ++ aY t (run ++ [x])) (es.length + 17))) (n + 1) (t + 51) (es ++ aY t (run ++ [x]))
     | false => none)
   | false => bG r (run ++ [x]) T n t es
noncomputable def bZ : List (Int × Str) -> Nat -> Nat
 | [], _ => 0
 | _ :: r, k => match Nat.beq (k + 1) 17 with
   | true => 330 + bZ r 0
   | false => bZ r (k + 1)
end
noncomputable abbrev fM (env : Env) (pos : Pos) (x : Int × Str) : Option (Sem Value) × Sem Value := (some (ae9 env x.1), afa env pos x.2)
section
variable {p : Program} {w : World} {gZ : Nat} {ann : Option Value} {co : Code} {bs : List (Code × Pos)} {T : BT} {n : Nat} {life : Life} {gens : Array GenState} {drawn : Drawn} {toks : Nat} {os : OsState} {q : Pos} {d a : Addr} {es : List DictEntry} {ep : Nat}
theorem gP {T : BT} {n : Nat} (h : chk gZ d T n = true) : (∀ o, ((T.ins n o).get n).isSome = true) /\ Nat.blt d n = true /\ (n == sysModules) = false /\ Nat.ble gZ n = true := by
 unfold chk at h;simp only [Bool.and_eq_true, Bool.not_eq_true'] at h;obtain ⟨⟨⟨h1, h2⟩, h3⟩, h4⟩ := h;exact ⟨λ o => jb h1, h2, h3, h4⟩
theorem dX {a b : Nat} : Nat.blt a b = true ↔ a < b := ⟨λ h => Nat.le_of_ble_eq_true h, λ h => Nat.ble_eq_true_of_le h⟩
theorem zX {env : Env} {pos : Pos} {l : List (Int × Str)} {b : Int} (hc : chk gZ d T n = true) (hud : eO gZ ann d = true) (hl : l.length = 17) (hb : cD b es) (h0 : 0 <= b) (hk : dK b l = true) (hk2 : ∀ x ∈ l, x.1 < 2 ^ 60) (hne : es ≠ [])
   (ho : T.get d = some (dictOf es es.length)) (hz : es.length + 17 < 10000) (f : Value -> Sem Unit) (vs vs' : List Value) :
   aq treeTable p w gZ ann co bs 330 (do
       let sub <- PySem.holding vs (subDict (l.map (bH env pos)))
       (PySem.holding (vs' ++ [.ref sub]) (mergeMapping d (.ref sub) false)).onRaise f
       pure (some d)) ⟨T, n, life, gens, drawn, toks, os⟩ q (.ok (some d))
     ⟨(T.ins n (dictOf (aY toks l) 17)).set d (λ _ => dictOf (es ++ aY toks l) (es.length + 17)), n + 1, life, gens, drawn, toks + 51, os⟩ pos := by
 tm_at "X";obtain ⟨hr, hdn, hs, hu⟩ := gP hc;tm_at "V";have hdn' := dX.mp hdn;refine aq.cast (m := (2 + 13 * l.length) + ((5 + 6 * (aY toks l).length) + 0)) ?_ (by rw [aP, hl]);have e51 : toks + 51 = toks + 3 * l.length := by rw [hl]
 refine aq.bind (aq.holding _ (lK hr hu (by lia) (by lia) (oJ h0 hk) hk2)) ?_;have h1 : (T.ins n (dictOf (aY toks l) l.length)).get d = some (dictOf es es.length) := by
   rw [BT.get_ins _ _ _ (hr _), if_neg (by lia)]; exact ho
 have h2 : (T.ins n (dictOf (aY toks l) l.length)).get n = some (dictOf (aY toks l) l.length) := by
   rw [BT.get_ins _ _ _ (hr _), if_pos rfl]
 have hne' : aY toks l ≠ [] := λ e => by
   have := congrArg List.length e;rw [aP, hl] at this;cases this
 refine aq.bind (aq.onRaise _ (aq.holding _ (rm (b := b) (d := d) (a := n) hud (dX.mpr (Nat.lt_succ_of_lt hdn')) (dX.mpr (Nat.lt_succ_self n)) (Nat.ne_of_gt hdn') hs hne hne' h1 h2 hb (j4 l _ _ hk) (by rw [aP, hl]; exact hz)))) ?_;rw [aP, hl];exact aq.pure
theorem jF {env : Env} {pos : Pos} {B : Option (Sem Value) × Sem Value -> Option Addr × List (Sem Value × Sem Value) -> Sem (ForInStep (Option Addr × List (Sem Value × Sem Value)))} (hud : eO gZ ann d = true)
   (small : ∀ (x : Int × Str) (run : List (Int × Str)) (s : SharedT), (run ++ [x]).length ≠ 17 -> aq treeTable p w gZ ann co bs 0 (B (fM env pos x) (some d, run.map (bH env pos))) s pos (.ok (ForInStep.yield (some d, (run ++ [x]).map (bH env pos)))) s pos)
   (full : ∀ (x : Int × Str) (run : List (Int × Str)) (s s' : SharedT), (run ++ [x]).length = 17 -> (∀ (f : Value -> Sem Unit) (vs vs' : List Value), aq treeTable p w gZ ann co bs 330 (do
       let sub <- PySem.holding vs (subDict ((run ++ [x]).map (bH env pos)))
       (PySem.holding (vs' ++ [.ref sub]) (mergeMapping d (.ref sub) false)).onRaise f
       pure (some d)) s pos (.ok (some d)) s' pos) -> aq treeTable p w gZ ann co bs 330 (B (fM env pos x) (some d, run.map (bH env pos))) s pos (.ok (ForInStep.yield (some d, []))) s' pos) :
   ∀ (l run : List (Int × Str)) (T : BT) (n toks : Nat) (es : List DictEntry) (b : Int) (T' : BT) (n' toks' : Nat) (es' : List DictEntry) (run' : List (Int × Str)),
   bG gZ d l run T n toks es = some (T', n', toks', es', run') -> T.get d = some (dictOf es es.length) -> cD b es -> 0 <= b -> es ≠ [] -> dK b (run ++ l) = true -> (∀ x ∈ run ++ l, x.1 < 2 ^ 60) -> es.length + run.length + l.length < 9000 ->
   aq treeTable p w gZ ann co bs (bZ l run.length) (forIn (l.map (fM env pos)) (some d, run.map (bH env pos)) B) ⟨T, n, life, gens, drawn, toks, os⟩ pos (.ok (some d, run'.map (bH env pos))) ⟨T', n', life, gens, drawn, toks', os⟩ pos /\
     T'.get d = some (dictOf es' es'.length) /\ (∃ b', cD b' es' /\ 0 <= b' /\ dK b' run' = true) /\ es' ≠ [] /\ (∀ x ∈ run', x.1 < 2 ^ 60) /\ es'.length + run'.length < 9000
 | [], run, T, n, toks, es, b, T', n', toks', es', run', h, ho, hb, h0, hne, hr, hk, hz => by
   simp only [bG, Option.some.injEq, Prod.mk.injEq] at h;refine Classical.byContradiction λ hG9 => ?_
   obtain ⟨rfl, rfl, rfl, rfl, rfl⟩ := h;tm_at "V";rw [List.append_nil] at hr hk;exact ⟨aq.pure, ho, ⟨b, hb, h0, hr⟩, hne, hk, by rw [List.length_nil] at hz; lia⟩
 | x :: r, run, T, n, toks, es, b, T', n', toks', es', run', h, ho, hb, h0, hne, hr, hk, hz => by
   unfold bG at h;unfold bZ;have e : run ++ x :: r = (run ++ [x]) ++ r := by rw [List.append_assoc]; rfl
   rw [e] at hr hk;have el : (run ++ [x]).length = run.length + 1 := by rw [List.length_append]; rfl
   rw [el] at h;rw [List.map_cons, List.forIn_cons];cases q17 : Nat.beq (run.length + 1) 17 with
   | false =>
     rw [q17] at h;dsimp only at h ⊢;have ne17 : (run ++ [x]).length ≠ 17 := by rw [el]; exact Nat.ne_of_beq_eq_false q17
     obtain ⟨h1, h2⟩ := jF hud small full r (run ++ [x]) T n toks es b T' n' toks' es' run' h ho hb h0 hne hr hk (by rw [el]; rw [List.length_cons] at hz; lia);rw [el] at h1;exact ⟨aq.cast (aq.bind (small x run _ ne17) h1) (Nat.zero_add _), h2⟩
   | true =>
     rw [q17] at h;dsimp only at h ⊢;have e17 : (run ++ [x]).length = 17 := by rw [el]; exact Nat.eq_of_beq_eq_true q17
     cases hc : chk gZ d T n with
     | false => rw [hc] at h; cases h
     | true =>
       rw [hc] at h;dsimp only at h;refine Classical.byContradiction λ hG9 => ?_
       obtain ⟨hr1, hr2⟩ := dW _ _ _ hr;tm_at "V";have hk1 : ∀ y ∈ run ++ [x], y.1 < 2 ^ 60 := λ y hy => hk y (List.mem_append.mpr (.inl hy))
       have hk2 : ∀ y ∈ [] ++ r, y.1 < 2 ^ 60 := λ y hy => hk y (List.mem_append.mpr (.inr hy))
       have hlen : (es ++ aY toks (run ++ [x])).length = es.length + 17 := by rw [List.length_append, aP, e17]
       have step := λ (f : Value -> Sem Unit) (vs vs' : List Value) => zX (p := p) (w := w) (co := co) (bs := bs) (life := life) (gens := gens) (drawn := drawn) (toks := toks) (os := os) (q := pos) (env := env) (pos := pos) (l := run ++ [x]) hc hud e17 hb h0 hr1 hk1 hne ho (by rw [List.length_cons] at hz; lia) f vs vs'
       refine Classical.byContradiction λ hG9 => ?_
       obtain ⟨hrr, hdn, _, _⟩ := gP hc;tm_at "V";have hdn' := dX.mp hdn;obtain ⟨h1, h2⟩ := jF hud small full r [] _ _ _ _ (dz b (run ++ [x])) T' n' toks' es' run' h (by
           rw [hlen];refine fu (o := dictOf es es.length) ?_;rw [BT.get_ins _ _ _ (hrr _), if_neg (Nat.ne_of_lt hdn')]; exact ho) (by
           intro z hz;rcases List.mem_append.mp hz with hz | hz
           · have := hb z hz
             have := cz _ _ hr1;lia
           · exact cV _ _ _ hr1 z hz) (by have := cz _ _ hr1; lia) (by simp [hne]) hr2 hk2 (by rw [hlen]; rw [List.length_cons] at hz; rw [List.length_nil]; lia)
       refine ⟨?_, h2⟩;exact aq.bind (full x run _ _ e17 step) h1
theorem rn {env : Env} {pos : Pos} {B : Option (Sem Value) × Sem Value -> Option Addr × List (Sem Value × Sem Value) -> Sem (ForInStep (Option Addr × List (Sem Value × Sem Value)))} {s s' s'' : SharedT} {q'' : Pos} {m : Nat} {l1 : List (Int × Str)} {res : Except Value (Option Addr × List (Sem Value × Sem Value))}
   (small : ∀ (x : Int × Str) (run : List (Int × Str)), (run ++ [x]).length ≠ 17 -> aq treeTable p w gZ ann co bs 0 (B (fM env pos x) (none, run.map (bH env pos))) s q (.ok (ForInStep.yield (none, (run ++ [x]).map (bH env pos)))) s q)
   (rest : aq treeTable p w gZ ann co bs m (forIn (l1.map (fM env pos)) (some d, []) B) s' pos res s'' q'') :
   ∀ (l0 run : List (Int × Str)), run.length + l0.length = 17 -> l0 ≠ [] -> (∀ (x : Int × Str) (run' : List (Int × Str)), run' ++ [x] = run ++ l0 -> aq treeTable p w gZ ann co bs 223 (B (fM env pos x) (none, run'.map (bH env pos))) s q (.ok (ForInStep.yield (some d, []))) s' pos) ->
   aq treeTable p w gZ ann co bs (223 + m) (forIn ((l0 ++ l1).map (fM env pos)) (none, run.map (bH env pos)) B) s q res s'' q''
 | [], _, _, h, _ => absurd rfl h
 | [x], run, hl, _, full => by
   rw [List.singleton_append, List.map_cons, List.forIn_cons];exact aq.bind (full x run rfl) rest
 | x :: y :: r, run, hl, _, full => by
   rw [List.cons_append, List.map_cons, List.forIn_cons];have el : (run ++ [x]).length = run.length + 1 := by rw [List.length_append]; rfl
   refine aq.cast (aq.bind (small x run (by rw [el]; simp only [List.length_cons] at hl; lia)) (rn small rest (y :: r) (run ++ [x]) (by rw [el]; simp only [List.length_cons] at hl ⊢; lia) (by simp) λ z run' e => ?_)) (Nat.zero_add _);exact full z run' (by rw [e, List.append_assoc]; rfl)
theorem fY : ∀ (l run : List (Int × Str)) (T : BT) (n toks : Nat) (es : List DictEntry) (b : Int) (T' : BT) (n' toks' : Nat) (es' : List DictEntry) (run' : List (Int × Str)),
   bG gZ d l run T n toks es = some (T', n', toks', es', run') -> T.get d = some (dictOf es es.length) -> cD b es -> 0 <= b -> es ≠ [] -> dK b (run ++ l) = true -> (∀ x ∈ run ++ l, x.1 < 2 ^ 60) -> es.length + run.length + l.length < 9000 ->
     T'.get d = some (dictOf es' es'.length) /\ (∃ b', cD b' es' /\ 0 <= b' /\ dK b' run' = true) /\ es' ≠ [] /\ (∀ x ∈ run', x.1 < 2 ^ 60) /\ es'.length + run'.length < 9000
 | [], run, T, n, toks, es, b, T', n', toks', es', run', h, ho, hb, h0, hne, hr, hk, hz => by
   simp only [bG, Option.some.injEq, Prod.mk.injEq] at h;refine Classical.byContradiction λ hG9 => ?_
   obtain ⟨rfl, rfl, rfl, rfl, rfl⟩ := h;tm_at "V";rw [List.append_nil] at hr hk;exact ⟨ho, ⟨b, hb, h0, hr⟩, hne, hk, by rw [List.length_nil] at hz; lia⟩
 | x :: r, run, T, n, toks, es, b, T', n', toks', es', run', h, ho, hb, h0, hne, hr, hk, hz => by
   unfold bG at h;have e : run ++ x :: r = (run ++ [x]) ++ r := by rw [List.append_assoc]; rfl
   rw [e] at hr hk;have el : (run ++ [x]).length = run.length + 1 := by rw [List.length_append]; rfl
   rw [el] at h;cases q17 : Nat.beq (run.length + 1) 17 with
   | false =>
     rw [q17] at h;exact fY r (run ++ [x]) T n toks es b T' n' toks' es' run' h ho hb h0 hne hr hk (by rw [el]; rw [List.length_cons] at hz; lia)
   | true =>
     rw [q17] at h;dsimp only at h;have e17 : (run ++ [x]).length = 17 := by rw [el]; exact Nat.eq_of_beq_eq_true q17
     cases hc : chk gZ d T n with
     | false => rw [hc] at h; cases h
     | true =>
       rw [hc] at h;dsimp only at h;refine Classical.byContradiction λ hG9 => ?_
       obtain ⟨hr1, hr2⟩ := dW _ _ _ hr;tm_at "V";have hk2 : ∀ y ∈ [] ++ r, y.1 < 2 ^ 60 := λ y hy => hk y (List.mem_append.mpr (.inr hy))
       have hlen : (es ++ aY toks (run ++ [x])).length = es.length + 17 := by rw [List.length_append, aP, e17]
       refine Classical.byContradiction λ hG9 => ?_
       obtain ⟨hrr, hdn, _, _⟩ := gP hc;tm_at "V";have hdn' := dX.mp hdn;exact fY r [] _ _ _ _ (dz b (run ++ [x])) T' n' toks' es' run' h (by
           rw [hlen];refine fu (o := dictOf es es.length) ?_;rw [BT.get_ins _ _ _ (hrr _), if_neg (Nat.ne_of_lt hdn')]; exact ho) (by
           intro z hz;rcases List.mem_append.mp hz with hz | hz
           · have := hb z hz
             have := cz _ _ hr1;lia
           · exact cV _ _ _ hr1 z hz) (by have := cz _ _ hr1; lia) (by simp [hne]) hr2 hk2 (by rw [hlen]; rw [List.length_cons] at hz; rw [List.length_nil]; lia)
theorem uE {env : Env} {pos : Pos} {l0 l1 run : List (Int × Str)} {T2 : BT} {n2 t2 : Nat} {es2 : List DictEntry} (hl0 : l0.length = 17) (hr0 : ((T.ins n (dictOf [] 0)).get n).isSome = true) (hu : Nat.ble gZ n = true) (hrun : bG gZ n l1 [] (T.ins n (dictOf (aY toks l0) 17)) (n + 1) (toks + 51) (aY toks l0) = some (T2, n2, t2, es2, run)) (hne : run ≠ []) (hshort : run.length <= 15) (hc : chk gZ n T2 n2 = true) (hk : dK 0 (l0 ++ l1) = true) (hk2 : ∀ x ∈ l0 ++ l1, x.1 < 2 ^ 60) (hz : l0.length + l1.length < 8000) : aq treeTable p w gZ ann co bs (223 + bZ l1 0 + (6 + 19 * run.length)) (dictDisplay ((l0 ++ l1).map (fM env pos))) ⟨T, n, life, gens, drawn, toks, os⟩ q (.ok (.ref n)) ⟨(T2.ins n2 (dictOf (bM t2 run) run.length)).set n (λ _ => dictOf (es2 ++ bM t2 run) (es2.length + run.length)), n2 + 1, life, gens, drawn, t2 + 3 * run.length, os⟩ pos := by
 have hr : ∀ o, ((T.ins n o).get n).isSome = true := λ o => jb hr0
 have hud : eO gZ ann n = true := by unfold eO; rw [hu]; rfl
 tm_at "X";obtain ⟨hk0, hk1⟩ := dW _ _ _ hk;tm_at "V";have hne0 : aY toks l0 ≠ [] := λ e => by
   have := congrArg List.length e;rw [aP, hl0] at this;cases this
 unfold dictDisplay;dsimp only;refine aq.cast (m := (223 + bZ l1 0) + ((6 + 19 * run.length) + 0)) ?_ (by lia);have cks := λ (B : Option (Sem Value) × Sem Value -> Option Addr × List (Sem Value × Sem Value) -> Sem (ForInStep (Option Addr × List (Sem Value × Sem Value)))) => λ small full => jF (p := p) (w := w) (gZ := gZ) (ann := ann) (co := co) (bs := bs) (life := life) (gens := gens) (drawn := drawn) (os := os) (env := env) (pos := pos) (B := B) (d := n) hud small full l1 [] _ _ _ _ (dz 0 l0) T2 n2 t2 es2 run hrun
   (by rw [BT.get_ins _ _ _ (hr _), if_pos rfl, aP, hl0]) (cV _ _ _ hk0) (cz _ _ hk0) hne0 hk1 (λ x hx => hk2 x (List.mem_append.mpr (.inr hx))) (by rw [aP]; rw [List.length_nil]; lia)
 obtain ⟨h1, ⟨b', h2, h3, h4⟩, h5, h6, h7⟩ := fY l1 [] _ _ _ _ (dz 0 l0) T2 n2 t2 es2 run hrun (by rw [BT.get_ins _ _ _ (hr _), if_pos rfl, aP, hl0]) (cV _ _ _ hk0) (cz _ _ hk0) hne0 hk1 (λ x hx => hk2 x (List.mem_append.mpr (.inr hx))) (by rw [aP]; rw [List.length_nil]; lia);have gos := λ B small full => (cks B small full).1
 refine aq.bind (rn (d := n) (s := ⟨T, n, life, gens, drawn, toks, os⟩) (s' := ⟨T.ins n (dictOf (aY toks l0) 17), n + 1, life, gens, drawn, toks + 51, os⟩) ?_ (gos _ ?_ ?_) l0 [] (by rw [List.length_nil]; lia) (by rintro rfl; cases hl0) ?_) ?_
 · intro x run ne17
   tm_at "bq";dsimp only;rw [e, if_neg (by rw [List.length_map, beq_iff_eq]; exact ne17)];exact aq.pure
 · intro x run s ne17
   tm_at "bq";dsimp only;rw [e, if_neg (by rw [List.length_map, beq_iff_eq]; exact ne17)];exact aq.pure
 · intro x run s s' e17 h
   tm_at "bq";dsimp only;rw [e, if_pos (by rw [List.length_map, beq_iff_eq]; exact e17)];have ne : ((run ++ [x]).map (bH env pos)).isEmpty = false := by
     cases run <;> rfl
   refine aq.bind (n := 330) (m := 0) ?_ aq.pure;tm_at "bN";exact h _ _ [.ref n]
 · intro x run' e
   have e2 : run'.map (bH env pos) ++ [bH env pos x] = l0.map (bH env pos) := by rw [<- List.nil_append l0, <- e, List.map_append]; rfl
   dsimp only;rw [e2, if_pos (by rw [List.length_map, hl0]; rfl)];have ne : (l0.map (bH env pos)).isEmpty = false := by
     cases l0 with
     | nil => cases hl0
     | cons => rfl
   refine aq.bind (n := 223) (m := 0) (a := some n) ?_ aq.pure;tm_at "bN";have := lK (p := p) (w := w) (gZ := gZ) (ann := ann) (co := co) (bs := bs) (life := life) (gens := gens) (drawn := drawn) (toks := toks) (os := os) (q := q) (env := env) (pos := pos) (l := l0) hr hu (by lia) (by lia) hk0 (λ x hx => hk2 x (List.mem_append.mpr (.inl hx)));rw [hl0] at this;exact aq.bind (n := 223) (m := 0) this aq.pure
 · dsimp only
   have ne : (run.map (bH env pos)).isEmpty = false := by
     cases run with
     | nil => exact absurd rfl hne
     | cons => rfl
   tm_at "bN";tm_at "X";obtain ⟨hrr, hdn, hs, hu2⟩ := gP hc;tm_at "V";have hdn' := dX.mp hdn;have g1 : (T2.ins n2 (dictOf (bM t2 run) run.length)).get n = some (dictOf es2 es2.length) := by
     rw [BT.get_ins _ _ _ (hrr _), if_neg (Nat.ne_of_lt hdn')]; exact h1
   have g2 : (T2.ins n2 (dictOf (bM t2 run) run.length)).get n2 = some (dictOf (bM t2 run) run.length) := by
     rw [BT.get_ins _ _ _ (hrr _), if_pos rfl]
   have hne' : bM t2 run ≠ [] := λ e => by
     have := congrArg List.length e;rw [cF] at this;exact hne (List.eq_nil_of_length_eq_zero this)
   refine aq.bind (n := 6 + 19 * run.length) (m := 0) (a := some n) ?_ aq.pure;refine aq.cast (m := (1 + 13 * run.length) + ((5 + 6 * (bM t2 run).length) + 0)) ?_ (by rw [cF]; lia);refine aq.bind (aq.holding _ (qZ hrr hu2 hne hshort (oJ h3 h4) h6)) ?_;refine aq.bind (aq.onRaise _ (aq.holding _ (rm (b := b') (d := n) (a := n2) hud (dX.mpr (Nat.lt_succ_of_lt hdn')) (dX.mpr (Nat.lt_succ_self n2)) (Nat.ne_of_gt hdn') hs h5 hne' g1 g2 h2 (j5 run _ _ h4) (by rw [cF]; lia)))) ?_;rw [cF];exact aq.pure
end
noncomputable abbrev tGo := @Fast.tw10295753902157049106
noncomputable abbrev ru := @Fast.tw10110043849684766642
noncomputable abbrev lq := @Fast.tw14364793385576792824
noncomputable abbrev afb := @Fast.tw11892475500146522536
noncomputable abbrev p6 := @Fast.tw12563942051412417395
theorem eGo : @segGoT = tGo := Fast.te10295753902157049106
theorem aby : @segRunT = ru := Fast.te10110043849684766642
theorem xQ : @treeTable = lq := Fast.te14364793385576792824
theorem agw : @denote = afb := Fast.te11892475500146522536
theorem zY : @execs = p6 := Fast.te12563942051412417395
noncomputable abbrev uF : Code -> Sem PySem.Fin := afb lq
theorem eD : denote treeTable = uF := by rw [agw, xQ]
noncomputable abbrev pw : Program := PySem.Challenge.pw_rw0126_02
noncomputable abbrev S (x : String) : Str := ofString x
noncomputable def st (i : Nat) : Stmt := pw.main.body.getD i (.Pass default)
noncomputable def stG : Stmt -> Arguments × List Stmt × Scope × Pos × List Expr × Expr
 | .FunctionDef _ a b _ _ _ s _ _ p => (a, b, s, p, [], default)
 | .ClassDef _ _ _ b _ _ s _ _ _ p => (default, b, s, p, [], default)
 | .Assign t v p => (default, [], default, p, t, v)
 | .For t v b _ p => (default, b, default, p, [t], v)
 | _ => (default, [], default, default, [], default)
noncomputable def j6 (x : Stmt) : Arguments := (stG x).1
noncomputable def cg (x : Stmt) : List Stmt := (stG x).2.1
noncomputable def aQ (x : Stmt) : Scope := (stG x).2.2.1
noncomputable abbrev afc (x : Stmt) : List Stmt := (stG x).2.1
noncomputable def exG : Expr -> Int × Str × List (Option Expr) × List Expr × Pos
 | .Constant (.int k) _ p => (k, default, [], [], p)
 | .Constant (.str s) _ p => (0, s, [], [], p)
 | .Dict ks vs p => (0, default, ks, vs, p)
 | _ => (0, default, [], [], default)
noncomputable def eU (i j : Nat) : Stmt := (afc (st i)).getD j (.Pass default)
noncomputable abbrev ks3 : List (Option Expr) := (exG (stG (st 9)).2.2.2.2.2).2.2.1
noncomputable abbrev vs3 : List Expr := (exG (stG (st 9)).2.2.2.2.2).2.2.2.1
noncomputable def b3 : List (Int × Str) := (ks3.map λ k => (exG (k.getD default)).1).zip (vs3.map λ v => (exG v).2.1)
noncomputable abbrev PO := Params -> Obj
noncomputable abbrev PT := Params -> BT
noncomputable def ni : PT := λ _ => .nil
noncomputable def nd (o : PO) (a b : PT) : PT := λ P => .node (o P) (a P) (b P)
noncomputable def lf (o : PO) : PT := λ P => .node (o P) .nil .nil
noncomputable def xR : List PO -> Nat -> BT -> Params -> BT
 | [], _, t, _ => t
 | o :: r, i, t, P => xR r (i + 1) (t.ins i (o P)) P
noncomputable def up (t : PT) (m c : PO) (os : List PO) (n : Nat) : PT := λ P => xR os n (((t P).ins 3 (m P)).ins 12 (c P)) P
noncomputable def bF  : PO := λ _ => ⟨(.type "tuple"), none, (.seq [].toArray 0), [].toArray⟩
noncomputable def bI (a : Nat) (b : Nat) : PO := λ _ => dictOf (aY a ((b3.drop b).take 17)) 17
noncomputable def bV  : PO := λ _ => ⟨.none, none, (.fields [].toArray), [].toArray⟩
noncomputable def iT (a : String) (b : Nat) (c : String) (d : Nat) (e : Nat) (f : Int) (g : Int) (h : Nat) (i : Nat) (j : Nat) (k : Nat) (l : Nat) (m : Int) (n : Nat) : PO := λ _ => ⟨(.type "code"), none, (.fields [(.str (S a) b), (.str (S c) d), (.str (S "/claim/cut.py") e), (.int f 0), (.int g 0), (.int 0 0), (.int 0 0), (.int 3 0), (.ref h), (.bool true), (.int 181 0), (.ref i), .none, (.ref j), (.ref k), (.ref l), (.int m 0), (.int f 0), (.str (S "/claim/cut.py") n)].toArray), [].toArray⟩
noncomputable def cY (a : String) (b : String) (c : Nat) (d : Nat) : PO := λ _ => ⟨.none, none, (.func { name := (S a), qualname := (S b), params := j6 (eU c d), body := .stmts (cg (eU c d)), scope := aQ (eU c d), globals := 0, closure := [], defaults := .none, kwdefaults := .none, doc := .none, pyModule := .none, annotations := none, code := .none, closureTuple := .none, builtins := 0 }), [].toArray⟩
noncomputable def oK (a : String) (b : String) (c : Nat) (d : Nat) (e : String) (f : Nat) (g : Nat) : PO := λ _ => ⟨(.type "function"), none, (.func { name := (S a), qualname := (S b), params := j6 (eU c d), body := .stmts (cg (eU c d)), scope := aQ (eU c d), globals := 3, closure := [], defaults := .none, kwdefaults := .none, doc := .none, pyModule := (.str (S e) f), annotations := none, code := (.ref g), closureTuple := .none, builtins := 0 }), [].toArray⟩
noncomputable def wJ (a : String) (b : Nat) : PO := λ _ => ⟨(.type "tuple"), none, (.seq [(.str (S a) b)].toArray 0), [].toArray⟩
noncomputable def xT (a : String) (b : Nat) : PO := λ _ => ⟨.none, none, (.func { name := (S a), qualname := (S a), params := j6 (st b), body := .stmts (cg (st b)), scope := aQ (st b), globals := 0, closure := [], defaults := .none, kwdefaults := .none, doc := .none, pyModule := .none, annotations := none, code := .none, closureTuple := .none, builtins := 0 }), [].toArray⟩
noncomputable def ob8 (a : String) (b : Nat) (c : String) (d : Nat) (e : Nat) : PO := λ _ => ⟨(.type "function"), none, (.func { name := (S a), qualname := (S a), params := j6 (st b), body := .stmts (cg (st b)), scope := aQ (st b), globals := 3, closure := [], defaults := .none, kwdefaults := .none, doc := .none, pyModule := (.str (S c) d), annotations := none, code := (.ref e), closureTuple := .none, builtins := 0 }), [].toArray⟩
noncomputable def ob9 (a : String) (b : Nat) (c : String) (d : Nat) : PO := λ _ => ⟨(.type "tuple"), none, (.seq [(.str (S a) b), (.str (S c) d)].toArray 0), [].toArray⟩
noncomputable def zZ (a : String) (b : Nat) (c : Nat) (d : Nat) (e : Int) (f : Int) (g : Nat) (h : Nat) (i : Nat) (j : Int) (k : Nat) : PO := λ _ => ⟨(.type "code"), none, (.fields [(.str (S a) b), (.str (S a) c), (.str (S "/claim/cut.py") d), (.int e 0), (.int f 0), (.int 0 0), (.int 0 0), (.int 3 0), (.ref g), (.bool true), (.int 181 0), (.ref h), .none, .none, .none, (.ref i), (.int j 0), (.int e 0), (.str (S "/claim/cut.py") k)].toArray), [].toArray⟩
noncomputable def p7 (a : String) (b : Nat) (c : Nat) (d : Nat) (e : Int) (f : Nat) (g : Nat) (h : Int) (i : Nat) : PO := λ _ => ⟨(.type "code"), none, (.fields [(.str (S a) b), (.str (S a) c), (.str (S "/claim/cut.py") d), (.int e 0), (.int 0 0), (.int 0 0), (.int 0 0), (.int 0 0), (.ref f), (.bool false), (.int 181 0), (.ref g), .none, .none, .none, .none, (.int h 0), (.int e 0), (.str (S "/claim/cut.py") i)].toArray), [].toArray⟩
noncomputable def p8 (a : Nat) (b : Nat) (c : String) (d : Nat) : PO := λ _ => ⟨(.type "frame"), none, .plain, [(some (.ref a)), (some (.ref 3)), (some (.ref b)), none, (some (.str (S c) d)), none, (some (.ref 0))].toArray⟩
noncomputable def abz (a : String) (b : Nat) (c : String) (d : Nat) (e : String) (f : Nat) (g : String) (h : Nat) (i : String) (j : Nat) : PO := λ _ => ⟨(.type "tuple"), none, (.seq [(.str (S a) b), (.str (S c) d), (.str (S e) f), (.str (S g) h), (.str (S i) j)].toArray 0), [].toArray⟩
noncomputable def abA (a : String) (b : Nat) (c : String) (d : Nat) (e : String) (f : Nat) (g : String) (h : Nat) : PO := λ _ => ⟨(.type "tuple"), none, (.seq [(.str (S a) b), (.str (S c) d), (.str (S e) f), (.str (S g) h)].toArray 0), [].toArray⟩
noncomputable def xU  : PO := λ _ => ⟨(.type "builtin_function_or_method"), none, (.fields [(.builtin "type.__prepare__"), (.type "type")].toArray), [].toArray⟩
noncomputable def afd (a : Nat) (b : Nat) : PO := λ _ => ⟨(.type "getset_descriptor"), none, (.fields [(.str (S "__dict__") a), (.ref b), (.builtin "function.__dict__"), (.builtin "function.__dict__#set")].toArray), [].toArray⟩
noncomputable def afe (a : Nat) (b : Nat) : PO := λ _ => ⟨(.type "getset_descriptor"), none, (.fields [(.str (S "__weakref__") a), (.ref b), (.builtin "ExceptionGroup.__weakref__"), .none].toArray), [].toArray⟩
noncomputable def xV (a : Nat) : PO := λ _ => ⟨(.type "super"), none, (.fields [(.ref a), (.ref a), (.ref a)].toArray), [].toArray⟩
noncomputable def xW (a : Nat) : PO := λ _ => ⟨(.type "builtin_function_or_method"), none, (.fields [(.builtin "object.__init_subclass__"), (.ref a)].toArray), [].toArray⟩
noncomputable def afg  : PO := λ _ => ⟨(.type "tuple"), none, (.seq [(.ref 102)].toArray 0), [].toArray⟩
noncomputable def afh (a : Nat) (b : String) (c : Nat) (d : String) (e : Nat) : PO := λ _ => ⟨(.type "tuple"), none, (.seq [(.str (S "self") a), (.str (S b) c), (.str (S d) e)].toArray 0), [].toArray⟩
noncomputable def afi (a : Nat) : PO := λ _ => ⟨(.type "StopIteration"), none, (.fields [(.ref a), .none, .none, .none, (.bool false), .none].toArray), [].toArray⟩
noncomputable def z6 (a : Int) (b : Nat) (c : Int) (d : Nat) (e : Int) (f : Nat) (g : Int) (h : Nat) (i : Int) (j : Nat) (k : Int) (l : Nat) (m : Int) (n : Nat) (o : Int) (p : Nat) (q : Int) (r : Nat) : PO := λ _ => ⟨.none, none, (.fields [(.int a 0), (.int 4 0), (.ref b), (.int c 0), (.int 4 0), (.ref d), (.int e 0), (.int 4 0), (.ref f), (.int g 0), (.int 4 0), (.ref h), (.int i 0), (.int 4 0), (.ref j), (.int k 0), (.int 4 0), (.ref l), (.int m 0), (.int 4 0), (.ref n), (.int o 0), (.int 4 0), (.ref p), (.int q 0), (.int 4 0), (.ref r)].toArray), [].toArray⟩
noncomputable def agx (a : Nat) (b : Nat) (c : Int) (d : Nat) (e : Nat) (f : Nat) (g : String) (h : Nat) (i : Nat) (j : String) (k : Nat) (l : Nat) (m : String) (n : Nat) (o : Nat) (p : String) (q : Nat) (r : Nat) (s : String) (t : Nat) (u : Nat) (v : String) (w : Nat) (x : Nat) (y : String) (z : Nat) (z26 : Nat) (z27 : String) (z28 : Nat) (z29 : Nat) (z30 : Nat) (z31 : Nat) (z32 : Nat) (z33 : Nat) (z34 : Nat) (z35 : Nat) (z36 : Nat) (z37 : Nat) : PO := λ P => ⟨(.type "dict"), none, (.dict [⟨PyData.keyHash P (S "__module__"), .str (S "__module__") a, (.str (S "cpy313.email.header") 194)⟩, ⟨PyData.keyHash P (S "__firstlineno__"), .str (S "__firstlineno__") b, (.int c d)⟩, ⟨PyData.keyHash P (S "__init__"), .str (S "__init__") e, (.ref f)⟩, ⟨PyData.keyHash P (S g), .str (S g) h, (.ref i)⟩, ⟨PyData.keyHash P (S j), .str (S j) k, (.ref l)⟩, ⟨PyData.keyHash P (S m), .str (S m) n, (.ref o)⟩, ⟨PyData.keyHash P (S p), .str (S p) q, (.ref r)⟩, ⟨PyData.keyHash P (S s), .str (S s) t, (.ref u)⟩, ⟨PyData.keyHash P (S v), .str (S v) w, (.ref x)⟩, ⟨PyData.keyHash P (S y), .str (S y) z, (.ref z26)⟩, ⟨PyData.keyHash P (S z27), .str (S z27) z28, (.ref z29)⟩, ⟨PyData.keyHash P (S "__static_attributes__"), .str (S "__static_attributes__") z30, (.ref z31)⟩, ⟨PyData.keyHash P (S "__dict__"), .str (S "__dict__") z32, (.ref z33)⟩, ⟨PyData.keyHash P (S "__weakref__"), .str (S "__weakref__") z34, (.ref z35)⟩, ⟨PyData.keyHash P (S "__doc__"), .str (S "__doc__") z36, .none⟩].toArray z37), [].toArray⟩
noncomputable def agy (a : String) (b : Nat) (c : Nat) (d : Nat) (e : Nat) : PO := λ _ => ⟨(.type "type"), none, (.cls { name := (S a), bases := [(.type "object")], mro := [(.ref b), (.type "object")], ns := c, qualname := (S a), hasDict := true, slotNames := [], subclasses := [], abstract := false, collection := none, hasDel := false }), [none, none, (some (.str (S a) d)), (some (.str (S a) e)), (some (.builtin "object.__new__")), (some (.bool true))].toArray⟩
noncomputable def agz (a : Nat) : PO := λ _ => ⟨(.type "tuple"), none, (.seq [(.int 0 a)].toArray 0), [].toArray⟩
noncomputable def agA (a : String) (b : String) (c : Nat) (d : Nat) (e : Nat) : PO := λ _ => ⟨(.type "function"), none, (.func { name := (S a), qualname := (S b), params := j6 (eU 5 c), body := .stmts (cg (eU 5 c)), scope := aQ (eU 5 c), globals := 3, closure := [], defaults := (.ref d), kwdefaults := .none, doc := .none, pyModule := (.str (S "cpy313.email.header") 194), annotations := none, code := (.ref e), closureTuple := .none, builtins := 0 }), [].toArray⟩
noncomputable def agB (a : String) (b : String) (c : Nat) (d : Nat) (e : Nat) : PO := λ _ => ⟨(.type "function"), none, (.func { name := (S a), qualname := (S b), params := j6 (eU 5 c), body := .stmts (cg (eU 5 c)), scope := aQ (eU 5 c), globals := 3, closure := [((S "__class__"), 102)], defaults := .none, kwdefaults := .none, doc := .none, pyModule := (.str (S "cpy313.email.header") 194), annotations := none, code := (.ref d), closureTuple := (.ref e), builtins := 0 }), [].toArray⟩
noncomputable def agC (a : String) (b : Int) : PO := λ _ => ⟨(.type a), none, (.fields [.none, (.int b 0)].toArray), [].toArray⟩
noncomputable def agD  : PO := λ _ => ⟨.none, none, (.fields [(.int 1 0), (.int 0 0), (.ref 20), (.int 7 0), (.int 0 0), (.ref 27), (.int 73 0), (.int 0 0), (.ref 105)].toArray), [].toArray⟩
noncomputable def agE  : PO := λ _ => ⟨.none, none, (.fields [(.int 1 0), (.int 0 0), (.ref 20), (.int 7 0), (.int 0 0), (.ref 27), (.int 73 0), (.int 0 0), (.ref 105), (.int 111 0), (.int 0 0), (.ref 199)].toArray), [].toArray⟩
noncomputable def abB : PO := bF
noncomputable def abC : PO := wJ "k" 190
noncomputable def abD : PO := bF
noncomputable def abE : PO := iT "_wall" 187 "_wall" 188 189 1 1 15 16 17 18 19 191 192
noncomputable def abF : PO := ob8 "_wall" 0 "__main__" 164 20
noncomputable def afj (P : Params) : Obj := ⟨(.type "dict"), none, (.dict [⟨PyData.keyHash P (S "__module__"), .str (S "__module__") 207, (.str (S "cpy313.email.header") 194)⟩, ⟨PyData.keyHash P (S "__qualname__"), .str (S "__qualname__") 209, (.str (S "_ValueFormatter") 208)⟩, ⟨PyData.keyHash P (S "__firstlineno__"), .str (S "__firstlineno__") 211, (.int 7 210)⟩, ⟨PyData.keyHash P (S "__init__"), .str (S "__init__") 222, (.ref 35)⟩, ⟨PyData.keyHash P (S "_str"), .str (S "_str") 230, (.ref 42)⟩, ⟨PyData.keyHash P (S "__str__"), .str (S "__str__") 237, (.ref 49)⟩, ⟨PyData.keyHash P (S "newline"), .str (S "newline") 245, (.ref 56)⟩, ⟨PyData.keyHash P (S "add_transition"), .str (S "add_transition") 252, (.ref 63)⟩, ⟨PyData.keyHash P (S "feed"), .str (S "feed") 262, (.ref 70)⟩, ⟨PyData.keyHash P (S "_maxlengths"), .str (S "_maxlengths") 269, (.ref 77)⟩, ⟨PyData.keyHash P (S "_ascii_split"), .str (S "_ascii_split") 279, (.ref 84)⟩, ⟨PyData.keyHash P (S "_append_chunk"), .str (S "_append_chunk") 293, (.ref 91)⟩, ⟨PyData.keyHash P (S "__static_attributes__"), .str (S "__static_attributes__") 300, (.ref 92)⟩].toArray 13), [].toArray⟩
noncomputable def abG : PO := bF
noncomputable def abH : PO := abz "self" 215 "headerlen" 216 "maxlen" 217 "continuation_ws" 218 "splitchars" 219
noncomputable def abI : PO := bF
noncomputable def abJ : PO := iT "__init__" 212 "_ValueFormatter.__init__" 213 214 9 5 29 30 31 32 33 220 221
noncomputable def abK : PO := oK "__init__" "_ValueFormatter.__init__" 4 0 "cpy313.email.header" 194 34
noncomputable def abL : PO := bF
noncomputable def abM : PO := ob9 "self" 226 "linesep" 227
noncomputable def abN : PO := bF
noncomputable def abO : PO := iT "_str" 223 "_ValueFormatter._str" 224 225 17 2 36 37 38 39 40 228 229
noncomputable def abP : PO := oK "_str" "_ValueFormatter._str" 4 1 "cpy313.email.header" 194 41
noncomputable def abQ : PO := bF
noncomputable def abR : PO := wJ "self" 234
noncomputable def abS : PO := bF
noncomputable def abT : PO := iT "__str__" 231 "_ValueFormatter.__str__" 232 233 21 1 43 44 45 46 47 235 236
noncomputable def abU : PO := oK "__str__" "_ValueFormatter.__str__" 4 2 "cpy313.email.header" 194 48
noncomputable def abV : PO := bF
noncomputable def abW : PO := ob9 "self" 241 "end_of_line" 242
noncomputable def abX : PO := bF
noncomputable def abY : PO := iT "newline" 238 "_ValueFormatter.newline" 239 240 24 1 50 51 52 53 54 243 244
noncomputable def abZ : PO := oK "newline" "_ValueFormatter.newline" 4 3 "cpy313.email.header" 194 55
noncomputable def ab0 : PO := bF
noncomputable def ab1 : PO := wJ "self" 249
noncomputable def ab2 : PO := bF
noncomputable def ab3 : PO := iT "add_transition" 246 "_ValueFormatter.add_transition" 247 248 35 1 57 58 59 60 61 250 251
noncomputable def ab4 : PO := oK "add_transition" "_ValueFormatter.add_transition" 4 4 "cpy313.email.header" 194 62
noncomputable def ab5 : PO := bF
noncomputable def ab6 : PO := abA "self" 256 "fws" 257 "string" 258 "charset" 259
noncomputable def ab7 : PO := bF
noncomputable def ab8 : PO := iT "feed" 253 "_ValueFormatter.feed" 254 255 38 4 64 65 66 67 68 260 261
noncomputable def ab9 : PO := oK "feed" "_ValueFormatter.feed" 4 5 "cpy313.email.header" 194 69
noncomputable def aca : PO := bF
noncomputable def acb : PO := wJ "self" 266
noncomputable def acd : PO := bF
noncomputable def ace : PO := iT "_maxlengths" 263 "_ValueFormatter._maxlengths" 264 265 41 1 71 72 73 74 75 267 268
noncomputable def acf : PO := oK "_maxlengths" "_ValueFormatter._maxlengths" 4 6 "cpy313.email.header" 194 76
noncomputable def acg : PO := bF
noncomputable def ach : PO := abA "self" 273 "fws" 274 "string" 275 "splitchars" 276
noncomputable def aci : PO := bF
noncomputable def acj : PO := iT "_ascii_split" 270 "_ValueFormatter._ascii_split" 271 272 44 4 78 79 80 81 82 277 278
noncomputable def ack : PO := oK "_ascii_split" "_ValueFormatter._ascii_split" 4 7 "cpy313.email.header" 194 83
noncomputable def acl : PO := bF
noncomputable def acn (_ : Params) : Obj := ⟨(.type "tuple"), none, (.seq [(.str (S "self") 283), (.str (S "fws") 284), (.str (S "string") 285), (.str (S "ch") 286), (.str (S "i") 287), (.str (S "prevpart") 288), (.str (S "part") 289), (.str (S "remainder") 290)].toArray 0), [].toArray⟩
noncomputable def aco : PO := bF
noncomputable def acp : PO := iT "_append_chunk" 280 "_ValueFormatter._append_chunk" 281 282 47 3 85 86 87 88 89 291 292
noncomputable def acq : PO := oK "_append_chunk" "_ValueFormatter._append_chunk" 4 8 "cpy313.email.header" 194 90
noncomputable def acr (_ : Params) : Obj := ⟨(.type "tuple"), none, (.seq [(.str (S "_continuation_ws") 294), (.str (S "_continuation_ws_len") 295), (.str (S "_current_line") 296), (.str (S "_lines") 297), (.str (S "_maxlen") 298), (.str (S "_splitchars") 299)].toArray 0), [].toArray⟩
noncomputable def acs : PO := agx 207 211 7 210 222 35 "_str" 230 42 "__str__" 237 49 "newline" 245 56 "add_transition" 252 63 "feed" 262 70 "_maxlengths" 269 77 "_ascii_split" 279 84 "_append_chunk" 293 91 300 92 302 95 304 96 305 4
noncomputable def acu : PO := agy "_ValueFormatter" 94 93 200 208
noncomputable def acv : PO := afd 301 94
noncomputable def acw : PO := afe 303 94
noncomputable def afk (_ : Params) : Obj := ⟨(.type "tuple"), none, (.seq [(.type "list")].toArray 0), [].toArray⟩
noncomputable def adN (P : Params) : Obj := ⟨(.type "dict"), none, (.dict [⟨PyData.keyHash P (S "__module__"), .str (S "__module__") 315, (.str (S "cpy313.email.header") 194)⟩, ⟨PyData.keyHash P (S "__qualname__"), .str (S "__qualname__") 317, (.str (S "_Accumulator") 316)⟩, ⟨PyData.keyHash P (S "__firstlineno__"), .str (S "__firstlineno__") 319, (.int 73 318)⟩, ⟨PyData.keyHash P (S "__init__"), .str (S "__init__") 329, (.ref 115)⟩, ⟨PyData.keyHash P (S "push"), .str (S "push") 338, (.ref 122)⟩, ⟨PyData.keyHash P (S "pop_from"), .str (S "pop_from") 348, (.ref 130)⟩, ⟨PyData.keyHash P (S "pop"), .str (S "pop") 356, (.ref 138)⟩, ⟨PyData.keyHash P (S "__len__"), .str (S "__len__") 363, (.ref 145)⟩, ⟨PyData.keyHash P (S "__str__"), .str (S "__str__") 370, (.ref 152)⟩, ⟨PyData.keyHash P (S "reset"), .str (S "reset") 378, (.ref 160)⟩, ⟨PyData.keyHash P (S "is_onlyws"), .str (S "is_onlyws") 385, (.ref 167)⟩, ⟨PyData.keyHash P (S "part_count"), .str (S "part_count") 393, (.ref 175)⟩, ⟨PyData.keyHash P (S "__static_attributes__"), .str (S "__static_attributes__") 395, (.ref 176)⟩, ⟨PyData.keyHash P (S "__classcell__"), .str (S "__classcell__") 396, (.ref 102)⟩].toArray 14), [].toArray⟩
noncomputable def z7 (_ : Params) : Obj := ⟨(.type "cell"), none, (.cell (some (.ref 178))), [].toArray⟩
noncomputable def z8 : PO := agz 320
noncomputable def z9 : PO := afg
noncomputable def Yu : PO := wJ "__class__" 324
noncomputable def Yv : PO := ob9 "self" 325 "initial_size" 326
noncomputable def Yw : PO := bF
noncomputable def Yx : PO := iT "__init__" 321 "_Accumulator.__init__" 322 323 75 2 109 110 111 112 113 327 328
noncomputable def Yy (_ : Params) : Obj := ⟨(.type "function"), none, (.func { name := (S "__init__"), qualname := (S "_Accumulator.__init__"), params := j6 (eU 5 0), body := .stmts (cg (eU 5 0)), scope := aQ (eU 5 0), globals := 3, closure := [((S "__class__"), 102)], defaults := (.ref 107), kwdefaults := .none, doc := .none, pyModule := (.str (S "cpy313.email.header") 194), annotations := none, code := (.ref 114), closureTuple := (.ref 108), builtins := 0 }), [].toArray⟩
noncomputable def Yz : PO := bF
noncomputable def YB : PO := afh 333 "fws" 334 "string" 335
noncomputable def YC : PO := bF
noncomputable def YD : PO := iT "push" 330 "_Accumulator.push" 331 332 79 3 116 117 118 119 120 336 337
noncomputable def YF : PO := oK "push" "_Accumulator.push" 5 1 "cpy313.email.header" 194 121
noncomputable def YG : PO := agz 339
noncomputable def YH : PO := bF
noncomputable def YJ : PO := afh 343 "i" 344 "popped" 345
noncomputable def YK : PO := bF
noncomputable def YL : PO := iT "pop_from" 340 "_Accumulator.pop_from" 341 342 82 2 124 125 126 127 128 346 347
noncomputable def YM : PO := agA "pop_from" "_Accumulator.pop_from" 2 123 129
noncomputable def YQ : PO := afg
noncomputable def YS : PO := wJ "__class__" 352
noncomputable def YT : PO := wJ "self" 353
noncomputable def YW : PO := bF
noncomputable def YX : PO := iT "pop" 349 "_Accumulator.pop" 350 351 87 1 132 133 134 135 136 354 355
noncomputable def YZ : PO := agB "pop" "_Accumulator.pop" 3 137 131
noncomputable def Za : PO := bF
noncomputable def Zb : PO := wJ "self" 360
noncomputable def Zc : PO := bF
noncomputable def Zd : PO := iT "__len__" 357 "_Accumulator.__len__" 358 359 92 1 139 140 141 142 143 361 362
noncomputable def Ze : PO := oK "__len__" "_Accumulator.__len__" 5 4 "cpy313.email.header" 194 144
noncomputable def Zf : PO := bF
noncomputable def Zg : PO := wJ "self" 367
noncomputable def Zh : PO := bF
noncomputable def Zi : PO := iT "__str__" 364 "_Accumulator.__str__" 365 366 95 1 146 147 148 149 150 368 369
noncomputable def Zj : PO := oK "__str__" "_Accumulator.__str__" 5 5 "cpy313.email.header" 194 151
noncomputable def Zk (_ : Params) : Obj := ⟨(.type "tuple"), none, (.seq [.none].toArray 0), [].toArray⟩
noncomputable def Zm : PO := bF
noncomputable def Zn : PO := ob9 "self" 374 "startval" 375
noncomputable def Zo : PO := bF
noncomputable def Zq : PO := iT "reset" 371 "_Accumulator.reset" 372 373 98 2 154 155 156 157 158 376 377
noncomputable def Zr : PO := agA "reset" "_Accumulator.reset" 6 153 159
noncomputable def Zt : PO := bF
noncomputable def Zu : PO := wJ "self" 382
noncomputable def Zv : PO := bF
noncomputable def Zw : PO := iT "is_onlyws" 379 "_Accumulator.is_onlyws" 380 381 104 1 161 162 163 164 165 383 384
noncomputable def Zx : PO := oK "is_onlyws" "_Accumulator.is_onlyws" 5 7 "cpy313.email.header" 194 166
noncomputable def Zy : PO := afg
noncomputable def Zz : PO := wJ "__class__" 389
noncomputable def ZC : PO := wJ "self" 390
noncomputable def ZD : PO := bF
noncomputable def ZF : PO := iT "part_count" 386 "_Accumulator.part_count" 387 388 107 1 169 170 171 172 173 391 392
noncomputable def ZG : PO := agB "part_count" "_Accumulator.part_count" 8 174 168
noncomputable def ZJ : PO := wJ "_initial_size" 394
noncomputable def ZK : PO := agx 315 319 73 318 329 115 "push" 338 122 "pop_from" 348 130 "pop" 356 138 "__len__" 363 145 "__str__" 370 152 "reset" 378 160 "is_onlyws" 385 167 "part_count" 393 175 395 176 398 179 400 180 401 5
noncomputable def ZL (_ : Params) : Obj := ⟨(.type "type"), none, (.cls { name := (S "_Accumulator"), bases := [(.type "list")], mro := [(.ref 178), (.type "list"), (.type "object")], ns := 177, qualname := (S "_Accumulator"), hasDict := true, slotNames := [], subclasses := [], abstract := false, collection := none, hasDel := false }), [(some (.ref 99)), none, (some (.str (S "_Accumulator") 308)), (some (.str (S "_Accumulator") 316)), (some (.builtin "list.__new__")), (some (.bool true))].toArray⟩
noncomputable def ZM : PO := afd 397 178
noncomputable def ZP : PO := afe 399 178
noncomputable def ZQ (_ : Params) : Obj := ⟨(.type "list"), none, (.seq [(.int 173 406), (.int 847 407), (.int 6150 408), (.int 6155 409), (.int 6156 410), (.int 6157 411), (.int 8203 412), (.int 8204 413), (.int 8205 414), (.int 8288 415), (.int 65279 416)].toArray 0), [].toArray⟩
noncomputable def ZR (_ : Params) : Obj := ⟨(.type "range"), none, (.fields [(.int 65024 417), (.int 65040 418), (.int 1 419)].toArray), [].toArray⟩
noncomputable def ZS (_ : Params) : Obj := ⟨(.type "list"), none, (.seq [(.int 65024 422), (.int 65025 423), (.int 65026 424), (.int 65027 425), (.int 65028 426), (.int 65029 427), (.int 65030 428), (.int 65031 429), (.int 65032 430), (.int 65033 431), (.int 65034 432), (.int 65035 433), (.int 65036 434), (.int 65037 435), (.int 65038 436), (.int 65039 437)].toArray 18), [].toArray⟩
noncomputable def ZV (_ : Params) : Obj := ⟨(.type "range_iterator"), none, (.fields [(.int 65040 0), (.int 0 0), (.int 1 0)].toArray), [].toArray⟩
noncomputable def ZW : PO := bF
noncomputable def ZX : PO := afi 187
noncomputable def ZZ (_ : Params) : Obj := ⟨(.type "list"), none, (.seq [(.int 173 406), (.int 847 407), (.int 6150 408), (.int 6155 409), (.int 6156 410), (.int 6157 411), (.int 8203 412), (.int 8204 413), (.int 8205 414), (.int 8288 415), (.int 65279 416), (.int 65024 422), (.int 65025 423), (.int 65026 424), (.int 65027 425), (.int 65028 426), (.int 65029 427), (.int 65030 428), (.int 65031 429), (.int 65032 430), (.int 65033 431), (.int 65034 432), (.int 65035 433), (.int 65036 434), (.int 65037 435), (.int 65038 436), (.int 65039 437)].toArray 0), [].toArray⟩
noncomputable def lM (P : Params) : Obj := ⟨(.type "set"), none, (.set [(65024, (.int 65024 422)), (65025, (.int 65025 423)), (65026, (.int 65026 424)), (65027, (.int 65027 425)), (65028, (.int 65028 426)), (65029, (.int 65029 427)), (6150, (.int 6150 408)), (65030, (.int 65030 428)), (65031, (.int 65031 429)), (65032, (.int 65032 430)), (65033, (.int 65033 431)), (6155, (.int 6155 409)), (6156, (.int 6156 410)), (6157, (.int 6157 411)), (8203, (.int 8203 412)), (8204, (.int 8204 413)), (8205, (.int 8205 414)), (65034, (.int 65034 432)), (65035, (.int 65035 433)), (65036, (.int 65036 434)), (65037, (.int 65037 435)), (65038, (.int 65038 436)), (65039, (.int 65039 437)), (173, (.int 173 406)), (847, (.int 847 407)), (8288, (.int 8288 415)), (65279, (.int 65279 416))].toArray 29 { mask := 127, place := [0, 1, 2, 3, 4, 5, 6, 7, 8, 9, 10, 11, 12, 13, 14, 15, 16, 17, 18, 19, 20, 21, 22, 45, 79, 96, 127].toArray, dummies := [].toArray, finger := 0, led := (!P.followText "set-order"), moves := 2, plain := true }), [].toArray⟩
noncomputable def Z0 : PO := agC "list_iterator" 27
noncomputable def Z1 : PO := bF
noncomputable def Z2 : PO := afi 192
noncomputable def Z3 : PO := bF
noncomputable def Z4 : PO := wJ "code" 469
noncomputable def Z5 : PO := bF
noncomputable def Z6 : PO := iT "in_table_b1" 466 "in_table_b1" 467 468 111 1 194 195 196 197 198 470 471
noncomputable def Z7 : PO := ob8 "in_table_b1" 8 "cpy313.stringprep" 404 199
noncomputable def wK (_ : Params) : Obj := dictOf (aY 473 (b3.take 646) ++ bM 2411 (b3.drop 646)) 650
noncomputable def adO (_ : Params) : Obj := dictOf (bM 2411 (b3.drop 646)) 4
noncomputable def adP : PO := bF
noncomputable def adQ : PO := ob9 "code" 2427 "r" 2428
noncomputable def adR : PO := bF
noncomputable def adS : PO := iT "map_table_b3" 2424 "map_table_b3" 2425 2426 114 1 240 241 242 243 244 2429 2430
noncomputable def adT : PO := ob8 "map_table_b3" 10 "cpy313.stringprep" 404 245
noncomputable def agF (P : Params) : Obj := ⟨(.type "dict"), none, (.dict [⟨PyData.keyHash P (S "__module__"), .str (S "__module__") 2441, (.str (S "cpy313.tabnanny") 2432)⟩, ⟨PyData.keyHash P (S "__qualname__"), .str (S "__qualname__") 2443, (.str (S "Whitespace") 2442)⟩, ⟨PyData.keyHash P (S "__firstlineno__"), .str (S "__firstlineno__") 2445, (.int 120 2444)⟩, ⟨PyData.keyHash P (S "S"), .str (S "S") 2449, (.str (S " ") 2447)⟩, ⟨PyData.keyHash P (S "T"), .str (S "T") 2450, (.str (S "\t") 2448)⟩, ⟨PyData.keyHash P (S "__init__"), .str (S "__init__") 2465, (.ref 263)⟩, ⟨PyData.keyHash P (S "longest_run_of_spaces"), .str (S "longest_run_of_spaces") 2474, (.ref 270)⟩, ⟨PyData.keyHash P (S "indent_level"), .str (S "indent_level") 2486, (.ref 277)⟩, ⟨PyData.keyHash P (S "equal"), .str (S "equal") 2494, (.ref 284)⟩, ⟨PyData.keyHash P (S "not_equal_witness"), .str (S "not_equal_witness") 2505, (.ref 291)⟩, ⟨PyData.keyHash P (S "less"), .str (S "less") 2515, (.ref 298)⟩, ⟨PyData.keyHash P (S "not_less_witness"), .str (S "not_less_witness") 2526, (.ref 305)⟩, ⟨PyData.keyHash P (S "__static_attributes__"), .str (S "__static_attributes__") 2532, (.ref 306)⟩].toArray 13), [].toArray⟩
noncomputable def agG (_ : Params) : Obj := ⟨.none, none, (.fields [(.int 123 0), (.int 4 0), (.ref 262), (.int 146 0), (.int 4 0), (.ref 269), (.int 150 0), (.int 4 0), (.ref 276), (.int 157 0), (.int 4 0), (.ref 283), (.int 160 0), (.int 4 0), (.ref 290), (.int 168 0), (.int 4 0), (.ref 297), (.int 179 0), (.int 4 0), (.ref 304)].toArray), [].toArray⟩
noncomputable def adU : PO := bF
noncomputable def adV (_ : Params) : Obj := ⟨(.type "tuple"), none, (.seq [(.str (S "self") 2454), (.str (S "ws") 2455), (.str (S "S") 2456), (.str (S "T") 2457), (.str (S "count") 2458), (.str (S "b") 2459), (.str (S "n") 2460), (.str (S "nt") 2461), (.str (S "ch") 2462)].toArray 0), [].toArray⟩
noncomputable def adW : PO := bF
noncomputable def adX : PO := iT "__init__" 2451 "Whitespace.__init__" 2452 2453 123 2 257 258 259 260 261 2463 2464
noncomputable def adY : PO := oK "__init__" "Whitespace.__init__" 12 1 "cpy313.tabnanny" 2432 262
noncomputable def adZ : PO := bF
noncomputable def ad0 : PO := afh 2469 "count" 2470 "trailing" 2471
noncomputable def ad1 : PO := bF
noncomputable def ad2 : PO := iT "longest_run_of_spaces" 2466 "Whitespace.longest_run_of_spaces" 2467 2468 146 1 264 265 266 267 268 2472 2473
noncomputable def ad3 : PO := oK "longest_run_of_spaces" "Whitespace.longest_run_of_spaces" 12 2 "cpy313.tabnanny" 2432 269
noncomputable def ad4 : PO := bF
noncomputable def ad5 (_ : Params) : Obj := ⟨(.type "tuple"), none, (.seq [(.str (S "self") 2478), (.str (S "tabsize") 2479), (.str (S "count") 2480), (.str (S "trailing") 2481), (.str (S "il") 2482), (.str (S "i") 2483)].toArray 0), [].toArray⟩
noncomputable def ad6 : PO := bF
noncomputable def ad7 : PO := iT "indent_level" 2475 "Whitespace.indent_level" 2476 2477 150 2 271 272 273 274 275 2484 2485
noncomputable def ad8 : PO := oK "indent_level" "Whitespace.indent_level" 12 3 "cpy313.tabnanny" 2432 276
noncomputable def ad9 : PO := bF
noncomputable def aea : PO := ob9 "self" 2490 "other" 2491
noncomputable def aeb : PO := bF
noncomputable def aec : PO := iT "equal" 2487 "Whitespace.equal" 2488 2489 157 2 278 279 280 281 282 2492 2493
noncomputable def aed : PO := oK "equal" "Whitespace.equal" 12 4 "cpy313.tabnanny" 2432 283
noncomputable def aee : PO := bF
noncomputable def aef : PO := abz "self" 2498 "other" 2499 "n" 2500 "a" 2501 "ts" 2502
noncomputable def aeg : PO := bF
noncomputable def aeh : PO := iT "not_equal_witness" 2495 "Whitespace.not_equal_witness" 2496 2497 160 2 285 286 287 288 289 2503 2504
noncomputable def aei : PO := oK "not_equal_witness" "Whitespace.not_equal_witness" 12 5 "cpy313.tabnanny" 2432 290
noncomputable def aej : PO := bF
noncomputable def aek : PO := abA "self" 2509 "other" 2510 "n" 2511 "ts" 2512
noncomputable def ael : PO := bF
noncomputable def aem : PO := iT "less" 2506 "Whitespace.less" 2507 2508 168 2 292 293 294 295 296 2513 2514
noncomputable def aen : PO := oK "less" "Whitespace.less" 12 6 "cpy313.tabnanny" 2432 297
noncomputable def aeo : PO := bF
noncomputable def aep : PO := abz "self" 2519 "other" 2520 "n" 2521 "a" 2522 "ts" 2523
noncomputable def aeq : PO := bF
noncomputable def aer : PO := iT "not_less_witness" 2516 "Whitespace.not_less_witness" 2517 2518 179 2 299 300 301 302 303 2524 2525
noncomputable def aes : PO := oK "not_less_witness" "Whitespace.not_less_witness" 12 7 "cpy313.tabnanny" 2432 304
noncomputable def aet : PO := abz "is_simple" 2527 "n" 2528 "norm" 2529 "nt" 2530 "raw" 2531
noncomputable def aeu (P : Params) : Obj := ⟨(.type "dict"), none, (.dict [⟨PyData.keyHash P (S "__module__"), .str (S "__module__") 2441, (.str (S "cpy313.tabnanny") 2432)⟩, ⟨PyData.keyHash P (S "__firstlineno__"), .str (S "__firstlineno__") 2445, (.int 120 2444)⟩, ⟨PyData.keyHash P (S "S"), .str (S "S") 2449, (.str (S " ") 2447)⟩, ⟨PyData.keyHash P (S "T"), .str (S "T") 2450, (.str (S "\t") 2448)⟩, ⟨PyData.keyHash P (S "__init__"), .str (S "__init__") 2465, (.ref 263)⟩, ⟨PyData.keyHash P (S "longest_run_of_spaces"), .str (S "longest_run_of_spaces") 2474, (.ref 270)⟩, ⟨PyData.keyHash P (S "indent_level"), .str (S "indent_level") 2486, (.ref 277)⟩, ⟨PyData.keyHash P (S "equal"), .str (S "equal") 2494, (.ref 284)⟩, ⟨PyData.keyHash P (S "not_equal_witness"), .str (S "not_equal_witness") 2505, (.ref 291)⟩, ⟨PyData.keyHash P (S "less"), .str (S "less") 2515, (.ref 298)⟩, ⟨PyData.keyHash P (S "not_less_witness"), .str (S "not_less_witness") 2526, (.ref 305)⟩, ⟨PyData.keyHash P (S "__static_attributes__"), .str (S "__static_attributes__") 2532, (.ref 306)⟩, ⟨PyData.keyHash P (S "__dict__"), .str (S "__dict__") 2534, (.ref 309)⟩, ⟨PyData.keyHash P (S "__weakref__"), .str (S "__weakref__") 2536, (.ref 310)⟩, ⟨PyData.keyHash P (S "__doc__"), .str (S "__doc__") 2537, .none⟩].toArray 4), [].toArray⟩
noncomputable def aev : PO := agy "Whitespace" 308 307 2434 2442
noncomputable def aew : PO := afd 2533 308
noncomputable def aex : PO := afe 2535 308
noncomputable def aey : PO := bF
noncomputable def aez : PO := zZ "_law_book" 2542 2543 2544 187 1 313 314 315 2545 2546
noncomputable def aeA : PO := ob8 "_law_book" 14 "law_rw0126_02" 2540 316
noncomputable def aeB : PO := bF
noncomputable def aeC : PO := zZ "_law_words" 2548 2549 2550 201 1 318 319 320 2551 2552
noncomputable def aeD : PO := ob8 "_law_words" 15 "law_rw0126_02" 2540 321
noncomputable def aeE : PO := bF
noncomputable def aeF (_ : Params) : Obj := ⟨(.type "tuple"), none, (.seq [(.str (S "shelf") 2557), (.str (S "book") 2558), (.str (S "n") 2559), (.str (S "words") 2560), (.str (S "doors") 2561), (.str (S "k") 2562), (.str (S "noted") 2563), (.str (S "here") 2564), (.str (S "letter") 2565)].toArray 0), [].toArray⟩
noncomputable def aeG : PO := bF
noncomputable def aeH : PO := iT "_law_ring" 2554 "_law_ring" 2555 2556 206 3 323 324 325 326 327 2566 2567
noncomputable def aeI : PO := ob8 "_law_ring" 16 "law_rw0126_02" 2540 328
noncomputable def aeJ : PO := bF
noncomputable def aeK : PO := abA "ring" 2572 "width" 2573 "maker" 2574 "letter" 2575
noncomputable def aeL : PO := bF
noncomputable def aeM : PO := iT "_law_page" 2569 "_law_page" 2570 2571 221 2 330 331 332 333 334 2576 2577
noncomputable def aeN : PO := ob8 "_law_page" 17 "law_rw0126_02" 2540 335
noncomputable def aeO : PO := bF
noncomputable def aeP : PO := zZ "_law_counts" 2579 2580 2581 226 1 337 338 339 2582 2583
noncomputable def aeQ : PO := ob8 "_law_counts" 18 "law_rw0126_02" 2540 340
noncomputable def aeR : PO := bF
noncomputable def aeS : PO := zZ "_law_columns" 2585 2586 2587 228 2 342 343 344 2588 2589
noncomputable def aeT : PO := ob8 "_law_columns" 19 "law_rw0126_02" 2540 345
noncomputable def aeU : PO := bF
noncomputable def aeV : PO := zZ "law" 2591 2592 2593 234 1 347 348 349 2594 2595
noncomputable def aeW : PO := ob8 "law" 20 "law_rw0126_02" 2540 350
noncomputable def c_b : PO := bV
noncomputable def m_4 (P : Params) : Obj := ⟨(.type "dict"), none, (.dict [⟨PyData.keyHash P (S "__name__"), .str (S "__name__") 165, (.str (S "cpy313.email.header") 194)⟩, ⟨PyData.keyHash P (S "__doc__"), .str (S "__doc__") 166, .none⟩, ⟨PyData.keyHash P (S "__package__"), .str (S "__package__") 167, .none⟩, ⟨PyData.keyHash P (S "__loader__"), .str (S "__loader__") 168, (.builtin "__main__.__loader__#opaque")⟩, ⟨PyData.keyHash P (S "__spec__"), .str (S "__spec__") 169, .none⟩, ⟨PyData.keyHash P (S "__annotations__"), .str (S "__annotations__") 170, (.ref 6)⟩, ⟨PyData.keyHash P (S "__builtins__"), .str (S "__builtins__") 171, (.ref 4)⟩, ⟨PyData.keyHash P (S "__file__"), .str (S "__file__") 173, (.str (S "/claim/cut.py") 172)⟩, ⟨PyData.keyHash P (S "__cached__"), .str (S "__cached__") 174, .none⟩, ⟨PyData.keyHash P (S "_wall"), .str (S "_wall") 193, (.ref 21)⟩, ⟨PyData.keyHash P (S "NL"), .str (S "NL") 197, (.str (S "\n") 196)⟩, ⟨PyData.keyHash P (S "EMPTYSTRING"), .str (S "EMPTYSTRING") 199, (.str (S "") 198)⟩, ⟨PyData.keyHash P (S "_ValueFormatter"), .str (S "_ValueFormatter") 307, (.ref 94)⟩].toArray 13), [].toArray⟩
noncomputable def c_4 (_ : Params) : Obj := ⟨.none, none, (.fields [(.int 1 0), (.int 0 0), (.ref 20), (.int 7 0), (.int 0 0), (.ref 27)].toArray), [].toArray⟩
noncomputable def m_6 (P : Params) : Obj := ⟨(.type "dict"), none, (.dict [⟨PyData.keyHash P (S "__name__"), .str (S "__name__") 165, (.str (S "cpy313.stringprep") 404)⟩, ⟨PyData.keyHash P (S "__doc__"), .str (S "__doc__") 166, .none⟩, ⟨PyData.keyHash P (S "__package__"), .str (S "__package__") 167, .none⟩, ⟨PyData.keyHash P (S "__loader__"), .str (S "__loader__") 168, (.builtin "__main__.__loader__#opaque")⟩, ⟨PyData.keyHash P (S "__spec__"), .str (S "__spec__") 169, .none⟩, ⟨PyData.keyHash P (S "__annotations__"), .str (S "__annotations__") 170, (.ref 6)⟩, ⟨PyData.keyHash P (S "__builtins__"), .str (S "__builtins__") 171, (.ref 4)⟩, ⟨PyData.keyHash P (S "__file__"), .str (S "__file__") 173, (.str (S "/claim/cut.py") 172)⟩, ⟨PyData.keyHash P (S "__cached__"), .str (S "__cached__") 174, .none⟩, ⟨PyData.keyHash P (S "_wall"), .str (S "_wall") 193, (.ref 21)⟩, ⟨PyData.keyHash P (S "NL"), .str (S "NL") 197, (.str (S "\n") 196)⟩, ⟨PyData.keyHash P (S "EMPTYSTRING"), .str (S "EMPTYSTRING") 199, (.str (S "") 198)⟩, ⟨PyData.keyHash P (S "_ValueFormatter"), .str (S "_ValueFormatter") 307, (.ref 94)⟩, ⟨PyData.keyHash P (S "_Accumulator"), .str (S "_Accumulator") 403, (.ref 178)⟩].toArray 14), [].toArray⟩
noncomputable def c_6 : PO := agD
noncomputable def m_7 (P : Params) : Obj := ⟨(.type "dict"), none, (.dict [⟨PyData.keyHash P (S "__name__"), .str (S "__name__") 165, (.str (S "cpy313.stringprep") 404)⟩, ⟨PyData.keyHash P (S "__doc__"), .str (S "__doc__") 166, .none⟩, ⟨PyData.keyHash P (S "__package__"), .str (S "__package__") 167, .none⟩, ⟨PyData.keyHash P (S "__loader__"), .str (S "__loader__") 168, (.builtin "__main__.__loader__#opaque")⟩, ⟨PyData.keyHash P (S "__spec__"), .str (S "__spec__") 169, .none⟩, ⟨PyData.keyHash P (S "__annotations__"), .str (S "__annotations__") 170, (.ref 6)⟩, ⟨PyData.keyHash P (S "__builtins__"), .str (S "__builtins__") 171, (.ref 4)⟩, ⟨PyData.keyHash P (S "__file__"), .str (S "__file__") 173, (.str (S "/claim/cut.py") 172)⟩, ⟨PyData.keyHash P (S "__cached__"), .str (S "__cached__") 174, .none⟩, ⟨PyData.keyHash P (S "_wall"), .str (S "_wall") 193, (.ref 21)⟩, ⟨PyData.keyHash P (S "NL"), .str (S "NL") 197, (.str (S "\n") 196)⟩, ⟨PyData.keyHash P (S "EMPTYSTRING"), .str (S "EMPTYSTRING") 199, (.str (S "") 198)⟩, ⟨PyData.keyHash P (S "_ValueFormatter"), .str (S "_ValueFormatter") 307, (.ref 94)⟩, ⟨PyData.keyHash P (S "_Accumulator"), .str (S "_Accumulator") 403, (.ref 178)⟩, ⟨PyData.keyHash P (S "b1_set"), .str (S "b1_set") 465, (.ref 190)⟩].toArray 15), [].toArray⟩
noncomputable def c_7 : PO := agD
noncomputable def m_8 (P : Params) : Obj := ⟨(.type "dict"), none, (.dict [⟨PyData.keyHash P (S "__name__"), .str (S "__name__") 165, (.str (S "cpy313.stringprep") 404)⟩, ⟨PyData.keyHash P (S "__doc__"), .str (S "__doc__") 166, .none⟩, ⟨PyData.keyHash P (S "__package__"), .str (S "__package__") 167, .none⟩, ⟨PyData.keyHash P (S "__loader__"), .str (S "__loader__") 168, (.builtin "__main__.__loader__#opaque")⟩, ⟨PyData.keyHash P (S "__spec__"), .str (S "__spec__") 169, .none⟩, ⟨PyData.keyHash P (S "__annotations__"), .str (S "__annotations__") 170, (.ref 6)⟩, ⟨PyData.keyHash P (S "__builtins__"), .str (S "__builtins__") 171, (.ref 4)⟩, ⟨PyData.keyHash P (S "__file__"), .str (S "__file__") 173, (.str (S "/claim/cut.py") 172)⟩, ⟨PyData.keyHash P (S "__cached__"), .str (S "__cached__") 174, .none⟩, ⟨PyData.keyHash P (S "_wall"), .str (S "_wall") 193, (.ref 21)⟩, ⟨PyData.keyHash P (S "NL"), .str (S "NL") 197, (.str (S "\n") 196)⟩, ⟨PyData.keyHash P (S "EMPTYSTRING"), .str (S "EMPTYSTRING") 199, (.str (S "") 198)⟩, ⟨PyData.keyHash P (S "_ValueFormatter"), .str (S "_ValueFormatter") 307, (.ref 94)⟩, ⟨PyData.keyHash P (S "_Accumulator"), .str (S "_Accumulator") 403, (.ref 178)⟩, ⟨PyData.keyHash P (S "b1_set"), .str (S "b1_set") 465, (.ref 190)⟩, ⟨PyData.keyHash P (S "in_table_b1"), .str (S "in_table_b1") 472, (.ref 200)⟩].toArray 16), [].toArray⟩
noncomputable def c_8 : PO := agE
noncomputable def m_9 (P : Params) : Obj := ⟨(.type "dict"), none, (.dict [⟨PyData.keyHash P (S "__name__"), .str (S "__name__") 165, (.str (S "cpy313.stringprep") 404)⟩, ⟨PyData.keyHash P (S "__doc__"), .str (S "__doc__") 166, .none⟩, ⟨PyData.keyHash P (S "__package__"), .str (S "__package__") 167, .none⟩, ⟨PyData.keyHash P (S "__loader__"), .str (S "__loader__") 168, (.builtin "__main__.__loader__#opaque")⟩, ⟨PyData.keyHash P (S "__spec__"), .str (S "__spec__") 169, .none⟩, ⟨PyData.keyHash P (S "__annotations__"), .str (S "__annotations__") 170, (.ref 6)⟩, ⟨PyData.keyHash P (S "__builtins__"), .str (S "__builtins__") 171, (.ref 4)⟩, ⟨PyData.keyHash P (S "__file__"), .str (S "__file__") 173, (.str (S "/claim/cut.py") 172)⟩, ⟨PyData.keyHash P (S "__cached__"), .str (S "__cached__") 174, .none⟩, ⟨PyData.keyHash P (S "_wall"), .str (S "_wall") 193, (.ref 21)⟩, ⟨PyData.keyHash P (S "NL"), .str (S "NL") 197, (.str (S "\n") 196)⟩, ⟨PyData.keyHash P (S "EMPTYSTRING"), .str (S "EMPTYSTRING") 199, (.str (S "") 198)⟩, ⟨PyData.keyHash P (S "_ValueFormatter"), .str (S "_ValueFormatter") 307, (.ref 94)⟩, ⟨PyData.keyHash P (S "_Accumulator"), .str (S "_Accumulator") 403, (.ref 178)⟩, ⟨PyData.keyHash P (S "b1_set"), .str (S "b1_set") 465, (.ref 190)⟩, ⟨PyData.keyHash P (S "in_table_b1"), .str (S "in_table_b1") 472, (.ref 200)⟩, ⟨PyData.keyHash P (S "b3_exceptions"), .str (S "b3_exceptions") 2423, (.ref 201)⟩].toArray 17), [].toArray⟩
noncomputable def c_9 : PO := agE
noncomputable def agH (P : Params) : Obj := ⟨(.type "dict"), none, (.dict [⟨PyData.keyHash P (S "__name__"), .str (S "__name__") 165, (.str (S "law_rw0126_02") 2540)⟩, ⟨PyData.keyHash P (S "__doc__"), .str (S "__doc__") 166, .none⟩, ⟨PyData.keyHash P (S "__package__"), .str (S "__package__") 167, .none⟩, ⟨PyData.keyHash P (S "__loader__"), .str (S "__loader__") 168, (.builtin "__main__.__loader__#opaque")⟩, ⟨PyData.keyHash P (S "__spec__"), .str (S "__spec__") 169, .none⟩, ⟨PyData.keyHash P (S "__annotations__"), .str (S "__annotations__") 170, (.ref 6)⟩, ⟨PyData.keyHash P (S "__builtins__"), .str (S "__builtins__") 171, (.ref 4)⟩, ⟨PyData.keyHash P (S "__file__"), .str (S "__file__") 173, (.str (S "/claim/cut.py") 172)⟩, ⟨PyData.keyHash P (S "__cached__"), .str (S "__cached__") 174, .none⟩, ⟨PyData.keyHash P (S "_wall"), .str (S "_wall") 193, (.ref 21)⟩, ⟨PyData.keyHash P (S "NL"), .str (S "NL") 197, (.str (S "\n") 196)⟩, ⟨PyData.keyHash P (S "EMPTYSTRING"), .str (S "EMPTYSTRING") 199, (.str (S "") 198)⟩, ⟨PyData.keyHash P (S "_ValueFormatter"), .str (S "_ValueFormatter") 307, (.ref 94)⟩, ⟨PyData.keyHash P (S "_Accumulator"), .str (S "_Accumulator") 403, (.ref 178)⟩, ⟨PyData.keyHash P (S "b1_set"), .str (S "b1_set") 465, (.ref 190)⟩, ⟨PyData.keyHash P (S "in_table_b1"), .str (S "in_table_b1") 472, (.ref 200)⟩, ⟨PyData.keyHash P (S "b3_exceptions"), .str (S "b3_exceptions") 2423, (.ref 201)⟩, ⟨PyData.keyHash P (S "map_table_b3"), .str (S "map_table_b3") 2431, (.ref 246)⟩, ⟨PyData.keyHash P (S "Whitespace"), .str (S "Whitespace") 2539, (.ref 308)⟩, ⟨PyData.keyHash P (S "_law_book"), .str (S "_law_book") 2547, (.ref 317)⟩, ⟨PyData.keyHash P (S "_law_words"), .str (S "_law_words") 2553, (.ref 322)⟩, ⟨PyData.keyHash P (S "_law_ring"), .str (S "_law_ring") 2568, (.ref 329)⟩, ⟨PyData.keyHash P (S "_law_page"), .str (S "_law_page") 2578, (.ref 336)⟩, ⟨PyData.keyHash P (S "_law_counts"), .str (S "_law_counts") 2584, (.ref 341)⟩, ⟨PyData.keyHash P (S "_law_columns"), .str (S "_law_columns") 2590, (.ref 346)⟩, ⟨PyData.keyHash P (S "law"), .str (S "law") 2596, (.ref 351)⟩].toArray 26), [].toArray⟩
noncomputable def aia (_ : Params) : Obj := ⟨.none, none, (.fields [(.int 1 0), (.int 0 0), (.ref 20), (.int 7 0), (.int 0 0), (.ref 27), (.int 73 0), (.int 0 0), (.ref 105), (.int 111 0), (.int 0 0), (.ref 199), (.int 114 0), (.int 0 0), (.ref 245), (.int 120 0), (.int 0 0), (.ref 252), (.int 187 0), (.int 0 0), (.ref 316), (.int 201 0), (.int 0 0), (.ref 321), (.int 206 0), (.int 0 0), (.ref 328), (.int 221 0), (.int 0 0), (.ref 335), (.int 226 0), (.int 0 0), (.ref 340), (.int 228 0), (.int 0 0), (.ref 345), (.int 234 0), (.int 0 0), (.ref 350)].toArray), [].toArray⟩
noncomputable def T_b : PT := (nd boot_o_0 (nd boot_o_1 (nd boot_o_3 (lf boot_o_7) (lf bF)) (nd boot_o_5 (lf boot_o_9) (lf (p7 "<module>" 182 183 184 1 11 12 185 186)))) (nd boot_o_2 (nd boot_o_4 (lf boot_o_8) (lf c_b)) (nd boot_o_6 (lf boot_o_10) (lf (p8 13 3 "__main__" 164)))))
noncomputable def S_b (P : Params) (os : OsState) : SharedT := ⟨T_b P, 15, {}, Array.mk [], {}, 187, os⟩
noncomputable def T_4 : PT := up T_b m_4 c_4 [abB, bV, abC, abD, (xT "_wall" 0), abE, abF, bF, xU, afj, bF, (z6 9 34 17 41 21 48 24 55 35 62 38 69 41 76 44 83 47 90), (p7 "_ValueFormatter" 202 203 204 7 25 26 205 206), (p8 27 24 "cpy313.email.header" 194), abG, bV, abH, abI, (cY "__init__" "_ValueFormatter.__init__" 4 0), abJ, abK, abL, bV, abM, abN, (cY "_str" "_ValueFormatter._str" 4 1), abO, abP, abQ, bV, abR, abS, (cY "__str__" "_ValueFormatter.__str__" 4 2), abT, abU, abV, bV, abW, abX, (cY "newline" "_ValueFormatter.newline" 4 3), abY, abZ, ab0, bV, ab1, ab2, (cY "add_transition" "_ValueFormatter.add_transition" 4 4), ab3, ab4, ab5, bV, ab6, ab7, (cY "feed" "_ValueFormatter.feed" 4 5), ab8, ab9, aca, bV, acb, acd, (cY "_maxlengths" "_ValueFormatter._maxlengths" 4 6), ace, acf, acg, bV, ach, aci, (cY "_ascii_split" "_ValueFormatter._ascii_split" 4 7), acj, ack, acl, bV, acn, aco, (cY "_append_chunk" "_ValueFormatter._append_chunk" 4 8), acp, acq, acr, acs, acu, acv, acw, (xV 94), (xW 94)] 15
noncomputable def S_4 (P : Params) (os : OsState) : SharedT := ⟨T_4 P, 99, {}, Array.mk [], {}, 308, os⟩
noncomputable def q_4 : Pos := ⟨7, 0, 72, 47⟩
noncomputable def T_6 : PT := (nd boot_o_0 (nd boot_o_1 (nd m_6 (nd boot_o_7 (nd abB (nd abH (nd ab4 (lf YK) ni) (nd acv (lf Zq) ni)) (nd (cY "__str__" "_ValueFormatter.__str__" 4 2) (nd bV (lf (cY "__len__" "_Accumulator.__len__" 5 4)) ni) (nd Yv (lf ZG) ni))) (nd xU (nd abN (nd aca (lf YW) ni) (nd bF (lf Zx) ni)) (nd abY (nd acn (lf Zi) ni) (lf YC)))) (nd bF (nd (xT "_wall" 0) (nd abK (nd ab7 (lf YQ) ni) (nd afk (lf Zu) ni)) (nd bV (nd acj (lf bV) ni) (nd Yy (lf ZM) ni))) (nd (p7 "_ValueFormatter" 202 203 204 7 25 26 205 206) (nd abQ (nd (cY "_maxlengths" "_ValueFormatter._maxlengths" 4 6) (lf Za) ni) (nd z8 (lf ZC) ni)) (nd ab1 (nd acq (lf bV) ni) (lf YG))))) (nd boot_o_5 (nd boot_o_9 (nd abC (nd (cY "__init__" "_ValueFormatter.__init__" 4 0) (nd bV (lf YL) ni) (nd (xV 94) (lf Zt) ni)) (nd abU (nd aci (lf Ze) ni) (nd (cY "__init__" "_Accumulator.__init__" 5 0) (lf ZK) ni))) (nd bF (nd abO (nd acb (lf YX) ni) (nd (p7 "_Accumulator" 310 311 312 73 103 104 313 314) (lf Zz) ni)) (nd ab0 (nd (cY "_append_chunk" "_ValueFormatter._append_chunk" 4 8) (lf Zk) ni) (lf YD)))) (nd (p7 "<module>" 182 183 184 1 11 12 185 186) (nd abF (nd bV (nd ab8 (lf bV) ni) (nd adN (lf (cY "is_onlyws" "_Accumulator.is_onlyws" 5 7)) ni)) (nd abX (nd acl (lf Zh) ni) (nd bV (lf (xV 178)) ni))) (nd abG (nd abR (nd acf (lf Zb) ni) (nd Yu (lf (cY "part_count" "_Accumulator.part_count" 5 8)) ni)) (nd (cY "add_transition" "_ValueFormatter.add_transition" 4 4) (nd acs (lf Zo) ni) (lf bV)))))) (nd boot_o_2 (nd boot_o_4 (nd boot_o_8 (nd bV (nd abI (nd ab5 (lf (cY "pop_from" "_Accumulator.pop_from" 5 2)) ni) (nd acw (lf Zr) ni)) (nd abT (nd ach (lf Zd) ni) (nd Yw (lf ZJ) ni))) (nd afj (nd (cY "_str" "_ValueFormatter._str" 4 1) (nd bV (lf (cY "pop" "_Accumulator.pop" 5 3)) ni) (nd (z6 75 114 79 121 82 129 87 137 92 144 95 151 98 159 104 166 107 174) (lf Zy) ni)) (nd abZ (nd aco (lf Zj) ni) (lf (cY "push" "_Accumulator.push" 5 1))))) (nd c_6 (nd abE (nd abL (nd (cY "feed" "_ValueFormatter.feed" 4 5) (lf YS) ni) (nd xU (lf Zv) ni)) (nd abW (nd ack (lf Zg) ni) (nd Yz (lf ZP) ni))) (nd (p8 27 24 "cpy313.email.header" 194) (nd bV (nd ace (lf bV) ni) (nd z9 (lf ZD) ni)) (nd ab2 (nd acr (lf Zn) ni) (lf YH))))) (nd boot_o_6 (nd boot_o_10 (nd abD (nd abJ (nd ab6 (lf YM) ni) (nd (xW 94) (lf bV) ni)) (nd abV (nd (cY "_ascii_split" "_ValueFormatter._ascii_split" 4 7) (lf Zf) ni) (nd Yx (lf ZL) ni))) (nd (z6 9 34 17 41 21 48 24 55 35 62 38 69 41 76 44 83 47 90) (nd abP (nd acd (lf YZ) ni) (nd (p8 105 101 "cpy313.email.header" 194) (lf bV) ni)) (nd bV (nd acp (lf Zm) ni) (lf YF)))) (nd (p8 13 3 "__main__" 164) (nd bF (nd abM (nd ab9 (lf YT) ni) (nd z7 (lf Zw) ni)) (nd (cY "newline" "_ValueFormatter.newline" 4 3) (nd bV (lf (cY "__str__" "_Accumulator.__str__" 5 5)) ni) (nd YB (lf (xW 178)) ni))) (nd bV (nd abS (nd acg (lf Zc) ni) (nd bV (lf ZF) ni)) (nd ab3 (nd acu (lf (cY "reset" "_Accumulator.reset" 5 6)) ni) (lf YJ)))))))
noncomputable def S_6 (P : Params) (os : OsState) : SharedT := ⟨T_6 P, 183, {}, Array.mk [], {}, 406, os⟩
noncomputable def q_6 : Pos := ⟨109, 0, 109, 8⟩
noncomputable def T_7 (P : Params) : BT := (((xR [ZQ, ZR, ZS, ZV, ZW, ZX, ZZ, lM, Z0, Z1, Z2] 183 (T_6 P) P).set 3 (λ _ => m_7 P)).set 12 (λ _ => c_7 P))
noncomputable def S_7 (P : Params) (os : OsState) : SharedT := ⟨T_7 P, 194, {}, Array.mk [], {}, 466, os⟩
noncomputable def q_7 : Pos := ⟨110, 0, 110, 6⟩
noncomputable def T_8 (P : Params) : BT := (((xR [Z3, bV, Z4, Z5, (xT "in_table_b1" 8), Z6, Z7] 194 (T_7 P) P).set 3 (λ _ => m_8 P)).set 12 (λ _ => c_8 P))
noncomputable def S_8 (P : Params) (os : OsState) : SharedT := ⟨T_8 P, 201, {}, Array.mk [], {}, 473, os⟩
noncomputable def q_8 : Pos := ⟨111, 0, 112, 30⟩
noncomputable def T_9 (P : Params) : BT := (((xR [wK, (bI 524 17), (bI 575 34), (bI 626 51), (bI 677 68), (bI 728 85), (bI 779 102), (bI 830 119), (bI 881 136), (bI 932 153), (bI 983 170), (bI 1034 187), (bI 1085 204), (bI 1136 221), (bI 1187 238), (bI 1238 255), (bI 1289 272), (bI 1340 289), (bI 1391 306), (bI 1442 323), (bI 1493 340), (bI 1544 357), (bI 1595 374), (bI 1646 391), (bI 1697 408), (bI 1748 425), (bI 1799 442), (bI 1850 459), (bI 1901 476), (bI 1952 493), (bI 2003 510), (bI 2054 527), (bI 2105 544), (bI 2156 561), (bI 2207 578), (bI 2258 595), (bI 2309 612), (bI 2360 629), adO] 201 (T_8 P) P).set 3 (λ _ => m_9 P)).set 12 (λ _ => c_9 P))
noncomputable def S_9 (P : Params) (os : OsState) : SharedT := ⟨T_9 P, 240, {}, Array.mk [], {}, 2424, os⟩
noncomputable def q_9 : Pos := ⟨113, 0, 113, 13⟩
noncomputable def agI : PT := (nd boot_o_0 (nd boot_o_1 (nd agH (nd boot_o_7 (nd abB (nd abH (nd ab4 (nd YK (lf bF) ni) (nd Z0 (lf bV) ni)) (nd acv (nd Zq (lf aef) ni) (nd (bI 1595 374) (lf aeW) ni))) (nd (cY "__str__" "_ValueFormatter.__str__" 4 2) (nd bV (nd (cY "__len__" "_Accumulator.__len__" 5 4) (lf ad4) ni) (nd (bI 779 102) (lf aeM) ni)) (nd Yv (nd ZG (lf (cY "not_less_witness" "Whitespace.not_less_witness" 12 7)) ni) (lf adO)))) (nd xU (nd abN (nd aca (nd YW (lf adY) ni) (nd Z6 (lf (xT "_law_ring" 16)) ni)) (nd bF (nd Zx (lf ael) ni) (lf (bI 2003 510)))) (nd abY (nd acn (nd Zi (lf bV) ni) (nd (bI 1187 238) (lf bV) ni)) (nd YC (nd ZQ (lf (xV 308)) ni) (lf bF))))) (nd bF (nd (xT "_wall" 0) (nd abK (nd ab7 (nd YQ (lf adV) ni) (nd bV (lf aeE) ni)) (nd afk (nd Zu (lf aei) ni) (lf (bI 1799 442)))) (nd bV (nd acj (nd bV (lf (cY "indent_level" "Whitespace.indent_level" 12 3)) ni) (nd (bI 983 170) (lf (xT "_law_counts" 18)) ni)) (nd Yy (nd ZM (lf aeu) ni) (lf adR)))) (nd (p7 "_ValueFormatter" 202 203 204 7 25 26 205 206) (nd abQ (nd (cY "_maxlengths" "_ValueFormatter._maxlengths" 4 6) (nd Za (lf ad1) ni) (nd (bI 575 34) (lf bV) ni)) (nd z8 (nd ZC (lf aeo) ni) (lf (bI 2207 578)))) (nd ab1 (nd acq (nd bV (lf aec) ni) (nd (bI 1391 306) (lf aeU) ni)) (nd YG (nd ZW (lf (xT "_law_book" 14)) ni) (lf agG)))))) (nd boot_o_5 (nd boot_o_9 (nd abC (nd (cY "__init__" "_ValueFormatter.__init__" 4 0) (nd bV (nd YL (lf adU) ni) (nd Z2 (lf aeC) ni)) (nd (xV 94) (nd Zt (lf (cY "not_equal_witness" "Whitespace.not_equal_witness" 12 5)) ni) (lf (bI 1697 408)))) (nd abU (nd aci (nd Ze (lf ad5) ni) (nd (bI 881 136) (lf aeO) ni)) (nd (cY "__init__" "_Accumulator.__init__" 5 0) (nd ZK (lf aes) ni) (lf bV)))) (nd bF (nd abO (nd acb (nd YX (lf bV) ni) (nd wK (lf aeI) ni)) (nd (p7 "_Accumulator" 310 311 312 73 103 104 313 314) (nd Zz (lf aem) ni) (lf (bI 2105 544)))) (nd ab0 (nd (cY "_append_chunk" "_ValueFormatter._append_chunk" 4 8) (nd Zk (lf aeb) ni) (nd (bI 1289 272) (lf aeS) ni)) (nd YD (nd ZS (lf aey) ni) (lf agF))))) (nd (p7 "<module>" 182 183 184 1 11 12 185 186) (nd abF (nd bV (nd ab8 (nd bV (lf (cY "__init__" "Whitespace.__init__" 12 1)) ni) (nd Z5 (lf aeF) ni)) (nd adN (nd (cY "is_onlyws" "_Accumulator.is_onlyws" 5 7) (lf bV) ni) (lf (bI 1901 476)))) (nd abX (nd acl (nd Zh (lf ad8) ni) (nd (bI 1085 204) (lf aeQ) ni)) (nd bV (nd (xV 178) (lf aew) ni) (lf adS)))) (nd abG (nd abR (nd acf (nd Zb (lf ad2) ni) (nd (bI 677 68) (lf aeL) ni)) (nd Yu (nd (cY "part_count" "_Accumulator.part_count" 5 8) (lf aep) ni) (lf (bI 2309 612)))) (nd (cY "add_transition" "_ValueFormatter.add_transition" 4 4) (nd acs (nd Zo (lf aee) ni) (nd (bI 1493 340) (lf (xT "law" 20)) ni)) (nd bV (nd ZZ (lf aeA) ni) (lf (p8 252 249 "cpy313.tabnanny" 2432)))))))) (nd boot_o_2 (nd boot_o_4 (nd boot_o_8 (nd bV (nd abI (nd ab5 (nd (cY "pop_from" "_Accumulator.pop_from" 5 2) (lf (afi 255)) ni) (nd Z1 (lf (xT "_law_words" 15)) ni)) (nd acw (nd Zr (lf aeg) ni) (lf (bI 1646 391)))) (nd abT (nd ach (nd Zd (lf bV) ni) (nd (bI 830 119) (lf aeN) ni)) (nd Yw (nd ZJ (lf aer) ni) (lf adP)))) (nd afj (nd (cY "_str" "_ValueFormatter._str" 4 1) (nd bV (nd (cY "pop" "_Accumulator.pop" 5 3) (lf adZ) ni) (nd Z7 (lf aeH) ni)) (nd (z6 75 114 79 121 82 129 87 137 92 144 95 151 98 159 104 166 107 174) (nd Zy (lf (cY "less" "Whitespace.less" 12 6)) ni) (lf (bI 2054 527)))) (nd abZ (nd aco (nd Zj (lf aea) ni) (nd (bI 1238 255) (lf (xT "_law_columns" 19)) ni)) (nd (cY "push" "_Accumulator.push" 5 1) (nd ZR (lf (xW 308)) ni) (lf xU))))) (nd aia (nd abE (nd abL (nd (cY "feed" "_ValueFormatter.feed" 4 5) (nd YS (lf adW) ni) (nd Z4 (lf bV) ni)) (nd xU (nd Zv (lf aej) ni) (lf (bI 1850 459)))) (nd abW (nd ack (nd Zg (lf ad7) ni) (nd (bI 1034 187) (lf aeP) ni)) (nd Yz (nd ZP (lf aev) ni) (lf (xT "map_table_b3" 10))))) (nd (p8 27 24 "cpy313.email.header" 194) (nd bV (nd ace (nd bV (lf (cY "longest_run_of_spaces" "Whitespace.longest_run_of_spaces" 12 2)) ni) (nd (bI 626 51) (lf aeK) ni)) (nd z9 (nd ZD (lf bV) ni) (lf (bI 2258 595)))) (nd ab2 (nd acr (nd Zn (lf aed) ni) (nd (bI 1442 323) (lf bV) ni)) (nd YH (nd ZX (lf aez) ni) (lf (p7 "Whitespace" 2436 2437 2438 120 250 251 2439 2440))))))) (nd boot_o_6 (nd boot_o_10 (nd abD (nd abJ (nd ab6 (nd YM (lf bV) ni) (nd Z3 (lf aeD) ni)) (nd (xW 94) (nd bV (lf aeh) ni) (lf (bI 1748 425)))) (nd abV (nd (cY "_ascii_split" "_ValueFormatter._ascii_split" 4 7) (nd Zf (lf ad6) ni) (nd (bI 932 153) (lf bV) ni)) (nd Yx (nd ZL (lf aet) ni) (lf adQ)))) (nd (z6 9 34 17 41 21 48 24 55 35 62 38 69 41 76 44 83 47 90) (nd abP (nd acd (nd YZ (lf ad0) ni) (nd (bI 524 17) (lf aeJ) ni)) (nd (p8 105 101 "cpy313.email.header" 194) (nd bV (lf aen) ni) (lf (bI 2156 561)))) (nd bV (nd acp (nd Zm (lf (cY "equal" "Whitespace.equal" 12 4)) ni) (nd (bI 1340 289) (lf aeT) ni)) (nd YF (nd ZV (lf bV) ni) (lf bF))))) (nd (p8 13 3 "__main__" 164) (nd bF (nd abM (nd ab9 (nd YT (lf adX) ni) (nd (xT "in_table_b1" 8) (lf aeG) ni)) (nd z7 (nd Zw (lf aek) ni) (lf (bI 1952 493)))) (nd (cY "newline" "_ValueFormatter.newline" 4 3) (nd bV (nd (cY "__str__" "_Accumulator.__str__" 5 5) (lf ad9) ni) (nd (bI 1136 221) (lf aeR) ni)) (nd YB (nd (xW 178) (lf aex) ni) (lf adT)))) (nd bV (nd abS (nd acg (nd Zc (lf ad3) ni) (nd (bI 728 85) (lf (xT "_law_page" 17)) ni)) (nd bV (nd ZF (lf aeq) ni) (lf (bI 2360 629)))) (nd ab3 (nd acu (nd (cY "reset" "_Accumulator.reset" 5 6) (lf bV) ni) (nd (bI 1544 357) (lf aeV) ni)) (nd YJ (nd lM (lf aeB) ni) (lf (agC "str_ascii_iterator" 2)))))))))
noncomputable def xX (P : Params) (os : OsState) : SharedT := ⟨agI P, 352, {}, Array.mk [], {}, 2597, os⟩
noncomputable def acx : Pos := ⟨234, 0, 278, 53⟩
noncomputable abbrev cG : Env := { scope := pw.main.scope, locals := mainNs, globals := mainNs, cells := [], code := .ref 13, frame := some 14 }
noncomputable abbrev eN : Code := .body (behindTheImports pw) cG
noncomputable abbrev bs1 : List (Code × Pos) := [(.builtin "claim.caller" {}, ⟨0, 0, 0, 0⟩)]
end
section
noncomputable abbrev q0 : Pos := ⟨0, 0, 0, 0⟩
noncomputable abbrev wF (w : World) (b : Bool) : World := w.withFollow "special-get-raises" b
theorem aib (w : World) (os : OsState) (b : Bool) : ru lq pw (wF w b) 11 (some (.ref 6)) 1 550 (S_b (wF w b).params os) ⟨(p6 [st 0, st 1, st 2, st 3, st 4] cG).wrap doneF deadEnd id id, eN, q0, [topFrame q0]⟩ = some (.next, S_4 (wF w b).params os, eN, q_4) := by
 cases b <;> kernel_rfl
theorem aic (w : World) (os : OsState) : segRunT treeTable pw w 11 (some (.ref 6)) 1 550 (S_b w.params os) (piecesOf [st 0, st 1, st 2, st 3, st 4] cG eN q0 [topFrame q0]) = some (.next, S_4 w.params os, eN, q_4) := by
 unfold piecesOf;rw [aby, xQ, zY];exact iV (P := λ w => ru lq pw w 11 (some (.ref 6)) 1 550 (S_b w.params os) ⟨(p6 [st 0, st 1, st 2, st 3, st 4] cG).wrap doneF deadEnd id id, eN, q0, [topFrame q0]⟩ = some (.next, S_4 w.params os, eN, q_4)) "special-get-raises" (λ b w => aib w os b) w
theorem aid (w : World) (os : OsState) (b : Bool) : ru lq pw (wF w b) 11 (some (.ref 6)) 1 514 (S_4 (wF w b).params os) ⟨(p6 [st 5, st 6] cG).wrap doneF deadEnd id id, eN, q_4, [topFrame q0]⟩ = some (.next, S_6 (wF w b).params os, eN, q_6) := by
 cases b <;> kernel_rfl
theorem aie (w : World) (os : OsState) : segRunT treeTable pw w 11 (some (.ref 6)) 1 514 (S_4 w.params os) (piecesOf [st 5, st 6] cG eN q_4 [topFrame q0]) = some (.next, S_6 w.params os, eN, q_6) := by
 unfold piecesOf;rw [aby, xQ, zY];exact iV (P := λ w => ru lq pw w 11 (some (.ref 6)) 1 514 (S_4 w.params os) ⟨(p6 [st 5, st 6] cG).wrap doneF deadEnd id id, eN, q_4, [topFrame q0]⟩ = some (.next, S_6 w.params os, eN, q_6)) "special-get-raises" (λ b w => aid w os b) w
theorem agJ (w : World) (os : OsState) (b : Bool) : ru lq pw (wF w b) 11 (some (.ref 6)) 1 746 (S_9 (wF w b).params os) ⟨(p6 [st 10, st 11, st 12, st 13, st 14, st 15, st 16, st 17, st 18, st 19, st 20] cG).wrap doneF deadEnd id id, eN, q_9, [topFrame q0]⟩ = some (.next, xX (wF w b).params os, eN, acx) := by
 cases b <;> kernel_rfl
theorem agK (w : World) (os : OsState) : segRunT treeTable pw w 11 (some (.ref 6)) 1 746 (S_9 w.params os) (piecesOf [st 10, st 11, st 12, st 13, st 14, st 15, st 16, st 17, st 18, st 19, st 20] cG eN q_9 [topFrame q0]) = some (.next, xX w.params os, eN, acx) := by
 unfold piecesOf;rw [aby, xQ, zY];exact iV (P := λ w => ru lq pw w 11 (some (.ref 6)) 1 746 (S_9 w.params os) ⟨(p6 [st 10, st 11, st 12, st 13, st 14, st 15, st 16, st 17, st 18, st 19, st 20] cG).wrap doneF deadEnd id id, eN, q_9, [topFrame q0]⟩ = some (.next, xX w.params os, eN, acx)) "special-get-raises" (λ b w => agJ w os b) w
theorem p10 (w : World) (os : OsState) : bA uF pw w 11 (some (.ref 6)) 200 200 eN bs1 (p6 [st 8] cG) (S_7 w.params os) q_7 = some (.ok .next, S_8 w.params os, q_8, 171) := by
 kernel_rfl
noncomputable def kt : List (Nat × Nat) := [(173, 406), (847, 407), (6150, 408), (6155, 409), (6156, 410), (6157, 411), (8203, 412), (8204, 413), (8205, 414), (8288, 415), (65279, 416), (65024, 422), (65025, 423), (65026, 424), (65027, 425), (65028, 426), (65029, 427), (65030, 428), (65031, 429), (65032, 430), (65033, 431), (65034, 432), (65035, 433), (65036, 434), (65037, 435), (65038, 436), (65039, 437)]
noncomputable def sO (l : List Nat) (n k : Nat) (pl : List Nat) (v : Nat) (P : Params) : Obj := ⟨(.type "set"), none, (.set (l.map λ i => ((((kt.getD i (0, 0)).1 : Nat) : Int), Value.int ((kt.getD i (0, 0)).1 : Nat) (kt.getD i (0, 0)).2)).toArray n { mask := k, place := pl.toArray, dummies := [].toArray, finger := 0, led := (!P.followText "set-order"), moves := v, plain := true }), [].toArray⟩
noncomputable def aif : PO := sO [] 0 7 [] 0
noncomputable def aig : PO := sO [0] 1 7 [5] 0
noncomputable def aih : PO := sO [0,1] 2 7 [5,7] 0
noncomputable def aii : PO := sO [0,2,1] 3 7 [5,6,7] 0
noncomputable def aij : PO := sO [3,0,2,1] 4 7 [3,5,6,7] 0
noncomputable def aik : PO := sO [2,3,4,0,1] 6 31 [6,11,12,13,15] 1
noncomputable def ail : PO := sO [2,3,4,0,5,1] 7 31 [6,11,12,13,14,15] 1
noncomputable def aim : PO := sO [2,3,4,0,5,1,6] 8 31 [6,11,12,13,14,15,16] 1
noncomputable def ain : PO := sO [2,3,4,0,5,1,6,7] 9 31 [6,11,12,13,14,15,16,17] 1
noncomputable def aio : PO := sO [2,3,4,0,5,1,6,7,8] 10 31 [6,11,12,13,14,15,16,17,18] 1
noncomputable def agL : PO := sO [9,2,3,4,0,5,1,6,7,8] 11 31 [0,6,11,12,13,14,15,16,17,18] 1
noncomputable def agM : PO := sO [9,2,3,4,0,5,1,6,7,8,10] 12 31 [0,6,11,12,13,14,15,16,17,18,31] 1
noncomputable def agN : PO := sO [9,11,2,3,4,0,5,1,6,7,8,10] 13 31 [0,1,6,11,12,13,14,15,16,17,18,31] 1
noncomputable def agO : PO := sO [9,11,12,2,3,4,0,5,1,6,7,8,10] 14 31 [0,1,2,6,11,12,13,14,15,16,17,18,31] 1
noncomputable def agP : PO := sO [9,11,12,13,2,3,4,0,5,1,6,7,8,10] 15 31 [0,1,2,3,6,11,12,13,14,15,16,17,18,31] 1
noncomputable def agQ : PO := sO [9,11,12,13,14,2,3,4,0,5,1,6,7,8,10] 16 31 [0,1,2,3,4,6,11,12,13,14,15,16,17,18,31] 1
noncomputable def agR : PO := sO [9,11,12,13,14,15,2,3,4,0,5,1,6,7,8,10] 17 31 [0,1,2,3,4,5,6,11,12,13,14,15,16,17,18,31] 1
noncomputable def agS : PO := sO [9,11,12,13,14,15,2,16,3,4,0,5,1,6,7,8,10] 18 31 [0,1,2,3,4,5,6,7,11,12,13,14,15,16,17,18,31] 1
noncomputable def agT : PO := sO [9,11,12,13,14,15,2,16,17,3,4,0,5,1,6,7,8,10] 19 31 [0,1,2,3,4,5,6,7,8,11,12,13,14,15,16,17,18,31] 1
noncomputable def agU : PO := sO [11,12,13,14,15,16,2,17,18,3,4,5,6,7,8,0,1,9,10] 21 127 [0,1,2,3,4,5,6,7,8,11,12,13,14,15,16,45,79,96,127] 2
noncomputable def agV : PO := sO [11,12,13,14,15,16,2,17,18,19,3,4,5,6,7,8,0,1,9,10] 22 127 [0,1,2,3,4,5,6,7,8,9,11,12,13,14,15,16,45,79,96,127] 2
noncomputable def agW : PO := sO [11,12,13,14,15,16,2,17,18,19,20,3,4,5,6,7,8,0,1,9,10] 23 127 [0,1,2,3,4,5,6,7,8,9,10,11,12,13,14,15,16,45,79,96,127] 2
noncomputable def agX : PO := sO [11,12,13,14,15,16,2,17,18,19,20,3,4,5,6,7,8,21,0,1,9,10] 24 127 [0,1,2,3,4,5,6,7,8,9,10,11,12,13,14,15,16,17,45,79,96,127] 2
noncomputable def agY : PO := sO [11,12,13,14,15,16,2,17,18,19,20,3,4,5,6,7,8,21,22,0,1,9,10] 25 127 [0,1,2,3,4,5,6,7,8,9,10,11,12,13,14,15,16,17,18,45,79,96,127] 2
noncomputable def agZ : PO := sO [11,12,13,14,15,16,2,17,18,19,20,3,4,5,6,7,8,21,22,23,0,1,9,10] 26 127 [0,1,2,3,4,5,6,7,8,9,10,11,12,13,14,15,16,17,18,19,45,79,96,127] 2
noncomputable def ag0 : PO := sO [11,12,13,14,15,16,2,17,18,19,20,3,4,5,6,7,8,21,22,23,24,0,1,9,10] 27 127 [0,1,2,3,4,5,6,7,8,9,10,11,12,13,14,15,16,17,18,19,20,45,79,96,127] 2
noncomputable def ag1 : PO := sO [11,12,13,14,15,16,2,17,18,19,20,3,4,5,6,7,8,21,22,23,24,25,0,1,9,10] 28 127 [0,1,2,3,4,5,6,7,8,9,10,11,12,13,14,15,16,17,18,19,20,21,45,79,96,127] 2
noncomputable def aeX : PO := sO [11,12,13,14,15,16,2,17,18,19,20,3,4,5,6,7,8,21,22,23,24,25,26,0,1,9,10] 29 127 [0,1,2,3,4,5,6,7,8,9,10,11,12,13,14,15,16,17,18,19,20,21,22,45,79,96,127] 2
noncomputable def qL : Pos := ⟨110, 9, 110, 107⟩
noncomputable def TL (P : Params) : BT := xR [ZQ, ZR, ZS, ZV, ZW, ZX, ZZ] 183 (T_6 P) P
noncomputable def LL (o : PO) (i : Int) (n : Nat) (P : Params) (os : OsState) : SharedT := ⟨((TL P).ins 190 (o P)).ins 191 ⟨(.type "list_iterator"), none, (.fields [(.ref 189), (.int i 0)].toArray), [].toArray⟩, 192, {}, Array.mk [], {}, n, os⟩
noncomputable def L_0 := LL aif 0 438
noncomputable def L_1 := LL aig 1 439
noncomputable def L_2 := LL aih 2 440
noncomputable def L_3 := LL aii 3 441
noncomputable def L_4 := LL aij 4 442
noncomputable def L_5 := LL aik 5 443
noncomputable def L_6 := LL ail 6 444
noncomputable def L_7 := LL aim 7 445
noncomputable def L_8 := LL ain 8 446
noncomputable def L_9 := LL aio 9 447
noncomputable def ag2 := LL agL 10 448
noncomputable def ag3 := LL agM 11 449
noncomputable def ag4 := LL agN 12 450
noncomputable def ag5 := LL agO 13 451
noncomputable def ag6 := LL agP 14 452
noncomputable def ag7 := LL agQ 15 453
noncomputable def ag8 := LL agR 16 454
noncomputable def ag9 := LL agS 17 455
noncomputable def aha := LL agT 18 456
noncomputable def ahb := LL agU 19 457
noncomputable def ahc := LL agV 20 458
noncomputable def ahd := LL agW 21 459
noncomputable def ahe := LL agX 22 460
noncomputable def ahf := LL agY 23 461
noncomputable def ahg := LL agZ 24 462
noncomputable def ahh := LL ag0 25 463
noncomputable def ahi := LL ag1 26 464
noncomputable def ahj := LL aeX 27 465
noncomputable def cA : Code := .builtin "set.update.loop" ⟨[.ref 190, .ref 191], []⟩
noncomputable def acy (P : Params) (os : OsState) : SharedT := ⟨(((((TL P).ins 190 (aeX P)).ins 191 (Z0 P)).ins 192 (Z1 P)).ins 193 (Z2 P)), 194, {}, Array.mk [], {}, 465, os⟩
noncomputable abbrev jB (w : World) (os : OsState) (b : Bool) (bs : List (Code × Pos)) (x y : Params -> OsState -> SharedT) (n : Nat) : Prop := bA uF pw (wF w b) 11 (some (.ref 6)) 100 100 cA bs (uF cA) (x (wF w b).params os) qL = some (.ok (.again cA), y (wF w b).params os, qL, n)
theorem its (w : World) (os : OsState) (b : Bool) (bs : List (Code × Pos)) : jB w os b bs L_0 L_1 81 /\ jB w os b bs L_1 L_2 81 /\ jB w os b bs L_2 L_3 81 /\ jB w os b bs L_3 L_4 81 /\ jB w os b bs L_4 L_5 79 /\ jB w os b bs L_5 L_6 81 /\ jB w os b bs L_6 L_7 81 /\ jB w os b bs L_7 L_8 81 /\ jB w os b bs L_8 L_9 81 /\ jB w os b bs L_9 ag2 81 /\ jB w os b bs ag2 ag3 81 /\ jB w os b bs ag3 ag4 81 /\ jB w os b bs ag4 ag5 81 /\ jB w os b bs ag5 ag6 81 /\ jB w os b bs ag6 ag7 81 /\ jB w os b bs ag7 ag8 81 /\ jB w os b bs ag8 ag9 81 /\ jB w os b bs ag9 aha 81 /\ jB w os b bs aha ahb 79 /\ jB w os b bs ahb ahc 81 /\ jB w os b bs ahc ahd 81 /\ jB w os b bs ahd ahe 81 /\ jB w os b bs ahe ahf 81 /\ jB w os b bs ahf ahg 81 /\ jB w os b bs ahg ahh 81 /\ jB w os b bs ahh ahi 81 /\ jB w os b bs ahi ahj 81 /\ pW uF pw (wF w b) 11 (some (.ref 6)) 100 100 cA bs (uF cA) (ahj (wF w b).params os) qL = some (.ok (.ret .none), acy (wF w b).params os, 84) := by
 cases b
 · exact ⟨by kernel_rfl, by kernel_rfl, by kernel_rfl, by kernel_rfl, by kernel_rfl, by kernel_rfl, by kernel_rfl, by kernel_rfl, by kernel_rfl, by kernel_rfl, by kernel_rfl, by kernel_rfl, by kernel_rfl, by kernel_rfl, by kernel_rfl, by kernel_rfl, by kernel_rfl, by kernel_rfl, by kernel_rfl, by kernel_rfl, by kernel_rfl, by kernel_rfl, by kernel_rfl, by kernel_rfl, by kernel_rfl, by kernel_rfl, by kernel_rfl, by kernel_rfl⟩
 · exact ⟨by kernel_rfl, by kernel_rfl, by kernel_rfl, by kernel_rfl, by kernel_rfl, by kernel_rfl, by kernel_rfl, by kernel_rfl, by kernel_rfl, by kernel_rfl, by kernel_rfl, by kernel_rfl, by kernel_rfl, by kernel_rfl, by kernel_rfl, by kernel_rfl, by kernel_rfl, by kernel_rfl, by kernel_rfl, by kernel_rfl, by kernel_rfl, by kernel_rfl, by kernel_rfl, by kernel_rfl, by kernel_rfl, by kernel_rfl, by kernel_rfl, by kernel_rfl⟩
noncomputable abbrev dM : Option Value := some (.ref 6)
noncomputable def th9 : Thread := ⟨(p6 [st 7] cG).wrap doneF deadEnd id id, eN, q_6, [topFrame ⟨0, 0, 0, 0⟩]⟩
noncomputable def qT (W : World) (os : OsState) : List Frame := match tGo lq pw W 11 dM 1 428 (S_6 W.params os) th9 with
 | some (_, t) => t.stack
 | none => []
noncomputable def hdK : List Frame -> Result -> Sem PySem.Fin
 | .ret k _ _ _ _ _ _ :: _ => k
 | _ => λ _ => .unsupported ""
noncomputable def hdG : List Frame -> Bool
 | .ret _ _ g _ _ _ _ :: _ => g
 | _ => false
noncomputable def hdL : List Frame -> List Value
 | .ret _ _ _ l _ _ _ :: _ => l
 | _ => []
noncomputable def hdC : List Frame -> Code
 | .ret _ _ _ _ c _ _ :: _ => c
 | _ => cA
noncomputable def hdP : List Frame -> Pos
 | .ret _ _ _ _ _ p _ :: _ => p
 | _ => default
noncomputable def hdV : List Frame -> List Value
 | .ret _ _ _ _ _ _ v :: _ => v
 | _ => []
theorem pA (w : World) (os : OsState) (b : Bool) : tGo lq pw (wF w b) 11 dM 1 428 (S_6 (wF w b).params os) th9 = some (L_0 (wF w b).params os, ⟨afb lq cA, cA, qL, qT (wF w b) os⟩) /\ qT (wF w b) os = .ret (hdK (qT (wF w b) os)) none (hdG (qT (wF w b) os)) (hdL (qT (wF w b) os)) (hdC (qT (wF w b) os)) (hdP (qT (wF w b) os)) (hdV (qT (wF w b) os)) :: (qT (wF w b) os).tail /\ (qT (wF w b) os).tail.length = 3 /\ topHandled (qT (wF w b) os).tail = none /\ ru lq pw (wF w b) 11 dM 1 20 (acy (wF w b).params os) ⟨hdK (qT (wF w b) os) (.ok (.ret .none)), hdC (qT (wF w b) os), hdP (qT (wF w b) os), (qT (wF w b) os).tail⟩ = some (.next, S_7 (wF w b).params os, eN, q_7) := by
 cases b
 · exact ⟨by kernel_rfl, by kernel_rfl, by kernel_rfl, by kernel_rfl, by kernel_rfl⟩
 · exact ⟨by kernel_rfl, by kernel_rfl, by kernel_rfl, by kernel_rfl, by kernel_rfl⟩
section
variable {tb : String -> Option Builtin} {p : Program} {w : World} {gZ : Nat} {ann : Option Value}
theorem qb : ∀ {n m : Nat} {s gJ : SharedT} {t t₁ : Thread} {r : Flow × SharedT × Code × Pos}, segGoT tb p w gZ ann 1 n s t = some (gJ, t₁) -> segRunT tb p w gZ ann 1 m gJ t₁ = some r -> segRunT tb p w gZ ann 1 (n + m) s t = some r
 | 0, m, s, gJ, t, t₁, r, h, k => by
   cases h
   rw [Nat.zero_add]; exact k
 | n + 1, m, s, gJ, t, t₁, r, h, k => by
   rw [show n + 1 + m = n + m + 1 by lia];unfold segGoT at h;unfold segRunT;cases he : endAt 1 t with
   | some x => rw [he] at h; cases h
   | none =>
     rw [he] at h;cases hk : stepOk gZ ann t with
     | false => rw [hk] at h; cases h
     | true =>
       rw [hk] at h;cases hs : stepT (denote tb) p w s t with
       | none => rw [hs] at h; cases h
       | some x =>
         obtain ⟨gQ, t₂⟩ := x;rw [hs] at h;exact qb h k
theorem rz {n : Nat} {co : Code} {q0 : Pos} {l : List Stmt} {env : Env} {s s' : SharedT} {q q' : Pos} (h : aq tb p w gZ ann co [(.builtin "claim.caller" {}, q0)] n (execs l env) s q (.ok .next) s' q') : segRunT tb p w gZ ann 1 (n + 1) s (piecesOf l env co q [topFrame q0]) = some (.next, s', co, q') := by
 have := h doneF deadEnd id id [topFrame q0] (by simp) rfl rfl;exact qb this rfl
end
theorem xY : eQ cA = false := by decide +kernel
theorem Z8 (w : World) (os : OsState) (b : Bool) (bs : List (Code × Pos)) : lg treeTable pw (wF w b) 11 dM cA bs 560 (denote treeTable cA) (L_0 (wF w b).params os) qL (.ok (.ret .none)) (acy (wF w b).params os) := by
 have h := its w os b bs;unfold jB at h;rw [<- eD] at h;have ag : ∀ {k m n : Nat} {s gJ s' : SharedT}, bA (denote treeTable) pw (wF w b) 11 dM 100 100 cA bs (denote treeTable cA) s qL = some (.ok (.again cA), gJ, qL, k) -> n = (100 - k) + (m + 1) ->
     lg treeTable pw (wF w b) 11 dM cA bs m (denote treeTable cA) gJ qL (.ok (.ret .none)) s' -> lg treeTable pw (wF w b) 11 dM cA bs n (denote treeTable cA) s qL (.ok (.ret .none)) s' := λ h1 e h2 => by
   subst e;exact lg.again (aq.of_run h1) xY h2
 exact ag (h.1) rfl (ag (h.2.1) rfl (ag (h.2.2.1) rfl (ag (h.2.2.2.1) rfl (ag (h.2.2.2.2.1) rfl (ag (h.2.2.2.2.2.1) rfl (ag (h.2.2.2.2.2.2.1) rfl (ag (h.2.2.2.2.2.2.2.1) rfl (ag (h.2.2.2.2.2.2.2.2.1) rfl (ag (h.2.2.2.2.2.2.2.2.2.1) rfl (ag (h.2.2.2.2.2.2.2.2.2.2.1) rfl (ag (h.2.2.2.2.2.2.2.2.2.2.2.1) rfl (ag (h.2.2.2.2.2.2.2.2.2.2.2.2.1) rfl (ag (h.2.2.2.2.2.2.2.2.2.2.2.2.2.1) rfl (ag (h.2.2.2.2.2.2.2.2.2.2.2.2.2.2.1) rfl (ag (h.2.2.2.2.2.2.2.2.2.2.2.2.2.2.2.1) rfl (ag (h.2.2.2.2.2.2.2.2.2.2.2.2.2.2.2.2.1) rfl (ag (h.2.2.2.2.2.2.2.2.2.2.2.2.2.2.2.2.2.1) rfl (ag (h.2.2.2.2.2.2.2.2.2.2.2.2.2.2.2.2.2.2.1) rfl (ag (h.2.2.2.2.2.2.2.2.2.2.2.2.2.2.2.2.2.2.2.1) rfl (ag (h.2.2.2.2.2.2.2.2.2.2.2.2.2.2.2.2.2.2.2.2.1) rfl (ag (h.2.2.2.2.2.2.2.2.2.2.2.2.2.2.2.2.2.2.2.2.2.1) rfl (ag (h.2.2.2.2.2.2.2.2.2.2.2.2.2.2.2.2.2.2.2.2.2.2.1) rfl (ag (h.2.2.2.2.2.2.2.2.2.2.2.2.2.2.2.2.2.2.2.2.2.2.2.1) rfl (ag (h.2.2.2.2.2.2.2.2.2.2.2.2.2.2.2.2.2.2.2.2.2.2.2.2.1) rfl (ag (h.2.2.2.2.2.2.2.2.2.2.2.2.2.2.2.2.2.2.2.2.2.2.2.2.2.1) rfl (ag (h.2.2.2.2.2.2.2.2.2.2.2.2.2.2.2.2.2.2.2.2.2.2.2.2.2.2.1) rfl (lg.of_run (h.2.2.2.2.2.2.2.2.2.2.2.2.2.2.2.2.2.2.2.2.2.2.2.2.2.2.2))))))))))))))))))))))))))))
theorem p9b (w : World) (os : OsState) (b : Bool) : segRunT treeTable pw (wF w b) 11 dM 1 1008 (S_6 (wF w b).params os) (piecesOf [st 7] cG eN q_6 [topFrame ⟨0, 0, 0, 0⟩]) = some (.next, S_7 (wF w b).params os, eN, q_7) := by
 obtain ⟨h1, h2, h3, h4, h5⟩ := pA w os b;have e : piecesOf [st 7] cG eN q_6 [topFrame ⟨0, 0, 0, 0⟩] = th9 := by
   unfold piecesOf th9;rw [zY]
 rw [e];have g1 : segGoT treeTable pw (wF w b) 11 dM 1 428 (S_6 (wF w b).params os) th9 = some (L_0 (wF w b).params os, ⟨denote treeTable cA, cA, qL, qT (wF w b) os⟩) := by
   rw [eGo, xQ, agw]; exact h1
 have hB : (qT (wF w b) os).tail ≠ [] := λ e => by rw [e] at h3; cases h3
 generalize hf : qT (wF w b) os = fr at h2 h3 h4 h5 g1 hB;rw [h2] at g1;have g2 := Z8 w os b ((hdC fr, hdP fr) :: fr.tail.map Frame.where_) (hdK fr) (hdG fr) (hdL fr) (hdC fr) (hdP fr) (hdV fr) fr.tail hB h4 rfl;have g3 : segRunT treeTable pw (wF w b) 11 dM 1 20 (acy (wF w b).params os) ⟨hdK fr (.ok (.ret .none)), hdC fr, hdP fr, fr.tail⟩ = some (.next, S_7 (wF w b).params os, eN, q_7) := by
   rw [aby, xQ]; exact h5
 exact qb g1 (qb g2 g3)
theorem p9 (w : World) (os : OsState) : segRunT treeTable pw w 11 dM 1 1008 (S_6 w.params os) (piecesOf [st 7] cG eN q_6 [topFrame ⟨0, 0, 0, 0⟩]) = some (.next, S_7 w.params os, eN, q_7) :=
 iV (P := λ w => segRunT treeTable pw w 11 dM 1 1008 (S_6 w.params os) (piecesOf [st 7] cG eN q_6 [topFrame ⟨0, 0, 0, 0⟩]) = some (.next, S_7 w.params os, eN, q_7)) "special-get-raises" (λ b w => p9b w os b) w
theorem aip (w : World) (os : OsState) : segRunT treeTable pw w 11 dM 1 30 (S_7 w.params os) (piecesOf [st 8] cG eN q_7 [topFrame ⟨0, 0, 0, 0⟩]) = some (.next, S_8 w.params os, eN, q_8) := by
 have h := p10 w os;rw [<- zY] at h;exact rz (aq.of_runD eD h)
noncomputable abbrev tg3 : List Expr := (stG (st 9)).2.2.2.2.1
noncomputable abbrev ap3 : Pos := (stG (st 9)).2.2.2.1
noncomputable abbrev dp3 : Pos := (exG (stG (st 9)).2.2.2.2.2).2.2.2.2
theorem aiq : st 9 = .Assign tg3 (.Dict ks3 vs3 dp3) ap3 := by kernel_rfl
theorem ahk : (evalEachOpt ks3 cG).zip ((evalEach vs3 cG).map λ v => (do let x <- v; standAt dp3; pure x : Sem Value)) = b3.map (fM cG dp3) := by kernel_rfl
noncomputable def R3 (P : Params) : Option (BT × Nat × Nat × List DictEntry × List (Int × Str)) := bG 11 201 (b3.drop 17) [] ((T_8 P).ins 201 (dictOf (aY 473 (b3.take 17)) 17)) 202 524 (aY 473 (b3.take 17))
noncomputable def T3 (P : Params) : BT := ((R3 P).getD (.nil, 0, 0, [], [])).1
noncomputable def es3 (P : Params) : List DictEntry := ((R3 P).getD (.nil, 0, 0, [], [])).2.2.2.1
theorem ahl (P : Params) : R3 P = some (T3 P, 239, 2411, es3 P, b3.drop 646) := by kernel_rfl
theorem wL : dK 0 b3 = true := by decide +kernel
theorem Z9 : ∀ x ∈ b3, x.1 < 2 ^ 60 := by
 have : b3.all (λ x => decide (x.1 < 2 ^ 60)) = true := by decide +kernel
 intro x hx;exact of_decide_eq_true (List.all_eq_true.mp this x hx)
theorem qd : b3.length = 650 := by decide +kernel
theorem air (P : Params) : chk 11 201 (T3 P) 239 = true := by kernel_rfl
theorem ahm (P : Params) : (((T_8 P).ins 201 (dictOf [] 0)).get 201).isSome = true := by kernel_rfl
noncomputable def TD (P : Params) : BT := ((T3 P).ins 239 (dictOf (bM 2411 (b3.drop 646)) (b3.drop 646).length)).set 201 (λ _ => dictOf (es3 P ++ bM 2411 (b3.drop 646)) ((es3 P).length + (b3.drop 646).length))
noncomputable def SD (P : Params) (os : OsState) : SharedT := ⟨TD P, 240, {}, Array.mk [], {}, 2411 + 3 * (b3.drop 646).length, os⟩
noncomputable abbrev n3 : Nat := 223 + bZ (b3.drop 17) 0 + (6 + 19 * (b3.drop 646).length)
theorem ahn (w : World) (os : OsState) (q : Pos) : aq treeTable pw w 11 dM eN bs1 n3 (dictDisplay (b3.map (fM cG dp3))) (S_8 w.params os) q (.ok (.ref 201)) (SD w.params os) dp3 := by
 have h := uE (p := pw) (w := w) (gZ := 11) (ann := dM) (co := eN) (bs := bs1) (T := T_8 w.params) (n := 201) (life := {}) (gens := Array.mk []) (drawn := {}) (toks := 473) (os := os) (q := q) (env := cG) (pos := dp3)
   (l0 := b3.take 17) (l1 := b3.drop 17) (run := b3.drop 646) (T2 := T3 w.params) (n2 := 239) (t2 := 2411) (es2 := es3 w.params) (by rw [List.length_take, qd]; rfl) (ahm _) rfl (ahl _) (by
     intro e;have := congrArg List.length e;rw [List.length_drop, qd] at this;cases this) (by rw [List.length_drop, qd]; decide) (air _) (by rw [List.take_append_drop]; exact wL) (by rw [List.take_append_drop]; exact Z9) (by rw [List.length_take, List.length_drop, qd]; decide)
 rw [List.take_append_drop] at h;exact h
theorem afl (w : World) (s : SharedT) (q : Pos) : bA (denote treeTable) pw w 11 dM 20 20 eN bs1 (swapsWithSole tg3 (.Dict ks3 vs3 dp3) ap3.line cG) s q = some (.ok false, s, q, 20) := by kernel_rfl
theorem ais (w : World) (os : OsState) : bA uF pw w 11 dM 60 60 eN bs1 (do assignStores cG (.ref 201) (<- swappedStores tg3 (.Dict ks3 vs3 dp3) cG) ((assignEach tg3 cG).map (·.2))) (SD w.params os) dp3 = some (.ok .next, S_9 w.params os, q_9, 53) := by
 kernel_rfl
theorem rA {p : Program} {w : World} {gZ : Nat} {ann : Option Value} {co : Code} {bs : List (Code × Pos)} {s : SharedT} {q q' : Pos} : aq treeTable p w gZ ann co bs 1 (standAt q') s q (.ok ()) s q' := aq.of_run (d := 3) (k := 1) (k' := 0) rfl
theorem uG {p : Program} {w : World} {gZ : Nat} {ann : Option Value} {co : Code} {bs : List (Code × Pos)} {env : Env} {ks : List (Option Expr)} {vs : List Expr} {dp ap : Pos} {tg : List Expr} {l : List (Int × Str)} {s gJ gQ : SharedT} {q q₂ : Pos} {n m : Nat} {v : Value} {f : Flow}
   (hsw : ∀ s q, bA (denote treeTable) p w gZ ann 20 20 co bs (swapsWithSole tg (.Dict ks vs dp) ap.line env) s q = some (.ok false, s, q, 20))
   (hz : (evalEachOpt ks env).zip ((evalEach vs env).map λ v => (do let x <- v; standAt dp; pure x : Sem Value)) = l.map (fM env dp)) (hd : ∀ q, aq treeTable p w gZ ann co bs n (dictDisplay (l.map (fM env dp))) s q (.ok v) gJ dp)
   (hf : aq treeTable p w gZ ann co bs m (do assignStores env v (<- swappedStores tg (.Dict ks vs dp) env) ((assignEach tg env).map (·.2))) gJ dp (.ok f) gQ q₂) :
   aq treeTable p w gZ ann co bs (1 + (0 + ((1 + n) + m))) (exec (.Assign tg (.Dict ks vs dp) ap) env) s q (.ok f) gQ q₂ := by
 rw [exec_Assign];refine aq.bind rA ?_;refine aq.bind (aq.of_run (d := 20) (k := 20) (k' := 20) (hsw _ _)) ?_;rw [if_neg Bool.false_ne_true];refine aq.bind (a := v) (gJ := gJ) (q₁ := dp) ?_ hf;rw [show eval (.Dict ks vs dp) env = (do standAt dp; dictDisplay ((evalEachOpt ks env).zip ((evalEach vs env).map λ v => (do let x <- v; standAt dp; pure x : Sem Value)))) from rfl];refine aq.bind rA ?_;rw [hz];exact hd dp
theorem rB {p : Program} {w : World} {gZ : Nat} {ann : Option Value} {co : Code} {bs : List (Code × Pos)} {env : Env} {x : Stmt} {s s' : SharedT} {q q' : Pos} {n : Nat} (h : aq treeTable p w gZ ann co bs n (exec x env) s q (.ok .next) s' q') : aq treeTable p w gZ ann co bs (n + 0) (execs [x] env) s q (.ok .next) s' q' := by
 rw [execs_cons];exact aq.bind (n := n) (m := 0) h (by rw [execs_nil]; exact aq.pure)
theorem ait (w : World) (os : OsState) : segRunT treeTable pw w 11 dM 1 ((1 + (0 + ((1 + n3) + 7))) + 0 + 1) (S_8 w.params os) (piecesOf [st 9] cG eN q_8 [topFrame ⟨0, 0, 0, 0⟩]) = some (.next, S_9 w.params os, eN, q_9) := by
 refine rz (rB ?_);rw [aiq];exact uG (λ s q => afl w s q) ahk (λ q => ahn w os q) (aq.of_runD eD (ais w os))
noncomputable abbrev B1 : List Stmt := behindTheImports pw
theorem aho : B1 = [st 0, st 1, st 2, st 3, st 4] ++ ([st 5, st 6] ++ ([st 7] ++ ([st 8] ++ ([st 9] ++ ([st 10, st 11, st 12, st 13, st 14, st 15, st 16, st 17, st 18, st 19, st 20] ++ ([])))))) := by kernel_rfl
theorem aiu (w : World) (os : OsState) : topGo treeTable pw w 11 dM 12 ⟨boot_heap w.params, Array.mk [], boot_drawn, boot_toks, os⟩ (topStub pw) = some ((S_b w.params os).abs, ⟨denote treeTable eN, eN, q0, [topFrame q0]⟩) := by
 kernel_rfl
theorem aiv (w : World) (os : OsState) : segRunT treeTable pw w 11 dM 1 1 (S_b w.params os) (blockOf B1 cG eN q0 [topFrame q0]) = some (.next, S_b w.params os, eN, q0) := by
 kernel_rfl
noncomputable abbrev N11 : Nat := ((1 + (0 + ((1 + n3) + 7))) + 0 + 1)
noncomputable abbrev M1 : Nat := 12 + (1 + (550 + (514 + (1008 + (30 + (N11 + (746 + 2)))))))
theorem aiw (w : World) (os : OsState) : topRun treeTable pw w 11 dM M1 ⟨boot_heap w.params, Array.mk [], boot_drawn, boot_toks, os⟩ (topStub pw) = some (xX w.params os).abs := by
 have k0 : topRun treeTable pw w 11 dM 2 (xX w.params os).abs (restOf [] cG eN acx [topFrame q0]) = some (xX w.params os).abs := rfl;have k1 := piece_app (segRun_of (agK w os)) k0;have k2 := piece_app (segRun_of (ait w os)) k1;have k3 := piece_app (segRun_of (aip w os)) k2;have k4 := piece_app (segRun_of (p9 w os)) k3;have k5 := piece_app (segRun_of (aie w os)) k4;have k6 := piece_app (segRun_of (aic w os)) k5;rw [<- aho] at k6;exact go_top (aiu w os) (piece_block (segRun_of (aiv w os)) k6)
end
section
set_option tactic.hygienic false
abbrev rw1 : OpenLaw := PySem.Challenge.rw_rw0126_02
noncomputable def K1 (P : Params) : Frag := (nat_lit 2, PySem.W.boot_o_2 P) :: (nat_lit 3, agH P) :: (nat_lit 15, abB P) :: (nat_lit 17, abC P) :: (nat_lit 18, abD P) :: (nat_lit 20, abE P) :: (nat_lit 21, abF P) :: (nat_lit 29, abG P) :: (nat_lit 31, abH P) :: (nat_lit 32, abI P) :: (nat_lit 34, abJ P) :: (nat_lit 35, abK P) :: (nat_lit 36, abL P) :: (nat_lit 38, abM P) :: (nat_lit 39, abN P) :: (nat_lit 41, abO P) :: (nat_lit 42, abP P) :: (nat_lit 43, abQ P) :: (nat_lit 45, abR P) :: (nat_lit 46, abS P) :: (nat_lit 48, abT P) :: (nat_lit 49, abU P) :: (nat_lit 50, abV P) :: (nat_lit 52, abW P) :: (nat_lit 53, abX P) :: (nat_lit 55, abY P) :: (nat_lit 56, abZ P) :: (nat_lit 57, ab0 P) :: (nat_lit 59, ab1 P) :: (nat_lit 60, ab2 P) :: (nat_lit 62, ab3 P) :: (nat_lit 63, ab4 P) :: (nat_lit 64, ab5 P) :: (nat_lit 66, ab6 P) :: (nat_lit 67, ab7 P) :: (nat_lit 69, ab8 P) :: (nat_lit 70, ab9 P) :: (nat_lit 71, aca P) :: (nat_lit 73, acb P) :: (nat_lit 74, acd P) :: (nat_lit 76, ace P) :: (nat_lit 77, acf P) :: (nat_lit 78, acg P) :: (nat_lit 80, ach P) :: (nat_lit 81, aci P) :: (nat_lit 83, acj P) :: (nat_lit 84, ack P) :: (nat_lit 85, acl P) :: (nat_lit 87, acn P) :: (nat_lit 88, aco P) :: (nat_lit 90, acp P) :: (nat_lit 91, acq P) :: (nat_lit 92, acr P) :: (nat_lit 93, acs P) :: (nat_lit 94, acu P) :: (nat_lit 95, acv P) :: (nat_lit 96, acw P) :: (nat_lit 99, afk P) :: (nat_lit 102, z7 P) :: (nat_lit 107, z8 P) :: (nat_lit 108, z9 P) :: (nat_lit 109, Yu P) :: (nat_lit 111, Yv P) :: (nat_lit 112, Yw P) :: (nat_lit 114, Yx P) :: (nat_lit 115, Yy P) :: (nat_lit 116, Yz P) :: (nat_lit 118, YB P) :: (nat_lit 119, YC P) :: (nat_lit 121, YD P) :: (nat_lit 122, YF P) :: (nat_lit 123, YG P) :: (nat_lit 124, YH P) :: (nat_lit 126, YJ P) :: (nat_lit 127, YK P) :: (nat_lit 129, YL P) :: (nat_lit 130, YM P) :: (nat_lit 131, YQ P) :: (nat_lit 132, YS P) :: (nat_lit 134, YT P) :: (nat_lit 135, YW P) :: (nat_lit 137, YX P) :: (nat_lit 138, YZ P) :: (nat_lit 139, Za P) :: (nat_lit 141, Zb P) :: (nat_lit 142, Zc P) :: (nat_lit 144, Zd P) :: (nat_lit 145, Ze P) :: (nat_lit 146, Zf P) :: (nat_lit 148, Zg P) :: (nat_lit 149, Zh P) :: (nat_lit 151, Zi P) :: (nat_lit 152, Zj P) :: (nat_lit 153, Zk P) :: (nat_lit 154, Zm P) :: (nat_lit 156, Zn P) :: (nat_lit 157, Zo P) :: (nat_lit 159, Zq P) :: (nat_lit 160, Zr P) :: (nat_lit 161, Zt P) :: (nat_lit 163, Zu P) :: (nat_lit 164, Zv P) :: (nat_lit 166, Zw P) :: (nat_lit 167, Zx P) :: (nat_lit 168, Zy P) :: (nat_lit 169, Zz P) :: (nat_lit 171, ZC P) :: (nat_lit 172, ZD P) :: (nat_lit 174, ZF P) :: (nat_lit 175, ZG P) :: (nat_lit 176, ZJ P) :: (nat_lit 177, ZK P) :: (nat_lit 178, ZL P) :: (nat_lit 179, ZM P) :: (nat_lit 180, ZP P) :: (nat_lit 190, lM P) :: (nat_lit 194, Z3 P) :: (nat_lit 196, Z4 P) :: (nat_lit 197, Z5 P) :: (nat_lit 199, Z6 P) :: (nat_lit 200, Z7 P) :: (nat_lit 201, wK P) :: (nat_lit 240, adP P) :: (nat_lit 242, adQ P) :: (nat_lit 243, adR P) :: (nat_lit 245, adS P) :: (nat_lit 246, adT P) :: (nat_lit 257, adU P) :: (nat_lit 259, adV P) :: (nat_lit 260, adW P) :: (nat_lit 262, adX P) :: (nat_lit 263, adY P) :: (nat_lit 264, adZ P) :: (nat_lit 266, ad0 P) :: (nat_lit 267, ad1 P) :: (nat_lit 269, ad2 P) :: (nat_lit 270, ad3 P) :: (nat_lit 271, ad4 P) :: (nat_lit 273, ad5 P) :: (nat_lit 274, ad6 P) :: (nat_lit 276, ad7 P) :: (nat_lit 277, ad8 P) :: (nat_lit 278, ad9 P) :: (nat_lit 280, aea P) :: (nat_lit 281, aeb P) :: (nat_lit 283, aec P) :: (nat_lit 284, aed P) :: (nat_lit 285, aee P) :: (nat_lit 287, aef P) :: (nat_lit 288, aeg P) :: (nat_lit 290, aeh P) :: (nat_lit 291, aei P) :: (nat_lit 292, aej P) :: (nat_lit 294, aek P) :: (nat_lit 295, ael P) :: (nat_lit 297, aem P) :: (nat_lit 298, aen P) :: (nat_lit 299, aeo P) :: (nat_lit 301, aep P) :: (nat_lit 302, aeq P) :: (nat_lit 304, aer P) :: (nat_lit 305, aes P) :: (nat_lit 306, aet P) :: (nat_lit 307, aeu P) :: (nat_lit 308, aev P) :: (nat_lit 309, aew P) :: (nat_lit 310, aex P) :: (nat_lit 313, aey P) :: (nat_lit 316, aez P) :: (nat_lit 317, aeA P) :: (nat_lit 318, aeB P) :: (nat_lit 321, aeC P) :: (nat_lit 322, aeD P) :: (nat_lit 323, aeE P) :: (nat_lit 325, aeF P) :: (nat_lit 326, aeG P) :: (nat_lit 328, aeH P) :: (nat_lit 329, aeI P) :: (nat_lit 330, aeJ P) :: (nat_lit 332, aeK P) :: (nat_lit 333, aeL P) :: (nat_lit 335, aeM P) :: (nat_lit 336, aeN P) :: (nat_lit 337, aeO P) :: (nat_lit 340, aeP P) :: (nat_lit 341, aeQ P) :: (nat_lit 342, aeR P) :: (nat_lit 345, aeS P) :: (nat_lit 346, aeT P) :: (nat_lit 347, aeU P) :: (nat_lit 350, aeV P) :: (nat_lit 351, aeW P) :: []
noncomputable def as1 : List Addr := (List.range 352).filter (Nat.testBit 7398397138187013518788756553892205820605968094205417098468847499124057637745288147970872454220413398319116)
noncomputable def q1 : Program := { pw with main := { pw.main with body := [st 0, st 1, st 2, st 3, st 4, st 6, st 8, st 10, st 11, st 13, st 14, st 15, st 16, st 17, st 18, st 19, st 20] } }
noncomputable def bN : List Str := [S "Whitespace", S "_Accumulator", S "b1_set", S "b3_exceptions"]
noncomputable def H1 (P : Params) : Heap := absHeap (agI P) 352 {}
theorem ahp : opening pw = plainProg pw.main.scope.names := by kernel_rfl
theorem afm : ∀ s, fenceModules? pw s = some s := λ s => by kernel_rfl
theorem ahq : Nat.ble M1 40000 = true := by decide +kernel
theorem ahr (w : World) : ((boot_heap w.params).isNs mainGlobals && (Array.mk [] : Array GenState).size == 0, (boot_heap w.params).objs.size, (boot_heap w.params).nsMap mainGlobals "__annotations__") = (true, 11, dM) := by kernel_rfl
theorem afn (w : World) (os : OsState) : (staticsOk (importedModules pw.main.body) (boot_heap w.params) (H1 w.params) && namesBound pw (H1 w.params) && gensDone ⟨H1 w.params, Array.mk [], {}, 2597, os⟩ && laidKept (boot_heap w.params) (H1 w.params)) = true := by kernel_rfl
noncomputable abbrev ahs : List Str := importedModules pw.main.body
noncomputable def Xt1 : Shared -> Bool := λ s => xlAt q1 [] s && recOk (RowW.records rw1.row.toRowW) s
noncomputable abbrev s1 (P : Params) (os : OsState) : Shared := ⟨H1 P, Array.mk [], {}, 2597, os⟩
theorem acz (w : World) (os : OsState) : seen ((recsOf q1).map (·.name)) (ownsOf q1) [] { s1 w.params os with gens := #[] } = expectedOf q1 := by kernel_rfl
theorem acA (w : World) (os : OsState) : (s1 w.params os).heap.bltView = bltViewBooted := by kernel_rfl
theorem acB (w : World) (os : OsState) : (H1 w.params).keysOk (looseW q1 bN) ((recsOf q1).map (·.name)) ((litsOf q1).map (·.1)) ((clssOf q1 (looseW q1 bN)).map (·.name)) = true := by kernel_rfl
theorem acC (w : World) : ((H1 w.params).accountedOkI ahs && (H1 w.params).isNs mainGlobals && (H1 w.params).isNs builtinsNs && tablesOk q1 (H1 w.params)) = true := by kernel_rfl
theorem acD (w : World) (os : OsState) : Xt1 (s1 w.params os) = true := by kernel_rfl
theorem acE (w : World) (os : OsState) : tabsOk q1 (s1 w.params os) = true := by kernel_rfl
theorem acF (w : World) (os : OsState) : pinSeenD q1 (drecsOf q1) (s1 w.params os) = pinGoodD (drecsOf q1) := by kernel_rfl
theorem acG (w : World) (os : OsState) : plainSeenE q1 (looseW q1 bN) (s1 w.params os) = plainGoodE q1 (looseW q1 bN) := by kernel_rfl
theorem acH (w : World) (os : OsState) : plainSeenD q1 bN (s1 w.params os) = plainGoodD q1 bN := by kernel_rfl
theorem aaa (w : World) (os : OsState) : wideSeen q1 (s1 w.params os) = wideGood q1 := by kernel_rfl
theorem aab (w : World) (os : OsState) : clsSeenW q1 bN (s1 w.params os) = clsGoodW q1 bN := by kernel_rfl
theorem rC {q : Program} {loose mods : List Str} {Xt : Shared -> Bool} {s : Shared} (h1 : seen ((recsOf q).map (·.name)) (ownsOf q) [] { s with gens := #[] } = expectedOf q) (h2 : s.heap.bltView = bltViewBooted) (h3 : s.heap.keysOk (looseW q loose) ((recsOf q).map (·.name)) ((litsOf q).map (·.1)) ((clssOf q (looseW q loose)).map (·.name)) = true) (h4 : (s.heap.accountedOkI mods && s.heap.isNs mainGlobals && s.heap.isNs builtinsNs && tablesOk q s.heap) = true) (h5 : Xt s = true) (hg : (s.gens.size == 0) = true) (h6 : tabsOk q s = true) (h7 : pinSeenD q (drecsOf q) s = pinGoodD (drecsOf q)) (h8 : plainSeenE q (looseW q loose) s = plainGoodE q (looseW q loose)) (h9 : plainSeenD q loose s = plainGoodD q loose) (h10 : wideSeen q s = wideGood q) (h11 : clsSeenW q loose s = clsGoodW q loose) : openSeen q loose mods Xt true s = openGood q loose := by
 unfold openSeen openGood;rw [h1, h2, h3, h6, h7, h8, h9, h10, h11];simp only [if_true, hg, h5, Bool.and_true];simp only [Bool.and_eq_true] at h4;tm_at "X";obtain ⟨⟨⟨a, b⟩, c⟩, d⟩ := h4;tm_at "V";rw [a, b, c, d];rfl
theorem aix {α β γ : Type} {a a' : α} {b b' : β} {c c' : γ} (h1 : a = a') (h2 : b = b') (h3 : c = c') : (a, b, c) = (a', b', c') := by rw [h1, h2, h3]
noncomputable abbrev aht (x : Stmt) : Pos := (stG x).2.2.2.1
noncomputable def d17 : DefRec := ⟨S "law", j6 (st 20), cg (st 20), aQ (st 20), aht (st 20)⟩
theorem ahu : defOf q1 rw1.row.name = some (d17, []) := by kernel_rfl
theorem hp1 : rw1.row.prog.theDef rw1.row.name = some (d17.params, d17.body, d17.scope) := by kernel_rfl
theorem hk1 : kwWritten? d17.params.kwonlyargs d17.params.kw_defaults = some [] := by kernel_rfl
theorem ok1 : (chainsOk q1 && opensWell rw1.row.prog && (frees rw1.row.toRowW && rw1.row.within.isEmpty)) = true := by kernel_rfl
theorem ahv : rw1.row.prog.bare := ⟨rfl, rfl, rfl, rfl, rfl, by kernel_rfl⟩
theorem ahw : rw1.row.toRowW.promised := by w_witness2
theorem ahx : rw1.wellSaid = true := by kernel_rfl
end
structure aL where
 a : Addr
 f : Str
 tf : Tok
 p : Str
 tp : Tok
inductive Sel (q : Addr × Obj) : List (Addr × Obj) -> List (Addr × Obj) -> Prop
 | head {r} : Sel q (q :: r) r
 | tail {p r r'} : Sel q r r' -> Sel q (p :: r) (p :: r')
structure Ws where
 b : Int
 n : Int
 nt : Int
 cnt : List Int
 deriving DecidableEq
structure afo where
 v : Int
 t : Tok
structure Ln where
 a : Addr
 v1 : Str
 t1 : Tok
 v2 : Str
 t2 : Tok
 v3 : Str
 t3 : Tok
structure ahy where
 vs : List Value
 k : Nat
 R : List (Addr × Obj)
structure PgC where
 oL : Obj
 oS : Obj
 pl : List aL
 n : Nat
 tz : Tok
 ls : List Value
 kl : Nat
 R : List (Addr × Obj)
structure WdC where
 D : Addr
 vs : List Value
 k : Nat
structure ahz where
 vs : List Value
 k : Nat
 o : Obj
structure RSt where
 doors : List (List Nat × List Nat)
 shelf : List (List Nat × List Nat)
 noted : List (List Nat)
structure fZ where
 key : List Nat
 a : Addr
 vs : List Value
 k : Nat
 ls : List Nat
structure DrC where
 od : Obj
 ds : List fZ
structure BkC where
 vs : List Value
 k : Nat
 R : List (Addr × Obj)
section
variable {w : World} {prog : Program} {A : Around} {gO : Heap} {E : Value -> Shared -> Prop} {L : Addr} {env : Env} {α : Type} {x : Str} {t u : Tok} {h : Heap} {scope : Scope} {body orelse : List Stmt} {T : Addr} {b : Int} {K : Frag} {C : Addr} {cl : List (Str × Addr)} {codes : List Nat} {elt : Expr} {dx : Addr} {gY : Str -> Option Value} {r : List (Addr × Obj)} {I : Addr} {wn : Nat} {es : List DictEntry} {D : Addr} {R : List (Addr × Obj)} {rws : List (List Nat)} {M : Model} {o0 : Obj} {G : Prop} {px : Pos} {a0 a1 : Addr} {i : Int} {a2 : Addr} {y : Str} {j : Nat} {od ox : Obj} {z : Int} {value : Expr} {β : Type} {Ok : Shared -> Prop} {name : Str} {slice : Expr} {k0 : Nat} {ring whole win : Str} {lead : List Nat} {d a3 : Addr} {iter : Expr} {ys : List Value} {ax : Addr} {xs : List Str} {h' : Heap} {oP : Obj} {σ : Type} {us : List Value} {nm : Str} {bk : List Nat} {pl : List aL} {BT : String} {dp : Nat} {tz : Tok} {gQ : Shared} {ct : Expr} {k2 : Nat} {n' : List (Addr × Obj)} {nv : List Value} {news' : List (Addr × Obj)} {mg mb : Str -> Option Value} {a4 : Addr} {o4 : Obj} {P : Nat -> Value -> Prop} {q2 : Addr × Obj} {r1 r2 : List (Addr × Obj)} {vl vu : Value} {lo : Option Int} {gg : Obj -> List (Addr × Obj)} {ti : Tok} {tgt : Expr} {gJ : Shared} {ps : List (Str × Value)} {W : List (Addr × Obj)} {ne : Nat} {dc : Addr} {expr : Bool} {os : OsState} {so : Addr} {gt : String} {tk : Tok} {mean : ExcName -> Option Value} {Kb : Addr} {F : Nat -> Value -> Prop} {hi : Option Int} {q3 : Addr × Obj} {r3 : List (Addr × Obj)} {N : Nat} {m' : Str -> Option Value} {rest' : (Str -> Option Value) -> List (Addr × Obj) -> Prop} {nt b2 : Addr} {kn : Nat} {py : Pos} {x' y' : Str} {Γ : Ctx}
section
set_option tactic.hygienic false
open PySem.Spec PySem.Calls
theorem n7 : (Manifest.canonical "list.__getattribute__" != "object.__getattribute__") = false := by decide +kernel
section
variable {s : Shared} {x : Addr} {od : Option Obj} {m : Str -> Option Value} {news : List (Addr × Obj)}
noncomputable def dF (K : Frag) (C : Addr) : Bool := findIn K (.ref C) "__getattribute__" == some (some (.builtin "list.__getattribute__")) && findIn K (.ref C) "__getattr__" == some none
theorem jc (h : dF K C = true) : findIn K (.ref C) "__getattribute__" = some (some (.builtin "list.__getattribute__")) /\ findIn K (.ref C) "__getattr__" = some none := by
 obtain ⟨a, b⟩ := Bool.and_eq_true_iff.mp h;exact ⟨beq_iff_eq.mp a, beq_iff_eq.mp b⟩
theorem cP (X : K.In h) (I : InstAt h x ox C od) (e : subIn K (.ref C) (.type "list") = some true) : Looks M h (isInstance (.ref x) (.type "list")) true := by
 unfold isInstance;exact I.type.andThen (looks_subIn X e)
theorem wM {f tf : Value} {pl : Sem Bool} {Q : Value × List Value -> Shared -> Prop} (X : K.In s.heap) (I : InstAt s.heap x ox C od) (hg : dF K C = true) (hf : findIn K (.ref C) name = some (some f)) (ht : Looks (model prog w) s.heap (typeOf f) tf) (htf : (tf != .type "function" && tf != .type "method_descriptor" && tf != .type "wrapper_descriptor") = false) (hs : shadowIn od name = some false) (h : Q (f, [.ref x]) s) : wpAny (model prog w) A (getMethod (.ref x) name pl) Q E s := by
 have hcan := n7;obtain ⟨hga, hk⟩ := jc hg;unfold getMethod specialOf;refine wpAny_bind (wpAny_bind (I.type.here ((looks_findIn X hga).here ?_)));dsimp only;rw [hcan, if_neg (by decide)];refine wpAny_bind (wpAny_bind (I.type.here ((looks_findIn X hk).here ?_)));refine wpAny_bind (wpAny_bind (I.type.here ((looks_findIn X hf).here (wpAny_bind (ht.here ?_)))));rw [htf, if_neg (by decide +kernel)];refine wpAny_bind (wpAny_loadPart I.at_ ?_);have hd := I.dict;cases e : ox.dict with
 | none => exact wpAny_bind (wpAny_rule (wpAny_pure h))
 | some dx =>
   cases od with
   | none => rw [e] at hd; exact hd.elim
   | some o =>
     rw [e] at hd;obtain ⟨r, a, b⟩ := Option.map_eq_some_iff.mp hs;refine wpAny_bind (wpAny_bind (wpAny_loadPart hd ?_));rw [nsLook_of a];refine wpAny_pure ?_;rw [b];exact wpAny_bind (wpAny_rule (wpAny_pure h))
theorem oM {id n : String} {b : Builtin} {self : Value} {rest : List Value} {Q : Value -> Shared -> Prop} (hk : builtinKind id = some .slot \/ builtinKind id = some .method) (hs : splitId id = some ("list", n)) (hp : plainId id = true) (hb : entryFor table id = some b) (hi : Looks (model prog w) s.heap (isInstance self (.type "list")) true) (ha : argsOk id ⟨self :: rest, []⟩) (hc : wpAny (model prog w) A.in1 (b ⟨self :: rest, []⟩) (λ fin s' => ∃ v, fin = .done (.ret v) /\ Q v s') E s) : wpAny (model prog w) A (call (.builtin id) (self :: rest)) Q E s := by
 refine wpAny_call (codeAny_call_builtin hp hb ?_);have hcb : ∀ (A' : Around) (E' : Value -> Shared -> Prop) (Q' : Unit -> Shared -> Prop), Q' () s -> wpAny (model prog w) A' (checkBuiltinCall id ⟨self :: rest, []⟩) Q' E' s := by
   intro A' E' Q' hQ;rcases hk with hk | hk <;>
   · simp only [checkBuiltinCall, hk, hs]
     refine wpAny_bind (hi.here ?_);simp only [Bool.not_true, Bool.false_eq_true, if_false];cases hsig : Manifest.signature? id with
     | none => exact wpAny_pure hQ
     | some sig =>
       simp only [argsOk, hsig] at ha;have h2 : Bind.checkArgs id sig ⟨self :: rest, []⟩ = pure () := ha;show wpAny _ A' (Bind.checkArgs id sig ⟨self :: rest, []⟩) Q' E' s;rw [h2]; exact wpAny_pure hQ
 refine hcb _ _ _ (wpAny_mono hc (λ fin s' h' => ?_) λ _ _ h' => h');obtain ⟨v, rfl, hv⟩ := h'; exact hv
theorem jd : builtinKind "list.__getattribute__" = some .slot := by rw [builtinKind_eq_fast]; kernel_rfl
theorem iw : splitId "list.__getattribute__" = some ("list", "__getattribute__") := by kernel_rfl
theorem aac {n : Nat} {v : Value} {Q : Value -> Shared -> Prop} {attr : Option Value} (Fx : Fr gO L s.heap m) (X₀ : K.In gO) (I : InstAt s.heap x ox C (some (dictOf es n))) (hg : dF K C = true) (hsl : subIn K (.ref C) (.type "list") = some true) (hh : hasDictIn K C = true) (ha : findIn K (.ref C) name = some attr) (hn : noGet K attr = true) (hl : getL name es = some (some v)) (hv : handedIn v = true) (h : Q v { s with toks := s.toks + 1 }) : wpAny (model prog w) A (getAttr (.ref x) name expr) Q E s := by
 tm_at "bc";obtain ⟨hga, hk⟩ := jc hg;have hfo := findObj_own (od := dictOf es n) hh ha hn (by rw [lookIn_dict]; exact hl);obtain ⟨hh', g, d, t, os⟩ := s;have L0 := I.type (M := model prog w);have L1 := looks_findIn (M := model prog w) X hga;have L2 := looks_findIn (M := model prog w) X hk;have L3 := looks_find (M := model prog w) X I hfo;have L4 := cP (M := model prog w) X I hsl;unfold getAttr getAttrBy;tm_at "cA";show wpAny _ _ (getAttrByItsOwn _ _ _ _ _ _) _ _ _;unfold getAttrByItsOwn hookBefore;tm_at "ao";show wpAny _ _ (typeLookup (.ref C) "__getattr__") _ _ _;refine L2.at ?_;tm_at "bL";have e1 : callGetattribute (.ref x) (.str name t) (.builtin "list.__getattribute__") expr = boundAndCalled (.builtin "list.__getattribute__") (.ref x) (.str name t) := by
   unfold callGetattribute;tm_at "cE"
 rw [e1];unfold boundAndCalled;rw [F.slot_list_getattribute.bind];tm_at "aD";refine oM (n := "__getattribute__") (.inl jd) iw F.slot_list_getattribute.plain am_entry_list_getattribute L4 (F.args_list_getattribute_2 _ _) ?_;unfold Builtin.«object.__getattribute__»;tm_at "aD";tm_at "aD";refine wpAny_bind (L0.at (wpAny_bind (L3.at ?_)));refine wpAny_pure ⟨_, rfl, ?_⟩;show wpAny _ _ (handedOut v) _ _ _;rw [handedOut_of hv];exact wpAny_pure h
theorem aad {n : Nat} {f : Addr} {pl : Sem Bool} {Q : Value × List Value -> Shared -> Prop} (Fx : Fr gO L s.heap m) (X₀ : K.In gO) (I : InstAt s.heap x ox C (some (dictOf es n))) (hga : findIn K (.ref C) "__getattribute__" = some (some (.builtin "list.__getattribute__"))) (hk : findIn K (.ref C) "__getattr__" = some none) (hf : findIn K (.ref C) name = some (some (.ref f))) (ht : isFn K (.ref f) = true) (hl : getL name es = some none) (h : Q (.ref f, [.ref x]) s) : wpAny (model prog w) A (getMethod (.ref x) name pl) Q E s :=
 wM (tf := .type "function") (X₀.keeps Fx.keep) I (by unfold dF; rw [hga, hk]; rfl) hf (looks_typeIn (X₀.keeps Fx.keep) (beq_iff_eq.mp ht)) rfl (by show (lookIn name (dictOf es n)).map _ = _; rw [lookIn_dict, hl]; rfl) h
theorem aae {n : Nat} {i : String} {pl : Sem Bool} {Q : Value × List Value -> Shared -> Prop} (Fx : Fr gO L s.heap m) (X₀ : K.In gO) (I : InstAt s.heap x ox C (some (dictOf es n))) (hga : findIn K (.ref C) "__getattribute__" = some (some (.builtin "list.__getattribute__"))) (hk : findIn K (.ref C) "__getattr__" = some none) (hf : findIn K (.ref C) name = some (some (.builtin i))) (ht : typeOf (.builtin i) = pure (.type "method_descriptor")) (hl : getL name es = some none) (h : Q (.builtin i, [.ref x]) s) : wpAny (model prog w) A (getMethod (.ref x) name pl) Q E s :=
 wM (tf := .type "method_descriptor") (X₀.keeps Fx.keep) I (by unfold dF; rw [hga, hk]; rfl) hf (Looks.of_pure ht) rfl (by show (lookIn name (dictOf es n)).map _ = _; rw [lookIn_dict, hl]; rfl) h
theorem xZ {n : Nat} {v : Value} {Q : Value -> Shared -> Prop} {attr : Option Value} (Fx : Fr gO L s.heap m) (X₀ : K.In gO) (I : InstAt s.heap x ox C (some (dictOf es n))) (hga : findIn K (.ref C) "__getattribute__" = some (some (.builtin "list.__getattribute__"))) (hk : findIn K (.ref C) "__getattr__" = some none) (hsl : subIn K (.ref C) (.type "list") = some true) (hh : hasDictIn K C = true) (ha : findIn K (.ref C) name = some attr) (hn : noGet K attr = true) (hl : getL name es = some (some v)) (hv : handedIn v = true) (h : Q v { s with toks := s.toks + 1 }) : wpAny (model prog w) A (getAttr (.ref x) name expr) Q E s :=
 aac Fx X₀ I (by unfold dF; rw [hga, hk]; rfl) hsl hh ha hn hl hv h
theorem bx {od : Obj} {its : Array Value} {k : Nat} {sl : Array (Option Value)} (N : News gO L s.heap news) (h1 : (x, (⟨.ref C, some dx, .seq its k, sl⟩ : Obj)) ∈ news) (h2 : (dx, od) ∈ news) : InstAt s.heap x ⟨.ref C, some dx, .seq its k, sl⟩ C (some od) :=
 ⟨N.get h1, rfl, rfl, N.get h2⟩
theorem jG : builtinKind "list.append" = some .method := by rw [builtinKind_eq_fast]; kernel_rfl
theorem je : splitId "list.append" = some ("list", "append") := by kernel_rfl
theorem jf (c : Value) (its : Array Value) (n : Nat) (v : Value) (d : Option Addr) (sl : Array (Option Value)) : Obj.mapSeq (·.push v) ⟨c, d, .seq its n, sl⟩ = ⟨c, d, .seq (its.push v) (n + 1), sl⟩ := by
 simp [Obj.mapSeq]
theorem aaf {od : Obj} {its : Array Value} {k : Nat} {sl : Array (Option Value)} {v : Value} {Q : Value -> Shared -> Prop} (Fx : Fr gO L s.heap m) (X₀ : K.In gO) (N : News gO L s.heap news) (hd : (dx, od) ∈ news) (hsl : subIn K (.ref C) (.type "list") = some true) (U : Upd x ⟨.ref C, some dx, .seq its k, sl⟩ ⟨.ref C, some dx, .seq (its.push v) (k + 1), sl⟩ news news') (h : ∀ h', Fr gO L h' m -> News gO L h' news' -> Q .none { s with heap := h' }) (hsz : its.size <= sizeLine) : wpAny (model prog w) A (call (.builtin "list.append") [.ref x, v]) Q E s := by
 obtain ⟨pre, post, rfl, rfl, a, b⟩ := U.split;have hx := List.mem_append.mpr (.inr (.head _) : (x, (⟨.ref C, some dx, .seq its k, sl⟩ : Obj)) ∈ pre \/ _ ∈ (x, (⟨.ref C, some dx, .seq its k, sl⟩ : Obj)) :: post);have I := bx N hx hd;have z := N _ hx;refine oM (.inr jG) je slot_list_append.plain entry_list_append (cP (X₀.keeps Fx.keep) I hsl) (args_list_append _ _) ?_;show wpAny _ _ (updateSeq x (·.push v) >>= λ _ => ret .none) _ _ s;tm_at "ao";have hs : Heap.SameBut x s.heap (s.heap.update x (Obj.mapSeq (·.push v))) := Heap.SameBut.update ..;refine wpAny_updateSeq z.1 rfl (wpAny_pure ⟨.none, rfl, h _ (Fx.change hs z.2.1 z.2.2) (news_set N a b hs ?_)⟩);rw [Heap.get?_update_self _ z.1 (by rw [jf]; rfl), jf]
theorem aN : ∀ {l : List (Addr × Obj)}, AllLt T l -> ∀ p ∈ l, p.1 < T
 | [], _, _, hp => (nomatch hp)
 | q :: r, h, p, hp => by
   rcases List.mem_cons.mp hp with rfl | hp
   · exact h.1
   · exact aN h.2 p hp
theorem aH {l : List (Addr × Obj)} (h : AllLt T l) : ∀ p ∈ l, p.1 ≠ T := λ p hp => Nat.ne_of_lt (aN h p hp)
end
noncomputable def bU (T id : String) (x : Addr) : Obj := { cls := .type T, data := .fields #[.builtin id, .ref x] }
theorem dY : Slot "wrapper_descriptor" "__get__" "wrapper_descriptor.__get__" :=
 .of (owner := "wrapper_descriptor") (n := "__get__") (by rw [typeLookup_type, builtinLookup_eq_fast]; kernel_rfl) (by decide +kernel) (by decide +kernel) (by decide +kernel)
   (by first | exact .inl (by decide +kernel) | exact .inr (by decide +kernel)) (by rw [isSubtype_type]; kernel_rfl)
theorem j7 : Slot "method_descriptor" "__get__" "method_descriptor.__get__" :=
 .of (owner := "method_descriptor") (n := "__get__") (by rw [typeLookup_type, builtinLookup_eq_fast]; kernel_rfl) (by decide +kernel) (by decide +kernel) (by decide +kernel)
   (by first | exact .inl (by decide +kernel) | exact .inr (by decide +kernel)) (by rw [isSubtype_type]; kernel_rfl)
theorem jg : entryFor table "wrapper_descriptor.__get__" = some Builtin.«wrapper_descriptor.__get__» := entryFor_of_tree (by kernel_rfl)
theorem qe : entryFor table "method_descriptor.__get__" = some Builtin.«method_descriptor.__get__» := entryFor_of_tree (by kernel_rfl)
theorem j8 (a b c : Value) : argsOk "wrapper_descriptor.__get__" ⟨[a, b, c], []⟩ := by unfold argsOk; kernel_rfl
theorem rD (a b c : Value) : argsOk "method_descriptor.__get__" ⟨[a, b, c], []⟩ := by unfold argsOk; kernel_rfl
theorem iy : typeOf (.builtin "list.__len__") = pure (.type "wrapper_descriptor") := by show builtinType _ = _; rw [builtinType_eq_fast]; kernel_rfl
theorem f9 : typeOf (.builtin "list.__init__") = pure (.type "wrapper_descriptor") := by show builtinType _ = _; rw [builtinType_eq_fast]; kernel_rfl
section
variable {s : Shared} {x : Addr}
theorem rE {P : Fin -> Shared -> Prop} (hi : Looks M s.heap (isInstance (.ref x) (.type "list")) true) (h : P (.done (.ret (.ref s.heap.objs.size))) { s with heap := s.heap.push (bU "method-wrapper" "list.__len__" x) }) : wpAny M A (Builtin.«wrapper_descriptor.__get__» ⟨[.builtin "list.__len__", .ref x, .ref C], []⟩) P E s := by
 unfold Builtin.«wrapper_descriptor.__get__»;refine wpAny_bind (wpAny_of_eq (a := (.builtin "list.__len__", some (.ref x), some (.ref C))) (by tm_at "aw") ?_)
 wp_delta
 tm_at "ao"
 wp_delta
 refine wpAny_bind (wpAny_of_eq (a := (("__len__" : Str), Value.type "list")) (by tm_at "aw") ?_);refine wpAny_bind (hi.here ?_);refine KFB.if_not rfl ?_;refine wpAny_pure ?_;tm_at "bM"
theorem qg {P : Fin -> Shared -> Prop} (hi : Looks M s.heap (isInstance (.ref x) (.type "list")) true) (h : P (.done (.ret (.ref s.heap.objs.size))) { s with heap := s.heap.push (bU "method-wrapper" "list.__init__" x) }) : wpAny M A (Builtin.«wrapper_descriptor.__get__» ⟨[.builtin "list.__init__", .ref x, .ref C], []⟩) P E s := by
 unfold Builtin.«wrapper_descriptor.__get__»;refine wpAny_bind (wpAny_of_eq (a := (.builtin "list.__init__", some (.ref x), some (.ref C))) (by tm_at "aw") ?_)
 wp_delta
 tm_at "ao"
 wp_delta
 refine wpAny_bind (wpAny_of_eq (a := (("__init__" : Str), Value.type "list")) (by tm_at "aw") ?_);refine wpAny_bind (hi.here ?_);refine KFB.if_not rfl ?_;refine wpAny_pure ?_;tm_at "bM"
theorem rF {P : Fin -> Shared -> Prop} (hi : Looks M s.heap (isInstance (.ref x) (.type "list")) true) (h : P (.done (.ret (.ref s.heap.objs.size))) { s with heap := s.heap.push (bU "builtin_function_or_method" "list.pop" x) }) : wpAny M A (Builtin.«method_descriptor.__get__» ⟨[.builtin "list.pop", .ref x, .ref C], []⟩) P E s := by
 unfold Builtin.«method_descriptor.__get__»;refine wpAny_bind (wpAny_of_eq (a := (.builtin "list.pop", some (.ref x), some (.ref C))) (by tm_at "aw") ?_)
 wp_delta
 refine KFB.if_not (by decide +kernel) ?_
 wp_delta
 tm_at "ao"
 wp_delta
 refine wpAny_bind (wpAny_of_eq (a := (("pop" : Str), Value.type "list")) (by tm_at "aw") ?_);refine wpAny_bind (hi.here ?_);refine KFB.if_not rfl ?_;refine wpAny_pure ?_;tm_at "bM"
structure jH (id T g BT : String) : Prop where
 type : typeOf (.builtin id) = pure (.type T)
 look : typeLookup (.type T) "__get__" = pure (some (.builtin g))
 run : ∀ (prog : Program) (w : World) (A : Around) (E : Value -> Shared -> Prop) (s : Shared) (x C : Addr) (Q : Value -> Shared -> Prop), Looks (model prog w) s.heap (isInstance (.ref x) (.type "list")) true ->
   Q (.ref s.heap.objs.size) { s with heap := s.heap.push (bU BT id x) } -> wpAny (model prog w) A (call (.builtin g) [.builtin id, .ref x, .ref C]) Q E s
theorem uH : jH "list.__len__" "wrapper_descriptor" "wrapper_descriptor.__get__" "method-wrapper" :=
 ⟨iy, dY.lookup, λ prog w A E s x C Q hi h => wpAny_call_entry dY (show typeOf _ = _ from iy) jg (rE hi ⟨_, rfl, h⟩) (j8 _ _ _)⟩
theorem rG : jH "list.__init__" "wrapper_descriptor" "wrapper_descriptor.__get__" "method-wrapper" :=
 ⟨f9, dY.lookup, λ prog w A E s x C Q hi h => wpAny_call_entry dY (show typeOf _ = _ from f9) jg (qg hi ⟨_, rfl, h⟩) (j8 _ _ _)⟩
theorem uI : jH "list.pop" "method_descriptor" "method_descriptor.__get__" "builtin_function_or_method" :=
 ⟨F.type_list_pop, j7.lookup, λ prog w A E s x C Q hi h => wpAny_call_entry j7 (show typeOf _ = _ from F.type_list_pop) qe (rF hi ⟨_, rfl, h⟩) (rD _ _ _)⟩
end
section
variable {g : Array GenState} {d : Drawn} {t : Nat}
theorem yc {x : Addr} {id T : String} {l₀ l : List Value} {Q : Fin -> Shared -> Prop} (G : jH id T gt BT) (hso : h.get? so = some { cls := .type "super", dict := none, data := .fields #[.ref D, .ref x, .ref C], slots := #[] }) (hno : Looks (model prog w) h (opaqueClassAbove (.ref C)) none) (hC : Looks (model prog w) h (mroOf (.ref C)) l₀) (hl : (l₀.dropWhile (· != .ref D)).drop 1 = l) (X : K.In h) (hf : alongIn K name l = some (some (.builtin id))) (hi : Looks (model prog w) h (isInstance (.ref x) (.type "list")) true) (hxC : x ≠ C) (hn : (name == ("__class__" : Str)) = false) (hq : Q (.done (.ret (.ref h.objs.size))) ⟨h.push (bU BT id x), g, d, t, os⟩) : wpAny (model prog w) A (Builtin.«super.__getattribute__» ⟨[.ref so, .str name tk], []⟩) Q E ⟨h, g, d, t, os⟩ := by
 have hlk := G.look;have hty := G.type;have hne : (Value.ref x == Value.ref C) = false := by simp [hxC]
 have hne' : (if (Value.ref x == Value.ref C) = true then Value.none else Value.ref x) = .ref x := by rw [hne]; rfl
 have hdt : ({ cls := .type "super", dict := none, data := .fields #[.ref D, .ref x, .ref C], slots := #[] } : Obj).data = .fields #[.ref D, .ref x, .ref C] := rfl;have f0 : (#[.ref D, .ref x, .ref C] : Array Value)[0]? = some (.ref D) := rfl;have f1 : (#[.ref D, .ref x, .ref C] : Array Value)[1]? = some (.ref x) := rfl;have f2 : (#[.ref D, .ref x, .ref C] : Array Value)[2]? = some (.ref C) := rfl;unfold Builtin.«super.__getattribute__»
 repeat (first
   | (with_reducible refine wpAny_field hso hdt f0 ?_) | (with_reducible refine wpAny_field hso hdt f1 ?_) | (with_reducible refine wpAny_field hso hdt f2 ?_)
   | (with_reducible refine ks_wpAny_notOpaque hno ?_)
   | (with_reducible refine Looks.at hC ?_; rw [hl])
   | (refine ks_forIn_along X (λ _ _ => rfl) rfl ?_ hf)
   | (with_reducible refine wpAny_of_eq hty ?_)
   | (with_reducible refine wpAny_of_eq hlk ?_)
   | rw [hne']
   | (with_reducible refine G.run _ _ _ _ _ _ _ _ hi ?_)
   | (with_reducible refine ⟨_, rfl, ?_⟩)
   | (with_reducible refine wpAny_ite_false (by first | rfl | (rw [hn]; rfl) | (rw [hne]; rfl)) ?_)
   | (with_reducible refine wpAny_ite_true (by first | rfl | (rw [hn]; rfl) | (rw [hne]; rfl)) ?_)
   | wp_step
   | dsimp only)
 all_goals exact hq
theorem jJ {x : Addr} {id T : String} {l₀ l : List Value} {pl : Sem Bool} {Q : Value × List Value -> Shared -> Prop} (G : jH id T gt BT) (hso : h.get? so = some { cls := .type "super", dict := none, data := .fields #[.ref D, .ref x, .ref C], slots := #[] }) (hno : Looks (model prog w) h (opaqueClassAbove (.ref C)) none) (hC : Looks (model prog w) h (mroOf (.ref C)) l₀) (hl : (l₀.dropWhile (· != .ref D)).drop 1 = l) (X : K.In h) (hf : alongIn K name l = some (some (.builtin id))) (hi : Looks (model prog w) h (isInstance (.ref x) (.type "list")) true) (hxC : x ≠ C) (hn : (name == ("__class__" : Str)) = false) (hq : Q (.ref h.objs.size, []) ⟨h.push (bU BT id x), g, d, t + 1, os⟩) : wpAny (model prog w) A (getMethod (.ref so) name pl) Q E ⟨h, g, d, t, os⟩ := by
 have hlk := F.ks_slot_super_ga.lookup;have hcan := F.ks_canon_super_ga;have hT : ∀ t', (⟨h, g, d, t', os⟩ : Shared).TypeIs (.ref so) "super" := λ _ => ⟨_, hso, rfl⟩
 unfold getMethod;refine wpAny_bind (wpAny_specialOf (hT _) hlk ?_);show wpAny _ _ (if (Manifest.canonical "super.__getattribute__" != "object.__getattribute__") = true then _ else _) _ _ _;rw [if_pos hcan];unfold getAttr getAttrBy;refine wpAny_bind (wpAny_bind (wpAny_mkText (wpAny_holding (wpAny_bind (wpAny_typeOf (hT _) (wpAny_bind (wpAny_of_eq hlk ?_)))))));show wpAny _ _ (getAttrByItsOwn (.ref so) (.str name t) (.type "super") (.builtin "super.__getattribute__") true false) _ _ _;unfold getAttrByItsOwn hookBefore callGetattribute boundAndCalled;refine wpAny_bind (wpAny_of_eq (show (if onTheHeap (.type "super") then typeLookup (.type "super") "__getattr__" else pure none) = pure none from rfl) ?_);tm_at "bL";show wpAny _ _ (bindSpecial (.builtin "super.__getattribute__") (.ref so) >>= _) _ _ _;refine wpAny_bind (wpAny_of_eq (F.ks_slot_super_ga.bind _) ?_);refine wpAny_mono (Q := λ v s' => v = .ref h.objs.size /\ s' = ⟨h.push (bU BT id x), g, d, t + 1, os⟩) (E := λ _ _ => False)
   (wpAny_call_entry F.ks_slot_super_ga (hT _) F.ks_entry_super_ga (yc G hso hno hC hl X hf hi hxC hn ⟨_, rfl, rfl, rfl⟩) (F.ks_gaArgs_super _ _)) (λ v s' hv => ?_) λ _ _ z => z.elim
 obtain ⟨rfl, rfl⟩ := hv;exact wpAny_pure (wpAny_pure hq)
end
section
variable {s : Shared} {m : Str -> Option Value} {news : List (Addr × Obj)} {x : Addr} {odx : Option Obj}
theorem uJ {id T : String} {pl : Sem Bool} {Q : Value × List Value -> Shared -> Prop} (G : jH id T gt BT) (Fx : Fr gO L s.heap m) (X₀ : K.In gO) (N : News gO L s.heap news) (hso : (so, ks_superObj D x C) ∈ news) (I : InstAt s.heap x ox C odx) (ho : nsIn K cStatics "thirdparty.any" = some none) (hm : ks_superIn K C D name = some (some (.builtin id))) (hsl : subIn K (.ref C) (.type "list") = some true) (hn : (name == ("__class__" : Str)) = false) (h : ∀ q h', Fr gO L h' m -> News gO L h' ((q, bU BT id x) :: news) -> (∀ p ∈ news, p.1 < q) -> Q (.ref q, []) { s with heap := h', toks := s.toks + 1 }) : wpAny (model prog w) A (getMethod (.ref so) name pl) Q E s := by
 tm_at "bc";obtain ⟨hh, g, d, t, os⟩ := s;cases hc : clsIn K C with
 | none => unfold ks_superIn at hm; rw [hc] at hm; cases hm
 | some cd =>
   unfold ks_superIn at hm;rw [hc] at hm;refine jJ G (N _ hso).1 (looks_opaque X ho) (l₀ := cd.mro) ?_ rfl X hm (cP X I hsl) (ks_ne X I hc) hn ?_
   · exact λ A Q E s k q => wpAny_bind ((looks_clsIn X hc) A _ E s k (wpAny_pure q))
   · obtain ⟨F', N', l'⟩ := ks_newsPush (s := ⟨hh, g, d, t, os⟩) (o := bU BT id x) Fx N rfl (Heap.get?_push_at rfl rfl) (λ b o e => Heap.get?_push_of_some _ e)
     exact h _ _ F' N' l'
theorem rH {pos : Pos} {q : Addr} {first : List Value} {id : String} {Q : Value -> Shared -> Prop} (N : News gO L s.heap news) (hq : (q, bU BT id x) ∈ news) (hBT : (BT == "method-wrapper" || BT == "builtin_function_or_method") = true) (h : wpAny (model prog w) A (call (.ref q) (first ++ [])) Q E s) : wpAny (model prog w) A (callWith pos (.ref q) first (backTo pos (starEach [] env)) []) Q E s := by
 unfold callWith;refine wpAny_bind (wpAny_holding (wpAny_mono (evalArgs_nil3 (Q := λ a gJ => gJ.heap.get? q = some (bU BT id x) /\ wpAny (model prog w) A (call (.ref q) (first ++ a.pos) a.kw) Q E gJ) ⟨N.get hq, h⟩) (λ a gJ h₁ => wpAny_bind (wpAny_standAt ?_)) λ _ _ z => z));obtain ⟨ho, hcall⟩ := h₁;refine wpAny_bind (m := keeperOf (.ref q)) ?_;unfold keeperOf;refine wpAny_bind (wpAny_load ho ?_);rcases Bool.or_eq_true_iff.mp hBT with e | e
 · obtain rfl := beq_iff_eq.mp e
   refine wpAny_pure ?_;tm_at "cg"
 · obtain rfl := beq_iff_eq.mp e
   refine wpAny_pure ?_;tm_at "cg"
theorem uK {q : Addr} {id : String} {b : Builtin} {Q : Value -> Shared -> Prop} (N : News gO L s.heap news) (hq : (q, bU BT id x) ∈ news) (hBT : (BT == "method-wrapper" || BT == "builtin_function_or_method") = true) (chk : ∀ (A' : Around) (E' : Value -> Shared -> Prop) (Q' : Unit -> Shared -> Prop), Q' () s -> wpAny (model prog w) A' (checkBoundCall id ⟨[.ref x], []⟩) Q' E' s) (hqu : (Code.builtin id ⟨[.ref x], []⟩).quiet = true) (hb : entryFor table id = some b) (h : ∀ A', wpAny (model prog w) A' (b ⟨[.ref x], []⟩) (λ fin s' => ∃ v, fin = .done (.ret v) /\ Q v s') E s) : wpAny (model prog w) A (call (.ref q) []) Q E s := by
 have ho := N.get hq;refine wpAny_call (codeAny_of_tree ?_);show wpAny _ A.in1 (callAny (.ref q) ⟨[], []⟩) _ _ s;refine nd_load ho (nd_bind (nd_pure ?_));rcases Bool.or_eq_true_iff.mp hBT with e | e
 all_goals
   obtain rfl := beq_iff_eq.mp e;show wpAny _ _ (ite _ _ _) _ _ _;refine KFB.if_so (by tm_at "aw") ?_;show wpAny _ _ (ite _ _ _) _ _ _;refine KFB.if_so (by tm_at "aw") ?_;refine wpAny_bind (chk _ _ _ ?_);refine wpAny_bind (wpAny_pure (wpAny_pure ?_));refine ⟨hqu, codeAny_builtin hb (wpAny_mono (h _) (λ fin s' z => ?_) λ _ _ z => z)⟩;obtain ⟨v, rfl, hv⟩ := z;exact hv
theorem uL {q : Addr} {its : Array Value} {k : Nat} {sl : Array (Option Value)} {Q : Value -> Shared -> Prop} (N : News gO L s.heap news) (hq : (q, bU "method-wrapper" "list.__len__" x) ∈ news) (hx : (x, (⟨.ref C, some dx, .seq its k, sl⟩ : Obj)) ∈ news) (h : Q (.int its.size s.toks) { s with toks := s.toks + 1 }) (hz : its.size <= sizeLine) : wpAny (model prog w) A (call (.ref q) []) Q E s := by
 refine uK N hq (by decide) (λ A' E' Q' h' => wpAny_of_eq (a := ()) (by first | kernel_rfl | rfl) h') (Code.quiet_builtin _ (by decide +kernel)) F.entry_list_len λ A' => ?_
 have ho := N.get hx;unfold Builtin.«list.__len__»;refine wpAny_bind (wpAny_of_eq (a := (.ref x, [])) (by rfl) ?_);show wpAny _ _ (seqSize x >>= λ n => retInt n) _ _ _;unfold seqSize;refine wpAny_bind (wpAny_bind (wpAny_loadPart ho ?_));refine wpAny_pure ?_;unfold retInt;tm_at "ao"
 repeat wp_step
 all_goals exact ⟨_, rfl, h⟩
theorem lN (its : Array Value) (v : Value) : (its.push v).eraseIdxIfInBounds its.size = its := by
 unfold Array.eraseIdxIfInBounds;rw [dif_pos (by simp)];apply Array.ext';simp [Array.toList_eraseIdx, List.eraseIdx_append_of_length_le]
theorem j9 (c : Value) (its : Array Value) (v : Value) (n : Nat) (d : Option Addr) (sl : Array (Option Value)) : Obj.mapSeq (·.eraseIdxIfInBounds its.size) ⟨c, d, .seq (its.push v) n, sl⟩ = ⟨c, d, .seq its (n + 1), sl⟩ := by
 simp only [Obj.mapSeq, lN];simp
theorem n8 : builtinKind "list.pop" = some .method := by rw [builtinKind_eq_fast]; kernel_rfl
theorem qi : ∃ sig, Manifest.signature? "list.pop" = some sig /\ ∀ (f : String) (x : Addr), (f != "*") = true -> Bind.checkArgs "list.pop" { sig with full := f } ⟨[.ref x], []⟩ = pure () := by
 rw [signature?_of (id := "list.pop") (n := ['p', 'o', 'p']) (o := ['t', 's', 'i', 'l']) (by kernel_rfl) F.owner_list];refine ⟨_, rfl, λ f x hf => ?_⟩;have p1 : ∀ sg r, Bind.printed f true sg r = pure f := λ sg r => by unfold Bind.printed; rw [if_pos hf]
 have p2 : ∀ sg r, Bind.printed "pop" false sg r = pure "pop" := λ sg r => by unfold Bind.printed; rw [if_pos (by decide)]
 unfold Bind.checkArgs;simp only [p1, p2]
 kernel_rfl
theorem acI {E' : Value -> Shared -> Prop} {Q' : Unit -> Shared -> Prop} {cd : ClassData} (X : K.In s.heap) (I : InstAt s.heap x ox C odx) (hm : subIn K (.ref C) (.type "module") = some false) (hc : clsIn K C = some cd) (ht : typeIn K (.ref C) = some (.type "type")) (hf : (s!"{cd.qualname.toString}.{Bind.lastOf "list.pop"}" != "*") = true) (h : Q' () s) : wpAny (model prog w) A (checkBoundCall "list.pop" ⟨[.ref x], []⟩) Q' E' s := by
 obtain ⟨sig, hs, hck⟩ := qi;have e1 : Manifest.varargsMethods.contains "list.pop" = false := by decide +kernel
 unfold checkBoundCall;rw [hs, n8];refine KFB.if_not rfl ?_;tm_at "ao";unfold isInstance;refine wpAny_bind (I.type.here ((looks_subIn X hm).here ?_));refine KFB.if_not (by rw [e1]; rfl) ?_;tm_at "ao";obtain ⟨hh, g, d, t, os⟩ := s;refine ks_wpAny_isType_inst I.at_ (λ c e => ?_) ?_
 · have := I.no
   unfold notCls at this;rw [e] at this;exact Bool.noConfusion this
 refine KFB.if_not rfl ?_;refine wpAny_bind (I.type.here ?_);refine wpAny_bind ((looks_clsIn X hc).here ?_);refine wpAny_bind ((looks_typeIn X ht).here ?_);refine KFB.if_so rfl ?_;rw [hck _ _ hf];exact wpAny_pure h
theorem uM {q : Addr} {its : Array Value} {v : Value} {k : Nat} {sl : Array (Option Value)} {Q : Value -> Shared -> Prop} (Fx : Fr gO L s.heap m) (N : News gO L s.heap news) (X₀ : K.In gO) (hq : (q, bU "builtin_function_or_method" "list.pop" x) ∈ news) {od : Obj} {cd : ClassData} (hd : (dx, od) ∈ news) (hm : subIn K (.ref C) (.type "module") = some false) (hc : clsIn K C = some cd) (ht : typeIn K (.ref C) = some (.type "type")) (hf : (s!"{cd.qualname.toString}.{Bind.lastOf "list.pop"}" != "*") = true) (U : Upd x ⟨.ref C, some dx, .seq (its.push v) k, sl⟩ ⟨.ref C, some dx, .seq its (k + 1), sl⟩ news news') (h : ∀ h', Fr gO L h' m -> News gO L h' news' -> Q v { s with heap := h' }) (hz : its.size + 1 <= sizeLine) : wpAny (model prog w) A (call (.ref q) []) Q E s := by
 obtain ⟨pre, post, rfl, rfl, a, b⟩ := U.split;have z := N _ (List.mem_append.mpr (.inr (.head _) : (x, (⟨.ref C, some dx, .seq (its.push v) k, sl⟩ : Obj)) ∈ pre \/ _ ∈ (x, (⟨.ref C, some dx, .seq (its.push v) k, sl⟩ : Obj)) :: post));have I := bx N (List.mem_append.mpr (.inr (.head _) : (x, (⟨.ref C, some dx, .seq (its.push v) k, sl⟩ : Obj)) ∈ pre \/ _ ∈ (x, (⟨.ref C, some dx, .seq (its.push v) k, sl⟩ : Obj)) :: post)) hd;refine uK N hq (by decide) (λ A' E' Q' h' => acI (X₀.keeps Fx.keep) I hm hc ht hf h') (Code.quiet_builtin _ (by decide +kernel)) F.entry_list_pop λ A' => ?_
 unfold Builtin.«list.pop»;refine wpAny_bind (wpAny_of_eq (a := (.ref x, [])) (by tm_at "aw") ?_);tm_at "aD";refine KFB.if_not (by decide +kernel) ?_;tm_at "ao";unfold Builtin.List.listItems seqItems?;refine wpAny_bind (wpAny_bind (wpAny_load z.1 (wpAny_pure (wpAny_pure ?_))));refine KFB.if_not (by simp) ?_;have e1 : seqIndex? (-1) (its.push v).size = some its.size := by
   have hj : (if (-1 : Int) < 0 then (-1 : Int) + ((its.push v).size : Int) else -1) = (its.size : Int) := by rw [if_pos (by decide), Array.size_push]; lia
   simp only [seqIndex?, hj];have hb : (decide (0 <= (its.size : Int)) && decide ((its.size : Int) < ((its.push v).size : Int))) = true := by
     rw [Array.size_push, Bool.and_eq_true, decide_eq_true_eq, decide_eq_true_eq]; lia
   rw [if_pos hb];rfl
 rw [e1];have e2 : (its.push v)[its.size]? = some v := by simp
 simp only [Option.bind_some, e2, Option.map_some];show wpAny _ _ (updateSeq x (·.eraseIdxIfInBounds its.size) >>= λ _ => ret v) _ _ s;tm_at "ao";have hs : Heap.SameBut x s.heap (s.heap.update x (Obj.mapSeq (·.eraseIdxIfInBounds its.size))) := Heap.SameBut.update ..;refine wpAny_updateSeq z.1 rfl (wpAny_pure ⟨v, rfl, h _ (Fx.change hs z.2.1 z.2.2) (news_set N a b hs ?_)⟩) (by simpa using hz) (by rw [lN]; lia);rw [Heap.get?_update_self _ z.1 (by rw [j9]; rfl), j9]
end
theorem gR {p q : Addr × Obj} (h : p ∈ r) : p ∈ q :: r := List.Mem.tail _ h
theorem rI {o : Obj} {l : List (Addr × Obj)} {g : Obj -> List (Addr × Obj)} (U : UpdF d o l g) (o' : Obj) : Upd d o o' l (g o') := by
 induction U with
 | head h => exact .head h
 | tail h _ ih => exact .tail h ih
theorem bC {o : Obj} {l : List (Addr × Obj)} {g : Obj -> List (Addr × Obj)} (U : UpdF d o l g) : (d, o) ∈ l := by
 induction U with
 | head h => exact .head _
 | tail h _ ih => exact .tail _ ih
theorem rJ {o : Obj} {l : List (Addr × Obj)} {g : Obj -> List (Addr × Obj)} (U : UpdF d o l g) {p : Addr × Obj} (hp : p ∈ l) (hne : p.1 ≠ d) (o' : Obj) : p ∈ g o' := by
 induction U with
 | head h =>
   rcases List.mem_cons.mp hp with rfl | hp
   · exact absurd rfl hne
   · exact .tail _ hp
 | tail h _ ih =>
   rcases List.mem_cons.mp hp with rfl | hp
   · exact .head _
   · exact .tail _ (ih hp)
theorem uN {o : Obj} {l : List (Addr × Obj)} {g : Obj -> List (Addr × Obj)} (U : UpdF d o l g) (o' : Obj) : UpdF d o' (g o') g := by
 induction U with
 | head h => exact .head h
 | tail h _ ih => exact .tail h ih
theorem aag {x : Addr} {o : Obj} {news : List (Addr × Obj)} (h : AllLt T news) (m : (x, o) ∈ news) : T ≠ x := Nat.ne_of_gt (aN h _ m)
theorem aah {x : Addr} {o : Obj} {news : List (Addr × Obj)} (h : AllLt T news) (m : (x, o) ∈ news) : x ≠ T := Nat.ne_of_lt (aN h _ m)
section
variable {s : Shared} {m : Str -> Option Value} {news : List (Addr × Obj)} {x : Addr} {g : Obj -> List (Addr × Obj)}
theorem yd {its : Array Value} {k : Nat} {sl : Array (Option Value)} {v : Value} {Q : Value -> Shared -> Prop} (Fx : Fr gO L s.heap m) (X₀ : K.In gO) (N : News gO L s.heap news) (U : UpdF x ⟨.ref C, some dx, .seq its k, sl⟩ news g) (hd : (dx, od) ∈ news) (hsl : subIn K (.ref C) (.type "list") = some true) (h : ∀ h', Fr gO L h' m -> News gO L h' (g ⟨.ref C, some dx, .seq (its.push v) (k + 1), sl⟩) -> Q .none { s with heap := h' }) (hsz : its.size <= sizeLine) : wpAny (model prog w) A (call (.builtin "list.append") [.ref x, v]) Q E s :=
 aaf Fx X₀ N hd hsl (rI U _) h hsz
theorem rK {q : Addr} {its : Array Value} {v : Value} {k : Nat} {sl : Array (Option Value)} {Q : Value -> Shared -> Prop} (Fx : Fr gO L s.heap m) (N : News gO L s.heap news) (X₀ : K.In gO) (hq : (q, bU "builtin_function_or_method" "list.pop" x) ∈ news) {od : Obj} {cd : ClassData} (U : UpdF x ⟨.ref C, some dx, .seq (its.push v) k, sl⟩ news g) (hd : (dx, od) ∈ news) (hm : subIn K (.ref C) (.type "module") = some false) (hc : clsIn K C = some cd) (ht : typeIn K (.ref C) = some (.type "type")) (hf : (s!"{cd.qualname.toString}.{Bind.lastOf "list.pop"}" != "*") = true) (h : ∀ h', Fr gO L h' m -> News gO L h' (g ⟨.ref C, some dx, .seq its (k + 1), sl⟩) -> Q v { s with heap := h' }) (hz : its.size + 1 <= sizeLine) : wpAny (model prog w) A (call (.ref q) []) Q E s :=
 uM Fx N X₀ hq hd hm hc ht hf (rI U _) h hz
end
theorem aiy (h : AllLt T ((a0, o0) :: r)) (k : @LT.lt Nat _ a0 T -> AllLt T r -> G) : G := k h.1 h.2
theorem aiz {o1 : Obj} (h : AllLt T ((a0, o0) :: (a1, o1) :: r)) (k : @LT.lt Nat _ a0 T -> @LT.lt Nat _ a1 T -> AllLt T r -> G) : G := k h.1 h.2.1 h.2.2
theorem aiA {o1 o2 : Obj} (h : AllLt T ((a0, o0) :: (a1, o1) :: (a2, o2) :: r)) (k : @LT.lt Nat _ a0 T -> @LT.lt Nat _ a1 T -> @LT.lt Nat _ a2 T -> AllLt T r -> G) : G := k h.1 h.2.1 h.2.2.1 h.2.2.2
theorem aiB {o1 o2 o3 : Obj} (h : AllLt T ((a0, o0) :: (a1, o1) :: (a2, o2) :: (a3, o3) :: r)) (k : @LT.lt Nat _ a0 T -> @LT.lt Nat _ a1 T -> @LT.lt Nat _ a2 T -> @LT.lt Nat _ a3 T -> AllLt T r -> G) : G := k h.1 h.2.1 h.2.2.1 h.2.2.2.1 h.2.2.2.2
theorem aiC {o1 o2 o3 : Obj} (h : AllLt T ((a0, o0) :: (a1, o1) :: (a2, o2) :: (a3, o3) :: (a4, o4) :: r)) (k : @LT.lt Nat _ a0 T -> @LT.lt Nat _ a1 T -> @LT.lt Nat _ a2 T -> @LT.lt Nat _ a3 T -> @LT.lt Nat _ a4 T -> AllLt T r -> G) : G := k h.1 h.2.1 h.2.2.1 h.2.2.2.1 h.2.2.2.2.1 h.2.2.2.2.2
theorem aiD {a5 : Addr} {o1 o2 o3 o5 : Obj} (h : AllLt T ((a0, o0) :: (a1, o1) :: (a2, o2) :: (a3, o3) :: (a4, o4) :: (a5, o5) :: r)) (k : @LT.lt Nat _ a0 T -> @LT.lt Nat _ a1 T -> @LT.lt Nat _ a2 T -> @LT.lt Nat _ a3 T -> @LT.lt Nat _ a4 T -> @LT.lt Nat _ a5 T -> AllLt T r -> G) : G := k h.1 h.2.1 h.2.2.1 h.2.2.2.1 h.2.2.2.2.1 h.2.2.2.2.2.1 h.2.2.2.2.2.2
theorem rm0 {b n c : Nat} (h : dp + b < n) (l : Nat.ble c b = true) : dp + c < n := Nat.lt_of_le_of_lt (Nat.add_le_add_left (Nat.le_of_ble_eq_true l) dp) h
theorem rmz {b n : Nat} (h : dp + b < n) : dp < n := Nat.lt_of_le_of_lt (Nat.le_add_right dp b) h
theorem rm1 {b n a c : Nat} (h : dp + b < n) (l : Nat.ble (a + c) b = true) : dp + a + c < n := by
 have := Nat.le_of_ble_eq_true l;lia
theorem rm2 {b n a c d : Nat} (h : dp + b < n) (l : Nat.ble (a + c + d) b = true) : dp + a + c + d < n := by
 have := Nat.le_of_ble_eq_true l;lia
theorem rm3 {b n a c d e : Nat} (h : dp + b < n) (l : Nat.ble (a + c + d + e) b = true) : dp + a + c + d + e < n := by
 have := Nat.le_of_ble_eq_true l;lia
theorem lO {a x : Nat} (k : Nat) (h : @LT.lt Nat _ (a + k) x) : a ≠ x := Nat.ne_of_lt (Nat.lt_of_le_of_lt (Nat.le_add_right a k) h)
theorem lQ {a x : Nat} (k : Nat) (h : @LT.lt Nat _ (a + k) x) : x ≠ a := Nat.ne_of_gt (Nat.lt_of_le_of_lt (Nat.le_add_right a k) h)
theorem gU {a : Nat} (k : Nat) : a ≠ a + (k + 1) := Nat.ne_of_lt (Nat.lt_add_of_pos_right (Nat.succ_pos k))
theorem eV {a : Nat} (k : Nat) : a + (k + 1) ≠ a := Nat.ne_of_gt (Nat.lt_add_of_pos_right (Nat.succ_pos k))
theorem lU {a b : Nat} (k : Nat) (h : a + k < b) : a < b := Nat.lt_of_le_of_lt (Nat.le_add_right a k) h
theorem gf {a : Nat} (k : Nat) : a < a + (k + 1) := Nat.lt_add_of_pos_right (Nat.succ_pos k)
theorem jK {a n b : Nat} (k : Nat) (h : n < b) (l : Nat.ble a n = true) : a < b + k := Nat.lt_of_le_of_lt (Nat.le_of_ble_eq_true l) (Nat.lt_of_lt_of_le h (Nat.le_add_right b k))
theorem acJ {a n b : Nat} (h : n < b) (l : Nat.ble a n = true) : a < b := Nat.lt_of_le_of_lt (Nat.le_of_ble_eq_true l) h
noncomputable def iD (h : Heap) (x : Addr) (its : Array Value) : Prop := ∃ c d sl n, h.get? x = some ⟨c, d, .seq its n, sl⟩
theorem iD.at {x : Addr} {its : Array Value} (H : iD h x its) (k : ∀ o, h.get? x = some o -> h'.get? x = some o) : iD h' x its :=
 let ⟨c, d, sl, n, e⟩ := H; ⟨c, d, sl, n, k _ e⟩
section
variable {s : Shared} {x : Addr} {od : Option Obj}
theorem afp {Q : Value -> Shared -> Prop} (X : K.In s.heap) (I : InstAt s.heap x ox C od) (hs : findIn K (.ref C) "__iter__" = some (some (.builtin "list.__iter__"))) (hsl : subIn K (.ref C) (.type "list") = some true) (hQ : Q (.ref s.heap.objs.size) { s with heap := s.heap.push { cls := .type "list_iterator", data := .fields #[.ref x, .int 0 0] } }) : wpAny (model prog w) A (pyIter (.ref x)) Q E s := by
 have fin0 : wpAny (model prog w) A (call (.builtin "list.__iter__") [.ref x]) (λ v s' => v = .ref s.heap.objs.size /\ s' = { s with heap := s.heap.push { cls := .type "list_iterator", data := .fields #[.ref x, .int 0 0] } }) E s := by
   refine oM (n := "__iter__") (.inl (by rw [builtinKind_eq_fast]; kernel_rfl)) (by kernel_rfl) slot_list_iter.plain entry_list_iter (cP X I hsl) (args_list_iter _) ?_;show wpAny _ _ (do ret (<- newFields "list_iterator" [.ref x, rawInt 0])) _ _ s;exact wpAny_bind (wpAny_newObj_type (wpAny_pure ⟨_, rfl, rfl, rfl⟩))
 have hbl : ∀ h : Heap, Looks (model prog w) h (typeOf (.builtin "list.__iter__")) (.type "wrapper_descriptor") := λ h => Looks.of_pure (by show builtinType _ = _; rw [builtinType_eq_fast]; kernel_rfl)
 have one : ∀ refuse : Sem Value, wpAny (model prog w) A (callSpecialIfBoundUnlessNone? (.ref x) "__iter__" refuse) (λ r s' => r = some (.ref s.heap.objs.size) /\ s' = { s with heap := s.heap.push { cls := .type "list_iterator", data := .fields #[.ref x, .int 0 0] } }) E s := by
   intro refuse;have bnd : bindSpecial (.builtin "list.__iter__") (.ref x) = pure (.builtin "list.__iter__", [.ref x]) := slot_list_iter.bind _;refine (wpAny_holding (wpAny_bind (wpAny_bind (wpAny_bind (I.type.here ((looks_findIn X hs).here (wpAny_bind (wpAny_askSetting (wpAny_ite_split (λ _ => ?_) (λ _ => ?_))))))))) : wpAny _ _ (callSpecialIfBoundUnlessNone? _ _ _) _ _ _)
   · exact wpAny_bind (wpAny_of_eq bnd (wpAny_pure (wpAny_ite_false rfl (wpAny_bind (wpAny_mono fin0 (λ v s' h' => wpAny_pure ⟨congrArg some h'.1, h'.2⟩) λ _ _ z => z)))))
   · exact wpAny_tryCatch (wpAny_bind (wpAny_of_eq bnd (wpAny_pure (wpAny_ite_false rfl (wpAny_bind (wpAny_mono fin0 (λ v s' h' => wpAny_pure ⟨congrArg some h'.1, h'.2⟩) λ _ _ z => z))))))
 unfold pyIter;refine wpAny_bind (wpAny_bind (I.type.here ((looks_findIn X hs).here ?_)));show wpAny _ A (callSpecialIfBoundUnlessNone? (.ref x) "__iter__" _ >>= _) Q E s;refine wpAny_bind (wpAny_mono (one _) (λ r s' hr => ?_) λ _ _ z => z);obtain ⟨rfl, rfl⟩ := hr;refine wpAny_bind (wpAny_specialOf (T := "list_iterator") ⟨_, Heap.get?_push_size _ rfl, rfl⟩ slot_listiter_next.lookup ?_);exact wpAny_pure hQ
theorem afq {it : Addr} {i : Nat} {its : Array Value} {v : Value} {Q : Option Value -> Shared -> Prop} (hit : s.heap.IsListIter it x i) (hx : iD s.heap x its) (hv : its[i]? = some v) (hQ : ∀ h', h'.IsListIter it x (i + 1) -> Heap.SameBut it s.heap h' -> Q (some v) { s with heap := h' }) : wpAny (model prog w) A (pyNext (.ref it)) Q E s := by
 obtain ⟨c, d, sl, n, e⟩ := hx;obtain ⟨oi, hoi, hci, hdi⟩ := id hit;have body : ∀ (A' : Around) (E : Value -> Shared -> Prop), wpAny (model prog w) A' (Builtin.«list_iterator.__next__» ⟨[.ref it], []⟩) (λ fin s' => ∃ r, fin = .done (.ret r) /\ r = v /\ ∃ h', s' = { s with heap := h' } /\ h'.IsListIter it x (i + 1) /\ Heap.SameBut it s.heap h') E s := by
   intro A' E;show wpAny _ _ (field (.ref it) 0 >>= _) _ _ s;refine wpAny_bind (wpAny_field hoi hdi (x := .ref x) rfl ?_);refine KFB.if_not rfl ?_;show wpAny _ _ (field (.ref it) 1 >>= _) _ _ s;refine wpAny_bind (wpAny_field hoi hdi (x := .int i 0) rfl ?_);show wpAny _ _ (seqItems? (.ref x) >>= _) _ _ s;refine wpAny_bind (wpAny_seqItems e rfl ?_);simp only [Int.toNat_natCast, hv];refine wpAny_bind (wpAny_setField hoi hdi (by simp) (wpAny_pure ⟨v, rfl, rfl, _, rfl, ?_, Heap.SameBut.update ..⟩));exact ⟨_, Heap.get?_update_self _ hoi (Obj.isFreed_of_fields (Obj.data_mapFields hdi _)), (Obj.cls_mapFields ..).trans hci, by rw [Obj.data_mapFields hdi]; simp [rawInt]⟩
 unfold pyNext;refine wpAny_bind (wpAny_attempt (wpAny_callSpecial?_slot (name := ofString "__next__") hit.typeIs slot_listiter_next
   (wpAny_call_entry slot_listiter_next hit.typeIs entry_listiter_next (wpAny_mono (body _ λ _ _ => False) (λ fin s' z => ?_) λ _ _ z => z.elim) (args_listiter_next _))))
 obtain ⟨r, rfl, rfl, h', rfl, h1, h2⟩ := z;exact ⟨_, rfl, wpAny_pure (hQ _ h1 h2)⟩
theorem ahA {it : Addr} {i : Nat} {its : Array Value} {Q : Option Value -> Shared -> Prop} (hh : A.handled = none) (hit : s.heap.IsListIter it x i) (hx : iD s.heap x its) (hv : its[i]? = none) (hQ : ∀ h', Heap.ExtBut it s.heap h' -> Q none { s with heap := h' }) : wpAny (model prog w) A (pyNext (.ref it)) Q E s := by
 obtain ⟨c, d, sl, n, e⟩ := hx;obtain ⟨oi, hoi, hci, hdi⟩ := id hit;unfold pyNext;refine wpAny_bind (wpAny_attempt (wpAny_callSpecial?_slot (name := ofString "__next__") hit.typeIs slot_listiter_next
   (wpAny_call_entry slot_listiter_next hit.typeIs entry_listiter_next ?_ (args_listiter_next _))))
 show wpAny _ _ (field (.ref it) 0 >>= _) _ _ s;refine wpAny_bind (wpAny_field hoi hdi (x := .ref x) rfl ?_);refine KFB.if_not rfl ?_;show wpAny _ _ (field (.ref it) 1 >>= _) _ _ s;refine wpAny_bind (wpAny_field hoi hdi (x := .int i 0) rfl ?_);show wpAny _ _ (seqItems? (.ref x) >>= _) _ _ s;refine wpAny_bind (wpAny_seqItems e rfl ?_);simp only [Int.toNat_natCast, hv];refine wpAny_bind (wpAny_rule (wpAny_bind (wpAny_setField hoi hdi (by simp) ?_)));show wpAny _ _ (newExc (.type "StopIteration") [] >>= _) _ _ _;refine wpAny_bind (wpAny_bind (wpAny_newObj_type ?_ (by size_fits)));refine wpAny_bind (m := firstArgMember _ _) (wpAny_of_eq (a := Value.none) (by first | rfl | (simp only [firstArgMember]; rfl)) ?_);refine wpAny_newObj_type ?_ (by size_fits);refine (wpAny_bind (wpAny_handled ?_) : wpAny _ _ (raiseNew _) _ _ _);rw [show A.in1.handled = none from hh];refine wpAny_bind (wpAny_pure (wpAny_throw ?_));refine wpAny_bind (wpAny_isInstance (T := "StopIteration") (b := true) ⟨_, Heap.get?_push_size _ rfl, rfl⟩ isSubtype_stop ?_);exact wpAny_pure (hQ _ (((Heap.SameBut.update ..).extBut.push _).push _))
end
theorem acK {prog : Program} {w : World} (hh : A.handled = none) (I x : Addr) (hne : x ≠ I) (its : Array Value) (Ts : Nat -> Addr) (vals : Nat -> Array Value)
   (hit : ∀ j, j < its.size -> its[j]? = some (.ref (Ts j))) (hTI : ∀ j, j < its.size -> Ts j ≠ I) :
   WalksU prog w A I (I :: x :: (List.range its.size).map Ts) [I] its.size (λ j v => j < its.size /\ v = vals j)
     (λ j h => h.IsListIter I x j /\ iD h x its /\ ∀ k, k < its.size -> h.IsTuple (Ts k) (vals k))
     (λ j T h => (j < its.size /\ T = Ts j) /\ h.IsListIter I x (j + 1) /\ iD h x its /\ ∀ k, k < its.size -> h.IsTuple (Ts k) (vals k)) where
 sub := λ b hb => by simp at hb; simp [hb]
 frame := λ _ _ _ st hk => ⟨st.1.at λ o e => hk I (by simp) o e, st.2.1.at λ o e => hk x (by simp) o e,
   λ k hk' => (st.2.2 k hk').at λ o e => hk (Ts k) (List.mem_cons_of_mem _ (List.mem_cons_of_mem _ (List.mem_map.mpr ⟨k, List.mem_range.mpr hk', rfl⟩))) o e⟩
 item := λ i s Q E hi st hQ => by
   refine afq st.1 st.2.1 (v := .ref (Ts i)) (hit i hi) λ h' hit' hs' => ?_
   have tup : ∀ k, k < its.size -> h'.IsTuple (Ts k) (vals k) := λ k hk' => (st.2.2 k hk').extBut hs'.extBut (hTI k hk')
   exact hQ (Ts i) (vals i) h' s.toks ⟨hi, rfl⟩ (tup i hi) ⟨⟨hi, rfl⟩, hit', st.2.1.at (λ o e => hs'.extBut _ o hne e), tup⟩ λ b o hb e => hs'.extBut b o (λ h => hb (by simp [h])) e
 go := λ _ _ _ _ _ s Q _ hm hQ => wpAny_letOwnedTupleGo_listiter hm.2.1 (hQ s.heap hm.2 λ _ _ _ e => e)
 apart := λ j T _ hm hmem => by
   rcases List.mem_cons.mp hmem with e | e
   · exact hTI j hm.1.1 (hm.1.2 ▸ e)
   · cases e
 done := λ s Q E st hQ => ahA hh st.1 st.2.1 (by simp) λ h' he' => hQ h' s.toks λ b o hb e => he' b o (λ h => hb (by simp [h])) e
 self := λ _ _ _ _ st hQ => wpAny_pyIter_listiter st.1 hQ
noncomputable def acL (ps : Array Value) : Obj := { cls := .none, data := .fields ps }
noncomputable def ao (line col : Nat) (o : Obj) : Prop := o = acL #[] \/ ∃ c, o = acL #[rawInt line, rawInt col, .ref c]
inductive jh (vs : Array Value) (P : Addr) : Prop
 | mk : ∀ f tf i ti b i2 t2, vs.getD 11 .none = .ref P -> vs.getD 18 .none = .str f tf -> vs.getD 7 .none = .int i ti -> vs.getD 9 .none = .bool b -> vs.getD 10 .none = .int i2 t2 -> jh vs P
section
variable {s : Shared} {c P : Addr} {vs ps : Array Value} {dc : Option Addr} {csl : Array (Option Value)}
theorem oN (hc : s.heap.get? c = some ⟨.type "code", dc, .fields vs, csl⟩) (hv : jh vs P) (hP : s.heap.get? P = some (acL ps)) (ht : TriplesOk ps.toList) : s.heap.IsCode c P ps /\ s.heap.TableAt c P ps := by
 refine hv.casesOn λ f tf i ti b i2 t2 e1 e2 e3 e4 e5 => ?_
 have hne : c ≠ P := λ e => by rw [e, hP] at hc; cases hc
 refine ⟨⟨_, _, _, _, _, _, _, _, _, _, hc, rfl, e1, e2, e3, e4, e5, hP, rfl, ht, hne⟩, ⟨⟨_, _, hc, rfl, rfl, ?_⟩, hP⟩⟩;rw [Array.getD_eq_getD_getElem?] at e1;cases h : vs[11]? with
 | none => rw [h] at e1; cases e1
 | some v => rw [h] at e1; exact congrArg some e1
theorem ahB {pos : Pos} {q : Str} {Q : Value -> Shared -> Prop} (henv : env.code = .ref c) (hc : s.heap.get? c = some ⟨.type "code", dc, .fields vs, csl⟩) (hv : jh vs P) (hP : s.heap.get? P = some oP) (ht : ao pos.line pos.col oP) (h : ∀ c' h' tk oP', Heap.ExtBut P s.heap h' -> s.heap.objs.size <= h'.objs.size -> h'.get? P = some oP' -> ao pos.line pos.col oP' -> Q (.ref c') { s with heap := h', toks := tk }) : wpAny M A (genexprCode env pos q scope) Q E s := by
 rcases ht with rfl | ⟨c', rfl⟩
 · refine Classical.byContradiction λ hG9 => ?_
   obtain ⟨h1, h2⟩ := oN (ps := #[]) hc hv hP trivial;tm_at "V";refine wpAny_genexprCodeX henv h1 h2 rfl λ c' h' tk hx hge hlt _ _ ht' _ => ?_
   exact h c' h' tk _ hx (Nat.le_trans hge (Nat.le_of_lt hlt)) ht'.2 (.inr ⟨c', rfl⟩)
 · refine Classical.byContradiction λ hG9 => ?_
   obtain ⟨h1, h2⟩ := oN (ps := #[rawInt pos.line, rawInt pos.col, .ref c']) hc hv hP (by exact trivial);obtain ⟨o, vs', file, tf, flags, tg, inF, text, tt, op, ho, hd, h11, h2, h7, h9, h10, hop, hpd, htr, hne⟩ := h1;tm_at "V";unfold genexprCode codeAt;rw [henv, if_neg (show ¬ ((Value.ref c == Value.none) = true) from Bool.false_ne_true)];refine wpAny_bind (wpAny_fieldsOf ho hd ?_);rw [h11];refine wpAny_bind (wpAny_fieldsOf hop hpd ?_);have : codeAmong pos (#[rawInt pos.line, rawInt pos.col, Value.ref c'] : Array Value).toList = some (.ref c') := by simp [codeAmong, rawInt]
   rw [this];exact wpAny_pure (h c' s.heap s.toks _ (λ _ _ _ e => e) (Nat.le_refl _) hP (.inr ⟨c', rfl⟩))
end
theorem rM {fp wr : List Addr} {G : Array GenState -> Array GenState -> Prop} {n : Nat} {St : Nat -> Shared -> Prop} (W : WalksS prog w A I fp wr G n P St) :
   WalksS prog w A I fp wr G (n + 1) (λ j v => 0 < j /\ P (j - 1) v) (λ j s => 0 < j /\ St (j - 1) s) where
 sub := W.sub
 grefl := W.grefl
 gtrans := W.gtrans
 frame := λ i s h' tk st ht hk => ⟨st.1, W.frame _ s h' tk st.2 ht hk⟩
 item := λ i s Q E hi st hQ => W.item (i - 1) s Q E (Nat.sub_lt_right_of_lt_add st.1 hi) st.2 λ v s' hp hs hm => hQ v s' ⟨st.1, hp⟩ ⟨Nat.succ_pos _, (Nat.sub_add_cancel st.1 : i - 1 + 1 = i) ▸ hs⟩ hm
 done := λ s Q E st hQ => W.done s Q E (by simpa using st.2) hQ
 self := λ i s Q E st hQ => W.self _ s Q E st.2 hQ
noncomputable def uO (z : Int) (val : Nat -> Int) (j : Nat) : Int := match j with | 0 => z | j + 1 => val j
theorem qj (z : Int) (val : Nat -> Int) (n : Nat) : preSum (uO z val) (n + 1) = z + preSum val n := by
 induction n with
 | zero => exact (Int.zero_add z).trans (Int.add_zero z).symm
 | succ n ih => exact (congrArg (· + val n) ih).trans (Int.add_assoc ..)
section
variable {s : Shared}
theorem ye (a b : Value) : argsOk "sum" ⟨[a, b], []⟩ := by unfold argsOk; kernel_rfl
theorem lX {x : Value} {Q : Value -> Shared -> Prop} (h : wpAny (model prog w) A.in1 (pyIter x) (λ it gQ => ∃ I fp wr G n P St val, it = .ref I /\ WalksS prog w A.in1 I fp wr G n P St /\ St 0 gQ /\ (∀ b ∈ fp, b < gQ.heap.objs.size) /\ (∀ i v, P i v -> ∃ t, v = .int (val i) t) /\ ∀ s' t', Moved wr G gQ s' -> Q (.int (z + preSum val n) t') s') E s) : wpAny (model prog w) A (call (.builtin "sum") [x, .int z tz]) Q E s := by
 refine call_function_tree F.kind_sum F.plain_sum F.entry_sum (ye _ _) ?_;unfold Builtin.«sum»;refine wpAny_ite_false (by rfl) ?_;refine wpAny_bind (wpAny_of_eq (show Builtin.Builtins.bindParams "sum" ["start"] 0 ⟨[.int z tz], []⟩ = pure [some (.int z tz)] from rfl) ?_);refine wpAny_bind (wpAny_mono h (λ it gQ h₂ => ?_) λ _ _ e => e);tm_at "X";obtain ⟨I, fp, wr, G, n, P, St, val, rfl, W, hst, hfp, hval, hQ⟩ := h₂;tm_at "V";have fin : ∀ (t : Tok) (tk : Nat) (stage : Int), (stage = 0 \/ stage = 2) -> gQ.toks <= tk -> wpAny (model prog w) A.in1 (do
     for (ty, what, hint) in [("str", "strings", "''"), ("bytes", "bytes", "b''"), ("bytearray", "bytearray", "b''")] do
       if <- isInstance (.int z t) (.type ty) then
         rule "sum.start-refused"; raiseError "TypeError" s!"sum() can't sum {what} [use {hint}.join(seq) instead]"
     again (.builtin "sum.loop" ⟨[.ref I, <- newList [.int z t], rawInt stage, rawInt 0], []⟩)) (λ fin s' => match fin with
       | .done (.ret v) => Q v s'
       | .again c => c.quiet = true /\ codeAny (model prog w) A c (λ r s' => match r with | .ok (.ret v) => Q v s' | .ok _ => False | .error e => E e s') s'
       | _ => False) E { gQ with toks := tk } := by
   intro t tk stage hs htk;simp only [List.forIn_cons, List.forIn_nil];refine wpAny_bind (wpAny_bind (wpAny_bind (wpAny_isInstance (T := "int") (b := false) (typeIs_int _ _ _) PySem.sub_int_str ?_)));refine wpAny_ite_false rfl ?_;refine wpAny_pure (wpAny_bind (wpAny_bind (wpAny_isInstance (T := "int") (b := false) (typeIs_int _ _ _) PySem.sub_int_bytes ?_)));refine wpAny_ite_false rfl ?_;refine wpAny_pure (wpAny_bind (wpAny_bind (wpAny_isInstance (T := "int") (b := false) (typeIs_int _ _ _) PySem.sub_int_bytearray ?_)));refine wpAny_ite_false rfl ?_;refine wpAny_pure (wpAny_pure ?_);refine wpAny_bind (wpAny_newObj_type ?_);have hSf : gQ.heap.objs.size ∉ fp := λ hm => Nat.lt_irrefl _ (hfp _ hm)
   refine wpAny_pure ⟨plainId_quiet F.plain_sum_loop _, codeAny_sum_loopAnyS (rM W) (uO z val) (λ i v hv => ?_) gQ.heap.objs.size hSf n 1 _ t 0 stage hs (by lia) (by lia)
     ⟨Nat.one_pos, W.frame 0 gQ _ _ hst (by first | exact htk | lia) λ b _ o e => Heap.get?_push_of_some _ e⟩ (by
       show (gQ.heap.push _).get? _ = _;rw [Heap.get?_push_size _ rfl]; simp [preSum, uO]) λ s' t' hm => ?_⟩
   · cases i with
     | zero => exact absurd hv.1 (Nat.lt_irrefl _)
     | succ i => exact hval i v hv.2
   · rw [qj]
     exact hQ s' t' (hm.drop_new (by first | exact htk | lia))
 refine wpAny_ite_split (λ _ => ?_) (λ _ => ?_)
 · refine wpAny_bind (wpAny_rule (wpAny_bind (wpAny_mkInt (wpAny_bind (wpAny_pure ?_)))))
   exact fin _ _ 0 (.inl rfl) (Nat.le_succ _)
 · refine wpAny_bind (wpAny_pure ?_)
   exact fin _ _ 2 (.inr rfl) (Nat.le_refl _)
end
theorem ex4 {α β γ δ : Type _} {P : α -> β -> γ -> δ -> Prop} (a : α) (b : β) (c : γ) (d : δ) (k : P a b c d) : ∃ a b c d, P a b c d := ⟨a, b, c, d, k⟩
theorem ex9 {α β γ δ ε ζ η θ ι : Type _} {P : α -> β -> γ -> δ -> ε -> ζ -> η -> θ -> ι -> Prop} (a : α) (b : β) (c : γ) (d : δ) (e : ε) (f : ζ) (g : η) (h : θ) (i : ι) (k : P a b c d e f g h i) : ∃ a b c d e f g h i, P a b c d e f g h i := ⟨a, b, c, d, e, f, g, h, i, k⟩
noncomputable def ahC (F : Value -> Prop) (u : Shared) (y : Value) (s₃ : Shared) : Prop := F y /\ Keeps u s₃
noncomputable abbrev bf (a b : Value) : Obj := ⟨.type "tuple", none, .seq #[a, b] 0, #[]⟩
section
variable {s : Shared} {x c P : Addr} {m : Str -> Option Value} {news : List (Addr × Obj)} {p : Program} {loose : List Str}
theorem rN {xa xb : Str} {pa pb pt : Pos} {kt : Nat} {pos : Pos} {vs : Array Value} {dc : Option Addr} {csl : Array (Option Value)} {tvs : List (Addr × Value × Value)} {n : Nat} {sl : Array (Option Value)} {Q : Value -> Shared -> Prop} (F' : Nat -> Value -> Prop) (Fx : Fr gO L s.heap m) (X₀ : K.In gO) (N : News gO L s.heap news) (T : Top p loose mean mg mb gO) (G : AllBare s.gens) (hh : A.handled = none) (hroom : A.depth < recursionLimit) (henv : env.code = .ref c) (hglob : env.globals = mainGlobals) (hc : K.lookup c = some ⟨.type "code", dc, .fields vs, csl⟩) (hv : jh vs P) (hP : (P, oP) ∈ news) (htab : ao pos.line pos.col oP) (hx : (x, (⟨.ref C, some dx, .seq (tvs.map λ t => Value.ref t.1).toArray n, sl⟩ : Obj)) ∈ news) (hdx : (dx, od) ∈ news) (ht : ∀ t ∈ tvs, (t.1, bf t.2.1 t.2.2) ∈ news) (hit : findIn K (.ref C) "__iter__" = some (some (.builtin "list.__iter__"))) (hsl : subIn K (.ref C) (.type "list") = some true) (hiter : ∀ Q : Value -> Shared -> Prop, Q (.ref x) s -> wpAny (model prog w) A (eval iter env) Q E s) (hel : ∀ (A' : Around) E' (i : Nat) t u Cx code gW, A'.handled = none -> tvs[i]? = some t -> Fr gO Cx u.heap gW -> gW xa = some t.2.1 -> gW xb = some t.2.2 -> wpAny (model prog w) A' (eval elt (genEnv scope [] Cx (.ref code) builtinsNs env)) (ahC (F' i) u) E' u) (hQ : ∀ a s' oP', Fr gO L s'.heap m -> (∀ b o, b ≠ P -> s.heap.get? b = some o -> s'.heap.get? b = some o) -> s'.heap.get? P = some oP' -> ao pos.line pos.col oP' -> AllBare s'.gens -> s'.os = s.os -> s.heap.objs.size <= s'.heap.objs.size -> Gen prog w A (s.heap.objs.size - 1) a tvs.length F' s' -> Q (.ref a) s') (hco : scope.isCoroutine = false) (hclos : closureFor scope env = pure []) (hcell : ∀ y ∈ scope.names, y.2 ≠ .cell) (h0 : scope.names.lookup (".0" : Str) = some NameKind.local) (hxa : scope.names.lookup xa = some .local) (hxb : scope.names.lookup xb = some .local) (hab : xa ≠ xb) (hkind : scope.kind = .function) (hs : ∀ x, genFold iter env x = pure x) : wpAny (model prog w) A (eval (.GeneratorExp elt [⟨.Tuple [.Name xa pa, .Name xb pb] kt pt, iter, [], 0⟩] scope pos) env) Q E s := by
 tm_at "bc";have I : InstAt s.heap x ⟨.ref C, some dx, .seq (tvs.map λ t => Value.ref t.1).toArray n, sl⟩ C (some od) := bx N hx hdx;have hLlt : L < s.heap.objs.size := Fx.ns.lt;have hPg := N.get hP;have hxg := N.get hx;have hPlt := Heap.lt_size hPg;have hxlt := Heap.lt_size hxg;have hPf : ∃ ps, oP = acL ps := by rcases htab with rfl | ⟨_, rfl⟩ <;> exact ⟨_, rfl⟩
 have hxP : x ≠ P := λ e => by obtain ⟨ps, rfl⟩ := hPf; rw [e, hPg] at hxg; cases hxg
 have hLP : L ≠ P := (N _ hP).2.1.symm;let its : Array Value := (tvs.map λ t => Value.ref t.1).toArray
 have hsz : its.size = tvs.length := by simp [its]
 let Ts : Nat -> Addr := λ j => (tvs[j]?.map λ t => t.1).getD 0
 let vals : Nat -> Array Value := λ j => (tvs[j]?.map λ t => (#[t.2.1, t.2.2] : Array Value)).getD #[.none, .none]
 have at' : ∀ j, j < its.size -> ∃ t, tvs[j]? = some t /\ t ∈ tvs := λ j hj => ⟨tvs[j]'(hsz ▸ hj), List.getElem?_eq_getElem _, List.getElem_mem _⟩
 have hTs : ∀ j, j < its.size -> s.heap.get? (Ts j) = some ⟨.type "tuple", none, .seq (vals j) 0, #[]⟩ := λ j hj => by
   refine (at' j hj).elim λ t k => ?_
   simp only [Ts, vals, k.1, Option.map_some, Option.getD_some]; exact N.get (ht t k.2)
 have hTlt : ∀ j, j < its.size -> Ts j < s.heap.objs.size := λ j hj => Heap.lt_size (hTs j hj)
 have hTP : ∀ j, j < its.size -> Ts j ≠ P := λ j hj e => by
   tm_at "X";obtain ⟨ps, rfl⟩ := hPf;tm_at "V";have := hTs j hj;rw [e, hPg] at this; cases this
 have hitm : ∀ j, j < its.size -> its[j]? = some (.ref (Ts j)) := λ j hj => by
   refine (at' j hj).elim λ t k => ?_
   simp [its, Ts, k.1]
 refine wpAny_GeneratorExp_walksQT hh hco hclos hcell h0 hxa hxb hab hkind hroom (hiter _ (afp X I hit hsl ?_)) hs;have hk₁ : ∀ b o, s.heap.get? b = some o -> (s.heap.push { cls := .type "list_iterator", data := .fields #[.ref x, .int 0 0] }).get? b = some o := λ b o e => Heap.get?_push_of_some _ e
 refine ⟨(T.nolimit.keeps Fx.keep).keeps hk₁, ahB (s := { s with heap := s.heap.push _ }) henv (hk₁ _ _ (X _ _ hc)) hv (hk₁ _ _ hPg) htab λ c' h₃ tk oP' hx₃ hsz₃ hP₃ ht₃ => ?_⟩;have hk₃ : ∀ b o, b ≠ P -> s.heap.get? b = some o -> h₃.get? b = some o := λ b o hb e => hx₃ b o hb (hk₁ b o e)
 have F₃ : Fr gO L h₃ m := ⟨Fx.ns.extBut (λ b o hb e => hk₃ b o hb e) hLP, λ b o e => hk₃ b o (λ eb => by have := (N _ hP).2.2; dsimp only at this; rw [<- eb, e] at this; cases this) (Fx.keep b o e), Fx.above⟩;have T₃ := T.keeps F₃.keep;tm_at "X";obtain ⟨bm, ob, b1, b2, b3, b4, b5, b6⟩ := T₃.bmain;tm_at "V";refine wpAny_builtinsFor (m := mg) (by rw [hglob]; exact T₃.g) b1 b2 b3 b4 b5 b6 ?_;have hge : s.heap.objs.size + 1 <= h₃.objs.size := by have := hsz₃; simp only [Heap.size_push] at this; exact this
 have W := λ (A' : Around) (hA : A'.handled = none) => acK (prog := prog) (w := w) hA s.heap.objs.size x (Nat.ne_of_lt hxlt) its Ts vals hitm λ j hj => Nat.ne_of_lt (hTlt j hj)
 have hIP : s.heap.objs.size ≠ P := Nat.ne_of_gt hPlt;refine ex9 s.heap.objs.size _ [s.heap.objs.size] its.size _ _ _ (λ _ => true) F' ⟨rfl, W, (λ i v hv => ?_), ?_, ?_, T₃.nolimit, ?_, (λ href hhref => ?_), λ a h₅ tk₅ gs hgb hag hsz₅ hk₅ W₅ hat => ?_⟩
 · exact (at' i hv.1).elim λ t k => ⟨t.2.1, t.2.2, by rw [hv.2]; simp [vals, k.1]⟩
 · exact ⟨⟨_, hx₃ _ _ hIP (Heap.get?_push_size _ rfl), rfl, rfl⟩, ⟨_, _, _, _, hk₃ _ _ hxP hxg⟩, λ k hk => ⟨_, hk₃ _ _ (hTP k hk) (hTs k hk), rfl, _, rfl⟩⟩
 · intro b hb
   show b < h₃.objs.size;rcases List.mem_cons.mp hb with rfl | hb
   · exact hge
   · rcases List.mem_cons.mp hb with rfl | hb
     · exact Nat.lt_of_lt_of_le (Nat.lt_succ_of_lt hxlt) hge
     · exact (List.mem_map.mp hb).elim λ k hk => hk.2 ▸ Nat.lt_of_lt_of_le (Nat.lt_succ_of_lt (hTlt k (List.mem_range.mp hk.1))) hge
 · intro hb
   rcases List.mem_cons.mp hb with e | hb
   · exact (T.nolimit.keeps Fx.keep).elim λ mc hn => absurd (e ▸ hn.1.lt) (Nat.lt_irrefl _)
   · cases hb
 · have hk₆ : ∀ (u : Heap), (∀ b ∈ List.range h₃.objs.size, b ∉ [s.heap.objs.size] -> ∀ o, href.get? b = some o -> u.get? b = some o) -> ∀ b o, gO.get? b = some o -> u.get? b = some o := λ u hu b o e => by
     have e3 := F₃.keep b o e;have hlt := Heap.lt_size e3;refine hu b (List.mem_range.mpr hlt) (λ hm => ?_) o (hhref b o e3);rcases List.mem_cons.mp hm with eb | hm
     · exact absurd (Nat.lt_of_lt_of_le (Heap.lt_size e) (Nat.le_trans Fx.above (Nat.le_of_lt hLlt))) (by rw [eb]; exact Nat.lt_irrefl _)
     · cases hm
   refine ⟨λ A' E' i va vb gQ gW hA hp hn ha hb hkk => ?_, λ A' E' i va vb gQ gW hA hp _ hn ha hb hkk => ?_⟩
   · simp only [List.forIn_nil]
     exact wpAny_pure ⟨rfl, gQ.heap, gQ.toks, rfl, λ _ _ e => e⟩
   · refine Classical.byContradiction λ hG9 => ?_
     obtain ⟨hi, hvv⟩ := hp;obtain ⟨t, et, _⟩ := at' i hi;tm_at "V";simp only [vals, et, Option.map_some, Option.getD_some] at hvv;obtain ⟨e1, e2⟩ : va = t.2.1 /\ vb = t.2.2 := by simpa using congrArg Array.toList hvv
     subst e1 e2;exact hel A' E' i t gQ h₃.objs.size c' gW hA et ⟨hn, hk₆ _ hkk, Nat.le_trans Fx.above (Nat.le_trans (Nat.le_of_lt hLlt) (Nat.le_of_succ_le hge))⟩ ha hb
 · have hps : (passing (λ _ => true) its.size 0) = List.range its.size := by
     simp only [passing, List.drop_zero];exact List.filter_eq_self.mpr λ _ _ => rfl
   have hlen : (passing (λ _ => true) its.size 0).length = tvs.length := by rw [hps, List.length_range, hsz]
   refine hQ a _ oP' (F₃.keeps hk₅) (λ b o hb e => hk₅ b o (hk₃ b o hb e)) (hk₅ _ _ hP₃) ht₃ (G.push hgb) rfl (by show _ <= h₅.objs.size; rw [hsz₅]; exact Nat.le_trans (Nat.le_of_succ_le hge) (Nat.le_succ_of_le (Nat.le_of_lt hag))) ?_;refine Gen.imp (F := λ j y => ∃ i, (passing (λ _ => true) its.size 0)[j]? = some i /\ F' i y) ?_ (λ j y hy => ?_)
   · rw [<- hlen]
     refine ex4 _ _ _ _ ⟨W₅, hat, (λ i s' st => st.1.typeIs), List.mem_cons_self, ?_, ?_⟩
     · intro b hb
       show b < h₅.objs.size;rw [hsz₅];rcases List.mem_cons.mp hb with rfl | hb
       · exact Nat.lt_succ_self _
       · rcases List.mem_cons.mp hb with rfl | hb
         · exact Nat.lt_succ_of_lt hag
         · exact Nat.lt_succ_of_lt (Nat.lt_trans (List.mem_range.mp hb) hag)
     · intro b hb
       have hb' : b = h₃.objs.size \/ b ∈ [s.heap.objs.size] := List.mem_cons.mp hb;rcases hb' with rfl | hb
       · exact Nat.lt_of_lt_of_le (Nat.sub_lt (Nat.lt_of_le_of_lt (Nat.zero_le _) hLlt) Nat.one_pos) (Nat.le_of_succ_le hge)
       · rcases List.mem_cons.mp hb with rfl | hb
         · exact Nat.sub_lt (Nat.lt_of_le_of_lt (Nat.zero_le _) hLlt) Nat.one_pos
         · cases hb
   · refine Classical.byContradiction λ hG9 => ?_
     obtain ⟨i, hi, hy⟩ := hy;tm_at "V";rw [hps] at hi
     by_cases hj : j < its.size
     · rw [List.getElem?_range hj] at hi
       cases hi; exact hy
     · rw [List.getElem?_eq_none (by simpa using hj)] at hi; cases hi
end
noncomputable abbrev aL.obj (q : aL) : Obj := bf (.str q.f q.tf) (.str q.p q.tp)
noncomputable abbrev refs (l : List aL) : List Value := l.map λ q => .ref q.a
noncomputable def AllIn : List aL -> List (Addr × Obj) -> Prop
 | [], _ => True
 | q :: r, news => (q.a, q.obj) ∈ news /\ AllIn r news
theorem AllIn.get {news : List (Addr × Obj)} : ∀ {l : List aL}, AllIn l news -> ∀ q ∈ l, (q.a, q.obj) ∈ news
 | [], _, _, hq => nomatch hq
 | q' :: r, h, q, hq => by
   rcases List.mem_cons.mp hq with rfl | hq
   · exact h.1
   · exact AllIn.get h.2 q hq
theorem AllIn.mono {news : List (Addr × Obj)} : ∀ {l : List aL}, AllIn l news -> (∀ q ∈ l, (q.a, q.obj) ∈ news -> (q.a, q.obj) ∈ news') -> AllIn l news'
 | [], _, _ => trivial
 | q :: r, h, k => ⟨k q (.head _) h.1, AllIn.mono h.2 λ q' hq => k q' (.tail _ hq)⟩
theorem AllIn.of {news : List (Addr × Obj)} : ∀ {l : List aL}, (∀ q ∈ l, (q.a, q.obj) ∈ news) -> AllIn l news
 | [], _ => trivial
 | q :: r, h => ⟨h q (.head _), AllIn.of λ q' hq => h q' (.tail _ hq)⟩
noncomputable def wide (q : aL) : Nat := q.f.length + q.p.length
noncomputable def bz (l : List aL) : Nat := (l.map wide).sum
noncomputable def text (l : List aL) : Str := Txt.join (ofString "") (l.map λ q => q.f ++ q.p)
theorem aai (f p : Str) : Txt.join (ofString "") [f, p] = f ++ p := by
 show f ++ ofString "" ++ p = f ++ p;apply Str.ext';simp only [Str.cps_append, Array.append_assoc];rw [show (ofString "").cps = #[] from rfl, Array.empty_append]
section
variable {s u : Shared} {x c P : Addr} {m : Str -> Option Value} {news : List (Addr × Obj)} {p : Program} {loose : List Str} {g : Obj -> List (Addr × Obj)}
theorem acM {pos : Pos} {code v : Value} {Q : Value -> Shared -> Prop} (F : Fr gO C u.heap m) (X : K.In gO) (T : Top p loose mean mg mb gO) (hg : env.globals = mainGlobals) (e : nsIn K mainGlobals y = some none) (hv : bootBuiltins y = some v) (hn : y ≠ "__name__") (h : Q v u) (hk : scope.kind = .function) (hx : (genEnv scope cl C code builtinsNs env).kindOf y = some .globalImplicit) (hd : (y == ("__debug__" : Str)) = false) : wpAny (model prog w) A (eval (.Name y pos) (genEnv scope cl C code builtinsNs env)) Q E u :=
 Name_function_global hk hx (loadGlobal_builtin (env := genEnv scope cl C code builtinsNs env) (show u.heap.Ns env.globals mg from hg ▸ T.g.keeps F.keep) (mg_none_of X T.g e) (T.b.keeps F.keep) ((T.builtins y hn).trans hv) h) hd
theorem acN {pos : Pos} {code v : Value} {Q : Value -> Shared -> Prop} (F : Fr gO C u.heap m) (X : K.In gO) (T : Top p loose mean mg mb gO) (hg : env.globals = mainGlobals) (e : nsIn K mainGlobals y = some (some v)) (h : Q v u) (hk : scope.kind = .function) (hx : (genEnv scope cl C code builtinsNs env).kindOf y = some .globalImplicit) (hd : (y == ("__debug__" : Str)) = false) : wpAny (model prog w) A (eval (.Name y pos) (genEnv scope cl C code builtinsNs env)) Q E u :=
 Name_function_global hk hx (loadGlobal_global (env := genEnv scope cl C code builtinsNs env) (show u.heap.Ns env.globals mg from hg ▸ T.g.keeps F.keep) (mg_of X T.g e) h) hd
theorem Gen.later {a n : Nat} {tk : Nat} (X : Gen prog w A Kb a n F s) (ht : s.toks <= tk) : Gen prog w A Kb a n F { s with toks := tk } := by
 obtain ⟨fp, wr, g, St, W, hst, hT, ha, hfp, hwr⟩ := X;exact ⟨fp, wr, g, St, W, W.frame _ _ _ _ hst ht λ b _ o e => e, hT, ha, hfp, hwr⟩
theorem jL {oP' : Obj} (N : News gO L h news) (U : UpdF P oP news g) (k : ∀ b o, b ≠ P -> h.get? b = some o -> h'.get? b = some o) (hP : h'.get? P = some oP') : News gO L h' (g oP') := by
 induction U with
 | head hne =>
   intro q hq;tm_at "bg"
   · exact ⟨hP, (N _ (.head _)).2⟩
   · exact ⟨k _ _ (hne q hq) (N _ (.tail _ hq)).1, (N _ (.tail _ hq)).2⟩
 | tail hne _ ih =>
   intro q hq;tm_at "bg"
   · exact ⟨k _ _ hne (N _ (.head _)).1, (N _ (.head _)).2⟩
   · exact ih (λ q hq => N q (.tail _ hq)) q hq
theorem yf {a n : Nat} {Q : Value -> Shared -> Prop} (Fh : Fr gO L s.heap m) (N : News gO L s.heap news) (G : AllBare s.gens) (X : Gen prog w A Kb a n F s) (hLK : L <= Kb) (hN : ∀ q ∈ news, q.1 <= Kb) (val : Nat -> Int) (hval : ∀ j v, F j v -> ∃ t, v = .int (val j) t) (hQ : ∀ s' t', Fr gO L s'.heap m -> News gO L s'.heap news -> AllBare s'.gens -> s'.os = s.os -> Q (.int (z + preSum val n) t') s') : wpAny (model prog w) A (call (.builtin "sum") [.ref a, .int z tz]) Q E s := by
 tm_at "X";obtain ⟨fp, wr, g, St, W, hst, _, _, hfp, hwr⟩ := X;tm_at "V";have W := W.in4_1;exact lX (W.self 0 _ _ _ hst ⟨a, _, _, _, _, _, _, val, rfl, W, hst, hfp, hval, λ s' t' hm => hQ s' t' (Fh.moved hm λ b hb => Nat.lt_of_le_of_lt hLK (hwr b hb))
   (λ q hq => ⟨hm.heap _ _ (λ hmem => Nat.lt_irrefl _ (Nat.lt_of_lt_of_le (hwr _ hmem) (hN q hq))) (N q hq).1, (N q hq).2⟩) (G.movedS hm) hm.os⟩)
theorem uP {a n : Nat} {sep : Str} {Q : Value -> Shared -> Prop} (Fh : Fr gO L s.heap m) (N : News gO L s.heap news) (G : AllBare s.gens) (X : Gen prog w A Kb a n F s) (hLK : L <= Kb) (hN : ∀ q ∈ news, q.1 <= Kb) (tx : Nat -> Str) (htx : ∀ j v, F j v -> ∃ u, v = .str (tx j) u) (hok : JoinOk sep ((List.range n).map tx) = true) (hQ : ∀ s' t', Fr gO L s'.heap m -> News gO L s'.heap news -> AllBare s'.gens -> s'.os = s.os -> Q (.str (Txt.join sep ((List.range n).map tx)) t') s') (hsz : n <= sizeLine) : wpAny (model prog w) A (call (.builtin "str.join") [.str sep t, .ref a]) Q E s :=
 join_rowsK Fh G X hLK tx htx hok (λ s' t' F' G' os' k => hQ s' t' F' (λ q hq => ⟨k _ _ (hN q hq) (N q hq).1, (N q hq).2⟩) G' os') hsz
theorem rO (l : List aL) : (List.range l.length).map (λ i => (l[i]?.map λ q => q.f ++ q.p).getD (ofString "")) = l.map λ q => q.f ++ q.p := by
 apply List.ext_getElem (by simp);intro i h1 h2;simp only [List.length_map, List.length_range] at h1;simp [List.getElem?_eq_getElem h1]
theorem rP {l : List aL} (hw : ∀ q ∈ l, wide q < 100000) (hn : l.length < 100) : JoinOk (ofString "") (l.map λ q => q.f ++ q.p) = true := by
 apply joinOk_of;have : ((l.map λ q => q.f ++ q.p).map (·.length)).sum <= l.length * 100000 := by
   clear hn
   induction l with
   | nil => simp
   | cons q r ih =>
     have h1 := hw q (.head _);have h2 := ih λ q hq => hw q (.tail _ hq)
     simp only [List.map_cons, List.sum_cons, List.length_cons, Str.length_append];unfold wide at h1;lia
 have e : (ofString "").length = 0 := rfl;rw [e];lia
theorem ql : ∀ (l : List aL), preSum (λ i => ((l[i]?.map wide).getD 0 : Nat)) l.length = (bz l : Int) := by
 have key : ∀ (l : List aL) (n : Nat), n <= l.length -> preSum (λ i => ((l[i]?.map wide).getD 0 : Nat)) n = (bz (l.take n) : Int) := by
   intro l n
   induction n with
   | zero => intro _; simp [preSum, bz]
   | succ n ih =>
     intro hn;have h2 : l[n]? = some l[n] := List.getElem?_eq_getElem (by lia);show preSum _ n + _ = _;rw [ih (by lia), List.take_succ_eq_append_getElem (by lia)];simp only [bz, List.map_append, List.sum_append, h2, Option.map_some, Option.getD_some, List.map_cons, List.map_nil, List.sum_cons, List.sum_nil];lia
 intro l;rw [key l l.length (Nat.le_refl _), List.take_length]
theorem yg {o : Obj} (U : UpdF P oP news g) : ∀ q ∈ g o, ∃ q' ∈ news, q'.1 = q.1 := by
 induction U with
 | head hne =>
   intro q hq;tm_at "bg"
   · exact ⟨_, .head _, rfl⟩
   · exact ⟨q, .tail _ hq, rfl⟩
 | tail hne _ ih =>
   intro q hq;tm_at "bg"
   · exact ⟨_, .head _, rfl⟩
   · obtain ⟨q', h1, h2⟩ := ih q hq
     exact ⟨q', .tail _ h1, h2⟩
theorem wN {o : Obj} (N : News gO L h news) (U : UpdF P oP news g) : ∀ q ∈ g o, q.1 <= h.objs.size - 1 := λ q hq => by
 obtain ⟨q', h1, h2⟩ := yg U q hq;rw [<- h2];exact Nat.le_sub_one_of_lt (Heap.lt_size (N _ h1).1)
theorem aeY (F : Fr gO L h m) : L <= h.objs.size - 1 := Nat.le_sub_one_of_lt F.ns.lt
theorem qm {o : Obj} {ln co : Nat} (N : News gO L h news) (hx : (x, o) ∈ news) (hP : (P, oP) ∈ news) (ht : ao ln co oP) (ho : (o.cls == .none) = false) : x ≠ P := λ e => by
 have h1 := N.get hx;rw [e, N.get hP] at h1;rcases ht with rfl | ⟨_, rfl⟩ <;> (cases h1; exact Bool.noConfusion ho)
end
noncomputable abbrev bJ (dx : Addr) (l : List aL) (n : Nat) : Obj := ⟨.ref 178, some dx, .seq (refs l).toArray n, #[]⟩
noncomputable abbrev fQ (hs : Int) (tk : Tok) (z : Int) (tz : Tok) : Obj := dictOf [⟨hs, .str (ofString "_initial_size") tk, .int z tz⟩] 1
section
variable {q p : Addr × Obj} {l ns : List (Addr × Obj)}
theorem Sel.mem (S : Sel q l r) : q ∈ l := by
 induction S with
 | head => exact .head _
 | tail _ ih => exact .tail _ ih
theorem Sel.sub (S : Sel q l r) : ∀ p ∈ r, p ∈ l := by
 induction S with
 | head => exact λ p hp => .tail _ hp
 | tail _ ih =>
   intro p hp;tm_at "an"
   · exact .head _
   · exact .tail _ (ih p hp)
theorem Sel.news (S : Sel q l r) (N : News gO L h l) : News gO L h (q :: r) := λ p hp => by
 rcases List.mem_cons.mp hp with rfl | hp
 · exact N _ S.mem
 · exact N _ (S.sub p hp)
theorem Sel.news2 {q1 : Addr × Obj} (S1 : Sel q1 l r1) (S2 : Sel q2 r1 r2) (N : News gO L h l) : News gO L h (q1 :: q2 :: r2) := λ p hp => by
 have N1 := S1.news N;rcases List.mem_cons.mp hp with rfl | hp
 · exact N1 _ (.head _)
 · exact S2.news (λ p hp => N1 p (.tail _ hp)) p hp
theorem yh {a b : Addr × Obj} (N : News gO L h (a :: b :: r)) : News gO L h (b :: a :: r) := λ p hp => by
 rcases List.mem_cons.mp hp with rfl | hp
 · exact N _ (.tail _ (.head _))
 · rcases List.mem_cons.mp hp with rfl | hp
   · exact N _ (.head _)
   · exact N _ (.tail _ (.tail _ hp))
theorem az (N : News gO L h l) (k : ∀ p ∈ r, p ∈ l) : News gO L h r := λ p hp => N p (k p hp)
theorem AllIn.cons {ps : List aL} (H : AllIn ps ns) : AllIn ps (p :: ns) := H.mono λ _ _ hm => .tail _ hm
end
theorem oO (l : List aL) (q : aL) : (refs l).toArray.push (.ref q.a) = (refs (l ++ [q])).toArray := by simp [refs]
theorem jM (l : List aL) : (refs l).toArray.size = l.length := by simp [refs]
theorem yj (l : List aL) (q q' : aL) (hf : q.f = q'.f) (hp : q.p = q'.p) : text (l ++ [q]) = text (l ++ [q']) := by
 unfold text; rw [List.map_append, List.map_append]; simp only [List.map_cons, List.map_nil, hf, hp]
theorem cH (l r : List aL) : bz (l ++ r) = bz l + bz r := by simp [bz]
theorem oR : bz [] = 0 := rfl
theorem lY (q : aL) (r : List aL) : bz (q :: r) = wide q + bz r := by simp [bz]
theorem ji {l : List aL} (hw : ∀ q ∈ l, wide q < 100000) (hn : l.length < 100) : bz l <= 10000000 := by
 have : bz l <= l.length * 100000 := by
   clear hn
   induction l with
   | nil => simp [bz]
   | cons q r ih =>
     have h1 := hw q (.head _);have h2 := ih λ q hq => hw q (.tail _ hq)
     rw [lY, List.length_cons];lia
 lia
section
variable {s : Shared} {x f : Addr} {m : Str -> Option Value} {od : Option Obj}
theorem yl {Q : Bool -> Shared -> Prop} (F : Fr gO L s.heap m) (X₀ : K.In gO) (I : InstAt s.heap x ox C od) (hb : findIn K (.ref C) "__bool__" = some none) (hs : findIn K (.ref C) "__len__" = some (some (.ref f))) (hf : isFn K (.ref f) = true) (h : wpAny (model prog w) A.in1 (call (.ref f) [.ref x]) (λ v s' => ∃ n t, v = .int n t /\ (0 <= n /\ n < 2 ^ 63) /\ Q (n != 0) { s' with toks := s'.toks + 1 }) E s) : wpAny (model prog w) A (truthy (.ref x)) Q E s := by
 have X := X₀.keeps F.keep;unfold truthy;refine wpAny_bind (m := callSpecial? (.ref x) (ofString "__bool__")) (wpAny_bind (wpAny_bind (I.type.here ((looks_findIn X hb).here (wpAny_pure ?_)))));refine wpAny_bind (wpAny_bind (I.type.here ((looks_findIn X hs).here ?_)));show wpAny _ _ (if (some (Value.ref f)).isNone = true then _ else _) _ _ _;rw [if_neg (by simp)];refine wpAny_bind (wpAny_runValue (codeAny_builtin PySem.entry_len ?_));rw [Around.under_plainId PySem.plain_len _];unfold Builtin.«len»;refine wpAny_bind (m := oneArg "len" _) (wpAny_pure ?_);refine wpAny_bind (m := callSpecial? (.ref x) (ofString "__len__")) (special_fn X I hs (beq_iff_eq.mp hf) (wpAny_mono h (λ r s' hr => ?_) λ _ _ y => y));tm_at "X";obtain ⟨n, t, rfl, ⟨h0, h1⟩, hq⟩ := hr;tm_at "V";refine wpAny_bind (wpAny_holding (wpAny_pure ?_));refine wpAny_bind (wpAny_letGo ?_);show wpAny _ _ (if n < 0 then _ else _) _ _ _;rw [if_neg (by lia)];show wpAny _ _ (if n >= 2 ^ 63 then _ else _) _ _ _;rw [if_neg (by lia)];exact wpAny_bind (wpAny_mkInt (wpAny_pure (wpAny_pure hq)))
end
section
variable {s : Shared} {x : Addr} {od : Option Obj}
theorem oU {id : String} {args : List Value} {Q : Option Value -> Shared -> Prop} (X : K.In s.heap) (I : InstAt s.heap x ox C od) (hs : findIn K (.ref C) name = some (some (.builtin id))) (hb : bindSpecial (.builtin id) (.ref x) = pure (.builtin id, [.ref x])) (h : wpAny (model prog w) A (call (.builtin id) (.ref x :: args)) (λ v => Q (some v)) E s) : wpAny (model prog w) A (callSpecial? (.ref x) name args) Q E s :=
 wpAny_bind (wpAny_bind (I.type.here ((looks_findIn X hs).here (wpAny_holding (wpAny_bind (wpAny_of_eq hb (wpAny_bind (wpAny_mono h (λ _ _ z => wpAny_pure z) λ _ _ z => z))))))))
theorem uQ {i : Value} {Q : Value -> Shared -> Prop} (X : K.In s.heap) (I : InstAt s.heap x ox C od) (hq : noSeq K C = true) (hs : findIn K (.ref C) "__getitem__" = some (some (.builtin "list.__getitem__"))) (h : wpAny (model prog w) A (call (.builtin "list.__getitem__") [.ref x, i]) Q E s) : wpAny (model prog w) A (getItem (.ref x) i) Q E s := by
 refine (wpAny_holding (wpAny_bind (wpAny_bind (I.type.here (wpAny_bind ((anyM_none X hq).here (wpAny_ite_true rfl (wpAny_pure (wpAny_bind ?_)))))))) : wpAny _ _ (getItem _ _) _ _ _);exact oU X I hs (slot_list_getitem.bind _) (wpAny_mono h (λ _ _ z => wpAny_pure z) λ _ _ z => z)
theorem lZ {i : Value} {Q : Value -> Shared -> Prop} (X : K.In s.heap) (I : InstAt s.heap x ox C od) (hsl : subIn K (.ref C) (.type "list") = some true) (h : wpAny (model prog w) A.in1 (Builtin.«list.__getitem__» ⟨[.ref x, i], []⟩) (λ fin s' => ∃ v, fin = .done (.ret v) /\ Q v s') E s) : wpAny (model prog w) A (call (.builtin "list.__getitem__") [.ref x, i]) Q E s :=
 oM (n := "__getitem__") (.inr (by rw [builtinKind_eq_fast]; kernel_rfl)) (by kernel_rfl) slot_list_getitem.plain entry_list_getitem (cP X I hsl) (args_list_getitem _ _) h
theorem uR {its : Array Value} {n k : Nat} {v : Value} {Q : Value -> Shared -> Prop} (X : K.In s.heap) (I : InstAt s.heap x ox C od) (hq : noSeq K C = true) (hs : findIn K (.ref C) "__getitem__" = some (some (.builtin "list.__getitem__"))) (hsl : subIn K (.ref C) (.type "list") = some true) (hd : ox.data = .seq its n) (hi : i = k) (hk : its[k]? = some v) (hk63 : (k : Int) < 2 ^ 63) (h : Q v s) : wpAny (model prog w) A (getItem (.ref x) (.int i t)) Q E s := by
 have hf : Builtin.List.listFitsIndex i = true := by
   unfold Builtin.List.listFitsIndex;simp only [Bool.and_eq_true, decide_eq_true_eq];lia
 tm_at "bH";tm_at "cG";tm_at "b6";subst hi;refine wpAny_bind (m := seqItemAt x k >>= _) (wpAny_bind (wpAny_seqItemAt I.at_ hd ?_));rw [hk];exact wpAny_pure (wpAny_pure ⟨_, rfl, h⟩)
theorem ym {sl : Addr} {Q : Option Int -> Shared -> Prop} (hTs : s.TypeIs (.ref sl) "slice") (h : Q none s) : wpAny M A (Builtin.List.listSubscript? (.ref sl)) Q E s :=
 wpAny_bind (wpAny_specialOf hTs slice_no_index (wpAny_ite_true rfl (wpAny_pure h)))
theorem yo {st : Option Int} (h0 : st ≠ some 0) : ¬ ((rawPart st == rawInt 0) = true) := by
 cases st with
 | none => exact Bool.false_ne_true
 | some c =>
   intro hh;have : c = 0 := by simpa [rawPart, rawInt] using hh
   exact h0 (by rw [this])
theorem kj {sl : Addr} {vs : Value} {st : Option Int} {Q : Value × Value × Value -> Shared -> Prop} (hsc : s.heap.IsSliceOf sl vl vu vs) (pl : IsPart vl lo) (pu : IsPart vu hi) (ps : IsPart vs st) (h0 : st ≠ some 0) (h : Q (rawPart lo, rawPart hi, rawPart st) s) : wpAny M A (Builtin.List.listSliceParts (.ref sl)) Q E s := by
 rw [listSliceParts_eq];exact hsc.elim λ os hsc => wpAny_bind (wpAny_field hsc.1 hsc.2.2 (x := vs) rfl (wpAny_bind (wpAny_listPart ps (wpAny_ite_false (decide_eq_false (yo h0))
   (wpAny_bind (wpAny_field hsc.1 hsc.2.2 (x := vl) rfl (wpAny_bind (wpAny_listPart pl (wpAny_bind (wpAny_field hsc.1 hsc.2.2 (x := vu) rfl (wpAny_bind (wpAny_listPart pu (wpAny_pure h)))))))))))))
theorem mj {sl : Addr} {vs : Value} (hsc : s.heap.IsSliceOf sl vl vu vs) : s.TypeIs (.ref sl) "slice" := hsc.imp λ _ h => ⟨h.1, h.2.1⟩
theorem uT {sl : Addr} {its : Array Value} {n : Nat} {vs : Value} {st : Option Int} {Q : Value -> Shared -> Prop} (X : K.In s.heap) (I : InstAt s.heap x ox C od) (hq : noSeq K C = true) (hs : findIn K (.ref C) "__getitem__" = some (some (.builtin "list.__getitem__"))) (hsl : subIn K (.ref C) (.type "list") = some true) (hd : ox.data = .seq its n) (hsc : s.heap.IsSliceOf sl vl vu vs) (pl : IsPart vl lo) (pu : IsPart vu hi) (ps : IsPart vs st) (h0 : st ≠ some 0) (h : Q (.ref s.heap.objs.size) { s with heap := s.heap.push { cls := .type "list", data := .seq (slicePick its lo hi st) } }) (hsz : its.size <= sizeLine) : wpAny (model prog w) A (getItem (.ref x) (.ref sl)) Q E s := by
 have hTs := mj hsc;tm_at "bH";tm_at "cv";refine wpAny_bind (m := typeOf (.ref sl)) (wpAny_typeOf hTs ?_);refine wpAny_ite_false (by rfl) ?_;refine wpAny_bind (kj hsc pl pu ps h0 ?_);tm_at "cq";refine wpAny_bind (wpAny_of_eq (sliceIndices_raw lo hi st its.size h0) ?_);exact wpAny_bind (wpAny_newObj_type (wpAny_pure ⟨_, rfl, h⟩) (Nat.le_trans (slicePick_size_le its lo hi st) hsz))
theorem mq {sl v : Addr} {its new : Array Value} {n : Nat} {Q : Unit -> Shared -> Prop} (X : K.In s.heap) (I : InstAt s.heap x ox C od) (hq : noSeq K C = true) (hs : findIn K (.ref C) "__setitem__" = some (some (.builtin "list.__setitem__"))) (hsl : subIn K (.ref C) (.type "list") = some true) (hd : ox.data = .seq its n) (hsc : s.heap.IsSliceOf sl vl vu .none) (pl : IsPart vl lo) (pu : IsPart vu hi) (hv : s.heap.IsList v new) (hxv : x ≠ v) (h : Q () { s with heap := s.heap.update x (Obj.mapSeq λ xs => xs.extract 0 (sliceBounds lo hi none its.size).1.toNat ++ new ++ xs.extract (max (sliceBounds lo hi none its.size).1 (sliceBounds lo hi none its.size).2.1).toNat xs.size) }) (hsz : its.size + new.size <= 1000) : wpAny (model prog w) A (setItem (.ref x) (.ref sl) (.ref v)) Q E s := by
 have hTs := mj hsc;refine hv.elim λ ov hv => hv.2.2.elim λ nv hdv => ?_
 refine (wpAny_holding (wpAny_bind (wpAny_bind (I.type.here (wpAny_bind ((anyM_none X hq).here (wpAny_ite_true rfl (wpAny_pure (wpAny_bind (oU X I hs (slot_list_setitem.bind _) ?_))))))))) : wpAny _ _ (setItem _ _ _) _ _ _);refine oM (n := "__setitem__") (.inl (by rw [builtinKind_eq_fast]; kernel_rfl)) (by kernel_rfl) slot_list_setitem.plain entry_list_setitem (cP X I hsl) (args_list_setitem _ _ _) ?_;tm_at "cv";refine wpAny_bind (m := typeOf (.ref sl)) (wpAny_typeOf hTs ?_);refine wpAny_ite_false (by rfl) ?_;refine wpAny_bind (kj hsc pl pu .none (by simp) ?_);refine wpAny_ite_false (c := Builtin.List.listSameRef (.ref x) (.ref v) = true) (decide_eq_false (by rw [show Builtin.List.listSameRef (.ref x) (.ref v) = false from beq_eq_false_iff_ne.mpr hxv]; exact Bool.false_ne_true)) ?_;refine (wpAny_bind (wpAny_bind (wpAny_typeOf (T := "list") ⟨ov, hv.1, hv.2.1⟩ ?_)) : wpAny _ _ (Builtin.List.listAllItems (.ref v) _ >>= _) _ _ s);refine wpAny_ite_true (by rfl) (wpAny_bind (wpAny_seqItems hv.1 hdv (wpAny_pure ?_)));tm_at "cq";refine wpAny_bind (wpAny_of_eq (sliceIndices_raw lo hi none its.size (by simp)) ?_);refine wpAny_ite_true rfl (wpAny_bind (wpAny_rule (wpAny_ite_false (decide_eq_false ?_) ?_)))
 · unfold Builtin.List.listTooLong; rw [sizeLine_eq]; simp only [decide_eq_true_eq]; lia
 refine wpAny_bind (m := Builtin.List.listUpdate _ _) (wpAny_updateSeq I.at_ hd ?_ (by rw [sizeLine_eq]; lia) (by
   simp only [Array.size_append, Array.size_extract];rw [sizeLine_eq];exact Nat.le_trans (Nat.add_le_add (Nat.add_le_add (Nat.le_trans (Nat.sub_le _ _) (Nat.min_le_right _ _)) (Nat.le_refl _)) (Nat.le_trans (Nat.sub_le _ _) (Nat.min_le_left _ _))) (by lia)))
 exact wpAny_bind (wpAny_letGo (wpAny_pure ⟨_, rfl, wpAny_pure h⟩))
end
theorem qt (f : Array Value -> Array Value) (c : Value) (its : Array Value) (n : Nat) (d : Option Addr) (sl : Array (Option Value)) : ∃ n', Obj.mapSeq f ⟨c, d, .seq its n, sl⟩ = ⟨c, d, .seq (f its) n', sl⟩ := ⟨_, rfl⟩
theorem wO {n : Nat} (h : j <= n) : (max (j : Int) (n : Int)).toNat = n := by rw [Int.max_eq_right (Int.ofNat_le.mpr h)]; rfl
theorem uU (n : Nat) : sliceBounds none none none n = (0, (n : Int), 1) := rfl
theorem rQ (k n : Nat) (h : k <= n) : sliceBounds (some (k : Int)) none none n = ((k : Int), (n : Int), 1) := by
 rw [sliceBounds_plain];simp only [Option.elim, clipAt_nat, Nat.min_eq_left h]
section
variable {g : Array GenState} {d : Drawn} {t : Nat} {x v : Addr} {m : Str -> Option Value} {news : List (Addr × Obj)} {its new : Array Value} {n k : Nat} {sl : Array (Option Value)}
noncomputable abbrev cZ (a b c : Value) : Obj := { cls := .type "slice", data := .fields #[a, b, c] }
theorem qu {o o' : Obj} (F : Fr gO L h m) (N : News gO L h news) (U : UpdF x o news gg) (hs : Heap.SameBut x h h') (hx : h'.get? x = some o') : Fr gO L h' m /\ News gO L h' (gg o') :=
 ⟨F.change hs (N _ (bC U)).2.1 (N _ (bC U)).2.2, jL N U (λ b o hb e => (hs.2 b hb).trans e) hx⟩
theorem uV {Q : Unit -> Shared -> Prop} (F : Fr gO L h m) (X₀ : K.In gO) (N : News gO L h news) (U : UpdF x ⟨.ref C, some dx, .seq its n, sl⟩ news gg) (hd : (dx, od) ∈ news) (hv : (v, listOf new k) ∈ news) (hq : noSeq K C = true) (hs : findIn K (.ref C) "__setitem__" = some (some (.builtin "list.__setitem__"))) (hsl : subIn K (.ref C) (.type "list") = some true) (hsz : its.size + new.size <= 1000) (hxv : x ≠ v) (hQ : ∀ h' n', Fr gO L h' m -> News gO L h' (gg ⟨.ref C, some dx, .seq new n', sl⟩) -> Q () ⟨h', g, d, t, os⟩) : wpAny (model prog w) A (setItem (.ref x) (.ref h.objs.size) (.ref v)) Q E ⟨h.push (cZ .none .none .none), g, d, t, os⟩ := by
 have F1 : Fr gO L (h.push (cZ .none .none .none)) m := F.push _;have N1 := News.tail' (N.push F (cZ .none .none .none));have I := bx (s := ⟨_, g, d, t, os⟩) N1 (bC U) hd;refine mq (s := ⟨h.push (cZ .none .none .none), g, d, t, os⟩) (lo := none) (hi := none) (X₀.keeps F1.keep) I hq hs hsl rfl (Heap.IsSliceOf.new _ _ _ _) .none .none ⟨_, N1.get hv, rfl, _, rfl⟩ hxv ?_ hsz;rw [uU];obtain ⟨n', en⟩ := qt (λ xs => xs.extract 0 (0 : Int).toNat ++ new ++ xs.extract (max 0 (its.size : Int)).toNat xs.size) (.ref C) its n (some dx) sl;have e2 : its.extract 0 (0 : Int).toNat ++ new ++ its.extract (max 0 (its.size : Int)).toNat its.size = new := by
   rw [show (max 0 (its.size : Int)).toNat = its.size from wO (Nat.zero_le _)];simp
 obtain ⟨F2, N2⟩ := qu F1 N1 U (Heap.SameBut.update ..) (Heap.get?_update_self (Obj.mapSeq λ xs => xs.extract 0 (0 : Int).toNat ++ new ++ xs.extract (max 0 (its.size : Int)).toNat xs.size) I.at_ (by rw [en]; rfl));rw [en, e2] at N2;exact hQ _ _ F2 N2
theorem rR {Q : Unit -> Shared -> Prop} (F : Fr gO L h m) (X₀ : K.In gO) (N : News gO L h news) (U : UpdF x ⟨.ref C, some dx, .seq its n, sl⟩ news gg) (hd : (dx, od) ∈ news) (hv : (v, listOf #[] k) ∈ news) {j : Nat} (hi : i = j) (hj : j <= its.size) (hq : noSeq K C = true) (hs : findIn K (.ref C) "__setitem__" = some (some (.builtin "list.__setitem__"))) (hsl : subIn K (.ref C) (.type "list") = some true) (hsz : its.size <= 1000) (hxv : x ≠ v) (hQ : ∀ h' n', Fr gO L h' m -> News gO L h' (gg ⟨.ref C, some dx, .seq (its.extract 0 j) n', sl⟩) -> Q () ⟨h', g, d, t, os⟩) : wpAny (model prog w) A (setItem (.ref x) (.ref h.objs.size) (.ref v)) Q E ⟨h.push (cZ (.int i ti) .none .none), g, d, t, os⟩ := by
 subst hi;have F1 : Fr gO L (h.push (cZ (.int (j : Int) ti) .none .none)) m := F.push _;have N1 := News.tail' (N.push F (cZ (.int (j : Int) ti) .none .none));have I := bx (s := ⟨_, g, d, t, os⟩) N1 (bC U) hd;refine mq (s := ⟨h.push (cZ (.int (j : Int) ti) .none .none), g, d, t, os⟩) (lo := some (j : Int)) (hi := none) (new := #[]) (X₀.keeps F1.keep) I hq hs hsl rfl (Heap.IsSliceOf.new _ _ _ _) (.int _ _) .none ⟨_, N1.get hv, rfl, _, rfl⟩ hxv ?_ (by simpa using hsz);rw [rQ _ _ hj];obtain ⟨n', en⟩ := qt (λ xs => xs.extract 0 (j : Int).toNat ++ #[] ++ xs.extract (max (j : Int) (its.size : Int)).toNat xs.size) (.ref C) its n (some dx) sl;have e2 : its.extract 0 (j : Int).toNat ++ #[] ++ its.extract (max (j : Int) (its.size : Int)).toNat its.size = its.extract 0 j := by
   rw [wO hj];simp
 obtain ⟨F2, N2⟩ := qu F1 N1 U (Heap.SameBut.update ..) (Heap.get?_update_self (Obj.mapSeq λ xs => xs.extract 0 (j : Int).toNat ++ #[] ++ xs.extract (max (j : Int) (its.size : Int)).toNat xs.size) I.at_ (by rw [en]; rfl));rw [en, e2] at N2;exact hQ _ _ F2 N2
theorem rT {lower : Option Expr} {sp : Pos} {Q : Value -> Shared -> Prop} (F : Fr gO L h m) (X₀ : K.In gO) (N : News gO L h news) (hx : (x, (⟨.ref C, some dx, .seq its n, sl⟩ : Obj)) ∈ news) (hd : (dx, od) ∈ news) {j : Nat} (hi : i = j) (hj : j <= its.size) (hq : noSeq K C = true) (hs : findIn K (.ref C) "__getitem__" = some (some (.builtin "list.__getitem__"))) (hsl : subIn K (.ref C) (.type "list") = some true) (hsz : its.size <= 1000) (ht : ∀ r, letTemporaryGo value (.ref x) r = pure ()) (hQ : ∀ T h', Fr gO L h' m -> News gO L h' ((T, listOf (its.toList.drop j).toArray 0) :: news) -> (∀ p ∈ news, p.1 < T) -> Q (.ref T) ⟨h', g, d, t, os⟩) : wpAny (model prog w) A (subscriptTail value (.Slice lower none none sp) (.ref x) (.ref h.objs.size)) Q E ⟨h.push (cZ (.int i ti) .none .none), g, d, t, os⟩ := by
 subst hi;have F1 : Fr gO L (h.push (cZ (.int (j : Int) ti) .none .none)) m := F.push _;have N1 := News.tail' (N.push F (cZ (.int (j : Int) ti) .none .none));have I := bx (s := ⟨_, g, d, t, os⟩) N1 hx hd;have X := X₀.keeps F1.keep;unfold subscriptTail getitemInPython;tm_at "bv";show wpAny _ _ (operate [.ref h.objs.size, .ref x] (getItem (.ref x) (.ref h.objs.size)) >>= _) _ _ _;refine wpAny_bind (wpAny_operating (uT (s := ⟨h.push (cZ (.int (j : Int) ti) .none .none), g, d, t, os⟩) (lo := some (j : Int)) (hi := none) (st := none) X I hq hs hsl rfl (Heap.IsSliceOf.new _ _ _ _) (.int _ _) .none .none (by simp) ?_ (by rw [sizeLine_eq]; lia)));refine wpAny_bind (wpAny_of_eq (ht _) (wpAny_pure ?_));rw [slicePick_from _ _ hj];exact hQ _ _ (F1.push _) (N1.push F1 _) λ p hp => Heap.lt_size (N1 p hp).1
theorem yp {s : Shared} {r : Value} {Q : Value -> Shared -> Prop} (F : Fr gO L s.heap m) (X₀ : K.In gO) (N : News gO L s.heap news) (hx : (x, (⟨.ref C, some dx, .seq its n, sl⟩ : Obj)) ∈ news) (hd : (dx, od) ∈ news) {j : Nat} (hi : i = j) (hk : its[j]? = some r) (hj : (j : Int) < 2 ^ 63) (hq : noSeq K C = true) (hs : findIn K (.ref C) "__getitem__" = some (some (.builtin "list.__getitem__"))) (hsl : subIn K (.ref C) (.type "list") = some true) (hsub : subscripted slice false (.ref x) (.int i ti) = operate [.ref x, .int i ti] (getItem (.ref x) (.int i ti))) (hQ : wpAny (model prog w) A (letTemporaryGo value (.ref x) r >>= λ _ => pure r) Q E s) : wpAny (model prog w) A (subscriptTail value slice (.ref x) (.int i ti)) Q E s := by
 have I := bx N hx hd;have X := X₀.keeps F.keep;unfold subscriptTail getitemInPython;tm_at "bv";show wpAny _ _ (subscripted slice false (.ref x) (.int i ti) >>= _) _ _ _;rw [hsub];exact wpAny_bind (wpAny_operating (uR X I hq hs hsl rfl hi hk hj hQ))
end
theorem qw (l : List aL) (q : aL) : (refs (l ++ [q])).toArray.extract 0 l.length = (refs l).toArray := by simp [refs]
theorem yq (l : List aL) (q : aL) : ((refs (l ++ [q])).toArray.toList.drop l.length).toArray = (refs [q]).toArray := by simp [refs]
theorem Sel.news3 {q1 : Addr × Obj} {l : List (Addr × Obj)} (S1 : Sel q1 l r1) (S2 : Sel q2 r1 r2) (S3 : Sel q3 r2 r3) (N : News gO L h l) : News gO L h (q1 :: q2 :: q3 :: r3) := λ p hp => by
 have N1 := S1.news N;rcases List.mem_cons.mp hp with rfl | hp
 · exact N1 _ (.head _)
 · exact S2.news2 S3 (λ p hp => N1 p (.tail _ hp)) p hp
theorem Sel.news5 {q1 q4 q5 : Addr × Obj} {l r4 r5 : List (Addr × Obj)} (S1 : Sel q1 l r1) (S2 : Sel q2 r1 r2) (S3 : Sel q3 r2 r3) (S4 : Sel q4 r3 r4) (S5 : Sel q5 r4 r5) (N : News gO L h l) : News gO L h (q1 :: q2 :: q3 :: q4 :: q5 :: r5) := λ p hp => by
 have N1 := S1.news N;rcases List.mem_cons.mp hp with rfl | hp
 · exact N1 _ (.head _)
 · have N2 := S2.news (λ p hp => N1 p (.tail _ hp))
   rcases List.mem_cons.mp hp with rfl | hp
   · exact N2 _ (.head _)
   · exact S3.news3 S4 S5 (λ p hp => N2 p (.tail _ hp)) p hp
end
section
open PySem PySem.Builtin PySem.Builtin.ObjectAttr PySem.W PyProof.Rows PySem.Spec PySem.Calls
theorem rU (self : Value) : refuseLoop self "__setattr__" [.type "list", .type "object"] = pure () := by kernel_rfl
noncomputable def jN (K : Frag) (C : Addr) : Bool := (clsIn K C).any λ cd => cd.mro == [.ref C, .type "list", .type "object"]
section
variable {s : Shared} {x : Addr} {m : Str -> Option Value} {news : List (Addr × Obj)} {es' : List DictEntry} {n n' : Nat} {v : Value} {R : Result -> Shared -> Prop}
theorem yr (h : jN K C = true) : ∃ cd, clsIn K C = some cd /\ cd.mro = [.ref C, .type "list", .type "object"] := by
 obtain ⟨cd, hc, e⟩ := any_some h;exact ⟨cd, hc, beq_iff_eq.mp e⟩
theorem yt {o : Obj} (hl : (lookIn name o).isSome = true) : ∃ es₀ gZ, o.data = .dict es₀ gZ /\ (!es₀.any (·.key.isStr name) && es₀.any (·.refKey)) = false := by
 unfold lookIn at hl;split at hl
 · rename_i es₀ gZ q
   refine ⟨es₀, gZ, q, ?_⟩;rw [<- Array.any_toList, <- Array.any_toList];split at hl
   · rename_i en he
     rw [List.any_eq_true.mpr ⟨en, List.mem_of_find?_eq_some he, List.find?_some he⟩]; rfl
   · split at hl
     · cases hl
     · rename_i z; rw [Bool.not_eq_true] at z; rw [z, Bool.and_false]
 · cases hl
theorem aaj (F : Fr gO L s.heap m) (N : News gO L s.heap news) (X : K.In s.heap) (I : InstAt s.heap x ox C (some od)) (hd : ox.dict = some dx) (hp : jN K C = true) (ht : takerIn K C name = some none) (hh : (clsIn K C).any (·.hasDict) = true) (hl : (lookIn name od).isSome = true) (U : UpdF dx od news gg) {od' : Obj} (e : Obj.putName name (PyData.keyHash w.params name) (.str name s.toks) v od = od') (e' : od'.data = .dict es.toArray n) (hz : es.length <= 1000) (h : ∀ h', Fr gO L h' m -> News gO L h' (gg od') -> R (.ok (.ret .none)) { s with heap := h', toks := s.toks + 1 }) : codeAny (model prog w) A (.call (.builtin "object.__setattr__") ⟨[.ref x, .str name tk, v], []⟩) R s := by
 have SF := PySem.F.store_object;tm_at "X";obtain ⟨cd, hc, ho⟩ := yr hp;obtain ⟨cd2, hc2, hd2⟩ := any_some hh;obtain rfl : cd = cd2 := Option.some.inj (hc.symm.trans hc2);tm_at "V";have ne : cd.mro.isEmpty = false := by rw [ho]; rfl
 have sub : Looks (model prog w) s.heap (isInstance (.ref x) (.type "object")) true := I.type.andThen (looks_mroIn X (by unfold mroIn; rw [hc, Option.bind_some, if_neg (by rw [ne]; decide), ho]; simp));refine codeAny_call_builtin SF.slot.plain SF.entry (@check_slot (model prog w) _ _ s "object.__setattr__" "object" "__setattr__" (.ref x) [.str name tk, v] [] _ SF.kind SF.split sub (SF.args (.ref x) (.str name tk) v) ?_);tm_at "X";obtain ⟨attr, ha, hr⟩ := Option.bind_eq_some_iff.mp ht;tm_at "V";have hm : Looks (model prog w) s.heap (mroOf (.ref C)) cd.mro := (looks_clsIn X hc).andThen .now;have L3 : Looks (model prog w) s.heap (storeTaker? attr) none := by
   cases attr with
   | none => cases hr; exact .now
   | some a =>
     refine Classical.byContradiction λ hG9 => ?_
     obtain ⟨b, hb, hbe⟩ := Option.map_eq_some_iff.mp hr;tm_at "V";refine (looks_takesIn X hb).andThen ?_;cases b <;> first | exact .now | cases hbe
 rw [osa_eq, refuse_eq];refine wpAny_bind (wpAny_bind (I.type.here (wpAny_bind (hm.here ?_))));rw [ho, refuseLoop_ref, rU];refine wpAny_pure (wpAny_bind (I.type.here (wpAny_bind ((looks_findIn X ha).here (wpAny_bind (L3.here ?_))))));have D := N.get (bC U);have D' : (s.heap.update dx (Obj.putName name (PyData.keyHash w.params name) (.str name s.toks) v)).get? dx = some od' := by
   rw [Heap.get?_update_self _ D (by rw [e]; obtain ⟨_, _, dd, _⟩ := od'; cases e'; rfl), e]
 tm_at "X";obtain ⟨U1, U2⟩ := qu F N U (Heap.SameBut.update ..) D';obtain ⟨hx, hcl, hn, -⟩ := I;obtain ⟨oc, odi, oda, osl⟩ := ox;tm_at "V";dsimp only at hcl hd;subst hcl hd;refine wpAny_bind (wpAny_pure (wpAny_bind (wpAny_bind (wpAny_loadPart hx (wpAny_bind ((looks_clsIn X hc).here ?_))))));rw [hd2];refine wpAny_pure (a := some dx) (wpAny_bind (wpAny_pure (wpAny_bind ?_)));unfold nsSet;refine wpAny_bind (wpAny_bind (wpAny_askSetting (wpAny_pure (wpAny_bind (wpAny_mkText (wpAny_bind (wpAny_loadPart D ?_)))))));refine (yt hl).elim λ es₀ hl => hl.elim λ gZ hl => ?_
 rw [hl.1];dsimp only;rw [aRefKeyMayBeTheName_at, hl.2];refine wpAny_updatePart D ?_;refine wpAny_bind (wpAny_lookBehind D' (by rw [e']; exact pastItsLine_dict (by rw [List.size_toArray, sizeLine_eq]; omega)) ?_);exact wpAny_pure (h _ U1 U2)
theorem afr {Q : Unit -> Shared -> Prop} (F : Fr gO L s.heap m) (X₀ : K.In gO) (N : News gO L s.heap news) (I : InstAt s.heap x ox C (some (dictOf es n))) (hd : ox.dict = some dx) (hs : findIn K (.ref C) "__setattr__" = some (some (.builtin "object.__setattr__"))) (hp : jN K C = true) (ht : takerIn K C name = some none) (hh : hasDictIn K C = true) (hl : (getL name es).isSome = true) (e : (putL name (PyData.keyHash w.params name) (.str name (s.toks + 1)) v es, putN name es n) = (es', n')) (U : UpdF dx (dictOf es n) news gg) (hz : es'.length <= 1000) (h : ∀ h', Fr gO L h' m -> News gO L h' (gg (dictOf es' n')) -> Q () { s with heap := h', toks := s.toks + 2 }) : wpAny (model prog w) A (setAttr (.ref x) name v) Q E s := by
 obtain ⟨e1, e2⟩ := Prod.mk.inj e;exact set_plain (X₀.keeps F.keep) I hs (aaj (s := { s with toks := s.toks + 1 }) F N (X₀.keeps F.keep) I hd hp ht hh hl U (od' := dictOf es' n') (by rw [putName_dict, e1, e2]) rfl hz λ h' F' N' => h h' F' N')
end
theorem uW (l : List aL) (q : aL) : List.drop l.length (refs (l ++ [q])) = refs [q] := by simp [refs]
end
section
set_option tactic.hygienic false
open PySem PySem.Builtin PySem.Builtin.ObjectAttr PySem.W PyProof.Rows PySem.Spec PySem.Calls
section
variable {s : Shared} {x f : Addr} {m : Str -> Option Value} {news : List (Addr × Obj)} {n : Nat}
theorem afs {Q : Value -> Shared -> Prop} (Fx : Fr gO L s.heap m) (X₀ : K.In gO) (N : News gO L s.heap news) (I : InstAt s.heap x ox C (some (dictOf es n))) (hga : findIn K (.ref C) "__getattribute__" = some (some (.builtin "list.__getattribute__"))) (hk : findIn K (.ref C) "__getattr__" = some none) (hsl : subIn K (.ref C) (.type "list") = some true) (hh : hasDictIn K C = true) (ha : findIn K (.ref C) name = some (some (.ref f))) (hf : isFn K (.ref f) = true) (hgf : specialIn K (.ref f) "__get__" = some (some (.builtin "function.__get__"))) (ht : takesIn K (.ref f) = some false) (hc : copiedNames.contains name = false) (hl : getL name es = some none) (h : ∀ q h', Fr gO L h' m -> News gO L h' ((q, methodObj (.ref f) (.ref x)) :: news) -> (∀ p ∈ news, p.1 < q) -> Q (.ref q) { s with heap := h', toks := s.toks + 1 }) : wpAny (model prog w) A (getAttr (.ref x) name expr) Q E s := by
 tm_at "bc";have hfo := findObj_fn (od := dictOf es n) hh ha hgf ht hc (by rw [lookIn_dict]; exact hl);have hq := h s.heap.objs.size _ (Fx.push (methodObj (.ref f) (.ref x))) (N.push Fx _) λ p hp => Heap.lt_size (N p hp).1
 clear h;obtain ⟨hh', g, d, t, os⟩ := s;have L0 := I.type (M := model prog w);have L1 := looks_findIn (M := model prog w) X hga;have L2 := looks_findIn (M := model prog w) X hk;have L3 := looks_find (M := model prog w) X I hfo;have L4 := cP (M := model prog w) X I hsl;unfold getAttr getAttrBy;tm_at "cA";show wpAny _ _ (getAttrByItsOwn _ _ _ _ _ _) _ _ _;unfold getAttrByItsOwn hookBefore;tm_at "ao";show wpAny _ _ (typeLookup (.ref C) "__getattr__") _ _ _;refine L2.at ?_;tm_at "bL";have e1 : callGetattribute (.ref x) (.str name t) (.builtin "list.__getattribute__") expr = boundAndCalled (.builtin "list.__getattribute__") (.ref x) (.str name t) := by
   unfold callGetattribute;tm_at "cE"
 rw [e1];unfold boundAndCalled;rw [PySem.F.slot_list_getattribute.bind];tm_at "aD";refine oM (n := "__getattribute__") (.inl jd) iw PySem.F.slot_list_getattribute.plain am_entry_list_getattribute L4 (PySem.F.args_list_getattribute_2 _ _) ?_;unfold Builtin.«object.__getattribute__»;tm_at "aD";tm_at "aD";refine wpAny_bind (L0.at (wpAny_bind (L3.at ?_)));show wpAny _ _ (bindTo _ _ _ _) _ _ _;unfold bindTo;refine wpAny_bind (wpAny_holding (wpAny_call (fn_get X (beq_iff_eq.mp hf) (wpAny_pure ⟨_, rfl, ?_⟩))));show wpAny _ _ (handedOut _) _ _ _;exact handed_on rfl hq
end
section
variable {s : Shared} {pos p : Pos} {first : List Value} {Q : Value -> Shared -> Prop} {e : Expr} {news : List (Addr × Obj)}
theorem aft {q g : Addr} {self : Value} (_X : K.In gO) (_N : News gO L s.heap news) (_q : (q, methodObj (.ref g) self) ∈ news) (hf : fnIn K g = true) (h : wpAny M A (eval e env) (λ v gJ => StarOf M A E v (λ vs gQ => MethP K q g self gQ.heap /\ wpAny M A (call (.ref q) (first ++ vs)) Q E gQ) gJ) E s) (he : starEach [.Starred e p] env = [(true, eval e env)]) : wpAny M A (callWith pos (.ref q) first (backTo pos (starEach [.Starred e p] env)) []) Q E s := by
 rw [he];exact ks_call rfl (keeps_M hf) (ks_lone h)
theorem yu {o : Expr} {apos sp : Pos} (h : wpAny M A (eval o env) (λ ov gJ => wpAny M A (getAttr ov name true) (λ f gQ => wpAny M A (callWith pos f [] (backTo pos (starEach [.Starred e sp] env)) []) Q E gQ) E gJ) E s) (hb : attributeBase o name env (eval o env) = eval o env) : wpAny M A (eval (.Call (.Attribute o name apos) [.Starred e sp] [] pos) env) Q E s := by
 show wpAny M A (do
   let ov <- attributeBase o name env (eval o env)
   standAt apos.atName
   methodCall o name apos pos env ov 1 (backTo pos (starEach [.Starred e sp] env)) []) Q E s
 rw [hb];refine wpAny_bind (wpAny_mono h (λ ov gJ h₁ => wpAny_bind (wpAny_standAt ?_)) λ _ _ z => z);unfold methodCall;refine wpAny_bind (wpAny_holding (wpAny_bind (wpAny_mono h₁ (λ f gQ h₂ => wpAny_pure ?_) λ _ _ z => z)));tm_at "ao";show wpAny M A (methodCallPos false o env apos pos) _ _ _;exact wpAny_pure h₂
end
theorem jO {l : List aL} {q : aL} (h : ∀ q' ∈ l, wide q' < N) (hq : wide q < N) : ∀ q' ∈ l ++ [q], wide q' < N := λ q' hm => by
 rcases List.mem_append.mp hm with k | k
 · exact h q' k
 · rw [List.mem_singleton.mp k]; exact hq
theorem ie (q : aL) : bz [q] = q.f.length + q.p.length := by simp [bz, wide]
theorem oV (l : List aL) (T : Addr) (q : aL) : text (l ++ [⟨T, q.f, q.tf, q.p, q.tp⟩]) = text (l ++ [q]) := yj l _ _ rfl rfl
theorem acO {l : List aL} {q : aL} (h : z ≠ 0 \/ (0 < bz (l ++ [q]) /\ Txt.isspace (text (l ++ [q])) = false)) : z ≠ 0 \/ (0 < bz (l ++ [⟨T, q.f, q.tf, q.p, q.tp⟩]) /\ Txt.isspace (text (l ++ [⟨T, q.f, q.tf, q.p, q.tp⟩])) = false) := by
 rw [oV, cH, ie];rw [cH, ie] at h;exact h
theorem Sel.keep5 {q1 q4 q5 : Addr × Obj} {l r4 r5 : List (Addr × Obj)} (N : News gO L h l) (S1 : Sel q1 l r1) (S2 : Sel q2 r1 r2) (S3 : Sel q3 r2 r3) (S4 : Sel q4 r3 r4) (S5 : Sel q5 r4 r5) (k : ∀ p ∈ r, p ∈ r5) : News gO L h (q1 :: q2 :: q3 :: q4 :: q5 :: r) :=
 az (Sel.news5 S1 S2 S3 S4 S5 N) λ p hp => by
   rcases List.mem_cons.mp hp with rfl | hp
   · exact .head _
   · rcases List.mem_cons.mp hp with rfl | hp
     · exact .tail _ (.head _)
     · rcases List.mem_cons.mp hp with rfl | hp
       · exact .tail _ (.tail _ (.head _))
       · rcases List.mem_cons.mp hp with rfl | hp
         · exact .tail _ (.tail _ (.tail _ (.head _)))
         · rcases List.mem_cons.mp hp with rfl | hp
           · exact .tail _ (.tail _ (.tail _ (.tail _ (.head _))))
           · exact .tail _ (.tail _ (.tail _ (.tail _ (.tail _ (k p hp)))))
section
variable {s : Shared} {a b : Addr} {news : List (Addr × Obj)} {x1 x2 y1 y2 : Str} {t1 t2 u1 u2 : Tok}
theorem acP {Q : Value -> Shared -> Prop} (N : News gO L s.heap news) (h1 : (a, bf (.str x1 t1) (.str x2 t2)) ∈ news) (h2 : (b, bf (.str y1 u1) (.str y2 u2)) ∈ news) (hu : A.units + 64 < cLine) (ok1 : PyData.strOk x1 = true /\ PyData.strOk x2 = true) (ok2 : PyData.strOk y1 = true /\ PyData.strOk y2 = true) (hne : x2 ≠ y2) (h : Q (.bool true) s) : wpAny (model prog w) A (compareOp .NotEq (.ref a) (.ref b)) Q E s := by
 refine ne_dataH (reads_tuple_at (N.get h1) rfl rfl (.cons (.str _ _) (.cons (.str _ _) .nil))) (reads_tuple_at (N.get h2) rfl rfl (.cons (.str _ _) (.cons (.str _ _) .nil))) (by tm_at "bx") (by simp [SeqAt.shaped, PyData.canLay0, PyData.canLayAll0, PyData.depth, PyData.depthAll, ok2]) hu ?_;have e : (x2 == y2) = false := beq_eq_false_iff_ne.mpr hne
 simpa [PyData.eqv, PyData.eqvAll, e] using h
end
theorem rW : (ofString "").length = 0 := rfl
theorem aak (h : 0 < x.length) : x ≠ ofString "" := λ e => by
 rw [e, rW] at h; exact absurd h (by decide)
theorem AllIn.snoc {news : List (Addr × Obj)} {l : List aL} {q : aL} (h : AllIn l news) (hq : (q.a, q.obj) ∈ news) : AllIn (l ++ [q]) news := AllIn.of λ q' hm => by
 rcases List.mem_append.mp hm with k | k
 · exact h.get q' k
 · rw [List.mem_singleton.mp k]; exact hq
end
section
open PySem PySem.Builtin PySem.Builtin.ObjectAttr PySem.W PyProof.Rows PySem.Spec PySem.Calls
noncomputable abbrev cI (C dx : Addr) : Obj := { cls := .ref C, dict := some dx, data := .seq #[] }
theorem acQ : builtinKind "list.__new__" = some .builtinFn := by decide +kernel
theorem aal : splitId "list.__new__" = some ("list", "__new__") := by decide +kernel
theorem acR (a b : Value) : argsOk "list.__new__" ⟨[a, b], []⟩ := by unfold argsOk; kernel_rfl
theorem aam (a : Value) : argsOk "list.__new__" ⟨[a], []⟩ := by unfold argsOk; kernel_rfl
structure uX (M : Model) (h : Heap) (C : Addr) : Prop where
 obj : ∃ oc od cd sl, h.get? C = some ⟨oc, od, .cls cd, sl⟩ /\ cd.abstract = false /\ cd.hasDel = false /\ cd.mro.isEmpty = false
 made : Looks M h (Bind.madeBy (.ref C)) (some "list.__new__")
 base : Looks M h (Bind.staticBase (.ref C)) (.ref C)
 self : Looks M h (isSubtype (.ref C) (.ref C)) true
 top : Looks M h (isSubtype (.ref C) (.type "list")) true
 new : Looks M h (typeLookup (.ref C) "__new__") (some (.builtin "list.__new__"))
 call : Looks M h (specialOf (.ref C) "__call__") (some (.builtin "type.__call__"))
 typ : Looks M h (isInstance (.ref C) (.type "type")) true
noncomputable def jj (K : Frag) (C : Addr) : Bool := match K.lookup C with
 | some ⟨_, _, .cls cd, sl⟩ => !cd.abstract && !cd.hasDel && (sl.toList[4]?).join == some (.builtin "list.__new__") && !cd.mro.isEmpty && cd.mro.contains (.ref C) && cd.mro.contains (.type "list") &&
     specialIn K (.ref C) "__call__" == some (some (.builtin "type.__call__")) && instIn K (.ref C) (.type "type") == some true && findIn K (.ref C) "__new__" == some (some (.builtin "list.__new__"))
 | _ => false
theorem yw (X : K.In h) {C : Addr} (e : jj K C = true) : uX M h C := by
 unfold jj at e;split at e
 · rename_i oc od cd sl ho
   simp only [Bool.and_eq_true, Bool.not_eq_true', beq_iff_eq] at e;tm_at "X";obtain ⟨⟨⟨⟨⟨⟨⟨⟨e1, e2⟩, e3⟩, e4⟩, e5⟩, e6⟩, e7⟩, e8⟩, e9⟩ := e;tm_at "V";have hc : clsIn K C = some cd := by unfold clsIn; rw [ho]
   have hm : Looks M h (mroOf (.ref C)) cd.mro := (looks_clsIn X hc).andThen .now;obtain ⟨c, l, hl⟩ : ∃ c l, cd.mro = c :: l := by cases q : cd.mro with | nil => rw [q] at e4; cases e4 | cons c l => exact ⟨c, l, rfl⟩
   have made : Looks M h (Bind.madeBy (.ref C)) (some "list.__new__") := by
     intro A Q E s k q;unfold Bind.madeBy;refine wpAny_bind (hm A _ E s k ?_);rw [hl, List.forIn_cons];refine wpAny_bind (wpAny_bind (wpAny_bind (wpAny_bind (wpAny_loadPart (k _ _ (X _ _ ho)) (wpAny_pure ?_)))));dsimp only;rw [<- Array.getElem?_toList, e3];exact wpAny_pure (wpAny_pure (wpAny_pure q))
   refine ⟨⟨oc, od, cd, sl, X _ _ ho, e1, e2, e4⟩, made, ?_, looks_mroIn X ?_, looks_mroIn X ?_, looks_findIn X e9, looks_specialIn X e7, looks_instIn X e8⟩
   · intro A Q E s k q
     unfold Bind.staticBase;refine wpAny_bind (hm A _ E s k ?_);rw [hl, List.forIn_cons];exact wpAny_bind (wpAny_bind (wpAny_bind (made A _ E s k (wpAny_pure (wpAny_pure (wpAny_pure q))))))
   · unfold mroIn; rw [hc, Option.bind_some, if_neg (by rw [e4]; decide), e5]
   · unfold mroIn; rw [hc, Option.bind_some, if_neg (by rw [e4]; decide), e6]
 · cases e
section
variable {R : Result -> Shared -> Prop} {g : Array GenState} {d : Drawn} {t : Nat}
theorem ahD {rest : List Value} (Y : uX (model prog w) h C) (ha : argsOk "list.__new__" ⟨.ref C :: rest, []⟩) (hq : R (.ok (.ret (.ref (h.objs.size + 1)))) ⟨(h.push emptyDict).push (cI C h.objs.size), g, d, t, os⟩) : codeAny (model prog w) A (.call (.builtin "list.__new__") ⟨.ref C :: rest, []⟩) R ⟨h, g, d, t, os⟩ := by
 tm_at "X";tm_at "cB";tm_at "V";refine codeAny_call_builtin_code (Code.quiet_builtin _ (by decide +kernel)) ?_;unfold checkBuiltinCall;rw [acQ, aal];have here : Looks (model prog w) h (Bind.madeHere "list.__new__" (.ref C)) () := base.andThen (made.andThen (Looks.of_pure (by simp only [Option.map_some, bne_self_eq_false, Bool.false_eq_true, if_false])))
 repeat (first | with_reducible refine wpAny_ite_false rfl ?_ | with_reducible refine wpAny_ite_true rfl ?_ | lk)
 refine codeAny_builtin_stack PySem.F.entry_list_new rfl λ p st => ?_
 dsimp only;rw [owner_list_new];have fin : ∀ A', wpAny (model prog w) A' (newDict >>= λ dv => match dv with
     | .ref d => (do ret (<- newObj (.ref C) (.seq #[]) (some d)))
     | _ => unsupported "internal:list.__new__") (λ fin s' => match fin with | .done f => R (.ok f) s' | .again c' => c'.quiet = true /\ codeAny (model prog w) A c' R s') (λ e s' => R (.error e) s') ⟨h, g, d, t, os⟩ := by
   intro A';refine wpAny_bind (wpAny_newObj_type ?_ (by size_fits));show wpAny _ _ (newObj _ _ _ >>= _) _ _ _;tm_at "ao";unfold newObj;dsimp only;rw [if_neg (show ¬ ((#[] : Array Value).size > sizeLine) from by rw [sizeLine_eq]; decide)];unfold newObjAsIs classHasDel;refine wpAny_bind (wpAny_alloc (wpAny_bind (wpAny_bind (wpAny_load (Heap.get?_push_of_some _ (Heap.get?_push_of_some _ hC)) (wpAny_pure ?_)))));rw [e2];refine wpAny_pure (wpAny_pure ?_);show R _ _;rw [Heap.size_push];exact hq
 repeat (first | exact fin _ | with_reducible refine wpAny_ite_false (by rw [e1]; rfl) ?_ | with_reducible refine wpAny_ite_true rfl ?_ | lk)
theorem uY {rest : List Value} {init : Value} (Y : uX (model prog w) h C) (hi : Looks (model prog w) h (typeLookup (.ref C) "__init__") (some init)) (ha : argsOk "list.__new__" ⟨.ref C :: rest, []⟩) (hb : ∀ self, Looks (model prog w) h (bindSpecial init self) (init, [self])) (hq : codeAny (model prog w) (A.under (.builtin "type.__call__" ⟨.ref C :: rest, []⟩)) (.call init ⟨.ref (h.objs.size + 1) :: rest, []⟩) (InitBack (h.objs.size + 1) R) ⟨(h.push emptyDict).push (cI C h.objs.size), g, d, t, os⟩) : codeAny (model prog w) A (.call (.ref C) ⟨rest, []⟩) R ⟨h, g, d, t, os⟩ := by
 have Y' := Y;tm_at "X";tm_at "cB";tm_at "V";refine codeAny_of_tree ?_;show wpAny _ _ (callAny (.ref C) _) _ _ _;refine nd_load hC ?_;show wpAny _ _ (callAny.viaDunder (.ref C) _) _ _ _;unfold callAny.viaDunder;refine wpAny_bind (call.at ?_);dsimp only;rw [tc_bind];refine wpAny_bind (wpAny_pure (wpAny_bind (wpAny_pure ?_)));refine wpAny_pure (a := Fin.again (.call (.builtin "type.__call__") ⟨.ref C :: rest, []⟩)) (And.intro rfl ?_);refine codeAny_call_builtin_at (Code.quiet_builtin _ (by decide +kernel)) entry_typeCall (check_slot tc_kind tc_split typ (tc_args _ _ _) ?_);unfold Builtin.«type.__call__»;have hm : Looks (model prog w) h (mroOf (.ref C)) cd.mro := ((Looks.ld (part := none) hC).andThen .now).andThen .now
 repeat (first | simp only [e4, Bool.false_eq_true, if_false] | with_reducible refine wpAny_call ?_ | lk)
 refine ahD Y' ha ?_;have k : ∀ b o, h.get? b = some o -> ((h.push emptyDict).push (cI C h.objs.size)).get? b = some o := λ b o e => Heap.get?_push_of_some _ (Heap.get?_push_of_some _ e)
 have hx : ((h.push emptyDict).push (cI C h.objs.size)).get? (h.objs.size + 1) = some (cI C h.objs.size) := by heap_get
 have t1 : Looks (model prog w) ((h.push emptyDict).push (cI C h.objs.size)) (typeOf (.ref (h.objs.size + 1))) (.ref C) := (Looks.ld hx).andThen .now;have s1 := self.keeps k;have i1 := hi.keeps k;have b1 := (hb (.ref (h.objs.size + 1))).keeps k;unfold isInstance callSpecial? specialOf
 repeat (first | with_reducible refine wpAny_call ?_ | lk)
 refine codeAny_mono hq λ r s' z => ?_
 rcases r with e | (v | _ | _ | _) <;> first | exact z | exact z.elim | skip
 tm_at "X";obtain ⟨rfl, z⟩ := z;tm_at "V";exact wpAny_pure (wpAny_pure z)
end
section
variable {fI : Addr} {s : Shared} {m : Str -> Option Value} {news : List (Addr × Obj)} {R : Result -> Shared -> Prop}
theorem afu {rest : List Value} (F : Fr gO L s.heap m) (N : News gO L s.heap news) (X : K.In s.heap) (hm : jj K C = true) (ha : argsOk "list.__new__" ⟨.ref C :: rest, []⟩) (hi : findIn K (.ref C) "__init__" = some (some (.ref fI))) (hf : typeIn K (.ref fI) = some (.type "function")) (h : ∀ x dx h', Fr gO L h' m -> News gO L h' ((x, cI C dx) :: (dx, dictOf [] 0) :: news) -> (∀ p ∈ news, p.1 < dx) -> dx < x -> codeAny (model prog w) (A.under (.builtin "type.__call__" ⟨.ref C :: rest, []⟩)) (.call (.ref fI) ⟨.ref x :: rest, []⟩) (InitBack x R) { s with heap := h' }) : codeAny (model prog w) A (.call (.ref C) ⟨rest, []⟩) R s := by
 obtain ⟨hh, g, d, t, os⟩ := s;refine uY (yw X hm) (looks_findIn X hi) ha (λ self => bind_fn X self hf) (h _ hh.objs.size _ ((F.push _).push _) ?_ (λ p hp => Heap.lt_size (N p hp).1) (Nat.lt_succ_self _));have := (N.push F emptyDict).push (F.push _) (cI C hh.objs.size)
 rwa [Heap.size_push] at this
theorem oW {pos : List Value} (F : Fr gO L s.heap m) (X₀ : K.In gO) (N : News gO L s.heap news) {Q : Value -> Shared -> Prop} (hm : jj K C = true) (ha : argsOk "list.__new__" ⟨.ref C :: pos, []⟩) (hi : findIn K (.ref C) "__init__" = some (some (.ref fI))) (hf : isFn K (.ref fI) = true)
   (h : ∀ x dx h', Fr gO L h' m -> News gO L h' ((x, cI C dx) :: (dx, dictOf [] 0) :: news) -> (∀ p ∈ news, p.1 < dx) -> dx < x ->
     codeAny (model prog w) (A.under (.builtin "type.__call__" ⟨.ref C :: pos, []⟩)) (.call (.ref fI) ⟨.ref x :: pos, []⟩) (InitBack x λ r s' => match r with | .ok (.ret v) => Q v s' | .ok _ => False | .error e => E e s') { s with heap := h' }) :
   wpAny (model prog w) A (call (.ref C) pos []) Q E s := wpAny_call (afu F N (X₀.keeps F.keep) hm ha hi (beq_iff_eq.mp hf) h)
end
end
section
set_option tactic.hygienic false
open PySem.Spec PySem.Calls
section
variable {s : Shared} {m : Str -> Option Value} {news : List (Addr × Obj)} {x : Addr}
theorem jP : entryFor table "list.__init__" = some Builtin.«list.__init__» := entryFor_of_tree (by kernel_rfl)
theorem rY {q : Addr} {its : Array Value} {k : Nat} {sl : Array (Option Value)} {Q : Value -> Shared -> Prop} (Fx : Fr gO L s.heap m) (N : News gO L s.heap news) (hq : (q, bU "method-wrapper" "list.__init__" x) ∈ news) (U : UpdF x ⟨.ref C, some dx, .seq its k, sl⟩ news gg) (h : ∀ h' n', Fr gO L h' m -> News gO L h' (gg ⟨.ref C, some dx, .seq #[] n', sl⟩) -> Q .none { s with heap := h' }) (hz : its.size <= sizeLine) : wpAny (model prog w) A (call (.ref q) []) Q E s := by
 have ho := N.get (bC U);refine uK N hq (by decide) (λ A' E' Q' h' => wpAny_of_eq (a := ()) (by first | kernel_rfl | rfl) h') (Code.quiet_builtin _ (by decide +kernel)) jP λ A' => ?_
 show wpAny _ _ (do let old <- Builtin.List.listItems (.ref x); Builtin.List.listUpdate (.ref x) (λ _ => #[]); letGo old.toList.reverse; ret .none) _ _ s;refine wpAny_bind (m := Builtin.List.listItems (.ref x)) ?_;unfold Builtin.List.listItems;refine wpAny_bind (wpAny_seqItems ho rfl (wpAny_pure ?_));refine wpAny_bind (m := Builtin.List.listUpdate _ _) ?_;unfold Builtin.List.listUpdate;obtain ⟨n', en⟩ := qt (λ _ => #[]) (.ref C) its k (some dx) sl;obtain ⟨F2, N2⟩ := qu Fx N U (Heap.SameBut.update ..) (Heap.get?_update_self (Obj.mapSeq λ _ => #[]) ho (by rw [en]; rfl));rw [en] at N2;refine wpAny_updateSeq ho rfl ?_ hz (by rw [sizeLine_eq]; simp);exact wpAny_bind (wpAny_letGo (wpAny_pure ⟨_, rfl, h _ _ F2 N2⟩))
end
end
section
set_option tactic.hygienic false
noncomputable def U {α β : Type} (f : α -> β -> Prop) (x : α × β) : Prop := f x.1 x.2
noncomputable def V6 {α β γ δ ε ζ η : Type} (f : α -> β -> γ -> δ -> ε -> ζ -> η -> Prop) (x : (α × β × γ × δ × ε × ζ) × η) : Prop := f x.1.1 x.1.2.1 x.1.2.2.1 x.1.2.2.2.1 x.1.2.2.2.2.1 x.1.2.2.2.2.2 x.2
theorem acS (a : Nonempty α) (b : Nonempty β) : Nonempty (α × β) := a.elim λ x => b.elim λ y => ⟨(x, y)⟩
theorem acT (ne : Nonempty α) (P : α -> Prop) (h : P (@Classical.epsilon α ne λ x => ¬ P x)) (x : α) : P x :=
 Classical.byContradiction λ k => (@Classical.epsilon_spec_aux α ne (λ x => ¬ P x) ⟨x, k⟩) h
theorem bh {ne : Nonempty α} {v : α} (P : α -> Prop) (e : v = @Classical.epsilon α ne λ x => ¬ P x) (h : P v) (x : α) : P x :=
 acT ne P (e ▸ h) x
end
section
set_option tactic.hygienic false
open PySem.Spec PySem.Calls
theorem wQ {q : aL} (h : wide q < N) : ∀ q' ∈ [q], wide q' < N := λ q' hm => by
 rw [List.mem_singleton] at hm; rw [hm]; exact h
theorem acU {q p : aL} (h : wide q < N) (k : wide p < N) : ∀ q' ∈ [q, p], wide q' < N := λ q' hm => by
 rcases List.mem_cons.mp hm with rfl | hm
 · exact h
 · exact wQ k q' hm
end
section
open PySem.Spec PySem.Calls
inductive afv (gO : Heap) (L : Addr) (Ok : Shared -> Prop) (St : Nat -> Heap -> Prop) (I : Addr) (R : List (Value -> Prop) -> (Str -> Option Value) -> List (Addr × Obj) -> Prop) (ps : List (Value -> Prop)) (k : Nat) (s' : Shared) : Prop
 | mk : ∀ m' news' i, Ok s' -> St i s'.heap -> Fr gO L s'.heap m' -> News gO L s'.heap news' -> (∀ p ∈ news', p.1 ≠ I) -> R (ps.drop i) m' news' -> i <= ps.length -> k = ps.length + 1 - i -> afv gO L Ok St I R ps k s'
inductive ir (gO : Heap) (L : Addr) (Ok : Shared -> Prop) (I : Addr) (it : Obj) (rest : (Str -> Option Value) -> List (Addr × Obj) -> Prop) (gQ : Shared) : Prop
 | mk : ∀ m' news', (Ok gQ) -> (Fr gO L gQ.heap m') -> (News gO L gQ.heap ((I, it) :: news')) -> (∀ p ∈ news', p.1 ≠ I) -> (rest m' news') -> ir gO L Ok I it rest gQ
noncomputable def dj (gO : Heap) (L : Addr) (Ok : Shared -> Prop) (I : Addr) (it : Obj) (rest : (Str -> Option Value) -> List (Addr × Obj) -> Prop) (Q : Flow -> Shared -> Prop) (f : Flow) (gQ : Shared) : Prop :=
 match f with
 | .ret v => Q (.ret v) gQ
 | .brk => Q .next gQ
 | _ => ir gO L Ok I it rest gQ
theorem ir.intro {I : Addr} {it : Obj} {rest : (Str -> Option Value) -> List (Addr × Obj) -> Prop} {all : List (Addr × Obj)} (ok : Ok gQ) (F : Fr gO L gQ.heap m') (N : News gO L gQ.heap all) (news' : List (Addr × Obj))
   (sub : ∀ p ∈ (I, it) :: news', p ∈ all) (off : ∀ p ∈ news', p.1 ≠ I) (r : rest m' news') : ir gO L Ok I it rest gQ := ⟨m', news', ok, F, λ p hp => N p (sub p hp), off, r⟩
theorem fB {it : Obj} {rest : (Str -> Option Value) -> List (Addr × Obj) -> Prop} {Q : Flow -> Shared -> Prop} {f : Flow} (k : ∀ m n, (∀ p ∈ n, p.1 ≠ I) -> rest m n -> rest' m n) (q : dj gO L Ok I it rest Q f gQ) : dj gO L Ok I it rest' Q f gQ := by
 have go : ir gO L Ok I it rest gQ -> ir gO L Ok I it rest' gQ := λ z => z.casesOn λ m n a b c d e => ⟨m, n, a, b, c, d, k m n d e⟩
 cases f with
 | ret v => exact q
 | brk => exact q
 | next => exact go q
 | cont => exact go q
section
variable {s : Shared} {Q : Flow -> Shared -> Prop}
noncomputable def fO (prog : Program) (w : World) (A : Around) (E : Value -> Shared -> Prop) (gO : Heap) (env : Env) (tgt : Expr) (body orelse : List Stmt) (Q : Flow -> Shared -> Prop) (Ok : Shared -> Prop) (S : List (Addr × Obj) -> Prop) (I : Addr) : List (Value -> Prop) -> (Str -> Option Value) -> List (Addr × Obj) -> Prop
 | [], m, news => S news /\ ∀ s', Ok s' -> Fr gO env.locals s'.heap m -> News gO env.locals s'.heap news -> wpAny (model prog w) A (execs orelse env) Q E s'
 | P :: r, m, news => S news /\ ∀ (v : Value) (it : Obj) s', Ok s' -> P v -> Fr gO env.locals s'.heap m -> News gO env.locals s'.heap ((I, it) :: news) ->
     wpAny (model prog w) A (assign tgt env v) (λ _ gQ => wpAny (model prog w) A (execs body env) (dj gO env.locals Ok I it (fO prog w A E gO env tgt body orelse Q Ok S I r) Q) E gQ) E s'
theorem fO.src {S : List (Addr × Obj) -> Prop} {ps : List (Value -> Prop)} {m : Str -> Option Value} {news : List (Addr × Obj)} (h : fO prog w A E gO env tgt body orelse Q Ok S I ps m news) : S news := by
 cases ps with
 | nil => exact h.1
 | cons _ _ => exact h.1
structure uZ (Ok : Shared -> Prop) : Prop where
 heap : ∀ s h tk, Ok s -> Ok { s with heap := h, toks := tk }
inductive eX (prog : Program) (w : World) (A : Around) (gO : Heap) (env : Env) (tgt : Expr) (body orelse : List Stmt) (Q : Flow -> Shared -> Prop) (E : Value -> Shared -> Prop) (it : Value) (gQ : Shared) : Prop
 | mk : ∀ (I : Addr) (fp : List Addr) (ps : List (Value -> Prop)) (P : Nat -> Value -> Prop) (St : Nat -> Heap -> Prop) (m : Str -> Option Value) (news : List (Addr × Obj)) (Ok : Shared -> Prop) (S : List (Addr × Obj) -> Prop), (it = .ref I) -> (Walks prog w A I fp [I] ps.length P St) -> (∀ i v, P i v -> i < ps.length -> ∃ p, ps[i]? = some p /\ p v) -> (∀ i h, St i h -> ∃ o, h.get? I = some o) -> ((∀ i h h' o nw, St i h -> h.get? I = some o -> h'.get? I = some o -> (∀ b o, gO.get? b = some o -> h'.get? b = some o) -> News gO env.locals h' nw -> S nw -> St i h')) -> ((∀ i v s' (E' : Value -> Shared -> Prop) (Q' : Unit -> Shared -> Prop), St (i + 1) s'.heap -> P i v -> Q' () s' -> wpAny (model prog w) A (letOwnedTupleGo tgt (.ref I) v) Q' E' s')) -> (env.locals ≠ I) -> (gO.get? I = none) -> (∀ p ∈ news, p.1 ≠ I) -> (St 0 gQ.heap) -> (uZ Ok) -> (Ok gQ) -> (Fr gO env.locals gQ.heap m) -> (News gO env.locals gQ.heap news) -> (fO prog w A E gO env tgt body orelse Q Ok S I ps m news) -> eX prog w A gO env tgt body orelse Q E it gQ
theorem oX (hE : PassesOwn (model prog w) A env E) {it : Value} (h : eX prog w A gO env tgt body orelse Q E it s) : codeAny (model prog w) A (.forLoop tgt it body orelse env) (λ r s' => match r with | .ok f => Q f s' | .error e => cameBackBy (model prog w) A env E e s') s := by
 tm_at "X";obtain ⟨I, fp, ps, P, St, m, news, Ok, S, rfl, W, hP, hO, hSt, hgo, hLI, hI0, off, st, hOk, ok, F, N, rest⟩ := h;tm_at "V";refine codeAny_forLoop_any
   (afv gO env.locals Ok St I (fO prog w A E gO env tgt body orelse Q Ok S I) ps) ?_ (ps.length + 1)
   ⟨m, news, 0, ok, st, F, N, off, rest, Nat.zero_le _, rfl⟩
 intro k s' hr9_2;tm_at "X";obtain ⟨m', news', i, ok', st', F', N', off', R', hi, rfl⟩ := hr9_2;tm_at "V";have keep : ∀ h₁ : Heap, (∀ b o, b ∉ [I] -> s'.heap.get? b = some o -> h₁.get? b = some o) -> Fr gO env.locals h₁ m' /\ News gO env.locals h₁ news' := λ h₁ hk =>
   ⟨⟨F'.ns.at' λ o e => hk _ o (λ hm => hLI (List.mem_singleton.mp hm)) e, λ b o e => hk b o (λ hm => by rw [List.mem_singleton.mp hm, hI0] at e; cases e) (F'.keep b o e), F'.above⟩,
     λ p hp => ⟨hk _ _ (λ hm => off' p hp (List.mem_singleton.mp hm)) (N' p hp).1, (N' p hp).2⟩⟩
 by_cases hlt : i < ps.length
 · refine W.item i _ _ _ hlt st' λ v h₁ tk₁ hPv st₁ hk₁ => ?_
   tm_at "X";obtain ⟨F₁, N₁⟩ := keep h₁ hk₁;obtain ⟨o₁, ho₁⟩ := hO _ _ st₁;tm_at "V";have N₂ : News gO env.locals h₁ ((I, o₁) :: news') := λ p hp => by
     tm_at "an"
     · exact ⟨ho₁, λ q => hLI q.symm, hI0⟩
     · exact N₁ p hp
   tm_at "X";obtain ⟨pp, hpp, hv⟩ := hP i v hPv hlt;tm_at "V";have hd : ps.drop i = pp :: ps.drop (i + 1) := by
     rw [List.drop_eq_getElem_cons hlt]
     congr 1
     exact Option.some.inj ((List.getElem?_eq_getElem hlt).symm.trans hpp)
   rw [hd] at R';refine hgo i v _ _ _ st₁ hPv ?_;refine wpAny_passesOwn hE (wpAny_mono (R'.2 v o₁ _ (hOk.heap _ h₁ tk₁ ok') hv F₁ N₂) (λ _ gQ h₂ => wpAny_passesOwn hE (wpAny_mono h₂ (λ f s₃ h₃ => ?_) λ _ _ e => e)) λ _ _ e => e);have fin : ir gO env.locals Ok I o₁ (fO prog w A E gO env tgt body orelse Q Ok S I (ps.drop (i + 1))) s₃ ->
       ∃ mm, mm < ps.length + 1 - i /\ afv gO env.locals Ok St I (fO prog w A E gO env tgt body orelse Q Ok S I) ps mm s₃ := by
     intro hr9_0;tm_at "X";obtain ⟨m₄, n₄, ok₄, F₄, N₄, off₄, R₄⟩ := hr9_0;tm_at "V";exact ⟨ps.length + 1 - (i + 1), Nat.sub_lt_sub_left (Nat.lt_succ_of_lt hlt) (Nat.lt_succ_self i), m₄, n₄, i + 1, ok₄, hSt _ _ _ _ _ st₁ ho₁ (N₄ _ (.head _)).1 F₄.keep (λ p hp => N₄ p (.tail _ hp)) R₄.src, F₄, λ p hp => N₄ p (.tail _ hp), off₄, R₄, hlt, rfl⟩
   cases f with
   | ret v => exact h₃
   | brk => exact h₃
   | next => exact fin h₃
   | cont => exact fin h₃
 · have hin : i = ps.length := by lia
   subst hin;refine W.done _ _ _ st' λ h₁ tk₁ hk₁ => ?_
   tm_at "X";obtain ⟨F₁, N₁⟩ := keep h₁ hk₁;tm_at "V";rw [List.drop_length] at R';exact wpAny_passesOwn hE (R'.2 _ (hOk.heap _ h₁ tk₁ ok') F₁ N₁)
theorem aeZ {m : Str -> Option Value} {pos : Pos} (_F : Fr gO env.locals s.heap m) (h : wpAny (model prog w) A (eval iter env) (λ xv gJ => wpAny (model prog w) A (pyIter xv) (λ it gQ => eX prog w A gO env tgt body orelse Q E it gQ) E gJ) E s) (hs : ∀ x, foldedSetIterable iter env x = pure x) (hE : PassesOwn (model prog w) A env E) : wpAny (model prog w) A (exec (.For tgt iter body orelse pos) env) Q E s :=
 wpAny_For (wpAny_mono h (λ xv gJ h₁ => wpAny_mono h₁ (λ it gQ h₂ => oX hE h₂) λ _ _ e => e) λ _ _ e => e) hs
noncomputable def aZ (prog : Program) (w : World) (A : Around) (E : Value -> Shared -> Prop) (gO : Heap) (env : Env) (x : Str) (body orelse : List Stmt) (Q : Flow -> Shared -> Prop) (s : Shared) (I : Addr) : List (Value -> Prop) -> (Str -> Option Value) -> List (Addr × Obj) -> Prop
 | [], m, news => ∀ h tk, Fr gO env.locals h m -> News gO env.locals h news -> wpAny (model prog w) A (execs orelse env) Q E { s with heap := h, toks := tk }
 | P :: r, m, news => ∀ (v : Value) (it : Obj) h tk, P v -> Fr gO env.locals h (λ y => if y = x then some v else m y) -> News gO env.locals h ((I, it) :: news) ->
     wpAny (model prog w) A (execs body env) (UnrPost gO env.locals { s with heap := h, toks := tk } I it (aZ prog w A E gO env x body orelse Q s I r) Q) E { s with heap := h, toks := tk }
theorem aZ.zero {I : Addr} {m : Str -> Option Value} {news : List (Addr × Obj)} (h : ∀ h tk, Fr gO env.locals h m -> News gO env.locals h news -> wpAny (model prog w) A (execs orelse env) Q E { s with heap := h, toks := tk }) :
   aZ prog w A E gO env x body orelse Q s I [] m news := h
theorem aZ.succ {I : Addr} {P : Value -> Prop} {r : List (Value -> Prop)} {m : Str -> Option Value} {news : List (Addr × Obj)}
   (h : ∀ (v : Value) (it : Obj) h tk, P v -> Fr gO env.locals h (λ y => if y = x then some v else m y) -> News gO env.locals h ((I, it) :: news) ->
     wpAny (model prog w) A (execs body env) (UnrPost gO env.locals { s with heap := h, toks := tk } I it (aZ prog w A E gO env x body orelse Q s I r) Q) E { s with heap := h, toks := tk }) :
   aZ prog w A E gO env x body orelse Q s I (P :: r) m news := h
inductive bB (prog : Program) (w : World) (A : Around) (gO : Heap) (env : Env) (x : Str) (body orelse : List Stmt) (Q : Flow -> Shared -> Prop) (E : Value -> Shared -> Prop) (it : Value) (gQ : Shared) : Prop
 | mk : ∀ (I : Addr) (ps : List (Value -> Prop)) (P : Nat -> Value -> Prop) (St : Nat -> Heap -> Prop) (m : Str -> Option Value) (news : List (Addr × Obj)), (it = .ref I) -> (Walks prog w A I [I] [I] ps.length P St) -> (∀ i v, P i v -> ∃ p, ps[i]? = some p /\ p v) -> (∀ i h, St i h -> ∃ o, h.get? I = some o) -> (env.locals ≠ I) -> (gO.get? I = none) -> (∀ p ∈ news, p.1 ≠ I) -> (St 0 gQ.heap) -> (Fr gO env.locals gQ.heap m) -> (News gO env.locals gQ.heap news) -> (aZ prog w A E gO env x body orelse Q gQ I ps m news) -> bB prog w A gO env x body orelse Q E it gQ
inductive yx (s s' : Shared) : Prop
 | mk : ∀ h tk, s' = { s with heap := h, toks := tk } -> yx s s'
theorem okU (s : Shared) : uZ (yx s) := ⟨λ _ h tk ok => ok.casesOn λ _ _ e => ⟨h, tk, e ▸ rfl⟩⟩
theorem yz (hx : env.kindOf x = some .local) (hp : (env.scope.kind == .class || (env.scope.kind == .module && env.locals != env.globals)) = false) {I : Addr} {ps : List (Value -> Prop)} {m : Str -> Option Value} {news : List (Addr × Obj)} (h : aZ prog w A E gO env x body orelse Q s I ps m news) : fO prog w A E gO env (.Name x px) body orelse Q (yx s) (λ _ => True) I ps m news := by
 induction ps generalizing m news with
 | nil => exact ⟨trivial, λ s' ok => ok.casesOn λ hh tk e => by subst e; exact h hh tk⟩
 | cons P r ih =>
   refine ⟨trivial, λ v it s' ok hv F N => ok.casesOn λ hh tk e => ?_⟩;subst e;refine wpAny_assign_Name (wpAny_storeName_local hx F.ns (λ h₂ hn₂ hs₂ => wpAny_mono (h v it h₂ (tk + 1) hv (F.set hn₂ hs₂) (N.set hs₂)) (λ f s₃ h₃ => ?_) λ _ _ e => e) hp);have fin : UnrEnd gO env.locals { s with heap := h₂, toks := tk + 1 } I it (aZ prog w A E gO env x body orelse Q s I r) s₃ -> ir gO env.locals (yx s) I it (fO prog w A E gO env (.Name x px) body orelse Q (yx s) (λ _ => True) I r) s₃ :=
     λ z => z.elim λ h₄ z => z.elim λ tk₄ z => z.elim λ m₄ z => z.elim λ n₄ z => ⟨m₄, n₄, ⟨h₄, tk₄, z.1⟩, z.1 ▸ z.2.1, z.1 ▸ z.2.2.1, z.2.2.2.1, ih z.2.2.2.2⟩
   cases f with
   | ret v => exact h₃
   | brk => exact h₃
   | next => exact fin h₃
   | cont => exact fin h₃
theorem qx (hE : PassesOwn (model prog w) A env E) (hx : env.kindOf x = some .local) (hp : (env.scope.kind == .class || (env.scope.kind == .module && env.locals != env.globals)) = false) {it : Value} (h : bB prog w A gO env x body orelse Q E it s) : codeAny (model prog w) A (.forLoop (.Name x px) it body orelse env) (λ r s' => match r with | .ok f => Q f s' | .error e => cameBackBy (model prog w) A env E e s') s := by
 exact h.casesOn λ I ps P St m news e W hP hO hLI hI0 off st F N rest => oX hE
   ⟨I, [I], ps, P, St, m, news, yx s, λ _ => True, e, W, λ i v p _ => hP i v p, hO, λ i h h' o _ sI e1 e2 _ _ _ => W.frame i h h' sI λ b hb o' e' => by
     rw [List.mem_singleton.mp hb] at e' ⊢;exact e2.trans (e1.symm.trans e'), λ i v s' E' Q' _ _ hq => wpAny_of_eq rfl hq, hLI, hI0, off, st, okU s, ⟨s.heap, s.toks, rfl⟩, F, N, yz hx hp rest⟩
theorem rZ {m : Str -> Option Value} {pos : Pos} (_F : Fr gO env.locals s.heap m) (hx : env.kindOf x = some .local) (hp : (env.scope.kind == .class || (env.scope.kind == .module && env.locals != env.globals)) = false) (h : wpAny (model prog w) A (eval iter env) (λ xv gJ => wpAny (model prog w) A (pyIter xv) (λ it gQ => bB prog w A gO env x body orelse Q E it gQ) E gJ) E s) (hs : ∀ x, foldedSetIterable iter env x = pure x) (hE : PassesOwn (model prog w) A env E) : wpAny (model prog w) A (exec (.For (.Name x px) iter body orelse pos) env) Q E s :=
 wpAny_For (wpAny_mono h (λ xv gJ h₁ => wpAny_mono h₁ (λ it gQ h₂ => qx hE hx hp h₂) λ _ _ e => e) λ _ _ e => e) hs
theorem jk {it : Obj} {rest : (Str -> Option Value) -> List (Addr × Obj) -> Prop} {f : Flow} (k : ∀ m n, (∀ p ∈ n, p.1 ≠ I) -> rest m n -> rest' m n) (q : UnrPost gO L gJ I it rest Q f gQ) : UnrPost gO L gJ I it rest' Q f gQ := by
 have go : UnrEnd gO L gJ I it rest gQ -> UnrEnd gO L gJ I it rest' gQ := Exists.imp λ _ => Exists.imp λ _ => Exists.imp λ m => Exists.imp λ n => And.imp_right (And.imp_right (And.imp_right λ z => ⟨z.1, k m n z.1 z.2⟩))
 cases f with
 | ret v => exact q
 | brk => exact q
 | next => exact go q
 | cont => exact go q
theorem oY {tx : Str} {l : List Str} {news : List (Addr × Obj)} (hh : A.handled = none) (F : Fr gO env.locals s.heap gY) (N : News gO env.locals s.heap news) (hx : tx.cps.toList.map (λ c => (⟨#[c]⟩ : Str)) = l) (ha : tx.cps.all (· < 128) = true) (rest : ∀ I h', Fr gO env.locals h' gY -> News gO env.locals h' news -> (∀ p ∈ news, p.1 < I) -> aZ prog w A E gO env x body orelse Q { s with heap := h' } I (l.map λ c v => ∃ u, v = .str c u) gY news) : wpAny (model prog w) A (pyIter (.str tx t)) (λ it gQ => bB prog w A gO env x body orelse Q E it gQ) E s := by
 have hlen : (l.map λ c v => ∃ u, v = Value.str c u).length = tx.cps.size := by rw [<- hx]; simp
 refine wpAny_pyIter_ascii ha ⟨s.heap.objs.size, (l.map λ c v => ∃ u, v = .str c u), _, _, gY, news, rfl, hlen ▸ Walks.strAscii hh _ tx t, ?_, ?_, Nat.ne_of_lt F.ns.lt, next_is_new F, λ p hp => Nat.ne_of_lt (Heap.lt_size (N p hp).1), ⟨_, Heap.get?_push_size _ rfl, rfl, rfl⟩, F.push _, N.keeps λ b o e => Heap.get?_push_of_some _ e, ?_⟩
 · intro i v hr9_2
   tm_at "X";obtain ⟨c, u, hc, rfl⟩ := hr9_2;tm_at "V";refine ⟨λ v => ∃ u, v = .str ⟨#[c]⟩ u, ?_, u, rfl⟩;rw [<- hx, List.getElem?_map, List.getElem?_map, Array.getElem?_toList, hc];rfl
 · intro i h hr9_2
   tm_at "X";obtain ⟨o, ho, r⟩ := hr9_2;tm_at "V";exact ⟨o, ho⟩
 · exact rest _ _ (F.push _) (N.keeps λ b o e => Heap.get?_push_of_some _ e) λ p hp => Heap.lt_size (N p hp).1
theorem km {r : Addr} {a c : Int} {v : Tok} {n : Nat} {news : List (Addr × Obj)} (hh : A.handled = none) (F : Fr gO env.locals s.heap gY) (N : News gO env.locals s.heap news) (hr : IsRange s.heap r a b c t u v) (hsm : Builtin.Range.small a b c = true) (hn : Builtin.Range.rangeSize a b c = (n : Int)) (ps : List (Value -> Prop)) (hps : (List.range n).map (λ (i : Nat) (v : Value) => ∃ t, v = Value.int (a + (i : Int) * c) t) = ps) (rest : ∀ I h', Fr gO env.locals h' gY -> News gO env.locals h' news -> (∀ p ∈ news, p.1 < I) -> aZ prog w A E gO env x body orelse Q { s with heap := h' } I ps gY news) : wpAny (model prog w) A (pyIter (.ref r)) (λ it gQ => bB prog w A gO env x body orelse Q E it gQ) E s := by
 subst hps;have hlen : ((List.range n).map (λ (i : Nat) (v : Value) => ∃ t, v = Value.int (a + (i : Int) * c) t)).length = n := by simp
 refine wpAny_pyIter_range hr hsm ⟨s.heap.objs.size, (List.range n).map (λ (i : Nat) (v : Value) => ∃ t, v = Value.int (a + (i : Int) * c) t), _, _, gY, news, rfl, hlen.symm ▸ (Walks.range hh _ a c n).bound, ?_, ?_, Nat.ne_of_lt F.ns.lt, next_is_new F, λ p hp => Nat.ne_of_lt (Heap.lt_size (N p hp).1), (by show IsRangeIter _ _ _ _ _; rw [hn]; simpa using Heap.get?_push_size _ rfl), F.push _, N.keeps λ b o e => Heap.get?_push_of_some _ e, ?_⟩
 · intro i v hr9_2
   tm_at "X";obtain ⟨hi, t, rfl⟩ := hr9_2;tm_at "V";exact ⟨λ v => ∃ t, v = .int (a + (i : Int) * c) t, by rw [List.getElem?_map, List.getElem?_range (hlen ▸ hi : i < n)]; rfl, t, rfl⟩
 · exact λ i h st => ⟨_, st⟩
 · exact rest _ _ (F.push _) (N.keeps λ b o e => Heap.get?_push_of_some _ e) λ p hp => Heap.lt_size (N p hp).1
end
end
section
set_option tactic.hygienic false
open PySem.Spec PySem.Calls
section
variable {s : Shared} {Q : Flow -> Shared -> Prop}
noncomputable def aB (m : Str -> Option Value) (ps : List (Str × Value)) : Prop := ∀ p ∈ ps, m p.1 = some p.2
noncomputable def jm (x : Str) (ps : List (Str × Value)) (m gY : Str -> Option Value) : Prop := ∀ z, z ≠ x -> (∀ p ∈ ps, z ≠ p.1) -> m z = gY z
theorem bD {m : Str -> Option Value} : jm x ps m m := λ _ _ _ => rfl
theorem dZ {m : Str -> Option Value} {v : Option Value} (h : jm x ps m gY) : jm x ps (λ y => if y = x then v else m y) gY := λ z h1 h2 => by
 show (if z = x then v else m z) = gY z;rw [if_neg h1]; exact h z h1 h2
theorem d9 {m : Str -> Option Value} {k : Str} {v0 : Value} {v : Option Value} (hk : (k, v0) ∈ ps) (h : jm x ps m gY) : jm x ps (λ y => if y = k then v else m y) gY := λ z h1 h2 => by
 show (if z = k then v else m z) = gY z;rw [if_neg (h2 _ hk)]; exact h z h1 h2
noncomputable def wR {σ α : Type} (Led : σ -> List (Addr × Obj)) (ps : σ -> List (Str × Value)) (x : Str) (gY : Str -> Option Value) (rest : List (Addr × Obj)) (P : List α -> σ -> Prop) (pre : List α) (m : Str -> Option Value) (news : List (Addr × Obj)) : Prop :=
 ∃ c : σ, aB m (ps c) /\ jm x (ps c) m gY /\ news = Led c ++ rest /\ P pre c
theorem fC {m : Str -> Option Value} : aB m [] := λ _ h => absurd h List.not_mem_nil
theorem lw {m : Str -> Option Value} {a : Str} {v : Value} {l : List (Str × Value)} (h1 : m a = some v) (h : aB m l) : aB m ((a, v) :: l) := λ p hp => by
 rcases List.mem_cons.mp hp with rfl | hp
 · exact h1
 · exact h p hp
theorem aan (PV : α -> Value -> Prop) (J : List α -> (Str -> Option Value) -> List (Addr × Obj) -> Prop) {all : List α} (turn : ∀ pre a post m news v it h tk, all = pre ++ a :: post -> J pre m news -> (∀ p ∈ news, p.1 ≠ I) -> PV a v -> Fr gO env.locals h (λ y => if y = x then some v else m y) -> News gO env.locals h ((I, it) :: news) -> wpAny (model prog w) A (execs body env) (UnrPost gO env.locals { s with heap := h, toks := tk } I it (J (pre ++ [a])) Q) E { s with heap := h, toks := tk }) (done : ∀ m news h tk, J all m news -> Fr gO env.locals h m -> News gO env.locals h news -> wpAny (model prog w) A (execs orelse env) Q E { s with heap := h, toks := tk }) : ∀ post pre m news, all = pre ++ post -> J pre m news -> (∀ p ∈ news, p.1 ≠ I) -> aZ prog w A E gO env x body orelse Q s I (post.map PV) m news := by
 intro post
 induction post with
 | nil => intro pre m news e hj _ h tk F N; exact done m news h tk (e.trans (List.append_nil pre) ▸ hj) F N
 | cons a post ih =>
   intro pre m news e hj off v it h tk hv F N;exact wpAny_mono (turn pre a post m news v it h tk e hj off hv F N) (λ f gQ k => jk (λ m' n' off' z => ih (pre ++ [a]) m' n' (by rw [e, List.append_assoc]; rfl) z off') k) λ _ _ e => e
theorem my (PV : α -> Value -> Prop) (Led : σ -> List (Addr × Obj)) (ps : σ -> List (Str × Value)) (P : List α -> σ -> Prop) {gY : Str -> Option Value} {rest : List (Addr × Obj)} {all : List α} (c₀ : σ) (hk : aB gY (ps c₀)) (hp : P [] c₀) (off : ∀ p ∈ Led c₀ ++ rest, p.1 ≠ I) (turn : ∀ pre a post c v it h tk, all = pre ++ a :: post -> P pre c -> (∀ p ∈ Led c ++ rest, p.1 ≠ I) -> PV a v -> Fr gO env.locals h (λ y => if y = x then some v else kstB gY (ps c) y) -> News gO env.locals h ((I, it) :: (Led c ++ rest)) -> wpAny (model prog w) A (execs body env) (UnrPost gO env.locals { s with heap := h, toks := tk } I it (wR Led ps x gY rest P (pre ++ [a])) Q) E { s with heap := h, toks := tk }) (done : ∀ c u h tk, P all c -> Fr gO env.locals h (λ y => if y = x then u else kstB gY (ps c) y) -> News gO env.locals h (Led c ++ rest) -> wpAny (model prog w) A (execs orelse env) Q E { s with heap := h, toks := tk }) : aZ prog w A E gO env x body orelse Q s I (all.map PV) gY (Led c₀ ++ rest) := by
 have em : ∀ {m : Str -> Option Value} {c : σ}, (∀ p ∈ ps c, m p.1 = some p.2) -> (∀ z, z ≠ x -> (∀ p ∈ ps c, z ≠ p.1) -> m z = gY z) -> ∀ y, y ≠ x -> kstB gY (ps c) y = m y :=
   λ h1 h2 y hy => kstB_eq h1 λ hn => (h2 y hy hn).symm
 refine aan PV (wR Led ps x gY rest P) ?_ ?_ all [] gY _ rfl ⟨c₀, hk, bD, rfl, hp⟩ off
 · intro pre a post m news v it h tk e hr9_10 off hv F N
   tm_at "X";obtain ⟨c, h1, h2, rfl, hp⟩ := hr9_10;tm_at "V";refine turn pre a post c v it h tk e hp off hv ?_ N;have ef : (λ y => if y = x then some v else kstB gY (ps c) y) = λ y => if y = x then some v else m y := by
     funext y
     by_cases hy : y = x
     · rw [if_pos hy, if_pos hy]
     · rw [if_neg hy, if_neg hy]; exact em h1 h2 y hy
   rw [ef]; exact F
 · intro m news h tk hr9_4 F N
   tm_at "X";obtain ⟨c, h1, h2, rfl, hp⟩ := hr9_4;tm_at "V";refine done c (m x) h tk hp ?_ N;have ef : (λ y => if y = x then m x else kstB gY (ps c) y) = m := by
     funext y
     by_cases hy : y = x
     · rw [if_pos hy, hy]
     · rw [if_neg hy]; exact em h1 h2 y hy
   rw [ef]; exact F
theorem yC {tx : Str} (Led : σ -> List (Addr × Obj)) (ps : σ -> List (Str × Value)) (P : List Nat -> σ -> Prop) {gY : Str -> Option Value} {rest : List (Addr × Obj)} (c₀ : σ) (hh : A.handled = none) (F : Fr gO env.locals s.heap gY) (N : News gO env.locals s.heap (Led c₀ ++ rest)) (hx : tx.cps.toList = codes) (ha : ∀ c ∈ codes, c < 128) (hk : aB gY (ps c₀)) (hp : P [] c₀) (turn : ∀ I pre a post c t it h tk, codes = pre ++ a :: post -> P pre c -> (∀ p ∈ Led c ++ rest, p.1 ≠ I) -> Fr gO env.locals h (λ y => if y = x then some (.str ⟨#[a]⟩ t) else kstB gY (ps c) y) -> News gO env.locals h ((I, it) :: (Led c ++ rest)) -> wpAny (model prog w) A (execs body env) (UnrPost gO env.locals { s with heap := h, toks := tk } I it (wR Led ps x gY rest P (pre ++ [a])) Q) E { s with heap := h, toks := tk }) (done : ∀ c u h tk, P codes c -> Fr gO env.locals h (λ y => if y = x then u else kstB gY (ps c) y) -> News gO env.locals h (Led c ++ rest) -> wpAny (model prog w) A (execs orelse env) Q E { s with heap := h, toks := tk }) : wpAny (model prog w) A (pyIter (.str tx t)) (λ it gQ => bB prog w A gO env x body orelse Q E it gQ) E s := by
 have hmap : tx.cps.toList.map (λ c => (⟨#[c]⟩ : Str)) = codes.map λ c => (⟨#[c]⟩ : Str) := by rw [hx]
 have hall : tx.cps.all (· < 128) = true := by
   rw [Array.all_eq_true];intro i hi;have : tx.cps[i] ∈ codes := by rw [<- hx]; exact Array.getElem_mem_toList hi
   simpa using ha _ this
 refine oY hh F N hmap hall λ I h' F' N' l1 => ?_
 rw [List.map_map];refine my _ Led ps P c₀ hk hp (λ p hp => Nat.ne_of_lt (l1 p hp)) ?_ ?_
 · rintro pre a post c v it h tk e hp' off ⟨u, rfl⟩ F₁ N₁
   exact turn I pre a post c u it h tk e hp' off F₁ N₁
 · intro c u h tk hp' F₁ N₁
   exact done c u h tk hp' F₁ N₁
theorem eE {r : Addr} {a c : Int} {v : Tok} {n : Nat} (Led : σ -> List (Addr × Obj)) (ps : σ -> List (Str × Value)) (P : List Nat -> σ -> Prop) {gY : Str -> Option Value} {rest : List (Addr × Obj)} (c₀ : σ) (hh : A.handled = none) (F : Fr gO env.locals s.heap gY) (N : News gO env.locals s.heap (Led c₀ ++ rest)) (hr : IsRange s.heap r a b c t u v) (hsm : Builtin.Range.small a b c = true) (hn : Builtin.Range.rangeSize a b c = (n : Int)) (hk : aB gY (ps c₀)) (hp : P [] c₀) (turn : ∀ I pre post cc t it h tk, List.range n = pre ++ pre.length :: post -> pre = List.range pre.length -> pre.length < n -> P pre cc -> (∀ p ∈ Led cc ++ rest, p.1 ≠ I) -> Fr gO env.locals h (λ y => if y = x then some (.int (a + (pre.length : Int) * c) t) else kstB gY (ps cc) y) -> News gO env.locals h ((I, it) :: (Led cc ++ rest)) -> wpAny (model prog w) A (execs body env) (UnrPost gO env.locals { s with heap := h, toks := tk } I it (wR Led ps x gY rest P (pre ++ [pre.length])) Q) E { s with heap := h, toks := tk }) (done : ∀ cc u h tk, P (List.range n) cc -> Fr gO env.locals h (λ y => if y = x then u else kstB gY (ps cc) y) -> News gO env.locals h (Led cc ++ rest) -> wpAny (model prog w) A (execs orelse env) Q E { s with heap := h, toks := tk }) : wpAny (model prog w) A (pyIter (.ref r)) (λ it gQ => bB prog w A gO env x body orelse Q E it gQ) E s := by
 refine km (n := n) hh F N hr hsm hn _ rfl λ I h' F' N' l1 => ?_
 refine my _ Led ps P c₀ hk hp (λ p hp => Nat.ne_of_lt (l1 p hp)) ?_ ?_
 · rintro pre i post cc v it h tk e hp' off ⟨u, rfl⟩ F₁ N₁
   have hi : pre.length < n := by have := congrArg List.length e; simp at this; lia
   have e1 : i = pre.length := by
     have := congrArg (·[pre.length]?) e;simp [List.getElem?_range hi] at this;lia
   subst e1;have e2 : pre = List.range pre.length := by
     have := congrArg (List.take pre.length) e;rw [List.take_left, List.take_range, Nat.min_eq_left (Nat.le_of_lt hi)] at this;exact this.symm
   exact turn I pre post cc u it h tk e e2 hi hp' off F₁ N₁
 · intro cc u h tk hp' F₁ N₁
   exact done cc u h tk hp' F₁ N₁
end
noncomputable def u5 (l : List Int) (b : Int) : List Int := l.set b.toNat (l.getD b.toNat 0 + 1)
noncomputable def aao (l : List Int) (b : Int) : List Int := if (l.length : Int) <= b then l ++ List.replicate (b - l.length + 1).toNat 0 else l
noncomputable def qy (q : Ws) (c : Nat) : Ws := if c = 32 then ⟨q.b + 1, q.n + 1, q.nt, q.cnt⟩ else ⟨0, q.n + 1, q.nt + 1, u5 (aao q.cnt q.b) q.b⟩
noncomputable def jn (l : List Nat) : Ws := l.foldl qy ⟨0, 0, 0, []⟩
theorem jQ (l : List Nat) (c : Nat) : jn (l ++ [c]) = qy (jn l) c := by simp [jn]
noncomputable def bY (c : Nat) : Prop := c = 32 \/ c = 9
structure WsL where
 q : Ws
 tb : Tok
 tn : Tok
 tt : Tok
 a : Addr
 vs : List Value
 k : Nat
noncomputable abbrev sr (c : WsL) : List (Addr × Obj) := [(c.a, listOf c.vs.toArray c.k)]
noncomputable abbrev ahE (c : WsL) : List (Str × Value) := [(ofString "b", .int c.q.b c.tb), (ofString "n", .int c.q.n c.tn), (ofString "nt", .int c.q.nt c.tt), (ofString "count", .ref c.a)]
noncomputable abbrev wsP (rest : List (Addr × Obj)) (pre : List Nat) (c : WsL) : Prop :=
 (∀ x ∈ pre, bY x) /\ c.q = jn pre /\ IntsAre c.vs c.q.cnt /\ (∀ p ∈ rest, p.1 < c.a) /\ 0 <= c.q.b /\ c.q.b <= pre.length /\ c.q.cnt.length <= pre.length
noncomputable def dq (d : Nat) : List (Addr × Obj) -> Prop
 | [] => True
 | p :: r => @Ne Nat p.1 d /\ dq d r
theorem allNe_of : ∀ {l : List (Addr × Obj)}, (∀ p ∈ l, p.1 ≠ d) -> dq d l
 | [], _ => trivial
 | p :: _, h => ⟨h p (.head _), allNe_of λ q hq => h q (.tail _ hq)⟩
theorem aiE (h : dq T ((a0, o0) :: r)) (k : @Ne Nat a0 T -> dq T r -> G) : G := k h.1 h.2
theorem aiF {o1 : Obj} (h : dq T ((a0, o0) :: (a1, o1) :: r)) (k : @Ne Nat a0 T -> @Ne Nat a1 T -> dq T r -> G) : G := k h.1 h.2.1 h.2.2
theorem aiG {o1 o2 : Obj} (h : dq T ((a0, o0) :: (a1, o1) :: (a2, o2) :: r)) (k : @Ne Nat a0 T -> @Ne Nat a1 T -> @Ne Nat a2 T -> dq T r -> G) : G := k h.1 h.2.1 h.2.2.1 h.2.2.2
theorem aiH {o1 o2 o3 : Obj} (h : dq T ((a0, o0) :: (a1, o1) :: (a2, o2) :: (a3, o3) :: r)) (k : @Ne Nat a0 T -> @Ne Nat a1 T -> @Ne Nat a2 T -> @Ne Nat a3 T -> dq T r -> G) : G := k h.1 h.2.1 h.2.2.1 h.2.2.2.1 h.2.2.2.2
theorem aiI {o1 o2 o3 : Obj} (h : dq T ((a0, o0) :: (a1, o1) :: (a2, o2) :: (a3, o3) :: (a4, o4) :: r)) (k : @Ne Nat a0 T -> @Ne Nat a1 T -> @Ne Nat a2 T -> @Ne Nat a3 T -> @Ne Nat a4 T -> dq T r -> G) : G := k h.1 h.2.1 h.2.2.1 h.2.2.2.1 h.2.2.2.2.1 h.2.2.2.2.2
theorem aiJ {a5 : Addr} {o1 o2 o3 o5 : Obj} (h : dq T ((a0, o0) :: (a1, o1) :: (a2, o2) :: (a3, o3) :: (a4, o4) :: (a5, o5) :: r)) (k : @Ne Nat a0 T -> @Ne Nat a1 T -> @Ne Nat a2 T -> @Ne Nat a3 T -> @Ne Nat a4 T -> @Ne Nat a5 T -> dq T r -> G) : G := k h.1 h.2.1 h.2.2.1 h.2.2.2.1 h.2.2.2.2.1 h.2.2.2.2.2.1 h.2.2.2.2.2.2
theorem aF : ∀ {l : List (Addr × Obj)}, dq d l -> ∀ p ∈ l, p.1 ≠ d
 | [], _ => λ p hp => absurd hp List.not_mem_nil
 | q :: r, h => λ p hp => (List.mem_cons.mp hp).elim (λ e => by rw [e]; exact h.1) λ hp => aF h.2 p hp
theorem aap {rest : List (Addr × Obj)} {tb tn tt : Tok} {a : Addr} {k : Nat} (h : ∀ p ∈ rest, p.1 < a) : wsP rest [] ⟨⟨0, 0, 0, []⟩, tb, tn, tt, a, [], k⟩ :=
 ⟨λ _ h => absurd h List.not_mem_nil, rfl, IntsAre.nil, h, Int.le_refl _, Int.le_refl _, Nat.le_refl _⟩
theorem su {l pre post d : List Nat} {x a : Nat} (e : l ++ x :: d = pre ++ a :: post) (hl : ∀ y ∈ l, bY y) (hx : ¬ bY x) (hp : ∀ y ∈ pre, bY y) : ¬ bY a -> pre = l := by
 induction l generalizing pre with
 | nil =>
   cases pre with
   | nil => exact λ _ => rfl
   | cons y pre =>
     simp at e;exact absurd (hp y (.head _)) (e.1 ▸ hx)
 | cons z l ih =>
   cases pre with
   | nil =>
     simp at e;exact λ h => absurd (hl _ (.head _)) (e.1 ▸ h)
   | cons y pre =>
     simp at e;obtain ⟨rfl, e⟩ := e;exact λ h => by rw [ih e (λ y hy => hl y (.tail _ hy)) (λ y hy => hp y (.tail _ hy)) h]
theorem yD {a : Nat} (h : ((⟨#[a]⟩ : Str) == ofString " ") = true) : a = 32 := by
 have := eq_of_beq h;have e : ofString " " = ⟨#[32]⟩ := by decide +kernel
 rw [e] at this
 simpa using this
theorem wU {a : Nat} (h : ((⟨#[a]⟩ : Str) == ofString "\t") = true) : a = 9 := by
 have := eq_of_beq h;have e : ofString "\t" = ⟨#[9]⟩ := by decide +kernel
 rw [e] at this
 simpa using this
theorem yE {a : Nat} (h : ((⟨#[a]⟩ : Str) == ofString " ") = false) : a ≠ 32 := by
 rintro rfl
 revert h;decide +kernel
theorem acV {a : Nat} (h : ((⟨#[a]⟩ : Str) == ofString "\t") = false) : a ≠ 9 := by
 rintro rfl
 revert h;decide +kernel
theorem acW {rest : List (Addr × Obj)} {pre : List Nat} {a : Nat} {n nt : Int} {cnt : List Int} {vs : List Value} {tb tn tt : Tok} {x : Addr} {k : Nat} (w1 : ∀ y ∈ pre, bY y) (w2 : Ws.mk b n nt cnt = jn pre) (w3 : IntsAre vs cnt) (w5 : 0 <= b) (w6 : b <= pre.length) (w7 : cnt.length <= pre.length) (h : ((⟨#[a]⟩ : Str) == ofString " ") = true) (w4 : ∀ p ∈ rest, p.1 < x) : wsP rest (pre ++ [a]) ⟨⟨b + 1, n + 1, nt, cnt⟩, tb, tn, tt, x, vs, k⟩ := by
 have e := yD h;subst e;refine ⟨λ y hy => ?_, ?_, w3, w4, by dsimp only; lia, ?_, ?_⟩
 · rcases List.mem_append.mp hy with hy | hy
   · exact w1 y hy
   · rw [List.mem_singleton.mp hy]; exact .inl rfl
 · rw [jQ, <- w2]; rfl
 · simp only [List.length_append, List.length_cons, List.length_nil]; lia
 · simp only [List.length_append, List.length_cons, List.length_nil]; lia
theorem acX {rest : List (Addr × Obj)} {pre : List Nat} {a : Nat} {n nt : Int} {cnt : List Int} {vs2 : List Value} {tb tn tt : Tok} {x : Addr} {k : Nat} (w1 : ∀ y ∈ pre, bY y) (w2 : Ws.mk b n nt cnt = jn pre) (w5 : 0 <= b) (w6 : b <= pre.length) (h : ((⟨#[a]⟩ : Str) == ofString "\t") = true) (hp : (cnt.length : Int) <= b) (hi : IntsAre vs2 ((cnt ++ (List.replicate (b - cnt.length + 1).toNat [0]).flatten).set b.toNat ((cnt ++ (List.replicate (b - cnt.length + 1).toNat [0]).flatten).getD b.toNat 0 + 1))) (w4 : ∀ p ∈ rest, p.1 < x) : wsP rest (pre ++ [a]) ⟨⟨0, n + 1, nt + 1, (cnt ++ (List.replicate (b - cnt.length + 1).toNat [0]).flatten).set b.toNat ((cnt ++ (List.replicate (b - cnt.length + 1).toNat [0]).flatten).getD b.toNat 0 + 1)⟩, tb, tn, tt, x, vs2, k⟩ := by
 have e := wU h;subst e;refine ⟨λ y hy => ?_, ?_, hi, w4, Int.le_refl _, ?_, ?_⟩
 · rcases List.mem_append.mp hy with hy | hy
   · exact w1 y hy
   · rw [List.mem_singleton.mp hy]; exact .inr rfl
 · rw [jQ, <- w2]
   simp [qy, u5, aao, hp]
 · simp only [List.length_append, List.length_cons, List.length_nil]; lia
 · simp only [List.length_set, List.length_append, List.length_cons, List.length_nil, List.flatten_replicate_singleton, List.length_replicate]; lia
theorem acY {rest : List (Addr × Obj)} {pre : List Nat} {a : Nat} {n nt : Int} {cnt : List Int} {vs2 : List Value} {tb tn tt : Tok} {x : Addr} {k : Nat} (w1 : ∀ y ∈ pre, bY y) (w2 : Ws.mk b n nt cnt = jn pre) (w5 : 0 <= b) (w7 : cnt.length <= pre.length) (h : ((⟨#[a]⟩ : Str) == ofString "\t") = true) (hp : ¬ (cnt.length : Int) <= b) (hi : IntsAre vs2 (cnt.set b.toNat (cnt.getD b.toNat 0 + 1))) (w4 : ∀ p ∈ rest, p.1 < x) : wsP rest (pre ++ [a]) ⟨⟨0, n + 1, nt + 1, cnt.set b.toNat (cnt.getD b.toNat 0 + 1)⟩, tb, tn, tt, x, vs2, k⟩ := by
 have e := wU h;subst e;refine ⟨λ y hy => ?_, ?_, hi, w4, Int.le_refl _, ?_, ?_⟩
 · rcases List.mem_append.mp hy with hy | hy
   · exact w1 y hy
   · rw [List.mem_singleton.mp hy]; exact .inr rfl
 · rw [jQ, <- w2]
   simp [qy, u5, aao, hp]
 · simp only [List.length_append, List.length_cons, List.length_nil]; lia
 · simp only [List.length_set, List.length_append, List.length_cons, List.length_nil]; lia
theorem bO {x : α} {l all : List α} (h : x ∈ all) (k : ∀ p ∈ l, p ∈ all) : ∀ p ∈ x :: l, p ∈ all := λ p hp => (List.mem_cons.mp hp).elim (λ e => by rw [e]; exact h) (k p)
theorem yF {l pre post d : List Nat} {x a : Nat} (e : l ++ x :: d = pre ++ a :: post) (hl : ∀ y ∈ l, bY y) (hx : ¬ bY x) (hp : ∀ y ∈ pre, bY y) (h1 : ((⟨#[a]⟩ : Str) == ofString " ") = false) (h2 : ((⟨#[a]⟩ : Str) == ofString "\t") = false) : pre = l :=
 su e hl hx hp λ h => h.elim (yE h1) (acV h2)
inductive cj (x : Addr) (q : Ws) (W : List (Addr × Obj)) : Prop
 | mk : ∀ (dx : Addr) (es : List DictEntry) (ne : Nat) (T T2 : Addr) (vs : List Value) (tn tt tb : Tok) (sb : Bool), (W = [(T, bf (.ref T2) (.int q.b tb)), (T2, ({ cls := .type "tuple", data := .seq vs.toArray } : Obj)), (x, instObj 308 dx), (dx, dictOf es ne)]) -> (IntsAre vs q.cnt) -> (sb = decide ((q.cnt.length : Int) <= 1)) -> (getL (ofString "n") es = some (some (.int q.n tn))) -> (getL (ofString "nt") es = some (some (.int q.nt tt))) -> (getL (ofString "norm") es = some (some (.ref T))) -> (getL (ofString "is_simple") es = some (some (.bool sb))) -> (getL (ofString "longest_run_of_spaces") es = some none) -> (getL (ofString "indent_level") es = some none) -> (getL (ofString "less") es = some none) -> (getL (ofString "equal") es = some none) -> (getL (ofString "not_equal_witness") es = some none) -> (getL (ofString "not_less_witness") es = some none) -> cj x q W
noncomputable def aC (q : Ws) : Int := if q.b > (q.cnt.length : Int) - 1 then q.b else (q.cnt.length : Int) - 1
noncomputable def lz (q : Ws) (ts : Int) (a : Int) (j : Nat) : Int := a + Int.fdiv (ts + (j : Int) * 1) ts * q.cnt.getD (ts + (j : Int) * 1).toNat 0
noncomputable def bu (q : Ws) (ts : Int) : Int := q.b + ts * ((List.range ((q.cnt.length : Int) - ts).toNat).foldl (lz q ts) 0 + q.nt)
noncomputable def cQ (p q : Ws) : Bool :=
 if p.n >= q.n then false
 else if p.cnt.length <= 1 /\ q.cnt.length <= 1 then decide (p.nt <= q.nt)
 else (List.range ((if aC q > aC p then aC q else aC p) + 1 + 1 - 2).toNat).all λ j => decide (bu p (2 + (j : Int) * 1) < bu q (2 + (j : Int) * 1))
theorem bc (a b : Int) : Builtin.Range.rangeSize a b 1 = (((b - a).toNat : Nat) : Int) := by
 unfold Builtin.Range.rangeSize;rw [if_pos (by decide)]
 by_cases h : a < b
 · rw [if_pos h, Int.ediv_one]; lia
 · rw [if_neg h]; lia
theorem fD {led : List (Addr × Obj)} (N : News gO L h led) (hW : ∀ p ∈ W, p ∈ led) : News gO L h (W ++ led) := λ p hp => (List.mem_append.mp hp).elim (λ k => N p (hW p k)) (N p)
noncomputable abbrev ahF (_ : afo) : List (Addr × Obj) := []
noncomputable abbrev ahG (x : Str) (c : afo) : List (Str × Value) := [(x, .int c.v c.t)]
noncomputable abbrev ae0 {α : Type} (f : Int -> α -> Int) (a : Int) (pre : List α) (c : afo) : Prop := c.v = pre.foldl f a
theorem u6 {f : Int -> α -> Int} {a v : Int} {pre : List α} {x : α} (h : v = pre.foldl f a) : ae0 f a (pre ++ [x]) ⟨f v x, t⟩ := by
 show f v x = _;rw [List.foldl_append, h]; rfl
section
variable {s : Shared} {news : List (Addr × Obj)}
theorem aaq {t : Addr} {vs : List Value} {ns : List Int} {Q : Value -> Shared -> Prop} (N : News gO L s.heap news) (hm : (t, ({ cls := .type "tuple", data := .seq vs.toArray } : Obj)) ∈ news) (hi : IntsAre vs ns) (hz : (ns.length : Int) < 2 ^ 63) (h : Q (.int ns.length (s.toks + 1)) { s with toks := s.toks + 1 + 1 }) : wpAny (model prog w) A (call (.builtin "len") [.ref t]) Q E s := by
 have e : vs.toArray.size = ns.length := by simp [hi.length]
 exact len_tuple (N.isTup hm) (by rw [e]; exact hz) (by rw [e]; exact h)
end
theorem u9 {a : Int} (ha : 0 <= a) (hb : 1 <= b) : 0 <= Int.fdiv a b /\ Int.fdiv a b <= a := by
 rw [Int.fdiv_eq_ediv_of_nonneg a (by lia)];exact ⟨Int.ediv_nonneg ha (by lia), Int.ediv_le_self b ha⟩
section
variable {s : Shared} {Q : Flow -> Shared -> Prop}
theorem aar {r : Addr} {ts : Int} {q : Ws} {vs : List Value} {v t0 : Tok} {news : List (Addr × Obj)} (hh : A.handled = none) (F : Fr gO env.locals s.heap gY) (N : News gO env.locals s.heap news) (hi : IntsAre vs q.cnt) (hr : IsRange s.heap r ts q.cnt.length 1 t u v) (h1 : 1 <= ts) (h2 : ts < 100) (h3 : q.cnt.length < 100) (hk : gY (ofString "il") = some (.int 0 t0)) (turn : ∀ I (j : Nat) a t tv it h tk, 0 <= ts + (j : Int) * 1 -> ts + (j : Int) * 1 < q.cnt.length -> 0 <= Int.fdiv (ts + (j : Int) * 1) ts -> Int.fdiv (ts + (j : Int) * 1) ts < 100 -> (∀ p ∈ news, p.1 ≠ I) -> Fr gO env.locals h (λ y => if y = x then some (.int (ts + (j : Int) * 1) t) else if y = ofString "il" then some (.int a tv) else gY y) -> News gO env.locals h ((I, it) :: news) -> wpAny (model prog w) A (execs body env) (UnrPost gO env.locals { s with heap := h, toks := tk } I it (λ m' news' => (∃ t', m' (ofString "il") = some (.int (lz q ts a j) t')) /\ jm x [(ofString "il", .none)] m' gY /\ news' = news) Q) E { s with heap := h, toks := tk }) (done : ∀ t u h tk, Fr gO env.locals h (λ y => if y = x then u else if y = ofString "il" then some (.int ((List.range ((q.cnt.length : Int) - ts).toNat).foldl (lz q ts) 0) t) else gY y) -> News gO env.locals h news -> wpAny (model prog w) A (execs orelse env) Q E { s with heap := h, toks := tk }) : wpAny (model prog w) A (pyIter (.ref r)) (λ it gQ => bB prog w A gO env x body orelse Q E it gQ) E s := by
 refine eE (rest := news) ahF (ahG (ofString "il")) (ae0 (lz q ts) 0) ⟨0, t0⟩ hh F N hr (small_one (by lia) (by lia) (by lia) (by lia)) (bc _ _) (lw hk fC) rfl ?_ ?_
 · intro I pre post c t it h tk e e2 hl hP off F N
   tm_at "X";obtain ⟨a, tv⟩ := c;tm_at "V";have hb : (pre.length : Int) < q.cnt.length - ts := Int.lt_toNat.mp hl;have hd := u9 (a := ts + (pre.length : Int) * 1) (b := ts) (by lia) h1;refine wpAny_mono (turn I pre.length a t tv it h tk (by lia) (by lia) hd.1 (by lia) off F N) (λ f gQ k => jk (λ m' news' off' z => ?_) k) λ _ _ e => e
   tm_at "X";obtain ⟨⟨t', ht'⟩, hoe, rfl⟩ := z;tm_at "V";refine ⟨⟨_, t'⟩, lw ht' fC, λ z h1 h2 => hoe z h1 λ p hp => ?_, rfl, u6 hP⟩;rw [List.mem_singleton.mp hp];exact h2 (ofString "il", Value.int _ _) (.head _)
 · intro c u h tk hP F N
   tm_at "X";obtain ⟨a, tv⟩ := c;tm_at "V";have hP' : a = _ := hP;subst hP';exact done tv u h tk F N
theorem yG {r x1 y1 : Addr} {p q : Ws} {V : List (Addr × Obj)} {v : Tok} {news : List (Addr × Obj)} (hs : gY (ofString "self") = some (.ref x1)) (ho : gY (ofString "other") = some (.ref y1)) (hW : cj x1 p W) (hV : cj y1 q V) (hh : A.handled = none) (F : Fr gO env.locals s.heap gY) (N : News gO env.locals s.heap news) (hr : IsRange s.heap r 2 b 1 t u v) (h1 : 0 <= b) (h2 : b < 1000) (turn : ∀ I (j : Nat) t it h tk, (j : Int) < b - 2 -> (∀ p ∈ news, p.1 ≠ I) -> Fr gO env.locals h (λ y => if y = x then some (.int (2 + (j : Int) * 1) t) else gY y) -> News gO env.locals h ((I, it) :: news) -> wpAny (model prog w) A (execs body env) (UnrPost gO env.locals { s with heap := h, toks := tk } I it (λ m' news' => bu p (2 + (j : Int) * 1) < bu q (2 + (j : Int) * 1) /\ jm x [] m' gY /\ news' = news) Q) E { s with heap := h, toks := tk }) (done : ∀ u h tk, (∀ j < (b - 2).toNat, bu p (2 + (j : Int) * 1) < bu q (2 + (j : Int) * 1)) -> Fr gO env.locals h (λ y => if y = x then u else gY y) -> News gO env.locals h news -> wpAny (model prog w) A (execs orelse env) Q E { s with heap := h, toks := tk }) : wpAny (model prog w) A (pyIter (.ref r)) (λ it gQ => bB prog w A gO env x body orelse Q E it gQ) E s := by
 refine eE (σ := Unit) (rest := news) (λ _ => []) (λ _ => []) (λ (pre : List Nat) _ => ∀ j ∈ pre, bu p (2 + (j : Int) * 1) < bu q (2 + (j : Int) * 1)) () hh F N hr (small_one (by lia) (by lia) (by lia) (by lia)) (bc _ _) fC (λ _ h => absurd h List.not_mem_nil) ?_ ?_
 · intro I pre post c t it h tk e e2 hl hP off F N
   refine wpAny_mono (turn I pre.length t it h tk (Int.lt_toNat.mp hl) off F N) (λ f gQ k => jk (λ m' news' off' z => ?_) k) λ _ _ e => e
   tm_at "X";obtain ⟨hlt, hoe, rfl⟩ := z;tm_at "V";refine ⟨(), fC, hoe, rfl, λ j hj => ?_⟩;rcases List.mem_append.mp hj with hj | hj
   · exact hP j hj
   · rw [List.mem_singleton.mp hj]; exact hlt
 · intro c u h tk hP F N
   exact done u h tk (λ j hj => hP j (List.mem_range.mpr hj)) F N
end
theorem afw {p q : Ws} (h : q.n <= p.n) : cQ p q = false := by unfold cQ; rw [if_pos h]
theorem sy {p q : Ws} (h : ¬ q.n <= p.n) (h1 : (p.cnt.length : Int) <= 1) (h2 : (q.cnt.length : Int) <= 1) : cQ p q = decide (p.nt <= q.nt) := by
 unfold cQ; rw [if_neg h, if_pos ⟨by lia, by lia⟩]
theorem acZ {p q : Ws} (h : ¬ q.n <= p.n) (h1 : ¬ ((p.cnt.length : Int) <= 1 /\ (q.cnt.length : Int) <= 1)) (hb : b = (if aC q > aC p then aC q else aC p) + 1 + 1) (hj : (j : Int) < b - 2) (hge : bu q (2 + (j : Int) * 1) <= bu p (2 + (j : Int) * 1)) : cQ p q = false := by
 unfold cQ; rw [if_neg h, if_neg (by lia)];rw [List.all_eq_false];exact ⟨j, List.mem_range.mpr (Int.lt_toNat.mpr (hb ▸ hj)), by simp only [decide_eq_true_eq]; lia⟩
theorem ac0 {p q : Ws} (h : ¬ q.n <= p.n) (h1 : ¬ ((p.cnt.length : Int) <= 1 /\ (q.cnt.length : Int) <= 1)) (hb : b = (if aC q > aC p then aC q else aC p) + 1 + 1) (hall : ∀ j < (b - 2).toNat, bu p (2 + (j : Int) * 1) < bu q (2 + (j : Int) * 1)) : cQ p q = true := by
 unfold cQ; rw [if_neg h, if_neg (by lia)];rw [List.all_eq_true];intro j hj;simp only [decide_eq_true_eq];exact hall j (by rw [hb]; exact List.mem_range.mp hj)
section
variable {s : Shared} {Q : Flow -> Shared -> Prop}
theorem yH {S : List (Addr × Obj) -> Prop} (PV : α -> Value -> Prop) (J : List α -> (Str -> Option Value) -> List (Addr × Obj) -> Prop) {all : List α} (hS : ∀ pre m news, J pre m news -> S news) (turn : ∀ pre a post m news v it s', all = pre ++ a :: post -> J pre m news -> (∀ p ∈ news, p.1 ≠ I) -> Ok s' -> PV a v -> Fr gO env.locals s'.heap m -> News gO env.locals s'.heap ((I, it) :: news) -> wpAny (model prog w) A (assign tgt env v) (λ _ gQ => wpAny (model prog w) A (execs body env) (dj gO env.locals Ok I it (J (pre ++ [a])) Q) E gQ) E s') (done : ∀ m news s', J all m news -> Ok s' -> Fr gO env.locals s'.heap m -> News gO env.locals s'.heap news -> wpAny (model prog w) A (execs orelse env) Q E s') : ∀ post pre m news, all = pre ++ post -> J pre m news -> (∀ p ∈ news, p.1 ≠ I) -> fO prog w A E gO env tgt body orelse Q Ok S I (post.map PV) m news := by
 intro post
 induction post with
 | nil => intro pre m news e hj _; exact ⟨hS _ _ _ hj, λ s' ok F N => done m news s' (e.trans (List.append_nil pre) ▸ hj) ok F N⟩
 | cons a post ih =>
   intro pre m news e hj off;exact ⟨hS _ _ _ hj, λ v it s' ok hv F N => wpAny_mono (turn pre a post m news v it s' e hj off ok hv F N) (λ _ gJ k₁ => wpAny_mono k₁ (λ f gQ k => fB (λ m' n' off' z => ih (pre ++ [a]) m' n' (by rw [e, List.append_assoc]; rfl) z off') k) λ _ _ e => e) λ _ _ e => e⟩
end
theorem yI (l : List aL) (q : aL) : text (l ++ [q]) = text l ++ (q.f ++ q.p) := by
 have ee : ofString "" = Str.empty := by decide +kernel
 have e1 : ∀ a : Str, Str.empty ++ a = a := λ a => by show Str.append _ _ = _; simp [Str.append, Str.empty]
 have e2 : ∀ a : Str, a ++ Str.empty = a := λ a => by show Str.append _ _ = _; simp [Str.append, Str.empty]
 unfold text;rw [List.map_append, List.map_cons, List.map_nil, ee];show PySem.Builtin.Str.glued _ _ = PySem.Builtin.Str.glued _ _ ++ _;rw [PySem.StrLaws.glued_eq_join, PySem.StrLaws.glued_eq_join];generalize hx : q.f ++ q.p = a;have js : ∀ r : List Str, Str.join Str.empty (r ++ [a]) = Str.join Str.empty r ++ a := by
   intro r
   induction r with
   | nil => exact (e1 a).symm
   | cons y r ih =>
     cases r with
     | nil =>
       show y ++ Str.empty ++ a = y ++ a;rw [e2]
     | cons z r =>
       show y ++ Str.empty ++ Str.join Str.empty (z :: r ++ [a]) = (y ++ Str.empty ++ Str.join Str.empty (z :: r)) ++ a;rw [ih, e2, Str.append_assoc]
 exact js _
section
variable {s : Shared} {m : Str -> Option Value} {news : List (Addr × Obj)}
theorem ac1 {a : Addr} {vs : List Value} {n : Nat} {k : Int} {v : Value} {Q : Value -> Shared -> Prop} (N : News gO L s.heap news) (hm : (a, listOf vs.toArray n) ∈ news) (h0 : 0 <= k) (h1 : k < 2 ^ 63) (hx : vs[k.toNat]? = some v) (h : Q v s) (hs : subscripted slice false (.ref a) (.int k u) = operate [.ref a, .int k u] (getItem (.ref a) (.int k u))) (ht : ∀ r, letTemporaryGo value (.ref a) r = pure ()) : wpAny (model prog w) A (subscriptTail value slice (.ref a) (.int k u)) Q E s := by
 have hl : s.heap.IsList a vs.toArray := News.isList N hm;exact tail_any hl.typeIs slot_list_getitem.lookup (wpAny_getItem_list hl h0 h1 (by simpa using hx) h) hs
theorem gh (ns : List Int) : SeqAt.shaped (.list (ns.map PyData.int)) = true := by
 have h1 : PyData.canLayAll0 (ns.map PyData.int) = true := by
   induction ns with
   | nil => rfl
   | cons _ r ih => rw [List.map_cons, PyData.canLayAll0, ih]; rfl
 have h2 : PyData.depthAll (ns.map PyData.int) <= 1 := by
   clear h1
   induction ns with
   | nil => simp [PyData.depthAll]
   | cons _ r ih =>
     rw [List.map_cons, PyData.depthAll];simp only [PyData.depth];lia
 refine Bool.and_eq_true_iff.mpr ⟨h1, decide_eq_true ?_⟩;rw [PyData.depth];lia
end
noncomputable abbrev OkG (os₀ : OsState) (s : Shared) : Prop := AllBare s.gens /\ s.os = os₀
theorem okG (os₀ : OsState) : uZ (OkG os₀) := ⟨λ _ _ _ h => h⟩
theorem bQ {a b : List Value} {x y : List Str} (h : StrsAre a x) (k : StrsAre b y) : StrsAre (a ++ b) (x ++ y) := by
 induction h with
 | nil => exact k
 | cons z t _ ih => exact .cons z t ih
section
variable {s : Shared} {Q : Flow -> Shared -> Prop}
theorem aA {l : List (Addr × Obj)} (h : AllLt T l) : ∀ p ∈ l, p.1 ≠ T + 1 := λ p hp => Nat.ne_of_lt (Nat.lt_succ_of_lt (aN h p hp))
end
end
section
set_option tactic.hygienic false
open PySem.Spec PySem.Calls PyProof.Rows.LCg PyProof.Rows.LCt
theorem gj : ∀ {l : List (Addr × Obj)}, LCg.Off1 D l -> ∀ p ∈ l, p.1 ≠ D
 | [], _ => λ p hp => absurd hp List.not_mem_nil
 | q :: r, h => λ p hp => (List.mem_cons.mp hp).elim (λ e => by rw [e]; exact h.1) λ hp => gj h.2 p hp
inductive aU {α β : Type} (R : α -> β -> Prop) : List α -> List β -> Prop
 | nil : aU R [] []
 | cons {a : α} {b : β} {l : List α} {r : List β} : R a b -> aU R l r -> aU R (a :: l) (b :: r)
theorem aU.snoc {R : α -> β -> Prop} {a : α} {b : β} {l : List α} {r : List β} (x : aU R l r) (h : R a b) : aU R (l ++ [a]) (r ++ [b]) := by
 induction x with
 | nil => exact .cons h .nil
 | cons h1 _ ih => exact .cons h1 ih
theorem aU.length {R : α -> β -> Prop} {l : List α} {r : List β} (x : aU R l r) : l.length = r.length := by
 induction x with
 | nil => rfl
 | cons _ _ ih => exact congrArg Nat.succ ih
theorem aU.get {R : α -> β -> Prop} {l : List α} {r : List β} (x : aU R l r) : ∀ (i : Nat) a, l[i]? = some a -> ∃ b, r[i]? = some b /\ R a b := by
 induction x with
 | nil => exact λ i a h => nomatch h
 | cons h1 _ ih => exact λ i a h => match i, h with
   | 0, h => ⟨_, rfl, Option.some.inj h ▸ h1⟩
   | i + 1, h => ih i a h
theorem aU.symm {R : α -> β -> Prop} {l : List α} {r : List β} (x : aU R l r) : aU (λ b a => R a b) r l := by
 induction x with
 | nil => exact .nil
 | cons h1 _ ih => exact .cons h1 ih
theorem aU.get' {R : α -> β -> Prop} {l : List α} {r : List β} (x : aU R l r) (i : Nat) (b) (h : r[i]? = some b) : ∃ a, l[i]? = some a /\ R a b := x.symm.get i b h
noncomputable abbrev ahH {α : Type} (R : α -> Int -> Prop) (a : α) (v : Value) : Prop := ∃ z t, v = .int z t /\ R a z
theorem aU.ints {R : α -> Int -> Prop} {l : List α} {r : List Value} (x : aU (ahH R) l r) : ∃ zs, IntsAre r zs /\ aU R l zs := by
 induction x with
 | nil => exact ⟨[], .nil, .nil⟩
 | cons h _ ih => exact ih.elim λ zs k => h.elim λ z h => h.elim λ t h => ⟨z :: zs, h.1 ▸ .cons z t k.1, .cons h.2 k.2⟩
theorem aU.all {P : β -> Prop} {l : List α} {r : List β} (x : aU (λ _ b => P b) l r) : ∀ b ∈ r, P b := by
 induction x with
 | nil => exact λ _ h => absurd h List.not_mem_nil
 | cons h1 _ ih => exact λ b hb => (List.mem_cons.mp hb).elim (λ e => e ▸ h1) (ih b)
section
variable {s : Shared} {m : Str -> Option Value}
theorem cJ {oI oC oD : Obj} {S : List (Addr × Obj) -> Prop} {R R' : Value -> List (Addr × Obj) -> Prop} {y y' : Value} (k : ∀ n, R y n -> R' y' n) (x : CompEnd gO L m gJ I oI C oC D oD S R y gQ) : CompEnd gO L m gJ I oI C oC D oD S R' y' gQ :=
 Exists.imp (λ _ => Exists.imp λ _ => Exists.imp λ n => And.imp_right (And.imp_right (And.imp_right (And.imp_right (And.imp_right (k n)))))) x
theorem afx {VR : α -> Value -> Prop} {kp : α -> Bool} {all : List α} {i : Nat} {a : α} {y : Value} (ha : all[i]? = some a) (hy : aU VR ((all.take i).filter kp) ys) (e : kp a = true) (h : VR a y) : aU VR ((all.take (i + 1)).filter kp) (ys ++ [y]) := by
 rw [List.take_add_one, ha, List.filter_append, Option.toList_some, List.filter_cons_of_pos e]; exact hy.snoc h
theorem afy {VR : α -> Value -> Prop} {kp : α -> Bool} {all : List α} {i : Nat} {a : α} (ha : all[i]? = some a) (hy : aU VR ((all.take i).filter kp) ys) (e : kp a = false) : aU VR ((all.take (i + 1)).filter kp) ys := by
 rw [List.take_add_one, ha, List.filter_append, Option.toList_some, List.filter_cons_of_neg (by rw [e]; exact Bool.false_ne_true), List.filter_nil, List.append_nil]; exact hy
noncomputable abbrev ae1 {α : Type} (VR : α -> Value -> Prop) (kp : α -> Bool) (news : List (Addr × Obj)) (a : α) (b : Bool) (y : Value) (news' : List (Addr × Obj)) : Prop := kp a = b /\ (b = true -> VR a y) /\ news' = news
theorem kE {S : List (Addr × Obj) -> Prop} {Fin : List Value -> List (Addr × Obj) -> Prop} {all : List α} {n : Nat} {news : List (Addr × Obj)} (PV VR : α -> Value -> Prop) (kp : α -> Bool) (hv : ∀ i v, i < n -> P i v -> ∃ a, all[i]? = some a /\ PV a v) (hlen : all.length = n) (turn : ∀ a v I oI C oC D ys gW h tk (E' : Value -> Shared -> Prop), a ∈ all -> PV a v -> NsObj oC gW -> gW x = some v -> Fr gO L h m -> News gO L h ((I, oI) :: (C, oC) :: (D, lst ys) :: news) -> Off3 I C D news -> ((@Ne Nat I C) /\ (@Ne Nat I D) /\ (@Ne Nat C D)) -> wpAny (model prog w) A (isTrue ct (compEnvC scope cl C env) (eval ct (compEnvC scope cl C env))) (λ ok s' => if ok = true then wpAny (model prog w) A (eval elt (compEnvC scope cl C env)) (CompEnd gO L m { s with heap := h, toks := tk } I oI C oC D (lst ys) S (ae1 VR kp news a true)) E' s' else CompEnd gO L m { s with heap := h, toks := tk } I oI C oC D (lst ys) S (ae1 VR kp news a false) Value.none s') E' { s with heap := h, toks := tk }) (done : ∀ ys, aU VR (all.filter kp) ys -> Fin ys news) : ∀ k i ys, i + k = n -> aU VR ((all.take i).filter kp) ys -> CompRestT prog w A gO L m env ct elt x scope cl s S P Fin k i ys news := by
 intro k
 induction k with
 | zero => intro i ys e hy; exact CompRestT.zero (done ys (List.take_of_length_le (i := i) (l := all) (Nat.le_of_eq (hlen.trans e.symm)) ▸ hy))
 | succ k ih =>
   intro i ys e hy;refine CompRestT.succ λ v I oI C oC D gW h tk E' hP hC hx F N off ne => (hv i v (by lia) hP).elim λ a ha => ?_
   refine wpAny_mono (turn a v I oI C oC D ys gW h tk E' (List.mem_of_getElem? ha.1) ha.2 hC hx F N off ne) (λ ok s' q => ?_) λ _ _ e => e
   have nx : ∀ {ys n'}, aU VR ((all.take (i + 1)).filter kp) ys -> n' = news -> CompRestT prog w A gO L m env ct elt x scope cl s S P Fin k (i + 1) ys n' := λ hy en => en ▸ ih (i + 1) _ (by lia) hy
   cases ok with
   | true => exact wpAny_mono q (λ y s'' r => cJ (λ n z => nx (afx ha.1 hy z.1 (z.2.1 rfl)) z.2.2) r) λ _ _ e => e
   | false => exact cJ (y' := Value.none) (R' := λ _ n => CompRestT prog w A gO L m env ct elt x scope cl s S P Fin k (i + 1) ys n) (λ n z => nx (afy ha.1 hy z.1) z.2.2) q
theorem aU.intsF {f : α -> Int} {l : List α} (x : aU (λ a v => ∃ t, v = .int (f a) t) l ys) : IntsAre ys (l.map f) := by
 induction x with
 | nil => exact .nil
 | cons h _ ih => exact h.elim λ t e => e ▸ .cons _ t ih
theorem aU.strsAre {f : α -> Str} {l : List α} (x : aU (λ a v => ∃ t, v = .str (f a) t) l ys) : StrsAre ys (l.map f) := by
 induction x with
 | nil => exact .nil
 | cons h _ ih => exact h.elim λ t e => e ▸ .cons _ t ih
end
end
section
set_option tactic.hygienic false
open PySem.Spec PySem.Calls
section
variable {s : Shared} {Q : Flow -> Shared -> Prop}
end
end
section
set_option tactic.hygienic false
open PySem.Spec PySem.Calls PyProof.Rows.LCg PyProof.Rows.LCt
theorem yJ {all pre post : List α} {a : α} (e : all = pre ++ post) (ha : all[pre.length]? = some a) : ∃ post', post = a :: post' := by
 rw [e, List.getElem?_append_right (Nat.le_refl _), Nat.sub_self] at ha;cases post with
 | nil => cases ha
 | cons b post' => exact ⟨post', Option.some.inj ha ▸ rfl⟩
theorem yK {all pre post : List α} {n : Nat} (e : all = pre ++ post) (hl : all.length = n) (hk : pre.length + 0 = n) : all = pre := by
 rw [e, List.length_append, <- hk] at hl;rw [e, List.eq_nil_of_length_eq_zero (Nat.add_left_cancel hl), List.append_nil]
section
variable {s : Shared} {m : Str -> Option Value}
theorem mz {S : List (Addr × Obj) -> Prop} {Fin : List Value -> List (Addr × Obj) -> Prop} {all : List α} {n : Nat} (PV : α -> Value -> Prop) (J : List α -> List Value -> List (Addr × Obj) -> Prop) (hv : ∀ i v, i < n -> P i v -> ∃ a, all[i]? = some a /\ PV a v) (hlen : all.length = n) (turn : ∀ pre a post v I oI C oC D ys news gW h tk (E' : Value -> Shared -> Prop), all = pre ++ a :: post -> J pre ys news -> PV a v -> NsObj oC gW -> gW x = some v -> Fr gO L h m -> News gO L h ((I, oI) :: (C, oC) :: (D, lst ys) :: news) -> Off3 I C D news -> ((@Ne Nat I C) /\ (@Ne Nat I D) /\ (@Ne Nat C D)) -> wpAny (model prog w) A (eval elt (compEnvC scope cl C env)) (CompEnd gO L m { s with heap := h, toks := tk } I oI C oC D (lst ys) S (λ y news' => J (pre ++ [a]) (ys ++ [y]) news')) E' { s with heap := h, toks := tk }) (done : ∀ ys news, J all ys news -> Fin ys news) : ∀ k pre post ys news, all = pre ++ post -> pre.length + k = n -> J pre ys news -> CompRest prog w A gO L m env elt x scope cl s S P Fin k pre.length  ys news := by
 intro k
 induction k with
 | zero => intro pre post ys news e hk hj; exact CompRest.zero (done ys news (yK e hlen hk ▸ hj))
 | succ k ih =>
   intro pre post ys news e hk hj;refine CompRest.succ λ v I oI C oC D gW h tk E' hP hC hx F N off ne => ?_
   tm_at "X";obtain ⟨a, ha, hpv⟩ := hv pre.length v (by lia) hP;tm_at "V";have hpost := yJ e ha;tm_at "X";obtain ⟨post', rfl⟩ := hpost;tm_at "V";exact wpAny_mono (turn pre a post' v I oI C oC D ys news gW h tk E' e hj hpv hC hx F N off ne) (λ y gQ q => cJ (λ n hj' => List.length_append (as := pre) (bs := [a]) ▸ ih (pre ++ [a]) post' (ys ++ [y]) n (by rw [e, List.append_assoc]; rfl) (by rw [List.length_append, List.length_singleton]; lia) hj') q) λ _ _ e => e
theorem fG {S : List (Addr × Obj) -> Prop} {Fin : List Value -> List (Addr × Obj) -> Prop} {all : List α} {n : Nat} {news : List (Addr × Obj)} (PV VR : α -> Value -> Prop) (hv : ∀ i v, i < n -> P i v -> ∃ a, all[i]? = some a /\ PV a v) (hlen : all.length = n) (turn : ∀ a v I oI C oC D ys gW h tk (E' : Value -> Shared -> Prop), a ∈ all -> PV a v -> NsObj oC gW -> gW x = some v -> Fr gO L h m -> News gO L h ((I, oI) :: (C, oC) :: (D, lst ys) :: news) -> Off3 I C D news -> ((@Ne Nat I C) /\ (@Ne Nat I D) /\ (@Ne Nat C D)) -> wpAny (model prog w) A (eval elt (compEnvC scope cl C env)) (CompEnd gO L m { s with heap := h, toks := tk } I oI C oC D (lst ys) S (λ y news' => VR a y /\ news' = news)) E' { s with heap := h, toks := tk }) (done : ∀ ys, aU VR all ys -> Fin ys news) : CompRest prog w A gO L m env elt x scope cl s S P Fin n 0 [] news :=
 mz PV (λ pre ys nw => aU VR pre ys /\ nw = news) hv hlen (λ pre a post v I oI C oC D ys nw gW h tk E' e hf hp hC hx F N off ne =>
   wpAny_mono (turn a v I oI C oC D ys gW h tk E' (by rw [e]; exact List.mem_append_right _ (.head _)) hp hC hx F (hf.2 ▸ N) (hf.2 ▸ off) ne) (λ y gQ q => cJ (λ n z => ⟨hf.1.snoc z.1, z.2⟩) q) λ _ _ e => e) (λ ys nw hj => hj.2 ▸ done ys hj.1) n [] all [] news rfl (Nat.zero_add _) ⟨.nil, rfl⟩
theorem eG {Fin : Shared -> List Value -> List (Addr × Obj) -> Prop} {r : Addr} {a : Int} {v : Tok} {n : Nat} {news : List (Addr × Obj)} (VR : Nat -> Value -> Prop) (hh : A.handled = none) (F : Fr gO L gJ.heap m) (N : News gO L gJ.heap news) (hr : IsRange gJ.heap r a b 1 t u v) (hsm : Builtin.Range.small a b 1 = true) (hn : Builtin.Range.rangeSize a b 1 = ((n : Nat) : Int)) (hsz : n <= sizeLine) (turn : ∀ g (i : Nat) t I oI C oC D ys gW h tk (E' : Value -> Shared -> Prop), i < n -> NsObj oC gW -> gW x = some (.int (a + (i : Int)) t) -> Fr gO L h m -> News gO L h ((I, oI) :: (C, oC) :: (D, lst ys) :: news) -> Off3 I C D news -> ((@Ne Nat I C) /\ (@Ne Nat I D) /\ (@Ne Nat C D)) -> wpAny (model prog w) A (eval elt (compEnvC scope cl C env)) (CompEnd gO L m { { gJ with heap := g } with heap := h, toks := tk } I oI C oC D (lst ys) (λ _ => True) (λ y news' => VR i y /\ news' = news)) E' { { gJ with heap := g } with heap := h, toks := tk }) (done : ∀ g ys, aU VR (List.range n) ys -> Fin { gJ with heap := g } ys news) : CompSrc prog w A gO L m env elt x scope cl Fin (.ref r) gJ := by
 refine CompSrc.range hh F N hr hsm hn hsz λ g => ?_
 exact fG (all := List.range n) (n := n) (λ i v => i < n /\ ∃ t, v = .int (a + (i : Int)) t) VR (λ i v hi hP => ⟨i, List.getElem?_range hi, hi, hP⟩) List.length_range
   (λ i v I oI C oC D ys gW h tk E' _ hp hC hx F' N' off ne => hp.2.elim λ t e => turn g i t I oI C oC D ys gW h tk E' hp.1 hC (hx.trans (congrArg some e)) F' N' off ne) (done g)
theorem fH {Fin : Shared -> List Value -> List (Addr × Obj) -> Prop} {its : List Value} {k : Nat} {news : List (Addr × Obj)} {all : List α} (PV : α -> Value -> Prop) (VR : α -> Value -> Prop) (hh : A.handled = none) (F : Fr gO L gJ.heap m) (N : News gO L gJ.heap news) (hm : (ax, listOf its.toArray k) ∈ news) (hall : aU PV all its) (hsz : its.length <= 1000) (turn : ∀ g (a : α) v I oI C oC D ys gW h tk (E' : Value -> Shared -> Prop), a ∈ all -> PV a v -> NsObj oC gW -> gW x = some v -> Fr gO L h m -> News gO L h ((I, oI) :: (C, oC) :: (D, lst ys) :: news) -> Off3 I C D news -> ((@Ne Nat I C) /\ (@Ne Nat I D) /\ (@Ne Nat C D)) -> wpAny (model prog w) A (eval elt (compEnvC scope cl C env)) (CompEnd gO L m { { gJ with heap := g } with heap := h, toks := tk } I oI C oC D (lst ys) (SrcAt gO ax its.toArray) (λ y news' => VR a y /\ news' = news)) E' { { gJ with heap := g } with heap := h, toks := tk }) (done : ∀ g ys, aU VR all ys -> Fin { gJ with heap := g } ys news) : CompSrc prog w A gO L m env elt x scope cl Fin (.ref ax) gJ := by
 refine CompSrc.ledger hh F N hm (by rw [List.size_toArray, sizeLine_eq]; lia) λ g => ?_
 have hl : all.length = its.toArray.size := by rw [List.size_toArray]; exact hall.length
 exact fG (all := all) (n := its.toArray.size) PV VR (λ i v _ hP => hall.get' i v (List.getElem?_toArray ▸ hP)) hl (turn g) (done g)
end
theorem sE {ns : List Int} {vs : List Value} (hi : IntsAre vs ns) : ∀ v ∈ vs, ∃ z t, v = .int z t := by
 induction hi with
 | nil => exact λ v h => absurd h List.not_mem_nil
 | cons n t h ih => exact λ v hv => (List.mem_cons.mp hv).elim (λ e => ⟨n, t, e⟩) (ih v)
theorem mC : ∀ (l : List Value), (∀ v ∈ l, ∃ z t, v = .int z t) -> ∃ ms, IntsAre l ms
 | [], _ => ⟨[], .nil⟩
 | v :: r, h => by
   obtain ⟨z, t, rfl⟩ := h v (.head _);obtain ⟨ms, hm⟩ := mC r λ v hv => h v (.tail _ hv)
   exact ⟨z :: ms, .cons z t hm⟩
theorem yL {ns : List Int} {vs : List Value} (hi : IntsAre vs ns) (lo up st : Option Int) : ∃ ms, IntsAre (slicePick vs.toArray lo up st).toList ms := by
 refine mC _ λ v hv => ?_
 unfold slicePick at hv;obtain ⟨i, _, hi'⟩ := List.mem_filterMap.mp hv;have : vs[i]? = some v := by simpa using hi'
 exact sE hi v (List.mem_of_getElem? this)
section
variable {s : Shared} {m : Str -> Option Value}
theorem aas {k : Nat} {vs : List Value} {ns : List Int} {up st : Option Int} {news : List (Addr × Obj)} {Q : Value -> Shared -> Prop} (F : Fr gO L s.heap m) (N : News gO L s.heap news) (hh : A.handled = none) (hm : (D, listOf (slicePick vs.toArray lo up st).toList.toArray k) ∈ news) (hi : IntsAre vs ns) (h : ∀ z h' tk t', Fr gO L h' m -> News gO L h' news -> Q (.int z t') { s with heap := h', toks := tk }) : wpAny (model prog w) A (call (.builtin "sum") [.ref D]) Q E s := by
 obtain ⟨ms, hms⟩ := yL hi lo up st;exact LSm.sum_ints F N hh (News.isList N hm) hms λ h' tk t' F' N' => h _ h' tk t' F' N'
end
end
section
set_option tactic.hygienic false
open PySem.Spec PySem.Calls
theorem gk {m : Str -> Option Value} (h : aB m ps) : kstB m ps = m := by
 funext z;exact kstB_eq h λ _ => rfl
noncomputable def afz : List Int := [173, 847, 6150, 6155, 6156, 6157, 8203, 8204, 8205, 8288, 65279, 65024, 65025, 65026, 65027, 65028, 65029, 65030, 65031, 65032, 65033, 65034, 65035, 65036, 65037, 65038, 65039]
noncomputable def fU (c : Int) : Bool := afz.contains c
noncomputable def mD (P : Params) : List (Int × Value) := match (lM P).data with
 | .set es _ _ => es.toList
 | _ => []
theorem aat (prog : Program) (w : World) : ElemsOf (intKind prog w) (mD w.params) := by
 have h : ∀ e ∈ mD w.params, (∃ k t, e.2 = Value.int k t /\ e.1 = hashInt k) /\ e.2.scannable = true := by
   have : (mD w.params).all (λ e => match e.2 with | .int k _ => e.1 == hashInt k && e.2.scannable | _ => false) = true := by kernel_rfl
   intro e he;have := List.all_eq_true.mp this e he;revert this;rcases e with ⟨a, v⟩
   cases v <;> simp_all
 intro e he;obtain ⟨⟨k, t, h1, h2⟩, h3⟩ := h e he;exact ⟨⟨k, by rw [h1]; simp [intKind, Value.isInt], h2⟩, h3⟩
theorem aau (P : Params) : (mD P).toArray.size < scanBound := by
 have e : (mD P).toArray.size = 27 := by kernel_rfl
 rw [e]; decide
theorem aav (X : (K1 w.params).In h) : h.SetOf (intKind prog w) 190 fU 27 := by
 have hd : (lM w.params).data = .set (mD w.params).toArray 29 (match (lM w.params).data with | .set _ _ t => t | _ => .fresh 0 0 true) := by kernel_rfl
 refine ⟨lM w.params, _, _, _, X 190 _ (by kernel_rfl), ⟨rfl, rfl, rfl⟩, hd, ?_, λ k => ?_, aau w.params, by kernel_rfl, by kernel_rfl⟩
 · exact aat prog w
 · have hk : (mD w.params).map (λ e => e.1) = [65024, 65025, 65026, 65027, 65028, 65029, 6150, 65030, 65031, 65032, 65033, 6155, 6156, 6157, 8203, 8204, 8205, 65034, 65035, 65036, 65037, 65038, 65039, 173, 847, 8288, 65279] := by kernel_rfl
   have hv : ∀ e ∈ mD w.params, ∃ t, e.2 = Value.int e.1 t := by
     have : (mD w.params).all (λ e => match e.2 with | .int k _ => e.1 == k | _ => false) = true := by kernel_rfl
     intro e he;have := List.all_eq_true.mp this e he;revert this;rcases e with ⟨a, v⟩
     cases v <;> simp_all
   have hm : fU k = true ↔ k ∈ (mD w.params).map (λ e => e.1) := by
     rw [hk];unfold fU;rw [List.contains_iff_mem];exact (List.isPerm_iff.mp (by decide)).mem_iff
   rw [hm];constructor
   · intro h
     obtain ⟨e, he, rfl⟩ := List.mem_map.mp h;obtain ⟨t, ht⟩ := hv e he;exact ⟨e, by simpa using he, by rw [ht]; simp [intKind, Value.isInt]⟩
   · rintro ⟨e, he, h⟩
     have he : e ∈ mD w.params := by simpa using he
     obtain ⟨t, ht⟩ := hv e he;rw [ht] at h;have : e.1 = k := by simpa [intKind, Value.isInt] using h
     exact List.mem_map.mpr ⟨e, he, this⟩
section
variable {s : Shared} {m : Str -> Option Value}
theorem ahI {Q : Value -> Shared -> Prop} {k : Int} (F : Fr gO L s.heap m) (X : (K1 w.params).In gO) (h : Q (.bool (fU k)) { s with toks := s.toks + 1 }) : wpAny (model prog w) A (compareOp .In (.int k t) (.ref 190)) Q E s :=
 wpAny_inSet_of (knd := intKind prog w) (k := k) (by simp [intKind, Value.isInt]) rfl (aav (Frag.In.keeps X F.keep)) h
end
inductive fV : List DictEntry -> List (Int × Str) -> Prop
 | nil : fV [] []
 | cons {x : Int × Str} {t u : Tok} {es : List DictEntry} {l : List (Int × Str)} : fV es l -> fV (⟨x.1, .int x.1 t, .str x.2 u⟩ :: es) (x :: l)
theorem aaw : ∀ (l : List (Int × Str)) (t : Nat), fV (aY t l) l
 | [], _ => .nil
 | _ :: r, t => .cons (aaw r (t + 3))
theorem aax : ∀ (l : List (Int × Str)) (t : Nat), fV (bM t l) l
 | [], _ => .nil
 | _ :: r, t => .cons (aax r (t + 2))
theorem fV.append {fs : List DictEntry} {l r : List (Int × Str)} (h : fV es l) (k : fV fs r) : fV (es ++ fs) (l ++ r) := by
 induction h with
 | nil => exact k
 | cons _ ih => exact .cons ih
noncomputable def ac2 (es : List DictEntry) : List (Int × Value) := es.map λ e => (e.hash, e.val)
theorem fV.pairs {l : List (Int × Str)} (prog : Program) (w : World) (h : fV es l) : Pairs (intKind prog w) es (ac2 es) := by
 induction h with
 | nil => exact .nil
 | cons _ ih => exact .cons (by simp [intKind, Value.isInt]) rfl ih
theorem fV.flat {l : List (Int × Str)} (h : fV es l) : PyProof.V.FlatPairs PyData.int (ac2 es) (l.map λ x => (PyData.int x.1, PyData.str x.2)) := by
 induction h with
 | nil => exact .nil
 | cons _ ih => exact .cons (PyProof.V.Flat.str _ _) ih
theorem fV.keys {l : List (Int × Str)} (prog : Program) (w : World) (h : fV es l) (hh : ∀ x ∈ l, hashInt x.1 = x.1) : ∀ e ∈ es, ∃ k, (intKind prog w).is k e.key = true /\ e.hash = (intKind prog w).hash k := by
 induction h with
 | nil => exact λ e he => absurd he List.not_mem_nil
 | @cons x t u es l _ ih =>
   intro e he;rcases List.mem_cons.mp he with rfl | he
   · exact ⟨x.1, by simp [intKind, Value.isInt], (hh x (.head _)).symm⟩
   · exact ih (λ y hy => hh y (.tail _ hy)) e he
theorem fV.fsts {l : List (Int × Str)} (h : fV es l) : (ac2 es).map (·.1) = l.map (·.1) := by
 induction h with
 | nil => rfl
 | cons _ ih => exact congrArg _ ih
theorem mF : ∀ {l : List (Int × Str)} {b : Int}, dK b l = true -> (∀ x ∈ l, b < x.1) /\ (l.map (·.1)).Nodup
 | [], _, _ => ⟨λ _ h => absurd h List.not_mem_nil, List.nodup_nil⟩
 | x :: r, b, h => by
   simp only [dK, Bool.and_eq_true, decide_eq_true_eq] at h;obtain ⟨h1, h2⟩ := h;obtain ⟨k1, k2⟩ := mF h2;refine ⟨λ y hy => ?_, ?_⟩
   · rcases List.mem_cons.mp hy with rfl | hy
     · exact h1
     · exact Int.lt_trans h1 (k1 y hy)
   · rw [List.map_cons, List.nodup_cons]
     refine ⟨λ hm => ?_, k2⟩;obtain ⟨y, hy, e⟩ := List.mem_map.mp hm;have := k1 y hy;lia
theorem ac3 : b3.all (λ x => hashInt x.1 == x.1) = true := by decide +kernel
theorem aay (X : (K1 w.params).In h) : IntTab prog w h 201 (b3.map λ x => (PyData.int x.1, PyData.str x.2)) := by
 have L : fV (aY 473 (b3.take 646) ++ bM 2411 (b3.drop 646)) b3 := by
   have := (aaw (b3.take 646) 473).append (aax (b3.drop 646) 2411)
   rwa [List.take_append_drop] at this
 refine ⟨by decide, ac2 (aY 473 (b3.take 646) ++ bM 2411 (b3.drop 646)), ⟨wK w.params, _, _, X 201 _ (by kernel_rfl), ⟨rfl, rfl, rfl⟩, rfl, ?_, L.pairs prog w, ?_⟩, L.flat⟩
 · intro e he
   exact L.keys prog w (λ x hx => by simpa using List.all_eq_true.mp ac3 x hx) e (by simpa using he)
 · rw [L.fsts]; exact (mF wL).2
noncomputable def sG (c : Int) : Option Str := (b3.find? λ x => x.1 == c).map (·.2)
section
variable {s : Shared} {m : Str -> Option Value}
theorem afA {Q : Value -> Shared -> Prop} {k : Int} (F : Fr gO L s.heap m) (X : (K1 w.params).In gO) (h1 : ∀ x u, sG k = some x -> Q (.str x u) { s with toks := s.toks + 1 }) (h2 : sG k = none -> Q .none { s with toks := s.toks + 1 }) : wpAny (model prog w) A (call (.builtin "dict.get") [.ref 201, .int k t]) Q E s := by
 have e : ∀ l : List (Int × Str), Spec.lookup (.int k) (l.map λ x => (PyData.int x.1, PyData.str x.2)) = ((l.find? λ x => x.1 == k).map (·.2)).map PyData.str := by
   intro l
   induction l with
   | nil => rfl
   | cons x r ih =>
     rw [List.map_cons, List.find?_cons];unfold Spec.lookup;rw [PyProof.V.same_int]
     by_cases hk : x.1 = k
     · rw [if_pos (by simp [hk]), show (x.1 == k) = true from by simp [hk]]; rfl
     · rw [if_neg (by simp [hk]), show (x.1 == k) = false from by simp [hk]]; exact ih
 refine call_get1_intTab (aay (Frag.In.keeps X F.keep)) λ v hv => ?_
 rw [e] at hv;unfold sG at h1 h2;cases hx : (b3.find? λ x => x.1 == k).map (·.2) with
 | none => rw [hx] at hv; rw [PyProof.V.Flat.none_inv hv]; exact h2 hx
 | some x =>
   rw [hx] at hv;obtain ⟨t, rfl⟩ := PyProof.V.Flat.str_inv hv;exact h1 _ _ hx
end
noncomputable def cB (c : Nat) : Str := match sG c with
 | some x => x
 | none => Txt.lower ⟨#[c]⟩
theorem vd {c : Nat} (h : sG c = some x) : cB c = x := by unfold cB; rw [h]
theorem vf {c : Nat} (h : sG c = none) : cB c = Txt.lower ⟨#[c]⟩ := by unfold cB; rw [h]
theorem sH : ∀ xs ys : List Int, PyData.eqvAll (xs.map PyData.int) (ys.map PyData.int) = decide (xs = ys)
 | [], [] => by simp [PyData.eqvAll]
 | [], _ :: _ => by simp [PyData.eqvAll]
 | _ :: _, [] => by simp [PyData.eqvAll]
 | x :: xs, y :: ys => by
   rw [List.map_cons, List.map_cons, PyData.eqvAll, sH xs ys]
   by_cases h : x = y <;> by_cases k : xs = ys <;> simp [PyData.eqv, h, k]
theorem iG : ∀ ns : List Int, PyData.depthAll (ns.map PyData.int) <= 1
 | [] => by simp [PyData.depthAll]
 | _ :: r => by
   have := iG r;rw [List.map_cons, PyData.depthAll];simp only [PyData.depth];lia
theorem mG : ∀ ns : List Int, PyData.canLayAll0 (ns.map PyData.int) = true
 | [] => rfl
 | _ :: r => by rw [List.map_cons, PyData.canLayAll0, mG r]; rfl
theorem kI (ns : List Int) (b : Int) : SeqAt.shaped (.tuple [.tuple (ns.map PyData.int), .int b]) = true := by
 tm_at "bF"
 · simp [PyData.canLay0, PyData.canLayAll0, mG]
 · have := iG ns
   simp [PyData.depth, PyData.depthAll];lia
section
variable {s : Shared} {news : List (Addr × Obj)}
theorem ac4 {a b : Addr} {vs : List Value} {xs ys : List Int} {x y : Int} {Q : Value -> Shared -> Prop} (N : News gO L s.heap news) (h1 : (a, bf (.ref a2) (.int x t)) ∈ news) (h2 : (a2, ({ cls := .type "tuple", data := .seq vs.toArray } : Obj)) ∈ news) (hi : IntsAre vs xs) (k1 : (b, bf (.ref b2) (.int y u)) ∈ news) (k2 : (b2, ({ cls := .type "tuple", data := .seq us.toArray } : Obj)) ∈ news) (hj : IntsAre us ys) (hu : A.units + 64 < cLine) (h : Q (.bool (decide (xs = ys /\ x = y))) s) : wpAny (model prog w) A (compareOp .Eq (.ref a) (.ref b)) Q E s := by
 refine eq_dataH (Reads.tuple (N.get h1) rfl rfl (.cons (Reads.tuple (N.get h2) rfl rfl (IntsAre.reads _ hi)) (.cons (.int _ _) .nil))) (Reads.tuple (N.get k1) rfl rfl (.cons (Reads.tuple (N.get k2) rfl rfl (IntsAre.reads _ hj)) (.cons (.int _ _) .nil))) (kI xs x) (kI ys y) hu ?_;have e : PyData.eqv (.tuple [.tuple (xs.map PyData.int), .int x]) (.tuple [.tuple (ys.map PyData.int), .int y]) = decide (xs = ys /\ x = y) := by
   rw [PyData.eqv, PyData.eqvAll, PyData.eqv, sH, PyData.eqvAll, PyData.eqvAll]
   by_cases h : x = y <;> by_cases k : xs = ys <;> simp [PyData.eqv, h, k]
 rw [e]; exact h
end
noncomputable def bK : List Str -> (Str -> Option Value) -> (Str -> Option Value) -> Str -> Option Value
 | [], gY, _ => gY
 | a :: r, gY, u => λ y => if y = a then u y else bK r gY u y
noncomputable def jo (ns : List Str) (m gY : Str -> Option Value) : Prop := ∀ z, z ∉ ns -> m z = gY z
theorem bT {ns : List Str} {m : Str -> Option Value} : jo ns m m := λ _ _ => rfl
theorem gr {ns : List Str} {m : Str -> Option Value} {a : Str} {v : Option Value} (ha : a ∈ ns) (h : jo ns m gY) : jo ns (λ y => if y = a then v else m y) gY := λ z hz => by
 show (if z = a then v else m z) = gY z;have hne : z ≠ a := λ e => hz (by rw [e]; exact ha)
 rw [if_neg hne]; exact h z hz
theorem jq {ns : List Str} {m u : Str -> Option Value} {a : Str} (ha : a ∈ ns) (h : jo ns m gY) : jo ns (λ y => if y = a then u y else m y) gY := λ z hz => by
 show (if z = a then u z else m z) = gY z;have hne : z ≠ a := λ e => hz (by rw [e]; exact ha)
 rw [if_neg hne]; exact h z hz
theorem qz : ∀ {ns : List Str} {gY u : Str -> Option Value} {z : Str}, z ∉ ns -> bK ns gY u z = gY z
 | [], _, _, _, _ => rfl
 | a :: r, gY, u, z, h => by
   show (if z = a then u z else bK r gY u z) = gY z;have hne : z ≠ a := λ e => h (by rw [e]; exact .head _)
   rw [if_neg hne];exact qz λ k => h (.tail _ k)
theorem aaz : ∀ {ns : List Str} {gY u : Str -> Option Value} {z : Str}, z ∈ ns -> bK ns gY u z = u z
 | [], _, _, _, h => absurd h List.not_mem_nil
 | a :: r, gY, u, z, h => by
   show (if z = a then u z else bK r gY u z) = u z
   by_cases e : z = a
   · rw [if_pos e]
   · rw [if_neg e]
     rcases List.mem_cons.mp h with k | k
     · exact absurd k e
     · exact aaz k
theorem mH {ns : List Str} {m : Str -> Option Value} (h : jo ns m gY) : m = bK ns gY m := by
 funext z
 by_cases k : z ∈ ns
 · rw [aaz k]
 · rw [qz k]; exact h z k
section
variable {s : Shared} {Q : Flow -> Shared -> Prop}
noncomputable abbrev JC {α σ : Type} (ns : List Str) (gY : Str -> Option Value) (Led : σ -> List (Addr × Obj)) (P : List α -> σ -> Prop) (pre : List α) (m : Str -> Option Value) (news : List (Addr × Obj)) : Prop := jo ns m gY /\ ∃ c : σ, P pre c /\ news = Led c
theorem aaA {S : List (Addr × Obj) -> Prop} (PV : α -> Value -> Prop) (ns : List Str) (gY : Str -> Option Value) (Led : σ -> List (Addr × Obj)) (P : List α -> σ -> Prop) {all : List α} {m : Str -> Option Value} {news : List (Addr × Obj)} (hS : ∀ pre c, P pre c -> S (Led c)) (turn : ∀ pre a post v c u it s', all = pre ++ a :: post -> P pre c -> (∀ p ∈ Led c, p.1 ≠ I) -> Ok s' -> PV a v -> Fr gO env.locals s'.heap (bK ns gY u) -> News gO env.locals s'.heap ((I, it) :: Led c) -> wpAny (model prog w) A (assign tgt env v) (λ _ gQ => wpAny (model prog w) A (execs body env) (dj gO env.locals Ok I it (JC ns gY Led P (pre ++ [a])) Q) E gQ) E s') (done : ∀ c u s', P all c -> Ok s' -> Fr gO env.locals s'.heap (bK ns gY u) -> News gO env.locals s'.heap (Led c) -> wpAny (model prog w) A (execs orelse env) Q E s') (hj : JC ns gY Led P [] m news) (off : ∀ p ∈ news, p.1 ≠ I) : fO prog w A E gO env tgt body orelse Q Ok S I (all.map PV) m news := by
 refine yH PV (JC ns gY Led P) (λ pre m news h => by obtain ⟨_, c, hp, rfl⟩ := h; exact hS pre c hp) ?_ ?_ all [] m news rfl hj off
 · rintro pre a post m' news' v it s' e ⟨ho, c, hp, rfl⟩ off' ok hv F N
   rw [mH ho] at F;exact turn pre a post v c _ it s' e hp off' ok hv F N
 · rintro m' news' s' ⟨ho, c, hp, rfl⟩ ok F N
   rw [mH ho] at F;exact done c _ s' hp ok F N
theorem gw {r : Addr} {a : Int} {v : Tok} {n : Nat} (ns : List Str) (Led : σ -> List (Addr × Obj)) (P : List Nat -> σ -> Prop) {gY : Str -> Option Value} (c₀ : σ) (hh : A.handled = none) (F : Fr gO env.locals s.heap gY) (N : News gO env.locals s.heap (Led c₀)) (hOk : uZ Ok) (ok : Ok s) (hr : IsRange s.heap r a b 1 t u v) (hsm : Builtin.Range.small a b 1 = true) (hn : Builtin.Range.rangeSize a b 1 = ((n : Nat) : Int)) (hp : P [] c₀) (hgo : ∀ it v, letOwnedTupleGo tgt it v = pure ()) (turn : ∀ I pre (i : Nat) post t c u it s', List.range n = pre ++ i :: post -> i < n -> pre = List.range i -> P pre c -> (∀ p ∈ Led c, p.1 ≠ I) -> Ok s' -> Fr gO env.locals s'.heap (bK ns gY u) -> News gO env.locals s'.heap ((I, it) :: Led c) -> wpAny (model prog w) A (assign tgt env (.int (a + (i : Int)) t)) (λ _ gQ => wpAny (model prog w) A (execs body env) (dj gO env.locals Ok I it (JC ns gY Led P (pre ++ [i])) Q) E gQ) E s') (done : ∀ c u s', P (List.range n) c -> Ok s' -> Fr gO env.locals s'.heap (bK ns gY u) -> News gO env.locals s'.heap (Led c) -> wpAny (model prog w) A (execs orelse env) Q E s') : wpAny (model prog w) A (pyIter (.ref r)) (λ it gQ => eX prog w A gO env tgt body orelse Q E it gQ) E s := by
 refine wpAny_pyIter_range hr hsm ?_;let PV : Nat -> Value -> Prop := λ i v => ∃ t, v = .int (a + (i : Int)) t
 have hlen' : ((List.range n).map PV).length = n := by simp
 refine ⟨s.heap.objs.size, [s.heap.objs.size], (List.range n).map PV, _, _, gY, Led c₀, Ok, λ _ => True, rfl, hlen'.symm ▸ LCg.range_walks hh a n, ?_, ?_, ?_, ?_, Nat.ne_of_lt F.ns.lt, next_is_new F, λ p hp => Nat.ne_of_lt (Heap.lt_size (N p hp).1), ?_, hOk, hOk.heap _ _ _ ok, F.keeps λ _ _ e => Heap.get?_push_of_some _ e, N.grown λ _ _ e => Heap.get?_push_of_some _ e, ?_⟩
 · intro i v hi hlt
   rw [hlen'] at hlt;exact ⟨PV i, by rw [List.getElem?_map, List.getElem?_range hlt]; rfl, hi⟩
 · intro i h st
   exact ⟨_, st⟩
 · intro i h h' o nw st e e' kp N' hS'
   exact LCg.range_st (h₀ := gO) (L := env.locals) i h h' o nw st e e' kp N' hS'
 · intro i v s' E' Q' st hi q
   rw [hgo];exact wpAny_pure q
 · show IsRangeIter _ _ _ _ _
   rw [hn]
   simpa using Heap.get?_push_size _ rfl
 · refine aaA PV ns gY Led P (λ _ _ _ => trivial) ?_ done ⟨bT, c₀, hp, rfl⟩ λ p hp => Nat.ne_of_lt (Heap.lt_size (N p hp).1)
   intro pre i post v c u it s' e hp off' ok' hr9_12 F' N';tm_at "X";obtain ⟨t, rfl⟩ := hr9_12;tm_at "V";have hl := congrArg List.length e;simp only [List.length_range, List.length_append, List.length_cons] at hl;have hi : i = pre.length := by
     have := congrArg (·[pre.length]?) e;simp [List.getElem?_range (show pre.length < n by lia)] at this;lia
   have hpre : pre = List.range i := by
     have := congrArg (List.take pre.length) e;rw [List.take_left, List.take_range, Nat.min_eq_left (by lia)] at this;rw [hi]; exact this.symm
   exact turn _ pre i post t c u it s' e (by lia) hpre hp off' ok' F' N'
end
noncomputable abbrev ai1 (l : Ln) : Str := l.v1 ++ l.v2
section
variable {s : Shared} {Q : Flow -> Shared -> Prop}
end
end
section
open PySem.Spec PySem.Calls
noncomputable def jl (c : Nat) : List (List Nat) -> List Nat
 | [] => []
 | [x] => x
 | x :: y :: r => x ++ c :: jl c (y :: r)
theorem sJ {c : Nat} : ∀ {a b X Y : List Nat}, c ∉ a -> c ∉ b -> a ++ c :: X = b ++ c :: Y -> a = b /\ X = Y
 | [], [], X, Y, _, _, e => by simp at e; exact ⟨rfl, e⟩
 | [], z :: b, X, Y, _, h, e => by simp at e; exact absurd (e.1 ▸ List.mem_cons_self) h
 | z :: a, [], X, Y, h, _, e => by simp at e; exact absurd (e.1 ▸ List.mem_cons_self) h
 | z :: a, z' :: b, X, Y, h1, h2, e => by
   simp at e;obtain ⟨rfl, e⟩ := e;obtain ⟨rfl, rfl⟩ := sJ (λ k => h1 (.tail _ k)) (λ k => h2 (.tail _ k)) e;exact ⟨rfl, rfl⟩
theorem wV {c : Nat} : ∀ {A B : List (List Nat)}, A ≠ [] -> B ≠ [] -> (∀ a ∈ A, c ∉ a) -> (∀ b ∈ B, c ∉ b) -> jl c A = jl c B -> A = B
 | [], _, h, _, _, _, _ => absurd rfl h
 | _, [], _, h, _, _, _ => absurd rfl h
 | [a], [b], _, _, _, _, e => by rw [show a = b from e]
 | [a], b :: b' :: r, _, _, h1, _, e => by
   have e' : a = b ++ c :: jl c (b' :: r) := e;exact absurd (e' ▸ List.mem_append.mpr (.inr (.head _))) (h1 a (.head _))
 | a :: a' :: r, [b], _, _, _, h2, e => by
   have e' : a ++ c :: jl c (a' :: r) = b := e;exact absurd (e' ▸ List.mem_append.mpr (.inr (.head _))) (h2 b (.head _))
 | a :: a' :: r, b :: b' :: r', _, _, h1, h2, e => by
   have e' : a ++ c :: jl c (a' :: r) = b ++ c :: jl c (b' :: r') := e;obtain ⟨rfl, e2⟩ := sJ (h1 a (.head _)) (h2 b (.head _)) e';rw [wV (List.cons_ne_nil _ _) (List.cons_ne_nil _ _) (λ x hx => h1 x (.tail _ hx)) (λ x hx => h2 x (.tail _ hx)) e2]
theorem eY (a b : Str) : (a ++ b).cps.toList = a.cps.toList ++ b.cps.toList := by
 show (a.cps ++ b.cps).toList = _;rw [Array.toList_append]
theorem cu (c : Nat) : ∀ xs : List Str, (Str.join ⟨#[c]⟩ xs).cps.toList = jl c (xs.map λ x => x.cps.toList)
 | [] => rfl
 | [x] => rfl
 | x :: y :: r => by
   show ((x ++ ⟨#[c]⟩) ++ Str.join ⟨#[c]⟩ (y :: r)).cps.toList = _;rw [eY, eY, cu c (y :: r)];show (x.cps.toList ++ [c]) ++ _ = x.cps.toList ++ c :: _;rw [List.append_assoc]; rfl
theorem eZ (sep : Str) (l : List Str) : Txt.join sep l = Str.join sep l := by
 have := join_plain_closes sep l;exact eq_of_beq this
theorem qC {ys : List Str} (h : xs.map (λ x => x.cps.toList) = ys.map λ x => x.cps.toList) : xs = ys := by
 induction xs generalizing ys with
 | nil => cases ys with
   | nil => rfl
   | cons => simp at h
 | cons a r ih => cases ys with
   | nil => simp at h
   | cons b r' =>
     simp at h;rw [ih (by simpa using h.2)]
     congr 1
     exact Str.ext' (Array.toList_inj.mp (congrArg Array.toList h.1 |> λ q => by simpa using q))
theorem vg {c : Nat} (hn : xs ≠ []) (hf : ∀ x ∈ xs, c ∉ x.cps.toList) : Txt.split (Txt.join ⟨#[c]⟩ xs) ⟨#[c]⟩ = xs := by
 apply qC;refine wV (c := c) ?_ ?_ ?_ ?_ ?_
 · intro h
   have := split_pos (Txt.join ⟨#[c]⟩ xs) ⟨#[c]⟩;rw [List.map_eq_nil_iff.mp h] at this;exact absurd this (by decide)
 · intro h; exact hn (List.map_eq_nil_iff.mp h)
 · intro a ha
   obtain ⟨x, hx, rfl⟩ := List.mem_map.mp ha;exact StrLaws.split_free _ _ x hx
 · intro a ha
   obtain ⟨x, hx, rfl⟩ := List.mem_map.mp ha;exact hf x hx
 · rw [<- cu, StrLaws.join_split, eZ, cu]
end
section
set_option tactic.hygienic false
open PySem.Spec PySem.Calls
theorem cW (h : ∀ x ∈ xs, PyData.strOk x = true) : SeqAt.shaped (.list (xs.map PyData.str)) = true := by
 have h1 : PyData.canLayAll0 (xs.map PyData.str) = true := by
   induction xs with
   | nil => rfl
   | cons a r ih =>
     rw [List.map_cons, PyData.canLayAll0, ih λ x hx => h x (.tail _ hx)];simp [PyData.canLay0, h a (.head _)]
 have h2 : PyData.depthAll (xs.map PyData.str) <= 1 := by
   clear h1 h
   induction xs with
   | nil => simp [PyData.depthAll]
   | cons _ r ih =>
     rw [List.map_cons, PyData.depthAll];simp only [PyData.depth];lia
 refine Bool.and_eq_true_iff.mpr ⟨h1, decide_eq_true ?_⟩;rw [PyData.depth];lia
section
variable {s : Shared} {m : Str -> Option Value} {news : List (Addr × Obj)}
theorem ac5 {a b : Addr} {vs : List Value} {ys : List Str} {k : Nat} {Q : Value -> Shared -> Prop} (N : News gO L s.heap news) (h1 : (a, listOf vs.toArray k) ∈ news) (hi : StrsAre vs xs) (h2 : (b, listOf us.toArray k2) ∈ news) (hj : StrsAre us ys) (hxy : xs = ys) (hok : ∀ x ∈ ys, PyData.strOk x = true) (hu : A.units + 64 < cLine) (h : Q (.bool false) s) : wpAny (model prog w) A (compareOp .NotEq (.ref a) (.ref b)) Q E s := by
 subst hxy;refine ne_dataH (Reads.list (N.get h1) rfl rfl (hi.reads _)) (Reads.list (N.get h2) rfl rfl (hj.reads _)) (cW hok) (cW hok) hu ?_;have := cW hok;rw [SeqAt.eqv_refl _ (Bool.and_eq_true_iff.mp this).1];exact h
end
theorem aaB (c : Nat) : ∀ A : List (List Nat), (jl c A).length <= (A.map List.length).sum + A.length
 | [] => by simp [jl]
 | [x] => by simp [jl]
 | x :: y :: r => by
   have := aaB c (y :: r);simp [jl] at *;lia
end
section
set_option tactic.hygienic false
open PySem.Spec PySem.Calls PyProof.Rows.LCg PyProof.Rows.LCt
section
variable {s : Shared} {m : Str -> Option Value}
inductive aaC (prog : Program) (w : World) (A : Around) (gO : Heap) (L : Addr) (m : Str -> Option Value) (env : Env) (ct elt : Expr) (x : Str) (scope : Scope) (cl : List (Str × Addr)) (Fin : Shared -> List Value -> List (Addr × Obj) -> Prop) (xv : Value) (gJ : Shared) : Prop
 | mk : ∀ tx t news, (xv = .str tx t) -> (A.handled = none) -> (Fr gO L gJ.heap m) -> (News gO L gJ.heap news) -> (tx.cps.size <= sizeLine) -> (∀ h : Heap, CompRestT prog w A gO L m env ct elt x scope cl { gJ with heap := h } (λ _ => True) (SignAt tx) (Fin { gJ with heap := h }) tx.cps.size 0 [] news) -> aaC prog w A gO L m env ct elt x scope cl Fin xv gJ
theorem vh {T : String} {tx : Str} : ∀ i (h h' : Heap) (o : Obj) (nw : List (Addr × Obj)), h.IsStrIter I T tx t i -> h.get? I = some o -> h'.get? I = some o -> (∀ b o, gO.get? b = some o -> h'.get? b = some o) -> News gO L h' nw -> True -> h'.IsStrIter I T tx t i :=
 λ i h h' o nw st e e' _ _ _ => by
   obtain ⟨o', q, r⟩ := st;rw [e] at q; cases q;exact ⟨o, e', r⟩
theorem vm {pos : Pos} {Q : Value -> Shared -> Prop} (F₀ : Fr gO L s.heap m) (hclos : closureFor scope env = pure cl) (hcell : ∀ y ∈ scope.names, y.2 ≠ .cell) (hkind : scope.kind = .function) (hnames : ∀ y ∈ scope.names, y.2 = .local -> scope.names.lookup y.1 = some .local) (hx : scope.names.lookup x = some .local) (h : wpAny (model prog w) A (eval iter env) (aaC prog w A gO L m env ct elt x scope cl (λ gQ => FinE gO L m gQ Q)) E s) (hs : ∀ x, foldedSetIterable iter env x = pure x) : wpAny (model prog w) A (eval (.ListComp elt [⟨.Name x px, iter, [ct], 0⟩] scope pos) env) Q E s := by
 rw [eval_ListComp];tm_at "ci";tm_at "X";obtain ⟨tx, t, news, rfl, hh, F, N, hsz, R⟩ := h₁;tm_at "V";have go : ∀ (T : String) (o : Obj), Walks prog w A gJ.heap.objs.size [gJ.heap.objs.size] [gJ.heap.objs.size] tx.cps.size (SignAt tx) (λ i h => h.IsStrIter gJ.heap.objs.size T tx t i) ->
     (gJ.heap.push o).IsStrIter gJ.heap.objs.size T tx t 0 -> wpAny (model prog w) A (newList []) (λ acc s₃ => wpAny (model prog w) A (newFunctionEnv scope env.globals cl [] env.qual none .none (some env)) (λ cenv s₄ =>
     codeAny (model prog w) A (.compStart (.ListComp elt [⟨.Name x px, iter, [ct], 0⟩] scope pos) 0 (.ref gJ.heap.objs.size) acc { cenv with scope := relabel scope env }) (compPost (model prog w) A E none Q acc cenv.locals) s₄) E s₃) E { gJ with heap := gJ.heap.push o } := by
   intro T o W hst;refine wpAny_mono (block_T (RR := λ v C => compPost (model prog w) A E none Q v C) W hsz (λ i h st => by obtain ⟨o, e, _⟩ := st; exact ⟨o, e⟩) (λ i => vh i) hcell hkind hx hst (λ b hb => ?_)
     (F.keeps λ _ _ e => Heap.get?_push_of_some _ e) (N.grown λ _ _ e => Heap.get?_push_of_some _ e) (Nat.ne_of_lt F.ns.lt) (next_is_new F) (λ p hp => Nat.ne_of_lt (Heap.lt_size (N p hp).1)) trivial (R _) ?_) (λ _ _ q => q) λ _ _ e => e
   · rw [List.mem_singleton.mp hb]
     show gJ.heap.objs.size < (gJ.heap.push _).objs.size;rw [Heap.size_push]; exact Nat.lt_succ_self _
   · intro D C h tk m' ys news' F' N' o1 hn hC₀ hD₀ hCL hDL hCD offC fin
     tm_at "cw";refine ⟨hs''.extBut _ _ ?_ (N' p hp).1, (N' p hp).2⟩;tm_at "an"
     · exact Ne.symm hCD
     · exact offC p hp
 cases ha : tx.cps.all (· < 128)
 · exact wpAny_pyIter_wide ha (go "str_iterator" { cls := .type "str_iterator", data := .fields #[.str tx t, .int 0 0] } (Walks.strWide hh _ tx t) ⟨_, Heap.get?_push_size _ rfl, rfl, rfl⟩)
 · exact wpAny_pyIter_ascii ha (go "str_ascii_iterator" { cls := .type "str_ascii_iterator", data := .fields #[.str tx t, .int 0 0] } (Walks.strAscii hh _ tx t) ⟨_, Heap.get?_push_size _ rfl, rfl, rfl⟩)
end
noncomputable abbrev ae2 (c : Nat) (kp : Nat -> Bool) (f : Nat -> Str) (news : List (Addr × Obj)) (b : Bool) (y : Value) (news' : List (Addr × Obj)) : Prop := kp c = b /\ (b = true -> ∃ t, y = .str (f c) t) /\ news' = news
section
variable {s : Shared} {m : Str -> Option Value}
theorem vo {Fin : Shared -> List Value -> List (Addr × Obj) -> Prop} {tx : Str} {news : List (Addr × Obj)} (kp : Nat -> Bool) (f : Nat -> Str) (hh : A.handled = none) (F : Fr gO L s.heap m) (N : News gO L s.heap news) (hz : tx.length < 1000) (turn : ∀ g (c : Nat) u I oI C oC D ys gW h tk (E' : Value -> Shared -> Prop), c ∈ tx.cps.toList -> NsObj oC gW -> gW x = some (.str ⟨#[c]⟩ u) -> Fr gO L h m -> News gO L h ((I, oI) :: (C, oC) :: (D, lst ys) :: news) -> Off3 I C D news -> ((@Ne Nat I C) /\ (@Ne Nat I D) /\ (@Ne Nat C D)) -> wpAny (model prog w) A (isTrue ct (compEnvC scope cl C env) (eval ct (compEnvC scope cl C env))) (λ ok s' => if ok = true then wpAny (model prog w) A (eval elt (compEnvC scope cl C env)) (CompEnd gO L m { { s with heap := g } with heap := h, toks := tk } I oI C oC D (lst ys) (λ _ => True) (ae2 c kp f news true)) E' s' else CompEnd gO L m { { s with heap := g } with heap := h, toks := tk } I oI C oC D (lst ys) (λ _ => True) (ae2 c kp f news false) Value.none s') E' { { s with heap := g } with heap := h, toks := tk }) (done : ∀ g ys, StrsAre ys ((tx.cps.toList.filter kp).map f) -> Fin { s with heap := g } ys news) : aaC prog w A gO L m env ct elt x scope cl Fin (.str tx t) s := by
 exact ⟨tx, t, news, rfl, hh, F, N, by rw [sizeLine_eq]; unfold Str.length at hz; lia, λ g => kE (all := tx.cps.toList) (λ c v => ∃ u, v = .str ⟨#[c]⟩ u) (λ c v => ∃ t, v = .str (f c) t) kp
   (λ i v _ hP => hP.elim λ c hP => hP.elim λ u hP => ⟨c, Array.getElem?_toList.trans hP.1, u, hP.2⟩) Array.length_toList
   (λ c v I oI C oC D ys gW h tk E' hc hp hC hx F' N' off ne => hp.elim λ u e => turn g c u I oI C oC D ys gW h tk E' hc hC (hx.trans (congrArg some e)) F' N' off ne) (λ ys h => done g ys (aU.strsAre h)) _ 0 [] (Nat.zero_add _) .nil⟩
end
section
variable {s : Shared} {Q : Flow -> Shared -> Prop}
end
end
section
set_option tactic.hygienic false
open PySem.Spec PySem.Calls
noncomputable def mJ (cmp : Int -> Int -> Bool) (p q : Ws) (l : List Nat) : List (Int × Int × Int) :=
 (l.filter λ (j : Nat) => cmp (bu p (1 + (j : Int) * 1)) (bu q (1 + (j : Int) * 1))).map λ (j : Nat) => (1 + (j : Int) * 1, bu p (1 + (j : Int) * 1), bu q (1 + (j : Int) * 1))
noncomputable def jr (cmp : Int -> Int -> Bool) (p q : Ws) : List (Int × Int × Int) := mJ cmp p q (List.range ((if aC q > aC p then aC q else aC p) + 1).toNat)
theorem mK {cmp : Int -> Int -> Bool} {p q : Ws} {l : List Nat} : mJ cmp p q (l ++ [j]) = mJ cmp p q l ++ (if cmp (bu p (1 + (j : Int) * 1)) (bu q (1 + (j : Int) * 1)) = true then [(1 + (j : Int) * 1, bu p (1 + (j : Int) * 1), bu q (1 + (j : Int) * 1))] else []) := by
 unfold mJ;rw [List.filter_append, List.map_append]
 congr 1
 generalize hc : cmp (bu p (1 + (j : Int) * 1)) (bu q (1 + (j : Int) * 1)) = c;cases c
 · simp only [List.filter_cons, hc, List.filter_nil, Bool.false_eq_true, if_false, List.map_nil]
 · simp only [List.filter_cons, hc, List.filter_nil, if_true, List.map_cons, List.map_nil]
noncomputable abbrev vp (x y z : Int) (t1 t2 t3 : Tok) : Obj := { cls := .type "tuple", data := .seq #[.int x t1, .int y t2, .int z t3] }
inductive aJ (R : List (Addr × Obj)) : List Value -> List (Int × Int × Int) -> Prop
 | nil : aJ R [] []
 | snoc {vs : List Value} {l : List (Int × Int × Int)} {a : Addr} {x y z : Int} {t1 t2 t3 : Tok} : aJ R vs l -> (a, vp x y z t1 t2 t3) ∈ R -> aJ R (vs ++ [.ref a]) (l ++ [(x, y, z)])
theorem aJ.mono {R' : List (Addr × Obj)} {vs : List Value} {l : List (Int × Int × Int)} (h : aJ R vs l) (k : ∀ p ∈ R, p ∈ R') : aJ R' vs l := by
 induction h with
 | nil => exact .nil
 | snoc _ h ih => exact .snoc ih (k _ h)
theorem aJ.length {vs : List Value} {l : List (Int × Int × Int)} (h : aJ R vs l) : vs.length = l.length := by
 induction h with
 | nil => rfl
 | snoc _ _ ih => rw [List.length_append, List.length_append, ih]; rfl
noncomputable abbrev afB (D : Addr) (c : ahy) : List (Addr × Obj) := (D, listOf c.vs.toArray c.k) :: c.R
noncomputable abbrev aiK (cmp : Int -> Int -> Bool) (p q : Ws) (D : Addr) (pre : List Nat) (c : ahy) : Prop := aJ c.R c.vs (mJ cmp p q pre) /\ (∀ z ∈ c.R, @LT.lt Nat _ D z.1) /\ c.vs.length <= pre.length
inductive qD (cmp : Int -> Int -> Bool) (p q : Ws) (D : Addr) (j : Nat) (vs : List Value) (k : Nat) (R rest news' : List (Addr × Obj)) : Prop
 | no : cmp (bu p (1 + (j : Int) * 1)) (bu q (1 + (j : Int) * 1)) = false -> news' = (D, listOf vs.toArray k) :: (R ++ rest) -> qD cmp p q D j vs k R rest news'
 | yes : ∀ (k' : Nat) (T : Addr) (t1 t2 t3 : Tok), cmp (bu p (1 + (j : Int) * 1)) (bu q (1 + (j : Int) * 1)) = true -> @LT.lt Nat _ D T ->
     news' = (D, listOf (vs ++ [Value.ref T]).toArray k') :: (T, vp (1 + (j : Int) * 1) (bu p (1 + (j : Int) * 1)) (bu q (1 + (j : Int) * 1)) t1 t2 t3) :: (R ++ rest) -> qD cmp p q D j vs k R rest news'
theorem aaD {a : α} {l r : List α} {z : α} (h : z ∈ a :: (l ++ r)) : z ∈ a :: (r ++ l) := by
 rcases List.mem_cons.mp h with h | h
 · exact List.mem_cons.mpr (.inl h)
 · exact List.mem_cons.mpr (.inr (List.mem_append.mpr (List.mem_append.mp h).symm))
theorem aaE {b a : α} {l r : List α} {z : α} (h : z ∈ b :: a :: (l ++ r)) : z ∈ b :: a :: (r ++ l) :=
 List.mem_cons.mpr ((List.mem_cons.mp h).imp id aaD)
theorem afC {P : α -> Prop} {a : α} {l r : List α} (h : ∀ z ∈ a :: (r ++ l), P z) : ∀ z ∈ a :: (l ++ r), P z := λ z hz => h z (aaD hz)
theorem vq {P : α -> Prop} {b a : α} {l r : List α} (h : ∀ z ∈ b :: a :: (r ++ l), P z) : ∀ z ∈ b :: a :: (l ++ r), P z := λ z hz => h z (aaE hz)
theorem aaF {P : α -> Prop} {c b a : α} {l r : List α} (h : ∀ z ∈ c :: b :: a :: (r ++ l), P z) : ∀ z ∈ c :: b :: a :: (l ++ r), P z := λ z hz => h z (List.mem_cons.mpr ((List.mem_cons.mp hz).imp id aaE))
theorem sS {cmp : Int -> Int -> Bool} {p q : Ws} {vs : List Value} (h : aJ R vs (mJ cmp p q (List.range ((if aC q > aC p then aC q else aC p) + 1 + 1 - 1).toNat))) : aJ R vs (jr cmp p q) := by
 rw [Int.add_sub_cancel] at h; exact h
theorem sU {b : α} {led R rest : List α} (h : ∀ p ∈ led, p ∈ rest) : ∀ p ∈ b :: (led ++ R), p ∈ b :: (R ++ rest) := λ p hp =>
 List.mem_cons.mpr ((List.mem_cons.mp hp).imp id λ hp => List.mem_append.mpr ((List.mem_append.mp hp).elim (λ q => .inr (h p q)) .inl))
section
variable {s : Shared} {Q : Flow -> Shared -> Prop}
theorem sX (cmp : Int -> Int -> Bool) {r D xa ya : Addr} {b : Int} {p q : Ws} {t u v : Tok} {k0 : Nat} {gY : Str -> Option Value} {W V rest : List (Addr × Obj)} (_hs : gY (ofString "self") = some (.ref xa)) (_ho : gY (ofString "other") = some (.ref ya)) (_hW : cj xa p W) (_hV : cj ya q V) (hrD : ∀ z ∈ rest, @Ne Nat z.1 D) (hh : A.handled = none) (F : Fr gO env.locals s.heap gY) (N : News gO env.locals s.heap ((D, listOf #[] k0) :: rest)) (hr : IsRange s.heap r 1 b 1 t u v) (h1 : 1 <= b) (h2 : b < 1000) (turn : ∀ I (j : Nat) t vs k R it h tk, (j : Int) < b - 1 -> vs.length <= j -> (∀ z ∈ R, @LT.lt Nat _ D z.1) -> (∀ z ∈ (D, listOf vs.toArray k) :: (rest ++ R), z.1 ≠ I) -> (∀ z ∈ rest ++ R, @Ne Nat z.1 D) -> vs.toArray.size <= sizeLine -> Fr gO env.locals h (λ y => if y = x then some (.int (1 + (j : Int) * 1) t) else gY y) -> News gO env.locals h ((I, it) :: (D, listOf vs.toArray k) :: (rest ++ R)) -> wpAny (model prog w) A (execs body env) (UnrPost gO env.locals { s with heap := h, toks := tk } I it (λ m' news' => qD cmp p q D j vs k R rest news' /\ jm x [] m' gY) Q) E { s with heap := h, toks := tk }) (done : ∀ u h tk vs k R, aJ R vs (mJ cmp p q (List.range (b - 1).toNat)) -> (∀ z ∈ R, @LT.lt Nat _ D z.1) -> Fr gO env.locals h (λ y => if y = x then u else gY y) -> News gO env.locals h ((D, listOf vs.toArray k) :: (R ++ rest)) -> wpAny (model prog w) A (execs orelse env) Q E { s with heap := h, toks := tk }) : wpAny (model prog w) A (pyIter (.ref r)) (λ it gQ => bB prog w A gO env x body orelse Q E it gQ) E s := by
 refine eE (rest := rest) (afB D) (λ _ => []) (aiK cmp p q D) ⟨[], k0, []⟩ hh F N hr (small_one (by lia) (by lia) (by lia) (by lia)) (bc _ _) fC ⟨.nil, λ _ h => absurd h List.not_mem_nil, Nat.le_refl _⟩ ?_ ?_
 · intro I pre post c t it h tk e e2 hl hP off F N
   obtain ⟨vs, k, R⟩ := c;obtain ⟨hT, hD, hz⟩ := hP;refine wpAny_mono (turn I pre.length t vs k R it h tk (Int.lt_toNat.mp (by assumption)) hz hD (λ z hz => off z (aaD hz)) (λ z hz => (List.mem_append.mp hz).elim (hrD z) λ h => Nat.ne_of_gt (hD z h)) (by rw [sizeLine_eq, List.size_toArray]; lia) F (λ z hz => N z (aaE hz))) (λ f gQ g => jk (λ m' news' off' z => ?_) g) λ _ _ e => e
   obtain ⟨hw, hoe⟩ := z;rcases hw with ⟨hc, rfl⟩ | ⟨k', T, t1, t2, t3, hc, hlt, rfl⟩
   · refine ⟨⟨vs, k, R⟩, fC, hoe, rfl, ?_, hD, ?_⟩
     · rw [mK, hc, if_neg Bool.false_ne_true, List.append_nil]; exact hT
     · rw [List.length_append]; exact Nat.le_trans hz (Nat.le_add_right _ _)
   · refine ⟨⟨vs ++ [.ref T], k', (T, vp _ _ _ t1 t2 t3) :: R⟩, fC, hoe, rfl, ?_, ?_, ?_⟩
     · rw [mK, if_pos hc]
       exact .snoc (hT.mono λ p hp => .tail _ hp) (.head _)
     · intro z hz'
       rcases List.mem_cons.mp hz' with rfl | hz'
       · exact hlt
       · exact hD z hz'
     · rw [List.length_append, List.length_append]; exact Nat.add_le_add_right hz _
 · intro c u h tk hP F N
   obtain ⟨vs, k, R⟩ := c;exact done u h tk vs k R hP.1 hP.2.1 F N
end
theorem ac6 (l : List aL) (q p : aL) : (refs (l ++ [q] ++ [p])).toArray[l.length]? = some (.ref q.a) := by simp [refs]
section
variable {s : Shared} {Q : Flow -> Shared -> Prop}
theorem sY {r : Addr} {a : Int} {v : Tok} {news : List (Addr × Obj)} (hh : A.handled = none) (F : Fr gO env.locals s.heap gY) (N : News gO env.locals s.heap news) (hr : IsRange s.heap r a 0 (-1) t u v) (ha : 1 <= a) (hb : a < 1000) (rest : ∀ I h' ps', Fr gO env.locals h' gY -> News gO env.locals h' news -> (∀ p ∈ news, p.1 < I) -> aZ prog w A E gO env x body orelse Q { s with heap := h' } I ((λ v => ∃ t, v = .int a t) :: ps') gY news) : wpAny (model prog w) A (pyIter (.ref r)) (λ it gQ => bB prog w A gO env x body orelse Q E it gQ) E s := by
 refine km (n := a.toNat) hh F N hr (small_down (by lia) (by lia) (by lia) (by lia)) ((rangeSize_downNat _ _).trans (by rw [Int.sub_zero])) _ rfl λ I h' F' N' l' => ?_
 have e : (List.range a.toNat).map (λ (i : Nat) (v : Value) => ∃ t, v = Value.int (a + (i : Int) * (-1)) t) = (λ v => ∃ t, v = .int a t) :: (List.range (a.toNat - 1)).map (λ (i : Nat) (v : Value) => ∃ t, v = Value.int (a + ((i + 1 : Nat) : Int) * (-1)) t) := by
   obtain ⟨k, hk⟩ : ∃ k, a.toNat = k + 1 := ⟨a.toNat - 1, by lia⟩
   rw [hk, List.range_succ_eq_map, List.map_cons, List.map_map];simp
 rw [e];exact rest I h' _ F' N' l'
theorem yM {tx : Str} (ns : List Str) (Led : σ -> List (Addr × Obj)) (P : List Nat -> σ -> Prop) {gY : Str -> Option Value} (c₀ : σ) (hh : A.handled = none) (F : Fr gO env.locals s.heap gY) (N : News gO env.locals s.heap (Led c₀)) (hOk : uZ Ok) (ok : Ok s) (hx : tx.cps.toList = codes) (ha : ∀ c ∈ codes, c < 128) (hp : P [] c₀) (hgo : ∀ it v, letOwnedTupleGo tgt it v = pure ()) (turn : ∀ I pre (a : Nat) post t c u it s', codes = pre ++ a :: post -> P pre c -> (∀ p ∈ Led c, p.1 ≠ I) -> Ok s' -> Fr gO env.locals s'.heap (bK ns gY u) -> News gO env.locals s'.heap ((I, it) :: Led c) -> wpAny (model prog w) A (assign tgt env (.str ⟨#[a]⟩ t)) (λ _ gQ => wpAny (model prog w) A (execs body env) (dj gO env.locals Ok I it (JC ns gY Led P (pre ++ [a])) Q) E gQ) E s') (done : ∀ c u s', P codes c -> Ok s' -> Fr gO env.locals s'.heap (bK ns gY u) -> News gO env.locals s'.heap (Led c) -> wpAny (model prog w) A (execs orelse env) Q E s') : wpAny (model prog w) A (pyIter (.str tx t)) (λ it gQ => eX prog w A gO env tgt body orelse Q E it gQ) E s := by
 subst hx;let PV : Nat -> Value -> Prop := λ c v => ∃ u, v = .str ⟨#[c]⟩ u
 have hlen : (tx.cps.toList.map PV).length = tx.cps.size := by simp
 have hall : tx.cps.all (· < 128) = true := by
   rw [Array.all_eq_true];intro i hi
   simpa using ha _ (Array.getElem_mem_toList hi)
 have W := Walks.strAscii (prog := prog) (w := w) hh s.heap.objs.size tx t;refine wpAny_pyIter_ascii hall ⟨s.heap.objs.size, [s.heap.objs.size], tx.cps.toList.map PV, _, _, gY, Led c₀, Ok, λ _ => True, rfl, hlen.symm ▸ W, ?_, ?_, ?_, ?_, Nat.ne_of_lt F.ns.lt, next_is_new F, λ p hp => Nat.ne_of_lt (Heap.lt_size (N p hp).1), ⟨_, Heap.get?_push_size _ rfl, rfl, rfl⟩, hOk, hOk.heap _ _ _ ok, F.push _, N.keeps λ b o e => Heap.get?_push_of_some _ e, ?_⟩
 · intro i v hi _
   tm_at "X";obtain ⟨c, u, hc, rfl⟩ := hi;exact hG9 ⟨PV c, by rw [List.getElem?_map, Array.getElem?_toList, hc]; rfl, u, rfl⟩
 · exact λ i h st => st.elim λ o e => ⟨o, e.1⟩
 · intro i h h' o nw st e1 e2 _ _ _
   exact W.frame i h h' st λ b hb o' e' => by
     rw [List.mem_singleton.mp hb] at e' ⊢;exact e2.trans (e1.symm.trans e')
 · intro i v s' E' Q' _ _ q
   rw [hgo];exact wpAny_pure q
 · refine aaA PV ns gY Led P (λ _ _ _ => trivial) ?_ done ⟨bT, c₀, hp, rfl⟩ λ p hp => Nat.ne_of_lt (Heap.lt_size (N p hp).1)
   exact λ pre a post v c u it s' e hp off' ok' hv F' N' => hv.elim λ t ht => by subst ht; exact turn _ pre a post t c u it s' e hp off' ok' F' N'
end
noncomputable def cL (w : Nat) (st : List Nat × List (List Nat)) (c : Nat) : List Nat × List (List Nat) := if st.1.length < w then (st.1 ++ [c], st.2) else ([c], st.2 ++ [st.1])
noncomputable def dg (w : Nat) (l : List Nat) : List Nat × List (List Nat) := l.foldl (cL w) ([], [])
noncomputable def aR (r : List Nat) : Str := ⟨(r.flatMap λ c => [c, 59]).toArray⟩
noncomputable def bw (w : Nat) (l : List Nat) : List (List Nat) := (dg w l).2 ++ [(dg w l).1]
inductive oZ : List aL -> List Nat -> Prop
 | nil : oZ [] []
 | snoc {pl : List aL} {r : List Nat} {q : aL} {c : Nat} : oZ pl r -> q.f = ofString "" -> q.p = ⟨#[c, 59]⟩ -> (c = 102 \/ c = 105) -> oZ (pl ++ [q]) (r ++ [c])
theorem qF (r : List Nat) (c : Nat) : aR (r ++ [c]) = aR r ++ ⟨#[c, 59]⟩ := by
 apply Str.ext';simp [aR, Str.cps_append]
theorem yN (x : Str) : ofString "" ++ x = x := by
 rw [show ofString "" = Str.empty from by decide +kernel, Str.empty_append]
theorem oZ.text {r : List Nat} (h : oZ pl r) : text pl = aR r := by
 induction h with
 | nil => rfl
 | snoc _ hf hp _ ih => rw [yI, ih, hf, hp, yN, qF]
theorem oZ.length {r : List Nat} (h : oZ pl r) : pl.length = r.length := by
 induction h with
 | nil => rfl
 | snoc _ _ _ _ ih => rw [List.length_append, List.length_append, ih]; rfl
theorem iH {q : aL} {c : Nat} (hf : q.f = ofString "") (hp : q.p = ⟨#[c, 59]⟩) : wide q = 2 := by
 unfold wide; rw [hf, hp]; rfl
theorem oZ.wides {r : List Nat} (h : oZ pl r) : bz pl = 2 * r.length := by
 induction h with
 | nil => rfl
 | snoc _ hf hp _ ih => rw [cH, ih, lY, oR, iH hf hp, List.length_append]; simp; lia
theorem oZ.wide {r : List Nat} (h : oZ pl r) : ∀ q ∈ pl, wide q < 100000 := by
 induction h with
 | nil => exact λ q hq => absurd hq List.not_mem_nil
 | snoc _ hf hp _ ih => exact jO ih (by rw [iH hf hp]; decide)
theorem oZ.last {r : List Nat} (h : oZ pl r) (h0 : 0 < r.length) : ∃ l q r' c, pl = l ++ [q] /\ r = r' ++ [c] /\ oZ l r' /\ q.f = ofString "" /\ q.p = ⟨#[c, 59]⟩ /\ (c = 102 \/ c = 105) := by
 cases h with
 | nil => exact absurd h0 (by decide)
 | snoc a b c d => exact ⟨_, _, _, _, rfl, rfl, a, b, c, d⟩
theorem gA (r : List Nat) : (aR r).length = 2 * r.length := by
 show (r.flatMap λ c => [c, 59]).toArray.size = _;rw [List.size_toArray]
 induction r with
 | nil => rfl
 | cons c r ih => rw [List.flatMap_cons, List.length_append, ih]; simp; lia
theorem oh {r : List Nat} (h : 0 < r.length) : Txt.isspace (aR r) = false := by
 have : (aR r).cps.all Unicode.isSpace = false := by
   show (r.flatMap λ c => [c, 59]).toArray.all Unicode.isSpace = false;cases r with
   | nil => exact absurd h (by decide)
   | cons c r =>
     rw [List.flatMap_cons];simp;intro _ k;exact absurd k (by decide +kernel)
 show (decide _ && _) = false;rw [this, Bool.and_false]
theorem vy {c : Nat} : (Txt.item (⟨#[c, 59]⟩ : Str) (-1) == ofString ";") = true := by
 show ((⟨#[59]⟩ : Str) == ofString ";") = true;decide +kernel
theorem aaG {q : aL} {c : Nat} (hf : q.f = ofString "") (hp : q.p = ⟨#[c, 59]⟩) (hc : c = 102 \/ c = 105) : PyData.strOk q.f = true /\ PyData.strOk q.p = true := by
 rw [hf, hp];rcases hc with rfl | rfl
 · exact ⟨by decide +kernel, by decide +kernel⟩
 · exact ⟨by decide +kernel, by decide +kernel⟩
theorem sZ {w : Nat} {l : List Nat} (hw : 0 < w) : (dg w l).1.length <= w /\ (dg w l).2.length <= l.length /\ (0 < l.length -> 0 < (dg w l).1.length) /\ ∀ r ∈ (dg w l).2, r.length = w := by
 suffices ∀ (l : List Nat) (st : List Nat × List (List Nat)) (n : Nat), st.1.length <= w -> st.2.length <= n -> (∀ r ∈ st.2, r.length = w) -> (l.foldl (cL w) st).1.length <= w /\ (l.foldl (cL w) st).2.length <= n + l.length /\ (0 < l.length \/ 0 < st.1.length -> 0 < (l.foldl (cL w) st).1.length) /\ ∀ r ∈ (l.foldl (cL w) st).2, r.length = w by
   have := this l ([], []) 0 (Nat.zero_le _) (Nat.le_refl _) (λ r hr => absurd hr List.not_mem_nil);exact ⟨this.1, Nat.le_trans this.2.1 (Nat.le_of_eq (Nat.zero_add _)), λ h => this.2.2.1 (.inl h), this.2.2.2⟩
 intro l
 induction l with
 | nil => exact λ st n h1 h2 h3 => ⟨h1, h2, λ h => h.elim (λ h => absurd h (by decide)) id, h3⟩
 | cons c l ih =>
   intro st n h1 h2 h3;rw [List.foldl_cons]
   by_cases h : st.1.length < w
   · have e : cL w st c = (st.1 ++ [c], st.2) := if_pos h
     rw [e];have := ih (st.1 ++ [c], st.2) (n + 1) (by simp; lia) (by simp; lia) h3;tm_at "cn"
   · have e : cL w st c = ([c], st.2 ++ [st.1]) := if_neg h
     rw [e];have := ih ([c], st.2 ++ [st.1]) (n + 1) (by simp; lia) (by simp; lia) (λ r hr => by
       rcases List.mem_append.mp hr with hr | hr
       · exact h3 r hr
       · rw [List.mem_singleton.mp hr]; lia)
     tm_at "cn"
theorem yO (w : Nat) (l : List Nat) (c : Nat) : dg w (l ++ [c]) = cL w (dg w l) c := by
 unfold dg; rw [List.foldl_append]; rfl
noncomputable abbrev fP (oL oS : Obj) (x dx ln : Addr) (hs : Int) (tk0 : Tok) (pl : List aL) (n : Nat) (tz : Tok) (ls : List Value) (kl : Nat) (R : List (Addr × Obj)) : List (Addr × Obj) :=
 (140, oL) :: (147, oS) :: (x, bJ dx pl n) :: (dx, fQ hs tk0 0 tz) :: (ln, listOf ls.toArray kl) :: R
structure aaH (x dx ln : Addr) (r0 : List (Addr × Obj)) (st : List Nat × List (List Nat)) (oL oS : Obj) (pl : List aL) (ls : List Value) (R : List (Addr × Obj)) : Prop where
 row : oZ pl st.1
 ls : StrsAre ls (st.2.map aR)
 all : AllIn pl R
 sub : ∀ p ∈ r0, p ∈ R
 e1 : ∀ p ∈ R, p.1 ≠ 140
 e2 : ∀ p ∈ R, p.1 ≠ 147
 e3 : ∀ p ∈ R, p.1 ≠ x
 e4 : ∀ p ∈ R, p.1 ≠ dx
 e5 : ∀ p ∈ R, p.1 ≠ ln
 t1 : ao 93 19 oL
 t2 : ao 96 32 oS
noncomputable abbrev s8 : List Str := [ofString "letter"]
inductive qG (x dx ln : Addr) (hs : Int) (tk0 : Tok) (gY : Str -> Option Value) (st : List Nat × List (List Nat)) (R : List (Addr × Obj)) (m' : Str -> Option Value) (news' : List (Addr × Obj)) : Prop
 | mk : jo s8 m' gY -> ∀ oL oS pl n tz ls kl T o, oZ pl st.1 -> StrsAre ls (st.2.map aR) -> AllIn pl ((T, o) :: R) -> ao 93 19 oL -> ao 96 32 oS -> @LT.lt Nat _ x T -> news' = fP oL oS x dx ln hs tk0 pl n tz ls kl ((T, o) :: R) -> qG x dx ln hs tk0 gY st R m' news'
section
variable {s : Shared} {Q : Flow -> Shared -> Prop}
theorem yP {x ln : Addr} {n : Nat} {hs : Int} {tk0 : Tok} {tx : Str} {r0 all : List (Addr × Obj)} {oL oS : Obj} (hh : A.handled = none) (F : Fr gO env.locals s.heap gY) (N : News gO env.locals s.heap all) (hsub : ∀ p ∈ fP oL oS x dx ln hs tk0 [] n tz [] kn r0, p ∈ all) (hx : tx.cps.toList = codes) (hc : ∀ c ∈ codes, c = 102 \/ c = 105) (hl : codes.length < 900) (hw : 0 < wn) (e1 : ∀ p ∈ r0, p.1 ≠ 140) (e2 : ∀ p ∈ r0, p.1 ≠ 147) (e3 : ∀ p ∈ r0, p.1 ≠ x) (e4 : ∀ p ∈ r0, p.1 ≠ dx) (e5 : ∀ p ∈ r0, p.1 ≠ ln) (ht1 : ao 93 19 oL) (ht2 : ao 96 32 oS) (G : AllBare s.gens) (o1 : @LT.lt Nat _ 147 ln) (o2 : @LT.lt Nat _ ln dx) (o3 : @LT.lt Nat _ dx x) (turn : ∀ I a t u it s' oL pre oS pl n tz ls kl R, aaH x dx ln r0 (dg wn pre) oL oS pl ls R -> (a = 102 \/ a = 105) -> (dg wn pre).1.length <= wn -> (dg wn pre).2.length < 900 -> (∀ p ∈ fP oL oS x dx ln hs tk0 pl n tz ls kl R, p.1 ≠ I) -> AllBare s'.gens -> s'.os = s.os -> Fr gO env.locals s'.heap (bK s8 gY u) -> News gO env.locals s'.heap ((I, it) :: fP oL oS x dx ln hs tk0 pl n tz ls kl R) -> wpAny (model prog w) A (assign (.Name nm px) env (.str ⟨#[a]⟩ t)) (λ _ gQ => wpAny (model prog w) A (execs body env) (dj gO env.locals (OkG s.os) I it (qG x dx ln hs tk0 gY (cL wn (dg wn pre) a) R) Q) E gQ) E s') (done : ∀ u s' oL oS pl n tz ls kl R, aaH x dx ln r0 (dg wn codes) oL oS pl ls R -> (dg wn codes).2.length < 900 -> AllBare s'.gens -> s'.os = s.os -> Fr gO env.locals s'.heap (bK s8 gY u) -> News gO env.locals s'.heap (fP oL oS x dx ln hs tk0 pl n tz ls kl R) -> wpAny (model prog w) A (execs orelse env) Q E s') : wpAny (model prog w) A (pyIter (.str tx t)) (λ it gQ => eX prog w A gO env (.Name nm px) body orelse Q E it gQ) E s := by
 let Led : PgC -> List (Addr × Obj) := λ c => fP c.oL c.oS x dx ln hs tk0 c.pl c.n c.tz c.ls c.kl c.R
 let P : List Nat -> PgC -> Prop := λ pre c => aaH x dx ln r0 (dg wn pre) c.oL c.oS c.pl c.ls c.R
 refine yM (Ok := OkG s.os) s8 Led P ⟨oL, oS, [], n, tz, [], kn, r0⟩ hh F (λ p hp => N p (hsub p hp)) (okG s.os) ⟨G, rfl⟩ hx (λ c h => (hc c h).elim (λ e => by rw [e]; decide) λ e => by rw [e]; decide) ?_ (λ _ _ => rfl) ?_ ?_
 · exact ⟨.nil, .nil, trivial, λ _ h => h, e1, e2, e3, e4, e5, ht1, ht2⟩
 · intro I pre a post t c u it s' e hp off ok F' N'
   have hm : a ∈ codes := by rw [e]; exact List.mem_append_right _ (.head _)
   have hpl : pre.length < 900 := by have := congrArg List.length e; simp at this; lia
   have hg := sZ (l := pre) hw;refine wpAny_mono (turn I a t u it s' c.oL pre c.oS c.pl c.n c.tz c.ls c.kl c.R hp (hc a hm) hg.1 (Nat.lt_of_le_of_lt hg.2.1 hpl) off ok.1 ok.2 F' N') (λ _ gJ q₁ => wpAny_mono q₁ (λ f gQ q => fB (λ m' news' _ z => ?_) q) λ _ _ e => e) λ _ _ e => e
   tm_at "X";obtain ⟨ho, oL', oS', pl', n', tz', ls', kl', T, o, a1, a2, a3, a4, a5, a6, rfl⟩ := z;tm_at "V";have nt : ∀ {b : Addr}, @Ne Nat T b -> (∀ p ∈ c.R, p.1 ≠ b) -> ∀ p ∈ (T, o) :: c.R, p.1 ≠ b := λ h1 h2 p hp => by
     tm_at "an"
     · exact h1
     · exact h2 p hp
   rw [<- yO] at a1 a2;exact ⟨ho, ⟨oL', oS', pl', n', tz', ls', kl', _⟩, ⟨a1, a2, a3, λ p hp' => .tail _ (hp.sub p hp'), nt (by lia) hp.e1, nt (by lia) hp.e2, nt (by lia) hp.e3, nt (by lia) hp.e4, nt (by lia) hp.e5, a4, a5⟩, rfl⟩
 · intro c u s' hp ok F' N'
   exact done u s' c.oL c.oS c.pl c.n c.tz c.ls c.kl c.R hp (Nat.lt_of_le_of_lt (sZ hw).2.1 hl) ok.1 ok.2 F' N'
theorem vz {mk dmk x ln : Addr} {n : Nat} {hs : Int} {tk0 : Tok} {tx : Str} {all : List (Addr × Obj)} {oL oS : Obj} (_hr : ∀ p ∈ r, p ∈ r) (hh : A.handled = none) (F : Fr gO env.locals s.heap gY) (N : News gO env.locals s.heap all) (hsub : ∀ p ∈ fP oL oS x dx ln hs tk0 [] n tz [] kn ((mk, instObj 94 dmk) :: (dmk, dictOf es ne) :: r), p ∈ all) (hx : tx.cps.toList = codes) (hc : ∀ c ∈ codes, c = 102 \/ c = 105) (hl : codes.length < 900) (hw : 0 < wn) (e1 : ∀ p ∈ (mk, instObj 94 dmk) :: (dmk, dictOf es ne) :: r, p.1 ≠ 140) (e2 : ∀ p ∈ (mk, instObj 94 dmk) :: (dmk, dictOf es ne) :: r, p.1 ≠ 147) (e3 : ∀ p ∈ (mk, instObj 94 dmk) :: (dmk, dictOf es ne) :: r, p.1 ≠ x) (e4 : ∀ p ∈ (mk, instObj 94 dmk) :: (dmk, dictOf es ne) :: r, p.1 ≠ dx) (e5 : ∀ p ∈ (mk, instObj 94 dmk) :: (dmk, dictOf es ne) :: r, p.1 ≠ ln) (ht1 : ao 93 19 oL) (ht2 : ao 96 32 oS) (G : AllBare s.gens) (o1 : @LT.lt Nat _ 147 ln) (o2 : @LT.lt Nat _ ln dx) (o3 : @LT.lt Nat _ dx x) (turn : ∀ I a t u it s' oL pre oS pl n tz ls kl R, aaH x dx ln ((mk, instObj 94 dmk) :: (dmk, dictOf es ne) :: r) (dg wn pre) oL oS pl ls R -> (mk, instObj 94 dmk) ∈ R -> (dmk, dictOf es ne) ∈ R -> (a = 102 \/ a = 105) -> (dg wn pre).1.length <= wn -> (dg wn pre).2.length < 900 -> (∀ p ∈ fP oL oS x dx ln hs tk0 pl n tz ls kl R, p.1 ≠ I) -> AllBare s'.gens -> s'.os = s.os -> Fr gO env.locals s'.heap (bK s8 gY u) -> News gO env.locals s'.heap ((I, it) :: fP oL oS x dx ln hs tk0 pl n tz ls kl R) -> wpAny (model prog w) A (assign (.Name nm px) env (.str ⟨#[a]⟩ t)) (λ _ gQ => wpAny (model prog w) A (execs body env) (dj gO env.locals (OkG s.os) I it (qG x dx ln hs tk0 gY (cL wn (dg wn pre) a) R) Q) E gQ) E s') (done : ∀ u s' oL oS pl n tz ls kl R, aaH x dx ln ((mk, instObj 94 dmk) :: (dmk, dictOf es ne) :: r) (dg wn codes) oL oS pl ls R -> (mk, instObj 94 dmk) ∈ R -> (dmk, dictOf es ne) ∈ R -> (∀ p ∈ r, p ∈ R) -> (dg wn codes).2.length < 900 -> (dg wn codes).1.length <= wn -> (∀ r ∈ (dg wn codes).2, r.length <= wn) -> (0 < codes.length -> 0 < (dg wn codes).1.length) -> AllBare s'.gens -> s'.os = s.os -> Fr gO env.locals s'.heap (bK s8 gY u) -> News gO env.locals s'.heap (fP oL oS x dx ln hs tk0 pl n tz ls kl R) -> wpAny (model prog w) A (execs orelse env) Q E s') : wpAny (model prog w) A (pyIter (.str tx t)) (λ it gQ => eX prog w A gO env (.Name nm px) body orelse Q E it gQ) E s :=
 yP hh F N hsub hx hc hl hw e1 e2 e3 e4 e5 ht1 ht2 G o1 o2 o3
   (λ I a t u it s' oL pre oS pl n tz ls kl R h => turn I a t u it s' oL pre oS pl n tz ls kl R h (h.sub _ (.head _)) (h.sub _ (.tail _ (.head _))))
   (λ u s' oL oS pl n tz ls kl R h h2 => done u s' oL oS pl n tz ls kl R h (h.sub _ (.head _)) (h.sub _ (.tail _ (.head _))) (λ p hp => h.sub p (.tail _ (.tail _ hp))) h2 (sZ hw).1 (λ r hr => Nat.le_of_eq ((sZ hw).2.2.2 r hr)) (sZ hw).2.2.1)
end
theorem o9 {n : Nat} {l : List Nat} (h : x.cps.toList = l) : (Txt.mul x (n : Int)).cps.toList = (List.replicate n l).flatten := by
 subst h;have fold : ∀ (k : List (Array Nat)) (a : Array Nat), (k.foldl (· ++ ·) a).toList = a.toList ++ (k.map Array.toList).flatten := by
   intro k
   induction k with
   | nil => intro a; simp
   | cons b k ih => intro a; rw [List.foldl_cons, ih]; simp [List.append_assoc]
 unfold Txt.mul
 by_cases h1 : (n : Int) < 1
 · rw [if_pos h1]
   have : n = 0 := by lia
   subst this;rfl
 · rw [if_neg h1]
   by_cases h2 : ((n : Int) == 1 || x.length == 0) = true
   · rw [if_pos h2]
     rcases (Bool.or_eq_true _ _).mp h2 with h | h
     · have : n = 1 := by have := eq_of_beq h; lia
       subst this;simp
     · have : x.cps = #[] := Array.eq_empty_of_size_eq_zero (eq_of_beq h)
       rw [this];simp
   · rw [if_neg h2]
     show ((List.replicate (Int.toNat (n : Int)) x.cps).foldl (· ++ ·) #[]).toList = _;rw [fold, Int.toNat_natCast, List.map_replicate];rfl
theorem piece_app (c : Nat) : (⟨#[c]⟩ : Str) ++ ofString ";" = ⟨#[c, 59]⟩ := rfl
theorem ac7 {n : Nat} {l : List Nat} {P : Nat -> Prop} (h : ∀ c ∈ l, P c) : ∀ c ∈ (List.replicate n l).flatten, P c := λ c hc => by
 obtain ⟨l', hl, hc⟩ := List.mem_flatten.mp hc;rw [(List.mem_replicate.mp hl).2] at hc;exact h c hc
theorem wW (n : Nat) (l : List Nat) : (List.replicate n l).flatten.length = n * l.length := by
 induction n with
 | zero => simp
 | succ n ih => rw [List.replicate_succ, List.flatten_cons, List.length_append, ih, Nat.succ_mul]; lia
end
section
set_option tactic.hygienic false
inductive Ex5 {α β γ δ ε : Type} (P : α -> β -> γ -> δ -> ε -> Prop) : Prop
 | mk : ∀ a b c d e, P a b c d e -> Ex5 P
inductive Ex6 {α β γ δ ε ζ : Type} (P : α -> β -> γ -> δ -> ε -> ζ -> Prop) : Prop
 | mk : ∀ a b c d e f, P a b c d e f -> Ex6 P
inductive Al5 (a b c d e : Prop) : Prop
 | mk : a -> b -> c -> d -> e -> Al5 a b c d e
inductive Al7 (a b c d e f g : Prop) : Prop
 | mk : a -> b -> c -> d -> e -> f -> g -> Al7 a b c d e f g
inductive ahJ (a b c d e f g h i j k : Prop) : Prop
 | mk : a -> b -> c -> d -> e -> f -> g -> h -> i -> j -> k -> ahJ a b c d e f g h i j k
theorem aaI {n i : Nat} (h : i < n) : ∃ j, n - i = j + 1 := ⟨n - i - 1, (Nat.sub_add_cancel (Nat.sub_pos_of_lt h)).symm⟩
theorem lA {n i : Nat} (h : i < n) : n + 1 - (i + 1) < n + 1 - i := Nat.sub_lt_sub_left (Nat.lt_succ_of_lt h) (Nat.lt_succ_self i)
theorem tC {n i : Nat} (h : n - i = j + 1) : n - (i + 1) = j := by rw [Nat.sub_add_eq, h]; rfl
theorem wX (a : Nat) : 2 <= 2 + a % 3 /\ 2 + a % 3 <= 4 := ⟨Nat.le_add_right _ _, Nat.add_le_add_left (Nat.le_of_lt_succ (Nat.mod_lt a (by decide))) 2⟩
theorem aiL (a b : Nat) : max (2 + a % 3) (2 + b % 3) + 1 <= 5 := Nat.succ_le_succ (Nat.max_le.mpr ⟨(wX a).2, (wX b).2⟩)
theorem ahK {n : Nat} (h : 2 <= n) (h4 : n <= 4) : 0 < n - 1 /\ n - 1 <= 3 := ⟨Nat.sub_pos_of_lt h, Nat.sub_le_sub_right h4 1⟩
theorem yQ {n : Nat} (h : 2 <= n) : (n : Int) = ((n - 1 : Nat) : Int) + 1 := (congrArg (Nat.cast : Nat -> Int) (Nat.sub_add_cancel (Nat.le_of_lt h)).symm).trans (Int.natCast_succ _)
theorem ahL (h : 0 <= z /\ z < 1000000000000) : z.toNat < 1000000000000 := (Int.toNat_lt h.1).mpr h.2
theorem ac8 {a b : Nat} {M : Int} (h : (a : Int) <= M) (h' : (b : Int) <= M) (e : M = a \/ M = b) : M = ((max a b : Nat) : Int) := by
 rcases e with rfl | rfl
 · exact congrArg _ (Nat.max_eq_left (Int.ofNat_le.mp h')).symm
 · exact congrArg _ (Nat.max_eq_right (Int.ofNat_le.mp h)).symm
end
section
open PySem.Spec PySem.Calls PyProof.Rows.LCg
noncomputable abbrev bR (x y : Str) (p1 p2 p3 px py cp pos : Pos) (iter : Expr) (tx : Str) (k : Nat) (scope : Scope) : Expr :=
 .ListComp (.BinOp (.Name x p1) .Add (.Name y p2) p3) [⟨.Name x px, iter, [], 0⟩, ⟨.Name y py, .Constant (.str tx) k cp, [], 0⟩] scope pos
section
variable {p1 p2 p3 cp pos : Pos} {tx : Str} {k : Nat}
theorem tD (it acc : Value) (env : Env) : compTurn (bR x y p1 p2 p3 px py cp pos iter tx k scope) 0 it acc env = (standAt iter.pos >>= λ _ => pyNext it >>= λ r => match r with
     | none => pure (.done .next)
     | some v => letOwnedTupleGo (.Name x px) it v >>= λ _ => assign (.Name x px) env v >>= λ _ =>
       (eval (.Constant (.str tx) k cp) env >>= λ z => standAt cp >>= λ _ => foldedSetIterable (.Constant (.str tx) k cp) env z >>= λ z => holding [z] (pyIter z) >>= λ i2 =>
         runOwn (.compStart (bR x y p1 p2 p3 px py cp pos iter tx k scope) 1 i2 acc env) env >>= λ _ =>
         again (.compLoop (bR x y p1 p2 p3 px py cp pos iter tx k scope) 0 it acc env))) := by rfl
theorem tE (it acc : Value) (env : Env) : compTurn (bR x y p1 p2 p3 px py cp pos iter tx k scope) 1 it acc env = (standAt cp >>= λ _ => pyNext it >>= λ r => match r with
     | none => pure (.done .next)
     | some v => letOwnedTupleGo (.Name y py) it v >>= λ _ => assign (.Name y py) env v >>= λ _ =>
       (eval (.BinOp (.Name x p1) .Add (.Name y p2) p3) env >>= λ z => call (.builtin "list.append") [acc, z] >>= λ _ => pure ()) >>= λ _ =>
         again (.compLoop (bR x y p1 p2 p3 px py cp pos iter tx k scope) 1 it acc env)) := by rfl
end
noncomputable def dh (l : List Nat) (ws : List Str) : List Str := ws.flatMap λ a => l.map λ c => a ++ ⟨#[c]⟩
section
variable {s : Shared} {m : Str -> Option Value} {news : List (Addr × Obj)}
structure WNe (gO : Heap) (L I C D : Addr) (news : List (Addr × Obj)) : Prop where
 li : L ≠ I
 lc : C ≠ L
 ld : D ≠ L
 ic : I ≠ C
 id : I ≠ D
 cd : C ≠ D
 i0 : gO.get? I = none
 c0 : gO.get? C = none
 d0 : gO.get? D = none
 ni : ∀ p ∈ news, p.1 ≠ I
 nc : ∀ p ∈ news, p.1 ≠ C
 nd : ∀ p ∈ news, p.1 ≠ D
structure mL (gO : Heap) (L I C D ax : Addr) (m : Str -> Option Value) (news : List (Addr × Obj)) (i : Nat) (m' : Str -> Option Value) (ys : List Value) (h : Heap) : Prop where
 it : h.IsListIter I ax i
 fr : Fr gO L h m
 ns : h.Ns C m'
 acc : h.get? D = some (lst ys)
 nw : News gO L h news
variable {i : Nat} {m'' : Str -> Option Value} {ys' : List Value}
theorem mL.grown (S : mL gO L I C D ax m news i m' ys h) (k : ∀ b o, h.get? b = some o -> h'.get? b = some o) : mL gO L I C D ax m news i m' ys h' :=
 ⟨S.it.at λ o e => k _ o e, S.fr.keeps k, S.ns.at' λ o e => k _ o e, k _ _ S.acc, S.nw.grown k⟩
theorem mL.other {X : Addr} (S : mL gO L I C D ax m news i m' ys h) (hX : gO.get? X = none) (xi : I ≠ X) (xl : L ≠ X) (xc : C ≠ X) (xd : D ≠ X) (xn : ∀ p ∈ news, p.1 ≠ X) (k : ∀ b o, b ≠ X -> h.get? b = some o -> h'.get? b = some o) : mL gO L I C D ax m news i m' ys h' :=
 ⟨S.it.at λ o e => k _ o xi e, fr_but S.fr (λ b o hb => k b o λ e => hb (e ▸ List.mem_singleton.mpr rfl)) xl hX, S.ns.at' λ o e => k _ o xc e, k _ _ xd S.acc, news_but S.nw (λ b o hb => k b o λ e => hb (e ▸ List.mem_singleton.mpr rfl)) xn⟩
theorem mL.next (N : WNe gO L I C D news) (S : mL gO L I C D ax m news i m' ys h) (hi : h'.IsListIter I ax j) (k : ∀ b o, b ∉ [I] -> h.get? b = some o -> h'.get? b = some o) : mL gO L I C D ax m news j m' ys h' :=
 ⟨hi, fr_but S.fr k N.li N.i0, S.ns.at' λ o e => k _ o (λ e => N.ic (List.mem_singleton.mp e).symm) e, k _ _ (λ e => N.id (List.mem_singleton.mp e).symm) S.acc, news_but S.nw k N.ni⟩
theorem mL.set (N : WNe gO L I C D news) (S : mL gO L I C D ax m news i m' ys h) (hn : h'.Ns C m'') (k : Heap.SameBut C h h') : mL gO L I C D ax m news i m'' ys h' :=
 ⟨S.it.at λ o e => k.extBut _ o N.ic e, fr_but S.fr (λ b o hb => k.extBut b o λ e => hb (e ▸ List.mem_singleton.mpr rfl)) (Ne.symm N.lc) N.c0, hn, k.extBut _ _ (Ne.symm N.cd) S.acc, news_but S.nw (λ b o hb => k.extBut b o λ e => hb (e ▸ List.mem_singleton.mpr rfl)) N.nc⟩
theorem mL.app (N : WNe gO L I C D news) (S : mL gO L I C D ax m news i m' ys h) (hn : h'.get? D = some (lst ys')) (k : Heap.SameBut D h h') : mL gO L I C D ax m news i m' ys' h' :=
 ⟨S.it.at λ o e => k.extBut _ o N.id e, fr_but S.fr (λ b o hb => k.extBut b o λ e => hb (e ▸ List.mem_singleton.mpr rfl)) (Ne.symm N.ld) N.d0, S.ns.sameBut k N.cd, hn, news_but S.nw (λ b o hb => k.extBut b o λ e => hb (e ▸ List.mem_singleton.mpr rfl)) N.nd⟩
variable {p1 p2 p3 cp pos : Pos} {tx : Str} {kk : Nat} {l : List Nat}
theorem aaJ {I2 : Addr} {a : Str} {dn : List Str} {R : Result -> Shared -> Prop} (hh : A.handled = none) (hkind : scope.kind = .function) (hx : scope.names.lookup x = some .local) (hy : scope.names.lookup y = some .local) (hxy : x ≠ y) (dx : (x == ("__debug__" : Str)) = false) (dy : (y == ("__debug__" : Str)) = false) (N : WNe gO L I C D news) (hl : tx.cps.toList = l) (hz : a.length < 1000) (hz2 : dn.length + l.length < 10000) (n2 : gO.get? I2 = none) (e1 : I ≠ I2) (e2 : L ≠ I2) (e3 : C ≠ I2) (e4 : D ≠ I2) (e5 : ∀ p ∈ news, p.1 ≠ I2) (S : mL gO L I C D ax m news i m' ys s.heap) (ha : m' x = some (.str a u)) (h2 : s.heap.IsStrIter I2 "str_ascii_iterator" tx t 0) (hys : StrsAre ys dn) (done : ∀ h tk m' ys, mL gO L I C D ax m news i m' ys h -> StrsAre ys (dn ++ l.map λ c => a ++ ⟨#[c]⟩) -> R (.ok .next) { s with heap := h, toks := tk }) : codeAny (model prog w) A (.compLoop (bR x y p1 p2 p3 px py cp pos iter tx kk scope) 1 (.ref I2) (.ref D) (compEnvC scope cl C env)) R s := by
 subst hl;have hcs : tx.cps.size = tx.cps.toList.length := by simp
 refine codeAny_loop rfl (λ k s' => Ex5 λ h tk j m' ys => Al7 (s' = { s with heap := h, toks := tk }) (j <= tx.cps.toList.length) (k = tx.cps.toList.length + 1 - j) (mL gO L I C D ax m news i m' ys h) (m' x = some (.str a u)) (h.IsStrIter I2 "str_ascii_iterator" tx t j) (StrsAre ys (dn ++ (tx.cps.toList.take j).map λ c => a ++ ⟨#[c]⟩))) ?_ (tx.cps.toList.length + 1)
   ⟨s.heap, s.toks, 0, m', ys, rfl, Nat.zero_le _, rfl, S, ha, h2, by rw [List.take_zero, List.map_nil, List.append_nil]; exact hys⟩
 intro k s' hr9_2;tm_at "X";obtain ⟨h, tk, j, m₁, ys₁, rfl, hj, rfl, S₁, ha₁, st, hs⟩ := hr9_2;tm_at "V";show wpAny _ A ((compTurn (bR x y p1 p2 p3 px py cp pos iter tx kk scope) 1 (.ref I2) (.ref D) (compEnvC scope cl C env)).onRaise (λ x => do noteFrame x _; theTreesLotGoes x)) _ _ _;refine wpAny_noted ?_;rw [tE];tm_at "bb";have W := Walks.strAscii (prog := prog) (w := w) hh I2 tx t;have keep2 : ∀ {h₁ h₂ : Heap} {i m' ys}, mL gO L I C D ax m news i m' ys h₁ -> (∀ b o, b ∉ [I2] -> h₁.get? b = some o -> h₂.get? b = some o) -> mL gO L I C D ax m news i m' ys h₂ := λ S k => S.other n2 e1 e2 e3 e4 e5 λ b o hb => k b o λ e => hb (List.mem_singleton.mp e)
 by_cases hlt : j < tx.cps.size
 · refine W.item j _ _ _ hlt st λ v h₂ tk₂ hv st₂ k₂ => ?_
   tm_at "X";obtain ⟨c, u₂, hc, rfl⟩ := hv;tm_at "V";have S₂ := keep2 S₁ k₂;refine wpAny_bind (wpAny_of_eq rfl (wpAny_bind ?_));refine wpAny_assign_Name (wpAny_storeName_local (lookup_relabel_local hy) S₂.ns (λ h₃ hn₃ hs₃ => ?_) (by simp [compEnvC, relabel, hkind]));have S₃ := S₂.set N hn₃ hs₃;refine wpAny_bind (wpAny_bind (wpAny_BinOp (wpAny_Name (wpAny_loadName_local hkind (lookup_relabel_local hx) S₃.ns (v := .str a u) ?_ (wpAny_Name (wpAny_loadName_local hkind (lookup_relabel_local hy) S₃.ns (v := .str ⟨#[c]⟩ u₂) ?_ ?_) dy)) dx)))
   · show (if x = y then _ else _) = _
     rw [if_neg hxy]; exact ha₁
   · exact if_pos rfl
   refine PyProof.Rows.add_str (λ t' tk' => ?_) ?_
   · refine wpAny_bind (append_at S₃.acc (λ h₄ hs₄ hD₄ => wpAny_pure (wpAny_pure ⟨rfl, tx.cps.toList.length + 1 - (j + 1), ?_, h₄, tk', j + 1, _, ys₁ ++ [.str (a ++ ⟨#[c]⟩) t'], rfl, ?_, rfl, S₃.app N (hD₄.trans (congrArg some (lst_snoc _ _))) hs₄, ?_, ?_, ?_⟩)) ?_)
     · exact lA hlt
     · lia
     · show (if x = y then _ else _) = _
       rw [if_neg hxy]; exact ha₁
     · refine Classical.byContradiction λ hG9 => ?_
       obtain ⟨o, e, r⟩ := st₂;tm_at "V";exact ⟨o, hs₄.extBut _ _ (Ne.symm e4) (hs₃.extBut _ _ (Ne.symm e3) e), r⟩
     · rw [List.take_add_one, show tx.cps.toList[j]? = some c from Array.getElem?_toList.trans hc, List.map_append, <- List.append_assoc]
       exact bQ hs (.cons _ _ .nil)
     · have := hs.length
       simp only [List.length_append, List.length_map, List.length_take] at this;show ys₁.toArray.size <= sizeLine;rw [List.size_toArray, sizeLine_eq];lia
   · show a.length + 1 <= sizeLine
     rw [sizeLine_eq]; lia
 · have : j = tx.cps.size := by lia
   subst this;refine W.done _ _ _ st λ h₂ tk₂ k₂ => wpAny_pure ?_
   refine done h₂ tk₂ m₁ ys₁ (keep2 S₁ k₂) ?_;rw [hcs, List.take_length] at hs;exact hs
theorem tG {it acc : Value} {e' : Env} {R : Result -> Shared -> Prop} (h : codeAny (model prog w) A (.compLoop (bR x y p1 p2 p3 px py cp pos iter tx kk scope) 1 it acc e') R s) (h' : wpAny (model prog w) A (pyIter it) (λ it' s' => codeAny (model prog w) A (.compLoop (bR x y p1 p2 p3 px py cp pos iter tx kk scope) 1 it' acc e') R s') (notedBy (model prog w) A e' λ x s' => R (.error x) s') s) : codeAny (model prog w) A (.compStart (bR x y p1 p2 p3 px py cp pos iter tx kk scope) 1 it acc e') R s := by
 refine codeAny_of_tree ?_;show wpAny _ _ ((compStart (bR x y p1 p2 p3 px py cp pos iter tx kk scope) 1 it acc e').onRaise (λ x => do noteFrame x e'; standAt theWindowsPlace)) _ _ s;refine wpAny_notedAt ?_;unfold compStart;show wpAny _ _ (ask >>= _) _ _ s;refine wpAny_bind (wpAny_askSetting (wpAny_ite ?_));split
 · exact wpAny_pure ⟨rfl, h⟩
 · refine wpAny_bind (wpAny_rule ?_)
   show wpAny _ _ (standAt cp >>= _) _ _ s;exact wpAny_bind (wpAny_standAt (wpAny_bind (wpAny_mono h' (λ it' s' q => wpAny_pure (And.intro rfl q)) λ _ _ q => q)))
theorem ac9 {vs : List Value} {ws : List Str} (h : StrsAre vs ws) : ∀ {i : Nat} {v : Value}, vs[i]? = some v -> ∃ a u, v = .str a u /\ ws[i]? = some a := by
 induction h with
 | nil => exact λ e => by cases e
 | @cons a u _ _ _ ih =>
   intro i v e;cases i with
   | zero => cases e; exact ⟨a, u, rfl, rfl⟩
   | succ i => exact ih e
theorem tH {l : List Nat} {ws : List Str} {i : Nat} {a : Str} (h : ws[i]? = some a) : dh l (ws.take (i + 1)) = dh l (ws.take i) ++ l.map λ c => a ++ ⟨#[c]⟩ := by
 unfold dh;rw [List.take_add_one, h, List.flatMap_append];simp
theorem mO (l : List Nat) (ws : List Str) : (dh l ws).length = ws.length * l.length := by
 unfold dh
 induction ws with
 | nil => simp
 | cons a r ih => rw [List.flatMap_cons, List.length_append, ih, List.length_map, List.length_cons, Nat.succ_mul]; lia
theorem yR {vs : List Value} {ws : List Str} {kl : Nat} {R : Result -> Shared -> Prop} (hh : A.handled = none) (hkind : scope.kind = .function) (hx : scope.names.lookup x = some .local) (hy : scope.names.lookup y = some .local) (hxy : x ≠ y) (dx : (x == ("__debug__" : Str)) = false) (dy : (y == ("__debug__" : Str)) = false) (N : WNe gO L I C D news) (hl : tx.cps.toList = l) (ha : tx.cps.all (· < 128) = true) (hm : (ax, listOf vs.toArray kl) ∈ news) (hvs : StrsAre vs ws) (hz : ∀ a ∈ ws, a.length < 1000) (hz2 : ws.length * l.length + l.length < 10000) (S : mL gO L I C D ax m news 0 m' [] s.heap) (done : ∀ h tk m' ys, Fr gO L h m -> h.Ns C m' -> h.get? D = some (lst ys) -> News gO L h news -> StrsAre ys (dh l ws) -> R (.ok .next) { s with heap := h, toks := tk }) : codeAny (model prog w) A (.compLoop (bR x y p1 p2 p3 px py cp pos iter tx kk scope) 0 (.ref I) (.ref D) (compEnvC scope cl C env)) R s := by
 have hlen : vs.length = ws.length := hvs.length;refine codeAny_loop rfl (λ k s' => Ex5 λ h tk i m' ys => Al5 (s' = { s with heap := h, toks := tk }) (i <= vs.length) (k = vs.length + 1 - i) (mL gO L I C D ax m news i m' ys h) (StrsAre ys (dh l (ws.take i)))) ?_ (vs.length + 1)
   ⟨s.heap, s.toks, 0, m', [], rfl, Nat.zero_le _, rfl, S, .nil⟩
 intro k s' hr9_2;tm_at "X";obtain ⟨h, tk, i, m₁, ys₁, rfl, hi, rfl, S₁, hs⟩ := hr9_2;tm_at "V";show wpAny _ A ((compTurn (bR x y p1 p2 p3 px py cp pos iter tx kk scope) 0 (.ref I) (.ref D) (compEnvC scope cl C env)).onRaise (λ x => do noteFrame x _; theTreesLotGoes x)) _ _ _;refine wpAny_noted ?_;rw [tD];tm_at "bb";have W := Walks.list (prog := prog) (w := w) hh I ax (N.ni _ hm) vs.toArray;have hL : h.IsList ax vs.toArray := News.isList S₁.nw hm
 by_cases hlt : i < vs.length
 · refine W.item i _ _ _ (by rw [List.size_toArray]; exact hlt) ⟨S₁.it, hL⟩ λ v h₂ tk₂ hv st₂ k₂ => ?_
   tm_at "X";obtain ⟨a, u, rfl, ea⟩ := ac9 hvs (by simpa using hv);tm_at "V";have S₂ := S₁.next N st₂.1 k₂;refine wpAny_bind (wpAny_of_eq rfl (wpAny_bind ?_));refine wpAny_assign_Name (wpAny_storeName_local (lookup_relabel_local hx) S₂.ns (λ h₃ hn₃ hs₃ => ?_) (by simp [compEnvC, relabel, hkind]));have S₃ := S₂.set N hn₃ hs₃;refine wpAny_bind (Constant_str (wpAny_bind (wpAny_standAt (wpAny_bind (wpAny_of_eq rfl (wpAny_bind (wpAny_holding (wpAny_pyIter_ascii ha ?_))))))));have S₄ := S₃.grown λ b o e => Heap.get?_push_of_some { cls := .type "str_ascii_iterator", data := .fields #[.str tx (tk₂ + 1), .int 0 0] } e
   have lt : ∀ {b o}, h₃.get? b = some o -> b ≠ h₃.objs.size := λ e => Nat.ne_of_lt (Heap.lt_size e)
   have fr2 : gO.get? h₃.objs.size = none := by
     cases q : gO.get? h₃.objs.size with
     | none => rfl
     | some o => exact absurd (S₃.fr.keep _ _ q) λ e => lt e rfl
   have w1 := hs.length;rw [mO, List.length_take] at w1;have w2 : ws.length * l.length < 10000 := by lia
   have w3 : min i ws.length * l.length + l.length < 10000 := Nat.lt_of_le_of_lt (Nat.add_le_add_right (Nat.mul_le_mul_right _ (Nat.min_le_right _ _)) _) hz2;refine wpAny_bind (wpAny_runOwn (tG ?_ (wpAny_pyIter_striter_ascii (x := tx) (t := tk₂ + 1) (i := 0) ⟨_, Heap.get?_push_size _ rfl, rfl, rfl⟩ ?_)))
   all_goals
     refine aaJ (s := ⟨h₃.push { cls := .type "str_ascii_iterator", data := .fields #[.str tx (tk₂ + 1), .int 0 0] }, _, _, _, _⟩) hh hkind hx hy hxy dx dy N hl (hz a (List.mem_of_getElem? ea)) (by rw [mO, List.length_take]; exact w3) fr2 ?_ ?_ ?_ ?_ ?_ S₄ (if_pos rfl) ⟨_, Heap.get?_push_size _ rfl, rfl, rfl⟩ hs ?_
     · refine Classical.byContradiction λ hG9 => ?_
       obtain ⟨o, e, _⟩ := S₃.it;tm_at "V";exact lt e
     · exact Nat.ne_of_lt S₃.fr.ns.lt
     · exact Nat.ne_of_lt S₃.ns.lt
     · exact lt S₃.acc
     · exact λ p hp => lt (S₃.nw p hp).1
     · intro h₅ tk₅ m₅ ys₅ S₅ hs₅
       exact wpAny_pure ⟨rfl, vs.length + 1 - (i + 1), lA hlt, h₅, tk₅, i + 1, m₅, ys₅, rfl, by lia, rfl, S₅, by rw [tH ea]; exact hs₅⟩
 · have : i = vs.length := by lia
   subst this;refine W.done _ _ _ (by rw [List.size_toArray]; exact ⟨S₁.it, hL⟩) λ h₂ tk₂ k₂ => wpAny_pure ?_
   rw [hlen, List.take_length] at hs;exact done h₂ tk₂ m₁ ys₁ (fr_but S₁.fr k₂ N.li N.i0) (S₁.ns.at' λ o e => k₂ _ o (λ e => N.ic (List.mem_singleton.mp e).symm) e) (k₂ _ _ (λ e => N.id (List.mem_singleton.mp e).symm) S₁.acc) (news_but S₁.nw k₂ N.ni) hs
inductive mQ (prog : Program) (w : World) (A : Around) (gO : Heap) (L : Addr) (m : Str -> Option Value) (l : List Nat) (z : Str) (Q : Flow -> Shared -> Prop) (xv : Value) (gJ : Shared) : Prop
 | mk : ∀ ax vs kl ws news, xv = .ref ax -> A.handled = none -> Fr gO L gJ.heap m -> News gO L gJ.heap news -> (ax, listOf vs.toArray kl) ∈ news -> StrsAre vs ws -> (∀ a ∈ ws, a.length < 1000) -> ws.length * l.length + l.length < 10000 ->
     (∀ h tk D ys, Fr gO L h (λ n => if n = z then some (.ref D) else m n) -> News gO L h ((D, listOf ys.toArray ys.length) :: news) -> (∀ p ∈ news, p.1 < D) -> StrsAre ys (dh l ws) -> Q .next { gJ with heap := h, toks := tk }) -> mQ prog w A gO L m l z Q xv gJ
theorem qH {z : Str} {pz spos : Pos} {Q : Flow -> Shared -> Prop} (F₀ : Fr gO L s.heap m) (hLe : env.locals = L) (hsw : swapsWith (bR x y p1 p2 p3 px py cp pos iter tx kk scope) (some (.Name z pz)) spos.line env = pure true) (hclos : closureFor scope env = pure cl) (hcell : ∀ n ∈ scope.names, n.2 ≠ .cell) (hkind : scope.kind = .function) (hnames : ∀ n ∈ scope.names, n.2 = .local -> scope.names.lookup n.1 = some .local) (hx : scope.names.lookup x = some .local) (hy : scope.names.lookup y = some .local) (hxy : x ≠ y) (dx : (x == ("__debug__" : Str)) = false) (dy : (y == ("__debug__" : Str)) = false) (hl : tx.cps.toList = l) (ha : tx.cps.all (· < 128) = true) (hz : env.kindOf z = some .local) (hp : (env.scope.kind == .class || (env.scope.kind == .module && env.locals != env.globals)) = false) (h : wpAny (model prog w) A (eval iter env) (mQ prog w A gO L m l z Q) E s) (hs : ∀ x, foldedSetIterable iter env x = pure x) : wpAny (model prog w) A (exec (.Assign [.Name z pz] (bR x y p1 p2 p3 px py cp pos iter tx kk scope) spos) env) Q E s := by
 subst hLe;rw [exec_Assign_Name_used _ _ _ _ hsw];tm_at "bb";show wpAny _ A (do let _ <- comprehension (bR x y p1 p2 p3 px py cp pos iter tx kk scope) scope env _ (newList []) false (eval iter env) (some (assign (.Name z pz) env))) _ _ s;refine wpAny_bind (wpAny_mono (wpAny_comprehension_free (use := some (assign (.Name z pz) env)) (Q := λ _ s' => Q .next s') rfl hs hclos hkind hnames
   (wpAny_mono h (λ xv gJ h₁ => ?_) λ _ _ e => e)) (λ _ s' hq => wpAny_pure (wpAny_pure hq)) λ _ _ e => e)
 refine h₁.casesOn λ ax vs kl ws news ex hh F N hm hvs hz1 hz2 done => ?_
 subst ex;refine wpAny_pyIter_list (News.isList N hm) ?_;generalize hI : gJ.heap.push { cls := .type "list_iterator", data := .fields #[.ref ax, .int 0 0] } = H1;have up : ∀ b o, gJ.heap.get? b = some o -> H1.get? b = some o := λ b o e => hI ▸ Heap.get?_push_of_some _ e
 have gI : H1.get? gJ.heap.objs.size = some { cls := .type "list_iterator", data := .fields #[.ref ax, .int 0 0] } := hI ▸ Heap.get?_push_size _ rfl;refine wpAny_newObj_type (wpAny_newFunctionEnv hcell (by intro n hn; simp at hn) (λ h₁ hn₁ hs₁ => ?_) hkind);dsimp only at hn₁ hs₁ ⊢;generalize hH2 : H1.push { cls := .type "list", dict := none, data := .seq ([] : List Value).toArray } = H2 at hn₁ hs₁ ⊢;have up2 : ∀ b o, H1.get? b = some o -> H2.get? b = some o := λ b o e => hH2 ▸ Heap.get?_push_of_some _ e
 have lt1 : ∀ {b o}, gJ.heap.get? b = some o -> b < gJ.heap.objs.size := λ e => Heap.lt_size e
 have lt2 : ∀ {b o}, H1.get? b = some o -> b < H1.objs.size := λ e => Heap.lt_size e
 have lt3 : ∀ {b o}, H2.get? b = some o -> b < H2.objs.size := λ e => Heap.lt_size e
 have s12 : gJ.heap.objs.size < H1.objs.size := lt2 gI;have gD : H2.get? H1.objs.size = some (lst []) := hH2 ▸ Heap.get?_push_size _ rfl;have s23 : H1.objs.size < H2.objs.size := lt3 gD;have old : ∀ b o, H2.get? b = some o -> h₁.get? b = some o := λ b o e => hs₁.extBut b o (Nat.ne_of_lt (lt3 e)) (Heap.get?_push_of_some _ e)
 have none : ∀ {X}, gJ.heap.objs.size <= X -> gO.get? X = none := λ {X} hX => by
   cases q : gO.get? X with
   | none => rfl
   | some o => exact absurd (lt1 (F.keep _ _ q)) (Nat.not_lt.mpr hX)
 have hL := lt1 (F.ns.choose_spec.choose_spec.choose_spec.1);have hn : ∀ p ∈ news, p.1 < gJ.heap.objs.size := λ p hp => lt1 (N p hp).1
 have NE : WNe gO env.locals gJ.heap.objs.size H2.objs.size H1.objs.size news :=
   ⟨Nat.ne_of_lt hL, Nat.ne_of_gt (by lia), Nat.ne_of_gt (by lia), Nat.ne_of_lt (by lia), Nat.ne_of_lt s12, Nat.ne_of_gt s23, none (Nat.le_refl _), none (by lia), none (Nat.le_of_lt s12), λ p hp => Nat.ne_of_lt (hn p hp), λ p hp => Nat.ne_of_lt (by have := hn p hp; lia), λ p hp => Nat.ne_of_lt (by have := hn p hp; lia)⟩
 have S : mL gO env.locals gJ.heap.objs.size H2.objs.size H1.objs.size ax m news 0 _ [] h₁ :=
   ⟨⟨_, old _ _ (up2 _ _ gI), rfl, rfl⟩, F.keeps λ b o e => old _ _ (up2 _ _ (up _ _ e)), hn₁, old _ _ gD, N.grown λ b o e => old _ _ (up2 _ _ (up _ _ e))⟩
 have loop : codeAny (model prog w) A (.compLoop (bR x y p1 p2 p3 px py cp pos iter tx kk scope) 0 (.ref gJ.heap.objs.size) (.ref H1.objs.size) (compEnvC scope cl H2.objs.size env)) (compPost (model prog w) A E (some (assign (.Name z pz) env)) (λ _ s' => Q .next s') (.ref H1.objs.size) H2.objs.size) ⟨h₁, gJ.gens, gJ.drawn, gJ.toks + ([] : List (Str × Value)).length, gJ.os⟩ := by
   refine yR hh hkind hx hy hxy dx dy NE hl ha hm hvs hz1 hz2 S λ h tk m' ys F' hn' hD' N' hys => ?_
   show wpAny _ A (assign (.Name z pz) env (.ref H1.objs.size)) _ _ _;refine wpAny_assign_Name (wpAny_storeName_local hz F'.ns (λ h₂ hn₂ hs₂ => ⟨m', hn'.sameBut hs₂ NE.lc, λ h'' hs'' => ?_⟩) hp);have hL₀ : gO.get? env.locals = Option.none := Heap.get?_none_of_le F'.above;have F₂ : Fr gO env.locals h₂ (λ n => if n = z then some (.ref H1.objs.size) else m n) := ⟨hn₂, λ b o e => hs₂.extBut b o (λ q => by rw [q, hL₀] at e; cases e) (F'.keep b o e), F'.above⟩;refine done h'' _ H1.objs.size ys (F₂.change hs'' NE.lc NE.c0) (λ p hp => ?_) (λ p hp => Nat.lt_trans (hn p hp) s12) hys;tm_at "an"
   · exact ⟨hs''.extBut _ _ (Ne.symm NE.cd) (hs₂.extBut _ _ NE.ld hD'), NE.ld, NE.d0⟩
   · exact ⟨hs''.extBut _ _ (NE.nc p hp) (hs₂.extBut _ _ (N' p hp).2.1 (N' p hp).1), (N' p hp).2⟩
 exact codeAny_compStart_list loop (wpAny_pyIter_listiter S.it loop)
end
end
section
set_option tactic.hygienic false
open PySem.Spec PySem.Calls
noncomputable def aW : Nat -> List Str
 | 0 => [ofString ""]
 | n + 1 => dh [102, 105] (aW n)
theorem tK {n : Nat} (h : n <= 4) : (∀ a ∈ aW n, a.length < 1000) /\ (aW n).length * 2 + 2 < 10000 := by
 have : n = 0 \/ n = 1 \/ n = 2 \/ n = 3 \/ n = 4 := by lia
 rcases this with rfl | rfl | rfl | rfl | rfl <;> exact ⟨by decide +kernel, by decide +kernel⟩
noncomputable abbrev tL (c : WdC) : List (Addr × Obj) := [(c.D, listOf c.vs.toArray c.k)]
noncomputable abbrev afD (c : WdC) : List (Str × Value) := [(ofString "words", .ref c.D)]
noncomputable abbrev wdP (rest : List (Addr × Obj)) (pre : List Nat) (c : WdC) : Prop := StrsAre c.vs (aW pre.length) /\ ∀ p ∈ rest, p.1 < c.D
theorem vA {vs : List Value} {pre : List Nat} {a : Nat} (h : StrsAre vs (dh [102, 105] (aW pre.length))) : StrsAre vs (aW (pre ++ [a]).length) := by
 rw [List.length_append]; exact h
theorem tM (n : Nat) : Builtin.Range.rangeSize 0 (n : Int) 1 = (n : Int) := by
 rw [bc, Int.sub_zero, Int.toNat_natCast]
end
section
set_option tactic.hygienic false
open PySem.Spec PySem.Calls PyProof.Rows.LCg
theorem ph {a : Addr} {l : List (Addr × Obj)} (k : Nat) (h : AllLt a l) : ∀ p ∈ l, @Ne Nat p.1 (a + (k + 1)) := λ p hp => Nat.ne_of_lt (Nat.lt_of_lt_of_le (aN h p hp) (Nat.le_add_right _ _))
noncomputable def mR (n : Nat) : List Int := List.map (λ k' : Int => (2 : Int) ^ ((n : Int) - 2 - k').toNat) (rangeKs 0 ((n : Int) - 1 - 0).toNat) ++ [0, 1]
theorem jt {n : Nat} (h : 2 <= n /\ n <= 4) : (mR n).length = n + 1 := by
 tm_at "bd";rcases this with rfl | rfl | rfl <;> rfl
theorem ada {n : Nat} {a : Int} {i : Nat} (h : 2 <= n /\ n <= 4) : IntMulOk a ((mR n).getD i 0) := by
 have h1 : ∀ v ∈ mR n, 0 <= v /\ v <= 8 := by
   tm_at "bd";rcases this with rfl | rfl | rfl <;> decide
 have h2 : 0 <= (mR n).getD i 0 /\ (mR n).getD i 0 <= 8 := by
   rw [List.getD_eq_getElem?_getD];cases e : (mR n)[i]? with
   | none => exact ⟨by decide, by decide⟩
   | some v => exact h1 v (List.mem_of_getElem? e)
 exact .of_right (PySem.intBits_le_64 (by lia) (by lia))
noncomputable def lB (n : Nat) (t : Int) (r : Nat) : Int := Int.fdiv (0 + (r : Int)) t * (mR n).getD (0 + (r : Int)).toNat 0
noncomputable def afE (n : Nat) (t : Int) : Int := ((List.range (n + 1)).map (lB n t)).sum
noncomputable def aaK (n : Nat) (t : Int) : Int := t * ((2 : Int) ^ ((n : Int) - 1).toNat + afE n t)
noncomputable def cM (n top : Nat) : List Int := (List.range top).map λ (j : Nat) => aaK n (1 + (j : Int))
inductive qI (Dn T : Addr) (n j : Nat) (vs : List Value) (rest : List (Addr × Obj)) (gY m' : Str -> Option Value) (news' : List (Addr × Obj)) : Prop
 | mk : jo [] m' gY -> ∀ k tk o vv, o.data = .cell vv -> news' = (Dn, listOf (vs ++ [Value.int (aaK n (1 + (j : Int))) tk]).toArray k) :: (T, o) :: rest -> qI Dn T n j vs rest gY m' news'
section
variable {s : Shared} {Q : Flow -> Shared -> Prop}
theorem yS {r Dn : Addr} {v : Tok} {n top : Nat} {v0 : Option Value} {Dc : Addr} {ck : Nat} {cv : List Value} {C1 : Addr} {oc : Obj} {all : List (Addr × Obj)} (_hn : 2 <= n /\ n <= 4) (_hi : IntsAre cv (mR n)) (_hc : oc.data = .cell (some (.ref Dc))) (_hr : ∀ p ∈ n', p ∈ n') (_hT : env.cells.lookup nm = some T) (hb : b = (top : Int) + 1) (ht : top <= 5) (hh : A.handled = none) (F : Fr gO env.locals s.heap gY) (N : News gO env.locals s.heap all) (hc0 : o0.data = .cell v0) (hsub : ∀ p ∈ (Dn, listOf #[] k0) :: (T, o0) :: (Dc, listOf cv.toArray ck) :: (C1, oc) :: n', p ∈ all) (hr : IsRange s.heap r 1 b 1 t u v) (turn : ∀ I (j : Nat) t it h tk vs k o vv, j < top -> vs.length <= 5 -> o.data = .cell vv -> (∀ p ∈ (Dn, listOf vs.toArray k) :: (T, o) :: (Dc, listOf cv.toArray ck) :: (C1, oc) :: n', p.1 ≠ I) -> Fr gO env.locals h gY -> News gO env.locals h ((I, it) :: (Dn, listOf vs.toArray k) :: (T, o) :: (Dc, listOf cv.toArray ck) :: (C1, oc) :: n') -> wpAny (model prog w) A (assign (.Name nm px) env (.int (1 + (j : Int)) t)) (λ _ gQ => wpAny (model prog w) A (execs body env) (dj gO env.locals (yx s) I it (qI Dn T n j vs ((Dc, listOf cv.toArray ck) :: (C1, oc) :: n') gY) Q) E gQ) E { s with heap := h, toks := tk }) (done : ∀ h tk vs k o, IntsAre vs (cM n top) -> Fr gO env.locals h gY -> News gO env.locals h ((Dn, listOf vs.toArray k) :: (T, o) :: (Dc, listOf cv.toArray ck) :: (C1, oc) :: n') -> wpAny (model prog w) A (execs orelse env) Q E { s with heap := h, toks := tk }) : wpAny (model prog w) A (pyIter (.ref r)) (λ it gQ => eX prog w A gO env (.Name nm px) body orelse Q E it gQ) E s := by
 let Led : ahz -> List (Addr × Obj) := λ c => (Dn, listOf c.vs.toArray c.k) :: (T, c.o) :: (Dc, listOf cv.toArray ck) :: (C1, oc) :: n'
 let P : List Nat -> ahz -> Prop := λ pre c => IntsAre c.vs (pre.map λ (j : Nat) => aaK n (1 + (j : Int))) /\ ∃ vv, c.o.data = .cell vv
 refine gw (n := top) (Ok := yx s) [] Led P ⟨[], k0, o0⟩ hh F (λ p hp => N p (hsub p hp)) (okU s) ⟨s.heap, s.toks, rfl⟩ hr (small_one (by lia) (by lia) (by lia) (by lia)) (by rw [bc, hb, Int.add_sub_cancel, Int.toNat_natCast]) ⟨.nil, _, hc0⟩ (λ _ _ => rfl) ?_ ?_
 · intro I pre j post t c u it s' e hj ej hp off ok F' N'
   refine hp.2.elim λ vv hv => ok.casesOn λ h tk es => ?_
   subst es;have hl := hp.1.length;rw [List.length_map, ej, List.length_range] at hl;refine wpAny_mono (turn I j t it h tk c.vs c.k c.o vv hj (by lia) hv off F' N') (λ _ gJ q₁ => wpAny_mono q₁ (λ f gQ q => fB (λ m' news' _ z => ?_) q) λ _ _ e => e) λ _ _ e => e
   refine z.casesOn λ ho k tk o vv hv e => ?_
   subst e;refine ⟨ho, ⟨_, k, o⟩, ⟨?_, vv, hv⟩, rfl⟩;rw [List.map_append];exact intsAre_append hp.1 (.cons _ _ .nil)
 · intro c u s' hp ok F' N'
   tm_at "aV";subst es;exact done h tk c.vs c.k c.o hp.1 F' N'
variable {m : Str -> Option Value} {news : List (Addr × Obj)}
theorem yU {Fin : Shared -> List Value -> List (Addr × Obj) -> Prop} {r : Addr} {v : Tok} {n : Nat} {oT : Obj} (_hn : 2 <= n /\ n <= 4) (_hT : oT.data = .cell (some (.int z tz))) (hb : b = (n : Int) + 1) (hh : A.handled = none) (F : Fr gO L s.heap m) (N : News gO L s.heap news) (hr : IsRange s.heap r 0 b 1 t u v) (turn : ∀ g (i : Nat) t I oI C oC D ys gW h tk (E' : Value -> Shared -> Prop), i < n + 1 -> (∀ a, IntMulOk a ((mR n).getD (0 + (i : Int)).toNat 0)) -> NsObj oC gW -> gW x = some (.int (0 + (i : Int)) t) -> Fr gO L h m -> News gO L h ((I, oI) :: (C, oC) :: (D, LCg.lst ys) :: news) -> Off3 I C D news -> ((@Ne Nat I C) /\ (@Ne Nat I D) /\ (@Ne Nat C D)) -> wpAny (model prog w) A (eval elt (compEnvC scope cl C env)) (LCg.CompEnd gO L m { { s with heap := g } with heap := h, toks := tk } I oI C oC D (LCg.lst ys) (λ _ => True) (λ y news' => (∃ t, y = .int (lB n z i) t) /\ news' = news)) E' { { s with heap := g } with heap := h, toks := tk }) (done : ∀ g ys, IntsAre ys ((List.range (n + 1)).map (lB n z)) -> Fin { s with heap := g } ys news) : LCg.CompSrc prog w A gO L m env elt x scope cl Fin (.ref r) s :=
 eG (n := n + 1) (λ (i : Nat) y => ∃ t, y = .int (lB n z i) t) hh F N hr (small_one (by lia) (by lia) (by lia) (by lia)) (by rw [bc, hb, Int.sub_zero]; lia) (by rw [sizeLine_eq]; lia) (λ g i t I oI C oC D ys gW h tk E' hi => turn g i t I oI C oC D ys gW h tk E' hi λ _ => ada _hn) λ g ys h => done g ys (aU.intsF h)
theorem adb {k : Nat} {vs : List Value} {ns : List Int} {Q : Value -> Shared -> Prop} (F : Fr gO L s.heap m) (N : News gO L s.heap news) (hh : A.handled = none) (hi : IntsAre vs ns) (hm : (D, listOf vs.toArray k) ∈ news) (h : ∀ h' tk t', Fr gO L h' m -> News gO L h' news -> Q (.int ns.sum t') { s with heap := h', toks := tk }) : wpAny (model prog w) A (call (.builtin "sum") [.ref D]) Q E s :=
 LSm.sum_ints F N hh (News.isList N hm) hi h
end
end
section
set_option tactic.hygienic false
open PySem.Spec PySem.Calls
section
variable {s : Shared} {x : Addr} {its : Array Value} {n : Nat} {sl : Array (Option Value)} {m : Str -> Option Value} {news : List (Addr × Obj)}
theorem vB {v : Value} {Q : Value -> Shared -> Prop} {od' : Option Obj} (X : K.In s.heap) (I : InstAt s.heap x ox C od') (hq : noSeq K C = true) (hs : findIn K (.ref C) "__getitem__" = some (some (.builtin "list.__getitem__"))) (hsl : subIn K (.ref C) (.type "list") = some true) (hd : ox.data = .seq its n) (hi : i = -1) (h1 : 0 < its.size) (hk : its[its.size - 1]? = some v) (h : Q v s) : wpAny (model prog w) A (getItem (.ref x) (.int i t)) Q E s := by
 have hf : Builtin.List.listFitsIndex i = true := by rw [hi]; decide
 tm_at "bH";tm_at "cG";tm_at "b6";subst hi;show wpAny _ _ ((Builtin.List.listItems (.ref x) >>= λ xs => pure ((seqIndex? (Int.negSucc 0) xs.size).bind λ i => xs[i]?.map (i, ·))) >>= _) _ _ s;refine wpAny_bind (wpAny_bind ?_);show wpAny _ _ (seqItems? (.ref x) >>= _) _ _ s;refine wpAny_bind (wpAny_seqItems I.at_ hd (wpAny_pure (wpAny_pure ?_)));have hidx : seqIndex? (Int.negSucc 0) its.size = some (its.size - 1) := by
   have := seqIndex_neg (k := -1) (n := its.size) (by decide) (by lia);rw [show (Int.negSucc 0) = -1 from rfl, this];exact congrArg some (by rw [Int.add_comm]; exact Int.toNat_sub _ 1)
 rw [hidx];simp only [Option.bind_some, hk, Option.map_some];exact wpAny_pure ⟨_, rfl, h⟩
theorem vC {r : Value} {Q : Value -> Shared -> Prop} (F : Fr gO L s.heap m) (X₀ : K.In gO) (N : News gO L s.heap news) (hx : (x, (⟨.ref C, some dx, .seq its n, sl⟩ : Obj)) ∈ news) (hd : (dx, od) ∈ news) (hi : i = -1) (h1 : 0 < its.size) (hk : its[its.size - 1]? = some r) (hq : noSeq K C = true) (hs : findIn K (.ref C) "__getitem__" = some (some (.builtin "list.__getitem__"))) (hsl : subIn K (.ref C) (.type "list") = some true) (hsub : subscripted slice false (.ref x) (.int i ti) = operate [.ref x, .int i ti] (getItem (.ref x) (.int i ti))) (hQ : wpAny (model prog w) A (letTemporaryGo value (.ref x) r >>= λ _ => pure r) Q E s) : wpAny (model prog w) A (subscriptTail value slice (.ref x) (.int i ti)) Q E s := by
 have I := bx N hx hd;have X := X₀.keeps F.keep;unfold subscriptTail getitemInPython;tm_at "bv";show wpAny _ _ (subscripted slice false (.ref x) (.int i ti) >>= _) _ _ _;rw [hsub];exact wpAny_bind (wpAny_operating (vB X I hq hs hsl rfl hi h1 hk hQ))
theorem pq (l : List aL) (q : aL) : 0 < (refs (l ++ [q])).toArray.size /\ (refs (l ++ [q])).toArray[(refs (l ++ [q])).toArray.size - 1]? = some (.ref q.a) := by simp [refs]
theorem adc {a b : Addr} {vs : List Value} {k : Nat} {Q : Value -> Shared -> Prop} (N : News gO L s.heap news) (h1 : (a, listOf vs.toArray k) ∈ news) (hi : StrsAre vs xs) (h2 : (b, listOf #[] k2) ∈ news) (hok : ∀ x ∈ xs, PyData.strOk x = true) (hu : A.units + 64 < cLine) (h : Q (.bool (!xs.isEmpty)) s) : wpAny (model prog w) A (compareOp .NotEq (.ref a) (.ref b)) Q E s := by
 refine ne_dataH (Reads.list (N.get h1) rfl rfl (StrsAre.reads _ hi)) (Reads.list (N.get h2) rfl rfl (StrsAre.reads _ .nil)) (cW hok) (cW λ _ h => absurd h List.not_mem_nil) hu ?_;have e : PyData.eqv (.list (xs.map PyData.str)) (.list (([] : List Str).map PyData.str)) = xs.isEmpty := by
   cases xs with
   | nil => simp [PyData.eqv, PyData.eqvAll]
   | cons _ _ => simp [PyData.eqv, PyData.eqvAll]
 rw [e]; exact h
theorem ade {a b : Addr} {vs : List Value} {x : Str} {k : Nat} {Q : Value -> Shared -> Prop} (N : News gO L s.heap news) (h1 : (a, listOf vs.toArray k) ∈ news) (hi : StrsAre vs (x :: xs)) (h2 : (b, listOf #[] k2) ∈ news) (hok : ∀ y ∈ x :: xs, PyData.strOk y = true) (hu : A.units + 64 < cLine) (h : Q (.bool true) s) :
   wpAny (model prog w) A (compareOp .NotEq (.ref a) (.ref b)) Q E s := adc N h1 hi h2 hok hu h
theorem UpdF.upd {o : Obj} {l : List (Addr × Obj)} {g : Obj -> List (Addr × Obj)} (U : UpdF d o l g) (o' : Obj) : Upd d o o' l (g o') := by
 induction U with
 | head h => exact .head h
 | tail h _ ih => exact .tail h ih
theorem aaL {k : Nat} {v : Value} {g : Obj -> List (Addr × Obj)} {Q : Value -> Shared -> Prop} (F : Fr gO L s.heap m) (N : News gO L s.heap news) (hi : i = 0) (hz : us.length <= 100) (U : UpdF D (listOf (v :: us).toArray k) news g) (h : ∀ h', Fr gO L h' m -> News gO L h' (g (listOf us.toArray (k + 1))) -> Q v { s with heap := h' }) : wpAny (model prog w) A (call (.builtin "list.pop") [.ref D, .int i u]) Q E s := by
 subst hi;exact kl_popAt (k := 0) (p := []) (q := us) (y := v) F N rfl (by rw [List.size_toArray]; exact StrLaws.seqIndex_nonneg (i := 0) (by decide) (by rw [List.length_cons]; lia)) rfl (UpdF.upd U _) (by show us.length + 1 <= _; rw [sizeLine_eq]; lia) h
end
noncomputable abbrev aD (l : List Nat) : Str := ⟨l.toArray⟩
noncomputable abbrev one (c : Nat) : Str := ⟨#[c]⟩
end
section
open PySem.Spec PySem.Calls
noncomputable abbrev cO (x dx nt dc : Addr) (l : List aL) (n : Nat) (nv : List Value) (kn : Nat) (od : Obj) (R : List (Addr × Obj)) : List (Addr × Obj) := (x, bJ dx l n) :: (nt, listOf nv.toArray kn) :: (dc, od) :: R
noncomputable abbrev jT : List Str := [ofString "here", ofString "letter"]
inductive vD (x dx nt dc da : Addr) (l : List aL) (f p : Str) (nv : List Value) (kn : Nat) (od : Obj) (us : List Value) (R : List (Addr × Obj)) (gY m' : Str -> Option Value) (news' : List (Addr × Obj)) : Prop
 | mk : jo jT m' gY -> ∀ n T t1 t2 dk, (∀ z ∈ R, z.1 < T) -> x < T -> nt < T -> dc < T -> da < T -> news' = (da, listOf us.toArray dk) :: (T, bf (.str f t1) (.str p t2)) :: cO x dx nt dc (l ++ [⟨T, f, t1, p, t2⟩]) n nv kn od R -> vD x dx nt dc da l f p nv kn od us R gY m' news'
inductive aaM (x dx nt dc da : Addr) (l : List aL) (p : Str) (nv : List Value) (od : Obj) (o : Obj) (R : List (Addr × Obj)) (gY m' : Str -> Option Value) (news' : List (Addr × Obj)) : Prop
 | mk : jo jT m' gY -> ∀ n t kn, news' = (da, o) :: cO x dx nt dc l n (nv ++ [.str p t]) kn od R -> aaM x dx nt dc da l p nv od o R gY m' news'
noncomputable def jU (gO : Heap) (L : Addr) (s : Shared) (J : (Str -> Option Value) -> List (Addr × Obj) -> Prop) (f : Flow) (s₃ : Shared) : Prop :=
 match f with
 | .next => ∃ h tk m' news', s₃ = { s with heap := h, toks := tk } /\ Fr gO L h m' /\ News gO L h news' /\ J m' news'
 | _ => False
theorem jU.intro {s : Shared} {J : (Str -> Option Value) -> List (Addr × Obj) -> Prop} {tk : Nat} {all : List (Addr × Obj)} (F : Fr gO L h m') (N : News gO L h all) (news' : List (Addr × Obj)) (sub : ∀ p ∈ news', p ∈ all) (j : J m' news') : jU gO L s J .next { s with heap := h, toks := tk } :=
 ⟨h, tk, m', news', rfl, F, λ p hp => N p (sub p hp), j⟩
noncomputable def du (k : List Nat) : List (List Nat × List Nat) -> Option (List Nat)
 | [] => none
 | d :: r => if d.1 = k then some d.2 else du k r
noncomputable def iu (k v : List Nat) : List (List Nat × List Nat) -> List (List Nat × List Nat)
 | [] => []
 | d :: r => if d.1 = k then (d.1, v) :: r else d :: iu k v r
noncomputable def ju (st : RSt) : Option RSt := match st.shelf.getLast? with
 | none => none
 | some t => match du t.1 st.doors with
   | none => none
   | some [] => some ⟨st.doors, st.shelf.dropLast, st.noted ++ [t.2]⟩
   | some (c :: cs) => some ⟨iu t.1 cs st.doors, st.shelf ++ [((t.1 ++ [c]).drop 1, [c])], st.noted⟩
noncomputable def fW : Nat -> RSt -> RSt
 | 0, st => st
 | f + 1, st => match ju st with
   | none => st
   | some st' => fW f st'
noncomputable def jw (st : RSt) : Nat := 2 * (st.doors.map (·.2.length)).sum + st.shelf.length
theorem pB {k v k' : List Nat} : ∀ {l : List (List Nat × List Nat)} {u : List Nat}, du k' l = some u -> ∃ u', du k' (iu k v l) = some u'
 | [], _, h => by cases h
 | d :: r, u, h => by
   unfold iu
   by_cases e : d.1 = k
   · rw [if_pos e]
     unfold du at h ⊢
     by_cases e' : d.1 = k'
     · rw [if_pos e']; exact ⟨_, rfl⟩
     · rw [if_neg e'] at h ⊢; exact ⟨u, h⟩
   · rw [if_neg e]
     unfold du at h ⊢
     by_cases e' : d.1 = k'
     · rw [if_pos e']; exact ⟨_, rfl⟩
     · rw [if_neg e'] at h ⊢; exact pB h
theorem tO {k v : List Nat} {c : Nat} : ∀ {l : List (List Nat × List Nat)}, du k l = some (c :: v) -> ((iu k v l).map (·.2.length)).sum + 1 = (l.map (·.2.length)).sum
 | [], h => by cases h
 | d :: r, h => by
   unfold iu;unfold du at h
   by_cases e : d.1 = k
   · rw [if_pos e] at h ⊢
     have : d.2 = c :: v := Option.some.inj h;simp only [List.map_cons, List.sum_cons, this, List.length_cons];lia
   · rw [if_neg e] at h ⊢
     have := tO h;simp only [List.map_cons, List.sum_cons];lia
noncomputable abbrev fZ.obj (d : fZ) : Obj := listOf d.vs.toArray d.k
theorem wY {k : List Nat} {u : List Nat} : ∀ {ds : List fZ}, du k (ds.map λ d => (d.key, d.ls)) = some u ->
   ∃ pre d post, ds = pre ++ d :: post /\ d.key = k /\ d.ls = u /\ (ds.map λ d => (aD d.key, Value.ref d.a)).find? (λ kv => decide (kv.1 = aD k)) = some (aD d.key, .ref d.a) /\ ∀ (vs : List Value) kk v, iu k v (ds.map λ d => (d.key, d.ls)) = (pre ++ { d with vs := vs, k := kk, ls := v } :: post).map λ d => (d.key, d.ls)
 | [], h => by cases h
 | d :: r, h => by
   rw [List.map_cons] at h;unfold du at h
   by_cases e : d.key = k
   · rw [if_pos e] at h
     refine ⟨[], d, r, rfl, e, Option.some.inj h, ?_, λ vs kk v => ?_⟩
     · rw [List.map_cons, List.find?_cons_of_pos]
       subst e; exact decide_eq_true rfl
     · rw [List.map_cons]
       unfold iu;rw [if_pos e]; rfl
   · rw [if_neg e] at h
     obtain ⟨pre, d', post, rfl, e1, e2, e3, e4⟩ := wY h;refine ⟨d :: pre, d', post, rfl, e1, e2, ?_, λ vs kk v => ?_⟩
     · rw [List.map_cons, List.find?_cons_of_neg]
       · exact e3
       · intro q
         have q' : aD d.key = aD k := of_decide_eq_true q;have := congrArg (λ x : Str => x.cps.toList) q';exact e this
     · rw [List.map_cons]
       unfold iu;rw [if_neg e, e4 vs kk v]; rfl
theorem yV (l : List Nat) (c : Nat) : Txt.slice (aD l ++ one c) (some 1) none = aD ((l ++ [c]).drop 1) := by
 have hl : (aD l ++ one c).cps.toList = l ++ [c] := by simp [Str.cps_append]
 have hn : (aD l ++ one c).length = l.length + 1 := by
   show (aD l ++ one c).cps.size = _;rw [<- Array.length_toList, hl, List.length_append]; rfl
 rw [slice_from_eq (b := ((l.length + 1 : Nat) : Int)) (by decide) (by rw [hn]; lia) (by rw [hn]), hl];show aD _ = _
 congr 1
 rw [List.take_of_length_le]
 · rfl
 · rw [List.length_drop, List.length_append]
   simp
structure mU (R : List (Addr × Obj)) (k0 : Nat) (q : aL) (t : List Nat × List Nat) : Prop where
 f : q.f = aD t.1
 p : q.p = aD t.2
 m : (q.a, q.obj) ∈ R
 l : t.1.length = k0
 c : ∀ c ∈ t.1, c = 102 \/ c = 105
structure afF (R : List (Addr × Obj)) (d : fZ) : Prop where
 m : (d.a, d.obj) ∈ R
 v : StrsAre d.vs (d.ls.map one)
 c : ∀ c ∈ d.ls, c = 102 \/ c = 105
 n : d.ls.length <= 2
structure ou (prog : Program) (w : World) (x dx nt dc : Addr) (es : List DictEntry) (ne k0 : Nat) (ds : List fZ) (st : RSt) (l : List aL) (nv : List Value) (od : Obj) (R K : List (Addr × Obj)) : Prop where
 hd : od.IsDictOf (PySem.strKind prog w) (ds.map λ d => (aD d.key, Value.ref d.a))
 ed : st.doors = ds.map λ d => (d.key, d.ls)
 dm : ∀ d ∈ ds, afF R d
 nd : (ds.map (·.a)).Nodup
 sh : aU (mU R k0) l st.shelf
 no : StrsAre nv (st.noted.map aD)
 gx : (dx, dictOf es ne) ∈ R
 o1 : ∀ p ∈ R, p.1 ≠ x
 o2 : ∀ p ∈ R, p.1 ≠ nt
 o3 : ∀ p ∈ R, p.1 ≠ dc
 all : ∀ key : List Nat, key.length = k0 -> (∀ c ∈ key, c = 102 \/ c = 105) -> ∃ ls, du key st.doors = some ls
 kp : ∀ p ∈ K, p ∈ R
 ka : ∀ p ∈ K, ∀ d ∈ ds, p.1 ≠ d.a
 n1 : ∀ t ∈ st.shelf, t.2.length <= 1
 n2 : ∀ t ∈ st.noted, t.length <= 1
theorem tQ {R R' : α -> β -> Prop} {l : List α} {r : List β} (x : aU R l r) (k : ∀ a b, a ∈ l -> b ∈ r -> R a b -> R' a b) : aU R' l r := by
 induction x with
 | nil => exact .nil
 | cons h _ ih => exact .cons (k _ _ (.head _) (.head _) h) (ih λ a b ha hb => k a b (.tail _ ha) (.tail _ hb))
theorem pC {R : α -> β -> Prop} {l : List α} {r : List β} (x : aU R l r) : (l = [] /\ r = []) \/ ∃ l' a r' b, l = l' ++ [a] /\ r = r' ++ [b] /\ aU R l' r' /\ R a b := by
 induction x with
 | nil => exact .inl ⟨rfl, rfl⟩
 | @cons a b l r h x ih =>
   rcases ih with ⟨rfl, rfl⟩ | ⟨l', a', r', b', rfl, rfl, y, h'⟩
   · exact .inr ⟨[], a, [], b, rfl, rfl, .nil, h⟩
   · exact .inr ⟨a :: l', a', b :: r', b', rfl, rfl, .cons h y, h'⟩
theorem lC {led : List (Addr × Obj)} (N : News gO L h led) {a b : Addr} {o o' : Obj} (h1 : (a, o) ∈ led) (h2 : (b, o') ∈ led) (hne : o.cls ≠ o'.cls) : a ≠ b := λ e => by
 subst e;exact hne (congrArg Obj.cls (Option.some.inj ((N _ h1).1.symm.trans (N _ h2).1)))
theorem adf (c : Nat) : (one c).length = 1 := rfl
section
variable {x : Addr} {st : RSt} {l : List aL} {K : List (Addr × Obj)} {pre post : List fZ} {d : fZ}
theorem mV : (Value.type "tuple") ≠ .type "list" := by decide
theorem jV : (Value.type "dict") ≠ .type "list" := by decide
theorem tR (h : aU (mU R k0) [] st.shelf) (f : Nat) : fW f st = st := by
 have : st.shelf = [] := by
   generalize st.shelf = sh at h;cases h; rfl
 cases f with
 | zero => rfl
 | succ f =>
   unfold fW ju;rw [this]; rfl
theorem mW {ds : List fZ} (nd : (ds.map (·.a)).Nodup) (e : ds = pre ++ d :: post) : ∀ z ∈ pre ++ post, z.a ≠ d.a := by
 subst e;intro z hz q;rw [List.map_append, List.map_cons] at nd;have h1 := List.nodup_append.mp nd;rcases List.mem_append.mp hz with hz | hz
 · exact h1.2.2 z.a (List.mem_map_of_mem hz) d.a (.head _) q
 · exact (List.nodup_cons.mp h1.2.1).1 (q ▸ List.mem_map_of_mem hz)
noncomputable abbrev yW (a : Addr) (R : List (Addr × Obj)) : List (Addr × Obj) := R.filter λ p => !(Nat.beq p.1 a)
theorem cT {a : Addr} {p : Addr × Obj} (h : p ∈ R) (hn : p.1 ≠ a) : p ∈ yW a R := List.mem_filter.mpr ⟨h, by
 cases q : Nat.beq p.1 a with
 | false => rfl
 | true => exact absurd (Nat.eq_of_beq_eq_true q) hn⟩
theorem dN {a : Addr} {p : Addr × Obj} (h : p ∈ yW a R) : p ∈ R /\ p.1 ≠ a := ⟨(List.mem_filter.mp h).1, λ e => by
 have q := (List.mem_filter.mp h).2;subst e;rw [Nat.beq_refl] at q;cases q⟩
theorem ou.pop {q : aL} {t : List Nat × List Nat} {sh : List (List Nat × List Nat)} (RR : ou prog w x dx nt dc es ne k0 (pre ++ d :: post) st (l ++ [q]) nv od R K) (N : News gO L h R) (hs : st.shelf = sh ++ [t]) (hp : aU (mU R k0) l sh) (hq : q.p = aD t.2) (hv : d.vs = []) : ou prog w x dx nt dc es ne k0 (pre ++ d :: post) ⟨st.doors, sh, st.noted ++ [t.2]⟩ l (nv ++ [.str q.p tk]) od ((d.a, listOf #[] d.k) :: yW d.a R) K := by
 tm_at "bI";have ap := mW RR.nd rfl;have nel : ∀ {a : Addr} {o : Obj}, (a, o) ∈ R -> o.cls ≠ .type "list" -> (a, o) ∈ (d.a, listOf #[] d.k) :: yW d.a R := λ h1 h2 => .tail _ (cT h1 (lC N h1 hd.m h2))
 have of : ∀ {b : Addr}, (∀ p ∈ R, p.1 ≠ b) -> ∀ p ∈ (d.a, listOf #[] d.k) :: yW d.a R, p.1 ≠ b := λ h1 p hp => by
   tm_at "an"
   · exact h1 (d.a, d.obj) hd.m
   · exact h1 _ (dN hp).1
 refine ⟨RR.hd, RR.ed, λ z hz => ?_, RR.nd, tQ hp λ a b _ _ hab => ⟨hab.f, hab.p, nel hab.m mV, hab.l, hab.c⟩, ?_, nel RR.gx jV, of RR.o1, of RR.o2, of RR.o3, RR.all, λ p hp => .tail _ (cT (RR.kp p hp) (RR.ka p hp d (List.mem_append_right _ (.head _)))), RR.ka, λ t ht => RR.n1 t (by rw [hs]; exact List.mem_append_left _ ht), λ z hz => ?_⟩
 · have hz' := RR.dm z hz
   refine ⟨?_, hz'.v, hz'.c, hz'.n⟩;rcases List.mem_append.mp hz with hz | hz
   · exact .tail _ (cT hz'.m (ap z (List.mem_append_left _ hz)))
   · rcases List.mem_cons.mp hz with rfl | hz
     · show (z.a, listOf z.vs.toArray z.k) ∈ _
       rw [hv]; exact .head _
     · exact .tail _ (cT hz'.m (ap z (List.mem_append_right _ hz)))
 · rw [List.map_append, List.map_cons, List.map_nil, hq]
   exact bQ RR.no (.cons _ _ .nil)
 · rcases List.mem_append.mp hz with h | h
   · exact RR.n2 z h
   · rw [List.mem_singleton.mp h]; exact RR.n1 t (by rw [hs]; exact List.mem_append_right _ (.head _))
theorem ou.push {q : aL} {t : List Nat × List Nat} {sh : List (List Nat × List Nat)} {f : Str} {t1 t2 : Tok} {dk c : Nat} {cs : List Nat} (RR : ou prog w x dx nt dc es ne k0 (pre ++ d :: post) st (l ++ [q]) nv od R K) (N : News gO L h R) (hs : st.shelf = sh ++ [t]) (hpt : mU R k0 q t) (hf : f = aD ((t.1 ++ [c]).drop 1)) (hls : d.ls = c :: cs) (hus : StrsAre us (cs.map one)) (k1 : 0 < k0) (hset : iu t.1 cs st.doors = (pre ++ { d with vs := us, k := dk, ls := cs } :: post).map λ d => (d.key, d.ls)) (l1 : ∀ z ∈ yW d.a R, z.1 < T) (l2 : x < T) (l3 : nt < T) (l4 : dc < T) (l5 : d.a < T) : ou prog w x dx nt dc es ne k0 (pre ++ { d with vs := us, k := dk, ls := cs } :: post) ⟨iu t.1 cs st.doors, st.shelf ++ [((t.1 ++ [c]).drop 1, [c])], st.noted⟩ (l ++ [q] ++ [⟨T, f, t1, one c, t2⟩]) nv od ((d.a, listOf us.toArray dk) :: (T, bf (.str f t1) (.str (one c) t2)) :: yW d.a R) K := by
 tm_at "bI";have ap := mW RR.nd rfl;have hc : c = 102 \/ c = 105 := hd.c c (by rw [hls]; exact .head _);have nel : ∀ {a : Addr} {o : Obj}, (a, o) ∈ R -> o.cls ≠ .type "list" -> (a, o) ∈ (d.a, listOf us.toArray dk) :: (T, bf (.str f t1) (.str (one c) t2)) :: yW d.a R := λ h1 h2 => .tail _ (.tail _ (cT h1 (lC N h1 hd.m h2)))
 have of : ∀ {b : Addr}, b < T -> (∀ p ∈ R, p.1 ≠ b) -> ∀ p ∈ (d.a, listOf us.toArray dk) :: (T, bf (.str f t1) (.str (one c) t2)) :: yW d.a R, p.1 ≠ b := λ h0 h1 p hp => by
   tm_at "an"
   · exact h1 (d.a, d.obj) hd.m
   · rcases List.mem_cons.mp hp with rfl | hp
     · exact Nat.ne_of_gt h0
     · exact h1 _ (dN hp).1
 have e1 : (pre ++ { d with vs := us, k := dk, ls := cs } :: post).map (λ d => (aD d.key, Value.ref d.a)) = (pre ++ d :: post).map λ d => (aD d.key, Value.ref d.a) := by
   rw [List.map_append, List.map_append, List.map_cons, List.map_cons]
 have e2 : (pre ++ { d with vs := us, k := dk, ls := cs } :: post).map (·.a) = (pre ++ d :: post).map (·.a) := by
   rw [List.map_append, List.map_append, List.map_cons, List.map_cons]
 have sh' : aU (mU ((d.a, listOf us.toArray dk) :: (T, bf (.str f t1) (.str (one c) t2)) :: yW d.a R) k0) (l ++ [q]) st.shelf := tQ RR.sh λ a b _ _ hab => ⟨hab.f, hab.p, nel hab.m mV, hab.l, hab.c⟩
 refine ⟨by rw [e1]; exact RR.hd, hset, λ z hz => ?_, by rw [e2]; exact RR.nd, sh'.snoc ⟨hf, rfl, .tail _ (.head _), ?_, λ z hz => ?_⟩, RR.no, nel RR.gx jV, of l2 RR.o1, of l3 RR.o2, of l4 RR.o3, λ key h1 h2 => (RR.all key h1 h2).elim λ u hu => pB hu, λ p hp => .tail _ (.tail _ (cT (RR.kp p hp) (RR.ka p hp d (List.mem_append_right _ (.head _))))), λ p hp z hz => ?_, λ z hz => ?_, RR.n2⟩
 · rcases List.mem_append.mp hz with hz | hz
   · have hz' := RR.dm z (List.mem_append_left _ hz)
     exact ⟨.tail _ (.tail _ (cT hz'.m (ap z (List.mem_append_left _ hz)))), hz'.v, hz'.c, hz'.n⟩
   · rcases List.mem_cons.mp hz with rfl | hz
     · exact ⟨.head _, hus, λ z hz => hd.c z (by rw [hls]; exact .tail _ hz), by have := hd.n; rw [hls] at this; exact Nat.le_of_succ_le this⟩
     · have hz' := RR.dm z (List.mem_append_right _ (.tail _ hz))
       exact ⟨.tail _ (.tail _ (cT hz'.m (ap z (List.mem_append_right _ hz)))), hz'.v, hz'.c, hz'.n⟩
 · show ((t.1 ++ [c]).drop 1).length = k0
   rw [List.length_drop, List.length_append, hpt.l]; simp
 · have := List.mem_of_mem_drop hz
   rcases List.mem_append.mp this with h | h
   · exact hpt.c z h
   · rw [List.mem_singleton.mp h]; exact hc
 · rcases List.mem_append.mp hz with hz | hz
   · exact RR.ka p hp z (List.mem_append_left _ hz)
   · rcases List.mem_cons.mp hz with rfl | hz
     · exact RR.ka p hp d (List.mem_append_right _ (.head _))
     · exact RR.ka p hp z (List.mem_append_right _ (.tail _ hz))
 · rcases List.mem_append.mp hz with hz | hz
   · exact RR.n1 z hz
   · rw [List.mem_singleton.mp hz]; exact Nat.le_refl 1
end
section
variable {s : Shared} {test : Expr} {Q : Flow -> Shared -> Prop}
theorem vG {pos : Pos} {fuel : Nat} {ds : List fZ} {st : RSt} {l : List aL} {x : Addr} {n : Nat} {K all : List (Addr × Obj)} (F : Fr gO env.locals s.heap gY) (N : News gO env.locals s.heap all) (hsub : ∀ p ∈ cO x dx nt dc l n nv kn od R, p ∈ all) (RR : ou prog w x dx nt dc es ne k0 ds st l nv od R K) (n1 : x ≠ nt) (n2 : x ≠ dc) (n3 : nt ≠ dc) (hk0 : 0 < k0 /\ k0 < 90) (hf : jw st <= fuel) (hb : nv.length + fuel < 90) (hE : PassesOwn (model prog w) A env E) (push : ∀ u h tk l q n nv kn od da v us dk R kvs (c : Nat) (cs here : List Nat) t, (dx, dictOf es ne) ∈ R -> (q.a, q.obj) ∈ R -> q.f = aD here -> od.IsDictOf (PySem.strKind prog w) kvs -> valueAt kvs q.f = some (.ref da) -> StrsAre (v :: us) (one c :: cs.map one) -> (∀ x ∈ one c :: cs.map one, PyData.strOk x = true) -> v = .str (one c) t -> l.length < 100 -> us.length < 100 -> q.f.length < 100 -> nv.length < 1000 -> (∀ p ∈ R, p.1 ≠ x) -> (∀ p ∈ R, p.1 ≠ nt) -> (∀ p ∈ R, p.1 ≠ dc) -> (∀ p ∈ R, p.1 ≠ da) -> x ≠ nt -> x ≠ dc -> x ≠ da -> nt ≠ dc -> nt ≠ da -> dc ≠ da -> Fr gO env.locals h (bK jT gY u) -> News gO env.locals h ((da, listOf (v :: us).toArray dk) :: cO x dx nt dc (l ++ [q]) n nv kn od R) -> wpAny (model prog w) A (isTrue test env (eval test env)) (λ b gQ => WhlIf b (wpAny (model prog w) A (execs body env) (jU gO env.locals s (vD x dx nt dc da (l ++ [q]) (Txt.slice (q.f ++ one c) (some 1) none) (one c) nv kn od us R gY)) E gQ) False) E { s with heap := h, toks := tk }) (pop : ∀ u h tk l q n nv kn od da dk R kvs here, (dx, dictOf es ne) ∈ R -> (q.a, q.obj) ∈ R -> q.f = aD here -> od.IsDictOf (PySem.strKind prog w) kvs -> valueAt kvs q.f = some (.ref da) -> l.length < 100 -> q.f.length < 100 -> nv.length < 1000 -> (∀ p ∈ R, p.1 ≠ x) -> (∀ p ∈ R, p.1 ≠ nt) -> (∀ p ∈ R, p.1 ≠ dc) -> (∀ p ∈ R, p.1 ≠ da) -> x ≠ nt -> x ≠ dc -> x ≠ da -> nt ≠ dc -> nt ≠ da -> dc ≠ da -> Fr gO env.locals h (bK jT gY u) -> News gO env.locals h ((da, listOf #[] dk) :: cO x dx nt dc (l ++ [q]) n nv kn od R) -> wpAny (model prog w) A (isTrue test env (eval test env)) (λ b gQ => WhlIf b (wpAny (model prog w) A (execs body env) (jU gO env.locals s (aaM x dx nt dc da l q.p nv od (listOf #[] dk) R gY)) E gQ) False) E { s with heap := h, toks := tk }) (done : ∀ u h tk n nv kn od R, (dx, dictOf es ne) ∈ R -> (∀ p ∈ K, p ∈ R) -> (∀ t ∈ (fW fuel st).noted, t.length <= 1) -> StrsAre nv ((fW fuel st).noted.map aD) -> Fr gO env.locals h (bK jT gY u) -> News gO env.locals h (cO x dx nt dc [] n nv kn od R) -> nv.length < 1000 -> wpAny (model prog w) A (isTrue test env (eval test env)) (λ b gQ => WhlIf b False (wpAny (model prog w) A (execs orelse env) Q E gQ)) E { s with heap := h, toks := tk }) : wpAny (model prog w) A (exec (.While test body orelse pos) env) Q E s := by
 refine wpAny_While ?_;suffices ∀ (fuel : Nat) (ds : List fZ) (st : RSt) (l : List aL) (n : Nat) (nv : List Value) (kn : Nat) (od : Obj) (R : List (Addr × Obj)) (u : Str -> Option Value) (h : Heap) (tk : Nat), ou prog w x dx nt dc es ne k0 ds st l nv od R K -> jw st <= fuel -> nv.length + fuel < 90 -> Fr gO env.locals h (bK jT gY u) -> News gO env.locals h (cO x dx nt dc l n nv kn od R) ->
     (∀ u h tk n nv kn od R, (dx, dictOf es ne) ∈ R -> (∀ p ∈ K, p ∈ R) -> (∀ t ∈ (fW fuel st).noted, t.length <= 1) -> StrsAre nv ((fW fuel st).noted.map aD) -> Fr gO env.locals h (bK jT gY u) -> News gO env.locals h (cO x dx nt dc [] n nv kn od R) -> nv.length < 1000 ->
       wpAny (model prog w) A (isTrue test env (eval test env)) (λ b gQ => WhlIf b False (wpAny (model prog w) A (execs orelse env) Q E gQ)) E { s with heap := h, toks := tk }) ->
     WhlRest prog w A E env test body orelse Q 0 { s with heap := h, toks := tk } by
   exact this fuel ds st l n nv kn od R gY s.heap s.toks RR hf hb (by rw [show bK jT gY gY = gY from (mH bT).symm]; exact F) (λ p hp => N p (hsub p hp)) done
 intro fuel
 induction fuel with
 | zero =>
   intro ds st l n nv kn od R u h tk RR hf hb F N done;tm_at "X";rcases pC RR.sh with ⟨rfl, e⟩ | ⟨l', q, sh, t, rfl, es', _, _⟩
   · refine hG9 ?_
     clear hG9;refine whl_turn (k := 0) hE (wpAny_mono (done u h tk n nv kn od R RR.gx RR.kp RR.n2 RR.no F N (by lia)) (λ b gQ z => ?_) λ _ _ e => e);cases b with
     | true => exact z.elim
     | false => exact WhlIf.no rfl z
   · unfold jw at hf
     rw [es', List.length_append] at hf;simp at hf
 | succ fuel ih =>
   intro ds st l n nv kn od R u h tk RR hf hb F N done;tm_at "X";rcases pC RR.sh with ⟨rfl, e⟩ | ⟨l', q, sh, t, rfl, es', hp, hq⟩
   · refine hG9 ?_
     clear hG9;refine whl_turn (k := 0) hE (wpAny_mono (done u h tk n nv kn od R RR.gx RR.kp (by rw [tR RR.sh]; exact RR.n2) (by rw [tR RR.sh]; exact RR.no) F N (by lia)) (λ b gQ z => ?_) λ _ _ e => e);cases b with
     | true => exact z.elim
     | false => exact WhlIf.no rfl z
   · obtain ⟨ls, hls⟩ := RR.all t.1 hq.l hq.c
     have hlk := hls;rw [RR.ed] at hls;obtain ⟨pre, d, post, rfl, dk, dl, df, dset⟩ := wY hls;tm_at "V";tm_at "bI";have hN : News gO env.locals h R := λ p hp => N p (.tail _ (.tail _ (.tail _ hp)))
     have hlast : st.shelf.getLast? = some t := by rw [es', List.getLast?_concat]
     have hpl : (l' ++ [q]).length < 91 := by
       rw [RR.sh.length];unfold jw at hf;lia
     rw [List.length_append, List.length_cons, List.length_nil] at hpl;have hqf : q.f.length < 100 := by
       rw [hq.f];show t.1.toArray.size < 100;rw [List.size_toArray, hq.l]; lia
     have gx := cT (a := d.a) RR.gx (lC hN RR.gx hd.m jV);have gq := cT (a := d.a) hq.m (lC hN hq.m hd.m mV);have hva : valueAt ((pre ++ d :: post).map λ d => (aD d.key, Value.ref d.a)) q.f = some (.ref d.a) := by
       unfold valueAt;rw [hq.f, df]; rfl
     have dx1 : d.a ≠ x := RR.o1 (d.a, d.obj) hd.m;have dx2 : d.a ≠ nt := RR.o2 (d.a, d.obj) hd.m;have dx3 : d.a ≠ dc := RR.o3 (d.a, d.obj) hd.m;have hN' : ∀ {o : Obj}, d.obj = o -> News gO env.locals h ((d.a, o) :: cO x dx nt dc (l' ++ [q]) n nv kn od (yW d.a R)) := λ eo p hp => by
       tm_at "an"
       · exact eo ▸ hN _ hd.m
       · rcases List.mem_cons.mp hp with rfl | hp
         · exact N _ (.head _)
         · rcases List.mem_cons.mp hp with rfl | hp
           · exact N _ (.tail _ (.head _))
           · rcases List.mem_cons.mp hp with rfl | hp
             · exact N _ (.tail _ (.tail _ (.head _)))
             · exact hN p (dN hp).1
     cases ls with
     | nil =>
       have hv : d.vs = [] := by
         have := hd.v;rw [dl] at this;cases hvs : d.vs with
         | nil => rfl
         | cons _ _ => rw [hvs] at this; cases this
       have hst : ju st = some ⟨st.doors, sh, st.noted ++ [t.2]⟩ := by
         unfold ju;rw [hlast];dsimp only;rw [hlk, es', List.dropLast_concat]
       refine whl_turn (k := 0) hE (wpAny_mono (pop u h tk l' q n nv kn od d.a d.k (yW d.a R) _ t.1 gx gq hq.f RR.hd hva (by lia) hqf (by lia) (λ p hp => RR.o1 p (dN hp).1) (λ p hp => RR.o2 p (dN hp).1) (λ p hp => RR.o3 p (dN hp).1) (λ p hp => (dN hp).2) n1 n2 (Ne.symm dx1) n3 (Ne.symm dx2) (Ne.symm dx3) F (hN' (by show listOf d.vs.toArray d.k = _; rw [hv]))) (λ b gQ z => ?_) λ _ _ e => e);cases b with
       | false => exact (show False from z).elim
       | true =>
         refine WhlIf.yes rfl (wpAny_mono (show wpAny _ _ _ _ _ _ from z) (λ f s₃ z => ?_) λ _ _ e => e);cases f with
         | next =>
           refine Classical.byContradiction λ hG9 => ?_
           obtain ⟨h', tk', m', news', rfl, F', N', ho, n', t', kn', rfl⟩ := z;tm_at "V";rw [mH ho] at F';refine ih _ ⟨st.doors, sh, st.noted ++ [t.2]⟩ l' n' (nv ++ [.str q.p t']) kn' od _ m' h' tk' (RR.pop hN es' hp hq.p hv) ?_ (by rw [List.length_append]; simp; lia) F' (λ p hp => N' p ?_) ?_
           · unfold jw at hf ⊢
             rw [es', List.length_append] at hf;simp at hf ⊢;lia
           · rcases List.mem_cons.mp hp with rfl | hp
             · exact .tail _ (.head _)
             · rcases List.mem_cons.mp hp with rfl | hp
               · exact .tail _ (.tail _ (.head _))
               · rcases List.mem_cons.mp hp with rfl | hp
                 · exact .tail _ (.tail _ (.tail _ (.head _)))
                 · rcases List.mem_cons.mp hp with rfl | hp
                   · exact .head _
                   · exact .tail _ (.tail _ (.tail _ (.tail _ hp)))
           · have : fW (fuel + 1) st = fW fuel ⟨st.doors, sh, st.noted ++ [t.2]⟩ := by
               show (match ju st with | none => st | some st' => fW fuel st') = _;rw [hst]
             rw [this] at done;exact done
         | cont => exact z.elim
         | brk => exact z.elim
         | ret v => exact z.elim
     | cons c cs =>
       have hvs := hd.v;rw [dl] at hvs;tm_at "X";obtain ⟨tv, us, ev, hus⟩ : ∃ tv us, d.vs = .str (one c) tv :: us /\ StrsAre us (cs.map one) := by
         cases hvv : d.vs with
         | nil => rw [hvv] at hvs; cases hvs
         | cons v us =>
           rw [hvv] at hvs;cases hvs with
           | cons _ tv h => exact ⟨tv, us, rfl, h⟩
       tm_at "V";have hc : ∀ z ∈ c :: cs, z = 102 \/ z = 105 := λ z hz => hd.c z (by rw [dl]; exact hz)
       have hok : ∀ z ∈ one c :: cs.map one, PyData.strOk z = true := by
         intro z hz;have hz : z ∈ (c :: cs).map one := hz;obtain ⟨y, hy, rfl⟩ := List.mem_map.mp hz;rcases hc y hy with rfl | rfl <;> decide +kernel
       have hul : us.length < 100 := by
         have := hus.length;have h2 := hd.n;rw [dl] at h2;simp at this h2;lia
       have hst : ju st = some ⟨iu t.1 cs st.doors, st.shelf ++ [((t.1 ++ [c]).drop 1, [c])], st.noted⟩ := by
         unfold ju;rw [hlast];dsimp only;rw [hlk]
       refine whl_turn (k := 0) hE (wpAny_mono (push u h tk l' q n nv kn od d.a (.str (one c) tv) us d.k (yW d.a R) _ c cs t.1 tv gx gq hq.f RR.hd hva (ev ▸ hvs) hok rfl (by lia) hul hqf (by lia) (λ p hp => RR.o1 p (dN hp).1) (λ p hp => RR.o2 p (dN hp).1) (λ p hp => RR.o3 p (dN hp).1) (λ p hp => (dN hp).2) n1 n2 (Ne.symm dx1) n3 (Ne.symm dx2) (Ne.symm dx3) F (hN' (by show listOf d.vs.toArray d.k = _; rw [ev]))) (λ b gQ z => ?_) λ _ _ e => e);cases b with
       | false => exact (show False from z).elim
       | true =>
         refine WhlIf.yes rfl (wpAny_mono (show wpAny _ _ _ _ _ _ from z) (λ f s₃ z => ?_) λ _ _ e => e);cases f with
         | next =>
           refine Classical.byContradiction λ hG9 => ?_
           obtain ⟨h', tk', m', news', rfl, F', N', ho, n', T, t1, t2, dk', l1, l2, l3, l4, l5, rfl⟩ := z;tm_at "V";rw [mH ho] at F';refine ih _ ⟨iu t.1 cs st.doors, st.shelf ++ [((t.1 ++ [c]).drop 1, [c])], st.noted⟩ (l' ++ [q] ++ [⟨T, Txt.slice (q.f ++ one c) (some 1) none, t1, one c, t2⟩]) n' nv kn od _ m' h' tk' (RR.push (f := Txt.slice (q.f ++ one c) (some 1) none) hN es' hq (by rw [hq.f]; exact yV _ _) dl hus hk0.1 (by rw [RR.ed]; exact dset us dk' cs) l1 l2 l3 l4 l5) ?_ (by lia) F' (λ p hp => N' p ?_) ?_
           · unfold jw at hf ⊢
             have := tO hlk;rw [List.length_append];simp;lia
           · rcases List.mem_cons.mp hp with rfl | hp
             · exact .tail _ (.tail _ (.head _))
             · rcases List.mem_cons.mp hp with rfl | hp
               · exact .tail _ (.tail _ (.tail _ (.head _)))
               · rcases List.mem_cons.mp hp with rfl | hp
                 · exact .tail _ (.tail _ (.tail _ (.tail _ (.head _))))
                 · rcases List.mem_cons.mp hp with rfl | hp
                   · exact .head _
                   · rcases List.mem_cons.mp hp with rfl | hp
                     · exact .tail _ (.head _)
                     · exact .tail _ (.tail _ (.tail _ (.tail _ (.tail _ hp))))
           · have : fW (fuel + 1) st = fW fuel ⟨iu t.1 cs st.doors, st.shelf ++ [((t.1 ++ [c]).drop 1, [c])], st.noted⟩ := by
               show (match ju st with | none => st | some st' => fW fuel st') = _;rw [hst]
             rw [this] at done;exact done
         | cont => exact z.elim
         | brk => exact z.elim
         | ret v => exact z.elim
end
noncomputable def aK : Nat -> List (List Nat)
 | 0 => [[]]
 | n + 1 => (aK n).flatMap λ a => [102, 105].map λ c => a ++ [c]
theorem yX (a : List Nat) (c : Nat) : aD a ++ ⟨#[c]⟩ = aD (a ++ [c]) := by
 apply Str.ext';simp [Str.cps_append]
theorem dG (n : Nat) : aW n = (aK n).map aD := by
 induction n with
 | zero => rfl
 | succ n ih =>
   show dh [102, 105] (aW n) = _;rw [ih];show _ = List.map aD ((aK n).flatMap λ a => [102, 105].map λ c => a ++ [c]);unfold dh;rw [List.flatMap_map, List.map_flatMap];refine congrArg (λ f => (aK n).flatMap f) (funext λ a => ?_);simp only [List.map_cons, List.map_nil, yX]
noncomputable def dw (c : Nat) : List Nat := if c = 102 then [102, 105] else [105, 102]
noncomputable def aX (bk : List Nat) (ws : List (List Nat)) : List (List Nat × List Nat) := ws.zipIdx.map λ p => (p.1, dw (bk.getD p.2 0))
noncomputable abbrev qJ (c : DrC) : List (Addr × Obj) := c.ds.map λ d => (d.a, d.obj)
noncomputable abbrev wZ (dc : Addr) (c : DrC) (rest : List (Addr × Obj)) : List (Addr × Obj) := (dc, c.od) :: (rest ++ c.ds.map (λ d => (d.a, d.obj)))
structure aaN (prog : Program) (w : World) (bk : List Nat) (ws : List (List Nat)) (j : Nat) (rest : List (Addr × Obj)) (c : DrC) : Prop where
 hd : c.od.IsDictOf (PySem.strKind prog w) (c.ds.map λ d => (aD d.key, Value.ref d.a))
 ed : (c.ds.map λ d => (d.key, d.ls)) = (aX bk ws).take j
 v : ∀ d ∈ c.ds, StrsAre d.vs (d.ls.map one)
 nd : (c.ds.map (·.a)).Nodup
 lt : ∀ d ∈ c.ds, ∀ p ∈ rest, p.1 < d.a
theorem tU {ws : List (List Nat)} {rest : List (Addr × Obj)} {c : DrC} {x : Addr} {o : Obj} (ok : aaN prog w bk ws j rest c) (h : ∀ p ∈ n', p.1 ≠ x) (hx : (x, o) ∈ rest) : ∀ p ∈ n' ++ c.ds.map (λ d => (d.a, d.obj)), p.1 ≠ x := λ p hp => by
 rcases List.mem_append.mp hp with hp | hp
 · exact h p hp
 · obtain ⟨d, hd, rfl⟩ := List.mem_map.mp hp
   exact Nat.ne_of_gt (ok.lt d hd _ hx)
inductive vH (prog : Program) (w : World) (dc : Addr) (kvs : List (Str × Value)) (a : Str) (c : Nat) (R rest : List (Addr × Obj)) (gY m' : Str -> Option Value) (news' : List (Addr × Obj)) : Prop
 | mk : jo [ofString "k"] m' gY -> ∀ od D vs k, od.IsDictOf (PySem.strKind prog w) (stored kvs a (.ref D)) -> StrsAre vs ((dw c).map one) -> (∀ p ∈ rest ++ R, p.1 < D) -> dc < D -> news' = (dc, od) :: (D, listOf vs.toArray k) :: (rest ++ R) -> vH prog w dc kvs a c R rest gY m' news'
theorem yZ {ws : List (List Nat)} {a : List Nat} (h : ws[j]? = some a) : (aX bk ws)[j]? = some (a, dw (bk.getD j 0)) := by
 unfold aX;rw [List.getElem?_map, List.getElem?_zipIdx, h];simp
theorem iI {n : Nat} (h : n <= 3) : (aW n).length <= 8 := by
 have : n = 0 \/ n = 1 \/ n = 2 \/ n = 3 := by lia
 rcases this with rfl | rfl | rfl | rfl <;> decide
theorem tV {n : Nat} (h : n <= 3) : (aK n).Nodup := by
 have : n = 0 \/ n = 1 \/ n = 2 \/ n = 3 := by lia
 rcases this with rfl | rfl | rfl | rfl <;> decide
theorem aaO {a b : List Nat} (h : aD a = aD b) : a = b := congrArg (λ x : Str => x.cps.toList) h
section
variable {s : Shared} {Q : Flow -> Shared -> Prop}
theorem ahM {k : Nat} {vs : List Value} {news : List (Addr × Obj)} {Q : Value -> Shared -> Prop} (N : News gO L s.heap news) (hm : (D, listOf vs.toArray k) ∈ news) (hz : vs.length < 100000) (h : ∀ t tk, Q (.int vs.length t) { s with toks := tk }) : wpAny (model prog w) A (call (.builtin "len") [.ref D]) Q E s := by
 refine call_len_list (News.isList N hm) (by rw [List.size_toArray]; lia) ?_;rw [List.size_toArray];exact h _ _
theorem aaP {k : Nat} {v : Value} {vs : List Value} {news : List (Addr × Obj)} {Q : Value -> Shared -> Prop} (N : News gO L s.heap news) (hv : vs[j]? = some v) (hm : (D, listOf vs.toArray k) ∈ news) (hi : i = 0 + (j : Int)) (hj : (j : Int) < 2 ^ 62) (h : Q v s) (hs : subscripted slice false (.ref D) (.int i u) = operate [.ref D, .int i u] (getItem (.ref D) (.int i u))) (hg : ∀ r, letTemporaryGo value (.ref D) r = pure ()) : wpAny (model prog w) A (subscriptTail value slice (.ref D) (.int i u)) Q E s :=
 item_list (News.isList N hm) (by lia) (by lia) (by rw [hi, Int.zero_add, Int.toNat_natCast, List.getElem?_toArray]; exact hv) h hs hg
theorem afG {tx : Tok} {c : Nat} {Q : Value -> Shared -> Prop} (hc : x.cps[j]? = some c) (hi : i = 0 + (j : Int)) (hl : x.length <= 100000) (h : ∀ t tk, Q (.str ⟨#[c]⟩ t) { s with toks := tk }) (hs : subscripted slice false (.str x tx) (.int i u) = operate [.str x tx, .int i u] (getItem (.str x tx) (.int i u))) (ht : ∀ r, letTemporaryGo value (.str x tx) r = pure ()) : wpAny (model prog w) A (subscriptTail value slice (.str x tx) (.int i u)) Q E s := by
 have hj : j < x.cps.size := (Array.getElem?_eq_some_iff.mp hc).1;have hj' : j < x.length := hj;refine KXi.item (n := x.length) rfl (by lia) (by lia) (by lia) (λ _ => ?_) hs ht;have e : Txt.item x i = ⟨#[c]⟩ := by
   unfold Txt.item;have : Txt.charAt x i = some c := by
     unfold Txt.charAt;rw [StrLaws.seqIndex_nonneg (by lia) (by lia)];show x.cps[i.toNat]? = some c;rw [hi, Int.zero_add, Int.toNat_natCast]; exact hc
   rw [this]; rfl
 rw [e];exact h _ _
theorem aiM {c : Nat} {vs : List Value} (g : ((⟨#[c]⟩ : Str) == ofString "f") = true) (h : StrsAre vs [ofString "f", ofString "i"]) : StrsAre vs ((dw c).map one) := by
 have e : (⟨#[c]⟩ : Str) = ofString "f" := eq_of_beq g;have : c = 102 := by
   have := congrArg (λ x : Str => x.cps.toList) e;exact (List.cons.inj (this.trans (show (ofString "f").cps.toList = [102] by decide +kernel))).1
 subst this;exact h
theorem aiN {c : Nat} {vs : List Value} (g : ((⟨#[c]⟩ : Str) == ofString "f") = false) (h : StrsAre vs [ofString "i", ofString "f"]) : StrsAre vs ((dw c).map one) := by
 have : c ≠ 102 := λ e => by
   subst e;exact absurd g (by decide +kernel)
 unfold dw;rw [if_neg this];exact h
theorem za {it : Obj} {rest : (Str -> Option Value) -> List (Addr × Obj) -> Prop} {Q : Flow -> Shared -> Prop} {f : Flow} (k : ∀ m n, (∀ p ∈ n, p.1 ≠ I) -> rest m n -> ∃ n', (∀ p ∈ n', p ∈ n) /\ rest' m n') (q : dj gO L Ok I it rest Q f gQ) : dj gO L Ok I it rest' Q f gQ := by
 have go : ir gO L Ok I it rest gQ -> ir gO L Ok I it rest' gQ := λ z => z.casesOn λ m n a b c d e => (k m n d e).elim λ n' hn => ⟨m, n', a, b, λ p hp => by
   rcases List.mem_cons.mp hp with hp | hp
   · exact c p (hp ▸ .head _)
   · exact c p (.tail _ (hn.1 p hp)), λ p hp => d p (hn.1 p hp), hn.2⟩
 cases f with
 | ret v => exact q
 | brk => exact q
 | next => exact go q
 | cont => exact go q
theorem vI {r Dw : Addr} {v : Tok} {wk : Nat} {wv : List Value} {all : List (Addr × Obj)} {book : Str} (_hw : StrsAre wv (aW k0)) (_hr : ∀ p ∈ n', p ∈ n') (_hbk : book.cps.toList = bk) (hlb : (aK k0).length <= bk.length) (hk : k0 <= 3) (hz : z = wv.length) (hh : A.handled = none) (F : Fr gO env.locals s.heap gY) (N : News gO env.locals s.heap all) (hod : od.IsDictOf (PySem.strKind prog w) []) (hsub : ∀ p ∈ (dc, od) :: (Dw, listOf wv.toArray wk) :: n', p ∈ all) (hne0 : ∀ p ∈ (Dw, listOf wv.toArray wk) :: n', p.1 ≠ dc) (hr : IsRange s.heap r 0 z 1 t u v) (turn : ∀ I (j : Nat) t u it h tk od kvs c R, book.cps[j]? = some c -> (j : Int) < 2 ^ 62 -> (j : Int) < wv.length -> kvs.length < 100 -> od.IsDictOf (PySem.strKind prog w) kvs -> (∀ p ∈ (dc, od) :: (Dw, listOf wv.toArray wk) :: (n' ++ R), p.1 ≠ I) -> (∀ p ∈ (Dw, listOf wv.toArray wk) :: (n' ++ R), p.1 ≠ dc) -> Fr gO env.locals h (bK [ofString "k"] gY u) -> News gO env.locals h ((I, it) :: (dc, od) :: (Dw, listOf wv.toArray wk) :: (n' ++ R)) -> wpAny (model prog w) A (assign (.Name nm px) env (.int (0 + (j : Int)) t)) (λ _ gQ => wpAny (model prog w) A (execs body env) (dj gO env.locals (yx s) I it (vH prog w dc kvs ((aW k0).getD (0 + (j : Int)).toNat Str.empty) c R ((Dw, listOf wv.toArray wk) :: n') gY) Q) E gQ) E { s with heap := h, toks := tk }) (done : ∀ u h tk c tw, wv[0]? = some (.str (aD (List.replicate k0 102)) tw) -> aaN prog w bk (aK k0) (aK k0).length ((Dw, listOf wv.toArray wk) :: n') c -> (∀ p ∈ (Dw, listOf wv.toArray wk) :: (n' ++ c.ds.map (λ d => (d.a, d.obj))), p.1 ≠ dc) -> Fr gO env.locals h (bK [ofString "k"] gY u) -> News gO env.locals h (wZ dc c ((Dw, listOf wv.toArray wk) :: n')) -> wpAny (model prog w) A (execs orelse env) Q E { s with heap := h, toks := tk }) : wpAny (model prog w) A (pyIter (.ref r)) (λ it gQ => eX prog w A gO env (.Name nm px) body orelse Q E it gQ) E s := by
 let rest : List (Addr × Obj) := (Dw, listOf wv.toArray wk) :: n'
 let ws := aK k0
 have hlen : wv.length = ws.length := by rw [_hw.length, dG, List.length_map]
 have hsz : ws.length <= 8 := by
   have := iI hk;rw [dG, List.length_map] at this;exact this
 have hdl : (aX bk ws).length = ws.length := by unfold aX; rw [List.length_map, List.length_zipIdx]
 let Led : DrC -> List (Addr × Obj) := λ c => wZ dc c rest
 let P : List Nat -> DrC -> Prop := λ pre c => aaN prog w bk ws pre.length rest c /\ ∀ p ∈ rest ++ qJ c, p.1 ≠ dc
 have hoff0 : ∀ p ∈ rest, p.1 ≠ dc := hne0
 refine gw (n := ws.length) (Ok := yx s) [ofString "k"] Led P ⟨od, []⟩ hh F (λ p hp => N p (hsub p (by simpa [Led, wZ, rest] using hp))) (okU s) ⟨s.heap, s.toks, rfl⟩ hr (small_one (by lia) (by lia) (by lia) (by lia)) (by rw [bc, hz, hlen, Int.sub_zero, Int.toNat_natCast]) ⟨⟨hod, rfl, (λ _ h => absurd h List.not_mem_nil), .nil, λ _ h => absurd h List.not_mem_nil⟩, by simpa [qJ] using hoff0⟩ (λ _ _ => rfl) ?_ ?_
 · intro I pre j post t c u it s' e hj ej hp off ok F' N'
   tm_at "aV";subst es;obtain ⟨ok1, ok2⟩ := hp;have hl : pre.length = j := by rw [ej, List.length_range]
   have hcl : c.ds.length = j := by
     have := congrArg List.length ok1.ed;rw [List.length_map, List.length_take, hdl, hl] at this;lia
   obtain ⟨key, hkey⟩ : ∃ key, ws[j]? = some key := ⟨ws[j], List.getElem?_eq_getElem hj⟩
   have hbj : j < book.cps.size := by
     have := congrArg List.length _hbk;rw [Array.length_toList] at this;have : ws.length <= bk.length := hlb;lia
   obtain ⟨cc, hcc⟩ : ∃ cc, book.cps[j]? = some cc := ⟨book.cps[j], Array.getElem?_eq_getElem hbj⟩
   have hbc : bk.getD j 0 = cc := by
     rw [<- _hbk, List.getD_eq_getElem?_getD, Array.getElem?_toList, hcc]; rfl
   have hgd : (aW k0).getD (0 + (j : Int)).toNat Str.empty = aD key := by
     rw [Int.zero_add, Int.toNat_natCast, dG, List.getD_eq_getElem?_getD, List.getElem?_map];show ((ws[j]?).map aD).getD _ = _;rw [hkey]; rfl
   have hgj := yZ (bk := bk) hkey;have hkeys : c.ds.map (·.key) = ws.take j := by
     have := congrArg (List.map (·.1)) ok1.ed;rw [List.map_map, hl, List.map_take] at this;refine Eq.trans this ?_
     congr 1
     unfold aX;rw [List.map_map];exact List.zipIdx_map_fst 0 ws
   have hnew : ∀ d ∈ c.ds, d.key ≠ key := λ d hd e => by
     have h1 : key ∈ ws.take j := hkeys ▸ e ▸ List.mem_map_of_mem hd;obtain ⟨i, hi, e1⟩ := List.getElem_of_mem h1;rw [List.getElem_take] at e1;rw [List.length_take] at hi;have h2 := (List.getElem?_eq_some_iff.mp hkey);obtain ⟨h3, h4⟩ := h2;have := (List.getElem_inj (tV hk)).mp (e1.trans h4.symm);lia
   have hst : ∀ D, stored (c.ds.map λ d => (aD d.key, Value.ref d.a)) (aD key) (.ref D) = (c.ds.map λ d => (aD d.key, Value.ref d.a)) ++ [(aD key, .ref D)] := λ D => by
     unfold stored;rw [if_neg];intro h;obtain ⟨kv, hm, e⟩ := List.any_eq_true.mp h;obtain ⟨d, hd, rfl⟩ := List.mem_map.mp hm;exact hnew d hd (aaO (of_decide_eq_true e))
   refine wpAny_mono (turn I j t u it h tk c.od (c.ds.map λ d => (aD d.key, Value.ref d.a)) cc (qJ c) hcc (by lia) (by lia) (by rw [List.length_map]; lia) ok1.hd off (by simpa [rest] using ok2) F' N') (λ _ gJ q₁ => wpAny_mono q₁ (λ f gQ q => za (λ m' news' _ z => ?_) q) λ _ _ e => e) λ _ _ e => e
   rw [hgd] at z;refine z.casesOn λ ho od' D vs k hd' hv hlt hdc e => ?_
   subst e;refine ⟨Led ⟨od', c.ds ++ [⟨key, D, vs, k, dw cc⟩]⟩, ?_, ho, ⟨od', c.ds ++ [⟨key, D, vs, k, dw cc⟩]⟩, ⟨⟨?_, ?_, ?_, ?_, ?_⟩, ?_⟩, rfl⟩
   · intro p hp
     have hp : p ∈ (dc, od') :: (rest ++ (c.ds ++ [(⟨key, D, vs, k, dw cc⟩ : fZ)]).map λ d : fZ => (d.a, d.obj)) := hp;rw [List.map_append] at hp;rcases List.mem_cons.mp hp with hp | hp
     · exact hp ▸ .head _
     · refine .tail _ ?_
       tm_at "aU"
       · exact .tail _ (List.mem_append_left _ hp)
       · rcases List.mem_append.mp hp with hp | hp
         · exact .tail _ (List.mem_append_right _ hp)
         · rw [List.mem_singleton.mp hp]; exact .head _
   · rw [hst] at hd'
     simpa using hd'
   · show _ = List.take ((pre ++ [j]).length) _
     rw [List.map_append, ok1.ed, List.length_append, hl, show j + [j].length = j + 1 from rfl, List.take_add_one, hgj, hbc]; rfl
   · intro d hd
     rcases List.mem_append.mp hd with hd | hd
     · exact ok1.v d hd
     · rw [List.mem_singleton.mp hd]; exact hv
   · rw [List.map_append]
     refine List.nodup_append.mpr ⟨ok1.nd, .cons (λ _ h => absurd h List.not_mem_nil) .nil, λ a ha b hb => ?_⟩;obtain ⟨d, hd, rfl⟩ := List.mem_map.mp ha;rw [List.mem_singleton.mp hb];exact Nat.ne_of_lt (hlt _ (List.mem_append_right _ (List.mem_map_of_mem (f := λ d : fZ => (d.a, d.obj)) hd)))
   · intro d hd p hp
     rcases List.mem_append.mp hd with hd | hd
     · exact ok1.lt d hd p hp
     · rw [List.mem_singleton.mp hd]; exact hlt p (List.mem_append_left _ hp)
   · intro p hp
     tm_at "aU"
     · exact ok2 p (List.mem_append_left _ hp)
     · unfold qJ at hp
       rw [List.map_append] at hp;tm_at "aU"
       · exact ok2 p (List.mem_append_right _ hp)
       · rw [List.mem_singleton.mp hp]; exact Nat.ne_of_gt hdc
 · intro c u s' hp ok F' N'
   tm_at "aV";subst es;obtain ⟨ok1, ok2⟩ := hp;rw [List.length_range] at ok1;have h0 : ∃ tw, wv[0]? = some (.str (aD (List.replicate k0 102)) tw) := by
     have : ∃ xs, aW k0 = aD (List.replicate k0 102) :: xs := by
       have : k0 = 0 \/ k0 = 1 \/ k0 = 2 \/ k0 = 3 := by lia
       rcases this with rfl | rfl | rfl | rfl <;> rw [dG] <;> exact ⟨_, rfl⟩
     obtain ⟨xs, e⟩ := this;rw [e] at _hw;cases _hw with
     | cons x u r => exact ⟨u, rfl⟩
   obtain ⟨tw, h0⟩ := h0;exact done u h tk c tw h0 ok1 (by simpa [rest] using ok2) F' N'
end
theorem zb (hk : 0 < k0 /\ k0 <= 3) (key : List Nat) (hl : key.length = k0) (hc : ∀ c ∈ key, c = 102 \/ c = 105) : ∃ ls, du key (aX bk (aK k0)) = some ls := by
 have h1 : key ∈ aK k0 := by
   have : ∀ (n : Nat) (key : List Nat), key.length = n -> (∀ c ∈ key, c = 102 \/ c = 105) -> key ∈ aK n := by
     intro n
     induction n with
     | zero => intro key h _; rw [List.length_eq_zero_iff.mp h]; exact .head _
     | succ n ih =>
       intro key h hc;have hne : key ≠ [] := by intro e; subst e; simp at h
       have e := List.dropLast_concat_getLast hne;refine List.mem_flatMap.mpr ⟨key.dropLast, ih _ (by rw [List.length_dropLast, h]; rfl) λ c h => hc c ((List.dropLast_sublist key).mem h), ?_⟩;refine List.mem_map.mpr ⟨key.getLast hne, ?_, e⟩;rcases hc _ (List.getLast_mem hne) with h | h
       · rw [h]; exact .head _
       · rw [h]; exact .tail _ (.head _)
   exact this k0 key hl hc
 have h2 : key ∈ (aX bk (aK k0)).map (·.1) := by
   unfold aX;rw [List.map_map];obtain ⟨j, hj, e⟩ := List.getElem_of_mem h1;refine List.mem_map.mpr ⟨(key, j), ?_, rfl⟩;exact List.mem_zipIdx_iff_getElem?.mpr (by rw [List.getElem?_eq_getElem hj, e])
 generalize aX bk (aK k0) = l at h2
 induction l with
 | nil => cases h2
 | cons d r ih =>
   unfold du
   by_cases e : d.1 = key
   · rw [if_pos e]; exact ⟨_, rfl⟩
   · rw [if_neg e]
     rcases List.mem_cons.mp h2 with h | h
     · exact absurd h.symm e
     · exact ih h
theorem mX (c : Nat) : (∀ z ∈ dw c, z = 102 \/ z = 105) /\ (dw c).length = 2 := by
 unfold dw
 by_cases h : c = 102
 · rw [if_pos h]; exact ⟨by decide, rfl⟩
 · rw [if_neg h]; exact ⟨by decide, rfl⟩
theorem vJ (hk : k0 <= 3) (t : List Nat × List Nat) : jw ⟨aX bk (aK k0), [t], []⟩ <= 40 := by
 have h1 : ∀ (l : List (List Nat × Nat)), ((l.map λ p => (p.1, dw (bk.getD p.2 0))).map (·.2.length)).sum = 2 * l.length := by
   intro l
   induction l with
   | nil => rfl
   | cons d r ih => rw [List.map_cons, List.map_cons, List.sum_cons, ih, List.length_cons]; show (dw _).length + _ = _; rw [(mX _).2]; lia
 have h2 : (aK k0).length <= 8 := by
   have := iI hk;rw [dG, List.length_map] at this;exact this
 unfold jw aX;rw [h1, List.length_zipIdx];show _ + 1 <= 40;lia
theorem vK {x Dw : Addr} {c : DrC} {wl : Obj} {t1 t2 : Tok} (ok : aaN prog w bk (aK k0) (aK k0).length ((Dw, wl) :: (x, ox) :: n') c) (hk : 0 < k0 /\ k0 <= 3) (hdx : (dx, dictOf es ne) ∈ n' ++ qJ c) (ox1 : ∀ p ∈ (T, bf (.str (aD (List.replicate k0 102)) t1) (.str (ofString "") t2)) :: (Dw, wl) :: (n' ++ qJ c), p.1 ≠ x) (ox2 : ∀ p ∈ (T, bf (.str (aD (List.replicate k0 102)) t1) (.str (ofString "") t2)) :: (Dw, wl) :: (n' ++ qJ c), p.1 ≠ nt) (ox3 : ∀ p ∈ (T, bf (.str (aD (List.replicate k0 102)) t1) (.str (ofString "") t2)) :: (Dw, wl) :: (n' ++ qJ c), p.1 ≠ dc) : ou prog w x dx nt dc es ne k0 c.ds ⟨aX bk (aK k0), [(List.replicate k0 102, [])], []⟩ [⟨T, aD (List.replicate k0 102), t1, ofString "", t2⟩] [] c.od ((T, bf (.str (aD (List.replicate k0 102)) t1) (.str (ofString "") t2)) :: (Dw, wl) :: (n' ++ qJ c)) n' := by
 have hl : (aX bk (aK k0)).length = (aK k0).length := by unfold aX; rw [List.length_map, List.length_zipIdx]
 have ed : (c.ds.map λ d => (d.key, d.ls)) = aX bk (aK k0) := by rw [ok.ed, List.take_of_length_le (Nat.le_of_eq hl)]
 refine ⟨ok.hd, ed.symm, λ d hd => ?_, ok.nd, .cons ⟨rfl, rfl, .head _, List.length_replicate, λ z hz => .inl (List.eq_of_mem_replicate hz)⟩ .nil, .nil, .tail _ (.tail _ hdx), ox1, ox2, ox3, zb hk, λ p hp => .tail _ (.tail _ (List.mem_append_left _ hp)), λ p hp d hd => Nat.ne_of_lt (ok.lt d hd p (.tail _ (.tail _ hp))), λ t ht => by rw [List.mem_singleton.mp ht]; exact Nat.zero_le 1, λ t ht => absurd ht List.not_mem_nil⟩;have hm : (d.key, d.ls) ∈ aX bk (aK k0) := ed ▸ List.mem_map_of_mem (f := λ d : fZ => (d.key, d.ls)) hd;unfold aX at hm;obtain ⟨p, _, e⟩ := List.mem_map.mp hm;have e2 : d.ls = dw (bk.getD p.2 0) := (congrArg Prod.snd e).symm;exact ⟨.tail _ (.tail _ (List.mem_append_right _ (List.mem_map_of_mem hd))), ok.v d hd, by rw [e2]; exact (mX _).1, by rw [e2, (mX _).2]; exact Nat.le_refl 2⟩
theorem tW {vs : List Value} (h : StrsAre vs xs) : StrsAre vs.reverse xs.reverse := by
 induction h with
 | nil => exact .nil
 | cons x u _ ih => rw [List.reverse_cons, List.reverse_cons]; exact bQ ih (.cons _ _ .nil)
noncomputable def pD (bk : List Nat) (k0 : Nat) : List (List Nat) := (fW 40 ⟨aX bk (aK k0), [(List.replicate k0 102, [])], []⟩).noted
noncomputable def kJ (bk : List Nat) (k0 : Nat) : Str := Txt.join (ofString "") ((pD bk k0).map aD).reverse
theorem tX {l : List (List Nat)} (h : ∀ t ∈ l, t.length <= 1) (hs : StrsAre nv (l.map aD)) (hn : nv.length < 1000) : (((l.map aD).reverse).map (·.length)).sum + ((l.map aD).reverse).length * (ofString "").length <= 16777216 := by
 have h1 : (((l.map aD).reverse).map (·.length)).sum <= l.length := by
   rw [List.map_reverse, List.sum_reverse];clear hs
   induction l with
   | nil => exact Nat.le_refl 0
   | cons a r ih =>
     rw [List.map_cons, List.map_cons, List.sum_cons, List.length_cons];have h2 : (aD a).length <= 1 := by
       show a.toArray.size <= 1;rw [List.size_toArray]; exact h a (.head _)
     have := ih λ t ht => h t (.tail _ ht)
     lia
 have h2 := hs.length;rw [List.length_map] at h2;rw [show (ofString "").length = 0 from rfl];lia
end
section
set_option tactic.hygienic false
open PySem.Spec PySem.Calls
noncomputable def cU : List Int := [65, 119808, 119860, 119912, 120016, 120172, 120224, 120276, 120328, 120380, 120432]
noncomputable def cN : List Int := [173, 847, 6150, 6155, 6156, 6157, 8203, 8204, 8205, 8288, 65279] ++ List.map (λ k' : Int => 65024 + k') (rangeKs 0 ((16 : Int) - 0).toNat)
theorem ae3 {l : List Int} (h : l.all (λ x => decide (0 <= x) && decide (x <= b)) = true) (hb : 0 <= b) (k : Nat) : 0 <= l.getD k 0 /\ l.getD k 0 <= b := by
 rw [List.getD_eq_getElem?_getD];cases hk : l[k]? with
 | none => exact ⟨Int.le_refl _, hb⟩
 | some x =>
   have := List.all_eq_true.mp h x (List.mem_of_getElem? hk)
   simpa using this
theorem xf (k : Nat) : 0 <= cU.getD k 0 /\ cU.getD k 0 <= 120432 := ae3 (by decide +kernel) (by decide) k
theorem aaQ (k : Nat) : 0 <= cN.getD k 0 /\ cN.getD k 0 <= 65279 := ae3 (by decide +kernel) (by decide) k
theorem ahN (h0 : 0 <= i) (h1 : i <= 0x10FFFF) : (decide (i < 0) || decide (i > 0x10FFFF)) = false := by
 rw [Bool.or_eq_false_iff]; exact ⟨decide_eq_false (by lia), decide_eq_false (by lia)⟩
noncomputable def bkP (n j : Nat) : Int := Int.fmod (Int.fdiv (n : Int) (24 ^ (0 + (j : Int)).toNat)) 24
noncomputable def vL (n j : Nat) : Int := cU.getD (Int.fmod (Int.fdiv (bkP n j) 6 * 3 + (0 + (j : Int))) 11).toNat 0
noncomputable def aaR (n j : Nat) : Int := cN.getD (Int.fmod (Int.fdiv (bkP n j) 6 * 8 + (0 + (j : Int))) 27).toNat 0
theorem vM (t0 t1 t2 t3 t4 t5 t6 t7 t8 t9 t10 : Tok) : IntsAre [.int 65 t0, .int 119808 t1, .int 119860 t2, .int 119912 t3, .int 120016 t4, .int 120172 t5, .int 120224 t6, .int 120276 t7, .int 120328 t8, .int 120380 t9, .int 120432 t10] cU := .cons 65 t0 (.cons 119808 t1 (.cons 119860 t2 (.cons 119912 t3 (.cons 120016 t4 (.cons 120172 t5 (.cons 120224 t6 (.cons 120276 t7 (.cons 120328 t8 (.cons 120380 t9 (.cons 120432 t10 (.nil)))))))))))
theorem kO : ((cU.length : Nat) : Int) = 11 := rfl
theorem jx : ((cN.length : Nat) : Int) = 27 := by decide +kernel
theorem ae4 (h : j < 8) : (24 : Int) ^ (0 + (j : Int)).toNat ≠ 0 /\ ((24 : Int) ^ (0 + (j : Int)).toNat).natAbs.log2 < 9000 := by
 have : j = 0 \/ j = 1 \/ j = 2 \/ j = 3 \/ j = 4 \/ j = 5 \/ j = 6 \/ j = 7 := by lia
 rcases this with rfl | rfl | rfl | rfl | rfl | rfl | rfl | rfl <;> decide +kernel
noncomputable def fJ (n j : Nat) : List (Str × Str) := [(⟨#[(vL n j + 5).toNat]⟩, ofString "f"), (⟨#[(vL n j + 8).toNat]⟩, ofString "i"), (ofString "ﬀ", ofString "ff"), (ofString "ﬁ", ofString "fi"), (ofString "ﬃ", ofString "ffi"), (⟨#[(aaR n j).toNat]⟩ ++ ofString "i", ofString "i")]
noncomputable def bj (n j : Nat) : Str × Str := (fJ n j).getD (Int.fmod (bkP n j) 6).toNat (Str.empty, Str.empty)
inductive aM (R : List (Addr × Obj)) : List Value -> List (Str × Str) -> Prop
 | nil : aM R [] []
 | cons {a : Addr} {x y : Str} {t u : Tok} {vs : List Value} {l : List (Str × Str)} : (a, bf (.str x t) (.str y u)) ∈ R -> aM R vs l -> aM R (.ref a :: vs) ((x, y) :: l)
theorem aM.mono {R' : List (Addr × Obj)} (hR : ∀ p ∈ R, p ∈ R') {vs : List Value} {l : List (Str × Str)} (h : aM R vs l) : aM R' vs l := by
 induction h with
 | nil => exact .nil
 | cons m _ ih => exact .cons (hR _ m) ih
theorem aM.snoc {a : Addr} (m : (a, bf (.str x t) (.str y u)) ∈ R) {vs : List Value} {l : List (Str × Str)} (h : aM R vs l) : aM R (vs ++ [.ref a]) (l ++ [(x, y)]) := by
 induction h with
 | nil => exact .cons m .nil
 | cons m' _ ih => exact .cons m' ih
theorem aM.length {vs : List Value} {l : List (Str × Str)} (h : aM R vs l) : vs.length = l.length := by
 induction h with
 | nil => rfl
 | cons _ _ ih => rw [List.length_cons, List.length_cons, ih]
theorem aM.get {vs : List Value} {l : List (Str × Str)} (h : aM R vs l) : ∀ (k : Nat), k < l.length -> ∃ a t u, vs[k]? = some (.ref a) /\ (a, bf (.str (l.getD k (Str.empty, Str.empty)).1 t) (.str (l.getD k (Str.empty, Str.empty)).2 u)) ∈ R := by
 induction h with
 | nil => intro k hk; exact absurd hk (Nat.not_lt_zero k)
 | @cons a x y t u vs l m _ ih =>
   intro k hk;cases k with
   | zero => exact ⟨a, t, u, rfl, m⟩
   | succ k => exact ih k (Nat.lt_of_succ_lt_succ hk)
theorem afH {k : Nat} {vs : List Value} {l : List (Str × Str)} {news : List (Addr × Obj)} {s : Shared} {Q : Value -> Shared -> Prop} (N : News gO L s.heap news) (hm : (D, listOf vs.toArray k) ∈ news) {R : List (Addr × Obj)} (hp : aM R vs l) (hk : ∀ p ∈ R, p ∈ news) (h0 : 0 <= i) (h1 : i < l.length) (hz : l.length < 1000) (h : ∀ a t v, (a, bf (.str (l.getD i.toNat (Str.empty, Str.empty)).1 t) (.str (l.getD i.toNat (Str.empty, Str.empty)).2 v)) ∈ R -> Q (.ref a) s) (hs : subscripted slice false (.ref D) (.int i u) = operate [.ref D, .int i u] (getItem (.ref D) (.int i u))) (hg : ∀ r, letTemporaryGo value (.ref D) r = pure ()) : wpAny (model prog w) A (subscriptTail value slice (.ref D) (.int i u)) Q E s := by
 obtain ⟨a, t, v, e, m⟩ := hp.get i.toNat (by lia);exact item_list (News.isList N hm) (by lia) (by lia) (by rw [List.getElem?_toArray]; exact e) (h a t v m) hs hg
theorem afI {k n : Nat} {vs : List Value} {news : List (Addr × Obj)} {s : Shared} {Q : Value -> Shared -> Prop} (_hn : n < 200000000000) (_hj : j < 8) (N : News gO L s.heap news) {R : List (Addr × Obj)} (hp : aM R vs (fJ n j)) (hm : (D, listOf vs.toArray k) ∈ news) (hk : ∀ p ∈ R, p ∈ news) (hi : i = Int.fmod (bkP n j) 6) (h : ∀ a t v, (a, bf (.str (bj n j).1 t) (.str (bj n j).2 v)) ∈ R -> Q (.ref a) s) (hs : subscripted slice false (.ref D) (.int i u) = operate [.ref D, .int i u] (getItem (.ref D) (.int i u))) (hg : ∀ r, letTemporaryGo value (.ref D) r = pure ()) : wpAny (model prog w) A (subscriptTail value slice (.ref D) (.int i u)) Q E s := by
 subst hi;exact afH N hm hp hk (Int.fmod_nonneg_of_pos _ (by decide)) (Int.fmod_lt_of_pos _ (by decide)) (by show 6 < 1000; decide) h hs hg
noncomputable abbrev zc : List Str := [ofString "k", ofString "p", ofString "base", ofString "veil", ofString "pieces"]
inductive qK (n j : Nat) (Dp : Addr) (vs : List Value) (R : List (Addr × Obj)) (gY m' : Str -> Option Value) (news' : List (Addr × Obj)) : Prop
 | mk : jo zc m' gY -> ∀ T k tx ty R', (T, bf (.str (bj n j).1 tx) (.str (bj n j).2 ty)) ∈ R' -> (∀ p ∈ R, p ∈ R') -> (∀ p ∈ R', p.1 ≠ Dp) -> news' = (Dp, listOf (vs ++ [Value.ref T]).toArray k) :: R' -> qK n j Dp vs R gY m' news'
section
variable {s : Shared} {Q : Flow -> Shared -> Prop}
theorem zf {r Dp Dh Db : Addr} {v : Tok} {kh kb n : Nat} {hv bv : List Value} {all : List (Addr × Obj)} (_hn : n < 200000000000) (_hi : IntsAre hv cN) (_hb : IntsAre bv cU) (_hr : ∀ p ∈ n', p ∈ n') (hh : A.handled = none) (F : Fr gO env.locals s.heap gY) (N : News gO env.locals s.heap all) (hsub : ∀ p ∈ (Dp, listOf #[] k0) :: (Dh, listOf hv.toArray kh) :: (Db, listOf bv.toArray kb) :: n', p ∈ all) (hoff : ∀ p ∈ (Dh, listOf hv.toArray kh) :: (Db, listOf bv.toArray kb) :: n', p.1 ≠ Dp) (hr : IsRange s.heap r 0 8 1 t u v) (turn : ∀ I (j : Nat) t u it h tk vs k R, j < 8 -> vs.length < 100 -> IntsAre hv cN -> IntsAre bv cU -> (Dh, listOf hv.toArray kh) ∈ R -> (Db, listOf bv.toArray kb) ∈ R -> (∀ p ∈ R, p.1 ≠ Dp) -> (∀ p ∈ (Dp, listOf vs.toArray k) :: R, p.1 ≠ I) -> Fr gO env.locals h (bK zc gY u) -> News gO env.locals h ((I, it) :: (Dp, listOf vs.toArray k) :: R) -> wpAny (model prog w) A (assign (.Name nm px) env (.int (0 + (j : Int)) t)) (λ _ gQ => wpAny (model prog w) A (execs body env) (dj gO env.locals (yx s) I it (qK n j Dp vs R gY) Q) E gQ) E { s with heap := h, toks := tk }) (done : ∀ u h tk vs k R, aM R vs ((List.range 8).map (bj n)) -> vs.length = 8 -> (∀ p ∈ n', p ∈ R) -> (∀ p ∈ R, p.1 ≠ Dp) -> Fr gO env.locals h (bK zc gY u) -> News gO env.locals h ((Dp, listOf vs.toArray k) :: R) -> wpAny (model prog w) A (execs orelse env) Q E { s with heap := h, toks := tk }) : wpAny (model prog w) A (pyIter (.ref r)) (λ it gQ => eX prog w A gO env (.Name nm px) body orelse Q E it gQ) E s := by
 let rest : List (Addr × Obj) := (Dh, listOf hv.toArray kh) :: (Db, listOf bv.toArray kb) :: n'
 let Led : BkC -> List (Addr × Obj) := λ c => (Dp, listOf c.vs.toArray c.k) :: c.R
 let P : List Nat -> BkC -> Prop := λ pre c => aM c.R c.vs (pre.map (bj n)) /\ (∀ p ∈ rest, p ∈ c.R) /\ ∀ p ∈ c.R, p.1 ≠ Dp
 refine gw (n := 8) (Ok := yx s) zc Led P ⟨[], k0, rest⟩ hh F (λ p hp => N p (hsub p hp)) (okU s) ⟨s.heap, s.toks, rfl⟩ hr (small_one (by lia) (by lia) (by lia) (by lia)) (by decide) ⟨.nil, λ _ h => h, hoff⟩ (λ _ _ => rfl) ?_ ?_
 · intro I pre j post t c u it s' e hj ej hp off ok F' N'
   tm_at "aV";subst es;obtain ⟨p1, p2, p3⟩ := hp;have hl := p1.length;rw [List.length_map, ej, List.length_range] at hl;refine wpAny_mono (turn I j t u it h tk c.vs c.k c.R hj (by lia) _hi _hb (p2 _ (.head _)) (p2 _ (.tail _ (.head _))) p3 off F' N') (λ _ gJ q₁ => wpAny_mono q₁ (λ f gQ q => fB (λ m' news' _ z => ?_) q) λ _ _ e => e) λ _ _ e => e
   refine z.casesOn λ ho T k tx ty R' hT hR hD e => ?_
   subst e;refine ⟨ho, ⟨_, k, R'⟩, ⟨?_, λ p hp => hR p (p2 p hp), hD⟩, rfl⟩;rw [List.map_append];exact (p1.mono hR).snoc hT
 · intro c u s' hp ok F' N'
   tm_at "aV";subst es;exact done u h tk c.vs c.k c.R hp.1 (by rw [hp.1.length, List.length_map, List.length_range]) (λ p h => hp.2.1 p (.tail _ (.tail _ h))) hp.2.2 F' N'
end
end
section
set_option tactic.hygienic false
open PySem.Spec PySem.Calls PyProof.Rows.LCg
theorem mY {f : α -> Str} {all : List α} (h : aU (λ a y => ∃ t, y = Value.str (f a) t) all ys) : StrsAre ys (all.map f) := by
 induction h with
 | nil => exact .nil
 | cons hd _ ih => obtain ⟨t, rfl⟩ := hd; exact .cons _ t ih
theorem vN {vs : List Value} {l : List (Str × Str)} (h : aM R vs l) : aU (λ (p : Str × Str) v => ∃ T t u, v = Value.ref T /\ (T, bf (.str p.1 t) (.str p.2 u)) ∈ R) l vs := by
 induction h with
 | nil => exact .nil
 | cons m _ ih => exact .cons ⟨_, _, _, rfl, m⟩ ih
section
variable {s : Shared} {m : Str -> Option Value} {news : List (Addr × Obj)}
theorem mZ {Fin : Shared -> List Value -> List (Addr × Obj) -> Prop} {vs : List Value} {k : Nat} {l : List (Str × Str)} (f : Str × Str -> Str) (hh : A.handled = none) (F : Fr gO L s.heap m) (N : News gO L s.heap news) (hm : (ax, listOf vs.toArray k) ∈ news) (hp : aM news vs l) (hsz : vs.length <= 1000) (turn : ∀ g (p : Str × Str) T t u I oI C oC D ys gW h tk (E' : Value -> Shared -> Prop), (T, bf (.str p.1 t) (.str p.2 u)) ∈ news -> NsObj oC gW -> gW x = some (.ref T) -> Fr gO L h m -> News gO L h ((I, oI) :: (C, oC) :: (D, LCg.lst ys) :: news) -> Off3 I C D news -> ((@Ne Nat I C) /\ (@Ne Nat I D) /\ (@Ne Nat C D)) -> wpAny (model prog w) A (eval elt (compEnvC scope cl C env)) (LCg.CompEnd gO L m { { s with heap := g } with heap := h, toks := tk } I oI C oC D (LCg.lst ys) (SrcAt gO ax vs.toArray) (λ y news' => (∃ t, y = .str (f p) t) /\ news' = news)) E' { { s with heap := g } with heap := h, toks := tk }) (done : ∀ g ys, StrsAre ys (l.map f) -> Fin { s with heap := g } ys news) : LCg.CompSrc prog w A gO L m env elt x scope cl Fin (.ref ax) s :=
 fH (all := l) (λ (p : Str × Str) v => ∃ T t u, v = Value.ref T /\ (T, bf (.str p.1 t) (.str p.2 u)) ∈ news) (λ p y => ∃ t, y = .str (f p) t) hh F N hm (vN hp) hsz
   (λ g p v I oI C oC D ys gW h tk E' _ hv hC hx F' N' off ne => by
     refine Classical.byContradiction λ hG9 => ?_
     obtain ⟨T, t, u, rfl, hT⟩ := hv;tm_at "V";exact turn g p T t u I oI C oC D ys gW h tk E' hT hC hx F' N' off ne) λ g ys h => done g ys (mY h)
end
theorem iJ (n j : Nat) : (bj n j).1.length <= 3 /\ (bj n j).2.length <= 3 := by
 have h : ∀ p ∈ fJ n j, p.1.length <= 3 /\ p.2.length <= 3 := by
   unfold fJ;intro p hp;simp only [List.mem_cons, List.not_mem_nil, or_false] at hp;rcases hp with rfl | rfl | rfl | rfl | rfl | rfl
   · exact ⟨(by decide : 1 <= 3), (by decide : (ofString "f").length <= 3)⟩
   · exact ⟨(by decide : 1 <= 3), (by decide : (ofString "i").length <= 3)⟩
   · decide +kernel
   · decide +kernel
   · decide +kernel
   · refine ⟨?_, (by decide : (ofString "i").length <= 3)⟩
     show (Array.size (_ ++ _)) <= 3;rw [Array.size_append];exact (by decide : 1 + 1 <= 3)
 unfold bj;rw [List.getD_eq_getElem?_getD];cases e : (fJ n j)[(Int.fmod (bkP n j) 6).toNat]? with
 | none => exact ⟨Nat.zero_le 3, Nat.zero_le 3⟩
 | some p => exact h p (List.mem_of_getElem? e)
theorem adg {l : List Str} (h : ∀ x ∈ l, x.length <= 3) : (l.map (·.length)).sum <= 3 * l.length := by
 induction l with
 | nil => exact Nat.le_refl 0
 | cons a r ih =>
   rw [List.map_cons, List.sum_cons, List.length_cons];have := h a (.head _);have := ih λ x hx => h x (.tail _ hx)
   lia
theorem tY {n : Nat} (f : Str × Str -> Str) (hf : ∀ j, (f (bj n j)).length <= 3) (hx : (f (x, y)).length <= 3) (hx' : (f (x', y')).length <= 3) : ((((((List.range 8).map (bj n) ++ [(x, y)]) ++ [(x', y')]).map f)).map (·.length)).sum + ((((List.range 8).map (bj n) ++ [(x, y)]) ++ [(x', y')]).map f).length * (ofString "").length <= 16777216 := by
 have h : ∀ z ∈ (((List.range 8).map (bj n) ++ [(x, y)]) ++ [(x', y')]).map f, z.length <= 3 := by
   intro z hz;obtain ⟨p, hp, rfl⟩ := List.mem_map.mp hz;tm_at "aU"
   · rcases List.mem_append.mp hp with hp | hp
     · obtain ⟨j, _, rfl⟩ := List.mem_map.mp hp
       exact hf j
     · rw [List.mem_singleton.mp hp]; exact hx
   · rw [List.mem_singleton.mp hp]; exact hx'
 have := adg h;tm_at "a6";rw [e];simp only [List.length_map, List.length_append, List.length_range, List.length_cons, List.length_nil] at this ⊢;lia
theorem aaS {n : Nat} (hx : x.length <= 3) (hx' : x'.length <= 3) : ((((((List.range 8).map (bj n) ++ [(x, y)]) ++ [(x', y')]).map λ p => p.1)).map (·.length)).sum + ((((List.range 8).map (bj n) ++ [(x, y)]) ++ [(x', y')]).map λ p => p.1).length * (ofString "").length <= 16777216 := tY (λ p => p.1) (λ j => (iJ n j).1) hx hx'
theorem aaT {n : Nat} (hx : y.length <= 3) (hx' : y'.length <= 3) : ((((((List.range 8).map (bj n) ++ [(x, y)]) ++ [(x', y')]).map λ p => p.2)).map (·.length)).sum + ((((List.range 8).map (bj n) ++ [(x, y)]) ++ [(x', y')]).map λ p => p.2).length * (ofString "").length <= 16777216 := tY (λ p => p.2) (λ j => (iJ n j).2) hx hx'
noncomputable def iz (n : Nat) : List (Str × Str) := (((List.range 8).map (bj n) ++ [(⟨#[(1040 + Int.fmod (n : Int) 32).toNat]⟩, ⟨#[(1072 + Int.fmod (n : Int) 32).toNat]⟩)]) ++ [(ofString "ẞ", ofString "ß")])
noncomputable def qU (n : Nat) : Str := Txt.join (ofString "") ((iz n).map λ p => p.1)
noncomputable def qM (n : Nat) : Str := Txt.join (ofString "") ((iz n).map λ p => p.2)
end
section
set_option tactic.hygienic false
noncomputable def nj : List Expr -> Option (List Int)
 | [] => some []
 | e :: r => match e with
   | .Constant (.int i) _ _ => (nj r).map (i :: ·)
   | _ => none
noncomputable def lE : List Int -> Tok -> List Value
 | [], _ => []
 | z :: r, t => .int z t :: lE r (t + 1)
theorem zg {pos : Pos} (es : List Expr) : ∀ {zs : List Int} {s : Shared} {Q : List Value -> Shared -> Prop}, nj es = some zs -> Q (lE zs s.toks) { s with toks := s.toks + zs.length } -> wpAny M A (spliced (backTo pos (starEach es env))) Q E s := by
 induction es with
 | nil => intro zs s Q h k; cases h; exact args_nil k
 | cons e r ih =>
   intro zs s Q h k;cases e with
   | Constant c kd p =>
     cases c with
     | int i =>
       have hr : ∃ ys, nj r = some ys /\ zs = i :: ys := by
         have h' : (nj r).map (i :: ·) = some zs := h;cases hq : nj r with
         | none => rw [hq] at h'; cases h'
         | some ys => rw [hq] at h'; cases h'; exact ⟨ys, rfl, rfl⟩
       obtain ⟨ys, e1, rfl⟩ := hr;refine args_cons (PySem.wpAny_Constant_int (ih e1 ?_));have e2 : s.toks + 1 + ys.length = s.toks + (i :: ys).length := by rw [List.length_cons]; lia
       show Q (.int i s.toks :: lE ys (s.toks + 1)) { s with toks := s.toks + 1 + ys.length };rw [e2]; exact k
     | _ => cases h
   | _ => cases h
noncomputable def K1t (P : Params) : Frag := (nat_lit 140, (⟨.none, none, .fields #[], #[]⟩ : Obj)) :: (nat_lit 147, (⟨.none, none, .fields #[], #[]⟩ : Obj)) :: K1 P
noncomputable def aiO : List Addr := nat_lit 140 :: nat_lit 147 :: as1
noncomputable def di : Hook := kHook K1t aiO (λ _ => by kernel_rfl)
theorem adh (w : World) (os : OsState) : Hook.obs di (s1 w.params os) = Hook.val di w := by kernel_rfl
theorem adi (w : World) : (λ os => ((staticsOk (importedModules pw.main.body) (boot_heap w.params) (H1 w.params) && namesBound pw (H1 w.params) && gensDone ⟨H1 w.params, Array.mk [], {}, 2597, os⟩ && laidKept (boot_heap w.params) (H1 w.params)), openSeen q1 bN (importedModules pw.main.body) Xt1 true ⟨H1 w.params, Array.mk [], {}, 2597, os⟩, Hook.obs di ⟨H1 w.params, Array.mk [], {}, 2597, os⟩)) = λ _ => (true, openGood q1 bN, Hook.val di w) := by
 funext os;exact aix (afn w os) (rC (s := s1 w.params os) (acz w os) (acA w os) (acB w os) (acC w) (acD w os) rfl (acE w os) (acF w os) (acG w os) (acH w os) (aaa w os) (aab w os)) (adh w os)
theorem afJ : LeftO pw q1 bN Xt1 (Hook.obs di) (Hook.val di) 40000 true :=
 LeftO.of_pieces (open_ := boot_open ahp rfl afm) (size := ahr) (run := aiw) (le := ahq) (looks := adi)
noncomputable abbrev ahO : World -> Heap -> Prop := Hook.says di
noncomputable def qN : Prop := WalkO q1 bN (XL q1 []) ahO rw1.row.toRowW d17 [] λ f vs => PySem.call f vs
theorem vO (said : rw1.row.wellSaid = true) (call : qN) : rw1.row.Holds :=
 holds_open (q := q1) (loose := bN) (Xt := Xt1) (XP := XL q1 []) (Yf := Hook.obs di) (Ya := Hook.val di) (YP := Hook.says di) (N := 40000)
   afJ (Hook.of di) (Hook.keeps di) (λ s e => xl_of s (Bool.and_eq_true_iff.mp e).1) XL.keeps ahu hp1 hk1 (λ s e => recFacts_of (Bool.and_eq_true_iff.mp e).2) rfl said ok1 ahv ahw call
theorem afK (call : qN) : rw1.Holds := by
 exact holds_law ahx λ said => vO said call
end
section
set_option tactic.hygienic false
open PySem.Spec PySem.Calls
noncomputable abbrev ahP : Obj := ⟨.none, none, .freed, #[]⟩
noncomputable def fK (h : Heap) (a : Addr) : Heap := ⟨h.objs.setIfInBounds a ahP, h.life⟩
theorem pF (h : Heap) (a : Addr) : (fK h a).objs.size = h.objs.size := by unfold fK; simp
theorem jW (h : Heap) (a : Addr) : (fK h a).get? a = none := by
 unfold Heap.get? fK;dsimp only;rw [Array.getElem?_setIfInBounds_self]
 by_cases e : a < h.objs.size
 · rw [if_pos e]
 · rw [if_neg e]
theorem lF (h : Heap) {a b : Addr} (e : a ≠ b) : (fK h a).get? b = h.get? b := by
 unfold Heap.get? fK;dsimp only;rw [Array.getElem?_setIfInBounds_ne e]
theorem pG {a b : Addr} {o : Obj} (e : (fK h a).get? b = some o) : h.get? b = some o := by
 by_cases q : a = b
 · rw [<- q, jW] at e; cases e
 · rw [lF h q] at e; exact e
noncomputable def jX (h : Heap) : Heap := fK (fK h 140) 147
theorem tZ (h : Heap) : (jX h).objs.size = h.objs.size := by unfold jX; rw [pF, pF]
theorem adk (h : Heap) : (jX h).get? 140 = none := by
 unfold jX; rw [lF _ (show (147 : Nat) ≠ 140 by decide), jW]
theorem adl (h : Heap) : (jX h).get? 147 = none := jW _ _
theorem qO (h : Heap) {b : Addr} (e1 : @Ne Nat b 140) (e2 : @Ne Nat b 147) : (jX h).get? b = h.get? b := by
 unfold jX; rw [lF _ (λ e => e2 e.symm), lF _ (λ e => e1 e.symm)]
theorem nq {b : Addr} {o : Obj} (e : (jX h).get? b = some o) : h.get? b = some o := pG (pG e)
section
noncomputable abbrev cX : Obj := ⟨.none, none, .fields #[], #[]⟩
theorem lG {b : Addr} {o : Obj} (k1 : h.get? 140 = some cX) (k2 : h.get? 147 = some cX) (e : h.get? b = some o) (ho : o ≠ cX) : (jX h).get? b = some o := by
 rw [qO]
 · exact e
 · intro q; rw [show b = 140 from q, k1] at e; cases e; exact ho rfl
 · intro q; rw [show b = 147 from q, k2] at e; cases e; exact ho rfl
theorem gB {a : Addr} {m : Str -> Option Value} (k1 : h.get? 140 = some cX) (k2 : h.get? 147 = some cX) (n : h.Ns a m) : (jX h).Ns a m := by
 obtain ⟨o, es, ep, e, d, r⟩ := n;exact ⟨o, es, ep, lG k1 k2 e (λ q => by rw [q] at d; cases d), d, r⟩
theorem aaU (k1 : h.get? 140 = some cX) (k2 : h.get? 147 = some cX) (x : h.NoSeer) : (jX h).NoSeer where
 statics := x.statics.imp λ _ h => ⟨gB k1 k2 h.1, h.2⟩
 mods := x.mods.imp λ _ h => ⟨gB k1 k2 h.1, h.2⟩
 imp := x.imp.imp λ _ h => ⟨gB k1 k2 h.1, h.2⟩
 main := x.main.imp λ _ => Exists.imp λ _ => Exists.imp λ _ h => ⟨gB k1 k2 h.1, h.2.1, lG k1 k2 h.2.2.1 (λ q => by have d := h.2.2.2.1; rw [q] at d; cases d), h.2.2.2⟩
noncomputable def p0 : Program := { q1 with main := { q1.main with body := [] } }
noncomputable def afL : List Str := looseW q1 bN ++ (recsOf q1).map (·.name) ++ (litsOf q1).map (·.1) ++ (clssOf q1 (looseW q1 bN)).map (·.name)
theorem aiP : importsNone q1 = true := by kernel_rfl
theorem adm (k1 : h.get? 140 = some cX) (k2 : h.get? 147 = some cX) (T : Top q1 (looseW q1 bN) mean mg mb h) : Top p0 afL mean mg mb (jX h) where
 g := gB k1 k2 T.g
 b := gB k1 k2 T.b
 nolimit := T.nolimit.imp λ _ h => ⟨gB k1 k2 h.1, h.2⟩
 nodigits := T.nodigits.imp λ _ h => ⟨gB k1 k2 h.1, h.2⟩
 fn := λ d hd => absurd hd List.not_mem_nil
 own := λ d hd => absurd hd List.not_mem_nil
 const := λ x d e => by cases e
 free := λ x h1 h2 _ _ _ => T.free x h1 (λ q => h2 (List.mem_append_left _ (List.mem_append_left _ (List.mem_append_left _ q)))) (λ q => h2 (List.mem_append_left _ (List.mem_append_left _ (List.mem_append_right _ q))))
   (λ q => h2 (List.mem_append_left _ (List.mem_append_right _ q))) (λ q => h2 (List.mem_append_right _ q))
 builtins := T.builtins
 tab := λ d hd => absurd hd List.not_mem_nil
 bmain := T.bmain.imp λ _ => Exists.imp λ _ h => ⟨h.1, h.2.1, lG k1 k2 h.2.2.1 (λ q => by have d := h.2.2.2.1; rw [q] at d; cases d), h.2.2.2⟩
 seer := λ _ => aaU k1 k2 (T.seer aiP)
theorem afM {m : Str -> Option Value} (F : Fr h L h' m) : Fr (jX h) L h' m := ⟨F.ns, λ b o e => F.keep b o (nq e), by rw [tZ]; exact F.above⟩
theorem aaV {m : Str -> Option Value} {news : List (Addr × Obj)} (k1 : h.get? 140 = some cX) (k2 : h.get? 147 = some cX) (hL : 147 < L) (F : Fr h L h' m) (N : News h L h' news) : News (jX h) L h' ((140, cX) :: (147, cX) :: news) := λ p hp => by
 rcases List.mem_cons.mp hp with rfl | hp
 · exact ⟨F.keep _ _ k1, Nat.ne_of_lt (Nat.lt_trans (by decide) hL), adk h⟩
 · rcases List.mem_cons.mp hp with rfl | hp
   · exact ⟨F.keep _ _ k2, Nat.ne_of_lt hL, adl h⟩
   · obtain ⟨a, b, c⟩ := N p hp
     refine ⟨a, b, ?_⟩;cases e : (jX h).get? p.1 with
     | none => rfl
     | some o => rw [nq e] at c; cases c
end
theorem aaW (P : Params) : (K1 P).lookup 140 = none := by kernel_rfl
theorem aaX (P : Params) : (K1 P).lookup 147 = none := by kernel_rfl
theorem afN (Y : ahO w h) : h.get? 140 = some cX /\ h.get? 147 = some cX /\ (K1 w.params).In (jX h) := by
 have X : (K1t w.params).In h := kIn_of Y;refine ⟨X 140 _ rfl, X 147 _ rfl, λ a o e => ?_⟩;have e1 : @Ne Nat a 140 := λ q => by rw [show a = 140 from q, aaW] at e; cases e
 have e2 : @Ne Nat a 147 := λ q => by rw [show a = 147 from q, aaX] at e; cases e
 rw [qO h e1 e2];refine X a o ?_;show List.lookup a ((140, cX) :: (147, cX) :: K1 w.params) = some o;rw [List.lookup_cons, List.lookup_cons, show (a == 140) = false from beq_eq_false_iff_ne.mpr e1, show (a == 147) = false from beq_eq_false_iff_ne.mpr e2];exact e
noncomputable def aiQ : List (Str × Const) := (aQ (st 20)).more
noncomputable abbrev au : Scope := ⟨.function, [(ofString "script", .cell), (ofString "start", .cell), (ofString "k", .local), (ofString "numbers", .local), (ofString "orders", .local), (ofString "top", .local), (ofString "leads", .local), (ofString "n", .cell), (ofString "width", .cell), (ofString "spelled", .local), (ofString "meant", .local), (ofString "book", .local), (ofString "shelf", .local), (ofString "ring", .local), (ofString "page", .local), (ofString "turns", .cell), (ofString "rows", .local), (ofString "whole", .local), (ofString "at", .local), (ofString "marks", .local), (ofString "lead", .cell), (ofString "one", .local), (ofString "two", .local), (ofString "former", .cell), (ofString "latter", .cell), (ofString "columns", .local), (ofString "behind", .local), (ofString "ahead", .local), (ofString "unlike", .local), (ofString "range", .globalImplicit), (ofString "max", .globalImplicit), (ofString "_law_book", .globalImplicit), (ofString "_Accumulator", .globalImplicit), (ofString "_law_ring", .globalImplicit), (ofString "str", .globalImplicit), (ofString "len", .globalImplicit), (ofString "_law_page", .globalImplicit), (ofString "sorted", .globalImplicit), (ofString "_law_words", .globalImplicit), (ofString "Whitespace", .globalImplicit), (ofString "tuple", .globalImplicit), (ofString "_law_counts", .globalImplicit), (ofString "_law_columns", .globalImplicit)], false, false, aiQ⟩
theorem e20 : aQ (st 20) = au := by kernel_rfl
noncomputable def sb (i : Nat) : Stmt := (cg (st 20)).getD i default
theorem afO : cg (st 20) = [sb 0, sb 1, sb 2, sb 3, sb 4, sb 5, sb 6, sb 7, sb 8, sb 9, sb 10, sb 11, sb 12, sb 13, sb 14, sb 15] := by kernel_rfl
noncomputable def aaY : List Stmt := match sb 5 with
 | .For _ _ body _ _ => body
 | _ => []
noncomputable def tb (i : Nat) : Stmt := aaY.getD i default
theorem ahQ : aaY = [tb 0, tb 1, tb 2, tb 3, tb 4, tb 5, tb 6, tb 7, tb 8, tb 9, tb 10, tb 11, tb 12, tb 13, tb 14, tb 15, tb 16, tb 17, tb 18, tb 19] := by kernel_rfl
end
section
set_option tactic.hygienic false
open PySem.Spec PySem.Calls PyProof.Rows.LCg PyProof.Rows.LCt
section
variable {s : Shared} {m : Str -> Option Value}
inductive zj (prog : Program) (w : World) (A : Around) (gO : Heap) (L : Addr) (m : Str -> Option Value) (env : Env) (elt : Expr) (x : Str) (scope : Scope) (cl : List (Str × Addr)) (Fin : Shared -> List Value -> List (Addr × Obj) -> Prop) (xv : Value) (gJ : Shared) : Prop
 | txt : ∀ tx t news, (xv = .str tx t) -> (A.handled = none) -> (Fr gO L gJ.heap m) -> (News gO L gJ.heap news) -> (tx.cps.size <= sizeLine) -> (∀ h : Heap, CompRest prog w A gO L m env elt x scope cl { gJ with heap := h } (λ _ => True) (SignAt tx) (Fin { gJ with heap := h }) tx.cps.size 0 [] news) -> zj prog w A gO L m env elt x scope cl Fin xv gJ
 | rng : ∀ r a b c t u v n news, (xv = .ref r) -> (A.handled = none) -> (Fr gO L gJ.heap m) -> (News gO L gJ.heap news) -> IsRange gJ.heap r a b c t u v -> Builtin.Range.small a b c = true -> Builtin.Range.rangeSize a b c = ((n : Nat) : Int) -> (n <= sizeLine) -> (∀ h : Heap, CompRest prog w A gO L m env elt x scope cl { gJ with heap := h } (λ _ => True) (λ i v => i < n /\ ∃ t, v = .int (a + i * c) t) (Fin { gJ with heap := h }) n 0 [] news) -> zj prog w A gO L m env elt x scope cl Fin xv gJ
theorem afP {a c : Int} {n : Nat} : ∀ i (h h' : Heap) (o : Obj) (nw : List (Addr × Obj)), IsRangeIter h I (a + (i : Nat) * c) ((n : Int) - (i : Nat)) c -> h.get? I = some o -> h'.get? I = some o -> (∀ b o, gO.get? b = some o -> h'.get? b = some o) -> News gO L h' nw -> True -> IsRangeIter h' I (a + (i : Nat) * c) ((n : Int) - (i : Nat)) c :=
 λ i h h' o nw st e e' _ _ _ => by
   have st' : h.get? I = some _ := st;show h'.get? I = some _;rw [e', <- e]; exact st'
theorem vP {pos : Pos} {Q : Value -> Shared -> Prop} (F₀ : Fr gO L s.heap m) (hclos : closureFor scope env = pure cl) (hcell : ∀ y ∈ scope.names, y.2 ≠ .cell) (hkind : scope.kind = .function) (hnames : ∀ y ∈ scope.names, y.2 = .local -> scope.names.lookup y.1 = some .local) (hx : scope.names.lookup x = some .local) (h : wpAny (model prog w) A (eval iter env) (zj prog w A gO L m env elt x scope cl (λ gQ => FinE gO L m gQ Q)) E s) (hs : ∀ x, foldedSetIterable iter env x = pure x) : wpAny (model prog w) A (eval (.ListComp elt [⟨.Name x px, iter, [], 0⟩] scope pos) env) Q E s := by
 rw [eval_ListComp];tm_at "ci";have go : ∀ {P : Nat -> Value -> Prop} {St : Nat -> Heap -> Prop} (n : Nat) (o : Obj) (news : List (Addr × Obj)), Fr gO L gJ.heap m -> News gO L gJ.heap news -> n <= sizeLine -> Walks prog w A gJ.heap.objs.size [gJ.heap.objs.size] [gJ.heap.objs.size] n P St ->
     (∀ i h, St i h -> ∃ o, h.get? gJ.heap.objs.size = some o) ->
     (∀ i h h' o nw, St i h -> h.get? gJ.heap.objs.size = some o -> h'.get? gJ.heap.objs.size = some o -> (∀ b o, gO.get? b = some o -> h'.get? b = some o) -> News gO L h' nw -> True -> St i h') -> St 0 (gJ.heap.push o) ->
     (∀ h : Heap, CompRest prog w A gO L m env elt x scope cl { gJ with heap := h } (λ _ => True) P (FinE gO L m { gJ with heap := h } Q) n 0 [] news) ->
     wpAny (model prog w) A (newList []) (λ acc s₃ => wpAny (model prog w) A (newFunctionEnv scope env.globals cl [] env.qual none .none (some env)) (λ cenv s₄ =>
     codeAny (model prog w) A (.compStart (.ListComp elt [⟨.Name x px, iter, [], 0⟩] scope pos) 0 (.ref gJ.heap.objs.size) acc { cenv with scope := relabel scope env }) (compPost (model prog w) A E none Q acc cenv.locals) s₄) E s₃) E { gJ with heap := gJ.heap.push o } := by
   intro P St n o news F N hsz W hIo hSt hst R;refine wpAny_mono (block_U (RR := λ v C => compPost (model prog w) A E none Q v C) W hsz hIo hSt hcell hkind hx hst (λ b hb => ?_)
     (F.keeps λ _ _ e => Heap.get?_push_of_some _ e) (N.grown λ _ _ e => Heap.get?_push_of_some _ e) (Nat.ne_of_lt F.ns.lt) (next_is_new F) (λ p hp => Nat.ne_of_lt (Heap.lt_size (N p hp).1)) trivial (R _) ?_) (λ _ _ q => q) λ _ _ e => e
   · rw [List.mem_singleton.mp hb]
     show gJ.heap.objs.size < (gJ.heap.push _).objs.size;rw [Heap.size_push]; exact Nat.lt_succ_self _
   · intro D C h tk m' ys news' F' N' o1 hn hC₀ hD₀ hCL hDL hCD offC fin
     tm_at "cw";refine ⟨hs''.extBut _ _ ?_ (N' p hp).1, (N' p hp).2⟩;tm_at "an"
     · exact Ne.symm hCD
     · exact offC p hp
 refine h₁.casesOn (λ tx t news e hh F N hsz R => ?_) (λ r a b c t u v n news e hh F N hr hsm hn hsz R => ?_)
 · subst e
   cases ha : tx.cps.all (· < 128)
   · exact wpAny_pyIter_wide ha (go _ { cls := .type "str_iterator", data := .fields #[.str tx t, .int 0 0] } news F N hsz (Walks.strWide hh _ tx t) (λ i h st => st.elim λ o e => ⟨o, e.1⟩) (λ i => vh i) ⟨_, Heap.get?_push_size _ rfl, rfl, rfl⟩ R)
   · exact wpAny_pyIter_ascii ha (go _ { cls := .type "str_ascii_iterator", data := .fields #[.str tx t, .int 0 0] } news F N hsz (Walks.strAscii hh _ tx t) (λ i h st => st.elim λ o e => ⟨o, e.1⟩) (λ i => vh i) ⟨_, Heap.get?_push_size _ rfl, rfl, rfl⟩ R)
 · subst e
   exact wpAny_pyIter_range hr hsm (go n _ news F N hsz (Walks.range hh _ a c n).bound (λ i h st => ⟨_, st⟩) afP (by show IsRangeIter _ _ _ _ _; rw [hn]; simpa using Heap.get?_push_size _ rfl) R)
theorem aaZ {Fin : Shared -> List Value -> List (Addr × Obj) -> Prop} {tx : Str} {news : List (Addr × Obj)} (f : Nat -> Str) (hh : A.handled = none) (F : Fr gO L s.heap m) (N : News gO L s.heap news) (hz : tx.length < 1000) (turn : ∀ g (c : Nat) u I oI C oC D ys gW h tk (E' : Value -> Shared -> Prop), c ∈ tx.cps.toList -> NsObj oC gW -> gW x = some (.str ⟨#[c]⟩ u) -> Fr gO L h m -> News gO L h ((I, oI) :: (C, oC) :: (D, lst ys) :: news) -> Off3 I C D news -> ((@Ne Nat I C) /\ (@Ne Nat I D) /\ (@Ne Nat C D)) -> wpAny (model prog w) A (eval elt (compEnvC scope cl C env)) (CompEnd gO L m { { s with heap := g } with heap := h, toks := tk } I oI C oC D (lst ys) (λ _ => True) (λ y news' => (∃ t, y = .str (f c) t) /\ news' = news)) E' { { s with heap := g } with heap := h, toks := tk }) (done : ∀ g ys, StrsAre ys (tx.cps.toList.map f) -> Fin { s with heap := g } ys news) : zj prog w A gO L m env elt x scope cl Fin (.str tx t) s :=
 .txt tx t news rfl hh F N (by rw [sizeLine_eq]; unfold Str.length at hz; lia) λ g => fG (all := tx.cps.toList) (n := tx.cps.size) (λ c v => ∃ u, v = .str ⟨#[c]⟩ u) (λ c y => ∃ t, y = .str (f c) t)
   (λ i v _ hP => hP.elim λ c hP => hP.elim λ u hP => ⟨c, Array.getElem?_toList.trans hP.1, u, hP.2⟩) Array.length_toList
   (λ c v I oI C oC D ys gW h tk E' hc hp hC hx F' N' off ne => hp.elim λ u e => turn g c u I oI C oC D ys gW h tk E' hc hC (hx.trans (congrArg some e)) F' N' off ne) λ ys h => done g ys (aU.strsAre h)
theorem zm {Fin : Shared -> List Value -> List (Addr × Obj) -> Prop} {r : Addr} {a c : Int} {v : Tok} {n : Nat} {news : List (Addr × Obj)} (f : Nat -> Str) (hh : A.handled = none) (F : Fr gO L s.heap m) (N : News gO L s.heap news) (hr : IsRange s.heap r a b c t u v) (hsm : Builtin.Range.small a b c = true) (hn : Builtin.Range.rangeSize a b c = ((n : Nat) : Int)) (hsz : n <= sizeLine) (turn : ∀ g (i : Nat) t I oI C oC D ys gW h tk (E' : Value -> Shared -> Prop), i < n -> NsObj oC gW -> gW x = some (.int (a + i * c) t) -> Fr gO L h m -> News gO L h ((I, oI) :: (C, oC) :: (D, lst ys) :: news) -> Off3 I C D news -> ((@Ne Nat I C) /\ (@Ne Nat I D) /\ (@Ne Nat C D)) -> wpAny (model prog w) A (eval elt (compEnvC scope cl C env)) (CompEnd gO L m { { s with heap := g } with heap := h, toks := tk } I oI C oC D (lst ys) (λ _ => True) (λ y news' => (∃ t, y = .str (f i) t) /\ news' = news)) E' { { s with heap := g } with heap := h, toks := tk }) (done : ∀ g ys, StrsAre ys ((List.range n).map f) -> Fin { s with heap := g } ys news) : zj prog w A gO L m env elt x scope cl Fin (.ref r) s :=
 .rng r a b c t u v n news rfl hh F N hr hsm hn hsz λ g => fG (all := List.range n) (n := n) (λ i v => i < n /\ ∃ t, v = .int (a + (i : Int) * c) t) (λ i y => ∃ t, y = .str (f i) t)
   (λ i v hi hP => ⟨i, List.getElem?_range hi, hP⟩) List.length_range
   (λ i v I oI C oC D ys gW h tk E' _ hp hC hx F' N' off ne => hp.2.elim λ t e => turn g i t I oI C oC D ys gW h tk E' hp.1 hC (hx.trans (congrArg some e)) F' N' off ne) λ ys h => done g ys (aU.strsAre h)
end
end
section
set_option tactic.hygienic false
open PySem.Spec PySem.Calls
noncomputable def dO (wn : Nat) (codes : List Nat) : List Nat := (List.replicate wn codes).flatten
noncomputable def xg (wn : Nat) (codes : List Nat) : Str := Txt.join (ofString "\n") ((bw wn (List.replicate wn codes).flatten).map aR)
noncomputable def trS (ring : Str) (wn : Nat) : Str := Txt.mul ring (wn : Int)
noncomputable def jy (ring : Str) (wn i : Nat) : Str := Txt.join (ofString ";") (signs (Txt.slice (trS ring wn) (some (0 + (i : Int) * (wn : Int))) (some (0 + (i : Int) * (wn : Int) + (wn : Int))))) ++ ofString ";"
structure aO (ring : Str) (codes : List Nat) (wn : Nat) : Prop where
 cps : ring.cps.toList = codes
 fi : ∀ c ∈ codes, c = 102 \/ c = 105
 pos : 0 < codes.length
 len : codes.length <= 16
 wd : 0 < wn /\ wn < 6
 mul : MulOk ring (wn : Int)
 tlen : (trS ring wn).length = wn * codes.length
 rows : Txt.join (ofString "\n") ((List.range codes.length).map (jy ring wn)) = xg wn codes
 join : (((List.range codes.length).map (jy ring wn)).map (·.length)).sum + ((List.range codes.length).map (jy ring wn)).length * (ofString "\n").length <= 16777216
theorem aO.fit (h : aO ring codes wn) : (trS ring wn).length <= sizeLine := by
 have := h.tlen;have := h.len;have := h.wd.2;have : wn * codes.length <= 5 * 16 := Nat.mul_le_mul (by lia) h.len;rw [sizeLine_eq]; lia
theorem adn : ∀ w < 6, ∀ n < 17, 0 < w -> 0 < n -> Builtin.Range.rangeSize 0 ((w * n : Nat) : Int) (w : Int) = (n : Int) /\ Builtin.Range.small 0 ((w * n : Nat) : Int) (w : Int) = true := by decide +kernel
theorem aO.size (h : aO ring codes wn) : Builtin.Range.rangeSize 0 ((trS ring wn).length : Int) (wn : Int) = ((codes.length : Nat) : Int) /\ Builtin.Range.small 0 ((trS ring wn).length : Int) (wn : Int) = true := by
 rw [h.tlen];exact adn wn h.wd.2 codes.length (Nat.lt_succ_of_le h.len) h.wd.1 h.pos
theorem afQ (h : aO ring codes wn) : ¬ ((Txt.mul ring (wn : Int)).length : Int) >= 2 ^ 63 := by
 have := h.fit;rw [sizeLine_eq] at this;have e : (Txt.mul ring (wn : Int)).length = (trS ring wn).length := rfl;lia
theorem aO.wdi (h : aO ring codes wn) : (wn : Int) ≠ 0 /\ ((wn : Int)).natAbs.log2 < 9000 := by
 have h1 := h.wd;refine ⟨by lia, ?_⟩;have : wn = 1 \/ wn = 2 \/ wn = 3 \/ wn = 4 \/ wn = 5 := by lia
 rcases this with rfl | rfl | rfl | rfl | rfl <;> decide +kernel
theorem vQ {s : Shared} {m : Str -> Option Value} {Fin : Shared -> List Value -> List (Addr × Obj) -> Prop} {r : Addr} {v : Tok} {news : List (Addr × Obj)} (hP : aO ring codes wn) (hh : A.handled = none) (F : Fr gO L s.heap m) (N : News gO L s.heap news) (hr : IsRange s.heap r 0 ((Txt.mul ring (wn : Int)).length : Int) (wn : Int) t u v) (turn : ∀ g (i : Nat) t I oI C oC D ys gW h tk (E' : Value -> Shared -> Prop), i < codes.length -> LCg.NsObj oC gW -> gW x = some (.int (0 + (i : Int) * (wn : Int)) t) -> Fr gO L h m -> News gO L h ((I, oI) :: (C, oC) :: (D, LCg.lst ys) :: news) -> LCg.Off3 I C D news -> ((@Ne Nat I C) /\ (@Ne Nat I D) /\ (@Ne Nat C D)) -> wpAny (model prog w) A (eval elt (compEnvC scope cl C env)) (LCg.CompEnd gO L m { { s with heap := g } with heap := h, toks := tk } I oI C oC D (LCg.lst ys) (λ _ => True) (λ y news' => (∃ t, y = .str (jy ring wn i) t) /\ news' = news)) E' { { s with heap := g } with heap := h, toks := tk }) (done : ∀ g ys, StrsAre ys ((List.range codes.length).map (jy ring wn)) -> Fin { s with heap := g } ys news) : zj prog w A gO L m env elt x scope cl Fin (.ref r) s :=
 zm (jy ring wn) hh F N hr hP.size.2 hP.size.1 (by have := hP.len; rw [sizeLine_eq]; lia) turn done
theorem aO.fit1 (h : aO ring codes wn) : (Txt.mul ring (wn : Int)).length <= 100 := by
 have h1 : wn * codes.length <= 5 * 16 := Nat.mul_le_mul (by have := h.wd.2; lia) h.len;have h2 : (Txt.mul ring (wn : Int)).length = wn * codes.length := h.tlen;lia
theorem uc (c : Nat) (xs : List Str) : (Txt.join ⟨#[c]⟩ xs).length <= (xs.map (·.length)).sum + xs.length := by
 have e : (Txt.join ⟨#[c]⟩ xs).length = (Txt.join ⟨#[c]⟩ xs).cps.toList.length := by simp [Str.length]
 rw [e, eZ, cu];have h1 := aaB c (xs.map λ x => x.cps.toList);have h2 : (xs.map λ x => x.cps.toList).map List.length = xs.map (·.length) := by
   rw [List.map_map];exact List.map_congr_left λ x _ => by simp [Str.length]
 rw [h2, List.length_map] at h1;exact h1
theorem zp (y : Str) : ((signs y).map (·.length)).sum = y.length := by
 have : ∀ l : List Nat, ((l.map λ n => (⟨#[n]⟩ : Str)).map (·.length)).sum = l.length := by
   intro l
   induction l with
   | nil => rfl
   | cons a r ih => rw [List.map_cons, List.map_cons, List.sum_cons, ih, List.length_cons]; show 1 + _ = _; lia
 unfold signs;rw [this];simp [Str.length]
theorem afR (h : aO ring codes wn) (a b : Option Int) : (Txt.join (ofString ";") (signs (Txt.slice (Txt.mul ring (wn : Int)) a b))).length + (ofString ";").length <= sizeLine := by
 have e : ofString ";" = ⟨#[59]⟩ := by decide +kernel
 have h1 := uc 59 (signs (Txt.slice (Txt.mul ring (wn : Int)) a b));rw [zp, signs_length] at h1;have h2 := Txt.slice_le (Txt.mul ring (wn : Int)) a b;have h3 := h.fit1;have h4 : (ofString ";").length = 1 := by decide +kernel
 rw [sizeLine_eq, h4, e];lia
end
section
set_option tactic.hygienic false
open PySem.Spec PySem.Calls PyProof.Rows.LCg
noncomputable def rpS (wn : Nat) (codes : List Nat) : Str := Txt.replace (xg wn codes) (ofString ";") (ofString "")
noncomputable def kW (n : Nat) (r : List Nat) : Str := Txt.slice (aD r) none (some (n : Int))
structure aV (codes : List Nat) (wn n : Nat) (rws : List (List Nat)) : Prop where
 n4 : n <= 4
 plen : (xg wn codes).length <= 1000
 rlen : (rpS wn codes).length <= 1000
 sp : Txt.split (rpS wn codes) (ofString "\n") = rws.map aD
 cnt : rws.length <= 16
 row : ∀ r ∈ rws, r.length <= 5
 srt : ∀ zs : List Str, zs.Perm (rws.map (kW n)) -> sortedS zs = true -> zs = aW n
 ok : ∀ x ∈ aW n, PyData.strOk x = true
theorem aV.spf {n : Nat} (h : aV codes wn n rws) : (Txt.replace (xg wn codes) (ofString ";") (ofString "")).length + 2 <= sizeLine := by
 have : (Txt.replace (xg wn codes) (ofString ";") (ofString "")).length <= 1000 := h.rlen;rw [sizeLine_eq]; lia
theorem aV.rowfit {n : Nat} (h : aV codes wn n rws) {r : List Nat} (hr : r ∈ rws) : (aD r).length <= sizeLine := by
 have := h.row r hr;have e : (aD r).length = r.length := by simp [Str.length]
 rw [e, sizeLine_eq]; lia
theorem aV.rp {n : Nat} (h : aV codes wn n rws) : (xg wn codes).length <= 1048576 := Nat.le_trans h.plen (by decide)
theorem aV.strs {n : Nat} (h : aV codes wn n rws) {vs : List Value} {l : List Str} (e : l = Txt.split (Txt.replace (xg wn codes) (ofString ";") (ofString "")) (ofString "\n")) (a : StrsAre vs l) : StrsAre vs (rws.map aD) := by
 have e2 : l = rws.map aD := e.trans h.sp;rw [<- e2]; exact a
theorem aV.num {n : Nat} (h : aV codes wn n rws) {vs : List Value} (a : StrsAre vs (rws.map aD)) : vs.length <= 16 := by
 rw [a.length, List.length_map]; exact h.cnt
theorem pH {f : α -> Str} : ∀ {vs : List Value} {l : List α}, StrsAre vs (l.map f) -> aU (λ a v => ∃ t, v = Value.str (f a) t) l vs
 | _, [], h => by cases h; exact .nil
 | _, a :: l, h => by
   cases h with
   | cons x t k => exact .cons ⟨t, rfl⟩ (pH k)
section
variable {s : Shared} {m : Str -> Option Value} {news : List (Addr × Obj)}
theorem vR {n : Nat} (hR : aV codes wn n rws) {elt : Expr} {x : Str} {scope : Scope} {cl : List (Str × Addr)} {Fin : Shared -> List Value -> List (Addr × Obj) -> Prop} {ax : Addr} {rv : List Value} {k : Nat} (hh : A.handled = none) (F : Fr gO L s.heap m) (N : News gO L s.heap news) (hm : (ax, listOf rv.toArray k) ∈ news) (hs : StrsAre rv (rws.map aD)) (turn : ∀ g (r : List Nat) u I oI C oC D ys gW h tk (E' : Value -> Shared -> Prop), r ∈ rws -> NsObj oC gW -> gW x = some (.str (aD r) u) -> Fr gO L h m -> News gO L h ((I, oI) :: (C, oC) :: (D, lst ys) :: news) -> Off3 I C D news -> ((@Ne Nat I C) /\ (@Ne Nat I D) /\ (@Ne Nat C D)) -> wpAny (model prog w) A (eval elt (compEnvC scope cl C env)) (CompEnd gO L m { { s with heap := g } with heap := h, toks := tk } I oI C oC D (lst ys) (SrcAt gO ax rv.toArray) (λ y news' => (∃ t, y = .str (kW n r) t) /\ news' = news)) E' { { s with heap := g } with heap := h, toks := tk }) (done : ∀ g ys, StrsAre ys (rws.map (kW n)) -> Fin { s with heap := g } ys news) : CompSrc prog w A gO L m env elt x scope cl Fin (.ref ax) s :=
 fH (all := rws) (λ (r : List Nat) v => ∃ t, v = Value.str (aD r) t) (λ r y => ∃ t, y = .str (kW n r) t) hh F N hm (pH hs) (by have := hR.num hs; lia)
   (λ g r v I oI C oC D ys gW h tk E' hr hv hC hx F' N' off ne => hv.elim λ u e => turn g r u I oI C oC D ys gW h tk E' hr hC (hx.trans (congrArg some e)) F' N' off ne) λ g ys h => done g ys (mY h)
theorem aa0 {vs : List Value} {ss : List Str} {k : Nat} {Q : Value -> Shared -> Prop} (F : Fr gO L s.heap m) (N : News gO L s.heap news) (hm : (ax, listOf vs.toArray k) ∈ news) (hS : StrsAre vs ss) (h64 : ss.length < 64) (h : ∀ D vs' ss' e h', Fr gO L h' m -> News gO L h' ((D, listOf vs'.toArray e) :: news) -> (∀ p ∈ news, p.1 < D) -> StrsAre vs' ss' -> ss'.Perm ss -> sortedS ss' = true -> Q (.ref D) { s with heap := h' }) : wpAny (model prog w) A (call (.builtin "sorted") [.ref ax]) Q E s :=
 sorted_N_str F N (News.isList N hm) hS (by rw [hS.length]; exact h64) λ h' vs' ss' e F' N' a b c => h _ vs' ss' e h' F' N' (λ p hp => Nat.lt_succ_of_lt (Heap.lt_size (N p hp).1)) a b c
end
noncomputable def cR (c : Nat) : Str := if ((⟨#[c]⟩ : Str) == ofString "f") = true then ofString " " else ofString "\t"
theorem afS {c : Nat} (h : ((⟨#[c]⟩ : Str) == ofString "f") = true) : cR c = ofString " " := if_pos h
theorem afT {c : Nat} (h : ((⟨#[c]⟩ : Str) == ofString "f") = false) : cR c = ofString "\t" := if_neg (by rw [h]; exact Bool.false_ne_true)
noncomputable def dC (n : Nat) : Ws := ⟨0, 2 ^ n, 2 ^ (n - 1), mR n⟩
structure aG (n : Nat) (rws : List (List Nat)) (whole : Str) (at0 : Nat) (win : Str) (lead : List Nat) : Prop where
 n4 : 2 <= n /\ n <= 4
 jok : ((rws.map aD).map (·.length)).sum + (rws.map aD).length * (ofString "").length <= 16777216
 wh : Txt.join (ofString "") (rws.map aD) = whole
 wl : whole.length <= 100
 fd : (Txt.find whole (Txt.mul (ofString "f") (n : Int)) : Int) = (at0 : Int)
 sl : Txt.slice whole (some (at0 : Int)) (some ((at0 : Int) + 2 ^ ((n : Int)).toNat)) = win
 winl : win.length <= 16
 mks : Txt.join (ofString "") (win.cps.toList.map cR) = aD lead
 wt : ∀ y ∈ lead, bY y
 ll : lead.length <= 16
 ws : jn lead = dC n
theorem aG.fit {n at0 : Nat} (h : aG n rws whole at0 win lead) : whole.length <= sizeLine := by have := h.wl; rw [sizeLine_eq]; lia
theorem aG.mul {n at0 : Nat} (h : aG n rws whole at0 win lead) : MulOk (ofString "f") (n : Int) := by
 have h4 := h.n4;tm_at "bd";have e : (ofString "f").length = 1 := by decide +kernel
 exact mulOk_of 16 1048576 (by rw [e]; decide) (by lia) (by lia) (by decide) (by decide)
theorem aa1 (c : Nat) : (cR c).length = 1 := by
 unfold cR;cases (⟨#[c]⟩ : Str) == ofString "f" <;> decide +kernel
theorem aG.mkok {n at0 : Nat} (h : aG n rws whole at0 win lead) : ((win.cps.toList.map cR).map (·.length)).sum + (win.cps.toList.map cR).length * (ofString "").length <= 16777216 := by
 have : ∀ l : List Nat, ((l.map cR).map (·.length)).sum = l.length := by
   intro l
   induction l with
   | nil => rfl
   | cons a r ih => rw [List.map_cons, List.map_cons, List.sum_cons, ih, List.length_cons, aa1]; lia
 tm_at "a6";have h2 : win.cps.toList.length = win.length := by simp [Str.length]
 have h3 := h.winl;rw [this, e, h2]; lia
theorem aG.tx {n at0 : Nat} (h : aG n rws whole at0 win lead) : (aD lead ++ ofString "f\t").cps.toList = lead ++ 102 :: [9] := by
 rw [eY];rfl
theorem aG.asc {n at0 : Nat} (h : aG n rws whole at0 win lead) : ∀ c ∈ lead ++ 102 :: [9], c < 128 := by
 intro c hc;rcases List.mem_append.mp hc with k | k
 · rcases h.wt c k with rfl | rfl <;> decide
 · simp at k; rcases k with rfl | rfl <;> decide
theorem aG.len {n at0 : Nat} (h : aG n rws whole at0 win lead) : lead.length + [9].length < 50 := by
 have := h.ll;simp; lia
theorem ado : ¬ bY 102 := by unfold bY; decide
theorem aG.addfit {n at0 : Nat} (h : aG n rws whole at0 win lead) : (aD lead).length + (ofString "f\t").length <= sizeLine := by
 have e : (aD lead).length = lead.length := by simp [Str.length]
 have e2 : (ofString "f\t").length = 2 := by decide +kernel
 have := h.ll;rw [e, e2, sizeLine_eq]; lia
theorem aG.winfit {n at0 : Nat} (h : aG n rws whole at0 win lead) : win.length < 1000 := by have := h.winl; lia
theorem afU {all : List (Addr × Obj)} {c : Addr} {o : Obj} (N : News gO L h (W ++ all)) (l : ∀ q ∈ all, ∀ p ∈ W, q.1 < p.1) (e : ∀ p ∈ R, p.1 ≠ c) (hs : ∀ p ∈ (c, o) :: R, p ∈ all) (k : News gO L h ((c, o) :: (W ++ R)) -> dq c (W ++ R) -> (∀ q ∈ R, ∀ p ∈ W, q.1 < p.1) -> G) : G :=
 k (az N λ p hp => (List.mem_cons.mp hp).elim (λ h => List.mem_append_right _ (hs p (h ▸ .head _))) λ hp => (List.mem_append.mp hp).elim (List.mem_append_left _) λ h => List.mem_append_right _ (hs p (.tail _ h)))
   (allNe_of λ p hp => (List.mem_append.mp hp).elim (λ h => Nat.ne_of_gt (l _ (hs _ (.head _)) p h)) (e p)) λ q hq => l q (hs q (.tail _ hq))
noncomputable abbrev ae5 (x : Int) (t : Tok) (y : Int) (u : Tok) (a : Addr) : Obj := { cls := .type "tuple", data := .seq #[.int x t, .int y u, .ref a] }
theorem gC (ns : List Int) (x y b : Int) : SeqAt.shaped (.tuple [.int x, .int y, .tuple [.tuple (ns.map PyData.int), .int b]]) = true := by
 tm_at "bF"
 · simp [PyData.canLay0, PyData.canLayAll0, mG]
 · have := iG ns
   simp [PyData.depth, PyData.depthAll];lia
section
variable {s : Shared} {news : List (Addr × Obj)}
theorem adp {a b b1 : Addr} {vs : List Value} {xs ys : List Int} {x y x' y' z' : Int} {t1 t2 t3 u1 u2 u3 : Tok} {Q : Value -> Shared -> Prop} (N : News gO L s.heap news) (h1 : (a, ae5 x t1 y t2 a1) ∈ news) (h2 : (a1, bf (.ref a2) (.int z t3)) ∈ news) (h3 : (a2, ({ cls := .type "tuple", data := .seq vs.toArray } : Obj)) ∈ news) (hi : IntsAre vs xs) (k1 : (b, ae5 x' u1 y' u2 b1) ∈ news) (k2 : (b1, bf (.ref b2) (.int z' u3)) ∈ news) (k3 : (b2, ({ cls := .type "tuple", data := .seq us.toArray } : Obj)) ∈ news) (hj : IntsAre us ys) (ex : x = x') (ey : y = y') (ez : z = z') (exs : xs = ys) (hu : A.units + 64 < cLine) (h : Q (.bool false) s) : wpAny (model prog w) A (compareOp .NotEq (.ref a) (.ref b)) Q E s := by
 subst ex ey ez exs;refine ne_dataH (Reads.tuple (N.get h1) rfl rfl (.cons (.int _ _) (.cons (.int _ _) (.cons (Reads.tuple (N.get h2) rfl rfl (.cons (Reads.tuple (N.get h3) rfl rfl (IntsAre.reads _ hi)) (.cons (.int _ _) .nil))) .nil)))) (Reads.tuple (N.get k1) rfl rfl (.cons (.int _ _) (.cons (.int _ _) (.cons (Reads.tuple (N.get k2) rfl rfl (.cons (Reads.tuple (N.get k3) rfl rfl (IntsAre.reads _ hj)) (.cons (.int _ _) .nil))) .nil)))) (gC xs x y z) (gC xs x y z) hu ?_;rw [SeqAt.eqv_refl _ (Bool.and_eq_true_iff.mp (gC xs x y z)).1];exact h
end
theorem ahR (n : Nat) : (2 : Int) ^ n = (2 : Int) ^ ((n : Int)).toNat := rfl
theorem ahS {n : Nat} (h : 2 <= n) : (2 : Int) ^ (n - 1) = (2 : Int) ^ ((n : Int) - 1).toNat := by
 rw [show ((n : Int) - 1).toNat = n - 1 from Int.toNat_sub n 1]
theorem nu {f : α -> Int} {all : List α} (h : aU (λ a y => ∃ t, y = Value.int (f a) t) all ys) : IntsAre ys (all.map f) := by
 induction h with
 | nil => exact .nil
 | cons hd _ ih => obtain ⟨t, rfl⟩ := hd; exact .cons _ t ih
noncomputable def ud (n : Nat) (i : Nat) : Int := bu (dC n) (1 + (i : Int))
section
variable {s : Shared} {m : Str -> Option Value} {news : List (Addr × Obj)}
theorem aa2 {n top : Nat} {xa : Addr} (_hW : cj xa (dC n) W) (ht : top <= 5) {elt : Expr} {x : Str} {scope : Scope} {cl : List (Str × Addr)} {Fin : Shared -> List Value -> List (Addr × Obj) -> Prop} {r : Addr} {t u v : Tok} (hh : A.handled = none) (F : Fr gO L s.heap m) (N : News gO L s.heap news) (hr : IsRange s.heap r 1 ((top : Int) + 1) 1 t u v) (turn : ∀ g (i : Nat) t I oI C oC D ys gW h tk (E' : Value -> Shared -> Prop), i < top -> NsObj oC gW -> gW x = some (.int (1 + (i : Int)) t) -> Fr gO L h m -> News gO L h ((I, oI) :: (C, oC) :: (D, lst ys) :: news) -> Off3 I C D news -> ((@Ne Nat I C) /\ (@Ne Nat I D) /\ (@Ne Nat C D)) -> wpAny (model prog w) A (eval elt (compEnvC scope cl C env)) (CompEnd gO L m { { s with heap := g } with heap := h, toks := tk } I oI C oC D (lst ys) (λ _ => True) (λ y news' => (∃ t, y = .int (ud n i) t) /\ news' = news)) E' { { s with heap := g } with heap := h, toks := tk }) (done : ∀ g ys, IntsAre ys ((List.range top).map (ud n)) -> Fin { s with heap := g } ys news) : CompSrc prog w A gO L m env elt x scope cl Fin (.ref r) s :=
 eG (n := top) (λ i y => ∃ t, y = .int (ud n i) t) hh F N hr (small_one (by lia) (by lia) (by lia) (by lia)) (by rw [bc, Int.add_sub_cancel, Int.toNat_natCast]) (by rw [sizeLine_eq]; lia) turn λ g ys h => done g ys (nu h)
theorem aa3 {a b : Addr} {vs : List Value} {xs ys : List Int} {k : Nat} {Q : Value -> Shared -> Prop} (N : News gO L s.heap news) (h1 : (a, listOf vs.toArray k) ∈ news) (hi : IntsAre vs xs) (h2 : (b, listOf us.toArray k2) ∈ news) (hj : IntsAre us ys) (hxy : xs = ys) (hu : A.units + 64 < cLine) (h : Q (.bool false) s) : wpAny (model prog w) A (compareOp .NotEq (.ref a) (.ref b)) Q E s := by
 subst hxy;refine ne_dataH (Reads.list (N.get h1) rfl rfl (IntsAre.reads _ hi)) (Reads.list (N.get h2) rfl rfl (IntsAre.reads _ hj)) (gh xs) (gh xs) hu ?_;rw [SeqAt.eqv_refl _ (Bool.and_eq_true_iff.mp (gh xs)).1];exact h
end
theorem aa4 {n top : Nat} (h2 : 2 <= n) (h4 : n <= 4) (ht : top <= 5) : (List.range top).map (ud n) = cM n top := by
 have : ∀ n ∈ [2, 3, 4], ∀ top < 6, (List.range top).map (ud n) = cM n top := by decide +kernel
 exact this n (by simp; lia) top (by lia)
theorem adq {n : Nat} (h2 : 2 <= n) (h4 : n <= 4) : (dC n).cnt.length < 100 := by
 have : (dC n).cnt.length = n + 1 := jt ⟨h2, h4⟩;lia
noncomputable def fc (z : Int) : Int := 2 + Int.fmod z 3
theorem aa5 (a : Int) : 0 <= a.fmod 1000000000000 /\ a.fmod 1000000000000 < 1000000000000 := ⟨Int.fmod_nonneg_of_pos a (by decide), Int.fmod_lt_of_pos a (by decide)⟩
theorem pI : ∀ {vs : List Value} {l : List Int}, IntsAre vs l -> aU (λ a v => ∃ t, v = Value.int a t) l vs
 | _, [], h => by cases h; exact .nil
 | _, a :: l, h => by
   cases h with
   | cons x t k => exact .cons ⟨t, rfl⟩ (pI k)
section
variable {s : Shared} {m : Str -> Option Value} {news : List (Addr × Obj)}
theorem zq {Fin : Shared -> List Value -> List (Addr × Obj) -> Prop} {k : Nat} {zs : List Int} (hh : A.handled = none) (F : Fr gO L s.heap m) (N : News gO L s.heap news) (hm : (ax, listOf nv.toArray k) ∈ news) (hI : IntsAre nv zs) (hsz : nv.length <= 1000) (turn : ∀ g (z : Int) u I oI C oC D ys gW h tk (E' : Value -> Shared -> Prop), z ∈ zs -> NsObj oC gW -> gW x = some (.int z u) -> Fr gO L h m -> News gO L h ((I, oI) :: (C, oC) :: (D, lst ys) :: news) -> Off3 I C D news -> ((@Ne Nat I C) /\ (@Ne Nat I D) /\ (@Ne Nat C D)) -> wpAny (model prog w) A (eval elt (compEnvC scope cl C env)) (CompEnd gO L m { { s with heap := g } with heap := h, toks := tk } I oI C oC D (lst ys) (SrcAt gO ax nv.toArray) (λ y news' => (∃ t, y = .int (fc z) t) /\ news' = news)) E' { { s with heap := g } with heap := h, toks := tk }) (done : ∀ g ys, IntsAre ys (zs.map fc) -> Fin { s with heap := g } ys news) : CompSrc prog w A gO L m env elt x scope cl Fin (.ref ax) s :=
 fH (all := zs) (λ (z : Int) v => ∃ t, v = Value.int z t) (λ z y => ∃ t, y = .int (fc z) t) hh F N hm (pI hI) hsz
   (λ g z v I oI C oC D ys gW h tk E' hr hv hC hx F' N' off ne => hv.elim λ u e => turn g z u I oI C oC D ys gW h tk E' hr hC (hx.trans (congrArg some e)) F' N' off ne) λ g ys h => done g ys (nu h)
end
end
section
set_option tactic.hygienic false
open PySem.Spec PySem.Calls PyProof.Rows.LCg PyProof.Rows.LCt
section
variable {s : Shared} {m : Str -> Option Value}
end
section
variable {s : Shared} {Q : Flow -> Shared -> Prop}
end
end
section
set_option tactic.hygienic false
open PySem.Spec PySem.Calls
section
variable {s : Shared} {m : Str -> Option Value} {news : List (Addr × Obj)}
end
end
section
open PySem.Spec PySem.Calls PyProof.Rows.LCg
noncomputable abbrev aiR (v₁ v₂ v₃ : Value) : Obj := { cls := .type "tuple", data := .seq #[v₁, v₂, v₃] }
noncomputable def dH (prog : Program) (w : World) (A : Around) (gO : Heap) (L : Addr) (m : Str -> Option Value) (env : Env) (ct elt : Expr) (x x₂ x₃ : Str) (scope : Scope) (cl : List (Str × Addr)) (s : Shared) (S : List (Addr × Obj) -> Prop) (P : Nat -> Value -> Prop)
   (Fin : List Value -> List (Addr × Obj) -> Prop) : Nat -> Nat -> List Value -> List (Addr × Obj) -> Prop
 | 0, _, ys, news => Fin ys news
 | k + 1, i, ys, news => ∀ v, P i v -> ∃ (t : Addr) (v₁ v₂ v₃ : Value), v = .ref t /\ (t, aiR v₁ v₂ v₃) ∈ news /\
     ∀ I oI C oC D gW h tk (E' : Value -> Shared -> Prop), NsObj oC gW -> gW x = some v₁ -> gW x₂ = some v₂ -> gW x₃ = some v₃ -> Fr gO L h m -> News gO L h ((I, oI) :: (C, oC) :: (D, lst ys) :: news) -> Off3 I C D news -> ((@Ne Nat I C) /\ (@Ne Nat I D) /\ (@Ne Nat C D)) ->
     wpAny (model prog w) A (isTrue ct (compEnvC scope cl C env) (eval ct (compEnvC scope cl C env))) (λ ok s' => if ok = true then
       wpAny (model prog w) A (eval elt (compEnvC scope cl C env)) (CompEnd gO L m { s with heap := h, toks := tk } I oI C oC D (lst ys) S (λ y news' => dH prog w A gO L m env ct elt x x₂ x₃ scope cl s S P Fin k (i + 1) (ys ++ [y]) news')) E' s'
       else CompEnd gO L m { s with heap := h, toks := tk } I oI C oC D (lst ys) S (λ _ news' => dH prog w A gO L m env ct elt x x₂ x₃ scope cl s S P Fin k (i + 1) ys news') Value.none s') E' { s with heap := h, toks := tk }
section
variable {s : Shared} {m : Str -> Option Value}
theorem qP {elt iter ct : Expr} {elts : List Expr} {x1} {tp : Pos} {scope : Scope} {pos : Pos} {it acc : Value} {env : Env} {R : Result -> Shared -> Prop} (I : Nat -> Shared -> Prop)
   (turn : ∀ n s, I n s -> wpAny (model prog w) A (pyNext it) (λ r gJ => match r with
     | none => R (.ok .next) gJ
     | some v => wpAny (model prog w) A (letOwnedTupleGo (.Tuple elts x1 tp) it v) (λ _ s₁' => wpAny (model prog w) A (assign (.Tuple elts x1 tp) env v) (λ _ gQ =>
         wpAny (model prog w) A (isTrue ct env (eval ct env)) (λ ok s₃ => if ok = true then wpAny (model prog w) A (eval elt env) (λ x s₄ =>
             wpAny (model prog w) A (call (.builtin "list.append") [acc, x]) (λ _ s₅ => ∃ m, m < n /\ I m s₅) (notedBy (model prog w) A env λ e s' => R (.error e) s') s₄) (notedBy (model prog w) A env λ e s' => R (.error e) s') s₃
           else ∃ m, m < n /\ I m s₃) (notedBy (model prog w) A env λ e s' => R (.error e) s') gQ)
         (notedBy (model prog w) A env λ e s' => R (.error e) s') s₁') (notedBy (model prog w) A env λ e s' => R (.error e) s') gJ) (notedBy (model prog w) A env λ e s' => R (.error e) s') s)
   (n : Nat) (h : I n s) : codeAny (model prog w) A (.compLoop (.ListComp elt [⟨.Tuple elts x1 tp, iter, [ct], 0⟩] scope pos) 0 it acc env) R s := by
 refine codeAny_loop rfl I (λ n s hI => ?_) n h;show wpAny _ A ((compTurn (.ListComp elt [⟨.Tuple elts x1 tp, iter, [ct], 0⟩] scope pos) 0 it acc env).onRaise (λ x => do noteFrame x env; theTreesLotGoes x)) _ _ s;refine wpAny_noted ?_;rw [compTurn_list];refine wpAny_bind (wpAny_standAt (wpAny_bind (wpAny_mono (turn n s hI) (λ r gJ h₁ => ?_) λ _ _ h' => h')));cases r with
 | none => exact wpAny_pure h₁
 | some v =>
   refine wpAny_bind (wpAny_mono h₁ (λ _ s₁' h₁' => ?_) λ _ _ h' => h');refine wpAny_bind (wpAny_mono h₁' (λ _ gQ h₂ => wpAny_bind (wpAny_mono (wpAny_tests_one h₂) (λ ok s₃ h₃ => ?_) λ _ _ h' => h')) λ _ _ h' => h');cases ok with
   | false => exact wpAny_pure ⟨rfl, h₃⟩
   | true =>
     exact wpAny_bind (wpAny_bind (wpAny_mono h₃ (λ x s₄ h₄ => wpAny_bind (wpAny_mono h₄ (λ _ s₅ h₅ => wpAny_pure (wpAny_pure ⟨rfl, h₅⟩)) λ _ _ h' => h')) λ _ _ h' => h'))
theorem adt {ct elt iter : Expr} {x x₂ x₃ : Str} {px px₂ px₃ tp : Pos} {tk} {scope : Scope} {cl : List (Str × Addr)} {pos : Pos} {gQ : Shared} {I : Addr} {fp : List Addr} {n : Nat} {P : Nat -> Value -> Prop} {St : Nat -> Heap -> Prop} {S : List (Addr × Obj) -> Prop} {news : List (Addr × Obj)} {Fin : List Value -> List (Addr × Obj) -> Prop} {RR : Value -> Addr -> Result -> Shared -> Prop} (W : Walks prog w A I fp [I] n P St) (hsz : n <= sizeLine) (hIo : ∀ i h, St i h -> ∃ o, h.get? I = some o) (hSt : ∀ i h h' o nw, St i h -> h.get? I = some o -> h'.get? I = some o -> (∀ b o, gO.get? b = some o -> h'.get? b = some o) -> News gO L h' nw -> S nw -> St i h') (hcell : ∀ y ∈ scope.names, y.2 ≠ .cell) (hkind : scope.kind = .function) (hx : scope.names.lookup x = some .local) (hx₂ : scope.names.lookup x₂ = some .local) (hx₃ : scope.names.lookup x₃ = some .local) (h12 : x ≠ x₂) (h13 : x ≠ x₃) (h23 : x₂ ≠ x₃) (hh : A.handled = none) (hLI : ∀ i h, St i h -> ∃ l j, h.IsListIter I l j) (hst : St 0 gQ.heap) (hfp : ∀ b ∈ fp, b < gQ.heap.objs.size) (F : Fr gO L gQ.heap m) (N : News gO L gQ.heap news) (hIL : L ≠ I) (hI₀ : gO.get? I = none) (off : ∀ p ∈ news, p.1 ≠ I) (hS : S news) (R : dH prog w A gO L m env ct elt x x₂ x₃ scope cl gQ S P Fin n 0 [] news) (hRR : ∀ D C h tk m' ys news', Fr gO L h m -> News gO L h ((D, lst ys) :: news') -> Off1 D news' -> h.Ns C m' -> gO.get? C = none -> gO.get? D = none -> C ≠ L -> D ≠ L -> C ≠ D -> (∀ p ∈ news', p.1 ≠ C) -> Fin ys news' -> RR (.ref D) C (.ok .next) { gQ with heap := h, toks := tk }) : wpAny (model prog w) A (newList []) (λ acc s₃ => wpAny (model prog w) A (newFunctionEnv scope env.globals cl [] env.qual none .none (some env)) (λ cenv s₄ => codeAny (model prog w) A (.compStart (.ListComp elt [⟨.Tuple [.Name x px, .Name x₂ px₂, .Name x₃ px₃] tk tp, iter, [ct], 0⟩] scope pos) 0 (.ref I) acc { cenv with scope := relabel scope env }) (RR acc cenv.locals) s₄) E s₃) E gQ := by
 refine wpAny_newObj_type (wpAny_newFunctionEnv hcell (by intro y hy; simp at hy) (λ h₁ hns₁ hsb₁ => ?_) hkind);dsimp only at hns₁ hsb₁ ⊢;generalize hH2 : gQ.heap.push { cls := .type "list", dict := none, data := .seq ([] : List Value).toArray } = H2 at hns₁ hsb₁ ⊢;have hC : H2.objs.size = gQ.heap.objs.size + 1 := by rw [<- hH2, Heap.size_push]
 have hDC : gQ.heap.objs.size ≠ H2.objs.size := by rw [hC]; exact Nat.ne_of_lt (Nat.lt_succ_self _)
 have cD : ∀ b, b < gQ.heap.objs.size -> b ≠ H2.objs.size /\ b ≠ gQ.heap.objs.size := λ b hb => ⟨by rw [hC]; exact Nat.ne_of_lt (Nat.lt_succ_of_lt hb), Nat.ne_of_lt hb⟩
 have hDf : gQ.heap.objs.size ∉ fp := λ hm => Nat.lt_irrefl _ (hfp _ hm)
 have hCf : H2.objs.size ∉ fp := λ hm => by have := hfp _ hm; rw [hC] at this; exact Nat.lt_irrefl _ (Nat.lt_of_succ_lt this)
 have hIf : I ∈ fp := W.sub I (List.mem_singleton.mpr rfl);have hIlt : I < gQ.heap.objs.size := hfp I hIf;have old : ∀ b o, gQ.heap.get? b = some o -> h₁.get? b = some o := λ b o e => hsb₁.extBut b o (cD b (Heap.lt_size e)).1 (Heap.get?_push_of_some _ (hH2 ▸ Heap.get?_push_of_some _ e))
 have hacc : h₁.get? gQ.heap.objs.size = some (lst []) := hsb₁.extBut _ _ hDC (Heap.get?_push_of_some _ (hH2 ▸ Heap.get?_push_size _ rfl));have hst₁ : St 0 h₁ := W.frame _ _ _ hst λ b _ o e => old b o e
 have fresh : ∀ a, gQ.heap.objs.size <= a -> gQ.heap.get? a = none := λ a ha => by
   cases e : gQ.heap.get? a with
   | none => rfl
   | some o' => exact absurd (Heap.lt_size e) (Nat.not_lt.mpr ha)
 have fresh₀ : ∀ a, gQ.heap.objs.size <= a -> gO.get? a = none := λ a ha => by
   cases e : gO.get? a with
   | none => rfl
   | some o' => have := F.keep a o' e; rw [fresh a ha] at this; cases this
 have hD₀ : gO.get? gQ.heap.objs.size = none := fresh₀ _ (Nat.le_refl _);have hC₀ : gO.get? H2.objs.size = none := fresh₀ _ (by rw [hC]; exact Nat.le_succ _);have hLlt : L < gQ.heap.objs.size := F.ns.lt;have hDL : gQ.heap.objs.size ≠ L := Ne.symm (cD L hLlt).2;have hCL : H2.objs.size ≠ L := Ne.symm (cD L hLlt).1;have hCI : I ≠ H2.objs.size := (cD I hIlt).1;have hDI : I ≠ gQ.heap.objs.size := (cD I hIlt).2;have off₀ : Off3 I H2.objs.size gQ.heap.objs.size news := Off3.of λ p hp => ⟨off p hp, (cD _ (Heap.lt_size (N p hp).1)).1, (cD _ (Heap.lt_size (N p hp).1)).2⟩
 have loop : ∀ s₃ : Shared, s₃ = { gQ with heap := h₁, toks := gQ.toks + ([] : List (Str × Value)).length } ->
     codeAny (model prog w) A (.compLoop (.ListComp elt [⟨.Tuple [.Name x px, .Name x₂ px₂, .Name x₃ px₃] tk tp, iter, [ct], 0⟩] scope pos) 0 (.ref I) (.ref gQ.heap.objs.size) (compEnvC scope cl H2.objs.size env))
       (RR (.ref gQ.heap.objs.size) H2.objs.size) s₃ := by
   intro s₃ hr9_1;tm_at "X";obtain rfl := hr9_1;tm_at "V";refine qP
     (λ k s' => Ex6 λ h' tk i ys m' news' => ahJ (s' = { gQ with heap := h', toks := tk }) (i <= n) (k = n + 1 - i) (ys.length <= i) (St i h') (Fr gO L h' m) (h'.Ns H2.objs.size m') (News gO L h' ((gQ.heap.objs.size, lst ys) :: news'))
       (Off3 I H2.objs.size gQ.heap.objs.size news') (S news') (dH prog w A gO L m env ct elt x x₂ x₃ scope cl gQ S P Fin (n - i) i ys news')) ?_ (n + 1)
     ⟨h₁, _, 0, [], _, news, rfl, Nat.zero_le _, rfl, Nat.le_refl _, hst₁, F.keeps old, hns₁, λ p hp => ?_, off₀, hS, R⟩
   · intro k s' hr9_2
     tm_at "X";obtain ⟨h', tk, i, ys, m', news', rfl, hi, rfl, hyl, hst', F', hn', N', off', hS', R'⟩ := hr9_2;tm_at "V"
     by_cases hlt : i < n
     · refine Classical.byContradiction λ hG9 => ?_
       obtain ⟨j, hj⟩ : ∃ j, n - i = j + 1 := aaI hlt
       tm_at "V";rw [hj] at R';refine W.item i _ _ _ hlt hst' λ v h₂ tk₂ hPv hst₂ hk₂ => ?_
       tm_at "X";obtain ⟨t, v₁, v₂, v₃, rfl, hmt, R''⟩ := R' v hPv;tm_at "V";have off3 := off'.mem;have N₂ : News gO L h₂ ((gQ.heap.objs.size, lst ys) :: news') := news_but N' hk₂ λ p hp => by
         tm_at "an"
         · exact Ne.symm hDI
         · exact (off3 p hp).1
       have ht : IsTup h₂ t #[v₁, v₂, v₃] := ⟨_, (N₂ _ (List.mem_cons_of_mem _ hmt)).1, rfl, _, rfl⟩;tm_at "X";obtain ⟨lI, jI, hLi⟩ := hLI _ _ hst₂;tm_at "V";refine wpAny_letOwnedTupleGo_listiter hLi ?_;refine assign_Tuple_tuple hh ht rfl rfl λ h₅ he => ?_
       have he' : ∀ b o, h₂.get? b = some o -> h₅.get? b = some o := λ b o e => he b o (Nat.ne_of_lt (Heap.lt_size e)) e
       refine assignInOrder_cons (wpAny_assign_Name (wpAny_storeName_local (lookup_relabel_local hx) ((hn'.at' λ o e => hk₂ _ o (by simpa using Ne.symm hCI) e).at' λ o e => he' _ o e) (λ h₆ hn₆ hs₆ => ?_) (by simp [compEnvC, relabel, hkind])));refine assignInOrder_cons (wpAny_assign_Name (wpAny_storeName_local (lookup_relabel_local hx₂) hn₆ (λ h₇ hn₇ hs₇ => ?_) (by simp [compEnvC, relabel, hkind])));refine assignInOrder_cons (wpAny_assign_Name (wpAny_storeName_local (lookup_relabel_local hx₃) hn₇ (λ h₃ hn₃ hs₃ => ?_) (by simp [compEnvC, relabel, hkind])));refine assignInOrder_nil ?_;have old3 : ∀ b o, b ≠ H2.objs.size -> h₂.get? b = some o -> h₃.get? b = some o := λ b o hb e => hs₃.extBut b o hb (hs₇.extBut b o hb (hs₆.extBut b o hb (he' b o e)))
       have hst₃ : St (i + 1) h₃ := W.frame _ _ _ hst₂ λ b hb o e => old3 b o (λ q => hCf (by rw [<- q]; exact hb)) e
       tm_at "X";obtain ⟨oI, heI⟩ := hIo _ _ hst₃;obtain ⟨oC, heC, hoC⟩ := ns_obj hn₃;tm_at "V";have F₃ : Fr gO L h₃ m := ((((fr_but F' hk₂ hIL hI₀).keeps he').change hs₆ hCL hC₀).change hs₇ hCL hC₀).change hs₃ hCL hC₀;have N₃ : News gO L h₃ ((I, oI) :: (H2.objs.size, oC) :: (gQ.heap.objs.size, lst ys) :: news') := λ p hp => by
         tm_at "an"
         · exact ⟨heI, Ne.symm hIL, hI₀⟩
         · rcases List.mem_cons.mp hp with rfl | hp
           · exact ⟨heC, hCL, hC₀⟩
           · have z := N₂ p hp
             refine ⟨old3 _ _ ?_ z.1, z.2⟩;tm_at "an"
             · exact hDC
             · exact (off3 p hp).2.1
       refine wpAny_mono (R'' I oI H2.objs.size oC gQ.heap.objs.size _ h₃ _ _ hoC (by simp [h12, h13]) (by simp [h23]) (by simp) F₃ N₃ off' ⟨hCI, hDI, Ne.symm hDC⟩) (λ ok s₄ h₄ => ?_) λ _ _ e => e
       cases ok with
       | true =>
         simp only [if_true] at h₄ ⊢;refine wpAny_mono h₄ (λ y s₅ h₅ => ?_) λ _ _ e => e
         tm_at "X";obtain ⟨h₄, tk₄, news₄, rfl, F₄, N₄, off₄, hS₄, R₄⟩ := h₅;tm_at "V";have zI := (N₄ (I, oI) List.mem_cons_self).1;have zC := (N₄ (H2.objs.size, oC) (List.mem_cons_of_mem _ List.mem_cons_self)).1;have zD := (N₄ (gQ.heap.objs.size, lst ys) (List.mem_cons_of_mem _ (List.mem_cons_of_mem _ List.mem_cons_self))).1;have N₄' : News gO L h₄ news₄ := λ p hp => N₄ p (List.mem_cons_of_mem _ (List.mem_cons_of_mem _ (List.mem_cons_of_mem _ hp)))
         have hst₄ : St (i + 1) h₄ := hSt _ _ _ _ _ hst₃ heI zI F₄.keep N₄' hS₄;refine append_at (hsz := by show ys.toArray.size <= sizeLine; rw [List.size_toArray]; exact Nat.le_trans (Nat.le_trans hyl hi) hsz) zD λ h₅ hs₅ hD₅ => ?_
         have off4 := off₄.mem;refine ⟨n + 1 - (i + 1), lA hlt, h₅, tk₄, i + 1, ys ++ [y], _, news₄, rfl, hlt, rfl, by rw [List.length_append, List.length_singleton]; exact Nat.succ_le_succ hyl, W.frame _ _ _ hst₄ λ b hb o e => hs₅.extBut b o (λ q => hDf (q ▸ hb)) e, F₄.change hs₅ hDL hD₀,
           (hoC.ns zC).sameBut hs₅ (Ne.symm hDC), λ p hp => ?_, off₄, hS₄, ?_⟩
         · rcases List.mem_cons.mp hp with rfl | hp
           · exact ⟨hD₅.trans (congrArg some (lst_snoc ys y)), hDL, hD₀⟩
           · exact ⟨hs₅.extBut _ _ (off4 p hp).2.2 (N₄' p hp).1, (N₄' p hp).2⟩
         · rw [tC hj]
           exact R₄
       | false =>
         simp only [Bool.false_eq_true, if_false] at h₄ ⊢;tm_at "X";obtain ⟨h₅, tk₄, news₄, rfl, F₄, N₄, off₄, hS₄, R₄⟩ := h₄;tm_at "V";have zI := (N₄ (I, oI) List.mem_cons_self).1;have zC := (N₄ (H2.objs.size, oC) (List.mem_cons_of_mem _ List.mem_cons_self)).1;have N₄' : News gO L h₅ news₄ := λ p hp => N₄ p (List.mem_cons_of_mem _ (List.mem_cons_of_mem _ (List.mem_cons_of_mem _ hp)))
         have hst₄ : St (i + 1) h₅ := hSt _ _ _ _ _ hst₃ heI zI F₄.keep N₄' hS₄;refine ⟨n + 1 - (i + 1), lA hlt, h₅, tk₄, i + 1, ys, _, news₄, rfl, hlt, rfl, Nat.le_succ_of_le hyl, hst₄, F₄, hoC.ns zC, λ p hp => ?_, off₄, hS₄, ?_⟩
         · rcases List.mem_cons.mp hp with rfl | hp
           · exact N₄ _ (List.mem_cons_of_mem _ (List.mem_cons_of_mem _ List.mem_cons_self))
           · exact N₄' p hp
         · rw [tC hj]
           exact R₄
     · have hin : i = n := Nat.le_antisymm hi (Nat.not_lt.mp hlt)
       rw [hin, Nat.sub_self] at R';refine W.done _ _ _ (hin ▸ hst') λ h₂ tk₂ hk₂ => ?_
       have off3 := off'.mem;exact hRR _ _ h₂ tk₂ _ ys news' (fr_but F' hk₂ hIL hI₀) (news_but N' hk₂ λ p hp => by
         tm_at "an"
         · exact Ne.symm hDI
         · exact (off3 p hp).1) off'.one (hn'.at' λ o e => hk₂ _ o (by simpa using Ne.symm hCI) e) hC₀ hD₀ hCL hDL (Ne.symm hDC) (λ p hp => (off3 p hp).2.1) R'
   · rcases List.mem_cons.mp hp with rfl | hp
     · exact ⟨hacc, hDL, hD₀⟩
     · exact ⟨old _ _ (N p hp).1, (N p hp).2⟩
 exact codeAny_compStart_list (loop _ rfl) (W.self 0 _ _ _ hst₁ (loop _ rfl))
inductive afV (prog : Program) (w : World) (A : Around) (gO : Heap) (L : Addr) (m : Str -> Option Value) (env : Env) (ct elt : Expr) (x x₂ x₃ : Str) (scope : Scope) (cl : List (Str × Addr)) (Fin : Shared -> List Value -> List (Addr × Obj) -> Prop) (xv : Value) (gJ : Shared) : Prop
 | mk : ∀ ax its news, xv = .ref ax -> A.handled = none -> Fr gO L gJ.heap m -> News gO L gJ.heap news -> SrcAt gO ax its news -> its.size <= sizeLine ->
   (∀ h : Heap, dH prog w A gO L m env ct elt x x₂ x₃ scope cl { gJ with heap := h } (SrcAt gO ax its) (λ i v => its[i]? = some v) (Fin { gJ with heap := h }) its.size 0 [] news) -> afV prog w A gO L m env ct elt x x₂ x₃ scope cl Fin xv gJ
theorem aa6 {ct elt iter : Expr} {x x₂ x₃ y : Str} {px px₂ px₃ tp py : Pos} {tk} {scope : Scope} {cl : List (Str × Addr)} {pos spos : Pos} {Q : Flow -> Shared -> Prop} (F₀ : Fr gO L s.heap m) (hLe : env.locals = L) (hsw : swapsWith (.ListComp elt [⟨.Tuple [.Name x px, .Name x₂ px₂, .Name x₃ px₃] tk tp, iter, [ct], 0⟩] scope pos) (some (.Name y py)) spos.line env = pure true) (hclos : closureFor scope env = pure cl) (hcell : ∀ z ∈ scope.names, z.2 ≠ .cell) (hkind : scope.kind = .function) (hnames : ∀ z ∈ scope.names, z.2 = .local -> scope.names.lookup z.1 = some .local) (hx : scope.names.lookup x = some .local) (hx₂ : scope.names.lookup x₂ = some .local) (hx₃ : scope.names.lookup x₃ = some .local) (h12 : x ≠ x₂) (h13 : x ≠ x₃) (h23 : x₂ ≠ x₃) (hy : env.kindOf y = some .local) (hp : (env.scope.kind == .class || (env.scope.kind == .module && env.locals != env.globals)) = false) (h : wpAny (model prog w) A (eval iter env) (afV prog w A gO L m env ct elt x x₂ x₃ scope cl (λ gQ => FinA gO L m gQ y Q)) E s) (hs : ∀ x, foldedSetIterable iter env x = pure x) : wpAny (model prog w) A (exec (.Assign [.Name y py] (.ListComp elt [⟨.Tuple [.Name x px, .Name x₂ px₂, .Name x₃ px₃] tk tp, iter, [ct], 0⟩] scope pos) spos) env) Q E s := by
 subst hLe;rw [exec_Assign_Name_used _ _ _ _ hsw];tm_at "bb";show wpAny _ A (do let _ <- comprehension (.ListComp elt [⟨.Tuple [.Name x px, .Name x₂ px₂, .Name x₃ px₃] tk tp, iter, [ct], 0⟩] scope pos) scope env _ (newList []) false (eval iter env) (some (assign (.Name y py) env))) _ _ s;refine wpAny_bind (wpAny_mono (wpAny_comprehension_free (use := some (assign (.Name y py) env)) (Q := λ _ s' => Q .next s') rfl hs hclos hkind hnames
   (wpAny_mono h (λ xv gJ h₁ => ?_) λ _ _ e => e)) (λ _ s' hq => wpAny_pure (wpAny_pure hq)) λ _ _ e => e)
 obtain ⟨ax, its, news, rfl, hh, F, N, S, hsz, R⟩ := h₁;have hl := S.list F.keep N;have hlt : ax < gJ.heap.objs.size := by obtain ⟨_, e, _⟩ := hl; exact Heap.lt_size e
 refine wpAny_pyIter_list hl ?_;have up : ∀ b o, gJ.heap.get? b = some o -> (gJ.heap.push { cls := .type "list_iterator", data := .fields #[.ref ax, .int 0 0] }).get? b = some o := λ b o e => Heap.get?_push_of_some _ e
 refine adt (Walks.list hh gJ.heap.objs.size ax (Nat.ne_of_lt hlt) its) hsz (λ i h st => by obtain ⟨o, e, _⟩ := st.1; exact ⟨o, e⟩) list_st hcell hkind hx hx₂ hx₃ h12 h13 h23 hh (λ i h st => ⟨_, _, st.1⟩) ⟨⟨_, Heap.get?_push_size _ rfl, rfl, rfl⟩, hl.push _⟩ (λ b hb => ?_)
   (F.keeps up) (N.grown up) (Nat.ne_of_lt F.ns.lt) (next_is_new F) (λ p hp => Nat.ne_of_lt (Heap.lt_size (N p hp).1)) S (R _) ?_
 · show b < (gJ.heap.push _).objs.size
   rw [Heap.size_push];rcases List.mem_cons.mp hb with rfl | hb
   · exact Nat.lt_succ_self _
   · rw [List.mem_singleton.mp hb]; exact Nat.lt_succ_of_lt hlt
 · intro D C h' tk m' ys news' F' N' o1 hn hC₀ hD₀ hCL hDL hCD offC fin
   show wpAny _ A (assign (.Name y py) env (.ref D)) _ _ _;refine wpAny_assign_Name (wpAny_storeName_local hy F'.ns (λ h₂ hn₂ hs₂ => ?_) hp);have hL₀ : gO.get? env.locals = none := Heap.get?_none_of_le F'.above;have F₂ : Fr gO env.locals h₂ (λ z => if z = y then some (.ref D) else m z) := ⟨hn₂, λ b o e => hs₂.extBut b o (λ q => by rw [q, hL₀] at e; cases e) (F'.keep b o e), F'.above⟩;refine ⟨m', hn.sameBut hs₂ hCL, λ h'' hs'' => fin D h'' _ (F₂.change hs'' hCL hC₀) (λ p hp => ?_) o1⟩;refine ⟨hs''.extBut _ _ ?_ ?_, (N' p hp).2⟩
   · rcases List.mem_cons.mp hp with rfl | hp
     · exact Ne.symm hCD
     · exact offC p hp
   · exact hs₂.extBut _ _ (N' p hp).2.1 (N' p hp).1
end
end
section
set_option tactic.hygienic false
open PySem.Spec PySem.Calls PyProof.Rows.LCg PyProof.Rows.LCt
noncomputable def ae6 (f g : List Int) (i : Nat) : Int × Int × Int := (1 + (i : Int), f.getD i 0, g.getD i 0)
noncomputable def nA (f g : List Int) (top : Nat) : List (Int × Int × Int) := (List.range top).map (ae6 f g)
noncomputable def nC (p : Int × Int × Int) : Int × Int × Int := (p.1, p.2.2, p.2.1)
noncomputable abbrev ue (R : List (Addr × Obj)) (p : Int × Int × Int) (v : Value) : Prop := ∃ T t1 t2 t3, v = .ref T /\ (T, vp p.1 p.2.1 p.2.2 t1 t2 t3) ∈ R
theorem aJ.all2 {vs : List Value} {l : List (Int × Int × Int)} (h : aJ R vs l) : aU (ue R) l vs := by
 induction h with
 | nil => exact .nil
 | snoc _ m ih => exact ih.snoc ⟨_, _, _, _, rfl, m⟩
theorem aa7 {l : List (Int × Int × Int)} : ∀ {r : List (Int × Int × Int)} {vs us : List Value}, aJ R us l -> aU (ue R) r vs -> aJ R (us ++ vs) (l ++ r) := by
 intro r vs us h k
 induction k generalizing us l with
 | nil => rw [List.append_nil, List.append_nil]; exact h
 | @cons a b r vs hd _ ih =>
   obtain ⟨T, t1, t2, t3, rfl, m⟩ := hd;have := ih (h.snoc m);rw [List.append_assoc, List.append_assoc] at this;exact this
theorem aU.trips {r : List (Int × Int × Int)} {vs : List Value} (h : aU (ue R) r vs) : aJ R vs r := aa7 .nil h
section
variable {s : Shared} {m : Str -> Option Value} {news : List (Addr × Obj)}
theorem zr {k i : Nat} {vs : List Value} {f : List Int} {Q : Value -> Shared -> Prop} (N : News gO L s.heap news) (hm : (D, listOf vs.toArray k) ∈ news) (hi : IntsAre vs f) (hl : i < f.length) (hz : f.length < 100) (ei : z = 1 + (i : Int) - 1) (h : ∀ t, Q (.int (f.getD i 0) t) s) (hs : subscripted slice false (.ref D) (.int z u) = operate [.ref D, .int z u] (getItem (.ref D) (.int z u))) : wpAny (model prog w) A (subscriptTail value slice (.ref D) (.int z u)) Q E s := by
 subst ei;refine ksa_sub N hm hi (by lia) (by lia) (by lia) (λ t => ?_) hs;rw [show (1 + (i : Int) - 1).toNat = i from by lia];exact h t
theorem zu {Fin : Shared -> List Value -> List (Addr × Obj) -> Prop} {r D1 D2 : Addr} {o7 o8 : Obj} {k1 : Nat} {v : Tok} {top : Nat} {f g : List Int} {fv gv : List Value} {base : List (Addr × Obj)} (ht : top <= 5) (_hf : IntsAre fv f) (_hg : IntsAre gv g) (_hr : ∀ p ∈ base, p ∈ base) (d7 : o7.data = .cell (some (.ref D1))) (d8 : o8.data = .cell (some (.ref D2))) (m7 : (L + 1 + 1 + 1 + 1 + 1 + 1 + 1, o7) ∈ base) (m8 : (L + 1 + 1 + 1 + 1 + 1 + 1 + 1 + 1, o8) ∈ base) (mf : (D1, listOf fv.toArray k1) ∈ base) (mg : (D2, listOf gv.toArray k2) ∈ base) (hh : A.handled = none) (F : Fr gO L s.heap m) (N : News gO L s.heap news) (hsub : ∀ p ∈ base, p ∈ news) (hr : IsRange s.heap r 1 ((top : Int) + 1) 1 t u v) (turn : ∀ g' (i : Nat) t R ys I oI C oC D gW h tk (E' : Value -> Shared -> Prop), i < top -> (L + 1 + 1 + 1 + 1 + 1 + 1 + 1, o7) ∈ R -> (L + 1 + 1 + 1 + 1 + 1 + 1 + 1 + 1, o8) ∈ R -> (D1, listOf fv.toArray k1) ∈ R -> (D2, listOf gv.toArray k2) ∈ R -> NsObj oC gW -> gW x = some (.int (1 + (i : Int)) t) -> Fr gO L h m -> News gO L h ((I, oI) :: (C, oC) :: (D, lst ys) :: R) -> Off3 I C D R -> ((@Ne Nat I C) /\ (@Ne Nat I D) /\ (@Ne Nat C D)) -> wpAny (model prog w) A (eval elt (compEnvC scope cl C env)) (CompEnd gO L m { { s with heap := g' } with heap := h, toks := tk } I oI C oC D (lst ys) (λ _ => True) (λ y R' => (∃ T t1 t2 t3, y = .ref T /\ (T, vp (1 + (i : Int)) (f.getD i 0) (g.getD i 0) t1 t2 t3) ∈ R') /\ ∀ p ∈ R, p ∈ R')) E' { { s with heap := g' } with heap := h, toks := tk }) (done : ∀ g' ys R, aJ R ys (nA f g top) -> (∀ p ∈ base, p ∈ R) -> Fin { s with heap := g' } ys R) : CompSrc prog w A gO L m env elt x scope cl Fin (.ref r) s := by
 refine CompSrc.range hh F N hr (small_one (by lia) (by lia) (by lia) (by lia)) (by rw [bc, Int.add_sub_cancel, Int.toNat_natCast]) (by rw [sizeLine_eq]; lia) λ g' => ?_
 refine mz (all := List.range top) (n := top) (λ i v => i < top /\ ∃ t, v = .int (1 + (i : Int)) t) (λ pre ys R => aJ R ys (pre.map (ae6 f g)) /\ ∀ p ∈ base, p ∈ R) (λ i v hi hP => ⟨i, List.getElem?_range hi, hi, hP⟩) List.length_range ?_ (λ ys R j => done g' ys R j.1 j.2) top [] (List.range top) [] news rfl (Nat.zero_add _) ⟨.nil, hsub⟩;intro pre i post v I oI C oC D ys R gW h tk E' e9 j hP hC hx F' N' off ne;refine hP.2.elim λ t e => ?_
 refine wpAny_mono (turn g' i t R ys I oI C oC D gW h tk E' hP.1 (j.2 _ m7) (j.2 _ m8) (j.2 _ mf) (j.2 _ mg) hC (hx.trans (congrArg some e)) F' N' off ne) (λ y s'' r => cJ (λ n' z => ⟨?_, λ p hp => z.2 p (j.2 p hp)⟩) r) λ _ _ e => e
 refine z.1.elim λ T h1 => h1.elim λ t1 h1 => h1.elim λ t2 h1 => h1.elim λ t3 h1 => ?_
 rw [h1.1, List.map_append];exact (j.1.mono z.2).snoc h1.2
theorem nD {Fin : Shared -> List Value -> List (Addr × Obj) -> Prop} {vs : List Value} {k : Nat} {l : List (Int × Int × Int)} (kp : Int × Int × Int -> Bool) (hh : A.handled = none) (F : Fr gO L s.heap m) (N : News gO L s.heap news) (hm : (ax, listOf vs.toArray k) ∈ news) (hT : aJ news vs l) (hz : l.length < 1000) (turn : ∀ g (a b c : Int) T t1 t2 t3 I oI C oC D ys gW h tk (E' : Value -> Shared -> Prop), (T, vp a b c t1 t2 t3) ∈ news -> NsObj oC gW -> gW x = some (.ref T) -> Fr gO L h m -> News gO L h ((I, oI) :: (C, oC) :: (D, lst ys) :: news) -> Off3 I C D news -> ((@Ne Nat I C) /\ (@Ne Nat I D) /\ (@Ne Nat C D)) -> wpAny (model prog w) A (isTrue ct (compEnvC scope cl C env) (eval ct (compEnvC scope cl C env))) (λ ok s' => if ok = true then wpAny (model prog w) A (eval elt (compEnvC scope cl C env)) (CompEnd gO L m { { s with heap := g } with heap := h, toks := tk } I oI C oC D (lst ys) (SrcAt gO ax vs.toArray) (λ y news' => kp (a, b, c) = true /\ y = .ref T /\ news' = news)) E' s' else CompEnd gO L m { { s with heap := g } with heap := h, toks := tk } I oI C oC D (lst ys) (SrcAt gO ax vs.toArray) (λ _ news' => kp (a, b, c) = false /\ news' = news) Value.none s') E' { { s with heap := g } with heap := h, toks := tk }) (done : ∀ g ys, aJ news ys (l.filter kp) -> Fin { s with heap := g } ys news) : CompSrcT prog w A gO L m env ct elt x scope cl Fin (.ref ax) s := by
 tm_at "cH";refine CompSrcT.ledger hh F N hm (by rw [<- hl, sizeLine_eq]; lia) λ g => kE (all := l) (ue news) (ue news) kp (λ i v _ hP => hT.all2.get' i v (List.getElem?_toArray ▸ hP)) hl
   (λ p v I oI C oC D ys gW h tk E' ham hpv hC hx F' N' off ne => ?_) (λ ys h => done g ys h.trips) _ 0 [] (Nat.zero_add _) .nil
 tm_at "X";obtain ⟨T, t1, t2, t3, rfl, hT⟩ := hpv;tm_at "V";refine wpAny_mono (turn g p.1 p.2.1 p.2.2 T t1 t2 t3 I oI C oC D ys gW h tk E' hT hC hx F' N' off ne) (λ ok s' q => ?_) λ _ _ e => e
 cases ok with
 | true =>
   rw [if_pos rfl] at q ⊢;exact wpAny_mono q (λ y s'' r => cJ (λ n z => ⟨z.1, λ _ => ⟨T, t1, t2, t3, z.2.1, hT⟩, z.2.2⟩) r) λ _ _ e => e
 | false =>
   rw [if_neg Bool.false_ne_true] at q ⊢;exact cJ (λ n z => ⟨z.1, λ h => absurd h Bool.false_ne_true, z.2⟩) q
theorem zx {x₂ x₃ : Str} {Fin : Shared -> List Value -> List (Addr × Obj) -> Prop} {vs : List Value} {k : Nat} {l : List (Int × Int × Int)} {base : List (Addr × Obj)} (kp : Int × Int × Int -> Bool) (_hr : ∀ p ∈ base, p ∈ base) (hh : A.handled = none) (F : Fr gO L s.heap m) (N : News gO L s.heap news) (hm : (ax, listOf vs.toArray k) ∈ news) (hT : aJ news vs l) (hz : l.length < 1000) (hsub : ∀ p ∈ base, p ∈ news) (turn : ∀ g (a b c : Int) t1 t2 t3 R ys I oI C oC D gW h tk (E' : Value -> Shared -> Prop), (ax, listOf vs.toArray k) ∈ R -> NsObj oC gW -> gW x = some (.int a t1) -> gW x₂ = some (.int b t2) -> gW x₃ = some (.int c t3) -> Fr gO L h m -> News gO L h ((I, oI) :: (C, oC) :: (D, lst ys) :: R) -> Off3 I C D R -> ((@Ne Nat I C) /\ (@Ne Nat I D) /\ (@Ne Nat C D)) -> wpAny (model prog w) A (isTrue ct (compEnvC scope cl C env) (eval ct (compEnvC scope cl C env))) (λ ok s' => if ok = true then wpAny (model prog w) A (eval elt (compEnvC scope cl C env)) (CompEnd gO L m { { s with heap := g } with heap := h, toks := tk } I oI C oC D (lst ys) (SrcAt gO ax vs.toArray) (λ y R' => kp (a, b, c) = true /\ (∃ T u1 u2 u3, y = .ref T /\ (T, vp a c b u1 u2 u3) ∈ R') /\ ∀ p ∈ R, p ∈ R')) E' s' else CompEnd gO L m { { s with heap := g } with heap := h, toks := tk } I oI C oC D (lst ys) (SrcAt gO ax vs.toArray) (λ _ R' => kp (a, b, c) = false /\ R' = R) Value.none s') E' { { s with heap := g } with heap := h, toks := tk }) (done : ∀ g ys R, aJ R ys ((l.filter kp).map nC) -> (∀ p ∈ base, p ∈ R) -> Fin { s with heap := g } ys R) : afV prog w A gO L m env ct elt x x₂ x₃ scope cl Fin (.ref ax) s := by
 tm_at "cH";refine .mk ax vs.toArray news rfl hh F N (.inr ⟨_, hm, rfl, _, rfl⟩) (by rw [<- hl, sizeLine_eq]; lia) λ g => ?_
 have key : ∀ k' i ys R, i + k' = l.length -> aJ R ys (((l.take i).filter kp).map nC) -> (∀ p ∈ news, p ∈ R) -> dH prog w A gO L m env ct elt x x₂ x₃ scope cl { s with heap := g } (SrcAt gO ax vs.toArray) (λ i v => vs.toArray[i]? = some v) (Fin { s with heap := g }) k' i ys R := by
   intro k'
   induction k' with
   | zero =>
     intro i ys R e hy hs;rw [List.take_of_length_le (i := i) (l := l) (by lia)] at hy;exact done g ys R hy λ p hp => hs p (hsub p hp)
   | succ k' ih =>
     intro i ys R e hy hs v hv;tm_at "X";obtain ⟨p, hp, T, t1, t2, t3, rfl, hm3⟩ := hT.all2.get' i v (List.getElem?_toArray ▸ hv);tm_at "V";refine ⟨T, _, _, _, rfl, hs _ hm3, λ I oI C oC D gW h tk E' hC hx hx2 hx3 F' N' off ne => ?_⟩;refine wpAny_mono (turn g p.1 p.2.1 p.2.2 t1 t2 t3 R ys I oI C oC D gW h tk E' (hs _ hm) hC hx hx2 hx3 F' N' off ne) (λ ok s' q => ?_) λ _ _ e => e
     have st : ∀ {b : Bool}, kp p = b -> ((l.take (i + 1)).filter kp).map nC = ((l.take i).filter kp).map nC ++ (if b = true then [nC p] else []) := by
       intro b hb;rw [List.take_add_one, hp, Option.toList_some, List.filter_append, List.map_append];cases b
       · rw [List.filter_cons_of_neg (by rw [hb]; exact Bool.false_ne_true)]; rfl
       · rw [List.filter_cons_of_pos hb]; rfl
     cases ok with
     | true =>
       rw [if_pos rfl] at q ⊢;refine wpAny_mono q (λ y s'' r => cJ (λ n z => ?_) r) λ _ _ e => e
       refine z.2.1.elim λ T' h1 => h1.elim λ u1 h1 => h1.elim λ u2 h1 => h1.elim λ u3 h1 => ?_
       refine ih (i + 1) _ n (by lia) ?_ λ p' hp' => z.2.2 p' (hs p' hp')
       rw [st z.1, h1.1];exact (hy.mono z.2.2).snoc h1.2
     | false =>
       rw [if_neg Bool.false_ne_true] at q ⊢;refine cJ (λ n z => ?_) q;rw [z.2];refine ih (i + 1) _ R (by lia) ?_ hs;rw [st z.1]
       simpa using hy
 exact hl ▸ key l.length 0 [] news (Nat.zero_add _) .nil λ _ h => h
end
noncomputable def kpB (p : Int × Int × Int) : Bool := decide (p.2.2 <= p.2.1)
noncomputable def kpA (p : Int × Int × Int) : Bool := decide (p.2.1 <= p.2.2)
noncomputable def kpU (p : Int × Int × Int) : Bool := p.2.1 != p.2.2
theorem ahT {a c : Int} (h : b >= c) : kpB (a, b, c) = true := decide_eq_true h
theorem ahU {a c : Int} (h : ¬ b >= c) : kpB (a, b, c) = false := decide_eq_false h
theorem ahV {a c : Int} (h : c >= b) : kpA (a, b, c) = true := decide_eq_true h
theorem ahW {a c : Int} (h : ¬ c >= b) : kpA (a, b, c) = false := decide_eq_false h
theorem ahX {a c : Int} (h : b ≠ c) : kpU (a, b, c) = true := bne_iff_ne.mpr h
theorem ahY {a c : Int} (h : b = c) : kpU (a, b, c) = false := by unfold kpU; rw [show b = c from h]; simp
noncomputable def nF (p : Int × Int × Int) : PyData := .tuple [.int p.1, .int p.2.1, .int p.2.2]
theorem pJ : ∀ l : List (Int × Int × Int), PyData.canLayAll0 (l.map nF) = true
 | [] => rfl
 | p :: r => by rw [List.map_cons, PyData.canLayAll0, pJ r]; rfl
theorem eF : ∀ l : List (Int × Int × Int), PyData.depthAll (l.map nF) <= 3
 | [] => by simp [PyData.depthAll]
 | p :: r => by
   have := eF r;rw [List.map_cons, PyData.depthAll];simp only [nF, PyData.depth, PyData.depthAll];lia
theorem iK (a b c : List (Int × Int × Int)) : SeqAt.shaped (.list [.list (a.map nF), .list (b.map nF), .list (c.map nF)]) = true := by
 tm_at "bF"
 · simp [PyData.canLay0, PyData.canLayAll0, pJ]
 · have := eF a
   have := eF b;have := eF c;simp [PyData.depth, PyData.depthAll];lia
section
variable {s : Shared} {news : List (Addr × Obj)}
theorem afW {a b b1 b3 : Addr} {v1 v2 v3 u1 u2 u3 : List Value} {l1 l2 l3 r1 r2 r3 : List (Int × Int × Int)} {k k' i1 i2 i3 j1 j2 j3 : Nat} {Q : Value -> Shared -> Prop} (N : News gO L s.heap news) (h1 : (a, listOf [Value.ref a1, Value.ref a2, Value.ref a3].toArray k) ∈ news) (m1 : (a1, listOf v1.toArray i1) ∈ news) (m2 : (a2, listOf v2.toArray i2) ∈ news) (m3 : (a3, listOf v3.toArray i3) ∈ news) (t1 : aJ news v1 l1) (t2 : aJ news v2 l2) (t3 : aJ news v3 l3) (h2 : (b, listOf [Value.ref b1, Value.ref b2, Value.ref b3].toArray k') ∈ news) (n1 : (b1, listOf u1.toArray j1) ∈ news) (n2 : (b2, listOf u2.toArray j2) ∈ news) (n3 : (b3, listOf u3.toArray j3) ∈ news) (s1 : aJ news u1 r1) (s2 : aJ news u2 r2) (s3 : aJ news u3 r3) (e1 : l1 = r1) (e2 : l2 = r2) (e3 : l3 = r3) (hu : A.units + 64 < cLine) (h : Q (.bool false) s) : wpAny (model prog w) A (compareOp .NotEq (.ref a) (.ref b)) Q E s := by
 subst e1 e2 e3;have rd : ∀ {vs : List Value} {l : List (Int × Int × Int)}, aJ news vs l -> ∃ as, ReadsAll s.heap vs (l.map nF) as := by
   intro vs l t;have t' := t.all2;clear t
   induction t' with
   | nil => exact ⟨_, .nil⟩
   | cons hd _ ih =>
     refine hd.elim λ T q => q.elim λ t1 q => q.elim λ t2 q => q.elim λ t3 q => ih.elim λ as ih => ?_
     rw [q.1];exact ⟨_, .cons (Reads.tuple (N.get q.2) rfl rfl (.cons (.int _ _) (.cons (.int _ _) (.cons (.int _ _) .nil)))) ih⟩
 refine (rd t1).elim λ _ t1 => (rd t2).elim λ _ t2 => (rd t3).elim λ _ t3 => (rd s1).elim λ _ s1 => (rd s2).elim λ _ s2 => (rd s3).elim λ _ s3 => ?_
 refine ne_dataH (Reads.list (N.get h1) rfl rfl (.cons (Reads.list (N.get m1) rfl rfl t1) (.cons (Reads.list (N.get m2) rfl rfl t2) (.cons (Reads.list (N.get m3) rfl rfl t3) .nil)))) (Reads.list (N.get h2) rfl rfl (.cons (Reads.list (N.get n1) rfl rfl s1) (.cons (Reads.list (N.get n2) rfl rfl s2) (.cons (Reads.list (N.get n3) rfl rfl s3) .nil)))) (iK l1 l2 l3) (iK l1 l2 l3) hu ?_;rw [SeqAt.eqv_refl _ (Bool.and_eq_true_iff.mp (iK l1 l2 l3)).1];exact h
end
theorem aa8 (n : Nat) : (dC n).b < 90 := by show (0 : Int) < 90; decide
theorem ik {n : Nat} (h : 2 <= n /\ n <= 4) : (dC n).cnt.length < 90 := by
 have : (dC n).cnt.length = n + 1 := jt h;lia
theorem nG {n : Nat} (h : 2 <= n /\ n <= 4) : 0 <= aC (dC n) := by
 have : ∀ n ∈ [2, 3, 4], 0 <= aC (dC n) := by decide +kernel
 exact this n (by simp; lia)
theorem adu : ∀ n0 ∈ [2, 3, 4], ∀ n1 ∈ [2, 3, 4], jr (λ a b => decide (b <= a)) (dC n0) (dC n1) = (nA (cM n0 (max n0 n1 + 1)) (cM n1 (max n0 n1 + 1)) (max n0 n1 + 1)).filter kpB /\
   jr (λ a b => decide (b <= a)) (dC n1) (dC n0) = ((nA (cM n0 (max n0 n1 + 1)) (cM n1 (max n0 n1 + 1)) (max n0 n1 + 1)).filter kpA).map nC /\
   jr (λ a b => a != b) (dC n0) (dC n1) = (nA (cM n0 (max n0 n1 + 1)) (cM n1 (max n0 n1 + 1)) (max n0 n1 + 1)).filter kpU := by decide +kernel
theorem uf : ∀ n0 ∈ [2, 3, 4], ∀ n1 ∈ [2, 3, 4], cQ (dC n0) (dC n1) = decide ((n0 : Int) < n1) /\ decide ((dC n0).cnt = (dC n1).cnt /\ (dC n0).b = (dC n1).b) = decide ((n0 : Int) = n1) := by decide +kernel
end
section
open PySem PyProof.Rows
theorem pK {p : Pos} {t : Sem PySem.Fin} {fs : List Frame} {s s' : Shared} {e : End} (h : Runs M Γ p t fs s e s') : s.toks <= s'.toks := by
 induction h with
 | done => exact Nat.le_refl _
 | raise => exact Nat.le_refl _
 | yield => exact Nat.le_refl _
 | fresh _ ih => exact Nat.le_of_succ_le ih
 | call _ _ a b => exact Nat.le_trans a b
 | resumeFresh _ _ _ _ a b => exact Nat.le_trans a b
 | resumeSuspended _ _ _ _ a b => exact Nat.le_trans a b
 | segRet _ _ a b => exact Nat.le_trans a b
 | segGen _ _ a b => exact Nat.le_trans a b
 | segSuspGen _ _ _ _ a b => exact Nat.le_trans a b
 | _ => assumption
theorem vU {p : Pos} {g : Nat} {r : Resume} {s s' : Shared} {res : GenResult} (h : Wakes M Γ p g r s res s') : s.toks <= s'.toks := by
 unfold Wakes at h;cases hg : s.gens[g]? with
 | none => rw [hg] at h; exact h.elim
 | some gs =>
   rw [hg] at h;cases gs with
   | fresh c =>
     cases r with
     | send v =>
       cases v <;> first
         | (tm_at "cy")
         | (rw [h.2]; exact Nat.le_refl _)
     | throw x => rw [h.2]; exact Nat.le_refl _
   | suspended k l c p f cl => tm_at "cy"
   | running => rw [h.2]; exact Nat.le_refl _
   | finished => rw [h.2]; exact Nat.le_refl _
theorem adv (t : Sem α) {Q : α -> Pos -> Shared -> Prop} {E : Value -> Pos -> Shared -> Prop} : ∀ (n : Nat) (p : Pos) (s : Shared), n <= s.toks -> Sem.wp M Γ t (λ a p' s' => n <= s'.toks -> Q a p' s') E p s -> Sem.wp M Γ t Q E p s := by
 induction t with
 | pure x => exact λ n p s h k => k h
 | raise v => exact λ n p s h k => k
 | unsupported | finish | yield | fork | await | register => exact λ _ _ _ _ k => k
 | fresh k ih => exact λ n p s h k => ih _ n _ _ (Nat.le_succ_of_le h) k
 | rule _ k ih | «at» _ k ih | alloc _ k ih | loadIfAlive _ k ih | point _ k ih | ask k ih | os _ _ k ih | handled _ k ih | newGen _ k ih | stack k ih | thread k ih => exact λ n p s h k => ih _ n _ _ h k
 | load a _ k ih | genState a k ih => exact λ n p s h ⟨o, ho, k⟩ => ⟨o, ho, ih _ n _ _ h k⟩
 | update a _ f k ih | choose _ _ k ih => exact λ n p s h ⟨ha, k⟩ => ⟨ha, ih _ n _ _ h k⟩
 | call c hh g l k ih => exact λ n p s h ⟨r, s', hr, k⟩ => ⟨r, s', hr, ih _ n _ _ (Nat.le_trans h (pK hr)) k⟩
 | resume g r l k ih => exact λ n p s h ⟨res, s', hw, k⟩ => ⟨res, s', hw, ih _ n _ _ (Nat.le_trans h (vU hw)) k⟩
theorem vV {t : Sem α} {Q : α -> Shared -> Prop} {s : Shared} (h : wpAny M A t (λ a s' => s.toks <= s'.toks -> Q a s') E s) : wpAny M A t Q E s :=
 λ Γ p hΓ => adv t s.toks p s (Nat.le_refl _) (h Γ p hΓ)
theorem vW {l rest : List Stmt} {Q : Flow -> Shared -> Prop} {s : Shared} (h : wpAny M A (execs l env) (λ f s' => s.toks <= s'.toks -> match f with | .next => wpAny M A (execs rest env) Q E s' | f => Q f s') E s) : wpAny M A (execs (l ++ rest) env) Q E s := by
 replace h := vV h;intro Γ p hΓ;have h' := h Γ p hΓ;clear h
 induction l generalizing p s with
 | nil => exact h' Γ p hΓ
 | cons a l ih =>
   rw [List.cons_append, execs_cons, Sem.wp_bind'];rw [execs_cons, Sem.wp_bind'] at h';refine Sem.wp_mono M Γ _ (λ f p' s' k => ?_) (λ _ _ _ k => k) _ _ h';cases f <;> first | exact ih p' k | exact k
end
section
set_option tactic.hygienic false
open PySem.Spec PySem.Calls
structure fj (x n : Nat) : Prop where
 n2 : 2 <= n
 n4 : n <= 4
 hb1 : Txt.join (ofString "") (List.map cB (List.filter (λ c => !fU c) (qU (x / 6)).cps.toList)) = qM (x / 6)
 hb2 : ((List.map cB (List.filter (λ c => !fU c) (qU (x / 6)).cps.toList)).map (·.length)).sum + (List.map cB (List.filter (λ c => !fU c) (qU (x / 6)).cps.toList)).length * (ofString "").length <= 16777216
 hb3 : (qU (x / 6)).length < 1000
 hb4 : (qM (x / 6)).length <= 100000
 hb5 : (aK (n - 1)).length <= (qM (x / 6)).cps.toList.length
 page : ∀ wd, (wd = 3 \/ wd = 5) -> (n = 4 -> wd = 5) -> ∃ rws whole at0 win lead, aO (kJ (qM (x / 6)).cps.toList (n - 1)) (kJ (qM (x / 6)).cps.toList (n - 1)).cps.toList wd /\ aV (kJ (qM (x / 6)).cps.toList (n - 1)).cps.toList wd n rws /\ aG n rws whole at0 win lead
section
variable {s : Shared} {Q : Flow -> Shared -> Prop}
theorem aa9 {r : Addr} {v : Tok} {news : List (Addr × Obj)} (hh : A.handled = none) (F : Fr gO env.locals s.heap gY) (N : News gO env.locals s.heap news) (hOk : uZ Ok) (ok : Ok s) (hr : IsRange s.heap r 0 2 1 t u v) (turn : ∀ I, (∀ p ∈ news, p.1 ≠ I) -> fO prog w A E gO env (.Name nm px) body orelse Q Ok (λ _ => True) I [λ v => ∃ t, v = .int (0 + ((0 : Nat) : Int)) t, λ v => ∃ t, v = .int (0 + ((1 : Nat) : Int)) t] gY news) : wpAny (model prog w) A (pyIter (.ref r)) (λ it gQ => eX prog w A gO env (.Name nm px) body orelse Q E it gQ) E s := by
 refine wpAny_pyIter_range hr (by decide) ?_;have off : ∀ p ∈ news, p.1 ≠ s.heap.objs.size := λ p hp => Nat.ne_of_lt (Heap.lt_size (N p hp).1)
 refine ⟨s.heap.objs.size, [s.heap.objs.size], [λ v => ∃ t, v = .int (0 + ((0 : Nat) : Int)) t, λ v => ∃ t, v = .int (0 + ((1 : Nat) : Int)) t], _, _, gY, news, Ok, λ _ => True, rfl, LCg.range_walks hh 0 2, ?_, ?_, ?_, ?_, Nat.ne_of_lt F.ns.lt, next_is_new F, off, ?_, hOk, hOk.heap _ _ _ ok, F.keeps λ _ _ e => Heap.get?_push_of_some _ e, N.grown λ _ _ e => Heap.get?_push_of_some _ e, turn _ off⟩
 · intro i v hi hlt
   match i, hlt with
   | 0, _ => exact ⟨_, rfl, hi⟩
   | 1, _ => exact ⟨_, rfl, hi⟩
 · exact λ i h st => ⟨_, st⟩
 · exact λ i h h' o nw st e e' kp N' hS' => LCg.range_st (h₀ := gO) (L := env.locals) i h h' o nw st e e' kp N' hS'
 · exact λ i v s' E' Q' st hi q => wpAny_pure q
 · show IsRangeIter _ _ _ _ _
   rw [show Builtin.Range.rangeSize 0 2 1 = ((2 : Nat) : Int) from by decide]
   simpa using Heap.get?_push_size _ rfl
end
theorem vX {m : Str -> Option Value} {l l' : List (Str × Value)} (h : aB m l) (k : ∀ p ∈ l', p ∈ l) : aB m l' := λ p hp => h p (k p hp)
structure OkT (os₀ : OsState) (s : Shared) : Prop where
 g : AllBare s.gens
 o : s.os = os₀
theorem okT (os₀ : OsState) : uZ (OkT os₀) := ⟨λ s h tk ok => ⟨ok.g, ok.o⟩⟩
theorem ug {s : Shared} {m : Str -> Option Value} {news : List (Addr × Obj)} {v : Value} {Q : Unit -> Shared -> Prop} (F : Fr gO env.locals s.heap m) (N : News gO env.locals s.heap news) (hy : env.kindOf y = some .local) (hp : (env.scope.kind == .class || (env.scope.kind == .module && env.locals != env.globals)) = false) (h : ∀ h₂, Fr gO env.locals h₂ (λ z => if z = y then some v else m z) -> News gO env.locals h₂ news -> Q () { s with heap := h₂, toks := s.toks + 1 }) : wpAny (model prog w) A (assign (.Name y py) env v) Q E s :=
 wpAny_assign_Name (wpAny_storeName_local hy F.ns (λ h₂ hn hs => h h₂ ⟨hn, λ b o e => hs.extBut b o (λ q => by rw [q, Heap.get?_none_of_le F.above] at e; cases e) (F.keep b o e), F.above⟩ λ p hp => ⟨hs.extBut _ _ (N p hp).2.1 (N p hp).1, (N p hp).2⟩) hp)
theorem ahZ {m : Str -> Option Value} {l : List (Str × Value)} {v : Value} (h : aB m l) (hy : ∀ p ∈ l, p.1 ≠ y) : aB (λ z => if z = y then some v else m z) ((y, v) :: l) :=
 λ p hp => (List.mem_cons.mp hp).elim (λ e => by rw [e]; exact if_pos rfl) λ h' => by
   show (if p.1 = y then some v else m p.1) = _;rw [if_neg (hy p h')]; exact h p h'
theorem jY {n : Nat} (h : 2 <= n /\ n <= 4) : n ∈ [2, 3, 4] := by simp; lia
theorem nH (n top : Nat) : (cM n top).length = top := by unfold cM; rw [List.length_map, List.length_range]
theorem nJ (f g : List Int) (top : Nat) : (nA f g top).length = top := by unfold nA; rw [List.length_map, List.length_range]
theorem xj (x : Nat) : fc (x : Int) = ((2 + x % 3 : Nat) : Int) := by
 unfold fc;rw [Int.fmod_eq_emod_of_nonneg _ (by decide)];lia
theorem afX {ov : List Value} {zs : List Int} {M : Int} (hI : IntsAre nv zs) (hz : zs.length = 2) (hb : ∀ z ∈ zs, 0 <= z /\ z < 1000000000000) (hO : IntsAre ov (zs.map fc)) (hM : M ∈ zs.map fc) (hM2 : ∀ a, a ∈ zs.map fc -> a <= M) : ∃ (x0 x1 : Nat) (tx0 tx1 tn0 tn1 : Tok), x0 < 1000000000000 /\ x1 < 1000000000000 /\ nv[0]? = some (.int (x0 : Int) tx0) /\ nv[1]? = some (.int (x1 : Int) tx1) /\ ov[0]? = some (.int ((2 + x0 % 3 : Nat) : Int) tn0) /\ ov[1]? = some (.int ((2 + x1 % 3 : Nat) : Int) tn1) /\ M = ((max (2 + x0 % 3) (2 + x1 % 3) : Nat) : Int) := by
 cases hI with
 | nil => cases hz
 | cons z0 t0 hI =>
   cases hI with
   | nil => cases hz
   | cons z1 t1 hI =>
     cases hI with
     | cons z2 t2 hI => simp at hz
     | nil =>
       have h0 := hb z0 (.head _);have h1 := hb z1 (.tail _ (.head _));have e0 : z0 = ((z0.toNat : Nat) : Int) := (Int.toNat_of_nonneg h0.1).symm;have e1 : z1 = ((z1.toNat : Nat) : Int) := (Int.toNat_of_nonneg h1.1).symm;have o0 : fc z0 = ((2 + z0.toNat % 3 : Nat) : Int) := by rw [<- xj, <- e0]
       have o1 : fc z1 = ((2 + z1.toNat % 3 : Nat) : Int) := by rw [<- xj, <- e1]
       rw [List.map_cons, List.map_cons, List.map_nil, o0, o1] at hO hM hM2;cases hO with
       | cons _ s0 hO =>
         cases hO with
         | cons _ s1 hO =>
           cases hO
           refine ⟨z0.toNat, z1.toNat, t0, t1, s0, s1, ahL h0, ahL h1, by rw [<- e0]; rfl, by rw [<- e1]; rfl, rfl, rfl, ?_⟩;have k0 := hM2 _ (.head _);have k1 := hM2 _ (.tail _ (.head _));exact ac8 k0 k1 ((List.mem_cons.mp hM).imp_right List.mem_singleton.mp)
end
section
set_option tactic.hygienic false
noncomputable def vY : List Nat -> List Nat -> Bool
 | [], [] => true
 | a :: r, b :: t => cond (Nat.beq a b) (vY r t) false
 | _, _ => false
theorem fL : ∀ {a b : List Nat}, vY a b = true ↔ a = b
 | [], [] => by simp [vY]
 | [], _ :: _ => by simp [vY]
 | _ :: _, [] => by simp [vY]
 | a :: r, b :: t => by
   have := fL (a := r) (b := t);unfold vY;cases h : Nat.beq a b
   · have hne : a ≠ b := λ e => by rw [e, Nat.beq_refl] at h; cases h
     simp [hne]
   · rw [Nat.eq_of_beq_eq_true h]; simpa using this
noncomputable def xm (k : List Nat) : List (List Nat × List Nat) -> Option (List Nat)
 | [] => none
 | d :: r => cond (vY d.1 k) (some d.2) (xm k r)
theorem uh (k : List Nat) : ∀ l, xm k l = du k l
 | [] => rfl
 | d :: r => by
   unfold xm du;rw [uh k r]
   by_cases h : d.1 = k
   · rw [if_pos h, fL.mpr h]; rfl
   · rw [if_neg h]
     cases e : vY d.1 k
     · rfl
     · exact absurd (fL.mp e) h
noncomputable def adw (k v : List Nat) : List (List Nat × List Nat) -> List (List Nat × List Nat)
 | [] => []
 | d :: r => cond (vY d.1 k) ((d.1, v) :: r) (d :: adw k v r)
theorem xq (k v : List Nat) : ∀ l, adw k v l = iu k v l
 | [] => rfl
 | d :: r => by
   unfold adw iu;rw [xq k v r]
   by_cases h : d.1 = k
   · rw [if_pos h, fL.mpr h]; rfl
   · rw [if_neg h]
     cases e : vY d.1 k
     · rfl
     · exact absurd (fL.mp e) h
noncomputable def zy : Nat -> List (List Nat × List Nat) -> List (List Nat × List Nat) -> List (List Nat) -> List (List Nat)
 | 0, _, _, n => n
 | _ + 1, _, [], n => n
 | f + 1, d, t :: s, n => match xm t.1 d with
   | none => n
   | some [] => zy f d s (t.2 :: n)
   | some (c :: cs) => zy f (adw t.1 cs d) (((t.1 ++ [c]).drop 1, [c]) :: t :: s) n
theorem qQ : ∀ (f : Nat) (d s : List (List Nat × List Nat)) (n : List (List Nat)), (fW f ⟨d, s.reverse, n.reverse⟩).noted = (zy f d s n).reverse
 | 0, _, _, _ => rfl
 | f + 1, d, [], n => rfl
 | f + 1, d, t :: s, n => by
   unfold fW ju zy;rw [uh];dsimp only;rw [List.getLast?_reverse];dsimp only [List.head?_cons];cases e : du t.1 d with
   | none => rfl
   | some l =>
     cases l with
     | nil =>
       dsimp only;have h1 : (t :: s).reverse.dropLast = s.reverse := by rw [List.reverse_cons, List.dropLast_concat]
       have h2 : n.reverse ++ [t.2] = (t.2 :: n).reverse := by rw [List.reverse_cons]
       rw [h1, h2];exact qQ f d s _
     | cons c cs =>
       dsimp only;have h1 : (t :: s).reverse ++ [((t.1 ++ [c]).drop 1, [c])] = (((t.1 ++ [c]).drop 1, [c]) :: t :: s).reverse := by rw [List.reverse_cons (a := ((t.1 ++ [c]).drop 1, [c]))]
       rw [h1, <- xq];exact qQ f _ _ n
noncomputable def dB (b : Bool) : List Nat := cond b [102, 105] [105, 102]
noncomputable def nM (bs : List Bool) (ws : List (List Nat)) : List (List Nat × List Nat) := ws.zipIdx.map λ p => (p.1, dB (bs.getD p.2 false))
noncomputable def kY (k0 : Nat) (bs : List Bool) : List Nat := (zy 40 (nM bs (aK k0)) [(List.replicate k0 102, [])] []).flatten
noncomputable def vZ : Nat -> List (List Bool)
 | 0 => [[]]
 | n + 1 => (vZ n).flatMap λ l => [false :: l, true :: l]
theorem ul : ∀ (l : List Bool), l ∈ vZ l.length
 | [] => .head _
 | b :: l => by
   show _ ∈ (vZ l.length).flatMap _;refine List.mem_flatMap.mpr ⟨l, ul l, ?_⟩;cases b <;> simp
theorem um (xs : List Str) : (Txt.join (ofString "") xs).cps.toList = (xs.map λ x => x.cps.toList).flatten := by
 rw [eZ, show ofString "" = Str.empty from by decide +kernel]
 induction xs with
 | nil => rfl
 | cons x r ih =>
   cases r with
   | nil =>
     show x.cps.toList = _;simp
   | cons y r =>
     show ((x ++ Str.empty) ++ Str.join Str.empty (y :: r)).cps.toList = _;rw [eY, eY, ih];show (x.cps.toList ++ []) ++ _ = _;simp
noncomputable def iM (bk : List Nat) (m : Nat) : List Bool := (List.range m).map λ j => Nat.beq (bk.getD j 0) 102
theorem v7 (bk : List Nat) (ws : List (List Nat)) : aX bk ws = nM (iM bk ws.length) ws := by
 unfold aX nM;refine List.map_congr_left λ p hp => ?_
 obtain ⟨a, j⟩ := p;have hj : j < ws.length := by
   have := List.mem_zipIdx hp
   simpa using this.2.1
 have e : (iM bk ws.length).getD j false = Nat.beq (bk.getD j 0) 102 := by
   unfold iM;rw [List.getD_eq_getElem?_getD, List.getElem?_map, List.getElem?_range hj]; rfl
 dsimp only;rw [e];unfold dw dB
 by_cases h : bk.getD j 0 = 102
 · rw [if_pos h, h]; rfl
 · rw [if_neg h]
   cases e : Nat.beq (bk.getD j 0) 102
   · rfl
   · exact absurd (Nat.eq_of_beq_eq_true e) h
theorem v8 (bk : List Nat) (k0 : Nat) : (kJ bk k0).cps.toList = kY k0 (iM bk (aK k0).length) := by
 unfold kJ pD kY;rw [um, v7];have := qQ 40 (nM (iM bk (aK k0).length) (aK k0)) [(List.replicate k0 102, [])] [];rw [show ([(List.replicate k0 102, ([] : List Nat))] : List (List Nat × List Nat)).reverse = [(List.replicate k0 102, [])] from rfl, show ([] : List (List Nat)).reverse = [] from rfl] at this;rw [this];generalize zy 40 (nM (iM bk (aK k0).length) (aK k0)) [(List.replicate k0 102, [])] [] = l;rw [List.map_reverse, List.map_reverse, List.map_reverse, List.reverse_reverse, List.map_map]
 congr 1
 induction l with
 | nil => rfl
 | cons a r ih => rw [List.map_cons, ih]; rfl
end
section
theorem jZ (x : Str) : aD x.cps.toList = x := by
 apply Str.ext';simp
theorem lH {l : List Nat} (h : x.cps.toList = l) : x = aD l := by rw [<- h, jZ]
theorem jz (h : x.cps.toList = y.cps.toList) : x = y := by rw [<- jZ x, h, jZ]
theorem dR (l : List Nat) : (aD l).length = l.length := by simp [Str.length]
theorem iQ (x : Str) {a b : Nat} (hab : a <= b) (hb : b <= x.length) : Txt.slice x (some (a : Int)) (some (b : Int)) = aD ((x.cps.toList.drop a).take (b - a)) := by
 unfold Txt.slice;rw [StrLaws.sliced_plain x hab hb, StrLaws.strSliceIndices_plain hab hb, List.length_map, List.length_range];split
 · rename_i h
   have h1 : b - a = x.length := by simpa using h
   have ha : a = 0 := by lia
   subst ha;apply lH;rw [List.drop_zero, List.take_of_length_le];simp [Str.length] at *;lia
 · rfl
theorem wg (x : Str) (n : Nat) : Txt.slice x none (some (n : Int)) = Txt.slice x (some ((0 : Nat) : Int)) (some (n : Int)) := by
 have e : Builtin.Str.strSliceIndices none (some (n : Int)) 1 x.length = Builtin.Str.strSliceIndices (some ((0 : Nat) : Int)) (some (n : Int)) 1 x.length := by
   unfold Builtin.Str.strSliceIndices;have h : max (0 : Int) (min 0 (x.length : Int)) = 0 := by lia
   simp [h]
 unfold Txt.slice;rw [e]
theorem zz {n : Nat} {r : List Nat} (h : n <= r.length) : kW n r = aD (r.take n) := by
 unfold kW;rw [wg, iQ _ (Nat.zero_le _) (by rw [dR]; exact h)];simp
theorem wi {l : List Nat} (h : l ≠ []) : Txt.join (ofString ";") (signs (aD l)) ++ ofString ";" = aR l := by
 have e : ofString ";" = ⟨#[59]⟩ := by decide +kernel
 rw [e, eZ];apply jz;rw [eY, cu];have k : (signs (aD l)).map (λ x => x.cps.toList) = l.map λ c => [c] := by simp [signs]
 rw [k];show jl 59 (l.map λ c => [c]) ++ [59] = (l.flatMap λ c => [c, 59]).toArray.toList;rw [List.toList_toArray]
 induction l with
 | nil => exact absurd rfl h
 | cons a r ih =>
   cases r with
   | nil => rfl
   | cons b t =>
     have := ih (List.cons_ne_nil _ _) (by simp [signs]);show ([a] ++ 59 :: jl 59 ((b :: t).map λ c => [c])) ++ [59] = [a, 59] ++ (b :: t).flatMap λ c => [c, 59]
     rw [<- this];simp
theorem nO {r : List Nat} (h : ∀ c ∈ r, c = 102 \/ c = 105) : (aR r).cps.toList.filter (· != 59) = r := by
 show ((r.flatMap λ c => [c, 59]).toArray.toList).filter _ = r;rw [List.toList_toArray]
 induction r with
 | nil => rfl
 | cons a r ih =>
   rw [List.flatMap_cons, List.filter_append, ih λ c hc => h c (.tail _ hc)];rcases h a (.head _) with rfl | rfl <;> rfl
theorem pL {c d : Nat} (h : (c != d) = true) : ∀ A : List (List Nat), (jl c A).filter (· != d) = jl c (A.map λ l => l.filter (· != d))
 | [] => rfl
 | [x] => rfl
 | x :: y :: r => by
   show (x ++ c :: jl c (y :: r)).filter _ = x.filter _ ++ c :: jl c ((y :: r).map λ l => l.filter (· != d));rw [List.filter_append, List.filter_cons, if_pos h, pL h (y :: r)]
theorem afY (h : ∀ r ∈ bw wn (dO wn codes), ∀ c ∈ r, c = 102 \/ c = 105) : rpS wn codes = Txt.join (ofString "\n") ((bw wn (dO wn codes)).map aD) := by
 tm_at "bD";have e2 : ofString ";" = ⟨#[59]⟩ := by decide +kernel
 have e3 : ofString "" = ⟨#[]⟩ := by decide +kernel
 apply jz;unfold rpS;rw [e2, e3, replace_strikes];unfold xg;rw [e, eZ, eZ, cu, cu, pL (by decide), List.map_map, List.map_map, List.map_map]
 congr 1
 exact List.map_congr_left λ r hr => nO (h r hr)
theorem aba (c : Nat) : cR c = aD [if c = 102 then 32 else 9] := by
 have e : ofString "f" = ⟨#[102]⟩ := by decide +kernel
 have e1 : ofString " " = aD [32] := by decide +kernel
 have e2 : ofString "\t" = aD [9] := by decide +kernel
 unfold cR;rw [e, e1, e2]
 by_cases h : c = 102
 · subst h; rfl
 · rw [if_neg h, if_neg]
   intro k;have := eq_of_beq k;simp at this;exact h this
theorem wj (l : List Nat) : Txt.join (ofString "") (l.map cR) = aD (l.map λ c => if c = 102 then 32 else 9) := by
 apply lH;rw [um, List.map_map]
 induction l with
 | nil => rfl
 | cons a r ih =>
   rw [List.map_cons, List.flatten_cons, ih, List.map_cons];show (cR a).cps.toList ++ _ = _;rw [aba]; rfl
theorem zA (l : List (List Nat)) : Txt.join (ofString "") (l.map aD) = aD l.flatten := by
 apply lH;rw [um, List.map_map]
 congr 1
 exact (List.map_congr_left (λ r _ => by rfl)).trans (List.map_id' l)
theorem adx (l : List (List Nat)) : ((l.map aD).map (·.length)).sum = l.flatten.length := by
 induction l with
 | nil => rfl
 | cons a r ih => rw [List.map_cons, List.map_cons, List.sum_cons, ih, List.flatten_cons, List.length_append, dR]
end
section
set_option tactic.hygienic false
noncomputable def ofW : Nat -> Nat -> List Nat
 | 0, _ => []
 | k + 1, v => ofW k (v / 2) ++ [cond (Nat.beq (v % 2) 0) 102 105]
noncomputable def nP : List Nat := [6, 12]
theorem uo : ((vZ 2).all λ bs => nP.any λ v => vY (ofW 4 v) (kY (2 - 1) bs)) = true := by decide +kernel
noncomputable def nQ : List Nat := [92, 116, 184, 232]
theorem uq : ((vZ 4).all λ bs => nQ.any λ v => vY (ofW 8 v) (kY (3 - 1) bs)) = true := by decide +kernel
noncomputable def wu : List Nat := [19832, 20312, 21368, 21464, 23016, 23160, 24168, 24216, 26088, 27000, 27592, 28456, 31080, 31320, 31432, 31528, 39664, 40624, 42736, 42928, 46032, 46320, 48336, 48432, 52176, 54000, 55184, 56912, 62160, 62640, 62864, 63056]
theorem abb : ((vZ 8).all λ bs => wu.any λ v => vY (ofW 16 v) (kY (4 - 1) bs)) = true := by decide +kernel
noncomputable def j0 (wd : Nat) (T : List Nat) (i : Nat) : List Nat := (T.drop (i * wd)).take wd
noncomputable def oA (n : Nat) (T : List Nat) : Int := Txt.find (aD T) (Txt.mul (ofString "f") (n : Int))
noncomputable def xr (n : Nat) (T : List Nat) : List Nat := ((T.drop (oA n T).toNat).take (2 ^ n)).map λ c => if c = 102 then 32 else 9
noncomputable def eH (n wd : Nat) (codes : List Nat) : Bool :=
 codes.all (λ c => c == 102 || c == 105) && Nat.beq codes.length (2 ^ n) && Nat.beq (dO wd codes).length (wd * 2 ^ n) &&
 bw wd (dO wd codes) == (List.range (2 ^ n)).map (j0 wd (dO wd codes)) && (bw wd (dO wd codes)).flatten == dO wd codes && (bw wd (dO wd codes)).all (λ r => Nat.beq r.length wd && r.all λ c => c == 102 || c == 105) &&
 ((bw wd (dO wd codes)).map λ r => r.take n).isPerm (aK n) && decide (0 <= oA n (dO wd codes)) && Nat.ble ((oA n (dO wd codes)).toNat + 2 ^ n) (dO wd codes).length && decide (jn (xr n (dO wd codes)) = dC n)
theorem ady : (nP.all λ v => eH 2 3 (ofW 4 v)) = true := by decide +kernel
theorem adz : (nP.all λ v => eH 2 5 (ofW 4 v)) = true := by decide +kernel
theorem adA : (nQ.all λ v => eH 3 3 (ofW 8 v)) = true := by decide +kernel
theorem adB : (nQ.all λ v => eH 3 5 (ofW 8 v)) = true := by decide +kernel
theorem adC : (wu.all λ v => eH 4 5 (ofW 16 v)) = true := by decide +kernel
theorem gF (n wd : Nat) (l : List Nat) (k m : Nat) (bs : List Bool) (hb : bs.length = m) (a : ((vZ m).all λ bs => l.any λ v => vY (ofW k v) (kY (n - 1) bs)) = true) (b : (l.all λ v => eH n wd (ofW k v)) = true) : eH n wd (kY (n - 1) bs) = true := by
 subst hb;obtain ⟨v, hv, e⟩ := List.any_eq_true.mp (List.all_eq_true.mp a bs (ul bs));rw [<- fL.mp e];exact List.all_eq_true.mp b v hv
theorem zB {n wd : Nat} (h2 : 2 <= n) (h4 : n <= 4) (hw : wd = 3 \/ wd = 5) (hw4 : n = 4 -> wd = 5) (bs : List Bool) (hb : bs.length = 2 ^ (n - 1)) : eH n wd (kY (n - 1) bs) = true := by
 tm_at "bd";rcases this with rfl | rfl | rfl
 · rcases hw with rfl | rfl
   · exact gF 2 3 nP 4 2 bs (by simpa using hb) uo ady
   · exact gF 2 5 nP 4 2 bs (by simpa using hb) uo adz
 · rcases hw with rfl | rfl
   · exact gF 3 3 nQ 8 4 bs (by simpa using hb) uq adA
   · exact gF 3 5 nQ 8 4 bs (by simpa using hb) uq adB
 · rw [hw4 rfl]
   exact gF 4 5 wu 16 8 bs (by simpa using hb) abb adC
end
section
set_option tactic.hygienic false
open PySem.Spec
structure dD (n wd : Nat) (codes : List Nat) : Prop where
 fi : ∀ c ∈ codes, c = 102 \/ c = 105
 len : codes.length = 2 ^ n
 tlen : (dO wd codes).length = wd * 2 ^ n
 rows : bw wd (dO wd codes) = (List.range (2 ^ n)).map (j0 wd (dO wd codes))
 flat : (bw wd (dO wd codes)).flatten = dO wd codes
 row : ∀ r ∈ bw wd (dO wd codes), r.length = wd /\ ∀ c ∈ r, c = 102 \/ c = 105
 perm : ((bw wd (dO wd codes)).map λ r => r.take n).Perm (aK n)
 at0 : 0 <= oA n (dO wd codes)
 att : (oA n (dO wd codes)).toNat + 2 ^ n <= (dO wd codes).length
 ws : jn (xr n (dO wd codes)) = dC n
theorem adD {n wd : Nat} (h : eH n wd codes = true) : dD n wd codes := by
 unfold eH at h;simp only [Bool.and_eq_true] at h;obtain ⟨⟨⟨⟨⟨⟨⟨⟨⟨h1, h2⟩, h3⟩, h4⟩, h5⟩, h6⟩, h7⟩, h8⟩, h9⟩, h10⟩ := h;refine ⟨?_, Nat.eq_of_beq_eq_true h2, Nat.eq_of_beq_eq_true h3, eq_of_beq h4, eq_of_beq h5, ?_, List.isPerm_iff.mp h7, of_decide_eq_true h8, Nat.le_of_ble_eq_true h9, of_decide_eq_true h10⟩
 · intro c hc
   have := List.all_eq_true.mp h1 c hc
   simpa using this
 · intro r hr
   have := List.all_eq_true.mp h6 r hr;rw [Bool.and_eq_true] at this;refine ⟨Nat.eq_of_beq_eq_true this.1, λ c hc => ?_⟩;have := List.all_eq_true.mp this.2 c hc
   simpa using this
theorem jA {n : Nat} (h4 : n <= 4) : 2 ^ n <= 16 := Nat.le_trans (Nat.pow_le_pow_right (by decide) h4) (by decide)
section
variable {n wd : Nat}
theorem dD.tl (h : dD n wd codes) (h4 : n <= 4) (hw : wd = 3 \/ wd = 5) : (dO wd codes).length <= 80 := by
 rw [h.tlen];exact Nat.le_trans (Nat.mul_le_mul (show wd <= 5 by lia) (jA h4)) (by decide)
theorem dD.tr (h : dD n wd codes) (hr : ring.cps.toList = codes) : trS ring wd = aD (dO wd codes) := lH (o9 hr)
theorem dD.chunk (h : dD n wd codes) (hr : ring.cps.toList = codes) (hw : wd = 3 \/ wd = 5) {i : Nat} (hi : i < 2 ^ n) : jy ring wd i = aR (j0 wd (dO wd codes) i) := by
 have hm : j0 wd (dO wd codes) i ∈ bw wd (dO wd codes) := by rw [h.rows]; exact List.mem_map_of_mem (List.mem_range.mpr hi)
 have hl := (h.row _ hm).1;unfold jy;have e : Txt.slice (trS ring wd) (some (0 + (i : Int) * (wd : Int))) (some (0 + (i : Int) * (wd : Int) + (wd : Int))) = aD (j0 wd (dO wd codes) i) := by
   rw [h.tr hr, show (0 + (i : Int) * (wd : Int)) = ((i * wd : Nat) : Int) from by simp, show ((i * wd : Nat) : Int) + (wd : Int) = ((i * wd + wd : Nat) : Int) from by simp, iQ _ (Nat.le_add_right _ _) ?_]
   · rw [Nat.add_sub_cancel_left]; simp [j0]
   · rw [dR, h.tlen]
     have : (i + 1) * wd <= 2 ^ n * wd := Nat.mul_le_mul_right _ hi;rw [Nat.add_mul, Nat.one_mul, Nat.mul_comm (2 ^ n)] at this;exact this
 rw [e];refine wi λ k => ?_
 rw [k] at hl;simp at hl; lia
theorem dD.page (h : dD n wd codes) (hr : ring.cps.toList = codes) (hw : wd = 3 \/ wd = 5) : (List.range codes.length).map (jy ring wd) = (bw wd (dO wd codes)).map aR := by
 rw [h.len, h.rows, List.map_map];exact List.map_congr_left λ i hi => h.chunk hr hw (List.mem_range.mp hi)
theorem dD.cnt (h : dD n wd codes) : (bw wd (dO wd codes)).length = 2 ^ n := by rw [h.rows, List.length_map, List.length_range]
theorem dD.texts (h : dD n wd codes) (hw : wd = 3 \/ wd = 5) (h4 : n <= 4) : (((bw wd (dO wd codes)).map aR).map (·.length)).sum <= 160 := by
 have : ∀ l : List (List Nat), (∀ r ∈ l, r.length <= 5) -> ((l.map aR).map (·.length)).sum <= 10 * l.length := by
   intro l hl
   induction l with
   | nil => exact Nat.le_refl _
   | cons a r ih =>
     rw [List.map_cons, List.map_cons, List.sum_cons, List.length_cons, gA];have := hl a (.head _);have := ih λ x hx => hl x (.tail _ hx)
     lia
 have h1 := this _ (λ r hr => by have := (h.row r hr).1; lia);rw [h.cnt] at h1;have := jA h4;lia
theorem dD.plen (h : dD n wd codes) (hw : wd = 3 \/ wd = 5) (h4 : n <= 4) : (xg wd codes).length <= 200 := by
 tm_at "bD";unfold xg;rw [e];have h1 := uc 10 ((bw wd (dO wd codes)).map aR);have h2 := h.texts hw h4;rw [List.length_map, h.cnt] at h1;have := jA h4;exact Nat.le_trans h1 (by lia)
theorem dD.pg (h : dD n wd codes) (hr : ring.cps.toList = codes) (hw : wd = 3 \/ wd = 5) (h4 : n <= 4) : aO ring codes wd where
 cps := hr
 fi := h.fi
 pos := by rw [h.len]; exact Nat.pow_pos (by decide)
 len := by rw [h.len]; exact jA h4
 wd := by lia
 mul := mulOk_of 16 1048576 (by rw [show ring.length = codes.length from by rw [<- hr]; simp [Str.length], h.len]; exact jA h4) (by lia) (by lia) (by decide) (by decide)
 tlen := by rw [h.tr hr, dR, h.tlen, h.len]
 rows := by rw [h.page hr hw]; rfl
 join := by
   rw [h.page hr hw, List.length_map, h.cnt];have h1 := h.texts hw h4;have h2 := jA h4;have e : (ofString "\n").length = 1 := by decide +kernel
   rw [e]; lia
theorem nR : ∀ n ∈ [2, 3, 4], (∀ a ∈ aK n, a.length = n) /\ (aW n).Pairwise (λ a b => ltCps b.cps.toList a.cps.toList = false) /\ ∀ x ∈ aW n, PyData.strOk x = true := by decide +kernel
theorem kZ : ∀ (l : List Str) (p : Str), risingS p l = true -> (∀ x ∈ l, ltCps x.cps.toList p.cps.toList = false) /\ l.Pairwise (λ a b => ltCps b.cps.toList a.cps.toList = false)
 | [], _, _ => ⟨λ _ h => absurd h List.not_mem_nil, .nil⟩
 | x :: r, p, h => by
   have h' : (!ltCps x.cps.toList p.cps.toList && risingS x r) = true := h;rw [Bool.and_eq_true, Bool.not_eq_true'] at h';obtain ⟨k1, k2⟩ := kZ r x h'.2;refine ⟨λ y hy => ?_, List.pairwise_cons.mpr ⟨k1, k2⟩⟩;rcases List.mem_cons.mp hy with rfl | hy
   · exact h'.1
   · have a := k1 y hy
     have b := h'.1;rw [ltCps_eq] at a b ⊢;exact decide_eq_false (List.le_trans (of_decide_eq_false b : p.cps.toList <= x.cps.toList) (of_decide_eq_false a : x.cps.toList <= y.cps.toList))
theorem ur {l : List Str} (h : sortedS l = true) : l.Pairwise (λ a b => ltCps b.cps.toList a.cps.toList = false) := by
 cases l with
 | nil => exact .nil
 | cons x r =>
   have := kZ r x h;exact List.pairwise_cons.mpr this
theorem dD.heads (h : dD n wd codes) (h2 : 2 <= n) (h4 : n <= 4) (hw : wd = 3 \/ wd = 5) (hw4 : n = 4 -> wd = 5) : ((bw wd (dO wd codes)).map (kW n)).Perm (aW n) := by
 rw [dG];have e : (bw wd (dO wd codes)).map (kW n) = ((bw wd (dO wd codes)).map λ r => r.take n).map aD := by
   rw [List.map_map];refine List.map_congr_left λ r hr => zz ?_
   have := (h.row r hr).1;rw [this]; lia
 rw [e];exact h.perm.map aD
theorem dD.rw (h : dD n wd codes) (h2 : 2 <= n) (h4 : n <= 4) (hw : wd = 3 \/ wd = 5) (hw4 : n = 4 -> wd = 5) : aV codes wd n (bw wd (dO wd codes)) where
 n4 := h4
 plen := Nat.le_trans (h.plen hw h4) (by decide)
 rlen := by
   have h1 := h.plen hw h4;have e2 : ofString ";" = ⟨#[59]⟩ := by decide +kernel
   have e3 : ofString "" = ⟨#[]⟩ := by decide +kernel
   have h3 : (rpS wd codes).cps.toList.length <= (xg wd codes).cps.toList.length := by
     unfold rpS;rw [e2, e3, replace_strikes];exact List.length_filter_le _ _
   have a : ∀ x : Str, x.cps.toList.length = x.length := λ x => by simp [Str.length]
   rw [a, a] at h3;lia
 sp := by
   tm_at "bD";rw [afY (λ r hr => (h.row r hr).2), e];refine vg ?_ ?_
   · intro k
     have := congrArg List.length k;rw [List.length_map, h.cnt] at this;exact absurd this (Nat.ne_of_gt (Nat.pow_pos (by decide)))
   · intro x hx hc
     obtain ⟨r, hr, rfl⟩ := List.mem_map.mp hx;have := (h.row r hr).2 10 (by simpa using hc);revert this; decide
 cnt := by rw [h.cnt]; exact jA h4
 row := λ r hr => by have := (h.row r hr).1; lia
 srt := λ zs hp hs => by
   have hz := hp.trans (h.heads h2 h4 hw hw4);refine List.Perm.eq_of_pairwise (le := λ a b => ltCps b.cps.toList a.cps.toList = false) (λ a b _ _ p q => ?_) (ur hs) (nR n (by simp; lia)).2.1 hz;rw [ltCps_eq] at p q;exact jz (List.le_antisymm (of_decide_eq_false p : a.cps.toList <= b.cps.toList) (of_decide_eq_false q : b.cps.toList <= a.cps.toList))
 ok := (nR n (by simp; lia)).2.2
theorem dD.mk' (h : dD n wd codes) (h2 : 2 <= n) (h4 : n <= 4) (hw : wd = 3 \/ wd = 5) : aG n (bw wd (dO wd codes)) (aD (dO wd codes)) (oA n (dO wd codes)).toNat (aD (((dO wd codes).drop (oA n (dO wd codes)).toNat).take (2 ^ n))) (xr n (dO wd codes)) where
 n4 := ⟨h2, h4⟩
 jok := by
   tm_at "a6";rw [adx, h.flat, e];have := h.tl h4 hw;lia
 wh := by rw [zA, h.flat]
 wl := by rw [dR]; have := h.tl h4 hw; lia
 fd := by
   have := h.at0;show oA n (dO wd codes) = _;lia
 sl := by
   have e : ((oA n (dO wd codes)).toNat : Int) + 2 ^ ((n : Int)).toNat = (((oA n (dO wd codes)).toNat + 2 ^ n : Nat) : Int) := by
     rw [Int.toNat_natCast]; simp
   rw [e, iQ _ (Nat.le_add_right _ _) (by rw [dR]; exact h.att), Nat.add_sub_cancel_left]
 winl := by
   rw [dR, List.length_take];exact Nat.le_trans (Nat.min_le_left _ _) (jA h4)
 mks := by
   rw [List.toList_toArray, wj]; rfl
 wt := λ y hy => by
   obtain ⟨c, _, rfl⟩ := List.mem_map.mp hy;unfold bY
   by_cases k : c = 102
   · rw [if_pos k]; exact .inl rfl
   · rw [if_neg k]; exact .inr rfl
 ll := by
   unfold xr;rw [List.length_map, List.length_take];exact Nat.le_trans (Nat.min_le_left _ _) (jA h4)
 ws := h.ws
end
end
section
open PySem.Spec
noncomputable def gG (p : Str × Str) : Bool := vY ((p.1.cps.toList.filter λ (c : Nat) => !fU c).flatMap λ c => (cB c).cps.toList) p.2.cps.toList
theorem zE : (cU.all λ b => gG (⟨#[(b + 5).toNat]⟩, ofString "f") && gG (⟨#[(b + 8).toNat]⟩, ofString "i")) = true := by decide +kernel
theorem zF : (cN.all λ v => gG (⟨#[v.toNat]⟩ ++ ofString "i", ofString "i")) = true := by decide +kernel
theorem abd : ((List.range 32).all λ k => gG (⟨#[(1040 + (k : Int)).toNat]⟩, ⟨#[(1072 + (k : Int)).toNat]⟩)) = true := by decide +kernel
theorem il : gG (ofString "ﬀ", ofString "ff") = true /\ gG (ofString "ﬁ", ofString "fi") = true /\ gG (ofString "ﬃ", ofString "ffi") = true /\ gG (ofString "ẞ", ofString "ß") = true := by decide +kernel
theorem abe {l : List Int} (h0 : 0 <= z) (h : z < l.length) : l.getD z.toNat 0 ∈ l := by
 have hz : z.toNat < l.length := by lia
 rw [List.getD_eq_getElem?_getD, List.getElem?_eq_getElem hz];exact List.getElem_mem hz
theorem abf (n j : Nat) : bj n j ∈ fJ n j := by
 unfold bj;have h0 := Int.fmod_nonneg_of_pos (bkP n j) (by decide : (0 : Int) < 6);have h1 := Int.fmod_lt_of_pos (bkP n j) (by decide : (0 : Int) < 6);have hz : (Int.fmod (bkP n j) 6).toNat < (fJ n j).length := by show _ < 6; lia
 rw [List.getD_eq_getElem?_getD, List.getElem?_eq_getElem hz];exact List.getElem_mem hz
theorem pM (n j : Nat) : gG (bj n j) = true /\ 1 <= (bj n j).2.length := by
 have hb : vL n j ∈ cU := abe (Int.fmod_nonneg_of_pos _ (by decide)) (by rw [kO]; exact Int.fmod_lt_of_pos _ (by decide));have hv : aaR n j ∈ cN := abe (Int.fmod_nonneg_of_pos _ (by decide)) (by rw [jx]; exact Int.fmod_lt_of_pos _ (by decide));have gb := List.all_eq_true.mp zE _ hb;have gv := List.all_eq_true.mp zF _ hv;rw [Bool.and_eq_true] at gb;have key : ∀ p ∈ fJ n j, gG p = true /\ 1 <= p.2.length := by
   unfold fJ;intro p hp;simp only [List.mem_cons, List.not_mem_nil, or_false] at hp;rcases hp with rfl | rfl | rfl | rfl | rfl | rfl
   · exact ⟨gb.1, (by decide +kernel : 1 <= (ofString "f").length)⟩
   · exact ⟨gb.2, (by decide +kernel : 1 <= (ofString "i").length)⟩
   · exact ⟨il.1, by decide +kernel⟩
   · exact ⟨il.2.1, by decide +kernel⟩
   · exact ⟨il.2.2.1, by decide +kernel⟩
   · exact ⟨gv, (by decide +kernel : 1 <= (ofString "i").length)⟩
 exact key _ (abf n j)
theorem nT (n : Nat) : ∀ p ∈ iz n, gG p = true /\ p.1.length <= 3 /\ p.2.length <= 3 := by
 intro p hp;unfold iz at hp;tm_at "aU"
 · rcases List.mem_append.mp hp with hp | hp
   · obtain ⟨j, _, rfl⟩ := List.mem_map.mp hp
     exact ⟨(pM n j).1, iJ n j⟩
   · rw [List.mem_singleton.mp hp]
     have e : Int.fmod (n : Int) 32 = ((n % 32 : Nat) : Int) := by rw [Int.fmod_eq_emod_of_nonneg _ (by decide)]; rfl
     have := List.all_eq_true.mp abd (n % 32) (List.mem_range.mpr (Nat.mod_lt _ (by decide)));rw [e];exact ⟨this, (by decide : 1 <= 3), (by decide : 1 <= 3)⟩
 · rw [List.mem_singleton.mp hp]
   exact ⟨il.2.2.2, by decide +kernel, by decide +kernel⟩
theorem gH (f : Str × Str -> Str) (l : List (Str × Str)) : (Txt.join (ofString "") (l.map f)).cps.toList = l.flatMap λ p => (f p).cps.toList := by
 rw [um, List.map_map]; rfl
theorem pN (n : Nat) : ((qU n).cps.toList.filter λ (c : Nat) => !fU c).flatMap (λ c => (cB c).cps.toList) = (qM n).cps.toList := by
 unfold qU qM;rw [gH, gH];have h := nT n;generalize iz n = l at h
 induction l with
 | nil => rfl
 | cons p r ih =>
   rw [List.flatMap_cons, List.flatMap_cons, List.filter_append, List.flatMap_append, ih λ q hq => h q (.tail _ hq), fL.mp (h p (.head _)).1]
theorem dI (x : Str) : x.cps.toList.length = x.length := by simp [Str.length]
theorem uw (f : Str × Str -> Str) (l : List (Str × Str)) (h : ∀ p ∈ l, (f p).length <= 3) : (l.flatMap λ p => (f p).cps.toList).length <= 3 * l.length := by
 induction l with
 | nil => exact Nat.le_refl _
 | cons p r ih =>
   rw [List.flatMap_cons, List.length_append, List.length_cons, dI];have := h p (.head _);have := ih λ q hq => h q (.tail _ hq)
   lia
theorem xu (n : Nat) : (iz n).length = 10 := by
 unfold iz;rw [List.length_append, List.length_append, List.length_map, List.length_range]; rfl
theorem adE (n : Nat) : (qU n).length <= 30 := by
 rw [<- dI];unfold qU;rw [gH];have := uw (λ p => p.1) (iz n) λ p hp => (nT n p hp).2.1
 rw [xu] at this;exact this
theorem xx (n : Nat) : (qM n).length <= 30 := by
 rw [<- dI];unfold qM;rw [gH];have := uw (λ p => p.2) (iz n) λ p hp => (nT n p hp).2.2
 rw [xu] at this;exact this
theorem afZ (n : Nat) : 8 <= (qM n).cps.toList.length := by
 unfold qM;rw [gH];unfold iz;rw [List.append_assoc, List.flatMap_append, List.length_append];have : ∀ l : List Nat, l.length <= ((l.map (bj n)).flatMap λ p => p.2.cps.toList).length := by
   intro l
   induction l with
   | nil => exact Nat.le_refl _
   | cons a r ih =>
     rw [List.map_cons, List.flatMap_cons, List.length_append, List.length_cons, dI];have := (pM n a).2;lia
 have := this (List.range 8);rw [List.length_range] at this;lia
theorem zG (n : Nat) : Txt.join (ofString "") (List.map cB (List.filter (λ (c : Nat) => !fU c) (qU n).cps.toList)) = qM n := by
 apply jz;rw [um, List.map_map, <- pN]; rfl
theorem abg (n : Nat) : ((List.map cB (List.filter (λ (c : Nat) => !fU c) (qU n).cps.toList)).map (·.length)).sum + (List.map cB (List.filter (λ (c : Nat) => !fU c) (qU n).cps.toList)).length * (ofString "").length <= 16777216 := by
 tm_at "a6";have h : ∀ l : List Nat, ((l.map cB).map (·.length)).sum = (l.flatMap λ c => (cB c).cps.toList).length := by
   intro l
   induction l with
   | nil => rfl
   | cons a r ih => rw [List.map_cons, List.map_cons, List.sum_cons, ih, List.flatMap_cons, List.length_append, dI]
 rw [h, pN, e, dI];have := xx n;lia
theorem ww : ∀ x, x < 1000000000000 -> fj x (2 + x % 3) := by
 intro x _;have h3 : x % 3 < 3 := Nat.mod_lt _ (by decide);generalize hn : 2 + x % 3 = n;have h2 : 2 <= n := by lia
 have h4 : n <= 4 := by lia
 have hw : (aK (n - 1)).length = 2 ^ (n - 1) := by
   have : ∀ k ∈ [1, 2, 3], (aK k).length = 2 ^ k := by decide +kernel
   exact this (n - 1) (by simp; lia)
 refine ⟨h2, h4, zG _, abg _, Nat.lt_of_le_of_lt (adE _) (by decide), Nat.le_trans (xx _) (by decide), ?_, ?_⟩
 · have := afZ (x / 6)
   rw [hw];exact Nat.le_trans (Nat.pow_le_pow_right (by decide) (Nat.sub_le_sub_right h4 1)) this
 · intro wd hwd hw4
   have hc : dD n wd (kJ (qM (x / 6)).cps.toList (n - 1)).cps.toList := by
     rw [v8, hw];exact adD (zB h2 h4 hwd hw4 _ (by unfold iM; rw [List.length_map, List.length_range]))
   exact ⟨_, _, _, _, _, hc.pg rfl hwd h4, hc.rw h2 h4 hwd hw4, hc.mk' h2 h4 hwd⟩
end
end
section
variable {w : World} {L : Addr} {m : Str -> Option Value} {s : Shared} {mean : ExcName -> Option Value} {gO : Heap} {mg mb : Str -> Option Value} {p : Program} {loose : List Str} {E : Value -> Shared -> Prop} {ccd : Value} {a : Addr} {dp un : Nat} {gd : Option (List Code)} {cn : Str} {nms : List (Str × NameKind)} {ig ic : Bool} {mo : List (Str × Const)} {cl : List (Str × Addr)} {outer : List Env} {base : Heap} {gV : Around} {n : Nat} {Q : Value -> Shared -> Prop} {x fa : Addr} {R led : List (Addr × Obj)} {tt : Tok} {oa dx : Addr} {top : Nat} {es : List DictEntry} {ne : Nat} {oL oS : Obj} {la : Addr} {tz : Tok} {o3 : Obj} {l : List aL} {r : List (Addr × Obj)} {j : Nat} {na : Addr} {news : List (Addr × Obj)} {z : Int} {r1 : List (Addr × Obj)} {tn tk : Tok} {kl : Nat} {t3 : Tok} {o6 : Obj} {hs : Int} {tk0 : Tok} {r2 : List (Addr × Obj)} {t : Tok} {o4 : Obj} {mk dmk ln : Addr} {ls : List Value} {r3 r4 : List (Addr × Obj)} {tw : Tok} {kn : Nat} {nv : List Value} {x0 x1 : Addr} {c : Nat} {ov : List Value} {ko : Nat} {o5 : Obj} {q : aL} {wd : Int} {lead : List Nat} {y : Addr} {q9 : Ws} {h : Heap} {wn : Nat} {vs : List Value} {o7 o8 : Obj} {t1 : Tok} {ca : Addr} {tx : Str} {W : List (Addr × Obj)} {tr : Tok} {codes : List Nat} {k0 : Nat} {ns : List Int} {n0 n1 : Nat} {A : Around} {cd : List Nat} {V : List (Addr × Obj)} {tsp tf tp : Tok} {sa : Addr} {o1 o2 : Obj} {v3 v4 v5 v6 : Option Value} {s2 : Str} {g : Obj -> List (Addr × Obj)} {fs ps ring : Str} {L0 : Addr} {book : Str} {bk : List Nat} {rws : List (List Nat)} {t2 : Tok} {d : Addr} {kk : Nat} {tS tT : Tok} {xs : List Str} {sep : Str} {kb : Nat} {bv lv : List Value} {t0 : Tok} {cv : List Value} {kc : Nat} {ba : Addr}
local macro_rules | `(tactic| k_lt $h) => `(tactic| (revert $h; k_extra "klt"; intro $h:ident))
section
open PySem.Spec PySem.Calls
theorem ah0 (w : World) (p : Program) (loose : List Str) (mean : ExcName -> Option Value) (mg mb : Str -> Option Value) (hdummy : rw1 = rw1) : ∀ (dp un : Nat) (gd : Option (List Code)) (cn : Str) (nms : List (Str × NameKind)) (ig ic : Bool) {mo : List (Str × Const)} (a : Addr) (ccd : Value) (cl : List (Str × Addr)) (outer : List Env) (gV : Around) (base gO : Heap) (L : Addr) (m : Str -> Option Value) (s : Shared) (Q E : Value -> Shared -> Prop) (x dx : Addr) (es : List DictEntry) (ne n : Nat) (l : List aL) (sl : Array (Option Value)) (z : Int) (tz : Tok) (news : List (Addr × Obj)) (g : Obj -> List (Addr × Obj)) (oP : Obj), Below gV base outer gO -> Fr gO L s.heap m -> (K1 w.params).In gO -> News gO L s.heap news -> (x, (⟨.ref 178, some dx, .seq (refs l).toArray n, sl⟩ : Obj)) ∈ news -> (dx, dictOf es ne) ∈ news -> getL "_initial_size" es = some (some (.int z tz)) -> AllIn l news -> (∀ q ∈ l, wide q < 1000000) -> UpdF 140 oP news g -> ao 93 19 oP -> AllBare s.gens -> Top p loose mean mg mb gO -> dp + 10 < recursionLimit -> un + 80 < cLine -> (∀ s' t' oP', Fr gO L s'.heap m -> News gO L s'.heap (g oP') -> ao 93 19 oP' -> AllBare s'.gens -> s'.os = s.os -> Q (.int (z + bz l) t') s') -> wpAny (model rw_rw0126_02.row.prog w) (ktrTop dp un gd cn ⟨.function, nms, ig, ic, mo⟩ L a ccd cl outer) (call (.ref 145) [.ref x]) Q E s := by
 w_top off
 k_with "chain1" => first | with_reducible assumption | (with_reducible first | exact lU _ (by tm_at "h") | exact gf _) | exact acJ (by tm_at "h") rfl | exact jK _ (by tm_at "h") rfl
 k_with "chain" => (focus ((with_reducible show @LT.lt Nat _ _ _); (first | tm_at "chain1" | (refine Nat.lt_trans ?_ (by tm_at "h"); (first | tm_at "chain1" | (refine Nat.lt_trans ?_ (by tm_at "h"); (first | tm_at "chain1" | (refine Nat.lt_trans ?_ (by tm_at "h"); (first | tm_at "chain1" | (refine Nat.lt_trans ?_ (by tm_at "h"); (first | tm_at "chain1" | (refine Nat.lt_trans ?_ (by tm_at "h"); tm_at "chain1"))))))))))))
 k_with "om" => first | (with_reducible first | exact Nat.ne_of_lt (by tm_at "h") | exact Nat.ne_of_gt (by tm_at "h") | exact lO _ (by tm_at "h") | exact lQ _ (by tm_at "h") | exact gU _ | exact eV _) | exact Nat.ne_of_beq_eq_false rfl | (tm_at "chain") | (refine Nat.ne_of_gt ?_; tm_at "chain") | (refine Nat.ne_of_lt ?_; tm_at "chain") | with_reducible assumption | exact Ne.symm (by tm_at "h") | exact Nat.lt_of_lt_of_le (by tm_at "h") (by decide) | exact Nat.le_of_lt (Nat.lt_of_lt_of_le (by tm_at "h") (by decide)) | ((repeat (with_reducible rename (_ ≠ _) => hom9; clear hom9)); lia) | lia
 k_with "bO" => ktr_room
 k_with "bP" => ktr_units
 k_with "da" => first | tm_at "qinst" | (refine' bx ?Am ?An ?Ao; (case Am => k_asm); (case An | Ao => tm_at "!k_mem"))
 k_with "bh" => (k_here; k_dflt (refine' xZ ?Ap ?Aq ?Ar ?As ?At ?Au ?Av ?Aw ?Ax ?Ay ?Az ?_; (case Ap | Aq => k_asm); (case Ar => k_inst); (case As | At | Au | Av | Aw | Ax => k_is); (case Ay => tm_at "ae"); (case Az => k_handed); k_whole))
 k_with "bm" => (k_here; k_dflt (first | (refine' aad ?AA ?AB ?AC ?AD ?AE ?AF ?AG ?AH ?_; (case AA | AB => k_asm); (case AC => k_inst); (case AD | AE | AF | AG => k_is); (case AH => tm_at "ae"); k_whole) | (refine' aae ?AA ?AB ?AC ?AD ?AE ?AF ?AG ?AH ?_; (case AA | AB => k_asm); (case AC => k_inst); (case AD | AE | AF => k_is); (case AG => first | exact PySem.F.type_list_append | exact PySem.F.type_list_pop); (case AH => tm_at "ae"); k_whole)))
 k_with "db" => (k_here; (with_reducible show wpAny _ _ (call (Value.builtin _) [Value.ref _, _]) _ _ _); k_dflt (refine' yd ?AI ?AJ ?AK ?AL ?AM ?AN ?_ ?AO; (case AI | AJ | AK => k_asm); (case AL => k_updF); (case AM => k_mem); (case AN => k_is); (case AO => size_fits); k_whole); intro h' F' N'; (try dsimp only at N'); (try k_sweep))
 k_with "klt" => (intro klt9; ((try replace klt9 := PySem.W.allLt_of klt9); repeat (first | (refine aiD klt9 ?_; clear klt9; intro _ _ _ _ _ _ klt9) | (refine aiJ klt9 ?_; clear klt9; intro _ _ _ _ _ _ klt9) | (refine aiC klt9 ?_; clear klt9; intro _ _ _ _ _ klt9) | (refine aiI klt9 ?_; clear klt9; intro _ _ _ _ _ klt9) | (refine aiB klt9 ?_; clear klt9; intro _ _ _ _ klt9) | (refine aiH klt9 ?_; clear klt9; intro _ _ _ _ klt9) | (refine aiA klt9 ?_; clear klt9; intro _ _ _ klt9) | (refine aiG klt9 ?_; clear klt9; intro _ _ _ klt9) | (refine aiz klt9 ?_; clear klt9; intro _ _ klt9) | (refine aiF klt9 ?_; clear klt9; intro _ _ klt9) | (refine aiy klt9 ?_; clear klt9; intro _ klt9) | (refine aiE klt9 ?_; clear klt9; intro _ klt9))); revert klt9)
 k_with "aJ" => first | with_reducible assumption | exact aH (by tm_at "h")
 k_with "bn" => (k_here; ks_any; k_dflt (refine' uJ ?AP ?AQ ?AR ?AS ?AT ?AU ?AV ?AW ?AX ?AY ?_; (case AQ | AR | AS => k_asm); (case AT => k_mem); (case AU => k_inst); (case AV => k_is); (case AW => ks_is); (case AP => first | exact uH | exact uI | exact rG); (case AX => k_is); (case AY => decide)); intro q' h' F' N' l1; (try k_lt l1))
 k_with "aW" => (k_here; (with_reducible show wpAny _ _ (callWith _ (Value.ref _) _ (backTo _ (starEach [] _)) []) _ _ _); (fail_if_success (with_reducible show wpAny _ _ (callWith _ (Value.ref (@OfNat.ofNat Nat _ _)) _ _ _) _ _ _)); k_dflt (refine' rH ?AZ ?B0 ?B1 ?_; (case AZ => k_asm); (case B0 => k_mem); (case B1 => decide); k_whole); (try dsimp only [List.nil_append]))
 k_with "ad" => (k_here; (tm_at "bG"); k_dflt (refine' uL ?B2 ?B3 ?B4 ?_ ?B5; (case B2 => k_asm); (case B3 | B4 => k_mem); (case B5 => size_fits); k_whole))
 k_with "ac" => (k_here; (tm_at "bG"); k_dflt (refine' rK ?B6 ?B7 ?B8 ?B9 ?Ba ?Bb ?Bc ?Bd ?Be ?Bf ?_ ?Bg; (case B6 | B7 | B8 => k_asm); (case B9 => k_mem); (case Ba => k_updF); (case Bb => k_mem); (case Bc | Bd | Be => k_is); (case Bf => decide +kernel); (case Bg => size_fits); k_whole); intro h' F' N'; (try dsimp only at N'); (try k_sweep))
 k_with "dc" => first | with_reducible assumption | exact uN (by tm_at "h") _
 k_with "dd" => first | ((with_reducible (tm_at "bA")); done) | exact bC (by tm_at "h") | exact rJ (by tm_at "h") (by tm_at "h") (by k_ne) _ | exact List.Mem.head _ | (refine' gR ?_; k_mem)
 k_with "cK" => ((try dsimp only); first | with_reducible assumption | exact Ne.symm (by tm_at "h") | exact aag (by tm_at "h") (by tm_at "a4") | exact aah (by tm_at "h") (by tm_at "a4") | (refine neN ?_; (try dsimp only); tm_at "om"))
 k_with "de" => (k_here; (with_reducible show wpAny _ _ (eval (Expr.Name _ _) (genEnv _ _ _ _ _ _)) _ _ _); first | (k_dflt (refine' ldVarG ?Bh ?Bi ?_; (case Bh => k_asm); (case Bi => assumption))) | (k_dflt (refine' acM ?Bh ?Bi ?Bj rfl ?Bk ?Bl ?Bm ?_ (by rfl) (by rfl) (by decide); (case Bh | Bi | Bj => k_asm); (case Bk => k_is); (case Bl => first | boot_by_name | rfl | kernel_rfl); (case Bm => decide))) | (k_dflt (refine' acN ?Bh ?Bi ?Bj rfl ?Bk ?_ (by rfl) (by rfl) (by decide); (case Bh | Bi | Bj => k_asm); (case Bk => k_is))))
 k_with "k_room" => first | tm_at "bO" | tm_at "miss"
 k_with "k_units" => first | tm_at "bP" | tm_at "miss"
 k_with "k_inst" => first | tm_at "da" | tm_at "miss"
 k_with "W getAttr ref" => first | tm_at "bh" | tm_at "miss"
 k_with "W getMethod ref" => first | tm_at "APPM" | tm_at "bm" | tm_at "bn" | tm_at "miss"
 k_with "W call builtin:list.append" => first | tm_at "APK" | tm_at "db" | tm_at "miss"
 k_with "k_all" => first | tm_at "aJ" | tm_at "miss"
 k_with "W callWith ref" => first | tm_at "aW" | tm_at "miss"
 k_with "W call ref" => tm_at "ak"
 k_with "k_updF" => first | tm_at "dc" | tm_at "miss"
 k_with "k_mem" => first | tm_at "dd" | tm_at "miss"
 k_with "k_ne" => first | tm_at "cK" | tm_at "miss"
 k_with "W eval Name" => first | tm_at "de" | tm_at "miss"
 k_fill
 intro dp un gd cn nms ig ic mo a ccd cl outer gV base gO L m s Q E x dx es ne n l sl z tz news g oP B F X N hx hdx hz hall hw U htab G T hd hu hret;tm_at "ce";tm_at "b5";have hall2 : ∀ t ∈ l.map (λ q => (q.a, Value.str q.f q.tf, Value.str q.p q.tp)), (t.1, bf t.2.1 t.2.2) ∈ news := by
   intro t ht;obtain ⟨q, hq, rfl⟩ := List.mem_map.mp ht;exact hall.get q hq
 k_steps
 refine rN (K := K1 w.params) (x := x) (P := 140) (tvs := l.map λ q => (q.a, Value.str q.f q.tf, Value.str q.p q.tp)) (λ i y => ∃ t, y = .int ((l[i]?.map wide).getD 0 : Nat) t) (by k_asm) (by k_asm) (by k_asm) (by k_asm) G (by first | rfl | assumption) (by ktr_room) rfl rfl (by k_is) ⟨_, _, _, _, _, _, _, rfl, rfl, rfl, rfl, rfl⟩ (bC U) htab hx2 hdx hall2 (by k_is) (by k_is)
   ?_ ?_ ?_ rfl (by rfl) (by decide) (by rfl) (by rfl) (by rfl) (by decide) rfl (λ _ => rfl)
 · intro Q9 h9
   k_steps
   all_goals exact h9
 · intro A9 E9 i t u Cx code gW hA9 ht9 F9 ha9 hb9
   rw [List.getElem?_map] at ht9;obtain ⟨q, hq, rfl⟩ := Option.map_eq_some_iff.mp ht9;dsimp only at ha9 hb9;have hq9 := hw q (List.mem_of_getElem? hq);unfold wide at hq9
   k_steps
   all_goals (refine ⟨?_, _, _, rfl, λ _ _ e => e⟩)
   all_goals (rw [hq]; simp only [Option.map_some, Option.getD_some, wide, Int.natCast_add]; exact ⟨_, rfl⟩)
 · intro a9 s9 oP9 F9 k9 hP9 ht9 G9 os9 sz9 X9
   have hx9 := qm N hx (bC U) htab rfl;have hdx9 := qm N hdx (bC U) htab rfl;rename News _ _ _ _ => N8
   have N9 := jL N8 U k9 hP9
   k_steps
   refine yf (by k_asm) (by k_asm) G9 (Gen.later X9 (by lia)) (aeY (by assumption)) (wN (by assumption) U) (λ i => ((l[i]?.map wide).getD 0 : Nat)) (λ j v h => h) ?_;intro s7 t7 F7 N7 G7 os7
   k_steps
   all_goals (rw [List.length_map, ql]; exact hret _ _ _ (by k_asm) (by k_asm) ht9 G7 (os7.trans os9))
theorem ah1 (w : World) (p : Program) (loose : List Str) (mean : ExcName -> Option Value) (mg mb : Str -> Option Value) (hdummy : rw1 = rw1) : ∀ (dp un : Nat) (gd : Option (List Code)) (cn : Str) (nms : List (Str × NameKind)) (ig ic : Bool) {mo : List (Str × Const)} (a : Addr) (ccd : Value) (cl : List (Str × Addr)) (outer : List Env) (gV : Around) (base gO : Heap) (L : Addr) (m : Str -> Option Value) (s : Shared) (Q E : Value -> Shared -> Prop) (x dx : Addr) (es : List DictEntry) (ne n : Nat) (l : List aL) (sl : Array (Option Value)) (z : Int) (tz : Tok) (news : List (Addr × Obj)) (g : Obj -> List (Addr × Obj)) (oP : Obj), Below gV base outer gO -> Fr gO L s.heap m -> (K1 w.params).In gO -> News gO L s.heap news -> (x, (⟨.ref 178, some dx, .seq (refs l).toArray n, sl⟩ : Obj)) ∈ news -> (dx, dictOf es ne) ∈ news -> getL "_initial_size" es = some (some (.int z tz)) -> AllIn l news -> (∀ q ∈ l, wide q < 100000) -> l.length < 100 -> UpdF 147 oP news g -> ao 96 32 oP -> AllBare s.gens -> Top p loose mean mg mb gO -> dp + 10 < recursionLimit -> un + 80 < cLine -> (∀ s' t' oP', Fr gO L s'.heap m -> News gO L s'.heap (g oP') -> ao 96 32 oP' -> AllBare s'.gens -> s'.os = s.os -> Q (.str (text l) t') s') -> wpAny (model rw_rw0126_02.row.prog w) (ktrTop dp un gd cn ⟨.function, nms, ig, ic, mo⟩ L a ccd cl outer) (call (.ref 152) [.ref x]) Q E s := by
 w_top off
 k_fill
 intro dp un gd cn nms ig ic mo a ccd cl outer gV base gO L m s Q E x dx es ne n l sl z tz news g oP B F X N hx hdx hz hall hw hn U htab G T hd hu hret;tm_at "ce";tm_at "b5";have hall2 : ∀ t ∈ l.map (λ q => (q.a, Value.str q.f q.tf, Value.str q.p q.tp)), (t.1, bf t.2.1 t.2.2) ∈ news := by
   intro t ht;obtain ⟨q, hq, rfl⟩ := List.mem_map.mp ht;exact hall.get q hq
 k_steps
 refine rN (K := K1 w.params) (x := x) (P := 147) (tvs := l.map λ q => (q.a, Value.str q.f q.tf, Value.str q.p q.tp)) (λ i y => ∃ t, y = .str ((l[i]?.map λ q => q.f ++ q.p).getD (ofString "")) t) (by k_asm) (by k_asm) (by k_asm) (by k_asm) G (by first | rfl | assumption) (by ktr_room) rfl rfl (by k_is) ⟨_, _, _, _, _, _, _, rfl, rfl, rfl, rfl, rfl⟩ (bC U) htab hx2 hdx hall2 (by k_is) (by k_is)
   ?_ ?_ ?_ rfl (by rfl) (by decide) (by rfl) (by rfl) (by rfl) (by decide) rfl (λ _ => rfl)
 · intro Q9 h9
   k_steps
   all_goals exact h9
 · intro A9 E9 i t u Cx code gW hA9 ht9 F9 ha9 hb9
   rw [List.getElem?_map] at ht9;obtain ⟨q, hq, rfl⟩ := Option.map_eq_some_iff.mp ht9;dsimp only at ha9 hb9;have hq9 := hw q (List.mem_of_getElem? hq);unfold wide at hq9
   k_steps
   refine wpAny_newObj_type ?_ (by size_fits)
   k_steps
   refine join_tuple (ys := [q.f, q.p]) (items := #[.str q.f q.tf, .str q.p q.tp]) ⟨_, Heap.get?_push_size _ rfl, rfl, _, rfl⟩ (.cons _ _ (.cons _ _ .nil)) ?_ λ t7 k7 => ?_
   · simp only [List.map_cons, List.map_nil, List.sum_cons, List.sum_nil]
     rw [show (ofString "").length = 0 from rfl];simp only [List.length_cons, List.length_nil];lia
   · k_steps
     all_goals (refine ⟨?_, _, _, rfl, λ _ _ e => Heap.get?_push_of_some _ e⟩)
     all_goals (rw [hq, aai]; exact ⟨_, rfl⟩)
 · intro a9 s9 oP9 F9 k9 hP9 ht9 G9 os9 sz9 X9
   have hx9 := qm N hx (bC U) htab rfl;have hdx9 := qm N hdx (bC U) htab rfl;rename News _ _ _ _ => N8
   have N9 := jL N8 U k9 hP9
   k_steps
   have htx : (List.range (l.map λ q => (q.a, Value.str q.f q.tf, Value.str q.p q.tp)).length).map (λ i => (l[i]?.map λ q => q.f ++ q.p).getD (ofString "")) = l.map λ q => q.f ++ q.p := by rw [List.length_map]; exact rO l
   refine uP (by k_asm) (by k_asm) G9 (Gen.later X9 (by lia)) (aeY (by assumption)) (wN (by assumption) U) (λ i => (l[i]?.map λ q => q.f ++ q.p).getD (ofString "")) (λ j v h => h) (by rw [htx]; exact rP hw hn) ?_ (by rw [List.length_map]; size_fits);intro s7 t7 F7 N7 G7 os7;rw [htx]
   k_steps
   all_goals exact hret _ _ _ (by k_asm) (by k_asm) ht9 G7 (os7.trans os9)
theorem aiS (hdummy : rw1 = rw1) (B : Below gV base outer gO) (F : Fr gO L s.heap m) (X : (K1 w.params).In gO) (N : News gO L s.heap news) (T : Top p loose mean mg mb gO) (hx : (x, bJ dx l n) ∈ news) (hdx : (dx, dictOf es ne) ∈ news) (hn : l.length < 1000) (hd : dp + 3 < recursionLimit) (hu : un + 30 < cLine) (hret : ∀ tk h' tk', Fr gO L h' m -> News gO L h' news -> Q (.int l.length tk) { s with heap := h', toks := tk' }) : wpAny (model rw_rw0126_02.row.prog w) (ktrTop dp un gd cn ⟨.function, nms, ig, ic, mo⟩ L a ccd cl outer) (call (.ref 175) [.ref x]) Q E s := by
 w_top off
 k_with "bQ" => first | ((with_reducible (tm_at "bA")); done) | ((repeat (first | exact List.Mem.head _ | with_reducible assumption | exact bC (by tm_at "h") | exact rJ (by tm_at "h") (by tm_at "h") (by k_ne) _ | refine' gR ?_)); done)
 k_with "ca" => first | exact rm0 (by tm_at "h") rfl | exact rm1 (by tm_at "h") rfl | exact rm2 (by tm_at "h") rfl | exact rm3 (by tm_at "h") rfl | exact rmz (by tm_at "h") | ((tm_at "cI"); (try dsimp only [ktrTop]); lia)
 k_with "cb" => first | exact rm0 (by tm_at "h") rfl | exact rm1 (by tm_at "h") rfl | exact rm2 (by tm_at "h") rfl | exact rm3 (by tm_at "h") rfl | exact rmz (by tm_at "h") | (have hcL9 := cLine_is; (try simp only [units_in1, units_deeper, Around.mark_units, units_caller]); (try dsimp only [ktrTop]); lia)
 k_with "bK" => (k_here; k_dflt (refine' get_own ?Bn ?Bo ?Bp ?Bq ?Br ?Bs ?Bt ?Bu ?Bv ?_; (case Bn | Bo => k_asm); (case Bp => k_inst); (case Bq | Br | Bs | Bt => k_is); (case Bu => assumption); (case Bv => k_handed); k_whole))
 k_with "bR" => (k_here; k_dflt (refine' method_inst ?Bw ?Bx ?By ?Bz ?BA ?BB ?BC ?_; (case Bw | Bx => k_asm); (case By => k_inst); (case Bz | BA | BB => k_is); (case BC => assumption); k_whole))
 k_with "bS" => k_dflt (((with_reducible show PySem.wpAt _ _ _ (execs _ _) _ _ _); ks_step "execs cons"; refine ks_wpAt_execs_cons ?_))
 k_with "bT" => k_dflt ((ks_step "eval Call"; k_dflt (refine ks_wpAt_MethodCall ?_)))
 k_with "k_room" => first | tm_at "bO" | tm_at "bO" | tm_at "miss"
 k_with "k_units" => first | tm_at "bP" | tm_at "bP" | tm_at "miss"
 k_with "W getAttr ref" => tm_at "bJ"
 k_with "W getMethod ref" => first | tm_at "APPM" | tm_at "bR" | tm_at "bm" | tm_at "bn" | tm_at "miss"
 k_with "k_mem" => first | tm_at "bQ" | tm_at "miss"
 k_with "ktr_room" => tm_at "aK"
 k_with "ktr_units" => tm_at "aL"
 k_with "W wpAt" => first | tm_at "bT" | tm_at "bS" | tm_at "miss"
 k_with "W eval Name" => tm_at "o"
 revert X
 k_fill
 intro X;tm_at "bz"
 k_steps
 all_goals (rw [jM]; exact hret _ _ _ (by k_asm) (News.tail' (News.tail' (by k_asm))))
theorem abh {s1 : Str} {p1 p2 : Tok} (hdummy : rw1 = rw1) (B : Below gV base outer gO) (F : Fr gO L s.heap m) (X : (K1 w.params).In gO) (N : News gO L s.heap news) (T : Top p loose mean mg mb gO) (U : UpdF x (bJ dx l n) news g) (hdx : (dx, dictOf es ne) ∈ news) (hn : l.length < 1000) (hg : getL "append" es = some none) (hd : dp + 10 < recursionLimit) (hu : un + 80 < cLine) (hret : ∀ T h' tk', Fr gO L h' m -> News gO L h' ((T, bf (.str s1 p1) (.str s2 p2)) :: g (bJ dx (l ++ [⟨T, s1, p1, s2, p2⟩]) (n + 1))) -> AllLt T news -> Q .none { s with heap := h', toks := tk' }) : wpAny (model rw_rw0126_02.row.prog w) (ktrTop dp un gd cn ⟨.function, nms, ig, ic, mo⟩ L a ccd cl outer) (call (.ref 122) [.ref x, .str s1 p1, .str s2 p2]) Q E s := by
 k_with "aX" => (k_here; (with_reducible show wpAny _ _ (call (Value.ref 175) _) _ _ _); (tm_at "4"); k_dflt (refine' aiS rfl ?BD ?BE ?BF ?BG ?BH ?BI ?BJ ?BK ?BL ?BM ?_; (case BD | BE | BF | BG | BH => k_asm); (case BI | BJ => k_mem); (case BK => tm_at "aa"); (case BL => ktr_room); (case BM => ktr_units); k_whole); intro tk9 h9 tk8 F9 N9; (tm_at "5"); (tm_at "6"); (try k_fold); (try k_sweep))
 k_with "W call ref" => first | tm_at "aX" | tm_at "ac" | tm_at "ad" | tm_at "miss"
 revert X
 k_fill
 intro X;tm_at "bz"
 k_steps
 tm_at "b7"
theorem ah2 (hdummy : rw1 = rw1) (B : Below gV base outer gO) (F : Fr gO L s.heap m) (X : (K1 w.params).In gO) (N : News gO L s.heap news) (T : Top p loose mean mg mb gO) (U : UpdF x (bJ dx (l ++ [q]) n) news g) (hdx : (dx, dictOf es ne) ∈ news) (hn : l.length < 900) (hg : getL "part_count" es = some none) (hd : dp + 10 < recursionLimit) (hu : un + 80 < cLine) (hret : ∀ h' tk', Fr gO L h' m -> News gO L h' (g (bJ dx l (n + 1))) -> Q (.ref q.a) { s with heap := h', toks := tk' }) : wpAny (model rw_rw0126_02.row.prog w) (ktrTop dp un gd cn ⟨.function, nms, ig, ic, mo⟩ L a ccd cl outer) (call (.ref 138) [.ref x]) Q E s := by
 revert X
 k_fill
 intro X;have hz9 : (refs l).toArray.size + 1 <= sizeLine := by rw [jM, sizeLine_eq]; lia
 have U' := U;rw [bJ, <- oO] at U'
 k_steps
 all_goals first
   | (exfalso; simp only [List.length_append, List.length_cons] at *; lia)
   | exact hret _ _ (by k_asm) (News.tail' (News.tail' (by k_asm)))
theorem qR {oP : Obj} (hdummy : rw1 = rw1) (B : Below gV base outer gO) (F : Fr gO L s.heap m) (X : (K1 w.params).In gO) (N : News gO L s.heap led) (T : Top p loose mean mg mb gO) (S : Sel (140, oP) led r) (hx : (x, bJ dx l n) ∈ r) (hdx : (dx, dictOf es ne) ∈ r) (hz : getL "_initial_size" es = some (some (.int z tz))) (hall : AllIn l r) (hw : ∀ q ∈ l, wide q < 100000) (hn : l.length < 100) (hne : ∀ p ∈ r, p.1 ≠ 140) (htab : ao 93 19 oP) (G : AllBare s.gens) (hd : dp + 10 < recursionLimit) (hu : un + 80 < cLine) (hret : ∀ s' t' oP', Fr gO L s'.heap m -> News gO L s'.heap ((140, oP') :: r) -> ao 93 19 oP' -> AllBare s'.gens -> s'.os = s.os -> Q (.int (z + bz l) t') s') : wpAny (model rw_rw0126_02.row.prog w) (ktrTop dp un gd cn ⟨.function, nms, ig, ic, mo⟩ L a ccd cl outer) (call (.ref 145) [.ref x]) Q E s := by
 w_top off
 k_with "W call ref" => tm_at "ak"
 revert X
 k_fill
 intro X;have e1 : UpdF 140 oP ((140, oP) :: r) (λ o => (140, o) :: r) := .head hne;refine ah0 _ _ _ _ _ _ rfl _ _ _ _ _ _ _ _ _ _ _ _ _ _ _ _ _ _ _ _ _ _ _ _ _ _ _ _ _ _ _ B F X (S.news N) (.tail _ hx) (.tail _ hdx) hz hall.cons (λ q hq => Nat.lt_trans (hw q hq) (by decide)) e1 htab G T hd hu ?_;intro s' t' oP' F' N' ht' G' os';exact hret s' t' oP' F' N' ht' G' os'
theorem wy {oP : Obj} (hdummy : rw1 = rw1) (B : Below gV base outer gO) (F : Fr gO L s.heap m) (X : (K1 w.params).In gO) (N : News gO L s.heap led) (T : Top p loose mean mg mb gO) (S : Sel (147, oP) led r) (hx : (x, bJ dx l n) ∈ r) (hdx : (dx, dictOf es ne) ∈ r) (hz : getL "_initial_size" es = some (some (.int z tz))) (hall : AllIn l r) (hw : ∀ q ∈ l, wide q < 100000) (hn : l.length < 100) (hne : ∀ p ∈ r, p.1 ≠ 147) (htab : ao 96 32 oP) (G : AllBare s.gens) (hd : dp + 10 < recursionLimit) (hu : un + 80 < cLine) (hret : ∀ s' t' oP', Fr gO L s'.heap m -> News gO L s'.heap ((147, oP') :: r) -> ao 96 32 oP' -> AllBare s'.gens -> s'.os = s.os -> Q (.str (text l) t') s') : wpAny (model rw_rw0126_02.row.prog w) (ktrTop dp un gd cn ⟨.function, nms, ig, ic, mo⟩ L a ccd cl outer) (call (.ref 152) [.ref x]) Q E s := by
 revert X
 k_fill
 intro X;have e1 : UpdF 147 oP ((147, oP) :: r) (λ o => (147, o) :: r) := .head hne;refine ah1 _ _ _ _ _ _ rfl _ _ _ _ _ _ _ _ _ _ _ _ _ _ _ _ _ _ _ _ _ _ _ _ _ _ _ _ _ _ _ B F X (S.news N) (.tail _ hx) (.tail _ hdx) hz hall.cons hw hn e1 htab G T hd hu ?_;intro s' t' oP' F' N' ht' G' os';exact hret s' t' oP' F' N' ht' G' os'
theorem af0 (hdummy : rw1 = rw1) (B : Below gV base outer gO) (F : Fr gO L s.heap m) (X : (K1 w.params).In gO) (N : News gO L s.heap led) (T : Top p loose mean mg mb gO) (S1 : Sel (140, oL) led r1) (S2 : Sel (147, oS) r1 r) (hx : (x, bJ dx l n) ∈ r) (hdx : (dx, dictOf es ne) ∈ r) (hz : getL "_initial_size" es = some (some (.int z tz))) (hall : AllIn l r) (hw : ∀ q ∈ l, wide q < 100000) (hn : l.length < 100) (hne1 : ∀ p ∈ r, p.1 ≠ 140) (hne2 : ∀ p ∈ r, p.1 ≠ 147) (ht1 : ao 93 19 oL) (ht2 : ao 96 32 oS) (G : AllBare s.gens) (hzb : 0 <= z /\ z < 1000) (hno : z ≠ 0 \/ (0 < bz l /\ Txt.isspace (text l) = false)) (hd : dp + 20 < recursionLimit) (hu : un + 160 < cLine) (hret : ∀ s' oL' oS', Fr gO L s'.heap m -> News gO L s'.heap ((140, oL') :: (147, oS') :: r) -> ao 93 19 oL' -> ao 96 32 oS' -> AllBare s'.gens -> s'.os = s.os -> Q (.bool false) s') : wpAny (model rw_rw0126_02.row.prog w) (ktrTop dp un gd cn ⟨.function, nms, ig, ic, mo⟩ L a ccd cl outer) (call (.ref 167) [.ref x]) Q E s := by
 k_with "df" => (k_here; (tm_at "a5"); (tm_at "4"); k_dflt (refine' qR rfl ?BN ?BO ?BP ?BQ ?BR ?BS ?BT ?BU ?BV ?BW ?BX ?BY ?BZ ?C0 ?C1 ?C2 ?C3 ?_; (case BN | BO | BP | BQ | BR => k_asm); (case BS => tm_at "7"); (case BT | BU => k_mem); (case BV => tm_at "ae"); (case BW => tm_at "bp"); (case BX => tm_at "aP"); (case BY => tm_at "aa"); (case BZ => k_all); (case C0 => assumption); (case C1 => k_asm); (case C2 => ktr_room); (case C3 => ktr_units); k_whole); intro s9 t9 oP9 F9 N9 ht9 G9 os9; (tm_at "5"); (tm_at "aA"); (tm_at "6"); (try k_fold); (try k_sweep))
 k_with "dg" => (k_here; (tm_at "bE"); (tm_at "4"); k_dflt (refine' wy rfl ?C4 ?C5 ?C6 ?C7 ?C8 ?C9 ?Ca ?Cb ?Cc ?Cd ?Ce ?Cf ?Cg ?Ch ?Ci ?Cj ?Ck ?_; (case C4 | C5 | C6 | C7 | C8 => k_asm); (case C9 => tm_at "7"); (case Ca | Cb => k_mem); (case Cc => tm_at "ae"); (case Cd => tm_at "bp"); (case Ce => tm_at "aP"); (case Cf => tm_at "aa"); (case Cg => k_all); (case Ch => assumption); (case Ci => k_asm); (case Cj => ktr_room); (case Ck => ktr_units); k_whole); intro s9 t9 oP9 F9 N9 ht9 G9 os9; (tm_at "5"); (tm_at "aA"); (tm_at "6"); (try k_fold); (try k_sweep))
 k_with "bU" => (k_here; k_dflt (refine' yl ?Cl ?Cm ?Cn ?Co ?Cp ?Cq ?_; (case Cl | Cm => k_asm); (case Cn => k_inst); (case Co | Cp | Cq => k_is); k_whole))
 k_with "W call ref" => first | tm_at "dg" | tm_at "df" | tm_at "ac" | tm_at "ad" | tm_at "miss"
 k_with "W truthy ref" => first | tm_at "bU" | tm_at "miss"
 revert X
 k_fill
 intro X;replace N := S1.news2 S2 N;clear S1 S2;have hsp : z = 0 -> Txt.isspace (text l) = false := λ e => hno.elim (λ h => absurd e h) λ h => h.2
 have hwp : z = 0 -> 0 < bz l := λ e => hno.elim (λ h => absurd e h) λ h => h.1
 have hwl := ji hw hn;have hnA : (140 : Addr) ≠ 147 := by decide
 have hnB : (147 : Addr) ≠ 140 := by decide
 k_steps
 all_goals first
   | (exfalso; lia)
   | (rw [show (z == 0) = false from beq_eq_false_iff_ne.mpr (by assumption)]; exact hret _ _ _ (by k_asm) (by k_asm) ht1 ht2 (by assumption) (by first | rfl | assumption))
   | (rw [hsp (by assumption)]; refine hret _ _ _ (by k_asm) (yh (by k_asm)) (by assumption) (by assumption) (by assumption) ?_; simp only [*])
theorem abi (hdummy : rw1 = rw1) (B : Below gV base outer gO) (F : Fr gO L s.heap m) (X : (K1 w.params).In gO) (N : News gO L s.heap led) (T : Top p loose mean mg mb gO) (S1 : Sel (x, bJ dx l n) led r1) (S2 : Sel (dx, fQ hs tk0 z tz) r1 r) (hxd : dx ≠ x) (hne1 : ∀ p ∈ r, p.1 ≠ x) (hne2 : ∀ p ∈ r, p.1 ≠ dx) (hn : l.length < 100) (hd : dp + 10 < recursionLimit) (hu : un + 80 < cLine) (hret : ∀ h' tk' n' tz', Fr gO L h' m -> News gO L h' ((x, bJ dx [] n') :: (dx, fQ hs tk0 0 tz') :: r) -> Q .none { s with heap := h', toks := tk' }) : wpAny (model rw_rw0126_02.row.prog w) (ktrTop dp un gd cn ⟨.function, nms, ig, ic, mo⟩ L a ccd cl outer) (call (.ref 160) [.ref x]) Q E s := by
 w_top off
 k_with "cL" => (k_here; k_dflt (first | (refine' uV ?Cr ?Cs ?Ct ?Cu ?Cv ?Cw ?Cx ?Cy ?Cz ?CA ?CB ?_; (case Cr | Cs | Ct => k_asm); (case Cu => k_updF); (case Cv | Cw => k_mem); (case Cx | Cy | Cz => k_is); (case CA => (tm_at "aQ")); (case CB => k_ne); k_whole) | (refine' rR ?Cr ?Cs ?Ct ?Cu ?Cv ?Cw ?CC ?CD ?Cx ?Cy ?Cz ?CA ?CB ?_; (case Cr | Cs | Ct => k_asm); (case Cu => k_updF); (case Cv | Cw => k_mem); (case CC => assumption); (case CD => (tm_at "aQ")); (case Cx | Cy | Cz => k_is); (case CA => (tm_at "aQ")); (case CB => k_ne); k_whole)); intro h' n' F' N'; (try dsimp only at N'); (try simp only [qw] at N'); (try k_sweep))
 k_with "bV" => (k_here; k_dflt ( (refine' rT ?CE ?CF ?CG ?CH ?CI ?CJ ?CK ?CL ?CM ?CN ?CO ?CP ?_; (case CE | CF | CG => k_asm); (case CH | CI => k_mem); (case CJ => assumption); (case CK => (tm_at "aQ")); (case CL | CM | CN => k_is); (case CO => (tm_at "aQ")); (case CP => (tm_at "aE")); k_whole)); intro T' h' F' N' l1; (try k_lt l1); (try simp only [yq] at N'); (try k_sweep))
 k_with "cM" => (k_here; k_dflt (refine' afr ?CQ ?CR ?CS ?CT ?CU ?CV ?CW ?CX ?CY ?CZ ?D0 ?D1 ?D2 ?_; (case CQ | CR | CS => k_asm); (case CT => k_inst); (case CU => exact rfl); (case CV => k_is); (case CW => kernel_rfl); (case CX | CY => k_is); (case CZ => k_get); (case D0 => k_put); (case D1 => k_updF); (case D2 => exact Nat.le_of_ble_eq_true rfl); k_whole); intro h' F' N'; (try dsimp only at N'); (try k_sweep))
 k_with "W call ref" => tm_at "ak"
 k_with "W setItem ref" => first | tm_at "cL" | tm_at "miss"
 k_with "W subscriptTail" => first | tm_at "bV" | tm_at "miss"
 k_with "W setAttr ref" => first | tm_at "cM" | tm_at "miss"
 k_with "W truthy ref" => tm_at "o"
 revert X
 k_fill
 intro X;replace N := S1.news2 S2 N;clear S1 S2;have hxd' := hxd.symm
 k_steps
 all_goals first | exact hret _ _ _ _ (by k_asm) (News.tail' (by k_asm))
theorem abj {v : Addr} {kv : Nat} {lv : List aL} (hdummy : rw1 = rw1) (B : Below gV base outer gO) (F : Fr gO L s.heap m) (X : (K1 w.params).In gO) (N : News gO L s.heap led) (T : Top p loose mean mg mb gO) (S0 : Sel (v, listOf (refs lv).toArray kv) led r1) (S1 : Sel (x, bJ dx l n) r1 r2) (S2 : Sel (dx, fQ hs tk0 z tz) r2 r) (hxd : dx ≠ x) (hxv : v ≠ x) (hvd : v ≠ dx) (hne1 : ∀ p ∈ r, p.1 ≠ x) (hne2 : ∀ p ∈ r, p.1 ≠ dx) (hn : l.length < 100) (hn2 : lv.length < 100) (hd : dp + 10 < recursionLimit) (hu : un + 80 < cLine) (hret : ∀ h' tk' n' tz', Fr gO L h' m -> News gO L h' ((v, listOf (refs lv).toArray kv) :: (x, bJ dx lv n') :: (dx, fQ hs tk0 0 tz') :: r) -> Q .none { s with heap := h', toks := tk' }) : wpAny (model rw_rw0126_02.row.prog w) (ktrTop dp un gd cn ⟨.function, nms, ig, ic, mo⟩ L a ccd cl outer) (call (.ref 160) [.ref x, .ref v]) Q E s := by
 revert X
 k_fill
 intro X;replace N := S0.news3 S1 S2 N;clear S0 S1 S2;have hxd' := hxd.symm;have hxv' := hxv.symm;have hvd' := hvd.symm
 k_steps
 all_goals first | exact hret _ _ _ _ (by k_asm) (by k_asm)
theorem zH {i : Int} {ti : Tok} (hdummy : rw1 = rw1) (B : Below gV base outer gO) (F : Fr gO L s.heap m) (X : (K1 w.params).In gO) (N : News gO L s.heap news) (T : Top p loose mean mg mb gO) (U : UpdF x (bJ dx (l ++ [q]) n) news g) (hdx : (dx, dictOf es ne) ∈ news) (hdd : dx ≠ x) (hi : i = l.length) (hn : l.length < 100) (hd : dp + 10 < recursionLimit) (hu : un + 80 < cLine) (hret : ∀ T h' tk' n', Fr gO L h' m -> News gO L h' ((T, listOf (refs [q]).toArray 0) :: g (bJ dx l n')) -> AllLt T news -> Q (.ref T) { s with heap := h', toks := tk' }) : wpAny (model rw_rw0126_02.row.prog w) (ktrTop dp un gd cn ⟨.function, nms, ig, ic, mo⟩ L a ccd cl outer) (call (.ref 130) [.ref x, .int i ti]) Q E s := by
 revert X
 k_fill
 intro X
 k_steps
 rename News _ _ _ _ => N9
 have N8 := News.tail' N9;rw [uW] at N8;exact hret _ _ _ _ (by k_asm) N8 (by assumption)
theorem adF {R : Result -> Shared -> Prop} {s1 : Str} {p1 p2 : Tok} (hdummy : rw1 = rw1) (B : Below gV base outer gO) (F : Fr gO L s.heap m) (X : (K1 w.params).In gO) (N : News gO L s.heap news) (T : Top p loose mean mg mb gO) (U : UpdF x (bJ dx l n) news g) (hdx : (dx, dictOf es ne) ∈ news) (hn : l.length < 1000) (hg : getL "append" es = some none) (hd : dp + 10 < recursionLimit) (hu : un + 80 < cLine) (hret : ∀ T h' tk', Fr gO L h' m -> News gO L h' ((T, bf (.str s1 p1) (.str s2 p2)) :: g (bJ dx (l ++ [⟨T, s1, p1, s2, p2⟩]) (n + 1))) -> AllLt T news -> R (.ok (.ret .none)) { s with heap := h', toks := tk' }) : codeAny (model rw_rw0126_02.row.prog w) (ktrTop dp un gd cn ⟨.function, nms, ig, ic, mo⟩ L a ccd cl outer) (.call (.ref 122) ⟨[.ref x, .str s1 p1, .str s2 p2], []⟩) R s := by
 revert X
 k_fill
 intro X;k_dflt k_enter;tm_at "bz"
 k_steps
 tm_at "b7"
noncomputable def E1.pP : Prop := ∀  (hdummy : rw1 = rw1) (B : Below gV base outer gO) (F : Fr gO L s.heap m) (X : (K1 w.params).In gO) (N : News gO L s.heap led) (T : Top p loose mean mg mb gO) (S1 : Sel (140, oL) led r1) (S2 : Sel (147, oS) r1 r2) (S3 : Sel (x, bJ dx (l ++ [q]) n) r2 r3) (S4 : Sel (dx, fQ hs tk0 z tz) r3 r4) (S5 : Sel (ln, listOf ls.toArray kl) r4 r) (hmk : (mk, instObj 94 dmk) ∈ r) (hdmk : (dmk, dictOf es ne) ∈ r) (gc : getL "_current_line" es = some (some (.ref x))) (gl : getL "_lines" es = some (some (.ref ln))) (o1 : @LT.lt Nat _ 147 ln) (o2 : @LT.lt Nat _ ln dx) (o3 : @LT.lt Nat _ dx x) (e1 : ∀ p ∈ r, p.1 ≠ 140) (e2 : ∀ p ∈ r, p.1 ≠ 147) (e3 : ∀ p ∈ r, p.1 ≠ x) (e4 : ∀ p ∈ r, p.1 ≠ dx) (e5 : ∀ p ∈ r, p.1 ≠ ln) (ht1 : ao 93 19 oL) (ht2 : ao 96 32 oS) (G : AllBare s.gens) (hzb : 0 <= z /\ z < 1000) (hls : ls.length < 900) (hq : (q.a, q.obj) ∈ r) (hall : AllIn l r) (hw : ∀ q' ∈ l, wide q' < 100000) (hwq : wide q < 100000) (hn : l.length < 90) (hqp : 0 < q.p.length) (hno : z ≠ 0 \/ (0 < bz (l ++ [q]) /\ Txt.isspace (text (l ++ [q])) = false)) (hok : PyData.strOk q.f = true /\ PyData.strOk q.p = true) (gn : getL "newline" es = some none) (hd : dp + 40 < recursionLimit) (hu : un + 300 < cLine) (hret : ∀ s' oL' oS' n' tz' kl' t', Fr gO L s'.heap m -> News gO L s'.heap ((140, oL') :: (147, oS') :: (x, bJ dx [] n') :: (dx, fQ hs tk0 0 tz') :: (ln, listOf (ls ++ [Value.str (text (l ++ [q])) t']).toArray kl') :: r) -> ao 93 19 oL' -> ao 96 32 oS' -> AllBare s'.gens -> s'.os = s.os -> Q .none s'), wpAny (model rw_rw0126_02.row.prog w) (ktrTop dp un gd cn ⟨.function, nms, ig, ic, mo⟩ L a ccd cl outer) (call (.ref 56) [.ref mk]) Q E s
noncomputable def E1.pQ := V6 λ a b c d e f => V6 λ g h i j k l => V6 λ m n o p q r => V6 λ s t u v w x => V6 λ y z A B C D => V6 λ E F G H I J => V6 λ K L M N O P => V6 λ Q R S T W X => U λ Y => λ Z => @E1.pP a v w x d u e f b c z p o g h i j k l m n q r t s H y C P D F G X Y O L W N Q I J K R A B E M S T Z
@[irreducible] noncomputable def E1.pv := @Classical.epsilon _ (by tm_at "ne") λ x => ¬ E1.pQ x
theorem zJ : @E1.pP w L m s mean gO mg mb p loose E ccd a dp un gd cn nms ig ic mo cl outer base gV n Q x led dx es ne oL oS tz l r z r1 kl hs tk0 r2 mk dmk ln ls r3 r4 q := bh E1.pQ (by with_unfolding_all rfl : E1.pv = _) (by
 w_top off
 k_with "cN" => (k_here; (tm_at "cJ"); k_dflt (refine' acP ?D3 ?D4 ?D5 ?D6 ?D7 ?D8 ?D9 ?_; (case D3 => k_asm); (case D4 | D5 => k_mem); (case D6 => ktr_units); (case D7 | D8 => first | assumption | exact ⟨by decide +kernel, by decide +kernel⟩); (case D9 => first | assumption | exact aak (by assumption)); k_whole))
 k_with "cO" => ((with_reducible show wpAny _ _ (eval (Expr.Call (Expr.Attribute _ _ _) [Expr.Starred _ _] [] _) _) _ _ _); k_dflt (refine yu ?_ (by rfl)))
 k_with "cP" => (k_here; k_dflt (refine' afs ?Da ?Db ?Dc ?Dd ?De ?Df ?Dg ?Dh ?Di ?Dj ?Dk ?Dl ?Dm ?Dn ?_; (case Da | Db | Dc => k_asm); (case Dd => k_inst); (case De | Df | Dg | Dh | Di | Dj | Dk | Dl => k_is); (case Dm => decide); (case Dn => tm_at "ae"); k_whole); intro q' h' F' N' l1; (try k_lt l1); (try k_sweep))
 k_with "cQ" => (k_here; (with_reducible show wpAny _ _ (callWith _ (Value.ref _) _ (backTo _ (starEach [Expr.Starred _ _] _)) []) _ _ _); k_dflt (refine' aft ?Do ?Dp ?Dq ?Dr ?_ (by rfl); (case Do | Dp => k_asm); (case Dq => k_mem); (case Dr => k_is); k_whole))
 k_with "bW" => (k_here; (with_reducible show wpAny _ _ (call (Value.ref 122) _) _ _ _); (tm_at "4"); k_dflt (refine' abh rfl ?Ds ?Dt ?Du ?Dv ?Dw ?Dx ?Dy ?Dz ?DA ?DB ?DC ?_; (case Ds | Dt | Du | Dv | Dw => k_asm); (case Dx => k_updF); (case Dy => k_mem); (case Dz => tm_at "aa"); (case DA => tm_at "ae"); (case DB => ktr_room); (case DC => ktr_units); k_whole); intro T9 h9 tk8 F9 N9 l9; (tm_at "5"); (try k_lt l9); (try simp only [List.nil_append, List.cons_append] at N9); (tm_at "6"); (try k_fold); (try k_sweep))
 k_with "dh" => (k_here; (tm_at "a5"); (tm_at "4"); k_dflt (refine' qR rfl ?DD ?DE ?DF ?DG ?DH ?DI ?DJ ?DK ?DL ?DM ?DN ?DO ?DP ?DQ ?DR ?DS ?DT ?_; (case DD | DE | DF | DG | DH => k_asm); (case DI => tm_at "7"); (case DJ | DK => k_mem); (case DL => tm_at "ae"); (case DM => tm_at "aO"); (case DN => tm_at "aP"); (case DO => tm_at "aa"); (case DP => k_all); (case DQ => assumption); (case DR => k_asm); (case DS => ktr_room); (case DT => ktr_units); k_whole); intro s9 t9 oP9 F9 N9 ht9 G9 os9; (tm_at "5"); (tm_at "aA"); (tm_at "6"); (try k_fold); (try k_sweep))
 k_with "di" => (k_here; (tm_at "bE"); (tm_at "4"); k_dflt (refine' wy rfl ?DU ?DV ?DW ?DX ?DY ?DZ ?E0 ?E1 ?E2 ?E3 ?E4 ?E5 ?E6 ?E7 ?E8 ?E9 ?Ea ?_; (case DU | DV | DW | DX | DY => k_asm); (case DZ => tm_at "7"); (case E0 | E1 => k_mem); (case E2 => tm_at "ae"); (case E3 => tm_at "aO"); (case E4 => tm_at "aP"); (case E5 => tm_at "aa"); (case E6 => k_all); (case E7 => assumption); (case E8 => k_asm); (case E9 => ktr_room); (case Ea => ktr_units); k_whole); intro s9 t9 oP9 F9 N9 ht9 G9 os9; (tm_at "5"); (tm_at "aA"); (tm_at "6"); (try k_fold); (try k_sweep))
 k_with "dj" => (k_here; (with_reducible show wpAny _ _ (call (Value.ref 167) _) _ _ _); (tm_at "4"); k_dflt (refine' af0 rfl ?Eb ?Ec ?Ed ?Ee ?Ef ?Eg ?Eh ?Ei ?Ej ?Ek ?El ?Em ?En ?Eo ?Ep ?Eq ?Er ?Es ?Et ?Eu ?Ev ?Ew ?_; (case Eb | Ec | Ed | Ee | Ef => k_asm); (case Eg | Eh => tm_at "7"); (case Ei | Ej => k_mem); (case Ek => tm_at "ae"); (case El => tm_at "aO"); (case Em => tm_at "aP"); (case En => tm_at "aa"); (case Eo | Ep => k_all); (case Eq | Er => assumption); (case Es => k_asm); (case Et => tm_at "aa"); (case Eu => first | assumption | exact acO (by assumption) | exact Or.inl (by assumption)); (case Ev => ktr_room); (case Ew => ktr_units); k_whole); intro s9 oL9 oS9 F9 N9 ht9 ht8 G9 os9; (tm_at "5"); (tm_at "6"); (try k_fold); (try k_sweep))
 k_with "dk" => (k_here; (with_reducible show wpAny _ _ (call (Value.ref 160) _) _ _ _); (tm_at "4"); k_dflt (refine' abi rfl ?Ex ?Ey ?Ez ?EA ?EB ?EC ?ED ?EE ?EF ?EG ?EH ?EI ?EJ ?_; (case Ex | Ey | Ez | EA | EB => k_asm); (case EC | ED => tm_at "7"); (case EE => tm_at "aS"); (case EF | EG => k_all); (case EH => tm_at "aa"); (case EI => ktr_room); (case EJ => ktr_units); k_whole); intro h9 tk9 n9 tz9 F9 N9; (tm_at "5"); (tm_at "6"); (try k_fold); (try k_sweep))
 k_with "dl" => (k_here; (with_reducible show wpAny _ _ (call (Value.ref _) _) _ _ _); (tm_at "4"); k_dflt (refine' call_meth (f := .ref 122) ?EK ?EL ?_; (case EK => k_asm); (case EL => k_mem); refine' adF rfl ?EM ?EN ?EO ?EP ?EQ ?ER ?ES ?ET ?EU ?EV ?EW ?_; (case EM | EN | EO | EP | EQ => k_asm); (case ER => k_updF); (case ES => k_mem); (case ET => tm_at "aa"); (case EU => tm_at "ae"); (case EV => ktr_room); (case EW => ktr_units); k_whole); intro T9 h9 tk8 F9 N9 l9; (tm_at "5"); (try k_lt l9); (tm_at "6"); (try k_fold); (try k_sweep))
 k_with "cR" => (k_here; (with_reducible show wpAny _ _ (call (Value.ref 138) _) _ _ _); (tm_at "4"); k_dflt (refine' ah2 rfl ?EX ?EY ?EZ ?F0 ?F1 ?F2 ?F3 ?F4 ?F5 ?F6 ?F7 ?_; (case EX | EY | EZ | F0 | F1 => k_asm); (case F2 => k_updF); (case F3 => k_mem); (case F4 => tm_at "aa"); (case F5 => tm_at "ae"); (case F6 => ktr_room); (case F7 => ktr_units); k_whole); intro h9 tk8 F9 N9; (tm_at "5"); (tm_at "6"); (try k_fold); (try k_sweep))
 k_with "W getAttr ref" => first | tm_at "bK" | tm_at "cP" | tm_at "bh" | tm_at "miss"
 k_with "W callWith ref" => first | tm_at "cQ" | tm_at "aW" | tm_at "miss"
 k_with "W call ref" => first | tm_at "cR" | tm_at "dk" | tm_at "dj" | tm_at "di" | tm_at "dh" | tm_at "bW" | tm_at "aX" | tm_at "dl" | tm_at "ac" | tm_at "ad" | tm_at "miss"
 k_with "W truthy ref" => first | tm_at "bU" | tm_at "miss"
 k_with "W compareOp NotEq ref ref" => first | tm_at "cN" | tm_at "miss"
 k_with "W eval Call Attribute" => first | tm_at "cO" | tm_at "miss"
 intro hdummy B F X N T S1 S2 S3 S4 S5 hmk hdmk gc gl o1 o2 o3 e1 e2 e3 e4 e5 ht1 ht2 G hzb hls hq hall hw hwq hn hqp hno hok gn hd hu hret;revert X
 k_fill
 intro X;tm_at "bj";clear S1 S2 S3 S4 S5;have hwl := ji hw (Nat.lt_of_lt_of_le hn (by decide));have hwq2 : (E1.pv.2.2.2.2.2.2.2.2.2).f.length + (E1.pv.2.2.2.2.2.2.2.2.2).p.length < 100000 := hwq
 k_steps
 all_goals (try (exfalso; lia))
 rename News _ _ _ _ => N9
 simp only [List.push_toArray] at N9;refine hret _ _ _ _ _ _ _ (by k_asm) (Sel.keep5 N9 (by tm_at "7") (by tm_at "7") (by tm_at "7") (by tm_at "7") (by tm_at "7") (by tm_at "Z")) (by assumption) (by assumption) (by assumption) ?_
 (repeat (tm_at "aR"))
 ) ((w, p, loose, mean, mg, mb), (dp, un, gd, cn, nms, ig), (ic, mo, a, ccd, cl, outer), (gV, base, gO, L, m, s), (Q, E, mk, dmk, x, dx), (ln, es, ne, n, kl, hs), (tk0, l, ls, z, tz, led), (r1, r2, r3, r4, r, oL), oS, q)
noncomputable def E8.pP {R : Result -> Shared -> Prop} : Prop := ∀  (hdummy : rw1 = rw1) (B : Below gV base outer gO) (F : Fr gO L s.heap m) (X : (K1 w.params).In gO) (N : News gO L s.heap led) (T : Top p loose mean mg mb gO) (S1 : Sel (x, cI 178 dx) led r1) (S2 : Sel (dx, dictOf [] 0) r1 r) (hxd : dx ≠ x) (hne1 : ∀ p ∈ r, p.1 ≠ x) (hne2 : ∀ p ∈ r, p.1 ≠ dx) (hd : dp + 10 < recursionLimit) (hu : un + 80 < cLine) (hret : ∀ h' tk' n' tk0 tz, Fr gO L h' m -> News gO L h' ((x, bJ dx [] n') :: (dx, fQ (PyData.keyHash w.params (ofString "_initial_size")) tk0 0 tz) :: r) -> R (.ok (.ret .none)) { s with heap := h', toks := tk' }), codeAny (model rw_rw0126_02.row.prog w) (ktrTop dp un gd cn ⟨.function, nms, ig, ic, mo⟩ L a ccd cl outer) (.call (.ref 115) ⟨[.ref x], []⟩) R s
noncomputable def E8.pQ := V6 λ a b c d e f => V6 λ g h i j k l => V6 λ m n o p q r => V6 λ s t u v w x => U λ y => U λ z => U λ A => U λ B => U λ C => λ D => @E8.pP a v w x d u e f b c p o g h i j k l m n q r t s z B A D C y
@[irreducible] noncomputable def E8.pv := @Classical.epsilon _ (by tm_at "ne") λ x => ¬ E8.pQ x
theorem adG {R : Result -> Shared -> Prop} : @E8.pP w L m s mean gO mg mb p loose ccd a dp un gd cn nms ig ic mo cl outer base gV x led dx r r1 R := bh E8.pQ (by with_unfolding_all rfl : E8.pv = _) (by
 w_top off
 k_with "ks_enterD" => (refine' ks_code_super ?F8 ?F9 ?Fa ?Fb ?Fc ?Fd ?Fe ?Ff ?Fg ?Fh ?Fi ?Fj ?Fk ?_ ?Fl ?Fm ?Fn ?Fo; (case Fd | Fe | Ff => exact rfl); (case F8 | F9 | Fa | Fb | Fc => k_asm); (case Fg | Fh => k_is); (case Fi => k_room); (case Fj => first | exact BindsTo.of_eq rfl | exact binds_K (by k_in) rfl (by k_is) rfl rfl rfl); (case Fk => exact locs rfl); (case Fl => decide); (case Fm | Fn | Fo => exact rfl); intro g' L' h' FG' F' N' B' X' T' l1; (try k_lt l1); (try dsimp only); (try k_lift B'))
 k_with "dm" => k_dflt ((ks_step "exec Expr"; refine ks_wpAt_Expr_any ?_ ?Fp ?Fq; (case Fp | Fq => first | rfl | kernel_rfl | with_unfolding_all rfl)))
 k_with "dn" => (k_here; (tm_at "bG"); k_dflt (refine' rY ?Fr ?Fs ?Ft ?Fu ?_ ?Fv; (case Fr | Fs => k_asm); (case Ft => k_mem); (case Fu => k_updF); (case Fv => size_fits); k_whole); intro h' n' F' N'; (try dsimp only at N'); (try k_sweep))
 k_with "W getAttr ref" => tm_at "bJ"
 k_with "W callWith ref" => first | tm_at "aW" | tm_at "miss"
 k_with "W call ref" => first | tm_at "dn" | tm_at "ac" | tm_at "ad" | tm_at "miss"
 k_with "W wpAt" => first | tm_at "dm" | tm_at "bT" | tm_at "bS" | tm_at "miss"
 k_with "W truthy ref" => tm_at "o"
 k_with "W compareOp NotEq ref ref" => tm_at "o"
 k_with "W eval Call Attribute" => tm_at "o"
 intro hdummy B F X N T S1 S2 hxd hne1 hne2 hd hu hret;revert X
 k_fill
 intro X;replace N := S1.news2 S2 N;clear S1 S2;have hxd' := hxd.symm;k_dflt (tm_at "ks_enterD")
 k_steps
 all_goals first | exact hret _ _ _ _ _ (by k_asm) (News.tail' (News.tail' (by k_asm)))
 ) ((w, p, loose, mean, mg, mb), (dp, un, gd, cn, nms, ig), (ic, mo, a, ccd, cl, outer), (gV, base, gO, L, m, s), R, x, dx, led, r1, r)
noncomputable def E23.pP {R : Result -> Shared -> Prop} : Prop := ∀  (hdummy : rw1 = rw1) (B : Below gV base outer gO) (F : Fr gO L s.heap m) (X : (K1 w.params).In gO) (N : News gO L s.heap led) (T : Top p loose mean mg mb gO) (S1 : Sel (x, cI 178 dx) led r1) (S2 : Sel (dx, dictOf [] 0) r1 r) (hxd : dx ≠ x) (hne1 : ∀ p ∈ r, p.1 ≠ x) (hne2 : ∀ p ∈ r, p.1 ≠ dx) (hd : dp + 10 < recursionLimit) (hu : un + 80 < cLine) (hret : ∀ h' tk' n' tk0, Fr gO L h' m -> News gO L h' ((x, bJ dx [] n') :: (dx, fQ (PyData.keyHash w.params (ofString "_initial_size")) tk0 z tz) :: r) -> R (.ok (.ret .none)) { s with heap := h', toks := tk' }), codeAny (model rw_rw0126_02.row.prog w) (ktrTop dp un gd cn ⟨.function, nms, ig, ic, mo⟩ L a ccd cl outer) (.call (.ref 115) ⟨[.ref x, .int z tz], []⟩) R s
noncomputable def E23.pQ := V6 λ a b c d e f => V6 λ g h i j k l => V6 λ m n o p q r => V6 λ s t u v w x => V6 λ y z A B C D => U λ E => λ F => @E23.pP a v w x d u e f b c p o g h i j k l m n q r t s z D A C F B E y
@[irreducible] noncomputable def E23.pv := @Classical.epsilon _ (by tm_at "ne") λ x => ¬ E23.pQ x
theorem af1 {R : Result -> Shared -> Prop} : @E23.pP w L m s mean gO mg mb p loose ccd a dp un gd cn nms ig ic mo cl outer base gV x led dx tz r z r1 R := bh E23.pQ (by with_unfolding_all rfl : E23.pv = _) (by
 w_top off
 intro hdummy B F X N T S1 S2 hxd hne1 hne2 hd hu hret;revert X
 k_fill
 intro X;replace N := S1.news2 S2 N;clear S1 S2;have hxd' := hxd.symm;k_dflt (tm_at "ks_enterD")
 k_steps
 all_goals first | exact hret _ _ _ _ (by k_asm) (News.tail' (News.tail' (by k_asm)))
 ) ((w, p, loose, mean, mg, mb), (dp, un, gd, cn, nms, ig), (ic, mo, a, ccd, cl, outer), (gV, base, gO, L, m, s), (R, x, dx, z, tz, led), r1, r)
example : True := by
 w_top off
 k_with "W call ref" => tm_at "ak"
 k_with "W wpAt" => first | tm_at "bT" | tm_at "bS" | tm_at "miss"
 k_with "W setItem ref" => tm_at "o"
 k_with "W subscriptTail" => tm_at "o"
 k_with "W setAttr ref" => tm_at "o"
 trivial
theorem ux {n : List (Addr × Obj)} {b : Addr} (h : ∀ p ∈ n, p.1 < a) (k : a < b) : ∀ p ∈ n, p.1 < b := λ p hp => Nat.lt_trans (h p hp) k
theorem zK (a : Addr) (vs : List Value) : (Code.builtin "type.__call__" ⟨.ref a :: vs, []⟩).weight = 1 := rfl
theorem zL (a : Addr) (vs : List Value) : (Code.builtin "type.__call__" ⟨.ref a :: vs, []⟩).cUnits = 1 := rfl
theorem nU (A : Around) (a : Addr) (vs : List Value) : (A.under (.builtin "type.__call__" ⟨.ref a :: vs, []⟩)).units = A.units + 1 := rfl
noncomputable def E21.pP {s1 : Str} : Prop := ∀  (hdummy : rw1 = rw1) (B : Below gV base outer gO) (F : Fr gO L s.heap m) (X : (K1 w.params).In gO) (N : News gO L s.heap news) (T : Top p loose mean mg mb gO) (hs1 : s1.length < 100) (hd : dp + 20 < recursionLimit) (hu : un + 150 < cLine) (hret : ∀ mk dmk ln dx x es ne kl n' tk0 h' tk', getL "_maxlen" es = some (some (.int wd tw)) -> getL "_splitchars" es = some (some (.str s2 t2)) -> getL "_lines" es = some (some (.ref ln)) -> getL "_current_line" es = some (some (.ref x)) -> getL "newline" es = some none -> getL "_append_chunk" es = some none -> getL "_str" es = some none -> Fr gO L h' m -> News gO L h' ((x, bJ dx [] n') :: (dx, fQ (PyData.keyHash w.params (ofString "_initial_size")) tk0 z tz) :: (ln, listOf #[] kl) :: (mk, instObj 94 dmk) :: (dmk, dictOf es ne) :: news) -> AllLt dmk news -> @LT.lt Nat _ dmk mk -> @LT.lt Nat _ mk ln -> @LT.lt Nat _ ln dx -> @LT.lt Nat _ dx x -> Q (.ref mk) { s with heap := h', toks := tk' }), wpAny (model rw_rw0126_02.row.prog w) (ktrTop dp un gd cn ⟨.function, nms, ig, ic, mo⟩ L a ccd cl outer) (call (.ref 94) [.int z tz, .int wd tw, .str s1 t1, .str s2 t2]) Q E s
noncomputable def E21.pQ := V6 λ a b c d e f => V6 λ g h i j k l => V6 λ m n o p q r => V6 λ s t u v w x => V6 λ y z A B C D => U λ E => U λ F => U λ G => U λ H => λ I => @E21.pP a v w x d u e f b c z p o g h i j k l m n q r t s y C I A D B E H F G
@[irreducible] noncomputable def E21.pv := @Classical.epsilon _ (by tm_at "ne") λ x => ¬ E21.pQ x
theorem af2 {s1 : Str} : @E21.pP w L m s mean gO mg mb p loose E ccd a dp un gd cn nms ig ic mo cl outer base gV Q tz news z tw wd t1 s2 t2 s1 := bh E21.pQ (by with_unfolding_all rfl : E21.pv = _) (by
 k_with "c5" => first | exact rm0 (by tm_at "h") rfl | exact rm1 (by tm_at "h") rfl | exact rm2 (by tm_at "h") rfl | exact rm3 (by tm_at "h") rfl | exact rmz (by tm_at "h") | ((try simp only [zK, depth_under_make, depth_under_kw, depth_in1, depth_deeper, depth_caller]); (try dsimp only [ktrTop]); lia)
 k_with "c6" => first | exact rm0 (by tm_at "h") rfl | exact rm1 (by tm_at "h") rfl | exact rm2 (by tm_at "h") rfl | exact rm3 (by tm_at "h") rfl | exact rmz (by tm_at "h") | (have hcL9 := cLine_is; (try simp only [zL, nU, units_in1, units_deeper, Around.mark_units, units_caller]); (try dsimp only [ktrTop]); lia)
 k_with "do" => (k_here; (with_reducible show wpAny _ _ (call (Value.ref 178) _) _ _ _); (tm_at "4"); k_dflt (refine' oW ?Fw ?Fx ?Fy ?Fz ?FA ?FB ?FC ?_; (case Fw | Fx | Fy => k_asm); (case Fz => kernel_rfl); (case FA => exact acR _ _); (case FB | FC => k_is)); intro x dx h1 F1 N1 l1 l2; (try dsimp only at N1); (have hdx1 := Nat.ne_of_lt l2); (have l9 := l1); (have l8 := ux l1 l2); (try k_lt l1); (try k_lt l8); refine' af1 rfl ?FD ?FE ?FF ?FG ?FH ?FI ?FJ ?FK ?FL ?FM ?FN ?FO ?_; (case FD | FE | FF | FG | FH => k_asm); (case FI | FJ => tm_at "7"); (case FK => tm_at "aS"); (case FL => exact λ p hp => Nat.ne_of_lt (Nat.lt_trans (l9 p hp) l2)); (case FM => exact λ p hp => Nat.ne_of_lt (l9 p hp)); (clear l9); (case FN => ktr_room); (case FO => ktr_units); intro h9 tk9 n9 tk8 F9 N9; (try dsimp only [PySem.W.InitBack]); (try refine ⟨rfl, ?_⟩); (try k_fold); (try k_sweep))
 k_with "W call ref" => first | tm_at "do" | tm_at "ac" | tm_at "ad" | tm_at "miss"
 k_with "ktr_room" => tm_at "a7"
 k_with "ktr_units" => tm_at "a8"
 intro hdummy B F X N T hs1 hd hu hret;revert X
 k_fill
 intro X
 k_steps
 rename News (E21.pv.2.2.2.1.2.2.1) _ _ _ => N9
 refine hret _ _ _ _ _ _ _ _ _ _ _ _ ?a1 ?a2 ?a3 ?a4 ?a5 ?a6 ?a7 ?F N9 ?l1 ?l2 ?l3 ?l4 ?l5
 case F => k_asm
 case l1 => assumption
 case l2 => assumption
 case l3 => assumption
 case l4 => assumption
 case l5 => assumption
 all_goals k_get
 ) ((w, p, loose, mean, mg, mb), (dp, un, gd, cn, nms, ig), (ic, mo, a, ccd, cl, outer), (gV, base, gO, L, m, s), (Q, E, z, wd, tz, tw), t1, t2, s1, s2, news)
example : True := by
 w_top off
 k_with "W call ref" => tm_at "ak"
 k_with "ktr_room" => tm_at "aK"
 k_with "ktr_units" => tm_at "aL"
 k_with "cS" => (k_here; (with_reducible show wpAny _ _ (call (Value.type _) [Value.ref _]) _ _ _); k_dflt (refine' kde_tupleOf ?FP ?FQ ?FR ?FS ?FT ?_; (case FP | FQ => k_asm); (case FR => tm_at "au"); (case FS => (simp only [List.size_toArray]; lia)); (case FT => exact rfl); k_whole); intro D' h' F' N' l1; (try k_lt l1); (try k_sweep))
 k_with "aT" => exact aF (by tm_at "h")
 k_with "c4" => (k_here; (with_reducible show wpAny _ _ (exec (Stmt.For (Expr.Name _ _) _ _ [] _) _) _ _ _); (tm_at "af"); (with_unfolding_all refine' rZ lF' ?FU ?FV ?_ (by intro _; rfl) (by passes_own); (case FU | FV => exact rfl); k_whole))
 k_with "dp" => (k_here; (tm_at "co"); (tm_at "af"); (tm_at "9"); refine' yC sr ahE (wsP ?FW) (WsL.mk (Ws.mk 0 0 0 []) ?_ ?_ ?_ ?_ [] ?_) (rest := ?FW) ?FX ?FY ?FZ ?G0 ?G1 ?G2 ?G3 ?_ ?G4; (case FX => assumption); (case FY => exact lF'); (case FZ => exact lN'); (case G0 | G1 => assumption); (case G2 => tm_at "ax"); (case G3 => exact aap (by assumption)); clear lF' lN'; (case G4 => intro c' u' h' tk' P' F' N'; exact absurd (P'.1 _ (List.mem_append.mpr (.inr (.head _)))) (by assumption)); intro I' pre' a' post' c' t' it' h' tk' e' P' off' F' N'; obtain ⟨⟨b', n', nt', cnt'⟩, tb', tn', tt', x', vs', k'⟩ := c'; ((refine Classical.byContradiction λ hG9' => ?_); obtain ⟨w1', w2', w3', w4', w5', w6', w7'⟩ := P'; (refine hG9' ?_); clear hG9'); (dsimp only [sr, ahE, kstB, List.cons_append, List.nil_append] at F' N' off' w2' w3' w4' w5' w6' w7'); (replace w4' := allLt_of w4'); (tm_at "az"); (k_lt w4'); (k_lt off'); (have w8' := congrArg List.length e'); (simp only [List.length_append, List.length_cons, List.length_nil] at w8'); (have w9' := IntsAre.length w3'); (have w10' : vs'.length <= 60 := by lia); (try k_sweep))
 k_with "dq" => (refine' UnrEnd.intro ?G5 ?G6 _ ?G7 ?G8 ⟨WsL.mk (Ws.mk ?_ ?_ ?_ ?_) ?_ ?_ ?_ ?_ ?_ ?_, ?G9, ?Ga, rfl, ?Gb⟩; (case G5 | G6 => k_asm); (case G9 => tm_at "ax"); (case Ga => (repeat (first | exact bD | refine dZ ?_ | (refine' d9 ?Gc ?_; (case Gc => tm_at "ah"))))); (case Gb => (first | refine acW (by assumption) (by assumption) (by assumption) (by assumption) (by assumption) (by assumption) (by assumption) ?_ | refine acX (by assumption) (by assumption) (by assumption) (by assumption) (by assumption) (by assumption) (by assumption) ?_ | refine acY (by assumption) (by assumption) (by assumption) (by assumption) (by assumption) (by assumption) (by assumption) ?_); first | exact aN (by tm_at "h") | ((tm_at "8") <;> first | with_reducible assumption | exact aN (by tm_at "h"))); (case G7 => ((dsimp only [sr, List.cons_append, List.nil_append]); (tm_at "Y"); (tm_at "Z"))); (case G8 => ((dsimp only [sr, List.cons_append, List.nil_append]); (tm_at "8") <;> first | with_reducible assumption | exact aF (by tm_at "h") | (tm_at "Q"))))
 k_with "k_all" => tm_at "a9"
 k_with "ktr_room" => tm_at "a7"
 k_with "ktr_units" => tm_at "a8"
 k_with "W call type:tuple" => first | tm_at "cS" | tm_at "miss"
 k_with "W exec For Name Attribute cons nil" => tm_at "aq"
 k_with "W exec For Name Call cons nil" => tm_at "aq"
 k_with "W exec For Name Name cons nil" => tm_at "aq"
 k_with "W pyIter str" => first | tm_at "dp" | tm_at "miss"
 k_with "W UnrEnd" => first | tm_at "dq" | tm_at "miss"
 trivial
noncomputable def nW : Stmt := (cg (eU 12 1)).getD 4 default
noncomputable def E3.pP {Q : Flow -> Shared -> Prop} {tb : Tok} {rest : List (Addr × Obj)} : Prop := ∀  (hdummy : rw1 = rw1) (F : Fr gO L s.heap (kstB m [(ofString "self", .ref x), (ofString "S", .str (ofString " ") tS), (ofString "T", .str (ofString "\t") tT), (ofString "b", .int 0 tb), (ofString "n", .int 0 tn), (ofString "nt", .int 0 tt), (ofString "count", .ref ca)])) (X : (K1 w.params).In gO) (N : News gO L s.heap ((ca, listOf (([] : List Value)).toArray kk) :: rest)) (T : Top p loose mean mg mb gO) (hh : A.handled = none) (hE : PassesOwn (model rw_rw0126_02.row.prog w) A (envOf (S "Whitespace.__init__") (aQ (eU 12 1)) L 263 (Value.ref 262)) E) (hx : (x, instObj 308 d) ∈ rest) (hdx : (d, dictOf es ne) ∈ rest) (graw : getL "raw" es = some (some (.str tx t))) (hlt : ∀ p ∈ rest, p.1 < ca) (htx : tx.cps.toList = lead ++ c :: cd) (hasc : ∀ c' ∈ lead ++ c :: cd, c' < 128) (hw : ∀ y ∈ lead, bY y) (hc : ¬ bY c) (hl : lead.length + cd.length < 50) (hd : A.depth + 5 < recursionLimit) (hu : A.units + 20 < cLine) (hret : ∀ (q : Ws) (b' n' nt' : Tok) (a' : Addr) (vs' : List Value) (k' : Nat) (u : Option Value) (h' : Heap) (tk' : Nat), q = jn lead -> IntsAre vs' q.cnt -> q.cnt.length <= lead.length -> AllLt a' rest -> Fr gO L h' (λ y => if y = ofString "ch" then u else if y = ofString "b" then some (.int q.b b') else if y = ofString "n" then some (.int q.n n') else if y = ofString "nt" then some (.int q.nt nt') else if y = ofString "count" then some (.ref a') else kstB m [(ofString "self", .ref x), (ofString "S", .str (ofString " ") tS), (ofString "T", .str (ofString "\t") tT), (ofString "b", .int 0 tb), (ofString "n", .int 0 tn), (ofString "nt", .int 0 tt), (ofString "count", .ref ca)] y) -> News gO L h' ((a', listOf vs'.toArray k') :: rest) -> Q .next { s with heap := h', toks := tk' }), wpAny (model rw_rw0126_02.row.prog w) A (exec nW (envOf (S "Whitespace.__init__") (aQ (eU 12 1)) L 263 (Value.ref 262))) Q E s
noncomputable def E3.pQ := V6 λ a b c d e f => V6 λ g h i j k l => V6 λ m n o p q r => V6 λ s t u v w x => U λ y => U λ z => U λ A => U λ B => U λ C => λ D => @E3.pP a i j k d h e f b c m n z q r y u C A p t g B o s v w l x D
@[irreducible] noncomputable def E3.pv := @Classical.epsilon _ (by tm_at "ne") λ x => ¬ E3.pQ x
theorem zM {Q : Flow -> Shared -> Prop} {tb : Tok} {rest : List (Addr × Obj)} : @E3.pP w L m s mean gO mg mb p loose E x tt es ne tn t c lead ca tx A cd d kk tS tT Q tb rest := bh E3.pQ (by with_unfolding_all rfl : E3.pv = _) (by
 k_with "c7" => assumption
 k_with "passes_own" => tm_at "bk"
 intro hdummy F X N T hh hE hx hdx graw hlt htx hasc hw hc hl hd hu hret;tm_at "ag";revert X
 k_fill
 intro X
 conv in nW => whnf
 k_steps
 all_goals (try walk_at "UnrEnd")
 rename Ws.mk _ _ _ _ = jn _ => w2
 rename (E3.pv.2.2.2.2.2.2.1) ++ (E3.pv.2.2.2.2.2.2.2.2.1) :: (E3.pv.2.2.2.2.2.2.2.1) = _ => e9
 rename ((⟨#[_]⟩ : Str) == ofString " ") = false => g1
 rename ((⟨#[_]⟩ : Str) == ofString "\t") = false => g2
 have e8 := yF e9 hw hc (by assumption) g1 g2;rw [e8] at w2;exact hret _ _ _ _ _ _ _ _ _ _ w2 (by assumption) (by dsimp only; rw [<- e8]; assumption) (by assumption) (by k_asm) (News.tail' (by k_asm))
 ) ((w, p, loose, mean, mg, mb), (A, gO, L, m, s, Q), (E, x, d, ca, es, ne), (kk, tx, t, tS, tT, tb), tn, tt, lead, cd, c, rest)
theorem abk {Q : Flow -> Shared -> Prop} {tb : Tok} {rest : List (Addr × Obj)} (hdummy : rw1 = rw1) (F : Fr gO L s.heap m) (X : (K1 w.params).In gO) (N : News gO L s.heap ((ca, listOf (([] : List Value)).toArray kk) :: rest)) (T : Top p loose mean mg mb gO) (hh : A.handled = none) (hE : PassesOwn (model rw_rw0126_02.row.prog w) A (envOf (S "Whitespace.__init__") (aQ (eU 12 1)) L 263 (Value.ref 262)) E) (hx : (x, instObj 308 d) ∈ rest) (hdx : (d, dictOf es ne) ∈ rest) (graw : getL "raw" es = some (some (.str tx t))) (hlt : ∀ p ∈ rest, p.1 < ca) (htx : tx.cps.toList = lead ++ c :: cd) (hasc : ∀ c' ∈ lead ++ c :: cd, c' < 128) (hw : ∀ y ∈ lead, bY y) (hc : ¬ bY c) (hl : lead.length + cd.length < 50) (hA : aB m [(ofString "self", .ref x), (ofString "S", .str (ofString " ") tS), (ofString "T", .str (ofString "\t") tT), (ofString "b", .int 0 tb), (ofString "n", .int 0 tn), (ofString "nt", .int 0 tt), (ofString "count", .ref ca)]) (hd : A.depth + 5 < recursionLimit) (hu : A.units + 20 < cLine) (hret : ∀ (q : Ws) (b' n' nt' : Tok) (a' : Addr) (vs' : List Value) (k' : Nat) (u : Option Value) (h' : Heap) (tk' : Nat), q = jn lead -> IntsAre vs' q.cnt -> q.cnt.length <= lead.length -> AllLt a' rest -> Fr gO L h' (λ y => if y = ofString "ch" then u else if y = ofString "b" then some (.int q.b b') else if y = ofString "n" then some (.int q.n n') else if y = ofString "nt" then some (.int q.nt nt') else if y = ofString "count" then some (.ref a') else m y) -> News gO L h' ((a', listOf vs'.toArray k') :: rest) -> Q .next { s with heap := h', toks := tk' }) : wpAny (model rw_rw0126_02.row.prog w) A (exec nW (envOf (S "Whitespace.__init__") (aQ (eU 12 1)) L 263 (Value.ref 262))) Q E s :=
 zM rfl (by rw [gk hA]; exact F) X N T hh hE hx hdx graw hlt htx hasc hw hc hl hd hu λ q b' n' nt' a' vs' k' u h' tk' e1 e2 e4 e3 F' N' => hret q b' n' nt' a' vs' k' u h' tk' e1 e2 e4 e3 (by rw [gk hA] at F'; exact F') N'
noncomputable def E26.pP : Prop := ∀  (hdummy : rw1 = rw1) (B : Below gV base outer gO) (F : Fr gO L s.heap m) (X : (K1 w.params).In gO) (N : News gO L s.heap news) (T : Top p loose mean mg mb gO) (htx : tx.cps.toList = lead ++ c :: cd) (hasc : ∀ c' ∈ lead ++ c :: cd, c' < 128) (hw : ∀ y ∈ lead, bY y) (hc : ¬ bY c) (hl : lead.length + cd.length < 50) (hd : dp + 20 < recursionLimit) (hu : un + 150 < cLine) (hret : ∀ x W h' tk', cj x (jn lead) W -> Fr gO L h' m -> News gO L h' (W ++ news) -> (∀ q ∈ news, ∀ p ∈ W, q.1 < p.1) -> Q (.ref x) { s with heap := h', toks := tk' }), wpAny (model rw_rw0126_02.row.prog w) (ktrTop dp un gd cn ⟨.function, nms, ig, ic, mo⟩ L a ccd cl outer) (call (.ref 308) [.str tx t]) Q E s
noncomputable def E26.pQ := V6 λ a b c d e f => V6 λ g h i j k l => V6 λ m n o p q r => V6 λ s t u v w x => V6 λ y z A B C D => U λ E => λ F => @E26.pP a v w x d u e f b c z p o g h i j k l m n q r t s y F B E C A D
@[irreducible] noncomputable def E26.pv := @Classical.epsilon _ (by tm_at "ne") λ x => ¬ E26.pQ x
theorem af3 : @E26.pP w L m s mean gO mg mb p loose E ccd a dp un gd cn nms ig ic mo cl outer base gV Q news t c lead tx cd := bh E26.pQ (by with_unfolding_all rfl : E26.pv = _) (by
 w_top off
 k_with "dr" => (k_here; k_dflt ((with_reducible show wpAny _ _ (exec (Stmt.For (Expr.Name _ _) _ _ [] _) _) _ _ _); (tm_at "af"); (tm_at "9"); (with_unfolding_all refine' abk rfl lF' ?Gd lN' ?Ge ?Gf ?Gg ?Gh ?Gi ?Gj ?Gk ?Gl ?Gm ?Gn ?Go ?Gp ?Gq ?Gr ?Gs ?_); (case Gd | Ge => k_asm); (case Gq => (repeat (refine lw (by exact rfl) ?_)); exact fC); (case Gf => exact rfl); (case Gg => passes_own); (case Gh | Gi => k_mem); (case Gj => k_get); (case Gk => ((tm_at "8") <;> first | with_reducible assumption | exact aN (by tm_at "h"))); (case Gl | Gm | Gn | Go | Gp => assumption); (case Gr => ktr_room); (case Gs => ktr_units); clear lF' lN'; intro q' b' n' nt' a' vs' k' u' h' tk' e1' e2' e4' e3' F' N'; (subst e1'); (have w9' := IntsAre.length e2'); (have w10' : vs'.length <= 60 := by lia); (k_lt e3'); (try k_sweep)))
 k_with "W exec For Name Attribute cons nil" => first | tm_at "dr" | tm_at "miss"
 k_with "W exec For Name Call cons nil" => tm_at "o"
 k_with "W exec For Name Name cons nil" => tm_at "o"
 k_with "W pyIter str" => tm_at "o"
 k_with "W UnrEnd" => tm_at "o"
 k_with "passes_own" => tm_at "o"
 intro hdummy B F X N T htx hasc hw hc hl hd hu hret;revert X
 k_fill
 intro X
 k_steps
 rename News (E26.pv.2.2.2.1.2.2.1) (E26.pv.2.2.2.1.2.2.2.1) _ _ => N9
 refine' hret _ [(?wT, bf (.ref ?wT2) (.int _ ?wtb)), (?wT2, ({ cls := .type "tuple", data := .seq ?wvs.toArray } : Obj)), (_, instObj 308 ?wdx), (?wdx, dictOf ?wes ?wne)] _ _ ?hW ?hF (az N9 ?hsub) ?hsep
 case hF => k_asm
 case hsub =>
   dsimp only [List.cons_append, List.nil_append];refine bO (by k_mem) (bO (by k_mem) (bO (by k_mem) (bO (by k_mem) ?_)));intro p9 hp9
   repeat (first | exact hp9 | apply List.Mem.tail)
 case hW =>
   exact ⟨_, _, _, _, _, _, _, _, _, _, rfl, by assumption, rfl, by k_get, by k_get, by k_get, by k_get, by k_get, by k_get, by k_get, by k_get, by k_get, by k_get⟩
 case hsep =>
   intro q9 hq9;refine aj ⟨aN (by assumption) q9 hq9, aj ⟨aN (by assumption) q9 hq9, aj ⟨?_, aj ⟨aN (by assumption) q9 hq9, λ _ h => absurd h List.not_mem_nil⟩⟩⟩⟩;refine' Nat.lt_trans (aN ?h1 q9 hq9) ?h2
   case h2 => dsimp only; assumption
   case h1 => assumption
 ) ((w, p, loose, mean, mg, mb), (dp, un, gd, cn, nms, ig), (ic, mo, a, ccd, cl, outer), (gV, base, gO, L, m, s), (Q, E, tx, t, lead, cd), c, news)
theorem zN {q : Ws} (hdummy : rw1 = rw1) (B : Below gV base outer gO) (F : Fr gO L s.heap m) (X : (K1 w.params).In gO) (N : News gO L s.heap led) (T : Top p loose mean mg mb gO) (hW : cj x q W) (hsub : ∀ p ∈ W, p ∈ led) (hn : q.cnt.length < 100) (hd : dp + 3 < recursionLimit) (hu : un + 30 < cLine) (hret : ∀ tk h' tk', Fr gO L h' m -> News gO L h' led -> Q (.int (aC q) tk) { s with heap := h', toks := tk' }) : wpAny (model rw_rw0126_02.row.prog w) (ktrTop dp un gd cn ⟨.function, nms, ig, ic, mo⟩ L a ccd cl outer) (call (.ref 270) [.ref x]) Q E s := by
 w_top off
 k_with "ds" => (k_here; (tm_at "aH"); k_dflt (refine' aaq ?Gt ?Gu ?Gv ?Gw ?_; (case Gt => k_asm); (case Gu => k_mem); (case Gv => assumption); (case Gw => tm_at "om"); k_whole))
 k_with "dt" => (k_here; (tm_at "ap"); k_dflt (refine' item_anyT ?Gx ?Gy ?Gz ?GA ?GB ?_ ?GC; (case Gx => exact News.isTup (by k_asm) (by k_mem)); (case Gy => assumption); (case Gz | GA | GB => tm_at "om"); (case GC => with_unfolding_all rfl); k_whole); intro _)
 k_with "ktr_room" => tm_at "aK"
 k_with "ktr_units" => tm_at "aL"
 k_with "W call builtin:len" => first | tm_at "ds" | tm_at "LENK" | tm_at "miss"
 k_with "W subscriptTail Name Name ref int" => first | tm_at "dt" | tm_at "miss"
 k_with "W exec For Name Attribute cons nil" => tm_at "aq"
 k_with "W exec For Name Call cons nil" => tm_at "aq"
 k_with "W exec For Name Name cons nil" => tm_at "aq"
 k_with "W call type:tuple" => tm_at "o"
 revert X
 k_fill
 intro X;tm_at "cp";replace N := fD N hsub;clear hsub;tm_at "aI";have hlen := hi.length
 k_steps
 exact hret _ _ _ (by k_asm) (News.tail' (News.tail' (News.tail' (News.tail' (by k_asm)))))
noncomputable def E6.pP {q : Ws} {ts : Int} {tt0 : Tok} : Prop := ∀ {W : List (Addr × Obj)} (hdummy : rw1 = rw1) (B : Below gV base outer gO) (F : Fr gO L s.heap m) (X : (K1 w.params).In gO) (N : News gO L s.heap led) (T : Top p loose mean mg mb gO) (hW : cj x q W) (hsub : ∀ p ∈ W, p ∈ led) (hn : q.cnt.length < 100) (hts : 1 <= ts) (hts2 : ts < 100) (hd : dp + 3 < recursionLimit) (hu : un + 30 < cLine) (hret : ∀ tk h' tk', Fr gO L h' m -> News gO L h' led -> Q (.int (bu q ts) tk) { s with heap := h', toks := tk' }), wpAny (model rw_rw0126_02.row.prog w) (ktrTop dp un gd cn ⟨.function, nms, ig, ic, mo⟩ L a ccd cl outer) (call (.ref 277) [.ref x, .int ts tt0]) Q E s
noncomputable def E6.pQ := V6 λ a b c d e f => V6 λ g h i j k l => V6 λ m n o p q r => V6 λ s t u v w x => V6 λ y z A B C D => λ E => @E6.pP a v w x d u e f b c z p o g h i j k l m n q r t s y A C B D E
@[irreducible] noncomputable def E6.pv := @Classical.epsilon _ (by tm_at "ne") λ x => ¬ E6.pQ x
theorem uy {q : Ws} {ts : Int} {tt0 : Tok} : @E6.pP w L m s mean gO mg mb p loose E ccd a dp un gd cn nms ig ic mo cl outer base gV Q x led q ts tt0 := bh E6.pQ (by with_unfolding_all rfl : E6.pv = _) (by
 w_top off
 k_with "du" => (k_here; (tm_at "aG"); (tm_at "af"); (tm_at "9"); refine' aar ?GD ?GE ?GF ?GG ?GH ?GI ?GJ ?GK ?GL ?_ ?_; (case GD => exact rfl); (case GE => exact lF'); (case GF => exact lN'); (case GG | GH | GI | GJ | GK => assumption); (case GL => k_dflt (exact rfl)); (all_goals (clear lF' lN'; first | (intro I' j' a' t' tv' it' h' tk' b1' b2' b3' b4' off' F' N'; (tm_at "az"); k_lt off') | (intro t' u' h' tk' F' N'))); (try k_sweep))
 k_with "dv" => (refine' UnrEnd.intro ?GM ?GN _ ?GO ?GP ⟨⟨_, ?GQ⟩, ?GR, rfl⟩; (case GM | GN => k_asm); (case GQ => k_dflt (exact rfl)); (case GR => (repeat (first | exact bD | refine dZ ?_ | (refine' d9 ?GS ?_; (case GS => tm_at "ah"))))); (case GO => ((tm_at "aj"); (tm_at "Y"); (tm_at "Z"))); (case GP => ((tm_at "aj"); (tm_at "8") <;> first | with_reducible assumption | exact aF (by tm_at "h") | (tm_at "Q"))))
 k_with "W pyIter ref" => first | tm_at "du" | tm_at "miss"
 k_with "W UnrEnd" => first | tm_at "dv" | tm_at "miss"
 intro W hdummy B F X N T hW hsub hn hts hts2 hd hu hret;revert X
 k_fill
 intro X;tm_at "cp";replace N := fD N hsub;clear hsub;tm_at "aI";have hlen := hi.length
 k_steps
 all_goals (try walk_at "UnrEnd")
 all_goals (refine' hret _ _ _ ?F ?N; (case F => k_asm); (case N => exact (News.tail' (News.tail' (News.tail' (News.tail' (by k_asm)))))))
 ) ((w, p, loose, mean, mg, mb), (dp, un, gd, cn, nms, ig), (ic, mo, a, ccd, cl, outer), (gV, base, gO, L, m, s), (Q, E, x, q, led, ts), tt0)
noncomputable def E13.pP {p9 : Ws} : Prop := ∀ {W : List (Addr × Obj)} {V : List (Addr × Obj)} (hdummy : rw1 = rw1) (B : Below gV base outer gO) (F : Fr gO L s.heap m) (X : (K1 w.params).In gO) (N : News gO L s.heap led) (T : Top p loose mean mg mb gO) (hW : cj x p9 W) (hV : cj y q9 V) (hsub : ∀ p ∈ W, p ∈ led) (hsuv : ∀ p ∈ V, p ∈ led) (hn : p9.cnt.length < 90) (hnq : q9.cnt.length < 90) (hb : p9.b < 90) (hbq : q9.b < 90) (hlo : 0 <= aC p9) (hd : dp + 20 < recursionLimit) (hu : un + 150 < cLine) (hret : ∀ h' tk', Fr gO L h' m -> News gO L h' led -> Q (.bool (cQ p9 q9)) { s with heap := h', toks := tk' }), wpAny (model rw_rw0126_02.row.prog w) (ktrTop dp un gd cn ⟨.function, nms, ig, ic, mo⟩ L a ccd cl outer) (call (.ref 298) [.ref x, .ref y]) Q E s
noncomputable def E13.pQ := V6 λ a b c d e f => V6 λ g h i j k l => V6 λ m n o p q r => V6 λ s t u v w x => V6 λ y z A B C D => λ E => @E13.pP a v w x d u e f b c z p o g h i j k l m n q r t s y A E B D C
@[irreducible] noncomputable def E13.pv := @Classical.epsilon _ (by tm_at "ne") λ x => ¬ E13.pQ x
theorem af4 {p9 : Ws} : @E13.pP w L m s mean gO mg mb p loose E ccd a dp un gd cn nms ig ic mo cl outer base gV Q x led y q9 p9 := bh E13.pQ (by with_unfolding_all rfl : E13.pv = _) (by
 w_top off
 k_with "dw" => (k_here; (tm_at "aG"); (tm_at "af"); (tm_at "9"); refine' yG ?GT ?GU ?GV ?GW ?GX ?GY ?GZ ?H0 ?H1 ?H2 ?_ ?_; (case GX => exact rfl); (case GY => exact lF'); (case GZ => exact lN'); (case H0 => assumption); (case H1 | H2 => tm_at "om"); (case GT | GU => k_dflt (exact rfl)); (case GV | GW => assumption); (all_goals (clear lF' lN'; first | (intro I' j' t' it' h' tk' b1' off' F' N'; (tm_at "az"); k_lt off') | (intro u' h' tk' al' F' N'))); (try k_sweep))
 k_with "dx" => (refine' UnrEnd.intro ?H3 ?H4 _ ?H5 ?H6 ⟨?H7, ?H8, rfl⟩; (case H3 | H4 => k_asm); (case H7 => first | assumption | lia); (case H8 => (repeat (first | exact bD | refine dZ ?_ | (refine' d9 ?H9 ?_; (case H9 => tm_at "ah"))))); (case H5 => ((tm_at "aj"); (tm_at "Y"); (tm_at "ay"))); (case H6 => ((tm_at "aj"); (tm_at "8") <;> first | with_reducible assumption | exact aF (by tm_at "h") | (tm_at "Q"))))
 k_with "cT" => (k_here; (with_reducible show wpAny _ _ (call (Value.ref 270) _) _ _ _); (tm_at "4"); k_dflt (refine' zN rfl ?Ha ?Hb ?Hc ?Hd ?He ?Hf ?Hg ?Hh ?Hi ?Hj ?_; (case Ha | Hb | Hc | Hd | He => k_asm); (case Hf => first | assumption); (case Hg => first | assumption | ((tm_at "aj"); (tm_at "Y"); (tm_at "ay"))); (case Hh => tm_at "aa"); (case Hi => ktr_room); (case Hj => ktr_units); k_whole); intro t9 h9 tk9 F9 N9; (tm_at "5"); (tm_at "6"); (try k_fold); (try k_sweep))
 k_with "cU" => (k_here; (with_reducible show wpAny _ _ (call (Value.ref 277) _) _ _ _); (tm_at "4"); k_dflt (refine' uy rfl ?Hk ?Hl ?Hm ?Hn ?Ho ?Hp ?Hq ?Hr ?Hs ?Ht ?Hu ?Hv ?_; (case Hk | Hl | Hm | Hn | Ho => k_asm); (case Hp => first | assumption); (case Hq => first | assumption | ((tm_at "aj"); (tm_at "Y"); (tm_at "ay"))); (case Hr | Hs | Ht => tm_at "aa"); (case Hu => ktr_room); (case Hv => ktr_units); k_whole); intro t9 h9 tk9 F9 N9; (tm_at "5"); (tm_at "6"); (try k_fold); (try k_sweep))
 k_with "W call ref" => first | tm_at "cU" | tm_at "cT" | tm_at "ac" | tm_at "ad" | tm_at "miss"
 k_with "W pyIter ref" => first | tm_at "dw" | tm_at "miss"
 k_with "W UnrEnd" => first | tm_at "dx" | tm_at "miss"
 k_with "W call builtin:len" => tm_at "bi"
 k_with "W subscriptTail Name Name ref int" => tm_at "o"
 intro W V hdummy B F X N T hW hV hsub hsuv hn hnq hb hbq hlo hd hu hret;revert X
 k_fill
 intro X;have hW' := hW;have hV' := hV;tm_at "bt";tm_at "bs";tm_at "aY";clear hsub hsuv;tm_at "aI";have hlo2 : aC (E13.pv.2.2.2.2.1.2.2.2.2.1) < 98 := by tm_at "aM"
 have hlo3 : aC (E13.pv.2.2.2.2.1.2.2.2.2.2) < 98 := by tm_at "aM"
 have hmx0 : 0 <= (if aC (E13.pv.2.2.2.2.1.2.2.2.2.2) > aC (E13.pv.2.2.2.2.1.2.2.2.2.1) then aC (E13.pv.2.2.2.2.1.2.2.2.2.2) else aC (E13.pv.2.2.2.2.1.2.2.2.2.1)) := by split <;> lia
 have hmx1 : (if aC (E13.pv.2.2.2.2.1.2.2.2.2.2) > aC (E13.pv.2.2.2.2.1.2.2.2.2.1) then aC (E13.pv.2.2.2.2.1.2.2.2.2.2) else aC (E13.pv.2.2.2.2.1.2.2.2.2.1)) < 98 := by split <;> lia
 k_steps
 any_goals (try (walk_at "pyIter ref"))
 all_goals (try k_steps)
 all_goals first | rw [afw (by assumption)] at hret | rw [sy (by assumption) (by assumption) (by assumption)] at hret | rw [acZ (by assumption) (by lia) rfl (by assumption) (by assumption)] at hret | rw [ac0 (by assumption) (by lia) rfl (by assumption)] at hret
 all_goals (refine' hret _ _ ?F ?N; (case F => k_asm); (case N => first | exact (News.tail' (News.tail' (News.tail' (News.tail' (News.tail' (News.tail' (News.tail' (News.tail' (by k_asm))))))))) | exact (News.tail' (News.tail' (News.tail' (News.tail' (News.tail' (News.tail' (News.tail' (News.tail' (News.tail' (by k_asm))))))))))))
 ) ((w, p, loose, mean, mg, mb), (dp, un, gd, cn, nms, ig), (ic, mo, a, ccd, cl, outer), (gV, base, gO, L, m, s), (Q, E, x, y, p9, q9), led)
theorem aiT (hdummy : rw1 = rw1) (B : Below gV base outer gO) (F : Fr gO L s.heap m) (X : (K1 w.params).In gO) (N : News gO L s.heap news) (T : Top p loose mean mg mb gO)  (hd : dp + 3 < recursionLimit) (hu : un + 30 < cLine) (hret : ∀ h' tk', Fr gO L h' m -> News gO L h' news -> Q (.bool (fU c)) { s with heap := h', toks := tk' }) : wpAny (model rw_rw0126_02.row.prog w) (ktrTop dp un gd cn ⟨.function, nms, ig, ic, mo⟩ L a ccd cl outer) (call (.ref 200) [.str ⟨#[c]⟩ t]) Q E s := by
 w_top off
 k_with "dy" => (k_here; (with_reducible show wpAny _ _ (compareOp CmpOp.In (Value.int _ _) (Value.ref 190)) _ _ _); k_dflt (refine' ahI ?Hw ?Hx ?_; (case Hw | Hx => k_asm); k_whole))
 k_with "dz" => (k_here; k_dflt (refine ord_of_char ?_))
 k_with "dA" => (k_here; (with_reducible show wpAny _ _ (getMethod (Value.ref 201) _ _) _ _ _); k_dflt (refine getMethod_intTab_get (aay (Frag.In.keeps (by k_asm) (Fr.keep (by k_asm)))) ?_))
 k_with "dB" => (k_here; k_dflt (refine' afA ?Hy ?Hz ?_ ?_; (case Hy | Hz => k_asm); k_whole); (first | (intro x' u' e') | intro e'))
 k_with "W getMethod ref" => first | tm_at "APPM" | tm_at "dA" | tm_at "bR" | tm_at "bm" | tm_at "bn" | tm_at "miss"
 k_with "k_all" => first | tm_at "aJ" | tm_at "miss"
 k_with "W call ref" => tm_at "ak"
 k_with "W compareOp In int ref" => first | tm_at "dy" | tm_at "miss"
 k_with "W call builtin:ord" => first | tm_at "dz" | tm_at "miss"
 k_with "W call builtin:dict.get" => first | tm_at "dB" | tm_at "miss"
 k_with "W exec For Name Attribute cons nil" => tm_at "o"
 k_with "W exec For Name Call cons nil" => tm_at "o"
 k_with "W exec For Name Name cons nil" => tm_at "o"
 k_with "W UnrEnd" => tm_at "o"
 k_with "W pyIter ref" => tm_at "o"
 revert X
 k_fill
 intro X
 k_steps
 exact hret _ _ (by k_asm) (by k_asm)
theorem aiU (hdummy : rw1 = rw1) (B : Below gV base outer gO) (F : Fr gO L s.heap m) (X : (K1 w.params).In gO) (N : News gO L s.heap news) (T : Top p loose mean mg mb gO)  (hd : dp + 3 < recursionLimit) (hu : un + 30 < cLine) (hret : ∀ t' h' tk', Fr gO L h' m -> News gO L h' news -> Q (.str (cB c) t') { s with heap := h', toks := tk' }) : wpAny (model rw_rw0126_02.row.prog w) (ktrTop dp un gd cn ⟨.function, nms, ig, ic, mo⟩ L a ccd cl outer) (call (.ref 246) [.str ⟨#[c]⟩ t]) Q E s := by
 w_top off
 k_with "dC" => (k_here; (try dsimp only); (with_reducible show wpAny _ _ (call (Value.builtin "str.lower") [Value.str _ _]) _ _ _); (refine SCL.lower (by show 1 <= 5592405; decide) ?_); intro _)
 k_with "W call builtin:str.lower" => first | tm_at "dC" | tm_at "miss"
 revert X
 k_fill
 intro X
 k_steps
 · rename sG _ = some _ => e9
   rw [<- vd e9];exact hret _ _ _ (by k_asm) (by k_asm)
 · rename sG _ = none => e9
   rw [<- vf e9];exact hret _ _ _ (by k_asm) (by k_asm)
theorem adH {p9 : Ws} (hdummy : rw1 = rw1) (B : Below gV base outer gO) (F : Fr gO L s.heap m) (X : (K1 w.params).In gO) (N : News gO L s.heap led) (T : Top p loose mean mg mb gO) (hW : cj x p9 W) (hV : cj y q9 V) (hsub : ∀ p ∈ W, p ∈ led) (hsuv : ∀ p ∈ V, p ∈ led) (hn : p9.cnt.length < 90) (hnq : q9.cnt.length < 90) (hd : dp + 20 < recursionLimit) (hu : un + 150 < cLine) (hret : ∀ h' tk', Fr gO L h' m -> News gO L h' led -> Q (.bool (decide (p9.cnt = q9.cnt /\ p9.b = q9.b))) { s with heap := h', toks := tk' }) : wpAny (model rw_rw0126_02.row.prog w) (ktrTop dp un gd cn ⟨.function, nms, ig, ic, mo⟩ L a ccd cl outer) (call (.ref 284) [.ref x, .ref y]) Q E s := by
 w_top off
 k_with "dD" => ((try dsimp only); first | with_reducible assumption | exact aag (by tm_at "h") (by tm_at "a4") | exact aah (by tm_at "h") (by tm_at "a4"))
 k_with "dE" => ((tm_at "cI"); (try dsimp only [ktrTop]); omega)
 k_with "dF" => (have hcL9 := cLine_is; (try simp only [units_in1, units_deeper, Around.mark_units, units_caller]); (try dsimp only [ktrTop]); omega)
 k_with "dG" => (k_here; k_dflt (refine' ac4 ?HA ?HB ?HC ?HD ?HE ?HF ?HG ?HH ?_; (case HA => k_asm); (case HB | HC => k_mem); (case HD => assumption); (case HE | HF => k_mem); (case HG => assumption); (case HH => ktr_units); k_whole))
 k_with "W getMethod ref" => first | tm_at "APPM" | tm_at "bR" | tm_at "bm" | tm_at "bn" | tm_at "miss"
 k_with "k_all" => tm_at "a9"
 k_with "k_ne" => first | tm_at "dD" | tm_at "miss"
 k_with "ktr_room" => first | tm_at "dE" | tm_at "miss"
 k_with "ktr_units" => first | tm_at "dF" | tm_at "miss"
 k_with "W compareOp Eq ref ref" => first | tm_at "dG" | tm_at "miss"
 k_with "W compareOp In int ref" => tm_at "o"
 k_with "W call builtin:ord" => tm_at "o"
 k_with "W call builtin:dict.get" => tm_at "o"
 k_with "W call builtin:str.lower" => tm_at "o"
 revert X
 k_fill
 intro X;have hW' := hW;have hV' := hV;obtain ⟨dx, es, ne, T1, T2, vs, tn, tt, tb, sb, rfl, hi, rfl, g1, g2, g3, g4, g5, g6, g7⟩ := hW';obtain ⟨dy, fs, nf, U1, U2, us, un', ut, ub, ub', rfl, hj, rfl, k1, k2, k3, k4, k5, k6, k7⟩ := hV';tm_at "aY";clear hsub hsuv;tm_at "aI"
 k_steps
 exact hret _ _ (by k_asm) (News.tail' (News.tail' (News.tail' (News.tail' (News.tail' (News.tail' (News.tail' (News.tail' (by k_asm)))))))))
theorem ah3 {p9 : Ws} (hdummy : rw1 = rw1) (B : Below gV base outer gO) (F : Fr gO L s.heap m) (X : (K1 w.params).In gO) (N : News gO L s.heap led) (T : Top p loose mean mg mb gO) (hW : cj x p9 W) (hV : cj y q9 V) (hsub : ∀ p ∈ W, p ∈ led) (hsuv : ∀ p ∈ V, p ∈ led) (hn : p9.cnt.length < 90) (hnq : q9.cnt.length < 90) (hb : p9.b < 90) (hbq : q9.b < 90) (hlo : 0 <= aC p9) (hd : dp + 20 < recursionLimit) (hu : un + 150 < cLine) (hret : ∀ D vs k R h' tk', aJ R vs (jr (λ a b => decide (b <= a)) p9 q9) -> (∀ z ∈ R, @LT.lt Nat _ D z.1) -> Fr gO L h' m -> News gO L h' ((D, listOf vs.toArray k) :: (led ++ R)) -> (∀ z ∈ led, @LT.lt Nat _ z.1 D) -> Q (.ref D) { s with heap := h', toks := tk' }) : wpAny (model rw_rw0126_02.row.prog w) (ktrTop dp un gd cn ⟨.function, nms, ig, ic, mo⟩ L a ccd cl outer) (call (.ref 305) [.ref x, .ref y]) Q E s := by
 w_top off
 k_with "dH" => (refine' UnrEnd.intro ?HI ?HJ _ ?HK ?HL ⟨.no ?HM rfl, ?HN⟩; (case HM => exact (decide_eq_false (by assumption))); (case HI | HJ => k_asm); (case HK => refine vq ?_; (tm_at "av"); ((tm_at "Y"); (tm_at "Z"))); (case HL => tm_at "b3"); (case HN => (repeat (first | exact bD | refine dZ ?_ | (refine' d9 ?HO ?_; (case HO => tm_at "ah"))))))
 k_with "dI" => ((tm_at "9"); (tm_at "aC"); refine' UnrEnd.intro ?HP ?HQ _ ?HR ?HS ⟨.yes ?_ ?_ ?_ ?_ ?_ ?HT ?HU rfl, ?HV⟩; (case HT => exact (decide_eq_true (by assumption))); (case HP | HQ => k_asm); (case HR => refine aaF ?_; (tm_at "av"); ((tm_at "Y"); (tm_at "Z"))); (case HS => tm_at "b4"); (case HU => tm_at "om"); (case HV => (repeat (first | exact bD | refine dZ ?_ | (refine' d9 ?HW ?_; (case HW => tm_at "ah"))))))
 k_with "dJ" => (k_here; (tm_at "aG"); (tm_at "af"); (tm_at "9"); refine' sX (λ a b => decide (b <= a)) ?HX ?HY ?HZ ?I0 ?I1 ?I2 ?I3 ?I4 ?I5 ?I6 ?I7 ?_ ?_; (case I2 => k_dflt (exact rfl)); (case I3 => exact lF'); (case I4 => exact lN'); (case HX | HY => k_dflt (exact rfl)); (case HZ | I0 => assumption); (case I1 => ((tm_at "aj"); (tm_at "8") <;> first | with_reducible assumption | exact aF (by tm_at "h") | exact aH (by tm_at "h") | (tm_at "Q"))); (case I5 => assumption); (case I6 | I7 => lia); (tm_at "bZ"); (try k_sweep))
 k_with "k_all" => tm_at "a0"
 k_with "W call ref" => first | tm_at "cU" | tm_at "cT" | tm_at "ac" | tm_at "ad" | tm_at "miss"
 k_with "k_ne" => first | tm_at "cK" | tm_at "miss"
 k_with "ktr_room" => tm_at "aK"
 k_with "ktr_units" => tm_at "aL"
 k_with "W exec For Name Attribute cons nil" => tm_at "aq"
 k_with "W exec For Name Call cons nil" => tm_at "aq"
 k_with "W exec For Name Name cons nil" => tm_at "aq"
 k_with "W UnrEnd" => first | tm_at "dI" | tm_at "dH" | tm_at "miss"
 k_with "W pyIter ref" => first | tm_at "dJ" | tm_at "miss"
 k_with "W compareOp Eq ref ref" => tm_at "o"
 revert X
 k_fill
 intro X;have hW' := hW;have hV' := hV;tm_at "bt";tm_at "bs";have N0 := N;tm_at "aY";clear hsub hsuv;tm_at "aI";have hlo2 : aC p9 < 98 := by tm_at "aM"
 have hlo3 : aC q9 < 98 := by tm_at "aM"
 tm_at "cz";tm_at "cC"
 k_steps
 all_goals (try (walk_at "UnrEnd"))
 rename aJ _ _ _ => tr9
 tm_at "aF";refine' hret _ _ _ _ _ _ (sS tr9) ?lR ?F (az N9 (sU ?sub)) ?lD
 case lR => assumption
 case F => k_asm
 case sub => (tm_at "Z")
 case lD => exact aN (by assumption)
theorem ah4 {p9 : Ws} (hdummy : rw1 = rw1) (B : Below gV base outer gO) (F : Fr gO L s.heap m) (X : (K1 w.params).In gO) (N : News gO L s.heap led) (T : Top p loose mean mg mb gO) (hW : cj x p9 W) (hV : cj y q9 V) (hsub : ∀ p ∈ W, p ∈ led) (hsuv : ∀ p ∈ V, p ∈ led) (hn : p9.cnt.length < 90) (hnq : q9.cnt.length < 90) (hb : p9.b < 90) (hbq : q9.b < 90) (hlo : 0 <= aC p9) (hd : dp + 20 < recursionLimit) (hu : un + 150 < cLine) (hret : ∀ D vs k R h' tk', aJ R vs (jr (λ a b => a != b) p9 q9) -> (∀ z ∈ R, @LT.lt Nat _ D z.1) -> Fr gO L h' m -> News gO L h' ((D, listOf vs.toArray k) :: (led ++ R)) -> (∀ z ∈ led, @LT.lt Nat _ z.1 D) -> Q (.ref D) { s with heap := h', toks := tk' }) : wpAny (model rw_rw0126_02.row.prog w) (ktrTop dp un gd cn ⟨.function, nms, ig, ic, mo⟩ L a ccd cl outer) (call (.ref 291) [.ref x, .ref y]) Q E s := by
 w_top off
 k_with "dK" => (refine' UnrEnd.intro ?I8 ?I9 _ ?Ia ?Ib ⟨.no ?Ic rfl, ?Id⟩; (case Ic => exact (by first | exact bne_eq_false_iff_eq.mpr (by assumption) | exact bne_eq_false_iff_eq.mpr (Decidable.of_not_not (by assumption)))); (case I8 | I9 => k_asm); (case Ia => refine vq ?_; (tm_at "av"); ((tm_at "Y"); (tm_at "Z"))); (case Ib => tm_at "b3"); (case Id => (repeat (first | exact bD | refine dZ ?_ | (refine' d9 ?Ie ?_; (case Ie => tm_at "ah"))))))
 k_with "dL" => ((tm_at "9"); (tm_at "aC"); refine' UnrEnd.intro ?If ?Ig _ ?Ih ?Ii ⟨.yes ?_ ?_ ?_ ?_ ?_ ?Ij ?Ik rfl, ?Il⟩; (case Ij => exact (bne_iff_ne.mpr (by assumption))); (case If | Ig => k_asm); (case Ih => refine aaF ?_; (tm_at "av"); ((tm_at "Y"); (tm_at "Z"))); (case Ii => tm_at "b4"); (case Ik => tm_at "om"); (case Il => (repeat (first | exact bD | refine dZ ?_ | (refine' d9 ?Im ?_; (case Im => tm_at "ah"))))))
 k_with "dM" => (k_here; (tm_at "aG"); (tm_at "af"); (tm_at "9"); refine' sX (λ a b => a != b) ?In ?Io ?Ip ?Iq ?Ir ?Is ?It ?Iu ?Iv ?Iw ?Ix ?_ ?_; (case Is => k_dflt (exact rfl)); (case It => exact lF'); (case Iu => exact lN'); (case In | Io => k_dflt (exact rfl)); (case Ip | Iq => assumption); (case Ir => ((tm_at "aj"); (tm_at "8") <;> first | with_reducible assumption | exact aF (by tm_at "h") | exact aH (by tm_at "h") | (tm_at "Q"))); (case Iv => assumption); (case Iw | Ix => lia); (tm_at "bZ"); (try k_sweep))
 k_with "W UnrEnd" => first | tm_at "dL" | tm_at "dK" | tm_at "miss"
 k_with "W pyIter ref" => first | tm_at "dM" | tm_at "miss"
 revert X
 k_fill
 intro X;have hW' := hW;have hV' := hV;tm_at "bt";tm_at "bs";have N0 := N;tm_at "aY";clear hsub hsuv;tm_at "aI";have hlo2 : aC p9 < 98 := by tm_at "aM"
 have hlo3 : aC q9 < 98 := by tm_at "aM"
 tm_at "cz";tm_at "cC"
 k_steps
 all_goals (try (walk_at "UnrEnd"))
 rename aJ _ _ _ => tr9
 tm_at "aF";refine' hret _ _ _ _ _ _ (sS tr9) ?lR ?F (az N9 (sU ?sub)) ?lD
 case lR => assumption
 case F => k_asm
 case sub => (tm_at "Z")
 case lD => exact aN (by assumption)
noncomputable def E27.pP : Prop := ∀  (hdummy : rw1 = rw1) (B : Below gV base outer gO) (F : Fr gO L s.heap m) (X : (K1 w.params).In gO) (N : News gO L s.heap led) (T : Top p loose mean mg mb gO) (S1 : Sel (140, oL) led r1) (S2 : Sel (147, oS) r1 r2) (S3 : Sel (x, bJ dx l n) r2 r3) (S4 : Sel (dx, fQ hs tk0 z tz) r3 r4) (S5 : Sel (ln, listOf ls.toArray kl) r4 r) (hmk : (mk, instObj 94 dmk) ∈ r) (hdmk : (dmk, dictOf es ne) ∈ r) (gc : getL "_current_line" es = some (some (.ref x))) (gl : getL "_lines" es = some (some (.ref ln))) (o1 : @LT.lt Nat _ 147 ln) (o2 : @LT.lt Nat _ ln dx) (o3 : @LT.lt Nat _ dx x) (e1 : ∀ p ∈ r, p.1 ≠ 140) (e2 : ∀ p ∈ r, p.1 ≠ 147) (e3 : ∀ p ∈ r, p.1 ≠ x) (e4 : ∀ p ∈ r, p.1 ≠ dx) (e5 : ∀ p ∈ r, p.1 ≠ ln) (ht1 : ao 93 19 oL) (ht2 : ao 96 32 oS) (G : AllBare s.gens) (hzb : 0 <= z /\ z < 1000) (hls : ls.length < 900) (gm : getL "_maxlen" es = some (some (.int wd tw))) (gsp : getL "_splitchars" es = some (some (.str (ofString ";") tsp))) (hwf : fs.length < 1000) (hwp : ps.length < 1000) (hfit : z + ((bz l + (fs.length + ps.length) : Nat) : Int) <= wd) (hall : AllIn l r) (hw : ∀ q' ∈ l, wide q' < 100000) (hn : l.length < 90) (hd : dp + 60 < recursionLimit) (hu : un + 500 < cLine) (hret : ∀ s' oL' oS' n' tz' kl' T, Fr gO L s'.heap m -> News gO L s'.heap ((140, oL') :: (147, oS') :: (x, bJ dx (l ++ [⟨T, fs, tf, ps, tp⟩]) n') :: (dx, fQ hs tk0 z tz') :: (ln, listOf (ls).toArray kl') :: (T, bf (.str fs tf) (.str ps tp)) :: r) -> AllLt T r -> @LT.lt Nat _ x T -> ao 93 19 oL' -> ao 96 32 oS' -> AllBare s'.gens -> s'.os = s.os -> Q .none s'), wpAny (model rw_rw0126_02.row.prog w) (ktrTop dp un gd cn ⟨.function, nms, ig, ic, mo⟩ L a ccd cl outer) (call (.ref 91) [.ref mk, .str fs tf, .str ps tp]) Q E s
noncomputable def E27.pQ := V6 λ a b c d e f => V6 λ g h i j k l => V6 λ m n o p q r => V6 λ s t u v w x => V6 λ y z A B C D => V6 λ E F G H I J => V6 λ K L M N O P => V6 λ Q R S T W X => V6 λ Y Z α β γ δ => U λ ε => λ ζ => @E27.pP a v w x d u e f b c z p o g h i j k l m n q r t s H y C Y D F G ε ζ O T δ M Z I J K α A B E L β γ P N Q R S W X
@[irreducible] noncomputable def E27.pv := @Classical.epsilon _ (by tm_at "ne") λ x => ¬ E27.pQ x
theorem ah5 : @E27.pP w L m s mean gO mg mb p loose E ccd a dp un gd cn nms ig ic mo cl outer base gV n Q x led dx es ne oL oS tz l r z r1 kl hs tk0 r2 mk dmk ln ls r3 r4 tw wd tsp tf tp fs ps := bh E27.pQ (by with_unfolding_all rfl : E27.pv = _) (by
 w_top off
 k_with "dN" => (k_here; (tm_at "a5"); (tm_at "4"); k_dflt (refine' qR rfl ?Iy ?Iz ?IA ?IB ?IC ?ID ?IE ?IF ?IG ?IH ?II ?IJ ?IK ?IL ?IM ?IN ?IO ?_; (case Iy | Iz | IA | IB | IC => k_asm); (case ID => tm_at "7"); (case IE | IF => k_mem); (case IG => tm_at "ae"); (case IH => first | exact ⟨by k_mem, trivial⟩ | exact ⟨by k_mem, by k_mem, trivial⟩ | (tm_at "bp")); (case II => tm_at "bo"); (case IJ => tm_at "aa"); (case IK => k_all); (case IL => assumption); (case IM => k_asm); (case IN => ktr_room); (case IO => ktr_units); k_whole); intro s9 t9 oP9 F9 N9 ht9 G9 os9; (tm_at "5"); (tm_at "aA"); (tm_at "6"); (try k_fold); (try k_sweep))
 k_with "W getAttr ref" => first | tm_at "bK" | tm_at "cP" | tm_at "bh" | tm_at "miss"
 k_with "k_all" => first | tm_at "aJ" | tm_at "miss"
 k_with "W callWith ref" => first | tm_at "cQ" | tm_at "aW" | tm_at "miss"
 k_with "W call ref" => first | tm_at "dN" | tm_at "bW" | tm_at "aX" | tm_at "ac" | tm_at "ad" | tm_at "miss"
 k_with "ktr_room" => tm_at "a7"
 k_with "ktr_units" => tm_at "a8"
 k_with "W truthy ref" => first | tm_at "bU" | tm_at "miss"
 k_with "W setItem ref" => first | tm_at "cL" | tm_at "miss"
 k_with "W subscriptTail" => first | tm_at "bV" | tm_at "miss"
 k_with "W setAttr ref" => first | tm_at "cM" | tm_at "miss"
 k_with "W eval Call Attribute" => first | tm_at "cO" | tm_at "miss"
 k_with "W exec For Name Attribute cons nil" => tm_at "o"
 k_with "W exec For Name Call cons nil" => tm_at "o"
 k_with "W exec For Name Name cons nil" => tm_at "o"
 k_with "W UnrEnd" => tm_at "o"
 k_with "W pyIter ref" => tm_at "o"
 intro hdummy B F X N T S1 S2 S3 S4 S5 hmk hdmk gc gl o1 o2 o3 e1 e2 e3 e4 e5 ht1 ht2 G hzb hls gm gsp hwf hwp hfit hall hw hn hd hu hret;revert X
 k_fill
 intro X;tm_at "bj";clear S1 S2 S3 S4 S5;have hwq : wide ⟨0, (E27.pv.2.2.2.2.2.2.2.1.2.2.2.2.1), (E27.pv.2.2.2.2.2.2.2.1.2.1), (E27.pv.2.2.2.2.2.2.2.1.2.2.2.2.2), (E27.pv.2.2.2.2.2.2.2.1.2.2.1)⟩ < 100000 := by unfold wide; dsimp only; lia
 have hwl := ji hw (Nat.lt_trans hn (by decide))
 k_steps
 all_goals first | (exfalso; lia) | skip
 rename News (E27.pv.2.2.2.1.2.2.1) (E27.pv.2.2.2.1.2.2.2.1) _ _ => N9
 refine hret _ _ _ _ _ _ _ (by k_asm) (Sel.keep5 N9 (by tm_at "7") (by tm_at "7") (by tm_at "7") (by tm_at "7") (by tm_at "7") (by tm_at "Z")) (by assumption) (by assumption) (by assumption) (by assumption) (by assumption) ?_
 (repeat (tm_at "aR"))
 ) ((w, p, loose, mean, mg, mb), (dp, un, gd, cn, nms, ig), (ic, mo, a, ccd, cl, outer), (gV, base, gO, L, m, s), (Q, E, mk, dmk, x, dx), (ln, es, ne, n, kl, hs), (tk0, ls, z, wd, tz, tw), (tsp, tf, tp, l, fs, ps), (led, r1, r2, r3, r4, r), oL, oS)
theorem wz {prog : Program} {y : Str} {Q : Bool -> Shared -> Prop} (h0 : 0 < y.length) (h1 : y.length < 100000) (k : Q true { s with toks := s.toks + 1 + 1 }) : wpAny (model prog w) A (truthy (.str y t)) Q E s := by
 w_top off
 k_with "k_sel" => tm_at "7"
 k_with "k_off" => first | with_reducible assumption | exact aH (by tm_at "h") | ((tm_at "8") <;> first | with_reducible assumption | (apply Ne.symm; with_reducible assumption) | exact aH (by tm_at "h") | exact Nat.ne_of_lt (by assumption) | exact Nat.ne_of_gt (by assumption) | ((try dsimp only); lia))
 k_with "dO" => (k_here; (with_reducible show wpAny _ _ (exec (Stmt.For (Expr.Name _ _) _ _ (_ :: _) _) _) _ _ _); (tm_at "af"); (with_unfolding_all refine' rZ lF' ?IP ?IQ ?_ (by intro _; rfl) (by passes_own); (case IP | IQ => exact rfl); k_whole))
 k_with "dP" => (k_here; (tm_at "co"); (tm_at "af"); (tm_at "9"); refine' oY (l := [ofString ";"]) rfl lF' lN' ?IR ?IS ?_; (case IR | IS => first | kernel_rfl! | decide +kernel); clear lF' lN'; intro i' h' F' N' l1; (try k_lt l1); (try simp only [List.map_cons, List.map_nil]); (try k_sweep))
 k_with "k_rng" => ((tm_at "af"); (tm_at "9"); refine' sY (by k_dflt (exact rfl)) lF' lN' (by assumption) (by first | lia | ((tm_at "aN"); lia)) (by first | lia | ((tm_at "aN"); lia)) ?_; clear lF' lN'; intro i' h' ps' F' N' l1; (try k_lt l1); (try k_sweep))
 k_with "dQ" => ((tm_at "aG"); (tm_at "k_rng"))
 k_with "dR" => (first | (refine aZ.succ (λ v' it' h' tk' P' F' N' => ?_); obtain ⟨u', e'⟩ := P'; subst e'; (try k_sweep)) | (refine aZ.zero (λ h' tk' F' N' => ?_); (try k_sweep)))
 k_with "dS" => (k_here; (tm_at "ap"); k_dflt (refine' yp (r := .ref _) ?IT ?IU ?IV ?IW ?IX ?IY ?IZ ?J0 ?J1 ?J2 ?J3 ?J4 ?_; (case IT | IU | IV => k_asm); (case IW => k_mem); (case IZ => exact ac6 _ _ _); (case IX => k_mem); (case IY => ((tm_at "aN"); lia)); (case J0 => lia); (case J1 | J2 | J3 => k_is); (case J4 => with_unfolding_all rfl); k_whole); (refine wpAny_bind (wpAny_of_eq (by with_unfolding_all rfl) (wpAny_pure ?_))))
 k_with "cV" => (k_here; (tm_at "a5"); (tm_at "4"); k_dflt (refine' qR rfl ?J5 ?J6 ?J7 ?J8 ?J9 ?Ja ?Jb ?Jc ?Jd ?Je ?Jf ?Jg ?Jh ?Ji ?Jj ?Jk ?Jl ?_; (case J5 | J6 | J7 | J8 | J9 => k_asm); (case Ja => tm_at "7"); (case Jb | Jc => k_mem); (case Jd => tm_at "ae"); (case Je => tm_at "cx"); (case Jf => tm_at "bo"); (case Jg => tm_at "aa"); (case Jh => k_all); (case Ji => assumption); (case Jj => k_asm); (case Jk => ktr_room); (case Jl => ktr_units); k_whole); intro s9 t9 oP9 F9 N9 ht9 G9 os9; (tm_at "5"); (tm_at "aA"); (tm_at "6"); (try k_fold); (try k_sweep))
 k_with "cW" => (k_here; (tm_at "bE"); (tm_at "4"); k_dflt (refine' wy rfl ?Jm ?Jn ?Jo ?Jp ?Jq ?Jr ?Js ?Jt ?Ju ?Jv ?Jw ?Jx ?Jy ?Jz ?JA ?JB ?JC ?_; (case Jm | Jn | Jo | Jp | Jq => k_asm); (case Jr => tm_at "7"); (case Js | Jt => k_mem); (case Ju => tm_at "ae"); (case Jv => tm_at "cx"); (case Jw => tm_at "bo"); (case Jx => tm_at "aa"); (case Jy => k_all); (case Jz => assumption); (case JA => k_asm); (case JB => ktr_room); (case JC => ktr_units); k_whole); intro s9 t9 oP9 F9 N9 ht9 G9 os9; (tm_at "5"); (tm_at "aA"); (tm_at "6"); (try k_fold); (try k_sweep))
 k_with "dT" => (k_here; (with_reducible show wpAny _ _ (call (Value.ref 160) _) _ _ _); (tm_at "4"); k_dflt (refine' abj rfl ?JD ?JE ?JF ?JG ?JH ?JI ?JJ ?JK ?JL ?JM ?JN ?JO ?JP ?JQ ?JR ?JS ?JT ?_; (case JD | JE | JF | JG | JH => k_asm); (case JI | JJ | JK => tm_at "7"); (case JL | JM | JN => tm_at "aS"); (case JO | JP => k_all); (case JQ | JR => tm_at "aa"); (case JS => ktr_room); (case JT => ktr_units); k_whole); intro h9 tk9 n9 tz9 F9 N9; (tm_at "5"); (tm_at "6"); (try k_fold); (try k_sweep))
 k_with "dU" => (k_here; (with_reducible show wpAny _ _ (call (Value.ref 130) _) _ _ _); (tm_at "4"); k_dflt (refine' zH rfl ?JU ?JV ?JW ?JX ?JY ?JZ ?K0 ?K1 ?K2 ?K3 ?K4 ?K5 ?_; (case JU | JV | JW | JX | JY => k_asm); (case JZ => k_updF); (case K0 => k_mem); (case K1 => tm_at "aS"); (case K2 | K3 => ((tm_at "aN"); lia)); (case K4 => ktr_room); (case K5 => ktr_units); k_whole); intro T9 h9 tk9 n9 F9 N9 l9; (tm_at "5"); (try k_lt l9); (tm_at "6"); (try k_fold); (try k_sweep))
 k_with "W call ref" => first | tm_at "dU" | tm_at "dT" | tm_at "cW" | tm_at "cV" | tm_at "bW" | tm_at "aX" | tm_at "ac" | tm_at "ad" | tm_at "miss"
 k_with "W subscriptTail" => first | tm_at "dS" | tm_at "bV" | tm_at "miss"
 k_with "W exec For" => first | tm_at "dO" | tm_at "miss"
 k_with "W pyIter str" => first | tm_at "dP" | tm_at "miss"
 k_with "W pyIter ref" => first | tm_at "dQ" | tm_at "miss"
 k_with "W aZ" => first | tm_at "dR" | tm_at "miss"
 k_with "W compareOp NotEq ref ref" => first | tm_at "cN" | tm_at "miss"
 refine PySem.P.truthy_str (x := y) (by lia) ?_;have e : ((y.length : Int) != 0) = true := by rw [bne_iff_ne]; lia
 rw [e]; exact k
noncomputable def E29.pP : Prop := ∀  (hdummy : rw1 = rw1) (B : Below gV base outer gO) (F : Fr gO L s.heap m) (X : (K1 w.params).In gO) (N : News gO L s.heap led) (T : Top p loose mean mg mb gO) (S1 : Sel (140, oL) led r1) (S2 : Sel (147, oS) r1 r2) (S3 : Sel (x, bJ dx (l ++ [q]) n) r2 r3) (S4 : Sel (dx, fQ hs tk0 z tz) r3 r4) (S5 : Sel (ln, listOf ls.toArray kl) r4 r) (hmk : (mk, instObj 94 dmk) ∈ r) (hdmk : (dmk, dictOf es ne) ∈ r) (gc : getL "_current_line" es = some (some (.ref x))) (gl : getL "_lines" es = some (some (.ref ln))) (o1 : @LT.lt Nat _ 147 ln) (o2 : @LT.lt Nat _ ln dx) (o3 : @LT.lt Nat _ dx x) (e1 : ∀ p ∈ r, p.1 ≠ 140) (e2 : ∀ p ∈ r, p.1 ≠ 147) (e3 : ∀ p ∈ r, p.1 ≠ x) (e4 : ∀ p ∈ r, p.1 ≠ dx) (e5 : ∀ p ∈ r, p.1 ≠ ln) (ht1 : ao 93 19 oL) (ht2 : ao 96 32 oS) (G : AllBare s.gens) (hzb : 0 <= z /\ z < 1000) (hls : ls.length < 900) (gm : getL "_maxlen" es = some (some (.int wd tw))) (gsp : getL "_splitchars" es = some (some (.str (ofString ";") tsp))) (hwf : fs.length < 1000) (hwp : ps.length < 1000) (hp0 : 0 < ps.length) (hall : AllIn (l ++ [q]) r) (hw : ∀ q' ∈ l ++ [q], wide q' < 100000) (hn : l.length < 90) (hbig : wd < z + ((bz l + (q.f.length + q.p.length) + (fs.length + ps.length) : Nat) : Int)) (hqp0 : 0 < q.p.length) (hqp1 : q.p.length < 100000) (hc1 : (Txt.item q.p (-1) == ofString ";") = true) (hd : dp + 60 < recursionLimit) (hu : un + 500 < cLine) (hret : ∀ s' oL' oS' n' tz' kl' T t', Fr gO L s'.heap m -> News gO L s'.heap ((140, oL') :: (147, oS') :: (x, bJ dx [⟨T, fs, tf, ps, tp⟩] n') :: (dx, fQ hs tk0 0 tz') :: (ln, listOf (ls ++ [Value.str (text (l ++ [q])) t']).toArray kl') :: (T, bf (.str fs tf) (.str ps tp)) :: r) -> AllLt T r -> @LT.lt Nat _ x T -> ao 93 19 oL' -> ao 96 32 oS' -> AllBare s'.gens -> s'.os = s.os -> Q .none s'), wpAny (model rw_rw0126_02.row.prog w) (ktrTop dp un gd cn ⟨.function, nms, ig, ic, mo⟩ L a ccd cl outer) (call (.ref 91) [.ref mk, .str fs tf, .str ps tp]) Q E s
noncomputable def E29.pQ := V6 λ a b c d e f => V6 λ g h i j k l => V6 λ m n o p q r => V6 λ s t u v w x => V6 λ y z A B C D => V6 λ E F G H I J => V6 λ K L M N O P => V6 λ Q R S T W X => V6 λ Y Z α β γ δ => U λ ε => U λ ζ => λ η => @E29.pP a v w x d u e f b c z p o g h i j k l m n q r t s H y C Z D F G ζ η O W ε M α I J K β A B E L γ δ P T N Q R S X Y
@[irreducible] noncomputable def E29.pv := @Classical.epsilon _ (by tm_at "ne") λ x => ¬ E29.pQ x
theorem ah6 : @E29.pP w L m s mean gO mg mb p loose E ccd a dp un gd cn nms ig ic mo cl outer base gV n Q x led dx es ne oL oS tz l r z r1 kl hs tk0 r2 mk dmk ln ls r3 r4 tw q wd tsp tf tp fs ps := bh E29.pQ (by with_unfolding_all rfl : E29.pv = _) (by
 k_with "dV" => (k_dflt (refine wz (by tm_at "h") (by lia) ?_))
 k_with "W truthy str" => first | tm_at "dV" | tm_at "miss"
 intro hdummy B F X N T S1 S2 S3 S4 S5 hmk hdmk gc gl o1 o2 o3 e1 e2 e3 e4 e5 ht1 ht2 G hzb hls gm gsp hwf hwp hp0 hall hw hn hbig hqp0 hqp1 hc1 hd hu hret;revert X
 k_fill
 intro X;tm_at "bj";clear S1 S2 S3 S4 S5;have hwq : wide ⟨0, (E29.pv.2.2.2.2.2.2.2.1.2.2.2.2.2), (E29.pv.2.2.2.2.2.2.2.1.2.1), (E29.pv.2.2.2.2.2.2.2.2.1.1), (E29.pv.2.2.2.2.2.2.2.1.2.2.1)⟩ < 100000 := by unfold wide; dsimp only; lia
 have hq := hall.get (E29.pv.2.2.2.2.2.2.2.1.2.2.2.1) (List.mem_append_right _ (.head _));have hwl := ji hw (by tm_at "aZ");simp only [cH, ie] at hwl
 k_steps
 all_goals first | (exfalso; lia) | (exfalso; simp_all; done) | skip
 all_goals (rename News (E29.pv.2.2.2.1.2.2.1) (E29.pv.2.2.2.1.2.2.2.1) _ _ => N9; (try simp only [List.push_toArray] at N9); refine hret _ _ _ _ _ _ _ _ (by k_asm) (Sel.keep5 N9 (by tm_at "7") (by tm_at "7") (by tm_at "7") (by tm_at "7") (by tm_at "7") (by intro p9 hp9; first | exact hp9 | (rcases List.mem_cons.mp hp9 with hh | hh; (rw [hh]; repeat (first | exact List.Mem.head _ | apply List.Mem.tail)); repeat (first | exact hh | apply List.Mem.tail)))) (by assumption) (by assumption) (by assumption) (by assumption) (by assumption) ?_)
 all_goals ((repeat (tm_at "aR")))
 ) ((w, p, loose, mean, mg, mb), (dp, un, gd, cn, nms, ig), (ic, mo, a, ccd, cl, outer), (gV, base, gO, L, m, s), (Q, E, mk, dmk, x, dx), (ln, es, ne, n, kl, hs), (tk0, ls, z, wd, tz, tw), (tsp, tf, tp, q, l, fs), (ps, led, r1, r2, r3, r4), r, oL, oS)
example : True := by
 w_top off
 k_with "W getAttr ref" => tm_at "bJ"
 k_with "W callWith ref" => first | tm_at "aW" | tm_at "miss"
 k_with "W call ref" => tm_at "ak"
 k_with "ktr_room" => tm_at "aK"
 k_with "ktr_units" => tm_at "aL"
 k_with "W setItem ref" => tm_at "o"
 k_with "W subscriptTail" => tm_at "o"
 k_with "W setAttr ref" => tm_at "o"
 k_with "W compareOp NotEq ref ref" => tm_at "o"
 k_with "W eval Call Attribute" => tm_at "o"
 k_with "W pyIter str" => tm_at "o"
 k_with "W pyIter ref" => tm_at "o"
 k_with "W exec For" => tm_at "o"
 k_with "W aZ" => tm_at "o"
 k_with "W truthy str" => tm_at "o"
 trivial
theorem ah7 {a b c d e : Addr × Obj} (N : News gO L h (a :: b :: c :: d :: e :: r)) : News gO L h (a :: b :: r) := λ p hp => by
 rcases List.mem_cons.mp hp with rfl | hp
 · exact N _ (.head _)
 · rcases List.mem_cons.mp hp with rfl | hp
   · exact N _ (.tail _ (.head _))
   · exact N _ (.tail _ (.tail _ (.tail _ (.tail _ (.tail _ hp)))))
theorem zO (h : ∀ y ∈ xs, y.length < 1000) : (xs.map (·.length)).sum <= xs.length * 1000 := by
 induction xs with
 | nil => simp
 | cons y r ih =>
   have h1 := h y (.head _);have h2 := ih λ z hz => h z (.tail _ hz)
   rw [List.map_cons, List.sum_cons, List.length_cons];lia
theorem wA (h : ∀ y ∈ xs, y.length < 1000) (hn : xs.length < 900) (hq : tx.length < 1000) (hs : sep.length < 10) : ((xs ++ [tx]).map (·.length)).sum + (xs ++ [tx]).length * sep.length <= 16777216 := by
 have h1 := zO h;rw [List.map_append, List.sum_append, List.length_append];simp only [List.map_cons, List.map_nil, List.sum_cons, List.sum_nil, List.length_cons, List.length_nil];have h3 : (xs.length + (0 + 1)) * sep.length <= 900 * 10 := Nat.mul_le_mul (by lia) (by lia);lia
theorem af5 {ts : Tok} (hdummy : rw1 = rw1) (B : Below gV base outer gO) (F : Fr gO L s.heap m) (X : (K1 w.params).In gO) (N : News gO L s.heap led) (T : Top p loose mean mg mb gO) (S1 : Sel (140, oL) led r1) (S2 : Sel (147, oS) r1 r2) (S3 : Sel (x, bJ dx (l ++ [q]) n) r2 r3) (S4 : Sel (dx, fQ hs tk0 z tz) r3 r4) (S5 : Sel (ln, listOf ls.toArray kl) r4 r) (hmk : (mk, instObj 94 dmk) ∈ r) (hdmk : (dmk, dictOf es ne) ∈ r) (gc : getL "_current_line" es = some (some (.ref x))) (gl : getL "_lines" es = some (some (.ref ln))) (o1 : @LT.lt Nat _ 147 ln) (o2 : @LT.lt Nat _ ln dx) (o3 : @LT.lt Nat _ dx x) (e1 : ∀ p ∈ r, p.1 ≠ 140) (e2 : ∀ p ∈ r, p.1 ≠ 147) (e3 : ∀ p ∈ r, p.1 ≠ x) (e4 : ∀ p ∈ r, p.1 ≠ dx) (e5 : ∀ p ∈ r, p.1 ≠ ln) (ht1 : ao 93 19 oL) (ht2 : ao 96 32 oS) (G : AllBare s.gens) (hzb : 0 <= z /\ z < 1000) (hls : ls.length < 900) (hq : (q.a, q.obj) ∈ r) (hall : AllIn l r) (hw : ∀ q' ∈ l, wide q' < 100000) (hwq : wide q < 100000) (hn : l.length < 90) (htl : (text (l ++ [q])).length < 1000) (hqp : 0 < q.p.length) (hno : z ≠ 0 \/ (0 < bz (l ++ [q]) /\ Txt.isspace (text (l ++ [q])) = false)) (hok : PyData.strOk q.f = true /\ PyData.strOk q.p = true) (gn : getL "newline" es = some none) (hls2 : StrsAre ls xs) (hxl : ∀ y ∈ xs, y.length < 1000) (hsl : sep.length < 10) (hd : dp + 60 < recursionLimit) (hu : un + 500 < cLine) (hret : ∀ s' oL' oS' t', Fr gO L s'.heap m -> News gO L s'.heap ((140, oL') :: (147, oS') :: r) -> ao 93 19 oL' -> ao 96 32 oS' -> AllBare s'.gens -> s'.os = s.os -> Q (.str (Txt.join sep (xs ++ [text (l ++ [q])])) t') s') : wpAny (model rw_rw0126_02.row.prog w) (ktrTop dp un gd cn ⟨.function, nms, ig, ic, mo⟩ L a ccd cl outer) (call (.ref 42) [.ref mk, .str sep ts]) Q E s := by
 k_with "dW" => (k_here; (tm_at "bw"); k_dflt (refine' join_list ?K6 ?K7 ?K8 ?_; (case K6 => tm_at "au"); (case K7 => exact bQ (by assumption) (.cons _ _ .nil)); (case K8 => assumption); k_whole); intro t' k')
 k_with "dX" => (k_here; (with_reducible show wpAny _ _ (call (Value.ref 56) _) _ _ _); (tm_at "4"); k_dflt (refine' zJ rfl ?K9 ?Ka ?Kb ?Kc ?Kd ?Ke ?Kf ?Kg ?Kh ?Ki ?Kj ?Kk ?Kl ?Km ?Kn ?Ko ?Kp ?Kq ?Kr ?Ks ?Kt ?Ku ?Kv ?Kw ?Kx ?Ky ?Kz ?KA ?KB ?KC ?KD ?KE ?KF ?KG ?KH ?KI ?KJ ?KK ?_; (case K9 | Ka | Kb | Kc | Kd => k_asm); (case Ke | Kf | Kg | Kh | Ki => tm_at "7"); (case Kj | Kk => k_mem); (case Kl | Km => tm_at "ae"); (case Kn | Ko | Kp => tm_at "aa"); (case Kq | Kr | Ks | Kt | Ku => k_all); (case Kv | Kw => assumption); (case Kx => k_asm); (case Ky | Kz => tm_at "aa"); (case KA => k_mem); (case KB | KC | KE => assumption); (case KD => first | assumption | lia | (unfold wide at *; dsimp only; lia)); (case KF => tm_at "aa"); (case KG | KH => assumption); (case KI => tm_at "ae"); (case KJ => ktr_room); (case KK => ktr_units); k_whole); intro s9 oL9 oS9 n9 tz9 kl9 t9 F9 N9 ht9 ht8 G9 os9; (tm_at "5"); (tm_at "6"); (try k_fold); (try k_sweep))
 k_with "W call ref" => first | tm_at "dX" | tm_at "ac" | tm_at "ad" | tm_at "miss"
 k_with "W call builtin:str.join" => first | tm_at "dW" | tm_at "miss"
 revert X
 k_fill
 intro X;tm_at "bj";clear S1 S2 S3 S4 S5;have hxn := StrsAre.length hls2;have hjo := wA hxl (by lia) htl hsl
 k_steps
 tm_at "aF";refine hret _ _ _ _ (by k_asm) (ah7 N9) (by assumption) (by assumption) (by assumption) ?_
 first | assumption | rfl
theorem aiV {pl : List aL} {st : List Nat × List (List Nat)} {R0 : List (Addr × Obj)} (hdummy : rw1 = rw1) (B : Below gV base outer gO) (F : Fr gO L s.heap m) (X : (K1 w.params).In gO) (N : News gO L s.heap led) (T : Top p loose mean mg mb gO) (S1 : Sel (140, oL) led r1) (S2 : Sel (147, oS) r1 r2) (S3 : Sel (x, bJ dx pl n) r2 r3) (S4 : Sel (dx, fQ hs tk0 0 tz) r3 r4) (S5 : Sel (ln, listOf ls.toArray kl) r4 r) (hmk : (mk, instObj 94 dmk) ∈ r) (hdmk : (dmk, dictOf es ne) ∈ r) (gc : getL "_current_line" es = some (some (.ref x))) (gl : getL "_lines" es = some (some (.ref ln))) (o1 : @LT.lt Nat _ 147 ln) (o2 : @LT.lt Nat _ ln dx) (o3 : @LT.lt Nat _ dx x) (e1 : ∀ p ∈ r, p.1 ≠ 140) (e2 : ∀ p ∈ r, p.1 ≠ 147) (e3 : ∀ p ∈ r, p.1 ≠ x) (e4 : ∀ p ∈ r, p.1 ≠ dx) (e5 : ∀ p ∈ r, p.1 ≠ ln) (ht1 : ao 93 19 oL) (ht2 : ao 96 32 oS) (G : AllBare s.gens) (gm : getL "_maxlen" es = some (some (.int wd tw))) (gsp : getL "_splitchars" es = some (some (.str (ofString ";") tsp))) (hwd : wd = 2 * (wn : Int)) (hw0 : 0 < wn /\ wn < 6) (hrow : oZ pl st.1) (hls : StrsAre ls (st.2.map aR)) (hall : AllIn pl R0) (hR0 : ∀ p ∈ R0, p ∈ r) (h1 : st.1.length <= wn) (h2 : st.2.length < 900) (hc : c = 102 \/ c = 105) (hd : dp + 60 < recursionLimit) (hu : un + 500 < cLine) (hret : ∀ s' oL' oS' n' tz' kl' T pl' ls', oZ pl' (cL wn st c).1 -> StrsAre ls' ((cL wn st c).2.map aR) -> AllIn pl' ((T, bf (.str (ofString "") tf) (.str ⟨#[c, 59]⟩ tp)) :: R0) -> Fr gO L s'.heap m -> News gO L s'.heap ((140, oL') :: (147, oS') :: (x, bJ dx pl' n') :: (dx, fQ hs tk0 0 tz') :: (ln, listOf ls'.toArray kl') :: (T, bf (.str (ofString "") tf) (.str ⟨#[c, 59]⟩ tp)) :: r) -> AllLt T r -> @LT.lt Nat _ x T -> ao 93 19 oL' -> ao 96 32 oS' -> AllBare s'.gens -> s'.os = s.os -> Q .none s') : wpAny (model rw_rw0126_02.row.prog w) (ktrTop dp un gd cn ⟨.function, nms, ig, ic, mo⟩ L a ccd cl outer) (call (.ref 91) [.ref mk, .str (ofString "") tf, .str ⟨#[c, 59]⟩ tp]) Q E s := by
 w_top off
 k_with "k_all" => tm_at "a9"
 k_with "W call ref" => tm_at "ak"
 k_with "W truthy ref" => tm_at "o"
 k_with "W call builtin:str.join" => tm_at "o"
 revert X
 k_fill
 intro X;have hall9 : AllIn pl r := hall.mono λ q _ h => hR0 _ h
 have hp : ((⟨#[c, 59]⟩ : Str)).length = 2 := rfl;have hf : (ofString "").length = 0 := rfl;have hln : ls.length = st.2.length := by rw [hls.length, List.length_map]
 by_cases h : st.1.length < wn
 · have e : cL wn st c = (st.1 ++ [c], st.2) := if_pos h
   rw [e] at hret;refine ah5 hdummy B F X N T S1 S2 S3 S4 S5 hmk hdmk gc gl o1 o2 o3 e1 e2 e3 e4 e5 ht1 ht2 G (by decide) (by lia) gm gsp (by rw [hf]; decide) (by rw [hp]; decide) (by rw [hrow.wides, hf, hp]; lia) hall9 hrow.wide (by rw [hrow.length]; lia) hd hu ?_;exact λ s' oL' oS' n' tz' kl' T F' N' l1 l2 t1 t2 G' os' => hret s' oL' oS' n' tz' kl' T _ _ (hrow.snoc rfl rfl hc) hls (AllIn.snoc hall.cons (.head _)) F' N' l1 l2 t1 t2 G' os'
 · have e : cL wn st c = ([c], st.2 ++ [st.1]) := if_neg h
   rw [e] at hret;obtain ⟨l, q, r', c', rfl, er, hr, qf, qp, qc⟩ := hrow.last (by lia);have hl := hr.length;have hp' : ((⟨#[c', 59]⟩ : Str)).length = 2 := rfl;have hl2 := congrArg List.length er;simp only [List.length_append, List.length_cons, List.length_nil] at hl2;have ht : text (l ++ [q]) = aR st.1 := hrow.text;refine ah6 hdummy B F X N T S1 S2 S3 S4 S5 hmk hdmk gc gl o1 o2 o3 e1 e2 e3 e4 e5 ht1 ht2 G (by decide) (by lia) gm gsp (by rw [hf]; decide) (by rw [hp]; decide) (by rw [hp]; decide) hall9 hrow.wide (by lia) (by rw [hr.wides, qf, qp, hf, hp, hp']; lia) (by rw [qp, hp']; decide) (by rw [qp, hp']; decide) (by rw [qp]; exact vy) hd hu ?_;exact λ s' oL' oS' n' tz' kl' T t' F' N' l1 l2 t1 t2 G' os' => hret s' oL' oS' n' tz' kl' T _ _ (oZ.snoc .nil rfl rfl hc) (by rw [List.map_append, List.map_cons, List.map_nil, <- ht]; exact bQ hls (.cons _ _ .nil)) ⟨.head _, trivial⟩ F' N' l1 l2 t1 t2 G' os'
theorem af6 {ts : Tok} {pl : List aL} {st : List Nat × List (List Nat)} (hdummy : rw1 = rw1) (B : Below gV base outer gO) (F : Fr gO L s.heap m) (X : (K1 w.params).In gO) (N : News gO L s.heap led) (T : Top p loose mean mg mb gO) (S1 : Sel (140, oL) led r1) (S2 : Sel (147, oS) r1 r2) (S3 : Sel (x, bJ dx pl n) r2 r3) (S4 : Sel (dx, fQ hs tk0 0 tz) r3 r4) (S5 : Sel (ln, listOf ls.toArray kl) r4 r) (hmk : (mk, instObj 94 dmk) ∈ r) (hdmk : (dmk, dictOf es ne) ∈ r) (gc : getL "_current_line" es = some (some (.ref x))) (gl : getL "_lines" es = some (some (.ref ln))) (o1 : @LT.lt Nat _ 147 ln) (o2 : @LT.lt Nat _ ln dx) (o3 : @LT.lt Nat _ dx x) (e1 : ∀ p ∈ r, p.1 ≠ 140) (e2 : ∀ p ∈ r, p.1 ≠ 147) (e3 : ∀ p ∈ r, p.1 ≠ x) (e4 : ∀ p ∈ r, p.1 ≠ dx) (e5 : ∀ p ∈ r, p.1 ≠ ln) (ht1 : ao 93 19 oL) (ht2 : ao 96 32 oS) (G : AllBare s.gens) (gn : getL "newline" es = some none) (hrow : oZ pl st.1) (hls : StrsAre ls (st.2.map aR)) (hall : AllIn pl r) (h0 : 0 < st.1.length) (h1 : st.1.length < 80) (h2 : st.2.length < 900) (h3 : ∀ r ∈ st.2, r.length < 80) (hsl : sep.length < 10) (hd : dp + 60 < recursionLimit) (hu : un + 500 < cLine) (hret : ∀ s' oL' oS' t', Fr gO L s'.heap m -> News gO L s'.heap ((140, oL') :: (147, oS') :: r) -> ao 93 19 oL' -> ao 96 32 oS' -> AllBare s'.gens -> s'.os = s.os -> Q (.str (Txt.join sep ((st.2 ++ [st.1]).map aR)) t') s') : wpAny (model rw_rw0126_02.row.prog w) (ktrTop dp un gd cn ⟨.function, nms, ig, ic, mo⟩ L a ccd cl outer) (call (.ref 42) [.ref mk, .str sep ts]) Q E s := by
 revert X
 k_fill
 intro X;have hln : ls.length = st.2.length := by rw [hls.length, List.length_map]
 obtain ⟨l, q, r', c', rfl, er, hr, qf, qp, qc⟩ := hrow.last h0;have hl := hr.length;have hl2 := congrArg List.length er;simp only [List.length_append, List.length_cons, List.length_nil] at hl2;have ht : text (l ++ [q]) = aR st.1 := hrow.text;have hp' : ((⟨#[c', 59]⟩ : Str)).length = 2 := rfl;rw [List.map_append, List.map_cons, List.map_nil, <- ht] at hret;refine af5 hdummy B F X N T S1 S2 S3 S4 S5 hmk hdmk gc gl o1 o2 o3 e1 e2 e3 e4 e5 ht1 ht2 G (by decide) (by lia) (hall.get q (List.mem_append_right _ (.head _))) (.of λ q' hq' => hall.get q' (List.mem_append_left _ hq')) hr.wide (by rw [iH qf qp]; decide) (by lia) (by rw [ht, gA]; lia) (by rw [qp, hp']; decide) (.inr ⟨by rw [hrow.wides]; lia, by rw [ht]; exact oh h0⟩) (aaG qf qp qc) gn hls (λ y hy => ?_) hsl hd hu hret;obtain ⟨r, hr, rfl⟩ := List.mem_map.mp hy;rw [gA];have := h3 r hr;lia
noncomputable def E20.pP : Prop := ∀ {r : List (Addr × Obj)} (hdummy : rw1 = rw1) (B : Below gV base outer gO) (F : Fr gO L s.heap m) (X : (K1 w.params).In gO) (N : News gO L s.heap led) (T : Top p loose mean mg mb gO) (S1 : Sel (140, oL) led r1) (S2 : Sel (147, oS) r1 r) (hx : ring.cps.toList = codes) (hc : ∀ c ∈ codes, c = 102 \/ c = 105) (h0 : 0 < codes.length) (hl : codes.length <= 16) (hw : 0 < wn /\ wn < 6) (e1 : ∀ p ∈ r, p.1 ≠ 140) (e2 : ∀ p ∈ r, p.1 ≠ 147) (ht1 : ao 93 19 oL) (ht2 : ao 96 32 oS) (G : AllBare s.gens) (hd : dp + 80 < recursionLimit) (hu : un + 700 < cLine) (hret : ∀ s' oL' oS' t', Fr gO L s'.heap m -> News gO L s'.heap ((140, oL') :: (147, oS') :: r) -> ao 93 19 oL' -> ao 96 32 oS' -> AllBare s'.gens -> s'.os = s.os -> Q (.str (Txt.join (ofString "\n") ((bw wn (List.replicate wn codes).flatten).map aR)) t') s'), wpAny (model rw_rw0126_02.row.prog w) (ktrTop dp un gd cn ⟨.function, nms, ig, ic, mo⟩ L a ccd cl outer) (call (.ref 336) [.str ring tr, .int (wn : Int) tw]) Q E s
noncomputable def E20.pQ := V6 λ a b c d e f => V6 λ g h i j k l => V6 λ m n o p q r => V6 λ s t u v w x => V6 λ y z A B C D => U λ E => U λ F => U λ G => U λ H => λ I => @E20.pP a v w x d u e f b c z p o g h i j k l m n q r t s y F H I G C D B E A
@[irreducible] noncomputable def E20.pv := @Classical.epsilon _ (by tm_at "ne") λ x => ¬ E20.pQ x
theorem af7 : @E20.pP w L m s mean gO mg mb p loose E ccd a dp un gd cn nms ig ic mo cl outer base gV Q led oL oS r1 tw wn tr codes ring := bh E20.pQ (by with_unfolding_all rfl : E20.pv = _) (by
 w_top off
 k_with "c9" => (k_here; (with_reducible show wpAny _ _ (exec (Stmt.For _ _ _ [] _) _) _ _ _); (tm_at "af"); (with_unfolding_all refine' aeZ lF' ?_ (by intro _; rfl) (by passes_own); k_whole))
 k_with "dY" => (k_here; (with_reducible show wpAny _ _ (pyIter (Value.str _ _)) (λ it gQ => eX _ _ _ _ _ _ _ _ _ _ it gQ) _ _); (tm_at "af"); (tm_at "9"); refine' vz ?KL ?KM ?KN ?KO ?KP ?KQ ?KR ?KS ?KT ?KU ?KV ?KW ?KX ?KY ?KZ ?L0 ?L1 ?L2 ?L3 ?L4 ?_ ?_; (case KL => assumption); (case KN => exact lF'); (case KM => k_dflt (exact rfl)); (case KO => exact lN'); (case KP => (tm_at "Y"); (tm_at "Z")); (case KQ => exact o9 (by assumption)); (case KR => exact ac7 (by assumption)); (case KS => (rw [wW]; assumption)); (case KT => exact And.left (b := _ < 6) (by assumption)); (case KZ | L0 => assumption); (case L1 => k_asm); (case L2 | L3 | L4 => tm_at "om"); (case KU | KV | KW | KX | KY => (refine aj ⟨?_, aj ⟨?_, ?_⟩⟩ <;> first | with_reducible assumption | exact aH (by tm_at "h") | exact (λ p hp => Nat.ne_of_lt (Nat.lt_trans (aN (by tm_at "h") p hp) (by tm_at "chain"))) | (tm_at "Q"))); (all_goals (clear lF' lN'; first | (intro I' a' t' u' it' s' oL' pre' oS' pl' n' tz' ls' kl' R' hok' m1' m2' ha' g1' g2' off' G' os' F' N'; (have q1' := hok'.row); (have q2' := hok'.ls); (have q3' := hok'.all); (have q4' := hok'.e1); (have q5' := hok'.e2); (have q6' := hok'.e3); (have q7' := hok'.e4); (have q8' := hok'.e5); (have q9' := hok'.t1); (have qa' := hok'.t2); (dsimp only [fP] at off' N'); (dsimp only [bK, s8] at F'); (tm_at "az"); k_lt off') | (intro u' s' oL' oS' pl' n' tz' ls' kl' R' hok' m1' m2' sb' g1' g2' g3' g4' G' os' F' N'; (have q1' := hok'.row); (have q2' := hok'.ls); (have q3' := hok'.all); (have q4' := hok'.e1); (have q5' := hok'.e2); (have q6' := hok'.e3); (have q7' := hok'.e4); (have q8' := hok'.e5); (have q9' := hok'.t1); (have qa' := hok'.t2); (dsimp only [fP] at N'); (dsimp only [bK, s8] at F')))); (try k_sweep))
 k_with "bX" => (dsimp only [dj])
 k_with "dZ" => ((tm_at "9"); refine' ir.intro ?L5 ?L6 ?L7 _ ?L8 ?L9 (qG.mk ?La _ _ _ _ _ _ _ _ _ ?Lb ?Lc ?Ld ?Le ?Lf ?Lg rfl); (case L6 | L7 => k_asm); (case Lb | Lc | Ld | Le | Lf | Lg => assumption); (case L8 => ((tm_at "Y"); (tm_at "Z"))); (case La => (repeat (first | exact bT | (refine' gr ?Lh ?_; (case Lh => tm_at "ah")) | (refine' jq ?Lh ?_; (case Lh => tm_at "ah"))))); (case L5 => refine ⟨by k_asm, ?_⟩; first | assumption | (refine Eq.trans (by assumption) (by assumption))); (case L9 => ((tm_at "8") <;> first | with_reducible assumption | exact aA (by tm_at "h") | exact aF (by tm_at "h") | exact aH (by tm_at "h") | (tm_at "Q"))))
 k_with "d0" => (k_here; (with_reducible show wpAny _ _ (call (Value.ref 91) _) _ _ _); (tm_at "4"); (try simp only [piece_app]); k_dflt (refine' aiV rfl ?Li ?Lj ?Lk ?Ll ?Lm ?Ln ?Lo ?Lp ?Lq ?Lr ?Ls ?Lt ?Lu ?Lv ?Lw ?Lx ?Ly ?Lz ?LA ?LB ?LC ?LD ?LE ?LF ?LG ?LH ?LI ?LJ ?LK ?LL ?LM ?LN ?LO ?LP ?LQ ?LR ?LS ?LT ?_; (case Li | Lj | Lk | Ll | Lm => k_asm); (case Ln | Lo | Lp | Lq | Lr => tm_at "7"); (case Ls | Lt => first | with_reducible assumption | k_mem); (case Lu | Lv => tm_at "ae"); (case Lw | Lx | Ly => tm_at "aa"); (case Lz | LA | LB | LC | LD => tm_at "b0"); (case LE | LF => assumption); (case LG => k_asm); (case LH | LI => tm_at "ae"); (case LJ => rfl); (case LK | LL | LM | LN => assumption); (case LO => (tm_at "Z")); (case LP | LQ | LR => assumption); (case LS => ktr_room); (case LT => ktr_units); k_whole); intro s9 oL9 oS9 n9 tz9 kl9 T9 pl9 ls9 a19 a29 a39 F9 N9 l9 l8 t91 t92 G9 os9; (tm_at "5"); (try k_lt l9); (tm_at "6"); (try k_fold); (try k_sweep))
 k_with "d1" => (k_here; (with_reducible show wpAny _ _ (call (Value.ref 42) _) _ _ _); (tm_at "4"); k_dflt (refine' af6 rfl ?LU ?LV ?LW ?LX ?LY ?LZ ?M0 ?M1 ?M2 ?M3 ?M4 ?M5 ?M6 ?M7 ?M8 ?M9 ?Ma ?Mb ?Mc ?Md ?Me ?Mf ?Mg ?Mh ?Mi ?Mj ?Mk ?Ml ?Mm ?Mn ?Mo ?Mp ?Mq ?Mr ?Ms ?Mt ?_; (case LU | LV | LW | LX | LY => k_asm); (case LZ | M0 | M1 | M2 | M3 => tm_at "7"); (case M4 | M5 => first | with_reducible assumption | k_mem); (case M6 | M7 => tm_at "ae"); (case M8 | M9 | Ma => tm_at "aa"); (case Mb | Mc | Md | Me | Mf => tm_at "b0"); (case Mg | Mh => assumption); (case Mi => k_asm); (case Mj => tm_at "ae"); (case Mk | Ml => assumption); (case Mm => tm_at "aO"); (case Mn => (rename (0 < _ -> 0 < _) => hc9; exact hc9 (by assumption))); (case Mo => tm_at "aa"); (case Mp => assumption); (case Mq => (rename (∀ r ∈ _, List.length r <= _) => hc9; exact λ r hr => Nat.lt_of_le_of_lt (hc9 r hr) (by lia))); (case Mr => tm_at "aa"); (case Ms => ktr_room); (case Mt => ktr_units); k_whole); intro s9 oL9 oS9 t9 F9 N9 t91 t92 G9 os9; (tm_at "5"); (tm_at "6"); (try k_fold); (try k_sweep))
 k_with "d2" => (k_here; (with_reducible show wpAny _ _ (call (Value.ref 94) _) _ _ _); (tm_at "4"); k_dflt (refine' af2 rfl ?Mu ?Mv ?Mw ?Mx ?My ?Mz ?MA ?MB ?_; (case Mu | Mv | Mw | Mx | My => k_asm); (case Mz => tm_at "aa"); (case MA => ktr_room); (case MB => ktr_units); k_whole); intro mk9 dmk9 ln9 dx9 x9 es9 ne9 kl9 n9 tk9 h9 tk8 g1 g2 g3 g4 g5 g6 g7 F9 N9 l9 l8 l7 l6 l5; (tm_at "5"); (try k_lt l9); (tm_at "6"); (try k_fold); (try k_sweep))
 k_with "W call ref" => first | tm_at "d2" | tm_at "d1" | tm_at "d0" | tm_at "ac" | tm_at "ad" | tm_at "miss"
 k_with "W exec For Name BinOp cons nil" => tm_at "bl"
 k_with "W pyIter str" => first | tm_at "dY" | tm_at "miss"
 k_with "W dj" => first | tm_at "bX" | tm_at "miss"
 k_with "W ir" => first | tm_at "dZ" | tm_at "miss"
 intro r hdummy B F X N T S1 S2 hx hc h0 hl hw e1 e2 ht1 ht2 G hd hu hret;revert X
 k_fill
 intro X;replace N := S1.news2 S2 N;clear S1 S2;have hr0 : ∀ p ∈ r, p ∈ r := λ _ h => h
 have hw1 := hw.1;have hw2 : ((E20.pv.2.2.2.2.1.2.2.2.2.2) : Int) < 6 := by lia
 have hrl : (E20.pv.2.2.2.2.1.2.2.1).length <= 16 := by
   have : (E20.pv.2.2.2.2.1.2.2.1).length = (E20.pv.2.2.2.2.2.1).length := by rw [<- hx]; rfl
   lia
 have hlp : 0 < (List.replicate (E20.pv.2.2.2.2.1.2.2.2.2.2) (E20.pv.2.2.2.2.2.1)).flatten.length := by rw [wW]; exact Nat.mul_pos hw1 h0
 have hlr : (E20.pv.2.2.2.2.1.2.2.2.2.2) * (E20.pv.2.2.2.2.2.1).length < 900 := Nat.lt_of_le_of_lt (Nat.mul_le_mul (Nat.le_of_lt_succ hw.2) hl) (by decide)
 k_steps
 rename News (E20.pv.2.2.2.1.2.2.1) (E20.pv.2.2.2.1.2.2.2.1) _ _ => N9
 rename ∀ p ∈ r, p ∈ _ => sb9
 refine hret _ _ _ _ (by k_asm) (az N9 ?sub) (by assumption) (by assumption) (by assumption) ?os
 case sub => exact aj ⟨.head _, aj ⟨.tail _ (.head _), λ p hp => .tail _ (.tail _ (sb9 p hp))⟩⟩
 case os => first | assumption | (refine Eq.trans (by assumption) (by assumption))
 ) ((w, p, loose, mean, mg, mb), (dp, un, gd, cn, nms, ig), (ic, mo, a, ccd, cl, outer), (gV, base, gO, L, m, s), (Q, E, ring, tr, tw, wn), codes, led, r1, oL, oS)
noncomputable def E9.pP : Prop := ∀  (hdummy : rw1 = rw1) (B : Below gV base outer gO) (F : Fr gO L s.heap m) (X : (K1 w.params).In gO) (N : News gO L s.heap news) (T : Top p loose mean mg mb gO) (hn : n <= 4) (hd : dp + 3 < recursionLimit) (hu : un + 30 < cLine) (hret : ∀ D vs k h' tk', StrsAre vs (aW n) -> Fr gO L h' m -> News gO L h' ((D, listOf vs.toArray k) :: news) -> AllLt D news -> Q (.ref D) { s with heap := h', toks := tk' }), wpAny (model rw_rw0126_02.row.prog w) (ktrTop dp un gd cn ⟨.function, nms, ig, ic, mo⟩ L a ccd cl outer) (call (.ref 322) [.int (n : Int) tn]) Q E s
noncomputable def E9.pQ := V6 λ a b c d e f => V6 λ g h i j k l => V6 λ m n o p q r => V6 λ s t u v w x => U λ y => U λ z => U λ A => U λ B => λ C => @E9.pP a v w x d u e f b c z p o g h i j k l m n q r t s A y C B
@[irreducible] noncomputable def E9.pv := @Classical.epsilon _ (by tm_at "ne") λ x => ¬ E9.pQ x
theorem xF : @E9.pP w L m s mean gO mg mb p loose E ccd a dp un gd cn nms ig ic mo cl outer base gV n Q news tn := bh E9.pQ (by with_unfolding_all rfl : E9.pv = _) (by
 w_top off
 k_with "d3" => (k_here; k_dflt (refine qH (F₀ := by k_asm) (by rfl) (by with_unfolding_all rfl) (by rfl) (by decide) (by rfl) (by decide) (by rfl) (by rfl) (by decide) (by decide) (by decide) (l := [102, 105]) (by kernel_rfl) (by decide +kernel) (by rfl) (by rfl) ?_ (by intro _; rfl)))
 k_with "d4" => (k_here; k_dflt (refine' mQ.mk _ _ _ _ _ rfl ?MC ?MD ?ME ?MF ?MG ?MH ?MI ?_; (case MC => exact rfl); (case MD | ME => k_asm); (case MF => k_mem); (case MG => assumption); (case MH => exact (tK (by lia)).1); (case MI => exact (tK (by lia)).2)); intro h' tk' D' ys' F' N' l1 hy'; (try k_lt l1); (try k_sweep))
 k_with "d5" => (k_here; (tm_at "aG"); (tm_at "af"); (tm_at "9"); refine' eE tL afD (wdP ?MJ) (WdC.mk ?_ ?_ ?_) (rest := ?MJ) ?MK ?ML ?MM ?MN ?MO ?MP ?MQ ?MR ?_ ?_; (case MK => k_dflt (exact rfl)); (case ML => exact lF'); (case MM => exact lN'); (case MN => assumption); (case MO => exact small_one (by lia) (by lia) (by lia) (by lia)); (case MP => exact tM _); (case MQ => tm_at "ax"); (case MR => exact ⟨.cons _ _ .nil, aN (by assumption)⟩); (all_goals (clear lF' lN'; first | (intro I' pre' post' c' t' it' h' tk' e' e2' hl' P' off' F' N'; obtain ⟨D', vs', k'⟩ := c'; (have p1' := P'.1); (have p2' := P'.2); (dsimp only [tL, afD, kstB, List.cons_append, List.nil_append] at F' N' off' p1' p2'); (replace p2' := allLt_of p2'); (tm_at "az"); (k_lt off')) | (intro c' u' h' tk' P' F' N'; obtain ⟨D', vs', k'⟩ := c'; (have p1' := P'.1); (have p2' := P'.2); (dsimp only [tL, afD, kstB, List.cons_append, List.nil_append] at F' N' p1' p2'); (simp only [List.length_range] at p1'); (replace p2' := allLt_of p2')))); (try k_sweep))
 k_with "d6" => (refine' UnrEnd.intro ?MS ?MT _ ?MU ?MV ⟨WdC.mk ?_ ?_ ?_, ?MW, ?MX, rfl, ⟨?MY, ?MZ⟩⟩; (case MS | MT => k_asm); (case MW => tm_at "ax"); (case MX => (repeat (first | exact bD | refine dZ ?_ | (refine' d9 ?N0 ?_; (case N0 => tm_at "ah"))))); (case MU => (dsimp only [tL, List.cons_append, List.nil_append]); ((tm_at "Y"); (tm_at "Z"))); (case MY => exact vA (by assumption)); (case MZ => exact aN (by assumption)); (case MV => (dsimp only [tL, List.cons_append, List.nil_append]); ((tm_at "aj"); (tm_at "8") <;> first | with_reducible assumption | exact aF (by tm_at "h") | exact aH (by tm_at "h") | (tm_at "Q"))))
 k_with "k_all" => tm_at "a0"
 k_with "W call ref" => tm_at "ak"
 k_with "W exec For Name Attribute cons nil" => tm_at "aq"
 k_with "W exec For Name Call cons nil" => tm_at "aq"
 k_with "W exec For Name Name cons nil" => tm_at "aq"
 k_with "W exec Assign cons ListComp" => first | tm_at "d3" | tm_at "miss"
 k_with "W mQ" => first | tm_at "d4" | tm_at "miss"
 k_with "W pyIter ref" => first | tm_at "d5" | tm_at "miss"
 k_with "W UnrEnd" => first | tm_at "d6" | tm_at "miss"
 k_with "W pyIter str" => tm_at "o"
 k_with "W exec For Name BinOp cons nil" => tm_at "o"
 k_with "W dj" => tm_at "o"
 k_with "W ir" => tm_at "o"
 intro hdummy B F X N T hn hd hu hret;revert X
 k_fill
 intro X
 k_steps
 exact hret _ _ _ _ _ (by assumption) (by k_asm) (by k_asm) (by assumption)
 ) ((w, p, loose, mean, mg, mb), (dp, un, gd, cn, nms, ig), (ic, mo, a, ccd, cl, outer), (gV, base, gO, L, m, s), Q, E, n, tn, news)
example : True := by
 w_top off
 k_with "k_all" => tm_at "a9"
 k_with "W exec For Name Attribute cons nil" => tm_at "o"
 k_with "W exec For Name Call cons nil" => tm_at "o"
 k_with "W exec For Name Name cons nil" => tm_at "o"
 k_with "W UnrEnd" => tm_at "o"
 k_with "W pyIter ref" => tm_at "o"
 k_with "W exec Assign cons ListComp" => tm_at "o"
 k_with "W mQ" => tm_at "o"
 trivial
theorem af8 {k : Int} (h : k < 0 + (((n : Int) - 1 - 0).toNat : Int)) (hn : 2 <= n /\ n <= 4) : 0 <= (n : Int) - 2 - k := by lia
theorem af9 {k : Int} (h : 0 <= k) (hn : 2 <= n /\ n <= 4) : (n : Int) - 2 - k <= 1000000 := by lia
noncomputable def E5.pP : Prop := ∀  (hdummy : rw1 = rw1) (B : Below gV base outer gO) (F : Fr gO L s.heap m) (X : (K1 w.params).In gO) (N : News gO L s.heap news) (T : Top p loose mean mg mb gO) (hn : 2 <= n /\ n <= 4) (hd : dp + 3 < recursionLimit) (hu : un + 30 < cLine) (hret : ∀ D vs k h' tk', IntsAre vs (mR n) -> Fr gO L h' m -> News gO L h' ((D, listOf vs.toArray k) :: news) -> AllLt D news -> Q (.ref D) { s with heap := h', toks := tk' }), wpAny (model rw_rw0126_02.row.prog w) (ktrTop dp un gd cn ⟨.function, nms, ig, ic, mo⟩ L a ccd cl outer) (call (.ref 341) [.int (n : Int) tn]) Q E s
noncomputable def E5.pQ := V6 λ a b c d e f => V6 λ g h i j k l => V6 λ m n o p q r => V6 λ s t u v w x => U λ y => U λ z => U λ A => U λ B => λ C => @E5.pP a v w x d u e f b c z p o g h i j k l m n q r t s A y C B
@[irreducible] noncomputable def E5.pv := @Classical.epsilon _ (by tm_at "ne") λ x => ¬ E5.pQ x
theorem uz : @E5.pP w L m s mean gO mg mb p loose E ccd a dp un gd cn nms ig ic mo cl outer base gV n Q news tn := bh E5.pQ (by with_unfolding_all rfl : E5.pv = _) (by
 k_with "d7" => (k_here; (with_reducible refine pow_int_small ?N1 ?N2 ?N3 ?_); (case N1 => exact af8 (by assumption) (by assumption)); (case N2 => exact af9 (by assumption) (by assumption)); (case N3 => decide))
 k_with "k_all" => tm_at "a0"
 k_with "W binaryOp Pow int int" => first | tm_at "d7" | tm_at "miss"
 intro hdummy B F X N T hn hd hu hret;revert X
 k_fill
 intro X
 k_steps
 rename News (E5.pv.2.2.2.1.2.2.1) (E5.pv.2.2.2.1.2.2.2.1) _ _ => N9
 tm_at "b9"
 ) ((w, p, loose, mean, mg, mb), (dp, un, gd, cn, nms, ig), (ic, mo, a, ccd, cl, outer), (gV, base, gO, L, m, s), Q, E, n, tn, news)
noncomputable def E4.pP : Prop := ∀ {news : List (Addr × Obj)} (hdummy : rw1 = rw1) (B : Below gV base outer gO) (F : Fr gO L s.heap m) (X : (K1 w.params).In gO) (N : News gO L s.heap news) (T : Top p loose mean mg mb gO) (hn : 2 <= n /\ n <= 4) (ht : top <= 5) (hd : dp + 20 < recursionLimit) (hu : un + 150 < cLine) (hret : ∀ D vs k h' tk', IntsAre vs (cM n top) -> Fr gO L h' m -> News gO L h' ((D, listOf vs.toArray k) :: news) -> AllLt D news -> Q (.ref D) { s with heap := h', toks := tk' }), wpAny (model rw_rw0126_02.row.prog w) (ktrTop dp un gd cn ⟨.function, nms, ig, ic, mo⟩ L a ccd cl outer) (call (.ref 346) [.int (n : Int) tn, .int (top : Int) tt]) Q E s
noncomputable def E4.pQ := V6 λ a b c d e f => V6 λ g h i j k l => V6 λ m n o p q r => V6 λ s t u v w x => U λ y => U λ z => U λ A => U λ B => U λ C => λ D => @E4.pP a v w x d u e f b c z p o g h i j k l m n q r t s A y D B C
@[irreducible] noncomputable def E4.pv := @Classical.epsilon _ (by tm_at "ne") λ x => ¬ E4.pQ x
theorem pO : @E4.pP w L m s mean gO mg mb p loose E ccd a dp un gd cn nms ig ic mo cl outer base gV n Q tt top tn := bh E4.pQ (by with_unfolding_all rfl : E4.pv = _) (by
 w_top off
 k_with "d8" => first | exact ph 0 (by tm_at "h") | exact ph 1 (by tm_at "h")
 k_with "d9" => (k_here; k_dflt (refine' yU ?N4 ?N5 ?N6 ?N7 ?N8 ?N9 ?Na ?_ ?_; (case N4 | Na => assumption); (case N6 => rfl); (case N7 => exact rfl); (case N8 | N9 => k_asm); (case N5 => assumption)); (all_goals first | (intro g' i' t' I' oI' C' oC' D' ys' m' h' tk' E' hi' hmu' hC' hx' F' N' off' ne') | (intro g' ys' hy')); (try k_sweep))
 k_with "ea" => (refine' LCg.CompEnd.intro ?Nb ?Nc _ ?Nd ?Ne ?Nf ⟨⟨_, rfl⟩, rfl⟩; (case Nb | Nc => k_asm); (case Nd => ((tm_at "Y"); (tm_at "Z"))); (case Ne => assumption); (case Nf => exact trivial))
 k_with "eb" => (k_here; (tm_at "aH"); k_dflt (refine' adb ?Ng ?Nh ?Ni ?Nj ?Nk ?_; (case Ng | Nh => k_asm); (case Ni => exact rfl); (case Nk => k_mem); (case Nj => assumption); k_whole); intro h' tk' t' F' N'; (try k_sweep))
 k_with "ec" => (rename (∀ a, IntMulOk a _) => hm9; with_reducible refine PyProof.Rows.mul_int ?_ (hm9 _); clear hm9)
 k_with "ed" => (k_here; (tm_at "ap"); k_dflt (refine' ksa_sub ?Nl ?Nm ?Nn ?No ?Np ?Nq ?_ ?Nr; (case Nl => k_asm); (case Nm => k_mem); (case Nn => assumption); (case No | Np | Nq => lia); (case Nr => with_unfolding_all rfl); k_whole); intro _)
 k_with "ee" => (k_here; (tm_at "bu"); (tm_at "af"); (tm_at "9"); refine' yS ?Ns ?Nt ?Nu ?Nv ?Nw ?Nx ?Ny ?Nz ?NA ?NB ?NC ?ND ?NE ?_ ?_; (case Ns | Nt | Nu | Nv => assumption); (case Nw => k_dflt (exact rfl)); (case NE => assumption); (case Nx => rfl); (case Ny => assumption); (case Nz => k_dflt (exact rfl)); (case NA => exact lF'); (case NB => exact lN'); (case ND => ((tm_at "Y"); (tm_at "Z"))); (case NC => assumption); (all_goals (clear lF' lN'; first | (intro I' j' t' it' h' tk' vs' k' o' vv' b1' b2' d' off' F' N'; (tm_at "az"); (k_lt off')) | (intro h' tk' vs' k' o' i' F' N'))); (try k_sweep))
 k_with "ef" => ((tm_at "9"); (tm_at "aC"); refine' ir.intro ⟨_, _, rfl⟩ ?NF ?NG _ ?NH ?NI (qI.mk bT ?_ ?_ ?_ ?_ ?NJ rfl); (case NF | NG => k_asm); (case NH => ((tm_at "Y"); (tm_at "Z"))); (case NJ => assumption); (case NI => ((tm_at "8") <;> first | with_reducible assumption | exact aA (by tm_at "h") | exact aF (by tm_at "h") | exact aH (by tm_at "h") | (tm_at "Q"))))
 k_with "eg" => (k_here; (with_reducible show wpAny _ _ (call (Value.ref 341) _) _ _ _); (tm_at "4"); k_dflt (refine' uz rfl ?NK ?NL ?NM ?NN ?NO ?NP ?NQ ?NR ?_; (case NK | NL | NM | NN | NO => k_asm); (case NP => assumption); (case NQ => ktr_room); (case NR => ktr_units); k_whole); intro D9 vs9 k9 h9 tk9 i9 F9 N9 l9; (tm_at "5"); (try k_lt l9); (tm_at "6"); (try k_fold); (try k_sweep))
 k_with "k_all" => first | tm_at "d8" | tm_at "aT" | tm_at "aT" | tm_at "aJ" | tm_at "miss"
 k_with "W call ref" => first | tm_at "eg" | tm_at "ac" | tm_at "ad" | tm_at "miss"
 k_with "W CompSrc" => first | tm_at "d9" | tm_at "miss"
 k_with "W CompEnd" => first | tm_at "ea" | tm_at "miss"
 k_with "W call builtin:sum" => first | tm_at "eb" | tm_at "miss"
 k_with "W binaryOp Mult int int" => first | tm_at "ec" | tm_at "miss"
 k_with "W subscriptTail Name Name ref int" => first | tm_at "ed" | tm_at "miss"
 k_with "W exec For Name Call cons nil" => tm_at "bl"
 k_with "W pyIter ref" => first | tm_at "ee" | tm_at "miss"
 k_with "W dj" => first | tm_at "bX" | tm_at "miss"
 k_with "W ir" => first | tm_at "ef" | tm_at "miss"
 k_with "W binaryOp Pow int int" => tm_at "o"
 intro news hdummy B F X N T hn ht hd hu hret;revert X
 k_fill
 intro X;have hcl := jt hn;have hr0 : ∀ p ∈ news, p ∈ news := λ _ h => h
 k_steps
 rename News (E4.pv.2.2.2.1.2.2.1) (E4.pv.2.2.2.1.2.2.2.1) _ _ => N9
 tm_at "b9"
 ) ((w, p, loose, mean, mg, mb), (dp, un, gd, cn, nms, ig), (ic, mo, a, ccd, cl, outer), (gV, base, gO, L, m, s), Q, E, n, top, tn, tt)
noncomputable def xG : Stmt := (cg (st 16)).getD 5 default
noncomputable def E0.pP {Q : Flow -> Shared -> Prop} {nt dc : Addr} {fuel : Nat} {od : Obj} {K : List (Addr × Obj)} {ds : List fZ} {st9 : RSt} : Prop := ∀  (hdummy : rw1 = rw1) (B : Below (ktrTop dp un gd cn ⟨.function, nms, ig, ic, mo⟩ L0 a ccd cl outer) base (envX cn ⟨.function, nms, ig, ic, mo⟩ L0 a ccd cl :: outer) gO) (F : Fr gO L s.heap m) (hA : aB m [(ofString "shelf", .ref x), (ofString "doors", .ref dc), (ofString "noted", .ref nt)]) (X : (K1 w.params).In gO) (T : Top p loose mean mg mb gO) (hE : PassesOwn (model rw_rw0126_02.row.prog w) ((ktrTop dp un gd cn ⟨.function, nms, ig, ic, mo⟩ L0 a ccd cl outer).deeper (envOf (S "_law_ring") (aQ (st 16)) L 329 (Value.ref 328))) (envOf (S "_law_ring") (aQ (st 16)) L 329 (Value.ref 328)) E) (N : News gO L s.heap (cO x dx nt dc l n nv kn od R)) (RR : ou rw_rw0126_02.row.prog w x dx nt dc es ne k0 ds st9 l nv od R K) (n1 : x ≠ nt) (n2 : x ≠ dc) (n3 : nt ≠ dc) (hk0 : 0 < k0 /\ k0 < 90) (hf : jw st9 <= fuel) (hb : nv.length + fuel < 90) (g1 : getL "append" es = some none) (g2 : getL "part_count" es = some none) (g3 : getL "push" es = some none) (g4 : getL "pop" es = some none) (hd : dp + 40 < recursionLimit) (hu : un + 300 < cLine) (hret : ∀ u h tk n nv kn od R, (dx, dictOf es ne) ∈ R -> (∀ p ∈ K, p ∈ R) -> (∀ t ∈ (fW fuel st9).noted, t.length <= 1) -> StrsAre nv ((fW fuel st9).noted.map aD) -> Fr gO L h (bK jT m u) -> News gO L h (cO x dx nt dc [] n nv kn od R) -> nv.length < 1000 -> Q .next { s with heap := h, toks := tk }), wpAny (model rw_rw0126_02.row.prog w) ((ktrTop dp un gd cn ⟨.function, nms, ig, ic, mo⟩ L0 a ccd cl outer).deeper (envOf (S "_law_ring") (aQ (st 16)) L 329 (Value.ref 328))) (exec xG (envOf (S "_law_ring") (aQ (st 16)) L 329 (Value.ref 328))) Q E s
noncomputable def E0.pQ := V6 λ a b c d e f => V6 λ g h i j k l => V6 λ m n o p q r => V6 λ s t u v w x => V6 λ y z A B C D => V6 λ E F G H I J => V6 λ K L M N O P => λ Q => @E0.pP a v w x d u e f b c z q o g h i j k l m n r s t G A M B E F Q H K I p y C D J L N O P
@[irreducible] noncomputable def E0.pv := @Classical.epsilon _ (by tm_at "ne") λ x => ¬ E0.pQ x
theorem wB {Q : Flow -> Shared -> Prop} {nt dc : Addr} {fuel : Nat} {od : Obj} {K : List (Addr × Obj)} {ds : List fZ} {st9 : RSt} : @E0.pP w L m s mean gO mg mb p loose E ccd a dp un gd cn nms ig ic mo cl outer base n x R dx es ne l kn nv k0 L0 Q nt dc fuel od K ds st9 := bh E0.pQ (by with_unfolding_all rfl : E0.pv = _) (by
 w_top off
 k_with "cX" => (k_here; (tm_at "ap"); k_dflt (refine' vC (r := .ref _) ?NS ?NT ?NU ?NV ?NW ?NX ?NY ?NZ ?O0 ?O1 ?O2 ?O3 ?_; (case NS | NT | NU => k_asm); (case NV => k_mem); (case NZ => exact (pq _ _).2); (case NX => first | rfl | decide); (case NY => exact (pq _ _).1); (case NW => k_mem); (case O0 | O1 | O2 => k_is); (case O3 => with_unfolding_all rfl); k_whole); (refine wpAny_bind (wpAny_of_eq (by with_unfolding_all rfl) (wpAny_pure ?_))))
 k_with "eh" => (first | (refine WhlIf.no (decide_eq_false (by simp only [List.length_nil]; lia)) ?_) | (refine WhlIf.yes (decide_eq_true (by tm_at "aZ")) ?_))
 k_with "ei" => (k_here; (with_reducible show wpAny _ _ (subscriptTail _ _ (Value.ref _) (Value.str _ _)) _ _ _); k_dflt (refine' kda_item (knd := PySem.strKind _ _) ?O4 ?O5 ?O6 (strKind_is _ _ _ _) ?O7 ?_; (case O4 => k_asm); (case O6 => assumption); (case O5 => k_mem); (case O7 => assumption)))
 k_with "ej" => (k_here; (tm_at "cJ"); k_dflt (refine' ade ?O8 ?O9 ?Oa ?Ob ?Oc ?Od ?_; (case O8 => k_asm); (case Oa => assumption); (case O9 | Ob => k_mem); (case Oc => assumption); (case Od => ktr_units); k_whole))
 k_with "ek" => (k_here; (with_reducible show wpAny _ _ (call (Value.builtin _) [Value.ref _, Value.int _ _]) _ _ _); k_dflt (refine' aaL ?Oe ?Of ?Og ?Oh ?Oi ?_; (case Oe | Of => k_asm); (case Oi => k_updF); (case Og => rfl); (case Oh => lia); k_whole); intro h' F' N'; (try dsimp only at N'); (try k_sweep))
 k_with "em" => (k_here; (with_reducible show wpAny _ _ (subscriptTail _ (Expr.Slice (some _) none none _) (Value.str _ _) (Value.ref _)) _ _ _); (with_reducible rename Fr _ _ _ _ => F'); (with_reducible rename News _ _ _ _ => N'); (refine slice_strN_sn (hsz := ?Oj) (s := ⟨_, _, _, _, _⟩) F' N' ?_); (case Oj => (rw [sizeLine_eq, Str.length_append, adf]; lia)); clear F' N'; intro h' t' k' F' N'; (try k_sweep))
 k_with "en" => ((tm_at "9"); (tm_at "aC"); refine' jU.intro ?Ok ?Ol _ ?Om (aaM.mk ?On _ _ _ rfl); (case Ok | Ol => k_asm); (case Om => (dsimp only [cO]); ((tm_at "Y"); (tm_at "Z"))); (case On => (repeat (first | exact bT | (refine' gr ?Oo ?_; (case Oo => tm_at "ah")) | (refine' jq ?Oo ?_; (case Oo => tm_at "ah"))))))
 k_with "eo" => (refine' jU.intro ?Op ?Oq _ ?Or (vD.mk ?Os _ _ _ _ _ ?Ot ?Ou ?Ov ?Ow ?Ox rfl); (case Op | Oq => k_asm); (case Or => (dsimp only [cO]); ((tm_at "Y"); (tm_at "Z"))); (case Ot => exact aN (by assumption)); (case Ou | Ov | Ow | Ox => tm_at "om"); (case Os => (repeat (first | exact bT | (refine' gr ?Oy ?_; (case Oy => tm_at "ah")) | (refine' jq ?Oy ?_; (case Oy => tm_at "ah"))))))
 k_with "ep" => (k_here; (tm_at "af"); (tm_at "9"); k_dflt (refine' vG lF' lN' ?Oz ?OA ?OB ?OC ?OD ?OE ?OF ?OG ?OH ?_ ?_ ?_; (case Oz => exact λ p9 hp9 => hp9); (case OA | OB | OC | OD | OE | OF | OG => assumption); (case OH => passes_own)); (all_goals (clear lF' lN'; first | (intro u' h' tk' l' q' n' nv' kn' od' da' v' us' dk' R' kvs' c' cs' here' t' a1' a2' a3' a4' a5' a6' a7' a8' b1' b2' b3' b4' e1' e2' e3' e4' n1' n2' n3' n4' n5' n6' F' N'; subst a8'; (dsimp only [cO] at N'); (dsimp only [bK, jT] at F')) | (intro u' h' tk' l' q' n' nv' kn' od' da' dk' R' kvs' here' a1' a2' a3' a4' a5' b1' b3' b4' e1' e2' e3' e4' n1' n2' n3' n4' n5' n6' F' N'; (dsimp only [cO] at N'); (dsimp only [bK, jT] at F')) | (intro u' h' tk' n' nv' kn' od' R' a1' kk' nn' hno' F' N' b4'; (dsimp only [cO] at N'); (dsimp only [bK, jT] at F')))); (try k_sweep))
 k_with "cY" => (k_here; (with_reducible show wpAny _ _ (call (Value.ref 122) _) _ _ _); (tm_at "4"); k_dflt (refine' abh rfl ?OI ?OJ ?OK ?OL ?OM ?ON ?OO ?OP ?OQ ?OR ?OS ?_; (case OI | OJ | OK | OL | OM => k_asm); (case ON => k_updF); (case OO => k_mem); (case OP => tm_at "aa"); (case OQ => tm_at "ae"); (case OR => ktr_room); (case OS => ktr_units); k_whole); intro T9 h9 tk8 F9 N9 l9; (tm_at "5"); (try k_lt l9); (tm_at "6"); (try k_fold); (try k_sweep))
 k_with "k_all" => tm_at "a0"
 k_with "W call ref" => first | tm_at "cR" | tm_at "cY" | tm_at "aX" | tm_at "ac" | tm_at "ad" | tm_at "miss"
 k_with "passes_own" => tm_at "bk"
 k_with "W subscriptTail" => first | tm_at "em" | tm_at "ei" | tm_at "cX" | tm_at "miss"
 k_with "W WhlIf" => first | tm_at "eh" | tm_at "miss"
 k_with "W compareOp NotEq ref ref" => first | tm_at "ej" | tm_at "miss"
 k_with "W call builtin:list.pop" => first | tm_at "ek" | tm_at "miss"
 k_with "W jU" => first | tm_at "eo" | tm_at "en" | tm_at "miss"
 k_with "W exec While Compare" => first | tm_at "ep" | tm_at "miss"
 k_with "W exec For Name Call cons nil" => tm_at "o"
 k_with "W subscriptTail Name Name ref int" => tm_at "o"
 k_with "W pyIter ref" => tm_at "o"
 k_with "W dj" => tm_at "o"
 k_with "W ir" => tm_at "o"
 k_with "W CompSrc" => tm_at "o"
 k_with "W CompEnd" => tm_at "o"
 k_with "W call builtin:sum" => tm_at "o"
 k_with "W binaryOp Mult int int" => tm_at "o"
 intro hdummy B F hA X T hE N RR n1 n2 n3 hk0 hf hb g1 g2 g3 g4 hd hu hret;tm_at "ai";tm_at "ag";revert X
 k_fill
 intro X
 conv in xG => whnf
 k_steps
 rename News (E0.pv.2.2.2.1.2.2.1) (E0.pv.2.2.2.1.2.2.2.1) _ _ => N9
 rename StrsAre _ _ => s9
 rename Fr (E0.pv.2.2.2.1.2.2.1) (E0.pv.2.2.2.1.2.2.2.1) _ _ => F9
 refine' hret ?u _ _ _ _ _ _ _ (by assumption) (by assumption) (by assumption) s9 ?F N9 (by assumption)
 case F => rw [<- gk hA]; exact F9
 ) ((w, p, loose, mean, mg, mb), (dp, un, gd, cn, nms, ig), (ic, mo, a, L0, ccd, cl), (outer, base, gO, L, m, s), (Q, E, x, dx, nt, dc), (es, ne, n, kn, k0, fuel), (nv, od, R, K, ds, st9), l)
theorem abl (hdummy : rw1 = rw1) (B : Below gV base outer gO) (F : Fr gO L s.heap m) (X : (K1 w.params).In gO) (N : News gO L s.heap news) (T : Top p loose mean mg mb gO) (hz : z = (n : Int)) (hn : n <= 4) (hd : dp + 3 < recursionLimit) (hu : un + 30 < cLine) (hret : ∀ D vs k h' tk', StrsAre vs (aW n) -> Fr gO L h' m -> News gO L h' ((D, listOf vs.toArray k) :: news) -> AllLt D news -> Q (.ref D) { s with heap := h', toks := tk' }) : wpAny (model rw_rw0126_02.row.prog w) (ktrTop dp un gd cn ⟨.function, nms, ig, ic, mo⟩ L a ccd cl outer) (call (.ref 322) [.int z tn]) Q E s := by
 w_top off
 k_with "er" => (k_here; (tm_at "aH"); k_dflt (refine' ahM ?OT ?OU ?OV ?_; (case OT => k_asm); (case OU => k_mem); (case OV => lia); k_whole); intro t' tk'; (try k_sweep))
 k_with "cZ" => (k_here; (tm_at "ap"); k_dflt (refine' aaP ?OW ?OX ?OY ?OZ ?P0 ?_ ?P1 ?P2; (case OW => k_asm); (case OX => assumption); (case OY => k_mem); (case OZ => exact rfl); (case P0 => first | assumption | decide); (case P1 => with_unfolding_all rfl); (case P2 => tm_at "aE"); k_whole))
 k_with "es" => (k_here; (with_reducible show wpAny _ _ (subscriptTail _ _ (Value.str _ _) (Value.int _ _)) _ _ _); k_dflt (refine' afG ?P3 ?P4 ?P5 ?_ ?P6 ?P7; (case P3 => assumption); (case P4 => exact rfl); (case P5 => assumption); (case P6 => with_unfolding_all rfl); (case P7 => tm_at "aE"); k_whole); intro t' tk')
 k_with "et" => (k_here; k_dflt (refine' kda_set (knd := PySem.strKind _ _) ?P8 ?P9 ?Pa ?Pb (strKind_is _ _ _ _) ?Pc ?_; (case P8 | P9 => k_asm); (case Pa => k_updF); (case Pb => assumption); (case Pc => rw [sizeLine_eq]; lia); k_whole); intro h' o' F' N' hd'; (try dsimp only at N'); (try k_sweep))
 k_with "eu" => (k_here; (tm_at "bu"); (tm_at "af"); (tm_at "9"); refine' vI ?Pd ?Pe ?Pf ?Pg ?Ph ?Pi ?Pj ?Pk ?Pl ?Pm ?Pn ?Po ?Pp ?_ ?_; (case Pd | Pe | Pf | Pp | Pg | Ph => assumption); (case Pi | Pj => k_dflt (exact rfl)); (case Pk => exact lF'); (case Pl => exact lN'); (case Pn => ((tm_at "Y"); (tm_at "Z"))); (case Pm => assumption); (case Po => ((tm_at "8") <;> first | with_reducible assumption | exact aA (by tm_at "h") | exact aF (by tm_at "h") | exact aH (by tm_at "h") | (tm_at "Q"))); (all_goals (clear lF' lN'; first | (intro I' j' t' u' it' h' tk' od' kvs' c' R' b2' b3' b4' b5' hd' off' ofd' F' N'; (dsimp only [bK] at F'); (simp only [List.cons_append] at N' off' ofd'); (tm_at "az"); (replace ofd' := allNe_of ofd'); (k_lt off'); (k_lt ofd')) | (intro u' h' tk' c' tw' w0' ok' ofd' F' N'; (dsimp only [bK] at F'); (dsimp only [wZ] at N'); (simp only [List.cons_append] at N' ofd'); (replace ofd' := allNe_of ofd'); (k_lt ofd'); (rename (∀ p ∈ _, Prod.fst p ≠ _) => hn9'); (have hxx' := tU ok' hn9' (.tail _ (.head _))); (rename (_, dictOf _ _) ∈ _ => hx9'); (have hx8' := List.mem_append_left (c'.ds.map (λ d => (d.a, d.obj))) hx9')))); (try k_sweep))
 k_with "ev" => ((tm_at "9"); refine' ir.intro ⟨_, _, rfl⟩ ?Pq ?Pr _ ?Ps ?Pt (vH.mk ?Pu _ _ _ _ ?Pv ?Pw ?Px ?Py rfl); (case Pq | Pr => k_asm); (case Ps => (tm_at "av"); ((tm_at "Y"); (tm_at "Z"))); (case Pv => assumption); (case Pw => first | exact aiM (by assumption) (.cons _ _ (.cons _ _ .nil)) | exact aiN (by assumption) (.cons _ _ (.cons _ _ .nil))); (case Pu => (repeat (first | exact bT | (refine' gr ?Pz ?_; (case Pz => tm_at "ah")) | (refine' jq ?Pz ?_; (case Pz => tm_at "ah"))))); (case Px => (tm_at "av"); (tm_at "8") <;> first | with_reducible assumption | exact aN (by tm_at "h")); (case Py => tm_at "om"); (case Pt => (tm_at "av"); ((tm_at "8") <;> first | with_reducible assumption | exact aA (by tm_at "h") | exact aF (by tm_at "h") | exact aH (by tm_at "h") | (tm_at "Q"))))
 k_with "ew" => (k_here; (tm_at "af"); (tm_at "9"); (rename aaN _ _ _ _ _ _ _ => lO'); k_dflt ((with_unfolding_all refine' wB (fuel := 40) rfl ?PA lF' ?PB ?PC ?PD ?PE (az lN' ?PF) (vK lO' ?PG ?PH ?PI ?PJ ?PK) ?PL ?PM ?PN ?PO (vJ ?PP _) ?PQ ?PR ?PS ?PT ?PU ?PV ?PW ?_); (case PA | PC | PD => k_asm); (case PB => tm_at "ax"); (case PE => passes_own); (case PG | PP | PH => assumption); (case PO => lia); (case PQ => decide); (case PR | PS | PT | PU => assumption); (case PV => ktr_room); (case PW => ktr_units); (case PF => (dsimp only [cO]); ((tm_at "Y"); (tm_at "Z"))); (case PL | PM | PN => (tm_at "Q")); (case PI | PJ | PK => ((tm_at "8") <;> first | with_reducible assumption | exact aA (by tm_at "h") | exact aF (by tm_at "h") | exact aH (by tm_at "h") | (tm_at "Q")))); intro u' h' tk' n' nv' kn' od' R' a1' kk' nn' hno' F' N' b4'; (dsimp only [bK, jT] at F'); (dsimp only [cO] at N'); (try k_sweep))
 k_with "ey" => (k_here; (with_reducible show wpAny _ _ (subscriptTail _ (PySem.Expr.Slice none none (some _) _) (Value.ref _) (Value.ref _)) _ _ _); k_dflt (refine' krv_lit (its := List.toArray _) (zs := List.reverse _) ?PX ?PY ?PZ ?Q0 rfl ?_ ?Q1 ?Q2 ?Q3; (case PX | PY => k_asm); (case PZ => tm_at "au"); (case Q0 => exact IsPart.int _ _); (case Q1 => with_unfolding_all rfl); (case Q2 => tm_at "aE"); (case Q3 => (rw [sizeLine_eq, List.size_toArray]; lia))); intro D' h' F' N' l1; (try k_lt l1); (try k_sweep))
 k_with "ez" => (k_here; (tm_at "bw"); k_dflt (refine' join_list ?Q4 ?Q5 ?Q6 ?_; (case Q4 => tm_at "au"); (case Q5 => exact tW (by assumption)); (case Q6 => exact tX (by assumption) (by assumption) (by assumption)); k_whole); intro t' k')
 k_with "W call ref" => tm_at "ak"
 k_with "W subscriptTail" => first | tm_at "cZ" | tm_at "cX" | tm_at "miss"
 k_with "W call builtin:len" => first | tm_at "er" | tm_at "LENK" | tm_at "miss"
 k_with "W subscriptTail Name Constant ref int" => first | tm_at "cZ" | tm_at "miss"
 k_with "W subscriptTail Name Name str int" => first | tm_at "es" | tm_at "miss"
 k_with "W setItem ref str" => first | tm_at "et" | tm_at "miss"
 k_with "W exec For Name Call cons nil" => tm_at "bl"
 k_with "W pyIter ref" => first | tm_at "eu" | tm_at "miss"
 k_with "W dj" => first | tm_at "bX" | tm_at "miss"
 k_with "W ir" => first | tm_at "ev" | tm_at "miss"
 k_with "W exec While Compare" => first | tm_at "ew" | tm_at "miss"
 k_with "W subscriptTail Name Slice ref ref" => first | tm_at "ey" | tm_at "miss"
 k_with "W call builtin:str.join" => first | tm_at "ez" | tm_at "miss"
 k_with "passes_own" => tm_at "o"
 k_with "W WhlIf" => tm_at "o"
 k_with "W call builtin:list.pop" => tm_at "o"
 k_with "W jU" => tm_at "o"
 revert X
 k_fill
 intro X;subst hz;exact xF hdummy B F X N T hn hd hu hret
noncomputable def E10.pP {nx : Nat} {tb : Tok} {zn : Int} : Prop := ∀ {news : List (Addr × Obj)} (hdummy : rw1 = rw1) (B : Below gV base outer gO) (F : Fr gO L s.heap m) (X : (K1 w.params).In gO) (N : News gO L s.heap ((x, bJ dx [] nx) :: news)) (T : Top p loose mean mg mb gO) (hdx : (dx, dictOf es ne) ∈ news) (hz : zn = (k0 : Int) + 1) (hk : 0 < k0 /\ k0 <= 3) (hbk : book.cps.toList = bk) (hlb : (aK k0).length <= bk.length) (hb9 : book.length <= 100000) (hxn : ∀ p ∈ news, p.1 ≠ x) (g1 : getL "append" es = some none) (g2 : getL "part_count" es = some none) (g3 : getL "push" es = some none) (g4 : getL "pop" es = some none) (hd : dp + 60 < recursionLimit) (hu : un + 500 < cLine) (hret : ∀ t n' h' tk', Fr gO L h' m -> News gO L h' ((x, bJ dx [] n') :: news) -> Q (.str (kJ bk k0) t) { s with heap := h', toks := tk' }), wpAny (model rw_rw0126_02.row.prog w) (ktrTop dp un gd cn ⟨.function, nms, ig, ic, mo⟩ L a ccd cl outer) (call (.ref 329) [.ref x, .str book tb, .int zn tz]) Q E s
noncomputable def E10.pQ := V6 λ a b c d e f => V6 λ g h i j k l => V6 λ m n o p q r => V6 λ s t u v w x => V6 λ y z A B C D => V6 λ E F G H I J => λ K => @E10.pP a v w x d u e f b c z p o g h i j k l m n q r t s y A B F D J E G H C I K
@[irreducible] noncomputable def E10.pv := @Classical.epsilon _ (by tm_at "ne") λ x => ¬ E10.pQ x
theorem aga {nx : Nat} {tb : Tok} {zn : Int} : @E10.pP w L m s mean gO mg mb p loose E ccd a dp un gd cn nms ig ic mo cl outer base gV Q x dx es ne tz k0 book bk nx tb zn := bh E10.pQ (by with_unfolding_all rfl : E10.pv = _) (by
 k_with "eA" => (k_here; (with_reducible show wpAny _ _ (call (Value.ref 322) _) _ _ _); (tm_at "4"); k_dflt (refine' abl rfl ?Q7 ?Q8 ?Q9 ?Qa ?Qb ?Qc ?Qd ?Qe ?Qf ?_; (case Q7 | Q8 | Q9 | Qa | Qb => k_asm); (case Qc => assumption); (case Qd => tm_at "aa"); (case Qe => ktr_room); (case Qf => ktr_units); k_whole); intro D9 vs9 k9 h9 tk9 sw9 F9 N9 l9; (tm_at "5"); (try k_lt l9); (have hw9 := sw9.length); (tm_at "6"); (try k_fold); (try k_sweep))
 k_with "W call ref" => first | tm_at "cY" | tm_at "eA" | tm_at "ac" | tm_at "ad" | tm_at "miss"
 intro news hdummy B F X N T hdx hz hk hbk hlb hb9 hxn g1 g2 g3 g4 hd hu hret;revert X
 k_fill
 intro X;have hk3 := hk.2;have hbl : (E10.pv.2.2.2.2.2.1.2.2.1).length <= 100000 := hb9;have hwl : (aW (E10.pv.2.2.2.2.2.1.1)).length <= 8 := iI hk3;have hz1 : (E10.pv.2.2.2.2.2.2) - 1 = ((E10.pv.2.2.2.2.2.1.1) : Int) := by lia
 have hr0 : ∀ p ∈ ((E10.pv.2.2.2.2.1.2.2.1), bJ (E10.pv.2.2.2.2.1.2.2.2.1) [] (E10.pv.2.2.2.2.1.2.2.2.2.1)) :: news, p ∈ ((E10.pv.2.2.2.2.1.2.2.1), bJ (E10.pv.2.2.2.2.1.2.2.2.1) [] (E10.pv.2.2.2.2.1.2.2.2.2.1)) :: news := λ _ h => h
 k_steps
 rename News (E10.pv.2.2.2.1.2.2.1) (E10.pv.2.2.2.1.2.2.2.1) _ _ => N9
 rename ∀ p ∈ news, p ∈ _ => kk9
 exact hret _ _ _ _ (by k_asm) (az N9 (aj ⟨.tail _ (.head _), λ p9 h9 => .tail _ (.tail _ (.tail _ (.tail _ (kk9 p9 h9))))⟩))
 ) ((w, p, loose, mean, mg, mb), (dp, un, gd, cn, nms, ig), (ic, mo, a, ccd, cl, outer), (gV, base, gO, L, m, s), (Q, E, x, dx, nx, ne), (k0, es, book, bk, tb, tz), zn)
noncomputable def abm : Stmt := (cg (st 14)).getD 4 default
noncomputable def ae7 : Expr := match abm with
 | .For t _ _ _ _ => t
 | _ => default
noncomputable def abn : List Stmt := match abm with
 | .For _ _ b _ _ => b
 | _ => []
noncomputable def E2.pP {gY : Str -> Option Value} {Q : Flow -> Shared -> Prop} {I Dp Dh Db : Addr} {it : Obj} {tk k kh : Nat} {hv : List Value} : Prop := ∀  (hdummy : rw1 = rw1) (B : Below (ktrTop dp un gd cn ⟨.function, nms, ig, ic, mo⟩ L0 a ccd cl outer) base (envX cn ⟨.function, nms, ig, ic, mo⟩ L0 a ccd cl :: outer) gO) (X : (K1 w.params).In gO) (T : Top p loose mean mg mb gO) (hE : PassesOwn (model rw_rw0126_02.row.prog w) ((ktrTop dp un gd cn ⟨.function, nms, ig, ic, mo⟩ L0 a ccd cl outer).deeper (envOf (S "_law_book") (aQ (st 14)) L 317 (Value.ref 316))) (envOf (S "_law_book") (aQ (st 14)) L 317 (Value.ref 316)) E) (F : Fr gO L h m) (hA : aB m [(ofString "number", .int (n : Int) tn), (ofString "bases", .ref Db), (ofString "hidden", .ref Dh), (ofString "pairs", .ref Dp)]) (hm : jo zc m gY) (N : News gO L h ((I, it) :: (Dp, listOf vs.toArray k) :: R)) (hn : n < 200000000000) (hj : j < 8) (hvs : vs.length < 100) (hi : IntsAre hv cN) (hb : IntsAre bv cU) (mh : (Dh, listOf hv.toArray kh) ∈ R) (mb9 : (Db, listOf bv.toArray kb) ∈ R) (hd9 : ∀ p ∈ R, p.1 ≠ Dp) (hoff : ∀ p ∈ (Dp, listOf vs.toArray k) :: R, p.1 ≠ I) (hd : dp + 10 < recursionLimit) (hu : un + 200 < cLine), wpAny (model rw_rw0126_02.row.prog w) ((ktrTop dp un gd cn ⟨.function, nms, ig, ic, mo⟩ L0 a ccd cl outer).deeper (envOf (S "_law_book") (aQ (st 14)) L 317 (Value.ref 316))) (assign ae7 (envOf (S "_law_book") (aQ (st 14)) L 317 (Value.ref 316)) (.int (0 + (j : Int)) t)) (λ _ gQ => wpAny (model rw_rw0126_02.row.prog w) ((ktrTop dp un gd cn ⟨.function, nms, ig, ic, mo⟩ L0 a ccd cl outer).deeper (envOf (S "_law_book") (aQ (st 14)) L 317 (Value.ref 316))) (execs abn (envOf (S "_law_book") (aQ (st 14)) L 317 (Value.ref 316))) (dj gO (envOf (S "_law_book") (aQ (st 14)) L 317 (Value.ref 316)).locals (yx s) I it (qK n j Dp vs R gY) Q) E gQ) E { s with heap := h, toks := tk }
noncomputable def E2.pQ := V6 λ a b c d e f => V6 λ g h i j k l => V6 λ m n o p q r => V6 λ s t u v w x => V6 λ y z A B C D => V6 λ E F G H I J => V6 λ K L M N O P => U λ Q => U λ R => λ S => @E2.pP a v w y d u e f b c A q o g h i j k l m n r s t L S M R Q G N p K P x z B C D E F H I J O
@[irreducible] noncomputable def E2.pv := @Classical.epsilon _ (by tm_at "ne") λ x => ¬ E2.pQ x
theorem zP {gY : Str -> Option Value} {Q : Flow -> Shared -> Prop} {I Dp Dh Db : Addr} {it : Obj} {tk k kh : Nat} {hv : List Value} : @E2.pP w L m s mean gO mg mb p loose E ccd a dp un gd cn nms ig ic mo cl outer base n R j tn t h vs L0 kb bv gY Q I Dp Dh Db it tk k kh hv := bh E2.pQ (by with_unfolding_all rfl : E2.pv = _) (by
 w_top off
 k_with "eB" => (k_here; (with_reducible show wpAny _ _ (spliced (backTo _ (starEach (Expr.Constant (Const.int _) _ _ :: _) _))) _ _ _); k_dflt (refine zg _ rfl ?_; dsimp only [lE, List.length_cons, List.length_nil, Option.map]))
 k_with "eC" => (k_here; (refine PySem.P.chr_of_int (ahN ?Qg ?Qh) ?_; (case Qg => first | lia | exact (aaQ _).1 | exact Int.add_nonneg (xf _).1 (by lia)); (case Qh => first | lia | exact Int.le_trans (aaQ _).2 (by decide) | exact Int.le_trans (Int.add_le_add (xf _).2 (by lia : _ <= (8 : Int))) (by decide))))
 k_with "eD" => ((with_reducible show wpAny _ _ (binaryOp _ (Value.int _ _) (Value.int ((24 : Int) ^ _) _)) _ _ _); k_dflt (refine PyProof.Rows.floordiv_int (ae4 ?Qi).1 ?_ (Or.inl (PyProof.noPylong_of_log2 (ae4 ?Qi).2)); (case Qi => assumption)))
 k_with "eE" => (k_here; (tm_at "ap"); k_dflt (refine' afI (R := [(_, bf _ _), (_, bf _ _), (_, bf _ _), (_, bf _ _), (_, bf _ _), (_, bf _ _)]) ?Qj ?Qk ?Ql (.cons (.head _) (.cons (.tail _ (.head _)) (.cons (.tail _ (.tail _ (.head _))) (.cons (.tail _ (.tail _ (.tail _ (.head _)))) (.cons (.tail _ (.tail _ (.tail _ (.tail _ (.head _))))) (.cons (.tail _ (.tail _ (.tail _ (.tail _ (.tail _ (.head _)))))) .nil)))))) ?Qm ?Qn ?Qo ?_ ?Qp ?Qq; (case Qj | Qk => assumption); (case Ql => k_asm); (case Qm => k_mem); (case Qn => (tm_at "Y"); (exact λ _ h => absurd h List.not_mem_nil)); (case Qo => exact rfl); (case Qp => with_unfolding_all rfl); (case Qq => tm_at "aE"); k_whole); intro a' t' v' m9')
 k_with "eF" => (k_here; (tm_at "ap"); k_dflt (refine' ksa_sub ?Qr ?Qs ?Qt ?Qu ?Qv ?Qw ?_ ?Qx; (case Qr => k_asm); (case Qs => k_mem); (case Qt => tm_at "h"); (case Qu => exact Int.fmod_nonneg_of_pos _ (by decide)); (case Qv => first | (rw [kO]; exact Int.fmod_lt_of_pos _ (by decide)) | (rw [jx]; exact Int.fmod_lt_of_pos _ (by decide))); (case Qw => exact Int.lt_trans (Int.fmod_lt_of_pos _ (by decide)) (by decide)); (case Qx => with_unfolding_all rfl); k_whole); intro _)
 k_with "eG" => ((tm_at "9"); (rename (_, bf _ _) ∈ _ => m8'); (tm_at "aC"); refine' ir.intro ⟨_, _, rfl⟩ ?Qy ?Qz _ ?QA ?QB (qK.mk ?QC _ ?_ _ _ (_ ++ _) (List.mem_append_left _ m8') (λ _ h => List.mem_append_right _ h) ?QD rfl); (case Qy | Qz => k_asm); (case QA => (simp only [List.cons_append, List.nil_append]); ((tm_at "Y"); (tm_at "Z"))); (case QC => (repeat (first | exact bT | (tm_at "h") | (refine' gr ?QE ?_; (case QE => tm_at "ah")) | (refine' jq ?QE ?_; (case QE => tm_at "ah"))))); (case QD | QB => (simp only [List.cons_append, List.nil_append]); ((tm_at "8") <;> first | with_reducible assumption | exact aA (by tm_at "h") | exact aF (by tm_at "h") | exact aH (by tm_at "h") | (tm_at "Q"))))
 k_with "W call ref" => tm_at "ak"
 k_with "passes_own" => tm_at "bk"
 k_with "W spliced" => first | tm_at "eB" | tm_at "miss"
 k_with "W call builtin:chr" => first | tm_at "eC" | tm_at "miss"
 k_with "W binaryOp FloorDiv int int" => first | tm_at "eD" | tm_at "miss"
 k_with "W subscriptTail Name BinOp ref int" => first | tm_at "eF" | tm_at "eE" | tm_at "miss"
 k_with "W ir" => first | tm_at "eG" | tm_at "miss"
 k_with "W call builtin:len" => tm_at "bi"
 k_with "W subscriptTail" => tm_at "o"
 k_with "W compareOp NotEq ref ref" => tm_at "o"
 k_with "W exec For Name Call cons nil" => tm_at "o"
 k_with "W pyIter ref" => tm_at "o"
 k_with "W call builtin:str.join" => tm_at "o"
 k_with "W exec While Compare" => tm_at "o"
 k_with "W subscriptTail Name Constant ref int" => tm_at "o"
 k_with "W subscriptTail Name Name str int" => tm_at "o"
 k_with "W setItem ref str" => tm_at "o"
 k_with "W subscriptTail Name Slice ref ref" => tm_at "o"
 intro hdummy B X T hE F hA hm N hn hj hvs hi hb mh mb9 hd9 hoff hd hu;replace hd9 := allNe_of hd9;replace hoff := allNe_of hoff;k_lt hoff;have hm9 := hm;rw [<- gk hA] at F hm9;dsimp only [kstB] at F hm9;clear hm;revert X
 k_fill
 intro X
 conv in ae7 => whnf
 conv in abn => whnf
 k_steps
 ) ((w, p, loose, mean, mg, mb), (dp, un, gd, cn, nms, ig), (ic, mo, a, L0, ccd, cl), (outer, base, gO, L, m, gY), (s, Q, E, I, Dp, Dh), (Db, it, h, tk, k, kh), (kb, n, j, vs, hv, bv), t, tn, R)
noncomputable def E25.pP : Prop := ∀ {news : List (Addr × Obj)} (hdummy : rw1 = rw1) (B : Below gV base outer gO) (F : Fr gO L s.heap m) (X : (K1 w.params).In gO) (N : News gO L s.heap news) (T : Top p loose mean mg mb gO) (hn : n < 200000000000) (hd : dp + 20 < recursionLimit) (hu : un + 300 < cLine) (hret : ∀ T t1 t2 h' tk', Fr gO L h' m -> News gO L h' ((T, bf (.str (qU n) t1) (.str (qM n) t2)) :: news) -> AllLt T news -> Q (.ref T) { s with heap := h', toks := tk' }), wpAny (model rw_rw0126_02.row.prog w) (ktrTop dp un gd cn ⟨.function, nms, ig, ic, mo⟩ L a ccd cl outer) (call (.ref 317) [.int (n : Int) tn]) Q E s
noncomputable def E25.pQ := V6 λ a b c d e f => V6 λ g h i j k l => V6 λ m n o p q r => V6 λ s t u v w x => U λ y => U λ z => U λ A => λ B => @E25.pP a v w x d u e f b c z p o g h i j k l m n q r t s A y B
@[irreducible] noncomputable def E25.pv := @Classical.epsilon _ (by tm_at "ne") λ x => ¬ E25.pQ x
theorem agb : @E25.pP w L m s mean gO mg mb p loose E ccd a dp un gd cn nms ig ic mo cl outer base gV n Q tn := bh E25.pQ (by with_unfolding_all rfl : E25.pv = _) (by
 w_top off
 k_with "eH" => (k_here; (tm_at "by"); k_dflt (refine' join_list ?QF ?QG ?QH ?_; (case QF => tm_at "au"); (case QG => assumption); (case QH => first | exact aaS (by decide : 1 <= 3) (by decide +kernel) | exact aaT (by decide : 1 <= 3) (by decide +kernel)); k_whole); intro t' k')
 k_with "bY" => (k_here; lcg_calm; k_dflt (refine LCg.ListComp_U (F₀ := by k_asm) (by with_unfolding_all rfl) (by decide) (by rfl) (by decide) (by rfl) ?_); k_dflt lcg_toSrc)
 k_with "eI" => (k_here; (tm_at "9"); (rename aM _ _ _ => pr9'); (tm_at "aC"); k_dflt (refine' mZ (vs := (_ ++ [Value.ref _]) ++ [Value.ref _]) (λ p => p.2) ?QI ?QJ ?QK ?QL (((aM.mono ?QM pr9').snoc ?QN).snoc ?QO) ?QP ?_ ?_; (case QI => exact rfl); (case QJ => k_asm); (case QK => exact lN'); (case QL | QN | QO => k_mem); (case QM => ((tm_at "Y"); (tm_at "Z"))); (case QP => (tm_at "aZ"))); (tm_at "cj"); (try k_sweep))
 k_with "eJ" => (k_here; (fail_if_success rename StrsAre _ _ => sx9); (tm_at "9"); (rename aM _ _ _ => pr9'); (tm_at "aC"); k_dflt (refine' mZ (vs := (_ ++ [Value.ref _]) ++ [Value.ref _]) (λ p => p.1) ?QQ ?QR ?QS ?QT (((aM.mono ?QU pr9').snoc ?QV).snoc ?QW) ?QX ?_ ?_; (case QQ => exact rfl); (case QR => k_asm); (case QS => exact lN'); (case QT | QV | QW => k_mem); (case QU => ((tm_at "Y"); (tm_at "Z"))); (case QX => (tm_at "aZ"))); (tm_at "cj"); (try k_sweep))
 k_with "eK" => (k_here; (tm_at "bu"); (tm_at "af"); (tm_at "9"); refine' zf ?QY ?QZ (vM _ _ _ _ _ _ _ _ _ _ _) ?R0 ?R1 ?R2 ?R3 ?R4 ?R5 ?R6 ?_ ?_; (case QY | R0 => assumption); (case QZ => k_dflt (assumption)); (case R6 => assumption); (case R1 => k_dflt (exact rfl)); (case R2 => exact lF'); (case R3 => exact lN'); (case R4 => ((tm_at "Y"); (tm_at "Z"))); (case R5 => ((tm_at "8") <;> first | with_reducible assumption | exact aA (by tm_at "h") | exact aF (by tm_at "h") | exact aH (by tm_at "h") | (tm_at "Q"))); (all_goals (first | (clear lF' lN'; intro u' h' tk' vs' k' R' pr' vl' sb' d' F' N'; (dsimp only [bK, zc] at F'); (replace d' := allNe_of d'); (k_lt d')) | (intro I' j' t' u' it' h' tk' vs' k' R' b1' b2' hi9' hb9' mh' mb' d' off' F' N'; refine' zP rfl ?R7 ?R8 ?R9 ?Ra F' ?Rb (λ z hz => qz hz) N' ?QY b1' b2' hi9' hb9' mh' mb' d' off' ?Rc ?Rd; (case R7 | R8 | R9 => k_asm); (case Ra => passes_own); (case Rb => tm_at "ax"); (case QY => assumption); (case Rc => ktr_room); (case Rd => ktr_units)))); (try k_sweep))
 k_with "c0" => (refine' LCg.CompEnd.intro ?Re ?Rf _ ?Rg ?Rh ?Ri ⟨⟨_, rfl⟩, rfl⟩; (case Re | Rf => k_asm); (case Rg => exact λ _ h => h); (case Rh => assumption); (case Ri => tm_at "bf"))
 k_with "W call builtin:str.join" => first | tm_at "eH" | tm_at "miss"
 k_with "W eval ListComp" => first | tm_at "bY" | tm_at "miss"
 k_with "W CompSrc" => first | tm_at "eJ" | tm_at "eI" | tm_at "miss"
 k_with "W exec For Name Call cons nil" => tm_at "bl"
 k_with "W pyIter ref" => first | tm_at "eK" | tm_at "miss"
 k_with "W CompEnd" => first | tm_at "c0" | tm_at "miss"
 k_with "passes_own" => tm_at "o"
 k_with "W dj" => tm_at "o"
 k_with "W ir" => tm_at "o"
 k_with "W binaryOp FloorDiv int int" => tm_at "o"
 k_with "W subscriptTail Name BinOp ref int" => tm_at "o"
 intro news hdummy B F X N T hn hd hu hret;revert X
 k_fill
 intro X;have hr0 : ∀ p ∈ news, p ∈ news := λ _ h => h
 k_steps
 rename News (E25.pv.2.2.2.1.2.2.1) (E25.pv.2.2.2.1.2.2.2.1) _ _ => N9
 clear hr0;rename ∀ p ∈ news, p ∈ _ => kk9
 rename AllLt _ _ => l9
 exact hret _ _ _ _ _ (by k_asm) (az N9 (aj ⟨.head _, λ p9 h9 => .tail _ (.tail _ (.tail _ (.tail _ (.tail _ (.tail _ (kk9 p9 h9))))))⟩)) (allLt_of λ p hp => aN l9 p (kk9 p hp))
 ) ((w, p, loose, mean, mg, mb), (dp, un, gd, cn, nms, ig), (ic, mo, a, ccd, cl, outer), (gV, base, gO, L, m, s), Q, E, n, tn)
noncomputable def E30.pP {Q : Flow -> Shared -> Prop} {rest : List Stmt} : Prop := ∀  (hdummy : rw1 = rw1) (B : Below callerA gO [] gO) (F : Fr gO L s.heap m) (X : (K1 w.params).In gO) (T : Top p loose mean mg mb gO) (hL : @LT.lt Nat _ 351 L) (hE : PassesOwn (model rw_rw0126_02.row.prog w) (callerA.deeper (envOfC (ofString "law") au L fa ccd)) (envOfC (ofString "law") au L fa ccd) E) (N : News gO L s.heap ((L + 1 + 1, o2) :: (L + 1, o1) :: R)) (hA : aB m []) (hc1 : o1.data = .cell (some (.ref sa))) (hc2 : o2.data = .cell none) (hsa : gO.IsList sa vs.toArray) (hin : IntsAre vs ns) (hvz : vs.toArray.size <= sizeLine) (e2 : ∀ p ∈ R, @Ne Nat p.1 (L + 1 + 1)) (hret : ∀ h' tk' m' na nv kn zs oa ov ko M tt la kl, IntsAre nv zs -> zs.length = 2 -> (∀ z ∈ zs, 0 <= z /\ z < 1000000000000) -> IntsAre ov (zs.map fc) -> M ∈ zs.map fc -> (∀ a, a ∈ zs.map fc -> a <= M) -> (∀ p ∈ R, p.1 ≠ na) -> (∀ p ∈ R, p.1 ≠ oa) -> (∀ p ∈ R, p.1 ≠ la) -> @Ne Nat na oa -> @Ne Nat na la -> @Ne Nat oa la -> aB m' [(ofString "numbers", .ref na), (ofString "orders", .ref oa), (ofString "top", .int (M + 1) tt), (ofString "leads", .ref la)] -> Fr gO L h' m' -> News gO L h' ((la, listOf #[] kl) :: (oa, listOf ov.toArray ko) :: (na, listOf nv.toArray kn) :: R) -> wpAny (model rw_rw0126_02.row.prog w) (callerA.deeper (envOfC (ofString "law") au L fa ccd)) (execs (rest) (envOfC (ofString "law") au L fa ccd)) Q E { s with heap := h', toks := tk' }), wpAny (model rw_rw0126_02.row.prog w) (callerA.deeper (envOfC (ofString "law") au L fa ccd)) (execs (sb 0 :: sb 1 :: sb 2 :: sb 3 :: sb 4 :: rest) (envOfC (ofString "law") au L fa ccd)) Q E s
noncomputable def E30.pQ := V6 λ a b c d e f => V6 λ g h i j k l => V6 λ m n o p q r => U λ s => U λ t => λ u => @E30.pP a j k l d i e f b c n h g u q r p s t m o
@[irreducible] noncomputable def E30.pv := @Classical.epsilon _ (by tm_at "ne") λ x => ¬ E30.pQ x
theorem ah8 {Q : Flow -> Shared -> Prop} {rest : List Stmt} : @E30.pP w L m s mean gO mg mb p loose E ccd fa R vs ns sa o1 o2 Q rest := bh E30.pQ (by with_unfolding_all rfl : E30.pv = _) (by
 w_top off
 k_with "eL" => (k_here; (with_reducible show wpAny _ _ (subscriptTail _ (PySem.Expr.Slice _ _ (some _) _) (Value.ref _) (Value.ref _)) _ _ _); k_dflt (refine' kmk_slice3_lit (zs := Array.toList _) ?Rj ?Rk ?Rl ?Rm ?Rn ?Ro ?Rp ?Rq ?_ ?Rr ?Rs ?Rt; (case Rj | Rk => k_asm); (case Rl => kmk_list); (case Rm | Rn | Ro => kmk_part); (case Rp => decide); (case Rq => exact rfl); (case Rr => with_unfolding_all rfl); (case Rs => kmk_pure); (case Rt => assumption)); intro D' h' F' N' l1; (try k_lt l1); (try k_sweep))
 k_with "eM" => (k_here; (tm_at "aH"); k_dflt (refine' aas ?Ru ?Rv ?Rw ?Rx ?Ry ?_; (case Ru | Rv => k_asm); (case Rw => exact rfl); (case Rx => k_mem); (case Ry => assumption); k_whole); intro z' h' tk' t' F' N'; (try k_sweep))
 k_with "eN" => (k_here; (rename IntsAre _ _ => hI'); (have hl9' := hI'.length); k_dflt (refine' zq ?Rz ?RA ?RB ?RC ?RD ?RE ?_ ?_; (case Rz => exact rfl); (case RA | RB => k_asm); (case RC => k_mem); (case RD => assumption); (case RE => lia)); (all_goals first | (intro g' z' t' I' oI' C' oC' D' ys' m' h' tk' E' hi' hC' hx' F' N' off' ne') | (intro g' ys' hy')); (try k_sweep))
 k_with "eO" => (k_here; k_dflt (refine' eG (n := 2) (ahH (λ _ z => 0 <= z /\ z < 1000000000000)) ?RF ?RG ?RH ?RI ?RJ ?RK ?RL ?_ ?_; (case RF => exact rfl); (case RG | RH => k_asm); (case RI => assumption); (case RJ | RK => decide); (case RL => size_fits)); (all_goals first | (intro g' i' t' I' oI' C' oC' D' ys' m' h' tk' E' hi' hC' hx' F' N' off' ne') | (intro g' ys' hy'; obtain ⟨zs', hz1', hz2'⟩ := hy'.ints; (have hz3' := hz2'.all); (have hz4' := hz2'.length); (simp only [List.length_range] at hz4'))); (try k_sweep))
 k_with "eP" => (refine' LCg.CompEnd.intro ?RM ?RN _ ?RO ?RP ?RQ ⟨?RR, rfl⟩; (case RM | RN => k_asm); (case RO => first | exact λ _ h => h | ((tm_at "Y"); (tm_at "Z"))); (case RP => assumption); (case RQ => first | exact trivial | exact .inr ⟨_, by k_mem, rfl, _, rfl⟩); (case RR => first | exact ⟨_, _, rfl, aa5 _⟩ | exact ⟨_, rfl⟩))
 k_with "eQ" => (k_here; (tm_at "ap"); k_dflt (refine' ksa_sub (vs := [_, _]) ?RS ?RT ?RU ?RV ?RW ?RX ?_ ?RY; (case RS => k_asm); (case RT => k_mem); (case RU => exact (.cons _ _ (.cons _ _ .nil))); (case RV => tm_at "om"); (case RW => (simp only [List.length_cons, List.length_nil]; lia)); (case RX => tm_at "om"); (case RY => with_unfolding_all rfl); k_whole); intro _)
 k_with "eR" => (k_here; (tm_at "aH"); k_dflt (refine' kso_max ?RZ ?S0 ?S1 ?S2 ?S3 ?S4 ?_; (case RZ | S0 => k_asm); (case S1 => tm_at "au"); (case S2 => assumption); (case S3 => (rw [List.length_map]; lia)); (case S4 => exact rfl); k_whole); intro h' M' t' k' F' N' a' b'; (try k_sweep))
 k_with "passes_own" => tm_at "bk"
 k_with "W subscriptTail Name Slice ref ref" => first | tm_at "eL" | tm_at "miss"
 k_with "W call builtin:sum" => first | tm_at "eM" | tm_at "miss"
 k_with "W CompSrc" => first | tm_at "eO" | tm_at "eN" | tm_at "miss"
 k_with "W CompEnd" => first | tm_at "eP" | tm_at "miss"
 k_with "W subscriptTail" => first | tm_at "eQ" | tm_at "miss"
 k_with "W call builtin:max" => first | tm_at "eR" | tm_at "miss"
 k_with "W exec For Name Call cons nil" => tm_at "o"
 k_with "W pyIter ref" => tm_at "o"
 k_with "W call builtin:str.join" => tm_at "o"
 k_with "W spliced" => tm_at "o"
 k_with "W call builtin:chr" => tm_at "o"
 k_with "W eval ListComp" => tm_at "o"
 intro hdummy B F X T hL hE N hA hc1 hc2 hsa hin hvz e2 hret;tm_at "ai";tm_at "ag";revert X
 k_fill
 intro X
 conv in sb 0 => whnf
 conv in sb 1 => whnf
 conv in sb 2 => whnf
 conv in sb 3 => whnf
 conv in sb 4 => whnf
 k_steps
 (try dsimp only)
 rename News (E30.pv.2.1.2.2.1) (E30.pv.2.1.2.2.2.1) _ _ => N9
 rename _ /\ _ /\ _ /\ _ /\ LCg.Off1 _ (E30.pv.2.2.2.2.2) => q2
 rename _ /\ _ /\ _ /\ LCg.Off1 _ (E30.pv.2.2.2.2.2) => q1
 have q3 := q2.1;refine' hret _ _ _ _ _ _ _ _ _ _ _ _ _ _ ?a1 ?a2 ?a3 ?a4 ?a5 ?a6 ?o1 ?o2 ?o3 ?o4 ?o5 ?o6 ?ha ?F (az N9 ?sub)
 case F => k_asm
 tm_at "al";tm_at "aB"
 case a1 => assumption
 case a4 => assumption
 case a2 => exact Eq.symm (by assumption)
 case a3 => assumption
 case a5 => assumption
 case a6 => assumption
 (case o1 => exact gj q1.2.2.2)
 (case o2 => exact gj q2.2.2.2.2)
 (case o3 => first | exact aF (by assumption) | exact aH (by assumption))
 all_goals (tm_at "Q")
 ) ((w, p, loose, mean, mg, mb), (fa, ccd, gO, L, m, s), (Q, E, rest, sa, vs, ns), o1, o2, R)
noncomputable def E17.pP {Q : Flow -> Shared -> Prop} {rest : List Stmt} {x : Nat} {tx : Tok} : Prop := ∀  (hdummy : rw1 = rw1) (B : Below callerA gO [] gO) (F : Fr gO L s.heap m) (X : (K1 w.params).In gO) (T : Top p loose mean mg mb gO) (hL : @LT.lt Nat _ 351 L) (hE : PassesOwn (model rw_rw0126_02.row.prog w) (callerA.deeper (envOfC (ofString "law") au L fa ccd)) (envOfC (ofString "law") au L fa ccd) E) (N : News gO L s.heap ((L + 1 + 1 + 1, o3) :: (L + 1 + 1 + 1 + 1, o4) :: R)) (hA : aB m [(ofString "k", .int (0 + (j : Int)) tk), (ofString "numbers", .ref na), (ofString "orders", .ref oa), (ofString "top", .int (top : Int) tt), (ofString "leads", .ref la)]) (hj : j < 2) (ho : (oa, listOf ov.toArray ko) ∈ R) (hn : (na, listOf nv.toArray kn) ∈ R) (hv1 : ov[j]? = some (.int (n : Int) tn)) (hv2 : nv[j]? = some (.int (x : Int) tx)) (c3 : o3.data = .cell v3) (c4 : o4.data = .cell v4) (e3 : ∀ p ∈ R, p.1 ≠ L + 1 + 1 + 1) (e4 : ∀ p ∈ R, p.1 ≠ L + 1 + 1 + 1 + 1) (hx : x < 1000000000000) (hn4 : n <= 4) (hret : ∀ h' tk' m' o3' o4' t1 t2 (wd : Nat), (wd = 3 \/ wd = 5) -> (n = 4 -> wd = 5) -> o3'.data = .cell (some (.int (n : Int) t1)) -> o4'.data = .cell (some (.int (wd : Int) t2)) -> aB m' [(ofString "k", .int (0 + (j : Int)) tk), (ofString "numbers", .ref na), (ofString "orders", .ref oa), (ofString "top", .int (top : Int) tt), (ofString "leads", .ref la)] -> Fr gO L h' m' -> News gO L h' ((L + 1 + 1 + 1, o3') :: (L + 1 + 1 + 1 + 1, o4') :: R) -> wpAny (model rw_rw0126_02.row.prog w) (callerA.deeper (envOfC (ofString "law") au L fa ccd)) (execs (rest) (envOfC (ofString "law") au L fa ccd)) Q E { s with heap := h', toks := tk' }), wpAny (model rw_rw0126_02.row.prog w) (callerA.deeper (envOfC (ofString "law") au L fa ccd)) (execs (tb 0 :: tb 1 :: rest) (envOfC (ofString "law") au L fa ccd)) Q E s
noncomputable def E17.pQ := V6 λ a b c d e f => V6 λ g h i j k l => V6 λ m n o p q r => V6 λ s t u v w x => V6 λ y z A B C D => U λ E => U λ F => U λ G => U λ H => λ I => @E17.pP a j k l d i e f b c n h x g I D p z r E w q B A F v t s u G H m o y C
@[irreducible] noncomputable def E17.pv := @Classical.epsilon _ (by tm_at "ne") λ x => ¬ E17.pQ x
theorem agc {Q : Flow -> Shared -> Prop} {rest : List Stmt} {x : Nat} {tx : Tok} : @E17.pP w L m s mean gO mg mb p loose E ccd n fa R tt oa top la o3 j na tn tk o4 kn nv ov ko v3 v4 Q rest x tx := bh E17.pQ (by with_unfolding_all rfl : E17.pv = _) (by
 w_top off
 k_with "eS" => (k_here; (tm_at "ap"); k_dflt (refine' aaP ?S5 ?S6 ?S7 ?S8 ?S9 ?_ ?Sa ?Sb; (case S5 => k_asm); (case S7 => k_mem); (case S6 => assumption); (case S8 => exact rfl); (case S9 => lia); (case Sa => with_unfolding_all rfl); (case Sb => tm_at "aE"); k_whole))
 k_with "W subscriptTail Name Name ref int" => first | tm_at "eS" | tm_at "miss"
 k_with "W subscriptTail" => tm_at "o"
 k_with "W CompSrc" => tm_at "o"
 k_with "W CompEnd" => tm_at "o"
 k_with "W call builtin:sum" => tm_at "o"
 k_with "W subscriptTail Name Slice ref ref" => tm_at "o"
 k_with "W call builtin:max" => tm_at "o"
 intro hdummy B F X T hL hE N hA hj ho hn hv1 hv2 c3 c4 e3 e4 hx hn4 hret;tm_at "ai";tm_at "ag";revert X
 k_fill
 intro X
 conv in tb 0 => whnf
 conv in tb 1 => whnf
 k_steps
 all_goals
   rename News (E17.pv.2.1.2.2.1) (E17.pv.2.1.2.2.2.1) _ _ => N9
   dsimp only
   first
   | (rename ((E17.pv.2.2.2.1.2.2.2.2.2) : Int) = 4 => h9; refine' hret _ _ _ _ _ _ _ 5 (.inr rfl) (λ _ => rfl) ?d3 ?d4 ?ha ?F N9)
   | (rename Int.fmod _ 2 = 1 => h9; refine' hret _ _ _ _ _ _ _ 5 (.inr rfl) (λ _ => rfl) ?d3 ?d4 ?ha ?F N9)
   | (rename ((E17.pv.2.2.2.1.2.2.2.2.2) : Int) ≠ 4 => h9; refine' hret _ _ _ _ _ _ _ 3 (.inl rfl) (λ e9 => absurd (congrArg Nat.cast e9) h9) ?d3 ?d4 ?ha ?F N9)
   case F => k_asm
   tm_at "al"
   case d3 => assumption
   case d4 => assumption
 ) ((w, p, loose, mean, mg, mb), (fa, ccd, gO, L, m, s), (Q, E, rest, oa, na, la), (ov, nv, ko, kn, j, n), (x, top, tk, tn, tx, tt), o3, o4, v3, v4, R)
example : True := by
 w_top off
 trivial
theorem aiW {b : Bool} (h : b = false) : (!b) = true := by rw [h]; rfl
theorem aiX {b : Bool} (h : b = true) : (!b) = false := by rw [h]; rfl
theorem fd6 (x : Nat) : Int.fdiv (x : Int) 6 = ((x / 6 : Nat) : Int) := by
 rw [Int.fdiv_eq_ediv_of_nonneg _ (by decide)]; rfl
theorem adI (hdummy : rw1 = rw1) (B : Below gV base outer gO) (F : Fr gO L s.heap m) (X : (K1 w.params).In gO) (N : News gO L s.heap news) (T : Top p loose mean mg mb gO) (hz : z = (n : Int)) (hn : n < 200000000000) (hd : dp + 20 < recursionLimit) (hu : un + 300 < cLine) (hret : ∀ T t1 t2 h' tk', Fr gO L h' m -> News gO L h' ((T, bf (.str (qU n) t1) (.str (qM n) t2)) :: news) -> AllLt T news -> Q (.ref T) { s with heap := h', toks := tk' }) : wpAny (model rw_rw0126_02.row.prog w) (ktrTop dp un gd cn ⟨.function, nms, ig, ic, mo⟩ L a ccd cl outer) (call (.ref 317) [.int z tn]) Q E s := by
 revert X
 k_fill
 intro X;subst hz;exact agb hdummy B F X N T hn hd hu hret
noncomputable def E12.pP {Q : Flow -> Shared -> Prop} {rest : List Stmt} {x : Nat} {tx : Tok} : Prop := ∀  (hdummy : rw1 = rw1) (B : Below callerA gO [] gO) (F : Fr gO L s.heap m) (X : (K1 w.params).In gO) (T : Top p loose mean mg mb gO) (hL : @LT.lt Nat _ 351 L) (hE : PassesOwn (model rw_rw0126_02.row.prog w) (callerA.deeper (envOfC (ofString "law") au L fa ccd)) (envOfC (ofString "law") au L fa ccd) E) (N : News gO L s.heap R) (hA : aB m [(ofString "k", .int (0 + (j : Int)) tk), (ofString "numbers", .ref na), (ofString "orders", .ref oa), (ofString "top", .int (top : Int) tt), (ofString "leads", .ref la)]) (hj : j < 2) (hn : (na, listOf nv.toArray kn) ∈ R) (hv2 : nv[j]? = some (.int (x : Int) tx)) (hx : x < 1000000000000) (hb1 : Txt.join (ofString "") (List.map cB (List.filter (λ c => !fU c) (qU (x / 6)).cps.toList)) = qM (x / 6)) (hb2 : ((List.map cB (List.filter (λ c => !fU c) (qU (x / 6)).cps.toList)).map (·.length)).sum + (List.map cB (List.filter (λ c => !fU c) (qU (x / 6)).cps.toList)).length * (ofString "").length <= 16777216) (hb3 : (qU (x / 6)).length < 1000) (hret : ∀ h' tk' m' t1, aB m' [(ofString "k", .int (0 + (j : Int)) tk), (ofString "numbers", .ref na), (ofString "orders", .ref oa), (ofString "top", .int (top : Int) tt), (ofString "leads", .ref la), (ofString "book", .str (qM (x / 6)) t1)] -> Fr gO L h' m' -> News gO L h' R -> wpAny (model rw_rw0126_02.row.prog w) (callerA.deeper (envOfC (ofString "law") au L fa ccd)) (execs (rest) (envOfC (ofString "law") au L fa ccd)) Q E { s with heap := h', toks := tk' }), wpAny (model rw_rw0126_02.row.prog w) (callerA.deeper (envOfC (ofString "law") au L fa ccd)) (execs (tb 2 :: tb 3 :: tb 4 :: rest) (envOfC (ofString "law") au L fa ccd)) Q E s
noncomputable def E12.pQ := V6 λ a b c d e f => V6 λ g h i j k l => V6 λ m n o p q r => V6 λ s t u v w x => U λ y => U λ z => λ A => @E12.pP a j k l d i e f b c n h g A z q w r u p x t s m o v y
@[irreducible] noncomputable def E12.pv := @Classical.epsilon _ (by tm_at "ne") λ x => ¬ E12.pQ x
theorem agd {Q : Flow -> Shared -> Prop} {rest : List Stmt} {x : Nat} {tx : Tok} : @E12.pP w L m s mean gO mg mb p loose E ccd fa R tt oa top la j na tk kn nv Q rest x tx := bh E12.pQ (by with_unfolding_all rfl : E12.pv = _) (by
 k_with "eT" => (k_here; k_dflt (refine vm (F₀ := by k_asm) (by with_unfolding_all rfl) (by decide) (by rfl) (by decide) (by rfl) ?_ (by intro _; rfl)))
 k_with "eU" => (k_here; k_dflt (refine' vo (λ c => !fU c) cB ?Sc ?Sd ?Se ?Sf ?_ ?_; (case Sc => exact rfl); (case Sd | Se => k_asm); (case Sf => assumption)); (tm_at "b2"); (try k_sweep))
 k_with "eV" => (refine' LCg.CompEnd.intro ?Sg ?Sh _ ?Si ?Sj ?Sk ⟨?Sl, ?Sm, rfl⟩; (case Sg | Sh => k_asm); (case Si => exact λ _ h => h); (case Sj => assumption); (case Sk => exact trivial); (case Sm => first | exact λ _ => ⟨_, rfl⟩ | (intro h9; exact absurd h9 Bool.false_ne_true)); (case Sl => first | exact aiW (by assumption) | exact aiX (by assumption)))
 k_with "eW" => (k_here; (tm_at "bw"); k_dflt (refine' join_list ?Sn ?So ?Sp ?_; (case Sn => tm_at "au"); (case So | Sp => assumption); k_whole); intro t' k'; (try rw [show Txt.join (ofString "") (List.map cB (List.filter (λ c => !fU c) (qU _).cps.toList)) = qM _ from by assumption]))
 k_with "eX" => (k_here; (with_reducible show wpAny _ _ (call (Value.ref 200) _) _ _ _); (tm_at "4"); k_dflt (refine' aiT rfl ?Sq ?Sr ?Ss ?St ?Su  ?Sv ?Sw ?_; (case Sq | Sr | Ss | St | Su => k_asm); (case Sv => ktr_room); (case Sw => ktr_units); k_whole); intro h9 tk9 F9 N9; (tm_at "5"); (tm_at "6"); (try k_fold); (try k_sweep))
 k_with "eY" => (k_here; (with_reducible show wpAny _ _ (call (Value.ref 246) _) _ _ _); (tm_at "4"); k_dflt (refine' aiU rfl ?Sx ?Sy ?Sz ?SA ?SB  ?SC ?SD ?_; (case Sx | Sy | Sz | SA | SB => k_asm); (case SC => ktr_room); (case SD => ktr_units); k_whole); intro t9 h9 tk9 F9 N9; (tm_at "5"); (tm_at "6"); (try k_fold); (try k_sweep))
 k_with "eZ" => (k_here; (with_reducible show wpAny _ _ (call (Value.ref 317) _) _ _ _); (tm_at "4"); k_dflt (refine' adI rfl ?SE ?SF ?SG ?SH ?SI ?SJ ?SK ?SL ?SM ?_; (case SE | SF | SG | SH | SI => k_asm); (case SJ => exact fd6 _); (case SK => lia); (case SL => ktr_room); (case SM => ktr_units); k_whole); intro T9 t1' t2' h9 tk9 F9 N9 l9; (tm_at "5"); (try k_lt l9); (tm_at "6"); (try k_fold); (try k_sweep))
 k_with "W call ref" => first | tm_at "eZ" | tm_at "eY" | tm_at "eX" | tm_at "ac" | tm_at "ad" | tm_at "miss"
 k_with "W eval ListComp" => first | tm_at "eT" | tm_at "miss"
 k_with "W aaC" => first | tm_at "eU" | tm_at "miss"
 k_with "W CompEnd" => first | tm_at "eV" | tm_at "miss"
 k_with "W call builtin:str.join" => first | tm_at "eW" | tm_at "miss"
 intro hdummy B F X T hL hE N hA hj hn hv2 hx hb1 hb2 hb3 hret;tm_at "ai";tm_at "ag";revert X
 k_fill
 intro X
 conv in tb 2 => whnf
 conv in tb 3 => whnf
 conv in tb 4 => whnf
 k_steps
 all_goals first
   | (rename (_ != _) = true => e9; exact absurd e9 (by simp))
   | (rename News (E12.pv.2.1.2.2.1) (E12.pv.2.1.2.2.2.1) _ _ => N9; dsimp only; refine' hret _ _ _ _ ?ha ?F (az N9 ?sub))
 case F => k_asm
 tm_at "al";tm_at "aB"
 ) ((w, p, loose, mean, mg, mb), (fa, ccd, gO, L, m, s), (Q, E, rest, na, oa, la), (nv, kn, j, x, top, tk), tx, tt, R)
section
variable {prog : Program}
theorem abo {b : Addr} {x x' : Int} {z z' : Str} {u1 u2 : Tok} (N : News gO L s.heap news) (h1 : (a, bf (.str z t1) (.int x t2)) ∈ news) (h2 : (b, bf (.str z' u1) (.int x' u2)) ∈ news) (ez : z = z') (ex : x = x') (hu : A.units + 64 < cLine) (ok1 : PyData.strOk z' = true) (h : Q (.bool false) s) : wpAny (model prog w) A (compareOp .NotEq (.ref a) (.ref b)) Q E s := by
 w_top off
 k_with "W call ref" => tm_at "ak"
 k_with "ktr_room" => tm_at "a7"
 k_with "ktr_units" => tm_at "a8"
 k_with "W subscriptTail Name Name ref int" => tm_at "o"
 k_with "W call builtin:str.join" => tm_at "o"
 k_with "W CompEnd" => tm_at "o"
 k_with "W eval ListComp" => tm_at "o"
 k_with "W aaC" => tm_at "o"
 subst ex ez;refine ne_dataH (reads_tuple_at (N.get h1) rfl rfl (.cons (.str _ _) (.cons (.int _ _) .nil))) (reads_tuple_at (N.get h2) rfl rfl (.cons (.str _ _) (.cons (.int _ _) .nil))) (by tm_at "bx") (by tm_at "bx") hu ?_
 simpa [PyData.eqv, PyData.eqvAll] using h
end
noncomputable def E14.pP {Q : Flow -> Shared -> Prop} {rest : List Stmt} {tB : Tok} : Prop := ∀  (hdummy : rw1 = rw1) (B : Below callerA gO [] gO) (F : Fr gO L s.heap m) (X : (K1 w.params).In gO) (T : Top p loose mean mg mb gO) (hL : @LT.lt Nat _ 351 L) (hE : PassesOwn (model rw_rw0126_02.row.prog w) (callerA.deeper (envOfC (ofString "law") au L fa ccd)) (envOfC (ofString "law") au L fa ccd) E) (N : News gO L s.heap ((140, oL) :: (147, oS) :: R)) (hA : aB m [(ofString "k", .int (0 + (j : Int)) tk), (ofString "numbers", .ref na), (ofString "orders", .ref oa), (ofString "top", .int (top : Int) tt), (ofString "leads", .ref la), (ofString "book", .str book tB)]) (c3 : o3.data = .cell (some (.int (n : Int) t3))) (hc3 : (L + 1 + 1 + 1, o3) ∈ R) (hz : (n : Int) = (k0 : Int) + 1) (hk : 0 < k0 /\ k0 <= 3) (hbk : book.cps.toList = bk) (hlb : (aK k0).length <= bk.length) (hb9 : book.length <= 100000) (e1 : ∀ p ∈ R, p.1 ≠ 140) (e2 : ∀ p ∈ R, p.1 ≠ 147) (ht1 : ao 93 19 oL) (ht2 : ao 96 32 oS) (G : AllBare s.gens) (hret : ∀ s' m' oL' oS' t1, ao 93 19 oL' -> ao 96 32 oS' -> AllBare s'.gens -> s'.os = s.os -> aB m' [(ofString "k", .int (0 + (j : Int)) tk), (ofString "numbers", .ref na), (ofString "orders", .ref oa), (ofString "top", .int (top : Int) tt), (ofString "leads", .ref la), (ofString "ring", .str (kJ bk k0) t1)] -> Fr gO L s'.heap m' -> News gO L s'.heap ((140, oL') :: (147, oS') :: R) -> wpAny (model rw_rw0126_02.row.prog w) (callerA.deeper (envOfC (ofString "law") au L fa ccd)) (execs (rest) (envOfC (ofString "law") au L fa ccd)) Q E s'), wpAny (model rw_rw0126_02.row.prog w) (callerA.deeper (envOfC (ofString "law") au L fa ccd)) (execs (tb 5 :: tb 6 :: tb 7 :: rest) (envOfC (ofString "law") au L fa ccd)) Q E s
noncomputable def E14.pQ := V6 λ a b c d e f => V6 λ g h i j k l => V6 λ m n o p q r => V6 λ s t u v w x => V6 λ y z A B C D => U λ E => λ F => @E14.pP a j k l d i e f b c n h t g F A q v D E r C s p z B u w x m o y
@[irreducible] noncomputable def E14.pv := @Classical.epsilon _ (by tm_at "ne") λ x => ¬ E14.pQ x
theorem age {Q : Flow -> Shared -> Prop} {rest : List Stmt} {tB : Tok} : @E14.pP w L m s mean gO mg mb p loose E ccd n fa R tt oa top oL oS la o3 j na tk t3 k0 book bk Q rest tB := bh E14.pQ (by with_unfolding_all rfl : E14.pv = _) (by
 k_with "e0" => (k_here; k_dflt (refine' abo ?SN ?SO ?SP ?SQ ?SR ?SS ?ST ?_; (case SN => k_asm); (case SP | SO => k_mem); (case SQ | SR => exact rfl); (case ST => decide +kernel); (case SS => ktr_units); k_whole))
 k_with "e1" => (k_here; (with_reducible show wpAny _ _ (call (Value.ref 178) _) _ _ _); (tm_at "4"); k_dflt (refine' oW ?SU ?SV ?SW ?SX ?SY ?SZ ?T0 ?_; (case SU | SV | SW => k_asm); (case SX => kernel_rfl); (case SY => exact aam _); (case SZ | T0 => k_is)); intro x dx h1 F1 N1 l1 l2; (try dsimp only at N1); (have hdx1 := Nat.ne_of_lt l2); (have l9 := l1); (have l8 := ux l1 l2); (try k_lt l1); (try k_lt l8); refine' adG rfl ?T1 ?T2 ?T3 ?T4 ?T5 ?T6 ?T7 ?T8 ?T9 ?Ta ?Tb ?Tc ?_; (case T1 | T2 | T3 | T4 | T5 => k_asm); (case T6 | T7 => tm_at "7"); (case T8 => tm_at "aS"); (case T9 => exact λ p hp => Nat.ne_of_lt (Nat.lt_trans (l9 p hp) l2)); (case Ta => exact λ p hp => Nat.ne_of_lt (l9 p hp)); (clear l9); (case Tb => ktr_room); (case Tc => ktr_units); intro h9 tk9 n9 tk8 tz8 F9 N9; (try dsimp only [PySem.W.InitBack]); (try refine ⟨rfl, ?_⟩); (try k_fold); (try k_sweep))
 k_with "e2" => (k_here; (with_reducible show wpAny _ _ (call (Value.ref 329) _) _ _ _); (tm_at "4"); k_dflt (refine' aga rfl ?Td ?Te ?Tf ?Tg ?Th ?Ti ?Tj ?Tk ?Tl ?Tm ?Tn ?To ?Tp ?Tq ?Tr ?Ts ?Tt ?Tu ?_; (case Td | Te | Tf | Tg | Th => k_asm); (case Ti => k_mem); (case Tj | Tk | Tl | Tm | Tn => assumption); (case To => ((tm_at "8") <;> first | with_reducible assumption | exact aA (by tm_at "h") | exact aF (by tm_at "h") | exact aH (by tm_at "h") | (tm_at "Q"))); (case Tp | Tq | Tr | Ts => tm_at "ae"); (case Tt => ktr_room); (case Tu => ktr_units); k_whole); intro t9' n9' h9 tk9 F9 N9; (tm_at "5"); (tm_at "6"); (try k_fold); (try k_sweep))
 k_with "W call ref" => first | tm_at "e2" | tm_at "cW" | tm_at "cV" | tm_at "e1" | tm_at "ac" | tm_at "ad" | tm_at "miss"
 k_with "W compareOp NotEq ref ref" => first | tm_at "e0" | tm_at "miss"
 intro hdummy B F X T hL hE N hA c3 hc3 hz hk hbk hlb hb9 e1 e2 ht1 ht2 G hret;tm_at "ai";tm_at "ag";revert X
 k_fill
 intro X
 conv in tb 5 => whnf
 conv in tb 6 => whnf
 conv in tb 7 => whnf
 k_steps
 dsimp only;rename News (E14.pv.2.1.2.2.1) (E14.pv.2.1.2.2.2.1) _ _ => N9
 refine' hret _ _ _ _ _ ?t1 ?t2 ?G ?os ?ha ?F (az N9 ?sub)
 case F => k_asm
 tm_at "aB"
 case t1 => assumption
 case t2 => assumption
 tm_at "al"
 case G => k_asm
 case os => (dsimp only; repeat (tm_at "aR"))
 ) ((w, p, loose, mean, mg, mb), (fa, ccd, gO, L, m, s), (Q, E, rest, na, oa, la), (j, n, k0, top, book, bk), (tB, tk, tt, t3, o3, oL), oS, R)
noncomputable def E24.pP {Q : Flow -> Shared -> Prop} {rest : List Stmt} {t4 : Tok} : Prop := ∀  (hdummy : rw1 = rw1) (B : Below callerA gO [] gO) (F : Fr gO L s.heap m) (X : (K1 w.params).In gO) (T : Top p loose mean mg mb gO) (hL : @LT.lt Nat _ 351 L) (hE : PassesOwn (model rw_rw0126_02.row.prog w) (callerA.deeper (envOfC (ofString "law") au L fa ccd)) (envOfC (ofString "law") au L fa ccd) E) (N : News gO L s.heap ((140, oL) :: (147, oS) :: (L + 1 + 1 + 1 + 1 + 1, o5) :: R)) (hA : aB m [(ofString "k", .int (0 + (j : Int)) tk), (ofString "numbers", .ref na), (ofString "orders", .ref oa), (ofString "top", .int (top : Int) tt), (ofString "leads", .ref la), (ofString "ring", .str ring tr)]) (c3 : o3.data = .cell (some (.int (n : Int) t3))) (hc3 : (L + 1 + 1 + 1, o3) ∈ R) (c4 : o4.data = .cell (some (.int (wn : Int) t4))) (hc4 : (L + 1 + 1 + 1 + 1, o4) ∈ R) (c5 : o5.data = .cell v5) (hP : aO ring codes wn) (e1 : ∀ p ∈ R, p.1 ≠ 140) (e2 : ∀ p ∈ R, p.1 ≠ 147) (e5 : ∀ p ∈ R, p.1 ≠ L + 1 + 1 + 1 + 1 + 1) (ht1 : ao 93 19 oL) (ht2 : ao 96 32 oS) (G : AllBare s.gens) (hret : ∀ s' m' oL' oS' o5' t1 v9, o5'.data = .cell v9 -> ao 93 19 oL' -> ao 96 32 oS' -> AllBare s'.gens -> s'.os = s.os -> aB m' [(ofString "k", .int (0 + (j : Int)) tk), (ofString "numbers", .ref na), (ofString "orders", .ref oa), (ofString "top", .int (top : Int) tt), (ofString "leads", .ref la), (ofString "page", .str (xg wn codes) t1)] -> Fr gO L s'.heap m' -> News gO L s'.heap ((140, oL') :: (147, oS') :: (L + 1 + 1 + 1 + 1 + 1, o5') :: R) -> wpAny (model rw_rw0126_02.row.prog w) (callerA.deeper (envOfC (ofString "law") au L fa ccd)) (execs (rest) (envOfC (ofString "law") au L fa ccd)) Q E s'), wpAny (model rw_rw0126_02.row.prog w) (callerA.deeper (envOfC (ofString "law") au L fa ccd)) (execs (tb 8 :: tb 9 :: tb 10 :: rest) (envOfC (ofString "law") au L fa ccd)) Q E s
noncomputable def E24.pQ := V6 λ a b c d e f => V6 λ g h i j k l => V6 λ m n o p q r => V6 λ s t u v w x => V6 λ y z A B C D => U λ E => U λ F => U λ G => U λ H => U λ I => λ J => @E24.pP a j k l d i e f b c n h t g J A q v G H r D s p z B E F u y x I w m o C
@[irreducible] noncomputable def E24.pv := @Classical.epsilon _ (by tm_at "ne") λ x => ¬ E24.pQ x
theorem agf {Q : Flow -> Shared -> Prop} {rest : List Stmt} {t4 : Tok} : @E24.pP w L m s mean gO mg mb p loose E ccd n fa R tt oa top oL oS la o3 j na tk t3 o4 o5 wn tr codes v5 ring Q rest t4 := bh E24.pQ (by with_unfolding_all rfl : E24.pv = _) (by
 w_top off
 k_with "e3" => (k_here; (with_reducible show wpAny _ _ (binaryOp _ (Value.str (Txt.join _ _) _) (Value.str _ _)) _ _ _); k_dflt (refine SB.add ?_ (afR (by assumption) _ _)); intro t' k')
 k_with "e4" => (k_here; (with_reducible show wpAny _ _ (call _ [_, _, _]) _ _ _); (tm_at "af"); (tm_at "9"); k_dflt (refine range3_rows lF' lN' (aO.wdi (by assumption)).1 ?_ (Or.inl (PyProof.noPylong_of_log2 (aO.wdi (by assumption)).2))); intro h' tk' t' u' v' hr' F' N' kk'; (try k_sweep))
 k_with "e6" => (k_here; (with_reducible show wpAny _ _ (call (Value.builtin _) [Value.str _ _]) _ _ _); k_dflt (refine PySem.P.len_str (afQ (by assumption)) ?_))
 k_with "e7" => (k_here; (tm_at "cF"); k_dflt (refine SB.mul (aO.mul (by assumption)) ?_; intro _ _))
 k_with "c1" => (k_here; k_dflt (refine vP (F₀ := by k_asm) (by with_unfolding_all rfl) (by decide) (by rfl) (by decide) (by rfl) ?_ (by intro _; rfl)))
 k_with "e8" => (k_here; k_dflt (refine' vQ ?Tv ?Tw ?Tx ?Ty ?Tz ?_ ?_; (case Tv => assumption); (case Tw => exact rfl); (case Tx | Ty => k_asm); (case Tz => assumption)); (all_goals first | (intro g' i' t' I' oI' C' oC' D' ys' m' h' tk' E' hi' hC' hx' F' N' off' ne') | (intro g' ys' hy'; unfold LCg.FinE; intro D' h' tk' F' N' o1'; (replace o1' := allNe_of (gj o1')); k_lt o1')); (try k_sweep))
 k_with "c2" => (refine' LCg.CompEnd.intro ?TA ?TB _ ?TC ?TD ?TE ⟨⟨_, rfl⟩, rfl⟩; (case TA | TB => k_asm); (case TC => exact λ _ h => h); (case TD => assumption); (case TE => exact trivial))
 k_with "e9" => (k_here; (tm_at "cr"); (tm_at "af"); (tm_at "9"); k_dflt (refine slice_strN_ss (hsz := ?TF) (s := ⟨_, _, _, _, _⟩) lF' lN' ?_; (case TF => exact aO.fit (by assumption))); intro h' t' k' F' N'; (try k_sweep))
 k_with "fa" => (k_here; (with_reducible show wpAny _ _ (call _ [Value.str _ _, Value.str _ _]) _ _ _); k_dflt (refine join_strF (by rfl) (by k_asm) (by k_asm) (joinOk_signsN (N := 100) (S := 1) (Nat.le_trans (Txt.slice_le _ _ _) (aO.fit1 (by assumption))) (by decide +kernel) (by decide)) ?_); intro h' k' t' F' N'; (try k_sweep))
 k_with "fb" => (k_here; (tm_at "by"); k_dflt (refine' join_list ?TG ?TH ?TI ?_; (case TG => tm_at "au"); (case TH => assumption); (case TI => exact aO.join (by assumption)); k_whole); intro t' k'; rw [aO.rows (by assumption)])
 k_with "fc" => (k_here; (with_reducible show wpAny _ _ (call (Value.ref 336) _) _ _ _); (tm_at "4"); k_dflt (refine' af7 rfl ?TJ ?TK ?TL ?TM ?TN ?TO ?TP ?TQ ?TR ?TS ?TT ?TU ?TV ?TW ?TX ?TY ?TZ ?U0 ?U1 ?_; (case TJ | TK | TL | TM | TN => k_asm); (case TO | TP => tm_at "7"); (case TQ => exact aO.cps (by assumption)); (case TR => exact aO.fi (by assumption)); (case TS => exact aO.pos (by assumption)); (case TT => exact aO.len (by assumption)); (case TU => exact aO.wd (by assumption)); (case TV | TW => ((tm_at "8") <;> first | with_reducible assumption | exact aA (by tm_at "h") | exact aF (by tm_at "h") | exact aH (by tm_at "h") | (tm_at "Q"))); (case TX | TY => assumption); (case TZ => k_asm); (case U0 => ktr_room); (case U1 => ktr_units); k_whole); intro s9 oL9 oS9 t9 F9 N9 t91 t92 G9 os9; (tm_at "5"); (tm_at "6"); (try k_fold); (try k_sweep))
 k_with "W call ref" => first | tm_at "fc" | tm_at "ac" | tm_at "ad" | tm_at "miss"
 k_with "ktr_room" => tm_at "aK"
 k_with "ktr_units" => tm_at "aL"
 k_with "W binaryOp Add str str" => first | tm_at "e3" | tm_at "miss"
 k_with "W call type:range" => first | tm_at "e4" | tm_at "miss"
 k_with "W call builtin:len" => first | tm_at "e6" | tm_at "LENK" | tm_at "miss"
 k_with "W binaryOp Mult str int" => first | tm_at "e7" | tm_at "miss"
 k_with "W eval ListComp" => first | tm_at "c1" | tm_at "miss"
 k_with "W zj" => first | tm_at "e8" | tm_at "miss"
 k_with "W CompEnd" => first | tm_at "c2" | tm_at "miss"
 k_with "W subscriptTail Name Slice str ref" => first | tm_at "e9" | tm_at "miss"
 k_with "W call builtin:str.join" => first | tm_at "fb" | tm_at "fa" | tm_at "miss"
 k_with "W compareOp NotEq ref ref" => tm_at "o"
 intro hdummy B F X T hL hE N hA c3 hc3 c4 hc4 c5 hP e1 e2 e5 ht1 ht2 G hret;tm_at "ai";tm_at "ag";revert X
 k_fill
 intro X
 conv in tb 8 => whnf
 conv in tb 9 => whnf
 conv in tb 10 => whnf
 k_steps
 · rename (_ != _) = true => e9
   exact absurd e9 (by unfold xg; simp)
 dsimp only;rename News (E24.pv.2.1.2.2.1) (E24.pv.2.1.2.2.2.1) _ _ => N9
 refine' hret _ _ _ _ _ _ _ ?d5 ?t1 ?t2 ?G ?os ?ha ?F (az N9 ?sub)
 case F => k_asm
 tm_at "aB"
 case d5 => assumption
 case t1 => assumption
 case t2 => assumption
 tm_at "al"
 case G => k_asm
 case os => (dsimp only; repeat (tm_at "aR"))
 ) ((w, p, loose, mean, mg, mb), (fa, ccd, gO, L, m, s), (Q, E, rest, na, oa, la), (j, n, wn, top, ring, codes), (tr, tk, tt, t3, t4, o3), o4, o5, oL, oS, v5, R)
noncomputable def E22.pP {Q : Flow -> Shared -> Prop} {rest : List Stmt} : Prop := ∀  (hdummy : rw1 = rw1) (B : Below callerA gO [] gO) (F : Fr gO L s.heap m) (X : (K1 w.params).In gO) (T : Top p loose mean mg mb gO) (hL : @LT.lt Nat _ 351 L) (hE : PassesOwn (model rw_rw0126_02.row.prog w) (callerA.deeper (envOfC (ofString "law") au L fa ccd)) (envOfC (ofString "law") au L fa ccd) E) (N : News gO L s.heap R) (hA : aB m [(ofString "k", .int (0 + (j : Int)) tk), (ofString "numbers", .ref na), (ofString "orders", .ref oa), (ofString "top", .int (top : Int) tt), (ofString "leads", .ref la), (ofString "page", .str (xg wn codes) tr)]) (c3 : o3.data = .cell (some (.int (n : Int) t3))) (hc3 : (L + 1 + 1 + 1, o3) ∈ R) (hR : aV codes wn n rws) (ht : 0 < s.toks) (hret : ∀ h' tk' m' rw rv kr, StrsAre rv (rws.map aD) -> (∀ p ∈ R, p.1 < rw) -> aB m' [(ofString "k", .int (0 + (j : Int)) tk), (ofString "numbers", .ref na), (ofString "orders", .ref oa), (ofString "top", .int (top : Int) tt), (ofString "leads", .ref la), (ofString "rows", .ref rw)] -> Fr gO L h' m' -> News gO L h' ((rw, listOf rv.toArray kr) :: R) -> wpAny (model rw_rw0126_02.row.prog w) (callerA.deeper (envOfC (ofString "law") au L fa ccd)) (execs (rest) (envOfC (ofString "law") au L fa ccd)) Q E { s with heap := h', toks := tk' }), wpAny (model rw_rw0126_02.row.prog w) (callerA.deeper (envOfC (ofString "law") au L fa ccd)) (execs (tb 11 :: tb 12 :: rest) (envOfC (ofString "law") au L fa ccd)) Q E s
noncomputable def E22.pQ := V6 λ a b c d e f => V6 λ g h i j k l => V6 λ m n o p q r => V6 λ s t u v w x => U λ y => U λ z => U λ A => U λ B => U λ C => λ D => @E22.pP a j k l d i e f b c n h t g D A q v r C s p z B u y w x m o
@[irreducible] noncomputable def E22.pv := @Classical.epsilon _ (by tm_at "ne") λ x => ¬ E22.pQ x
theorem agg {Q : Flow -> Shared -> Prop} {rest : List Stmt} : @E22.pP w L m s mean gO mg mb p loose E ccd n fa R tt oa top la o3 j na tk t3 wn tr codes rws Q rest := bh E22.pQ (by with_unfolding_all rfl : E22.pv = _) (by
 w_top off
 k_with "fe" => (k_here; (with_reducible show wpAny _ _ (call (Value.builtin "str.replace") [Value.str _ _, Value.str _ _, Value.str _ _]) _ _ _); k_dflt (refine SC.replaceW (by lia) (by lia) (by lia) (by decide +kernel) (aV.rp (by assumption)) (by decide +kernel) ?_); intro t' k')
 k_with "fg" => (k_here; (with_reducible show wpAny _ _ (call (Value.builtin "str.split") [_, _]) _ _ _); k_dflt (refine' KSpl.split1 ?U2 ?U3 ?U4 ?_ ?U5; (case U2 | U3 => k_asm); (case U4 => decide +kernel); (case U5 => exact aV.spf (by assumption))); intro D' l' h' k' e' a' F' N' l1; (replace a' := aV.strs (by assumption) e' a'); (clear e'); (generalize strValues l' = rv' at a' N'); (try k_lt l1); (try k_sweep))
 k_with "fh" => (k_here; k_dflt (refine' vR ?U6 ?U7 ?U8 ?U9 ?Ua ?Ub ?_ ?_; (case U6 => assumption); (case U7 => exact rfl); (case U8 | U9 => k_asm); (case Ua => k_mem); (case Ub => assumption)); (all_goals first | (intro g' r' u' I' oI' C' oC' D' ys' m₂' h' tk' E' hr' hC' hx' F' N' off' ne') | (intro g' ys' hy')); (try k_sweep))
 k_with "fi" => (k_here; (with_reducible show wpAny _ _ (subscriptTail _ (Expr.Slice none (some _) none _) (Value.str _ _) _) _ _ _); (tm_at "af"); (tm_at "9"); k_dflt (refine slice_strN_ns (hsz := ?Uc) (s := ⟨_, _, _, _, _⟩) lF' lN' ?_; (case Uc => exact aV.rowfit (by assumption) (by assumption))); intro h' t' k' F' N'; (try k_sweep))
 k_with "fj" => (k_here; (tm_at "aH"); k_dflt (refine' aa0 ?Ud ?Ue ?Uf ?Ug ?Uh ?_; (case Ud | Ue => k_asm); (case Uf => k_mem); (case Ug => assumption); (case Uh => (rw [List.length_map]; exact Nat.lt_of_le_of_lt (aV.cnt (by assumption)) (by decide)))); intro D' vs' ss' e' h' F' N' l1 a' p' s'; (have e9' := aV.srt (by assumption) _ p' s'); (subst e9'); (try k_lt l1); (try k_sweep))
 k_with "fk" => (k_here; k_dflt (refine' ac5 ?Ui ?Uj ?Uk ?Ul ?Um ?Un ?Uo ?Up ?_; (case Ui => k_asm); (case Uj | Ul => k_mem); (case Uk | Um => assumption); (case Un => exact rfl); (case Uo => exact aV.ok (by assumption)); (case Up => ktr_units); k_whole))
 k_with "fl" => (k_here; (with_reducible show wpAny _ _ (call (Value.ref 322) _) _ _ _); (tm_at "4"); k_dflt (refine' xF rfl ?Uq ?Ur ?Us ?Ut ?Uu ?Uv ?Uw ?Ux ?_; (case Uq | Ur | Us | Ut | Uu => k_asm); (case Uv => exact aV.n4 (by assumption)); (case Uw => ktr_room); (case Ux => ktr_units); k_whole); intro D9 vs9 k9 h9 tk9 sw9 F9 N9 l9; (tm_at "5"); (try k_lt l9); (tm_at "6"); (try k_fold); (try k_sweep))
 k_with "W call ref" => first | tm_at "fl" | tm_at "ac" | tm_at "ad" | tm_at "miss"
 k_with "W call builtin:str.replace" => first | tm_at "fe" | tm_at "miss"
 k_with "W call builtin:str.split" => first | tm_at "fg" | tm_at "miss"
 k_with "W eval ListComp" => first | tm_at "bY" | tm_at "miss"
 k_with "W CompSrc" => first | tm_at "fh" | tm_at "miss"
 k_with "W CompEnd" => first | tm_at "c0" | tm_at "miss"
 k_with "W subscriptTail Name Slice str ref" => first | tm_at "fi" | tm_at "miss"
 k_with "W call builtin:sorted" => first | tm_at "fj" | tm_at "miss"
 k_with "W compareOp NotEq ref ref" => first | tm_at "fk" | tm_at "miss"
 k_with "W call builtin:len" => tm_at "bi"
 k_with "W call builtin:str.join" => tm_at "o"
 k_with "W binaryOp Add str str" => tm_at "o"
 k_with "W call type:range" => tm_at "o"
 k_with "W binaryOp Mult str int" => tm_at "o"
 k_with "W zj" => tm_at "o"
 intro hdummy B F X T hL hE N hA c3 hc3 hR ht hret;tm_at "ai";tm_at "ag";revert X
 k_fill
 intro X
 conv in tb 11 => whnf
 conv in tb 12 => whnf
 k_steps
 dsimp only;rename News (E22.pv.2.1.2.2.1) (E22.pv.2.1.2.2.2.1) _ _ => N9
 refine' hret _ _ _ _ _ _ ?st ?lt ?ha ?F (az N9 ?sub)
 case F => k_asm
 tm_at "al"
 case st => assumption
 tm_at "aB"
 case lt => exact aN (by assumption)
 ) ((w, p, loose, mean, mg, mb), (fa, ccd, gO, L, m, s), (Q, E, rest, na, oa, la), (j, n, wn, top, codes, rws), tr, tk, tt, t3, o3, R)
noncomputable def E11.pP {Q : Flow -> Shared -> Prop} {rest : List Stmt} {rw : Addr} {kr at0 : Nat} {rv : List Value} {whole win : Str} : Prop := ∀  (hdummy : rw1 = rw1) (B : Below callerA gO [] gO) (F : Fr gO L s.heap m) (X : (K1 w.params).In gO) (T : Top p loose mean mg mb gO) (hL : @LT.lt Nat _ 351 L) (hE : PassesOwn (model rw_rw0126_02.row.prog w) (callerA.deeper (envOfC (ofString "law") au L fa ccd)) (envOfC (ofString "law") au L fa ccd) E) (N : News gO L s.heap ((L + 1 + 1 + 1 + 1 + 1 + 1, o6) :: R)) (hA : aB m [(ofString "k", .int (0 + (j : Int)) tk), (ofString "numbers", .ref na), (ofString "orders", .ref oa), (ofString "top", .int (top : Int) tt), (ofString "leads", .ref la), (ofString "rows", .ref rw)]) (c3 : o3.data = .cell (some (.int (n : Int) t3))) (hc3 : (L + 1 + 1 + 1, o3) ∈ R) (c6 : o6.data = .cell v6) (e6 : ∀ p ∈ R, p.1 ≠ L + 1 + 1 + 1 + 1 + 1 + 1) (hM : aG n rws whole at0 win lead) (hrv : StrsAre rv (rws.map aD)) (hrw : (rw, listOf rv.toArray kr) ∈ R) (hret : ∀ h' tk' m' o6' x W, cj x (dC n) W -> o6'.data = .cell (some (.ref x)) -> aB m' [(ofString "k", .int (0 + (j : Int)) tk), (ofString "numbers", .ref na), (ofString "orders", .ref oa), (ofString "top", .int (top : Int) tt), (ofString "leads", .ref la)] -> Fr gO L h' m' -> News gO L h' ((L + 1 + 1 + 1 + 1 + 1 + 1, o6') :: (W ++ R)) -> (∀ q ∈ R, ∀ p ∈ W, q.1 < p.1) -> wpAny (model rw_rw0126_02.row.prog w) (callerA.deeper (envOfC (ofString "law") au L fa ccd)) (execs (rest) (envOfC (ofString "law") au L fa ccd)) Q E { s with heap := h', toks := tk' }), wpAny (model rw_rw0126_02.row.prog w) (callerA.deeper (envOfC (ofString "law") au L fa ccd)) (execs (tb 13 :: tb 14 :: tb 15 :: tb 16 :: rest) (envOfC (ofString "law") au L fa ccd)) Q E s
noncomputable def E11.pQ := V6 λ a b c d e f => V6 λ g h i j k l => V6 λ m n o p q r => V6 λ s t u v w x => V6 λ y z A B C D => U λ E => U λ F => U λ G => U λ H => U λ I => λ J => @E11.pP a j k l d i e f b c n h u g J E q v r G t p D F H C I y m o s w x z A B
@[irreducible] noncomputable def E11.pv := @Classical.epsilon _ (by tm_at "ne") λ x => ¬ E11.pQ x
theorem agh {Q : Flow -> Shared -> Prop} {rest : List Stmt} {rw : Addr} {kr at0 : Nat} {rv : List Value} {whole win : Str} : @E11.pP w L m s mean gO mg mb p loose E ccd n fa R tt oa top la o3 j na tk t3 o6 lead v6 rws Q rest rw kr at0 rv whole win := bh E11.pQ (by with_unfolding_all rfl : E11.pv = _) (by
 w_top off
 k_with "fm" => (k_here; (tm_at "cF"); k_dflt (refine SB.mul (aG.mul (by assumption)) ?_; intro _ _))
 k_with "fo" => (k_here; (with_reducible show wpAny _ _ (call (Value.builtin "str.find") [Value.str _ _, Value.str _ _]) _ _ _); k_dflt (refine KXw.find (aG.fd (by assumption)) ?_); intro _ _)
 k_with "fq" => (k_here; k_dflt (refine' aaZ cR ?Uy ?Uz ?UA ?UB ?_ ?_; (case Uy => exact rfl); (case Uz | UA => k_asm); (case UB => exact aG.winfit (by assumption))); (tm_at "b2"); (try k_sweep))
 k_with "fs" => (refine' LCg.CompEnd.intro ?UC ?UD _ ?UE ?UF ?UG ⟨⟨_, ?UH⟩, rfl⟩; (case UC | UD => k_asm); (case UE => exact λ _ h => h); (case UF => assumption); (case UG => exact trivial); (case UH => first | (rw [afS (by assumption)]) | (rw [afT (by assumption)])))
 k_with "ft" => (k_here; (tm_at "cr"); (tm_at "af"); (tm_at "9"); k_dflt (refine slice_strN_ss (hsz := ?UI) (s := ⟨_, _, _, _, _⟩) lF' lN' ?_; (case UI => exact aG.fit (by assumption))); intro h' t' k' F' N'; rw [aG.sl (by assumption)]; (try k_sweep))
 k_with "fu" => (k_here; (tm_at "by"); k_dflt (refine' join_list ?UJ ?UK ?UL ?_; (case UJ => tm_at "au"); (case UK => assumption); (case UL => first | exact aG.jok (by assumption) | exact aG.mkok (by assumption)); k_whole); intro t' k'; first | rw [aG.wh (by assumption)] | rw [aG.mks (by assumption)])
 k_with "fv" => (k_here; (with_reducible show wpAny _ _ (binaryOp _ (Value.str _ _) (Value.str _ _)) _ _ _); k_dflt (refine SB.add ?_ (aG.addfit (by assumption))); intro t' k')
 k_with "fw" => (k_here; (with_reducible show wpAny _ _ (call (Value.ref 308) _) _ _ _); (tm_at "4"); k_dflt (refine' af3 rfl ?UM ?UN ?UO ?UP ?UQ ?UR ?US ?UT ?UU ?UV ?UW ?UX ?_; (case UM | UN | UO | UP | UQ => k_asm); (case UR => exact aG.tx (by assumption)); (case US => exact aG.asc (by assumption)); (case UT => exact aG.wt (by assumption)); (case UU => exact ado); (case UV => exact aG.len (by assumption)); (case UW => ktr_room); (case UX => ktr_units); k_whole); intro x9 W9 h9 tk9 hW9 F9 N9 l9; (tm_at "5"); (rw [aG.ws (by assumption)] at hW9); k_dflt (refine afU N9 l9 (by assumption) (by ((tm_at "Y"); (tm_at "Z"))) ?_); (clear N9 l9); (intro N9 a9' l9); (tm_at "6"); (try k_fold); (try k_sweep))
 k_with "W call ref" => first | tm_at "fw" | tm_at "ac" | tm_at "ad" | tm_at "miss"
 k_with "W binaryOp Mult str int" => first | tm_at "fm" | tm_at "miss"
 k_with "W call builtin:str.find" => first | tm_at "fo" | tm_at "miss"
 k_with "W eval ListComp" => first | tm_at "c1" | tm_at "miss"
 k_with "W zj" => first | tm_at "fq" | tm_at "miss"
 k_with "W CompEnd" => first | tm_at "fs" | tm_at "miss"
 k_with "W subscriptTail Name Slice str ref" => first | tm_at "ft" | tm_at "miss"
 k_with "W call builtin:str.join" => first | tm_at "fu" | tm_at "miss"
 k_with "W binaryOp Add str str" => first | tm_at "fv" | tm_at "miss"
 k_with "W compareOp NotEq ref ref" => tm_at "o"
 k_with "W CompSrc" => tm_at "o"
 k_with "W call builtin:str.replace" => tm_at "o"
 k_with "W call builtin:str.split" => tm_at "o"
 k_with "W call builtin:sorted" => tm_at "o"
 intro hdummy B F X T hL hE N hA c3 hc3 c6 e6 hM hrv hrw hret;have hn9 : (E11.pv.2.2.2.1.2.2.1) <= 4 := hM.n4.2;tm_at "ai";tm_at "ag";revert X
 k_fill
 intro X
 conv in tb 13 => whnf
 conv in tb 14 => whnf
 conv in tb 15 => whnf
 conv in tb 16 => whnf
 k_steps
 (try dsimp only)
 rename News (E11.pv.2.1.2.2.1) (E11.pv.2.1.2.2.2.1) _ _ => N9
 refine' hret _ _ _ _ _ _ ?hW ?hd ?ha ?F N9 ?sep
 case F => k_asm
 case hW => assumption
 case hd => assumption
 case sep => assumption
 tm_at "al"
 ) ((w, p, loose, mean, mg, mb), (fa, ccd, gO, L, m, s), (Q, E, rest, na, oa, la), (rw, j, n, top, kr, at0), (rws, rv, whole, win, lead, tk), tt, t3, o3, o6, v6, R)
noncomputable def E16.pP {Q : Flow -> Shared -> Prop} {rest : List Stmt} : Prop := ∀ {W : List (Addr × Obj)} (hdummy : rw1 = rw1) (B : Below callerA gO [] gO) (F : Fr gO L s.heap m) (X : (K1 w.params).In gO) (T : Top p loose mean mg mb gO) (hL : @LT.lt Nat _ 351 L) (hE : PassesOwn (model rw_rw0126_02.row.prog w) (callerA.deeper (envOfC (ofString "law") au L fa ccd)) (envOfC (ofString "law") au L fa ccd) E) (N : News gO L s.heap R) (hA : aB m [(ofString "k", .int (0 + (j : Int)) tk), (ofString "numbers", .ref na), (ofString "orders", .ref oa), (ofString "top", .int (top : Int) tt), (ofString "leads", .ref la)]) (c3 : o3.data = .cell (some (.int (n : Int) t3))) (hc3 : (L + 1 + 1 + 1, o3) ∈ R) (c6 : o6.data = .cell (some (.ref x))) (hc6 : (L + 1 + 1 + 1 + 1 + 1 + 1, o6) ∈ R) (hn2 : 2 <= n) (hn4 : n <= 4) (hW : cj x (dC n) W) (hsub : ∀ p ∈ W, p ∈ R) (hret : ∀ h' tk' m', aB m' [(ofString "k", .int (0 + (j : Int)) tk), (ofString "numbers", .ref na), (ofString "orders", .ref oa), (ofString "top", .int (top : Int) tt), (ofString "leads", .ref la)] -> Fr gO L h' m' -> News gO L h' R -> wpAny (model rw_rw0126_02.row.prog w) (callerA.deeper (envOfC (ofString "law") au L fa ccd)) (execs (rest) (envOfC (ofString "law") au L fa ccd)) Q E { s with heap := h', toks := tk' }), wpAny (model rw_rw0126_02.row.prog w) (callerA.deeper (envOfC (ofString "law") au L fa ccd)) (execs (tb 17 :: rest) (envOfC (ofString "law") au L fa ccd)) Q E s
noncomputable def E16.pQ := V6 λ a b c d e f => V6 λ g h i j k l => V6 λ m n o p q r => V6 λ s t u v w x => U λ y => U λ z => U λ A => λ B => @E16.pP a j k l d i e f b c n h u s g B x q v r z t p w y A m o
@[irreducible] noncomputable def E16.pv := @Classical.epsilon _ (by tm_at "ne") λ x => ¬ E16.pQ x
theorem agi {Q : Flow -> Shared -> Prop} {rest : List Stmt} : @E16.pP w L m s mean gO mg mb p loose E ccd n x fa R tt oa top la o3 j na tk t3 o6 Q rest := bh E16.pQ (by with_unfolding_all rfl : E16.pv = _) (by
 w_top off
 k_with "fx" => (k_here; k_dflt (refine' adp ?UY ?UZ ?V0 ?V1 ?V2 ?V3 ?V4 ?V5 ?V6 ?V7 ?V8 ?V9 ?Va ?Vb ?_; (case UY => k_asm); (case UZ | V0 | V1 | V3 | V4 | V5 => k_mem); (case V2 | V6 => assumption); (case V7 => exact ahR _); (case V8 => exact ahS (by assumption)); (case V9 | Va => exact rfl); (case Vb => ktr_units); k_whole))
 k_with "fy" => (k_here; (with_reducible show wpAny _ _ (call (Value.ref 341) _) _ _ _); (tm_at "4"); k_dflt (refine' uz rfl ?Vc ?Vd ?Ve ?Vf ?Vg ?Vh ?Vi ?Vj ?_; (case Vc | Vd | Ve | Vf | Vg => k_asm); (case Vh => exact ⟨by assumption, by assumption⟩); (case Vi => ktr_room); (case Vj => ktr_units); k_whole); intro D9 vs9 k9 h9 tk9 is9 F9 N9 l9; (tm_at "5"); (have cl9 := is9.length); (try k_lt l9); (tm_at "6"); (try k_fold); (try k_sweep))
 k_with "W call ref" => first | tm_at "fy" | tm_at "ac" | tm_at "ad" | tm_at "miss"
 k_with "W call type:tuple" => first | tm_at "cS" | tm_at "miss"
 k_with "W compareOp NotEq ref ref" => first | tm_at "fx" | tm_at "miss"
 k_with "W call builtin:str.join" => tm_at "o"
 k_with "W CompEnd" => tm_at "o"
 k_with "W eval ListComp" => tm_at "o"
 k_with "W binaryOp Add str str" => tm_at "o"
 k_with "W binaryOp Mult str int" => tm_at "o"
 k_with "W zj" => tm_at "o"
 k_with "W subscriptTail Name Slice str ref" => tm_at "o"
 k_with "W call builtin:str.find" => tm_at "o"
 intro W hdummy B F X T hL hE N hA c3 hc3 c6 hc6 hn2 hn4 hW hsub hret;have hcl := jt ⟨hn2, hn4⟩;tm_at "cm";have m1 := hsub _ (.head _);have m2 := hsub _ (.tail _ (.head _));have m3 := hsub _ (.tail _ (.tail _ (.head _)));have m4 := hsub _ (.tail _ (.tail _ (.tail _ (.head _))));clear hsub;dsimp only [dC] at m1 m2 m3 m4 hi g1 g2 g3 g4;tm_at "ai";tm_at "ag";revert X
 k_fill
 intro X
 conv in tb 17 => whnf
 k_steps
 (try dsimp only)
 rename News (E16.pv.2.1.2.2.1) (E16.pv.2.1.2.2.2.1) _ _ => N9
 refine' hret _ _ _ ?ha ?F (az N9 ?sub)
 case F => k_asm
 tm_at "aB";tm_at "al"
 ) ((w, p, loose, mean, mg, mb), (fa, ccd, gO, L, m, s), (Q, E, rest, na, oa, la), (x, j, n, top, tk, tt), t3, o3, o6, R)
noncomputable def E18.pP {Q : Flow -> Shared -> Prop} {rest : List Stmt} : Prop := ∀ {W : List (Addr × Obj)} (hdummy : rw1 = rw1) (B : Below callerA gO [] gO) (F : Fr gO L s.heap m) (X : (K1 w.params).In gO) (T : Top p loose mean mg mb gO) (hL : @LT.lt Nat _ 351 L) (hE : PassesOwn (model rw_rw0126_02.row.prog w) (callerA.deeper (envOfC (ofString "law") au L fa ccd)) (envOfC (ofString "law") au L fa ccd) E) (N : News gO L s.heap ((la, listOf lv.toArray kl) :: R)) (hA : aB m [(ofString "k", .int (0 + (j : Int)) tk), (ofString "numbers", .ref na), (ofString "orders", .ref oa), (ofString "top", .int (top : Int) tt), (ofString "leads", .ref la)]) (c3 : o3.data = .cell (some (.int (n : Int) t3))) (hc3 : (L + 1 + 1 + 1, o3) ∈ R) (c6 : o6.data = .cell (some (.ref x))) (hc6 : (L + 1 + 1 + 1 + 1 + 1 + 1, o6) ∈ R) (hn2 : 2 <= n) (hn4 : n <= 4) (htp : top <= 5) (hW : cj x (dC n) W) (hsub : ∀ p ∈ W, p ∈ R) (hla : ∀ p ∈ R, p.1 ≠ la) (hlv : lv.length < 10) (hret : ∀ h' tk' m' kl', aB m' [(ofString "numbers", .ref na), (ofString "orders", .ref oa), (ofString "top", .int (top : Int) tt), (ofString "leads", .ref la)] -> Fr gO L h' m' -> News gO L h' ((la, listOf (lv ++ [Value.ref x]).toArray kl') :: R) -> wpAny (model rw_rw0126_02.row.prog w) (callerA.deeper (envOfC (ofString "law") au L fa ccd)) (execs (rest) (envOfC (ofString "law") au L fa ccd)) Q E { s with heap := h', toks := tk' }), wpAny (model rw_rw0126_02.row.prog w) (callerA.deeper (envOfC (ofString "law") au L fa ccd)) (execs (tb 18 :: tb 19 :: rest) (envOfC (ofString "law") au L fa ccd)) Q E s
noncomputable def E18.pQ := V6 λ a b c d e f => V6 λ g h i j k l => V6 λ m n o p q r => V6 λ s t u v w x => U λ y => U λ z => U λ A => U λ B => U λ C => λ D => @E18.pP a j k l d i e f b c n h w s g D z q x r B v p y u A C t m o
@[irreducible] noncomputable def E18.pv := @Classical.epsilon _ (by tm_at "ne") λ x => ¬ E18.pQ x
theorem agj {Q : Flow -> Shared -> Prop} {rest : List Stmt} : @E18.pP w L m s mean gO mg mb p loose E ccd n x fa R tt oa top la o3 j na tk kl t3 o6 lv Q rest := bh E18.pQ (by with_unfolding_all rfl : E18.pv = _) (by
 w_top off
 k_with "fz" => (k_here; k_dflt (refine' aa2 ?Vk ?Vl ?Vm ?Vn ?Vo ?Vp ?_ ?_; (case Vk => assumption); (case Vm => exact rfl); (case Vn | Vo => k_asm); (case Vp | Vl => assumption)); (all_goals first | (intro g' i' t' I' oI' C' oC' D' ys' m₂' h' tk' E' hi' hC' hx' F' N' off' ne') | (intro g' ys' hy')); (try k_sweep))
 k_with "fA" => (k_here; k_dflt (refine' aa3 ?Vq ?Vr ?Vs ?Vt ?Vu ?Vv ?Vw ?_; (case Vq => k_asm); (case Vr | Vt => k_mem); (case Vs | Vu => assumption); (case Vv => exact aa4 (by assumption) (by assumption) (by assumption)); (case Vw => ktr_units); k_whole))
 k_with "fB" => (k_here; (with_reducible show wpAny _ _ (call (Value.ref 277) _) _ _ _); (tm_at "4"); k_dflt (refine' uy rfl ?Vx ?Vy ?Vz ?VA ?VB ?VC ?VD ?VE ?VF ?VG ?VH ?VI ?_; (case Vx | Vy | Vz | VA | VB => k_asm); (case VC => assumption); (case VD => ((tm_at "aj"); (tm_at "Y"); (tm_at "ay"))); (case VE => exact adq (by assumption) (by assumption)); (case VF | VG => lia); (case VH => ktr_room); (case VI => ktr_units); k_whole); intro tk9 h9 tk8 F9 N9; (tm_at "5"); (tm_at "6"); (try k_fold); (try k_sweep))
 k_with "fC" => (k_here; (with_reducible show wpAny _ _ (call (Value.ref 346) _) _ _ _); (tm_at "4"); k_dflt (refine' pO rfl ?VJ ?VK ?VL ?VM ?VN ?VO ?VP ?VQ ?VR ?_; (case VJ | VK | VL | VM | VN => k_asm); (case VO => exact ⟨by assumption, by assumption⟩); (case VP => assumption); (case VQ => ktr_room); (case VR => ktr_units); k_whole); intro D9 vs9 k9 h9 tk9 is9 F9 N9 l9; (tm_at "5"); (try k_lt l9); (tm_at "6"); (try k_fold); (try k_sweep))
 k_with "W call ref" => first | tm_at "fC" | tm_at "fB" | tm_at "ac" | tm_at "ad" | tm_at "miss"
 k_with "W eval ListComp" => first | tm_at "bY" | tm_at "miss"
 k_with "W CompSrc" => first | tm_at "fz" | tm_at "miss"
 k_with "W CompEnd" => first | tm_at "c2" | tm_at "miss"
 k_with "W compareOp NotEq ref ref" => first | tm_at "fA" | tm_at "miss"
 k_with "W call type:tuple" => tm_at "o"
 intro W hdummy B F X T hL hE N hA c3 hc3 c6 hc6 hn2 hn4 htp hW hsub hla hlv hret;have hWW := hW;tm_at "cm";have m1 := hsub _ (.head _);have m2 := hsub _ (.tail _ (.head _));have m3 := hsub _ (.tail _ (.tail _ (.head _)));have m4 := hsub _ (.tail _ (.tail _ (.tail _ (.head _))));tm_at "ai";tm_at "ag";revert X
 k_fill
 intro X
 conv in tb 18 => whnf
 conv in tb 19 => whnf
 k_steps
 (try dsimp only)
 rename News (E18.pv.2.1.2.2.1) (E18.pv.2.1.2.2.2.1) _ _ => N9
 (try simp only [List.push_toArray] at N9)
 refine' hret _ _ _ _ ?ha ?F (az N9 ?sub)
 case F => k_asm
 tm_at "aB";tm_at "al"
 ) ((w, p, loose, mean, mg, mb), (fa, ccd, gO, L, m, s), (Q, E, rest, na, oa, la), (x, lv, kl, j, n, top), tk, tt, t3, o3, o6, R)
theorem uA {Q : Flow -> Shared -> Prop} {x : Nat} {tx : Tok} (hdummy : rw1 = rw1) (B : Below callerA gO [] gO) (F : Fr gO L s.heap m) (X : (K1 w.params).In gO) (T : Top p loose mean mg mb gO) (hL : @LT.lt Nat _ 351 L) (hE : PassesOwn (model rw_rw0126_02.row.prog w) (callerA.deeper (envOfC (ofString "law") au L fa ccd)) (envOfC (ofString "law") au L fa ccd) E) (N : News gO L s.heap ((140, oL) :: (147, oS) :: (L + 1 + 1 + 1, o3) :: (L + 1 + 1 + 1 + 1, o4) :: (L + 1 + 1 + 1 + 1 + 1, o5) :: (L + 1 + 1 + 1 + 1 + 1 + 1, o6) :: (la, listOf lv.toArray kl) :: R)) (hA : aB m [(ofString "k", .int (0 + (j : Int)) tk), (ofString "numbers", .ref na), (ofString "orders", .ref oa), (ofString "top", .int (top : Int) tt), (ofString "leads", .ref la)]) (hj : j < 2) (ho : (oa, listOf ov.toArray ko) ∈ R) (hn : (na, listOf nv.toArray kn) ∈ R) (hv1 : ov[j]? = some (.int (n : Int) tn)) (hv2 : nv[j]? = some (.int (x : Int) tx)) (hx : x < 1000000000000) (hTF : fj x n) (htp : top <= 5) (hlv : lv.length < 10) (c3 : o3.data = .cell v3) (c4 : o4.data = .cell v4) (c5 : o5.data = .cell v5) (c6 : o6.data = .cell v6) (r0 : ∀ p ∈ R, p.1 ≠ 140) (r1 : ∀ p ∈ R, p.1 ≠ 147) (r2 : ∀ p ∈ R, p.1 ≠ L + 1 + 1 + 1) (r3 : ∀ p ∈ R, p.1 ≠ L + 1 + 1 + 1 + 1) (r4 : ∀ p ∈ R, p.1 ≠ L + 1 + 1 + 1 + 1 + 1) (r5 : ∀ p ∈ R, p.1 ≠ L + 1 + 1 + 1 + 1 + 1 + 1) (r6 : ∀ p ∈ R, p.1 ≠ la) (a0 : @Ne Nat la (140)) (a1 : @Ne Nat la (147)) (a2 : @Ne Nat la (L + 1 + 1 + 1)) (a3 : @Ne Nat la (L + 1 + 1 + 1 + 1)) (a4 : @Ne Nat la (L + 1 + 1 + 1 + 1 + 1)) (a5 : @Ne Nat la (L + 1 + 1 + 1 + 1 + 1 + 1)) (ht1 : ao 93 19 oL) (ht2 : ao 96 32 oS) (G : AllBare s.gens) (htk : 0 < s.toks) (hret : ∀ s' m' oL' oS' o3' o4' o5' o6' w3 w4 w5 w6 xa W kl', cj xa (dC n) W -> o3'.data = .cell w3 -> o4'.data = .cell w4 -> o5'.data = .cell w5 -> o6'.data = .cell w6 -> ao 93 19 oL' -> ao 96 32 oS' -> AllBare s'.gens -> s'.os = s.os -> aB m' [(ofString "numbers", .ref na), (ofString "orders", .ref oa), (ofString "top", .int (top : Int) tt), (ofString "leads", .ref la)] -> Fr gO L s'.heap m' -> News gO L s'.heap ((140, oL') :: (147, oS') :: (L + 1 + 1 + 1, o3') :: (L + 1 + 1 + 1 + 1, o4') :: (L + 1 + 1 + 1 + 1 + 1, o5') :: (L + 1 + 1 + 1 + 1 + 1 + 1, o6') :: (la, listOf (lv ++ [Value.ref xa]).toArray kl') :: (W ++ R)) -> (∀ p ∈ W, (∀ q ∈ R, q.1 < p.1) /\ @LT.lt Nat _ 147 p.1 /\ @LT.lt Nat _ (L + 1 + 1 + 1 + 1 + 1 + 1) p.1 /\ @LT.lt Nat _ la p.1) -> Q .next s') : wpAny (model rw_rw0126_02.row.prog w) (callerA.deeper (envOfC (ofString "law") au L fa ccd)) (execs aaY (envOfC (ofString "law") au L fa ccd)) Q E s := by
 w_top off
 k_with "W call ref" => tm_at "ak"
 k_with "W compareOp NotEq ref ref" => tm_at "o"
 k_with "W CompSrc" => tm_at "o"
 k_with "W CompEnd" => tm_at "o"
 k_with "W eval ListComp" => tm_at "o"
 have hn2 := hTF.n2;have hn4 := hTF.n4;have rla := r6;rw [ahQ];refine vW (l := [tb 0, tb 1, tb 2, tb 3, tb 4, tb 5, tb 6, tb 7, tb 8, tb 9, tb 10]) (rest := [tb 11, tb 12, tb 13, tb 14, tb 15, tb 16, tb 17, tb 18, tb 19]) ?_;refine agc (R := ((140, oL) :: (147, oS) :: (L + 1 + 1 + 1 + 1 + 1, o5) :: (L + 1 + 1 + 1 + 1 + 1 + 1, o6) :: (la, listOf lv.toArray kl) :: R)) rfl B F X T hL hE (az N (by ((tm_at "Y"); (tm_at "Z")))) hA hj (by k_mem) (by k_mem) hv1 hv2 c3 c4 (by ((tm_at "8") <;> first | with_reducible assumption | exact aA (by tm_at "h") | exact aF (by tm_at "h") | exact aH (by tm_at "h") | (tm_at "Q"))) (by ((tm_at "8") <;> first | with_reducible assumption | exact aA (by tm_at "h") | exact aF (by tm_at "h") | exact aH (by tm_at "h") | (tm_at "Q"))) hx hn4 ?_;intro h1 tk1 m1 o3' o4' t1 t2 wd hwd hw4 c3' c4' hA1 F1 N1;refine (hTF.page wd hwd hw4).elim λ rws q => q.elim λ whole q => q.elim λ at0 q => q.elim λ win q => q.elim λ lead q => ?_
 obtain ⟨hP, hR, hM⟩ := q;refine agd rfl B F1 X T hL hE N1 hA1 hj (by k_mem) hv2 hx hTF.hb1 hTF.hb2 hTF.hb3 ?_;intro h2 tk2 m2 t3 hA2 F2 N2;refine age (R := ((L + 1 + 1 + 1, o3') :: (L + 1 + 1 + 1 + 1, o4') :: (L + 1 + 1 + 1 + 1 + 1, o5) :: (L + 1 + 1 + 1 + 1 + 1 + 1, o6) :: (la, listOf lv.toArray kl) :: R)) (k0 := n - 1) rfl B F2 X T hL hE (az N2 (by ((tm_at "Y"); (tm_at "Z")))) hA2 c3' (by k_mem) (yQ hn2) (ahK hn2 hn4) rfl hTF.hb5 hTF.hb4 (by ((tm_at "8") <;> first | with_reducible assumption | exact aA (by tm_at "h") | exact aF (by tm_at "h") | exact aH (by tm_at "h") | (tm_at "Q"))) (by ((tm_at "8") <;> first | with_reducible assumption | exact aA (by tm_at "h") | exact aF (by tm_at "h") | exact aH (by tm_at "h") | (tm_at "Q"))) ht1 ht2 G ?_;intro s3 m3 oL3 oS3 t4 ht13 ht23 G3 os3 hA3 F3 N3;refine agf (R := ((L + 1 + 1 + 1, o3') :: (L + 1 + 1 + 1 + 1, o4') :: (L + 1 + 1 + 1 + 1 + 1 + 1, o6) :: (la, listOf lv.toArray kl) :: R)) rfl B F3 X T hL hE (az N3 (by ((tm_at "Y"); (tm_at "Z")))) hA3 c3' (by k_mem) c4' (by k_mem) c5 hP (by ((tm_at "8") <;> first | with_reducible assumption | exact aA (by tm_at "h") | exact aF (by tm_at "h") | exact aH (by tm_at "h") | (tm_at "Q"))) (by ((tm_at "8") <;> first | with_reducible assumption | exact aA (by tm_at "h") | exact aF (by tm_at "h") | exact aH (by tm_at "h") | (tm_at "Q"))) (by ((tm_at "8") <;> first | with_reducible assumption | exact aA (by tm_at "h") | exact aF (by tm_at "h") | exact aH (by tm_at "h") | (tm_at "Q"))) ht13 ht23 G3 ?_;intro s4 m4 oL4 oS4 o5' t5 v9 c5' ht14 ht24 G4 os4 hA4 F4 N4;refine wpAny_pure λ htk4 => ?_
 dsimp only;refine agg rfl B F4 X T hL hE N4 hA4 c3' (by k_mem) hR (Nat.lt_of_lt_of_le htk htk4) ?_;intro h5 tk5 m5 rw rv kr hrv lrw hA5 F5 N5;have q6 := lrw (L + 1 + 1 + 1 + 1 + 1 + 1, o6) (by k_mem);dsimp only at q6;refine agh (R := ((rw, listOf rv.toArray kr) :: (140, oL4) :: (147, oS4) :: (L + 1 + 1 + 1 + 1 + 1, o5') :: (L + 1 + 1 + 1, o3') :: (L + 1 + 1 + 1 + 1, o4') :: (la, listOf lv.toArray kl) :: R)) rfl B F5 X T hL hE (az N5 (by ((tm_at "Y"); (tm_at "Z")))) hA5 c3' (by k_mem) c6 (by ((tm_at "8") <;> first | with_reducible assumption | exact aA (by tm_at "h") | exact aF (by tm_at "h") | exact aH (by tm_at "h") | (tm_at "Q"))) hM hrv (by k_mem) ?_;intro h6 tk6 m6 o6' xa W hW c6' hA6 F6 N6 lW;have r6 : ∀ p ∈ ((rw, listOf rv.toArray kr) :: (140, oL4) :: (147, oS4) :: (L + 1 + 1 + 1 + 1 + 1, o5') :: (L + 1 + 1 + 1, o3') :: (L + 1 + 1 + 1 + 1, o4') :: (la, listOf lv.toArray kl) :: R), p ∈ (L + 1 + 1 + 1 + 1 + 1 + 1, o6') :: (W ++ ((rw, listOf rv.toArray kr) :: (140, oL4) :: (147, oS4) :: (L + 1 + 1 + 1 + 1 + 1, o5') :: (L + 1 + 1 + 1, o3') :: (L + 1 + 1 + 1 + 1, o4') :: (la, listOf lv.toArray kl) :: R)) := λ p hp => .tail _ (List.mem_append_right _ hp)
 refine agi rfl B F6 X T hL hE N6 hA6 c3' (r6 _ (by k_mem)) c6' (.head _) hn2 hn4 hW (λ p hp => .tail _ (List.mem_append_left _ hp)) ?_;intro h7 tk7 m7 hA7 F7 N7;have wl : ∀ p ∈ W, @Ne Nat p.1 la := λ p hp => Nat.ne_of_gt (lW (la, listOf lv.toArray kl) (by k_mem) p hp)
 refine agj (R := ((L + 1 + 1 + 1 + 1 + 1 + 1, o6') :: (140, oL4) :: (147, oS4) :: (L + 1 + 1 + 1 + 1 + 1, o5') :: (L + 1 + 1 + 1, o3') :: (L + 1 + 1 + 1 + 1, o4') :: (W ++ R))) rfl B F7 X T hL hE (az N7 (aj ⟨r6 _ (by k_mem), aj ⟨.head _, aj ⟨r6 _ (by k_mem), aj ⟨r6 _ (by k_mem), aj ⟨r6 _ (by k_mem), aj ⟨r6 _ (by k_mem), aj ⟨r6 _ (by k_mem), λ p hp => (List.mem_append.mp hp).elim (λ h => .tail _ (List.mem_append_left _ h)) λ h => r6 p (.tail _ (.tail _ (.tail _ (.tail _ (.tail _ (.tail _ (.tail _ (h))))))))⟩⟩⟩⟩⟩⟩⟩)) hA7 c3' (by k_mem) c6' (by k_mem) hn2 hn4 htp hW (λ p hp => .tail _ (.tail _ (.tail _ (.tail _ (.tail _ (.tail _ (List.mem_append_left _ hp))))))) (aj ⟨by refine neN ?_; tm_at "om", aj ⟨by refine neN ?_; tm_at "om", aj ⟨by refine neN ?_; tm_at "om", aj ⟨by refine neN ?_; tm_at "om", aj ⟨by refine neN ?_; tm_at "om", aj ⟨by refine neN ?_; tm_at "om", λ p hp => (List.mem_append.mp hp).elim (wl p) (rla p)⟩⟩⟩⟩⟩⟩) hlv ?_;intro h8 tk8 m8 kl' hA8 F8 N8;refine wpAny_pure (hret _ _ _ _ _ _ _ _ _ _ _ _ _ _ _ hW c3' c4' c5' c6' ht14 ht24 G4 (os4.trans os3) hA8 F8 (az N8 (aj ⟨(by k_mem), aj ⟨(by k_mem), aj ⟨(by k_mem), aj ⟨(by k_mem), aj ⟨(by k_mem), aj ⟨(by k_mem), aj ⟨(by k_mem), λ p hp => .tail _ (.tail _ (.tail _ (.tail _ (.tail _ (.tail _ (.tail _ (hp)))))))⟩⟩⟩⟩⟩⟩⟩)) λ p hp => ⟨λ q hq => lW q (.tail _ (.tail _ (.tail _ (.tail _ (.tail _ (.tail _ (.tail _ (hq)))))))) p hp, lW (147, oS4) (by k_mem) p hp, ?w6, lW (la, listOf lv.toArray kl) (by k_mem) p hp⟩);exact Nat.lt_of_le_of_lt (Nat.le_refl _) (Nat.lt_trans q6 (lW (rw, listOf rv.toArray kr) (by k_mem) p hp))
noncomputable def E28.pP {Q : Flow -> Shared -> Prop} {rest : List Stmt} {x0 x1 : Nat} {tn0 tn1 tx0 tx1 : Tok} : Prop := ∀  (hdummy : rw1 = rw1) (B : Below callerA gO [] gO) (F : Fr gO L s.heap m) (X : (K1 w.params).In gO) (T : Top p loose mean mg mb gO) (hL : @LT.lt Nat _ 351 L) (hE : PassesOwn (model rw_rw0126_02.row.prog w) (callerA.deeper (envOfC (ofString "law") au L fa ccd)) (envOfC (ofString "law") au L fa ccd) E) (N : News gO L s.heap ((140, oL) :: (147, oS) :: (L + 1 + 1 + 1, o3) :: (L + 1 + 1 + 1 + 1, o4) :: (L + 1 + 1 + 1 + 1 + 1, o5) :: (L + 1 + 1 + 1 + 1 + 1 + 1, o6) :: (la, listOf #[] kl) :: R)) (hA : aB m [(ofString "numbers", .ref na), (ofString "orders", .ref oa), (ofString "top", .int (top : Int) tt), (ofString "leads", .ref la)]) (ho : (oa, listOf ov.toArray ko) ∈ R) (hn : (na, listOf nv.toArray kn) ∈ R) (u0 : ov[0]? = some (.int (n0 : Int) tn0)) (u1 : ov[1]? = some (.int (n1 : Int) tn1)) (y0 : nv[0]? = some (.int (x0 : Int) tx0)) (y1 : nv[1]? = some (.int (x1 : Int) tx1)) (hx0 : x0 < 1000000000000) (hx1 : x1 < 1000000000000) (hT0 : fj x0 n0) (hT1 : fj x1 n1) (htp : top <= 5) (c3 : o3.data = .cell v3) (c4 : o4.data = .cell v4) (c5 : o5.data = .cell v5) (c6 : o6.data = .cell v6) (r0 : ∀ p ∈ R, p.1 ≠ 140) (r1 : ∀ p ∈ R, p.1 ≠ 147) (r2 : ∀ p ∈ R, p.1 ≠ L + 1 + 1 + 1) (r3 : ∀ p ∈ R, p.1 ≠ L + 1 + 1 + 1 + 1) (r4 : ∀ p ∈ R, p.1 ≠ L + 1 + 1 + 1 + 1 + 1) (r5 : ∀ p ∈ R, p.1 ≠ L + 1 + 1 + 1 + 1 + 1 + 1) (r6 : ∀ p ∈ R, p.1 ≠ la) (a0 : @Ne Nat la (140)) (a1 : @Ne Nat la (147)) (a2 : @Ne Nat la (L + 1 + 1 + 1)) (a3 : @Ne Nat la (L + 1 + 1 + 1 + 1)) (a4 : @Ne Nat la (L + 1 + 1 + 1 + 1 + 1)) (a5 : @Ne Nat la (L + 1 + 1 + 1 + 1 + 1 + 1)) (ht1 : ao 93 19 oL) (ht2 : ao 96 32 oS) (G : AllBare s.gens) (hret : ∀ s' m' oL' oS' xa xb W V kl', cj xa (dC n0) W -> cj xb (dC n1) V -> ao 93 19 oL' -> ao 96 32 oS' -> AllBare s'.gens -> s'.os = s.os -> aB m' [(ofString "numbers", .ref na), (ofString "orders", .ref oa), (ofString "top", .int (top : Int) tt), (ofString "leads", .ref la)] -> Fr gO L s'.heap m' -> News gO L s'.heap ((140, oL') :: (147, oS') :: (la, listOf [Value.ref xa, Value.ref xb].toArray kl') :: (V ++ (W ++ R))) -> (∀ p ∈ V ++ W, (∀ q ∈ R, q.1 < p.1) /\ @LT.lt Nat _ 147 p.1 /\ @LT.lt Nat _ la p.1) -> wpAny (model rw_rw0126_02.row.prog w) (callerA.deeper (envOfC (ofString "law") au L fa ccd)) (execs (rest) (envOfC (ofString "law") au L fa ccd)) Q E s'), wpAny (model rw_rw0126_02.row.prog w) (callerA.deeper (envOfC (ofString "law") au L fa ccd)) (execs (sb 5 :: rest) (envOfC (ofString "law") au L fa ccd)) Q E s
noncomputable def E28.pQ := V6 λ a b c d e f => V6 λ g h i j k l => V6 λ m n o p q r => V6 λ s t u v w x => V6 λ y z A B C D => V6 λ E F G H I J => V6 λ K L M N O P => U λ Q => λ R => @E28.pP a j k l d i e f b c n h g R G q B L M r H p w K I v t s u J x y N O P Q m o z A C D E F
@[irreducible] noncomputable def E28.pv := @Classical.epsilon _ (by tm_at "ne") λ x => ¬ E28.pQ x
theorem ah9 {Q : Flow -> Shared -> Prop} {rest : List Stmt} {x0 x1 : Nat} {tn0 tn1 tx0 tx1 : Tok} : @E28.pP w L m s mean gO mg mb p loose E ccd fa R tt oa top oL oS la o3 na kl o6 o4 kn nv ov ko o5 n0 n1 v3 v4 v5 v6 Q rest x0 x1 tn0 tn1 tx0 tx1 := bh E28.pQ (by with_unfolding_all rfl : E28.pv = _) (by
 w_top off
 intro hdummy B F X T hL hE N hA ho hn u0 u1 y0 y1 hx0 hx1 hT0 hT1 htp c3 c4 c5 c6 r0 r1 r2 r3 r4 r5 r6 a0 a1 a2 a3 a4 a5 ht1 ht2 G hret;refine wpAny_execs_cons ?_
 conv in sb 5 => whnf
 refine aeZ F ?_ (by intro _; rfl) (by passes_own);have hA' := hA;tm_at "ai";tm_at "ag";revert X
 k_fill
 intro X
 k_steps
 rename IsRange _ _ _ _ _ _ _ _ => hr
 rename Fr (E28.pv.2.1.2.2.1) (E28.pv.2.1.2.2.2.1) _ _ => F1
 rename News (E28.pv.2.1.2.2.1) (E28.pv.2.1.2.2.2.1) _ _ => N1
 refine aa9 (Ok := OkT (E28.pv.2.1.2.2.2.2.2).os) rfl F1 N1 (okT _) ⟨G, rfl⟩ hr λ I off => ?_
 clear hr;have i0 := (off (140, (E28.pv.2.2.2.2.2.2.1.2.1)) (by k_mem)).symm;have i1 := (off (147, (E28.pv.2.2.2.2.2.2.1.2.2.1)) (by k_mem)).symm;have i2 := (off ((E28.pv.2.1.2.2.2.1) + 1 + 1 + 1, (E28.pv.2.2.2.2.2.1.2.2.2.1)) (by k_mem)).symm;have i3 := (off ((E28.pv.2.1.2.2.2.1) + 1 + 1 + 1 + 1, (E28.pv.2.2.2.2.2.1.2.2.2.2.1)) (by k_mem)).symm;have i4 := (off ((E28.pv.2.1.2.2.2.1) + 1 + 1 + 1 + 1 + 1, (E28.pv.2.2.2.2.2.1.2.2.2.2.2)) (by k_mem)).symm;have i5 := (off ((E28.pv.2.1.2.2.2.1) + 1 + 1 + 1 + 1 + 1 + 1, (E28.pv.2.2.2.2.2.2.1.1)) (by k_mem)).symm;have i6 := (off ((E28.pv.2.2.1.2.2.2.2.2), listOf #[] (E28.pv.2.2.2.1.2.2.2.2.1)) (by k_mem)).symm;have iR : ∀ p ∈ (E28.pv.2.2.2.2.2.2.2.2), p.1 ≠ I := λ p hp => off p (.tail _ (.tail _ (.tail _ (.tail _ (.tail _ (.tail _ (.tail _ (hp))))))))
 refine ⟨trivial, λ v it s1 ok1 hv F2 N2 => hv.elim λ tv e => ?_⟩;subst e;refine ug F2 N2 (by rfl) (by rfl) λ h2 F3 N3 => ?_
 refine uA (j := 0) (lv := []) (R := (I, it) :: (E28.pv.2.2.2.2.2.2.2.2)) rfl B F3 X T hL hE (az N3 (by ((tm_at "Y"); (tm_at "Z")))) (by tm_at "ax") (by decide) (by k_mem) (by k_mem) u0 y0 hx0 hT0 htp (by decide : 0 < 10) c3 c4 c5 c6 (aj ⟨i0, r0⟩) (aj ⟨i1, r1⟩) (aj ⟨i2, r2⟩) (aj ⟨i3, r3⟩) (aj ⟨i4, r4⟩) (aj ⟨i5, r5⟩) (aj ⟨i6, r6⟩) a0 a1 a2 a3 a4 a5 ht1 ht2 ok1.g (Nat.succ_pos _) ?_;intro s3 m3 oL3 oS3 o33 o43 o53 o63 w33 w43 w53 w63 xa W kl3 hW c33 c43 c53 c63 ht13 ht23 G3 os3 hA3 F4 N4 lW;have wI : ∀ p ∈ W, @LT.lt Nat _ I p.1 := λ p hp => (lW p hp).1 (I, it) (.head _)
 have jR : ∀ (e : Nat), (∀ p ∈ (E28.pv.2.2.2.2.2.2.2.2), p.1 ≠ e) -> (∀ p ∈ W, @Ne Nat p.1 e) -> ∀ p ∈ W ++ (E28.pv.2.2.2.2.2.2.2.2), p.1 ≠ e := λ e h1 h2 p hp => (List.mem_append.mp hp).elim (h2 p) (h1 p)
 refine ir.mk m3 ((140, oL3) :: (147, oS3) :: ((E28.pv.2.1.2.2.2.1) + 1 + 1 + 1, o33) :: ((E28.pv.2.1.2.2.2.1) + 1 + 1 + 1 + 1, o43) :: ((E28.pv.2.1.2.2.2.1) + 1 + 1 + 1 + 1 + 1, o53) :: ((E28.pv.2.1.2.2.2.1) + 1 + 1 + 1 + 1 + 1 + 1, o63) :: ((E28.pv.2.2.1.2.2.2.2.2), listOf (([] : List Value) ++ [Value.ref xa]).toArray kl3) :: (W ++ (E28.pv.2.2.2.2.2.2.2.2))) ⟨G3, os3.trans ok1.o⟩ F4 (az N4 (aj ⟨.tail _ (.tail _ (.tail _ (.tail _ (.tail _ (.tail _ (.tail _ (List.mem_append_right _ (.head _)))))))), aj ⟨(by k_mem), aj ⟨(by k_mem), aj ⟨(by k_mem), aj ⟨(by k_mem), aj ⟨(by k_mem), aj ⟨(by k_mem), aj ⟨(by k_mem), λ p hp => .tail _ (.tail _ (.tail _ (.tail _ (.tail _ (.tail _ (.tail _ ((List.mem_append.mp hp).elim (List.mem_append_left _) λ h => List.mem_append_right _ (.tail _ h))))))))⟩⟩⟩⟩⟩⟩⟩⟩)) (aj ⟨(by tm_at "Q"), aj ⟨(by tm_at "Q"), aj ⟨(by tm_at "Q"), aj ⟨(by tm_at "Q"), aj ⟨(by tm_at "Q"), aj ⟨(by tm_at "Q"), aj ⟨(by tm_at "Q"), jR I iR λ p hp => Nat.ne_of_gt (wI p hp)⟩⟩⟩⟩⟩⟩⟩) ?_;refine ⟨trivial, λ v' it' s4 ok4 hv' F5 N5 => hv'.elim λ tv' e' => ?_⟩;subst e';refine ug F5 N5 (by rfl) (by rfl) λ h5 F6 N6 => ?_
 refine uA (j := 1) (lv := ([] : List Value) ++ [Value.ref xa]) (R := (I, it') :: (W ++ (E28.pv.2.2.2.2.2.2.2.2))) rfl B F6 X T hL hE (az N6 (aj ⟨(by k_mem), aj ⟨(by k_mem), aj ⟨(by k_mem), aj ⟨(by k_mem), aj ⟨(by k_mem), aj ⟨(by k_mem), aj ⟨(by k_mem), aj ⟨(by k_mem), λ p hp => .tail _ (.tail _ (.tail _ (.tail _ (.tail _ (.tail _ (.tail _ (.tail _ (hp))))))))⟩⟩⟩⟩⟩⟩⟩⟩)) (ahZ hA3 (by simp only [List.forall_mem_cons]; decide)) (by decide) (.tail _ (List.mem_append_right _ ho)) (.tail _ (List.mem_append_right _ hn)) u1 y1 hx1 hT1 htp (by decide : 1 < 10) c33 c43 c53 c63 (aj ⟨i0, jR _ r0 λ p hp => by have h9 := lW p hp; have h8 := h9.2.1; have h7 := h9.2.2.1; have h6 := h9.2.2.2; refine neN ?_; tm_at "om"⟩) (aj ⟨i1, jR _ r1 λ p hp => by have h9 := lW p hp; have h8 := h9.2.1; have h7 := h9.2.2.1; have h6 := h9.2.2.2; refine neN ?_; tm_at "om"⟩) (aj ⟨i2, jR _ r2 λ p hp => by have h9 := lW p hp; have h8 := h9.2.1; have h7 := h9.2.2.1; have h6 := h9.2.2.2; refine neN ?_; tm_at "om"⟩) (aj ⟨i3, jR _ r3 λ p hp => by have h9 := lW p hp; have h8 := h9.2.1; have h7 := h9.2.2.1; have h6 := h9.2.2.2; refine neN ?_; tm_at "om"⟩) (aj ⟨i4, jR _ r4 λ p hp => by have h9 := lW p hp; have h8 := h9.2.1; have h7 := h9.2.2.1; have h6 := h9.2.2.2; refine neN ?_; tm_at "om"⟩) (aj ⟨i5, jR _ r5 λ p hp => by have h9 := lW p hp; have h8 := h9.2.1; have h7 := h9.2.2.1; have h6 := h9.2.2.2; refine neN ?_; tm_at "om"⟩) (aj ⟨i6, jR _ r6 λ p hp => by have h9 := lW p hp; have h8 := h9.2.1; have h7 := h9.2.2.1; have h6 := h9.2.2.2; refine neN ?_; tm_at "om"⟩) a0 a1 a2 a3 a4 a5 ht13 ht23 ok4.g (Nat.succ_pos _) ?_;intro s6 m6 oL6 oS6 o36 o46 o56 o66 w36 w46 w56 w66 xb V kl6 hV c36 c46 c56 c66 ht16 ht26 G6 os6 hA6 F7 N7 lV;refine ir.mk m6 ((140, oL6) :: (147, oS6) :: ((E28.pv.2.2.1.2.2.2.2.2), listOf (([] : List Value) ++ [Value.ref xa] ++ [Value.ref xb]).toArray kl6) :: (V ++ (W ++ (E28.pv.2.2.2.2.2.2.2.2)))) ⟨G6, os6.trans ok4.o⟩ F7 (az N7 (aj ⟨.tail _ (.tail _ (.tail _ (.tail _ (.tail _ (.tail _ (.tail _ (List.mem_append_right _ (.head _)))))))), aj ⟨(by k_mem), aj ⟨(by k_mem), aj ⟨(by k_mem), λ p hp => .tail _ (.tail _ (.tail _ (.tail _ (.tail _ (.tail _ (.tail _ ((List.mem_append.mp hp).elim (List.mem_append_left _) λ h => List.mem_append_right _ (.tail _ h))))))))⟩⟩⟩⟩)) (aj ⟨(by tm_at "Q"), aj ⟨(by tm_at "Q"), aj ⟨(by tm_at "Q"), λ p hp => (List.mem_append.mp hp).elim (λ h => Nat.ne_of_gt ((lV p h).1 (I, it') (.head _))) (jR I iR (λ p hp => Nat.ne_of_gt (wI p hp)) p)⟩⟩⟩) ?_;refine ⟨trivial, λ s7 ok7 F8 N8 => wpAny_pure ?_⟩;refine hret s7 m6 oL6 oS6 xa xb W V kl6 hW hV ht16 ht26 ok7.g ok7.o hA6 F8 N8 λ p hp => (List.mem_append.mp hp).elim (λ h => ⟨λ q hq => (lV p h).1 q (.tail _ (List.mem_append_right _ hq)), (lV p h).2.1, (lV p h).2.2.2⟩) λ h => ⟨λ q hq => (lW p h).1 q (.tail _ hq), (lW p h).2.1, (lW p h).2.2.2⟩
 ) ((w, p, loose, mean, mg, mb), (fa, ccd, gO, L, m, s), (Q, E, rest, na, oa, la), (ov, nv, ko, kn, kl, n0), (n1, x0, x1, top, tn0, tn1), (tx0, tx1, tt, o3, o4, o5), (o6, oL, oS, v3, v4, v5), v6, R)
noncomputable def E19.pP {Q : Flow -> Shared -> Prop} {rest : List Stmt} : Prop := ∀  (hdummy : rw1 = rw1) (B : Below callerA gO [] gO) (F : Fr gO L s.heap m) (X : (K1 w.params).In gO) (T : Top p loose mean mg mb gO) (hL : @LT.lt Nat _ 351 L) (hE : PassesOwn (model rw_rw0126_02.row.prog w) (callerA.deeper (envOfC (ofString "law") au L fa ccd)) (envOfC (ofString "law") au L fa ccd) E) (N : News gO L s.heap ((L + 1 + 1 + 1 + 1 + 1 + 1 + 1, o7) :: (L + 1 + 1 + 1 + 1 + 1 + 1 + 1 + 1, o8) :: R)) (hA : aB m [(ofString "orders", .ref oa), (ofString "top", .int (top : Int) tt), (ofString "leads", .ref la)]) (hla : (la, listOf [Value.ref x0, Value.ref x1].toArray kl) ∈ R) (hoa : (oa, listOf ov.toArray ko) ∈ R) (hv0 : ov[0]? = some (.int (n0 : Int) t0)) (hv1 : ov[1]? = some (.int (n1 : Int) t1)) (h0 : 2 <= n0 /\ n0 <= 4) (h1 : 2 <= n1 /\ n1 <= 4) (htp : top <= 5) (c7 : o7.data = .cell none) (c8 : o8.data = .cell none) (e7 : ∀ p ∈ R, p.1 ≠ L + 1 + 1 + 1 + 1 + 1 + 1 + 1) (e8 : ∀ p ∈ R, p.1 ≠ L + 1 + 1 + 1 + 1 + 1 + 1 + 1 + 1) (hret : ∀ h' tk' m' o7' o8' D1 D2 fv gv k1 k2, IntsAre fv (cM n0 top) -> IntsAre gv (cM n1 top) -> o7'.data = .cell (some (.ref D1)) -> o8'.data = .cell (some (.ref D2)) -> aB m' [(ofString "orders", .ref oa), (ofString "top", .int (top : Int) tt), (ofString "one", .ref x0), (ofString "two", .ref x1)] -> Fr gO L h' m' -> News gO L h' ((L + 1 + 1 + 1 + 1 + 1 + 1 + 1, o7') :: (L + 1 + 1 + 1 + 1 + 1 + 1 + 1 + 1, o8') :: (D1, listOf fv.toArray k1) :: (D2, listOf gv.toArray k2) :: R) -> wpAny (model rw_rw0126_02.row.prog w) (callerA.deeper (envOfC (ofString "law") au L fa ccd)) (execs (rest) (envOfC (ofString "law") au L fa ccd)) Q E { s with heap := h', toks := tk' }), wpAny (model rw_rw0126_02.row.prog w) (callerA.deeper (envOfC (ofString "law") au L fa ccd)) (execs (sb 6 :: sb 7 :: sb 8 :: rest) (envOfC (ofString "law") au L fa ccd)) Q E s
noncomputable def E19.pQ := V6 λ a b c d e f => V6 λ g h i j k l => V6 λ m n o p q r => V6 λ s t u v w x => V6 λ y z A B C D => λ E => @E19.pP a j k l d i e f b c n h g E z q y p u r s t v C D B w x A m o
@[irreducible] noncomputable def E19.pv := @Classical.epsilon _ (by tm_at "ne") λ x => ¬ E19.pQ x
theorem agk {Q : Flow -> Shared -> Prop} {rest : List Stmt} : @E19.pP w L m s mean gO mg mb p loose E ccd fa R tt oa top la kl x0 x1 ov ko o7 o8 t1 n0 n1 t0 Q rest := bh E19.pQ (by with_unfolding_all rfl : E19.pv = _) (by
 w_top off
 k_with "c3" => (k_here; (tm_at "ap"); k_dflt (refine' ac1 ?VS ?VT ?VU ?VV ?VW ?_ ?VX ?VY; (case VS => k_asm); (case VT => k_mem); (case VU | VV => decide); (case VW => assumption); (case VX => with_unfolding_all rfl); (case VY => tm_at "aE"); k_whole))
 k_with "fD" => (k_here; (with_reducible show wpAny _ _ (call (Value.ref 346) _) _ _ _); (tm_at "4"); k_dflt (refine' pO rfl ?VZ ?W0 ?W1 ?W2 ?W3 ?W4 ?W5 ?W6 ?W7 ?_; (case VZ | W0 | W1 | W2 | W3 => k_asm); (case W4 | W5 => assumption); (case W6 => ktr_room); (case W7 => ktr_units); k_whole); intro D9 vs9 k9 h9 tk9 is9 F9 N9 l9; (tm_at "5"); (try k_lt l9); (tm_at "6"); (try k_fold); (try k_sweep))
 k_with "W call ref" => first | tm_at "fD" | tm_at "ac" | tm_at "ad" | tm_at "miss"
 k_with "W subscriptTail Name Constant ref int" => first | tm_at "c3" | tm_at "miss"
 intro hdummy B F X T hL hE N hA hla hoa hv0 hv1 h0 h1 htp c7 c8 e7 e8 hret;tm_at "ai";tm_at "ag";revert X
 k_fill
 intro X
 conv in sb 6 => whnf
 conv in sb 7 => whnf
 conv in sb 8 => whnf
 k_steps
 (try dsimp only)
 rename News (E19.pv.2.1.2.2.1) (E19.pv.2.1.2.2.2.1) _ _ => N9
 refine' hret _ _ _ _ _ _ _ _ _ _ _ ?i1 ?i2 ?d7 ?d8 ?ha ?F (az N9 (bO (.tail _ (.tail _ (.head _))) (bO (.tail _ (.tail _ (.tail _ (.head _)))) (bO (.tail _ (.head _)) (bO (.head _) λ p hp => .tail _ (.tail _ (.tail _ (.tail _ hp))))))))
 case F => k_asm
 tm_at "al"
 case d7 => assumption
 case d8 => assumption
 case i1 => assumption
 case i2 => assumption
 ) ((w, p, loose, mean, mg, mb), (fa, ccd, gO, L, m, s), (Q, E, rest, la, oa, x0), (x1, ov, kl, ko, n0, n1), (top, tt, t0, t1, o7, o8), R)
noncomputable def E15.pP {Q : Flow -> Shared -> Prop} {rest : List Stmt} {D1 D2 : Addr} {fv gv : List Value} {f g : List Int} {k1 k2 : Nat} : Prop := ∀ {R : List (Addr × Obj)} (hdummy : rw1 = rw1) (B : Below callerA gO [] gO) (F : Fr gO L s.heap m) (X : (K1 w.params).In gO) (T : Top p loose mean mg mb gO) (hL : @LT.lt Nat _ 351 L) (hE : PassesOwn (model rw_rw0126_02.row.prog w) (callerA.deeper (envOfC (ofString "law") au L fa ccd)) (envOfC (ofString "law") au L fa ccd) E) (N : News gO L s.heap R) (hA : aB m [(ofString "orders", .ref oa), (ofString "top", .int (top : Int) tt), (ofString "one", .ref x0), (ofString "two", .ref x1)]) (hc7 : (L + 1 + 1 + 1 + 1 + 1 + 1 + 1, o7) ∈ R) (c7 : o7.data = .cell (some (.ref D1))) (hc8 : (L + 1 + 1 + 1 + 1 + 1 + 1 + 1 + 1, o8) ∈ R) (c8 : o8.data = .cell (some (.ref D2))) (hD1 : (D1, listOf fv.toArray k1) ∈ R) (hD2 : (D2, listOf gv.toArray k2) ∈ R) (hf : IntsAre fv f) (hg : IntsAre gv g) (hfl : f.length = top) (hgl : g.length = top) (htp : top <= 5) (hret : ∀ h' tk' m' R' ca cv kc, aJ R' cv (nA f g top) -> (ca, listOf cv.toArray kc) ∈ R' -> (∀ p ∈ R, p ∈ R') -> aB m' [(ofString "orders", .ref oa), (ofString "one", .ref x0), (ofString "two", .ref x1), (ofString "columns", .ref ca)] -> Fr gO L h' m' -> News gO L h' R' -> wpAny (model rw_rw0126_02.row.prog w) (callerA.deeper (envOfC (ofString "law") au L fa ccd)) (execs (rest) (envOfC (ofString "law") au L fa ccd)) Q E { s with heap := h', toks := tk' }), wpAny (model rw_rw0126_02.row.prog w) (callerA.deeper (envOfC (ofString "law") au L fa ccd)) (execs (sb 9 :: rest) (envOfC (ofString "law") au L fa ccd)) Q E s
noncomputable def E15.pQ := V6 λ a b c d e f => V6 λ g h i j k l => V6 λ m n o p q r => V6 λ s t u v w x => U λ y => U λ z => U λ A => U λ B => U λ C => λ D => @E15.pP a j k l d i e f b c n h g B p A q r C D m o s t u v w x y z
@[irreducible] noncomputable def E15.pv := @Classical.epsilon _ (by tm_at "ne") λ x => ¬ E15.pQ x
theorem agl {Q : Flow -> Shared -> Prop} {rest : List Stmt} {D1 D2 : Addr} {fv gv : List Value} {f g : List Int} {k1 k2 : Nat} : @E15.pP w L m s mean gO mg mb p loose E ccd fa tt oa top x0 x1 o7 o8 Q rest D1 D2 fv gv f g k1 k2 := bh E15.pQ (by with_unfolding_all rfl : E15.pv = _) (by
 w_top off
 k_with "fE" => (k_here; (tm_at "9"); k_dflt (refine' zu ?W8 ?W9 ?Wa ?Wb ?Wc ?Wd ?We ?Wf ?Wg ?Wh ?Wi ?Wj ?Wk ?Wl ?Wm ?_ ?_; (case Wm | Wb | We | Wf | Wc | Wd | Wg | Wh | W9 | Wa | W8 => assumption); (case Wi => exact rfl); (case Wj => k_asm); (case Wk => exact lN'); (case Wl => first | exact λ _ h => h | ((tm_at "Y"); (tm_at "Z")))); (all_goals (clear lN'; first | (intro g' i' t' R' ys' I' oI' C' oC' D' m₂' h' tk' E' hi' b1' b2' b3' b4' hC' hx' F' N' off' ne'; (have i1' := ne'.1); (have i2' := ne'.2.1); (have i3' := ne'.2.2)) | (intro g' ys' R' tr' sb'; (have tl' := tr'.length)))); (try k_sweep))
 k_with "fF" => (k_here; (tm_at "ap"); k_dflt (refine' zr ?Wn ?Wo ?Wp ?Wq ?Wr ?Ws ?_ ?Wt; (case Wn => k_asm); (case Wo => k_mem); (case Wp => assumption); (case Ws => exact rfl); (case Wq | Wr => lia); (case Wt => with_unfolding_all rfl); k_whole); intro t')
 k_with "fG" => (refine' LCg.CompEnd.intro ?Wu ?Wv ((_, _) :: _) ?Ww ?Wx trivial ⟨⟨_, _, _, _, rfl, .head _⟩, λ _ h => .tail _ h⟩; (case Wu | Wv => k_asm); (case Ww => ((tm_at "Y"); (tm_at "Z"))); (case Wx => tm_at "cf"))
 k_with "W call ref" => tm_at "ak"
 k_with "W CompSrc" => first | tm_at "fE" | tm_at "miss"
 k_with "W subscriptTail Name BinOp ref int" => first | tm_at "fF" | tm_at "miss"
 k_with "W CompEnd" => first | tm_at "fG" | tm_at "miss"
 k_with "W subscriptTail Name Constant ref int" => tm_at "o"
 intro R hdummy B F X T hL hE N hA hc7 c7 hc8 c8 hD1 hD2 hf hg hfl hgl htp hret;tm_at "ai";tm_at "ag";revert X
 k_fill
 intro X
 conv in sb 9 => whnf
 have hr0 : ∀ p ∈ R, p ∈ R := λ _ h => h
 k_steps
 (try dsimp only)
 rename News (E15.pv.2.1.2.2.1) (E15.pv.2.1.2.2.2.1) _ _ => N9
 clear hr0;rename ∀ p ∈ R, p ∈ _ => kk9
 rename aJ _ _ _ => tr9
 refine' hret _ _ _ (_ :: _) _ _ _ (tr9.mono λ p hp => .tail _ hp) (.head _) (λ p hp => .tail _ (kk9 p hp)) ?ha ?F N9
 case F => k_asm
 tm_at "al"
 ) ((w, p, loose, mean, mg, mb), (fa, ccd, gO, L, m, s), (Q, E, rest, oa, x0, x1), (D1, D2, fv, gv, f, g), k1, k2, top, tt, o7, o8)
theorem agm {Q : Flow -> Shared -> Prop} {rest : List Stmt} {l : List (Int × Int × Int)} (hdummy : rw1 = rw1) (B : Below callerA gO [] gO) (F : Fr gO L s.heap m) (X : (K1 w.params).In gO) (T : Top p loose mean mg mb gO) (hL : @LT.lt Nat _ 351 L) (hE : PassesOwn (model rw_rw0126_02.row.prog w) (callerA.deeper (envOfC (ofString "law") au L fa ccd)) (envOfC (ofString "law") au L fa ccd) E) (N : News gO L s.heap R) (hA : aB m [(ofString "orders", .ref oa), (ofString "one", .ref x0), (ofString "two", .ref x1), (ofString "columns", .ref ca)]) (hca : (ca, listOf cv.toArray kc) ∈ R) (hT : aJ R cv l) (hz : l.length < 1000) (hret : ∀ h' tk' m' R' ba bv bk, aJ R' bv ((l.filter kpB)) -> (ba, listOf bv.toArray bk) ∈ R' -> (∀ p ∈ R, p ∈ R') -> aB m' [(ofString "orders", .ref oa), (ofString "one", .ref x0), (ofString "two", .ref x1), (ofString "columns", .ref ca), (ofString "behind", .ref ba)] -> Fr gO L h' m' -> News gO L h' R' -> wpAny (model rw_rw0126_02.row.prog w) (callerA.deeper (envOfC (ofString "law") au L fa ccd)) (execs (rest) (envOfC (ofString "law") au L fa ccd)) Q E { s with heap := h', toks := tk' }) : wpAny (model rw_rw0126_02.row.prog w) (callerA.deeper (envOfC (ofString "law") au L fa ccd)) (execs (sb 10 :: rest) (envOfC (ofString "law") au L fa ccd)) Q E s := by
 w_top off
 k_with "fH" => (k_here; (with_reducible show wpAny _ _ (exec (Stmt.Assign _ (Expr.ListComp _ [⟨Expr.Tuple _ _ _, _, _, _⟩] _ _) _) _) _ _ _); k_dflt (refine aa6 (F₀ := by k_asm) (by rfl) (by with_unfolding_all rfl) (by with_unfolding_all rfl) (by decide) (by rfl) (by decide) (by rfl) (by rfl) (by rfl) (by decide) (by decide) (by decide) (by rfl) (by rfl) ?_ (by intro _; rfl)))
 k_with "fI" => (k_here; (with_reducible show wpAny _ _ (exec (Stmt.Assign _ (Expr.ListComp _ [⟨Expr.Name _ _, _, [_], _⟩] _ _) _) _) _ _ _); lcg_calm; k_dflt (refine LCt.Assign_ListComp_T (F₀ := by k_asm) (by rfl) (by with_unfolding_all rfl) (by with_unfolding_all rfl) (by decide) (by rfl) (by decide) (by rfl) (by rfl) (by rfl) ?_); k_dflt lct_toSrc)
 k_with "fJ" => (k_here; (with_reducible show LCt.CompSrcT _ _ _ _ _ _ _ (Expr.Compare _ [CmpOp.GtE] _ _) _ _ _ _ _ _ _); k_dflt (refine' nD kpB ?Wy ?Wz ?WA ?WB ?WC ?WD ?_ ?_; (case Wy => exact rfl); (case Wz | WA => k_asm); (case WB => k_mem); (case WC => (tm_at "bC")); (case WD => assumption)); (tm_at "cc"); (try k_sweep))
 k_with "fK" => (k_here; (with_reducible show LCt.CompSrcT _ _ _ _ _ _ _ (Expr.Compare _ [CmpOp.NotEq] _ _) _ _ _ _ _ _ _); k_dflt (refine' nD kpU ?WE ?WF ?WG ?WH ?WI ?WJ ?_ ?_; (case WE => exact rfl); (case WF | WG => k_asm); (case WH => k_mem); (case WI => (tm_at "bC")); (case WJ => assumption)); (tm_at "cc"); (try k_sweep))
 k_with "fL" => (k_here; (tm_at "9"); k_dflt (refine' zx kpA ?WK ?WL ?WM ?WN ?WO ?WP ?WQ ?WR ?_ ?_; (case WK => assumption); (case WL => exact rfl); (case WM => k_asm); (case WN => exact lN'); (case WO => k_mem); (case WP => (tm_at "bC")); (case WQ => assumption); (case WR => ((tm_at "Y"); (tm_at "Z")))); (all_goals (clear lN'; first | (intro g' a' b' c' t1' t2' t3' R' ys' I' oI' C' oC' D' m₂' h' tk' E' mm' hC' hx1' hx2' hx3' F' N' off' ne') | (intro g' ys' R' tr' sb'))); (try k_sweep))
 k_with "fM" => (refine' LCg.CompEnd.intro ?WS ?WT _ ?WU ?WV ?WW ⟨?WX, rfl⟩; (case WS | WT => k_asm); (case WU => exact λ _ h => h); (case WV => assumption); (case WW => tm_at "bf"); (case WX => tm_at "b8"))
 k_with "fN" => (refine' LCg.CompEnd.intro ?WY ?WZ _ ?X0 ?X1 ?X2 ⟨?X3, rfl, rfl⟩; (case WY | WZ => k_asm); (case X0 => exact λ _ h => h); (case X1 => assumption); (case X2 => tm_at "bf"); (case X3 => tm_at "b8"))
 k_with "fO" => (refine' LCg.CompEnd.intro ?X4 ?X5 ((_, _) :: _) ?X6 ?X7 ?X8 ⟨?X9, ⟨_, _, _, _, rfl, .head _⟩, λ _ h => .tail _ h⟩; (case X4 | X5 => k_asm); (case X6 => ((tm_at "Y"); (tm_at "Z"))); (case X7 => tm_at "cf"); (case X8 => tm_at "bf"); (case X9 => exact ahV (by assumption)))
 k_with "W exec Assign cons ListComp" => first | tm_at "fI" | tm_at "fH" | tm_at "miss"
 k_with "W CompSrcT" => first | tm_at "fK" | tm_at "fJ" | tm_at "miss"
 k_with "W afV" => first | tm_at "fL" | tm_at "miss"
 k_with "W CompEnd" => first | tm_at "fO" | tm_at "fN" | tm_at "fM" | tm_at "miss"
 k_with "W CompSrc" => tm_at "o"
 k_with "W subscriptTail Name BinOp ref int" => tm_at "o"
 tm_at "ai";tm_at "ag";revert X
 k_fill
 intro X
 conv in sb 10 => whnf
 k_steps
 (try dsimp only)
 tm_at "aF";rename aJ _ _ _ => tr9
 refine' hret _ _ _ (_ :: _) _ _ _ (tr9.mono λ p hp => .tail _ hp) (.head _) (λ p hp => .tail _ hp) ?ha ?F N9
 case F => k_asm
 tm_at "al"
theorem agn {Q : Flow -> Shared -> Prop} {rest : List Stmt} {l : List (Int × Int × Int)} (hdummy : rw1 = rw1) (B : Below callerA gO [] gO) (F : Fr gO L s.heap m) (X : (K1 w.params).In gO) (T : Top p loose mean mg mb gO) (hL : @LT.lt Nat _ 351 L) (hE : PassesOwn (model rw_rw0126_02.row.prog w) (callerA.deeper (envOfC (ofString "law") au L fa ccd)) (envOfC (ofString "law") au L fa ccd) E) (N : News gO L s.heap R) (hA : aB m [(ofString "orders", .ref oa), (ofString "one", .ref x0), (ofString "two", .ref x1), (ofString "columns", .ref ca), (ofString "behind", .ref ba)]) (hca : (ca, listOf cv.toArray kc) ∈ R) (hT : aJ R cv l) (hz : l.length < 1000) (hret : ∀ h' tk' m' R' aa av ak, aJ R' av (((l.filter kpA).map nC)) -> (aa, listOf av.toArray ak) ∈ R' -> (∀ p ∈ R, p ∈ R') -> aB m' [(ofString "orders", .ref oa), (ofString "one", .ref x0), (ofString "two", .ref x1), (ofString "columns", .ref ca), (ofString "behind", .ref ba), (ofString "ahead", .ref aa)] -> Fr gO L h' m' -> News gO L h' R' -> wpAny (model rw_rw0126_02.row.prog w) (callerA.deeper (envOfC (ofString "law") au L fa ccd)) (execs (rest) (envOfC (ofString "law") au L fa ccd)) Q E { s with heap := h', toks := tk' }) : wpAny (model rw_rw0126_02.row.prog w) (callerA.deeper (envOfC (ofString "law") au L fa ccd)) (execs (sb 11 :: rest) (envOfC (ofString "law") au L fa ccd)) Q E s := by
 tm_at "ai";tm_at "ag";revert X
 k_fill
 intro X
 conv in sb 11 => whnf
 have hr0 : ∀ p ∈ R, p ∈ R := λ _ h => h
 k_steps
 clear hr0;clear hT;rename ∀ p ∈ R, p ∈ _ => kk9
 (try dsimp only)
 tm_at "aF";rename aJ _ _ _ => tr9
 refine' hret _ _ _ (_ :: _) _ _ _ (tr9.mono λ p hp => .tail _ hp) (.head _) (λ p hp => .tail _ (kk9 p hp)) ?ha ?F N9
 case F => k_asm
 tm_at "al"
theorem ago {Q : Flow -> Shared -> Prop} {rest : List Stmt} {aa : Addr} {l : List (Int × Int × Int)} (hdummy : rw1 = rw1) (B : Below callerA gO [] gO) (F : Fr gO L s.heap m) (X : (K1 w.params).In gO) (T : Top p loose mean mg mb gO) (hL : @LT.lt Nat _ 351 L) (hE : PassesOwn (model rw_rw0126_02.row.prog w) (callerA.deeper (envOfC (ofString "law") au L fa ccd)) (envOfC (ofString "law") au L fa ccd) E) (N : News gO L s.heap R) (hA : aB m [(ofString "orders", .ref oa), (ofString "one", .ref x0), (ofString "two", .ref x1), (ofString "columns", .ref ca), (ofString "behind", .ref ba), (ofString "ahead", .ref aa)]) (hca : (ca, listOf cv.toArray kc) ∈ R) (hT : aJ R cv l) (hz : l.length < 1000) (hret : ∀ h' tk' m' R' ua uv uk, aJ R' uv ((l.filter kpU)) -> (ua, listOf uv.toArray uk) ∈ R' -> (∀ p ∈ R, p ∈ R') -> aB m' [(ofString "orders", .ref oa), (ofString "one", .ref x0), (ofString "two", .ref x1), (ofString "behind", .ref ba), (ofString "ahead", .ref aa), (ofString "unlike", .ref ua)] -> Fr gO L h' m' -> News gO L h' R' -> wpAny (model rw_rw0126_02.row.prog w) (callerA.deeper (envOfC (ofString "law") au L fa ccd)) (execs (rest) (envOfC (ofString "law") au L fa ccd)) Q E { s with heap := h', toks := tk' }) : wpAny (model rw_rw0126_02.row.prog w) (callerA.deeper (envOfC (ofString "law") au L fa ccd)) (execs (sb 12 :: rest) (envOfC (ofString "law") au L fa ccd)) Q E s := by
 tm_at "ai";tm_at "ag";revert X
 k_fill
 intro X
 conv in sb 12 => whnf
 k_steps
 (try dsimp only)
 tm_at "aF";rename aJ _ _ _ => tr9
 refine' hret _ _ _ (_ :: _) _ _ _ (tr9.mono λ p hp => .tail _ hp) (.head _) (λ p hp => .tail _ hp) ?ha ?F N9
 case F => k_asm
 tm_at "al"
theorem agp {Q : Flow -> Shared -> Prop} {rest : List Stmt} {aa ua : Addr} {av uv : List Value} {ka ku : Nat} {lb la lu : List (Int × Int × Int)} {W0 W1 : List (Addr × Obj)} (hdummy : rw1 = rw1) (B : Below callerA gO [] gO) (F : Fr gO L s.heap m) (X : (K1 w.params).In gO) (T : Top p loose mean mg mb gO) (hL : @LT.lt Nat _ 351 L) (hE : PassesOwn (model rw_rw0126_02.row.prog w) (callerA.deeper (envOfC (ofString "law") au L fa ccd)) (envOfC (ofString "law") au L fa ccd) E) (N : News gO L s.heap R) (hA : aB m [(ofString "orders", .ref oa), (ofString "one", .ref x0), (ofString "two", .ref x1), (ofString "behind", .ref ba), (ofString "ahead", .ref aa), (ofString "unlike", .ref ua)]) (h0 : 2 <= n0 /\ n0 <= 4) (h1 : 2 <= n1 /\ n1 <= 4) (hW0 : cj x0 (dC n0) W0) (hW1 : cj x1 (dC n1) W1) (hs0 : ∀ p ∈ W0, p ∈ R) (hs1 : ∀ p ∈ W1, p ∈ R) (tb : aJ R bv lb) (ta : aJ R av la) (tu : aJ R uv lu) (mb : (ba, listOf bv.toArray kb) ∈ R) (ma : (aa, listOf av.toArray ka) ∈ R) (mu : (ua, listOf uv.toArray ku) ∈ R) (w1 : jr (λ a b => decide (b <= a)) (dC n0) (dC n1) = lb) (w2 : jr (λ a b => decide (b <= a)) (dC n1) (dC n0) = la) (w3 : jr (λ a b => a != b) (dC n0) (dC n1) = lu) (hret : ∀ h' tk' m', aB m' [(ofString "orders", .ref oa), (ofString "one", .ref x0), (ofString "two", .ref x1)] -> Fr gO L h' m' -> News gO L h' R -> wpAny (model rw_rw0126_02.row.prog w) (callerA.deeper (envOfC (ofString "law") au L fa ccd)) (execs (rest) (envOfC (ofString "law") au L fa ccd)) Q E { s with heap := h', toks := tk' }) : wpAny (model rw_rw0126_02.row.prog w) (callerA.deeper (envOfC (ofString "law") au L fa ccd)) (execs (sb 13 :: rest) (envOfC (ofString "law") au L fa ccd)) Q E s := by
 w_top off
 k_with "fP" => ((repeat (first | exact List.Mem.head _ | with_reducible assumption | refine List.mem_append_left _ ?_ | refine' gR ?_)); done)
 k_with "fQ" => (k_here; k_dflt (refine' afW ?Xa ?Xb ?Xc ?Xd ?Xe ?Xf ?Xg ?Xh ?Xi ?Xj ?Xk ?Xl ?Xm ?Xn ?Xo ?Xp ?Xq ?Xr ?Xs ?_; (case Xa => k_asm); (case Xb | Xi | Xc | Xd | Xe | Xj | Xk | Xl => k_mem); (case Xf | Xg | Xh | Xm | Xn | Xo => (refine aJ.mono (by assumption) ?_; (tm_at "cd"))); (case Xp | Xq | Xr => assumption); (case Xs => ktr_units); k_whole))
 k_with "fR" => (k_here; (with_reducible show wpAny _ _ (call (Value.ref 305) _) _ _ _); (tm_at "4"); k_dflt (refine' ah3 rfl ?Xt ?Xu ?Xv ?Xw ?Xx ?Xy ?Xz ?XA ?XB ?XC ?XD ?XE ?XF ?XG ?XH ?XI ?_; (case Xt | Xu | Xv | Xw | Xx => k_asm); (case Xy | Xz => assumption); (case XA | XB => ((tm_at "aj"); (tm_at "Y"); (tm_at "ay"))); (case XC | XD => exact ik (by assumption)); (case XE | XF => exact aa8 _); (case XG => exact nG (by assumption)); (case XH => ktr_room); (case XI => ktr_units); k_whole); intro D9 vs9 k9 R9 h9 tk9 tr9 la9 F9 N9 l9; (tm_at "5"); (try dsimp only [List.cons_append, List.nil_append] at N9); (tm_at "6"); (try k_fold); (try k_sweep))
 k_with "fS" => (k_here; (with_reducible show wpAny _ _ (call (Value.ref 291) _) _ _ _); (tm_at "4"); k_dflt (refine' ah4 rfl ?XJ ?XK ?XL ?XM ?XN ?XO ?XP ?XQ ?XR ?XS ?XT ?XU ?XV ?XW ?XX ?XY ?_; (case XJ | XK | XL | XM | XN => k_asm); (case XO | XP => assumption); (case XQ | XR => ((tm_at "aj"); (tm_at "Y"); (tm_at "ay"))); (case XS | XT => exact ik (by assumption)); (case XU | XV => exact aa8 _); (case XW => exact nG (by assumption)); (case XX => ktr_room); (case XY => ktr_units); k_whole); intro D9 vs9 k9 R9 h9 tk9 tr9 la9 F9 N9 l9; (tm_at "5"); (try dsimp only [List.cons_append, List.nil_append] at N9); (tm_at "6"); (try k_fold); (try k_sweep))
 k_with "W call ref" => first | tm_at "fS" | tm_at "fR" | tm_at "ac" | tm_at "ad" | tm_at "miss"
 k_with "k_mem" => first | tm_at "fP" | tm_at "bQ" | tm_at "miss"
 k_with "W compareOp NotEq ref ref" => first | tm_at "fQ" | tm_at "miss"
 k_with "W exec Assign cons ListComp" => tm_at "o"
 k_with "W CompEnd" => tm_at "o"
 k_with "W CompSrcT" => tm_at "o"
 k_with "W afV" => tm_at "o"
 have hA0 := hW0;have hA1 := hW1;tm_at "ck";tm_at "cl";have m0 := hs0 _ (.head _);have q0 := hs1 _ (.head _);have m1 := hs0 _ (.tail _ (.head _));have q1 := hs1 _ (.tail _ (.head _));have m2 := hs0 _ (.tail _ (.tail _ (.head _)));have q2 := hs1 _ (.tail _ (.tail _ (.head _)));have m3 := hs0 _ (.tail _ (.tail _ (.tail _ (.head _))));have q3 := hs1 _ (.tail _ (.tail _ (.tail _ (.head _))));tm_at "ai";tm_at "ag";revert X
 k_fill
 intro X
 conv in sb 13 => whnf
 k_steps
 (try dsimp only)
 tm_at "aF";refine' hret _ _ _ ?ha ?F (az N9 ?sub)
 case F => k_asm
 tm_at "al"
 case sub => (tm_at "cd")
theorem adJ {p9 : Ws} {bb : Bool} (hdummy : rw1 = rw1) (heq : cQ p9 q9 = bb) (B : Below gV base outer gO) (F : Fr gO L s.heap m) (X : (K1 w.params).In gO) (N : News gO L s.heap led) (T : Top p loose mean mg mb gO) (hW : cj x p9 W) (hV : cj y q9 V) (hsub : ∀ p ∈ W, p ∈ led) (hsuv : ∀ p ∈ V, p ∈ led) (hn : p9.cnt.length < 90) (hnq : q9.cnt.length < 90) (hb : p9.b < 90) (hbq : q9.b < 90) (hlo : 0 <= aC p9) (hd : dp + 20 < recursionLimit) (hu : un + 150 < cLine) (hret : ∀ h' tk', Fr gO L h' m -> News gO L h' led -> Q (.bool bb) { s with heap := h', toks := tk' }) : wpAny (model rw_rw0126_02.row.prog w) (ktrTop dp un gd cn ⟨.function, nms, ig, ic, mo⟩ L a ccd cl outer) (call (.ref 298) [.ref x, .ref y]) Q E s := by
 w_top off
 k_with "W call ref" => tm_at "ak"
 k_with "k_mem" => first | tm_at "bQ" | tm_at "miss"
 k_with "W subscriptTail Name Constant ref int" => first | tm_at "c3" | tm_at "miss"
 k_with "W compareOp NotEq ref ref" => tm_at "o"
 subst heq;exact af4 hdummy B F X N T hW hV hsub hsuv hn hnq hb hbq hlo hd hu hret
theorem abp {p9 : Ws} {bb : Bool} (hdummy : rw1 = rw1) (heq : decide (p9.cnt = q9.cnt /\ p9.b = q9.b) = bb) (B : Below gV base outer gO) (F : Fr gO L s.heap m) (X : (K1 w.params).In gO) (N : News gO L s.heap led) (T : Top p loose mean mg mb gO) (hW : cj x p9 W) (hV : cj y q9 V) (hsub : ∀ p ∈ W, p ∈ led) (hsuv : ∀ p ∈ V, p ∈ led) (hn : p9.cnt.length < 90) (hnq : q9.cnt.length < 90) (hd : dp + 20 < recursionLimit) (hu : un + 150 < cLine) (hret : ∀ h' tk', Fr gO L h' m -> News gO L h' led -> Q (.bool bb) { s with heap := h', toks := tk' }) : wpAny (model rw_rw0126_02.row.prog w) (ktrTop dp un gd cn ⟨.function, nms, ig, ic, mo⟩ L a ccd cl outer) (call (.ref 284) [.ref x, .ref y]) Q E s := by
 subst heq;exact adH hdummy B F X N T hW hV hsub hsuv hn hnq hd hu hret
theorem agq {Q : Flow -> Shared -> Prop} {rest : List Stmt} {W0 W1 : List (Addr × Obj)} (hdummy : rw1 = rw1) (B : Below callerA gO [] gO) (F : Fr gO L s.heap m) (X : (K1 w.params).In gO) (T : Top p loose mean mg mb gO) (hL : @LT.lt Nat _ 351 L) (hE : PassesOwn (model rw_rw0126_02.row.prog w) (callerA.deeper (envOfC (ofString "law") au L fa ccd)) (envOfC (ofString "law") au L fa ccd) E) (N : News gO L s.heap R) (hA : aB m [(ofString "orders", .ref oa), (ofString "one", .ref x0), (ofString "two", .ref x1)]) (h0 : 2 <= n0 /\ n0 <= 4) (h1 : 2 <= n1 /\ n1 <= 4) (hW0 : cj x0 (dC n0) W0) (hW1 : cj x1 (dC n1) W1) (hs0 : ∀ p ∈ W0, p ∈ R) (hs1 : ∀ p ∈ W1, p ∈ R) (hoa : (oa, listOf ov.toArray ko) ∈ R) (hv0 : ov[0]? = some (.int (n0 : Int) t0)) (hv1 : ov[1]? = some (.int (n1 : Int) t1)) (l1 : cQ (dC n0) (dC n1) = decide ((n0 : Int) < n1)) (l2 : cQ (dC n1) (dC n0) = decide ((n1 : Int) < n0)) (l3 : decide ((dC n0).cnt = (dC n1).cnt /\ (dC n0).b = (dC n1).b) = decide ((n0 : Int) = n1)) (hret : ∀ h' tk' m', Fr gO L h' m' -> News gO L h' R -> Q (.ret (.bool true)) { s with heap := h', toks := tk' }) : wpAny (model rw_rw0126_02.row.prog w) (callerA.deeper (envOfC (ofString "law") au L fa ccd)) (execs (sb 14 :: sb 15 :: rest) (envOfC (ofString "law") au L fa ccd)) Q E s := by
 k_with "fT" => (k_here; (with_reducible show wpAny _ _ (call (Value.ref 298) _) _ _ _); (tm_at "4"); k_dflt (refine' adJ rfl ?XZ ?Y0 ?Y1 ?Y2 ?Y3 ?Y4 ?Y5 ?Y6 ?Y7 ?Y8 ?Y9 ?Ya ?Yb ?Yc ?Yd ?Ye ?Yf ?_; (case Y0 | Y1 | Y2 | Y3 | Y4 => k_asm); (case Y5 | Y6 => assumption); (case Y7 | Y8 => ((tm_at "aj"); (tm_at "Y"); (tm_at "ay"))); (case Y9 | Ya => exact ik (by assumption)); (case Yb | Yc => exact aa8 _); (case Yd => exact nG (by assumption)); (case XZ => assumption); (case Ye => ktr_room); (case Yf => ktr_units); k_whole); intro h9 tk9 F9 N9; (tm_at "5"); (tm_at "6"); (try k_fold); (try k_sweep))
 k_with "fU" => (k_here; (with_reducible show wpAny _ _ (call (Value.ref 284) _) _ _ _); (tm_at "4"); k_dflt (refine' abp rfl ?Yg ?Yh ?Yi ?Yj ?Yk ?Yl ?Ym ?Yn ?Yo ?Yp ?Yq ?Yr ?Ys ?Yt ?_; (case Yh | Yi | Yj | Yk | Yl => k_asm); (case Ym | Yn => assumption); (case Yo | Yp => ((tm_at "aj"); (tm_at "Y"); (tm_at "ay"))); (case Yq | Yr => exact ik (by assumption)); (case Yg => assumption); (case Ys => ktr_room); (case Yt => ktr_units); k_whole); intro h9 tk9 F9 N9; (tm_at "5"); (tm_at "6"); (try k_fold); (try k_sweep))
 k_with "W call ref" => first | tm_at "fU" | tm_at "fT" | tm_at "ac" | tm_at "ad" | tm_at "miss"
 have hA0 := hW0;have hA1 := hW1;tm_at "ck";tm_at "cl";have m0 := hs0 _ (.head _);have q0 := hs1 _ (.head _);have m1 := hs0 _ (.tail _ (.head _));have q1 := hs1 _ (.tail _ (.head _));have m2 := hs0 _ (.tail _ (.tail _ (.head _)));have q2 := hs1 _ (.tail _ (.tail _ (.head _)));have m3 := hs0 _ (.tail _ (.tail _ (.tail _ (.head _))));have q3 := hs1 _ (.tail _ (.tail _ (.tail _ (.head _))));tm_at "ai";tm_at "ag";revert X
 k_fill
 intro X
 conv in sb 14 => whnf
 conv in sb 15 => whnf
 k_steps
 · rename (_ != _) = true => e9
   exact absurd e9 (by simp)
 · rename (_ != _) = true => e9
   exact absurd e9 (by simp)
 have e9 : (decide ((n0 : Int) = n1) == ((n0 : Int) == n1)) = true := by
   rw [show ((n0 : Int) == n1) = decide ((n0 : Int) = n1) from rfl]; simp
 rw [e9];exact hret _ _ _ (by k_asm) (by k_asm)
noncomputable def E7.pP {Q : Flow -> Shared -> Prop} : Prop := ∀  (hdummy : rw1 = rw1) (B : Below callerA gO [] gO) (F : Fr gO L s.heap m) (X : (K1 w.params).In gO) (T : Top p loose mean mg mb gO) (hL : @LT.lt Nat _ 351 L) (hE : PassesOwn (model rw_rw0126_02.row.prog w) (callerA.deeper (envOfC (ofString "law") au L fa ccd)) (envOfC (ofString "law") au L fa ccd) E) (N : News gO L s.heap ((140, oL) :: (147, oS) :: (L + 1, o1) :: (L + 1 + 1, o2) :: (L + 1 + 1 + 1, o3) :: (L + 1 + 1 + 1 + 1, o4) :: (L + 1 + 1 + 1 + 1 + 1, o5) :: (L + 1 + 1 + 1 + 1 + 1 + 1, o6) :: (L + 1 + 1 + 1 + 1 + 1 + 1 + 1, o7) :: (L + 1 + 1 + 1 + 1 + 1 + 1 + 1 + 1, o8) :: [])) (c1 : o1.data = .cell (some (.ref sa))) (c2 : o2.data = .cell none) (c3 : o3.data = .cell none) (c4 : o4.data = .cell none) (c5 : o5.data = .cell none) (c6 : o6.data = .cell none) (c7 : o7.data = .cell none) (c8 : o8.data = .cell none) (hsa : gO.IsList sa vs.toArray) (hin : IntsAre vs ns) (hvz : vs.toArray.size <= sizeLine) (ht1 : ao 93 19 oL) (ht2 : ao 96 32 oS) (G : AllBare s.gens) (hTF : ∀ x, x < 1000000000000 -> fj x (2 + x % 3)) (hret : ∀ s' m' oL' oS', ao 93 19 oL' -> ao 96 32 oS' -> AllBare s'.gens -> s'.os = s.os -> Fr gO L s'.heap m' -> News gO L s'.heap ((140, oL') :: (147, oS') :: []) -> Q (.ret (.bool true)) s'), wpAny (model rw_rw0126_02.row.prog w) (callerA.deeper (envOfC (ofString "law") au L fa ccd)) (execs (cg (st 20)) (envOfC (ofString "law") au L fa ccd)) Q E s
noncomputable def E7.pQ := V6 λ a b c d e f => V6 λ g h i j k l => V6 λ m n o p q r => V6 λ s t u v w x => U λ y => U λ z => λ A => @E7.pP a j k l d i e f b c n h g r s v y w x p z A q o t u m
@[irreducible] noncomputable def E7.pv := @Classical.epsilon _ (by tm_at "ne") λ x => ¬ E7.pQ x
theorem abq {Q : Flow -> Shared -> Prop} : @E7.pP w L m s mean gO mg mb p loose E ccd fa oL oS o3 o6 o4 o5 vs o7 o8 ns sa o1 o2 Q := bh E7.pQ (by with_unfolding_all rfl : E7.pv = _) (by
 w_top off
 k_with "W call ref" => tm_at "ak"
 k_with "W subscriptTail Name Constant ref int" => tm_at "o"
 intro hdummy B F X T hL hE N c1 c2 c3 c4 c5 c6 c7 c8 hsa hin hvz ht1 ht2 G hTF hret;rw [afO];refine ah8 (R := ((140, (E7.pv.2.2.1.2.2.2.2.2)) :: (147, (E7.pv.2.2.2.1.1)) :: ((E7.pv.2.1.2.2.2.1) + 1 + 1 + 1, (E7.pv.2.2.2.1.2.2.2.1)) :: ((E7.pv.2.1.2.2.2.1) + 1 + 1 + 1 + 1, (E7.pv.2.2.2.1.2.2.2.2.1)) :: ((E7.pv.2.1.2.2.2.1) + 1 + 1 + 1 + 1 + 1, (E7.pv.2.2.2.1.2.2.2.2.2)) :: ((E7.pv.2.1.2.2.2.1) + 1 + 1 + 1 + 1 + 1 + 1, (E7.pv.2.2.2.2.1)) :: ((E7.pv.2.1.2.2.2.1) + 1 + 1 + 1 + 1 + 1 + 1 + 1, (E7.pv.2.2.2.2.2.1)) :: ((E7.pv.2.1.2.2.2.1) + 1 + 1 + 1 + 1 + 1 + 1 + 1 + 1, (E7.pv.2.2.2.2.2.2)) :: [])) rfl B F X T hL hE (az N (by ((tm_at "Y"); (tm_at "Z")))) (λ _ h => absurd h List.not_mem_nil) c1 c2 hsa hin hvz (aj ⟨(by tm_at "Q"), aj ⟨(by tm_at "Q"), aj ⟨(by tm_at "Q"), aj ⟨(by tm_at "Q"), aj ⟨(by tm_at "Q"), aj ⟨(by tm_at "Q"), aj ⟨(by tm_at "Q"), aj ⟨(by tm_at "Q"), λ _ h => absurd h List.not_mem_nil⟩⟩⟩⟩⟩⟩⟩⟩) ?_;intro h1 tk1 m1 na nv kn zs oa ov ko M tt la kl hI hz hb hO hM hM2 q1 q2 q3 q4 q5 q6 hA1 F1 N1;refine (afX hI hz hb hO hM hM2).elim λ x0 q => q.elim λ x1 q => q.elim λ tx0 q => q.elim λ tx1 q => q.elim λ tn0 q => q.elim λ tn1 q => ?_
 obtain ⟨hx0, hx1, y0, y1, u0, u1, eM⟩ := q;subst eM;have b1 := q1 (140, (E7.pv.2.2.1.2.2.2.2.2)) (by k_mem); have b2 := q1 (147, (E7.pv.2.2.2.1.1)) (by k_mem); have b3 := q1 ((E7.pv.2.1.2.2.2.1) + 1 + 1 + 1, (E7.pv.2.2.2.1.2.2.2.1)) (by k_mem); have b4 := q1 ((E7.pv.2.1.2.2.2.1) + 1 + 1 + 1 + 1, (E7.pv.2.2.2.1.2.2.2.2.1)) (by k_mem); have b5 := q1 ((E7.pv.2.1.2.2.2.1) + 1 + 1 + 1 + 1 + 1, (E7.pv.2.2.2.1.2.2.2.2.2)) (by k_mem); have b6 := q1 ((E7.pv.2.1.2.2.2.1) + 1 + 1 + 1 + 1 + 1 + 1, (E7.pv.2.2.2.2.1)) (by k_mem); have b7 := q1 ((E7.pv.2.1.2.2.2.1) + 1 + 1 + 1 + 1 + 1 + 1 + 1, (E7.pv.2.2.2.2.2.1)) (by k_mem); have b8 := q1 ((E7.pv.2.1.2.2.2.1) + 1 + 1 + 1 + 1 + 1 + 1 + 1 + 1, (E7.pv.2.2.2.2.2.2)) (by k_mem);have d1 := q2 (140, (E7.pv.2.2.1.2.2.2.2.2)) (by k_mem); have d2 := q2 (147, (E7.pv.2.2.2.1.1)) (by k_mem); have d3 := q2 ((E7.pv.2.1.2.2.2.1) + 1 + 1 + 1, (E7.pv.2.2.2.1.2.2.2.1)) (by k_mem); have d4 := q2 ((E7.pv.2.1.2.2.2.1) + 1 + 1 + 1 + 1, (E7.pv.2.2.2.1.2.2.2.2.1)) (by k_mem); have d5 := q2 ((E7.pv.2.1.2.2.2.1) + 1 + 1 + 1 + 1 + 1, (E7.pv.2.2.2.1.2.2.2.2.2)) (by k_mem); have d6 := q2 ((E7.pv.2.1.2.2.2.1) + 1 + 1 + 1 + 1 + 1 + 1, (E7.pv.2.2.2.2.1)) (by k_mem); have d7 := q2 ((E7.pv.2.1.2.2.2.1) + 1 + 1 + 1 + 1 + 1 + 1 + 1, (E7.pv.2.2.2.2.2.1)) (by k_mem); have d8 := q2 ((E7.pv.2.1.2.2.2.1) + 1 + 1 + 1 + 1 + 1 + 1 + 1 + 1, (E7.pv.2.2.2.2.2.2)) (by k_mem);have f1 := q3 (140, (E7.pv.2.2.1.2.2.2.2.2)) (by k_mem); have f2 := q3 (147, (E7.pv.2.2.2.1.1)) (by k_mem); have f3 := q3 ((E7.pv.2.1.2.2.2.1) + 1 + 1 + 1, (E7.pv.2.2.2.1.2.2.2.1)) (by k_mem); have f4 := q3 ((E7.pv.2.1.2.2.2.1) + 1 + 1 + 1 + 1, (E7.pv.2.2.2.1.2.2.2.2.1)) (by k_mem); have f5 := q3 ((E7.pv.2.1.2.2.2.1) + 1 + 1 + 1 + 1 + 1, (E7.pv.2.2.2.1.2.2.2.2.2)) (by k_mem); have f6 := q3 ((E7.pv.2.1.2.2.2.1) + 1 + 1 + 1 + 1 + 1 + 1, (E7.pv.2.2.2.2.1)) (by k_mem); have f7 := q3 ((E7.pv.2.1.2.2.2.1) + 1 + 1 + 1 + 1 + 1 + 1 + 1, (E7.pv.2.2.2.2.2.1)) (by k_mem); have f8 := q3 ((E7.pv.2.1.2.2.2.1) + 1 + 1 + 1 + 1 + 1 + 1 + 1 + 1, (E7.pv.2.2.2.2.2.2)) (by k_mem);have hm5 : max (2 + x0 % 3) (2 + x1 % 3) + 1 <= 5 := aiL x0 x1;have g0 : 2 <= 2 + x0 % 3 /\ 2 + x0 % 3 <= 4 := wX x0;have g1 : 2 <= 2 + x1 % 3 /\ 2 + x1 % 3 <= 4 := wX x1;refine ah9 (R := ((oa, listOf ov.toArray ko) :: (na, listOf nv.toArray kn) :: ((E7.pv.2.1.2.2.2.1) + 1 + 1 + 1 + 1 + 1 + 1 + 1, (E7.pv.2.2.2.2.2.1)) :: ((E7.pv.2.1.2.2.2.1) + 1 + 1 + 1 + 1 + 1 + 1 + 1 + 1, (E7.pv.2.2.2.2.2.2)) :: [])) (top := max (2 + x0 % 3) (2 + x1 % 3) + 1) (n0 := 2 + x0 % 3) (n1 := 2 + x1 % 3) (x0 := x0) (x1 := x1) rfl B F1 X T hL hE (az N1 (by ((tm_at "Y"); (tm_at "Z")))) hA1 (by k_mem) (by k_mem) u0 u1 y0 y1 hx0 hx1 (hTF x0 hx0) (hTF x1 hx1) hm5 c3 c4 c5 c6 (aj ⟨(by tm_at "Q"), aj ⟨(by tm_at "Q"), aj ⟨(by tm_at "Q"), aj ⟨(by tm_at "Q"), λ _ h => absurd h List.not_mem_nil⟩⟩⟩⟩) (aj ⟨(by tm_at "Q"), aj ⟨(by tm_at "Q"), aj ⟨(by tm_at "Q"), aj ⟨(by tm_at "Q"), λ _ h => absurd h List.not_mem_nil⟩⟩⟩⟩) (aj ⟨(by tm_at "Q"), aj ⟨(by tm_at "Q"), aj ⟨(by tm_at "Q"), aj ⟨(by tm_at "Q"), λ _ h => absurd h List.not_mem_nil⟩⟩⟩⟩) (aj ⟨(by tm_at "Q"), aj ⟨(by tm_at "Q"), aj ⟨(by tm_at "Q"), aj ⟨(by tm_at "Q"), λ _ h => absurd h List.not_mem_nil⟩⟩⟩⟩) (aj ⟨(by tm_at "Q"), aj ⟨(by tm_at "Q"), aj ⟨(by tm_at "Q"), aj ⟨(by tm_at "Q"), λ _ h => absurd h List.not_mem_nil⟩⟩⟩⟩) (aj ⟨(by tm_at "Q"), aj ⟨(by tm_at "Q"), aj ⟨(by tm_at "Q"), aj ⟨(by tm_at "Q"), λ _ h => absurd h List.not_mem_nil⟩⟩⟩⟩) (aj ⟨(by tm_at "Q"), aj ⟨(by tm_at "Q"), aj ⟨(by tm_at "Q"), aj ⟨(by tm_at "Q"), λ _ h => absurd h List.not_mem_nil⟩⟩⟩⟩) (by tm_at "Q") (by tm_at "Q") (by tm_at "Q") (by tm_at "Q") (by tm_at "Q") (by tm_at "Q") ht1 ht2 G ?_;intro s2 m2 oL1 oS1 xa xb W V kl1 hW hV ht12 ht22 G2 os2 hA2 F2 N2 lW;have e7 : ∀ p ∈ V ++ W, @Ne Nat p.1 ((E7.pv.2.1.2.2.2.1) + 1 + 1 + 1 + 1 + 1 + 1 + 1) := λ p hp => Nat.ne_of_gt ((lW p hp).1 ((E7.pv.2.1.2.2.2.1) + 1 + 1 + 1 + 1 + 1 + 1 + 1, (E7.pv.2.2.2.2.2.1)) (by k_mem))
 have e8 : ∀ p ∈ V ++ W, @Ne Nat p.1 ((E7.pv.2.1.2.2.2.1) + 1 + 1 + 1 + 1 + 1 + 1 + 1 + 1) := λ p hp => Nat.ne_of_gt ((lW p hp).1 ((E7.pv.2.1.2.2.2.1) + 1 + 1 + 1 + 1 + 1 + 1 + 1 + 1, (E7.pv.2.2.2.2.2.2)) (by k_mem))
 have sVW : ∀ p ∈ ((oa, listOf ov.toArray ko) :: (na, listOf nv.toArray kn) :: ((E7.pv.2.1.2.2.2.1) + 1 + 1 + 1 + 1 + 1 + 1 + 1, (E7.pv.2.2.2.2.2.1)) :: ((E7.pv.2.1.2.2.2.1) + 1 + 1 + 1 + 1 + 1 + 1 + 1 + 1, (E7.pv.2.2.2.2.2.2)) :: []), p ∈ V ++ (W ++ ((oa, listOf ov.toArray ko) :: (na, listOf nv.toArray kn) :: ((E7.pv.2.1.2.2.2.1) + 1 + 1 + 1 + 1 + 1 + 1 + 1, (E7.pv.2.2.2.2.2.1)) :: ((E7.pv.2.1.2.2.2.1) + 1 + 1 + 1 + 1 + 1 + 1 + 1 + 1, (E7.pv.2.2.2.2.2.2)) :: [])) := λ p hp => List.mem_append_right _ (List.mem_append_right _ hp)
 refine agk (R := ((140, oL1) :: (147, oS1) :: (la, listOf [Value.ref xa, Value.ref xb].toArray kl1) :: (oa, listOf ov.toArray ko) :: (V ++ W))) rfl B F2 X T hL hE (az N2 (aj ⟨.tail _ (.tail _ (.tail _ (sVW _ (by k_mem)))), aj ⟨.tail _ (.tail _ (.tail _ (sVW _ (by k_mem)))), aj ⟨(by k_mem), aj ⟨(by k_mem), aj ⟨(by k_mem), aj ⟨.tail _ (.tail _ (.tail _ (sVW _ (by k_mem)))), λ p hp => .tail _ (.tail _ (.tail _ ((List.mem_append.mp hp).elim (List.mem_append_left _) λ h => List.mem_append_right _ (List.mem_append_left _ h))))⟩⟩⟩⟩⟩⟩)) (vX hA2 (by ((tm_at "Y"); (tm_at "Z")))) (by k_mem) (by k_mem) u0 u1 g0 g1 hm5 c7 c8 (aj ⟨(by tm_at "Q"), aj ⟨(by tm_at "Q"), aj ⟨(by tm_at "Q"), aj ⟨(by tm_at "Q"), e7⟩⟩⟩⟩) (aj ⟨(by tm_at "Q"), aj ⟨(by tm_at "Q"), aj ⟨(by tm_at "Q"), aj ⟨(by tm_at "Q"), e8⟩⟩⟩⟩) ?_;intro h3 tk3 m3 o7' o8' D1 D2 fv gv k1 k2 hf hg c7' c8' hA3 F3 N3;refine agl rfl B F3 X T hL hE N3 (vX hA3 (by ((tm_at "Y"); (tm_at "Z")))) (by k_mem) c7' (by k_mem) c8' (by k_mem) (by k_mem) hf hg (nH _ _) (nH _ _) hm5 ?_;intro h4 tk4 m4 R4 ca cv kc tr4 mc4 s4 hA4 F4 N4;refine agm rfl B F4 X T hL hE N4 hA4 mc4 tr4 (by rw [nJ]; lia) ?_;intro h5 tk5 m5 R5 ba bv bk tr5 mb5 s5 hA5 F5 N5;refine agn rfl B F5 X T hL hE N5 hA5 (s5 _ mc4) (tr4.mono s5) (by rw [nJ]; lia) ?_;intro h6 tk6 m6 R6 aa av ak tr6 ma6 s6 hA6 F6 N6;refine ago rfl B F6 X T hL hE N6 hA6 (s6 _ (s5 _ mc4)) (tr4.mono λ p hp => s6 p (s5 p hp)) (by rw [nJ]; lia) ?_;intro h7 tk7 m7 R7 ua uv uk tr7 mu7 s7 hA7 F7 N7;have up : ∀ p ∈ ((140, oL1) :: (147, oS1) :: (la, listOf [Value.ref xa, Value.ref xb].toArray kl1) :: (oa, listOf ov.toArray ko) :: (V ++ W)), p ∈ R7 := λ p hp => s7 p (s6 p (s5 p (s4 p (.tail _ (.tail _ (.tail _ (.tail _ (hp))))))))
 have sW : ∀ p ∈ W, p ∈ R7 := λ p hp => up p (.tail _ (.tail _ (.tail _ (.tail _ (List.mem_append_right _ hp)))))
 have sV : ∀ p ∈ V, p ∈ R7 := λ p hp => up p (.tail _ (.tail _ (.tail _ (.tail _ (List.mem_append_left _ hp)))))
 have wf := adu (2 + x0 % 3) (jY g0) (2 + x1 % 3) (jY g1);have lf := uf (2 + x0 % 3) (jY g0) (2 + x1 % 3) (jY g1);refine agp rfl B F7 X T hL hE N7 (vX hA7 (by ((tm_at "Y"); (tm_at "Z")))) g0 g1 hW hV sW sV (tr5.mono λ p hp => s7 p (s6 p hp)) (tr6.mono s7) tr7 (s7 _ (s6 _ mb5)) (s7 _ ma6) mu7 wf.1 wf.2.1 wf.2.2 ?_;intro h8 tk8 m8 hA8 F8 N8;refine agq rfl B F8 X T hL hE N8 hA8 g0 g1 hW hV sW sV (up _ (by k_mem)) u0 u1 lf.1 (uf (2 + x1 % 3) (jY g1) (2 + x0 % 3) (jY g0)).1 lf.2 ?_;intro h9 tk9 m9 F9 N9;exact hret _ _ _ _ ht12 ht22 G2 os2 F9 (az N9 (aj ⟨up _ (by k_mem), aj ⟨up _ (by k_mem), λ _ h => absurd h List.not_mem_nil⟩⟩))
 ) ((w, p, loose, mean, mg, mb), (fa, ccd, gO, L, m, s), (Q, E, sa, vs, ns, oL), (oS, o1, o2, o3, o4, o5), o6, o7, o8)
theorem aiY (P : Params) : ∃ dd vs sl, (K1 P).lookup 144 = some ⟨.type "code", dd, .fields vs, sl⟩ /\ vs[11]? = some (.ref 140) := ⟨_, _, _, rfl, rfl⟩
theorem aiZ (P : Params) : ∃ dd vs sl, (K1 P).lookup 151 = some ⟨.type "code", dd, .fields vs, sl⟩ /\ vs[11]? = some (.ref 147) := ⟨_, _, _, rfl, rfl⟩
theorem uB {K : Frag} {c q : Addr} (X : K.In h) (k : ∃ dd vs sl, K.lookup c = some ⟨.type "code", dd, .fields vs, sl⟩ /\ vs[11]? = some (.ref q)) : isCodeTable h q :=
 k.elim λ _ k => k.elim λ vs k => k.elim λ _ k => ⟨c, _, vs, X c _ k.1, rfl, rfl, k.2⟩
theorem pR {q : Addr} (x : isCodeTable (jX h) q) : isCodeTable h q := x.imp λ _ => Exists.imp λ _ => Exists.imp λ _ h => ⟨nq h.1, h.2⟩
theorem ai0 (P : Params) : ((K1 P).lookup 351).isSome = true := by kernel_rfl
theorem agr (X : (K1 w.params).In (jX h)) : @LT.lt Nat _ 351 h.objs.size := by
 refine (Option.isSome_iff_exists.mp (ai0 w.params)).elim λ o e => ?_
 have := Heap.lt_size (X _ _ e);rw [tZ] at this;exact this
theorem pU {gJ h' : Heap} {q : Addr} {ln co : Nat} {o : Obj} (ht : isCodeTable gJ q) (e : h'.get? q = some o) (ok : ao ln co o) : asItWas gJ h' q cX := by
 rcases ok with rfl | ⟨c, rfl⟩
 · exact .inl e
 · exact .inr (.inl ⟨ht, rfl, #[], _, rfl, by rw [Array.empty_append]; exact e⟩)
theorem adK {gJ h' : Heap} (q6 : gJ.get? 140 = some cX) (q13 : gJ.get? 147 = some cX) (X : (K1 w.params).In (jX gJ)) (F : Fr (jX gJ) L h' m) (N : News (jX gJ) L h' ((140, oL) :: (147, oS) :: [])) (t1 : ao 93 19 oL) (t2 : ao 96 32 oS) : OldK gJ h' := by
 have k6 := N.get (a := 140) (o := oL) (.head _);have k13 := N.get (a := 147) (o := oS) (.tail _ (.head _));refine ⟨λ b o e => ?_, λ b o e => ?_⟩
 · by_cases e6 : b = 140
   · subst e6
     rw [q6] at e; cases e;exact pU (pR (uB X (aiY _))) k6 t1
   · by_cases e13 : b = 147
     · subst e13
       rw [q13] at e; cases e;exact pU (pR (uB X (aiZ _))) k13 t2
     · exact .inl (F.keep b o (by rw [qO gJ e6 e13]; exact e))
 · by_cases e6 : b = 140
   · subst e6; exact ⟨_, k6⟩
   · by_cases e13 : b = 147
     · subst e13; exact ⟨_, k13⟩
     · exact ⟨o, F.keep b o (by rw [qO gJ e6 e13]; exact e)⟩
theorem abr {gJ s' : Shared} {cl : Str -> Option Addr} (q6 : gJ.heap.get? 140 = some cX) (q13 : gJ.heap.get? 147 = some cX) (X : (K1 w.params).In (jX gJ.heap)) (F : Fr (jX gJ.heap) L s'.heap m) (N : News (jX gJ.heap) L s'.heap ((140, oL) :: (147, oS) :: [])) (t1 : ao 93 19 oL) (t2 : ao 96 32 oS) (hos : s'.os = gJ.os) (G : AllBare s'.gens) : GoodWG rw1.row.claim cl mean [ofPy (PyData.list (List.map PyData.int ns))] gJ (.ok (.ret (.bool true))) s' :=
 by
 refine ⟨.inl ⟨.bool true, .bool true, [], rfl, λ _ => rfl, .bool _, ?_, λ _ => ⟨.nil, λ _ h => absurd h List.not_mem_nil⟩⟩, adK q6 q13 X F N t1 t2, hos, G⟩
 w_on
 wrow_post
theorem abt {vs : Array Value} (k1 : h.get? 140 = some cX) (k2 : h.get? 147 = some cX) (x : h.IsList a vs) : (jX h).IsList a vs := by
 obtain ⟨o, e, hc, r⟩ := x;exact ⟨o, lG k1 k2 e (λ q => by rw [q] at hc; cases hc), hc, r⟩
theorem abu {gJ : Shared} {cl : Str -> Option Addr} {mean' : ExcName -> Option Value} {name : Str} {scope : Scope} {body : List Stmt} {cd : Value} (hn : name = ofString "law") (hs : scope = au) (hb : body = cg (st 20)) (q6 : gJ.heap.get? 140 = some cX) (q13 : gJ.heap.get? 147 = some cX) (X : (K1 w.params).In (jX gJ.heap)) (T : Top q1 (looseW q1 bN) mean' mg mb gJ.heap) (F : Fr gJ.heap gJ.heap.objs.size s.heap m) (N : News gJ.heap gJ.heap.objs.size s.heap [(gJ.heap.objs.size + 1 + 1 + 1 + 1 + 1 + 1 + 1 + 1, o8), (gJ.heap.objs.size + 1 + 1 + 1 + 1 + 1 + 1 + 1, o7), (gJ.heap.objs.size + 1 + 1 + 1 + 1 + 1 + 1, o6), (gJ.heap.objs.size + 1 + 1 + 1 + 1 + 1, o5), (gJ.heap.objs.size + 1 + 1 + 1 + 1, o4), (gJ.heap.objs.size + 1 + 1 + 1, o3), (gJ.heap.objs.size + 1 + 1, o2), (gJ.heap.objs.size + 1, o1)]) (hc1 : o1.data = .cell (some (.ref sa))) (hc2 : o2.data = .cell none) (hc3 : o3.data = .cell none) (hc4 : o4.data = .cell none) (hc5 : o5.data = .cell none) (hc6 : o6.data = .cell none) (hc7 : o7.data = .cell none) (hc8 : o8.data = .cell none) (hsa : gJ.heap.IsList sa vs.toArray) (hin : IntsAre vs ns) (hlen : ¬ ((63 : Nat) : Int) < ns.length) (G : AllBare s.gens) (hos : s.os = gJ.os) (hE : PassesOwn (model rw1.row.prog w) (callerA.deeper (envOfC name scope gJ.heap.objs.size fa cd)) (envOfC name scope gJ.heap.objs.size fa cd) E) : wpAny (model rw1.row.prog w) (callerA.deeper (envOfC name scope gJ.heap.objs.size fa cd)) (execs body (envOfC name scope gJ.heap.objs.size fa cd)) (λ f s' => GoodWG rw1.row.claim cl mean [ofPy (PyData.list (List.map PyData.int ns))] gJ (Except.ok (Flow.ret (match f with | Flow.ret v => v | x => Value.none))) s') E s := by
 subst hn hs hb;have hL := agr X;have hvl : vs.length = ns.length := hin.length;refine abq (gO := jX gJ.heap) (L := gJ.heap.objs.size) rfl (below_caller _) (afM F) X (adm q6 q13 T) hL hE (az (aaV q6 q13 (Nat.lt_trans (by decide) hL) F N) (by repeat (first | exact λ _ h => absurd h List.not_mem_nil | refine bO (by (repeat (first | exact List.Mem.head _ | apply List.Mem.tail)); done) ?_))) hc1 hc2 hc3 hc4 hc5 hc6 hc7 hc8 (abt q6 q13 hsa) hin ?_ (.inl rfl) (.inl rfl) G ww ?_
 · rw [sizeLine_eq]; simp only [List.size_toArray]; omega
 · intro s' m' oL oS t1 t2 G' os' F' N'
   exact abr q6 q13 X F' N' t1 t2 (os'.trans hos) G'
theorem ags : qN := by
 w_on
 unfold qN WalkO
 k_fill
 intro w s₀ gJ mg mb G Y fa o pm cd doc dV kV ho hd hcd hD hmg hg args vals as hpre hlay hrd hwl hlo;obtain ⟨q6, q13, KX⟩ := afN Y;have X := (Ground.X G).1;have V := (Ground.X G).2;refine Ground.open G ?_;intro T B D TE TW
 try (refine guard_noD D (by decide +kernel) ?_; clear D)
 wrow_args hpre hlay hrd hwl hlo
 all_goals (
   first | refine callC_kw (enter_call ?_) | refine enter_call ?_
   w_top on
   w_call any ho hd hcd hD T F
   clear hd)
 rename Heap.IsList _ _ _ => hsa
 rename IntsAre _ _ => hin
 rename (¬ ((63 : Nat) : Int) < _) => hlen
 rename News _ _ _ _ => N0
 rename (Obj.data _ = Data.cell (bindC _ _ _ (ofString "latter"))) => c8
 rename (Obj.data _ = Data.cell (bindC _ _ _ (ofString "former"))) => c7
 rename (Obj.data _ = Data.cell (bindC _ _ _ (ofString "lead"))) => c6
 rename (Obj.data _ = Data.cell (bindC _ _ _ (ofString "turns"))) => c5
 rename (Obj.data _ = Data.cell (bindC _ _ _ (ofString "width"))) => c4
 rename (Obj.data _ = Data.cell (bindC _ _ _ (ofString "n"))) => c3
 rename (Obj.data _ = Data.cell (bindC _ _ _ (ofString "start"))) => c2
 rename (Obj.data _ = Data.cell (bindC _ _ _ (ofString "script"))) => c1
 refine abu (name := d17.name) (scope := d17.scope) (body := d17.body) rfl e20 rfl q6 q13 KX T F N0 (c1.trans ?_) (c2.trans ?_) (c3.trans ?_) (c4.trans ?_) (c5.trans ?_) (c6.trans ?_) (c7.trans ?_) (c8.trans ?_) hsa hin hlen ?_ rfl ?_
 · kernel_rfl
 · kernel_rfl
 · kernel_rfl
 · kernel_rfl
 · kernel_rfl
 · kernel_rfl
 · kernel_rfl
 · kernel_rfl
 · exact AllBare.of_eq hg
 · passes_own
theorem holds1 : rw1.Holds := afK ags
end
end
end Mine.Internal
theorem PySem.Challenge.cw_rw0126_02_holds : PySem.Challenge.rw_rw0126_02.Holds := by
 exact Mine.Internal.holds1
