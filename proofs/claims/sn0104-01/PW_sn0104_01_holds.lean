import PyProof.Rows.All
import Wide.All
import OpenK.AllK
import Wide.FinOn
import KE.KNest
import KE.KTurns
import KE.KPairComp
import KE.KStateW
import KE.KLam
import KE.KCompIf
import PyProof.WalksMore
import PyProof.RangeIter
import PyProof.FactsLen
import PyProof.PureCalls
import PyProof.StrWalks
import PySem.Challenge.RW_sn0104_01
set_option Elab.async false
set_option maxRecDepth 100000
set_option maxHeartbeats 8000000
set_option linter.all false
set_option compiler.extract_closed false
set_option pp.deepTerms.threshold 8
set_option pp.proofs.threshold 2
section
set_option maxHeartbeats 0
open PySem PySem.W PyProof.Rows
namespace Mine
abbrev rwO : OpenRow := PySem.Challenge.rw_sn0104_01.row
noncomputable def body0 : List PySem.Stmt := PySem.Challenge.pw_sn0104_01.main.body
noncomputable def tst0 : PySem.Stmt := (body0[0]?).getD (.Pass ⟨0, 0, 0, 0⟩)
noncomputable def tst1 : PySem.Stmt := (body0[1]?).getD (.Pass ⟨0, 0, 0, 0⟩)
noncomputable def tst3 : PySem.Stmt := (body0[3]?).getD (.Pass ⟨0, 0, 0, 0⟩)
noncomputable def tst4 : PySem.Stmt := (body0[4]?).getD (.Pass ⟨0, 0, 0, 0⟩)
noncomputable def tst5 : PySem.Stmt := (body0[5]?).getD (.Pass ⟨0, 0, 0, 0⟩)
noncomputable def tst6 : PySem.Stmt := (body0[6]?).getD (.Pass ⟨0, 0, 0, 0⟩)
noncomputable def tst7 : PySem.Stmt := (body0[7]?).getD (.Pass ⟨0, 0, 0, 0⟩)
noncomputable def tst8 : PySem.Stmt := (body0[8]?).getD (.Pass ⟨0, 0, 0, 0⟩)
noncomputable def tst9 : PySem.Stmt := (body0[9]?).getD (.Pass ⟨0, 0, 0, 0⟩)
noncomputable def tst15 : PySem.Stmt := (body0[15]?).getD (.Pass ⟨0, 0, 0, 0⟩)
noncomputable def tst17 : PySem.Stmt := (body0[17]?).getD (.Pass ⟨0, 0, 0, 0⟩)
noncomputable def tst18 : PySem.Stmt := (body0[18]?).getD (.Pass ⟨0, 0, 0, 0⟩)
noncomputable def tst19 : PySem.Stmt := (body0[19]?).getD (.Pass ⟨0, 0, 0, 0⟩)
noncomputable def tst21 : PySem.Stmt := (body0[21]?).getD (.Pass ⟨0, 0, 0, 0⟩)
noncomputable def tst23 : PySem.Stmt := (body0[23]?).getD (.Pass ⟨0, 0, 0, 0⟩)
noncomputable def tst24 : PySem.Stmt := (body0[24]?).getD (.Pass ⟨0, 0, 0, 0⟩)
noncomputable def tst25 : PySem.Stmt := (body0[25]?).getD (.Pass ⟨0, 0, 0, 0⟩)
noncomputable def tst26 : PySem.Stmt := (body0[26]?).getD (.Pass ⟨0, 0, 0, 0⟩)
noncomputable def tst27 : PySem.Stmt := (body0[27]?).getD (.Pass ⟨0, 0, 0, 0⟩)
noncomputable def tst28 : PySem.Stmt := (body0[28]?).getD (.Pass ⟨0, 0, 0, 0⟩)
noncomputable def tst29 : PySem.Stmt := (body0[29]?).getD (.Pass ⟨0, 0, 0, 0⟩)
noncomputable def tst30 : PySem.Stmt := (body0[30]?).getD (.Pass ⟨0, 0, 0, 0⟩)
noncomputable def tst31 : PySem.Stmt := (body0[31]?).getD (.Pass ⟨0, 0, 0, 0⟩)
noncomputable def tst32 : PySem.Stmt := (body0[32]?).getD (.Pass ⟨0, 0, 0, 0⟩)
noncomputable def vw : Program := { PySem.Challenge.pw_sn0104_01 with main := { PySem.Challenge.pw_sn0104_01.main with body := [tst0, tst1, tst3, tst4, tst5, tst6, tst7, tst8, tst9, tst15, tst17, tst18, tst19, tst21, tst23, tst24, tst25, tst26, tst27, tst28, tst29, tst30, tst31, tst32] } }
noncomputable def lo : List PySem.Str := [Str.ofString "insort_right", Str.ofString "bisect_right", Str.ofString "bisect_left", Str.ofString "Whitespace", Str.ofString "tspecials", Str.ofString "_name_disallowed_re", Str.ofString "_value_disallowed_re", Str.ofString "_formatparam"]
noncomputable def xt (s : Shared) : Bool := xlAt vw [] s && recOk (RowW.records rwO.toRowW) s
theorem left_two {p q : Program} {loose : List PySem.Str} {Xt : Shared → Bool} {α : Type} {Yf : Shared → α} {Ya : World → α} {N : Nat} {g0 : Bool} (row : String)
  (a0 : ∀ w : World, (openEnds treeTable p (w.withFollow row false) N).map (fun s => (openSeen q loose (importedModules p.main.body) Xt g0 s, Yf s)) = some (openGood q loose, Ya (w.withFollow row false)))
  (a1 : ∀ w : World, (openEnds treeTable p (w.withFollow row true) N).map (fun s => (openSeen q loose (importedModules p.main.body) Xt g0 s, Yf s)) = some (openGood q loose, Ya (w.withFollow row true))) : LeftO p q loose Xt Yf Ya N g0 := fun w => by
 have e := World.withFollow_self w row
 cases hb : w.params.followText row <;> rw [hb] at e
 ·have h := a0 w; rw [e] at h; exact h
 ·have h := a1 w; rw [e] at h; exact h

theorem head_all {d : DefRec} {kwd : List (PySem.Str × PySem.Expr)} (H : Hook)
  (hdef : defOf vw rwO.name = some (d, kwd)) (hp : rwO.prog.theDef rwO.name = some (d.params, d.body, d.scope)) (hk : kwWritten? d.params.kwonlyargs d.params.kw_defaults = some kwd) (hwr : (!rwO.writes || rwO.records.isEmpty) = true)
  (k1 : rwO.wellSaid = true) (ok : (chainsOk vw && opensWell rwO.prog && (frees rwO.toRowW && rwO.within.isEmpty)) = true) (hb : rwO.prog.bare) (hw : rwO.toRowW.promised)
  (hc : ((∀ w : World, (openEnds treeTable rwO.prog (w.withFollow "special-get-raises" false) 4436).map (fun s => (openSeen vw lo (importedModules rwO.prog.main.body) xt true s, H.obs s)) = some (openGood vw lo, H.val (w.withFollow "special-get-raises" false))) ∧
   ∀ w : World, (openEnds treeTable rwO.prog (w.withFollow "special-get-raises" true) 4436).map (fun s => (openSeen vw lo (importedModules rwO.prog.main.body) xt true s, H.obs s)) = some (openGood vw lo, H.val (w.withFollow "special-get-raises" true))) ∧
   WalkO vw lo (XL vw []) H.says rwO.toRowW d kwd fun f vs => PySem.call f vs) : rwO.Holds :=
 holds_open (q := vw) (loose := lo) (Xt := xt) (XP := XL vw []) (Yf := H.obs) (Ya := H.val) (YP := H.says) (N := 4436) (left_two "special-get-raises" hc.1.1 hc.1.2) H.of H.keeps (fun s e => xl_of s (Bool.and_eq_true_iff.mp e).1) XL.keeps hdef hp hk (fun s e => recFacts_of (Bool.and_eq_true_iff.mp e).2) hwr k1 ok hb hw hc.2
local macro_rules | `(tactic| o_head $H) => `(tactic| refine' head_all $H rfl rfl rfl rfl (by first | assumption | decide +kernel) (by decide +kernel) ⟨rfl, rfl, rfl, rfl, rfl, by decide +kernel⟩ ?hw ?hc)
theorem law_ok : PySem.Challenge.rw_sn0104_01.wellSaid = true := Eq.trans (congrFun Fast.te9446332074065402090 _) (by kernel_rfl)
local macro_rules | `(tactic| o_law) => `(tactic| refine holds_law law_ok fun said => ?_)
open_top hd for PySem.Challenge.rw_sn0104_01
noncomputable def runG (st : SharedT → Thread → Option (SharedT × Thread)) (e : Thread → Option Bool) : Nat → SharedT → Thread → Option SharedT
 | 0, _, _ => none
 | n + 1, s, t => match e t with
  | some true => some s
  | some false => none
  | none => (st s t).bind fun r => runG st e n r.1 r.2
theorem runG_of {tb : String → Option Builtin} {p : Program} {w : World} {e : Thread → Option Bool} {F : Nat → Shared → Thread → Option Shared}
  (h1 : ∀ n s t, e t = some true → F (n + 1) s t = some s) (h2 : ∀ n s t s' t', e t = none → step (denote tb) p w s t = .go s' t' → F (n + 1) s t = F n s' t') : ∀ (n : Nat) {s s' : SharedT} {t : Thread},
  runG (stepT (denote tb) p w) e n s t = some s' → F n s.abs t = some s'.abs
 | 0, _, _, _, h => by cases h
 | n + 1, s, s', t, h => by
  unfold runG at h
  split at h
  ·cases h; exact h1 _ _ _ (by assumption)
  ·cases h
  ·obtain ⟨r, h3, h4⟩ := Option.bind_eq_some_iff.mp h
   exact (h2 _ _ _ _ _ (by assumption) (stepT_spec h3)).trans (runG_of h1 h2 n h4)
noncomputable def endT (ok : Thread → Bool) (t : Thread) : Option Bool := cond (through t) (some true) (cond (ok t) none (some false))
noncomputable def endI (t : Thread) : Option Bool := match t.atExitBegin with
 | some l => some l.isEmpty
 | none => none
theorem runT_of {tb : String → Option Builtin} {p : Program} {w : World} {n₀ : Nat} {ann : Option Value} {n : Nat} {s s' : SharedT} {t : Thread} (h : runG (stepT (denote tb) p w) (endT (stepOk n₀ ann)) n s t = some s') : topRun tb p w n₀ ann n s.abs t = some s'.abs := by
 refine runG_of (F := topRun tb p w n₀ ann) (fun n s t k => ?_) (fun n s t s' t' k q => ?_) n h
 ·unfold topRun
  cases ht : through t with
  | true => rfl
  | false => unfold endT at k; rw [ht] at k; cases hk : stepOk n₀ ann t <;> rw [hk] at k <;> cases k
 ·rw [topRun, q]
  unfold endT at k
  cases ht : through t <;> rw [ht] at k
  ·cases hk : stepOk n₀ ann t <;> rw [hk] at k
   ·cases k
  ·cases k
theorem runI_of {tb : String → Option Builtin} {p : Program} {w : World} {n : Nat} {s s' : SharedT} {t : Thread} (h : runG (stepT (denote tb) p w) endI n s t = some s') : importEnds tb p w n s.abs t = some s'.abs := by
 refine runG_of (F := importEnds tb p w) (fun n s t k => ?_) (fun n s t s' t' k q => ?_) n h
 ·rw [importEnds]
  unfold endI at k
  cases ht : t.atExitBegin with
  | none => rw [ht] at k; cases k
  | some l =>
   rw [ht] at k
   cases l with
   | nil => rfl
   | cons => cases k
 ·rw [importEnds, q]
  unfold endI at k
  cases ht : t.atExitBegin with
  | none => rfl
  | some l => rw [ht] at k; cases k
noncomputable def grow : List Obj → BT → Nat → Option (BT × Nat)
 | [], t, n => some (t, n)
 | o :: l, t, n => match ((t.ins n o).get n).isSome with
  | true => grow l (t.ins n o) (n + 1)
  | false => none
theorem grow_of : ∀ {l : List Obj} {t t' : BT} {n n' : Nat} {life : Life}, grow l t n = some (t', n') → absHeap t' n' life = ⟨(absHeap t n life).objs ++ l.toArray, life⟩
 | [], t, t', n, n', life, h => by cases h; simp [absHeap]
 | o :: l, t, t', n, n', life, h => by
  unfold grow at h
  cases e : ((t.ins n o).get n).isSome with
  | false => rw [e] at h; cases h
  | true =>
   rw [e] at h
   rw [grow_of h, absHeap_ins e]
   simp [Heap.push]
noncomputable def growS (s : Shared) : Option SharedT := match grow s.heap.objs.toList .nil 0 with
 | some (t, n) => some ⟨t, n, s.heap.life, s.gens, s.drawn, s.toks, s.os⟩
 | none => none
theorem growS_of {s : Shared} {s' : SharedT} (h : growS s = some s') : s'.abs = s := by
 unfold growS at h
 cases e : grow s.heap.objs.toList .nil 0 with
 | none => rw [e] at h; cases h
 | some r =>
  obtain ⟨t, n⟩ := r
  rw [e] at h
  cases h
  obtain ⟨⟨⟨objs⟩, life⟩, gens, drawn, toks, os⟩ := s
  show (⟨absHeap t n life, gens, drawn, toks, os⟩ : Shared) = _
  rw [grow_of e]
  simp [absHeap, BT.list]
noncomputable def bothT (st1 st2 : SharedT → Thread → Option (SharedT × Thread)) (ok : Nat → Option Value → Thread → Bool) (p : Program) (N : Nat) : Option (Shared × SharedT) :=
 (growS (start (opening p)).1).bind fun s => (runG st1 endI N s (start (opening p)).2).bind fun s1 => (fenceModules? p s1.abs).bind fun s0 => (growS s0).bind fun s2 =>
  (runG st2 (endT (ok s2.n (s0.heap.nsMap mainGlobals "__annotations__"))) N s2 (topStub p)).map fun s3 => (s0, s3)
noncomputable abbrev fast (p : Program) (w : World) : SharedT → Thread → Option (SharedT × Thread) := Fast.tw10156331382660048174 (Fast.tw11892475500146522536 Fast.tw14364793385576792824) p w
theorem fast_eq (p : Program) (w : World) : fast p w = stepT (denote treeTable) p w := by
 unfold fast
 rw [← Fast.te10156331382660048174, ← Fast.te11892475500146522536, ← Fast.te14364793385576792824]
noncomputable abbrev adr : List Nat := [2,3,32,34,35,37,38,39,41,42,44,45,46,48,49,51,52,53,55,56,58,59,60,62,63,65,66,67,69,70,72,73,74,76,77,79,80,81,82,83,85,86,88,89,90,91,92,94,95,97,98,99,100,101,103,104,106,107,118,120,121,123,124,125,127,128,130,131,132,134,135,137,138,139,141,142,144,145,146,148,149,151,152,153,155,156,158,159,160,162,163,165,166,167,168,169,170,171,177,178,182,183,187,188,189,190,192,193,195,196,204,205,207,208,210,211,212,214,215,217,218,219,221,222,224,225,226,228,229,231,232,233,236,237,238,240,241,243,244,245,247,248,250,251,252,255,256,257,258,260,261,263,264,265,268,269,270,273,274,275,277,278,280,281,282,284,285,287,288,289,292,293,294,296,297,299,300,301,303,304,306,307,308,310,311,313,314,315,316,317,318,319,322,325,326,327,330,331,332,335,336,337,340,341,342,344,345,347,348,349,351,352,354,355,356,359,360,361,364,365,366,369,370,371,374,375]
noncomputable abbrev hookK := kmHook hd.heap_1 adr (fun _ => rfl) [54, 350, 61]
noncomputable abbrev chk (p : Program) (s₀ s₁ : Shared) : Bool := (s₀.heap.isNs mainGlobals && s₀.gens.size == 0) && (staticsOk (importedModules p.main.body) s₀.heap s₁.heap && namesBound p s₁.heap && gensDone s₁ && laidKept s₀.heap s₁.heap)
noncomputable abbrev okF := Fast.tw6613529449190102663
noncomputable abbrev seeF := Fast.tw4187177175401517315 vw lo (importedModules rwO.prog.main.body) xt true
theorem from_of {p : Program} {w : World} {N : Nat} {s₀ s₁ : Shared} (k : chk p s₀ s₁ = true) (h : topRun treeTable p w s₀.heap.objs.size (s₀.heap.nsMap mainGlobals "__annotations__") N s₀ (topStub p) = some s₁) : topFrom treeTable p w N s₀ = some s₁ := by
 have q := Bool.and_eq_true_iff.mp k
 unfold topFrom
 rw [q.1, h]
 exact (congrArg (fun b => (match b with | true => some s₁ | false => none : Option Shared)) q.2 :)
theorem ends_of {p : Program} {w : World} {N : Nat} {α : Type} {f : Shared → α} {x : α}
  (h : (bothT (fast (opening p) w) (fast p w) okF p N).map (fun r => (chk p r.1 r.2.abs, f r.2.abs)) = some (true, x)) : (openEnds treeTable p w N).map f = some x := by
 rw [fast_eq, fast_eq, okF, ← Fast.te6613529449190102663] at h
 have ⟨r, e, k⟩ := Option.map_eq_some_iff.mp h
 have ⟨s, e1, e⟩ := Option.bind_eq_some_iff.mp e
 have ⟨s1, e2, e⟩ := Option.bind_eq_some_iff.mp e
 have ⟨s0, e3, e⟩ := Option.bind_eq_some_iff.mp e
 have ⟨s2, e5, e⟩ := Option.bind_eq_some_iff.mp e
 have ⟨s3, e6, e⟩ := Option.map_eq_some_iff.mp e
 have k := Prod.mk.inj k
 have g1 := runI_of e2
 have g2 := runT_of e6
 have g3 : s2.n = s0.heap.objs.size := (absHeap_size _ _ _).symm.trans (congrArg (fun s : Shared => s.heap.objs.size) (growS_of e5))
 rw [growS_of e1] at g1
 rw [growS_of e5, g3] at g2
 rw [← e] at k
 have f1 : fencedOpening treeTable p w N = some s0 := (congrArg (fun o => o.bind (fenceModules? p)) g1).trans e3
 have f2 : openEnds treeTable p w N = some s3.abs := (congrArg (fun o => o.bind (topFrom treeTable p w N)) f1).trans (from_of k.1 g2)
 exact (congrArg (Option.map f) f2).trans (congrArg some k.2)
noncomputable abbrev theRun (b : Bool) (w : World) : Option (Shared × SharedT) := bothT (fast (opening rwO.prog) (w.withFollow "special-get-raises" b)) (fast rwO.prog (w.withFollow "special-get-raises" b)) okF rwO.prog 4436

theorem runF (w : World) : (theRun false w).map (fun r => (chk rwO.prog r.1 r.2.abs, (seeF r.2.abs, hookK.obs r.2.abs))) = some (true, (openGood vw lo, hookK.val (w.withFollow "special-get-raises" false))) := by kernel_rfl
theorem runR (w : World) : (theRun true w).map (fun r => (chk rwO.prog r.1 r.2.abs, (seeF r.2.abs, hookK.obs r.2.abs))) = some (true, (openGood vw lo, hookK.val (w.withFollow "special-get-raises" true))) := by kernel_rfl
theorem runs : (∀ w : World, (openEnds treeTable rwO.prog (w.withFollow "special-get-raises" false) 4436).map (fun s => (openSeen vw lo (importedModules rwO.prog.main.body) xt true s, hookK.obs s)) = some (openGood vw lo, hookK.val (w.withFollow "special-get-raises" false))) ∧
  ∀ w : World, (openEnds treeTable rwO.prog (w.withFollow "special-get-raises" true) 4436).map (fun s => (openSeen vw lo (importedModules rwO.prog.main.body) xt true s, hookK.obs s)) = some (openGood vw lo, hookK.val (w.withFollow "special-get-raises" true)) := by
 rw [Fast.te4187177175401517315]
 exact ⟨fun w => ends_of (runF w), fun w => ends_of (runR w)⟩
end Mine
end
section
namespace Mine
theorem rm0 {d b R : Nat} (h : d + b < R) : d < R := Nat.lt_of_le_of_lt (Nat.le_add_right d b) h
theorem rm1 {d a b R : Nat} (h : d + b < R) (k : Nat.ble a b = true) : d + a < R := Nat.lt_of_le_of_lt (Nat.add_le_add_left (Nat.le_of_ble_eq_true k) d) h
theorem rm2 {d a c b R : Nat} (h : d + b < R) (k : Nat.ble (a + c) b = true) : d + a + c < R := Nat.add_assoc d a c ▸ rm1 h k
theorem rm3 {d a c e b R : Nat} (h : d + b < R) (k : Nat.ble (a + (c + e)) b = true) : d + a + c + e < R := Nat.add_assoc (d + a) c e ▸ rm2 (c := c + e) h k
theorem nq1 {a b : Nat} (h : a < b) : a ≠ b + 1 := Nat.ne_of_lt (Nat.lt_succ_of_lt h)
theorem nqs1 {a b : Nat} (h : a < b) : b + 1 ≠ a := Ne.symm (nq1 h)
theorem nq2 {a b : Nat} (h : a < b) : a ≠ b + 1 + 1 := Nat.ne_of_lt (Nat.lt_succ_of_lt (Nat.lt_succ_of_lt h))
theorem nqs2 {a b : Nat} (h : a < b) : b + 1 + 1 ≠ a := Ne.symm (nq2 h)
theorem nq3 {a b : Nat} (h : a < b) : a ≠ b + 1 + 1 + 1 := Nat.ne_of_lt (Nat.lt_succ_of_lt (Nat.lt_succ_of_lt (Nat.lt_succ_of_lt h)))
theorem nqs3 {a b : Nat} (h : a < b) : b + 1 + 1 + 1 ≠ a := Ne.symm (nq3 h)
theorem nz12 {a : Nat} : a + 1 ≠ a + 1 + 1 := Nat.ne_of_lt (Nat.lt_succ_self _)
theorem nz13 {a : Nat} : a + 1 ≠ a + 1 + 1 + 1 := Nat.ne_of_lt (Nat.lt_succ_of_lt (Nat.lt_succ_self _))
theorem nz02 {a : Nat} : a ≠ a + 1 + 1 := Nat.ne_of_lt (Nat.lt_succ_of_lt (Nat.lt_succ_self _))
section
variable {α : Type} [LE α] [LT α] [Trans (fun (a b : α) => a ≤ b) (fun a b => a ≤ b) (fun a b => a ≤ b)] [Std.LawfulOrderLT α] {x m c : α} {p : Prop}
theorem ule (h : x ≤ m) (k : m ≤ c) : x ≤ c := Std.le_trans h k
theorem ulf (h : x < m) (k : m ≤ c) : x ≤ c := Std.le_trans (Std.le_of_lt h) k
theorem ult (h : x < m) (k : m ≤ c) : x < c := Std.lt_of_lt_of_le h k
theorem uls (h : x ≤ m) (k : m < c) : x < c := Std.lt_of_le_of_lt h k
theorem lle (h : m ≤ x) (k : c ≤ m) : c ≤ x := Std.le_trans k h
theorem llf (h : m < x) (k : c ≤ m) : c ≤ x := Std.le_trans k (Std.le_of_lt h)
theorem llt (h : m < x) (k : c ≤ m) : c < x := Std.lt_of_le_of_lt k h
theorem lls (h : m ≤ x) (k : c < m) : c < x := Std.lt_of_lt_of_le k h
theorem llel (h : m ≤ x ∧ p) (k : c ≤ m) : c ≤ x := Std.le_trans k h.1
theorem llfl (h : m < x ∧ p) (k : c ≤ m) : c ≤ x := Std.le_trans k (Std.le_of_lt h.1)
theorem lltl (h : m < x ∧ p) (k : c ≤ m) : c < x := Std.lt_of_le_of_lt k h.1
theorem llsl (h : m ≤ x ∧ p) (k : c < m) : c < x := Std.lt_of_lt_of_le k h.1
theorem uler (h : p ∧ x ≤ m) (k : m ≤ c) : x ≤ c := Std.le_trans h.2 k
theorem ulfr (h : p ∧ x < m) (k : m ≤ c) : x ≤ c := Std.le_trans (Std.le_of_lt h.2) k
theorem ultr (h : p ∧ x < m) (k : m ≤ c) : x < c := Std.lt_of_lt_of_le h.2 k
theorem ulsr (h : p ∧ x ≤ m) (k : m < c) : x < c := Std.lt_of_le_of_lt h.2 k
end
theorem cr1 {p0 q : Prop} (h : p0 ∧ q) : q := h.2
theorem cl1 {p0 a q : Prop} (h : p0 ∧ a ∧ q) : a := h.2.1
theorem cr2 {p0 p1 q : Prop} (h : p0 ∧ p1 ∧ q) : q := h.2.2
theorem cl2 {p0 p1 a q : Prop} (h : p0 ∧ p1 ∧ a ∧ q) : a := h.2.2.1
theorem cr3 {p0 p1 p2 q : Prop} (h : p0 ∧ p1 ∧ p2 ∧ q) : q := h.2.2.2
theorem cl3 {p0 p1 p2 a q : Prop} (h : p0 ∧ p1 ∧ p2 ∧ a ∧ q) : a := h.2.2.2.1
theorem cr4 {p0 p1 p2 p3 q : Prop} (h : p0 ∧ p1 ∧ p2 ∧ p3 ∧ q) : q := h.2.2.2.2
theorem cl4 {p0 p1 p2 p3 a q : Prop} (h : p0 ∧ p1 ∧ p2 ∧ p3 ∧ a ∧ q) : a := h.2.2.2.2.1
theorem cr5 {p0 p1 p2 p3 p4 q : Prop} (h : p0 ∧ p1 ∧ p2 ∧ p3 ∧ p4 ∧ q) : q := h.2.2.2.2.2
theorem cl5 {p0 p1 p2 p3 p4 a q : Prop} (h : p0 ∧ p1 ∧ p2 ∧ p3 ∧ p4 ∧ a ∧ q) : a := h.2.2.2.2.2.1
theorem cr6 {p0 p1 p2 p3 p4 p5 q : Prop} (h : p0 ∧ p1 ∧ p2 ∧ p3 ∧ p4 ∧ p5 ∧ q) : q := h.2.2.2.2.2.2
theorem cl6 {p0 p1 p2 p3 p4 p5 a q : Prop} (h : p0 ∧ p1 ∧ p2 ∧ p3 ∧ p4 ∧ p5 ∧ a ∧ q) : a := h.2.2.2.2.2.2.1
theorem cr7 {p0 p1 p2 p3 p4 p5 p6 q : Prop} (h : p0 ∧ p1 ∧ p2 ∧ p3 ∧ p4 ∧ p5 ∧ p6 ∧ q) : q := h.2.2.2.2.2.2.2
theorem cl7 {p0 p1 p2 p3 p4 p5 p6 a q : Prop} (h : p0 ∧ p1 ∧ p2 ∧ p3 ∧ p4 ∧ p5 ∧ p6 ∧ a ∧ q) : a := h.2.2.2.2.2.2.2.1
theorem cr8 {p0 p1 p2 p3 p4 p5 p6 p7 q : Prop} (h : p0 ∧ p1 ∧ p2 ∧ p3 ∧ p4 ∧ p5 ∧ p6 ∧ p7 ∧ q) : q := h.2.2.2.2.2.2.2.2
theorem cl8 {p0 p1 p2 p3 p4 p5 p6 p7 a q : Prop} (h : p0 ∧ p1 ∧ p2 ∧ p3 ∧ p4 ∧ p5 ∧ p6 ∧ p7 ∧ a ∧ q) : a := h.2.2.2.2.2.2.2.2.1
theorem cr9 {p0 p1 p2 p3 p4 p5 p6 p7 p8 q : Prop} (h : p0 ∧ p1 ∧ p2 ∧ p3 ∧ p4 ∧ p5 ∧ p6 ∧ p7 ∧ p8 ∧ q) : q := h.2.2.2.2.2.2.2.2.2
theorem cl9 {p0 p1 p2 p3 p4 p5 p6 p7 p8 a q : Prop} (h : p0 ∧ p1 ∧ p2 ∧ p3 ∧ p4 ∧ p5 ∧ p6 ∧ p7 ∧ p8 ∧ a ∧ q) : a := h.2.2.2.2.2.2.2.2.2.1
theorem cr10 {p0 p1 p2 p3 p4 p5 p6 p7 p8 p9 q : Prop} (h : p0 ∧ p1 ∧ p2 ∧ p3 ∧ p4 ∧ p5 ∧ p6 ∧ p7 ∧ p8 ∧ p9 ∧ q) : q := h.2.2.2.2.2.2.2.2.2.2
theorem cl10 {p0 p1 p2 p3 p4 p5 p6 p7 p8 p9 a q : Prop} (h : p0 ∧ p1 ∧ p2 ∧ p3 ∧ p4 ∧ p5 ∧ p6 ∧ p7 ∧ p8 ∧ p9 ∧ a ∧ q) : a := h.2.2.2.2.2.2.2.2.2.2.1
theorem cr11 {p0 p1 p2 p3 p4 p5 p6 p7 p8 p9 p10 q : Prop} (h : p0 ∧ p1 ∧ p2 ∧ p3 ∧ p4 ∧ p5 ∧ p6 ∧ p7 ∧ p8 ∧ p9 ∧ p10 ∧ q) : q := h.2.2.2.2.2.2.2.2.2.2.2
theorem cl11 {p0 p1 p2 p3 p4 p5 p6 p7 p8 p9 p10 a q : Prop} (h : p0 ∧ p1 ∧ p2 ∧ p3 ∧ p4 ∧ p5 ∧ p6 ∧ p7 ∧ p8 ∧ p9 ∧ p10 ∧ a ∧ q) : a := h.2.2.2.2.2.2.2.2.2.2.2.1
theorem cr12 {p0 p1 p2 p3 p4 p5 p6 p7 p8 p9 p10 p11 q : Prop} (h : p0 ∧ p1 ∧ p2 ∧ p3 ∧ p4 ∧ p5 ∧ p6 ∧ p7 ∧ p8 ∧ p9 ∧ p10 ∧ p11 ∧ q) : q := h.2.2.2.2.2.2.2.2.2.2.2.2
theorem cl12 {p0 p1 p2 p3 p4 p5 p6 p7 p8 p9 p10 p11 a q : Prop} (h : p0 ∧ p1 ∧ p2 ∧ p3 ∧ p4 ∧ p5 ∧ p6 ∧ p7 ∧ p8 ∧ p9 ∧ p10 ∧ p11 ∧ a ∧ q) : a := h.2.2.2.2.2.2.2.2.2.2.2.2.1
theorem cr13 {p0 p1 p2 p3 p4 p5 p6 p7 p8 p9 p10 p11 p12 q : Prop} (h : p0 ∧ p1 ∧ p2 ∧ p3 ∧ p4 ∧ p5 ∧ p6 ∧ p7 ∧ p8 ∧ p9 ∧ p10 ∧ p11 ∧ p12 ∧ q) : q := h.2.2.2.2.2.2.2.2.2.2.2.2.2
theorem cl13 {p0 p1 p2 p3 p4 p5 p6 p7 p8 p9 p10 p11 p12 a q : Prop} (h : p0 ∧ p1 ∧ p2 ∧ p3 ∧ p4 ∧ p5 ∧ p6 ∧ p7 ∧ p8 ∧ p9 ∧ p10 ∧ p11 ∧ p12 ∧ a ∧ q) : a := h.2.2.2.2.2.2.2.2.2.2.2.2.2.1
theorem cr14 {p0 p1 p2 p3 p4 p5 p6 p7 p8 p9 p10 p11 p12 p13 q : Prop} (h : p0 ∧ p1 ∧ p2 ∧ p3 ∧ p4 ∧ p5 ∧ p6 ∧ p7 ∧ p8 ∧ p9 ∧ p10 ∧ p11 ∧ p12 ∧ p13 ∧ q) : q := h.2.2.2.2.2.2.2.2.2.2.2.2.2.2
theorem cl14 {p0 p1 p2 p3 p4 p5 p6 p7 p8 p9 p10 p11 p12 p13 a q : Prop} (h : p0 ∧ p1 ∧ p2 ∧ p3 ∧ p4 ∧ p5 ∧ p6 ∧ p7 ∧ p8 ∧ p9 ∧ p10 ∧ p11 ∧ p12 ∧ p13 ∧ a ∧ q) : a := h.2.2.2.2.2.2.2.2.2.2.2.2.2.2.1
theorem cr15 {p0 p1 p2 p3 p4 p5 p6 p7 p8 p9 p10 p11 p12 p13 p14 q : Prop} (h : p0 ∧ p1 ∧ p2 ∧ p3 ∧ p4 ∧ p5 ∧ p6 ∧ p7 ∧ p8 ∧ p9 ∧ p10 ∧ p11 ∧ p12 ∧ p13 ∧ p14 ∧ q) : q := h.2.2.2.2.2.2.2.2.2.2.2.2.2.2.2
theorem cl15 {p0 p1 p2 p3 p4 p5 p6 p7 p8 p9 p10 p11 p12 p13 p14 a q : Prop} (h : p0 ∧ p1 ∧ p2 ∧ p3 ∧ p4 ∧ p5 ∧ p6 ∧ p7 ∧ p8 ∧ p9 ∧ p10 ∧ p11 ∧ p12 ∧ p13 ∧ p14 ∧ a ∧ q) : a := h.2.2.2.2.2.2.2.2.2.2.2.2.2.2.2.1
theorem cr16 {p0 p1 p2 p3 p4 p5 p6 p7 p8 p9 p10 p11 p12 p13 p14 p15 q : Prop} (h : p0 ∧ p1 ∧ p2 ∧ p3 ∧ p4 ∧ p5 ∧ p6 ∧ p7 ∧ p8 ∧ p9 ∧ p10 ∧ p11 ∧ p12 ∧ p13 ∧ p14 ∧ p15 ∧ q) : q := h.2.2.2.2.2.2.2.2.2.2.2.2.2.2.2.2
theorem cl16 {p0 p1 p2 p3 p4 p5 p6 p7 p8 p9 p10 p11 p12 p13 p14 p15 a q : Prop} (h : p0 ∧ p1 ∧ p2 ∧ p3 ∧ p4 ∧ p5 ∧ p6 ∧ p7 ∧ p8 ∧ p9 ∧ p10 ∧ p11 ∧ p12 ∧ p13 ∧ p14 ∧ p15 ∧ a ∧ q) : a := h.2.2.2.2.2.2.2.2.2.2.2.2.2.2.2.2.1
theorem cr17 {p0 p1 p2 p3 p4 p5 p6 p7 p8 p9 p10 p11 p12 p13 p14 p15 p16 q : Prop} (h : p0 ∧ p1 ∧ p2 ∧ p3 ∧ p4 ∧ p5 ∧ p6 ∧ p7 ∧ p8 ∧ p9 ∧ p10 ∧ p11 ∧ p12 ∧ p13 ∧ p14 ∧ p15 ∧ p16 ∧ q) : q := h.2.2.2.2.2.2.2.2.2.2.2.2.2.2.2.2.2
theorem cl17 {p0 p1 p2 p3 p4 p5 p6 p7 p8 p9 p10 p11 p12 p13 p14 p15 p16 a q : Prop} (h : p0 ∧ p1 ∧ p2 ∧ p3 ∧ p4 ∧ p5 ∧ p6 ∧ p7 ∧ p8 ∧ p9 ∧ p10 ∧ p11 ∧ p12 ∧ p13 ∧ p14 ∧ p15 ∧ p16 ∧ a ∧ q) : a := h.2.2.2.2.2.2.2.2.2.2.2.2.2.2.2.2.2.1
theorem cr18 {p0 p1 p2 p3 p4 p5 p6 p7 p8 p9 p10 p11 p12 p13 p14 p15 p16 p17 q : Prop} (h : p0 ∧ p1 ∧ p2 ∧ p3 ∧ p4 ∧ p5 ∧ p6 ∧ p7 ∧ p8 ∧ p9 ∧ p10 ∧ p11 ∧ p12 ∧ p13 ∧ p14 ∧ p15 ∧ p16 ∧ p17 ∧ q) : q := h.2.2.2.2.2.2.2.2.2.2.2.2.2.2.2.2.2.2
theorem cl18 {p0 p1 p2 p3 p4 p5 p6 p7 p8 p9 p10 p11 p12 p13 p14 p15 p16 p17 a q : Prop} (h : p0 ∧ p1 ∧ p2 ∧ p3 ∧ p4 ∧ p5 ∧ p6 ∧ p7 ∧ p8 ∧ p9 ∧ p10 ∧ p11 ∧ p12 ∧ p13 ∧ p14 ∧ p15 ∧ p16 ∧ p17 ∧ a ∧ q) : a := h.2.2.2.2.2.2.2.2.2.2.2.2.2.2.2.2.2.2.1
theorem cr19 {p0 p1 p2 p3 p4 p5 p6 p7 p8 p9 p10 p11 p12 p13 p14 p15 p16 p17 p18 q : Prop} (h : p0 ∧ p1 ∧ p2 ∧ p3 ∧ p4 ∧ p5 ∧ p6 ∧ p7 ∧ p8 ∧ p9 ∧ p10 ∧ p11 ∧ p12 ∧ p13 ∧ p14 ∧ p15 ∧ p16 ∧ p17 ∧ p18 ∧ q) : q := h.2.2.2.2.2.2.2.2.2.2.2.2.2.2.2.2.2.2.2
theorem cl19 {p0 p1 p2 p3 p4 p5 p6 p7 p8 p9 p10 p11 p12 p13 p14 p15 p16 p17 p18 a q : Prop} (h : p0 ∧ p1 ∧ p2 ∧ p3 ∧ p4 ∧ p5 ∧ p6 ∧ p7 ∧ p8 ∧ p9 ∧ p10 ∧ p11 ∧ p12 ∧ p13 ∧ p14 ∧ p15 ∧ p16 ∧ p17 ∧ p18 ∧ a ∧ q) : a := h.2.2.2.2.2.2.2.2.2.2.2.2.2.2.2.2.2.2.2.1
theorem cr20 {p0 p1 p2 p3 p4 p5 p6 p7 p8 p9 p10 p11 p12 p13 p14 p15 p16 p17 p18 p19 q : Prop} (h : p0 ∧ p1 ∧ p2 ∧ p3 ∧ p4 ∧ p5 ∧ p6 ∧ p7 ∧ p8 ∧ p9 ∧ p10 ∧ p11 ∧ p12 ∧ p13 ∧ p14 ∧ p15 ∧ p16 ∧ p17 ∧ p18 ∧ p19 ∧ q) : q := h.2.2.2.2.2.2.2.2.2.2.2.2.2.2.2.2.2.2.2.2
theorem cl20 {p0 p1 p2 p3 p4 p5 p6 p7 p8 p9 p10 p11 p12 p13 p14 p15 p16 p17 p18 p19 a q : Prop} (h : p0 ∧ p1 ∧ p2 ∧ p3 ∧ p4 ∧ p5 ∧ p6 ∧ p7 ∧ p8 ∧ p9 ∧ p10 ∧ p11 ∧ p12 ∧ p13 ∧ p14 ∧ p15 ∧ p16 ∧ p17 ∧ p18 ∧ p19 ∧ a ∧ q) : a := h.2.2.2.2.2.2.2.2.2.2.2.2.2.2.2.2.2.2.2.2.1
theorem cr21 {p0 p1 p2 p3 p4 p5 p6 p7 p8 p9 p10 p11 p12 p13 p14 p15 p16 p17 p18 p19 p20 q : Prop} (h : p0 ∧ p1 ∧ p2 ∧ p3 ∧ p4 ∧ p5 ∧ p6 ∧ p7 ∧ p8 ∧ p9 ∧ p10 ∧ p11 ∧ p12 ∧ p13 ∧ p14 ∧ p15 ∧ p16 ∧ p17 ∧ p18 ∧ p19 ∧ p20 ∧ q) : q := h.2.2.2.2.2.2.2.2.2.2.2.2.2.2.2.2.2.2.2.2.2
theorem cl21 {p0 p1 p2 p3 p4 p5 p6 p7 p8 p9 p10 p11 p12 p13 p14 p15 p16 p17 p18 p19 p20 a q : Prop} (h : p0 ∧ p1 ∧ p2 ∧ p3 ∧ p4 ∧ p5 ∧ p6 ∧ p7 ∧ p8 ∧ p9 ∧ p10 ∧ p11 ∧ p12 ∧ p13 ∧ p14 ∧ p15 ∧ p16 ∧ p17 ∧ p18 ∧ p19 ∧ p20 ∧ a ∧ q) : a := h.2.2.2.2.2.2.2.2.2.2.2.2.2.2.2.2.2.2.2.2.2.1
theorem cr22 {p0 p1 p2 p3 p4 p5 p6 p7 p8 p9 p10 p11 p12 p13 p14 p15 p16 p17 p18 p19 p20 p21 q : Prop} (h : p0 ∧ p1 ∧ p2 ∧ p3 ∧ p4 ∧ p5 ∧ p6 ∧ p7 ∧ p8 ∧ p9 ∧ p10 ∧ p11 ∧ p12 ∧ p13 ∧ p14 ∧ p15 ∧ p16 ∧ p17 ∧ p18 ∧ p19 ∧ p20 ∧ p21 ∧ q) : q := h.2.2.2.2.2.2.2.2.2.2.2.2.2.2.2.2.2.2.2.2.2.2
theorem cl22 {p0 p1 p2 p3 p4 p5 p6 p7 p8 p9 p10 p11 p12 p13 p14 p15 p16 p17 p18 p19 p20 p21 a q : Prop} (h : p0 ∧ p1 ∧ p2 ∧ p3 ∧ p4 ∧ p5 ∧ p6 ∧ p7 ∧ p8 ∧ p9 ∧ p10 ∧ p11 ∧ p12 ∧ p13 ∧ p14 ∧ p15 ∧ p16 ∧ p17 ∧ p18 ∧ p19 ∧ p20 ∧ p21 ∧ a ∧ q) : a := h.2.2.2.2.2.2.2.2.2.2.2.2.2.2.2.2.2.2.2.2.2.2.1
theorem cu1 {a0 q G : Prop} (k : a0 → q → G) (h : a0 ∧ q) : G := k h.1 h.2
theorem cu2 {a0 a1 q G : Prop} (k : a0 → a1 → q → G) (h : a0 ∧ a1 ∧ q) : G := k h.1 h.2.1 h.2.2
theorem cu4 {a0 a1 a2 a3 q G : Prop} (k : a0 → a1 → a2 → a3 → q → G) (h : a0 ∧ a1 ∧ a2 ∧ a3 ∧ q) : G := k h.1 h.2.1 h.2.2.1 h.2.2.2.1 h.2.2.2.2
theorem cu8 {a0 a1 a2 a3 a4 a5 a6 a7 q G : Prop} (k : a0 → a1 → a2 → a3 → a4 → a5 → a6 → a7 → q → G) (h : a0 ∧ a1 ∧ a2 ∧ a3 ∧ a4 ∧ a5 ∧ a6 ∧ a7 ∧ q) : G := k h.1 h.2.1 h.2.2.1 h.2.2.2.1 h.2.2.2.2.1 h.2.2.2.2.2.1 h.2.2.2.2.2.2.1 h.2.2.2.2.2.2.2.1 h.2.2.2.2.2.2.2.2
theorem lt6 : ∀ i, i < 6 → i = 0 ∨ i = 1 ∨ i = 2 ∨ i = 3 ∨ i = 4 ∨ i = 5 := by decide
theorem lt3 : ∀ i, i < 3 → i = 0 ∨ i = 1 ∨ i = 2 := by decide
theorem i3k : ∀ n : Nat, n < 3 → (n : Int) = 0 ∨ (n : Int) = 1 ∨ (n : Int) = 2 := by decide
theorem i3 {k : Int} (h : 0 ≤ k ∧ k ≤ 2) : k = 0 ∨ k = 1 ∨ k = 2 := by
 obtain ⟨n, rfl⟩ := Int.eq_ofNat_of_zero_le h.1
 exact i3k n (Int.ofNat_lt.mp (Int.lt_of_le_of_lt h.2 (by decide : (2 : Int) < ((3 : Nat) : Int))))
theorem i7k : ∀ n : Nat, n < 8 → 1 ≤ n → (n : Int) = 1 ∨ (n : Int) = 2 ∨ (n : Int) = 3 ∨ (n : Int) = 4 ∨ (n : Int) = 5 ∨ (n : Int) = 6 ∨ (n : Int) = 7 := by decide
theorem i7 {k : Int} (h : 1 ≤ k ∧ k ≤ 7) : k = 1 ∨ k = 2 ∨ k = 3 ∨ k = 4 ∨ k = 5 ∨ k = 6 ∨ k = 7 := by
 obtain ⟨n, rfl⟩ := Int.eq_ofNat_of_zero_le (Int.le_trans (by decide) h.1)
 exact i7k n (Int.ofNat_lt.mp (Int.lt_of_le_of_lt h.2 (by decide : (7 : Int) < ((8 : Nat) : Int)))) (Int.ofNat_le.mp h.1)
theorem m8k : ∀ n : Nat, n < 8 → (n : Int) ∈ [(0 : Int), 1, 2, 3, 4, 5, 6, 7] := by decide
theorem m8 {k : Int} (h : 0 ≤ k ∧ k ≤ 7) : k ∈ [(0 : Int), 1, 2, 3, 4, 5, 6, 7] := by
 obtain ⟨n, rfl⟩ := Int.eq_ofNat_of_zero_le h.1
 exact m8k n (Int.ofNat_lt.mp (Int.lt_of_le_of_lt h.2 (by decide : (7 : Int) < ((8 : Nat) : Int))))
theorem m7 {k : Int} (h : 1 ≤ k ∧ k ≤ 7) : k ∈ [(1 : Int), 2, 3, 4, 5, 6, 7] := by
 rcases i7 h with rfl | rfl | rfl | rfl | rfl | rfl | rfl <;> decide
theorem m4k : ∀ n : Nat, n < 4 → (n : Int) ∈ [(0 : Int), 1, 2, 3] := by decide
theorem m4 {k : Int} (h : 0 ≤ k ∧ k ≤ 3) : k ∈ [(0 : Int), 1, 2, 3] := by
 obtain ⟨n, rfl⟩ := Int.eq_ofNat_of_zero_le h.1
 exact m4k n (Int.ofNat_lt.mp (Int.lt_of_le_of_lt h.2 (by decide : (3 : Int) < ((4 : Nat) : Int))))
theorem m38k : ∀ n : Nat, n < 9 → 3 ≤ n → (n : Int) ∈ [(3 : Int), 4, 5, 6, 7, 8] := by decide
theorem m38 {k : Int} (h : 3 ≤ k ∧ k ≤ 8) : k ∈ [(3 : Int), 4, 5, 6, 7, 8] := by
 obtain ⟨n, rfl⟩ := Int.eq_ofNat_of_zero_le (Int.le_trans (by decide) h.1)
 exact m38k n (Int.ofNat_lt.mp (Int.lt_of_le_of_lt h.2 (by decide : (8 : Int) < ((9 : Nat) : Int)))) (Int.ofNat_le.mp h.1)
theorem i3l {k : Int} (h : 0 ≤ k ∧ k ≤ 2) : k.toNat = 0 ∨ k.toNat = 1 ∨ k.toNat = 2 := by rcases i3 h with rfl | rfl | rfl <;> decide
theorem i7l {k : Int} (h : 1 ≤ k ∧ k ≤ 7) : k.toNat = 1 ∨ k.toNat = 2 ∨ k.toNat = 3 ∨ k.toNat = 4 ∨ k.toNat = 5 ∨ k.toNat = 6 ∨ k.toNat = 7 := by rcases i7 h with rfl | rfl | rfl | rfl | rfl | rfl | rfl <;> decide
end Mine
end
open Mine
local macro_rules | `(tactic| tb_rel) => `(tactic| (with_reducible first | assumption | exact Ne.symm (by assumption) | decide | exact Nat.ne_of_lt (by assumption) | exact Nat.ne_of_gt (by assumption) | exact Nat.succ_ne_self _ | exact Ne.symm (Nat.succ_ne_self _) | exact nq1 (by assumption) | exact nqs1 (by assumption) | exact nq2 (by assumption) | exact nqs2 (by assumption) | exact nq3 (by assumption) | exact nqs3 (by assumption) | exact nz12 | exact nz13 | exact nz02 | exact Ne.symm nz12 | exact Ne.symm nz13 | exact Ne.symm nz02))
local macro_rules | `(tactic| kaf_suf) => `(tactic| first | (with_reducible assumption) | ((with_reducible refine And.intro ?_ ?_) <;> omega) | ((with_reducible show @Ne Nat _ _); first | tb_rel | ((repeat ((first | (with_reducible rename ((_ : Nat) < _ ∧ _) => h9) | (with_reducible rename (@Ne Nat _ _ ∧ _) => h9)); (haveI hx9 := And.left h9); (haveI hy9 := And.right h9); (clear h9))); tb_rel)) | ((with_reducible show _ < _); first | exact rm1 (by with_reducible assumption) (by exact rfl) | exact rm2 (by with_reducible assumption) (by exact rfl) | exact rm0 (by with_reducible assumption) | exact rm3 (by with_reducible assumption) (by exact rfl) | decide | exact ult (by with_reducible assumption) (by decide) | exact uls (by with_reducible assumption) (by decide) | exact llt (by with_reducible assumption) (by decide) | exact lls (by with_reducible assumption) (by decide) | exact ultr (by with_reducible assumption) (by decide) | exact ulsr (by with_reducible assumption) (by decide) | exact lltl (by with_reducible assumption) (by decide) | exact llsl (by with_reducible assumption) (by decide)) | ((with_reducible show _ ≤ _); first | decide | exact ule (by with_reducible assumption) (by decide) | exact ulf (by with_reducible assumption) (by decide) | exact lle (by with_reducible assumption) (by decide) | exact llf (by with_reducible assumption) (by decide) | exact uler (by with_reducible assumption) (by decide) | exact ulfr (by with_reducible assumption) (by decide) | exact llel (by with_reducible assumption) (by decide) | exact llfl (by with_reducible assumption) (by decide)))
local macro_rules | `(tactic| omega) => `(tactic| kaf_suf)
local macro_rules | `(tactic| kaf_pre) => `(tactic| first | kaf_suf | lia | omega)
section
open PySem PySem.W
namespace Mine
def dG {A : Type} (a : A) : A := a
structure HkMark : Prop where
noncomputable def pj0 {A0 B : Type} (t : A0 × B) : A0 := t.1
noncomputable def pj1 {A0 A1 B : Type} (t : A0 × A1 × B) : A1 := t.2.1
noncomputable def lj1 {A0 B : Type} (t : A0 × B) : B := t.2
noncomputable def pj2 {A0 A1 A2 B : Type} (t : A0 × A1 × A2 × B) : A2 := t.2.2.1
noncomputable def lj2 {A0 A1 B : Type} (t : A0 × A1 × B) : B := t.2.2
noncomputable def pj3 {A0 A1 A2 A3 B : Type} (t : A0 × A1 × A2 × A3 × B) : A3 := t.2.2.2.1
noncomputable def lj3 {A0 A1 A2 B : Type} (t : A0 × A1 × A2 × B) : B := t.2.2.2
noncomputable def s4 {A0 A1 A2 A3 B : Type} (t : A0 × A1 × A2 × A3 × B) : B := t.2.2.2.2
theorem wne : Nonempty World := ⟨⟨fun _ _ => 0, { strHash := fun _ => 0, shareClass := fun _ => 0, mergeTok := fun t => t, idOf := fun _ => 0, idOfShared := fun _ _ => 0, followText := fun _ => true, idOfImm := fun _ => 0 }⟩⟩
theorem sne : Nonempty Shared := ⟨{}⟩
theorem ane : Nonempty PySem.Around := ⟨{}⟩
noncomputable def hkT1 {A0 : Type} {I : Nonempty (A0)} (P : A0 → Prop) : A0 := @Classical.epsilon (A0) I fun t => ¬ P t
theorem hk1 {A0 : Type} {P : A0 → Prop} (I : Nonempty (A0) := by keq_rows) (h : P (hkT1 (I := I) P)) : ∀ a0, P a0 :=
 fun a0 => Classical.byContradiction fun n => @Classical.epsilon_spec (A0) (fun t => ¬ P t) ⟨a0, n⟩ h
noncomputable def hkT2 {A0 A1 : Type} {I : Nonempty (A0 × A1)} (P : A0 → A1 → Prop) : A0 × A1 := @Classical.epsilon (A0 × A1) I fun t => ¬ P (pj0 t) (lj1 t)
theorem hk2 {A0 A1 : Type} {P : A0 → A1 → Prop} (I : Nonempty (A0 × A1) := by keq_rows) (h : P (pj0 (hkT2 (I := I) P)) (lj1 (hkT2 (I := I) P))) : ∀ a0 a1, P a0 a1 :=
 fun a0 a1 => Classical.byContradiction fun n => @Classical.epsilon_spec (A0 × A1) (fun t => ¬ P (pj0 t) (lj1 t)) ⟨(a0, a1), n⟩ h
noncomputable def hkT3 {A0 A1 A2 : Type} {I : Nonempty (A0 × A1 × A2)} (P : A0 → A1 → A2 → Prop) : A0 × A1 × A2 := @Classical.epsilon (A0 × A1 × A2) I fun t => ¬ P (pj0 t) (pj1 t) (lj2 t)
theorem hk3 {A0 A1 A2 : Type} {P : A0 → A1 → A2 → Prop} (I : Nonempty (A0 × A1 × A2) := by keq_rows) (h : P (pj0 (hkT3 (I := I) P)) (pj1 (hkT3 (I := I) P)) (lj2 (hkT3 (I := I) P))) : ∀ a0 a1 a2, P a0 a1 a2 :=
 fun a0 a1 a2 => Classical.byContradiction fun n => @Classical.epsilon_spec (A0 × A1 × A2) (fun t => ¬ P (pj0 t) (pj1 t) (lj2 t)) ⟨(a0, a1, a2), n⟩ h
noncomputable def hkT4 {A0 A1 A2 A3 : Type} {I : Nonempty (A0 × A1 × A2 × A3)} (P : A0 → A1 → A2 → A3 → Prop) : A0 × A1 × A2 × A3 := @Classical.epsilon (A0 × A1 × A2 × A3) I fun t => ¬ P (pj0 t) (pj1 t) (pj2 t) (lj3 t)
theorem hk4 {A0 A1 A2 A3 : Type} {P : A0 → A1 → A2 → A3 → Prop} (I : Nonempty (A0 × A1 × A2 × A3) := by keq_rows) (h : P (pj0 (hkT4 (I := I) P)) (pj1 (hkT4 (I := I) P)) (pj2 (hkT4 (I := I) P)) (lj3 (hkT4 (I := I) P))) : ∀ a0 a1 a2 a3, P a0 a1 a2 a3 :=
 fun a0 a1 a2 a3 => Classical.byContradiction fun n => @Classical.epsilon_spec (A0 × A1 × A2 × A3) (fun t => ¬ P (pj0 t) (pj1 t) (pj2 t) (lj3 t)) ⟨(a0, a1, a2, a3), n⟩ h
noncomputable def hkT5 {A0 A1 A2 A3 A4 : Type} {I : Nonempty (A0 × A1 × A2 × A3 × A4)} (P : A0 → A1 → A2 → A3 → A4 → Prop) : A0 × A1 × A2 × A3 × A4 := @Classical.epsilon (A0 × A1 × A2 × A3 × A4) I fun t => ¬ P (pj0 t) (pj1 t) (pj2 t) (pj3 t) ((s4 t))
theorem hk5 {A0 A1 A2 A3 A4 : Type} {P : A0 → A1 → A2 → A3 → A4 → Prop} (I : Nonempty (A0 × A1 × A2 × A3 × A4) := by keq_rows) (h : P (pj0 (hkT5 (I := I) P)) (pj1 (hkT5 (I := I) P)) (pj2 (hkT5 (I := I) P)) (pj3 (hkT5 (I := I) P)) ((s4 (hkT5 (I := I) P)))) : ∀ a0 a1 a2 a3 a4, P a0 a1 a2 a3 a4 :=
 fun a0 a1 a2 a3 a4 => Classical.byContradiction fun n => @Classical.epsilon_spec (A0 × A1 × A2 × A3 × A4) (fun t => ¬ P (pj0 t) (pj1 t) (pj2 t) (pj3 t) ((s4 t))) ⟨(a0, a1, a2, a3, a4), n⟩ h
noncomputable def hkT6 {A0 A1 A2 A3 A4 A5 : Type} {I : Nonempty (A0 × A1 × A2 × A3 × A4 × A5)} (P : A0 → A1 → A2 → A3 → A4 → A5 → Prop) : A0 × A1 × A2 × A3 × A4 × A5 := @Classical.epsilon (A0 × A1 × A2 × A3 × A4 × A5) I fun t => ¬ P (pj0 t) (pj1 t) (pj2 t) (pj3 t) (pj0 (s4 t)) (lj1 (s4 t))
theorem hk6 {A0 A1 A2 A3 A4 A5 : Type} {P : A0 → A1 → A2 → A3 → A4 → A5 → Prop} (I : Nonempty (A0 × A1 × A2 × A3 × A4 × A5) := by keq_rows) (h : P (pj0 (hkT6 (I := I) P)) (pj1 (hkT6 (I := I) P)) (pj2 (hkT6 (I := I) P)) (pj3 (hkT6 (I := I) P)) (pj0 (s4 (hkT6 (I := I) P))) (lj1 (s4 (hkT6 (I := I) P)))) : ∀ a0 a1 a2 a3 a4 a5, P a0 a1 a2 a3 a4 a5 :=
 fun a0 a1 a2 a3 a4 a5 => Classical.byContradiction fun n => @Classical.epsilon_spec (A0 × A1 × A2 × A3 × A4 × A5) (fun t => ¬ P (pj0 t) (pj1 t) (pj2 t) (pj3 t) (pj0 (s4 t)) (lj1 (s4 t))) ⟨(a0, a1, a2, a3, a4, a5), n⟩ h
noncomputable def hkT7 {A0 A1 A2 A3 A4 A5 A6 : Type} {I : Nonempty (A0 × A1 × A2 × A3 × A4 × A5 × A6)} (P : A0 → A1 → A2 → A3 → A4 → A5 → A6 → Prop) : A0 × A1 × A2 × A3 × A4 × A5 × A6 := @Classical.epsilon (A0 × A1 × A2 × A3 × A4 × A5 × A6) I fun t => ¬ P (pj0 t) (pj1 t) (pj2 t) (pj3 t) (pj0 (s4 t)) (pj1 (s4 t)) (lj2 (s4 t))
theorem hk7 {A0 A1 A2 A3 A4 A5 A6 : Type} {P : A0 → A1 → A2 → A3 → A4 → A5 → A6 → Prop} (I : Nonempty (A0 × A1 × A2 × A3 × A4 × A5 × A6) := by keq_rows) (h : P (pj0 (hkT7 (I := I) P)) (pj1 (hkT7 (I := I) P)) (pj2 (hkT7 (I := I) P)) (pj3 (hkT7 (I := I) P)) (pj0 (s4 (hkT7 (I := I) P))) (pj1 (s4 (hkT7 (I := I) P))) (lj2 (s4 (hkT7 (I := I) P)))) : ∀ a0 a1 a2 a3 a4 a5 a6, P a0 a1 a2 a3 a4 a5 a6 :=
 fun a0 a1 a2 a3 a4 a5 a6 => Classical.byContradiction fun n => @Classical.epsilon_spec (A0 × A1 × A2 × A3 × A4 × A5 × A6) (fun t => ¬ P (pj0 t) (pj1 t) (pj2 t) (pj3 t) (pj0 (s4 t)) (pj1 (s4 t)) (lj2 (s4 t))) ⟨(a0, a1, a2, a3, a4, a5, a6), n⟩ h
noncomputable def hkT8 {A0 A1 A2 A3 A4 A5 A6 A7 : Type} {I : Nonempty (A0 × A1 × A2 × A3 × A4 × A5 × A6 × A7)} (P : A0 → A1 → A2 → A3 → A4 → A5 → A6 → A7 → Prop) : A0 × A1 × A2 × A3 × A4 × A5 × A6 × A7 := @Classical.epsilon (A0 × A1 × A2 × A3 × A4 × A5 × A6 × A7) I fun t => ¬ P (pj0 t) (pj1 t) (pj2 t) (pj3 t) (pj0 (s4 t)) (pj1 (s4 t)) (pj2 (s4 t)) (lj3 (s4 t))
theorem hk8 {A0 A1 A2 A3 A4 A5 A6 A7 : Type} {P : A0 → A1 → A2 → A3 → A4 → A5 → A6 → A7 → Prop} (I : Nonempty (A0 × A1 × A2 × A3 × A4 × A5 × A6 × A7) := by keq_rows) (h : P (pj0 (hkT8 (I := I) P)) (pj1 (hkT8 (I := I) P)) (pj2 (hkT8 (I := I) P)) (pj3 (hkT8 (I := I) P)) (pj0 (s4 (hkT8 (I := I) P))) (pj1 (s4 (hkT8 (I := I) P))) (pj2 (s4 (hkT8 (I := I) P))) (lj3 (s4 (hkT8 (I := I) P)))) : ∀ a0 a1 a2 a3 a4 a5 a6 a7, P a0 a1 a2 a3 a4 a5 a6 a7 :=
 fun a0 a1 a2 a3 a4 a5 a6 a7 => Classical.byContradiction fun n => @Classical.epsilon_spec (A0 × A1 × A2 × A3 × A4 × A5 × A6 × A7) (fun t => ¬ P (pj0 t) (pj1 t) (pj2 t) (pj3 t) (pj0 (s4 t)) (pj1 (s4 t)) (pj2 (s4 t)) (lj3 (s4 t))) ⟨(a0, a1, a2, a3, a4, a5, a6, a7), n⟩ h
noncomputable def hkT9 {A0 A1 A2 A3 A4 A5 A6 A7 A8 : Type} {I : Nonempty (A0 × A1 × A2 × A3 × A4 × A5 × A6 × A7 × A8)} (P : A0 → A1 → A2 → A3 → A4 → A5 → A6 → A7 → A8 → Prop) : A0 × A1 × A2 × A3 × A4 × A5 × A6 × A7 × A8 := @Classical.epsilon (A0 × A1 × A2 × A3 × A4 × A5 × A6 × A7 × A8) I fun t => ¬ P (pj0 t) (pj1 t) (pj2 t) (pj3 t) (pj0 (s4 t)) (pj1 (s4 t)) (pj2 (s4 t)) (pj3 (s4 t)) ((s4 (s4 t)))
theorem hk9 {A0 A1 A2 A3 A4 A5 A6 A7 A8 : Type} {P : A0 → A1 → A2 → A3 → A4 → A5 → A6 → A7 → A8 → Prop} (I : Nonempty (A0 × A1 × A2 × A3 × A4 × A5 × A6 × A7 × A8) := by keq_rows) (h : P (pj0 (hkT9 (I := I) P)) (pj1 (hkT9 (I := I) P)) (pj2 (hkT9 (I := I) P)) (pj3 (hkT9 (I := I) P)) (pj0 (s4 (hkT9 (I := I) P))) (pj1 (s4 (hkT9 (I := I) P))) (pj2 (s4 (hkT9 (I := I) P))) (pj3 (s4 (hkT9 (I := I) P))) ((s4 (s4 (hkT9 (I := I) P))))) : ∀ a0 a1 a2 a3 a4 a5 a6 a7 a8, P a0 a1 a2 a3 a4 a5 a6 a7 a8 :=
 fun a0 a1 a2 a3 a4 a5 a6 a7 a8 => Classical.byContradiction fun n => @Classical.epsilon_spec (A0 × A1 × A2 × A3 × A4 × A5 × A6 × A7 × A8) (fun t => ¬ P (pj0 t) (pj1 t) (pj2 t) (pj3 t) (pj0 (s4 t)) (pj1 (s4 t)) (pj2 (s4 t)) (pj3 (s4 t)) ((s4 (s4 t)))) ⟨(a0, a1, a2, a3, a4, a5, a6, a7, a8), n⟩ h
noncomputable def hkT10 {A0 A1 A2 A3 A4 A5 A6 A7 A8 A9 : Type} {I : Nonempty (A0 × A1 × A2 × A3 × A4 × A5 × A6 × A7 × A8 × A9)} (P : A0 → A1 → A2 → A3 → A4 → A5 → A6 → A7 → A8 → A9 → Prop) : A0 × A1 × A2 × A3 × A4 × A5 × A6 × A7 × A8 × A9 := @Classical.epsilon (A0 × A1 × A2 × A3 × A4 × A5 × A6 × A7 × A8 × A9) I fun t => ¬ P (pj0 t) (pj1 t) (pj2 t) (pj3 t) (pj0 (s4 t)) (pj1 (s4 t)) (pj2 (s4 t)) (pj3 (s4 t)) (pj0 (s4 (s4 t))) (lj1 (s4 (s4 t)))
theorem hk10 {A0 A1 A2 A3 A4 A5 A6 A7 A8 A9 : Type} {P : A0 → A1 → A2 → A3 → A4 → A5 → A6 → A7 → A8 → A9 → Prop} (I : Nonempty (A0 × A1 × A2 × A3 × A4 × A5 × A6 × A7 × A8 × A9) := by keq_rows) (h : P (pj0 (hkT10 (I := I) P)) (pj1 (hkT10 (I := I) P)) (pj2 (hkT10 (I := I) P)) (pj3 (hkT10 (I := I) P)) (pj0 (s4 (hkT10 (I := I) P))) (pj1 (s4 (hkT10 (I := I) P))) (pj2 (s4 (hkT10 (I := I) P))) (pj3 (s4 (hkT10 (I := I) P))) (pj0 (s4 (s4 (hkT10 (I := I) P)))) (lj1 (s4 (s4 (hkT10 (I := I) P))))) : ∀ a0 a1 a2 a3 a4 a5 a6 a7 a8 a9, P a0 a1 a2 a3 a4 a5 a6 a7 a8 a9 :=
 fun a0 a1 a2 a3 a4 a5 a6 a7 a8 a9 => Classical.byContradiction fun n => @Classical.epsilon_spec (A0 × A1 × A2 × A3 × A4 × A5 × A6 × A7 × A8 × A9) (fun t => ¬ P (pj0 t) (pj1 t) (pj2 t) (pj3 t) (pj0 (s4 t)) (pj1 (s4 t)) (pj2 (s4 t)) (pj3 (s4 t)) (pj0 (s4 (s4 t))) (lj1 (s4 (s4 t)))) ⟨(a0, a1, a2, a3, a4, a5, a6, a7, a8, a9), n⟩ h
noncomputable def hkT12 {A0 A1 A2 A3 A4 A5 A6 A7 A8 A9 A10 A11 : Type} {I : Nonempty (A0 × A1 × A2 × A3 × A4 × A5 × A6 × A7 × A8 × A9 × A10 × A11)} (P : A0 → A1 → A2 → A3 → A4 → A5 → A6 → A7 → A8 → A9 → A10 → A11 → Prop) : A0 × A1 × A2 × A3 × A4 × A5 × A6 × A7 × A8 × A9 × A10 × A11 := @Classical.epsilon (A0 × A1 × A2 × A3 × A4 × A5 × A6 × A7 × A8 × A9 × A10 × A11) I fun t => ¬ P (pj0 t) (pj1 t) (pj2 t) (pj3 t) (pj0 (s4 t)) (pj1 (s4 t)) (pj2 (s4 t)) (pj3 (s4 t)) (pj0 (s4 (s4 t))) (pj1 (s4 (s4 t))) (pj2 (s4 (s4 t))) (lj3 (s4 (s4 t)))
theorem hk12 {A0 A1 A2 A3 A4 A5 A6 A7 A8 A9 A10 A11 : Type} {P : A0 → A1 → A2 → A3 → A4 → A5 → A6 → A7 → A8 → A9 → A10 → A11 → Prop} (I : Nonempty (A0 × A1 × A2 × A3 × A4 × A5 × A6 × A7 × A8 × A9 × A10 × A11) := by keq_rows) (h : P (pj0 (hkT12 (I := I) P)) (pj1 (hkT12 (I := I) P)) (pj2 (hkT12 (I := I) P)) (pj3 (hkT12 (I := I) P)) (pj0 (s4 (hkT12 (I := I) P))) (pj1 (s4 (hkT12 (I := I) P))) (pj2 (s4 (hkT12 (I := I) P))) (pj3 (s4 (hkT12 (I := I) P))) (pj0 (s4 (s4 (hkT12 (I := I) P)))) (pj1 (s4 (s4 (hkT12 (I := I) P)))) (pj2 (s4 (s4 (hkT12 (I := I) P)))) (lj3 (s4 (s4 (hkT12 (I := I) P))))) : ∀ a0 a1 a2 a3 a4 a5 a6 a7 a8 a9 a10 a11, P a0 a1 a2 a3 a4 a5 a6 a7 a8 a9 a10 a11 :=
 fun a0 a1 a2 a3 a4 a5 a6 a7 a8 a9 a10 a11 => Classical.byContradiction fun n => @Classical.epsilon_spec (A0 × A1 × A2 × A3 × A4 × A5 × A6 × A7 × A8 × A9 × A10 × A11) (fun t => ¬ P (pj0 t) (pj1 t) (pj2 t) (pj3 t) (pj0 (s4 t)) (pj1 (s4 t)) (pj2 (s4 t)) (pj3 (s4 t)) (pj0 (s4 (s4 t))) (pj1 (s4 (s4 t))) (pj2 (s4 (s4 t))) (lj3 (s4 (s4 t)))) ⟨(a0, a1, a2, a3, a4, a5, a6, a7, a8, a9, a10, a11), n⟩ h
noncomputable def hkT14 {A0 A1 A2 A3 A4 A5 A6 A7 A8 A9 A10 A11 A12 A13 : Type} {I : Nonempty (A0 × A1 × A2 × A3 × A4 × A5 × A6 × A7 × A8 × A9 × A10 × A11 × A12 × A13)} (P : A0 → A1 → A2 → A3 → A4 → A5 → A6 → A7 → A8 → A9 → A10 → A11 → A12 → A13 → Prop) : A0 × A1 × A2 × A3 × A4 × A5 × A6 × A7 × A8 × A9 × A10 × A11 × A12 × A13 := @Classical.epsilon (A0 × A1 × A2 × A3 × A4 × A5 × A6 × A7 × A8 × A9 × A10 × A11 × A12 × A13) I fun t => ¬ P (pj0 t) (pj1 t) (pj2 t) (pj3 t) (pj0 (s4 t)) (pj1 (s4 t)) (pj2 (s4 t)) (pj3 (s4 t)) (pj0 (s4 (s4 t))) (pj1 (s4 (s4 t))) (pj2 (s4 (s4 t))) (pj3 (s4 (s4 t))) (pj0 (s4 (s4 (s4 t)))) (lj1 (s4 (s4 (s4 t))))
theorem hk14 {A0 A1 A2 A3 A4 A5 A6 A7 A8 A9 A10 A11 A12 A13 : Type} {P : A0 → A1 → A2 → A3 → A4 → A5 → A6 → A7 → A8 → A9 → A10 → A11 → A12 → A13 → Prop} (I : Nonempty (A0 × A1 × A2 × A3 × A4 × A5 × A6 × A7 × A8 × A9 × A10 × A11 × A12 × A13) := by keq_rows) (h : P (pj0 (hkT14 (I := I) P)) (pj1 (hkT14 (I := I) P)) (pj2 (hkT14 (I := I) P)) (pj3 (hkT14 (I := I) P)) (pj0 (s4 (hkT14 (I := I) P))) (pj1 (s4 (hkT14 (I := I) P))) (pj2 (s4 (hkT14 (I := I) P))) (pj3 (s4 (hkT14 (I := I) P))) (pj0 (s4 (s4 (hkT14 (I := I) P)))) (pj1 (s4 (s4 (hkT14 (I := I) P)))) (pj2 (s4 (s4 (hkT14 (I := I) P)))) (pj3 (s4 (s4 (hkT14 (I := I) P)))) (pj0 (s4 (s4 (s4 (hkT14 (I := I) P))))) (lj1 (s4 (s4 (s4 (hkT14 (I := I) P)))))) : ∀ a0 a1 a2 a3 a4 a5 a6 a7 a8 a9 a10 a11 a12 a13, P a0 a1 a2 a3 a4 a5 a6 a7 a8 a9 a10 a11 a12 a13 :=
 fun a0 a1 a2 a3 a4 a5 a6 a7 a8 a9 a10 a11 a12 a13 => Classical.byContradiction fun n => @Classical.epsilon_spec (A0 × A1 × A2 × A3 × A4 × A5 × A6 × A7 × A8 × A9 × A10 × A11 × A12 × A13) (fun t => ¬ P (pj0 t) (pj1 t) (pj2 t) (pj3 t) (pj0 (s4 t)) (pj1 (s4 t)) (pj2 (s4 t)) (pj3 (s4 t)) (pj0 (s4 (s4 t))) (pj1 (s4 (s4 t))) (pj2 (s4 (s4 t))) (pj3 (s4 (s4 t))) (pj0 (s4 (s4 (s4 t)))) (lj1 (s4 (s4 (s4 t))))) ⟨(a0, a1, a2, a3, a4, a5, a6, a7, a8, a9, a10, a11, a12, a13), n⟩ h
noncomputable def hkT16 {A0 A1 A2 A3 A4 A5 A6 A7 A8 A9 A10 A11 A12 A13 A14 A15 : Type} {I : Nonempty (A0 × A1 × A2 × A3 × A4 × A5 × A6 × A7 × A8 × A9 × A10 × A11 × A12 × A13 × A14 × A15)} (P : A0 → A1 → A2 → A3 → A4 → A5 → A6 → A7 → A8 → A9 → A10 → A11 → A12 → A13 → A14 → A15 → Prop) : A0 × A1 × A2 × A3 × A4 × A5 × A6 × A7 × A8 × A9 × A10 × A11 × A12 × A13 × A14 × A15 := @Classical.epsilon (A0 × A1 × A2 × A3 × A4 × A5 × A6 × A7 × A8 × A9 × A10 × A11 × A12 × A13 × A14 × A15) I fun t => ¬ P (pj0 t) (pj1 t) (pj2 t) (pj3 t) (pj0 (s4 t)) (pj1 (s4 t)) (pj2 (s4 t)) (pj3 (s4 t)) (pj0 (s4 (s4 t))) (pj1 (s4 (s4 t))) (pj2 (s4 (s4 t))) (pj3 (s4 (s4 t))) (pj0 (s4 (s4 (s4 t)))) (pj1 (s4 (s4 (s4 t)))) (pj2 (s4 (s4 (s4 t)))) (lj3 (s4 (s4 (s4 t))))
theorem hk16 {A0 A1 A2 A3 A4 A5 A6 A7 A8 A9 A10 A11 A12 A13 A14 A15 : Type} {P : A0 → A1 → A2 → A3 → A4 → A5 → A6 → A7 → A8 → A9 → A10 → A11 → A12 → A13 → A14 → A15 → Prop} (I : Nonempty (A0 × A1 × A2 × A3 × A4 × A5 × A6 × A7 × A8 × A9 × A10 × A11 × A12 × A13 × A14 × A15) := by keq_rows) (h : P (pj0 (hkT16 (I := I) P)) (pj1 (hkT16 (I := I) P)) (pj2 (hkT16 (I := I) P)) (pj3 (hkT16 (I := I) P)) (pj0 (s4 (hkT16 (I := I) P))) (pj1 (s4 (hkT16 (I := I) P))) (pj2 (s4 (hkT16 (I := I) P))) (pj3 (s4 (hkT16 (I := I) P))) (pj0 (s4 (s4 (hkT16 (I := I) P)))) (pj1 (s4 (s4 (hkT16 (I := I) P)))) (pj2 (s4 (s4 (hkT16 (I := I) P)))) (pj3 (s4 (s4 (hkT16 (I := I) P)))) (pj0 (s4 (s4 (s4 (hkT16 (I := I) P))))) (pj1 (s4 (s4 (s4 (hkT16 (I := I) P))))) (pj2 (s4 (s4 (s4 (hkT16 (I := I) P))))) (lj3 (s4 (s4 (s4 (hkT16 (I := I) P)))))) : ∀ a0 a1 a2 a3 a4 a5 a6 a7 a8 a9 a10 a11 a12 a13 a14 a15, P a0 a1 a2 a3 a4 a5 a6 a7 a8 a9 a10 a11 a12 a13 a14 a15 :=
 fun a0 a1 a2 a3 a4 a5 a6 a7 a8 a9 a10 a11 a12 a13 a14 a15 => Classical.byContradiction fun n => @Classical.epsilon_spec (A0 × A1 × A2 × A3 × A4 × A5 × A6 × A7 × A8 × A9 × A10 × A11 × A12 × A13 × A14 × A15) (fun t => ¬ P (pj0 t) (pj1 t) (pj2 t) (pj3 t) (pj0 (s4 t)) (pj1 (s4 t)) (pj2 (s4 t)) (pj3 (s4 t)) (pj0 (s4 (s4 t))) (pj1 (s4 (s4 t))) (pj2 (s4 (s4 t))) (pj3 (s4 (s4 t))) (pj0 (s4 (s4 (s4 t)))) (pj1 (s4 (s4 (s4 t)))) (pj2 (s4 (s4 (s4 t)))) (lj3 (s4 (s4 (s4 t))))) ⟨(a0, a1, a2, a3, a4, a5, a6, a7, a8, a9, a10, a11, a12, a13, a14, a15), n⟩ h
noncomputable def hkT17 {A0 A1 A2 A3 A4 A5 A6 A7 A8 A9 A10 A11 A12 A13 A14 A15 A16 : Type} {I : Nonempty (A0 × A1 × A2 × A3 × A4 × A5 × A6 × A7 × A8 × A9 × A10 × A11 × A12 × A13 × A14 × A15 × A16)} (P : A0 → A1 → A2 → A3 → A4 → A5 → A6 → A7 → A8 → A9 → A10 → A11 → A12 → A13 → A14 → A15 → A16 → Prop) : A0 × A1 × A2 × A3 × A4 × A5 × A6 × A7 × A8 × A9 × A10 × A11 × A12 × A13 × A14 × A15 × A16 := @Classical.epsilon (A0 × A1 × A2 × A3 × A4 × A5 × A6 × A7 × A8 × A9 × A10 × A11 × A12 × A13 × A14 × A15 × A16) I fun t => ¬ P (pj0 t) (pj1 t) (pj2 t) (pj3 t) (pj0 (s4 t)) (pj1 (s4 t)) (pj2 (s4 t)) (pj3 (s4 t)) (pj0 (s4 (s4 t))) (pj1 (s4 (s4 t))) (pj2 (s4 (s4 t))) (pj3 (s4 (s4 t))) (pj0 (s4 (s4 (s4 t)))) (pj1 (s4 (s4 (s4 t)))) (pj2 (s4 (s4 (s4 t)))) (pj3 (s4 (s4 (s4 t)))) ((s4 (s4 (s4 (s4 t)))))
theorem hk17 {A0 A1 A2 A3 A4 A5 A6 A7 A8 A9 A10 A11 A12 A13 A14 A15 A16 : Type} {P : A0 → A1 → A2 → A3 → A4 → A5 → A6 → A7 → A8 → A9 → A10 → A11 → A12 → A13 → A14 → A15 → A16 → Prop} (I : Nonempty (A0 × A1 × A2 × A3 × A4 × A5 × A6 × A7 × A8 × A9 × A10 × A11 × A12 × A13 × A14 × A15 × A16) := by keq_rows) (h : P (pj0 (hkT17 (I := I) P)) (pj1 (hkT17 (I := I) P)) (pj2 (hkT17 (I := I) P)) (pj3 (hkT17 (I := I) P)) (pj0 (s4 (hkT17 (I := I) P))) (pj1 (s4 (hkT17 (I := I) P))) (pj2 (s4 (hkT17 (I := I) P))) (pj3 (s4 (hkT17 (I := I) P))) (pj0 (s4 (s4 (hkT17 (I := I) P)))) (pj1 (s4 (s4 (hkT17 (I := I) P)))) (pj2 (s4 (s4 (hkT17 (I := I) P)))) (pj3 (s4 (s4 (hkT17 (I := I) P)))) (pj0 (s4 (s4 (s4 (hkT17 (I := I) P))))) (pj1 (s4 (s4 (s4 (hkT17 (I := I) P))))) (pj2 (s4 (s4 (s4 (hkT17 (I := I) P))))) (pj3 (s4 (s4 (s4 (hkT17 (I := I) P))))) ((s4 (s4 (s4 (s4 (hkT17 (I := I) P))))))) : ∀ a0 a1 a2 a3 a4 a5 a6 a7 a8 a9 a10 a11 a12 a13 a14 a15 a16, P a0 a1 a2 a3 a4 a5 a6 a7 a8 a9 a10 a11 a12 a13 a14 a15 a16 :=
 fun a0 a1 a2 a3 a4 a5 a6 a7 a8 a9 a10 a11 a12 a13 a14 a15 a16 => Classical.byContradiction fun n => @Classical.epsilon_spec (A0 × A1 × A2 × A3 × A4 × A5 × A6 × A7 × A8 × A9 × A10 × A11 × A12 × A13 × A14 × A15 × A16) (fun t => ¬ P (pj0 t) (pj1 t) (pj2 t) (pj3 t) (pj0 (s4 t)) (pj1 (s4 t)) (pj2 (s4 t)) (pj3 (s4 t)) (pj0 (s4 (s4 t))) (pj1 (s4 (s4 t))) (pj2 (s4 (s4 t))) (pj3 (s4 (s4 t))) (pj0 (s4 (s4 (s4 t)))) (pj1 (s4 (s4 (s4 t)))) (pj2 (s4 (s4 (s4 t)))) (pj3 (s4 (s4 (s4 t)))) ((s4 (s4 (s4 (s4 t)))))) ⟨(a0, a1, a2, a3, a4, a5, a6, a7, a8, a9, a10, a11, a12, a13, a14, a15, a16), n⟩ h
noncomputable def hkT18 {A0 A1 A2 A3 A4 A5 A6 A7 A8 A9 A10 A11 A12 A13 A14 A15 A16 A17 : Type} {I : Nonempty (A0 × A1 × A2 × A3 × A4 × A5 × A6 × A7 × A8 × A9 × A10 × A11 × A12 × A13 × A14 × A15 × A16 × A17)} (P : A0 → A1 → A2 → A3 → A4 → A5 → A6 → A7 → A8 → A9 → A10 → A11 → A12 → A13 → A14 → A15 → A16 → A17 → Prop) : A0 × A1 × A2 × A3 × A4 × A5 × A6 × A7 × A8 × A9 × A10 × A11 × A12 × A13 × A14 × A15 × A16 × A17 := @Classical.epsilon (A0 × A1 × A2 × A3 × A4 × A5 × A6 × A7 × A8 × A9 × A10 × A11 × A12 × A13 × A14 × A15 × A16 × A17) I fun t => ¬ P (pj0 t) (pj1 t) (pj2 t) (pj3 t) (pj0 (s4 t)) (pj1 (s4 t)) (pj2 (s4 t)) (pj3 (s4 t)) (pj0 (s4 (s4 t))) (pj1 (s4 (s4 t))) (pj2 (s4 (s4 t))) (pj3 (s4 (s4 t))) (pj0 (s4 (s4 (s4 t)))) (pj1 (s4 (s4 (s4 t)))) (pj2 (s4 (s4 (s4 t)))) (pj3 (s4 (s4 (s4 t)))) (pj0 (s4 (s4 (s4 (s4 t))))) (lj1 (s4 (s4 (s4 (s4 t)))))
theorem hk18 {A0 A1 A2 A3 A4 A5 A6 A7 A8 A9 A10 A11 A12 A13 A14 A15 A16 A17 : Type} {P : A0 → A1 → A2 → A3 → A4 → A5 → A6 → A7 → A8 → A9 → A10 → A11 → A12 → A13 → A14 → A15 → A16 → A17 → Prop} (I : Nonempty (A0 × A1 × A2 × A3 × A4 × A5 × A6 × A7 × A8 × A9 × A10 × A11 × A12 × A13 × A14 × A15 × A16 × A17) := by keq_rows) (h : P (pj0 (hkT18 (I := I) P)) (pj1 (hkT18 (I := I) P)) (pj2 (hkT18 (I := I) P)) (pj3 (hkT18 (I := I) P)) (pj0 (s4 (hkT18 (I := I) P))) (pj1 (s4 (hkT18 (I := I) P))) (pj2 (s4 (hkT18 (I := I) P))) (pj3 (s4 (hkT18 (I := I) P))) (pj0 (s4 (s4 (hkT18 (I := I) P)))) (pj1 (s4 (s4 (hkT18 (I := I) P)))) (pj2 (s4 (s4 (hkT18 (I := I) P)))) (pj3 (s4 (s4 (hkT18 (I := I) P)))) (pj0 (s4 (s4 (s4 (hkT18 (I := I) P))))) (pj1 (s4 (s4 (s4 (hkT18 (I := I) P))))) (pj2 (s4 (s4 (s4 (hkT18 (I := I) P))))) (pj3 (s4 (s4 (s4 (hkT18 (I := I) P))))) (pj0 (s4 (s4 (s4 (s4 (hkT18 (I := I) P)))))) (lj1 (s4 (s4 (s4 (s4 (hkT18 (I := I) P))))))) : ∀ a0 a1 a2 a3 a4 a5 a6 a7 a8 a9 a10 a11 a12 a13 a14 a15 a16 a17, P a0 a1 a2 a3 a4 a5 a6 a7 a8 a9 a10 a11 a12 a13 a14 a15 a16 a17 :=
 fun a0 a1 a2 a3 a4 a5 a6 a7 a8 a9 a10 a11 a12 a13 a14 a15 a16 a17 => Classical.byContradiction fun n => @Classical.epsilon_spec (A0 × A1 × A2 × A3 × A4 × A5 × A6 × A7 × A8 × A9 × A10 × A11 × A12 × A13 × A14 × A15 × A16 × A17) (fun t => ¬ P (pj0 t) (pj1 t) (pj2 t) (pj3 t) (pj0 (s4 t)) (pj1 (s4 t)) (pj2 (s4 t)) (pj3 (s4 t)) (pj0 (s4 (s4 t))) (pj1 (s4 (s4 t))) (pj2 (s4 (s4 t))) (pj3 (s4 (s4 t))) (pj0 (s4 (s4 (s4 t)))) (pj1 (s4 (s4 (s4 t)))) (pj2 (s4 (s4 (s4 t)))) (pj3 (s4 (s4 (s4 t)))) (pj0 (s4 (s4 (s4 (s4 t))))) (lj1 (s4 (s4 (s4 (s4 t)))))) ⟨(a0, a1, a2, a3, a4, a5, a6, a7, a8, a9, a10, a11, a12, a13, a14, a15, a16, a17), n⟩ h
noncomputable def hkT19 {A0 A1 A2 A3 A4 A5 A6 A7 A8 A9 A10 A11 A12 A13 A14 A15 A16 A17 A18 : Type} {I : Nonempty (A0 × A1 × A2 × A3 × A4 × A5 × A6 × A7 × A8 × A9 × A10 × A11 × A12 × A13 × A14 × A15 × A16 × A17 × A18)} (P : A0 → A1 → A2 → A3 → A4 → A5 → A6 → A7 → A8 → A9 → A10 → A11 → A12 → A13 → A14 → A15 → A16 → A17 → A18 → Prop) : A0 × A1 × A2 × A3 × A4 × A5 × A6 × A7 × A8 × A9 × A10 × A11 × A12 × A13 × A14 × A15 × A16 × A17 × A18 := @Classical.epsilon (A0 × A1 × A2 × A3 × A4 × A5 × A6 × A7 × A8 × A9 × A10 × A11 × A12 × A13 × A14 × A15 × A16 × A17 × A18) I fun t => ¬ P (pj0 t) (pj1 t) (pj2 t) (pj3 t) (pj0 (s4 t)) (pj1 (s4 t)) (pj2 (s4 t)) (pj3 (s4 t)) (pj0 (s4 (s4 t))) (pj1 (s4 (s4 t))) (pj2 (s4 (s4 t))) (pj3 (s4 (s4 t))) (pj0 (s4 (s4 (s4 t)))) (pj1 (s4 (s4 (s4 t)))) (pj2 (s4 (s4 (s4 t)))) (pj3 (s4 (s4 (s4 t)))) (pj0 (s4 (s4 (s4 (s4 t))))) (pj1 (s4 (s4 (s4 (s4 t))))) (lj2 (s4 (s4 (s4 (s4 t)))))
theorem hk19 {A0 A1 A2 A3 A4 A5 A6 A7 A8 A9 A10 A11 A12 A13 A14 A15 A16 A17 A18 : Type} {P : A0 → A1 → A2 → A3 → A4 → A5 → A6 → A7 → A8 → A9 → A10 → A11 → A12 → A13 → A14 → A15 → A16 → A17 → A18 → Prop} (I : Nonempty (A0 × A1 × A2 × A3 × A4 × A5 × A6 × A7 × A8 × A9 × A10 × A11 × A12 × A13 × A14 × A15 × A16 × A17 × A18) := by keq_rows) (h : P (pj0 (hkT19 (I := I) P)) (pj1 (hkT19 (I := I) P)) (pj2 (hkT19 (I := I) P)) (pj3 (hkT19 (I := I) P)) (pj0 (s4 (hkT19 (I := I) P))) (pj1 (s4 (hkT19 (I := I) P))) (pj2 (s4 (hkT19 (I := I) P))) (pj3 (s4 (hkT19 (I := I) P))) (pj0 (s4 (s4 (hkT19 (I := I) P)))) (pj1 (s4 (s4 (hkT19 (I := I) P)))) (pj2 (s4 (s4 (hkT19 (I := I) P)))) (pj3 (s4 (s4 (hkT19 (I := I) P)))) (pj0 (s4 (s4 (s4 (hkT19 (I := I) P))))) (pj1 (s4 (s4 (s4 (hkT19 (I := I) P))))) (pj2 (s4 (s4 (s4 (hkT19 (I := I) P))))) (pj3 (s4 (s4 (s4 (hkT19 (I := I) P))))) (pj0 (s4 (s4 (s4 (s4 (hkT19 (I := I) P)))))) (pj1 (s4 (s4 (s4 (s4 (hkT19 (I := I) P)))))) (lj2 (s4 (s4 (s4 (s4 (hkT19 (I := I) P))))))) : ∀ a0 a1 a2 a3 a4 a5 a6 a7 a8 a9 a10 a11 a12 a13 a14 a15 a16 a17 a18, P a0 a1 a2 a3 a4 a5 a6 a7 a8 a9 a10 a11 a12 a13 a14 a15 a16 a17 a18 :=
 fun a0 a1 a2 a3 a4 a5 a6 a7 a8 a9 a10 a11 a12 a13 a14 a15 a16 a17 a18 => Classical.byContradiction fun n => @Classical.epsilon_spec (A0 × A1 × A2 × A3 × A4 × A5 × A6 × A7 × A8 × A9 × A10 × A11 × A12 × A13 × A14 × A15 × A16 × A17 × A18) (fun t => ¬ P (pj0 t) (pj1 t) (pj2 t) (pj3 t) (pj0 (s4 t)) (pj1 (s4 t)) (pj2 (s4 t)) (pj3 (s4 t)) (pj0 (s4 (s4 t))) (pj1 (s4 (s4 t))) (pj2 (s4 (s4 t))) (pj3 (s4 (s4 t))) (pj0 (s4 (s4 (s4 t)))) (pj1 (s4 (s4 (s4 t)))) (pj2 (s4 (s4 (s4 t)))) (pj3 (s4 (s4 (s4 t)))) (pj0 (s4 (s4 (s4 (s4 t))))) (pj1 (s4 (s4 (s4 (s4 t))))) (lj2 (s4 (s4 (s4 (s4 t)))))) ⟨(a0, a1, a2, a3, a4, a5, a6, a7, a8, a9, a10, a11, a12, a13, a14, a15, a16, a17, a18), n⟩ h
noncomputable def hkT20 {A0 A1 A2 A3 A4 A5 A6 A7 A8 A9 A10 A11 A12 A13 A14 A15 A16 A17 A18 A19 : Type} {I : Nonempty (A0 × A1 × A2 × A3 × A4 × A5 × A6 × A7 × A8 × A9 × A10 × A11 × A12 × A13 × A14 × A15 × A16 × A17 × A18 × A19)} (P : A0 → A1 → A2 → A3 → A4 → A5 → A6 → A7 → A8 → A9 → A10 → A11 → A12 → A13 → A14 → A15 → A16 → A17 → A18 → A19 → Prop) : A0 × A1 × A2 × A3 × A4 × A5 × A6 × A7 × A8 × A9 × A10 × A11 × A12 × A13 × A14 × A15 × A16 × A17 × A18 × A19 := @Classical.epsilon (A0 × A1 × A2 × A3 × A4 × A5 × A6 × A7 × A8 × A9 × A10 × A11 × A12 × A13 × A14 × A15 × A16 × A17 × A18 × A19) I fun t => ¬ P (pj0 t) (pj1 t) (pj2 t) (pj3 t) (pj0 (s4 t)) (pj1 (s4 t)) (pj2 (s4 t)) (pj3 (s4 t)) (pj0 (s4 (s4 t))) (pj1 (s4 (s4 t))) (pj2 (s4 (s4 t))) (pj3 (s4 (s4 t))) (pj0 (s4 (s4 (s4 t)))) (pj1 (s4 (s4 (s4 t)))) (pj2 (s4 (s4 (s4 t)))) (pj3 (s4 (s4 (s4 t)))) (pj0 (s4 (s4 (s4 (s4 t))))) (pj1 (s4 (s4 (s4 (s4 t))))) (pj2 (s4 (s4 (s4 (s4 t))))) (lj3 (s4 (s4 (s4 (s4 t)))))
theorem hk20 {A0 A1 A2 A3 A4 A5 A6 A7 A8 A9 A10 A11 A12 A13 A14 A15 A16 A17 A18 A19 : Type} {P : A0 → A1 → A2 → A3 → A4 → A5 → A6 → A7 → A8 → A9 → A10 → A11 → A12 → A13 → A14 → A15 → A16 → A17 → A18 → A19 → Prop} (I : Nonempty (A0 × A1 × A2 × A3 × A4 × A5 × A6 × A7 × A8 × A9 × A10 × A11 × A12 × A13 × A14 × A15 × A16 × A17 × A18 × A19) := by keq_rows) (h : P (pj0 (hkT20 (I := I) P)) (pj1 (hkT20 (I := I) P)) (pj2 (hkT20 (I := I) P)) (pj3 (hkT20 (I := I) P)) (pj0 (s4 (hkT20 (I := I) P))) (pj1 (s4 (hkT20 (I := I) P))) (pj2 (s4 (hkT20 (I := I) P))) (pj3 (s4 (hkT20 (I := I) P))) (pj0 (s4 (s4 (hkT20 (I := I) P)))) (pj1 (s4 (s4 (hkT20 (I := I) P)))) (pj2 (s4 (s4 (hkT20 (I := I) P)))) (pj3 (s4 (s4 (hkT20 (I := I) P)))) (pj0 (s4 (s4 (s4 (hkT20 (I := I) P))))) (pj1 (s4 (s4 (s4 (hkT20 (I := I) P))))) (pj2 (s4 (s4 (s4 (hkT20 (I := I) P))))) (pj3 (s4 (s4 (s4 (hkT20 (I := I) P))))) (pj0 (s4 (s4 (s4 (s4 (hkT20 (I := I) P)))))) (pj1 (s4 (s4 (s4 (s4 (hkT20 (I := I) P)))))) (pj2 (s4 (s4 (s4 (s4 (hkT20 (I := I) P)))))) (lj3 (s4 (s4 (s4 (s4 (hkT20 (I := I) P))))))) : ∀ a0 a1 a2 a3 a4 a5 a6 a7 a8 a9 a10 a11 a12 a13 a14 a15 a16 a17 a18 a19, P a0 a1 a2 a3 a4 a5 a6 a7 a8 a9 a10 a11 a12 a13 a14 a15 a16 a17 a18 a19 :=
 fun a0 a1 a2 a3 a4 a5 a6 a7 a8 a9 a10 a11 a12 a13 a14 a15 a16 a17 a18 a19 => Classical.byContradiction fun n => @Classical.epsilon_spec (A0 × A1 × A2 × A3 × A4 × A5 × A6 × A7 × A8 × A9 × A10 × A11 × A12 × A13 × A14 × A15 × A16 × A17 × A18 × A19) (fun t => ¬ P (pj0 t) (pj1 t) (pj2 t) (pj3 t) (pj0 (s4 t)) (pj1 (s4 t)) (pj2 (s4 t)) (pj3 (s4 t)) (pj0 (s4 (s4 t))) (pj1 (s4 (s4 t))) (pj2 (s4 (s4 t))) (pj3 (s4 (s4 t))) (pj0 (s4 (s4 (s4 t)))) (pj1 (s4 (s4 (s4 t)))) (pj2 (s4 (s4 (s4 t)))) (pj3 (s4 (s4 (s4 t)))) (pj0 (s4 (s4 (s4 (s4 t))))) (pj1 (s4 (s4 (s4 (s4 t))))) (pj2 (s4 (s4 (s4 (s4 t))))) (lj3 (s4 (s4 (s4 (s4 t)))))) ⟨(a0, a1, a2, a3, a4, a5, a6, a7, a8, a9, a10, a11, a12, a13, a14, a15, a16, a17, a18, a19), n⟩ h
noncomputable def hkT22 {A0 A1 A2 A3 A4 A5 A6 A7 A8 A9 A10 A11 A12 A13 A14 A15 A16 A17 A18 A19 A20 A21 : Type} {I : Nonempty (A0 × A1 × A2 × A3 × A4 × A5 × A6 × A7 × A8 × A9 × A10 × A11 × A12 × A13 × A14 × A15 × A16 × A17 × A18 × A19 × A20 × A21)} (P : A0 → A1 → A2 → A3 → A4 → A5 → A6 → A7 → A8 → A9 → A10 → A11 → A12 → A13 → A14 → A15 → A16 → A17 → A18 → A19 → A20 → A21 → Prop) : A0 × A1 × A2 × A3 × A4 × A5 × A6 × A7 × A8 × A9 × A10 × A11 × A12 × A13 × A14 × A15 × A16 × A17 × A18 × A19 × A20 × A21 := @Classical.epsilon (A0 × A1 × A2 × A3 × A4 × A5 × A6 × A7 × A8 × A9 × A10 × A11 × A12 × A13 × A14 × A15 × A16 × A17 × A18 × A19 × A20 × A21) I fun t => ¬ P (pj0 t) (pj1 t) (pj2 t) (pj3 t) (pj0 (s4 t)) (pj1 (s4 t)) (pj2 (s4 t)) (pj3 (s4 t)) (pj0 (s4 (s4 t))) (pj1 (s4 (s4 t))) (pj2 (s4 (s4 t))) (pj3 (s4 (s4 t))) (pj0 (s4 (s4 (s4 t)))) (pj1 (s4 (s4 (s4 t)))) (pj2 (s4 (s4 (s4 t)))) (pj3 (s4 (s4 (s4 t)))) (pj0 (s4 (s4 (s4 (s4 t))))) (pj1 (s4 (s4 (s4 (s4 t))))) (pj2 (s4 (s4 (s4 (s4 t))))) (pj3 (s4 (s4 (s4 (s4 t))))) (pj0 (s4 (s4 (s4 (s4 (s4 t)))))) (lj1 (s4 (s4 (s4 (s4 (s4 t))))))
theorem hk22 {A0 A1 A2 A3 A4 A5 A6 A7 A8 A9 A10 A11 A12 A13 A14 A15 A16 A17 A18 A19 A20 A21 : Type} {P : A0 → A1 → A2 → A3 → A4 → A5 → A6 → A7 → A8 → A9 → A10 → A11 → A12 → A13 → A14 → A15 → A16 → A17 → A18 → A19 → A20 → A21 → Prop} (I : Nonempty (A0 × A1 × A2 × A3 × A4 × A5 × A6 × A7 × A8 × A9 × A10 × A11 × A12 × A13 × A14 × A15 × A16 × A17 × A18 × A19 × A20 × A21) := by keq_rows) (h : P (pj0 (hkT22 (I := I) P)) (pj1 (hkT22 (I := I) P)) (pj2 (hkT22 (I := I) P)) (pj3 (hkT22 (I := I) P)) (pj0 (s4 (hkT22 (I := I) P))) (pj1 (s4 (hkT22 (I := I) P))) (pj2 (s4 (hkT22 (I := I) P))) (pj3 (s4 (hkT22 (I := I) P))) (pj0 (s4 (s4 (hkT22 (I := I) P)))) (pj1 (s4 (s4 (hkT22 (I := I) P)))) (pj2 (s4 (s4 (hkT22 (I := I) P)))) (pj3 (s4 (s4 (hkT22 (I := I) P)))) (pj0 (s4 (s4 (s4 (hkT22 (I := I) P))))) (pj1 (s4 (s4 (s4 (hkT22 (I := I) P))))) (pj2 (s4 (s4 (s4 (hkT22 (I := I) P))))) (pj3 (s4 (s4 (s4 (hkT22 (I := I) P))))) (pj0 (s4 (s4 (s4 (s4 (hkT22 (I := I) P)))))) (pj1 (s4 (s4 (s4 (s4 (hkT22 (I := I) P)))))) (pj2 (s4 (s4 (s4 (s4 (hkT22 (I := I) P)))))) (pj3 (s4 (s4 (s4 (s4 (hkT22 (I := I) P)))))) (pj0 (s4 (s4 (s4 (s4 (s4 (hkT22 (I := I) P))))))) (lj1 (s4 (s4 (s4 (s4 (s4 (hkT22 (I := I) P)))))))) : ∀ a0 a1 a2 a3 a4 a5 a6 a7 a8 a9 a10 a11 a12 a13 a14 a15 a16 a17 a18 a19 a20 a21, P a0 a1 a2 a3 a4 a5 a6 a7 a8 a9 a10 a11 a12 a13 a14 a15 a16 a17 a18 a19 a20 a21 :=
 fun a0 a1 a2 a3 a4 a5 a6 a7 a8 a9 a10 a11 a12 a13 a14 a15 a16 a17 a18 a19 a20 a21 => Classical.byContradiction fun n => @Classical.epsilon_spec (A0 × A1 × A2 × A3 × A4 × A5 × A6 × A7 × A8 × A9 × A10 × A11 × A12 × A13 × A14 × A15 × A16 × A17 × A18 × A19 × A20 × A21) (fun t => ¬ P (pj0 t) (pj1 t) (pj2 t) (pj3 t) (pj0 (s4 t)) (pj1 (s4 t)) (pj2 (s4 t)) (pj3 (s4 t)) (pj0 (s4 (s4 t))) (pj1 (s4 (s4 t))) (pj2 (s4 (s4 t))) (pj3 (s4 (s4 t))) (pj0 (s4 (s4 (s4 t)))) (pj1 (s4 (s4 (s4 t)))) (pj2 (s4 (s4 (s4 t)))) (pj3 (s4 (s4 (s4 t)))) (pj0 (s4 (s4 (s4 (s4 t))))) (pj1 (s4 (s4 (s4 (s4 t))))) (pj2 (s4 (s4 (s4 (s4 t))))) (pj3 (s4 (s4 (s4 (s4 t))))) (pj0 (s4 (s4 (s4 (s4 (s4 t)))))) (lj1 (s4 (s4 (s4 (s4 (s4 t))))))) ⟨(a0, a1, a2, a3, a4, a5, a6, a7, a8, a9, a10, a11, a12, a13, a14, a15, a16, a17, a18, a19, a20, a21), n⟩ h
noncomputable def hkT23 {A0 A1 A2 A3 A4 A5 A6 A7 A8 A9 A10 A11 A12 A13 A14 A15 A16 A17 A18 A19 A20 A21 A22 : Type} {I : Nonempty (A0 × A1 × A2 × A3 × A4 × A5 × A6 × A7 × A8 × A9 × A10 × A11 × A12 × A13 × A14 × A15 × A16 × A17 × A18 × A19 × A20 × A21 × A22)} (P : A0 → A1 → A2 → A3 → A4 → A5 → A6 → A7 → A8 → A9 → A10 → A11 → A12 → A13 → A14 → A15 → A16 → A17 → A18 → A19 → A20 → A21 → A22 → Prop) : A0 × A1 × A2 × A3 × A4 × A5 × A6 × A7 × A8 × A9 × A10 × A11 × A12 × A13 × A14 × A15 × A16 × A17 × A18 × A19 × A20 × A21 × A22 := @Classical.epsilon (A0 × A1 × A2 × A3 × A4 × A5 × A6 × A7 × A8 × A9 × A10 × A11 × A12 × A13 × A14 × A15 × A16 × A17 × A18 × A19 × A20 × A21 × A22) I fun t => ¬ P (pj0 t) (pj1 t) (pj2 t) (pj3 t) (pj0 (s4 t)) (pj1 (s4 t)) (pj2 (s4 t)) (pj3 (s4 t)) (pj0 (s4 (s4 t))) (pj1 (s4 (s4 t))) (pj2 (s4 (s4 t))) (pj3 (s4 (s4 t))) (pj0 (s4 (s4 (s4 t)))) (pj1 (s4 (s4 (s4 t)))) (pj2 (s4 (s4 (s4 t)))) (pj3 (s4 (s4 (s4 t)))) (pj0 (s4 (s4 (s4 (s4 t))))) (pj1 (s4 (s4 (s4 (s4 t))))) (pj2 (s4 (s4 (s4 (s4 t))))) (pj3 (s4 (s4 (s4 (s4 t))))) (pj0 (s4 (s4 (s4 (s4 (s4 t)))))) (pj1 (s4 (s4 (s4 (s4 (s4 t)))))) (lj2 (s4 (s4 (s4 (s4 (s4 t))))))
theorem hk23 {A0 A1 A2 A3 A4 A5 A6 A7 A8 A9 A10 A11 A12 A13 A14 A15 A16 A17 A18 A19 A20 A21 A22 : Type} {P : A0 → A1 → A2 → A3 → A4 → A5 → A6 → A7 → A8 → A9 → A10 → A11 → A12 → A13 → A14 → A15 → A16 → A17 → A18 → A19 → A20 → A21 → A22 → Prop} (I : Nonempty (A0 × A1 × A2 × A3 × A4 × A5 × A6 × A7 × A8 × A9 × A10 × A11 × A12 × A13 × A14 × A15 × A16 × A17 × A18 × A19 × A20 × A21 × A22) := by keq_rows) (h : P (pj0 (hkT23 (I := I) P)) (pj1 (hkT23 (I := I) P)) (pj2 (hkT23 (I := I) P)) (pj3 (hkT23 (I := I) P)) (pj0 (s4 (hkT23 (I := I) P))) (pj1 (s4 (hkT23 (I := I) P))) (pj2 (s4 (hkT23 (I := I) P))) (pj3 (s4 (hkT23 (I := I) P))) (pj0 (s4 (s4 (hkT23 (I := I) P)))) (pj1 (s4 (s4 (hkT23 (I := I) P)))) (pj2 (s4 (s4 (hkT23 (I := I) P)))) (pj3 (s4 (s4 (hkT23 (I := I) P)))) (pj0 (s4 (s4 (s4 (hkT23 (I := I) P))))) (pj1 (s4 (s4 (s4 (hkT23 (I := I) P))))) (pj2 (s4 (s4 (s4 (hkT23 (I := I) P))))) (pj3 (s4 (s4 (s4 (hkT23 (I := I) P))))) (pj0 (s4 (s4 (s4 (s4 (hkT23 (I := I) P)))))) (pj1 (s4 (s4 (s4 (s4 (hkT23 (I := I) P)))))) (pj2 (s4 (s4 (s4 (s4 (hkT23 (I := I) P)))))) (pj3 (s4 (s4 (s4 (s4 (hkT23 (I := I) P)))))) (pj0 (s4 (s4 (s4 (s4 (s4 (hkT23 (I := I) P))))))) (pj1 (s4 (s4 (s4 (s4 (s4 (hkT23 (I := I) P))))))) (lj2 (s4 (s4 (s4 (s4 (s4 (hkT23 (I := I) P)))))))) : ∀ a0 a1 a2 a3 a4 a5 a6 a7 a8 a9 a10 a11 a12 a13 a14 a15 a16 a17 a18 a19 a20 a21 a22, P a0 a1 a2 a3 a4 a5 a6 a7 a8 a9 a10 a11 a12 a13 a14 a15 a16 a17 a18 a19 a20 a21 a22 :=
 fun a0 a1 a2 a3 a4 a5 a6 a7 a8 a9 a10 a11 a12 a13 a14 a15 a16 a17 a18 a19 a20 a21 a22 => Classical.byContradiction fun n => @Classical.epsilon_spec (A0 × A1 × A2 × A3 × A4 × A5 × A6 × A7 × A8 × A9 × A10 × A11 × A12 × A13 × A14 × A15 × A16 × A17 × A18 × A19 × A20 × A21 × A22) (fun t => ¬ P (pj0 t) (pj1 t) (pj2 t) (pj3 t) (pj0 (s4 t)) (pj1 (s4 t)) (pj2 (s4 t)) (pj3 (s4 t)) (pj0 (s4 (s4 t))) (pj1 (s4 (s4 t))) (pj2 (s4 (s4 t))) (pj3 (s4 (s4 t))) (pj0 (s4 (s4 (s4 t)))) (pj1 (s4 (s4 (s4 t)))) (pj2 (s4 (s4 (s4 t)))) (pj3 (s4 (s4 (s4 t)))) (pj0 (s4 (s4 (s4 (s4 t))))) (pj1 (s4 (s4 (s4 (s4 t))))) (pj2 (s4 (s4 (s4 (s4 t))))) (pj3 (s4 (s4 (s4 (s4 t))))) (pj0 (s4 (s4 (s4 (s4 (s4 t)))))) (pj1 (s4 (s4 (s4 (s4 (s4 t)))))) (lj2 (s4 (s4 (s4 (s4 (s4 t))))))) ⟨(a0, a1, a2, a3, a4, a5, a6, a7, a8, a9, a10, a11, a12, a13, a14, a15, a16, a17, a18, a19, a20, a21, a22), n⟩ h
noncomputable def hkT24 {A0 A1 A2 A3 A4 A5 A6 A7 A8 A9 A10 A11 A12 A13 A14 A15 A16 A17 A18 A19 A20 A21 A22 A23 : Type} {I : Nonempty (A0 × A1 × A2 × A3 × A4 × A5 × A6 × A7 × A8 × A9 × A10 × A11 × A12 × A13 × A14 × A15 × A16 × A17 × A18 × A19 × A20 × A21 × A22 × A23)} (P : A0 → A1 → A2 → A3 → A4 → A5 → A6 → A7 → A8 → A9 → A10 → A11 → A12 → A13 → A14 → A15 → A16 → A17 → A18 → A19 → A20 → A21 → A22 → A23 → Prop) : A0 × A1 × A2 × A3 × A4 × A5 × A6 × A7 × A8 × A9 × A10 × A11 × A12 × A13 × A14 × A15 × A16 × A17 × A18 × A19 × A20 × A21 × A22 × A23 := @Classical.epsilon (A0 × A1 × A2 × A3 × A4 × A5 × A6 × A7 × A8 × A9 × A10 × A11 × A12 × A13 × A14 × A15 × A16 × A17 × A18 × A19 × A20 × A21 × A22 × A23) I fun t => ¬ P (pj0 t) (pj1 t) (pj2 t) (pj3 t) (pj0 (s4 t)) (pj1 (s4 t)) (pj2 (s4 t)) (pj3 (s4 t)) (pj0 (s4 (s4 t))) (pj1 (s4 (s4 t))) (pj2 (s4 (s4 t))) (pj3 (s4 (s4 t))) (pj0 (s4 (s4 (s4 t)))) (pj1 (s4 (s4 (s4 t)))) (pj2 (s4 (s4 (s4 t)))) (pj3 (s4 (s4 (s4 t)))) (pj0 (s4 (s4 (s4 (s4 t))))) (pj1 (s4 (s4 (s4 (s4 t))))) (pj2 (s4 (s4 (s4 (s4 t))))) (pj3 (s4 (s4 (s4 (s4 t))))) (pj0 (s4 (s4 (s4 (s4 (s4 t)))))) (pj1 (s4 (s4 (s4 (s4 (s4 t)))))) (pj2 (s4 (s4 (s4 (s4 (s4 t)))))) (lj3 (s4 (s4 (s4 (s4 (s4 t))))))
theorem hk24 {A0 A1 A2 A3 A4 A5 A6 A7 A8 A9 A10 A11 A12 A13 A14 A15 A16 A17 A18 A19 A20 A21 A22 A23 : Type} {P : A0 → A1 → A2 → A3 → A4 → A5 → A6 → A7 → A8 → A9 → A10 → A11 → A12 → A13 → A14 → A15 → A16 → A17 → A18 → A19 → A20 → A21 → A22 → A23 → Prop} (I : Nonempty (A0 × A1 × A2 × A3 × A4 × A5 × A6 × A7 × A8 × A9 × A10 × A11 × A12 × A13 × A14 × A15 × A16 × A17 × A18 × A19 × A20 × A21 × A22 × A23) := by keq_rows) (h : P (pj0 (hkT24 (I := I) P)) (pj1 (hkT24 (I := I) P)) (pj2 (hkT24 (I := I) P)) (pj3 (hkT24 (I := I) P)) (pj0 (s4 (hkT24 (I := I) P))) (pj1 (s4 (hkT24 (I := I) P))) (pj2 (s4 (hkT24 (I := I) P))) (pj3 (s4 (hkT24 (I := I) P))) (pj0 (s4 (s4 (hkT24 (I := I) P)))) (pj1 (s4 (s4 (hkT24 (I := I) P)))) (pj2 (s4 (s4 (hkT24 (I := I) P)))) (pj3 (s4 (s4 (hkT24 (I := I) P)))) (pj0 (s4 (s4 (s4 (hkT24 (I := I) P))))) (pj1 (s4 (s4 (s4 (hkT24 (I := I) P))))) (pj2 (s4 (s4 (s4 (hkT24 (I := I) P))))) (pj3 (s4 (s4 (s4 (hkT24 (I := I) P))))) (pj0 (s4 (s4 (s4 (s4 (hkT24 (I := I) P)))))) (pj1 (s4 (s4 (s4 (s4 (hkT24 (I := I) P)))))) (pj2 (s4 (s4 (s4 (s4 (hkT24 (I := I) P)))))) (pj3 (s4 (s4 (s4 (s4 (hkT24 (I := I) P)))))) (pj0 (s4 (s4 (s4 (s4 (s4 (hkT24 (I := I) P))))))) (pj1 (s4 (s4 (s4 (s4 (s4 (hkT24 (I := I) P))))))) (pj2 (s4 (s4 (s4 (s4 (s4 (hkT24 (I := I) P))))))) (lj3 (s4 (s4 (s4 (s4 (s4 (hkT24 (I := I) P)))))))) : ∀ a0 a1 a2 a3 a4 a5 a6 a7 a8 a9 a10 a11 a12 a13 a14 a15 a16 a17 a18 a19 a20 a21 a22 a23, P a0 a1 a2 a3 a4 a5 a6 a7 a8 a9 a10 a11 a12 a13 a14 a15 a16 a17 a18 a19 a20 a21 a22 a23 :=
 fun a0 a1 a2 a3 a4 a5 a6 a7 a8 a9 a10 a11 a12 a13 a14 a15 a16 a17 a18 a19 a20 a21 a22 a23 => Classical.byContradiction fun n => @Classical.epsilon_spec (A0 × A1 × A2 × A3 × A4 × A5 × A6 × A7 × A8 × A9 × A10 × A11 × A12 × A13 × A14 × A15 × A16 × A17 × A18 × A19 × A20 × A21 × A22 × A23) (fun t => ¬ P (pj0 t) (pj1 t) (pj2 t) (pj3 t) (pj0 (s4 t)) (pj1 (s4 t)) (pj2 (s4 t)) (pj3 (s4 t)) (pj0 (s4 (s4 t))) (pj1 (s4 (s4 t))) (pj2 (s4 (s4 t))) (pj3 (s4 (s4 t))) (pj0 (s4 (s4 (s4 t)))) (pj1 (s4 (s4 (s4 t)))) (pj2 (s4 (s4 (s4 t)))) (pj3 (s4 (s4 (s4 t)))) (pj0 (s4 (s4 (s4 (s4 t))))) (pj1 (s4 (s4 (s4 (s4 t))))) (pj2 (s4 (s4 (s4 (s4 t))))) (pj3 (s4 (s4 (s4 (s4 t))))) (pj0 (s4 (s4 (s4 (s4 (s4 t)))))) (pj1 (s4 (s4 (s4 (s4 (s4 t)))))) (pj2 (s4 (s4 (s4 (s4 (s4 t)))))) (lj3 (s4 (s4 (s4 (s4 (s4 t))))))) ⟨(a0, a1, a2, a3, a4, a5, a6, a7, a8, a9, a10, a11, a12, a13, a14, a15, a16, a17, a18, a19, a20, a21, a22, a23), n⟩ h
noncomputable def hkT25 {A0 A1 A2 A3 A4 A5 A6 A7 A8 A9 A10 A11 A12 A13 A14 A15 A16 A17 A18 A19 A20 A21 A22 A23 A24 : Type} {I : Nonempty (A0 × A1 × A2 × A3 × A4 × A5 × A6 × A7 × A8 × A9 × A10 × A11 × A12 × A13 × A14 × A15 × A16 × A17 × A18 × A19 × A20 × A21 × A22 × A23 × A24)} (P : A0 → A1 → A2 → A3 → A4 → A5 → A6 → A7 → A8 → A9 → A10 → A11 → A12 → A13 → A14 → A15 → A16 → A17 → A18 → A19 → A20 → A21 → A22 → A23 → A24 → Prop) : A0 × A1 × A2 × A3 × A4 × A5 × A6 × A7 × A8 × A9 × A10 × A11 × A12 × A13 × A14 × A15 × A16 × A17 × A18 × A19 × A20 × A21 × A22 × A23 × A24 := @Classical.epsilon (A0 × A1 × A2 × A3 × A4 × A5 × A6 × A7 × A8 × A9 × A10 × A11 × A12 × A13 × A14 × A15 × A16 × A17 × A18 × A19 × A20 × A21 × A22 × A23 × A24) I fun t => ¬ P (pj0 t) (pj1 t) (pj2 t) (pj3 t) (pj0 (s4 t)) (pj1 (s4 t)) (pj2 (s4 t)) (pj3 (s4 t)) (pj0 (s4 (s4 t))) (pj1 (s4 (s4 t))) (pj2 (s4 (s4 t))) (pj3 (s4 (s4 t))) (pj0 (s4 (s4 (s4 t)))) (pj1 (s4 (s4 (s4 t)))) (pj2 (s4 (s4 (s4 t)))) (pj3 (s4 (s4 (s4 t)))) (pj0 (s4 (s4 (s4 (s4 t))))) (pj1 (s4 (s4 (s4 (s4 t))))) (pj2 (s4 (s4 (s4 (s4 t))))) (pj3 (s4 (s4 (s4 (s4 t))))) (pj0 (s4 (s4 (s4 (s4 (s4 t)))))) (pj1 (s4 (s4 (s4 (s4 (s4 t)))))) (pj2 (s4 (s4 (s4 (s4 (s4 t)))))) (pj3 (s4 (s4 (s4 (s4 (s4 t)))))) ((s4 (s4 (s4 (s4 (s4 (s4 t)))))))
theorem hk25 {A0 A1 A2 A3 A4 A5 A6 A7 A8 A9 A10 A11 A12 A13 A14 A15 A16 A17 A18 A19 A20 A21 A22 A23 A24 : Type} {P : A0 → A1 → A2 → A3 → A4 → A5 → A6 → A7 → A8 → A9 → A10 → A11 → A12 → A13 → A14 → A15 → A16 → A17 → A18 → A19 → A20 → A21 → A22 → A23 → A24 → Prop} (I : Nonempty (A0 × A1 × A2 × A3 × A4 × A5 × A6 × A7 × A8 × A9 × A10 × A11 × A12 × A13 × A14 × A15 × A16 × A17 × A18 × A19 × A20 × A21 × A22 × A23 × A24) := by keq_rows) (h : P (pj0 (hkT25 (I := I) P)) (pj1 (hkT25 (I := I) P)) (pj2 (hkT25 (I := I) P)) (pj3 (hkT25 (I := I) P)) (pj0 (s4 (hkT25 (I := I) P))) (pj1 (s4 (hkT25 (I := I) P))) (pj2 (s4 (hkT25 (I := I) P))) (pj3 (s4 (hkT25 (I := I) P))) (pj0 (s4 (s4 (hkT25 (I := I) P)))) (pj1 (s4 (s4 (hkT25 (I := I) P)))) (pj2 (s4 (s4 (hkT25 (I := I) P)))) (pj3 (s4 (s4 (hkT25 (I := I) P)))) (pj0 (s4 (s4 (s4 (hkT25 (I := I) P))))) (pj1 (s4 (s4 (s4 (hkT25 (I := I) P))))) (pj2 (s4 (s4 (s4 (hkT25 (I := I) P))))) (pj3 (s4 (s4 (s4 (hkT25 (I := I) P))))) (pj0 (s4 (s4 (s4 (s4 (hkT25 (I := I) P)))))) (pj1 (s4 (s4 (s4 (s4 (hkT25 (I := I) P)))))) (pj2 (s4 (s4 (s4 (s4 (hkT25 (I := I) P)))))) (pj3 (s4 (s4 (s4 (s4 (hkT25 (I := I) P)))))) (pj0 (s4 (s4 (s4 (s4 (s4 (hkT25 (I := I) P))))))) (pj1 (s4 (s4 (s4 (s4 (s4 (hkT25 (I := I) P))))))) (pj2 (s4 (s4 (s4 (s4 (s4 (hkT25 (I := I) P))))))) (pj3 (s4 (s4 (s4 (s4 (s4 (hkT25 (I := I) P))))))) ((s4 (s4 (s4 (s4 (s4 (s4 (hkT25 (I := I) P))))))))) : ∀ a0 a1 a2 a3 a4 a5 a6 a7 a8 a9 a10 a11 a12 a13 a14 a15 a16 a17 a18 a19 a20 a21 a22 a23 a24, P a0 a1 a2 a3 a4 a5 a6 a7 a8 a9 a10 a11 a12 a13 a14 a15 a16 a17 a18 a19 a20 a21 a22 a23 a24 :=
 fun a0 a1 a2 a3 a4 a5 a6 a7 a8 a9 a10 a11 a12 a13 a14 a15 a16 a17 a18 a19 a20 a21 a22 a23 a24 => Classical.byContradiction fun n => @Classical.epsilon_spec (A0 × A1 × A2 × A3 × A4 × A5 × A6 × A7 × A8 × A9 × A10 × A11 × A12 × A13 × A14 × A15 × A16 × A17 × A18 × A19 × A20 × A21 × A22 × A23 × A24) (fun t => ¬ P (pj0 t) (pj1 t) (pj2 t) (pj3 t) (pj0 (s4 t)) (pj1 (s4 t)) (pj2 (s4 t)) (pj3 (s4 t)) (pj0 (s4 (s4 t))) (pj1 (s4 (s4 t))) (pj2 (s4 (s4 t))) (pj3 (s4 (s4 t))) (pj0 (s4 (s4 (s4 t)))) (pj1 (s4 (s4 (s4 t)))) (pj2 (s4 (s4 (s4 t)))) (pj3 (s4 (s4 (s4 t)))) (pj0 (s4 (s4 (s4 (s4 t))))) (pj1 (s4 (s4 (s4 (s4 t))))) (pj2 (s4 (s4 (s4 (s4 t))))) (pj3 (s4 (s4 (s4 (s4 t))))) (pj0 (s4 (s4 (s4 (s4 (s4 t)))))) (pj1 (s4 (s4 (s4 (s4 (s4 t)))))) (pj2 (s4 (s4 (s4 (s4 (s4 t)))))) (pj3 (s4 (s4 (s4 (s4 (s4 t)))))) ((s4 (s4 (s4 (s4 (s4 (s4 t)))))))) ⟨(a0, a1, a2, a3, a4, a5, a6, a7, a8, a9, a10, a11, a12, a13, a14, a15, a16, a17, a18, a19, a20, a21, a22, a23, a24), n⟩ h
noncomputable def hkT28 {A0 A1 A2 A3 A4 A5 A6 A7 A8 A9 A10 A11 A12 A13 A14 A15 A16 A17 A18 A19 A20 A21 A22 A23 A24 A25 A26 A27 : Type} {I : Nonempty (A0 × A1 × A2 × A3 × A4 × A5 × A6 × A7 × A8 × A9 × A10 × A11 × A12 × A13 × A14 × A15 × A16 × A17 × A18 × A19 × A20 × A21 × A22 × A23 × A24 × A25 × A26 × A27)} (P : A0 → A1 → A2 → A3 → A4 → A5 → A6 → A7 → A8 → A9 → A10 → A11 → A12 → A13 → A14 → A15 → A16 → A17 → A18 → A19 → A20 → A21 → A22 → A23 → A24 → A25 → A26 → A27 → Prop) : A0 × A1 × A2 × A3 × A4 × A5 × A6 × A7 × A8 × A9 × A10 × A11 × A12 × A13 × A14 × A15 × A16 × A17 × A18 × A19 × A20 × A21 × A22 × A23 × A24 × A25 × A26 × A27 := @Classical.epsilon (A0 × A1 × A2 × A3 × A4 × A5 × A6 × A7 × A8 × A9 × A10 × A11 × A12 × A13 × A14 × A15 × A16 × A17 × A18 × A19 × A20 × A21 × A22 × A23 × A24 × A25 × A26 × A27) I fun t => ¬ P (pj0 t) (pj1 t) (pj2 t) (pj3 t) (pj0 (s4 t)) (pj1 (s4 t)) (pj2 (s4 t)) (pj3 (s4 t)) (pj0 (s4 (s4 t))) (pj1 (s4 (s4 t))) (pj2 (s4 (s4 t))) (pj3 (s4 (s4 t))) (pj0 (s4 (s4 (s4 t)))) (pj1 (s4 (s4 (s4 t)))) (pj2 (s4 (s4 (s4 t)))) (pj3 (s4 (s4 (s4 t)))) (pj0 (s4 (s4 (s4 (s4 t))))) (pj1 (s4 (s4 (s4 (s4 t))))) (pj2 (s4 (s4 (s4 (s4 t))))) (pj3 (s4 (s4 (s4 (s4 t))))) (pj0 (s4 (s4 (s4 (s4 (s4 t)))))) (pj1 (s4 (s4 (s4 (s4 (s4 t)))))) (pj2 (s4 (s4 (s4 (s4 (s4 t)))))) (pj3 (s4 (s4 (s4 (s4 (s4 t)))))) (pj0 (s4 (s4 (s4 (s4 (s4 (s4 t))))))) (pj1 (s4 (s4 (s4 (s4 (s4 (s4 t))))))) (pj2 (s4 (s4 (s4 (s4 (s4 (s4 t))))))) (lj3 (s4 (s4 (s4 (s4 (s4 (s4 t)))))))
theorem hk28 {A0 A1 A2 A3 A4 A5 A6 A7 A8 A9 A10 A11 A12 A13 A14 A15 A16 A17 A18 A19 A20 A21 A22 A23 A24 A25 A26 A27 : Type} {P : A0 → A1 → A2 → A3 → A4 → A5 → A6 → A7 → A8 → A9 → A10 → A11 → A12 → A13 → A14 → A15 → A16 → A17 → A18 → A19 → A20 → A21 → A22 → A23 → A24 → A25 → A26 → A27 → Prop} (I : Nonempty (A0 × A1 × A2 × A3 × A4 × A5 × A6 × A7 × A8 × A9 × A10 × A11 × A12 × A13 × A14 × A15 × A16 × A17 × A18 × A19 × A20 × A21 × A22 × A23 × A24 × A25 × A26 × A27) := by keq_rows) (h : P (pj0 (hkT28 (I := I) P)) (pj1 (hkT28 (I := I) P)) (pj2 (hkT28 (I := I) P)) (pj3 (hkT28 (I := I) P)) (pj0 (s4 (hkT28 (I := I) P))) (pj1 (s4 (hkT28 (I := I) P))) (pj2 (s4 (hkT28 (I := I) P))) (pj3 (s4 (hkT28 (I := I) P))) (pj0 (s4 (s4 (hkT28 (I := I) P)))) (pj1 (s4 (s4 (hkT28 (I := I) P)))) (pj2 (s4 (s4 (hkT28 (I := I) P)))) (pj3 (s4 (s4 (hkT28 (I := I) P)))) (pj0 (s4 (s4 (s4 (hkT28 (I := I) P))))) (pj1 (s4 (s4 (s4 (hkT28 (I := I) P))))) (pj2 (s4 (s4 (s4 (hkT28 (I := I) P))))) (pj3 (s4 (s4 (s4 (hkT28 (I := I) P))))) (pj0 (s4 (s4 (s4 (s4 (hkT28 (I := I) P)))))) (pj1 (s4 (s4 (s4 (s4 (hkT28 (I := I) P)))))) (pj2 (s4 (s4 (s4 (s4 (hkT28 (I := I) P)))))) (pj3 (s4 (s4 (s4 (s4 (hkT28 (I := I) P)))))) (pj0 (s4 (s4 (s4 (s4 (s4 (hkT28 (I := I) P))))))) (pj1 (s4 (s4 (s4 (s4 (s4 (hkT28 (I := I) P))))))) (pj2 (s4 (s4 (s4 (s4 (s4 (hkT28 (I := I) P))))))) (pj3 (s4 (s4 (s4 (s4 (s4 (hkT28 (I := I) P))))))) (pj0 (s4 (s4 (s4 (s4 (s4 (s4 (hkT28 (I := I) P)))))))) (pj1 (s4 (s4 (s4 (s4 (s4 (s4 (hkT28 (I := I) P)))))))) (pj2 (s4 (s4 (s4 (s4 (s4 (s4 (hkT28 (I := I) P)))))))) (lj3 (s4 (s4 (s4 (s4 (s4 (s4 (hkT28 (I := I) P))))))))) : ∀ a0 a1 a2 a3 a4 a5 a6 a7 a8 a9 a10 a11 a12 a13 a14 a15 a16 a17 a18 a19 a20 a21 a22 a23 a24 a25 a26 a27, P a0 a1 a2 a3 a4 a5 a6 a7 a8 a9 a10 a11 a12 a13 a14 a15 a16 a17 a18 a19 a20 a21 a22 a23 a24 a25 a26 a27 :=
 fun a0 a1 a2 a3 a4 a5 a6 a7 a8 a9 a10 a11 a12 a13 a14 a15 a16 a17 a18 a19 a20 a21 a22 a23 a24 a25 a26 a27 => Classical.byContradiction fun n => @Classical.epsilon_spec (A0 × A1 × A2 × A3 × A4 × A5 × A6 × A7 × A8 × A9 × A10 × A11 × A12 × A13 × A14 × A15 × A16 × A17 × A18 × A19 × A20 × A21 × A22 × A23 × A24 × A25 × A26 × A27) (fun t => ¬ P (pj0 t) (pj1 t) (pj2 t) (pj3 t) (pj0 (s4 t)) (pj1 (s4 t)) (pj2 (s4 t)) (pj3 (s4 t)) (pj0 (s4 (s4 t))) (pj1 (s4 (s4 t))) (pj2 (s4 (s4 t))) (pj3 (s4 (s4 t))) (pj0 (s4 (s4 (s4 t)))) (pj1 (s4 (s4 (s4 t)))) (pj2 (s4 (s4 (s4 t)))) (pj3 (s4 (s4 (s4 t)))) (pj0 (s4 (s4 (s4 (s4 t))))) (pj1 (s4 (s4 (s4 (s4 t))))) (pj2 (s4 (s4 (s4 (s4 t))))) (pj3 (s4 (s4 (s4 (s4 t))))) (pj0 (s4 (s4 (s4 (s4 (s4 t)))))) (pj1 (s4 (s4 (s4 (s4 (s4 t)))))) (pj2 (s4 (s4 (s4 (s4 (s4 t)))))) (pj3 (s4 (s4 (s4 (s4 (s4 t)))))) (pj0 (s4 (s4 (s4 (s4 (s4 (s4 t))))))) (pj1 (s4 (s4 (s4 (s4 (s4 (s4 t))))))) (pj2 (s4 (s4 (s4 (s4 (s4 (s4 t))))))) (lj3 (s4 (s4 (s4 (s4 (s4 (s4 t)))))))) ⟨(a0, a1, a2, a3, a4, a5, a6, a7, a8, a9, a10, a11, a12, a13, a14, a15, a16, a17, a18, a19, a20, a21, a22, a23, a24, a25, a26, a27), n⟩ h
theorem cellsC {cm : Str → Option Value} {n : Str} {c : Addr} {ns : List (Str × Addr)} {G : List (Addr × Obj) → Prop} (h : ∀ o : Obj, o.data = .cell (cm n) → ∀ cells, PyProof.Rows.CellsAre cm ns cells → G ((c, o) :: cells)) : ∀ cells, PyProof.Rows.CellsAre cm ((n, c) :: ns) cells → G cells := by
 intro cells x
 rcases x with _ | ⟨d, x⟩
 exact h _ d _ x
theorem cellsN {cm : Str → Option Value} {G : List (Addr × Obj) → Prop} (h : G []) : ∀ cells, PyProof.Rows.CellsAre cm [] cells → G cells := by
 intro cells x
 cases x
 exact h
theorem cellsK1 {cm : Str → Option Value} {n0 : Str} {c0 : Addr} {G : List (Addr × Obj) → Prop} (h : ∀ o0 : Obj, o0.data = .cell (cm n0) → G [(c0, o0)]) : ∀ cells, PyProof.Rows.CellsAre cm [(n0, c0)] cells → G cells :=
 cellsC fun o0 d0 => cellsN (h o0 d0)
theorem cellsK2 {cm : Str → Option Value} {n0 n1 : Str} {c0 c1 : Addr} {G : List (Addr × Obj) → Prop} (h : ∀ o0 o1 : Obj, o0.data = .cell (cm n0) → o1.data = .cell (cm n1) → G [(c0, o0), (c1, o1)]) : ∀ cells, PyProof.Rows.CellsAre cm [(n0, c0), (n1, c1)] cells → G cells :=
 cellsC fun o0 d0 => cellsC fun o1 d1 => cellsN (h o0 o1 d0 d1)
theorem cellsK3 {cm : Str → Option Value} {n0 n1 n2 : Str} {c0 c1 c2 : Addr} {G : List (Addr × Obj) → Prop} (h : ∀ o0 o1 o2 : Obj, o0.data = .cell (cm n0) → o1.data = .cell (cm n1) → o2.data = .cell (cm n2) → G [(c0, o0), (c1, o1), (c2, o2)]) : ∀ cells, PyProof.Rows.CellsAre cm [(n0, c0), (n1, c1), (n2, c2)] cells → G cells :=
 cellsC fun o0 d0 => cellsC fun o1 d1 => cellsC fun o2 d2 => cellsN (h o0 o1 o2 d0 d1 d2)
theorem cellsK4 {cm : Str → Option Value} {n0 n1 n2 n3 : Str} {c0 c1 c2 c3 : Addr} {G : List (Addr × Obj) → Prop} (h : ∀ o0 o1 o2 o3 : Obj, o0.data = .cell (cm n0) → o1.data = .cell (cm n1) → o2.data = .cell (cm n2) → o3.data = .cell (cm n3) → G [(c0, o0), (c1, o1), (c2, o2), (c3, o3)]) : ∀ cells, PyProof.Rows.CellsAre cm [(n0, c0), (n1, c1), (n2, c2), (n3, c3)] cells → G cells :=
 cellsC fun o0 d0 => cellsC fun o1 d1 => cellsC fun o2 d2 => cellsC fun o3 d3 => cellsN (h o0 o1 o2 o3 d0 d1 d2 d3)
theorem cellsK5 {cm : Str → Option Value} {n0 n1 n2 n3 n4 : Str} {c0 c1 c2 c3 c4 : Addr} {G : List (Addr × Obj) → Prop} (h : ∀ o0 o1 o2 o3 o4 : Obj, o0.data = .cell (cm n0) → o1.data = .cell (cm n1) → o2.data = .cell (cm n2) → o3.data = .cell (cm n3) → o4.data = .cell (cm n4) → G [(c0, o0), (c1, o1), (c2, o2), (c3, o3), (c4, o4)]) : ∀ cells, PyProof.Rows.CellsAre cm [(n0, c0), (n1, c1), (n2, c2), (n3, c3), (n4, c4)] cells → G cells :=
 cellsC fun o0 d0 => cellsC fun o1 d1 => cellsC fun o2 d2 => cellsC fun o3 d3 => cellsC fun o4 d4 => cellsN (h o0 o1 o2 o3 o4 d0 d1 d2 d3 d4)
theorem cellsK6 {cm : Str → Option Value} {n0 n1 n2 n3 n4 n5 : Str} {c0 c1 c2 c3 c4 c5 : Addr} {G : List (Addr × Obj) → Prop} (h : ∀ o0 o1 o2 o3 o4 o5 : Obj, o0.data = .cell (cm n0) → o1.data = .cell (cm n1) → o2.data = .cell (cm n2) → o3.data = .cell (cm n3) → o4.data = .cell (cm n4) → o5.data = .cell (cm n5) → G [(c0, o0), (c1, o1), (c2, o2), (c3, o3), (c4, o4), (c5, o5)]) : ∀ cells, PyProof.Rows.CellsAre cm [(n0, c0), (n1, c1), (n2, c2), (n3, c3), (n4, c4), (n5, c5)] cells → G cells :=
 cellsC fun o0 d0 => cellsC fun o1 d1 => cellsC fun o2 d2 => cellsC fun o3 d3 => cellsC fun o4 d4 => cellsC fun o5 d5 => cellsN (h o0 o1 o2 o3 o4 o5 d0 d1 d2 d3 d4 d5)
end Mine
end
open PySem PySem.W PyProof.Rows PySem.Calls PySem.Spec
section
namespace Mine
abbrev arX (dp un : Nat) (gd : Option (List Code)) (outer : List Env) : Around := { handled := none, depth := dp, frames := some outer, guards := gd, units := un }
def Kept (h h' : Heap) : Prop := ∀ b o, h.get? b = some o → h'.get? b = some o

section
variable {prog : Program} {w : World} {A : Around} {base : Heap} {outer : List Env} {s : Shared} {K : Frag} {p : Program} {loose : List Str} {mean : ExcName → Option Value} {mg mb : Str → Option Value}
 {R : Result → Shared → Prop} {name qual : Str} {params : Arguments} {body : List Stmt} {scope : Scope} {dV kV doc pm cdv ct oc : Value} {an od : Option Addr} {osl : Array (Option Value)} {f : Addr} {args : Args} {binds : List (Str × Value)}

theorem enterP (B : Below A base outer s.heap) (X : K.In s.heap) (T : Top p loose mean mg mb s.heap)
  (ho : K.lookup f = some ⟨oc, od, .func (fnOf name qual params body scope dV kV doc pm an cdv ct), osl⟩) (hcd : codeIn K cdv qual = true) (hroom : A.depth < recursionLimit)
  (hbind : BindsTo s (fnOf name qual params body scope dV kV doc pm an cdv ct) args binds) (hloc : ∀ y ∈ binds, scope.names.lookup y.1 = some .local)
  (h : ∀ L' h₁, Fr s.heap L' h₁ (fun y => binds.reverse.lookup y) → News s.heap L' h₁ [] →
   wpAny (model prog w) (A.deeper (envOf qual scope L' f cdv)) (execs body (envOf qual scope L' f cdv))
    (fun fl s' => R (.ok (.ret (match fl with | .ret v => v | _ => .none))) s')
    (fun e s' => wpAny (model prog w) (A.deeper (envOf qual scope L' f cdv)) (leaving (envOf qual scope L' f cdv) e) (fun _ s'' => R (.error e) s'') (fun e' s'' => R (.error e') s'') s')
    { s with heap := h₁, toks := s.toks + binds.length })
  (hco : scope.isCoroutine = false) (hgen : scope.isGenerator = false) (hk : scope.kind = .function)
  (hcell : ∀ x ∈ scope.names, x.2 ≠ .cell) : codeAny (model prog w) A (.call (.ref f) args) R s := by
 refine codeAny_call_def (fd := fnOf name qual params body scope dV kV doc pm an cdv ct) (body := body) (binds := binds) hroom (X _ _ ho) rfl T.nolimit (codeRec_of X hcd) rfl hbind hcell hloc (fun h₁ hns hk₁ => ?_) hco hgen hk
 exact h s.heap.objs.size h₁ ⟨hns, hk₁, Nat.le_refl _⟩ (fun _ hp => nomatch hp)
end

theorem fr_kept {h₀ h h' : Heap} {L : Addr} {m : Str → Option Value} (F : Fr h₀ L h m) (k : Kept h h') : Fr h₀ L h' m := by
 obtain ⟨o, es, ep, hL, hd, hk, hf⟩ := F.ns
 exact ⟨⟨o, es, ep, k _ _ hL, hd, hk, hf⟩, fun b o e => k _ _ (F.keep b o e), F.above⟩
theorem news_kept {h₀ h h' : Heap} {L : Addr} {news : List (Addr × Obj)} (N : News h₀ L h news) (k : Kept h h') : News h₀ L h' news :=
 fun p hp => ⟨k _ _ (N p hp).1, (N p hp).2⟩
def KeptX (P : List Addr) (h h' : Heap) : Prop := ∀ b o, b ∉ P → h.get? b = some o → h'.get? b = some o
theorem Kept.x {h h' : Heap} (k : Kept h h') (P : List Addr) : KeptX P h h' := fun b o _ e => k b o e

section
variable {prog : Program} {w : World} {A : Around} {base h₀ : Heap} {outer : List Env} {s : Shared} {K : Frag} {p : Program} {loose : List Str} {mean : ExcName → Option Value} {mg mb : Str → Option Value}
 {R : Result → Shared → Prop} {name qual : Str} {params : Arguments} {body : List Stmt} {scope : Scope} {dV kV doc pm cdv ct oc : Value} {an od : Option Addr} {osl : Array (Option Value)} {f : Addr} {args : Args} {binds : List (Str × Value)} {led : List (Addr × Obj)}
theorem enterG (hk : ∀ b o, h₀.get? b = some o → s.heap.get? b = some o) (hs : h₀.objs.size ≤ s.heap.objs.size) (hl : ∀ p ∈ led, s.heap.get? p.1 = some p.2 ∧ h₀.get? p.1 = none)
  (X : K.In h₀) (T : Top p loose mean mg mb h₀)
  (ho : K.lookup f = some ⟨oc, od, .func (fnOf name qual params body scope dV kV doc pm an cdv ct), osl⟩) (hcd : codeIn K cdv qual = true) (hroom : A.depth < recursionLimit)
  (hbind : BindsTo s (fnOf name qual params body scope dV kV doc pm an cdv ct) args binds) (hloc : ∀ y ∈ binds, scope.names.lookup y.1 = some .local)
  (h : ∀ L' h₁, Fr h₀ L' h₁ (fun y => binds.reverse.lookup y) → News h₀ L' h₁ led → (∀ p ∈ led, p.1 < L') →
   wpAny (model prog w) (A.deeper (envOf qual scope L' f cdv)) (execs body (envOf qual scope L' f cdv))
    (fun fl s' => R (.ok (.ret (match fl with | .ret v => v | _ => .none))) s')
    (fun e s' => wpAny (model prog w) (A.deeper (envOf qual scope L' f cdv)) (leaving (envOf qual scope L' f cdv) e) (fun _ s'' => R (.error e) s'') (fun e' s'' => R (.error e') s'') s')
    { s with heap := h₁, toks := s.toks + binds.length })
  (hco : scope.isCoroutine = false) (hgen : scope.isGenerator = false) (hkk : scope.kind = .function)
  (hcell : ∀ x ∈ scope.names, x.2 ≠ .cell) : codeAny (model prog w) A (.call (.ref f) args) R s := by
 refine codeAny_call_def (fd := fnOf name qual params body scope dV kV doc pm an cdv ct) (body := body) (binds := binds) hroom (hk _ _ (X _ _ ho)) rfl (T.nolimit.keeps hk) (codeRec_of (X.keeps hk) hcd) rfl hbind hcell hloc (fun h₁ hns hk₁ => ?_) hco hgen hkk
 exact h s.heap.objs.size h₁ ⟨hns, fun b o e => hk₁ b o (hk b o e), hs⟩ (fun p hp => ⟨hk₁ _ _ (hl p hp).1, Nat.ne_of_lt (Heap.lt_size (hl p hp).1), (hl p hp).2⟩) (fun p hp => Heap.lt_size (hl p hp).1)
theorem enterC (hk : ∀ b o, h₀.get? b = some o → s.heap.get? b = some o) (hs : h₀.objs.size ≤ s.heap.objs.size) (hl : ∀ p ∈ led, s.heap.get? p.1 = some p.2 ∧ h₀.get? p.1 = none)
  (X : K.In h₀) (T : Top p loose mean mg mb h₀)
  (ho : K.lookup f = some ⟨oc, od, .func (fnOf name qual params body scope dV kV doc pm an cdv ct), osl⟩) (hcd : codeIn K cdv qual = true) (hroom : A.depth < recursionLimit)
  (hbind : BindsTo s (fnOf name qual params body scope dV kV doc pm an cdv ct) args binds) (hkind : (binds.all fun y => scope.names.lookup y.1 == some .local || scope.names.lookup y.1 == some .cell) = true)
  (hnd : ((cellsFrom 0 scope.names []).map (·.1)).Nodup)
  (h : ∀ L' h₁ tk cells, Fr h₀ L' h₁ (bindL (envOfC qual scope L' f cdv).kindOf binds fun _ => none) → News h₀ L' h₁ (cells ++ led) →
   CellsAre (bindC (envOfC qual scope L' f cdv).kindOf binds fun _ => none) (cellsFrom (L' + 1) scope.names []) cells → (∀ p ∈ led, p.1 < L') →
   wpAny (model prog w) (A.deeper (envOfC qual scope L' f cdv)) (execs body (envOfC qual scope L' f cdv))
    (fun fl s' => R (.ok (.ret (match fl with | .ret v => v | _ => .none))) s')
    (fun e s' => wpAny (model prog w) (A.deeper (envOfC qual scope L' f cdv)) (leaving (envOfC qual scope L' f cdv) e) (fun _ s'' => R (.error e) s'') (fun e' s'' => R (.error e') s'') s')
    { s with heap := h₁, toks := tk })
  (hco : scope.isCoroutine = false) (hgen : scope.isGenerator = false) (hkk : scope.kind = .function) : codeAny (model prog w) A (.call (.ref f) args) R s := by
 refine codeAny_call_function hroom (hk _ _ (X _ _ ho)) rfl hco hgen rfl (codeRec_of (X.keeps hk) hcd) (hbind _ _ _ _ ?_)
 refine wpAny_newFunctionEnv_cells hkk (kindsX hkind _) fun env' he s' x => ?_
 subst he
 refine ⟨(T.nolimit.keeps hk).keeps x.toInCall.keep, codeAny_func ?_⟩
 obtain ⟨h₁, tk, rfl, _⟩ := x.done
 have hk₁ := x.toInCall.keep
 obtain ⟨cells, NC, Y⟩ := Cl.news (h₀ := s.heap) (Nat.le_refl _) fun n c hm => ⟨x.cell n c (lookup_of_mem_nodup (cellsFrom_names scope.names 0 (s.heap.objs.size + 1) [] [] rfl ▸ hnd) hm), x.above n c hm⟩
 refine wpAny_mono (h s.heap.objs.size h₁ tk cells ⟨x.toInCall.ns, fun b o e => hk₁ b o (hk b o e), hs⟩ (fun p hp => ?_) Y (fun p hp => Heap.lt_size (hl p hp).1)) (fun _ _ y => y) fun _ _ y => y
 rcases List.mem_append.mp hp with hp | hp
 ·refine ⟨(NC p hp).1, (NC p hp).2.1, ?_⟩
  cases q : h₀.get? p.1 with
  | none => rfl
  | some o => have := hk _ _ q; rw [(NC p hp).2.2] at this; cases this
 ·exact ⟨hk₁ _ _ (hl p hp).1, Nat.ne_of_lt (Heap.lt_size (hl p hp).1), (hl p hp).2⟩
end
theorem lsh1 {prog : Program} {w : World} {A : Around} {E : Value → Shared → Prop} {s : Shared} {Q : Value → Shared → Prop} {X n a : Int} {t u : Tok} (hX : X = 1) (hn : 0 ≤ n) (hn2 : n ≤ 1000) (ha : a.natAbs < 2 ^ 64)
  (h : Q (.int (a * 2 ^ n.toNat) s.toks) { s with toks := s.toks + 1 }) : wpAny (model prog w) A (binaryOp .LShift (.int a t) (.int (X * n) u)) Q E s := by
 subst hX
 rw [Int.one_mul]
 exact lshift_int_small hn (by kaf_pre) ha h
section
variable {prog : Program} {w : World} {A : Around} {E : Value → Shared → Prop} {s : Shared} {Q : Value → Shared → Prop}
theorem rsh1 {X n a : Int} {t u : Tok} (hX : X = 1) (hn : 0 ≤ n)
  (h : Q (.int (a.fdiv (2 ^ n.toNat)) s.toks) { s with toks := s.toks + 1 }) : wpAny (model prog w) A (binaryOp .RShift (.int a t) (.int (X * n) u)) Q E s := by
 subst hX
 rw [Int.one_mul]
 exact rshift_int hn h
theorem mul_known {e : Int} {l : Addr} {u : Tok} (k : Int) (he : e = k) (h : wpAny (model prog w) A (binaryOp .Mult (.ref l) (.int k u)) Q E s) : wpAny (model prog w) A (binaryOp .Mult (.ref l) (.int e u)) Q E s := he ▸ h
end
theorem fdiv_pow_le (a n : Int) (ha : 0 ≤ a) : 0 ≤ a.fdiv (2 ^ n.toNat) ∧ a.fdiv (2 ^ n.toNat) ≤ a := by
 have hp : (1 : Int) ≤ 2 ^ n.toNat := by
  have : (0 : Int) < 2 ^ n.toNat := Int.pow_pos (by decide)
  kaf_pre
 rw [Int.fdiv_eq_ediv_of_nonneg a (by kaf_pre)]
 exact ⟨Int.ediv_nonneg ha (by kaf_pre), Int.ediv_le_self _ ha⟩
def AllNe (d : Addr) : List (Addr × Obj) → Prop
 | [] => True
 | p :: r => @Ne Nat p.1 d ∧ AllNe d r
theorem AllNe.mem {d : Addr} : ∀ {l : List (Addr × Obj)}, AllNe d l → ∀ p ∈ l, p.1 ≠ d
 | [], _, _, hp => nomatch hp
 | q :: _, h, p, hp => by
  rcases List.mem_cons.mp hp with e | hp
  ·exact e ▸ h.1
  ·exact AllNe.mem h.2 p hp
theorem AllNe.of {d : Addr} : ∀ {l : List (Addr × Obj)}, (∀ p ∈ l, p.1 ≠ d) → AllNe d l
 | [], _ => trivial
 | p :: _, h => ⟨h p (.head _), AllNe.of fun q hq => h q (.tail _ hq)⟩
abbrev RetG (R : Result → Shared → Prop) (s : Shared) (g : Heap) (P : Value → List (Addr × Obj) → Prop) : Prop :=
 ∀ v h' tk' led', (∀ b o, g.get? b = some o → h'.get? b = some o) → (∀ p ∈ led', h'.get? p.1 = some p.2 ∧ g.get? p.1 = none) → P v led' → R (.ok (.ret v)) { s with heap := h', toks := tk' }
theorem ret_end {R : Result → Shared → Prop} {s : Shared} {g h' : Heap} {P : Value → List (Addr × Obj) → Prop} {L : Addr} {m : Str → Option Value} {news led' : List (Addr × Obj)} {v : Value} {tk : Nat}
  (hret : RetG R s g P) (F : Fr g L h' m) (N : News g L h' news) (hin : ∀ p ∈ led', p ∈ news) (hP : P v led') : R (.ok (.ret v)) { s with heap := h', toks := tk } :=
 hret v h' tk led' F.keep (fun p hp => ⟨(N p (hin p hp)).1, (N p (hin p hp)).2.2⟩) hP
end Mine
end
section
namespace Mine
def Ctr (w : World) (dp un : Nat) (gd : Option (List Code)) (s : Shared) (f : Addr) (args : Args) (led : List (Addr × Obj)) (old : Heap → Prop) (P : Value → List (Addr × Obj) → Prop) : Prop :=
 ∀ (loose : List Str) (mean : ExcName → Option Value) (mg mb : Str → Option Value) (outer : List Env) (base g : Heap) (R : Result → Shared → Prop),
  Below (arX dp un gd outer) base outer g → (hd.heap_1 w.params).In g → Top topProg loose mean mg mb g → (∀ b o, g.get? b = some o → s.heap.get? b = some o) → g.objs.size ≤ s.heap.objs.size →
  (∀ p ∈ led, s.heap.get? p.1 = some p.2 ∧ g.get? p.1 = none) → old g → RetG R s g P → codeAny (model PySem.Challenge.rw_sn0104_01.row.toRowW.prog w) (arX dp un gd outer) (.call (.ref f) args) R s

def OffAll (rest : List (Addr × Obj)) : List (Addr × Obj) → Prop
 | [] => True
 | q :: r => AllNe q.1 rest ∧ OffAll rest r
theorem OffAll.of {rest : List (Addr × Obj)} : ∀ {l : List (Addr × Obj)}, (∀ p ∈ rest, ∀ q ∈ l, p.1 ≠ q.1) → OffAll rest l
 | [], _ => trivial
 | q :: _, h => ⟨AllNe.of fun p hp => h p hp q (.head _), OffAll.of fun p hp r hr => h p hp r (.tail _ hr)⟩
theorem OffAll.mem {rest : List (Addr × Obj)} : ∀ {l : List (Addr × Obj)}, OffAll rest l → ∀ p ∈ rest, ∀ q ∈ l, p.1 ≠ q.1
 | [], _, _, _, _, hq => nomatch hq
 | _ :: _, h, p, hp, q, hq => by
  rcases List.mem_cons.mp hq with e | hq
  ·exact e ▸ h.1.mem p hp
  ·exact OffAll.mem h.2 p hp q hq
inductive Rem (led : List (Addr × Obj)) : List (Addr × Obj) → List (Addr × Obj) → Prop
 | nil : Rem led [] []
 | keep {p r r'} : AllNe p.1 led → Rem led r r' → Rem led (p :: r) (p :: r')
 | drop {p r r'} : Rem led r r' → Rem led (p :: r) r'
theorem Rem.sub {led : List (Addr × Obj)} : ∀ {l l' : List (Addr × Obj)}, Rem led l l' → ∀ p ∈ l', p ∈ l
 | _, _, .nil, _, hp => nomatch hp
 | _, _, .keep _ x, p, hp => by
  rcases List.mem_cons.mp hp with e | hp
  ·exact e ▸ .head _
  ·exact .tail _ (Rem.sub x p hp)
 | _, _, .drop x, p, hp => .tail _ (Rem.sub x p hp)
theorem Rem.off {led : List (Addr × Obj)} : ∀ {l l' : List (Addr × Obj)}, Rem led l l' → ∀ p ∈ l', ∀ q ∈ led, p.1 ≠ q.1
 | _, _, .nil, _, hp, _, _ => nomatch hp
 | _, _, .keep h x, p, hp, q, hq => by
  rcases List.mem_cons.mp hp with e | hp
  ·exact e ▸ (h.mem q hq).symm
  ·exact Rem.off x p hp q hq
 | _, _, .drop x, p, hp, q, hq => Rem.off x p hp q hq
theorem Rem.refl : ∀ {l : List (Addr × Obj)}, Rem [] l l
 | [] => .nil
 | _ :: _ => .keep trivial Rem.refl

theorem use_c {w : World} {A A₀ : Around} {dp un : Nat} {gd : Option (List Code)} {base h₀ : Heap} {outer : List Env} {L : Addr} {m : Str → Option Value} {news led rest : List (Addr × Obj)} {s : Shared} {env : Env} {loose : List Str} {mean : ExcName → Option Value} {mg mb : Str → Option Value}
  {Q E : Value → Shared → Prop} {f : Addr} {pos : List Value} {kw : List (Str × Value)} {old : Heap → Prop} {P : Value → List (Addr × Obj) → Prop}
  (B : Below A₀ base outer h₀) (F : Fr h₀ L s.heap m) (X : (hd.heap_1 w.params).In h₀) (N : News h₀ L s.heap news) (T : Top topProg loose mean mg mb h₀)
  (hA : A = arX dp un gd (env :: outer)) (hf : env.frame = some L) (hke : env.scope.kind = .function)
  (C : Ctr w dp un gd s f ⟨pos, kw⟩ led old P) (hled : ∀ p ∈ led, p ∈ news) (hrem : Rem led news rest)
  (hold : ∀ g : Heap, (∀ b o, h₀.get? b = some o → g.get? b = some o) → (∀ p ∈ rest, g.get? p.1 = some p.2) → old g)
  (hQ : ∀ v h' tk' led', Fr h₀ L h' m → News h₀ L h' (led' ++ rest) → OffAll rest led' → P v led' → Q v { s with heap := h', toks := tk' }) :
  wpAny (model PySem.Challenge.rw_sn0104_01.row.toRowW.prog w) A (call (.ref f) pos kw) Q E s := by
 have Nl : News h₀ L s.heap led := fun p hp => N p (hled p hp)
 obtain ⟨FG, BG, st, _⟩ := groundX (R := fun _ _ => True) B F Nl (A := A) (by rw [hA]) hf hke
 have hsub := Rem.sub hrem
 have hoff := Rem.off hrem
 have hrest : ∀ p ∈ rest, (hideAll s.heap (led.map (·.1))).get? p.1 = some p.2 := fun p hp => hideAll_get _ (N p (hsub p hp)).1 (fun q => by
  obtain ⟨r, hr, e⟩ := List.mem_map.mp q
  exact hoff p hp r hr e.symm)
 subst hA
 refine wpAny_call (C loose mean mg mb (env :: outer) base _ _ BG (X.keeps st) (T.keeps st) (fun b o e => of_hideAll _ e) (Nat.le_of_eq (hideAll_size _ _)) (fun p hp => ⟨(Nl p hp).1, hideAll_none _ (List.mem_map_of_mem hp)⟩) (hold _ st hrest) ?_)
 intro v h' tk' led' hk hl hP
 obtain ⟨oL, es, ep, hL, hd, hkk, hff⟩ := FG.ns
 refine hQ v h' tk' led' ⟨⟨oL, es, ep, hk _ _ hL, hd, hkk, hff⟩, fun b o e => hk _ _ (FG.keep b o e), FG.above⟩ (fun p hp => ?_) (OffAll.of fun p hp q hq e => ?_) hP
 ·rcases List.mem_append.mp hp with hp | hp
  ·refine ⟨(hl p hp).1, fun e => ?_, ?_⟩
   ·have h1 := (hl p hp).2
    rw [e, hL] at h1; cases h1
   ·cases q : h₀.get? p.1 with
    | none => rfl
    | some o => have h1 := (hl p hp).2; rw [st _ _ q] at h1; cases h1
  ·exact ⟨hk _ _ (hrest p hp), (N p (hsub p hp)).2⟩
 ·have h1 := hrest p hp
  rw [e, (hl q hq).2] at h1; cases h1
abbrev PairQ (a x y b top : Int) (v : Value) (led' : List (Addr × Obj)) : Prop := ∃ D t u nn q r, v = .ref D ∧ led' = [(D, ({ cls := .type "tuple", data := .seq #[.int q t, .int r u] nn } : Obj))] ∧ q = x ∧ r = y ∧ 0 ≤ q ∧ q ≤ top ∧ 0 ≤ r ∧ r < b ∧ r ≤ a
theorem bits_small {x : Int} (h0 : 0 ≤ x) (h1 : x < 2 ^ 40) : (Builtin.Int.intBits x : Int) ≤ 64 := by
 have := intBits_le_64 (k := x) (by kaf_pre) (by kaf_pre)
 kaf_pre
theorem shl_bd {r d n : Int} (hr0 : 0 ≤ r) (hr1 : r < 2 ^ 20) (hn : n ≤ 16) (hd0 : 0 ≤ d) (hd1 : d < 2 ^ 21) : 0 ≤ r * 2 ^ n.toNat + d ∧ r * 2 ^ n.toNat + d < 2 ^ 40 := by
 have h1 : (2 : Int) ^ n.toNat ≤ 2 ^ 16 := by
  have q := Int.ofNat_le.mpr (Nat.pow_le_pow_right (n := 2) (by decide) (show n.toNat ≤ 16 by kaf_pre))
  rw [Int.natCast_pow, Int.natCast_pow] at q
  exact q
 have h0 : (0 : Int) ≤ 2 ^ n.toNat := Int.le_of_lt (Int.pow_pos (by decide))
 have h2 : r * 2 ^ n.toNat ≤ 2 ^ 20 * 2 ^ 16 := Int.mul_le_mul (by kaf_pre) h1 h0 (by decide)
 have h3 : 0 ≤ r * 2 ^ n.toNat := Int.mul_nonneg hr0 h0
 have h4 : (2 : Int) ^ 20 * 2 ^ 16 = 68719476736 := by decide
 kaf_pre
theorem top_bd {x a b : Int} (h : a < 4 * b) (hx : 0 ≤ x) (hxa : x ≤ a) (hb : 0 < b) : x.fdiv b ≤ 3 := by
 rw [Int.fdiv_eq_ediv_of_nonneg x (by kaf_pre)]
 have : x / b < 4 := Int.ediv_lt_of_lt_mul hb (by kaf_pre)
 kaf_pre
theorem turn_bd {r up lo a n : Int} (h : up * 2 ^ n.toNat + lo = a) (hr : r ≤ up) : r * 2 ^ n.toNat + lo ≤ a := by
 have h0 : (0 : Int) ≤ 2 ^ n.toNat := Int.le_of_lt (Int.pow_pos (by decide))
 have := Int.mul_le_mul_of_nonneg_right hr h0
 kaf_pre
theorem fm_facts {a b : Int} (ha : 0 ≤ a) (hb : 0 < b) : 0 ≤ a.fdiv b ∧ 0 ≤ a.fmod b ∧ a.fmod b < b ∧ a.fmod b ≤ a := by
 rw [Int.fdiv_eq_ediv_of_nonneg a (by kaf_pre), Int.fmod_eq_emod_of_nonneg a (by kaf_pre)]
 exact ⟨Int.ediv_nonneg ha (by kaf_pre), Int.emod_nonneg _ (by kaf_pre), Int.emod_lt_of_pos _ hb, by
  have h1 := Int.emod_def a b
  have h2 : 0 ≤ b * (a / b) := Int.mul_nonneg (Int.le_of_lt hb) (Int.ediv_nonneg ha (Int.le_of_lt hb))
  kaf_pre⟩
theorem deeper_ar (dp un : Nat) (gd : Option (List Code)) (outer : List Env) (env : Env) : (arX dp un gd outer).deeper env = arX (dp + 1) (un + 3) gd (env :: outer) := rfl
theorem deeper_ar2 (dp un : Nat) (gd : Option (List Code)) (outer : List Env) (e1 e2 : Env) : ((arX dp un gd outer).deeper e1).deeper e2 = arX (dp + 2) (un + 6) gd (e2 :: e1 :: outer) := rfl
theorem envOf_frame (n : Str) (sc : Scope) (L f : Addr) (cd : Value) : (envOf n sc L f cd).frame = some L := rfl
theorem envOfC_frame (n : Str) (sc : Scope) (L f : Addr) (cd : Value) : (envOfC n sc L f cd).frame = some L := rfl
theorem envX_frame (n : Str) (sc : Scope) (L f : Addr) (cd : Value) (cl : List (Str × Addr)) : (envX n sc L f cd cl).frame = some L := rfl
theorem envOf_kind (n : Str) (sc : Scope) (L f : Addr) (cd : Value) (h : sc.kind = .function) : (envOf n sc L f cd).scope.kind = .function := h
theorem envOfC_kind (n : Str) (sc : Scope) (L f : Addr) (cd : Value) (h : sc.kind = .function) : (envOfC n sc L f cd).scope.kind = .function := h
theorem envX_kind (n : Str) (sc : Scope) (L f : Addr) (cd : Value) (cl : List (Str × Addr)) (h : sc.kind = .function) : (envX n sc L f cd cl).scope.kind = .function := h
theorem and_high (a : Int) (k : Nat) (ha : 0 ≤ a) : Builtin.bitAnd a (a.fdiv (2 ^ k) * 2 ^ k) = a.fdiv (2 ^ k) * 2 ^ k := by
 obtain ⟨A, rfl⟩ := Int.eq_ofNat_of_zero_le ha
 have e2 : ((2 : Int) ^ k) = ((2 ^ k : Nat) : Int) := by rw [Int.natCast_pow]; rfl
 have e1 : Int.fdiv (A : Int) (2 ^ k) * 2 ^ k = ((A / 2 ^ k * 2 ^ k : Nat) : Int) := by
  rw [e2, Int.fdiv_eq_ediv_of_nonneg _ (Int.natCast_nonneg _), ← Int.natCast_ediv, ← Int.natCast_mul]
 rw [e1]
 unfold Builtin.bitAnd
 have h1 : decide (0 ≤ (A : Int)) = true := decide_eq_true (Int.natCast_nonneg _)
 have h2 : decide (0 ≤ ((A / 2 ^ k * 2 ^ k : Nat) : Int)) = true := decide_eq_true (Int.natCast_nonneg _)
 rw [h1, h2]
 show (((A : Int).toNat &&& (((A / 2 ^ k * 2 ^ k : Nat)) : Int).toNat : Nat) : Int) = _
 rw [Int.toNat_natCast, Int.toNat_natCast]
 congr 1
 apply Nat.eq_of_testBit_eq
 intro i
 rw [Nat.testBit_and, ← Nat.shiftRight_eq_div_pow, ← Nat.shiftLeft_eq, Nat.testBit_shiftLeft, Nat.testBit_shiftRight]
 by_cases h : k ≤ i
 ·have : k + (i - k) = i := by kaf_pre
  simp [h, this]
 ·simp [h]
theorem xor_low (a n : Int) (ha : 0 ≤ a) : Builtin.bitXor a (a.fdiv (2 ^ n.toNat) * 2 ^ n.toNat) = a - a.fdiv (2 ^ n.toNat) * 2 ^ n.toNat := by
 rw [bitXor_and, and_high a n.toNat ha]
 kaf_pre
theorem low_facts (a n : Int) (ha : 0 ≤ a) : 0 ≤ a - a.fdiv (2 ^ n.toNat) * 2 ^ n.toNat ∧ a - a.fdiv (2 ^ n.toNat) * 2 ^ n.toNat < 2 ^ n.toNat := by
 have hp : (0 : Int) < 2 ^ n.toNat := Int.pow_pos (by decide)
 rw [Int.fdiv_eq_ediv_of_nonneg a (by kaf_pre)]
 have h1 := Int.emod_nonneg a (b := 2 ^ n.toNat) (by kaf_pre)
 have h2 := Int.emod_lt_of_pos a hp
 have h3 := Int.emod_def a (2 ^ n.toNat)
 rw [Int.mul_comm] at h3
 kaf_pre
theorem zero_le_bd {e u : Int} (h : 0 ≤ u) : 0 ≤ 0 * e + u := by rw [Int.zero_mul]; kaf_pre
theorem zero_bd {e u a : Int} (h : u ≤ a) : 0 * e + u ≤ a := by rw [Int.zero_mul]; kaf_pre
theorem Rem.dropM {led r r' : List (Addr × Obj)} {p : Addr × Obj} (_ : p ∈ led) (h : Rem led r r') : Rem led (p :: r) r' := .drop h
theorem dm_math1 {a b e q r : Int} (ha : 0 ≤ a) (hb : 0 < b) (hq : q = (0 * e + a).fdiv b) (hr : r = (0 * e + a).fmod b) : q = a.fdiv b ∧ r = a.fmod b := by
 rw [Int.zero_mul, Int.zero_add] at hq hr
 exact ⟨hq, hr⟩
theorem dm_math2 {a b e lo up q1 r1 q0 r0 : Int} (he : 0 ≤ e) (hb : 0 < b) (hlo : 0 ≤ lo) (hup : 0 ≤ up) (hlu : up * e + lo = a) (hq1 : q1 = (0 * e + up).fdiv b) (hr1 : r1 = (0 * e + up).fmod b)
  (hq0 : q0 = (r1 * e + lo).fdiv b) (hr0 : r0 = (r1 * e + lo).fmod b) : q1 * e + q0 = a.fdiv b ∧ r0 = a.fmod b := by
 rw [Int.zero_mul, Int.zero_add] at hq1 hr1
 have hb0 : 0 ≤ b := by kaf_pre
 rw [Int.fdiv_eq_ediv_of_nonneg _ hb0] at hq1 hq0 ⊢
 rw [Int.fmod_eq_emod_of_nonneg _ hb0] at hr1 hr0 ⊢
 have hd : b * q1 + r1 = up := by rw [hq1, hr1]; exact Int.mul_ediv_add_emod up b
 have ha : a = (r1 * e + lo) + b * (q1 * e) := by
  rw [← hlu, ← hd, Int.add_mul, Int.mul_assoc]; kaf_pre
 rw [ha, Int.add_mul_ediv_left _ _ (by kaf_pre), Int.add_mul_emod_self_left, hq0, hr0]
 exact ⟨by kaf_pre, rfl⟩
end Mine
end
local macro_rules | `(tactic| walk_at $s:str) => `(tactic| k_extra $s)
local macro_rules | `(tactic| keq_hits) => `(tactic| ((with_reducible first | (refine' cu8 ?_; intro hx9 hx9 hx9 hx9 hx9 hx9 hx9 hx9) | (refine' cu4 ?_; intro hx9 hx9 hx9 hx9) | (refine' cu2 ?_; intro hx9 hx9) | (refine' cu1 ?_; intro hx9)); (try (keq_hits))))
local macro_rules | `(tactic| walk_at "my sq") => `(tactic| ((rename OffAll _ _ => h9); (try dsimp only [OffAll, AllNe] at h9); (revert h9); (try (keq_hits)); (intro hx9); (repeat ((with_reducible rename (@Ne Nat _ _ ∧ _) => h9); (revert h9); (keq_hits); (intro hx9))); (walk_at "my un")))
local macro_rules | `(tactic| walk_at "my un") => `(tactic| (repeat ((with_reducible rename True => h9); (clear h9))))
local macro_rules | `(tactic| walk_at "hA") => `(tactic| first | exact deeper_ar _ _ _ _ _ | exact deeper_ar2 _ _ _ _ _ _ | exact rfl)
local macro_rules | `(tactic| walk_at "hf") => `(tactic| first | exact envOf_frame _ _ _ _ _ | exact envOfC_frame _ _ _ _ _ | exact envX_frame _ _ _ _ _ _ | exact rfl)
local macro_rules | `(tactic| walk_at "hke") => `(tactic| first | exact envOf_kind _ _ _ _ _ rfl | exact envOfC_kind _ _ _ _ _ rfl | exact envX_kind _ _ _ _ _ _ rfl | exact rfl)
local macro_rules | `(tactic| walk_at "ka") => `(tactic| k_dflt k_asm)
local macro_rules | `(tactic| walk_at "u9") => `(tactic| ((rename OffAll _ _ => hne9); (rename News _ _ _ _ => N'); (try simp only [List.cons_append, List.nil_append] at N'); (try dsimp only at N'); (walk_at "my hk"); (walk_at "my sq"); (have hkm := HkMark.mk); (try dsimp only)))
local macro_rules | `(tactic| keq_rows) => `(tactic| exact haveI := wne; haveI := sne; haveI := ane; inferInstance)
local macro_rules | `(tactic| kbo_bools) => `(tactic| first | with_reducible assumption | assumption)
local macro_rules | `(tactic| kct_strs) => `(tactic| first | assumption | ((repeat' (with_reducible refine And.intro ?_ ?_)) <;> assumption))
local macro_rules | `(tactic| k_room) => `(tactic| ktr_room)
local macro_rules | `(tactic| k_units) => `(tactic| ktr_units)
local macro_rules | `(tactic| kpc_turns) => `(tactic| first | tb_rel | ((repeat ((with_reducible rename (_ ∧ _) => h9); (haveI hx9 := And.left h9); (haveI hy9 := And.right h9); clear h9)); tb_rel))
local macro_rules | `(tactic| k_ne) => `(tactic| (refine neN ?_; (try dsimp only); kpc_turns))
local macro_rules | `(tactic| size_fits) => `(tactic| exact Nat.le_of_ble_eq_true rfl)
local macro_rules | `(tactic| kp_flats) => `(tactic| ((first | ((refine hk16 (h := ?_)); (generalize hkT16 _ = T9)) | ((refine hk14 (h := ?_)); (generalize hkT14 _ = T9)) | ((refine hk12 (h := ?_)); (generalize hkT12 _ = T9)) | ((refine hk10 (h := ?_)); (generalize hkT10 _ = T9)) | ((refine hk9 (h := ?_)); (generalize hkT9 _ = T9)) | ((refine hk8 (h := ?_)); (generalize hkT8 _ = T9)) | ((refine hk7 (h := ?_)); (generalize hkT7 _ = T9)) | ((refine hk6 (h := ?_)); (generalize hkT6 _ = T9)) | ((refine hk5 (h := ?_)); (generalize hkT5 _ = T9)) | ((refine hk4 (h := ?_)); (generalize hkT4 _ = T9)) | ((refine hk3 (h := ?_)); (generalize hkT3 _ = T9)) | ((refine hk2 (h := ?_)); (generalize hkT2 _ = T9)) | ((refine hk1 (h := ?_)); (generalize hkT1 _ = T9))); (repeat ((generalize pj0 T9 = x9, pj1 T9 = x9, pj2 T9 = x9, pj3 T9 = x9, s4 T9 = U9); (clear T9); (rename _ => T9))); (first | ((generalize pj0 T9 = x9, pj1 T9 = x9, pj2 T9 = x9, lj3 T9 = x9); (clear T9)) | ((generalize pj0 T9 = x9, pj1 T9 = x9, lj2 T9 = x9); (clear T9)) | ((generalize pj0 T9 = x9, lj1 T9 = x9); (clear T9)) | skip)))
local macro_rules | `(tactic| walk_at "my hk") => `(tactic| (k_dflt ((try k_sweep); (try dsimp +zetaDelta only); (repeat ((first | (with_reducible rename ((_ : Nat) < _ ∧ _) => h9) | (with_reducible rename (@Ne Nat _ _ ∧ _) => h9)); (revert h9); (keq_hits); (intro hx9))); (repeat ((rename (_ : Prop) => z9); (fail_if_success (with_reducible have m9 : HkMark := z9)); (revert z9))); (repeat ((rename _ => z9); (fail_if_success (with_reducible have m9 : HkMark := z9)); (first | clear z9 | revert z9))); k_whole; (repeat (kp_flats)); intros; (try k_fold))))
local macro_rules | `(tactic| kpt_turns) => `(tactic| ((try dsimp only); first | exact True.intro | (kpc_turns) | (k_extra "ne2") | omega))
local macro_rules | `(tactic| kfm_turns) => `(tactic| first | exact True.intro | (with_reducible assumption) | (refine' And.intro ?na ?nb; (case na => kpt_turns); (case nb => kfm_turns)) | k_extra "al2")
local macro_rules | `(tactic| kat_tups) => `(tactic| first | exact Rem.nil | (refine' Rem.dropM ?rm ?rb; (case rm => first | k_dflt k_memK | exact List.Mem.head _); (case rb => kat_tups)) | (refine' Rem.keep ?ra ?rb; (case ra => k_dflt (kfm_turns)); (case rb => kat_tups)))
section
namespace Mine
def TS (P : Addr) (ln col : Int) (q : Str) (ps : Array Value) (c : Addr) (o : Obj) : Prop :=
 (ps = #[] ∧ c = P ∧ o = tabObj #[]) ∨ (ps = #[rawInt ln, rawInt col, .ref c] ∧ (∃ vs t, o.data = .fields vs ∧ vs[1]? = some (.str q t)) ∧ @LT.lt Nat _ P c)
abbrev qD : Str := Str.ofString "_digits2int.<locals>.inner"
abbrev qI : Str := Str.ofString "_int2digits.<locals>.inner"
inductive Spl (P : Addr) (ps : Array Value) (c : Addr) (o : Obj) : List (Addr × Obj) → List (Addr × Obj) → Prop
 | base : Spl P ps c o [(P, tabObj ps), (c, o)] []
 | cons {x r pre} : Spl P ps c o r pre → Spl P ps c o (x :: r) (x :: pre)
theorem Spl.eq {P : Addr} {ps : Array Value} {c : Addr} {o : Obj} {l pre : List (Addr × Obj)} (h : Spl P ps c o l pre) : l = pre ++ [(P, tabObj ps), (c, o)] := by
 induction h with
 | base => rfl
 | cons _ ih => rw [ih]; rfl
section
variable {M : Model} {A : Around} {E : Value → Shared → Prop} {s : Shared} {h₀ : Heap} {L a c P : Addr} {m mg mb : Str → Option Value} {cn : Str} {cs : Scope} {ccd : Value} {cl : List (Str × Addr)}
 {p : Program} {loose : List Str} {mean : ExcName → Option Value} {name qual : Str} {params : Arguments} {body : List Stmt} {scope : Scope} {pos : Pos} {firstLine : Nat} {clos : List (Str × Addr)}
theorem def_ts {Q : Value → Shared → Prop} {pre news : List (Addr × Obj)} {ps : Array Value} {c₁ : Addr} {o₁ : Obj} (F : Fr h₀ L s.heap m) (N' : News h₀ L s.heap news) (S : Spl P ps c₁ o₁ news pre) (T : Top p loose mean mg mb h₀) (C : CodeHd h₀ c P) (hcd : ccd = .ref c)
  (hT : TS P pos.line pos.col qual ps c₁ o₁) (hp' : AllNe P pre) (hp1' : AllNe c₁ (pre.take 3))
  (hcl : closureFor scope (envX cn cs L a ccd cl) = pure clos)
  (h : ∀ f c' oc vs t ctv doc h' tk, Fr h₀ L h' m →
   News h₀ L h' ((f, fnMade name qual params body scope clos doc ((mg "__name__").getD .none) c' ctv) :: (pre ++ [(P, tabObj #[rawInt pos.line, rawInt pos.col, .ref c']), (c', oc)])) →
   oc.data = .fields vs → vs[1]? = some (.str qual t) → AllLt f (pre ++ [(P, tabObj #[rawInt pos.line, rawInt pos.col, .ref c']), (c', oc)]) → AllNe c' (pre.take 3) → TS P pos.line pos.col qual #[rawInt pos.line, rawInt pos.col, .ref c'] c' oc → Q (.ref f) { s with heap := h', toks := tk }) :
  wpAny M A (makeFunction name qual params (.stmts body) scope (envX cn cs L a ccd cl) [] [] [] pos firstLine) Q E s := by
 have hp := hp'.mem
 have hp1 := hp1'.mem
 have N : News h₀ L s.heap (pre ++ [(P, tabObj ps), (c₁, o₁)]) := S.eq ▸ N'
 clear hp' hp1'
 have ht0 : TriplesOk ([] : List Value) := True.intro
 have hnf : codeAmong pos ([] : List Value) = none := rfl
 have ht : ∀ c' : Addr, TriplesOk [rawInt pos.line, rawInt pos.col, .ref c'] := fun c' => by simp [TriplesOk, rawInt]
 have hf : ∀ c' : Addr, codeAmong pos [rawInt pos.line, rawInt pos.col, .ref c'] = some (.ref c') := fun c' => by simp [codeAmong, rawInt]
 rcases hT with ⟨rfl, rfl, rfl⟩ | ⟨rfl, ⟨vs, t, hd, hv⟩, hlt⟩
 ·have N1 : News h₀ L s.heap (pre ++ [(c₁, tabObj #[])]) := fun q hq => by
   rcases List.mem_append.mp hq with hq | hq
   ·exact N q (List.mem_append_left _ hq)
   ·exact N q (List.mem_append_right _ (by rw [List.mem_singleton.mp hq]; exact .head _))
  have U : UpdF c₁ (tabObj #[]) (pre ++ [(c₁, tabObj #[])]) (fun o => pre ++ [(c₁, o)]) := by
   clear N N1 h S hp1
   induction pre with
   | nil => exact UpdF.head fun _ hq => nomatch hq
   | cons q r ih => exact UpdF.tail (hp q (.head _)) (ih fun x hx => hp x (.tail _ hx))
  refine nest_K F N1 T C hcd U ht0 hnf hcl fun f c' oc vs t ctv doc h' tk F' N' d1 d2 l1 l2 => ?_
  have lP : @LT.lt Nat _ c₁ c' := l1 (c₁, tabObj #[]) (List.mem_append_right _ (.head _))
  refine h f c' oc vs t ctv doc h' tk F' (fun q hq => ?_) d1 d2 (allLt_of fun q hq => ?_) (AllNe.of fun q hq => Nat.ne_of_lt (l1 q (List.mem_append_left _ (List.mem_of_mem_take hq)))) (.inr ⟨rfl, ⟨vs, t, d1, d2⟩, lP⟩)
  ·rcases List.mem_cons.mp hq with rfl | hq
   ·exact N' _ (.head _)
   ·rcases List.mem_append.mp hq with hq | hq
    ·exact N' _ (.tail _ (.tail _ (List.mem_append_left _ hq)))
    ·rcases List.mem_cons.mp hq with rfl | hq
     ·exact N' _ (.tail _ (.tail _ (List.mem_append_right _ (.head _))))
     ·rw [List.mem_singleton.mp hq]
      exact N' _ (.tail _ (.head _))
  ·rcases List.mem_append.mp hq with hq | hq
   ·exact Nat.lt_trans (l1 q (List.mem_append_left _ hq)) l2
   ·rcases List.mem_cons.mp hq with rfl | hq
    ·exact Nat.lt_trans lP l2
    ·rw [List.mem_singleton.mp hq]; exact l2
 ·refine nestHit_K F N T C hcd (List.mem_append_right _ (.head _)) (ht c₁) (hf c₁) hcl fun f ctv doc h' tk F' N' l1 => ?_
  exact h f c₁ o₁ vs t ctv doc h' tk F' N' hd hv (allLt_of l1) (AllNe.of hp1) (.inr ⟨rfl, ⟨vs, t, hd, hv⟩, hlt⟩)
end
abbrev DP (l : Addr) (vs : List Value) (nn : Nat) (x : Int) (v : Value) (led' : List (Addr × Obj)) : Prop :=
 ∃ t ps c o, v = .int x t ∧ led' = [(l, listOf vs.toArray nn), (61, tabObj ps), (c, o)] ∧ TS 61 51 4 qD ps c o
theorem d2i_endT {R : Result → Shared → Prop} {s : Shared} {g h' : Heap} {L l c : Addr} {m : Str → Option Value} {news : List (Addr × Obj)} {vs : List Value} {nn tk : Nat} {x y : Int} {t : Tok} {ps : Array Value} {o : Obj}
  (hret : RetG R s g (DP l vs nn y)) (e : x = y) (F : Fr g L h' m) (N : News g L h' news) (hT : TS 61 51 4 qD ps c o) (hl : (l, listOf vs.toArray nn) ∈ news) (hp : (61, tabObj ps) ∈ news) (hc : (c, o) ∈ news) : R (.ok (.ret (.int x t))) { s with heap := h', toks := tk } := by
 subst e
 exact ret_end hret F N (List.forall_mem_cons.mpr ⟨hl, List.forall_mem_cons.mpr ⟨hp, List.forall_mem_cons.mpr ⟨hc, List.forall_mem_nil _⟩⟩⟩) ⟨t, ps, c, o, rfl, rfl, hT⟩
abbrev IP (lst : Tok → Tok → Array Value) (v : Value) (led' : List (Addr × Obj)) : Prop :=
 ∃ D nn t0 t1 ps c o, v = .ref D ∧ led' = [(D, listOf (lst t0 t1) nn), (54, tabObj ps), (c, o)] ∧ TS 54 36 4 qI ps c o ∧ @Ne Nat 54 D ∧ @Ne Nat c D
theorem i2d_endT {R : Result → Shared → Prop} {s : Shared} {g h' : Heap} {L D c : Addr} {m : Str → Option Value} {news : List (Addr × Obj)} {o : Obj} (t0 t1 : Tok) {tk nn : Nat} {ps arr : Array Value} {lst : Tok → Tok → Array Value}
  (hret : RetG R s g (IP lst)) (F : Fr g L h' m) (N : News g L h' news) (hD : (D, listOf arr nn) ∈ news) (harr : arr = lst t0 t1) (hT : TS 54 36 4 qI ps c o) (hp : (54, tabObj ps) ∈ news) (hc : (c, o) ∈ news) (n1 : @Ne Nat 54 D) (n2 : @Ne Nat c D) : R (.ok (.ret (.ref D))) { s with heap := h', toks := tk } := by
 subst harr
 exact ret_end hret F N (List.forall_mem_cons.mpr ⟨hD, List.forall_mem_cons.mpr ⟨hp, List.forall_mem_cons.mpr ⟨hc, List.forall_mem_nil _⟩⟩⟩) ⟨D, nn, t0, t1, ps, c, o, rfl, rfl, hT, n1, n2⟩
end Mine
end
local macro_rules | `(tactic| walk_at "my spl") => `(tactic| first | exact Spl.base | (refine' Spl.cons ?sa; (case sa => walk_at "my spl")))
section
namespace Mine
theorem d2i_0 : ∀ (w : World) (loose : List Str) (mean : ExcName → Option Value) (mg mb : Str → Option Value) (dp un : Nat) (gd : Option (List Code)) (outer : List Env) (base g : Heap) (s : Shared) (R : Result → Shared → Prop) (l : Addr) (nn : Nat) (n : Int) (tn : Tok) (p6 : Array Value) (c6 : Addr) (o6 : Obj) 
  (B : Below (arX dp un gd outer) base outer g) (X : (hd.heap_1 w.params).In g) (T : Top topProg loose mean mg mb g) (hkg : ∀ b o, g.get? b = some o → s.heap.get? b = some o) (hsz : g.objs.size ≤ s.heap.objs.size) (hdp : dp + 60 < recursionLimit) (hun : un + 400 < cLine) (hled : ∀ p ∈ ([(l, listOf ([] : List Value).toArray nn), (61, tabObj p6), (c6, o6)] : List (Addr × Obj)), s.heap.get? p.1 = some p.2 ∧ g.get? p.1 = none) (hne : @Ne Nat l 61) (hT6 : TS 61 51 4 qD p6 c6 o6) (hn : 0 ≤ n ∧ n ≤ 16) 
  (hret : RetG R s g (DP l [] nn (0))),
  codeAny (model PySem.Challenge.rw_sn0104_01.row.toRowW.prog w) (arX dp un gd outer) (.call (.ref 66) ⟨[.ref l, .int n tn], []⟩) R s := by
 k_with_none
 k_with "exec FunctionDef" => (k_here; kn_here; k_dflt (refine' nestDef_K ?zqd0 ?zqk0 ?zqa0 ?_; (case zqd0 => exact rfl); (case zqk0 => exact rfl); (case zqa0 => exact rfl)); (k_dflt (refine' def_ts ?zqF ?zqN ?zqS ?zqT ?zqC ?zqcd ?zqhT ?zqhp ?zqhp1 ?zqcl ?_; (case zqF => k_asm); (case zqN => k_asm); (case zqS => walk_at "my spl"); (case zqT => k_asm); (case zqcd => exact rfl); (case zqC => kn_code); (case zqhT => assumption); (case zqhp => kfm_turns); (case zqhp1 => kfm_turns); (case zqcl => exact rfl); k_whole); intro f' c' oc' vs' t' ct' dc' h' tk' F' N' d1' d2' l1 ha' hT'; (try simp only [List.cons_append, List.nil_append] at N'); (walk_at "my hk"); (rename AllLt _ _ => l1); (rename AllNe _ _ => ha'); (try simp only [AllNe, List.take, and_true] at ha'); (revert ha'); (try (keq_hits)); (intro hx9); (try simp only [AllLt, List.cons_append, List.nil_append, and_true] at l1); (revert l1); (try (keq_hits)); (intro hx9); (have hkm := HkMark.mk)))
 k_with "call ref" => (k_here; kn_here; k_dflt ((refine wpAny_call ?_; kdv_enter); (walk_at "my hk"); (have hkm := HkMark.mk)))
 k_with "binaryOp LShift int int" => (refine lsh1 (by decide) (by omega) (by omega) (by first | omega | (simp; omega)) ?_)
 w_top off
 k_fill
 ((refine hk20 (h := ?_)); (generalize hkT20 _ = T9); (generalize pj0 T9 = w, pj1 T9 = loose, pj2 T9 = mean, pj3 T9 = mg, s4 T9 = U9); (clear T9); (generalize pj0 U9 = mb, pj1 U9 = dp, pj2 U9 = un, pj3 U9 = gd, s4 U9 = T9); (clear U9); (generalize pj0 T9 = outer, pj1 T9 = base, pj2 T9 = g, pj3 T9 = s, s4 T9 = U9); (clear T9); (generalize pj0 U9 = R, pj1 U9 = l, pj2 U9 = nn, pj3 U9 = n, s4 U9 = T9); (clear U9); (generalize pj0 T9 = tn, pj1 T9 = p6, pj2 T9 = c6, lj3 T9 = o6); (clear T9); intro B X T hkg hsz hdp hun hled hne hT6 hn hret)
 have C := codeHd_of_K (c := 65) (P := 61) X (by kernel_rfl)
 k_dflt (refine' enterC (led := [(l, listOf ([] : List Value).toArray nn), (61, tabObj p6), (c6, o6)]) hkg hsz ?kl ?k3 ?k5 ?k6 ?k7 ?k8 ?k9 ?kB ?kN ?_ ?c2 ?c3 ?c4; (case kl => exact hled); (case k3 => k_asm); (case k5 => k_asm); (case k6 => k_is); (case k7 => k_is); (case k8 => ktr_room); (case k9 => exact BindsTo.of_eq rfl); (case kN => decide +kernel); (case kB => exact rfl); (case c2 => exact rfl); (case c3 => exact rfl); (case c4 => exact rfl); k_whole; intro L' h' tk' cells' F' N' Y' l1; (first | ((revert N' l1); (revert cells'); (refine cellsK1 ?_); intro o0' hd0' N' l1; ((revert l1); (revert N'); (revert hd0'); (revert F'); (revert o0'); (revert tk'); (revert h'); (revert L'); ((refine hk4 (h := ?_)); (generalize hkT4 _ = T9); (generalize pj0 T9 = L', pj1 T9 = h', pj2 T9 = tk', lj3 T9 = o0'); (clear T9); intro F' hd0' N' l1))) | ((revert N' l1); (revert cells'); (refine cellsK2 ?_); intro o0' o1' hd0' hd1' N' l1; ((revert l1); (revert N'); (revert hd1'); (revert hd0'); (revert F'); (revert o1'); (revert o0'); (revert tk'); (revert h'); (revert L'); ((refine hk5 (h := ?_)); (generalize hkT5 _ = T9); (generalize pj0 T9 = L', pj1 T9 = h', pj2 T9 = tk', pj3 T9 = o0', s4 T9 = o1'); (clear T9); intro F' hd0' hd1' N' l1))) | ((revert N' l1); (revert cells'); (refine cellsK3 ?_); intro o0' o1' o2' hd0' hd1' hd2' N' l1; ((revert l1); (revert N'); (revert hd2'); (revert hd1'); (revert hd0'); (revert F'); (revert o2'); (revert o1'); (revert o0'); (revert tk'); (revert h'); (revert L'); ((refine hk6 (h := ?_)); (generalize hkT6 _ = T9); (generalize pj0 T9 = L', pj1 T9 = h', pj2 T9 = tk', pj3 T9 = o0', s4 T9 = U9); (clear T9); (generalize pj0 U9 = o1', lj1 U9 = o2'); (clear U9); intro F' hd0' hd1' hd2' N' l1))) | ((revert N' l1); (revert cells'); (refine cellsK4 ?_); intro o0' o1' o2' o3' hd0' hd1' hd2' hd3' N' l1; ((revert l1); (revert N'); (revert hd3'); (revert hd2'); (revert hd1'); (revert hd0'); (revert F'); (revert o3'); (revert o2'); (revert o1'); (revert o0'); (revert tk'); (revert h'); (revert L'); ((refine hk7 (h := ?_)); (generalize hkT7 _ = T9); (generalize pj0 T9 = L', pj1 T9 = h', pj2 T9 = tk', pj3 T9 = o0', s4 T9 = U9); (clear T9); (generalize pj0 U9 = o1', pj1 U9 = o2', lj2 U9 = o3'); (clear U9); intro F' hd0' hd1' hd2' hd3' N' l1))) | ((revert N' l1); (revert cells'); (refine cellsK5 ?_); intro o0' o1' o2' o3' o4' hd0' hd1' hd2' hd3' hd4' N' l1; ((revert l1); (revert N'); (revert hd4'); (revert hd3'); (revert hd2'); (revert hd1'); (revert hd0'); (revert F'); (revert o4'); (revert o3'); (revert o2'); (revert o1'); (revert o0'); (revert tk'); (revert h'); (revert L'); ((refine hk8 (h := ?_)); (generalize hkT8 _ = T9); (generalize pj0 T9 = L', pj1 T9 = h', pj2 T9 = tk', pj3 T9 = o0', s4 T9 = U9); (clear T9); (generalize pj0 U9 = o1', pj1 U9 = o2', pj2 U9 = o3', lj3 U9 = o4'); (clear U9); intro F' hd0' hd1' hd2' hd3' hd4' N' l1))) | ((revert N' l1); (revert cells'); (refine cellsK6 ?_); intro o0' o1' o2' o3' o4' o5' hd0' hd1' hd2' hd3' hd4' hd5' N' l1; ((revert l1); (revert N'); (revert hd5'); (revert hd4'); (revert hd3'); (revert hd2'); (revert hd1'); (revert hd0'); (revert F'); (revert o5'); (revert o4'); (revert o3'); (revert o2'); (revert o1'); (revert o0'); (revert tk'); (revert h'); (revert L'); ((refine hk9 (h := ?_)); (generalize hkT9 _ = T9); (generalize pj0 T9 = L', pj1 T9 = h', pj2 T9 = tk', pj3 T9 = o0', s4 T9 = U9); (clear T9); (generalize pj0 U9 = o1', pj1 U9 = o2', pj2 U9 = o3', pj3 U9 = o4', s4 U9 = o5'); (clear U9); intro F' hd0' hd1' hd2' hd3' hd4' hd5' N' l1)))); (try simp only [List.cons_append, List.nil_append] at N'); (try k_lt l1); (try dsimp only); (try k_fold); (have hkm := HkMark.mk))
 w_strict k_steps
 all_goals first | exact d2i_endT hret (by first | rfl | (simp; done) | (simp; omega)) (by assumption) (by assumption) (by assumption) (by k_mem) (by k_mem) (by k_mem) | w_report

end Mine
end
section
namespace Mine
theorem d2i_1 : ∀ (w : World) (loose : List Str) (mean : ExcName → Option Value) (mg mb : Str → Option Value) (dp un : Nat) (gd : Option (List Code)) (outer : List Env) (base g : Heap) (s : Shared) (R : Result → Shared → Prop) (l : Addr) (nn : Nat) (n : Int) (tn : Tok) (p6 : Array Value) (c6 : Addr) (o6 : Obj) (d0 : Int) (t0 : Tok)
  (B : Below (arX dp un gd outer) base outer g) (X : (hd.heap_1 w.params).In g) (T : Top topProg loose mean mg mb g) (hkg : ∀ b o, g.get? b = some o → s.heap.get? b = some o) (hsz : g.objs.size ≤ s.heap.objs.size) (hdp : dp + 60 < recursionLimit) (hun : un + 400 < cLine) (hled : ∀ p ∈ ([(l, listOf ([.int d0 t0] : List Value).toArray nn), (61, tabObj p6), (c6, o6)] : List (Addr × Obj)), s.heap.get? p.1 = some p.2 ∧ g.get? p.1 = none) (hne : @Ne Nat l 61) (hT6 : TS 61 51 4 qD p6 c6 o6) (hn : 0 ≤ n ∧ n ≤ 16) (hd0 : 0 ≤ d0 ∧ d0 ≤ 3)
  (hret : RetG R s g (DP l [.int d0 t0] nn (d0))),
  codeAny (model PySem.Challenge.rw_sn0104_01.row.toRowW.prog w) (arX dp un gd outer) (.call (.ref 66) ⟨[.ref l, .int n tn], []⟩) R s := by
 k_with_none
 k_with "exec FunctionDef" => (k_here; kn_here; k_dflt (refine' nestDef_K ?zqd0 ?zqk0 ?zqa0 ?_; (case zqd0 => exact rfl); (case zqk0 => exact rfl); (case zqa0 => exact rfl)); (k_dflt (refine' def_ts ?zqF ?zqN ?zqS ?zqT ?zqC ?zqcd ?zqhT ?zqhp ?zqhp1 ?zqcl ?_; (case zqF => k_asm); (case zqN => k_asm); (case zqS => walk_at "my spl"); (case zqT => k_asm); (case zqcd => exact rfl); (case zqC => kn_code); (case zqhT => assumption); (case zqhp => kfm_turns); (case zqhp1 => kfm_turns); (case zqcl => exact rfl); k_whole); intro f' c' oc' vs' t' ct' dc' h' tk' F' N' d1' d2' l1 ha' hT'; (try simp only [List.cons_append, List.nil_append] at N'); (walk_at "my hk"); (rename AllLt _ _ => l1); (rename AllNe _ _ => ha'); (try simp only [AllNe, List.take, and_true] at ha'); (revert ha'); (try (keq_hits)); (intro hx9); (try simp only [AllLt, List.cons_append, List.nil_append, and_true] at l1); (revert l1); (try (keq_hits)); (intro hx9); (have hkm := HkMark.mk)))
 k_with "call ref" => (k_here; kn_here; k_dflt ((refine wpAny_call ?_; kdv_enter); (walk_at "my hk"); (have hkm := HkMark.mk)))
 k_with "binaryOp LShift int int" => (refine lsh1 (by decide) (by omega) (by omega) (by first | omega | (simp; omega)) ?_)
 w_top off
 k_fill
 ((refine hk22 (h := ?_)); (generalize hkT22 _ = T9); (generalize pj0 T9 = w, pj1 T9 = loose, pj2 T9 = mean, pj3 T9 = mg, s4 T9 = U9); (clear T9); (generalize pj0 U9 = mb, pj1 U9 = dp, pj2 U9 = un, pj3 U9 = gd, s4 U9 = T9); (clear U9); (generalize pj0 T9 = outer, pj1 T9 = base, pj2 T9 = g, pj3 T9 = s, s4 T9 = U9); (clear T9); (generalize pj0 U9 = R, pj1 U9 = l, pj2 U9 = nn, pj3 U9 = n, s4 U9 = T9); (clear U9); (generalize pj0 T9 = tn, pj1 T9 = p6, pj2 T9 = c6, pj3 T9 = o6, s4 T9 = U9); (clear T9); (generalize pj0 U9 = d0, lj1 U9 = t0); (clear U9); intro B X T hkg hsz hdp hun hled hne hT6 hn hd0 hret)
 have C := codeHd_of_K (c := 65) (P := 61) X (by kernel_rfl)
 k_dflt (refine' enterC (led := [(l, listOf ([.int d0 t0] : List Value).toArray nn), (61, tabObj p6), (c6, o6)]) hkg hsz ?kl ?k3 ?k5 ?k6 ?k7 ?k8 ?k9 ?kB ?kN ?_ ?c2 ?c3 ?c4; (case kl => exact hled); (case k3 => k_asm); (case k5 => k_asm); (case k6 => k_is); (case k7 => k_is); (case k8 => ktr_room); (case k9 => exact BindsTo.of_eq rfl); (case kN => decide +kernel); (case kB => exact rfl); (case c2 => exact rfl); (case c3 => exact rfl); (case c4 => exact rfl); k_whole; intro L' h' tk' cells' F' N' Y' l1; (first | ((revert N' l1); (revert cells'); (refine cellsK1 ?_); intro o0' hd0' N' l1; ((revert l1); (revert N'); (revert hd0'); (revert F'); (revert o0'); (revert tk'); (revert h'); (revert L'); ((refine hk4 (h := ?_)); (generalize hkT4 _ = T9); (generalize pj0 T9 = L', pj1 T9 = h', pj2 T9 = tk', lj3 T9 = o0'); (clear T9); intro F' hd0' N' l1))) | ((revert N' l1); (revert cells'); (refine cellsK2 ?_); intro o0' o1' hd0' hd1' N' l1; ((revert l1); (revert N'); (revert hd1'); (revert hd0'); (revert F'); (revert o1'); (revert o0'); (revert tk'); (revert h'); (revert L'); ((refine hk5 (h := ?_)); (generalize hkT5 _ = T9); (generalize pj0 T9 = L', pj1 T9 = h', pj2 T9 = tk', pj3 T9 = o0', s4 T9 = o1'); (clear T9); intro F' hd0' hd1' N' l1))) | ((revert N' l1); (revert cells'); (refine cellsK3 ?_); intro o0' o1' o2' hd0' hd1' hd2' N' l1; ((revert l1); (revert N'); (revert hd2'); (revert hd1'); (revert hd0'); (revert F'); (revert o2'); (revert o1'); (revert o0'); (revert tk'); (revert h'); (revert L'); ((refine hk6 (h := ?_)); (generalize hkT6 _ = T9); (generalize pj0 T9 = L', pj1 T9 = h', pj2 T9 = tk', pj3 T9 = o0', s4 T9 = U9); (clear T9); (generalize pj0 U9 = o1', lj1 U9 = o2'); (clear U9); intro F' hd0' hd1' hd2' N' l1))) | ((revert N' l1); (revert cells'); (refine cellsK4 ?_); intro o0' o1' o2' o3' hd0' hd1' hd2' hd3' N' l1; ((revert l1); (revert N'); (revert hd3'); (revert hd2'); (revert hd1'); (revert hd0'); (revert F'); (revert o3'); (revert o2'); (revert o1'); (revert o0'); (revert tk'); (revert h'); (revert L'); ((refine hk7 (h := ?_)); (generalize hkT7 _ = T9); (generalize pj0 T9 = L', pj1 T9 = h', pj2 T9 = tk', pj3 T9 = o0', s4 T9 = U9); (clear T9); (generalize pj0 U9 = o1', pj1 U9 = o2', lj2 U9 = o3'); (clear U9); intro F' hd0' hd1' hd2' hd3' N' l1))) | ((revert N' l1); (revert cells'); (refine cellsK5 ?_); intro o0' o1' o2' o3' o4' hd0' hd1' hd2' hd3' hd4' N' l1; ((revert l1); (revert N'); (revert hd4'); (revert hd3'); (revert hd2'); (revert hd1'); (revert hd0'); (revert F'); (revert o4'); (revert o3'); (revert o2'); (revert o1'); (revert o0'); (revert tk'); (revert h'); (revert L'); ((refine hk8 (h := ?_)); (generalize hkT8 _ = T9); (generalize pj0 T9 = L', pj1 T9 = h', pj2 T9 = tk', pj3 T9 = o0', s4 T9 = U9); (clear T9); (generalize pj0 U9 = o1', pj1 U9 = o2', pj2 U9 = o3', lj3 U9 = o4'); (clear U9); intro F' hd0' hd1' hd2' hd3' hd4' N' l1))) | ((revert N' l1); (revert cells'); (refine cellsK6 ?_); intro o0' o1' o2' o3' o4' o5' hd0' hd1' hd2' hd3' hd4' hd5' N' l1; ((revert l1); (revert N'); (revert hd5'); (revert hd4'); (revert hd3'); (revert hd2'); (revert hd1'); (revert hd0'); (revert F'); (revert o5'); (revert o4'); (revert o3'); (revert o2'); (revert o1'); (revert o0'); (revert tk'); (revert h'); (revert L'); ((refine hk9 (h := ?_)); (generalize hkT9 _ = T9); (generalize pj0 T9 = L', pj1 T9 = h', pj2 T9 = tk', pj3 T9 = o0', s4 T9 = U9); (clear T9); (generalize pj0 U9 = o1', pj1 U9 = o2', pj2 U9 = o3', pj3 U9 = o4', s4 U9 = o5'); (clear U9); intro F' hd0' hd1' hd2' hd3' hd4' hd5' N' l1)))); (try simp only [List.cons_append, List.nil_append] at N'); (try k_lt l1); (try dsimp only); (try k_fold); (have hkm := HkMark.mk))
 w_strict k_steps
 all_goals first | exact d2i_endT hret (by first | rfl | (simp; done) | (simp; omega)) (by assumption) (by assumption) (by assumption) (by k_mem) (by k_mem) (by k_mem) | w_report

end Mine
end
section
namespace Mine
theorem d2i_2 : ∀ (w : World) (loose : List Str) (mean : ExcName → Option Value) (mg mb : Str → Option Value) (dp un : Nat) (gd : Option (List Code)) (outer : List Env) (base g : Heap) (s : Shared) (R : Result → Shared → Prop) (l : Addr) (nn : Nat) (n : Int) (tn : Tok) (p6 : Array Value) (c6 : Addr) (o6 : Obj) (d0 : Int) (t0 : Tok) (d1 : Int) (t1 : Tok)
  (B : Below (arX dp un gd outer) base outer g) (X : (hd.heap_1 w.params).In g) (T : Top topProg loose mean mg mb g) (hkg : ∀ b o, g.get? b = some o → s.heap.get? b = some o) (hsz : g.objs.size ≤ s.heap.objs.size) (hdp : dp + 60 < recursionLimit) (hun : un + 400 < cLine) (hled : ∀ p ∈ ([(l, listOf ([.int d0 t0, .int d1 t1] : List Value).toArray nn), (61, tabObj p6), (c6, o6)] : List (Addr × Obj)), s.heap.get? p.1 = some p.2 ∧ g.get? p.1 = none) (hne : @Ne Nat l 61) (hT6 : TS 61 51 4 qD p6 c6 o6) (hn : 0 ≤ n ∧ n ≤ 16) (hd0 : 0 ≤ d0 ∧ d0 ≤ 3) (hd1 : 0 ≤ d1 ∧ d1 ≤ 3)
  (hret : RetG R s g (DP l [.int d0 t0, .int d1 t1] nn (d1 * 2 ^ n.toNat + d0))),
  codeAny (model PySem.Challenge.rw_sn0104_01.row.toRowW.prog w) (arX dp un gd outer) (.call (.ref 66) ⟨[.ref l, .int n tn], []⟩) R s := by
 k_with_none
 k_with "exec FunctionDef" => (k_here; kn_here; k_dflt (refine' nestDef_K ?zqd0 ?zqk0 ?zqa0 ?_; (case zqd0 => exact rfl); (case zqk0 => exact rfl); (case zqa0 => exact rfl)); (k_dflt (refine' def_ts ?zqF ?zqN ?zqS ?zqT ?zqC ?zqcd ?zqhT ?zqhp ?zqhp1 ?zqcl ?_; (case zqF => k_asm); (case zqN => k_asm); (case zqS => walk_at "my spl"); (case zqT => k_asm); (case zqcd => exact rfl); (case zqC => kn_code); (case zqhT => assumption); (case zqhp => kfm_turns); (case zqhp1 => kfm_turns); (case zqcl => exact rfl); k_whole); intro f' c' oc' vs' t' ct' dc' h' tk' F' N' d1' d2' l1 ha' hT'; (try simp only [List.cons_append, List.nil_append] at N'); (walk_at "my hk"); (rename AllLt _ _ => l1); (rename AllNe _ _ => ha'); (try simp only [AllNe, List.take, and_true] at ha'); (revert ha'); (try (keq_hits)); (intro hx9); (try simp only [AllLt, List.cons_append, List.nil_append, and_true] at l1); (revert l1); (try (keq_hits)); (intro hx9); (have hkm := HkMark.mk)))
 k_with "call ref" => (k_here; kn_here; k_dflt ((refine wpAny_call ?_; kdv_enter); (walk_at "my hk"); (have hkm := HkMark.mk)))
 k_with "binaryOp LShift int int" => (refine lsh1 (by decide) (by omega) (by omega) (by first | omega | (simp; omega)) ?_)
 w_top off
 k_fill
 ((refine hk24 (h := ?_)); (generalize hkT24 _ = T9); (generalize pj0 T9 = w, pj1 T9 = loose, pj2 T9 = mean, pj3 T9 = mg, s4 T9 = U9); (clear T9); (generalize pj0 U9 = mb, pj1 U9 = dp, pj2 U9 = un, pj3 U9 = gd, s4 U9 = T9); (clear U9); (generalize pj0 T9 = outer, pj1 T9 = base, pj2 T9 = g, pj3 T9 = s, s4 T9 = U9); (clear T9); (generalize pj0 U9 = R, pj1 U9 = l, pj2 U9 = nn, pj3 U9 = n, s4 U9 = T9); (clear U9); (generalize pj0 T9 = tn, pj1 T9 = p6, pj2 T9 = c6, pj3 T9 = o6, s4 T9 = U9); (clear T9); (generalize pj0 U9 = d0, pj1 U9 = t0, pj2 U9 = d1, lj3 U9 = t1); (clear U9); intro B X T hkg hsz hdp hun hled hne hT6 hn hd0 hd1 hret)
 have C := codeHd_of_K (c := 65) (P := 61) X (by kernel_rfl)
 k_dflt (refine' enterC (led := [(l, listOf ([.int d0 t0, .int d1 t1] : List Value).toArray nn), (61, tabObj p6), (c6, o6)]) hkg hsz ?kl ?k3 ?k5 ?k6 ?k7 ?k8 ?k9 ?kB ?kN ?_ ?c2 ?c3 ?c4; (case kl => exact hled); (case k3 => k_asm); (case k5 => k_asm); (case k6 => k_is); (case k7 => k_is); (case k8 => ktr_room); (case k9 => exact BindsTo.of_eq rfl); (case kN => decide +kernel); (case kB => exact rfl); (case c2 => exact rfl); (case c3 => exact rfl); (case c4 => exact rfl); k_whole; intro L' h' tk' cells' F' N' Y' l1; (first | ((revert N' l1); (revert cells'); (refine cellsK1 ?_); intro o0' hd0' N' l1; ((revert l1); (revert N'); (revert hd0'); (revert F'); (revert o0'); (revert tk'); (revert h'); (revert L'); ((refine hk4 (h := ?_)); (generalize hkT4 _ = T9); (generalize pj0 T9 = L', pj1 T9 = h', pj2 T9 = tk', lj3 T9 = o0'); (clear T9); intro F' hd0' N' l1))) | ((revert N' l1); (revert cells'); (refine cellsK2 ?_); intro o0' o1' hd0' hd1' N' l1; ((revert l1); (revert N'); (revert hd1'); (revert hd0'); (revert F'); (revert o1'); (revert o0'); (revert tk'); (revert h'); (revert L'); ((refine hk5 (h := ?_)); (generalize hkT5 _ = T9); (generalize pj0 T9 = L', pj1 T9 = h', pj2 T9 = tk', pj3 T9 = o0', s4 T9 = o1'); (clear T9); intro F' hd0' hd1' N' l1))) | ((revert N' l1); (revert cells'); (refine cellsK3 ?_); intro o0' o1' o2' hd0' hd1' hd2' N' l1; ((revert l1); (revert N'); (revert hd2'); (revert hd1'); (revert hd0'); (revert F'); (revert o2'); (revert o1'); (revert o0'); (revert tk'); (revert h'); (revert L'); ((refine hk6 (h := ?_)); (generalize hkT6 _ = T9); (generalize pj0 T9 = L', pj1 T9 = h', pj2 T9 = tk', pj3 T9 = o0', s4 T9 = U9); (clear T9); (generalize pj0 U9 = o1', lj1 U9 = o2'); (clear U9); intro F' hd0' hd1' hd2' N' l1))) | ((revert N' l1); (revert cells'); (refine cellsK4 ?_); intro o0' o1' o2' o3' hd0' hd1' hd2' hd3' N' l1; ((revert l1); (revert N'); (revert hd3'); (revert hd2'); (revert hd1'); (revert hd0'); (revert F'); (revert o3'); (revert o2'); (revert o1'); (revert o0'); (revert tk'); (revert h'); (revert L'); ((refine hk7 (h := ?_)); (generalize hkT7 _ = T9); (generalize pj0 T9 = L', pj1 T9 = h', pj2 T9 = tk', pj3 T9 = o0', s4 T9 = U9); (clear T9); (generalize pj0 U9 = o1', pj1 U9 = o2', lj2 U9 = o3'); (clear U9); intro F' hd0' hd1' hd2' hd3' N' l1))) | ((revert N' l1); (revert cells'); (refine cellsK5 ?_); intro o0' o1' o2' o3' o4' hd0' hd1' hd2' hd3' hd4' N' l1; ((revert l1); (revert N'); (revert hd4'); (revert hd3'); (revert hd2'); (revert hd1'); (revert hd0'); (revert F'); (revert o4'); (revert o3'); (revert o2'); (revert o1'); (revert o0'); (revert tk'); (revert h'); (revert L'); ((refine hk8 (h := ?_)); (generalize hkT8 _ = T9); (generalize pj0 T9 = L', pj1 T9 = h', pj2 T9 = tk', pj3 T9 = o0', s4 T9 = U9); (clear T9); (generalize pj0 U9 = o1', pj1 U9 = o2', pj2 U9 = o3', lj3 U9 = o4'); (clear U9); intro F' hd0' hd1' hd2' hd3' hd4' N' l1))) | ((revert N' l1); (revert cells'); (refine cellsK6 ?_); intro o0' o1' o2' o3' o4' o5' hd0' hd1' hd2' hd3' hd4' hd5' N' l1; ((revert l1); (revert N'); (revert hd5'); (revert hd4'); (revert hd3'); (revert hd2'); (revert hd1'); (revert hd0'); (revert F'); (revert o5'); (revert o4'); (revert o3'); (revert o2'); (revert o1'); (revert o0'); (revert tk'); (revert h'); (revert L'); ((refine hk9 (h := ?_)); (generalize hkT9 _ = T9); (generalize pj0 T9 = L', pj1 T9 = h', pj2 T9 = tk', pj3 T9 = o0', s4 T9 = U9); (clear T9); (generalize pj0 U9 = o1', pj1 U9 = o2', pj2 U9 = o3', pj3 U9 = o4', s4 U9 = o5'); (clear U9); intro F' hd0' hd1' hd2' hd3' hd4' hd5' N' l1)))); (try simp only [List.cons_append, List.nil_append] at N'); (try k_lt l1); (try dsimp only); (try k_fold); (have hkm := HkMark.mk))
 w_strict k_steps
 all_goals first | exact d2i_endT hret (by first | rfl | (simp; done) | (simp; omega)) (by assumption) (by assumption) (by assumption) (by k_mem) (by k_mem) (by k_mem) | w_report

end Mine
end
section
namespace Mine
theorem d2i_3 : ∀ (w : World) (loose : List Str) (mean : ExcName → Option Value) (mg mb : Str → Option Value) (dp un : Nat) (gd : Option (List Code)) (outer : List Env) (base g : Heap) (s : Shared) (R : Result → Shared → Prop) (l : Addr) (nn : Nat) (tn : Tok) (p6 : Array Value) (c6 : Addr) (o6 : Obj) (d0 : Int) (t0 : Tok) (d1 : Int) (t1 : Tok) (d2 : Int) (t2 : Tok)
  (B : Below (arX dp un gd outer) base outer g) (X : (hd.heap_1 w.params).In g) (T : Top topProg loose mean mg mb g) (hkg : ∀ b o, g.get? b = some o → s.heap.get? b = some o) (hsz : g.objs.size ≤ s.heap.objs.size) (hdp : dp + 60 < recursionLimit) (hun : un + 400 < cLine) (hled : ∀ p ∈ ([(l, listOf ([.int d0 t0, .int d1 t1, .int d2 t2] : List Value).toArray nn), (61, tabObj p6), (c6, o6)] : List (Addr × Obj)), s.heap.get? p.1 = some p.2 ∧ g.get? p.1 = none) (hne : @Ne Nat l 61) (hT6 : TS 61 51 4 qD p6 c6 o6) (hd0 : 0 ≤ d0 ∧ d0 ≤ 3) (hd1 : 0 ≤ d1 ∧ d1 ≤ 3) (hd2 : 0 ≤ d2 ∧ d2 ≤ 3)
  (hret : RetG R s g (DP l [.int d0 t0, .int d1 t1, .int d2 t2] nn ((d2 * 2 + d1) * 2 + d0))),
  codeAny (model PySem.Challenge.rw_sn0104_01.row.toRowW.prog w) (arX dp un gd outer) (.call (.ref 66) ⟨[.ref l, .int 1 tn], []⟩) R s := by
 k_with_none
 k_with "exec FunctionDef" => (k_here; kn_here; k_dflt (refine' nestDef_K ?zqd0 ?zqk0 ?zqa0 ?_; (case zqd0 => exact rfl); (case zqk0 => exact rfl); (case zqa0 => exact rfl)); (k_dflt (refine' def_ts ?zqF ?zqN ?zqS ?zqT ?zqC ?zqcd ?zqhT ?zqhp ?zqhp1 ?zqcl ?_; (case zqF => k_asm); (case zqN => k_asm); (case zqS => walk_at "my spl"); (case zqT => k_asm); (case zqcd => exact rfl); (case zqC => kn_code); (case zqhT => assumption); (case zqhp => kfm_turns); (case zqhp1 => kfm_turns); (case zqcl => exact rfl); k_whole); intro f' c' oc' vs' t' ct' dc' h' tk' F' N' d1' d2' l1 ha' hT'; (try simp only [List.cons_append, List.nil_append] at N'); (walk_at "my hk"); (rename AllLt _ _ => l1); (rename AllNe _ _ => ha'); (try simp only [AllNe, List.take, and_true] at ha'); (revert ha'); (try (keq_hits)); (intro hx9); (try simp only [AllLt, List.cons_append, List.nil_append, and_true] at l1); (revert l1); (try (keq_hits)); (intro hx9); (have hkm := HkMark.mk)))
 k_with "call ref" => (k_here; kn_here; k_dflt ((refine wpAny_call ?_; kdv_enter); (walk_at "my hk"); (have hkm := HkMark.mk)))
 k_with "binaryOp LShift int int" => (refine lsh1 (by decide) (by omega) (by omega) (by first | omega | (simp; omega)) ?_)
 w_top off
 k_fill
 ((refine hk25 (h := ?_)); (generalize hkT25 _ = T9); (generalize pj0 T9 = w, pj1 T9 = loose, pj2 T9 = mean, pj3 T9 = mg, s4 T9 = U9); (clear T9); (generalize pj0 U9 = mb, pj1 U9 = dp, pj2 U9 = un, pj3 U9 = gd, s4 U9 = T9); (clear U9); (generalize pj0 T9 = outer, pj1 T9 = base, pj2 T9 = g, pj3 T9 = s, s4 T9 = U9); (clear T9); (generalize pj0 U9 = R, pj1 U9 = l, pj2 U9 = nn, pj3 U9 = tn, s4 U9 = T9); (clear U9); (generalize pj0 T9 = p6, pj1 T9 = c6, pj2 T9 = o6, pj3 T9 = d0, s4 T9 = U9); (clear T9); (generalize pj0 U9 = t0, pj1 U9 = d1, pj2 U9 = t1, pj3 U9 = d2, s4 U9 = t2); (clear U9); intro B X T hkg hsz hdp hun hled hne hT6 hd0 hd1 hd2 hret)
 have C := codeHd_of_K (c := 65) (P := 61) X (by kernel_rfl)
 k_dflt (refine' enterC (led := [(l, listOf ([.int d0 t0, .int d1 t1, .int d2 t2] : List Value).toArray nn), (61, tabObj p6), (c6, o6)]) hkg hsz ?kl ?k3 ?k5 ?k6 ?k7 ?k8 ?k9 ?kB ?kN ?_ ?c2 ?c3 ?c4; (case kl => exact hled); (case k3 => k_asm); (case k5 => k_asm); (case k6 => k_is); (case k7 => k_is); (case k8 => ktr_room); (case k9 => exact BindsTo.of_eq rfl); (case kN => decide +kernel); (case kB => exact rfl); (case c2 => exact rfl); (case c3 => exact rfl); (case c4 => exact rfl); k_whole; intro L' h' tk' cells' F' N' Y' l1; (first | ((revert N' l1); (revert cells'); (refine cellsK1 ?_); intro o0' hd0' N' l1; ((revert l1); (revert N'); (revert hd0'); (revert F'); (revert o0'); (revert tk'); (revert h'); (revert L'); ((refine hk4 (h := ?_)); (generalize hkT4 _ = T9); (generalize pj0 T9 = L', pj1 T9 = h', pj2 T9 = tk', lj3 T9 = o0'); (clear T9); intro F' hd0' N' l1))) | ((revert N' l1); (revert cells'); (refine cellsK2 ?_); intro o0' o1' hd0' hd1' N' l1; ((revert l1); (revert N'); (revert hd1'); (revert hd0'); (revert F'); (revert o1'); (revert o0'); (revert tk'); (revert h'); (revert L'); ((refine hk5 (h := ?_)); (generalize hkT5 _ = T9); (generalize pj0 T9 = L', pj1 T9 = h', pj2 T9 = tk', pj3 T9 = o0', s4 T9 = o1'); (clear T9); intro F' hd0' hd1' N' l1))) | ((revert N' l1); (revert cells'); (refine cellsK3 ?_); intro o0' o1' o2' hd0' hd1' hd2' N' l1; ((revert l1); (revert N'); (revert hd2'); (revert hd1'); (revert hd0'); (revert F'); (revert o2'); (revert o1'); (revert o0'); (revert tk'); (revert h'); (revert L'); ((refine hk6 (h := ?_)); (generalize hkT6 _ = T9); (generalize pj0 T9 = L', pj1 T9 = h', pj2 T9 = tk', pj3 T9 = o0', s4 T9 = U9); (clear T9); (generalize pj0 U9 = o1', lj1 U9 = o2'); (clear U9); intro F' hd0' hd1' hd2' N' l1))) | ((revert N' l1); (revert cells'); (refine cellsK4 ?_); intro o0' o1' o2' o3' hd0' hd1' hd2' hd3' N' l1; ((revert l1); (revert N'); (revert hd3'); (revert hd2'); (revert hd1'); (revert hd0'); (revert F'); (revert o3'); (revert o2'); (revert o1'); (revert o0'); (revert tk'); (revert h'); (revert L'); ((refine hk7 (h := ?_)); (generalize hkT7 _ = T9); (generalize pj0 T9 = L', pj1 T9 = h', pj2 T9 = tk', pj3 T9 = o0', s4 T9 = U9); (clear T9); (generalize pj0 U9 = o1', pj1 U9 = o2', lj2 U9 = o3'); (clear U9); intro F' hd0' hd1' hd2' hd3' N' l1))) | ((revert N' l1); (revert cells'); (refine cellsK5 ?_); intro o0' o1' o2' o3' o4' hd0' hd1' hd2' hd3' hd4' N' l1; ((revert l1); (revert N'); (revert hd4'); (revert hd3'); (revert hd2'); (revert hd1'); (revert hd0'); (revert F'); (revert o4'); (revert o3'); (revert o2'); (revert o1'); (revert o0'); (revert tk'); (revert h'); (revert L'); ((refine hk8 (h := ?_)); (generalize hkT8 _ = T9); (generalize pj0 T9 = L', pj1 T9 = h', pj2 T9 = tk', pj3 T9 = o0', s4 T9 = U9); (clear T9); (generalize pj0 U9 = o1', pj1 U9 = o2', pj2 U9 = o3', lj3 U9 = o4'); (clear U9); intro F' hd0' hd1' hd2' hd3' hd4' N' l1))) | ((revert N' l1); (revert cells'); (refine cellsK6 ?_); intro o0' o1' o2' o3' o4' o5' hd0' hd1' hd2' hd3' hd4' hd5' N' l1; ((revert l1); (revert N'); (revert hd5'); (revert hd4'); (revert hd3'); (revert hd2'); (revert hd1'); (revert hd0'); (revert F'); (revert o5'); (revert o4'); (revert o3'); (revert o2'); (revert o1'); (revert o0'); (revert tk'); (revert h'); (revert L'); ((refine hk9 (h := ?_)); (generalize hkT9 _ = T9); (generalize pj0 T9 = L', pj1 T9 = h', pj2 T9 = tk', pj3 T9 = o0', s4 T9 = U9); (clear T9); (generalize pj0 U9 = o1', pj1 U9 = o2', pj2 U9 = o3', pj3 U9 = o4', s4 U9 = o5'); (clear U9); intro F' hd0' hd1' hd2' hd3' hd4' hd5' N' l1)))); (try simp only [List.cons_append, List.nil_append] at N'); (try k_lt l1); (try dsimp only); (try k_fold); (have hkm := HkMark.mk))
 w_strict k_steps
 all_goals first | exact d2i_endT hret (by first | rfl | (simp; done) | (simp; omega)) (by assumption) (by assumption) (by assumption) (by k_mem) (by k_mem) (by k_mem) | w_report

end Mine
end
section
namespace Mine
def d2v (n : Int) : List Int → Int
 | [] => 0
 | [a] => a
 | [a, b] => b * 2 ^ n.toNat + a
 | [a, b, c] => (c * 2 + b) * 2 + a
 | _ => 0
theorem d2i_c (w : World) (dp un : Nat) (gd : Option (List Code)) (s : Shared) (l : Addr) (nn : Nat) (vs : List Value) (ns : List Int) (n : Int) (tn : Tok) (ps : Array Value) (c : Addr) (o : Obj)
  (hdp : dp + 60 < recursionLimit) (hun : un + 400 < cLine) (hi : IntsAre vs ns) (hlen : ns.length ≤ 3) (hns : ∀ x ∈ ns, 0 ≤ x ∧ x ≤ 3) (hn : 0 ≤ n ∧ n ≤ 16) (h3 : ns.length = 3 → n = 1) (hne : @Ne Nat l 61) (hts : TS 61 51 4 qD ps c o) :
  Ctr w dp un gd s 66 ⟨[.ref l, .int n tn], []⟩ [(l, listOf vs.toArray nn), (61, tabObj ps), (c, o)] (fun _ => True) (DP l vs nn (d2v n ns)) := by
 intro loose mean mg mb outer base g R B X T hkg hsz hled _ hret
 cases hi with
 | nil => exact d2i_0 w loose mean mg mb dp un gd outer base g s R l nn n tn ps c o B X T hkg hsz hdp hun hled hne hts hn hret
 | @cons n0 t0 _ _ hi =>
  have b0 := hns n0 (.head _)
  cases hi with
  | nil => exact d2i_1 w loose mean mg mb dp un gd outer base g s R l nn n tn ps c o n0 t0 B X T hkg hsz hdp hun hled hne hts hn b0 hret
  | @cons n1 t1 _ _ hi =>
   have b1 := hns n1 (.tail _ (.head _))
   cases hi with
   | nil => exact d2i_2 w loose mean mg mb dp un gd outer base g s R l nn n tn ps c o n0 t0 n1 t1 B X T hkg hsz hdp hun hled hne hts hn b0 b1 hret
   | @cons n2 t2 _ _ hi =>
    have b2 := hns n2 (.tail _ (.tail _ (.head _)))
    cases hi with
    | nil =>
     have e1 : n = 1 := h3 rfl
     subst e1
     exact d2i_3 w loose mean mg mb dp un gd outer base g s R l nn tn ps c o n0 t0 n1 t1 n2 t2 B X T hkg hsz hdp hun hled hne hts b0 b1 b2 hret
    | cons hi => simp only [List.length_cons] at hlen; kaf_pre
abbrev QP (a b : Int) (v : Value) (led' : List (Addr × Obj)) : Prop :=
 ∃ D t u nn p4 c4 o4 p6 c6 o6, v = .ref D ∧ led' = [(D, ({ cls := .type "tuple", data := .seq #[.int (a.fdiv b) t, .int (a.fmod b) u] nn } : Obj)), (54, tabObj p4), (c4, o4), (61, tabObj p6), (c6, o6)] ∧ TS 54 36 4 qI p4 c4 o4 ∧ TS 61 51 4 qD p6 c6 o6 ∧
  @Ne Nat 54 D ∧ @Ne Nat c4 D ∧ @Ne Nat 61 D ∧ @Ne Nat c6 D ∧ @Ne Nat c4 61 ∧ @Ne Nat c6 54 ∧ @Ne Nat c4 c6
theorem dm_end {R : Result → Shared → Prop} {s : Shared} {g h' : Heap} {L D c4 c6 : Addr} {m : Str → Option Value} {news : List (Addr × Obj)} {o4 o6 : Obj} {x y a b : Int} {t u : Tok} {tk nn : Nat} {p4 p6 : Array Value}
  (hret : RetG R s g (QP a b)) (F : Fr g L h' m) (N : News g L h' news) (h4 : TS 54 36 4 qI p4 c4 o4) (h6 : TS 61 51 4 qD p6 c6 o6)
  (m1 : (D, ({ cls := .type "tuple", data := .seq #[.int x t, .int y u] nn } : Obj)) ∈ news) (m2 : (54, tabObj p4) ∈ news) (m3 : (c4, o4) ∈ news) (m4 : (61, tabObj p6) ∈ news) (m5 : (c6, o6) ∈ news)
  (e : x = a.fdiv b ∧ y = a.fmod b) (n1 : @Ne Nat 54 D) (n2 : @Ne Nat c4 D) (n3 : @Ne Nat 61 D) (n4 : @Ne Nat c6 D) (n5 : @Ne Nat c4 61) (n6 : @Ne Nat c6 54) (n7 : @Ne Nat c4 c6) : R (.ok (.ret (.ref D))) { s with heap := h', toks := tk } := by
 obtain ⟨rfl, rfl⟩ := e
 refine ret_end hret F N ?_ ⟨D, t, u, nn, p4, c4, o4, p6, c6, o6, rfl, rfl, h4, h6, n1, n2, n3, n4, n5, n6, n7⟩
 exact List.forall_mem_cons.mpr ⟨m1, List.forall_mem_cons.mpr ⟨m2, List.forall_mem_cons.mpr ⟨m3, List.forall_mem_cons.mpr ⟨m4, List.forall_mem_cons.mpr ⟨m5, List.forall_mem_nil _⟩⟩⟩⟩⟩
theorem dm_m2 {a b n lo up q1 r1 q0 r0 : Int} (hlu : up * 2 ^ n.toNat + lo = a) (hq1 : q1 = (0 * 2 ^ n.toNat + up).fdiv b) (hr1 : r1 = (0 * 2 ^ n.toNat + up).fmod b)
  (hq0 : q0 = (r1 * 2 ^ n.toNat + lo).fdiv b) (hr0 : r0 = (r1 * 2 ^ n.toNat + lo).fmod b) (hb : 0 < b) (hlo : 0 ≤ lo) (hup : 0 ≤ up) : d2v n [q0, q1] = a.fdiv b ∧ r0 = a.fmod b :=
 dm_math2 (Int.le_of_lt (Int.pow_pos (by decide))) hb hlo hup hlu hq1 hr1 hq0 hr0
theorem dm_m1 {a b n q r : Int} (hq : q = (0 * 2 ^ n.toNat + a).fdiv b) (hr : r = (0 * 2 ^ n.toNat + a).fmod b) (ha : 0 ≤ a) (hb : 0 < b) : d2v n [q] = a.fdiv b ∧ r = a.fmod b := dm_math1 ha hb hq hr
theorem dm_m0 {a b n : Int} (ha : a = 0) : d2v n [] = a.fdiv b ∧ 0 = a.fmod b := by
 subst ha
 exact ⟨(Int.zero_fdiv b).symm, (Int.zero_fmod b).symm⟩
end Mine
end
section
namespace Mine
theorem i2d_0 : ∀ (w : World) (loose : List Str) (mean : ExcName → Option Value) (mg mb : Str → Option Value) (dp un : Nat) (gd : Option (List Code)) (outer : List Env) (base g : Heap) (s : Shared) (R : Result → Shared → Prop) (a n : Int) (ta tn : Tok) (p4 : Array Value) (c4 : Addr) (o4 : Obj)
  (B : Below (arX dp un gd outer) base outer g) (X : (hd.heap_1 w.params).In g) (T : Top topProg loose mean mg mb g) (hkg : ∀ b o, g.get? b = some o → s.heap.get? b = some o) (hsz : g.objs.size ≤ s.heap.objs.size) (hdp : dp + 60 < recursionLimit) (hun : un + 400 < cLine) (hled : ∀ p ∈ ([(54, tabObj p4), (c4, o4)] : List (Addr × Obj)), s.heap.get? p.1 = some p.2 ∧ g.get? p.1 = none) (hT4 : TS 54 36 4 qI p4 c4 o4) (hn : 1 ≤ n ∧ n ≤ 16) (ha : 0 ≤ a ∧ a < 2 ^ 20) (hk : Int.fdiv ((Builtin.Int.intBits a : Int) + n - 1) n = 0) (hz : a = 0)
  (hret : RetG R s g (IP fun t0 t1 => #[])),
  codeAny (model PySem.Challenge.rw_sn0104_01.row.toRowW.prog w) (arX dp un gd outer) (.call (.ref 59) ⟨[.int a ta, .int n tn], []⟩) R s := by
 k_with_none
 k_with "exec FunctionDef" => (k_here; kn_here; k_dflt (refine' nestDef_K ?zqd0 ?zqk0 ?zqa0 ?_; (case zqd0 => exact rfl); (case zqk0 => exact rfl); (case zqa0 => exact rfl)); (k_dflt (refine' def_ts ?zqF ?zqN ?zqS ?zqT ?zqC ?zqcd ?zqhT ?zqhp ?zqhp1 ?zqcl ?_; (case zqF => k_asm); (case zqN => k_asm); (case zqS => walk_at "my spl"); (case zqT => k_asm); (case zqcd => exact rfl); (case zqC => kn_code); (case zqhT => assumption); (case zqhp => kfm_turns); (case zqhp1 => kfm_turns); (case zqcl => exact rfl); k_whole); intro f' c' oc' vs' t' ct' dc' h' tk' F' N' d1' d2' l1 ha' hT'; (try simp only [List.cons_append, List.nil_append] at N'); (walk_at "my hk"); (rename AllLt _ _ => l1); (rename AllNe _ _ => ha'); (try simp only [AllNe, List.take, and_true] at ha'); (revert ha'); (try (keq_hits)); (intro hx9); (try simp only [AllLt, List.cons_append, List.nil_append, and_true] at l1); (revert l1); (try (keq_hits)); (intro hx9); (have hkm := HkMark.mk)))
 k_with "call ref" => (k_here; kn_here; k_dflt ((refine wpAny_call ?_; kdv_enter); (walk_at "my hk"); (have hkm := HkMark.mk)))
 k_with "binaryOp LShift int int" => (refine lsh1 (by decide) (by omega) (by omega) (by first | omega | (simp; omega)) ?_)
 k_with "binaryOp RShift int int" => (refine rsh1 (by decide) (by omega) ?_)
 w_top off
 k_fill
 ((refine hk20 (h := ?_)); (generalize hkT20 _ = T9); (generalize pj0 T9 = w, pj1 T9 = loose, pj2 T9 = mean, pj3 T9 = mg, s4 T9 = U9); (clear T9); (generalize pj0 U9 = mb, pj1 U9 = dp, pj2 U9 = un, pj3 U9 = gd, s4 U9 = T9); (clear U9); (generalize pj0 T9 = outer, pj1 T9 = base, pj2 T9 = g, pj3 T9 = s, s4 T9 = U9); (clear T9); (generalize pj0 U9 = R, pj1 U9 = a, pj2 U9 = n, pj3 U9 = ta, s4 U9 = T9); (clear U9); (generalize pj0 T9 = tn, pj1 T9 = p4, pj2 T9 = c4, lj3 T9 = o4); (clear T9); intro B X T hkg hsz hdp hun hled hT4 hn ha hk hz hret)
 have hu := fdiv_pow_le a n ha.1
 have C := codeHd_of_K (c := 58) (P := 54) X (by kernel_rfl)
 k_dflt (refine' enterC (led := [(54, tabObj p4), (c4, o4)]) hkg hsz ?kl ?k3 ?k5 ?k6 ?k7 ?k8 ?k9 ?kB ?kN ?_ ?c2 ?c3 ?c4; (case kl => exact hled); (case k3 => k_asm); (case k5 => k_asm); (case k6 => k_is); (case k7 => k_is); (case k8 => ktr_room); (case k9 => exact BindsTo.of_eq rfl); (case kN => decide +kernel); (case kB => exact rfl); (case c2 => exact rfl); (case c3 => exact rfl); (case c4 => exact rfl); k_whole; intro L' h' tk' cells' F' N' Y' l1; (first | ((revert N' l1); (revert cells'); (refine cellsK1 ?_); intro o0' hd0' N' l1; ((revert l1); (revert N'); (revert hd0'); (revert F'); (revert o0'); (revert tk'); (revert h'); (revert L'); ((refine hk4 (h := ?_)); (generalize hkT4 _ = T9); (generalize pj0 T9 = L', pj1 T9 = h', pj2 T9 = tk', lj3 T9 = o0'); (clear T9); intro F' hd0' N' l1))) | ((revert N' l1); (revert cells'); (refine cellsK2 ?_); intro o0' o1' hd0' hd1' N' l1; ((revert l1); (revert N'); (revert hd1'); (revert hd0'); (revert F'); (revert o1'); (revert o0'); (revert tk'); (revert h'); (revert L'); ((refine hk5 (h := ?_)); (generalize hkT5 _ = T9); (generalize pj0 T9 = L', pj1 T9 = h', pj2 T9 = tk', pj3 T9 = o0', s4 T9 = o1'); (clear T9); intro F' hd0' hd1' N' l1))) | ((revert N' l1); (revert cells'); (refine cellsK3 ?_); intro o0' o1' o2' hd0' hd1' hd2' N' l1; ((revert l1); (revert N'); (revert hd2'); (revert hd1'); (revert hd0'); (revert F'); (revert o2'); (revert o1'); (revert o0'); (revert tk'); (revert h'); (revert L'); ((refine hk6 (h := ?_)); (generalize hkT6 _ = T9); (generalize pj0 T9 = L', pj1 T9 = h', pj2 T9 = tk', pj3 T9 = o0', s4 T9 = U9); (clear T9); (generalize pj0 U9 = o1', lj1 U9 = o2'); (clear U9); intro F' hd0' hd1' hd2' N' l1))) | ((revert N' l1); (revert cells'); (refine cellsK4 ?_); intro o0' o1' o2' o3' hd0' hd1' hd2' hd3' N' l1; ((revert l1); (revert N'); (revert hd3'); (revert hd2'); (revert hd1'); (revert hd0'); (revert F'); (revert o3'); (revert o2'); (revert o1'); (revert o0'); (revert tk'); (revert h'); (revert L'); ((refine hk7 (h := ?_)); (generalize hkT7 _ = T9); (generalize pj0 T9 = L', pj1 T9 = h', pj2 T9 = tk', pj3 T9 = o0', s4 T9 = U9); (clear T9); (generalize pj0 U9 = o1', pj1 U9 = o2', lj2 U9 = o3'); (clear U9); intro F' hd0' hd1' hd2' hd3' N' l1))) | ((revert N' l1); (revert cells'); (refine cellsK5 ?_); intro o0' o1' o2' o3' o4' hd0' hd1' hd2' hd3' hd4' N' l1; ((revert l1); (revert N'); (revert hd4'); (revert hd3'); (revert hd2'); (revert hd1'); (revert hd0'); (revert F'); (revert o4'); (revert o3'); (revert o2'); (revert o1'); (revert o0'); (revert tk'); (revert h'); (revert L'); ((refine hk8 (h := ?_)); (generalize hkT8 _ = T9); (generalize pj0 T9 = L', pj1 T9 = h', pj2 T9 = tk', pj3 T9 = o0', s4 T9 = U9); (clear T9); (generalize pj0 U9 = o1', pj1 U9 = o2', pj2 U9 = o3', lj3 U9 = o4'); (clear U9); intro F' hd0' hd1' hd2' hd3' hd4' N' l1))) | ((revert N' l1); (revert cells'); (refine cellsK6 ?_); intro o0' o1' o2' o3' o4' o5' hd0' hd1' hd2' hd3' hd4' hd5' N' l1; ((revert l1); (revert N'); (revert hd5'); (revert hd4'); (revert hd3'); (revert hd2'); (revert hd1'); (revert hd0'); (revert F'); (revert o5'); (revert o4'); (revert o3'); (revert o2'); (revert o1'); (revert o0'); (revert tk'); (revert h'); (revert L'); ((refine hk9 (h := ?_)); (generalize hkT9 _ = T9); (generalize pj0 T9 = L', pj1 T9 = h', pj2 T9 = tk', pj3 T9 = o0', s4 T9 = U9); (clear T9); (generalize pj0 U9 = o1', pj1 U9 = o2', pj2 U9 = o3', pj3 U9 = o4', s4 U9 = o5'); (clear U9); intro F' hd0' hd1' hd2' hd3' hd4' hd5' N' l1)))); (try simp only [List.cons_append, List.nil_append] at N'); (try k_lt l1); (try dsimp only); (try k_fold); (have hkm := HkMark.mk))
 w_strict k_steps
 all_goals first | (exfalso; exact absurd (by assumption) hz) | exact i2d_endT 0 0 (lst := fun t0 t1 => #[]) hret (by assumption) (by assumption) (by k_mem) (by simp [hk]) (by assumption) (by k_mem) (by k_mem) (by kpt_turns) (by kpt_turns) | w_report

end Mine
end
section
namespace Mine
theorem i2d_1 : ∀ (w : World) (loose : List Str) (mean : ExcName → Option Value) (mg mb : Str → Option Value) (dp un : Nat) (gd : Option (List Code)) (outer : List Env) (base g : Heap) (s : Shared) (R : Result → Shared → Prop) (a n : Int) (ta tn : Tok) (p4 : Array Value) (c4 : Addr) (o4 : Obj)
  (B : Below (arX dp un gd outer) base outer g) (X : (hd.heap_1 w.params).In g) (T : Top topProg loose mean mg mb g) (hkg : ∀ b o, g.get? b = some o → s.heap.get? b = some o) (hsz : g.objs.size ≤ s.heap.objs.size) (hdp : dp + 60 < recursionLimit) (hun : un + 400 < cLine) (hled : ∀ p ∈ ([(54, tabObj p4), (c4, o4)] : List (Addr × Obj)), s.heap.get? p.1 = some p.2 ∧ g.get? p.1 = none) (hT4 : TS 54 36 4 qI p4 c4 o4) (hn : 1 ≤ n ∧ n ≤ 16) (ha : 0 ≤ a ∧ a < 2 ^ 20) (hk : Int.fdiv ((Builtin.Int.intBits a : Int) + n - 1) n = 1) (hz : a ≠ 0)
  (hret : RetG R s g (IP fun t0 t1 => #[.int a t0])),
  codeAny (model PySem.Challenge.rw_sn0104_01.row.toRowW.prog w) (arX dp un gd outer) (.call (.ref 59) ⟨[.int a ta, .int n tn], []⟩) R s := by
 k_with_none
 k_with "exec FunctionDef" => (k_here; kn_here; k_dflt (refine' nestDef_K ?zqd0 ?zqk0 ?zqa0 ?_; (case zqd0 => exact rfl); (case zqk0 => exact rfl); (case zqa0 => exact rfl)); (k_dflt (refine' def_ts ?zqF ?zqN ?zqS ?zqT ?zqC ?zqcd ?zqhT ?zqhp ?zqhp1 ?zqcl ?_; (case zqF => k_asm); (case zqN => k_asm); (case zqS => walk_at "my spl"); (case zqT => k_asm); (case zqcd => exact rfl); (case zqC => kn_code); (case zqhT => assumption); (case zqhp => kfm_turns); (case zqhp1 => kfm_turns); (case zqcl => exact rfl); k_whole); intro f' c' oc' vs' t' ct' dc' h' tk' F' N' d1' d2' l1 ha' hT'; (try simp only [List.cons_append, List.nil_append] at N'); (walk_at "my hk"); (rename AllLt _ _ => l1); (rename AllNe _ _ => ha'); (try simp only [AllNe, List.take, and_true] at ha'); (revert ha'); (try (keq_hits)); (intro hx9); (try simp only [AllLt, List.cons_append, List.nil_append, and_true] at l1); (revert l1); (try (keq_hits)); (intro hx9); (have hkm := HkMark.mk)))
 k_with "call ref" => (k_here; kn_here; k_dflt ((refine wpAny_call ?_; kdv_enter); (walk_at "my hk"); (have hkm := HkMark.mk)))
 k_with "binaryOp LShift int int" => (refine lsh1 (by decide) (by omega) (by omega) (by first | omega | (simp; omega)) ?_)
 k_with "binaryOp RShift int int" => (refine rsh1 (by decide) (by omega) ?_)
 k_with "binaryOp Mult ref int" => (refine mul_known 1 (by assumption) ?_)
 w_top off
 k_fill
 ((refine hk20 (h := ?_)); (generalize hkT20 _ = T9); (generalize pj0 T9 = w, pj1 T9 = loose, pj2 T9 = mean, pj3 T9 = mg, s4 T9 = U9); (clear T9); (generalize pj0 U9 = mb, pj1 U9 = dp, pj2 U9 = un, pj3 U9 = gd, s4 U9 = T9); (clear U9); (generalize pj0 T9 = outer, pj1 T9 = base, pj2 T9 = g, pj3 T9 = s, s4 T9 = U9); (clear T9); (generalize pj0 U9 = R, pj1 U9 = a, pj2 U9 = n, pj3 U9 = ta, s4 U9 = T9); (clear U9); (generalize pj0 T9 = tn, pj1 T9 = p4, pj2 T9 = c4, lj3 T9 = o4); (clear T9); intro B X T hkg hsz hdp hun hled hT4 hn ha hk hz hret)
 have hu := fdiv_pow_le a n ha.1
 have C := codeHd_of_K (c := 58) (P := 54) X (by kernel_rfl)
 k_dflt (refine' enterC (led := [(54, tabObj p4), (c4, o4)]) hkg hsz ?kl ?k3 ?k5 ?k6 ?k7 ?k8 ?k9 ?kB ?kN ?_ ?c2 ?c3 ?c4; (case kl => exact hled); (case k3 => k_asm); (case k5 => k_asm); (case k6 => k_is); (case k7 => k_is); (case k8 => ktr_room); (case k9 => exact BindsTo.of_eq rfl); (case kN => decide +kernel); (case kB => exact rfl); (case c2 => exact rfl); (case c3 => exact rfl); (case c4 => exact rfl); k_whole; intro L' h' tk' cells' F' N' Y' l1; (first | ((revert N' l1); (revert cells'); (refine cellsK1 ?_); intro o0' hd0' N' l1; ((revert l1); (revert N'); (revert hd0'); (revert F'); (revert o0'); (revert tk'); (revert h'); (revert L'); ((refine hk4 (h := ?_)); (generalize hkT4 _ = T9); (generalize pj0 T9 = L', pj1 T9 = h', pj2 T9 = tk', lj3 T9 = o0'); (clear T9); intro F' hd0' N' l1))) | ((revert N' l1); (revert cells'); (refine cellsK2 ?_); intro o0' o1' hd0' hd1' N' l1; ((revert l1); (revert N'); (revert hd1'); (revert hd0'); (revert F'); (revert o1'); (revert o0'); (revert tk'); (revert h'); (revert L'); ((refine hk5 (h := ?_)); (generalize hkT5 _ = T9); (generalize pj0 T9 = L', pj1 T9 = h', pj2 T9 = tk', pj3 T9 = o0', s4 T9 = o1'); (clear T9); intro F' hd0' hd1' N' l1))) | ((revert N' l1); (revert cells'); (refine cellsK3 ?_); intro o0' o1' o2' hd0' hd1' hd2' N' l1; ((revert l1); (revert N'); (revert hd2'); (revert hd1'); (revert hd0'); (revert F'); (revert o2'); (revert o1'); (revert o0'); (revert tk'); (revert h'); (revert L'); ((refine hk6 (h := ?_)); (generalize hkT6 _ = T9); (generalize pj0 T9 = L', pj1 T9 = h', pj2 T9 = tk', pj3 T9 = o0', s4 T9 = U9); (clear T9); (generalize pj0 U9 = o1', lj1 U9 = o2'); (clear U9); intro F' hd0' hd1' hd2' N' l1))) | ((revert N' l1); (revert cells'); (refine cellsK4 ?_); intro o0' o1' o2' o3' hd0' hd1' hd2' hd3' N' l1; ((revert l1); (revert N'); (revert hd3'); (revert hd2'); (revert hd1'); (revert hd0'); (revert F'); (revert o3'); (revert o2'); (revert o1'); (revert o0'); (revert tk'); (revert h'); (revert L'); ((refine hk7 (h := ?_)); (generalize hkT7 _ = T9); (generalize pj0 T9 = L', pj1 T9 = h', pj2 T9 = tk', pj3 T9 = o0', s4 T9 = U9); (clear T9); (generalize pj0 U9 = o1', pj1 U9 = o2', lj2 U9 = o3'); (clear U9); intro F' hd0' hd1' hd2' hd3' N' l1))) | ((revert N' l1); (revert cells'); (refine cellsK5 ?_); intro o0' o1' o2' o3' o4' hd0' hd1' hd2' hd3' hd4' N' l1; ((revert l1); (revert N'); (revert hd4'); (revert hd3'); (revert hd2'); (revert hd1'); (revert hd0'); (revert F'); (revert o4'); (revert o3'); (revert o2'); (revert o1'); (revert o0'); (revert tk'); (revert h'); (revert L'); ((refine hk8 (h := ?_)); (generalize hkT8 _ = T9); (generalize pj0 T9 = L', pj1 T9 = h', pj2 T9 = tk', pj3 T9 = o0', s4 T9 = U9); (clear T9); (generalize pj0 U9 = o1', pj1 U9 = o2', pj2 U9 = o3', lj3 U9 = o4'); (clear U9); intro F' hd0' hd1' hd2' hd3' hd4' N' l1))) | ((revert N' l1); (revert cells'); (refine cellsK6 ?_); intro o0' o1' o2' o3' o4' o5' hd0' hd1' hd2' hd3' hd4' hd5' N' l1; ((revert l1); (revert N'); (revert hd5'); (revert hd4'); (revert hd3'); (revert hd2'); (revert hd1'); (revert hd0'); (revert F'); (revert o5'); (revert o4'); (revert o3'); (revert o2'); (revert o1'); (revert o0'); (revert tk'); (revert h'); (revert L'); ((refine hk9 (h := ?_)); (generalize hkT9 _ = T9); (generalize pj0 T9 = L', pj1 T9 = h', pj2 T9 = tk', pj3 T9 = o0', s4 T9 = U9); (clear T9); (generalize pj0 U9 = o1', pj1 U9 = o2', pj2 U9 = o3', pj3 U9 = o4', s4 U9 = o5'); (clear U9); intro F' hd0' hd1' hd2' hd3' hd4' hd5' N' l1)))); (try simp only [List.cons_append, List.nil_append] at N'); (try k_lt l1); (try dsimp only); (try k_fold); (have hkm := HkMark.mk))
 w_strict k_steps
 all_goals first | (exfalso; exact absurd (by assumption) hz) | exact i2d_endT _ 0 (lst := fun t0 t1 => #[.int a t0]) hret (by assumption) (by assumption) (by k_mem) rfl (by assumption) (by k_mem) (by k_mem) (by kpt_turns) (by kpt_turns) | w_report

end Mine
end
section
namespace Mine
theorem i2d_2 : ∀ (w : World) (loose : List Str) (mean : ExcName → Option Value) (mg mb : Str → Option Value) (dp un : Nat) (gd : Option (List Code)) (outer : List Env) (base g : Heap) (s : Shared) (R : Result → Shared → Prop) (a n : Int) (ta tn : Tok) (p4 : Array Value) (c4 : Addr) (o4 : Obj)
  (B : Below (arX dp un gd outer) base outer g) (X : (hd.heap_1 w.params).In g) (T : Top topProg loose mean mg mb g) (hkg : ∀ b o, g.get? b = some o → s.heap.get? b = some o) (hsz : g.objs.size ≤ s.heap.objs.size) (hdp : dp + 60 < recursionLimit) (hun : un + 400 < cLine) (hled : ∀ p ∈ ([(54, tabObj p4), (c4, o4)] : List (Addr × Obj)), s.heap.get? p.1 = some p.2 ∧ g.get? p.1 = none) (hT4 : TS 54 36 4 qI p4 c4 o4) (hn : 1 ≤ n ∧ n ≤ 16) (ha : 0 ≤ a ∧ a < 2 ^ 20) (hk : Int.fdiv ((Builtin.Int.intBits a : Int) + n - 1) n = 2) (hz : a ≠ 0)
  (hret : RetG R s g (IP fun t0 t1 => #[.int (Builtin.bitXor a (a.fdiv (2 ^ n.toNat) * 2 ^ n.toNat)) t0, .int (a.fdiv (2 ^ n.toNat)) t1])),
  codeAny (model PySem.Challenge.rw_sn0104_01.row.toRowW.prog w) (arX dp un gd outer) (.call (.ref 59) ⟨[.int a ta, .int n tn], []⟩) R s := by
 k_with_none
 k_with "exec FunctionDef" => (k_here; kn_here; k_dflt (refine' nestDef_K ?zqd0 ?zqk0 ?zqa0 ?_; (case zqd0 => exact rfl); (case zqk0 => exact rfl); (case zqa0 => exact rfl)); (k_dflt (refine' def_ts ?zqF ?zqN ?zqS ?zqT ?zqC ?zqcd ?zqhT ?zqhp ?zqhp1 ?zqcl ?_; (case zqF => k_asm); (case zqN => k_asm); (case zqS => walk_at "my spl"); (case zqT => k_asm); (case zqcd => exact rfl); (case zqC => kn_code); (case zqhT => assumption); (case zqhp => kfm_turns); (case zqhp1 => kfm_turns); (case zqcl => exact rfl); k_whole); intro f' c' oc' vs' t' ct' dc' h' tk' F' N' d1' d2' l1 ha' hT'; (try simp only [List.cons_append, List.nil_append] at N'); (walk_at "my hk"); (rename AllLt _ _ => l1); (rename AllNe _ _ => ha'); (try simp only [AllNe, List.take, and_true] at ha'); (revert ha'); (try (keq_hits)); (intro hx9); (try simp only [AllLt, List.cons_append, List.nil_append, and_true] at l1); (revert l1); (try (keq_hits)); (intro hx9); (have hkm := HkMark.mk)))
 k_with "call ref" => (k_here; kn_here; k_dflt ((refine wpAny_call ?_; kdv_enter); (walk_at "my hk"); (have hkm := HkMark.mk)))
 k_with "binaryOp LShift int int" => (refine lsh1 (by decide) (by omega) (by omega) (by first | omega | (simp; omega)) ?_)
 k_with "binaryOp RShift int int" => (refine rsh1 (by decide) (by omega) ?_)
 k_with "binaryOp Mult ref int" => (refine mul_known 2 (by assumption) ?_)
 w_top off
 k_fill
 ((refine hk20 (h := ?_)); (generalize hkT20 _ = T9); (generalize pj0 T9 = w, pj1 T9 = loose, pj2 T9 = mean, pj3 T9 = mg, s4 T9 = U9); (clear T9); (generalize pj0 U9 = mb, pj1 U9 = dp, pj2 U9 = un, pj3 U9 = gd, s4 U9 = T9); (clear U9); (generalize pj0 T9 = outer, pj1 T9 = base, pj2 T9 = g, pj3 T9 = s, s4 T9 = U9); (clear T9); (generalize pj0 U9 = R, pj1 U9 = a, pj2 U9 = n, pj3 U9 = ta, s4 U9 = T9); (clear U9); (generalize pj0 T9 = tn, pj1 T9 = p4, pj2 T9 = c4, lj3 T9 = o4); (clear T9); intro B X T hkg hsz hdp hun hled hT4 hn ha hk hz hret)
 have hu := fdiv_pow_le a n ha.1
 have C := codeHd_of_K (c := 58) (P := 54) X (by kernel_rfl)
 k_dflt (refine' enterC (led := [(54, tabObj p4), (c4, o4)]) hkg hsz ?kl ?k3 ?k5 ?k6 ?k7 ?k8 ?k9 ?kB ?kN ?_ ?c2 ?c3 ?c4; (case kl => exact hled); (case k3 => k_asm); (case k5 => k_asm); (case k6 => k_is); (case k7 => k_is); (case k8 => ktr_room); (case k9 => exact BindsTo.of_eq rfl); (case kN => decide +kernel); (case kB => exact rfl); (case c2 => exact rfl); (case c3 => exact rfl); (case c4 => exact rfl); k_whole; intro L' h' tk' cells' F' N' Y' l1; (first | ((revert N' l1); (revert cells'); (refine cellsK1 ?_); intro o0' hd0' N' l1; ((revert l1); (revert N'); (revert hd0'); (revert F'); (revert o0'); (revert tk'); (revert h'); (revert L'); ((refine hk4 (h := ?_)); (generalize hkT4 _ = T9); (generalize pj0 T9 = L', pj1 T9 = h', pj2 T9 = tk', lj3 T9 = o0'); (clear T9); intro F' hd0' N' l1))) | ((revert N' l1); (revert cells'); (refine cellsK2 ?_); intro o0' o1' hd0' hd1' N' l1; ((revert l1); (revert N'); (revert hd1'); (revert hd0'); (revert F'); (revert o1'); (revert o0'); (revert tk'); (revert h'); (revert L'); ((refine hk5 (h := ?_)); (generalize hkT5 _ = T9); (generalize pj0 T9 = L', pj1 T9 = h', pj2 T9 = tk', pj3 T9 = o0', s4 T9 = o1'); (clear T9); intro F' hd0' hd1' N' l1))) | ((revert N' l1); (revert cells'); (refine cellsK3 ?_); intro o0' o1' o2' hd0' hd1' hd2' N' l1; ((revert l1); (revert N'); (revert hd2'); (revert hd1'); (revert hd0'); (revert F'); (revert o2'); (revert o1'); (revert o0'); (revert tk'); (revert h'); (revert L'); ((refine hk6 (h := ?_)); (generalize hkT6 _ = T9); (generalize pj0 T9 = L', pj1 T9 = h', pj2 T9 = tk', pj3 T9 = o0', s4 T9 = U9); (clear T9); (generalize pj0 U9 = o1', lj1 U9 = o2'); (clear U9); intro F' hd0' hd1' hd2' N' l1))) | ((revert N' l1); (revert cells'); (refine cellsK4 ?_); intro o0' o1' o2' o3' hd0' hd1' hd2' hd3' N' l1; ((revert l1); (revert N'); (revert hd3'); (revert hd2'); (revert hd1'); (revert hd0'); (revert F'); (revert o3'); (revert o2'); (revert o1'); (revert o0'); (revert tk'); (revert h'); (revert L'); ((refine hk7 (h := ?_)); (generalize hkT7 _ = T9); (generalize pj0 T9 = L', pj1 T9 = h', pj2 T9 = tk', pj3 T9 = o0', s4 T9 = U9); (clear T9); (generalize pj0 U9 = o1', pj1 U9 = o2', lj2 U9 = o3'); (clear U9); intro F' hd0' hd1' hd2' hd3' N' l1))) | ((revert N' l1); (revert cells'); (refine cellsK5 ?_); intro o0' o1' o2' o3' o4' hd0' hd1' hd2' hd3' hd4' N' l1; ((revert l1); (revert N'); (revert hd4'); (revert hd3'); (revert hd2'); (revert hd1'); (revert hd0'); (revert F'); (revert o4'); (revert o3'); (revert o2'); (revert o1'); (revert o0'); (revert tk'); (revert h'); (revert L'); ((refine hk8 (h := ?_)); (generalize hkT8 _ = T9); (generalize pj0 T9 = L', pj1 T9 = h', pj2 T9 = tk', pj3 T9 = o0', s4 T9 = U9); (clear T9); (generalize pj0 U9 = o1', pj1 U9 = o2', pj2 U9 = o3', lj3 U9 = o4'); (clear U9); intro F' hd0' hd1' hd2' hd3' hd4' N' l1))) | ((revert N' l1); (revert cells'); (refine cellsK6 ?_); intro o0' o1' o2' o3' o4' o5' hd0' hd1' hd2' hd3' hd4' hd5' N' l1; ((revert l1); (revert N'); (revert hd5'); (revert hd4'); (revert hd3'); (revert hd2'); (revert hd1'); (revert hd0'); (revert F'); (revert o5'); (revert o4'); (revert o3'); (revert o2'); (revert o1'); (revert o0'); (revert tk'); (revert h'); (revert L'); ((refine hk9 (h := ?_)); (generalize hkT9 _ = T9); (generalize pj0 T9 = L', pj1 T9 = h', pj2 T9 = tk', pj3 T9 = o0', s4 T9 = U9); (clear T9); (generalize pj0 U9 = o1', pj1 U9 = o2', pj2 U9 = o3', pj3 U9 = o4', s4 U9 = o5'); (clear U9); intro F' hd0' hd1' hd2' hd3' hd4' hd5' N' l1)))); (try simp only [List.cons_append, List.nil_append] at N'); (try k_lt l1); (try dsimp only); (try k_fold); (have hkm := HkMark.mk))
 w_strict k_steps
 all_goals first | (exfalso; exact absurd (by assumption) hz) | exact i2d_endT _ _ (lst := fun t0 t1 => #[.int (Builtin.bitXor a (a.fdiv (2 ^ n.toNat) * 2 ^ n.toNat)) t0, .int (a.fdiv (2 ^ n.toNat)) t1]) hret (by assumption) (by assumption) (by k_mem) rfl (by assumption) (by k_mem) (by k_mem) (by kpt_turns) (by kpt_turns) | w_report

end Mine
end
section
namespace Mine
theorem div2n1n_w : ∀ (w : World) (loose : List Str) (mean : ExcName → Option Value) (mg mb : Str → Option Value) (dp un : Nat) (gd : Option (List Code)) (outer : List Env) (base g : Heap) (s : Shared) (R : Result → Shared → Prop) (a b n : Int) (ta tb tn : Tok)
  (B : Below (arX dp un gd outer) base outer g) (X : (hd.heap_1 w.params).In g) (T : Top topProg loose mean mg mb g) (hkg : ∀ b o, g.get? b = some o → s.heap.get? b = some o) (hsz : g.objs.size ≤ s.heap.objs.size) (hdp : dp + 60 < recursionLimit) (hun : un + 400 < cLine) (hled : ∀ p ∈ ([] : List (Addr × Obj)), s.heap.get? p.1 = some p.2 ∧ g.get? p.1 = none) (ha : 0 ≤ a ∧ a < 2 ^ 40) (hb : 0 < b ∧ b < 2 ^ 20) (hn : 0 ≤ n ∧ n ≤ 100) (hk : (Builtin.Int.intBits a : Int) - n ≤ 4000)
  (hret : RetG R s g (fun v led' => ∃ (D : Addr) (t u : Tok) (nn : Nat), v = .ref D ∧ led' = [(D, ({ cls := .type "tuple", data := .seq #[.int (a.fdiv b) t, .int (a.fmod b) u] nn } : Obj))])),
  codeAny (model PySem.Challenge.rw_sn0104_01.row.toRowW.prog w) (arX dp un gd outer) (.call (.ref 45) ⟨[.int a ta, .int b tb, .int n tn], []⟩) R s := by
 k_with_none
 w_top off
 k_fill
 ((refine hk19 (h := ?_)); (generalize hkT19 _ = T9); (generalize pj0 T9 = w, pj1 T9 = loose, pj2 T9 = mean, pj3 T9 = mg, s4 T9 = U9); (clear T9); (generalize pj0 U9 = mb, pj1 U9 = dp, pj2 U9 = un, pj3 U9 = gd, s4 U9 = T9); (clear U9); (generalize pj0 T9 = outer, pj1 T9 = base, pj2 T9 = g, pj3 T9 = s, s4 T9 = U9); (clear T9); (generalize pj0 U9 = R, pj1 U9 = a, pj2 U9 = b, pj3 U9 = n, s4 U9 = T9); (clear U9); (generalize pj0 T9 = ta, pj1 T9 = tb, lj2 T9 = tn); (clear T9); intro B X T hkg hsz hdp hun hled ha hb hn hk hret)
 k_dflt (refine' enterG (led := []) hkg hsz ?kl ?k3 ?k5 ?k6 ?k7 ?k8 ?k9 ?kB ?_ ?c2 ?c3 ?c4 ?c5; (case kl => exact hled); (case k3 => k_asm); (case k5 => k_asm); (case k6 => k_is); (case k7 => k_is); (case k8 => ktr_room); (case k9 => first | exact BindsTo.of_eq rfl | exact kp_binds (X.keeps hkg) (fun _ => rfl)); (case c5 => decide); (case kB => exact locs rfl); (case c2 => exact rfl); (case c3 => exact rfl); (case c4 => exact rfl); k_whole; ((refine hk2 (h := ?_)); (generalize hkT2 _ = T9); (generalize pj0 T9 = L', lj1 T9 = h'); (clear T9); intro F' N' l1); (try k_lt l1); (try dsimp only); (try k_fold); (have hkm := HkMark.mk))
 w_strict k_steps
 all_goals exact ret_end hret (by assumption) (by assumption) (fun _ h => h) ⟨_, _, _, _, rfl, rfl⟩
end Mine
end
section
namespace Mine
theorem i2d_c0 (w : World) (dp un : Nat) (gd : Option (List Code)) (s : Shared) (a n : Int) (ta tn : Tok) (ps : Array Value) (c : Addr) (o : Obj)
  (hdp : dp + 60 < recursionLimit) (hun : un + 400 < cLine) (hn : 1 ≤ n ∧ n ≤ 16) (ha : 0 ≤ a ∧ a < 2 ^ 20) (hk : Int.fdiv ((Builtin.Int.intBits a : Int) + n - 1) n = 0) (hz : a = 0) (hts : TS 54 36 4 qI ps c o) :
  Ctr w dp un gd s 59 ⟨[.int a ta, .int n tn], []⟩ [(54, tabObj ps), (c, o)] (fun _ => True) (IP fun t0 t1 => #[]) := by
 intro loose mean mg mb outer base g R B X T hkg hsz hled _ hret
 exact i2d_0 w loose mean mg mb dp un gd outer base g s R a n ta tn ps c o B X T hkg hsz hdp hun hled hts hn ha hk hz hret
theorem i2d_c1 (w : World) (dp un : Nat) (gd : Option (List Code)) (s : Shared) (a n : Int) (ta tn : Tok) (ps : Array Value) (c : Addr) (o : Obj)
  (hdp : dp + 60 < recursionLimit) (hun : un + 400 < cLine) (hn : 1 ≤ n ∧ n ≤ 16) (ha : 0 ≤ a ∧ a < 2 ^ 20) (hk : Int.fdiv ((Builtin.Int.intBits a : Int) + n - 1) n = 1) (hz : a ≠ 0) (hts : TS 54 36 4 qI ps c o) :
  Ctr w dp un gd s 59 ⟨[.int a ta, .int n tn], []⟩ [(54, tabObj ps), (c, o)] (fun _ => True) (IP fun t0 t1 => #[.int a t0]) := by
 intro loose mean mg mb outer base g R B X T hkg hsz hled _ hret
 exact i2d_1 w loose mean mg mb dp un gd outer base g s R a n ta tn ps c o B X T hkg hsz hdp hun hled hts hn ha hk hz hret
theorem i2d_c2 (w : World) (dp un : Nat) (gd : Option (List Code)) (s : Shared) (a n : Int) (ta tn : Tok) (ps : Array Value) (c : Addr) (o : Obj)
  (hdp : dp + 60 < recursionLimit) (hun : un + 400 < cLine) (hn : 1 ≤ n ∧ n ≤ 16) (ha : 0 ≤ a ∧ a < 2 ^ 20) (hk : Int.fdiv ((Builtin.Int.intBits a : Int) + n - 1) n = 2) (hz : a ≠ 0) (hts : TS 54 36 4 qI ps c o) :
  Ctr w dp un gd s 59 ⟨[.int a ta, .int n tn], []⟩ [(54, tabObj ps), (c, o)] (fun _ => True) (IP fun t0 t1 => #[.int (Builtin.bitXor a (a.fdiv (2 ^ n.toNat) * 2 ^ n.toNat)) t0, .int (a.fdiv (2 ^ n.toNat)) t1]) := by
 intro loose mean mg mb outer base g R B X T hkg hsz hled _ hret
 exact i2d_2 w loose mean mg mb dp un gd outer base g s R a n ta tn ps c o B X T hkg hsz hdp hun hled hts hn ha hk hz hret

abbrev tupO (its : Array Value) (n : Nat) : Obj := { cls := .type "tuple", data := .seq its n }
abbrev IP2 (a n : Int) (v : Value) (led' : List (Addr × Obj)) : Prop :=
 ∃ D nn t0 t1 ps c o lo up, v = .ref D ∧ led' = [(D, listOf #[.int lo t0, .int up t1] nn), (54, tabObj ps), (c, o)] ∧ TS 54 36 4 qI ps c o ∧ @Ne Nat 54 D ∧ @Ne Nat c D ∧ lo = a - a.fdiv (2 ^ n.toNat) * 2 ^ n.toNat ∧ up = a.fdiv (2 ^ n.toNat) ∧ 0 ≤ lo ∧ lo < 2 ^ 20 ∧ 0 ≤ up ∧ up ≤ a ∧ up * 2 ^ n.toNat + lo = a
theorem i2d_cc2 (w : World) (dp un : Nat) (gd : Option (List Code)) (s : Shared) (a n : Int) (ta tn : Tok) (ps : Array Value) (c : Addr) (o : Obj)
  (hdp : dp + 60 < recursionLimit) (hun : un + 400 < cLine) (hn : 1 ≤ n ∧ n ≤ 16) (ha : 0 ≤ a ∧ a < 2 ^ 20) (hk : Int.fdiv ((Builtin.Int.intBits a : Int) + n - 1) n = 2) (hz : a ≠ 0) (hts : TS 54 36 4 qI ps c o) :
  Ctr w dp un gd s 59 ⟨[.int a ta, .int n tn], []⟩ [(54, tabObj ps), (c, o)] (fun _ => True) (IP2 a n) := by
 intro loose mean mg mb outer base g R B X T hkg hsz hled hold hret
 refine i2d_c2 w dp un gd s a n ta tn ps c o hdp hun hn ha hk hz hts loose mean mg mb outer base g R B X T hkg hsz hled hold ?_
 rintro v h' tk' led' hk hl ⟨D, nn, t0, t1, ps, c, o, h1, h2, h3, h4, h5⟩
 have f1 := low_facts a n ha.1
 have f2 := fdiv_pow_le a n ha.1
 rw [xor_low a n ha.1] at h2
 have h0 : (0 : Int) ≤ 2 ^ n.toNat := Int.le_of_lt (Int.pow_pos (by decide))
 have h9 := Int.mul_nonneg f2.1 h0
 exact hret v h' tk' led' hk hl ⟨D, nn, t0, t1, ps, c, o, _, _, h1, h2, h3, h4, h5, rfl, rfl, f1.1, by kaf_pre, f2.1, f2.2, by kaf_pre⟩
theorem dn_q (w : World) (dp un : Nat) (gd : Option (List Code)) (s : Shared) (a b n top : Int) (ta tb tn : Tok)
  (hdp : dp + 60 < recursionLimit) (hun : un + 400 < cLine) (ha : 0 ≤ a ∧ a < 2 ^ 40) (hb : 0 < b ∧ b < 2 ^ 20) (hn : 0 ≤ n ∧ n ≤ 100) (htop : a.fdiv b ≤ top) :
  Ctr w dp un gd s 45 ⟨[.int a ta, .int b tb, .int n tn], []⟩ [] (fun _ => True) (PairQ a (a.fdiv b) (a.fmod b) b top) := by
 intro loose mean mg mb outer base g R B X T hkg hsz hled _ hret
 refine div2n1n_w w loose mean mg mb dp un gd outer base g s R a b n ta tb tn B X T hkg hsz hdp hun hled ha hb hn (by have := bits_small ha.1 ha.2; kaf_pre) ?_
 rintro v h' tk' led' hk hl ⟨D, t, u, nn, h1, h2⟩
 have f := fm_facts ha.1 hb.1
 exact hret v h' tk' led' hk hl ⟨D, t, u, nn, _, _, h1, h2, rfl, rfl, f.1, htop, f.2.1, f.2.2.1, f.2.2.2⟩
end Mine
end
section
namespace Mine
theorem dm_0 : ∀ (w : World) (loose : List Str) (mean : ExcName → Option Value) (mg mb : Str → Option Value) (dp un : Nat) (gd : Option (List Code)) (outer : List Env) (base g : Heap) (s : Shared) (R : Result → Shared → Prop) (a b : Int) (ta tb : Tok) (p4 p6 : Array Value) (c4 c6 : Addr) (o4 o6 : Obj)
  (B : Below (arX dp un gd outer) base outer g) (X : (hd.heap_1 w.params).In g) (T : Top topProg loose mean mg mb g) (hkg : ∀ b o, g.get? b = some o → s.heap.get? b = some o) (hsz : g.objs.size ≤ s.heap.objs.size) (hdp : dp + 120 < recursionLimit) (hun : un + 800 < cLine) (hled : ∀ p ∈ ([(54, tabObj p4), (c4, o4), (61, tabObj p6), (c6, o6)] : List (Addr × Obj)), s.heap.get? p.1 = some p.2 ∧ g.get? p.1 = none) (ha : 0 ≤ a ∧ a < 2 ^ 20) (hb : 0 < b ∧ b < 2 ^ 20) (hn : 1 ≤ (Builtin.Int.intBits b : Int) ∧ (Builtin.Int.intBits b : Int) ≤ 16) (hk : Int.fdiv ((Builtin.Int.intBits a : Int) + (Builtin.Int.intBits b : Int) - 1) (Builtin.Int.intBits b : Int) = 0) (hz : a = 0) (hab : a < 4 * b) (hts4 : TS 54 36 4 qI p4 c4 o4) (hts6 : TS 61 51 4 qD p6 c6 o6) (hd1 : @Ne Nat c4 61) (hd2 : @Ne Nat c6 54) (hd3 : @Ne Nat c4 c6)
  (hret : RetG R s g (QP a b)),
  codeAny (model PySem.Challenge.rw_sn0104_01.row.toRowW.prog w) (arX dp un gd outer) (.call (.ref 73) ⟨[.int a ta, .int b tb], []⟩) R s := by
 k_with_none
 k_with "call ref" => ((k_here; k_dflt (refine' use_c ?zqB ?zqF ?zqX ?zqN ?zqT ?zqhA ?zqhf ?zqhke (i2d_c0 _ _ _ _ _ _ _ _ _ _ _ _ ?zqp0 ?zqp1 ?zqp2 ?zqp3 ?zqp4 ?zqp5 ?zqp6) ?zqhled ?zqhrem ?zqhold ?_); (case zqhA => walk_at "hA"); (case zqhf => walk_at "hf"); (case zqhke => walk_at "hke"); (case zqB => walk_at "ka"); (case zqF => walk_at "ka"); (case zqX => walk_at "ka"); (case zqN => walk_at "ka"); (case zqT => walk_at "ka"); (case zqp0 => (k_dflt ((first | omega | ((try dsimp only); omega) | ktr_room)))); (case zqp1 => (k_dflt ((first | omega | ((try dsimp only); omega) | ktr_units)))); (case zqp2 => (k_dflt (omega))); (case zqp3 => (k_dflt (omega))); (case zqp4 => (k_dflt ((kbo_bools)))); (case zqp5 => (k_dflt ((kbo_bools)))); (case zqp6 => (k_dflt ((kbo_bools)))); (case zqhled => (k_dflt (k_allIn))); (case zqhrem => (k_dflt ((first | exact Rem.refl | kat_tups)))); (case zqhold => (k_dflt (exact fun _ _ _ => trivial))); k_whole; intro v9 h' tk' led' F' N' hne9 hP9; obtain ⟨D, nn, t0, t1, ps, c, o, hv9, hl9, hts, hq1, hq2⟩ := hP9; subst hv9 hl9; walk_at "u9"))
 k_with "call ref" => ((k_here; k_dflt (refine' use_c ?zqB ?zqF ?zqX ?zqN ?zqT ?zqhA ?zqhf ?zqhke (dn_q _ _ _ _ _ _ _ _ 3 _ _ _ ?zqp0 ?zqp1 ?zqp2 ?zqp3 ?zqp4 ?zqp5) ?zqhled ?zqhrem ?zqhold ?_); (case zqhA => walk_at "hA"); (case zqhf => walk_at "hf"); (case zqhke => walk_at "hke"); (case zqB => walk_at "ka"); (case zqF => walk_at "ka"); (case zqX => walk_at "ka"); (case zqN => walk_at "ka"); (case zqT => walk_at "ka"); (case zqp0 => (k_dflt ((first | omega | ((try dsimp only); omega) | ktr_room)))); (case zqp1 => (k_dflt ((first | omega | ((try dsimp only); omega) | ktr_units)))); (case zqp2 => (k_dflt ((first | omega | exact shl_bd (by omega) (by omega) (by omega) (by omega) (by omega))))); (case zqp3 => (k_dflt (omega))); (case zqp4 => (k_dflt (omega))); (case zqp5 => (k_dflt (exact top_bd (by assumption) (by first | omega | exact zero_le_bd (by omega) | exact (shl_bd (by omega) (by omega) (by omega) (by omega) (by omega)).1) (by first | omega | exact zero_bd (by omega) | exact turn_bd (by assumption) (by first | omega | (refine Int.le_trans (by assumption) ?_; exact zero_bd (by omega)))) (by omega)))); (case zqhled => (k_dflt (k_allIn))); (case zqhrem => (k_dflt ((first | exact Rem.refl | kat_tups)))); (case zqhold => (k_dflt (exact fun _ _ _ => trivial))); k_whole; intro v9 h' tk' led' F' N' hne9 hP9; obtain ⟨D, t, u, nn, q, r, hv9, hl9, hq, hr, hq0, hq1, hr0, hr1, hr2⟩ := hP9; subst hv9 hl9; walk_at "u9"))
 k_with "call ref" => ((k_here; k_dflt (refine' use_c ?zqB ?zqF ?zqX ?zqN ?zqT ?zqhA ?zqhf ?zqhke (d2i_c _ _ _ _ _ _ _ _ _ _ _ _ _ _ ?zqp0 ?zqp1 ?zqp2 ?zqp3 ?zqp4 ?zqp5 ?zqp6 ?zqp7 ?zqp8) ?zqhled ?zqhrem ?zqhold ?_); (case zqhA => walk_at "hA"); (case zqhf => walk_at "hf"); (case zqhke => walk_at "hke"); (case zqB => walk_at "ka"); (case zqF => walk_at "ka"); (case zqX => walk_at "ka"); (case zqN => walk_at "ka"); (case zqT => walk_at "ka"); (case zqp8 => (k_dflt ((kbo_bools)))); (case zqhled => (k_dflt (k_allIn))); (case zqp0 => (k_dflt ((first | omega | ((try dsimp only); omega) | ktr_room)))); (case zqp1 => (k_dflt ((first | omega | ((try dsimp only); omega) | ktr_units)))); (case zqp2 => (k_dflt (exact IntsAre.nil))); (case zqp3 => (k_dflt ((simp only [List.length_cons, List.length_nil]; omega)))); (case zqp4 => (k_dflt (exact fun _ hx => nomatch hx))); (case zqp5 => (k_dflt (omega))); (case zqp6 => (k_dflt ((intro hx; simp at hx)))); (case zqp7 => (k_dflt (omega))); (case zqhrem => (k_dflt ((first | exact Rem.refl | kat_tups)))); (case zqhold => (k_dflt (exact fun _ _ _ => trivial))); k_whole; intro v9 h' tk' led' F' N' hne9 hP9; obtain ⟨t, ps, c, o, hv9, hl9, hts⟩ := hP9; subst hv9 hl9; walk_at "u9"))
 w_top off
 k_fill
 ((refine hk23 (h := ?_)); (generalize hkT23 _ = T9); (generalize pj0 T9 = w, pj1 T9 = loose, pj2 T9 = mean, pj3 T9 = mg, s4 T9 = U9); (clear T9); (generalize pj0 U9 = mb, pj1 U9 = dp, pj2 U9 = un, pj3 U9 = gd, s4 U9 = T9); (clear U9); (generalize pj0 T9 = outer, pj1 T9 = base, pj2 T9 = g, pj3 T9 = s, s4 T9 = U9); (clear T9); (generalize pj0 U9 = R, pj1 U9 = a, pj2 U9 = b, pj3 U9 = ta, s4 U9 = T9); (clear U9); (generalize pj0 T9 = tb, pj1 T9 = p4, pj2 T9 = p6, pj3 T9 = c4, s4 T9 = U9); (clear T9); (generalize pj0 U9 = c6, pj1 U9 = o4, lj2 U9 = o6); (clear U9); intro B X T hkg hsz hdp hun hled ha hb hn hk hz hab hts4 hts6 hd1 hd2 hd3 hret)
 k_dflt (refine' enterG (led := [(54, tabObj p4), (c4, o4), (61, tabObj p6), (c6, o6)]) hkg hsz ?kl ?k3 ?k5 ?k6 ?k7 ?k8 ?k9 ?kB ?_ ?c2 ?c3 ?c4 ?c5; (case kl => exact hled); (case k3 => k_asm); (case k5 => k_asm); (case k6 => k_is); (case k7 => k_is); (case k8 => ktr_room); (case k9 => first | exact BindsTo.of_eq rfl | exact kp_binds (X.keeps hkg) (fun _ => rfl)); (case c5 => decide); (case kB => exact locs rfl); (case c2 => exact rfl); (case c3 => exact rfl); (case c4 => exact rfl); k_whole; ((refine hk2 (h := ?_)); (generalize hkT2 _ = T9); (generalize pj0 T9 = L', lj1 T9 = h'); (clear T9); intro F' N' l1); (try k_lt l1); (try dsimp only); (try k_fold); (have hkm := HkMark.mk))
 w_strict k_steps
 all_goals exact dm_end hret (by assumption) (by assumption) (by assumption) (by assumption) (by k_mem) (by k_mem) (by k_mem) (by k_mem) (by k_mem) (dm_m0 hz) (by first | assumption | omega) (by first | assumption | omega) (by first | assumption | omega) (by first | assumption | omega) (by first | assumption | omega) (by first | assumption | omega) (by first | assumption | omega)
end Mine
end
section
namespace Mine
theorem dm_1 : ∀ (w : World) (loose : List Str) (mean : ExcName → Option Value) (mg mb : Str → Option Value) (dp un : Nat) (gd : Option (List Code)) (outer : List Env) (base g : Heap) (s : Shared) (R : Result → Shared → Prop) (a b : Int) (ta tb : Tok) (p4 p6 : Array Value) (c4 c6 : Addr) (o4 o6 : Obj)
  (B : Below (arX dp un gd outer) base outer g) (X : (hd.heap_1 w.params).In g) (T : Top topProg loose mean mg mb g) (hkg : ∀ b o, g.get? b = some o → s.heap.get? b = some o) (hsz : g.objs.size ≤ s.heap.objs.size) (hdp : dp + 120 < recursionLimit) (hun : un + 800 < cLine) (hled : ∀ p ∈ ([(54, tabObj p4), (c4, o4), (61, tabObj p6), (c6, o6)] : List (Addr × Obj)), s.heap.get? p.1 = some p.2 ∧ g.get? p.1 = none) (ha : 0 ≤ a ∧ a < 2 ^ 20) (hb : 0 < b ∧ b < 2 ^ 20) (hn : 1 ≤ (Builtin.Int.intBits b : Int) ∧ (Builtin.Int.intBits b : Int) ≤ 16) (hk : Int.fdiv ((Builtin.Int.intBits a : Int) + (Builtin.Int.intBits b : Int) - 1) (Builtin.Int.intBits b : Int) = 1) (hz : a ≠ 0) (hab : a < 4 * b) (hts4 : TS 54 36 4 qI p4 c4 o4) (hts6 : TS 61 51 4 qD p6 c6 o6) (hd1 : @Ne Nat c4 61) (hd2 : @Ne Nat c6 54) (hd3 : @Ne Nat c4 c6)
  (hret : RetG R s g (QP a b)),
  codeAny (model PySem.Challenge.rw_sn0104_01.row.toRowW.prog w) (arX dp un gd outer) (.call (.ref 73) ⟨[.int a ta, .int b tb], []⟩) R s := by
 k_with_none
 k_with "call ref" => ((k_here; k_dflt (refine' use_c ?zqB ?zqF ?zqX ?zqN ?zqT ?zqhA ?zqhf ?zqhke (i2d_c1 _ _ _ _ _ _ _ _ _ _ _ _ ?zqp0 ?zqp1 ?zqp2 ?zqp3 ?zqp4 ?zqp5 ?zqp6) ?zqhled ?zqhrem ?zqhold ?_); (case zqhA => walk_at "hA"); (case zqhf => walk_at "hf"); (case zqhke => walk_at "hke"); (case zqB => walk_at "ka"); (case zqF => walk_at "ka"); (case zqX => walk_at "ka"); (case zqN => walk_at "ka"); (case zqT => walk_at "ka"); (case zqp0 => (k_dflt ((first | omega | ((try dsimp only); omega) | ktr_room)))); (case zqp1 => (k_dflt ((first | omega | ((try dsimp only); omega) | ktr_units)))); (case zqp2 => (k_dflt (omega))); (case zqp3 => (k_dflt (omega))); (case zqp4 => (k_dflt ((kbo_bools)))); (case zqp5 => (k_dflt ((kbo_bools)))); (case zqp6 => (k_dflt ((kbo_bools)))); (case zqhled => (k_dflt (k_allIn))); (case zqhrem => (k_dflt ((first | exact Rem.refl | kat_tups)))); (case zqhold => (k_dflt (exact fun _ _ _ => trivial))); k_whole; intro v9 h' tk' led' F' N' hne9 hP9; obtain ⟨D, nn, t0, t1, ps, c, o, hv9, hl9, hts, hq1, hq2⟩ := hP9; subst hv9 hl9; walk_at "u9"))
 k_with "call ref" => ((k_here; k_dflt (refine' use_c ?zqB ?zqF ?zqX ?zqN ?zqT ?zqhA ?zqhf ?zqhke (dn_q _ _ _ _ _ _ _ _ 3 _ _ _ ?zqp0 ?zqp1 ?zqp2 ?zqp3 ?zqp4 ?zqp5) ?zqhled ?zqhrem ?zqhold ?_); (case zqhA => walk_at "hA"); (case zqhf => walk_at "hf"); (case zqhke => walk_at "hke"); (case zqB => walk_at "ka"); (case zqF => walk_at "ka"); (case zqX => walk_at "ka"); (case zqN => walk_at "ka"); (case zqT => walk_at "ka"); (case zqp0 => (k_dflt ((first | omega | ((try dsimp only); omega) | ktr_room)))); (case zqp1 => (k_dflt ((first | omega | ((try dsimp only); omega) | ktr_units)))); (case zqp2 => (k_dflt ((first | omega | exact shl_bd (by omega) (by omega) (by omega) (by omega) (by omega))))); (case zqp3 => (k_dflt (omega))); (case zqp4 => (k_dflt (omega))); (case zqp5 => (k_dflt (exact top_bd (by assumption) (by first | omega | exact zero_le_bd (by omega) | exact (shl_bd (by omega) (by omega) (by omega) (by omega) (by omega)).1) (by first | omega | exact zero_bd (by omega) | exact turn_bd (by assumption) (by first | omega | (refine Int.le_trans (by assumption) ?_; exact zero_bd (by omega)))) (by omega)))); (case zqhled => (k_dflt (k_allIn))); (case zqhrem => (k_dflt ((first | exact Rem.refl | kat_tups)))); (case zqhold => (k_dflt (exact fun _ _ _ => trivial))); k_whole; intro v9 h' tk' led' F' N' hne9 hP9; obtain ⟨D, t, u, nn, q, r, hv9, hl9, hq, hr, hq0, hq1, hr0, hr1, hr2⟩ := hP9; subst hv9 hl9; walk_at "u9"))
 k_with "call ref" => ((k_here; k_dflt (refine' use_c ?zqB ?zqF ?zqX ?zqN ?zqT ?zqhA ?zqhf ?zqhke (d2i_c _ _ _ _ _ _ _ _ _ _ _ _ _ _ ?zqp0 ?zqp1 ?zqp2 ?zqp3 ?zqp4 ?zqp5 ?zqp6 ?zqp7 ?zqp8) ?zqhled ?zqhrem ?zqhold ?_); (case zqhA => walk_at "hA"); (case zqhf => walk_at "hf"); (case zqhke => walk_at "hke"); (case zqB => walk_at "ka"); (case zqF => walk_at "ka"); (case zqX => walk_at "ka"); (case zqN => walk_at "ka"); (case zqT => walk_at "ka"); (case zqp8 => (k_dflt ((kbo_bools)))); (case zqhled => (k_dflt (k_allIn))); (case zqp0 => (k_dflt ((first | omega | ((try dsimp only); omega) | ktr_room)))); (case zqp1 => (k_dflt ((first | omega | ((try dsimp only); omega) | ktr_units)))); (case zqp2 => (k_dflt (exact IntsAre.cons _ _ IntsAre.nil))); (case zqp3 => (k_dflt ((simp only [List.length_cons, List.length_nil]; omega)))); (case zqp4 => (k_dflt ((intro x hx; simp only [List.mem_cons, List.not_mem_nil, or_false] at hx; subst hx; omega)))); (case zqp5 => (k_dflt (omega))); (case zqp6 => (k_dflt ((intro hx; simp at hx)))); (case zqp7 => (k_dflt (omega))); (case zqhrem => (k_dflt ((first | exact Rem.refl | kat_tups)))); (case zqhold => (k_dflt (exact fun _ _ _ => trivial))); k_whole; intro v9 h' tk' led' F' N' hne9 hP9; obtain ⟨t, ps, c, o, hv9, hl9, hts⟩ := hP9; subst hv9 hl9; walk_at "u9"))
 w_top off
 k_fill
 ((refine hk23 (h := ?_)); (generalize hkT23 _ = T9); (generalize pj0 T9 = w, pj1 T9 = loose, pj2 T9 = mean, pj3 T9 = mg, s4 T9 = U9); (clear T9); (generalize pj0 U9 = mb, pj1 U9 = dp, pj2 U9 = un, pj3 U9 = gd, s4 U9 = T9); (clear U9); (generalize pj0 T9 = outer, pj1 T9 = base, pj2 T9 = g, pj3 T9 = s, s4 T9 = U9); (clear T9); (generalize pj0 U9 = R, pj1 U9 = a, pj2 U9 = b, pj3 U9 = ta, s4 U9 = T9); (clear U9); (generalize pj0 T9 = tb, pj1 T9 = p4, pj2 T9 = p6, pj3 T9 = c4, s4 T9 = U9); (clear T9); (generalize pj0 U9 = c6, pj1 U9 = o4, lj2 U9 = o6); (clear U9); intro B X T hkg hsz hdp hun hled ha hb hn hk hz hab hts4 hts6 hd1 hd2 hd3 hret)
 k_dflt (refine' enterG (led := [(54, tabObj p4), (c4, o4), (61, tabObj p6), (c6, o6)]) hkg hsz ?kl ?k3 ?k5 ?k6 ?k7 ?k8 ?k9 ?kB ?_ ?c2 ?c3 ?c4 ?c5; (case kl => exact hled); (case k3 => k_asm); (case k5 => k_asm); (case k6 => k_is); (case k7 => k_is); (case k8 => ktr_room); (case k9 => first | exact BindsTo.of_eq rfl | exact kp_binds (X.keeps hkg) (fun _ => rfl)); (case c5 => decide); (case kB => exact locs rfl); (case c2 => exact rfl); (case c3 => exact rfl); (case c4 => exact rfl); k_whole; ((refine hk2 (h := ?_)); (generalize hkT2 _ = T9); (generalize pj0 T9 = L', lj1 T9 = h'); (clear T9); intro F' N' l1); (try k_lt l1); (try dsimp only); (try k_fold); (have hkm := HkMark.mk))
 w_strict k_steps
 all_goals exact dm_end hret (by assumption) (by assumption) (by assumption) (by assumption) (by k_mem) (by k_mem) (by k_mem) (by k_mem) (by k_mem) (dm_m1 (by assumption) (by assumption) ha.1 hb.1) (by first | assumption | omega) (by first | assumption | omega) (by first | assumption | omega) (by first | assumption | omega) (by first | assumption | omega) (by first | assumption | omega) (by first | assumption | omega)
end Mine
end
section
namespace Mine
theorem dm_2 : ∀ (w : World) (loose : List Str) (mean : ExcName → Option Value) (mg mb : Str → Option Value) (dp un : Nat) (gd : Option (List Code)) (outer : List Env) (base g : Heap) (s : Shared) (R : Result → Shared → Prop) (a b : Int) (ta tb : Tok) (p4 p6 : Array Value) (c4 c6 : Addr) (o4 o6 : Obj)
  (B : Below (arX dp un gd outer) base outer g) (X : (hd.heap_1 w.params).In g) (T : Top topProg loose mean mg mb g) (hkg : ∀ b o, g.get? b = some o → s.heap.get? b = some o) (hsz : g.objs.size ≤ s.heap.objs.size) (hdp : dp + 120 < recursionLimit) (hun : un + 800 < cLine) (hled : ∀ p ∈ ([(54, tabObj p4), (c4, o4), (61, tabObj p6), (c6, o6)] : List (Addr × Obj)), s.heap.get? p.1 = some p.2 ∧ g.get? p.1 = none) (ha : 0 ≤ a ∧ a < 2 ^ 20) (hb : 0 < b ∧ b < 2 ^ 20) (hn : 1 ≤ (Builtin.Int.intBits b : Int) ∧ (Builtin.Int.intBits b : Int) ≤ 16) (hk : Int.fdiv ((Builtin.Int.intBits a : Int) + (Builtin.Int.intBits b : Int) - 1) (Builtin.Int.intBits b : Int) = 2) (hz : a ≠ 0) (hab : a < 4 * b) (hts4 : TS 54 36 4 qI p4 c4 o4) (hts6 : TS 61 51 4 qD p6 c6 o6) (hd1 : @Ne Nat c4 61) (hd2 : @Ne Nat c6 54) (hd3 : @Ne Nat c4 c6)
  (hret : RetG R s g (QP a b)),
  codeAny (model PySem.Challenge.rw_sn0104_01.row.toRowW.prog w) (arX dp un gd outer) (.call (.ref 73) ⟨[.int a ta, .int b tb], []⟩) R s := by
 k_with_none
 k_with "call ref" => ((k_here; k_dflt (refine' use_c ?zqB ?zqF ?zqX ?zqN ?zqT ?zqhA ?zqhf ?zqhke (i2d_cc2 _ _ _ _ _ _ _ _ _ _ _ _ ?zqp0 ?zqp1 ?zqp2 ?zqp3 ?zqp4 ?zqp5 ?zqp6) ?zqhled ?zqhrem ?zqhold ?_); (case zqhA => walk_at "hA"); (case zqhf => walk_at "hf"); (case zqhke => walk_at "hke"); (case zqB => walk_at "ka"); (case zqF => walk_at "ka"); (case zqX => walk_at "ka"); (case zqN => walk_at "ka"); (case zqT => walk_at "ka"); (case zqp0 => (k_dflt ((first | omega | ((try dsimp only); omega) | ktr_room)))); (case zqp1 => (k_dflt ((first | omega | ((try dsimp only); omega) | ktr_units)))); (case zqp2 => (k_dflt (omega))); (case zqp3 => (k_dflt (omega))); (case zqp4 => (k_dflt ((kbo_bools)))); (case zqp5 => (k_dflt ((kbo_bools)))); (case zqp6 => (k_dflt ((kbo_bools)))); (case zqhled => (k_dflt (k_allIn))); (case zqhrem => (k_dflt ((first | exact Rem.refl | kat_tups)))); (case zqhold => (k_dflt (exact fun _ _ _ => trivial))); k_whole; intro v9 h' tk' led' F' N' hne9 hP9; obtain ⟨D, nn, t0, t1, ps, c, o, lo, up, hv9, hl9, hts, hq1, hq2, hlo, hup, hlo0, hlo1, hup0, hup1, hlu⟩ := hP9; subst hv9 hl9; walk_at "u9"))
 k_with "call ref" => ((k_here; k_dflt (refine' use_c ?zqB ?zqF ?zqX ?zqN ?zqT ?zqhA ?zqhf ?zqhke (dn_q _ _ _ _ _ _ _ _ 3 _ _ _ ?zqp0 ?zqp1 ?zqp2 ?zqp3 ?zqp4 ?zqp5) ?zqhled ?zqhrem ?zqhold ?_); (case zqhA => walk_at "hA"); (case zqhf => walk_at "hf"); (case zqhke => walk_at "hke"); (case zqB => walk_at "ka"); (case zqF => walk_at "ka"); (case zqX => walk_at "ka"); (case zqN => walk_at "ka"); (case zqT => walk_at "ka"); (case zqp0 => (k_dflt ((first | omega | ((try dsimp only); omega) | ktr_room)))); (case zqp1 => (k_dflt ((first | omega | ((try dsimp only); omega) | ktr_units)))); (case zqp2 => (k_dflt ((first | omega | exact shl_bd (by omega) (by omega) (by omega) (by omega) (by omega))))); (case zqp3 => (k_dflt (omega))); (case zqp4 => (k_dflt (omega))); (case zqp5 => (k_dflt (exact top_bd (by assumption) (by first | omega | exact zero_le_bd (by omega) | exact (shl_bd (by omega) (by omega) (by omega) (by omega) (by omega)).1) (by first | omega | exact zero_bd (by omega) | exact turn_bd (by assumption) (by first | omega | (refine Int.le_trans (by assumption) ?_; exact zero_bd (by omega)))) (by omega)))); (case zqhled => (k_dflt (k_allIn))); (case zqhrem => (k_dflt ((first | exact Rem.refl | kat_tups)))); (case zqhold => (k_dflt (exact fun _ _ _ => trivial))); k_whole; intro v9 h' tk' led' F' N' hne9 hP9; obtain ⟨D, t, u, nn, q, r, hv9, hl9, hq, hr, hq0, hq1, hr0, hr1, hr2⟩ := hP9; subst hv9 hl9; walk_at "u9"))
 k_with "call ref" => ((k_here; k_dflt (refine' use_c ?zqB ?zqF ?zqX ?zqN ?zqT ?zqhA ?zqhf ?zqhke (d2i_c _ _ _ _ _ _ _ _ _ _ _ _ _ _ ?zqp0 ?zqp1 ?zqp2 ?zqp3 ?zqp4 ?zqp5 ?zqp6 ?zqp7 ?zqp8) ?zqhled ?zqhrem ?zqhold ?_); (case zqhA => walk_at "hA"); (case zqhf => walk_at "hf"); (case zqhke => walk_at "hke"); (case zqB => walk_at "ka"); (case zqF => walk_at "ka"); (case zqX => walk_at "ka"); (case zqN => walk_at "ka"); (case zqT => walk_at "ka"); (case zqp8 => (k_dflt ((kbo_bools)))); (case zqhled => (k_dflt (k_allIn))); (case zqp0 => (k_dflt ((first | omega | ((try dsimp only); omega) | ktr_room)))); (case zqp1 => (k_dflt ((first | omega | ((try dsimp only); omega) | ktr_units)))); (case zqp2 => (k_dflt (exact IntsAre.cons _ _ (IntsAre.cons _ _ IntsAre.nil)))); (case zqp3 => (k_dflt ((simp only [List.length_cons, List.length_nil]; omega)))); (case zqp4 => (k_dflt ((intro x hx; simp only [List.mem_cons, List.not_mem_nil, or_false] at hx; rcases hx with rfl | rfl <;> omega)))); (case zqp5 => (k_dflt (omega))); (case zqp6 => (k_dflt ((intro hx; simp at hx)))); (case zqp7 => (k_dflt (omega))); (case zqhrem => (k_dflt ((first | exact Rem.refl | kat_tups)))); (case zqhold => (k_dflt (exact fun _ _ _ => trivial))); k_whole; intro v9 h' tk' led' F' N' hne9 hP9; obtain ⟨t, ps, c, o, hv9, hl9, hts⟩ := hP9; subst hv9 hl9; walk_at "u9"))
 w_top off
 k_fill
 ((refine hk23 (h := ?_)); (generalize hkT23 _ = T9); (generalize pj0 T9 = w, pj1 T9 = loose, pj2 T9 = mean, pj3 T9 = mg, s4 T9 = U9); (clear T9); (generalize pj0 U9 = mb, pj1 U9 = dp, pj2 U9 = un, pj3 U9 = gd, s4 U9 = T9); (clear U9); (generalize pj0 T9 = outer, pj1 T9 = base, pj2 T9 = g, pj3 T9 = s, s4 T9 = U9); (clear T9); (generalize pj0 U9 = R, pj1 U9 = a, pj2 U9 = b, pj3 U9 = ta, s4 U9 = T9); (clear U9); (generalize pj0 T9 = tb, pj1 T9 = p4, pj2 T9 = p6, pj3 T9 = c4, s4 T9 = U9); (clear T9); (generalize pj0 U9 = c6, pj1 U9 = o4, lj2 U9 = o6); (clear U9); intro B X T hkg hsz hdp hun hled ha hb hn hk hz hab hts4 hts6 hd1 hd2 hd3 hret)
 k_dflt (refine' enterG (led := [(54, tabObj p4), (c4, o4), (61, tabObj p6), (c6, o6)]) hkg hsz ?kl ?k3 ?k5 ?k6 ?k7 ?k8 ?k9 ?kB ?_ ?c2 ?c3 ?c4 ?c5; (case kl => exact hled); (case k3 => k_asm); (case k5 => k_asm); (case k6 => k_is); (case k7 => k_is); (case k8 => ktr_room); (case k9 => first | exact BindsTo.of_eq rfl | exact kp_binds (X.keeps hkg) (fun _ => rfl)); (case c5 => decide); (case kB => exact locs rfl); (case c2 => exact rfl); (case c3 => exact rfl); (case c4 => exact rfl); k_whole; ((refine hk2 (h := ?_)); (generalize hkT2 _ = T9); (generalize pj0 T9 = L', lj1 T9 = h'); (clear T9); intro F' N' l1); (try k_lt l1); (try dsimp only); (try k_fold); (have hkm := HkMark.mk))
 w_strict k_steps
 all_goals exact dm_end hret (by assumption) (by assumption) (by assumption) (by assumption) (by k_mem) (by k_mem) (by k_mem) (by k_mem) (by k_mem) (dm_m2 (by assumption) (by assumption) (by assumption) (by assumption) (by assumption) hb.1 (by assumption) (by assumption)) (by first | assumption | omega) (by first | assumption | omega) (by first | assumption | omega) (by first | assumption | omega) (by first | assumption | omega) (by first | assumption | omega) (by first | assumption | omega)
end Mine
end
section
namespace Mine
theorem ceil_01 {x n : Int} (h1 : 1 ≤ x) (h2 : x ≤ n) : Int.fdiv (x + n - 1) n = 1 := by
 rw [Int.fdiv_eq_ediv_of_nonneg _ (by kaf_pre)]
 have e : x + n - 1 = (x - 1) + n * 1 := by kaf_pre
 rw [e, Int.add_mul_ediv_left _ _ (by kaf_pre), Int.ediv_eq_zero_of_lt (by kaf_pre) (by kaf_pre)]; rfl
theorem ceil_02 {x n : Int} (h1 : n < x) (h2 : x ≤ 2 * n) (hn : 0 < n) : Int.fdiv (x + n - 1) n = 2 := by
 rw [Int.fdiv_eq_ediv_of_nonneg _ (by kaf_pre)]
 have e : x + n - 1 = (x - n - 1) + n * 2 := by kaf_pre
 rw [e, Int.add_mul_ediv_left _ _ (by kaf_pre), Int.ediv_eq_zero_of_lt (by kaf_pre) (by kaf_pre)]; rfl
theorem ceil_00 {x n : Int} (h1 : x = 0) (hn : 0 < n) : Int.fdiv (x + n - 1) n = 0 := by
 rw [Int.fdiv_eq_ediv_of_nonneg _ (by kaf_pre)]
 exact Int.ediv_eq_zero_of_lt (by kaf_pre) (by kaf_pre)
def Bits2 (a n : Int) : Prop := (a = 0 ∧ (Builtin.Int.intBits a : Int) = 0) ∨ (a ≠ 0 ∧ 1 ≤ (Builtin.Int.intBits a : Int) ∧ (Builtin.Int.intBits a : Int) ≤ 2 * n)
theorem dm_c (w : World) (dp un : Nat) (gd : Option (List Code)) (s : Shared) (a b : Int) (ta tb : Tok) (p4 p6 : Array Value) (c4 c6 : Addr) (o4 o6 : Obj)
  (hdp : dp + 120 < recursionLimit) (hun : un + 800 < cLine) (ha : 0 ≤ a ∧ a < 2 ^ 20) (hb : 0 < b ∧ b < 2 ^ 20) (hn : 1 ≤ (Builtin.Int.intBits b : Int) ∧ (Builtin.Int.intBits b : Int) ≤ 16) (hk : Bits2 a (Builtin.Int.intBits b)) (hab : a < 4 * b)
  (h4 : TS 54 36 4 qI p4 c4 o4) (h6 : TS 61 51 4 qD p6 c6 o6) (hd1 : @Ne Nat c4 61) (hd2 : @Ne Nat c6 54) (hd3 : @Ne Nat c4 c6) :
  Ctr w dp un gd s 73 ⟨[.int a ta, .int b tb], []⟩ [(54, tabObj p4), (c4, o4), (61, tabObj p6), (c6, o6)] (fun _ => True) (QP a b) := by
 intro loose mean mg mb outer base g R B X T hkg hsz hled _ hret
 rcases hk with ⟨hz, hk⟩ | ⟨hz, h1, h2⟩
 ·exact dm_0 w loose mean mg mb dp un gd outer base g s R a b ta tb p4 p6 c4 c6 o4 o6 B X T hkg hsz hdp hun hled ha hb hn (ceil_00 hk (by kaf_pre)) hz hab h4 h6 hd1 hd2 hd3 hret
 ·by_cases hx : (Builtin.Int.intBits a : Int) ≤ (Builtin.Int.intBits b : Int)
  ·exact dm_1 w loose mean mg mb dp un gd outer base g s R a b ta tb p4 p6 c4 c6 o4 o6 B X T hkg hsz hdp hun hled ha hb hn (ceil_01 h1 hx) hz hab h4 h6 hd1 hd2 hd3 hret
  ·exact dm_2 w loose mean mg mb dp un gd outer base g s R a b ta tb p4 p6 c4 c6 o4 o6 B X T hkg hsz hdp hun hled ha hb hn (ceil_02 (by kaf_pre) h2 (by kaf_pre)) hz hab h4 h6 hd1 hd2 hd3 hret
end Mine
end
section
namespace Mine
theorem idm_w : ∀ (w : World) (loose : List Str) (mean : ExcName → Option Value) (mg mb : Str → Option Value) (dp un : Nat) (gd : Option (List Code)) (outer : List Env) (base g : Heap) (s : Shared) (R : Result → Shared → Prop) (a b : Int) (ta tb : Tok) (p4 p6 : Array Value) (c4 c6 : Addr) (o4 o6 : Obj)
  (B : Below (arX dp un gd outer) base outer g) (X : (hd.heap_1 w.params).In g) (T : Top topProg loose mean mg mb g) (hkg : ∀ b o, g.get? b = some o → s.heap.get? b = some o) (hsz : g.objs.size ≤ s.heap.objs.size) (hdp : dp + 180 < recursionLimit) (hun : un + 1200 < cLine) (hled : ∀ p ∈ ([(54, tabObj p4), (c4, o4), (61, tabObj p6), (c6, o6)] : List (Addr × Obj)), s.heap.get? p.1 = some p.2 ∧ g.get? p.1 = none) (ha : 0 ≤ a ∧ a < 2 ^ 20) (hb : 0 < b ∧ b < 2 ^ 20) (hn : 1 ≤ (Builtin.Int.intBits b : Int) ∧ (Builtin.Int.intBits b : Int) ≤ 16) (hk : Bits2 a (Builtin.Int.intBits b)) (hab : a < 4 * b) (h4 : TS 54 36 4 qI p4 c4 o4) (h6 : TS 61 51 4 qD p6 c6 o6) (hd1 : @Ne Nat c4 61) (hd2 : @Ne Nat c6 54) (hd3 : @Ne Nat c4 c6)
  (hret : RetG R s g (QP a b)),
  codeAny (model PySem.Challenge.rw_sn0104_01.row.toRowW.prog w) (arX dp un gd outer) (.call (.ref 80) ⟨[.int a ta, .int b tb], []⟩) R s := by
 k_with_none
 k_with "call ref" => ((k_here; k_dflt (refine' use_c ?zqB ?zqF ?zqX ?zqN ?zqT ?zqhA ?zqhf ?zqhke (dm_c _ _ _ _ _ _ _ _ _ _ _ _ _ _ _ ?zqp0 ?zqp1 ?zqp2 ?zqp3 ?zqp4 ?zqp5 ?zqp6 ?zqp7 ?zqp8 ?zqp9 ?zqp10 ?zqp11) ?zqhled ?zqhrem ?zqhold ?_); (case zqhA => walk_at "hA"); (case zqhf => walk_at "hf"); (case zqhke => walk_at "hke"); (case zqB => walk_at "ka"); (case zqF => walk_at "ka"); (case zqX => walk_at "ka"); (case zqN => walk_at "ka"); (case zqT => walk_at "ka"); (case zqp0 => (k_dflt ((first | omega | ((try dsimp only); omega) | ktr_room)))); (case zqp1 => (k_dflt ((first | omega | ((try dsimp only); omega) | ktr_units)))); (case zqp2 => (k_dflt ((kbo_bools)))); (case zqp3 => (k_dflt ((kbo_bools)))); (case zqp4 => (k_dflt ((kbo_bools)))); (case zqp5 => (k_dflt ((kbo_bools)))); (case zqp6 => (k_dflt ((kbo_bools)))); (case zqp7 => (k_dflt ((kbo_bools)))); (case zqp8 => (k_dflt ((kbo_bools)))); (case zqp9 => (k_dflt ((kbo_bools)))); (case zqp10 => (k_dflt ((kbo_bools)))); (case zqp11 => (k_dflt ((kbo_bools)))); (case zqhled => (k_dflt (k_allIn))); (case zqhrem => (k_dflt ((first | exact Rem.refl | kat_tups)))); (case zqhold => (k_dflt (exact fun _ _ _ => trivial))); k_whole; intro v9 h' tk' led' F' N' hne9 hP9; obtain ⟨D, t, u, nn, p4', c4', o4', p6', c6', o6', hv9, hl9, h4', h6', n1, n2, n3, n4, n5, n6, n7⟩ := hP9; subst hv9 hl9; walk_at "u9"))
 w_top off
 k_fill
 ((refine hk23 (h := ?_)); (generalize hkT23 _ = T9); (generalize pj0 T9 = w, pj1 T9 = loose, pj2 T9 = mean, pj3 T9 = mg, s4 T9 = U9); (clear T9); (generalize pj0 U9 = mb, pj1 U9 = dp, pj2 U9 = un, pj3 U9 = gd, s4 U9 = T9); (clear U9); (generalize pj0 T9 = outer, pj1 T9 = base, pj2 T9 = g, pj3 T9 = s, s4 T9 = U9); (clear T9); (generalize pj0 U9 = R, pj1 U9 = a, pj2 U9 = b, pj3 U9 = ta, s4 U9 = T9); (clear U9); (generalize pj0 T9 = tb, pj1 T9 = p4, pj2 T9 = p6, pj3 T9 = c4, s4 T9 = U9); (clear T9); (generalize pj0 U9 = c6, pj1 U9 = o4, lj2 U9 = o6); (clear U9); intro B X T hkg hsz hdp hun hled ha hb hn hk hab h4 h6 hd1 hd2 hd3 hret)
 k_dflt (refine' enterG (led := [(54, tabObj p4), (c4, o4), (61, tabObj p6), (c6, o6)]) hkg hsz ?kl ?k3 ?k5 ?k6 ?k7 ?k8 ?k9 ?kB ?_ ?c2 ?c3 ?c4 ?c5; (case kl => exact hled); (case k3 => k_asm); (case k5 => k_asm); (case k6 => k_is); (case k7 => k_is); (case k8 => ktr_room); (case k9 => first | exact BindsTo.of_eq rfl | exact kp_binds (X.keeps hkg) (fun _ => rfl)); (case c5 => decide); (case kB => exact locs rfl); (case c2 => exact rfl); (case c3 => exact rfl); (case c4 => exact rfl); k_whole; ((refine hk2 (h := ?_)); (generalize hkT2 _ = T9); (generalize pj0 T9 = L', lj1 T9 = h'); (clear T9); intro F' N' l1); (try k_lt l1); (try dsimp only); (try k_fold); (have hkm := HkMark.mk))
 w_strict k_steps
 all_goals first | exact dm_end hret (by assumption) (by assumption) (by assumption) (by assumption) (by k_mem) (by k_mem) (by k_mem) (by k_mem) (by k_mem) ⟨rfl, rfl⟩ (by first | assumption | omega) (by first | assumption | omega) (by first | assumption | omega) (by first | assumption | omega) (by first | assumption | omega) (by first | assumption | omega) (by first | assumption | omega) | (exfalso; simp only [beq_iff_eq, decide_eq_true_eq] at *; omega) | trace_state
end Mine
end
section
namespace Mine
theorem idm_c (w : World) (dp un : Nat) (gd : Option (List Code)) (s : Shared) (a b : Int) (ta tb : Tok) (p4 p6 : Array Value) (c4 c6 : Addr) (o4 o6 : Obj)
  (hdp : dp + 180 < recursionLimit) (hun : un + 1200 < cLine) (ha : 0 ≤ a ∧ a < 2 ^ 20) (hb : 0 < b ∧ b < 2 ^ 20) (hn : 1 ≤ (Builtin.Int.intBits b : Int) ∧ (Builtin.Int.intBits b : Int) ≤ 16) (hk : Bits2 a (Builtin.Int.intBits b)) (hab : a < 4 * b)
  (h4 : TS 54 36 4 qI p4 c4 o4) (h6 : TS 61 51 4 qD p6 c6 o6) (hd1 : @Ne Nat c4 61) (hd2 : @Ne Nat c6 54) (hd3 : @Ne Nat c4 c6) :
  Ctr w dp un gd s 80 ⟨[.int a ta, .int b tb], []⟩ [(54, tabObj p4), (c4, o4), (61, tabObj p6), (c6, o6)] (fun _ => True) (QP a b) := by
 intro loose mean mg mb outer base g R B X T hkg hsz hled _ hret
 exact idm_w w loose mean mg mb dp un gd outer base g s R a b ta tb p4 p6 c4 c6 o4 o6 B X T hkg hsz hdp hun hled ha hb hn hk hab h4 h6 hd1 hd2 hd3 hret
abbrev QQ (q r : Int) (v : Value) (led' : List (Addr × Obj)) : Prop :=
 ∃ D t u nn p4 c4 o4 p6 c6 o6, v = .ref D ∧ led' = [(D, ({ cls := .type "tuple", data := .seq #[.int q t, .int r u] nn } : Obj)), (54, tabObj p4), (c4, o4), (61, tabObj p6), (c6, o6)] ∧ TS 54 36 4 qI p4 c4 o4 ∧ TS 61 51 4 qD p6 c6 o6 ∧
  @Ne Nat 54 D ∧ @Ne Nat c4 D ∧ @Ne Nat 61 D ∧ @Ne Nat c6 D ∧ @Ne Nat c4 61 ∧ @Ne Nat c6 54 ∧ @Ne Nat c4 c6
theorem idm_q (w : World) (dp un : Nat) (gd : Option (List Code)) (s : Shared) (a b q r : Int) (ta tb : Tok) (p4 p6 : Array Value) (c4 c6 : Addr) (o4 o6 : Obj)
  (hdp : dp + 180 < recursionLimit) (hun : un + 1200 < cLine) (ha : 0 ≤ a ∧ a < 2 ^ 20) (hb : 0 < b ∧ b < 2 ^ 20) (hn : 1 ≤ (Builtin.Int.intBits b : Int) ∧ (Builtin.Int.intBits b : Int) ≤ 16) (hk : Bits2 a (Builtin.Int.intBits b)) (hab : a < 4 * b)
  (hq : a.fdiv b = q) (hr : a.fmod b = r)
  (h4 : TS 54 36 4 qI p4 c4 o4) (h6 : TS 61 51 4 qD p6 c6 o6) (hd1 : @Ne Nat c4 61) (hd2 : @Ne Nat c6 54) (hd3 : @Ne Nat c4 c6) :
  Ctr w dp un gd s 80 ⟨[.int a ta, .int b tb], []⟩ [(54, tabObj p4), (c4, o4), (61, tabObj p6), (c6, o6)] (fun _ => True) (QQ q r) := by
 subst hq hr
 exact idm_c w dp un gd s a b ta tb p4 p6 c4 c6 o4 o6 hdp hun ha hb hn hk hab h4 h6 hd1 hd2 hd3
end Mine
end
section
open PyProof.V
namespace Mine
section
variable {prog : Program} {w : World} {A : Around}
theorem cl_core {elt target : Expr} {gens : List Comprehension} {scope : Scope} {cp : Pos} {d : Nat} {pos : Pos} {acc : Value} {cenv : Env} {B : Sem Fin} {I : Addr} {fp wr : List Addr} {n : Nat} {P Md : Nat → Value → Heap → Prop} {St : Nat → Heap → Prop}
  {R : Result → Shared → Prop}
  (hE : compTurn (.ListComp elt gens scope cp) d (.ref I) acc cenv = (standAt pos >>= fun _ => pyNext (.ref I) >>= fun r => match r with
   | none => pure (.done .next)
   | some v => letOwnedTupleGo target (.ref I) v >>= fun _ => assign target cenv v >>= fun _ => B))
  (W : KTurns prog w A target I fp wr n P Md St) (J : Nat → Shared → Prop)
  (step : ∀ i (s : Shared), i < n → J i s → ∀ v h' tk, P i v h' → St (i + 1) h' → (∀ b o, b ∉ wr → s.heap.get? b = some o → h'.get? b = some o) →
   wpAny (model prog w) A (assign target cenv v) (fun _ s₂ => wpAny (model prog w) A B (fun f s₃ => f = .again (.compLoop (.ListComp elt gens scope cp) d (.ref I) acc cenv) ∧ J (i + 1) s₃ ∧ St (i + 1) s₃.heap)
    (notedBy (model prog w) A cenv fun e s' => R (.error e) s') s₂) (notedBy (model prog w) A cenv fun e s' => R (.error e) s') { s with heap := h', toks := tk })
  (done : ∀ (s : Shared), J n s → ∀ h' tk, (∀ b o, b ∉ wr → s.heap.get? b = some o → h'.get? b = some o) → R (.ok .next) { s with heap := h', toks := tk })
  {s : Shared} (hJ : J 0 s) (hst : St 0 s.heap) :
  codeAny (model prog w) A (.compLoop (.ListComp elt gens scope cp) d (.ref I) acc cenv) R s := by
 refine codeAny_loop rfl (fun k s' => ∃ i, i ≤ n ∧ k = n + 1 - i ∧ J i s' ∧ St i s'.heap) ?_ (n + 1) ⟨0, Nat.zero_le _, rfl, hJ, hst⟩
 rintro k s' ⟨i, hi, rfl, hJ, hst⟩
 show wpAny _ A ((compTurn (.ListComp elt gens scope cp) d (.ref I) acc cenv).onRaise (fun x => do noteFrame x cenv; theTreesLotGoes x)) _ _ s'
 refine wpAny_noted ?_
 rw [hE]
 refine wpAny_bind (wpAny_standAt (wpAny_bind ?_))
 by_cases hlt : i < n
 ·refine W.item i _ _ _ hlt hst fun v h₁ tk₁ hMd hk₁ => ?_
  refine wpAny_bind (W.go i v _ _ _ hMd fun h₂ hP hst₂ hk₂ => ?_)
  refine wpAny_bind (wpAny_mono (step i s' hlt hJ v h₂ tk₁ hP hst₂ fun b o hb e => hk₂ b o hb (hk₁ b o hb e)) (fun _ s₂ h₂' => ?_) fun _ _ e => e)
  refine wpAny_mono h₂' (fun f s₃ h₃ => ?_) fun _ _ e => e
  obtain ⟨rfl, h₃⟩ := h₃
  exact ⟨rfl, n + 1 - (i + 1), by kaf_pre, i + 1, hlt, rfl, h₃.1, h₃.2⟩
 ·have e : i = n := by kaf_pre
  subst e
  exact W.done _ _ _ hst fun h₁ tk₁ hk₁ => wpAny_pure (done s' hJ h₁ tk₁ hk₁)
theorem turn_1 (elt target iter : Expr) (scope : Scope) (pos : Pos) (it acc : Value) (env : Env) :
  compTurn (.ListComp elt [⟨target, iter, [], 0⟩] scope pos) 0 it acc env = (standAt iter.pos >>= fun _ => pyNext it >>= fun r => match r with
   | none => pure (.done .next)
   | some v => letOwnedTupleGo target it v >>= fun _ => assign target env v >>= fun _ =>
    ((eval elt env >>= fun x => call (.builtin "list.append") [acc, x] >>= fun _ => pure ()) >>= fun _ =>
     again (.compLoop (.ListComp elt [⟨target, iter, [], 0⟩] scope pos) 0 it acc env))) := by rfl
theorem turn_2a (elt t1 i1 t2 i2 : Expr) (ifs : List Expr) (scope : Scope) (pos : Pos) (it acc : Value) (env : Env) :
  compTurn (.ListComp elt [⟨t1, i1, [], 0⟩, ⟨t2, i2, ifs, 0⟩] scope pos) 0 it acc env = (standAt i1.pos >>= fun _ => pyNext it >>= fun r => match r with
   | none => pure (.done .next)
   | some v => letOwnedTupleGo t1 it v >>= fun _ => assign t1 env v >>= fun _ =>
    (eval i2 env >>= fun x => standAt i2.pos >>= fun _ => foldedSetIterable i2 env x >>= fun x => holding [x] (pyIter x) >>= fun it2 => runOwn (.compStart (.ListComp elt [⟨t1, i1, [], 0⟩, ⟨t2, i2, ifs, 0⟩] scope pos) 1 it2 acc env) env >>= fun _ =>
     again (.compLoop (.ListComp elt [⟨t1, i1, [], 0⟩, ⟨t2, i2, ifs, 0⟩] scope pos) 0 it acc env))) := by rfl
theorem turn_2b (elt t1 i1 t2 i2 : Expr) (scope : Scope) (pos : Pos) (it acc : Value) (env : Env) :
  compTurn (.ListComp elt [⟨t1, i1, [], 0⟩, ⟨t2, i2, [], 0⟩] scope pos) 1 it acc env = (standAt i2.pos >>= fun _ => pyNext it >>= fun r => match r with
   | none => pure (.done .next)
   | some v => letOwnedTupleGo t2 it v >>= fun _ => assign t2 env v >>= fun _ =>
    ((eval elt env >>= fun x => call (.builtin "list.append") [acc, x] >>= fun _ => pure ()) >>= fun _ =>
     again (.compLoop (.ListComp elt [⟨t1, i1, [], 0⟩, ⟨t2, i2, [], 0⟩] scope pos) 1 it acc env))) := by rfl
theorem turn_2t (elt t1 i1 t2 i2 c : Expr) (scope : Scope) (pos : Pos) (it acc : Value) (env : Env) :
  compTurn (.ListComp elt [⟨t1, i1, [], 0⟩, ⟨t2, i2, [c], 0⟩] scope pos) 1 it acc env = (standAt i2.pos >>= fun _ => pyNext it >>= fun r => match r with
   | none => pure (.done .next)
   | some v => letOwnedTupleGo t2 it v >>= fun _ => assign t2 env v >>= fun _ =>
    (forIn [c] true (fun c r => if r = true then do let ok ← isTrue c env (eval c env); pure (ForInStep.yield ok) else pure (ForInStep.yield r)) >>= fun ok =>
     (if ok = true then (eval elt env >>= fun x => call (.builtin "list.append") [acc, x] >>= fun _ => pure ()) >>= fun _ => again (.compLoop (.ListComp elt [⟨t1, i1, [], 0⟩, ⟨t2, i2, [c], 0⟩] scope pos) 1 it acc env)
      else again (.compLoop (.ListComp elt [⟨t1, i1, [], 0⟩, ⟨t2, i2, [c], 0⟩] scope pos) 1 it acc env)))) := by rfl
theorem emit_at {elt : Expr} {acc : Value} {cenv : Env} {c : Code} {Q : Shared → Prop} {E : Value → Shared → Prop} {s : Shared}
  (h : wpAny (model prog w) A (eval elt cenv) (fun y s₁ => wpAny (model prog w) A (call (.builtin "list.append") [acc, y]) (fun _ s₂ => Q s₂) E s₁) E s) :
  wpAny (model prog w) A ((eval elt cenv >>= fun x => call (.builtin "list.append") [acc, x] >>= fun _ => pure ()) >>= fun _ => again c) (fun f s₃ => f = .again c ∧ Q s₃) E s :=
 wpAny_bind (wpAny_bind (wpAny_mono h (fun _ _ h₁ => wpAny_bind (wpAny_mono h₁ (fun _ _ h₂ => wpAny_pure (wpAny_pure ⟨rfl, h₂⟩)) fun _ _ e => e)) fun _ _ e => e))
theorem start_1 {elt : Expr} {g0 : Comprehension} {target iter : Expr} {ifs : List Expr} {rest : List Comprehension} {scope : Scope} {pos : Pos} {it acc : Value} {env : Env} {R : Result → Shared → Prop} {s : Shared}
  (h0 : codeAny (model prog w) A (.compLoop (.ListComp elt (g0 :: ⟨target, iter, ifs, 0⟩ :: rest) scope pos) 1 it acc env) R s)
  (h : wpAny (model prog w) A (pyIter it) (fun it' s' => codeAny (model prog w) A (.compLoop (.ListComp elt (g0 :: ⟨target, iter, ifs, 0⟩ :: rest) scope pos) 1 it' acc env) R s')
   (notedBy (model prog w) A env fun x s' => R (.error x) s') s) :
  codeAny (model prog w) A (.compStart (.ListComp elt (g0 :: ⟨target, iter, ifs, 0⟩ :: rest) scope pos) 1 it acc env) R s := by
 refine codeAny_of_tree ?_
 show wpAny _ _ ((compStart (.ListComp elt (g0 :: ⟨target, iter, ifs, 0⟩ :: rest) scope pos) 1 it acc env).onRaise (fun x => do noteFrame x env; standAt theWindowsPlace)) _ _ s
 refine wpAny_notedAt ?_
 unfold compStart
 show wpAny _ _ (ask >>= _) _ _ s
 refine wpAny_bind (wpAny_askSetting (wpAny_ite ?_))
 split
 ·first
   | exact wpAny_bind (wpAny_pure (wpAny_pure (And.intro rfl h0)))
   | exact wpAny_pure (And.intro rfl h0)
 ·first
   | exact wpAny_bind (wpAny_rule (wpAny_bind (wpAny_standAt (wpAny_bind (wpAny_mono h (fun it' s' h' => wpAny_pure (And.intro rfl h')) fun _ _ x => x)))))
   | (refine wpAny_bind (wpAny_rule ?_); show wpAny _ _ (standAt iter.pos >>= _) _ _ s; exact wpAny_bind (wpAny_standAt (wpAny_bind (wpAny_mono h (fun it' s' h' => wpAny_pure (And.intro rfl h')) fun _ _ x => x))))
end
end Mine
end
section
open PyProof.V PyProof.Rows.LCg
namespace Mine
def upd (m : Str → Option Value) (x : Str) (v : Value) : Str → Option Value := fun z => if z = x then some v else m z
structure Asg (prog : Program) (w : World) (A : Around) (target : Expr) (cenv : Env) (ok : Itm → Prop) (G : Itm → (Str → Option Value) → (Str → Option Value) → Prop) : Prop where
 go : ∀ (a : Itm) (v : Value) (m₁ : Str → Option Value) (s : Shared) (Q : Unit → Shared → Prop) (E : Value → Shared → Prop), ok a → a.Is v s.heap → s.heap.Ns cenv.locals m₁ →
  (∀ h' tk m₂, G a m₁ m₂ → h'.Ns cenv.locals m₂ → (∀ c o, c ≠ cenv.locals → s.heap.get? c = some o → h'.get? c = some o) → Q () { s with heap := h', toks := tk }) →
  wpAny (model prog w) A (assign target cenv v) Q E s
def GName (x : Str) (a : Itm) (m₁ m₂ : Str → Option Value) : Prop := match a with
 | .val v => m₂ = upd m₁ x v
 | .tok f => ∃ t, m₂ = upd m₁ x (f t)
 | .flat d => ∃ v, Flat v d ∧ m₂ = upd m₁ x v
 | _ => ∃ v, m₂ = upd m₁ x v
theorem asg_name {prog : Program} {w : World} {A : Around} {cenv : Env} {x : Str} {p : Pos} (hk : cenv.kindOf x = some .local)
  (hp : (cenv.scope.kind == .class || (cenv.scope.kind == .module && cenv.locals != cenv.globals)) = false) : Asg prog w A (.Name x p) cenv (fun _ => True) (GName x) where
 go := fun a v m₁ s Q E _ hv hn hQ => by
  refine wpAny_assign_Name (wpAny_storeName_local hk hn (fun h' hn' hs' => ?_) hp)
  refine hQ h' _ _ ?_ hn' fun c o hc e => hs'.extBut c o hc e
  cases a with
  | val u => have e : v = u := hv; subst e; rfl
  | tok f => obtain ⟨t, e⟩ := hv; subst e; exact ⟨t, rfl⟩
  | flat d => exact ⟨v, hv, rfl⟩
  | pair f y => exact ⟨v, rfl⟩
  | pairF f d => exact ⟨v, rfl⟩
def GPair (x y : Str) (a : Itm) (m₁ m₂ : Str → Option Value) : Prop := match a with
 | .pair f u => ∃ t, m₂ = upd (upd m₁ x (f t)) y u
 | _ => False
def okPair : Itm → Prop | .pair _ _ => True | _ => False
theorem asg_pair {prog : Program} {w : World} {A : Around} {cenv : Env} {x y : Str} {px py tp : Pos} {kk : Nat} (hh : A.handled = none) (hx : cenv.kindOf x = some .local) (hy : cenv.kindOf y = some .local)
  (hp : (cenv.scope.kind == .class || (cenv.scope.kind == .module && cenv.locals != cenv.globals)) = false) : Asg prog w A (.Tuple [.Name x px, .Name y py] kk tp) cenv okPair (GPair x y) where
 go := fun a v m₁ s Q E hok hv hn hQ => by
  cases a with
  | val u => exact hok.elim
  | tok f => exact hok.elim
  | flat d => exact hok.elim
  | pairF f d => exact hok.elim
  | pair f u =>
   obtain ⟨T, t, e, ht⟩ := hv
   subst e
   refine kcp_assign hh ht hx hy hp hn fun h' tk hn' hk => hQ h' tk _ ⟨t, rfl⟩ hn' hk
section
variable {prog : Program} {w : World} {A : Around}
def OffCD (C D : Addr) : List (Addr × Obj) → Prop
 | [] => True
 | p :: r => ((@Ne Nat p.1 C) ∧ (@Ne Nat p.1 D)) ∧ OffCD C D r
theorem OffCD.mem {C D : Addr} : ∀ {l : List (Addr × Obj)}, OffCD C D l → ∀ p ∈ l, p.1 ≠ C ∧ p.1 ≠ D
 | [], _, _, h => nomatch h
 | _ :: _, x, p, h => by
  rcases List.mem_cons.mp h with rfl | h
  ·exact x.1
  ·exact OffCD.mem x.2 p h
theorem OffCD.of {C D : Addr} : ∀ {l : List (Addr × Obj)}, (∀ p ∈ l, p.1 ≠ C ∧ p.1 ≠ D) → OffCD C D l
 | [], _ => trivial
 | _ :: _, h => ⟨h _ List.mem_cons_self, OffCD.of fun p hp => h p (List.mem_cons_of_mem _ hp)⟩
def CEnd (h₀ : Heap) (L : Addr) (m : Str → Option Value) (s₁ : Shared) (its : List (Addr × Obj)) (C D : Addr) (kn : (Str → Option Value) → Prop) (rest : List Value → List (Addr × Obj) → Prop) (s₂ : Shared) : Prop :=
 ∃ h' tk oC m₂ ys news', s₂ = { s₁ with heap := h', toks := tk } ∧ Fr h₀ L h' m ∧ NsObj oC m₂ ∧ kn m₂ ∧ News h₀ L h' (its ++ (C, oC) :: (D, lst ys) :: news') ∧ OffCD C D news' ∧ (∀ p ∈ news', ∀ q ∈ its, p.1 ≠ q.1) ∧ rest ys news'
def CR (prog : Program) (w : World) (A : Around) (h₀ : Heap) (L : Addr) (m : Str → Option Value) (C D : Addr) (ws : List (Addr × String)) (keep : List (Addr × Obj)) (kn : (Str → Option Value) → Prop) (G : Itm → (Str → Option Value) → (Str → Option Value) → Prop)
  (c : Code) (B : Sem Fin) (E : Value → Shared → Prop) (s : Shared) (Fin : List Value → List (Addr × Obj) → Prop) : List Itm → List Value → List (Addr × Obj) → Prop
 | [], ys, news => Fin ys news
 | a :: r, ys, news => ∀ oC m₁ m₂ h tk, kn m₁ → G a m₁ m₂ → NsObj oC m₂ → Fr h₀ L h m → OffCD C D news → AllObj ws (fun its => News h₀ L h (its ++ (C, oC) :: (D, lst ys) :: news) → (∀ p ∈ news, ∀ q ∈ its, p.1 ≠ q.1) →
   wpAny (model prog w) A B (fun f s₃ => f = .again c ∧ CEnd h₀ L m { s with heap := h, toks := tk } its C D kn (fun ys' news' => SubL keep news' ∧ CR prog w A h₀ L m C D ws keep kn G c B E s Fin r ys' news') s₃) E { s with heap := h, toks := tk })
theorem cr_core {h₀ : Heap} {L C D : Addr} {m : Str → Option Value} {ws : List (Addr × String)} {keep : List (Addr × Obj)} {kn : (Str → Option Value) → Prop} {ok : Itm → Prop} {G : Itm → (Str → Option Value) → (Str → Option Value) → Prop}
  {elt target : Expr} {gens : List Comprehension} {scope : Scope} {cp : Pos} {d : Nat} {pos : Pos} {acc : Value} {cenv : Env} {B : Sem Fin} {I : Addr} {fp wr : List Addr} {n : Nat} {P Md : Nat → Value → Heap → Prop} {St : Nat → Heap → Prop}
  {R : Result → Shared → Prop} {Fin : List Value → List (Addr × Obj) → Prop} {xs : List Itm} {ys : List Value} {news : List (Addr × Obj)} {oC : Obj} {m₀ : Str → Option Value} {s : Shared} {h₁ : Heap} {tk₁ : Nat}
  (hE : compTurn (.ListComp elt gens scope cp) d (.ref I) acc cenv = (standAt pos >>= fun _ => pyNext (.ref I) >>= fun r => match r with
   | none => pure (.done .next)
   | some v => letOwnedTupleGo target (.ref I) v >>= fun _ => assign target cenv v >>= fun _ => B))
  (W : KTurns prog w A target I fp wr n P Md St) (T : Asg prog w A target cenv ok G) (hC : cenv.locals = C) (hn : n = xs.length) (hP : ∀ i v h, P i v h → ∃ a, xs[i]? = some a ∧ a.Is v h) (hok : ∀ a ∈ xs, ok a)
  (hobj : ∀ i h, St i h → ∃ its, Objs ws its ∧ ∀ p ∈ its, h.get? p.1 = some p.2) (hws : ∀ b ∈ ws.map (·.1), b ∈ fp ∧ h₀.get? b = none ∧ L ≠ b) (hwr : ∀ b ∈ wr, b ∈ ws.map (·.1))
  (hfp : ∀ b ∈ fp, b ∈ ws.map (·.1) ∨ (∃ o, (b, o) ∈ keep) ∨ ∃ o, h₀.get? b = some o) (hCf : C ∉ fp) (hDf : D ∉ fp) (hCD : C ≠ D) (hCL : C ≠ L) (hC₀ : h₀.get? C = none)
  (hst : St 0 h₁) (F : Fr h₀ L h₁ m) (hoC : NsObj oC m₀) (hkn : kn m₀) (N : News h₀ L h₁ ((C, oC) :: (D, lst ys) :: news)) (off : OffCD C D news) (hnw : ∀ p ∈ news, p.1 ∉ ws.map (·.1)) (hk : SubL keep news)
  (rest : CR prog w A h₀ L m C D ws keep kn G (.compLoop (.ListComp elt gens scope cp) d (.ref I) acc cenv) B (notedBy (model prog w) A cenv fun e s' => R (.error e) s') s Fin xs ys news)
  (hR : ∀ h' tk oC m₂ ys news', Fr h₀ L h' m → NsObj oC m₂ → kn m₂ → News h₀ L h' ((C, oC) :: (D, lst ys) :: news') → OffCD C D news' → (∀ p ∈ news', p.1 ∉ ws.map (·.1)) → SubL keep news' → Fin ys news' → R (.ok .next) { s with heap := h', toks := tk }) :
  codeAny (model prog w) A (.compLoop (.ListComp elt gens scope cp) d (.ref I) acc cenv) R { s with heap := h₁, toks := tk₁ } := by
 (revert hR); (revert rest); (revert hk); (revert hnw); (revert off); (revert N); (revert hkn); (revert hoC); (revert F); (revert hst); (revert hC₀); (revert hCL); (revert hCD); (revert hDf); (revert hCf); (revert hfp); (revert hwr); (revert hws); (revert hobj); (revert hok); (revert hP); (revert hn); (revert hC); (revert T); (revert W); (revert hE); (revert tk₁); (revert h₁); (revert s); (revert m₀); (revert oC); (revert news); (revert ys); (revert xs); (revert Fin); (revert R); (revert St); (revert Md); (revert P); (revert n); (revert wr); (revert fp); (revert I); (revert B); (revert cenv); (revert acc); (revert pos); (revert d); (revert cp); (revert scope); (revert gens); (revert target); (revert elt); (revert G); (revert ok); (revert kn); (revert keep); (revert ws); (revert m); (revert D); (revert C); (revert L); (revert h₀); (revert A); (revert w); (revert prog); (refine no_implicit_lambda% (hk16 (h := ?_))); (generalize hkT16 _ = T9); (generalize pj0 T9 = prog, pj1 T9 = w, pj2 T9 = A, pj3 T9 = h₀, s4 T9 = U9); (clear T9); (generalize pj0 U9 = L, pj1 U9 = C, pj2 U9 = D, pj3 U9 = m, s4 U9 = T9); (clear U9); (generalize pj0 T9 = ws, pj1 T9 = keep, pj2 T9 = kn, pj3 T9 = ok, s4 T9 = U9); (clear T9); (generalize pj0 U9 = G, pj1 U9 = elt, pj2 U9 = target, lj3 U9 = gens); (clear U9); (refine no_implicit_lambda% (hk16 (h := ?_))); (generalize hkT16 _ = T9); (generalize pj0 T9 = scope, pj1 T9 = cp, pj2 T9 = d, pj3 T9 = pos, s4 T9 = U9); (clear T9); (generalize pj0 U9 = acc, pj1 U9 = cenv, pj2 U9 = B, pj3 U9 = I, s4 U9 = T9); (clear U9); (generalize pj0 T9 = fp, pj1 T9 = wr, pj2 T9 = n, pj3 T9 = P, s4 T9 = U9); (clear T9); (generalize pj0 U9 = Md, pj1 U9 = St, pj2 U9 = R, lj3 U9 = Fin); (clear U9); (refine no_implicit_lambda% (hk8 (h := ?_))); (generalize hkT8 _ = T9); (generalize pj0 T9 = xs, pj1 T9 = ys, pj2 T9 = news, pj3 T9 = oC, s4 T9 = U9); (clear T9); (generalize pj0 U9 = m₀, pj1 U9 = s, pj2 U9 = h₁, lj3 U9 = tk₁); (clear U9); intro hE W T hC hn hP hok hobj hws hwr hfp hCf hDf hCD hCL hC₀ hst F hoC hkn N off hnw hk rest hR
 have old : ∀ b o, h₀.get? b = some o → b ∉ wr := fun b o e hb => by rw [(hws b (hwr b hb)).2.1] at e; cases e
 have hLw : L ∉ wr := fun hb => (hws L (hwr L hb)).2.2 rfl
 have hCw : C ∉ wr := fun hb => hCf (W.sub _ hb)
 have hDw : D ∉ wr := fun hb => hDf (W.sub _ hb)
 refine cl_core hE W (fun i s' => ∃ h' tk oC m₂ ys news', s' = { s with heap := h', toks := tk } ∧ Fr h₀ L h' m ∧ NsObj oC m₂ ∧ kn m₂ ∧ News h₀ L h' ((C, oC) :: (D, lst ys) :: news') ∧ OffCD C D news' ∧ (∀ p ∈ news', p.1 ∉ ws.map (·.1)) ∧ SubL keep news' ∧
  CR prog w A h₀ L m C D ws keep kn G (.compLoop (.ListComp elt gens scope cp) d (.ref I) acc cenv) B (notedBy (model prog w) A cenv fun e s' => R (.error e) s') s Fin (xs.drop i) ys news') ?_ ?_
  ⟨h₁, tk₁, oC, m₀, ys, news, rfl, F, hoC, hkn, N, off, hnw, hk, by rw [List.drop_zero]; exact rest⟩ hst
 ·rintro i s' hin ⟨h', tk, oC, m₁, ys, news', rfl, F', hoC, hkn, N', off', hnw', hk', R'⟩ v h₂ tk₂ hPi hst₂ hk₂
  obtain ⟨a, ha, hav⟩ := hP i v h₂ hPi
  have hlt : i < xs.length := hn ▸ hin
  have ham : a ∈ xs := List.mem_of_getElem? ha
  have hdrop : xs.drop i = a :: xs.drop (i + 1) := by
   rw [List.drop_eq_getElem_cons hlt]
   congr 1
   exact Option.some.inj ((List.getElem?_eq_getElem hlt).symm.trans ha)
  rw [hdrop] at R'
  have F₂ : Fr h₀ L h₂ m := ⟨F'.ns.at' fun o e => hk₂ _ o hLw e, fun b o e => hk₂ b o (old b o e) (F'.keep b o e), F'.above⟩
  have hnw₂ : ∀ p ∈ (C, oC) :: (D, lst ys) :: news', p.1 ∉ wr := fun p hp hw => by
   rcases List.mem_cons.mp hp with rfl | hp
   ·exact hCw hw
   ·rcases List.mem_cons.mp hp with rfl | hp
    ·exact hDw hw
    ·exact hnw' p hp (hwr _ hw)
  have N₂ : News h₀ L h₂ ((C, oC) :: (D, lst ys) :: news') := fun p hp => ⟨hk₂ _ _ (hnw₂ p hp) (N' p hp).1, (N' p hp).2⟩
  have hns : h₂.Ns cenv.locals m₁ := hC ▸ hoC.ns (N₂ _ List.mem_cons_self).1
  refine T.go a v m₁ _ _ _ (hok a ham) hav hns fun h₃ tk₃ m₂ hG hns₃ hk₃ => ?_
  rw [hC] at hns₃ hk₃
  obtain ⟨oC₃, hC₃, hoC₃⟩ := ns_obj hns₃
  have F₃ : Fr h₀ L h₃ m := ⟨F₂.ns.at' fun o e => hk₃ _ o (Ne.symm hCL) e, fun b o e => hk₃ b o (fun q => by rw [q, hC₀] at e; cases e) (F₂.keep b o e), F₂.above⟩
  have off₃ := off'.mem
  have hst₃ : St (i + 1) h₃ := W.frame _ _ _ hst₂ fun b hb o e => hk₃ b o (fun q => hCf (q ▸ hb)) e
  obtain ⟨its, hits, hval⟩ := hobj (i + 1) h₃ hst₃
  have hmap := hits.map
  have hin' : ∀ p ∈ its, p.1 ∈ ws.map (·.1) := fun p hp => by rw [← hmap]; exact List.mem_map.mpr ⟨p, hp, rfl⟩
  have N₃ : News h₀ L h₃ (its ++ (C, oC₃) :: (D, lst ys) :: news') := fun p hp => by
   rcases List.mem_append.mp hp with hp | hp
   ·exact ⟨hval p hp, Ne.symm (hws _ (hin' p hp)).2.2, (hws _ (hin' p hp)).2.1⟩
   ·rcases List.mem_cons.mp hp with rfl | hp
    ·exact ⟨hC₃, hCL, hC₀⟩
    ·have z := N₂ p (List.mem_cons_of_mem _ hp)
     refine ⟨hk₃ _ _ ?_ z.1, z.2⟩
     rcases List.mem_cons.mp hp with rfl | hp
     ·exact Ne.symm hCD
     ·exact (off₃ p hp).1
  have apart : ∀ p ∈ news', ∀ q ∈ its, p.1 ≠ q.1 := fun p hp q hq e => hnw' p hp (e ▸ hin' q hq)
  refine wpAny_mono ((R' oC₃ m₁ m₂ h₃ tk₃ hkn hG hoC₃ F₃ off').at hits N₃ apart) (fun f s₄ h₄ => ?_) fun _ _ e => e
  obtain ⟨rfl, h₄, tk₄, oC₄, m₄, ys₄, news₄, rfl, F₄, hoC₄, hkn₄, N₄, off₄, ap₄, hk₄, R₄⟩ := h₄
  refine ⟨rfl, ⟨h₄, tk₄, oC₄, m₄, ys₄, news₄, rfl, F₄, hoC₄, hkn₄, fun p hp => N₄ p (List.mem_append_right _ hp), off₄, fun p hp hI => ?_, hk₄, R₄⟩, ?_⟩
  ·rw [← hmap] at hI
   obtain ⟨q, hq, e⟩ := List.mem_map.mp hI
   exact ap₄ p hp q hq e.symm
  ·refine W.frame _ _ _ hst₃ fun b hb o e => ?_
   rcases hfp b hb with hb | ⟨o', hb⟩ | ⟨o', hb⟩
   ·rw [← hmap] at hb
    obtain ⟨⟨qa, qo⟩, hq, hqe⟩ := List.mem_map.mp hb
    have hqe' : qa = b := hqe
    subst hqe'
    have h5 : h₃.get? qa = some qo := hval _ hq
    rw [h5] at e
    cases e
    exact (N₄ _ (List.mem_append_left _ hq)).1
   ·have h5 := (N₃ _ (List.mem_append_right _ (List.mem_cons_of_mem _ (List.mem_cons_of_mem _ (hk'.mem _ hb))))).1
    have h6 : h₃.get? b = some o' := h5
    rw [h6] at e
    cases e
    exact (N₄ _ (List.mem_append_right _ (List.mem_cons_of_mem _ (List.mem_cons_of_mem _ (hk₄.mem _ hb))))).1
   ·have h5 := F₃.keep b o' hb
    rw [h5] at e
    cases e
    exact F₄.keep b _ hb
 ·rintro s' ⟨h', tk, oC, m₁, ys, news', rfl, F', hoC, hkn, N', off', hnw', hk', R'⟩ h₂ tk₂ hk₂
  have z : xs.drop n = [] := List.drop_eq_nil_of_le (Nat.le_of_eq hn.symm)
  rw [z] at R'
  have F₂ : Fr h₀ L h₂ m := ⟨F'.ns.at' fun o e => hk₂ _ o hLw e, fun b o e => hk₂ b o (old b o e) (F'.keep b o e), F'.above⟩
  refine hR h₂ tk₂ oC m₁ ys news' F₂ hoC hkn (fun p hp => ⟨hk₂ _ _ (fun hw => ?_) (N' p hp).1, (N' p hp).2⟩) off' hnw' hk' R'
  rcases List.mem_cons.mp hp with rfl | hp
  ·exact hCw hw
  ·rcases List.mem_cons.mp hp with rfl | hp
   ·exact hDw hw
   ·exact hnw' p hp (hwr _ hw)
end
end Mine
end
section
open PyProof.V PyProof.Rows.LCg
namespace Mine
theorem Off1_of {D : Addr} : ∀ {l : List (Addr × Obj)}, (∀ p ∈ l, p.1 ≠ D) → Off1 D l
 | [], _ => trivial
 | _ :: _, h => ⟨h _ List.mem_cons_self, Off1_of fun p hp => h p (List.mem_cons_of_mem _ hp)⟩
section
variable {prog : Program} {w : World} {A : Around}
theorem block_CR {h₀ : Heap} {L : Addr} {m : Str → Option Value} {ws : List (Addr × String)} {keep : List (Addr × Obj)} {ok : Itm → Prop} {G : Itm → (Str → Option Value) → (Str → Option Value) → Prop}
  {elt target iter : Expr} {ifs : List Expr} {gs : List Comprehension} {scope : Scope} {cp : Pos} {pos : Pos} {env : Env} {cl : List (Str × Addr)} {B : Addr → Addr → Sem Fin} {I : Addr} {fp wr : List Addr} {n : Nat} {P Md : Nat → Value → Heap → Prop} {St : Nat → Heap → Prop}
  {RR : Value → Addr → Result → Shared → Prop} {Fin : List Value → List (Addr × Obj) → Prop} {xs : List Itm} {news : List (Addr × Obj)} {s : Shared} {E : Value → Shared → Prop}
  (hE : ∀ C D, compTurn (.ListComp elt (⟨target, iter, ifs, 0⟩ :: gs) scope cp) 0 (.ref I) (.ref D) (compEnvC scope cl C env) = (standAt pos >>= fun _ => pyNext (.ref I) >>= fun r => match r with
   | none => pure (.done .next)
   | some v => letOwnedTupleGo target (.ref I) v >>= fun _ => assign target (compEnvC scope cl C env) v >>= fun _ => B C D))
  (W : KTurns prog w A target I fp wr n P Md St) (hself : ∀ (s : Shared) (Q : Value → Shared → Prop) (E : Value → Shared → Prop), St 0 s.heap → Q (.ref I) s → wpAny (model prog w) A (pyIter (.ref I)) Q E s)
  (T : ∀ C, Asg prog w A target (compEnvC scope cl C env) ok G) (hn : n = xs.length) (hP : ∀ i v h, P i v h → ∃ a, xs[i]? = some a ∧ a.Is v h) (hok : ∀ a ∈ xs, ok a)
  (hobj : ∀ i h, St i h → ∃ its, Objs ws its ∧ ∀ p ∈ its, h.get? p.1 = some p.2) (hws : ∀ b ∈ ws.map (·.1), b ∈ fp ∧ h₀.get? b = none ∧ L ≠ b) (hwr : ∀ b ∈ wr, b ∈ ws.map (·.1))
  (hfp : ∀ b ∈ fp, b ∈ ws.map (·.1) ∨ (∃ o, (b, o) ∈ keep) ∨ ∃ o, h₀.get? b = some o) (hlt : ∀ b ∈ fp, b < s.heap.objs.size)
  (hcell : ∀ y ∈ scope.names, y.2 ≠ .cell) (hkind : scope.kind = .function)
  (hst : St 0 s.heap) (F : Fr h₀ L s.heap m) (N : News h₀ L s.heap news) (hnw : ∀ p ∈ news, p.1 ∉ ws.map (·.1)) (hk : SubL keep news)
  (rest : ∀ C D E', C ≠ D → h₀.get? C = none → C ≠ L → h₀.get? D = none → D ≠ L → (∀ b ∈ ws.map (·.1), b ≠ C ∧ b ≠ D) → CR prog w A h₀ L m C D ws keep (fun _ => True) G (.compLoop (.ListComp elt (⟨target, iter, ifs, 0⟩ :: gs) scope cp) 0 (.ref I) (.ref D) (compEnvC scope cl C env)) (B C D) E' s Fin xs [] news)
  (hRR : ∀ D C h tk m' ys news', Fr h₀ L h m → News h₀ L h ((D, lst ys) :: news') → Off1 D news' → h.Ns C m' → h₀.get? C = none → h₀.get? D = none → C ≠ L → D ≠ L → C ≠ D → (∀ p ∈ news', p.1 ≠ C) → Fin ys news' → RR (.ref D) C (.ok .next) { s with heap := h, toks := tk }) :
  wpAny (model prog w) A (newList []) (fun acc s₃ => wpAny (model prog w) A (newFunctionEnv scope env.globals cl [] env.qual none .none (some env)) (fun cenv s₄ =>
   codeAny (model prog w) A (.compStart (.ListComp elt (⟨target, iter, ifs, 0⟩ :: gs) scope cp) 0 (.ref I) acc { cenv with scope := relabel scope env }) (RR acc cenv.locals) s₄) E s₃) E s := by
 refine wpAny_newObj_type (wpAny_newFunctionEnv hcell (by intro y hy; simp at hy) (fun h₁ hns₁ hsb₁ => ?_) hkind)
 dsimp only at hns₁ hsb₁ ⊢
 generalize hH2 : s.heap.push { cls := .type "list", dict := none, data := .seq ([] : List Value).toArray } = H2 at hns₁ hsb₁ ⊢
 have hC : H2.objs.size = s.heap.objs.size + 1 := by rw [← hH2, Heap.size_push]
 have hDC : s.heap.objs.size ≠ H2.objs.size := by rw [hC]; exact Nat.ne_of_lt (Nat.lt_succ_self _)
 have below : ∀ b, b < s.heap.objs.size → b ≠ H2.objs.size ∧ b ≠ s.heap.objs.size := fun b hb => ⟨by rw [hC]; exact Nat.ne_of_lt (Nat.lt_succ_of_lt hb), Nat.ne_of_lt hb⟩
 have hDf : s.heap.objs.size ∉ fp := fun hm => Nat.lt_irrefl _ (hlt _ hm)
 have hCf : H2.objs.size ∉ fp := fun hm => by have := hlt _ hm; rw [hC] at this; exact Nat.lt_irrefl _ (Nat.lt_of_succ_lt this)
 have old : ∀ b o, s.heap.get? b = some o → h₁.get? b = some o := fun b o e => hsb₁.extBut b o (below b (Heap.lt_size e)).1 (Heap.get?_push_of_some _ (hH2 ▸ Heap.get?_push_of_some _ e))
 have hacc : h₁.get? s.heap.objs.size = some (lst []) := hsb₁.extBut _ _ hDC (Heap.get?_push_of_some _ (hH2 ▸ Heap.get?_push_size _ rfl))
 have hst₁ : St 0 h₁ := W.frame _ _ _ hst fun b _ o e => old b o e
 have fresh : ∀ a, s.heap.objs.size ≤ a → s.heap.get? a = none := fun a ha => by
  cases e : s.heap.get? a with
  | none => rfl
  | some o' => exact absurd (Heap.lt_size e) (Nat.not_lt.mpr ha)
 have fresh₀ : ∀ a, s.heap.objs.size ≤ a → h₀.get? a = none := fun a ha => by
  cases e : h₀.get? a with
  | none => rfl
  | some o' => have := F.keep a o' e; rw [fresh a ha] at this; cases this
 have hD₀ : h₀.get? s.heap.objs.size = none := fresh₀ _ (Nat.le_refl _)
 have hC₀ : h₀.get? H2.objs.size = none := fresh₀ _ (by rw [hC]; exact Nat.le_succ _)
 have hLlt : L < s.heap.objs.size := F.ns.lt
 have hDL : s.heap.objs.size ≠ L := Ne.symm (below L hLlt).2
 have hCL : H2.objs.size ≠ L := Ne.symm (below L hLlt).1
 obtain ⟨oC, heC, hoC⟩ := ns_obj hns₁
 have off₀ : OffCD H2.objs.size s.heap.objs.size news := OffCD.of fun p hp => below _ (Heap.lt_size (N p hp).1)
 have N₁ : News h₀ L h₁ ((H2.objs.size, oC) :: (s.heap.objs.size, lst []) :: news) := fun p hp => by
  rcases List.mem_cons.mp hp with rfl | hp
  ·exact ⟨heC, hCL, hC₀⟩
  ·rcases List.mem_cons.mp hp with rfl | hp
   ·exact ⟨hacc, hDL, hD₀⟩
   ·exact ⟨old _ _ (N p hp).1, (N p hp).2⟩
 have loop : codeAny (model prog w) A (.compLoop (.ListComp elt (⟨target, iter, ifs, 0⟩ :: gs) scope cp) 0 (.ref I) (.ref s.heap.objs.size) (compEnvC scope cl H2.objs.size env))
    (RR (.ref s.heap.objs.size) H2.objs.size) { s with heap := h₁, toks := s.toks + ([] : List (Str × Value)).length } :=
  cr_core (hE _ _) W (T _) rfl hn hP hok hobj hws hwr hfp hCf hDf (Ne.symm hDC) hCL hC₀ hst₁ (F.keeps old) hoC True.intro N₁ off₀ hnw hk (rest _ _ _ (Ne.symm hDC) hC₀ hCL hD₀ hDL fun b hb => below b (hlt b (hws b hb).1))
   fun h' tk oC' m₂ ys news' F' hoC' _ N' off' _ _ fin => hRR _ _ h' tk _ ys news' F' (fun p hp => N' p (List.mem_cons_of_mem _ hp))
    (Off1_of fun p hp => (off'.mem p hp).2) (hoC'.ns (N' _ List.mem_cons_self).1) hC₀ hD₀ hCL hDL (Ne.symm hDC) (fun p hp => (off'.mem p hp).1) fin
 exact codeAny_compStart_list loop (hself _ _ _ hst₁ loop)
end
end Mine
end
section
open PyProof.V PyProof.Rows.LCg
namespace Mine
section
variable {prog : Program} {w : World} {A : Around}
def CSrc (prog : Program) (w : World) (A : Around) (h₀ : Heap) (L : Addr) (m : Str → Option Value) (env : Env) (elt : Expr) (gens : List Comprehension) (scope : Scope) (cp : Pos) (cl : List (Str × Addr)) (Fin : Shared → List Value → List (Addr × Obj) → Prop) (E : Value → Shared → Prop) (xv : Value) (s₁ : Shared) : Prop :=
 wpAny (model prog w) A (pyIter xv) (fun it s₂ => ∀ RR : Value → Addr → Result → Shared → Prop,
  (∀ D C h tk m' ys news', Fr h₀ L h m → News h₀ L h ((D, lst ys) :: news') → Off1 D news' → h.Ns C m' → h₀.get? C = none → h₀.get? D = none → C ≠ L → D ≠ L → C ≠ D → (∀ p ∈ news', p.1 ≠ C) → Fin s₂ ys news' → RR (.ref D) C (.ok .next) { s₂ with heap := h, toks := tk }) →
  wpAny (model prog w) A (newList []) (fun acc s₃ => wpAny (model prog w) A (newFunctionEnv scope env.globals cl [] env.qual none .none (some env)) (fun cenv s₄ =>
   codeAny (model prog w) A (.compStart (.ListComp elt gens scope cp) 0 it acc { cenv with scope := relabel scope env }) (RR acc cenv.locals) s₄) E s₃) E s₂) E s₁
theorem ListComp_any {h₀ : Heap} {L : Addr} {m : Str → Option Value} {elt target iter : Expr} {ifs : List Expr} {gs : List Comprehension} {scope : Scope} {cl : List (Str × Addr)} {cp : Pos} {env : Env} {Q : Value → Shared → Prop} {E : Value → Shared → Prop} {s : Shared}
  (F₀ : Fr h₀ L s.heap m) (hclos : closureFor scope env = pure cl) (hkind : scope.kind = .function)
  (hnames : ∀ y ∈ scope.names, y.2 = .local → scope.names.lookup y.1 = some .local)
  (h : wpAny (model prog w) A (eval iter env) (CSrc prog w A h₀ L m env elt (⟨target, iter, ifs, 0⟩ :: gs) scope cp cl (fun s₂ => FinE h₀ L m s₂ Q) E) E s)
  (hs : ∀ x, foldedSetIterable iter env x = pure x := by intro _; rfl) :
  wpAny (model prog w) A (eval (.ListComp elt (⟨target, iter, ifs, 0⟩ :: gs) scope cp) env) Q E s := by
 rw [eval_ListComp]
 refine wpAny_comprehension_free (use := none) rfl hs hclos hkind hnames (wpAny_mono h (fun xv s₁ h₁ => ?_) fun _ _ e => e)
 refine wpAny_mono h₁ (fun it s₂ h₂ => ?_) fun _ _ e => e
 refine h₂ (fun acc C => compPost (model prog w) A E none Q acc C) ?_
 intro D C h tk m' ys news' F' N' o1 hn hC₀ hD₀ hCL hDL hCD offC fin
 refine ⟨m', hn, fun h'' hs'' => fin D h'' tk (F'.change hs'' hCL hC₀) (fun p hp => ?_) o1⟩
 refine ⟨hs''.extBut _ _ ?_ (N' p hp).1, (N' p hp).2⟩
 rcases List.mem_cons.mp hp with rfl | hp
 ·exact Ne.symm hCD
 ·exact offC p hp
theorem Assign_any {h₀ : Heap} {L : Addr} {m : Str → Option Value} {elt target iter : Expr} {ifs : List Expr} {gs : List Comprehension} {scope : Scope} {cl : List (Str × Addr)} {cp spos py : Pos} {y : Str} {env : Env} {Q : Flow → Shared → Prop} {E : Value → Shared → Prop} {s : Shared}
  (F₀ : Fr h₀ L s.heap m) (hLe : env.locals = L)
  (hsw : swapsWith (.ListComp elt (⟨target, iter, ifs, 0⟩ :: gs) scope cp) (some (.Name y py)) spos.line env = pure true)
  (hclos : closureFor scope env = pure cl) (hkind : scope.kind = .function)
  (hnames : ∀ z ∈ scope.names, z.2 = .local → scope.names.lookup z.1 = some .local)
  (hy : env.kindOf y = some .local) (hp : (env.scope.kind == .class || (env.scope.kind == .module && env.locals != env.globals)) = false)
  (h : wpAny (model prog w) A (eval iter env) (CSrc prog w A h₀ L m env elt (⟨target, iter, ifs, 0⟩ :: gs) scope cp cl (fun s₂ => FinA h₀ L m s₂ y Q) E) E s)
  (hs : ∀ x, foldedSetIterable iter env x = pure x := by intro _; rfl) :
  wpAny (model prog w) A (exec (.Assign [.Name y py] (.ListComp elt (⟨target, iter, ifs, 0⟩ :: gs) scope cp) spos) env) Q E s := by
 subst hLe
 rw [exec_Assign_Name_used _ _ _ _ hsw]
 refine wpAny_bind (wpAny_standAt (wpAny_bind ?_))
 show wpAny _ A (do let _ ← comprehension (.ListComp elt (⟨target, iter, ifs, 0⟩ :: gs) scope cp) scope env _ (newList []) false (eval iter env) (some (assign (.Name y py) env))) _ _ s
 refine wpAny_bind (wpAny_mono (wpAny_comprehension_free (use := some (assign (.Name y py) env)) (Q := fun _ s' => Q .next s') rfl hs hclos hkind hnames
  (wpAny_mono h (fun xv s₁ h₁ => wpAny_mono h₁ (fun it s₂ h₂ => ?_) fun _ _ e => e) fun _ _ e => e)) (fun _ s' hq => wpAny_pure (wpAny_pure hq)) fun _ _ e => e)
 refine h₂ (fun acc C => compPost (model prog w) A E (some (assign (.Name y py) env)) (fun _ s' => Q .next s') acc C) ?_
 intro D C h' tk m' ys news' F' N' o1 hn hC₀ hD₀ hCL hDL hCD offC fin
 show wpAny _ A (assign (.Name y py) env (.ref D)) _ _ _
 refine wpAny_assign_Name (wpAny_storeName_local hy F'.ns (fun h₂ hn₂ hs₂ => ?_) hp)
 have hL₀ : h₀.get? env.locals = none := Heap.get?_none_of_le F'.above
 have F₂ : Fr h₀ env.locals h₂ (fun z => if z = y then some (.ref D) else m z) := ⟨hn₂, fun b o e => hs₂.extBut b o (fun q => by rw [q, hL₀] at e; cases e) (F'.keep b o e), F'.above⟩
 refine ⟨m', hn.sameBut hs₂ hCL, fun h'' hs'' => fin D h'' _ (F₂.change hs'' hCL hC₀) (fun p hp => ?_) o1⟩
 have z : h₂.get? p.1 = some p.2 := hs₂.extBut _ _ (N' p hp).2.1 (N' p hp).1
 refine ⟨hs''.extBut _ _ ?_ z, (N' p hp).2⟩
 rcases List.mem_cons.mp hp with rfl | hp
 ·exact Ne.symm hCD
 ·exact offC p hp
end
end Mine
end
section
open PyProof.V PyProof.Rows.LCg
namespace Mine
section
variable {prog : Program} {w : World} {A : Around}
theorem csrc_list {h₀ : Heap} {L : Addr} {m : Str → Option Value} {ok : Itm → Prop} {G : Itm → (Str → Option Value) → (Str → Option Value) → Prop} {elt target iter : Expr} {ifs : List Expr} {gs : List Comprehension} {scope : Scope} {cl : List (Str × Addr)} {cp pos : Pos} {env : Env}
  {Fin : Shared → List Value → List (Addr × Obj) → Prop} {E : Value → Shared → Prop} {s : Shared} {ax : Addr} {lo : Obj} {vs : List Value} {k : Nat} {news : List (Addr × Obj)} {B : Addr → Addr → Addr → Sem _root_.PySem.Fin}
  (hE : ∀ I C D, compTurn (.ListComp elt (⟨target, iter, ifs, 0⟩ :: gs) scope cp) 0 (.ref I) (.ref D) (compEnvC scope cl C env) = (standAt pos >>= fun _ => pyNext (.ref I) >>= fun r => match r with
   | none => pure (.done .next)
   | some v => letOwnedTupleGo target (.ref I) v >>= fun _ => assign target (compEnvC scope cl C env) v >>= fun _ => B I C D))
  (T : ∀ C, Asg prog w A target (compEnvC scope cl C env) ok G) (hok : ∀ v, ok (.val v))
  (hcell : ∀ y ∈ scope.names, y.2 ≠ .cell) (hkind : scope.kind = .function)
  (hh : A.handled = none) (F : Fr h₀ L s.heap m) (N : News h₀ L s.heap news) (hm : (ax, lo) ∈ news) (hc : lo.cls = .type "list") (hd : lo.data = .seq vs.toArray k)
  (rest : ∀ I C D E' g, (∀ p ∈ news, p.1 < I) → C ≠ D → h₀.get? C = none → C ≠ L → h₀.get? D = none → D ≠ L → I ≠ C ∧ I ≠ D → CR prog w A h₀ L m C D [(I, "list_iterator")] [(ax, lo)] (fun _ => True) G (.compLoop (.ListComp elt (⟨target, iter, ifs, 0⟩ :: gs) scope cp) 0 (.ref I) (.ref D) (compEnvC scope cl C env)) (B I C D) E' { s with heap := g } (Fin { s with heap := g }) (vs.map .val) [] news) :
  CSrc prog w A h₀ L m env elt (⟨target, iter, ifs, 0⟩ :: gs) scope cp cl Fin E (.ref ax) s := by
 have hax := N _ hm
 have hl : s.heap.IsList ax vs.toArray := ⟨lo, hax.1, hc, k, hd⟩
 have hlt : ax < s.heap.objs.size := Heap.lt_size hax.1
 have hne : ax ≠ s.heap.objs.size := Nat.ne_of_lt hlt
 refine wpAny_pyIter_list hl ?_
 intro RR hRR
 have W := Walks.list (prog := prog) (w := w) hh s.heap.objs.size ax hne vs.toArray
 refine block_CR (E := E) (xs := vs.map .val) (keep := [(ax, lo)]) (ws := [(s.heap.objs.size, "list_iterator")]) (fun C D => hE s.heap.objs.size C D) (KTurns.ofWalks W fun i v s Q E st q => letGo_listiter st.1 q) (fun s Q E st q => W.self 0 s Q E st q) T (by simp) (fun i v h hp => ⟨.val v, ?_, rfl⟩) (fun a ha => ?_) (fun i h st => ?_) (fun b hb => ?_) (fun b hb => by simpa using hb) (fun b hb => ?_) (fun b hb => ?_) hcell hkind ?_ (F.push _) (fun p hp => ⟨Heap.get?_push_of_some _ (N p hp).1, (N p hp).2⟩) (fun p hp hI => ?_) (And.intro hm trivial) (fun C D E' h1 h2 h3 h4 h5 h6 => rest s.heap.objs.size C D E' _ (fun p hp => Heap.lt_size (N p hp).1) h1 h2 h3 h4 h5 (h6 _ (by simp))) hRR
 ·have hp' : vs.toArray[i]? = some v := hp
  simpa using hp'
 ·obtain ⟨v, _, rfl⟩ := List.mem_map.mp ha
  exact hok v
 ·obtain ⟨it, hit, hic, _⟩ := st.1
  exact ⟨[(s.heap.objs.size, it)], ⟨⟨rfl, hic⟩, trivial⟩, fun p hp => by rw [List.mem_singleton.mp hp]; exact hit⟩
 ·have hb' : b = s.heap.objs.size := by simpa using hb
  rw [hb']
  exact ⟨List.mem_cons_self .., next_is_new F, fun e => absurd F.ns.lt (by rw [e]; exact Nat.lt_irrefl _)⟩
 ·have hb' : b = s.heap.objs.size ∨ b = ax := by simpa using hb
  rcases hb' with e | e
  ·exact .inl (by simp [e])
  ·exact .inr (.inl ⟨lo, by simp [e]⟩)
 ·have hb' : b = s.heap.objs.size ∨ b = ax := by simpa using hb
  show b < (s.heap.push _).objs.size
  rw [Heap.size_push]
  rcases hb' with e | e
  ·rw [e]; exact Nat.lt_succ_self _
  ·rw [e]; exact Nat.lt_succ_of_lt hlt
 ·exact ⟨⟨_, Heap.get?_push_size _ rfl, rfl, rfl⟩, hl.at fun o e => Heap.get?_push_of_some _ e⟩
 ·have hI' : p.1 = s.heap.objs.size := by simpa using hI
  exact absurd (Heap.lt_size (N p hp).1) (by rw [hI']; exact Nat.lt_irrefl _)
theorem csrc_enum {h₀ : Heap} {L : Addr} {m : Str → Option Value} {ok : Itm → Prop} {G : Itm → (Str → Option Value) → (Str → Option Value) → Prop} {elt iter : Expr} {elts : List Expr} {kk : Nat} {tp : Pos} {ifs : List Expr} {gs : List Comprehension} {scope : Scope} {cl : List (Str × Addr)} {cp pos : Pos} {env : Env}
  {Fin : Shared → List Value → List (Addr × Obj) → Prop} {E : Value → Shared → Prop} {s : Shared} {l : Addr} {lo : Obj} {vs : List Value} {k : Nat} {news : List (Addr × Obj)} {B : Addr → Addr → Addr → Sem _root_.PySem.Fin}
  (hE : ∀ I C D, compTurn (.ListComp elt (⟨.Tuple elts kk tp, iter, ifs, 0⟩ :: gs) scope cp) 0 (.ref I) (.ref D) (compEnvC scope cl C env) = (standAt pos >>= fun _ => pyNext (.ref I) >>= fun r => match r with
   | none => pure (.done .next)
   | some v => letOwnedTupleGo (.Tuple elts kk tp) (.ref I) v >>= fun _ => assign (.Tuple elts kk tp) (compEnvC scope cl C env) v >>= fun _ => B I C D))
  (T : ∀ C, Asg prog w A (.Tuple elts kk tp) (compEnvC scope cl C env) ok G) (hok : ∀ f v, ok (.pair f v))
  (hcell : ∀ y ∈ scope.names, y.2 ≠ .cell) (hkind : scope.kind = .function)
  (hh : A.handled = none) (F : Fr h₀ L s.heap m) (N : News h₀ L s.heap news) (hm : (l, lo) ∈ news) (hc : lo.cls = .type "list") (hd : lo.data = .seq vs.toArray k)
  (rest : ∀ I C D E' g tk, (∀ p ∈ news, p.1 < I) → C ≠ D → h₀.get? C = none → C ≠ L → h₀.get? D = none → D ≠ L → (I ≠ C ∧ I ≠ D) → (@Ne Nat (I + 1) C ∧ @Ne Nat (I + 1) D) → CR prog w A h₀ L m C D [(I + 1, "enumerate"), (I, "list_iterator")] [(l, lo)] (fun _ => True) G (.compLoop (.ListComp elt (⟨.Tuple elts kk tp, iter, ifs, 0⟩ :: gs) scope cp) 0 (.ref (I + 1)) (.ref D) (compEnvC scope cl C env)) (B (I + 1) C D) E' { s with heap := g, toks := tk } (Fin { s with heap := g, toks := tk }) (enumItems 0 vs) [] news) :
  wpAny (model prog w) A (call (.type "enumerate") [.ref l]) (CSrc prog w A h₀ L m env elt (⟨.Tuple elts kk tp, iter, ifs, 0⟩ :: gs) scope cp cl Fin E) E s := by
 have hax := N _ hm
 have hl : s.heap.IsList l vs.toArray := ⟨lo, hax.1, hc, k, hd⟩
 have hlt : l < s.heap.objs.size := Heap.lt_size hax.1
 refine call_enumerate_list hl fun h' hE' hI hsz hk => ?_
 show wpAny _ _ (pyIter _) _ _ _
 refine wpAny_pyIter_enum hE' ?_
 intro RR hRR
 refine block_CR (E := E) (xs := enumItems 0 vs) (keep := [(l, lo)]) (ws := [(s.heap.objs.size + 1, "enumerate"), (s.heap.objs.size, "list_iterator")]) (fun C D => hE (s.heap.objs.size + 1) C D) (KTurns.ofWalksU (WalksT.enumerate hh (s.heap.objs.size + 1) s.heap.objs.size l (Nat.succ_ne_self _) (ktu_ne 1 hlt) (Nat.ne_of_lt hlt) vs.toArray).toU)
  (fun s Q E st q => by obtain ⟨⟨old, he⟩, _, _⟩ := st; exact wpAny_pyIter_enum he q) T (by simp [enumItems_length]) ?_ (fun a ha => ?_) ?_ ?_ ?_ ?_ ?_ hcell hkind ?_ (F.keeps hk) (N.grown hk) ?_ (And.intro hm trivial) (fun C D E' h1 h2 h3 h4 h5 h6 => rest s.heap.objs.size C D E' _ _ (fun p hp => Heap.lt_size (N p hp).1) h1 h2 h3 h4 h5 (h6 s.heap.objs.size (by simp)) (h6 (s.heap.objs.size + 1) (by simp))) hRR
 ·rintro i v h ⟨T, vals, rfl, ⟨t, x, hx, rfl⟩, hT⟩
  refine ⟨_, enumItems_get vs 0 i (v := x) (by simpa using hx), T, t, rfl, ?_⟩
  show IsTup h T #[.int ((0 + i : Nat) : Int) t, x]
  rw [Nat.zero_add]
  exact hT
 ·obtain ⟨i, hi, e⟩ := List.mem_iff_getElem.mp ha
  have hi' : i < vs.length := by rw [enumItems_length] at hi; exact hi
  have q := enumItems_get vs 0 i (v := vs[i]) (by simp [hi'])
  rw [List.getElem?_eq_getElem hi, e] at q
  rw [Option.some.inj q]
  exact hok _ _
 ·rintro i h ⟨⟨old, he⟩, ⟨oi, hoi, hic, _⟩, _⟩
  have he' : ∃ oe : Obj, h.get? (s.heap.objs.size + 1) = some oe ∧ oe.cls = .type "enumerate" := ⟨_, he, rfl⟩
  obtain ⟨oe, h1, h2⟩ := he'
  refine ⟨[(s.heap.objs.size + 1, oe), (s.heap.objs.size, oi)], ⟨⟨rfl, h2⟩, ⟨rfl, hic⟩, trivial⟩, fun p hp => ?_⟩
  rcases List.mem_cons.mp hp with rfl | hp
  ·exact h1
  ·rw [List.mem_singleton.mp hp]; exact hoi
 ·intro b hb
  have hb' : b = s.heap.objs.size + 1 ∨ b = s.heap.objs.size := by simpa using hb
  have hL := F.ns.lt
  rcases hb' with rfl | rfl
  ·exact ⟨by simp, ktu_new F (Nat.le_add_right _ _), fun e => by rw [e] at hL; exact absurd hL (Nat.not_lt.mpr (Nat.le_succ _))⟩
  ·exact ⟨by simp, ktu_new F (Nat.le_refl _), fun e => by rw [e] at hL; exact absurd hL (Nat.lt_irrefl _)⟩
 ·intro b hb
  simpa using hb
 ·intro b hb
  have hb' : b = s.heap.objs.size + 1 ∨ b = s.heap.objs.size ∨ b = l := by simpa using hb
  rcases hb' with e | e | e
  ·exact .inl (by simp [e])
  ·exact .inl (by simp [e])
  ·exact .inr (.inl ⟨lo, by simp [e]⟩)
 ·intro b hb
  have hb' : b = s.heap.objs.size + 1 ∨ b = s.heap.objs.size ∨ b = l := by simpa using hb
  show b < h'.objs.size
  rw [hsz]
  rcases hb' with e | e | e
  ·rw [e]; exact Nat.lt_succ_self _
  ·rw [e]; exact Nat.lt_succ_of_lt (Nat.lt_succ_self _)
  ·rw [e]; exact Nat.lt_succ_of_lt (Nat.lt_succ_of_lt hlt)
 ·exact ⟨⟨_, hE'⟩, hI, hl.at fun o e => hk _ _ e⟩
 ·intro p hp hI2
  have hI' : p.1 = s.heap.objs.size + 1 ∨ p.1 = s.heap.objs.size := by simpa using hI2
  have hlp := Heap.lt_size (N p hp).1
  rcases hI' with e | e
  ·exact ktu_ne 1 hlp e
  ·exact Nat.ne_of_lt hlp e
end
end Mine
end
section
open PyProof.V PyProof.Rows.LCg
namespace Mine
section
variable {prog : Program} {w : World} {A : Around}
def CPut (h₀ : Heap) (L : Addr) (m : Str → Option Value) (s₁ : Shared) (its : List (Addr × Obj)) (C : Addr) (oC : Obj) (D : Addr) (ys : List Value) (rest : List Value → List (Addr × Obj) → Prop) (y : Value) (s₂ : Shared) : Prop :=
 ∃ h' tk news', s₂ = { s₁ with heap := h', toks := tk } ∧ Fr h₀ L h' m ∧ News h₀ L h' (its ++ (C, oC) :: (D, lst ys) :: news') ∧ OffCD C D news' ∧ (∀ p ∈ news', ∀ q ∈ its, p.1 ≠ q.1) ∧ rest (ys ++ [y]) news'
def OffI (its : List (Addr × Obj)) : List (Addr × Obj) → Prop
 | [] => True
 | p :: r => AllNeR p.1 its ∧ OffI its r
where AllNeR (a : Addr) : List (Addr × Obj) → Prop
 | [] => True
 | q :: r => @Ne Nat a q.1 ∧ AllNeR a r
theorem AllNeR.mem {a : Addr} : ∀ {l : List (Addr × Obj)}, OffI.AllNeR a l → ∀ q ∈ l, a ≠ q.1
 | [], _, _, h => nomatch h
 | _ :: _, x, q, h => by
  rcases List.mem_cons.mp h with rfl | h
  ·exact x.1
  ·exact AllNeR.mem x.2 q h
theorem AllNeR.of {a : Addr} : ∀ {l : List (Addr × Obj)}, (∀ q ∈ l, a ≠ q.1) → OffI.AllNeR a l
 | [], _ => trivial
 | _ :: _, h => ⟨h _ List.mem_cons_self, AllNeR.of fun q hq => h q (List.mem_cons_of_mem _ hq)⟩
theorem OffI.mem {its : List (Addr × Obj)} : ∀ {l : List (Addr × Obj)}, OffI its l → ∀ p ∈ l, ∀ q ∈ its, p.1 ≠ q.1
 | [], _, _, h => nomatch h
 | _ :: _, x, p, h => by
  rcases List.mem_cons.mp h with rfl | h
  ·exact AllNeR.mem x.1
  ·exact OffI.mem x.2 p h
theorem OffI.of {its : List (Addr × Obj)} : ∀ {l : List (Addr × Obj)}, (∀ p ∈ l, ∀ q ∈ its, p.1 ≠ q.1) → OffI its l
 | [], _ => trivial
 | _ :: _, h => ⟨AllNeR.of (h _ List.mem_cons_self), OffI.of fun p hp => h p (List.mem_cons_of_mem _ hp)⟩
theorem put_at {h₀ : Heap} {L C D : Addr} {m m₂ : Str → Option Value} {s₁ s₂ : Shared} {its : List (Addr × Obj)} {oC : Obj} {ys : List Value} {kn : (Str → Option Value) → Prop} {rest : List Value → List (Addr × Obj) → Prop} {y : Value} {E : Value → Shared → Prop}
  (hoC : NsObj oC m₂) (hkn : kn m₂) (hCD : C ≠ D) (hDi : ∀ q ∈ its, D ≠ q.1) (hlen : ys.length ≤ sizeLine) (h : CPut h₀ L m s₁ its C oC D ys rest y s₂) :
  wpAny (model prog w) A (call (.builtin "list.append") [.ref D, y]) (fun _ s₃ => CEnd h₀ L m s₁ its C D kn rest s₃) E s₂ := by
 obtain ⟨h', tk, news', rfl, F, N, off, ap, r⟩ := h
 have zD := N (D, lst ys) (List.mem_append_right _ (List.mem_cons_of_mem _ List.mem_cons_self))
 refine append_at (hsz := by rw [List.size_toArray]; exact hlen) zD.1 fun h₅ hs₅ hD₅ => ?_
 refine ⟨h₅, tk, oC, m₂, ys ++ [y], news', rfl, F.change hs₅ zD.2.1 zD.2.2, hoC, hkn, fun p hp => ?_, off, ap, r⟩
 rcases List.mem_append.mp hp with hp | hp
 ·have z := N p (List.mem_append_left _ hp)
  exact ⟨hs₅.extBut _ _ (Ne.symm (hDi p hp)) z.1, z.2⟩
 ·rcases List.mem_cons.mp hp with rfl | hp
  ·have z := N (C, oC) (List.mem_append_right _ List.mem_cons_self)
   exact ⟨hs₅.extBut _ _ hCD z.1, z.2⟩
  ·rcases List.mem_cons.mp hp with rfl | hp
   ·exact ⟨hD₅.trans (congrArg some (lst_snoc ys y)), zD.2⟩
   ·have z := N p (List.mem_append_right _ (List.mem_cons_of_mem _ (List.mem_cons_of_mem _ hp)))
    exact ⟨hs₅.extBut _ _ (off.mem p hp).2 z.1, z.2⟩
end
end Mine
end
section
open PyProof.V PyProof.Rows.LCg
namespace Mine
theorem allObj_of : ∀ {ws : List (Addr × String)} {k : List (Addr × Obj) → Prop}, (∀ its, Objs ws its → k its) → AllObj ws k
 | [], _, h => h [] trivial
 | _ :: _, _, h => fun o ho => allObj_of fun its hits => h ((_, o) :: its) ⟨⟨rfl, ho⟩, hits⟩
section
variable {prog : Program} {w : World} {A : Around}
abbrev emitB (elt : Expr) (acc : Value) (cenv : Env) (c : Code) : Sem _root_.PySem.Fin := (eval elt cenv >>= fun x => call (.builtin "list.append") [acc, x] >>= fun _ => pure ()) >>= fun _ => again c
theorem cr_emit {h₀ : Heap} {L C D : Addr} {m m₂ : Str → Option Value} {ws : List (Addr × String)} {keep : List (Addr × Obj)} {kn : (Str → Option Value) → Prop} {G : Itm → (Str → Option Value) → (Str → Option Value) → Prop} {c c' : Code} {elt : Expr} {cenv : Env} {B : Sem _root_.PySem.Fin} {E : Value → Shared → Prop} {s s' : Shared} {Fin : List Value → List (Addr × Obj) → Prop} {r : List Itm} {ys : List Value} {news : List (Addr × Obj)} {oC : Obj} {h : Heap}
  (hCD : C ≠ D) (hDw : ∀ b ∈ ws.map (·.1), D ≠ b) (hlen : ys.length ≤ sizeLine) (hoC : NsObj oC m₂) (hkn : kn m₂)
  (k : AllObj ws (fun its => News h₀ L h (its ++ (C, oC) :: (D, lst ys) :: news) → OffI its news →
   wpAny (model prog w) A (eval elt cenv) (CPut h₀ L m s' its C oC D ys (fun ys' news' => SubL keep news' ∧ CR prog w A h₀ L m C D ws keep kn G c B E s Fin r ys' news')) E s')) :
  AllObj ws (fun its => News h₀ L h (its ++ (C, oC) :: (D, lst ys) :: news) → (∀ p ∈ news, ∀ q ∈ its, p.1 ≠ q.1) →
   wpAny (model prog w) A (emitB elt (.ref D) cenv c') (fun f s₃ => f = .again c' ∧ CEnd h₀ L m s' its C D kn (fun ys' news' => SubL keep news' ∧ CR prog w A h₀ L m C D ws keep kn G c B E s Fin r ys' news') s₃) E s') :=
 allObj_of fun its hits N ap => emit_at (wpAny_mono (k.at hits N (OffI.of ap)) (fun _ _ hy => put_at hoC hkn hCD (fun q hq => hDw q.1 (by rw [← hits.map]; exact List.mem_map.mpr ⟨q, hq, rfl⟩)) hlen hy) fun _ _ e => e)
theorem cr_pair {h₀ : Heap} {L C D : Addr} {m : Str → Option Value} {ws : List (Addr × String)} {keep : List (Addr × Obj)} {c : Code} {x y : Str} {elt : Expr} {cenv : Env} {E : Value → Shared → Prop} {s : Shared} {Fin : List Value → List (Addr × Obj) → Prop} {f : Tok → Value} {u : Value} {r : List Itm} {ys : List Value} {news : List (Addr × Obj)}
  (hxy : x ≠ y) (hCD : C ≠ D) (hDw : ∀ b ∈ ws.map (·.1), D ≠ b) (hlen : ys.length ≤ sizeLine)
  (k : ∀ t oC m₂ h tk, m₂ x = some (f t) → m₂ y = some u → NsObj oC m₂ → Fr h₀ L h m → OffCD C D news → AllObj ws (fun its => News h₀ L h (its ++ (C, oC) :: (D, lst ys) :: news) → OffI its news →
   wpAny (model prog w) A (eval elt cenv) (CPut h₀ L m { s with heap := h, toks := tk } its C oC D ys (fun ys' news' => SubL keep news' ∧ CR prog w A h₀ L m C D ws keep (fun _ => True) (GPair x y) c (emitB elt (.ref D) cenv c) E s Fin r ys' news')) E { s with heap := h, toks := tk })) :
  CR prog w A h₀ L m C D ws keep (fun _ => True) (GPair x y) c (emitB elt (.ref D) cenv c) E s Fin (.pair f u :: r) ys news := by
 rintro oC m₁ m₂ h tk - ⟨t, e⟩ hoC F off
 exact cr_emit hCD hDw hlen hoC True.intro (k t oC m₂ h tk (by rw [e]; simp [upd, hxy]) (by rw [e]; simp [upd]) hoC F off)
end
end Mine
end
section
open PyProof.V PyProof.Rows.LCg
namespace Mine
def CNext (m m' : Str → Option Value) (P : Prop) : Prop := m' = m ∧ P
section
variable {prog : Program} {w : World} {A : Around}
abbrev CPutK (h₀ : Heap) (L : Addr) (m : Str → Option Value) (s₁ : Shared) (its : List (Addr × Obj)) (C : Addr) (oC : Obj) (D : Addr) (ys : List Value) (keep : List (Addr × Obj)) (rest : List Value → List (Addr × Obj) → Prop) (y : Value) (s₂ : Shared) : Prop :=
 UnrEndW h₀ L s₁ (its ++ [(C, oC), (D, lst ys)]) (fun m' news' => SubL keep news' ∧ CNext m m' (rest (ys ++ [y]) news')) s₂
theorem cr_nil {h₀ : Heap} {L C D : Addr} {m : Str → Option Value} {ws : List (Addr × String)} {keep : List (Addr × Obj)} {kn : (Str → Option Value) → Prop} {G : Itm → (Str → Option Value) → (Str → Option Value) → Prop} {c : Code} {B : Sem _root_.PySem.Fin} {E : Value → Shared → Prop} {s : Shared} {Fin : List Value → List (Addr × Obj) → Prop} {ys : List Value} {news : List (Addr × Obj)}
  (h : Fin ys news) : CR prog w A h₀ L m C D ws keep kn G c B E s Fin [] ys news := h
end
end Mine
end
section
open PyProof.V PyProof.Rows.LCg
namespace Mine
section
variable {prog : Program} {w : World} {A : Around}
def CSame (h₀ : Heap) (L : Addr) (m : Str → Option Value) (s₁ : Shared) (its : List (Addr × Obj)) (C : Addr) (oC : Obj) (D : Addr) (ys : List Value) (news : List (Addr × Obj)) (rest : List Value → Prop) (y : Value) (s₂ : Shared) : Prop :=
 ∃ h' tk, s₂ = { s₁ with heap := h', toks := tk } ∧ Fr h₀ L h' m ∧ News h₀ L h' (its ++ (C, oC) :: (D, lst ys) :: news) ∧ rest (ys ++ [y])
theorem CSame.intro {h₀ : Heap} {L C D : Addr} {m : Str → Option Value} {s₁ : Shared} {its news : List (Addr × Obj)} {oC : Obj} {ys : List Value} {rest : List Value → Prop} {y : Value} {h' : Heap} {tk : Nat}
  (F : Fr h₀ L h' m) (N : News h₀ L h' (its ++ (C, oC) :: (D, lst ys) :: news)) (r : rest (ys ++ [y])) : CSame h₀ L m s₁ its C oC D ys news rest y { s₁ with heap := h', toks := tk } := ⟨h', tk, rfl, F, N, r⟩
theorem CSame.put {h₀ : Heap} {L C D : Addr} {m : Str → Option Value} {s₁ s₂ : Shared} {its news keep : List (Addr × Obj)} {oC : Obj} {ys : List Value} {rest : List Value → List (Addr × Obj) → Prop} {y : Value}
  (off : OffCD C D news) (ap : OffI its news) (hk : SubL keep news) (h : CSame h₀ L m s₁ its C oC D ys news (fun ys' => rest ys' news) y s₂) : CPut h₀ L m s₁ its C oC D ys (fun ys' news' => SubL keep news' ∧ rest ys' news') y s₂ := by
 obtain ⟨h', tk, rfl, F, N, r⟩ := h
 exact ⟨h', tk, news, rfl, F, N, off, ap.mem, hk, r⟩
theorem cr_pairS {h₀ : Heap} {L C D : Addr} {m : Str → Option Value} {ws : List (Addr × String)} {keep : List (Addr × Obj)} {c : Code} {x y : Str} {elt : Expr} {cenv : Env} {E : Value → Shared → Prop} {s : Shared} {Fin : List Value → List (Addr × Obj) → Prop} {f : Tok → Value} {u : Value} {r : List Itm} {ys : List Value} {news : List (Addr × Obj)}
  (hxy : x ≠ y) (hCD : C ≠ D) (hDw : ∀ b ∈ ws.map (·.1), D ≠ b) (hlen : ys.length ≤ sizeLine) (hk : SubL keep news)
  (k : ∀ t oC m₂ h tk, m₂ x = some (f t) → m₂ y = some u → NsObj oC m₂ → Fr h₀ L h m → OffCD C D news → AllObj ws (fun its => News h₀ L h (its ++ (C, oC) :: (D, lst ys) :: news) → OffI its news →
   wpAny (model prog w) A (eval elt cenv) (CSame h₀ L m { s with heap := h, toks := tk } its C oC D ys news (fun ys' => CR prog w A h₀ L m C D ws keep (fun _ => True) (GPair x y) c (emitB elt (.ref D) cenv c) E s Fin r ys' news)) E { s with heap := h, toks := tk })) :
  CR prog w A h₀ L m C D ws keep (fun _ => True) (GPair x y) c (emitB elt (.ref D) cenv c) E s Fin (.pair f u :: r) ys news :=
 cr_pair hxy hCD hDw hlen fun t oC m₂ h tk hx hy hoC F off => allObj_of fun its hits N ap => wpAny_mono ((k t oC m₂ h tk hx hy hoC F off).at hits N ap) (fun _ _ q => q.put off ap hk) fun _ _ e => e
end
end Mine
end
section
namespace Mine
abbrev TabQ (res : Int) (v : Value) (led' : List (Addr × Obj)) : Prop :=
 ∃ t p4 c4 o4 p6 c6 o6, v = .int res t ∧ led' = [(54, tabObj p4), (c4, o4), (61, tabObj p6), (c6, o6)] ∧ TS 54 36 4 qI p4 c4 o4 ∧ TS 61 51 4 qD p6 c6 o6 ∧ @Ne Nat c4 61 ∧ @Ne Nat c6 54 ∧ @Ne Nat c4 c6
theorem prod_end {R : Result → Shared → Prop} {s : Shared} {g h' : Heap} {L c4 c6 : Addr} {m : Str → Option Value} {news : List (Addr × Obj)} {o4 o6 : Obj} {x res : Int} {t : Tok} {tk : Nat} {p4 p6 : Array Value}
  (hret : RetG R s g (TabQ res)) (F : Fr g L h' m) (N : News g L h' news) (h4 : TS 54 36 4 qI p4 c4 o4) (h6 : TS 61 51 4 qD p6 c6 o6)
  (m2 : (54, tabObj p4) ∈ news) (m3 : (c4, o4) ∈ news) (m4 : (61, tabObj p6) ∈ news) (m5 : (c6, o6) ∈ news)
  (e : x = res) (n5 : @Ne Nat c4 61) (n6 : @Ne Nat c6 54) (n7 : @Ne Nat c4 c6) : R (.ok (.ret (.int x t))) { s with heap := h', toks := tk } := by
 subst e
 refine ret_end hret F N ?_ ⟨t, p4, c4, o4, p6, c6, o6, rfl, rfl, h4, h6, n5, n6, n7⟩
 exact List.forall_mem_cons.mpr ⟨m2, List.forall_mem_cons.mpr ⟨m3, List.forall_mem_cons.mpr ⟨m4, List.forall_mem_cons.mpr ⟨m5, List.forall_mem_nil _⟩⟩⟩⟩
end Mine
end
section
namespace Mine
theorem prod_0 : ∀ (w : World) (loose : List Str) (mean : ExcName → Option Value) (mg mb : Str → Option Value) (dp un : Nat) (gd : Option (List Code)) (outer : List Env) (base g : Heap) (s : Shared) (R : Result → Shared → Prop) (a b n q r res : Int) (ta tb tn : Tok) (p4 p6 : Array Value) (c4 c6 : Addr) (o4 o6 : Obj)
  (B : Below (arX dp un gd outer) base outer g) (X : (hd.heap_1 w.params).In g) (T : Top topProg loose mean mg mb g) (hkg : ∀ b o, g.get? b = some o → s.heap.get? b = some o) (hsz : g.objs.size ≤ s.heap.objs.size) (hdp : dp + 240 < recursionLimit) (hun : un + 1600 < cLine) (hled : ∀ p ∈ ([(54, tabObj p4), (c4, o4), (61, tabObj p6), (c6, o6)] : List (Addr × Obj)), s.heap.get? p.1 = some p.2 ∧ g.get? p.1 = none) (ha : 0 ≤ a ∧ a < 2 ^ 10) (hb : 0 ≤ b ∧ b < 2 ^ 10) (hn : 3 ≤ n ∧ n ≤ 8) (hp : 0 ≤ a * b ∧ a * b < 2 ^ 20) (hM : 0 < ((4 : Int) ^ n.toNat - 2 ^ n.toNat - 1) ∧ ((4 : Int) ^ n.toNat - 2 ^ n.toNat - 1) < 2 ^ 20) (hMb : 1 ≤ (Builtin.Int.intBits ((4 : Int) ^ n.toNat - 2 ^ n.toNat - 1) : Int) ∧ (Builtin.Int.intBits ((4 : Int) ^ n.toNat - 2 ^ n.toNat - 1) : Int) ≤ 16) (hk : Bits2 (a * b) (Builtin.Int.intBits ((4 : Int) ^ n.toNat - 2 ^ n.toNat - 1))) (hab : a * b < 4 * ((4 : Int) ^ n.toNat - 2 ^ n.toNat - 1)) (hq : (a * b).fdiv ((4 : Int) ^ n.toNat - 2 ^ n.toNat - 1) = q) (hr : (a * b).fmod ((4 : Int) ^ n.toNat - 2 ^ n.toNat - 1) = r) (he : q = (a.fdiv (2 ^ n.toNat)) * (b.fdiv (2 ^ n.toNat))) (hr0 : 0 ≤ r ∧ r < 2 ^ 20) (hrz : r = 0) (hrk : Int.fdiv ((Builtin.Int.intBits r : Int) + n - 1) n = 0) (hv : res = 0) (h4 : TS 54 36 4 qI p4 c4 o4) (h6 : TS 61 51 4 qD p6 c6 o6) (hd1 : @Ne Nat c4 61) (hd2 : @Ne Nat c6 54) (hd3 : @Ne Nat c4 c6)
  (hret : RetG R s g (TabQ res)),
  codeAny (model PySem.Challenge.rw_sn0104_01.row.toRowW.prog w) (arX dp un gd outer) (.call (.ref 365) ⟨[.int a ta, .int b tb, .int n tn], []⟩) R s := by
 k_with_none
 k_with "eval ListComp" => (k_here; k_dflt (refine ListComp_any (F₀ := by k_asm) (by rfl) (by rfl) (by decide) ?_))
 k_with "call type:enumerate" => (k_here; k_dflt (refine' csrc_enum (fun I C D => turn_1 _ _ _ _ _ _ _ _) ?zqca ?zqcb ?zqcc ?zqcd ?zqce ?zqcf ?zqcg ?zqch ?zqci ?zqcj ?_; (case zqca => exact fun C => asg_pair rfl rfl rfl rfl); (case zqcb => exact fun _ _ => trivial); (case zqcc => decide); (case zqcd => rfl); (case zqce => rfl); (case zqcf => k_asm); (case zqcg => k_asm); (case zqch => k_mem); (case zqci => rfl); (case zqcj => rfl); k_whole; intro I' C' D' E' g' tk' hI' hCD' hC0' hCL' hD0' hDL' hIC' hEC'))
 k_with "CSrc" => (k_here; k_dflt (refine' csrc_list (fun I C D => turn_1 _ _ _ _ _ _ _ _) ?zqca ?zqcb ?zqcc ?zqcd ?zqce ?zqcf ?zqcg ?zqch ?zqci ?zqcj ?_; (case zqca => exact fun C => asg_name rfl rfl); (case zqcb => exact fun _ => trivial); (case zqcc => decide); (case zqcd => rfl); (case zqce => rfl); (case zqcf => k_asm); (case zqcg => k_asm); (case zqch => k_mem); (case zqci => rfl); (case zqcj => rfl); k_whole; intro I' C' D' E' g' hI' hCD' hC0' hCL' hD0' hDL' hIC'))
 k_with "CR" => (k_here; k_dflt (first | ((refine' cr_pairS ?zqka ?zqkb ?zqkc ?zqkd ?zqkk ?_; (case zqka => decide); (case zqkb => assumption); (case zqkc => (intro b hb; simp only [List.map_cons, List.map_nil, List.mem_cons, List.not_mem_nil, or_false] at hb; first | (rcases hb with hb | hb <;> (rw [hb]; first | exact Ne.symm (And.right (by assumption)))) | (rw [hb]; exact Ne.symm (And.right (by assumption)))); done); (case zqkd => exact Nat.le_of_ble_eq_true rfl); (case zqkk => k_subL); k_whole; intro t' oC' m2' h' tk' hx' hy' hC' F' off'; ktu_objs; intro ap'; (try simp only [OffCD, OffI, OffI.AllNeR, and_true] at off' ap'))) | ((refine' cr_nameS ?zqkb ?zqkc ?zqkd ?zqkk ?_; (case zqkb => assumption); (case zqkc => (intro b hb; simp only [List.map_cons, List.map_nil, List.mem_cons, List.not_mem_nil, or_false] at hb; first | (rcases hb with hb | hb <;> (rw [hb]; first | exact Ne.symm (And.right (by assumption)))) | (rw [hb]; exact Ne.symm (And.right (by assumption)))); done); (case zqkd => exact Nat.le_of_ble_eq_true rfl); (case zqkk => k_subL); k_whole; intro oC' m2' h' tk' hx' hC' F' off'; ktu_objs; intro ap'; (try simp only [OffCD, OffI, OffI.AllNeR, and_true] at off' ap'))) | (refine' cr_nil ?_; k_whole)))
 k_with "CSame" => (k_dflt (refine' CSame.intro ?zqF ?zqN ?_; (case zqF => k_asm); (case zqN => k_asm); k_whole; (try simp only [List.nil_append, List.cons_append])))
 k_with "call ref" => ((k_here; k_dflt (refine' use_c ?zqB ?zqF ?zqX ?zqN ?zqT ?zqhA ?zqhf ?zqhke (idm_q _ _ _ _ _ _ _ _ _ _ _ _ _ _ _ _ _ ?zqp0 ?zqp1 ?zqp2 ?zqp3 ?zqp4 ?zqp5 ?zqp6 ?zqp7 ?zqp8 ?zqp9 ?zqp10 ?zqp11 ?zqp12 ?zqp13) ?zqhled ?zqhrem ?zqhold ?_); (case zqhA => walk_at "hA"); (case zqhf => walk_at "hf"); (case zqhke => walk_at "hke"); (case zqB => walk_at "ka"); (case zqF => walk_at "ka"); (case zqX => walk_at "ka"); (case zqN => walk_at "ka"); (case zqT => walk_at "ka"); (case zqp0 => (k_dflt ((first | omega | ((try dsimp only); omega) | ktr_room)))); (case zqp1 => (k_dflt ((first | omega | ((try dsimp only); omega) | ktr_units)))); (case zqp2 => (k_dflt ((kbo_bools)))); (case zqp3 => (k_dflt ((kbo_bools)))); (case zqp4 => (k_dflt ((kbo_bools)))); (case zqp5 => (k_dflt ((kbo_bools)))); (case zqp6 => (k_dflt ((kbo_bools)))); (case zqp7 => (k_dflt ((kbo_bools)))); (case zqp8 => (k_dflt ((kbo_bools)))); (case zqp9 => (k_dflt ((kbo_bools)))); (case zqp10 => (k_dflt ((kbo_bools)))); (case zqp11 => (k_dflt ((kbo_bools)))); (case zqp12 => (k_dflt ((kbo_bools)))); (case zqp13 => (k_dflt ((kbo_bools)))); (case zqhled => (k_dflt (k_allIn))); (case zqhrem => (k_dflt ((first | exact Rem.refl | kat_tups)))); (case zqhold => (k_dflt (exact fun _ _ _ => trivial))); k_whole; intro v9 h' tk' led' F' N' hne9 hP9; obtain ⟨D, t, u, nn, p4', c4', o4', p6', c6', o6', hv9, hl9, h4', h6', n1, n2, n3, n4, n5, n6, n7⟩ := hP9; subst hv9 hl9; walk_at "u9"))
 k_with "call ref" => ((k_here; k_dflt (refine' use_c ?zqB ?zqF ?zqX ?zqN ?zqT ?zqhA ?zqhf ?zqhke (i2d_c0 _ _ _ _ _ _ _ _ _ _ _ _ ?zqp0 ?zqp1 ?zqp2 ?zqp3 ?zqp4 ?zqp5 ?zqp6) ?zqhled ?zqhrem ?zqhold ?_); (case zqhA => walk_at "hA"); (case zqhf => walk_at "hf"); (case zqhke => walk_at "hke"); (case zqB => walk_at "ka"); (case zqF => walk_at "ka"); (case zqX => walk_at "ka"); (case zqN => walk_at "ka"); (case zqT => walk_at "ka"); (case zqp0 => (k_dflt ((first | omega | ((try dsimp only); omega) | ktr_room)))); (case zqp1 => (k_dflt ((first | omega | ((try dsimp only); omega) | ktr_units)))); (case zqp2 => (k_dflt ((first | with_reducible assumption | assumption | omega)))); (case zqp3 => (k_dflt (omega))); (case zqp4 => (k_dflt ((kbo_bools)))); (case zqp5 => (k_dflt ((kbo_bools)))); (case zqp6 => (k_dflt ((kbo_bools)))); (case zqhled => (k_dflt (k_allIn))); (case zqhrem => (k_dflt ((first | exact Rem.refl | kat_tups)))); (case zqhold => (k_dflt (exact fun _ _ _ => trivial))); k_whole; intro v9 h' tk' led' F' N' hne9 hP9; obtain ⟨D, nn, t0, t1, ps, c, o, hv9, hl9, hts, hq1, hq2⟩ := hP9; subst hv9 hl9; walk_at "u9"))
 w_top off
 k_fill
 ((refine hk28 (h := ?_)); (generalize hkT28 _ = T9); (generalize pj0 T9 = w, pj1 T9 = loose, pj2 T9 = mean, pj3 T9 = mg, s4 T9 = U9); (clear T9); (generalize pj0 U9 = mb, pj1 U9 = dp, pj2 U9 = un, pj3 U9 = gd, s4 U9 = T9); (clear U9); (generalize pj0 T9 = outer, pj1 T9 = base, pj2 T9 = g, pj3 T9 = s, s4 T9 = U9); (clear T9); (generalize pj0 U9 = R, pj1 U9 = a, pj2 U9 = b, pj3 U9 = n, s4 U9 = T9); (clear U9); (generalize pj0 T9 = q, pj1 T9 = r, pj2 T9 = res, pj3 T9 = ta, s4 T9 = U9); (clear T9); (generalize pj0 U9 = tb, pj1 U9 = tn, pj2 U9 = p4, pj3 U9 = p6, s4 U9 = T9); (clear U9); (generalize pj0 T9 = c4, pj1 T9 = c6, pj2 T9 = o4, lj3 T9 = o6); (clear T9); intro B X T hkg hsz hdp hun hled ha hb hn hp hM hMb hk hab hq hr he hr0 hrz hrk hv h4 h6 hd1 hd2 hd3 hret)
 k_dflt (refine' enterG (led := [(54, tabObj p4), (c4, o4), (61, tabObj p6), (c6, o6)]) hkg hsz ?kl ?k3 ?k5 ?k6 ?k7 ?k8 ?k9 ?kB ?_ ?c2 ?c3 ?c4 ?c5; (case kl => exact hled); (case k3 => k_asm); (case k5 => k_asm); (case k6 => k_is); (case k7 => k_is); (case k8 => ktr_room); (case k9 => first | exact BindsTo.of_eq rfl | exact kp_binds (X.keeps hkg) (fun _ => rfl)); (case c5 => decide); (case kB => exact locs rfl); (case c2 => exact rfl); (case c3 => exact rfl); (case c4 => exact rfl); k_whole; ((refine hk2 (h := ?_)); (generalize hkT2 _ = T9); (generalize pj0 T9 = L', lj1 T9 = h'); (clear T9); intro F' N' l1); (try k_lt l1); (try dsimp only); (try k_fold); (have hkm := HkMark.mk))
 w_strict k_steps
 all_goals first | exact absurd he (by assumption) | (refine' prod_end (res := res) hret (by assumption) (by assumption) ?h4 ?h6 ?m2 ?m3 ?m4 ?m5 ?e ?n5 ?n6 ?n7; (case h4 => assumption); (case h6 => assumption); (case m2 => (k_mem)); ((case m3 => k_mem)); ((case m4 => k_mem)); ((case m5 => k_mem)); (case e => (exact hv.symm)); (case n5 => first | assumption | kpt_turns); (case n6 => assumption); (case n7 => first | assumption | kpt_turns))| w_report
end Mine
end
section
namespace Mine
theorem prod_1 : ∀ (w : World) (loose : List Str) (mean : ExcName → Option Value) (mg mb : Str → Option Value) (dp un : Nat) (gd : Option (List Code)) (outer : List Env) (base g : Heap) (s : Shared) (R : Result → Shared → Prop) (a b n q r res : Int) (ta tb tn : Tok) (p4 p6 : Array Value) (c4 c6 : Addr) (o4 o6 : Obj)
  (B : Below (arX dp un gd outer) base outer g) (X : (hd.heap_1 w.params).In g) (T : Top topProg loose mean mg mb g) (hkg : ∀ b o, g.get? b = some o → s.heap.get? b = some o) (hsz : g.objs.size ≤ s.heap.objs.size) (hdp : dp + 240 < recursionLimit) (hun : un + 1600 < cLine) (hled : ∀ p ∈ ([(54, tabObj p4), (c4, o4), (61, tabObj p6), (c6, o6)] : List (Addr × Obj)), s.heap.get? p.1 = some p.2 ∧ g.get? p.1 = none) (ha : 0 ≤ a ∧ a < 2 ^ 10) (hb : 0 ≤ b ∧ b < 2 ^ 10) (hn : 3 ≤ n ∧ n ≤ 8) (hp : 0 ≤ a * b ∧ a * b < 2 ^ 20) (hM : 0 < ((4 : Int) ^ n.toNat - 2 ^ n.toNat - 1) ∧ ((4 : Int) ^ n.toNat - 2 ^ n.toNat - 1) < 2 ^ 20) (hMb : 1 ≤ (Builtin.Int.intBits ((4 : Int) ^ n.toNat - 2 ^ n.toNat - 1) : Int) ∧ (Builtin.Int.intBits ((4 : Int) ^ n.toNat - 2 ^ n.toNat - 1) : Int) ≤ 16) (hk : Bits2 (a * b) (Builtin.Int.intBits ((4 : Int) ^ n.toNat - 2 ^ n.toNat - 1))) (hab : a * b < 4 * ((4 : Int) ^ n.toNat - 2 ^ n.toNat - 1)) (hq : (a * b).fdiv ((4 : Int) ^ n.toNat - 2 ^ n.toNat - 1) = q) (hr : (a * b).fmod ((4 : Int) ^ n.toNat - 2 ^ n.toNat - 1) = r) (he : q = (a.fdiv (2 ^ n.toNat)) * (b.fdiv (2 ^ n.toNat))) (hr0 : 0 ≤ r ∧ r < 2 ^ 20) (hrz : r ≠ 0) (hrk : Int.fdiv ((Builtin.Int.intBits r : Int) + n - 1) n = 1) (hv : res = r.fmod 2) (h4 : TS 54 36 4 qI p4 c4 o4) (h6 : TS 61 51 4 qD p6 c6 o6) (hd1 : @Ne Nat c4 61) (hd2 : @Ne Nat c6 54) (hd3 : @Ne Nat c4 c6)
  (hret : RetG R s g (TabQ res)),
  codeAny (model PySem.Challenge.rw_sn0104_01.row.toRowW.prog w) (arX dp un gd outer) (.call (.ref 365) ⟨[.int a ta, .int b tb, .int n tn], []⟩) R s := by
 k_with_none
 k_with "eval ListComp" => (k_here; k_dflt (refine ListComp_any (F₀ := by k_asm) (by rfl) (by rfl) (by decide) ?_))
 k_with "call type:enumerate" => (k_here; k_dflt (refine' csrc_enum (fun I C D => turn_1 _ _ _ _ _ _ _ _) ?zqca ?zqcb ?zqcc ?zqcd ?zqce ?zqcf ?zqcg ?zqch ?zqci ?zqcj ?_; (case zqca => exact fun C => asg_pair rfl rfl rfl rfl); (case zqcb => exact fun _ _ => trivial); (case zqcc => decide); (case zqcd => rfl); (case zqce => rfl); (case zqcf => k_asm); (case zqcg => k_asm); (case zqch => k_mem); (case zqci => rfl); (case zqcj => rfl); k_whole; intro I' C' D' E' g' tk' hI' hCD' hC0' hCL' hD0' hDL' hIC' hEC'))
 k_with "CSrc" => (k_here; k_dflt (refine' csrc_list (fun I C D => turn_1 _ _ _ _ _ _ _ _) ?zqca ?zqcb ?zqcc ?zqcd ?zqce ?zqcf ?zqcg ?zqch ?zqci ?zqcj ?_; (case zqca => exact fun C => asg_name rfl rfl); (case zqcb => exact fun _ => trivial); (case zqcc => decide); (case zqcd => rfl); (case zqce => rfl); (case zqcf => k_asm); (case zqcg => k_asm); (case zqch => k_mem); (case zqci => rfl); (case zqcj => rfl); k_whole; intro I' C' D' E' g' hI' hCD' hC0' hCL' hD0' hDL' hIC'))
 k_with "CR" => (k_here; k_dflt (first | ((refine' cr_pairS ?zqka ?zqkb ?zqkc ?zqkd ?zqkk ?_; (case zqka => decide); (case zqkb => assumption); (case zqkc => (intro b hb; simp only [List.map_cons, List.map_nil, List.mem_cons, List.not_mem_nil, or_false] at hb; first | (rcases hb with hb | hb <;> (rw [hb]; first | exact Ne.symm (And.right (by assumption)))) | (rw [hb]; exact Ne.symm (And.right (by assumption)))); done); (case zqkd => exact Nat.le_of_ble_eq_true rfl); (case zqkk => k_subL); k_whole; intro t' oC' m2' h' tk' hx' hy' hC' F' off'; ktu_objs; intro ap'; (try simp only [OffCD, OffI, OffI.AllNeR, and_true] at off' ap'))) | ((refine' cr_nameS ?zqkb ?zqkc ?zqkd ?zqkk ?_; (case zqkb => assumption); (case zqkc => (intro b hb; simp only [List.map_cons, List.map_nil, List.mem_cons, List.not_mem_nil, or_false] at hb; first | (rcases hb with hb | hb <;> (rw [hb]; first | exact Ne.symm (And.right (by assumption)))) | (rw [hb]; exact Ne.symm (And.right (by assumption)))); done); (case zqkd => exact Nat.le_of_ble_eq_true rfl); (case zqkk => k_subL); k_whole; intro oC' m2' h' tk' hx' hC' F' off'; ktu_objs; intro ap'; (try simp only [OffCD, OffI, OffI.AllNeR, and_true] at off' ap'))) | (refine' cr_nil ?_; k_whole)))
 k_with "CSame" => (k_dflt (refine' CSame.intro ?zqF ?zqN ?_; (case zqF => k_asm); (case zqN => k_asm); k_whole; (try simp only [List.nil_append, List.cons_append])))
 k_with "call ref" => ((k_here; k_dflt (refine' use_c ?zqB ?zqF ?zqX ?zqN ?zqT ?zqhA ?zqhf ?zqhke (idm_q _ _ _ _ _ _ _ _ _ _ _ _ _ _ _ _ _ ?zqp0 ?zqp1 ?zqp2 ?zqp3 ?zqp4 ?zqp5 ?zqp6 ?zqp7 ?zqp8 ?zqp9 ?zqp10 ?zqp11 ?zqp12 ?zqp13) ?zqhled ?zqhrem ?zqhold ?_); (case zqhA => walk_at "hA"); (case zqhf => walk_at "hf"); (case zqhke => walk_at "hke"); (case zqB => walk_at "ka"); (case zqF => walk_at "ka"); (case zqX => walk_at "ka"); (case zqN => walk_at "ka"); (case zqT => walk_at "ka"); (case zqp0 => (k_dflt ((first | omega | ((try dsimp only); omega) | ktr_room)))); (case zqp1 => (k_dflt ((first | omega | ((try dsimp only); omega) | ktr_units)))); (case zqp2 => (k_dflt ((kbo_bools)))); (case zqp3 => (k_dflt ((kbo_bools)))); (case zqp4 => (k_dflt ((kbo_bools)))); (case zqp5 => (k_dflt ((kbo_bools)))); (case zqp6 => (k_dflt ((kbo_bools)))); (case zqp7 => (k_dflt ((kbo_bools)))); (case zqp8 => (k_dflt ((kbo_bools)))); (case zqp9 => (k_dflt ((kbo_bools)))); (case zqp10 => (k_dflt ((kbo_bools)))); (case zqp11 => (k_dflt ((kbo_bools)))); (case zqp12 => (k_dflt ((kbo_bools)))); (case zqp13 => (k_dflt ((kbo_bools)))); (case zqhled => (k_dflt (k_allIn))); (case zqhrem => (k_dflt ((first | exact Rem.refl | kat_tups)))); (case zqhold => (k_dflt (exact fun _ _ _ => trivial))); k_whole; intro v9 h' tk' led' F' N' hne9 hP9; obtain ⟨D, t, u, nn, p4', c4', o4', p6', c6', o6', hv9, hl9, h4', h6', n1, n2, n3, n4, n5, n6, n7⟩ := hP9; subst hv9 hl9; walk_at "u9"))
 k_with "call ref" => ((k_here; k_dflt (refine' use_c ?zqB ?zqF ?zqX ?zqN ?zqT ?zqhA ?zqhf ?zqhke (i2d_c1 _ _ _ _ _ _ _ _ _ _ _ _ ?zqp0 ?zqp1 ?zqp2 ?zqp3 ?zqp4 ?zqp5 ?zqp6) ?zqhled ?zqhrem ?zqhold ?_); (case zqhA => walk_at "hA"); (case zqhf => walk_at "hf"); (case zqhke => walk_at "hke"); (case zqB => walk_at "ka"); (case zqF => walk_at "ka"); (case zqX => walk_at "ka"); (case zqN => walk_at "ka"); (case zqT => walk_at "ka"); (case zqp0 => (k_dflt ((first | omega | ((try dsimp only); omega) | ktr_room)))); (case zqp1 => (k_dflt ((first | omega | ((try dsimp only); omega) | ktr_units)))); (case zqp2 => (k_dflt ((first | with_reducible assumption | assumption | omega)))); (case zqp3 => (k_dflt (omega))); (case zqp4 => (k_dflt ((kbo_bools)))); (case zqp5 => (k_dflt ((kbo_bools)))); (case zqp6 => (k_dflt ((kbo_bools)))); (case zqhled => (k_dflt (k_allIn))); (case zqhrem => (k_dflt ((first | exact Rem.refl | kat_tups)))); (case zqhold => (k_dflt (exact fun _ _ _ => trivial))); k_whole; intro v9 h' tk' led' F' N' hne9 hP9; obtain ⟨D, nn, t0, t1, ps, c, o, hv9, hl9, hts, hq1, hq2⟩ := hP9; subst hv9 hl9; walk_at "u9"))
 w_top off
 k_fill
 ((refine hk28 (h := ?_)); (generalize hkT28 _ = T9); (generalize pj0 T9 = w, pj1 T9 = loose, pj2 T9 = mean, pj3 T9 = mg, s4 T9 = U9); (clear T9); (generalize pj0 U9 = mb, pj1 U9 = dp, pj2 U9 = un, pj3 U9 = gd, s4 U9 = T9); (clear U9); (generalize pj0 T9 = outer, pj1 T9 = base, pj2 T9 = g, pj3 T9 = s, s4 T9 = U9); (clear T9); (generalize pj0 U9 = R, pj1 U9 = a, pj2 U9 = b, pj3 U9 = n, s4 U9 = T9); (clear U9); (generalize pj0 T9 = q, pj1 T9 = r, pj2 T9 = res, pj3 T9 = ta, s4 T9 = U9); (clear T9); (generalize pj0 U9 = tb, pj1 U9 = tn, pj2 U9 = p4, pj3 U9 = p6, s4 U9 = T9); (clear U9); (generalize pj0 T9 = c4, pj1 T9 = c6, pj2 T9 = o4, lj3 T9 = o6); (clear T9); intro B X T hkg hsz hdp hun hled ha hb hn hp hM hMb hk hab hq hr he hr0 hrz hrk hv h4 h6 hd1 hd2 hd3 hret)
 k_dflt (refine' enterG (led := [(54, tabObj p4), (c4, o4), (61, tabObj p6), (c6, o6)]) hkg hsz ?kl ?k3 ?k5 ?k6 ?k7 ?k8 ?k9 ?kB ?_ ?c2 ?c3 ?c4 ?c5; (case kl => exact hled); (case k3 => k_asm); (case k5 => k_asm); (case k6 => k_is); (case k7 => k_is); (case k8 => ktr_room); (case k9 => first | exact BindsTo.of_eq rfl | exact kp_binds (X.keeps hkg) (fun _ => rfl)); (case c5 => decide); (case kB => exact locs rfl); (case c2 => exact rfl); (case c3 => exact rfl); (case c4 => exact rfl); k_whole; ((refine hk2 (h := ?_)); (generalize hkT2 _ = T9); (generalize pj0 T9 = L', lj1 T9 = h'); (clear T9); intro F' N' l1); (try k_lt l1); (try dsimp only); (try k_fold); (have hkm := HkMark.mk))
 w_strict k_steps
 all_goals first | exact absurd he (by assumption) | (refine' prod_end (res := res) hret (by assumption) (by assumption) ?h4 ?h6 ?m2 ?m3 ?m4 ?m5 ?e ?n5 ?n6 ?n7; (case h4 => assumption); (case h6 => assumption); (case m2 => (k_mem)); ((case m3 => k_mem)); ((case m4 => k_mem)); ((case m5 => k_mem)); (case e => (rw [hv]; simp)); (case n5 => first | assumption | kpt_turns); (case n6 => assumption); (case n7 => first | assumption | kpt_turns))| w_report
end Mine
end
section
namespace Mine
theorem prod_2 : ∀ (w : World) (loose : List Str) (mean : ExcName → Option Value) (mg mb : Str → Option Value) (dp un : Nat) (gd : Option (List Code)) (outer : List Env) (base g : Heap) (s : Shared) (R : Result → Shared → Prop) (a b n q r res : Int) (ta tb tn : Tok) (p4 p6 : Array Value) (c4 c6 : Addr) (o4 o6 : Obj)
  (B : Below (arX dp un gd outer) base outer g) (X : (hd.heap_1 w.params).In g) (T : Top topProg loose mean mg mb g) (hkg : ∀ b o, g.get? b = some o → s.heap.get? b = some o) (hsz : g.objs.size ≤ s.heap.objs.size) (hdp : dp + 240 < recursionLimit) (hun : un + 1600 < cLine) (hled : ∀ p ∈ ([(54, tabObj p4), (c4, o4), (61, tabObj p6), (c6, o6)] : List (Addr × Obj)), s.heap.get? p.1 = some p.2 ∧ g.get? p.1 = none) (ha : 0 ≤ a ∧ a < 2 ^ 10) (hb : 0 ≤ b ∧ b < 2 ^ 10) (hn : 3 ≤ n ∧ n ≤ 8) (hp : 0 ≤ a * b ∧ a * b < 2 ^ 20) (hM : 0 < ((4 : Int) ^ n.toNat - 2 ^ n.toNat - 1) ∧ ((4 : Int) ^ n.toNat - 2 ^ n.toNat - 1) < 2 ^ 20) (hMb : 1 ≤ (Builtin.Int.intBits ((4 : Int) ^ n.toNat - 2 ^ n.toNat - 1) : Int) ∧ (Builtin.Int.intBits ((4 : Int) ^ n.toNat - 2 ^ n.toNat - 1) : Int) ≤ 16) (hk : Bits2 (a * b) (Builtin.Int.intBits ((4 : Int) ^ n.toNat - 2 ^ n.toNat - 1))) (hab : a * b < 4 * ((4 : Int) ^ n.toNat - 2 ^ n.toNat - 1)) (hq : (a * b).fdiv ((4 : Int) ^ n.toNat - 2 ^ n.toNat - 1) = q) (hr : (a * b).fmod ((4 : Int) ^ n.toNat - 2 ^ n.toNat - 1) = r) (he : q = (a.fdiv (2 ^ n.toNat)) * (b.fdiv (2 ^ n.toNat))) (hr0 : 0 ≤ r ∧ r < 2 ^ 20) (hrz : r ≠ 0) (hrk : Int.fdiv ((Builtin.Int.intBits r : Int) + n - 1) n = 2) (hv : ∀ lo up : Int, lo = r - r.fdiv (2 ^ n.toNat) * 2 ^ n.toNat → up = r.fdiv (2 ^ n.toNat) → res = lo.fmod 2 + up.fmod 2 * 2) (h4 : TS 54 36 4 qI p4 c4 o4) (h6 : TS 61 51 4 qD p6 c6 o6) (hd1 : @Ne Nat c4 61) (hd2 : @Ne Nat c6 54) (hd3 : @Ne Nat c4 c6)
  (hret : RetG R s g (TabQ res)),
  codeAny (model PySem.Challenge.rw_sn0104_01.row.toRowW.prog w) (arX dp un gd outer) (.call (.ref 365) ⟨[.int a ta, .int b tb, .int n tn], []⟩) R s := by
 k_with_none
 k_with "eval ListComp" => (k_here; k_dflt (refine ListComp_any (F₀ := by k_asm) (by rfl) (by rfl) (by decide) ?_))
 k_with "call type:enumerate" => (k_here; k_dflt (refine' csrc_enum (fun I C D => turn_1 _ _ _ _ _ _ _ _) ?zqca ?zqcb ?zqcc ?zqcd ?zqce ?zqcf ?zqcg ?zqch ?zqci ?zqcj ?_; (case zqca => exact fun C => asg_pair rfl rfl rfl rfl); (case zqcb => exact fun _ _ => trivial); (case zqcc => decide); (case zqcd => rfl); (case zqce => rfl); (case zqcf => k_asm); (case zqcg => k_asm); (case zqch => k_mem); (case zqci => rfl); (case zqcj => rfl); k_whole; intro I' C' D' E' g' tk' hI' hCD' hC0' hCL' hD0' hDL' hIC' hEC'))
 k_with "CSrc" => (k_here; k_dflt (refine' csrc_list (fun I C D => turn_1 _ _ _ _ _ _ _ _) ?zqca ?zqcb ?zqcc ?zqcd ?zqce ?zqcf ?zqcg ?zqch ?zqci ?zqcj ?_; (case zqca => exact fun C => asg_name rfl rfl); (case zqcb => exact fun _ => trivial); (case zqcc => decide); (case zqcd => rfl); (case zqce => rfl); (case zqcf => k_asm); (case zqcg => k_asm); (case zqch => k_mem); (case zqci => rfl); (case zqcj => rfl); k_whole; intro I' C' D' E' g' hI' hCD' hC0' hCL' hD0' hDL' hIC'))
 k_with "CR" => (k_here; k_dflt (first | ((refine' cr_pairS ?zqka ?zqkb ?zqkc ?zqkd ?zqkk ?_; (case zqka => decide); (case zqkb => assumption); (case zqkc => (intro b hb; simp only [List.map_cons, List.map_nil, List.mem_cons, List.not_mem_nil, or_false] at hb; first | (rcases hb with hb | hb <;> (rw [hb]; first | exact Ne.symm (And.right (by assumption)))) | (rw [hb]; exact Ne.symm (And.right (by assumption)))); done); (case zqkd => exact Nat.le_of_ble_eq_true rfl); (case zqkk => k_subL); k_whole; intro t' oC' m2' h' tk' hx' hy' hC' F' off'; ktu_objs; intro ap'; (try simp only [OffCD, OffI, OffI.AllNeR, and_true] at off' ap'))) | ((refine' cr_nameS ?zqkb ?zqkc ?zqkd ?zqkk ?_; (case zqkb => assumption); (case zqkc => (intro b hb; simp only [List.map_cons, List.map_nil, List.mem_cons, List.not_mem_nil, or_false] at hb; first | (rcases hb with hb | hb <;> (rw [hb]; first | exact Ne.symm (And.right (by assumption)))) | (rw [hb]; exact Ne.symm (And.right (by assumption)))); done); (case zqkd => exact Nat.le_of_ble_eq_true rfl); (case zqkk => k_subL); k_whole; intro oC' m2' h' tk' hx' hC' F' off'; ktu_objs; intro ap'; (try simp only [OffCD, OffI, OffI.AllNeR, and_true] at off' ap'))) | (refine' cr_nil ?_; k_whole)))
 k_with "CSame" => (k_dflt (refine' CSame.intro ?zqF ?zqN ?_; (case zqF => k_asm); (case zqN => k_asm); k_whole; (try simp only [List.nil_append, List.cons_append])))
 k_with "call ref" => ((k_here; k_dflt (refine' use_c ?zqB ?zqF ?zqX ?zqN ?zqT ?zqhA ?zqhf ?zqhke (idm_q _ _ _ _ _ _ _ _ _ _ _ _ _ _ _ _ _ ?zqp0 ?zqp1 ?zqp2 ?zqp3 ?zqp4 ?zqp5 ?zqp6 ?zqp7 ?zqp8 ?zqp9 ?zqp10 ?zqp11 ?zqp12 ?zqp13) ?zqhled ?zqhrem ?zqhold ?_); (case zqhA => walk_at "hA"); (case zqhf => walk_at "hf"); (case zqhke => walk_at "hke"); (case zqB => walk_at "ka"); (case zqF => walk_at "ka"); (case zqX => walk_at "ka"); (case zqN => walk_at "ka"); (case zqT => walk_at "ka"); (case zqp0 => (k_dflt ((first | omega | ((try dsimp only); omega) | ktr_room)))); (case zqp1 => (k_dflt ((first | omega | ((try dsimp only); omega) | ktr_units)))); (case zqp2 => (k_dflt ((kbo_bools)))); (case zqp3 => (k_dflt ((kbo_bools)))); (case zqp4 => (k_dflt ((kbo_bools)))); (case zqp5 => (k_dflt ((kbo_bools)))); (case zqp6 => (k_dflt ((kbo_bools)))); (case zqp7 => (k_dflt ((kbo_bools)))); (case zqp8 => (k_dflt ((kbo_bools)))); (case zqp9 => (k_dflt ((kbo_bools)))); (case zqp10 => (k_dflt ((kbo_bools)))); (case zqp11 => (k_dflt ((kbo_bools)))); (case zqp12 => (k_dflt ((kbo_bools)))); (case zqp13 => (k_dflt ((kbo_bools)))); (case zqhled => (k_dflt (k_allIn))); (case zqhrem => (k_dflt ((first | exact Rem.refl | kat_tups)))); (case zqhold => (k_dflt (exact fun _ _ _ => trivial))); k_whole; intro v9 h' tk' led' F' N' hne9 hP9; obtain ⟨D, t, u, nn, p4', c4', o4', p6', c6', o6', hv9, hl9, h4', h6', n1, n2, n3, n4, n5, n6, n7⟩ := hP9; subst hv9 hl9; walk_at "u9"))
 k_with "call ref" => ((k_here; k_dflt (refine' use_c ?zqB ?zqF ?zqX ?zqN ?zqT ?zqhA ?zqhf ?zqhke (i2d_cc2 _ _ _ _ _ _ _ _ _ _ _ _ ?zqp0 ?zqp1 ?zqp2 ?zqp3 ?zqp4 ?zqp5 ?zqp6) ?zqhled ?zqhrem ?zqhold ?_); (case zqhA => walk_at "hA"); (case zqhf => walk_at "hf"); (case zqhke => walk_at "hke"); (case zqB => walk_at "ka"); (case zqF => walk_at "ka"); (case zqX => walk_at "ka"); (case zqN => walk_at "ka"); (case zqT => walk_at "ka"); (case zqp0 => (k_dflt ((first | omega | ((try dsimp only); omega) | ktr_room)))); (case zqp1 => (k_dflt ((first | omega | ((try dsimp only); omega) | ktr_units)))); (case zqp2 => (k_dflt ((first | with_reducible assumption | assumption | omega)))); (case zqp3 => (k_dflt (omega))); (case zqp4 => (k_dflt ((kbo_bools)))); (case zqp5 => (k_dflt ((kbo_bools)))); (case zqp6 => (k_dflt ((kbo_bools)))); (case zqhled => (k_dflt (k_allIn))); (case zqhrem => (k_dflt ((first | exact Rem.refl | kat_tups)))); (case zqhold => (k_dflt (exact fun _ _ _ => trivial))); k_whole; intro v9 h' tk' led' F' N' hne9 hP9; obtain ⟨D, nn, t0, t1, ps, c, o, lo, up, hv9, hl9, hts, hq1, hq2, hlo, hup, hlo0, hlo1, hup0, hup1, hlu⟩ := hP9; subst hv9 hl9; walk_at "u9"))
 w_top off
 k_fill
 ((refine hk28 (h := ?_)); (generalize hkT28 _ = T9); (generalize pj0 T9 = w, pj1 T9 = loose, pj2 T9 = mean, pj3 T9 = mg, s4 T9 = U9); (clear T9); (generalize pj0 U9 = mb, pj1 U9 = dp, pj2 U9 = un, pj3 U9 = gd, s4 U9 = T9); (clear U9); (generalize pj0 T9 = outer, pj1 T9 = base, pj2 T9 = g, pj3 T9 = s, s4 T9 = U9); (clear T9); (generalize pj0 U9 = R, pj1 U9 = a, pj2 U9 = b, pj3 U9 = n, s4 U9 = T9); (clear U9); (generalize pj0 T9 = q, pj1 T9 = r, pj2 T9 = res, pj3 T9 = ta, s4 T9 = U9); (clear T9); (generalize pj0 U9 = tb, pj1 U9 = tn, pj2 U9 = p4, pj3 U9 = p6, s4 U9 = T9); (clear U9); (generalize pj0 T9 = c4, pj1 T9 = c6, pj2 T9 = o4, lj3 T9 = o6); (clear T9); intro B X T hkg hsz hdp hun hled ha hb hn hp hM hMb hk hab hq hr he hr0 hrz hrk hv h4 h6 hd1 hd2 hd3 hret)
 k_dflt (refine' enterG (led := [(54, tabObj p4), (c4, o4), (61, tabObj p6), (c6, o6)]) hkg hsz ?kl ?k3 ?k5 ?k6 ?k7 ?k8 ?k9 ?kB ?_ ?c2 ?c3 ?c4 ?c5; (case kl => exact hled); (case k3 => k_asm); (case k5 => k_asm); (case k6 => k_is); (case k7 => k_is); (case k8 => ktr_room); (case k9 => first | exact BindsTo.of_eq rfl | exact kp_binds (X.keeps hkg) (fun _ => rfl)); (case c5 => decide); (case kB => exact locs rfl); (case c2 => exact rfl); (case c3 => exact rfl); (case c4 => exact rfl); k_whole; ((refine hk2 (h := ?_)); (generalize hkT2 _ = T9); (generalize pj0 T9 = L', lj1 T9 = h'); (clear T9); intro F' N' l1); (try k_lt l1); (try dsimp only); (try k_fold); (have hkm := HkMark.mk))
 w_strict k_steps
 all_goals first | exact absurd he (by assumption) | (refine' prod_end (res := res) hret (by assumption) (by assumption) ?h4 ?h6 ?m2 ?m3 ?m4 ?m5 ?e ?n5 ?n6 ?n7; (case h4 => assumption); (case h6 => assumption); (case m2 => (k_mem)); ((case m3 => k_mem)); ((case m4 => k_mem)); ((case m5 => k_mem)); (case e => (rw [hv _ _ (by assumption) (by assumption)]; simp)); (case n5 => first | assumption | kpt_turns); (case n6 => assumption); (case n7 => first | assumption | kpt_turns))| w_report
end Mine
end
section
open PyProof.V PyProof.Rows.LCg
namespace Mine
section
variable {prog : Program} {w : World} {A : Around}
def CfEnd {σ : Type} (h₀ : Heap) (L : Addr) (m : Str → Option Value) (s₁ : Shared) (I : Addr) (oI : Obj) (C : Addr) (oC : Obj) (D : Addr) (ys : List Value) (Led : σ → List (Addr × Obj)) (P : List Value → σ → Prop) (y : Value) (s₂ : Shared) : Prop :=
 ∃ (c' : σ) (h' : Heap) (tk : Nat), s₂ = { s₁ with heap := h', toks := tk } ∧ Fr h₀ L h' m ∧ News h₀ L h' ((I, oI) :: (C, oC) :: (D, lst ys) :: Led c') ∧ OffCD C D (Led c') ∧ AllNe I (Led c') ∧ P (ys ++ [y]) c'
theorem CfEnd.intro {σ : Type} {h₀ h' : Heap} {L I C D : Addr} {m : Str → Option Value} {s₁ : Shared} {oI oC : Obj} {ys : List Value} {Led : σ → List (Addr × Obj)} {P : List Value → σ → Prop} {y : Value} {tk : Nat} {all : List (Addr × Obj)} (c' : σ)
  (F : Fr h₀ L h' m) (N : News h₀ L h' all) (hI : (I, oI) ∈ all) (hC : (C, oC) ∈ all) (hD : (D, lst ys) ∈ all) (hn : ∀ p ∈ Led c', p ∈ all) (off : OffCD C D (Led c')) (ai : AllNe I (Led c')) (hP : P (ys ++ [y]) c') :
  CfEnd h₀ L m s₁ I oI C oC D ys Led P y { s₁ with heap := h', toks := tk } :=
 ⟨c', h', tk, rfl, F, fun p hp => by
  rcases List.mem_cons.mp hp with rfl | hp
  ·exact N _ hI
  ·rcases List.mem_cons.mp hp with rfl | hp
   ·exact N _ hC
   ·rcases List.mem_cons.mp hp with rfl | hp
    ·exact N _ hD
    ·exact N p (hn p hp), off, ai, hP⟩
theorem cr_fold {σ : Type} {h₀ : Heap} {L I C D : Addr} {m : Str → Option Value} {keep : List (Addr × Obj)} {kn : (Str → Option Value) → Prop} {c : Code} {x : Str} {elt : Expr} {cenv : Env} {E : Value → Shared → Prop} {s : Shared} {Fin : List Value → List (Addr × Obj) → Prop} {vs : List Value}
  (Led : σ → List (Addr × Obj)) (P : Nat → List Value → σ → Prop) (hkn : ∀ m₁ v, kn m₁ → kn (upd m₁ x v)) (hCD : C ≠ D) (hDI : D ≠ I) (hlen : ∀ i ys c, P i ys c → ys.length ≤ sizeLine) (hk : ∀ c, SubL keep (Led c))
  (turn : ∀ (i : Nat) (v : Value) (ys : List Value) (q : σ) (oC oI : Obj) (m₁ m₂ : Str → Option Value) (h : Heap) (tk : Nat), vs[i]? = some v → P i ys q → kn m₁ → m₂ = upd m₁ x v → NsObj oC m₂ → Fr h₀ L h m → OffCD C D (Led q) → AllNe I (Led q) →
   News h₀ L h ((I, oI) :: (C, oC) :: (D, lst ys) :: Led q) →
   wpAny (model prog w) A (eval elt cenv) (CfEnd h₀ L m { s with heap := h, toks := tk } I oI C oC D ys Led (P (i + 1))) E { s with heap := h, toks := tk })
  (fin : ∀ ys q, P vs.length ys q → Fin ys (Led q)) :
  ∀ (j i : Nat) (ys : List Value) (q : σ), i + j = vs.length → P i ys q → CR prog w A h₀ L m C D [(I, "list_iterator")] keep kn (GName x) c (emitB elt (.ref D) cenv c) E s Fin ((vs.drop i).map .val) ys (Led q) := by
 intro j
 induction j with
 | zero =>
  intro i ys q hij hP
  have e : i = vs.length := by kaf_pre
  subst e
  rw [List.drop_length]
  exact fin ys q hP
 | succ j ih =>
  intro i ys q hij hP
  have hlt : i < vs.length := by kaf_pre
  rw [List.drop_eq_getElem_cons hlt]
  rintro oC m₁ m₂ h tk hkn₁ hG hoC F off
  have hG' : m₂ = upd m₁ x vs[i] := hG
  refine cr_emit hCD (fun b hb => ?_) (hlen i ys q hP) hoC (hG' ▸ hkn m₁ vs[i] hkn₁) ?_
  ·have e : b = I := by simpa using hb
   rw [e]; exact hDI
  ·intro oI hoI N ap
   refine wpAny_mono (turn i vs[i] ys q oC oI m₁ m₂ h tk (List.getElem?_eq_getElem hlt) hP hkn₁ hG' hoC F off (AllNe.of fun p hp => ap.mem p hp (I, oI) (.head _)) N) (fun y s₂ hy => ?_) fun _ _ e => e
   obtain ⟨q', h', tk', rfl, F', N', off', ai', hP'⟩ := hy
   exact ⟨h', tk', Led q', rfl, F', N', off', fun p hp r hr => by rw [List.mem_singleton.mp hr]; exact ai'.mem p hp, hk q', ih (i + 1) _ q' (by kaf_pre) hP'⟩
end
end Mine
end
section
open PyProof.V PyProof.Rows.LCg
namespace Mine
section
variable {prog : Program} {w : World} {A : Around}
def It2 {σ : Type} (prog : Program) (w : World) (A : Around) (h₀ : Heap) (L : Addr) (m : Str → Option Value) (s₁ : Shared) (I : Addr) (oI : Obj) (C : Addr) (oC : Obj) (D : Addr) (ys : List Value) (Led : σ → List (Addr × Obj)) (q : σ) (kn : (Str → Option Value) → Prop) (G : Itm → (Str → Option Value) → (Str → Option Value) → Prop) (c2 : Addr → Code) (B2 : Addr → Sem Fin) (Nx : List Value → σ → Prop) (xv : Value) (s' : Shared) : Prop :=
 ∃ (l2 : Addr) (vs2 : List Value) (keep : List (Addr × Obj)) (h' : Heap) (tk' : Nat), xv = .ref l2 ∧ s' = { s₁ with heap := h', toks := tk' } ∧ Fr h₀ L h' m ∧ News h₀ L h' ((I, oI) :: (C, oC) :: (D, lst ys) :: Led q) ∧ h'.IsList l2 vs2.toArray ∧ SubL keep (Led q) ∧ ((∃ o, h₀.get? l2 = some o) ∨ ∃ lo, (l2, lo) ∈ keep) ∧
  ∀ (J : Addr) (s₂ : Shared) (E' : Value → Shared → Prop), AllLt J ((I, oI) :: (C, oC) :: (D, lst ys) :: Led q) → CR prog w A h₀ L m C D [(J, "list_iterator")] keep kn G (c2 J) (B2 J) E' s₂ (fun ys' news' => ∃ q', news' = (I, oI) :: Led q' ∧ AllNe I (Led q') ∧ Nx ys' q') (vs2.map .val) ys ((I, oI) :: Led q)
theorem SubL.cons_r {keep news : List (Addr × Obj)} {p : Addr × Obj} (h : SubL keep news) : SubL keep (p :: news) := by
 induction keep with
 | nil => trivial
 | cons k r ih => exact ⟨.tail _ h.1, ih h.2⟩
theorem outer_turn {σ : Type} {h₀ : Heap} {L C D I : Addr} {m m₂ : Str → Option Value} {s₁ : Shared} {oI oC : Obj} {ys : List Value} {Led : σ → List (Addr × Obj)} {q : σ} {x2 : Str} {p2 : Pos} {G : Itm → (Str → Option Value) → (Str → Option Value) → Prop} {kn : (Str → Option Value) → Prop} {Nx : List Value → σ → Prop} {E : Value → Shared → Prop}
  {elt t1 i1 i2 : Expr} {ifs : List Expr} {scope : Scope} {cp : Pos} {cenv : Env} {B2 : Addr → Sem Fin} {c1 : Code} {s : Shared} {keep1 : List (Addr × Obj)} {rest1 : List Value → List (Addr × Obj) → Prop}
  (hh : A.handled = none) (hC : cenv.locals = C) (hCD : C ≠ D) (hCL : C ≠ L) (hC₀ : h₀.get? C = none) (hDL : D ≠ L) (hD₀ : h₀.get? D = none) (hoC : NsObj oC m₂) (hkn : kn m₂) (off : OffCD C D (Led q)) (hIC : I ≠ C) (hID : I ≠ D)
  (hs2 : ∀ x, foldedSetIterable i2 cenv x = pure x) (T : Asg prog w A (.Name x2 p2) cenv (fun _ => True) G)
  (hE : ∀ J, compTurn (.ListComp elt [⟨t1, i1, [], 0⟩, ⟨.Name x2 p2, i2, ifs, 0⟩] scope cp) 1 (.ref J) (.ref D) cenv = (standAt i2.pos >>= fun _ => pyNext (.ref J) >>= fun r => match r with
   | none => pure (.done .next)
   | some v => letOwnedTupleGo (.Name x2 p2) (.ref J) v >>= fun _ => assign (.Name x2 p2) cenv v >>= fun _ => B2 J))
  (h : wpAny (model prog w) A (eval i2 cenv) (It2 prog w A h₀ L m s₁ I oI C oC D ys Led q kn G (fun J => .compLoop (.ListComp elt [⟨t1, i1, [], 0⟩, ⟨.Name x2 p2, i2, ifs, 0⟩] scope cp) 1 (.ref J) (.ref D) cenv) B2 Nx) E s)
  (hN : ∀ ys' q', Nx ys' q' → SubL keep1 (Led q') ∧ rest1 ys' (Led q')) (hkk : ∀ m', kn m' → True) :
  wpAny (model prog w) A (eval i2 cenv >>= fun x => standAt i2.pos >>= fun _ => foldedSetIterable i2 cenv x >>= fun x => holding [x] (pyIter x) >>= fun it2 => runOwn (.compStart (.ListComp elt [⟨t1, i1, [], 0⟩, ⟨.Name x2 p2, i2, ifs, 0⟩] scope cp) 1 it2 (.ref D) cenv) cenv >>= fun _ => again c1)
   (fun f s₃ => f = .again c1 ∧ CEnd h₀ L m s₁ [(I, oI)] C D (fun _ => True) (fun ys' news' => SubL keep1 news' ∧ rest1 ys' news') s₃) E s := by
 refine wpAny_bind (wpAny_mono h (fun xv s' hx => ?_) fun _ _ e => e)
 obtain ⟨l2, vs2, keep, h', tk', rfl, rfl, F, N, hl, hsub, src, inner⟩ := hx
 refine wpAny_bind (wpAny_standAt ?_)
 rw [hs2]
 refine wpAny_bind (wpAny_pure (wpAny_bind (wpAny_holding (wpAny_pyIter_list hl ?_))))
 have hlt : l2 < h'.objs.size := by obtain ⟨o, ho, _⟩ := hl; exact Heap.lt_size ho
 have hne : l2 ≠ h'.objs.size := Nat.ne_of_lt hlt
 have W := Walks.list (prog := prog) (w := w) hh h'.objs.size l2 hne vs2.toArray
 have lts : ∀ p ∈ (I, oI) :: (C, oC) :: (D, lst ys) :: Led q, p.1 < h'.objs.size := fun p hp => Heap.lt_size (N p hp).1
 have hIL : I ≠ L := (N (I, oI) (.head _)).2.1
 have hI₀ : h₀.get? I = none := (N (I, oI) (.head _)).2.2
 have hJ₀ : h₀.get? h'.objs.size = none := next_is_new F
 have hJL : L ≠ h'.objs.size := fun e => absurd F.ns.lt (by rw [e]; exact Nat.lt_irrefl _)
 have hll : (∃ o, h₀.get? l2 = some o) ∨ ∃ lo, (l2, lo) ∈ Led q := src.imp id fun ⟨lo, hm⟩ => ⟨lo, hsub.mem _ hm⟩
 have hlC : C ≠ l2 := by
  rcases hll with ⟨o, ho⟩ | ⟨lo, hm⟩
  ·intro e; rw [e, ho] at hC₀; cases hC₀
  ·exact fun e => (off.mem _ hm).1 e.symm
 have hlD : D ≠ l2 := by
  rcases hll with ⟨o, ho⟩ | ⟨lo, hm⟩
  ·intro e; rw [e, ho] at hD₀; cases hD₀
  ·exact fun e => (off.mem _ hm).2 e.symm
 have offI : OffCD C D ((I, oI) :: Led q) := ⟨⟨hIC, hID⟩, off⟩
 have stJ : (fun h : Heap => h.IsListIter h'.objs.size l2 0 ∧ h.IsList l2 vs2.toArray) (h'.push { cls := .type "list_iterator", data := .fields #[.ref l2, .int 0 0] }) := ⟨⟨_, Heap.get?_push_size _ rfl, rfl, rfl⟩, hl.at fun o e => Heap.get?_push_of_some _ e⟩
 have main : ∀ RR : Result → Shared → Prop, (∀ h9 tk9 oC9 ys9 q', Fr h₀ L h9 m → (∃ m9, NsObj oC9 m9) → News h₀ L h9 ((C, oC9) :: (D, lst ys9) :: (I, oI) :: Led q') → OffCD C D (Led q') → AllNe I (Led q') → Nx ys9 q' → RR (.ok .next) { s₁ with heap := h9, toks := tk9 }) →
   codeAny (model prog w) A (.compStart (.ListComp elt [⟨t1, i1, [], 0⟩, ⟨.Name x2 p2, i2, ifs, 0⟩] scope cp) 1 (.ref h'.objs.size) (.ref D) cenv) RR { s₁ with heap := h'.push { cls := .type "list_iterator", data := .fields #[.ref l2, .int 0 0] }, toks := tk' } := by
  intro RR hRR
  have loop := cr_core (prog := prog) (w := w) (A := A) (R := RR) (d := 1) (acc := .ref D) (gens := [⟨t1, i1, [], 0⟩, ⟨.Name x2 p2, i2, ifs, 0⟩]) (ws := [(h'.objs.size, "list_iterator")]) (keep := keep) (xs := vs2.map .val) (ys := ys) (news := (I, oI) :: Led q) (s := { s₁ with heap := h', toks := tk' }) (tk₁ := tk')
   (hE h'.objs.size) (KTurns.ofWalks (target := .Name x2 p2) W fun i v s Q E st q => letGo_listiter st.1 q) T hC (by simp) (fun i v h hp => ⟨.val v, by
    have hp' : vs2.toArray[i]? = some v := hp
    simpa using hp', rfl⟩) (fun _ _ => trivial) (fun i h st => by
    obtain ⟨it, hit, hic, _⟩ := st.1
    exact ⟨[(h'.objs.size, it)], ⟨⟨rfl, hic⟩, trivial⟩, fun p hp => by rw [List.mem_singleton.mp hp]; exact hit⟩) (fun b hb => by
    have e : b = h'.objs.size := by simpa using hb
    rw [e]; exact ⟨.head _, hJ₀, hJL⟩) (fun b hb => by simpa using hb) (fun b hb => by
    have e : b = h'.objs.size ∨ b = l2 := by simpa using hb
    rcases e with e | e
    ·exact .inl (by simp [e])
    ·rw [e]; exact .inr (src.elim (fun ⟨o, ho⟩ => .inr ⟨o, ho⟩) fun ⟨lo, hm⟩ => .inl ⟨lo, hm⟩)) (fun hb => by
    have e : C = h'.objs.size ∨ C = l2 := by simpa using hb
    rcases e with e | e
    ·exact absurd (lts (C, oC) (.tail _ (.head _))) (by rw [← e]; exact Nat.lt_irrefl _)
    ·exact hlC e) (fun hb => by
    have e : D = h'.objs.size ∨ D = l2 := by simpa using hb
    rcases e with e | e
    ·exact absurd (lts (D, lst ys) (.tail _ (.tail _ (.head _)))) (by rw [← e]; exact Nat.lt_irrefl _)
    ·exact hlD e) hCD hCL hC₀ stJ (F.push _) hoC hkn (fun p hp => by
    refine ⟨Heap.get?_push_of_some _ (N p ?_).1, (N p ?_).2⟩ <;>
    ·rcases List.mem_cons.mp hp with rfl | hp
     ·exact .tail _ (.head _)
     ·rcases List.mem_cons.mp hp with rfl | hp
      ·exact .tail _ (.tail _ (.head _))
      ·rcases List.mem_cons.mp hp with rfl | hp
       ·exact .head _
       ·exact .tail _ (.tail _ (.tail _ hp))) offI (fun p hp hJ => by
    have e : p.1 = h'.objs.size := by simpa using hJ
    have hp' : p ∈ (I, oI) :: (C, oC) :: (D, lst ys) :: Led q := by
     rcases List.mem_cons.mp hp with rfl | hp
     ·exact .head _
     ·exact .tail _ (.tail _ (.tail _ hp))
    exact absurd (lts p hp') (by rw [e]; exact Nat.lt_irrefl _)) (SubL.cons_r hsub) (inner h'.objs.size _ _ (allLt_of lts)) (fun h9 tk9 oC9 m9 ys9 news9 F9 hoC9 hkn9 N9 off9 hnw9 hk9 fin9 => by
    obtain ⟨q', rfl, ai, nx⟩ := fin9
    exact hRR h9 tk9 oC9 ys9 q' F9 ⟨m9, hoC9⟩ N9 off9.2 ai nx)
  exact start_1 loop (W.self 0 _ _ _ stJ loop)
 refine wpAny_bind (wpAny_runOwn ?_ (by intro y; cases y))
 rw [Around.mark_none]
 refine main _ fun h9 tk9 oC9 ys9 q' F9 hoC9 N9 off9 ai nx => ?_
 obtain ⟨m9, hoC9⟩ := hoC9
 have r := hN ys9 q' nx
 refine wpAny_pure ⟨rfl, h9, tk9, oC9, m9, ys9, Led q', rfl, F9, hoC9, trivial, fun p hp => N9 p ?_, off9, fun p hp r hr => by rw [List.mem_singleton.mp hr]; exact ai.mem p hp, r⟩
 rcases List.mem_cons.mp hp with rfl | hp
 ·exact .tail _ (.tail _ (.head _))
 ·rcases List.mem_cons.mp hp with rfl | hp
  ·exact .head _
  ·rcases List.mem_cons.mp hp with rfl | hp
   ·exact .tail _ (.head _)
   ·exact .tail _ (.tail _ (.tail _ hp))
end
end Mine
end
section
open PyProof.V PyProof.Rows.LCg
namespace Mine
theorem objs_one {I : Addr} {n : String} : ∀ {its : List (Addr × Obj)}, Objs [(I, n)] its → ∃ oI, its = [(I, oI)]
 | [], h => (show False from h).elim
 | [(a, o)], h => ⟨o, by rw [show a = I from h.1.1]⟩
 | _ :: _ :: _, h => (show False from h.2).elim
section
variable {prog : Program} {w : World} {A : Around}
theorem cr2_fold {σ : Type} {h₀ : Heap} {L I C D : Addr} {m : Str → Option Value} {keep1 : List (Addr × Obj)} {c1 : Code} {x1 x2 : Str} {p2 : Pos} {elt t1 i1 i2 : Expr} {ifs : List Expr} {scope : Scope} {cp : Pos} {cenv : Env} {B2 : Addr → Sem _root_.PySem.Fin} {E : Value → Shared → Prop} {s : Shared} {Fin : List Value → List (Addr × Obj) → Prop} {vs : List Value}
  (Led : σ → List (Addr × Obj)) (P1 : Nat → List Value → σ → Prop)
  (hh : A.handled = none) (hC : cenv.locals = C) (hCD : C ≠ D) (hCL : C ≠ L) (hC₀ : h₀.get? C = none) (hDL : D ≠ L) (hD₀ : h₀.get? D = none) (hIC : I ≠ C) (hID : I ≠ D)
  (hs2 : ∀ x, foldedSetIterable i2 cenv x = pure x) (T : Asg prog w A (.Name x2 p2) cenv (fun _ => True) (GName x2))
  (hE : ∀ J, compTurn (.ListComp elt [⟨t1, i1, [], 0⟩, ⟨.Name x2 p2, i2, ifs, 0⟩] scope cp) 1 (.ref J) (.ref D) cenv = (standAt i2.pos >>= fun _ => pyNext (.ref J) >>= fun r => match r with
   | none => pure (.done .next)
   | some v => letOwnedTupleGo (.Name x2 p2) (.ref J) v >>= fun _ => assign (.Name x2 p2) cenv v >>= fun _ => B2 J))
  (hk : ∀ q, SubL keep1 (Led q))
  (turn : ∀ (i : Nat) (v : Value) (ys : List Value) (q : σ) (oC oI : Obj) (m₂ : Str → Option Value) (h : Heap) (tk : Nat), vs[i]? = some v → P1 i ys q → m₂ x1 = some v → NsObj oC m₂ → Fr h₀ L h m → OffCD C D (Led q) → AllNe I (Led q) →
   News h₀ L h ((I, oI) :: (C, oC) :: (D, lst ys) :: Led q) →
   wpAny (model prog w) A (eval i2 cenv) (It2 prog w A h₀ L m { s with heap := h, toks := tk } I oI C oC D ys Led q (fun m' => m' x1 = some v) (GName x2) (fun J => .compLoop (.ListComp elt [⟨t1, i1, [], 0⟩, ⟨.Name x2 p2, i2, ifs, 0⟩] scope cp) 1 (.ref J) (.ref D) cenv) B2 (P1 (i + 1))) E { s with heap := h, toks := tk })
  (fin : ∀ ys q, P1 vs.length ys q → Fin ys (Led q)) :
  ∀ (j i : Nat) (ys : List Value) (q : σ), i + j = vs.length → P1 i ys q → CR prog w A h₀ L m C D [(I, "list_iterator")] keep1 (fun _ => True) (GName x1) c1
   (eval i2 cenv >>= fun x => standAt i2.pos >>= fun _ => foldedSetIterable i2 cenv x >>= fun x => holding [x] (pyIter x) >>= fun it2 => runOwn (.compStart (.ListComp elt [⟨t1, i1, [], 0⟩, ⟨.Name x2 p2, i2, ifs, 0⟩] scope cp) 1 it2 (.ref D) cenv) cenv >>= fun _ => again c1)
   E s Fin ((vs.drop i).map .val) ys (Led q) := by
 intro j
 induction j with
 | zero =>
  intro i ys q hij hP
  have e : i = vs.length := by kaf_pre
  subst e
  rw [List.drop_length]
  exact fin ys q hP
 | succ j ih =>
  intro i ys q hij hP
  have hlt : i < vs.length := by kaf_pre
  rw [List.drop_eq_getElem_cons hlt]
  rintro oC m₁ m₂ h tk - hG hoC F off
  have hG' : m₂ = upd m₁ x1 vs[i] := hG
  have hx : m₂ x1 = some vs[i] := by rw [hG']; simp [upd]
  refine allObj_of fun its hits N ap => ?_
  obtain ⟨oI, rfl⟩ := objs_one hits
  have ai : AllNe I (Led q) := AllNe.of fun p hp => ap p hp (I, oI) (.head _)
  exact outer_turn (rest1 := fun ys' news' => CR prog w A h₀ L m C D [(I, "list_iterator")] keep1 (fun _ => True) (GName x1) c1 _ E s Fin ((vs.drop (i + 1)).map .val) ys' news') hh hC hCD hCL hC₀ hDL hD₀ hoC hx off hIC hID hs2 T hE
   (turn i vs[i] ys q oC oI m₂ h tk (List.getElem?_eq_getElem hlt) hP hx hoC F off ai N)
   (fun ys' q' hP' => ⟨hk q', ih (i + 1) ys' q' (by kaf_pre) hP'⟩) (fun _ _ => trivial)
theorem It2.intro {σ : Type} {h₀ h' : Heap} {L I C D l2 : Addr} {m : Str → Option Value} {s₁ : Shared} {oI oC : Obj} {ys : List Value} {Led : σ → List (Addr × Obj)} {q : σ} {kn : (Str → Option Value) → Prop} {G : Itm → (Str → Option Value) → (Str → Option Value) → Prop} {c2 : Addr → Code} {B2 : Addr → Sem _root_.PySem.Fin} {Nx : List Value → σ → Prop} {tk' : Nat} {vs2 : List Value}
  (keep : List (Addr × Obj)) (F : Fr h₀ L h' m) (N : News h₀ L h' ((I, oI) :: (C, oC) :: (D, lst ys) :: Led q)) (hl : h'.IsList l2 vs2.toArray) (hsub : SubL keep (Led q)) (src : (∃ o, h₀.get? l2 = some o) ∨ ∃ lo, (l2, lo) ∈ keep)
  (inner : ∀ (J : Addr) (s₂ : Shared) (E' : Value → Shared → Prop), AllLt J ((I, oI) :: (C, oC) :: (D, lst ys) :: Led q) → CR prog w A h₀ L m C D [(J, "list_iterator")] keep kn G (c2 J) (B2 J) E' s₂ (fun ys' news' => ∃ q', news' = (I, oI) :: Led q' ∧ AllNe I (Led q') ∧ Nx ys' q') (vs2.map .val) ys ((I, oI) :: Led q)) :
  It2 prog w A h₀ L m s₁ I oI C oC D ys Led q kn G c2 B2 Nx (.ref l2) { s₁ with heap := h', toks := tk' } :=
 ⟨l2, vs2, keep, h', tk', rfl, rfl, F, N, hl, hsub, src, inner⟩
theorem inner_fold {σ : Type} {h₀ : Heap} {L I C D J : Addr} {m : Str → Option Value} {oI oC : Obj} {keep : List (Addr × Obj)} {x1 x2 : Str} {v1 : Value} {elt : Expr} {cenv : Env} {E : Value → Shared → Prop} {s : Shared} {c : Code} {vs2 : List Value} {ys0 : List Value} {q0 : σ}
  (Led : σ → List (Addr × Obj)) (P2 : Nat → List Value → σ → Prop) (Nx : List Value → σ → Prop) (hx : x1 ≠ x2) (hCD : C ≠ D) (hIC : I ≠ C) (hID : I ≠ D) (hJ : AllLt J ((I, oI) :: (C, oC) :: (D, lst ys0) :: Led q0)) (hlen : ∀ i ys q, P2 i ys q → ys.length ≤ sizeLine) (hk : ∀ q, SubL keep (Led q))
  (ha : ∀ i ys q, P2 i ys q → AllNe I (Led q))
  (turn : ∀ (i : Nat) (v : Value) (ys : List Value) (q : σ) (oC oJ : Obj) (m₂ : Str → Option Value) (h : Heap) (tk : Nat), vs2[i]? = some v → P2 i ys q → m₂ x1 = some v1 → m₂ x2 = some v → NsObj oC m₂ → Fr h₀ L h m → OffCD C D (Led q) → @Ne Nat I J → AllNe J (Led q) →
   News h₀ L h ((J, oJ) :: (C, oC) :: (D, lst ys) :: (I, oI) :: Led q) →
   wpAny (model prog w) A (eval elt cenv) (CfEnd h₀ L m { s with heap := h, toks := tk } J oJ C oC D ys (fun q => (I, oI) :: Led q) (P2 (i + 1))) E { s with heap := h, toks := tk })
  (h0 : P2 0 ys0 q0) (hN : ∀ ys q, P2 vs2.length ys q → Nx ys q) :
  CR prog w A h₀ L m C D [(J, "list_iterator")] keep (fun m' => m' x1 = some v1) (GName x2) c (emitB elt (.ref D) cenv c) E s (fun ys' news' => ∃ q', news' = (I, oI) :: Led q' ∧ AllNe I (Led q') ∧ Nx ys' q') (vs2.map .val) ys0 ((I, oI) :: Led q0) := by
 have hDJ : D ≠ J := Nat.ne_of_lt hJ.2.2.1
 refine cr_fold (fun q => (I, oI) :: Led q) P2 (fun m₁ v h => by simp [upd, hx, h]) hCD hDJ hlen (fun q => SubL.cons_r (hk q)) ?_ (fun ys q hP => ⟨q, rfl, ha _ ys q hP, hN ys q hP⟩) vs2.length 0 ys0 q0 (by kaf_pre) h0
 intro i v ys q oC oJ m₁ m₂ h tk hv hP hkn hm hoC F off aj N
 exact turn i v ys q oC oJ m₂ h tk hv hP (by rw [hm]; simp [upd, hx, hkn]) (by rw [hm]; simp [upd]) hoC F off.2 aj.1 aj.2 N
end
end Mine
end
section
open PyProof.V PyProof.Rows.LCg
namespace Mine
def pk (x n : Int) : Int := x.fmod 2 + x.fdiv 2 * 2 ^ n.toNat
theorem d2v_pk (x n : Int) : d2v n [x.fmod 2, x.fdiv 2] = pk x n := by
 show x.fdiv 2 * 2 ^ n.toNat + x.fmod 2 = pk x n
 unfold pk; kaf_pre
abbrev PckQ (ws : List Int) (n : Int) (v : Value) (led' : List (Addr × Obj)) : Prop := ∃ D vs k ps c o, v = .ref D ∧ led' = [(D, listOf vs.toArray k), (61, tabObj ps), (c, o)] ∧ IntsAre vs (ws.map fun x => pk x n) ∧ TS 61 51 4 qD ps c o ∧ @Ne Nat 61 D ∧ @Ne Nat c D
abbrev S6 := Array Value × Addr × Obj
abbrev ledP (pre : List (Addr × Obj)) (q : S6) : List (Addr × Obj) := pre ++ [(61, tabObj q.1), (q.2.1, q.2.2)]
abbrev PP (ws : List Int) (n : Int) (Lc l : Addr) (i : Nat) (ys : List Value) (q : S6) : Prop := IntsAre ys ((ws.take i).map fun x => pk x n) ∧ TS 61 51 4 qD q.1 q.2.1 q.2.2 ∧ ys.length ≤ ws.length ∧ @Ne Nat q.2.1 Lc ∧ @Ne Nat q.2.1 l
section
variable {prog : Program} {w : World} {A : Around}
theorem two_facts {k : Int} (h : 0 ≤ k ∧ k ≤ 3) : (0 ≤ k.fmod 2 ∧ k.fmod 2 ≤ 3) ∧ (0 ≤ k.fdiv 2 ∧ k.fdiv 2 ≤ 3) := by
 rw [Int.fmod_eq_emod_of_nonneg _ (by decide), Int.fdiv_eq_ediv_of_nonneg _ (by decide)]
 kaf_pre
theorem pk_cr {h₀ : Heap} {L I C D c0 Lc l : Addr} {oc lo o0 : Obj} {m : Str → Option Value} {keep : List (Addr × Obj)} {c : Code} {x : Str} {elt : Expr} {cenv : Env} {E : Value → Shared → Prop} {s : Shared} {Fin : List Value → List (Addr × Obj) → Prop} {vs : List Value} {ws : List Int} {ps0 : Array Value} {n : Int}
  (hn : 0 ≤ n ∧ n ≤ 16) (hi : IntsAre vs ws) (hws : ∀ x ∈ ws, 0 ≤ x ∧ x ≤ 3) (hlw : ws.length ≤ 1000) (hk : SubL keep [(Lc, oc), (l, lo)]) (hCD : C ≠ D) (hDI : D ≠ I) (hT : TS 61 51 4 qD ps0 c0 o0) (e1 : @Ne Nat c0 Lc) (e2 : @Ne Nat c0 l) (e3 : @Ne Nat Lc 61)
  (turn : ∀ (k : Int) (t : Tok) (ys : List Value) (ps : Array Value) (c1 : Addr) (o1 oC oI : Obj) (m₂ : Str → Option Value) (h : Heap) (tk : Nat) (P : List Value → S6 → Prop), 0 ≤ k → k ≤ 3 → (0 ≤ k.fmod 2 ∧ k.fmod 2 ≤ 3) → (0 ≤ k.fdiv 2 ∧ k.fdiv 2 ≤ 3) → TS 61 51 4 qD ps c1 o1 → @Ne Nat c1 Lc → @Ne Nat c1 l → @Ne Nat Lc 61 → (∀ t' ps' c' o', TS 61 51 4 qD ps' c' o' → @Ne Nat c' Lc → @Ne Nat c' l → P (ys ++ [.int (d2v n [k.fmod 2, k.fdiv 2]) t']) (ps', c', o')) → m₂ x = some (.int k t) → NsObj oC m₂ → Fr h₀ L h m →
   OffCD C D [(Lc, oc), (l, lo), (61, tabObj ps), (c1, o1)] → AllNe I [(Lc, oc), (l, lo), (61, tabObj ps), (c1, o1)] →
   News h₀ L h [(I, oI), (C, oC), (D, lst ys), (Lc, oc), (l, lo), (61, tabObj ps), (c1, o1)] →
   wpAny (model prog w) A (eval elt cenv) (CfEnd h₀ L m { s with heap := h, toks := tk } I oI C oC D ys (ledP [(Lc, oc), (l, lo)]) P) E { s with heap := h, toks := tk })
  (fin : ∀ ys ps c1 o1, IntsAre ys (ws.map fun x => pk x n) → TS 61 51 4 qD ps c1 o1 → Fin ys [(Lc, oc), (l, lo), (61, tabObj ps), (c1, o1)]) :
  CR prog w A h₀ L m C D [(I, "list_iterator")] keep (fun _ => True) (GName x) c (emitB elt (.ref D) cenv c) E s Fin (vs.map .val) [] [(Lc, oc), (l, lo), (61, tabObj ps0), (c0, o0)] := by
 have hkk : ∀ q : S6, SubL keep (ledP [(Lc, oc), (l, lo)] q) := fun q => by
  have : ∀ (kp : List (Addr × Obj)), SubL kp [(Lc, oc), (l, lo)] → SubL kp (ledP [(Lc, oc), (l, lo)] q) := by
   intro kp
   induction kp with
   | nil => exact fun _ => trivial
   | cons a r ih => exact fun h => ⟨List.mem_append_left _ h.1, ih h.2⟩
  exact this keep hk
 refine cr_fold (kn := fun _ => True) (ledP [(Lc, oc), (l, lo)]) (PP ws n Lc l) (fun _ _ _ => trivial) hCD hDI (fun i ys q h => ?_) hkk ?_ ?_ vs.length 0 [] (ps0, c0, o0) (by kaf_pre) ⟨.nil, hT, Nat.zero_le _, e1, e2⟩
 ·rw [PySem.sizeLine_eq]
  have := h.2.2.1
  kaf_pre
 ·rintro i v ys ⟨ps, c1, o1⟩ oC oI m₁ m₂ h tk hv hP - hm hoC F off ai N
  obtain ⟨k, t, rfl, hk'⟩ := IntsAre.at hi i v hv
  have hb := hws k (List.mem_of_getElem? hk')
  refine turn k t ys ps c1 o1 oC oI m₂ h tk _ hb.1 hb.2 (two_facts hb).1 (two_facts hb).2 hP.2.1 hP.2.2.2.1 hP.2.2.2.2 e3 (fun t' ps' c' o' hT' f1 f2 => ⟨?_, hT', ?_, f1, f2⟩) (by rw [hm]; simp [upd]) hoC F off ai N
  ·rw [List.take_add_one, hk', d2v_pk]
   simp only [Option.toList, List.map_append, List.map_cons, List.map_nil]
   exact IntsAre.append hP.1 (.cons _ _ .nil)
  ·have e := hP.1.length
   rw [List.length_map, List.length_take] at e
   have : i < ws.length := (List.getElem?_eq_some_iff.mp hk').1
   rw [List.length_append, List.length_cons, List.length_nil]
   kaf_pre
 ·rintro ys ⟨ps, c1, o1⟩ hP
  have q := hP.1
  rw [hi.length, List.take_length] at q
  exact fin ys ps c1 o1 q hP.2.1
theorem pk_fin {P : List Value → S6 → Prop} {Lc l c : Addr} {ys : List Value} {x : Int} {t : Tok} {ps : Array Value} {o : Obj} (hP : ∀ t' ps' c' o', TS 61 51 4 qD ps' c' o' → @Ne Nat c' Lc → @Ne Nat c' l → P (ys ++ [.int x t']) (ps', c', o'))
  (hT : TS 61 51 4 qD ps c o) (r2 : @Ne Nat c Lc) (r3 : @Ne Nat c l) : P (ys ++ [.int x t]) (ps, c, o) := hP t ps c o hT r2 r3
theorem pck_end {R : Result → Shared → Prop} {s : Shared} {g h' : Heap} {L D c : Addr} {m : Str → Option Value} {news : List (Addr × Obj)} {tk : Nat} {ys : List Value} {ws : List Int} {n : Int} {ps : Array Value} {o : Obj}
  (hret : RetG R s g (PckQ ws n)) (F : Fr g L h' m) (N : News g L h' news) (hi : IntsAre ys (ws.map fun x => pk x n)) (hT : TS 61 51 4 qD ps c o) (m1 : (D, lst ys) ∈ news) (m2 : (61, tabObj ps) ∈ news) (m3 : (c, o) ∈ news) (n1 : @Ne Nat 61 D) (n2 : @Ne Nat c D) :
  R (.ok (.ret (.ref D))) { s with heap := h', toks := tk } :=
 ret_end (led' := [(D, listOf ys.toArray ys.length), (61, tabObj ps), (c, o)]) hret F N (List.forall_mem_cons.mpr ⟨m1, List.forall_mem_cons.mpr ⟨m2, List.forall_mem_cons.mpr ⟨m3, List.forall_mem_nil _⟩⟩⟩) ⟨D, ys, ys.length, ps, c, o, rfl, rfl, hi, hT, n1, n2⟩
end
end Mine
end
section
namespace Mine
def nimP (x y : Int) : Int := (x.fmod 2 * y.fmod 2 + x.fdiv 2 * y.fdiv 2).fmod 2 + (x.fmod 2 * y.fdiv 2 + x.fdiv 2 * y.fmod 2 + x.fdiv 2 * y.fdiv 2).fmod 2 * 2
abbrev modM (n : Int) : Int := (4 : Int) ^ n.toNat - 2 ^ n.toNat - 1
def prodRes (r n : Int) : Int := if r = 0 then 0 else if Int.fdiv ((Builtin.Int.intBits r : Int) + n - 1) n = 1 then r.fmod 2 else (r - r.fdiv (2 ^ n.toNat) * 2 ^ n.toNat).fmod 2 + (r.fdiv (2 ^ n.toNat)).fmod 2 * 2
def prodOk (n x y : Int) : Prop :=
 (0 ≤ pk x n ∧ pk x n < 2 ^ 10) ∧ (0 ≤ pk y n ∧ pk y n < 2 ^ 10) ∧ (3 ≤ n ∧ n ≤ 8) ∧ (0 ≤ pk x n * pk y n ∧ pk x n * pk y n < 2 ^ 20) ∧ (0 < modM n ∧ modM n < 2 ^ 20) ∧
 (1 ≤ (Builtin.Int.intBits (modM n) : Int) ∧ (Builtin.Int.intBits (modM n) : Int) ≤ 16) ∧
 ((pk x n * pk y n = 0 ∧ (Builtin.Int.intBits (pk x n * pk y n) : Int) = 0) ∨ (pk x n * pk y n ≠ 0 ∧ 1 ≤ (Builtin.Int.intBits (pk x n * pk y n) : Int) ∧ (Builtin.Int.intBits (pk x n * pk y n) : Int) ≤ 2 * (Builtin.Int.intBits (modM n) : Int))) ∧
 pk x n * pk y n < 4 * modM n ∧ (pk x n * pk y n).fdiv (modM n) = (pk x n).fdiv (2 ^ n.toNat) * (pk y n).fdiv (2 ^ n.toNat) ∧
 (0 ≤ (pk x n * pk y n).fmod (modM n) ∧ (pk x n * pk y n).fmod (modM n) < 2 ^ 20) ∧
 (let r := (pk x n * pk y n).fmod (modM n)
  (nimP x y = prodRes r n ∧ ((r = 0 ∧ Int.fdiv ((Builtin.Int.intBits r : Int) + n - 1) n = 0) ∨ (r ≠ 0 ∧ (Int.fdiv ((Builtin.Int.intBits r : Int) + n - 1) n = 1 ∨ Int.fdiv ((Builtin.Int.intBits r : Int) + n - 1) n = 2)))))
theorem prodOk_all : ∀ n ∈ [(3 : Int), 4, 5, 6, 7, 8], ∀ x ∈ [(0 : Int), 1, 2, 3], ∀ y ∈ [(0 : Int), 1, 2, 3], prodOk n x y := by
 unfold prodOk prodRes
 decide +kernel
theorem prodOk_at {n x y : Int} (hn : 3 ≤ n ∧ n ≤ 8) (hx : 0 ≤ x ∧ x ≤ 3) (hy : 0 ≤ y ∧ y ≤ 3) : prodOk n x y :=
 prodOk_all n (m38 hn) x (m4 hx) y (m4 hy)
theorem prod_c (w : World) (dp un : Nat) (gd : Option (List Code)) (s : Shared) (x y a b n : Int) (ta tb tn : Tok) (p4 p6 : Array Value) (c4 c6 : Addr) (o4 o6 : Obj)
  (hdp : dp + 240 < recursionLimit) (hun : un + 1600 < cLine) (hn : 3 ≤ n ∧ n ≤ 8) (hx : 0 ≤ x ∧ x ≤ 3) (hy : 0 ≤ y ∧ y ≤ 3) (ha : a = pk x n) (hb : b = pk y n)
  (h4 : TS 54 36 4 qI p4 c4 o4) (h6 : TS 61 51 4 qD p6 c6 o6) (hd1 : @Ne Nat c4 61) (hd2 : @Ne Nat c6 54) (hd3 : @Ne Nat c4 c6) :
  Ctr w dp un gd s 365 ⟨[.int a ta, .int b tb, .int n tn], []⟩ [(54, tabObj p4), (c4, o4), (61, tabObj p6), (c6, o6)] (fun _ => True) (TabQ (nimP x y)) := by
 subst ha hb
 intro loose mean mg mb outer base g R B X T hkg hsz hled _ hret
 obtain ⟨f1, f2, f3, f4, f5, f6, f7, f8, f9, f10, f11, f12⟩ := prodOk_at hn hx hy
 have f7' : Bits2 (pk x n * pk y n) (Builtin.Int.intBits (modM n)) := f7
 rcases f12 with ⟨hz, hk⟩ | ⟨hz, hk | hk⟩
 ·exact prod_0 w loose mean mg mb dp un gd outer base g s R _ _ n _ _ (nimP x y) ta tb tn p4 p6 c4 c6 o4 o6 B X T hkg hsz hdp hun hled f1 f2 f3 f4 f5 f6 f7' f8 rfl rfl f9 f10 hz hk (by rw [f11]; unfold prodRes; rw [if_pos hz]) h4 h6 hd1 hd2 hd3 hret
 ·exact prod_1 w loose mean mg mb dp un gd outer base g s R _ _ n _ _ (nimP x y) ta tb tn p4 p6 c4 c6 o4 o6 B X T hkg hsz hdp hun hled f1 f2 f3 f4 f5 f6 f7' f8 rfl rfl f9 f10 hz hk (by rw [f11]; unfold prodRes; rw [if_neg hz, if_pos hk]) h4 h6 hd1 hd2 hd3 hret
 ·exact prod_2 w loose mean mg mb dp un gd outer base g s R _ _ n _ _ (nimP x y) ta tb tn p4 p6 c4 c6 o4 o6 B X T hkg hsz hdp hun hled f1 f2 f3 f4 f5 f6 f7' f8 rfl rfl f9 f10 hz hk (fun lo up hlo hup => by rw [f11]; unfold prodRes; rw [if_neg hz, if_neg (by rw [hk]; decide), hlo, hup]) h4 h6 hd1 hd2 hd3 hret
end Mine
end
section
namespace Mine
def BR (ns : List Int) (x lo hi : Int) : Prop := (∀ i : Nat, (i : Int) < lo → i < ns.length → ns.getD i 0 ≤ x) ∧ (∀ i : Nat, hi ≤ (i : Int) → i < ns.length → x < ns.getD i 0)
def BL (ns : List Int) (x lo hi : Int) : Prop := (∀ i : Nat, (i : Int) < lo → i < ns.length → ns.getD i 0 < x) ∧ (∀ i : Nat, hi ≤ (i : Int) → i < ns.length → x ≤ ns.getD i 0)
theorem getD_mono {ns : List Int} (hs : ns.Pairwise (· < ·)) {i j : Nat} (hij : i ≤ j) (hj : j < ns.length) : ns.getD i 0 ≤ ns.getD j 0 := by
 have hi : i < ns.length := by kaf_pre
 have ei : ns.getD i 0 = ns[i] := by simp [List.getD, hi]
 have ej : ns.getD j 0 = ns[j] := by simp [List.getD, hj]
 rw [ei, ej]
 rcases Nat.lt_or_eq_of_le hij with h | h
 ·exact Int.le_of_lt (List.pairwise_iff_getElem.mp hs i j hi hj h)
 ·subst h; exact Int.le_refl _
theorem BR.start {ns : List Int} {x : Int} : BR ns x 0 ns.length := ⟨fun i h _ => by kaf_pre, fun i h h' => by kaf_pre⟩
theorem BL.start {ns : List Int} {x : Int} : BL ns x 0 ns.length := ⟨fun i h _ => by kaf_pre, fun i h h' => by kaf_pre⟩
theorem mid_facts {lo hi : Int} (_ : 0 ≤ lo) (h : lo < hi) : lo ≤ (lo + hi).fdiv 2 ∧ (lo + hi).fdiv 2 < hi := by
 rw [Int.fdiv_eq_ediv_of_nonneg _ (by decide)]
 kaf_pre
theorem BR.down {ns : List Int} {x lo hi m : Int} (hs : ns.Pairwise (· < ·)) (h : BR ns x lo hi) (hm0 : 0 ≤ m) (hml : m < ns.length) (hx : x < ns.getD m.toNat 0) : BR ns x lo m := by
 obtain ⟨m, rfl⟩ := Int.eq_ofNat_of_zero_le hm0
 rw [Int.toNat_natCast] at hx
 exact ⟨h.1, fun i hi hl => Int.lt_of_lt_of_le hx (getD_mono hs (Int.ofNat_le.mp hi) hl)⟩
theorem BR.up {ns : List Int} {x lo hi m : Int} (hs : ns.Pairwise (· < ·)) (h : BR ns x lo hi) (hm0 : 0 ≤ m) (hml : m < ns.length) (hx : ¬ x < ns.getD m.toNat 0) : BR ns x (m + 1) hi := by
 obtain ⟨m, rfl⟩ := Int.eq_ofNat_of_zero_le hm0
 rw [Int.toNat_natCast] at hx
 exact ⟨fun i hi hl => Int.le_trans (getD_mono hs (Int.ofNat_le.mp (Int.le_of_lt_add_one hi)) (Int.ofNat_lt.mp hml)) (Int.not_lt.mp hx), h.2⟩
theorem BL.down {ns : List Int} {x lo hi m : Int} (hs : ns.Pairwise (· < ·)) (h : BL ns x lo hi) (hm0 : 0 ≤ m) (hml : m < ns.length) (hx : ¬ ns.getD m.toNat 0 < x) : BL ns x lo m := by
 obtain ⟨m, rfl⟩ := Int.eq_ofNat_of_zero_le hm0
 rw [Int.toNat_natCast] at hx
 exact ⟨h.1, fun i hi hl => Int.le_trans (Int.not_lt.mp hx) (getD_mono hs (Int.ofNat_le.mp hi) hl)⟩
theorem BL.up {ns : List Int} {x lo hi m : Int} (hs : ns.Pairwise (· < ·)) (h : BL ns x lo hi) (hm0 : 0 ≤ m) (hml : m < ns.length) (hx : ns.getD m.toNat 0 < x) : BL ns x (m + 1) hi := by
 obtain ⟨m, rfl⟩ := Int.eq_ofNat_of_zero_le hm0
 rw [Int.toNat_natCast] at hx
 exact ⟨fun i hi hl => Int.lt_of_le_of_lt (getD_mono hs (Int.ofNat_le.mp (Int.le_of_lt_add_one hi)) (Int.ofNat_lt.mp hml)) hx, h.2⟩
theorem BR.turnD {ns : List Int} {x lo hi : Int} (hs : ns.Pairwise (· < ·)) (h0 : 0 ≤ lo) (h2 : hi ≤ ns.length) (h : BR ns x lo hi) (hlt : lo < hi) (hx : x < ns.getD ((lo + hi).fdiv 2).toNat 0) : 0 ≤ lo ∧ lo ≤ (lo + hi).fdiv 2 ∧ (lo + hi).fdiv 2 ≤ ns.length ∧ BR ns x lo ((lo + hi).fdiv 2) := by
 have hm := mid_facts h0 hlt
 exact ⟨h0, hm.1, Int.le_of_lt (Int.lt_of_lt_of_le hm.2 h2), h.down hs (Int.le_trans h0 hm.1) (Int.lt_of_lt_of_le hm.2 h2) hx⟩
theorem BR.turnU {ns : List Int} {x lo hi : Int} (hs : ns.Pairwise (· < ·)) (h0 : 0 ≤ lo) (h2 : hi ≤ ns.length) (h : BR ns x lo hi) (hlt : lo < hi) (hx : ¬ x < ns.getD ((lo + hi).fdiv 2).toNat 0) : 0 ≤ (lo + hi).fdiv 2 + 1 ∧ (lo + hi).fdiv 2 + 1 ≤ hi ∧ hi ≤ ns.length ∧ BR ns x ((lo + hi).fdiv 2 + 1) hi := by
 have hm := mid_facts h0 hlt
 exact ⟨Int.le_trans h0 (Int.le_trans hm.1 (Int.le_add_one (Int.le_refl _))), hm.2, h2, h.up hs (Int.le_trans h0 hm.1) (Int.lt_of_lt_of_le hm.2 h2) hx⟩
theorem BL.turnD {ns : List Int} {x lo hi : Int} (hs : ns.Pairwise (· < ·)) (h0 : 0 ≤ lo) (h2 : hi ≤ ns.length) (h : BL ns x lo hi) (hlt : lo < hi) (hx : ¬ ns.getD ((lo + hi).fdiv 2).toNat 0 < x) : 0 ≤ lo ∧ lo ≤ (lo + hi).fdiv 2 ∧ (lo + hi).fdiv 2 ≤ ns.length ∧ BL ns x lo ((lo + hi).fdiv 2) := by
 have hm := mid_facts h0 hlt
 exact ⟨h0, hm.1, Int.le_of_lt (Int.lt_of_lt_of_le hm.2 h2), h.down hs (Int.le_trans h0 hm.1) (Int.lt_of_lt_of_le hm.2 h2) hx⟩
theorem BL.turnU {ns : List Int} {x lo hi : Int} (hs : ns.Pairwise (· < ·)) (h0 : 0 ≤ lo) (h2 : hi ≤ ns.length) (h : BL ns x lo hi) (hlt : lo < hi) (hx : ns.getD ((lo + hi).fdiv 2).toNat 0 < x) : 0 ≤ (lo + hi).fdiv 2 + 1 ∧ (lo + hi).fdiv 2 + 1 ≤ hi ∧ hi ≤ ns.length ∧ BL ns x ((lo + hi).fdiv 2 + 1) hi := by
 have hm := mid_facts h0 hlt
 exact ⟨Int.le_trans h0 (Int.le_trans hm.1 (Int.le_add_one (Int.le_refl _))), hm.2, h2, h.up hs (Int.le_trans h0 hm.1) (Int.lt_of_lt_of_le hm.2 h2) hx⟩
theorem measD {lo hi : Int} (h0 : 0 ≤ lo) (hlt : lo < hi) : ((lo + hi).fdiv 2 - lo).toNat < (hi - lo).toNat := by
 have hm := mid_facts h0 hlt
 kaf_pre
theorem measU {lo hi : Int} (h0 : 0 ≤ lo) (hlt : lo < hi) : (hi - ((lo + hi).fdiv 2 + 1)).toNat < (hi - lo).toNat := by
 have hm := mid_facts h0 hlt
 kaf_pre
theorem bis_end {R : Result → Shared → Prop} {s : Shared} {g h' : Heap} {P : Int → Int → Prop} {n : Int} {L : Addr} {m : Str → Option Value} {news : List (Addr × Obj)} {lo hi : Int} {t : Tok} {tk : Nat}
  (hret : RetG R s g (fun v led' => ∃ k t', v = .int k t' ∧ led' = [] ∧ 0 ≤ k ∧ k ≤ n ∧ P k k)) (F : Fr g L h' m) (N : News g L h' news) (h0 : 0 ≤ lo) (h1 : lo ≤ hi) (h2 : hi ≤ n) (hP : P lo hi) (hn : ¬ lo < hi) :
  R (.ok (.ret (.int lo t))) { s with heap := h', toks := tk } := by
 have e : hi = lo := by kaf_pre
 subst e
 exact ret_end (led' := []) hret F N (fun _ h => nomatch h) ⟨_, _, rfl, rfl, h0, by kaf_pre, hP⟩
end Mine
end
section
namespace Mine
abbrev bitOn (h : Int) (i : Int) : Prop := Builtin.bitAnd (h.fdiv (2 ^ i.toNat)) 1 = 1
def overUp (ns : List Int) (h : Int) : Nat → Int
 | 0 => 0
 | k + 1 => if bitOn h k then Builtin.bitXor (overUp ns h k) (ns.getD k 0) else overUp ns h k
def over (ns : List Int) (h : Int) : Int := overUp ns h ns.length

theorem over_step (ns : List Int) (h : Int) (pre : List Int) (k a : Int) (hk : k = 0 + (pre.length : Int)) (ha : a = overUp ns h pre.length) (hb : Builtin.bitAnd (h.fdiv (2 ^ k.toNat)) 1 = 1) :
  Builtin.bitXor a (ns.getD k.toNat 0) = overUp ns h (pre ++ [k]).length := by
 have e : (pre ++ [k]).length = pre.length + 1 := by simp
 have ek : k = (pre.length : Int) := by kaf_pre
 subst ek
 have hb' : bitOn h (pre.length : Int) := hb
 rw [e, overUp, if_pos hb', ha]; simp
theorem over_skip (ns : List Int) (h : Int) (pre : List Int) (k a : Int) (hk : k = 0 + (pre.length : Int)) (ha : a = overUp ns h pre.length) (hb : ¬ Builtin.bitAnd (h.fdiv (2 ^ k.toNat)) 1 = 1) :
  a = overUp ns h (pre ++ [k]).length := by
 have e : (pre ++ [k]).length = pre.length + 1 := by simp
 have ek : k = (pre.length : Int) := by kaf_pre
 subst ek
 have hb' : ¬ bitOn h (pre.length : Int) := hb
 rw [e, overUp, if_neg hb', ha]
theorem over_end {R : Result → Shared → Prop} {s : Shared} {g h' : Heap} {L : Addr} {m : Str → Option Value} {news : List (Addr × Obj)} {ns : List Int} {h x : Int} {t : Tok} {tk : Nat}
  (hret : RetG R s g (fun v led' => ∃ t', v = .int (over ns h) t' ∧ led' = [])) (F : Fr g L h' m) (N : News g L h' news) (hx : x = overUp ns h (rangeKs 0 ((ns.length : Int) - 0).toNat).length) :
  R (.ok (.ret (.int x t))) { s with heap := h', toks := tk } := by
 have e : ((ns.length : Int) - 0).toNat = ns.length := by kaf_pre
 rw [rangeKs_length, e] at hx
 subst hx
 exact ret_end (led' := []) hret F N (fun _ h => nomatch h) ⟨_, rfl, rfl⟩
end Mine
end
section
namespace Mine
theorem over_g : ∀ (w : World) (loose : List Str) (mean : ExcName → Option Value) (mg mb : Str → Option Value) (dp un : Nat) (gd : Option (List Code)) (outer : List Env) (base g : Heap) (s : Shared) (R : Result → Shared → Prop) (l : Addr) (vs : List Value) (ns : List Int) (h : Int) (t : Tok)
  (B : Below (arX dp un gd outer) base outer g) (X : (hd.heap_1 w.params).In g) (T : Top topProg loose mean mg mb g) (hkg : ∀ b o, g.get? b = some o → s.heap.get? b = some o) (hsz : g.objs.size ≤ s.heap.objs.size) (hdp : dp + 60 < recursionLimit) (hun : un + 400 < cLine) (hled : ∀ p ∈ ([] : List (Addr × Obj)), s.heap.get? p.1 = some p.2 ∧ g.get? p.1 = none) (hl : g.IsList l vs.toArray) (hi : IntsAre vs ns) (hlen : ns.length ≤ 1000) (h0 : 0 ≤ h)
  (hret : RetG R s g (fun v led' => ∃ t', v = .int (over ns h) t' ∧ led' = [])),
  codeAny (model PySem.Challenge.rw_sn0104_01.row.toRowW.prog w) (arX dp un gd outer) (.call (.ref 348) ⟨[.ref l, .int h t], []⟩) R s := by
 k_with_none
 w_top off
 k_fill
 ((refine hk18 (h := ?_)); (generalize hkT18 _ = T9); (generalize pj0 T9 = w, pj1 T9 = loose, pj2 T9 = mean, pj3 T9 = mg, s4 T9 = U9); (clear T9); (generalize pj0 U9 = mb, pj1 U9 = dp, pj2 U9 = un, pj3 U9 = gd, s4 U9 = T9); (clear U9); (generalize pj0 T9 = outer, pj1 T9 = base, pj2 T9 = g, pj3 T9 = s, s4 T9 = U9); (clear T9); (generalize pj0 U9 = R, pj1 U9 = l, pj2 U9 = vs, pj3 U9 = ns, s4 U9 = T9); (clear U9); (generalize pj0 T9 = h, lj1 T9 = t); (clear T9); intro B X T hkg hsz hdp hun hled hl hi hlen h0 hret)
 (k_with "pyIter ref" => k_state (fun pre worth => worth = overUp ns h pre.length) "worth")
 (k_with "state" => first | rfl | exact over_step ns h kPre kN _ kEq kInv (by assumption) | exact over_skip ns h kPre kN _ kEq kInv (by assumption))
 k_dflt (refine' enterG (led := []) hkg hsz ?kl ?k3 ?k5 ?k6 ?k7 ?k8 ?k9 ?kB ?_ ?c2 ?c3 ?c4 ?c5; (case kl => exact hled); (case k3 => k_asm); (case k5 => k_asm); (case k6 => k_is); (case k7 => k_is); (case k8 => ktr_room); (case k9 => first | exact BindsTo.of_eq rfl | exact kp_binds (X.keeps hkg) (fun _ => rfl)); (case c5 => decide); (case kB => exact locs rfl); (case c2 => exact rfl); (case c3 => exact rfl); (case c4 => exact rfl); k_whole; ((refine hk2 (h := ?_)); (generalize hkT2 _ = T9); (generalize pj0 T9 = L', lj1 T9 = h'); (clear T9); intro F' N' l1); (try k_lt l1); (try dsimp only); (try k_fold); (have hkm := HkMark.mk))
 w_strict k_steps
 all_goals exact over_end hret (by assumption) (by assumption) kInv
end Mine
end
section
namespace Mine
theorem bisr_w : ∀ (w : World) (loose : List Str) (mean : ExcName → Option Value) (mg mb : Str → Option Value) (dp un : Nat) (gd : Option (List Code)) (outer : List Env) (base g : Heap) (s : Shared) (R : Result → Shared → Prop) (l : Addr) (vs : List Value) (ns : List Int) (x : Int) (t : Tok)
  (B : Below (arX dp un gd outer) base outer g) (X : (hd.heap_1 w.params).In g) (T : Top topProg loose mean mg mb g) (hkg : ∀ b o, g.get? b = some o → s.heap.get? b = some o) (hsz : g.objs.size ≤ s.heap.objs.size) (hdp : dp + 120 < recursionLimit) (hun : un + 800 < cLine) (hled : ∀ p ∈ ([] : List (Addr × Obj)), s.heap.get? p.1 = some p.2 ∧ g.get? p.1 = none) (hl : g.IsList l vs.toArray) (hi : IntsAre vs ns) (hlen : ns.length ≤ 1000) (hs : ns.Pairwise (· < ·)) (hx : 0 ≤ x ∧ x ≤ 1000)
  (hret : RetG R s g (fun v led' => ∃ k t', v = .int k t' ∧ led' = [] ∧ 0 ≤ k ∧ k ≤ (ns.length : Int) ∧ BR ns x k k)),
  codeAny (model PySem.Challenge.rw_sn0104_01.row.toRowW.prog w) (arX dp un gd outer) (.call (.ref 98) ⟨[.ref l, .int x t], []⟩) R s := by
 k_with_none
 w_top off
 k_fill
 ((refine hk18 (h := ?_)); (generalize hkT18 _ = T9); (generalize pj0 T9 = w, pj1 T9 = loose, pj2 T9 = mean, pj3 T9 = mg, s4 T9 = U9); (clear T9); (generalize pj0 U9 = mb, pj1 U9 = dp, pj2 U9 = un, pj3 U9 = gd, s4 U9 = T9); (clear U9); (generalize pj0 T9 = outer, pj1 T9 = base, pj2 T9 = g, pj3 T9 = s, s4 T9 = U9); (clear T9); (generalize pj0 U9 = R, pj1 U9 = l, pj2 U9 = vs, pj3 U9 = ns, s4 U9 = T9); (clear U9); (generalize pj0 T9 = x, lj1 T9 = t); (clear T9); intro B X T hkg hsz hdp hun hled hl hi hlen hs hx hret)
 have hvl := hi.length
 (k_with "exec While Compare cons nil" => k_while (fun _ lo hi => 0 ≤ lo ∧ lo ≤ hi ∧ hi ≤ (ns.length : Int) ∧ BR ns x lo hi) (fun _ lo hi => (hi - lo).toNat) "lo" "hi")
 (k_with "state" => first | exact ⟨by omega, by omega, by omega, BR.start⟩ | exact BR.turnD hs (by assumption) (by assumption) (by assumption) (by assumption) (by assumption) | exact BR.turnU hs (by assumption) (by assumption) (by assumption) (by assumption) (by assumption))
 (k_with "measure" => first | exact measD (by assumption) (by assumption) | exact measU (by assumption) (by assumption))
 k_dflt (refine' enterG (led := []) hkg hsz ?kl ?k3 ?k5 ?k6 ?k7 ?k8 ?k9 ?kB ?_ ?c2 ?c3 ?c4 ?c5; (case kl => exact hled); (case k3 => k_asm); (case k5 => k_asm); (case k6 => k_is); (case k7 => k_is); (case k8 => ktr_room); (case k9 => first | exact BindsTo.of_eq rfl | exact kp_binds (X.keeps hkg) (fun _ => rfl)); (case c5 => decide); (case kB => exact locs rfl); (case c2 => exact rfl); (case c3 => exact rfl); (case c4 => exact rfl); k_whole; ((refine hk2 (h := ?_)); (generalize hkT2 _ = T9); (generalize pj0 T9 = L', lj1 T9 = h'); (clear T9); intro F' N' l1); (try k_lt l1); (try dsimp only); (try k_fold); (have hkm := HkMark.mk))
 w_strict k_steps
 all_goals first | exact bis_end hret (by assumption) (by assumption) (by assumption) (by assumption) (by assumption) (by assumption) (by assumption) | w_report
end Mine
end
section
namespace Mine
theorem bisl_w : ∀ (w : World) (loose : List Str) (mean : ExcName → Option Value) (mg mb : Str → Option Value) (dp un : Nat) (gd : Option (List Code)) (outer : List Env) (base g : Heap) (s : Shared) (R : Result → Shared → Prop) (l : Addr) (vs : List Value) (ns : List Int) (x : Int) (t : Tok)
  (B : Below (arX dp un gd outer) base outer g) (X : (hd.heap_1 w.params).In g) (T : Top topProg loose mean mg mb g) (hkg : ∀ b o, g.get? b = some o → s.heap.get? b = some o) (hsz : g.objs.size ≤ s.heap.objs.size) (hdp : dp + 120 < recursionLimit) (hun : un + 800 < cLine) (hled : ∀ p ∈ ([] : List (Addr × Obj)), s.heap.get? p.1 = some p.2 ∧ g.get? p.1 = none) (hl : g.IsList l vs.toArray) (hi : IntsAre vs ns) (hlen : ns.length ≤ 1000) (hs : ns.Pairwise (· < ·)) (hx : 0 ≤ x ∧ x ≤ 1000)
  (hret : RetG R s g (fun v led' => ∃ k t', v = .int k t' ∧ led' = [] ∧ 0 ≤ k ∧ k ≤ (ns.length : Int) ∧ BL ns x k k)),
  codeAny (model PySem.Challenge.rw_sn0104_01.row.toRowW.prog w) (arX dp un gd outer) (.call (.ref 107) ⟨[.ref l, .int x t], []⟩) R s := by
 k_with_none
 w_top off
 k_fill
 ((refine hk18 (h := ?_)); (generalize hkT18 _ = T9); (generalize pj0 T9 = w, pj1 T9 = loose, pj2 T9 = mean, pj3 T9 = mg, s4 T9 = U9); (clear T9); (generalize pj0 U9 = mb, pj1 U9 = dp, pj2 U9 = un, pj3 U9 = gd, s4 U9 = T9); (clear U9); (generalize pj0 T9 = outer, pj1 T9 = base, pj2 T9 = g, pj3 T9 = s, s4 T9 = U9); (clear T9); (generalize pj0 U9 = R, pj1 U9 = l, pj2 U9 = vs, pj3 U9 = ns, s4 U9 = T9); (clear U9); (generalize pj0 T9 = x, lj1 T9 = t); (clear T9); intro B X T hkg hsz hdp hun hled hl hi hlen hs hx hret)
 have hvl := hi.length
 (k_with "exec While Compare cons nil" => k_while (fun _ lo hi => 0 ≤ lo ∧ lo ≤ hi ∧ hi ≤ (ns.length : Int) ∧ BL ns x lo hi) (fun _ lo hi => (hi - lo).toNat) "lo" "hi")
 (k_with "state" => first | exact ⟨by omega, by omega, by omega, BL.start⟩ | exact BL.turnD hs (by assumption) (by assumption) (by assumption) (by assumption) (by assumption) | exact BL.turnU hs (by assumption) (by assumption) (by assumption) (by assumption) (by assumption))
 (k_with "measure" => first | exact measD (by assumption) (by assumption) | exact measU (by assumption) (by assumption))
 k_dflt (refine' enterG (led := []) hkg hsz ?kl ?k3 ?k5 ?k6 ?k7 ?k8 ?k9 ?kB ?_ ?c2 ?c3 ?c4 ?c5; (case kl => exact hled); (case k3 => k_asm); (case k5 => k_asm); (case k6 => k_is); (case k7 => k_is); (case k8 => ktr_room); (case k9 => first | exact BindsTo.of_eq rfl | exact kp_binds (X.keeps hkg) (fun _ => rfl)); (case c5 => decide); (case kB => exact locs rfl); (case c2 => exact rfl); (case c3 => exact rfl); (case c4 => exact rfl); k_whole; ((refine hk2 (h := ?_)); (generalize hkT2 _ = T9); (generalize pj0 T9 = L', lj1 T9 = h'); (clear T9); intro F' N' l1); (try k_lt l1); (try dsimp only); (try k_fold); (have hkm := HkMark.mk))
 w_strict k_steps
 all_goals first | exact bis_end hret (by assumption) (by assumption) (by assumption) (by assumption) (by assumption) (by assumption) (by assumption) | w_report
end Mine
end
section
namespace Mine
theorem bisr4_w : ∀ (w : World) (loose : List Str) (mean : ExcName → Option Value) (mg mb : Str → Option Value) (dp un : Nat) (gd : Option (List Code)) (outer : List Env) (base g : Heap) (s : Shared) (R : Result → Shared → Prop) (l : Addr) (vs : List Value) (ns : List Int) (x : Int) (t : Tok) (t2 : Tok)
  (B : Below (arX dp un gd outer) base outer g) (X : (hd.heap_1 w.params).In g) (T : Top topProg loose mean mg mb g) (hkg : ∀ b o, g.get? b = some o → s.heap.get? b = some o) (hsz : g.objs.size ≤ s.heap.objs.size) (hdp : dp + 120 < recursionLimit) (hun : un + 800 < cLine) (hled : ∀ p ∈ ([] : List (Addr × Obj)), s.heap.get? p.1 = some p.2 ∧ g.get? p.1 = none) (hl : g.IsList l vs.toArray) (hi : IntsAre vs ns) (hlen : ns.length ≤ 1000) (hs : ns.Pairwise (· < ·)) (hx : 0 ≤ x ∧ x ≤ 1000)
  (hret : RetG R s g (fun v led' => ∃ k t', v = .int k t' ∧ led' = [] ∧ 0 ≤ k ∧ k ≤ (ns.length : Int) ∧ BR ns x k k)),
  codeAny (model PySem.Challenge.rw_sn0104_01.row.toRowW.prog w) (arX dp un gd outer) (.call (.ref 98) ⟨[.ref l, .int x t, .int 0 t2, .none], []⟩) R s := by
 k_with_none
 w_top off
 k_fill
 ((refine hk19 (h := ?_)); (generalize hkT19 _ = T9); (generalize pj0 T9 = w, pj1 T9 = loose, pj2 T9 = mean, pj3 T9 = mg, s4 T9 = U9); (clear T9); (generalize pj0 U9 = mb, pj1 U9 = dp, pj2 U9 = un, pj3 U9 = gd, s4 U9 = T9); (clear U9); (generalize pj0 T9 = outer, pj1 T9 = base, pj2 T9 = g, pj3 T9 = s, s4 T9 = U9); (clear T9); (generalize pj0 U9 = R, pj1 U9 = l, pj2 U9 = vs, pj3 U9 = ns, s4 U9 = T9); (clear U9); (generalize pj0 T9 = x, pj1 T9 = t, lj2 T9 = t2); (clear T9); intro B X T hkg hsz hdp hun hled hl hi hlen hs hx hret)
 have hvl := hi.length
 (k_with "exec While Compare cons nil" => k_while (fun _ lo hi => 0 ≤ lo ∧ lo ≤ hi ∧ hi ≤ (ns.length : Int) ∧ BR ns x lo hi) (fun _ lo hi => (hi - lo).toNat) "lo" "hi")
 (k_with "state" => first | exact ⟨by omega, by omega, by omega, BR.start⟩ | exact BR.turnD hs (by assumption) (by assumption) (by assumption) (by assumption) (by assumption) | exact BR.turnU hs (by assumption) (by assumption) (by assumption) (by assumption) (by assumption))
 (k_with "measure" => first | exact measD (by assumption) (by assumption) | exact measU (by assumption) (by assumption))
 k_dflt (refine' enterG (led := []) hkg hsz ?kl ?k3 ?k5 ?k6 ?k7 ?k8 ?k9 ?kB ?_ ?c2 ?c3 ?c4 ?c5; (case kl => exact hled); (case k3 => k_asm); (case k5 => k_asm); (case k6 => k_is); (case k7 => k_is); (case k8 => ktr_room); (case k9 => first | exact BindsTo.of_eq rfl | exact kp_binds (X.keeps hkg) (fun _ => rfl)); (case c5 => decide); (case kB => exact locs rfl); (case c2 => exact rfl); (case c3 => exact rfl); (case c4 => exact rfl); k_whole; ((refine hk2 (h := ?_)); (generalize hkT2 _ = T9); (generalize pj0 T9 = L', lj1 T9 = h'); (clear T9); intro F' N' l1); (try k_lt l1); (try dsimp only); (try k_fold); (have hkm := HkMark.mk))
 w_strict k_steps
 all_goals first | exact bis_end hret (by assumption) (by assumption) (by assumption) (by assumption) (by assumption) (by assumption) (by assumption) | w_report
end Mine
end
section
namespace Mine
abbrev BisQ (P : List Int → Int → Int → Int → Prop) (ns : List Int) (x : Int) (v : Value) (led' : List (Addr × Obj)) : Prop := ∃ k t', v = .int k t' ∧ led' = [] ∧ 0 ≤ k ∧ k ≤ (ns.length : Int) ∧ P ns x k k
theorem isList_of_row {g : Heap} {l : Addr} {its : Array Value} {n : Nat} {rest : List (Addr × Obj)} (h : (l, listOf its n) ∈ rest) (hr : ∀ p ∈ rest, g.get? p.1 = some p.2) : g.IsList l its := ⟨_, hr _ h, rfl, n, rfl⟩
theorem bisr_c (w : World) (dp un : Nat) (gd : Option (List Code)) (s : Shared) (l : Addr) (vs : List Value) (ns : List Int) (x : Int) (t : Tok)
  (hdp : dp + 120 < recursionLimit) (hun : un + 800 < cLine) (hi : IntsAre vs ns) (hlen : ns.length ≤ 1000) (hs : ns.Pairwise (· < ·)) (hx : 0 ≤ x ∧ x ≤ 1000) :
  Ctr w dp un gd s 98 ⟨[.ref l, .int x t], []⟩ [] (fun g => g.IsList l vs.toArray) (BisQ BR ns x) := by
 intro loose mean mg mb outer base g R B X T hkg hsz hled ho hret
 exact bisr_w w loose mean mg mb dp un gd outer base g s R l vs ns x t B X T hkg hsz hdp hun hled ho hi hlen hs hx hret
theorem bisl_c (w : World) (dp un : Nat) (gd : Option (List Code)) (s : Shared) (l : Addr) (vs : List Value) (ns : List Int) (x : Int) (t : Tok)
  (hdp : dp + 120 < recursionLimit) (hun : un + 800 < cLine) (hi : IntsAre vs ns) (hlen : ns.length ≤ 1000) (hs : ns.Pairwise (· < ·)) (hx : 0 ≤ x ∧ x ≤ 1000) :
  Ctr w dp un gd s 107 ⟨[.ref l, .int x t], []⟩ [] (fun g => g.IsList l vs.toArray) (BisQ BL ns x) := by
 intro loose mean mg mb outer base g R B X T hkg hsz hled ho hret
 exact bisl_w w loose mean mg mb dp un gd outer base g s R l vs ns x t B X T hkg hsz hdp hun hled ho hi hlen hs hx hret
theorem bisr4_c (w : World) (dp un : Nat) (gd : Option (List Code)) (s : Shared) (l : Addr) (vs : List Value) (ns : List Int) (x : Int) (t t2 : Tok)
  (hdp : dp + 120 < recursionLimit) (hun : un + 800 < cLine) (hi : IntsAre vs ns) (hlen : ns.length ≤ 1000) (hs : ns.Pairwise (· < ·)) (hx : 0 ≤ x ∧ x ≤ 1000) :
  Ctr w dp un gd s 98 ⟨[.ref l, .int x t, .int 0 t2, .none], []⟩ [] (fun g => g.IsList l vs.toArray) (BisQ BR ns x) := by
 intro loose mean mg mb outer base g R B X T hkg hsz hled ho hret
 exact bisr4_w w loose mean mg mb dp un gd outer base g s R l vs ns x t t2 B X T hkg hsz hdp hun hled ho hi hlen hs hx hret
def ins : List Int → Int → List Int
 | [], x => [x]
 | a :: r, x => if x < a then x :: a :: r else if x = a then a :: r else a :: ins r x
theorem ins_len : ∀ (ns : List Int) (x : Int), (ins ns x).length ≤ ns.length + 1
 | [], _ => Nat.le_refl _
 | a :: r, x => by
  have := ins_len r x
  simp only [ins]; split
  ·simp
  ·split <;> simp [this] <;> kaf_pre
theorem ins_mem : ∀ {ns : List Int} {x y : Int}, y ∈ ins ns x ↔ y = x ∨ y ∈ ns
 | [], x, y => by simp [ins]
 | a :: r, x, y => by
  have ih := @ins_mem r x y
  simp only [ins]; split
  ·simp
  ·split
   ·next h => subst h; simp
   ·simp only [List.mem_cons, ih]
    constructor
    ·rintro (h | h | h) <;> simp [h]
    ·rintro (h | h | h) <;> simp [h]
theorem ins_sorted : ∀ {ns : List Int} {x : Int}, ns.Pairwise (· < ·) → (ins ns x).Pairwise (· < ·)
 | [], x, _ => by simp [ins]
 | a :: r, x, h => by
  have h1 := List.pairwise_cons.mp h
  simp only [ins]; split
  ·next hx => exact List.pairwise_cons.mpr ⟨fun b hb => by
    rcases List.mem_cons.mp hb with rfl | hb
    ·exact hx
    ·have := h1.1 b hb; kaf_pre, h⟩
  ·split
   ·exact h
   ·exact List.pairwise_cons.mpr ⟨fun b hb => by
     rcases ins_mem.mp hb with rfl | hb
     ·kaf_pre
     ·exact h1.1 b hb, ins_sorted h1.2⟩
theorem ins_at : ∀ {ns : List Int} {x : Int} {k : Nat}, (∀ i : Nat, i < k → i < ns.length → ns.getD i 0 < x) → (∀ i : Nat, k ≤ i → i < ns.length → x < ns.getD i 0) → k ≤ ns.length → ns.take k ++ x :: ns.drop k = ins ns x
 | [], x, k, _, _, hk => by
  have : k = 0 := by simpa using hk
  subst this; rfl
 | a :: r, x, 0, _, h2, _ => by
  have := h2 0 (Nat.le_refl _) (by simp)
  simp only [List.getD_cons_zero] at this
  simp [ins, this]
 | a :: r, x, k + 1, h1, h2, hk => by
  have h := h1 0 (by kaf_pre) (by simp)
  simp only [List.getD_cons_zero] at h
  have ih := @ins_at r x k (fun i hi hl => by simpa using h1 (i + 1) (by kaf_pre) (by simpa using hl)) (fun i hi hl => by simpa using h2 (i + 1) (by kaf_pre) (by simpa using hl)) (by simpa using hk)
  have e1 : ¬ x < a := by kaf_pre
  have e2 : ¬ x = a := by kaf_pre
  simp [ins, e1, e2, ih]
theorem ins_no : ∀ {ns : List Int} {x : Int}, ns.Pairwise (· < ·) → x ∈ ns → ins ns x = ns
 | a :: r, x, hs, h => by
  have h1 := List.pairwise_cons.mp hs
  simp only [ins]
  rcases List.mem_cons.mp h with rfl | h
  ·simp
  ·have := h1.1 x h
   have e1 : ¬ x < a := by kaf_pre
   have e2 : ¬ x = a := by kaf_pre
   simp [e1, e2, ins_no h1.2 h]
theorem ins_ne {ns : List Int} {x k j : Int} (hs : ns.Pairwise (· < ·)) (h0 : 0 ≤ k) (hj0 : 0 ≤ j) (hj : j ≤ ns.length) (hk : k ≤ ns.length) (h1 : BL ns x k k) (h2 : BR ns x j j) (hne : k ≠ j) : ins ns x = ns := by
 obtain ⟨k, rfl⟩ := Int.eq_ofNat_of_zero_le h0
 obtain ⟨j, rfl⟩ := Int.eq_ofNat_of_zero_le hj0
 refine ins_no hs ?_
 rcases Int.lt_or_gt_of_ne hne with h | h
 ·have hl : k < ns.length := Int.ofNat_lt.mp (Int.lt_of_lt_of_le h hj)
  have a := h1.2 k (Int.le_refl _) hl
  have b := h2.1 k h hl
  have e : ns.getD k 0 = ns[k] := by simp [List.getD, hl]
  have : x = ns[k] := e ▸ Int.le_antisymm a b
  rw [this]; exact List.getElem_mem _
 ·have hl : j < ns.length := Int.ofNat_lt.mp (Int.lt_of_lt_of_le h hk)
  exact absurd (h1.1 j h hl) (Int.not_lt.mpr (Int.le_of_lt (h2.2 j (Int.le_refl _) hl)))
theorem ints_take_drop {vs : List Value} {ns : List Int} (h : IntsAre vs ns) (k : Nat) : IntsAre (vs.take k) (ns.take k) ∧ IntsAre (vs.drop k) (ns.drop k) := by
 induction h generalizing k with
 | nil => simp; exact .nil
 | cons a t h ih =>
  cases k with
  | zero => exact ⟨.nil, .cons a t h⟩
  | succ k => exact ⟨.cons a t (ih k).1, (ih k).2⟩
theorem ints_ins {vs : List Value} {ns : List Int} {x k : Int} {t : Tok} (h : IntsAre vs ns) (h0 : 0 ≤ k) (hk : k ≤ ns.length) : IntsAre (kl_ins vs k (.int x t)) (ns.take k.toNat ++ x :: ns.drop k.toNat) := by
 have hl := h.length
 unfold kl_ins
 have e1 : ¬ k < 0 := Int.not_lt.mpr h0
 have e2 : min k.toNat vs.length = k.toNat := Nat.min_eq_left (by rw [hl]; exact Int.toNat_le.mpr hk)
 simp only [e1, if_false, e2]
 exact IntsAre.append (ints_take_drop h _).1 (.cons _ _ (ints_take_drop h _).2)
theorem room_len {vs : List Value} {ns : List Int} (h : IntsAre vs ns) (hl : ns.length ≤ 1000) : vs.toArray.toList.length ≤ sizeLine := by
 have := h.length
 show vs.length ≤ sizeLine
 rw [PySem.sizeLine_eq]; kaf_pre
theorem fits_small {k : Int} (h0 : 0 ≤ k) (h1 : k ≤ 2000) : Builtin.List.listFitsIndex k = true := by
 unfold Builtin.List.listFitsIndex
 simp
 kaf_pre
end Mine
end
section
namespace Mine
theorem insort_w : ∀ (w : World) (loose : List Str) (mean : ExcName → Option Value) (mg mb : Str → Option Value) (dp un : Nat) (gd : Option (List Code)) (outer : List Env) (base g : Heap) (s : Shared) (R : Result → Shared → Prop) (l : Addr) (vs : List Value) (ns : List Int) (x : Int) (t : Tok) (n : Nat)
  (B : Below (arX dp un gd outer) base outer g) (X : (hd.heap_1 w.params).In g) (T : Top topProg loose mean mg mb g) (hkg : ∀ b o, g.get? b = some o → s.heap.get? b = some o) (hsz : g.objs.size ≤ s.heap.objs.size) (hdp : dp + 180 < recursionLimit) (hun : un + 1200 < cLine) (hled : ∀ p ∈ ([(l, listOf vs.toArray n)] : List (Addr × Obj)), s.heap.get? p.1 = some p.2 ∧ g.get? p.1 = none) (hi : IntsAre vs ns) (hlen : ns.length ≤ 1000) (hs : ns.Pairwise (· < ·)) (hx : 0 ≤ x ∧ x ≤ 1000)
  (hret : RetG R s g (fun v led' => ∃ k vs', v = .none ∧ led' = [(l, listOf vs'.toArray (n + 1))] ∧ 0 ≤ k ∧ k ≤ (ns.length : Int) ∧ BR ns x k k ∧ IntsAre vs' (ns.take k.toNat ++ x :: ns.drop k.toNat))),
  codeAny (model PySem.Challenge.rw_sn0104_01.row.toRowW.prog w) (arX dp un gd outer) (.call (.ref 89) ⟨[.ref l, .int x t], []⟩) R s := by
 k_with_none
 k_with "call ref" => ((k_here; k_dflt (refine' use_c ?zqB ?zqF ?zqX ?zqN ?zqT ?zqhA ?zqhf ?zqhke (bisr4_c _ _ _ _ _ _ _ _ _ _ _ ?zqp0 ?zqp1 ?zqp2 ?zqp3 ?zqp4 ?zqp5) ?zqhled ?zqhrem ?zqhold ?_); (case zqhA => walk_at "hA"); (case zqhf => walk_at "hf"); (case zqhke => walk_at "hke"); (case zqB => walk_at "ka"); (case zqF => walk_at "ka"); (case zqX => walk_at "ka"); (case zqN => walk_at "ka"); (case zqT => walk_at "ka"); (case zqp0 => (k_dflt ((first | omega | ((try dsimp only); omega) | ktr_room)))); (case zqp1 => (k_dflt ((first | omega | ((try dsimp only); omega) | ktr_units)))); (case zqp2 => (k_dflt ((kbo_bools)))); (case zqp3 => (k_dflt ((kbo_bools)))); (case zqp4 => (k_dflt ((kbo_bools)))); (case zqp5 => (k_dflt ((kbo_bools)))); (case zqhled => (k_dflt (k_allIn))); (case zqhrem => (k_dflt ((first | exact Rem.refl | kat_tups)))); (case zqhold => (k_dflt (exact fun g9 _ hr9 => isList_of_row (by k_mem) hr9))); k_whole; intro v9 h' tk' led' F' N' hne9 hP9; obtain ⟨k9, t9, hv9, hl9, hk0, hk1, hkR⟩ := hP9; subst hv9 hl9; walk_at "u9"))
 k_with "call builtin:list.insert" => (k_here; k_dflt (refine' kl_insert ?zqF ?zqN ?zqf rfl ?zqU ?zqz ?_; (case zqF => k_asm); (case zqN => k_asm); (case zqU => k_upd); (case zqf => exact fits_small (by assumption) (by omega)); (case zqz => exact room_len (by assumption) (by assumption))); kl_rest)
 w_top off
 k_fill
 ((refine hk19 (h := ?_)); (generalize hkT19 _ = T9); (generalize pj0 T9 = w, pj1 T9 = loose, pj2 T9 = mean, pj3 T9 = mg, s4 T9 = U9); (clear T9); (generalize pj0 U9 = mb, pj1 U9 = dp, pj2 U9 = un, pj3 U9 = gd, s4 U9 = T9); (clear U9); (generalize pj0 T9 = outer, pj1 T9 = base, pj2 T9 = g, pj3 T9 = s, s4 T9 = U9); (clear T9); (generalize pj0 U9 = R, pj1 U9 = l, pj2 U9 = vs, pj3 U9 = ns, s4 U9 = T9); (clear U9); (generalize pj0 T9 = x, pj1 T9 = t, lj2 T9 = n); (clear T9); intro B X T hkg hsz hdp hun hled hi hlen hs hx hret)
 have hvl := hi.length
 k_dflt (refine' enterG (led := [(l, listOf vs.toArray n)]) hkg hsz ?kl ?k3 ?k5 ?k6 ?k7 ?k8 ?k9 ?kB ?_ ?c2 ?c3 ?c4 ?c5; (case kl => exact hled); (case k3 => k_asm); (case k5 => k_asm); (case k6 => k_is); (case k7 => k_is); (case k8 => ktr_room); (case k9 => first | exact BindsTo.of_eq rfl | exact kp_binds (X.keeps hkg) (fun _ => rfl)); (case c5 => decide); (case kB => exact locs rfl); (case c2 => exact rfl); (case c3 => exact rfl); (case c4 => exact rfl); k_whole; ((refine hk2 (h := ?_)); (generalize hkT2 _ = T9); (generalize pj0 T9 = L', lj1 T9 = h'); (clear T9); intro F' N' l1); (try k_lt l1); (try dsimp only); (try k_fold); (have hkm := HkMark.mk))
 w_strict k_steps
 all_goals first | exact ret_end hret (by assumption) (by assumption) (fun p hp => by rw [List.mem_singleton.mp hp]; k_mem) ⟨_, _, rfl, rfl, by assumption, by assumption, by assumption, ints_ins hi (by assumption) (by assumption)⟩ | w_report
end Mine
end
section
open PyProof.V
namespace Mine
def KfNames (ps : List (Str × Value)) (stored : List Str) (m₀ m' : Str → Option Value) : Prop := (∀ p ∈ ps, m' p.1 = some p.2) ∧ ∀ z, (∀ p ∈ ps, z ≠ p.1) → stored.contains z = false → m' z = m₀ z
def KfEnd {σ : Type} (h₀ : Heap) (L I : Addr) (oI : Obj) (s₁ : Shared) (Led : σ → List (Addr × Obj)) (ps : σ → List (Str × Value)) (stored : List Str) (m₀ : Str → Option Value) (P : σ → Prop) (s₂ : Shared) : Prop :=
 ∃ (c' : σ) (h' : Heap) (tk : Nat) (m' : Str → Option Value), s₂ = { s₁ with heap := h', toks := tk } ∧ Fr h₀ L h' m' ∧ News h₀ L h' ((I, oI) :: Led c') ∧ AllNe I (Led c') ∧ KfNames (ps c') stored m₀ m' ∧ P c'
def KfPost {σ : Type} (h₀ : Heap) (L I : Addr) (oI : Obj) (s₁ : Shared) (Led : σ → List (Addr × Obj)) (ps : σ → List (Str × Value)) (stored : List Str) (m₀ : Str → Option Value) (P : σ → Prop) (Q : Flow → Shared → Prop) (f : Flow) (s₂ : Shared) : Prop :=
 match f with
 | .ret v => Q (.ret v) s₂
 | .brk => Q .next s₂
 | _ => KfEnd h₀ L I oI s₁ Led ps stored m₀ P s₂
theorem KfEnd.intro {σ : Type} {h₀ h' : Heap} {L I : Addr} {oI : Obj} {s₁ : Shared} {Led : σ → List (Addr × Obj)} {ps : σ → List (Str × Value)} {stored : List Str} {m₀ m' : Str → Option Value} {P : σ → Prop} {tk : Nat} {all : List (Addr × Obj)} (c' : σ)
  (F : Fr h₀ L h' m') (N : News h₀ L h' all) (hI : (I, oI) ∈ all) (hn : ∀ p ∈ Led c', p ∈ all) (ha : AllNe I (Led c')) (h1 : ∀ p ∈ ps c', m' p.1 = some p.2) (h2 : ∀ z, (∀ p ∈ ps c', z ≠ p.1) → stored.contains z = false → m' z = m₀ z) (hP : P c') :
  KfEnd h₀ L I oI s₁ Led ps stored m₀ P { s₁ with heap := h', toks := tk } :=
 ⟨c', h', tk, m', rfl, F, fun p hp => by
  rcases List.mem_cons.mp hp with rfl | hp
  ·exact N _ hI
  ·exact N p (hn p hp), ha, ⟨h1, h2⟩, hP⟩
theorem kf_fr {h₀ h : Heap} {L : Addr} {ps : List (Str × Value)} {stored : List Str} {m₀ m₁ : Str → Option Value} (hn : KfNames ps stored m₀ m₁) (F : Fr h₀ L h m₁) : Fr h₀ L h (kstB (fun z => if stored.contains z then m₁ z else m₀ z) ps) := ksw_fr hn.1 hn.2 F
section
variable {prog : Program} {w : World} {A : Around} {E : Value → Shared → Prop} {Q : Flow → Shared → Prop} {s : Shared} {env : Env} {h₀ : Heap}
theorem for_core {σ : Type} {target : Expr} {body : List Stmt} {m₀ : Str → Option Value} {o : Obj} {fp : List Addr} {n : Nat} {Pt : Nat → Value → Prop} {St : Nat → Heap → Prop} (Led : σ → List (Addr × Obj)) (ps : σ → List (Str × Value)) (stored : List Str) (P : Nat → σ → Prop) (c₀ : σ)
  (F : Fr h₀ env.locals s.heap m₀) {news : List (Addr × Obj)} (N : News h₀ env.locals s.heap news) (W : Walks prog w A s.heap.objs.size fp [s.heap.objs.size] n Pt St)
  (hgo : ∀ (i : Nat) (v : Value) (s₂ : Shared) (Q : Unit → Shared → Prop) (E : Value → Shared → Prop), St i s₂.heap → Q () s₂ → wpAny (model prog w) A (letOwnedTupleGo target (.ref s.heap.objs.size) v) Q E s₂)
  (hfp : ∀ b ∈ fp, b = s.heap.objs.size ∨ (∃ o, h₀.get? b = some o) ∨ ∃ lo, ∀ c, (b, lo) ∈ Led c)
  (hst : St 0 (s.heap.push o)) (hob : ∀ i h, St i h → ∃ oI, h.get? s.heap.objs.size = some oI)
  (hn : ∀ p ∈ Led c₀, p ∈ news) (hk : ∀ p ∈ ps c₀, m₀ p.1 = some p.2) (hP : P 0 c₀)
  (turn : ∀ (i : Nat) (v : Value) (c : σ) (u : Str → Option Value) (I : Addr) (oI : Obj) (h : Heap) (tk : Nat), i < n → Pt i v → (∀ p ∈ news, p.1 < I) → P i c → Fr h₀ env.locals h (kstB (fun z => if stored.contains z then u z else m₀ z) (ps c)) → News h₀ env.locals h ((I, oI) :: Led c) → AllNe I (Led c) →
   wpAny (model prog w) A (assign target env v) (fun _ s₂ => wpAny (model prog w) A (execs body env) (KfPost h₀ env.locals I oI { s with heap := h, toks := tk } Led ps stored m₀ (P (i + 1)) Q) E s₂) E { s with heap := h, toks := tk })
  (done : ∀ (c : σ) (u : Str → Option Value) (h : Heap) (tk : Nat), P n c → Fr h₀ env.locals h (kstB (fun z => if stored.contains z then u z else m₀ z) (ps c)) → News h₀ env.locals h (Led c) → Q .next { s with heap := h, toks := tk }) :
  TurnsAt prog w A h₀ env target body Q E (.ref s.heap.objs.size) { s with heap := s.heap.push o } := by
 have N' : News h₀ env.locals s.heap (Led c₀) := fun p hp => N p (hn p hp)
 have hI₀ : h₀.get? s.heap.objs.size = none := next_is_new F
 have hIL : s.heap.objs.size ≠ env.locals := fun e => absurd F.ns.lt (by rw [← e]; exact Nat.lt_irrefl _)
 have nI : ∀ p ∈ Led c₀, p.1 ≠ s.heap.objs.size := fun p hp e => absurd (Heap.lt_size (N' p hp).1) (e ▸ Nat.lt_irrefl _)
 refine ⟨s.heap.objs.size, _, _, _, _, _, _, m₀, Led c₀, fun i m nx => ∃ c, nx = Led c ∧ P i c ∧ KfNames (ps c) stored m₀ m, rfl, KTurns.ofWalks (target := target) W hgo, ?_, ?_, ?_, hst, F.push _, ?_, ⟨c₀, rfl, hP, hk, fun _ _ _ => rfl⟩, ?_, ?_⟩
 ·intro hm
  rcases hfp _ hm with e | ⟨o, ho⟩ | ⟨lo, hlo⟩
  ·exact hIL e.symm
  ·have := Heap.get?_none_of_le F.above
   rw [ho] at this; cases this
  ·exact (N' _ (hlo c₀)).2.1 rfl
 ·intro b hb
  rw [List.mem_singleton.mp hb]
  exact hI₀
 ·exact fun p hp hI => nI p hp (List.mem_singleton.mp hI)
 ·exact fun p hp => ⟨Heap.get?_push_of_some _ (N' p hp).1, (N' p hp).2⟩
 ·rintro i v m₁ news₁ h₁ tk₁ own hin hPi ⟨c, rfl, hPc, hnm⟩ hoff hown hget hall hst₁ F₁ N₁
  obtain ⟨oI, hoI⟩ := hob _ _ hst₁
  have N₂ : News h₀ env.locals h₁ ((s.heap.objs.size, oI) :: Led c) :=
   List.forall_mem_cons.mpr ⟨⟨hoI, hIL, hI₀⟩, fun p hp => N₁ _ (List.mem_append_right _ hp)⟩
  have ownIn : ∀ p ∈ own, p = (s.heap.objs.size, oI) ∨ ∀ c', p ∈ Led c' := fun p hp => by
   have h1 := N₁ p (List.mem_append_left _ hp)
   rcases hfp _ (hown p hp) with e | ⟨o, ho⟩ | ⟨lo, hlo⟩
   ·left
    have := h1.1
    rw [e, hoI] at this
    exact Prod.ext e (Option.some.inj this).symm
   ·rw [h1.2.2] at ho; cases ho
   ·right
    have h3 := (N₁ _ (List.mem_append_right _ (hlo c))).1
    have e : p = (p.1, lo) := Prod.ext rfl (Option.some.inj (h1.1.symm.trans h3))
    exact fun c' => e ▸ hlo c'
  refine wpAny_mono (turn i v c m₁ s.heap.objs.size oI h₁ tk₁ hin hPi (fun p hp => Heap.lt_size (N p hp).1) hPc (kf_fr hnm F₁) N₂ (AllNe.of fun p hp e => hoff p hp (by rw [e]; exact List.mem_singleton.mpr rfl))) (fun _ s₂ h₂ => ?_) fun _ _ e => e
  have fin : ∀ s₃, KfEnd h₀ env.locals s.heap.objs.size oI { s with heap := h₁, toks := tk₁ } Led ps stored m₀ (P (i + 1)) s₃ → LoopStepU h₀ env.locals [s.heap.objs.size] own (fun m nx => ∃ c, nx = Led c ∧ P (i + 1) c ∧ KfNames (ps c) stored m₀ m) { s with heap := h₁, toks := tk₁ } .next s₃ := by
   rintro s₃ ⟨c', h', tk', m', rfl, F', N', ha', hnm', hP'⟩
   refine LoopStepU.intro F' (fun p hp => ?_) (fun p hp hI => ha'.mem p hp (List.mem_singleton.mp hI)) ⟨c', rfl, hP', hnm'⟩
   rcases List.mem_append.mp hp with hp | hp
   ·rcases ownIn p hp with e | e
    ·exact N' _ (e ▸ List.mem_cons_self ..)
    ·exact N' _ (List.mem_cons_of_mem _ (e c'))
   ·exact N' p (List.mem_cons_of_mem _ hp)
  refine wpAny_mono h₂ (fun f s₃ h₃ => ?_) fun _ _ e => e
  cases f with
  | ret v => exact h₃
  | brk => exact h₃
  | cont => exact fin _ h₃
  | next => exact fin _ h₃
 ·rintro h' tk m' news' F' N'' hoff ⟨c, rfl, hPc, hnm⟩
  exact done c m' h' tk hPc (kf_fr hnm F') N''
theorem for_fold {σ : Type} {target : Expr} {body : List Stmt} {l : Addr} {vs : List Value} {m₀ : Str → Option Value} (Led : σ → List (Addr × Obj)) (ps : σ → List (Str × Value)) (stored : List Str) (P : Nat → σ → Prop) (c₀ : σ)
  (hh : A.handled = none) (F : Fr h₀ env.locals s.heap m₀) {news : List (Addr × Obj)} (N : News h₀ env.locals s.heap news) (hl : s.heap.IsList l vs.toArray) (src : (∃ o, h₀.get? l = some o) ∨ ∃ lo, ∀ c, (l, lo) ∈ Led c)
  (hn : ∀ p ∈ Led c₀, p ∈ news) (hk : ∀ p ∈ ps c₀, m₀ p.1 = some p.2) (hP : P 0 c₀)
  (turn : ∀ (i : Nat) (v : Value) (c : σ) (u : Str → Option Value) (I : Addr) (oI : Obj) (h : Heap) (tk : Nat), (∀ p ∈ news, p.1 < I) → vs[i]? = some v → P i c → Fr h₀ env.locals h (kstB (fun z => if stored.contains z then u z else m₀ z) (ps c)) → News h₀ env.locals h ((I, oI) :: Led c) → AllNe I (Led c) →
   wpAny (model prog w) A (assign target env v) (fun _ s₂ => wpAny (model prog w) A (execs body env) (KfPost h₀ env.locals I oI { s with heap := h, toks := tk } Led ps stored m₀ (P (i + 1)) Q) E s₂) E { s with heap := h, toks := tk })
  (done : ∀ (c : σ) (u : Str → Option Value) (h : Heap) (tk : Nat), P vs.length c → Fr h₀ env.locals h (kstB (fun z => if stored.contains z then u z else m₀ z) (ps c)) → News h₀ env.locals h (Led c) → Q .next { s with heap := h, toks := tk }) :
  wpAny (model prog w) A (pyIter (.ref l)) (fun it s₂ => TurnsAt prog w A h₀ env target body Q E it s₂) E s := by
 have hlt : l ≠ s.heap.objs.size := Nat.ne_of_lt (let ⟨_, e, _⟩ := hl; Heap.lt_size e)
 refine wpAny_pyIter_list hl ?_
 refine for_core Led ps stored P c₀ F N (Walks.list (prog := prog) (w := w) hh s.heap.objs.size l hlt vs.toArray) (fun i v s Q E st q => letGo_listiter st.1 q)
  (fun b hb => (List.mem_cons.mp hb).imp id fun e => by rw [List.mem_singleton.mp e]; exact src) ⟨⟨_, Heap.get?_push_size _ rfl, rfl, rfl⟩, hl.at fun o e => Heap.get?_push_of_some _ e⟩ (fun i h st => let ⟨o, e, _⟩ := st.1; ⟨o, e⟩) hn hk hP
  (fun i v c u I oI h tk _ hv hi => turn i v c u I oI h tk hi (by have hp' : vs.toArray[i]? = some v := hv; rwa [List.getElem?_toArray] at hp')) fun c u h tk p => done c u h tk (by rwa [List.size_toArray] at p)
end
end Mine
end
section
namespace Mine
abbrev IntQ (x : Int) (v : Value) (led' : List (Addr × Obj)) : Prop := ∃ t', v = .int x t' ∧ led' = []
theorem over_c (w : World) (dp un : Nat) (gd : Option (List Code)) (s : Shared) (l : Addr) (vs : List Value) (ns : List Int) (h : Int) (t : Tok)
  (hdp : dp + 60 < recursionLimit) (hun : un + 400 < cLine) (hi : IntsAre vs ns) (hlen : ns.length ≤ 1000) (h0 : 0 ≤ h) :
  Ctr w dp un gd s 348 ⟨[.ref l, .int h t], []⟩ [] (fun g => g.IsList l vs.toArray) (IntQ (over ns h)) := by
 intro loose mean mg mb outer base g R B X T hkg hsz hled ho hret
 exact over_g w loose mean mg mb dp un gd outer base g s R l vs ns h t B X T hkg hsz hdp hun hled ho hi hlen h0 hret
abbrev InsQ (l : Addr) (n : Nat) (x : Int) (ns : List Int) (v : Value) (led' : List (Addr × Obj)) : Prop :=
 ∃ vs', v = .none ∧ led' = [(l, listOf vs'.toArray (n + 1))] ∧ IntsAre vs' (ins ns x)
theorem insort_c (w : World) (dp un : Nat) (gd : Option (List Code)) (s : Shared) (l : Addr) (vs : List Value) (ns : List Int) (x k k2 : Int) (t : Tok) (n : Nat)
  (hdp : dp + 180 < recursionLimit) (hun : un + 1200 < cLine) (hi : IntsAre vs ns) (hlen : ns.length ≤ 1000) (hs : ns.Pairwise (· < ·)) (hx : 0 ≤ x ∧ x ≤ 1000)
  (hbl : BL ns x k k) (hbr2 : BR ns x k2 k2) (hkk : k = k2) (_h0 : 0 ≤ k) (_hk : k ≤ ns.length) :
  Ctr w dp un gd s 89 ⟨[.ref l, .int x t], []⟩ [(l, listOf vs.toArray n)] (fun _ => True) (InsQ l n x ns) := by
 subst hkk
 have hbr := hbr2
 intro loose mean mg mb outer base g R B X T hkg hsz hled ho hret
 refine insort_w w loose mean mg mb dp un gd outer base g s R l vs ns x t n B X T hkg hsz hdp hun hled hi hlen hs hx ?_
 rintro v h' tk' led' hk hl ⟨j, vs', h1, h2, h3, h4, h5, h6⟩
 refine hret v h' tk' led' hk hl ⟨vs', h1, h2, ?_⟩
 have e : ns.take j.toNat ++ x :: ns.drop j.toNat = ins ns x := ins_at (fun i hi hl => by
  rcases Int.lt_or_le i k with q | q
  ·exact hbl.1 i q hl
  ·have a := hbr.2 i q hl
   have b := h5.1 i (by kaf_pre) hl
   kaf_pre) (fun i hi hl => h5.2 i (by kaf_pre) hl) (by kaf_pre)
 rw [← e]; exact h6
def rowOf (ws moves : List Int) : List Int := moves.foldl (fun r m => ins r (over ws m)) []
def mexFrom : Int → List Int → Int
 | i, [] => i
 | i, a :: r => if i < a then i else mexFrom (i + 1) r
def mex (row : List Int) : Int := mexFrom 0 row
def worthsOf (games : List (List Int)) : List Int := games.foldl (fun ws g => ws ++ [mex (rowOf ws g)]) []
theorem mexFrom_at : ∀ (row : List Int) (i : Int) (k : Nat), (∀ j : Nat, j < k → j < row.length → row.getD j 0 ≤ i + j) → (∀ j : Nat, k ≤ j → j < row.length → i + j < row.getD j 0) → k ≤ row.length → mexFrom i row = i + k
 | [], i, k, _, _, hk => by
  have : k = 0 := by simpa using hk
  subst this; simp [mexFrom]
 | a :: r, i, 0, _, h2, _ => by
  have := h2 0 (Nat.le_refl _) (by simp)
  simp only [List.getD_cons_zero] at this
  simp [mexFrom]; kaf_pre
 | a :: r, i, k + 1, h1, h2, hk => by
  have h := h1 0 (by kaf_pre) (by simp)
  simp only [List.getD_cons_zero] at h
  have ih := mexFrom_at r (i + 1) k (fun j hj hl => by have := h1 (j + 1) (by kaf_pre) (by simpa using hl); rw [List.getD_cons_succ] at this; kaf_pre) (fun j hj hl => by have := h2 (j + 1) (by kaf_pre) (by simpa using hl); rw [List.getD_cons_succ] at this; kaf_pre) (by simpa using hk)
  have e : ¬ i < a := by simp at h; kaf_pre
  simp only [mexFrom, e, if_false, ih]
  kaf_pre
theorem rowOf_snoc (ws ms : List Int) (m : Int) : rowOf ws (ms ++ [m]) = ins (rowOf ws ms) (over ws m) := by unfold rowOf; rw [List.foldl_append]; rfl
theorem worthsOf_snoc (gs : List (List Int)) (g : List Int) : worthsOf (gs ++ [g]) = worthsOf gs ++ [mex (rowOf (worthsOf gs) g)] := by unfold worthsOf; rw [List.foldl_append]; rfl
theorem rowOf_sorted (ws : List Int) (ms : List Int) : (rowOf ws ms).Pairwise (· < ·) := by
 unfold rowOf
 suffices h : ∀ (ms r : List Int), r.Pairwise (· < ·) → (ms.foldl (fun r m => ins r (over ws m)) r).Pairwise (· < ·) from h ms [] List.Pairwise.nil
 intro ms
 induction ms with
 | nil => exact fun _ h => h
 | cons m ms ih => exact fun r h => ih _ (ins_sorted h)
theorem rowOf_len (ws : List Int) (ms : List Int) : (rowOf ws ms).length ≤ ms.length := by
 unfold rowOf
 suffices h : ∀ (ms r : List Int), (ms.foldl (fun r m => ins r (over ws m)) r).length ≤ r.length + ms.length by simpa using h ms []
 intro ms
 induction ms with
 | nil => exact fun _ => Nat.le_refl _
 | cons m ms ih =>
   intro r
   have h1 := ih (ins r (over ws m))
   have h2 := ins_len r (over ws m)
   simp only [List.foldl_cons, List.length_cons] at h1 ⊢
   kaf_pre
theorem worthsOf_len (gs : List (List Int)) : (worthsOf gs).length = gs.length := by
 unfold worthsOf
 suffices h : ∀ (gs : List (List Int)) (ws : List Int), (gs.foldl (fun ws g => ws ++ [mex (rowOf ws g)]) ws).length = ws.length + gs.length by simpa using h gs []
 intro gs
 induction gs with
 | nil => exact fun _ => rfl
 | cons g gs ih =>
   intro ws
   have h1 := ih (ws ++ [mex (rowOf ws g)])
   simp only [List.foldl_cons, List.length_cons, List.length_append, List.length_nil] at h1 ⊢
   kaf_pre
def GameAt (g : Heap) (v : Value) (ns : List Int) : Prop := ∃ r ms, v = .ref r ∧ g.IsList r ms.toArray ∧ IntsAre ms ns
inductive Games (g : Heap) : List Value → List (List Int) → Prop
 | nil : Games g [] []
 | cons {v ns vs nss} : GameAt g v ns → Games g vs nss → Games g (v :: vs) (ns :: nss)
theorem Games.length {g : Heap} {vs : List Value} {nss : List (List Int)} (h : Games g vs nss) : vs.length = nss.length := by
 induction h with
 | nil => rfl
 | cons _ _ ih => simp [ih]
theorem Games.at {g : Heap} {vs : List Value} {nss : List (List Int)} (h : Games g vs nss) : ∀ (i : Nat) (v : Value), vs[i]? = some v → ∃ ns, nss[i]? = some ns ∧ GameAt g v ns := by
 induction h with
 | nil => intro i v h; simp at h
 | cons h1 _ ih =>
  intro i v h
  cases i with
  | zero =>
   have e := Option.some.inj h
   subst e
   exact ⟨_, rfl, h1⟩
  | succ i => simpa using ih i v (by simpa using h)
theorem take_succ_of {α : Type} {l : List α} {i : Nat} {a : α} (h : l[i]? = some a) : l.take (i + 1) = l.take i ++ [a] := by rw [List.take_add_one, h]; rfl
end Mine
end
section
namespace Mine
theorem allin_nil {all : List (Addr × Obj)} : ∀ q ∈ ([] : List (Addr × Obj)), q ∈ all := fun _ h => nomatch h
theorem allin_cons {all r : List (Addr × Obj)} {p : Addr × Obj} (h : p ∈ all) (t : ∀ q ∈ r, q ∈ all) : ∀ q ∈ p :: r, q ∈ all := List.forall_mem_cons.mpr ⟨h, t⟩
abbrev S1 := List Value × Nat × Obj × Array Value × Addr × Obj
abbrev led1 (lw L1 : Addr) (c : S1) : List (Addr × Obj) := [(lw, listOf c.1.toArray c.2.1), (L1, c.2.2.1), (350, tabObj c.2.2.2.1), (c.2.2.2.2.1, c.2.2.2.2.2)]
abbrev P1 (T : Array Value → Addr → Obj → Prop) (lw L1 : Addr) (games : List (List Int)) (i : Nat) (c : S1) : Prop :=
 IntsAre c.1 (worthsOf (games.take i)) ∧ T c.2.2.2.1 c.2.2.2.2.1 c.2.2.2.2.2 ∧ @Ne Nat c.2.2.2.2.1 lw ∧ @Ne Nat c.2.2.2.2.1 L1 ∧ ∃ cv, c.2.2.1.data = .cell cv
abbrev st1 : List Str := [Str.ofString "moves", Str.ofString "move", Str.ofString "worth"]
abbrev st2 : List Str := [Str.ofString "move", Str.ofString "worth"]
section
variable {prog : Program} {w : World} {A : Around} {E : Value → Shared → Prop} {Q : Flow → Shared → Prop} {s : Shared} {env : Env} {h₀ : Heap}
theorem for_w1 {target : Expr} {body : List Stmt} {l : Addr} {gs : List Value} {games : List (List Int)} {m₀ : Str → Option Value} {lw L1 c0 : Addr} {oc0 o0 : Obj} {ps0 : Array Value} {n0 : Nat} (T : Array Value → Addr → Obj → Prop)
  (hh : A.handled = none) (F : Fr h₀ env.locals s.heap m₀) (N : News h₀ env.locals s.heap [(lw, listOf #[] n0), (L1, oc0), (350, tabObj ps0), (c0, o0)]) (hl : h₀.IsList l gs.toArray) (G : Games h₀ gs games)
  {cv0 : Option Value} (hcd : oc0.data = .cell cv0) (hT : T ps0 c0 o0) (hc1 : @Ne Nat c0 lw) (hc2 : @Ne Nat c0 L1) (hb : ∀ i ns, games[i]? = some ns → ns.length ≤ 1000 ∧ ∀ k ∈ ns, 0 ≤ k ∧ 0 ≤ over (worthsOf (games.take i)) k ∧ over (worthsOf (games.take i)) k ≤ 1000)
  (turn : ∀ (i : Nat) (r : Addr) (ms : List Value) (ns : List Int) (vs : List Value) (n : Nat) (oc : Obj) (ps : Array Value) (c : Addr) (o : Obj) (u : Str → Option Value) (I : Addr) (oI : Obj) (h : Heap) (tk : Nat),
   games[i]? = some ns → (ns.length ≤ 1000) → (∀ k ∈ ns, 0 ≤ k ∧ 0 ≤ over (worthsOf (games.take i)) k ∧ over (worthsOf (games.take i)) k ≤ 1000) → h₀.IsList r ms.toArray → IntsAre ms ns → IntsAre vs (worthsOf (games.take i)) → (worthsOf (games.take i)).length ≤ games.length → T ps c o → @Ne Nat c lw → @Ne Nat c L1 → (∀ cv, oc.data = .cell cv →
   (@LT.lt Nat _ lw I ∧ @LT.lt Nat _ L1 I ∧ @LT.lt Nat _ 350 I) → Fr h₀ env.locals h (fun z => if st1.contains z then u z else m₀ z) → News h₀ env.locals h [(I, oI), (lw, listOf vs.toArray n), (L1, oc), (350, tabObj ps), (c, o)] → (@Ne Nat c I) →
   wpAny (model prog w) A (assign target env (.ref r)) (fun _ s₂ => wpAny (model prog w) A (execs body env) (KfPost h₀ env.locals I oI { s with heap := h, toks := tk } (led1 lw L1) (fun _ => []) st1 m₀ (P1 T lw L1 games (i + 1)) Q) E s₂) E { s with heap := h, toks := tk }))
  (done : ∀ (vs : List Value) (n : Nat) (oc : Obj) (ps : Array Value) (c : Addr) (o : Obj) (u : Str → Option Value) (h : Heap) (tk : Nat), IntsAre vs (worthsOf games) → T ps c o → @Ne Nat c lw → Fr h₀ env.locals h (fun z => if st1.contains z then u z else m₀ z) →
   News h₀ env.locals h [(lw, listOf vs.toArray n), (L1, oc), (350, tabObj ps), (c, o)] → Q .next { s with heap := h, toks := tk }) :
  wpAny (model prog w) A (pyIter (.ref l)) (fun it s₂ => TurnsAt prog w A h₀ env target body Q E it s₂) E s := by
 refine for_fold (led1 lw L1) (fun _ => []) st1 (P1 T lw L1 games) ([], n0, oc0, ps0, c0, o0) hh F N (hl.at fun o e => F.keep _ _ e) (.inl ⟨_, hl.choose_spec.1⟩) (fun p hp => hp) (fun _ hp => nomatch hp) ⟨.nil, hT, hc1, hc2, _, hcd⟩ ?_ ?_
 ·rintro i v ⟨vs, n, oc, ps, c, o⟩ u I oI h tk hlt hv ⟨h1, h2, h3, h4, cv, h5⟩ F' N' ha
  obtain ⟨ns, hns, r, ms, rfl, hr, hi⟩ := G.at i v hv
  exact turn i r ms ns vs n oc ps c o u I oI h tk hns (hb i ns hns).1 (hb i ns hns).2 hr hi h1 (by rw [worthsOf_len, List.length_take]; kaf_pre) h2 h3 h4 cv h5 ⟨hlt (lw, _) (.head _), hlt (L1, _) (.tail _ (.head _)), hlt (350, _) (.tail _ (.tail _ (.head _)))⟩ F' N' ha.2.2.2.1
 ·rintro ⟨vs, n, oc, ps, c, o⟩ u h tk ⟨h1, h2, h3, h4, _⟩ F' N'
  rw [G.length, List.take_length] at h1
  exact done vs n oc ps c o u h tk h1 h2 h3 F' N'
abbrev led2 (lr : Addr) (rest : List (Addr × Obj)) (c : List Value × Nat) : List (Addr × Obj) := (lr, listOf c.1.toArray c.2) :: rest
abbrev P2 (ws ns : List Int) (j : Nat) (c : List Value × Nat) : Prop := IntsAre c.1 (rowOf ws (ns.take j))
theorem for_w2 {target : Expr} {body : List Stmt} {r lr : Addr} {ms : List Value} {ws ns : List Int} {m₀ : Str → Option Value} {rest : List (Addr × Obj)} {n0 : Nat}
  (hh : A.handled = none) (F : Fr h₀ env.locals s.heap m₀) (N : News h₀ env.locals s.heap ((lr, listOf #[] n0) :: rest)) (hl : h₀.IsList r ms.toArray) (hi : IntsAre ms ns)
  (hns : ns.length ≤ 1000) (hbd : ∀ k ∈ ns, 0 ≤ k ∧ 0 ≤ over ws k ∧ over ws k ≤ 1000)
  (turn : ∀ (i : Nat) (k : Int) (t : Tok) (vs : List Value) (n : Nat) (u : Str → Option Value) (J : Addr) (oJ : Obj) (h : Heap) (tk : Nat),
   AllLt J ((lr, listOf #[] n0) :: rest) → ns[i]? = some k → IntsAre vs (rowOf ws (ns.take i)) → (rowOf ws (ns.take i)).length ≤ 1000 → (rowOf ws (ns.take i)).Pairwise (· < ·) → 0 ≤ k → (0 ≤ over ws k ∧ over ws k ≤ 1000) →
   Fr h₀ env.locals h (fun z => if st2.contains z then u z else m₀ z) → News h₀ env.locals h ((J, oJ) :: (lr, listOf vs.toArray n) :: rest) → AllNe J ((lr, listOf vs.toArray n) :: rest) →
   wpAny (model prog w) A (assign target env (.int k t)) (fun _ s₂ => wpAny (model prog w) A (execs body env) (KfPost h₀ env.locals J oJ { s with heap := h, toks := tk } (led2 lr rest) (fun _ => []) st2 m₀ (P2 ws ns (i + 1)) Q) E s₂) E { s with heap := h, toks := tk })
  (done : ∀ (vs : List Value) (n : Nat) (u : Str → Option Value) (h : Heap) (tk : Nat), IntsAre vs (rowOf ws ns) → (rowOf ws ns).length ≤ 1000 → Fr h₀ env.locals h (fun z => if st2.contains z then u z else m₀ z) →
   News h₀ env.locals h ((lr, listOf vs.toArray n) :: rest) → Q .next { s with heap := h, toks := tk }) :
  wpAny (model prog w) A (pyIter (.ref r)) (fun it s₂ => TurnsAt prog w A h₀ env target body Q E it s₂) E s := by
 refine for_fold (led2 lr rest) (fun _ => []) st2 (P2 ws ns) ([], n0) hh F N (hl.at fun o e => F.keep _ _ e) (.inl ⟨_, hl.choose_spec.1⟩) (fun p hp => hp) (fun _ hp => nomatch hp) .nil ?_ ?_
 ·rintro i v ⟨vs, n⟩ u I oI h tk hlt hv h1 F' N' ha
  obtain ⟨k, t, rfl, hk⟩ := IntsAre.at hi i v hv
  have hm := List.mem_of_getElem? hk
  have h2 := hbd k hm
  exact turn i k t vs n u I oI h tk (allLt_of hlt) hk h1 (by
   have a := rowOf_len ws (ns.take i)
   have b : (ns.take i).length ≤ ns.length := by rw [List.length_take]; kaf_pre
   kaf_pre) (rowOf_sorted ws _) h2.1 h2.2 F' N' ha
 ·rintro ⟨vs, n⟩ u h tk h1 F' N'
  have e := hi.length
  have h2 : IntsAre vs (rowOf ws ns) := by
   have q : IntsAre vs (rowOf ws (ns.take ms.length)) := h1
   rw [e, List.take_length] at q
   exact q
  exact done vs n u h tk h2 (by have a := rowOf_len ws ns; kaf_pre) F' N'
end

theorem p2_ins {ws ns : List Int} {i : Nat} {k : Int} {c : List Value × Nat} (hk : ns[i]? = some k) (h : IntsAre c.1 (ins (rowOf ws (ns.take i)) (over ws k))) : P2 ws ns (i + 1) c := by
 show IntsAre c.1 (rowOf ws (ns.take (i + 1)))
 rw [take_succ_of hk, rowOf_snoc]; exact h
theorem p2_ne {ws ns : List Int} {i : Nat} {k k1 k2 : Int} {c : List Value × Nat} (hk : ns[i]? = some k) (h : IntsAre c.1 (rowOf ws (ns.take i))) (h1 : BL (rowOf ws (ns.take i)) (over ws k) k1 k1) (h2 : BR (rowOf ws (ns.take i)) (over ws k) k2 k2) (hne : k1 ≠ k2)
  (a0 : 0 ≤ k1) (a1 : k1 ≤ (rowOf ws (ns.take i)).length) (b0 : 0 ≤ k2) (b1 : k2 ≤ (rowOf ws (ns.take i)).length) : P2 ws ns (i + 1) c := by
 show IntsAre c.1 (rowOf ws (ns.take (i + 1)))
 rw [take_succ_of hk, rowOf_snoc, ins_ne (rowOf_sorted ws _) a0 b0 b1 a1 h1 h2 hne]; exact h
def BK (ns : List Int) (lo hi : Int) : Prop := (∀ i : Nat, (i : Int) < lo → i < ns.length → ns.getD i 0 ≤ i) ∧ (∀ i : Nat, hi ≤ (i : Int) → i < ns.length → (i : Int) < ns.getD i 0)
theorem BK.start {ns : List Int} : BK ns 0 ns.length := ⟨fun i h _ => by kaf_pre, fun i h h' => by kaf_pre⟩
theorem BK.start2 {ns : List Int} : (0 : Int) ≤ 0 ∧ (0 : Int) ≤ ((rangeKs 0 ((ns.length : Int) - 0).toNat).length : Int) ∧ ((rangeKs 0 ((ns.length : Int) - 0).toNat).length : Int) ≤ (ns.length : Int) ∧ BK ns 0 ((rangeKs 0 ((ns.length : Int) - 0).toNat).length : Int) := by
 have e : ((rangeKs 0 ((ns.length : Int) - 0).toNat).length : Int) = ns.length := by rw [rangeKs_length]; kaf_pre
 rw [e]
 exact ⟨by kaf_pre, by kaf_pre, by kaf_pre, BK.start⟩
theorem getD_gap {ns : List Int} (hs : ns.Pairwise (· < ·)) : ∀ {d i : Nat}, i + d < ns.length → ns.getD i 0 + d ≤ ns.getD (i + d) 0
 | 0, i, _ => by simp
 | d + 1, i, h => by
  have h1 := getD_gap hs (d := d) (i := i) (by kaf_pre)
  have e1 : ns.getD (i + d) 0 = ns[i + d]'(by kaf_pre) := by simp [List.getD, show i + d < ns.length by kaf_pre]
  have e2 : ns.getD (i + (d + 1)) 0 = ns[i + (d + 1)]'(by kaf_pre) := by simp [List.getD, h]
  have h2 := List.pairwise_iff_getElem.mp hs (i + d) (i + (d + 1)) (by kaf_pre) (by kaf_pre) (by kaf_pre)
  kaf_pre
theorem mid_up {a b m i : Int} (h : a + (i - m) ≤ b) (hx : m < a) : i < b := by kaf_pre
theorem mid_dn {a b m i : Int} (h : a + (m - i) ≤ b) (hx : ¬ m < b) : a ≤ i := by kaf_pre
theorem gap_le {ns : List Int} (hs : ns.Pairwise (· < ·)) {i j : Nat} (h : i ≤ j) (hl : j < ns.length) : ns.getD i 0 + ((j : Int) - i) ≤ ns.getD j 0 := by
 have g := getD_gap hs (d := j - i) (i := i) (by rw [Nat.add_sub_of_le h]; exact hl)
 rw [Nat.add_sub_of_le h, Int.ofNat_sub h] at g
 exact g
theorem BK.turnD {ns : List Int} {lo hi : Int} (hs : ns.Pairwise (· < ·)) (h0 : 0 ≤ lo) (h2 : hi ≤ ns.length) (h : BK ns lo hi) (hlt : lo < hi) (hx : (lo + hi).fdiv 2 < ns.getD ((lo + hi).fdiv 2).toNat 0) :
  0 ≤ lo ∧ lo ≤ (lo + hi).fdiv 2 ∧ (lo + hi).fdiv 2 ≤ ns.length ∧ BK ns lo ((lo + hi).fdiv 2) := by
 have hm := mid_facts h0 hlt
 obtain ⟨m, e⟩ := Int.eq_ofNat_of_zero_le (Int.le_trans h0 hm.1)
 rw [e] at hx hm ⊢
 rw [Int.toNat_natCast] at hx
 refine ⟨h0, hm.1, Int.le_of_lt (Int.lt_of_lt_of_le hm.2 h2), h.1, fun i hj hl => ?_⟩
 exact mid_up (gap_le hs (Int.ofNat_le.mp hj) hl) hx
theorem BK.turnU {ns : List Int} {lo hi : Int} (hs : ns.Pairwise (· < ·)) (h0 : 0 ≤ lo) (h2 : hi ≤ ns.length) (h : BK ns lo hi) (hlt : lo < hi) (hx : ¬ (lo + hi).fdiv 2 < ns.getD ((lo + hi).fdiv 2).toNat 0) :
  0 ≤ (lo + hi).fdiv 2 + 1 ∧ (lo + hi).fdiv 2 + 1 ≤ hi ∧ hi ≤ ns.length ∧ BK ns ((lo + hi).fdiv 2 + 1) hi := by
 have hm := mid_facts h0 hlt
 obtain ⟨m, e⟩ := Int.eq_ofNat_of_zero_le (Int.le_trans h0 hm.1)
 rw [e] at hx hm ⊢
 rw [Int.toNat_natCast] at hx
 refine ⟨Int.le_trans h0 (Int.le_trans hm.1 (Int.le_add_one (Int.le_refl _))), hm.2, h2, fun i hj hl => ?_, h.2⟩
 exact mid_dn (gap_le hs (Int.ofNat_le.mp (Int.le_of_lt_add_one hj)) (Int.ofNat_lt.mp (Int.lt_of_lt_of_le hm.2 h2))) hx
theorem b2i_lt {X : Prop} [Decidable X] : b2i (decide X) < b2i true ↔ ¬ X := by
 by_cases h : X
 ·simp [h]
 ·simp [h]; decide
theorem BK.turnD2 {ns : List Int} {lo hi : Int} (hs : ns.Pairwise (· < ·)) (h0 : 0 ≤ lo) (h2 : hi ≤ ns.length) (h : BK ns lo hi) (hlt : lo < hi) (hx : ¬ b2i (decide (0 + (lo + hi).fdiv 2 < ns.getD (0 + (lo + hi).fdiv 2).toNat 0)) < b2i true) :
  0 ≤ lo ∧ lo ≤ (lo + hi).fdiv 2 ∧ (lo + hi).fdiv 2 ≤ ns.length ∧ BK ns lo ((lo + hi).fdiv 2) :=
 h.turnD hs h0 h2 hlt (by rw [b2i_lt, Int.zero_add] at hx; exact Decidable.not_not.mp hx)
theorem BK.turnU2 {ns : List Int} {lo hi : Int} (hs : ns.Pairwise (· < ·)) (h0 : 0 ≤ lo) (h2 : hi ≤ ns.length) (h : BK ns lo hi) (hlt : lo < hi) (hx : b2i (decide (0 + (lo + hi).fdiv 2 < ns.getD (0 + (lo + hi).fdiv 2).toNat 0)) < b2i true) :
  0 ≤ (lo + hi).fdiv 2 + 1 ∧ (lo + hi).fdiv 2 + 1 ≤ hi ∧ hi ≤ ns.length ∧ BK ns ((lo + hi).fdiv 2 + 1) hi :=
 h.turnU hs h0 h2 hlt (by rw [b2i_lt, Int.zero_add] at hx; exact hx)
theorem BK.mex {ns : List Int} {lo hi : Int} (h : BK ns lo hi) (h0 : 0 ≤ lo) (h1 : lo ≤ hi) (h2 : hi ≤ ns.length) (hn : ¬ lo < hi) : lo = mex ns := by
 have e : hi = lo := by kaf_pre
 subst e
 have := mexFrom_at ns 0 hi.toNat (fun j hj hl => by have := h.1 j (by kaf_pre) hl; kaf_pre) (fun j hj hl => by have := h.2 j (by kaf_pre) hl; kaf_pre) (by kaf_pre)
 unfold Mine.mex
 kaf_pre
theorem p1_next {T : Array Value → Addr → Obj → Prop} {lw L1 c : Addr} {games : List (List Int)} {i : Nat} {ns : List Int} {vs : List Value} {n : Nat} {oc o : Obj} {ps : Array Value} {lo hi : Int} {t : Tok} {cv : Option Value} (hns : games[i]? = some ns) (hv : IntsAre vs (worthsOf (games.take i)))
  (hB : BK (rowOf (worthsOf (games.take i)) ns) lo hi) (h0 : 0 ≤ lo) (h1 : lo ≤ hi) (h2 : hi ≤ (rowOf (worthsOf (games.take i)) ns).length) (hn : ¬ lo < hi) (hT : T ps c o) (c1 : @Ne Nat c lw) (c2 : @Ne Nat c L1) (hd : oc.data = .cell cv) :
  P1 T lw L1 games (i + 1) (vs ++ [.int lo t], n, oc, ps, c, o) := by
 refine ⟨?_, hT, c1, c2, cv, hd⟩
 show IntsAre (vs ++ [.int lo t]) (worthsOf (games.take (i + 1)))
 rw [take_succ_of hns, worthsOf_snoc, ← hB.mex h0 h1 h2 hn]
 exact IntsAre.append hv (.cons _ _ .nil)
abbrev TSL : Array Value → Addr → Obj → Prop := TS 350 307 67 (Str.ofString "_law_worths.<locals>.<lambda>")
theorem kf_end1 {T : Array Value → Addr → Obj → Prop} {h₀ h' : Heap} {L I lw L1 c : Addr} {oI : Obj} {s₁ : Shared} {m₀ m' : Str → Option Value} {tk : Nat} {all : List (Addr × Obj)} {games : List (List Int)} {i : Nat} {ns : List Int} {vs : List Value} {n : Nat} {oc o : Obj} {ps : Array Value} {lo hi : Int} {t : Tok} {cv : Option Value}
  (hT : T ps c o) (F : Fr h₀ L h' m') (N : News h₀ L h' all) (m1 : (I, oI) ∈ all) (m2 : (lw, listOf (vs ++ [Value.int lo t]).toArray n) ∈ all) (m3 : (L1, oc) ∈ all) (m4 : (350, tabObj ps) ∈ all) (m5 : (c, o) ∈ all)
  (hns : games[i]? = some ns) (hv : IntsAre vs (worthsOf (games.take i))) (hB : BK (rowOf (worthsOf (games.take i)) ns) lo hi) (h0 : 0 ≤ lo) (h1 : lo ≤ hi) (h2 : hi ≤ (rowOf (worthsOf (games.take i)) ns).length) (hn : ¬ lo < hi) (hd : oc.data = .cell cv)
  (c1 : @Ne Nat c lw) (c2 : @Ne Nat c L1) (n1 : @Ne Nat lw I) (n2 : @Ne Nat L1 I) (n3 : @Ne Nat 350 I) (n4 : @Ne Nat c I) (hz : ∀ z, st1.contains z = false → m' z = m₀ z) :
  KfEnd h₀ L I oI s₁ (led1 lw L1) (fun _ => []) st1 m₀ (P1 T lw L1 games (i + 1)) { s₁ with heap := h', toks := tk } :=
 KfEnd.intro (vs ++ [.int lo t], n, oc, ps, c, o) F N m1 (allin_cons m2 (allin_cons m3 (allin_cons m4 (allin_cons m5 allin_nil)))) ⟨n1, n2, n3, n4, True.intro⟩ (fun _ h => nomatch h) (fun z _ => hz z) (p1_next hns hv hB h0 h1 h2 hn hT c1 c2 hd)
abbrev WorQ (games : List (List Int)) (v : Value) (led' : List (Addr × Obj)) : Prop :=
 ∃ D vs n ps c o, v = .ref D ∧ led' = [(D, listOf vs.toArray n), (350, tabObj ps), (c, o)] ∧ IntsAre vs (worthsOf games) ∧ TSL ps c o ∧ @Ne Nat c D
theorem wor_end {R : Result → Shared → Prop} {s : Shared} {g h' : Heap} {L D c : Addr} {m : Str → Option Value} {news : List (Addr × Obj)} {o : Obj} {tk n : Nat} {ps : Array Value} {vs : List Value} {games : List (List Int)}
  (hret : RetG R s g (WorQ games)) (F : Fr g L h' m) (N : News g L h' news) (hi : IntsAre vs (worthsOf games)) (hT : TSL ps c o) (m1 : (D, listOf vs.toArray n) ∈ news) (m2 : (350, tabObj ps) ∈ news) (m3 : (c, o) ∈ news) (ne : @Ne Nat c D) :
  R (.ok (.ret (.ref D))) { s with heap := h', toks := tk } :=
 ret_end hret F N (allin_cons m1 (allin_cons m2 (allin_cons m3 allin_nil))) ⟨D, vs, n, ps, c, o, rfl, rfl, hi, hT, ne⟩
end Mine
end
section
namespace Mine
section
variable {M : Model} {A : Around} {E : Value → Shared → Prop} {s : Shared} {h₀ : Heap} {L a c P : Addr} {m mg mb : Str → Option Value} {cn : Str} {cs : Scope} {ccd : Value} {cl : List (Str × Addr)}
 {p : Program} {loose : List Str} {mean : ExcName → Option Value} {name qual : Str} {params : Arguments} {body : Expr} {scope : Scope} {pos : Pos} {firstLine : Nat} {clos : List (Str × Addr)}
theorem lam_ts {Q : Value → Shared → Prop} {pre news : List (Addr × Obj)} {ps : Array Value} {c₁ : Addr} {o₁ : Obj} (F : Fr h₀ L s.heap m) (N' : News h₀ L s.heap news) (S : Spl P ps c₁ o₁ news pre) (T : Top p loose mean mg mb h₀) (C : CodeHd h₀ c P) (hcd : ccd = .ref c)
  (hT : TS P pos.line pos.col qual ps c₁ o₁) (hp' : AllNe P pre) (hp1' : AllNe c₁ pre)
  (hcl : closureFor scope (envX cn cs L a ccd cl) = pure clos)
  (h : ∀ f c' oc vs t ctv h' tk, Fr h₀ L h' m →
   News h₀ L h' ((f, kla_obj name qual params body scope clos ((mg "__name__").getD .none) c' ctv) :: (pre ++ [(P, tabObj #[rawInt pos.line, rawInt pos.col, .ref c']), (c', oc)])) →
   oc.data = .fields vs → vs[1]? = some (.str qual t) → AllLt f (pre ++ [(P, tabObj #[rawInt pos.line, rawInt pos.col, .ref c']), (c', oc)]) → AllNe c' pre → TS P pos.line pos.col qual #[rawInt pos.line, rawInt pos.col, .ref c'] c' oc → Q (.ref f) { s with heap := h', toks := tk }) :
  wpAny M A (makeFunction name qual params (.expr body) scope (envX cn cs L a ccd cl) [] [] [] pos firstLine) Q E s := by
 have hp := hp'.mem
 have hp1 := hp1'.mem
 have N : News h₀ L s.heap (pre ++ [(P, tabObj ps), (c₁, o₁)]) := S.eq ▸ N'
 clear hp' hp1'
 have ht0 : TriplesOk ([] : List Value) := True.intro
 have hnf : codeAmong pos ([] : List Value) = none := rfl
 have ht : ∀ c' : Addr, TriplesOk [rawInt pos.line, rawInt pos.col, .ref c'] := fun c' => by simp [TriplesOk, rawInt]
 have hf : ∀ c' : Addr, codeAmong pos [rawInt pos.line, rawInt pos.col, .ref c'] = some (.ref c') := fun c' => by simp [codeAmong, rawInt]
 rcases hT with ⟨rfl, rfl, rfl⟩ | ⟨rfl, ⟨vs, t, hd, hv⟩, hlt⟩
 ·have N1 : News h₀ L s.heap (pre ++ [(c₁, tabObj #[])]) := fun q hq => by
   rcases List.mem_append.mp hq with hq | hq
   ·exact N q (List.mem_append_left _ hq)
   ·exact N q (List.mem_append_right _ (by rw [List.mem_singleton.mp hq]; exact .head _))
  have U : UpdF c₁ (tabObj #[]) (pre ++ [(c₁, tabObj #[])]) (fun o => pre ++ [(c₁, o)]) := by
   clear N N1 hp1 h S
   induction pre with
   | nil => exact UpdF.head fun _ hq => nomatch hq
   | cons q r ih => exact UpdF.tail (hp q (.head _)) (ih fun x hx => hp x (.tail _ hx))
  refine kla_nest F N1 T C hcd U ht0 hnf hcl fun f c' oc vs t ctv h' tk F' N' d1 d2 l1 l2 => ?_
  have lP : @LT.lt Nat _ c₁ c' := l1 (c₁, tabObj #[]) (List.mem_append_right _ (.head _))
  refine h f c' oc vs t ctv h' tk F' (fun q hq => ?_) d1 d2 (allLt_of fun q hq => ?_) (AllNe.of fun q hq => Nat.ne_of_lt (l1 q (List.mem_append_left _ hq))) (.inr ⟨rfl, ⟨vs, t, d1, d2⟩, lP⟩)
  ·rcases List.mem_cons.mp hq with rfl | hq
   ·exact N' _ (.head _)
   ·rcases List.mem_append.mp hq with hq | hq
    ·exact N' _ (.tail _ (.tail _ (List.mem_append_left _ hq)))
    ·rcases List.mem_cons.mp hq with rfl | hq
     ·exact N' _ (.tail _ (.tail _ (List.mem_append_right _ (.head _))))
     ·rw [List.mem_singleton.mp hq]
      exact N' _ (.tail _ (.head _))
  ·rcases List.mem_append.mp hq with hq | hq
   ·exact Nat.lt_trans (l1 q (List.mem_append_left _ hq)) l2
   ·rcases List.mem_cons.mp hq with rfl | hq
    ·exact Nat.lt_trans lP l2
    ·rw [List.mem_singleton.mp hq]; exact l2
 ·refine kla_hit F N T C hcd (List.mem_append_right _ (.head _)) (ht c₁) (hf c₁) hcl fun f ctv h' tk F' N' l1 => ?_
  exact h f c₁ o₁ vs t ctv h' tk F' N' hd hv (allLt_of l1) (AllNe.of hp1) (.inr ⟨rfl, ⟨vs, t, hd, hv⟩, hlt⟩)
end
end Mine
end
local macro_rules | `(tactic| walk_at "my allin") => `(tactic| first | exact allin_nil | (refine' allin_cons ?_ ?_; k_mem; walk_at "my allin"))
section
namespace Mine
theorem worths_w : ∀ (w : World) (loose : List Str) (mean : ExcName → Option Value) (mg mb : Str → Option Value) (dp un : Nat) (gd : Option (List Code)) (outer : List Env) (base g : Heap) (s : Shared) (R : Result → Shared → Prop) (l : Addr) (gs : List Value) (games : List (List Int)) (ps : Array Value) (c : Addr) (o : Obj)
  (B : Below (arX dp un gd outer) base outer g) (X : (hd.heap_1 w.params).In g) (T : Top topProg loose mean mg mb g) (hkg : ∀ b o, g.get? b = some o → s.heap.get? b = some o) (hsz : g.objs.size ≤ s.heap.objs.size) (hdp : dp + 300 < recursionLimit) (hun : un + 2000 < cLine) (hled : ∀ p ∈ ([(350, tabObj ps), (c, o)] : List (Addr × Obj)), s.heap.get? p.1 = some p.2 ∧ g.get? p.1 = none) (hl : g.IsList l gs.toArray) (G : Games g gs games) (hT : TSL ps c o) (hgl : games.length ≤ 1000) (hb : ∀ i ns, games[i]? = some ns → ns.length ≤ 1000 ∧ ∀ k ∈ ns, 0 ≤ k ∧ 0 ≤ over (worthsOf (games.take i)) k ∧ over (worthsOf (games.take i)) k ≤ 1000)
  (hret : RetG R s g (WorQ games)),
  codeAny (model PySem.Challenge.rw_sn0104_01.row.toRowW.prog w) (arX dp un gd outer) (.call (.ref 355) ⟨[.ref l], []⟩) R s := by
 k_with_none
 k_with "call ref" => ((with_reducible show wpAny _ _ (call (Value.ref 89) _ _) _ _ _); (k_here; k_dflt (refine' use_c ?zqB ?zqF ?zqX ?zqN ?zqT ?zqhA ?zqhf ?zqhke (insort_c _ _ _ _ _ _ _ _ _ _ _ _ _ ?zqp0 ?zqp1 ?zqp2 ?zqp3 ?zqp4 ?zqp5 ?zqp6 ?zqp7 ?zqp8 ?zqp9 ?zqp10) ?zqhled ?zqhrem ?zqhold ?_); (case zqhA => walk_at "hA"); (case zqhf => walk_at "hf"); (case zqhke => walk_at "hke"); (case zqB => walk_at "ka"); (case zqF => walk_at "ka"); (case zqX => walk_at "ka"); (case zqN => walk_at "ka"); (case zqT => walk_at "ka"); (case zqhled => (k_dflt (k_allIn))); (case zqhrem => (k_dflt ((first | exact Rem.refl | kat_tups)))); (case zqhold => (k_dflt (exact fun _ _ _ => trivial)));(case zqp0 => (k_dflt ((first | omega | ((try dsimp only); omega) | ktr_room)))); (case zqp1 => (k_dflt ((first | omega | ((try dsimp only); omega) | ktr_units)))); (case zqp2 => (k_dflt ((kbo_bools)))); (case zqp3 => (k_dflt ((kbo_bools)))); (case zqp4 => (k_dflt ((kbo_bools)))); (case zqp5 => (k_dflt ((kbo_bools)))); (case zqp6 => (k_dflt ((kbo_bools)))); (case zqp7 => (k_dflt ((kbo_bools)))); (case zqp8 => (k_dflt ((kbo_bools)))); (case zqp9 => (k_dflt ((kbo_bools)))); (case zqp10 => (k_dflt ((kbo_bools)))); k_whole; intro v9 h' tk' led' F' N' hne9 hP9; obtain ⟨vs9, hv9, hl9, hi9⟩ := hP9; subst hv9 hl9; walk_at "u9"))
 k_with "call ref" => ((with_reducible show wpAny _ _ (call (Value.ref 98) _ _) _ _ _); (k_here; k_dflt (refine' use_c ?zqB ?zqF ?zqX ?zqN ?zqT ?zqhA ?zqhf ?zqhke (bisr_c _ _ _ _ _ _ _ _ _ _ ?zqp0 ?zqp1 ?zqp2 ?zqp3 ?zqp4 ?zqp5) ?zqhled ?zqhrem ?zqhold ?_); (case zqhA => walk_at "hA"); (case zqhf => walk_at "hf"); (case zqhke => walk_at "hke"); (case zqB => walk_at "ka"); (case zqF => walk_at "ka"); (case zqX => walk_at "ka"); (case zqN => walk_at "ka"); (case zqT => walk_at "ka"); (case zqhled => (k_dflt (k_allIn))); (case zqhrem => (k_dflt ((first | exact Rem.refl | kat_tups)))); (case zqhold => (k_dflt (exact fun g9 _ hr9 => isList_of_row (by k_mem) hr9)));(case zqp0 => (k_dflt ((first | omega | ((try dsimp only); omega) | ktr_room)))); (case zqp1 => (k_dflt ((first | omega | ((try dsimp only); omega) | ktr_units)))); (case zqp2 => (k_dflt ((kbo_bools)))); (case zqp3 => (k_dflt ((kbo_bools)))); (case zqp4 => (k_dflt ((kbo_bools)))); (case zqp5 => (k_dflt ((kbo_bools)))); k_whole; intro v9 h' tk' led' F' N' hne9 hP9; obtain ⟨k9, t9, hv9, hl9, hk0, hk1, hkR⟩ := hP9; subst hv9 hl9; walk_at "u9"))
 k_with "call ref" => ((with_reducible show wpAny _ _ (call (Value.ref 107) _ _) _ _ _); (k_here; k_dflt (refine' use_c ?zqB ?zqF ?zqX ?zqN ?zqT ?zqhA ?zqhf ?zqhke (bisl_c _ _ _ _ _ _ _ _ _ _ ?zqp0 ?zqp1 ?zqp2 ?zqp3 ?zqp4 ?zqp5) ?zqhled ?zqhrem ?zqhold ?_); (case zqhA => walk_at "hA"); (case zqhf => walk_at "hf"); (case zqhke => walk_at "hke"); (case zqB => walk_at "ka"); (case zqF => walk_at "ka"); (case zqX => walk_at "ka"); (case zqN => walk_at "ka"); (case zqT => walk_at "ka"); (case zqhled => (k_dflt (k_allIn))); (case zqhrem => (k_dflt ((first | exact Rem.refl | kat_tups)))); (case zqhold => (k_dflt (exact fun g9 _ hr9 => isList_of_row (by k_mem) hr9)));(case zqp0 => (k_dflt ((first | omega | ((try dsimp only); omega) | ktr_room)))); (case zqp1 => (k_dflt ((first | omega | ((try dsimp only); omega) | ktr_units)))); (case zqp2 => (k_dflt ((kbo_bools)))); (case zqp3 => (k_dflt ((kbo_bools)))); (case zqp4 => (k_dflt ((kbo_bools)))); (case zqp5 => (k_dflt ((kbo_bools)))); k_whole; intro v9 h' tk' led' F' N' hne9 hP9; obtain ⟨k9, t9, hv9, hl9, hk0, hk1, hkL⟩ := hP9; subst hv9 hl9; walk_at "u9"))
 k_with "call ref" => ((with_reducible show wpAny _ _ (call (Value.ref 348) _ _) _ _ _); (k_here; k_dflt (refine' use_c ?zqB ?zqF ?zqX ?zqN ?zqT ?zqhA ?zqhf ?zqhke (over_c _ _ _ _ _ _ _ _ _ _ ?zqp0 ?zqp1 ?zqp2 ?zqp3 ?zqp4) ?zqhled ?zqhrem ?zqhold ?_); (case zqhA => walk_at "hA"); (case zqhf => walk_at "hf"); (case zqhke => walk_at "hke"); (case zqB => walk_at "ka"); (case zqF => walk_at "ka"); (case zqX => walk_at "ka"); (case zqN => walk_at "ka"); (case zqT => walk_at "ka"); (case zqhled => (k_dflt (k_allIn))); (case zqhrem => (k_dflt ((first | exact Rem.refl | kat_tups)))); (case zqhold => (k_dflt (exact fun g9 _ hr9 => isList_of_row (by k_mem) hr9)));(case zqp0 => (k_dflt ((first | omega | ((try dsimp only); omega) | ktr_room)))); (case zqp1 => (k_dflt ((first | omega | ((try dsimp only); omega) | ktr_units)))); (case zqp2 => (k_dflt ((kbo_bools)))); (case zqp3 => (k_dflt (omega))); (case zqp4 => (k_dflt ((kbo_bools)))); k_whole; intro v9 h' tk' led' F' N' hne9 hP9; obtain ⟨t9, hv9, hl9⟩ := hP9; subst hv9 hl9; walk_at "u9"))
 k_with "eval Lambda" => (k_here; kn_here; k_dflt (refine' kla_eval ?zqd0 ?_; (case zqd0 => exact rfl)); (k_dflt (refine' lam_ts ?zqF ?zqN ?zqS ?zqT ?zqC ?zqcd ?zqhT ?zqhp ?zqhp1 ?zqcl ?_; (case zqF => k_asm); (case zqN => k_asm); (case zqS => walk_at "my spl"); (case zqT => k_asm); (case zqcd => exact rfl); (case zqC => kn_code); (case zqhT => assumption); (case zqhp => kfm_turns); (case zqhp1 => kfm_turns); (case zqcl => exact rfl); k_whole); intro f' c' oc' vs' t' ct' h' tk' F' N' d1' d2' l1 ha' hT'; (try simp only [List.cons_append, List.nil_append] at N'); (try simp only [AllLt, List.cons_append, List.nil_append, and_true] at l1); (try simp only [AllNe, and_true] at ha'); (repeat (cases ha' with | intro hx9 ha' => skip))))
 k_with "KfPost" => (dsimp only [KfPost])
 k_with "KfEnd" => (k_dflt (first | (refine' KfEnd.intro (_, _) ?zqF ?zqN ?zqI ?zqn ?zqa ?zqh1 ?zqh2 ?zqP; (case zqF => k_asm); (case zqN => k_asm); (case zqI => k_mem); (case zqn => walk_at "my allin"); (case zqa => kfm_turns); (case zqh1 => kst_all); (case zqh2 => ksw_same); (case zqP => exact p2_ins (by assumption) (by assumption))) | (refine' KfEnd.intro (_, _) ?zqF ?zqN ?zqI ?zqn ?zqa ?zqh1 ?zqh2 ?zqP; (case zqF => k_asm); (case zqN => k_asm); (case zqI => k_mem); (case zqn => walk_at "my allin"); (case zqa => kfm_turns); (case zqh1 => kst_all); (case zqh2 => ksw_same); (case zqP => exact p2_ne (by assumption) (by assumption) (by assumption) (by assumption) (by assumption) (by assumption) (by assumption) (by assumption) (by assumption))) | ((rename News _ _ _ _ => nE'); (try simp only [List.push_toArray] at nE'); refine' kf_end1 ?zqhT ?zqF ?zqN ?zqm1 ?zqm2 ?zqm3 ?zqm4 ?zqm5 ?zqhns ?zqhv ?zqhB ?zqh0 ?zqh1 ?zqh2 ?zqhn ?zqhd ?zqc1 ?zqc2 ?zqn1 ?zqn2 ?zqn3 ?zqn4 ?zqhz; (case zqhT => assumption); (case zqF => k_asm); (case zqN => exact nE'); (case zqm1 => k_mem); (case zqm2 => k_mem); (case zqm3 => k_mem); (case zqm4 => k_mem); (case zqm5 => k_mem); (case zqhns => assumption); (case zqhv => assumption); (case zqhB => assumption); (case zqh0 => assumption); (case zqh1 => assumption); (case zqh2 => assumption); (case zqhn => assumption); (case zqhd => assumption); (case zqc1 => kpt_turns); (case zqc2 => kpt_turns); (case zqn1 => kpt_turns); (case zqn2 => kpt_turns); (case zqn3 => kpt_turns); (case zqn4 => kpt_turns); (case zqhz => (intro z h3; (simp only [st1, List.contains_cons, List.contains_nil, Bool.or_false, Bool.or_eq_false_iff, beq_eq_false_iff_ne, ne_eq] at h3); (simp [h3, st1, st2]; done))))))
 k_with "exec For Name Name cons nil" => (k_here; (rename Fr _ _ _ _ => lF'); (with_unfolding_all refine' For_turns lF' ?_; k_whole))
 k_with "pyIter ref" => (((k_here; k_dflt (first | (refine' for_w1 TSL ?zqhh ?zqF ?zqN ?zqhl ?zqG ?zqhcd ?zqhT ?zqc1 ?zqc2 ?zqhb (fun i' r' ms' ns' vs' n' oc' ps' c' o' u' I' oI' h' tk' hns' hnl' hbd' hr' hi' hv' hvl' hT' hcw' hcL' cv' hcd' hlt' F' N' hcI' => ?_) (fun vs' n' oc' ps' c' o' u' h' tk' hv' hT' hcw' F' N' => ?_); (case zqhh => rfl); (case zqF => k_asm); (case zqN => k_asm); (case zqhl => assumption); (case zqG => assumption); (case zqhcd => assumption); (case zqhT => assumption); (case zqc1 => omega); (case zqc2 => omega); (case zqhb => assumption)) | (refine' for_w2 ?zqhh ?zqF ?zqN ?zqhl ?zqhi ?zqhns ?zqhbd (fun i' k' t' vs' n' u' J' oJ' h' tk' hlt' hns' hv' hvl' hvs' hk' hov' F' N' ha' => ?_) (fun vs' n' u' h' tk' hv' hvl' F' N' => ?_); (case zqhh => rfl); (case zqF => k_asm); (case zqN => k_asm); (case zqhl => assumption); (case zqhi => assumption); (case zqhns => assumption); (case zqhbd => assumption))); (all_goals (try simp only [AllLt, and_true] at hlt')); (all_goals (try simp only [AllNe, and_true] at ha')))); (all_goals (try (k_whole; (fail_if_success (refine dG ?_)); (walk_at "my hk"); (have hkm := HkMark.mk)))))
 w_top off
 k_fill
 ((refine hk19 (h := ?_)); (generalize hkT19 _ = T9); (generalize pj0 T9 = w, pj1 T9 = loose, pj2 T9 = mean, pj3 T9 = mg, s4 T9 = U9); (clear T9); (generalize pj0 U9 = mb, pj1 U9 = dp, pj2 U9 = un, pj3 U9 = gd, s4 U9 = T9); (clear U9); (generalize pj0 T9 = outer, pj1 T9 = base, pj2 T9 = g, pj3 T9 = s, s4 T9 = U9); (clear T9); (generalize pj0 U9 = R, pj1 U9 = l, pj2 U9 = gs, pj3 U9 = games, s4 U9 = T9); (clear U9); (generalize pj0 T9 = ps, pj1 T9 = c, lj2 T9 = o); (clear T9); intro B X T hkg hsz hdp hun hled hl G hT hgl hb hret)
 (k_with "exec While Compare cons nil" => ((rename IntsAre _ (rowOf _ _) => hR9); (rename IntsAre _ (worthsOf _) => hW9); (rename IntsAre _ (rangeKs _ _) => hI9); (revert hR9 hW9 hI9); (rename IntsAre _ _ => hZ9); (revert hZ9); intro hZ9 hW9 hR9 hI9; (revert hZ9 hW9); intro hZ9 hW9; k_while (fun row lo hi => 0 ≤ lo ∧ lo ≤ hi ∧ hi ≤ (row.length : Int) ∧ BK row lo hi) (fun _ lo hi => (hi - lo).toNat) "lo" "hi"))
 (k_with "state" => first | exact BK.start2 | exact BK.turnD2 (rowOf_sorted _ _) (by assumption) (by assumption) (by assumption) (by assumption) (by assumption) | exact BK.turnU2 (rowOf_sorted _ _) (by assumption) (by assumption) (by assumption) (by assumption) (by assumption))
 (k_with "measure" => first | exact measD (by assumption) (by assumption) | exact measU (by assumption) (by assumption))
 have C := codeHd_of_K (c := 354) (P := 350) X (by kernel_rfl)
 k_dflt (refine' enterC (led := [(350, tabObj ps), (c, o)]) hkg hsz ?kl ?k3 ?k5 ?k6 ?k7 ?k8 ?k9 ?kB ?kN ?_ ?c2 ?c3 ?c4; (case kl => exact hled); (case k3 => k_asm); (case k5 => k_asm); (case k6 => k_is); (case k7 => k_is); (case k8 => ktr_room); (case k9 => exact BindsTo.of_eq rfl); (case kN => decide +kernel); (case kB => exact rfl); (case c2 => exact rfl); (case c3 => exact rfl); (case c4 => exact rfl); k_whole; intro L' h' tk' cells' F' N' Y' l1; (first | ((revert N' l1); (revert cells'); (refine cellsK1 ?_); intro o0' hd0' N' l1; ((revert l1); (revert N'); (revert hd0'); (revert F'); (revert o0'); (revert tk'); (revert h'); (revert L'); ((refine hk4 (h := ?_)); (generalize hkT4 _ = T9); (generalize pj0 T9 = L', pj1 T9 = h', pj2 T9 = tk', lj3 T9 = o0'); (clear T9); intro F' hd0' N' l1))) | ((revert N' l1); (revert cells'); (refine cellsK2 ?_); intro o0' o1' hd0' hd1' N' l1; ((revert l1); (revert N'); (revert hd1'); (revert hd0'); (revert F'); (revert o1'); (revert o0'); (revert tk'); (revert h'); (revert L'); ((refine hk5 (h := ?_)); (generalize hkT5 _ = T9); (generalize pj0 T9 = L', pj1 T9 = h', pj2 T9 = tk', pj3 T9 = o0', s4 T9 = o1'); (clear T9); intro F' hd0' hd1' N' l1))) | ((revert N' l1); (revert cells'); (refine cellsK3 ?_); intro o0' o1' o2' hd0' hd1' hd2' N' l1; ((revert l1); (revert N'); (revert hd2'); (revert hd1'); (revert hd0'); (revert F'); (revert o2'); (revert o1'); (revert o0'); (revert tk'); (revert h'); (revert L'); ((refine hk6 (h := ?_)); (generalize hkT6 _ = T9); (generalize pj0 T9 = L', pj1 T9 = h', pj2 T9 = tk', pj3 T9 = o0', s4 T9 = U9); (clear T9); (generalize pj0 U9 = o1', lj1 U9 = o2'); (clear U9); intro F' hd0' hd1' hd2' N' l1))) | ((revert N' l1); (revert cells'); (refine cellsK4 ?_); intro o0' o1' o2' o3' hd0' hd1' hd2' hd3' N' l1; ((revert l1); (revert N'); (revert hd3'); (revert hd2'); (revert hd1'); (revert hd0'); (revert F'); (revert o3'); (revert o2'); (revert o1'); (revert o0'); (revert tk'); (revert h'); (revert L'); ((refine hk7 (h := ?_)); (generalize hkT7 _ = T9); (generalize pj0 T9 = L', pj1 T9 = h', pj2 T9 = tk', pj3 T9 = o0', s4 T9 = U9); (clear T9); (generalize pj0 U9 = o1', pj1 U9 = o2', lj2 U9 = o3'); (clear U9); intro F' hd0' hd1' hd2' hd3' N' l1))) | ((revert N' l1); (revert cells'); (refine cellsK5 ?_); intro o0' o1' o2' o3' o4' hd0' hd1' hd2' hd3' hd4' N' l1; ((revert l1); (revert N'); (revert hd4'); (revert hd3'); (revert hd2'); (revert hd1'); (revert hd0'); (revert F'); (revert o4'); (revert o3'); (revert o2'); (revert o1'); (revert o0'); (revert tk'); (revert h'); (revert L'); ((refine hk8 (h := ?_)); (generalize hkT8 _ = T9); (generalize pj0 T9 = L', pj1 T9 = h', pj2 T9 = tk', pj3 T9 = o0', s4 T9 = U9); (clear T9); (generalize pj0 U9 = o1', pj1 U9 = o2', pj2 U9 = o3', lj3 U9 = o4'); (clear U9); intro F' hd0' hd1' hd2' hd3' hd4' N' l1))) | ((revert N' l1); (revert cells'); (refine cellsK6 ?_); intro o0' o1' o2' o3' o4' o5' hd0' hd1' hd2' hd3' hd4' hd5' N' l1; ((revert l1); (revert N'); (revert hd5'); (revert hd4'); (revert hd3'); (revert hd2'); (revert hd1'); (revert hd0'); (revert F'); (revert o5'); (revert o4'); (revert o3'); (revert o2'); (revert o1'); (revert o0'); (revert tk'); (revert h'); (revert L'); ((refine hk9 (h := ?_)); (generalize hkT9 _ = T9); (generalize pj0 T9 = L', pj1 T9 = h', pj2 T9 = tk', pj3 T9 = o0', s4 T9 = U9); (clear T9); (generalize pj0 U9 = o1', pj1 U9 = o2', pj2 U9 = o3', pj3 U9 = o4', s4 U9 = o5'); (clear U9); intro F' hd0' hd1' hd2' hd3' hd4' hd5' N' l1)))); (try simp only [List.cons_append, List.nil_append] at N'); (try k_lt l1); (try dsimp only); (try k_fold); (have hkm := HkMark.mk))
 w_strict k_steps
 all_goals first | (refine' wor_end hret (by assumption) (by assumption) ?hi ?hT ?m1 ?m2 ?m3 ?ne; (case hi => assumption); (case hT => assumption); (case m1 => k_mem); (case m2 => k_mem); (case m3 => k_mem); (case ne => assumption)) | w_report
end Mine
end
section
open PyProof.V PyProof.Rows.LCg
namespace Mine
def spread1 (a : Int) : Int := a.fmod 2 + (a.fdiv 2).fmod 2 * 8 + a.fdiv 4 * 64
def mulAll (as bs : List Int) : List Int := as.flatMap fun a => bs.map fun b => a * b
def weaveI (as bs : List Int) : List Int := mulAll (as.map spread1) bs
abbrev WeaQ (as bs : List Int) (v : Value) (led' : List (Addr × Obj)) : Prop := ∃ D vs n, v = .ref D ∧ led' = [(D, listOf vs.toArray n)] ∧ IntsAre vs (weaveI as bs)
theorem mulAll_snoc (as bs : List Int) (a : Int) : mulAll (as ++ [a]) bs = mulAll as bs ++ bs.map fun b => a * b := by unfold mulAll; simp
theorem mulAll_len (as bs : List Int) : (mulAll as bs).length = as.length * bs.length := by
 unfold mulAll
 induction as with
 | nil => simp
 | cons a r ih => simp only [List.flatMap_cons, List.length_append, ih, List.length_map, List.length_cons, Nat.succ_mul]; kaf_pre
theorem tk_succ {α : Type} {l : List α} {i : Nat} {a : α} (h : l[i]? = some a) : l.take (i + 1) = l.take i ++ [a] := by rw [List.take_add_one, h]; rfl
theorem mul_ok {a b : Int} (ha : 0 ≤ a ∧ a ≤ 100) : IntMulOk a b := IntMulOk.of_left (by have := bits_small (x := a) (by kaf_pre) (by kaf_pre); kaf_pre)
theorem spread_bd {as : List Int} (h : ∀ x ∈ as, 0 ≤ x ∧ x ≤ 7) : ∀ y ∈ as.map (fun k' => k'.fmod 2 + (k'.fdiv 2).fmod 2 * 8 + k'.fdiv 4 * 64), 0 ≤ y ∧ y ≤ 100 := by
 intro y hy
 obtain ⟨x, hx, rfl⟩ := List.mem_map.mp hy
 have hb := h x hx
 have key : ∀ x ∈ [(0 : Int), 1, 2, 3, 4, 5, 6, 7], 0 ≤ x.fmod 2 + (x.fdiv 2).fmod 2 * 8 + x.fdiv 4 * 64 ∧ x.fmod 2 + (x.fdiv 2).fmod 2 * 8 + x.fdiv 4 * 64 ≤ 100 := by decide
 exact key x (m8 hb)
theorem wea_end {R : Result → Shared → Prop} {s : Shared} {g h' : Heap} {L D : Addr} {m : Str → Option Value} {news : List (Addr × Obj)} {tk : Nat} {ys : List Value} {as bs : List Int}
  (hret : RetG R s g (WeaQ as bs)) (F : Fr g L h' m) (N : News g L h' news) (m1 : (D, lst ys) ∈ news) (hi : IntsAre ys (weaveI as bs)) :
  R (.ok (.ret (.ref D))) { s with heap := h', toks := tk } :=
 ret_end (led' := [(D, listOf ys.toArray ys.length)]) hret F N (fun p hp => by rw [List.mem_singleton.mp hp]; exact m1) ⟨D, ys, ys.length, rfl, rfl, hi⟩
def YInt (x : Int) (P : Value → Shared → Prop) (y : Value) (s : Shared) : Prop := ∃ ty, y = .int x ty ∧ P y s
section
variable {prog : Program} {w : World} {A : Around}
abbrev WP1 (as bs : List Int) (i : Nat) (ys : List Value) (_ : Unit) : Prop := IntsAre ys (mulAll (as.take i) bs)
abbrev WP2 (as bs : List Int) (i : Nat) (a : Int) (I : Addr) (news : List (Addr × Obj)) (j : Nat) (ys : List Value) (_ : Unit) : Prop := IntsAre ys (mulAll (as.take i) bs ++ (bs.take j).map fun b => a * b) ∧ AllNe I news
theorem weave_cr {h₀ : Heap} {L I C D : Addr} {m : Str → Option Value} {keep1 : List (Addr × Obj)} {c1 : Code} {x1 x2 : Str} {p2 : Pos} {elt t1 i1 i2 : Expr} {scope : Scope} {cp : Pos} {cenv : Env} {E : Value → Shared → Prop} {s : Shared} {Fin : List Value → List (Addr × Obj) → Prop} {vs : List Value} {as : List Int} {news : List (Addr × Obj)} (bs : List Int)
  (hia : IntsAre vs as) (hk : SubL keep1 news)
  (hh : A.handled = none) (hC : cenv.locals = C) (hCD : C ≠ D) (hCL : C ≠ L) (hC₀ : h₀.get? C = none) (hDL : D ≠ L) (hD₀ : h₀.get? D = none) (hIC : I ≠ C) (hID : I ≠ D)
  (hs2 : ∀ x, foldedSetIterable i2 cenv x = pure x) (T : Asg prog w A (.Name x2 p2) cenv (fun _ => True) (GName x2))
  (turn : ∀ (i : Nat) (k : Int) (t : Tok) (ys : List Value) (oC oI : Obj) (m₂ : Str → Option Value) (h : Heap) (tk : Nat), as[i]? = some k → WP1 as bs i ys () → m₂ x1 = some (.int k t) → NsObj oC m₂ → Fr h₀ L h m → OffCD C D news → AllNe I news →
   News h₀ L h ((I, oI) :: (C, oC) :: (D, lst ys) :: news) →
   wpAny (model prog w) A (eval i2 cenv) (It2 prog w A h₀ L m { s with heap := h, toks := tk } I oI C oC D ys (fun _ : Unit => news) () (fun m' => m' x1 = some (.int k t)) (GName x2) (fun J => .compLoop (.ListComp elt [⟨t1, i1, [], 0⟩, ⟨.Name x2 p2, i2, [], 0⟩] scope cp) 1 (.ref J) (.ref D) cenv) (fun J => emitB elt (.ref D) cenv (.compLoop (.ListComp elt [⟨t1, i1, [], 0⟩, ⟨.Name x2 p2, i2, [], 0⟩] scope cp) 1 (.ref J) (.ref D) cenv)) (WP1 as bs (i + 1))) E { s with heap := h, toks := tk })
  (fin : ∀ ys, IntsAre ys (mulAll as bs) → Fin ys news) :
  CR prog w A h₀ L m C D [(I, "list_iterator")] keep1 (fun _ => True) (GName x1) c1
   (eval i2 cenv >>= fun x => standAt i2.pos >>= fun _ => foldedSetIterable i2 cenv x >>= fun x => holding [x] (pyIter x) >>= fun it2 => runOwn (.compStart (.ListComp elt [⟨t1, i1, [], 0⟩, ⟨.Name x2 p2, i2, [], 0⟩] scope cp) 1 it2 (.ref D) cenv) cenv >>= fun _ => again c1)
   E s Fin (vs.map .val) [] news := by
 refine cr2_fold (fun _ : Unit => news) (WP1 as bs) hh hC hCD hCL hC₀ hDL hD₀ hIC hID hs2 T (fun J => turn_2b _ _ _ _ _ _ _ _ _ _) (fun _ => hk) ?_ ?_ vs.length 0 [] () (by kaf_pre) .nil
 ·intro i v ys q oC oI m₂ h tk hv hP hx hoC F off ai N
  obtain ⟨k, t, rfl, hk'⟩ := IntsAre.at hia i v hv
  exact turn i k t ys oC oI m₂ h tk hk' hP hx hoC F off ai N
 ·intro ys q hP
  have q : IntsAre ys (mulAll (as.take vs.length) bs) := hP
  rw [hia.length, List.take_length] at q
  exact fin ys q
theorem weave_in {h₀ h' : Heap} {L I C D l2 : Addr} {m : Str → Option Value} {s₁ : Shared} {oI oC : Obj} {ys0 : List Value} {x1 x2 : Str} {elt : Expr} {cenv : Env} {c2 : Addr → Code} {tk' : Nat} {us : List Value} {as bs : List Int} {news : List (Addr × Obj)} {i : Nat} {k : Int} {t : Tok}
  (F : Fr h₀ L h' m) (N : News h₀ L h' ((I, oI) :: (C, oC) :: (D, lst ys0) :: news)) (hl : h₀.IsList l2 us.toArray) (hib : IntsAre us bs) (hk : as[i]? = some k) (hP : WP1 as bs i ys0 ()) (ai : AllNe I news) (hx : x1 ≠ x2) (hCD : C ≠ D) (hIC : I ≠ C) (hID : I ≠ D) (hla : as.length ≤ 20) (hlb : bs.length ≤ 20) (hba : ∀ x ∈ as, 0 ≤ x ∧ x ≤ 100)
  (turn : ∀ (J : Addr) (s₂ : Shared) (E' : Value → Shared → Prop) (j : Nat) (b : Int) (tb : Tok) (ys : List Value) (oC oJ : Obj) (m₂ : Str → Option Value) (h : Heap) (tk : Nat), bs[j]? = some b → IntMulOk k b → IntsAre ys (mulAll (as.take i) bs ++ (bs.take j).map fun b => k * b) → m₂ x1 = some (.int k t) → m₂ x2 = some (.int b tb) → NsObj oC m₂ → Fr h₀ L h m →
   News h₀ L h ((J, oJ) :: (C, oC) :: (D, lst ys) :: (I, oI) :: news) →
   wpAny (model prog w) A (eval elt cenv) (YInt (k * b) (CSame h₀ L m { s₂ with heap := h, toks := tk } [(J, oJ)] C oC D ys ((I, oI) :: news) (fun _ => True))) E' { s₂ with heap := h, toks := tk }) :
  It2 prog w A h₀ L m s₁ I oI C oC D ys0 (fun _ : Unit => news) () (fun m' => m' x1 = some (.int k t)) (GName x2) c2 (fun J => emitB elt (.ref D) cenv (c2 J)) (WP1 as bs (i + 1)) (.ref l2) { s₁ with heap := h', toks := tk' } := by
 refine It2.intro [] F N (hl.at fun o e => F.keep _ _ e) trivial (.inl ⟨_, hl.choose_spec.1⟩) fun J s₂ E' hJ => ?_
 have hlen : ∀ (n : Nat), (mulAll (as.take i) bs ++ (bs.take n).map fun b => k * b).length ≤ 1000 := fun n => by
  have h1 : (as.take i).length ≤ 20 := by rw [List.length_take]; kaf_pre
  have h2 : (bs.take n).length ≤ 20 := by rw [List.length_take]; kaf_pre
  have h3 : (as.take i).length * bs.length ≤ 20 * 20 := Nat.mul_le_mul h1 hlb
  rw [List.length_append, mulAll_len, List.length_map]
  kaf_pre
 refine inner_fold (q0 := ()) (oI := oI) (oC := oC) (fun _ : Unit => news) (WP2 as bs i k I news) _ hx hCD hIC hID hJ (fun n ys _ h => ?_) (fun _ => trivial) (fun _ _ _ h => h.2) ?_ ⟨by simpa using hP, ai⟩ ?_
 ·have e := h.1.length
  have := hlen n
  rw [PySem.sizeLine_eq]
  kaf_pre
 ·intro j v ys _ oC oJ m₂ h tk hv hP2 h1 h2 hoC F' off hIJ aj N'
  obtain ⟨b, tb, rfl, hb⟩ := IntsAre.at hib j v hv
  refine wpAny_mono (turn J s₂ E' j b tb ys oC oJ m₂ h tk hb (mul_ok (hba _ (List.mem_of_getElem? hk))) hP2.1 h1 h2 hoC F' N') (fun y s₃ hy => ?_) fun _ _ e => e
  obtain ⟨ty, rfl, h9, tk9, rfl, F9, N9, _⟩ := hy
  refine ⟨(), h9, tk9, rfl, F9, N9, ⟨⟨hIC, hID⟩, off⟩, ⟨hIJ, aj⟩, ?_, ai⟩
  rw [tk_succ hb, List.map_append, ← List.append_assoc]
  exact IntsAre.append hP2.1 (.cons _ _ .nil)
 ·intro ys _ h
  have q := h.1
  rw [hib.length, List.take_length] at q
  show IntsAre ys (mulAll (as.take (i + 1)) bs)
  rw [tk_succ hk, mulAll_snoc]
  exact q
end
end Mine
end
section
namespace Mine
theorem weave_w : ∀ (w : World) (loose : List Str) (mean : ExcName → Option Value) (mg mb : Str → Option Value) (dp un : Nat) (gd : Option (List Code)) (outer : List Env) (base g : Heap) (s : Shared) (R : Result → Shared → Prop) (a b : Addr) (vs us : List Value) (as bs : List Int)
  (B : Below (arX dp un gd outer) base outer g) (X : (hd.heap_1 w.params).In g) (T : Top topProg loose mean mg mb g) (hkg : ∀ b o, g.get? b = some o → s.heap.get? b = some o) (hsz : g.objs.size ≤ s.heap.objs.size) (hdp : dp + 120 < recursionLimit) (hun : un + 800 < cLine) (hled : ∀ p ∈ ([] : List (Addr × Obj)), s.heap.get? p.1 = some p.2 ∧ g.get? p.1 = none) (ha : g.IsList a vs.toArray) (hb : g.IsList b us.toArray) (hia : IntsAre vs as) (hib : IntsAre us bs) (hla : as.length ≤ 20) (hlb : bs.length ≤ 20) (hba : ∀ x ∈ as, 0 ≤ x ∧ x ≤ 7) (hbb : ∀ x ∈ bs, 0 ≤ x ∧ x ≤ 100)
  (hret : RetG R s g (WeaQ as bs)),
  codeAny (model PySem.Challenge.rw_sn0104_01.row.toRowW.prog w) (arX dp un gd outer) (.call (.ref 341) ⟨[.ref a, .ref b], []⟩) R s := by
 k_with_none
 k_with "eval ListComp" => (k_here; (with_reducible show wpAny _ _ (eval (Expr.ListComp _ [_, _] _ _) _) _ _ _); k_dflt (refine ListComp_any (F₀ := by k_asm) (by rfl) (by rfl) (by decide) ?_))
 k_with "CSrc" => (k_here; k_dflt (refine' csrc_list (fun I C D => turn_2a _ _ _ _ _ _ _ _ _ _ _) ?zqca ?zqcb ?zqcc ?zqcd ?zqce ?zqcf ?zqcg ?zqch ?zqci ?zqcj ?_; (case zqca => exact fun C => asg_name rfl rfl); (case zqcb => exact fun _ => trivial); (case zqcc => decide); (case zqcd => rfl); (case zqce => rfl); (case zqcf => k_asm); (case zqcg => k_asm); (case zqch => k_mem); (case zqci => rfl); (case zqcj => rfl); k_whole; intro I' C' D' E' g' hI' hCD' hC0' hCL' hD0' hDL' hIC'))
 k_with "CR" => (((k_here; k_dflt (refine' weave_cr _ ?zqia ?zqk ?zqhh ?zqhC ?zqa ?zqb ?zqc ?zqd ?zqe ?zqf ?zqg ?zqh ?zqT (fun i' k' t' ys' oC' oI' m2' h' tk' hk' hP' hx' hC' F' off' ai' N' => ?_) (fun ys' hF' => ?_); (case zqia => assumption); (case zqk => k_subL); (case zqhh => rfl); (case zqhC => rfl); (case zqa => assumption); (case zqb => assumption); (case zqc => assumption); (case zqd => assumption); (case zqe => assumption); (case zqf => first | assumption | exact And.left (by assumption)); (case zqg => first | assumption | exact And.right (by assumption)); (case zqh => exact fun _ => rfl); (case zqT => exact asg_name rfl rfl)))); (all_goals (try (k_whole; (fail_if_success (refine dG ?_)); (walk_at "my hk"); (have hkm := HkMark.mk)))))
 k_with "It2" => (((k_here; k_dflt (refine' weave_in ?zqF ?zqN ?zqhl ?zqib ?zqhk ?zqhP ?zqai ?zqhx ?zqhCD ?zqhIC ?zqhID ?zqla ?zqlb ?zqba (fun J' s2' E' j' b' tb' ys' oC' oJ' m2' h' tk' hb' hmb' hys' hx1' hx2' hC' F' N' => ?_); (case zqF => k_asm); (case zqN => k_asm); (case zqhl => assumption); (case zqib => assumption); (case zqhk => assumption); (case zqhP => assumption); (case zqai => assumption); (case zqhx => decide); (case zqhCD => assumption); (case zqhIC => first | assumption | exact And.left (by assumption)); (case zqhID => first | assumption | exact And.right (by assumption)); (case zqla => (simp only [List.length_map]; assumption)); (case zqlb => assumption); (case zqba => exact spread_bd (by assumption))))); (all_goals (try (k_whole; (fail_if_success (refine dG ?_)); (walk_at "my hk"); (have hkm := HkMark.mk)))))
 k_with "binaryOp Mult int int" => (refine mul_int ?_ (by assumption))
 k_with "YInt" => (k_here; k_dflt (exact ⟨_, rfl, CSame.intro (by k_asm) (by k_asm) trivial⟩))
 w_top off
 k_fill
 ((refine hk19 (h := ?_)); (generalize hkT19 _ = T9); (generalize pj0 T9 = w, pj1 T9 = loose, pj2 T9 = mean, pj3 T9 = mg, s4 T9 = U9); (clear T9); (generalize pj0 U9 = mb, pj1 U9 = dp, pj2 U9 = un, pj3 U9 = gd, s4 U9 = T9); (clear U9); (generalize pj0 T9 = outer, pj1 T9 = base, pj2 T9 = g, pj3 T9 = s, s4 T9 = U9); (clear T9); (generalize pj0 U9 = R, pj1 U9 = a, pj2 U9 = b, pj3 U9 = vs, s4 U9 = T9); (clear U9); (generalize pj0 T9 = us, pj1 T9 = as, lj2 T9 = bs); (clear T9); intro B X T hkg hsz hdp hun hled ha hb hia hib hla hlb hba hbb hret)
 k_dflt (refine' enterC (led := []) hkg hsz ?kl ?k3 ?k5 ?k6 ?k7 ?k8 ?k9 ?kB ?kN ?_ ?c2 ?c3 ?c4; (case kl => exact hled); (case k3 => k_asm); (case k5 => k_asm); (case k6 => k_is); (case k7 => k_is); (case k8 => ktr_room); (case k9 => exact BindsTo.of_eq rfl); (case kN => decide +kernel); (case kB => exact rfl); (case c2 => exact rfl); (case c3 => exact rfl); (case c4 => exact rfl); k_whole; intro L' h' tk' cells' F' N' Y' l1; (first | ((revert N' l1); (revert cells'); (refine cellsK1 ?_); intro o0' hd0' N' l1; ((revert l1); (revert N'); (revert hd0'); (revert F'); (revert o0'); (revert tk'); (revert h'); (revert L'); ((refine hk4 (h := ?_)); (generalize hkT4 _ = T9); (generalize pj0 T9 = L', pj1 T9 = h', pj2 T9 = tk', lj3 T9 = o0'); (clear T9); intro F' hd0' N' l1))) | ((revert N' l1); (revert cells'); (refine cellsK2 ?_); intro o0' o1' hd0' hd1' N' l1; ((revert l1); (revert N'); (revert hd1'); (revert hd0'); (revert F'); (revert o1'); (revert o0'); (revert tk'); (revert h'); (revert L'); ((refine hk5 (h := ?_)); (generalize hkT5 _ = T9); (generalize pj0 T9 = L', pj1 T9 = h', pj2 T9 = tk', pj3 T9 = o0', s4 T9 = o1'); (clear T9); intro F' hd0' hd1' N' l1))) | ((revert N' l1); (revert cells'); (refine cellsK3 ?_); intro o0' o1' o2' hd0' hd1' hd2' N' l1; ((revert l1); (revert N'); (revert hd2'); (revert hd1'); (revert hd0'); (revert F'); (revert o2'); (revert o1'); (revert o0'); (revert tk'); (revert h'); (revert L'); ((refine hk6 (h := ?_)); (generalize hkT6 _ = T9); (generalize pj0 T9 = L', pj1 T9 = h', pj2 T9 = tk', pj3 T9 = o0', s4 T9 = U9); (clear T9); (generalize pj0 U9 = o1', lj1 U9 = o2'); (clear U9); intro F' hd0' hd1' hd2' N' l1))) | ((revert N' l1); (revert cells'); (refine cellsK4 ?_); intro o0' o1' o2' o3' hd0' hd1' hd2' hd3' N' l1; ((revert l1); (revert N'); (revert hd3'); (revert hd2'); (revert hd1'); (revert hd0'); (revert F'); (revert o3'); (revert o2'); (revert o1'); (revert o0'); (revert tk'); (revert h'); (revert L'); ((refine hk7 (h := ?_)); (generalize hkT7 _ = T9); (generalize pj0 T9 = L', pj1 T9 = h', pj2 T9 = tk', pj3 T9 = o0', s4 T9 = U9); (clear T9); (generalize pj0 U9 = o1', pj1 U9 = o2', lj2 U9 = o3'); (clear U9); intro F' hd0' hd1' hd2' hd3' N' l1))) | ((revert N' l1); (revert cells'); (refine cellsK5 ?_); intro o0' o1' o2' o3' o4' hd0' hd1' hd2' hd3' hd4' N' l1; ((revert l1); (revert N'); (revert hd4'); (revert hd3'); (revert hd2'); (revert hd1'); (revert hd0'); (revert F'); (revert o4'); (revert o3'); (revert o2'); (revert o1'); (revert o0'); (revert tk'); (revert h'); (revert L'); ((refine hk8 (h := ?_)); (generalize hkT8 _ = T9); (generalize pj0 T9 = L', pj1 T9 = h', pj2 T9 = tk', pj3 T9 = o0', s4 T9 = U9); (clear T9); (generalize pj0 U9 = o1', pj1 U9 = o2', pj2 U9 = o3', lj3 U9 = o4'); (clear U9); intro F' hd0' hd1' hd2' hd3' hd4' N' l1))) | ((revert N' l1); (revert cells'); (refine cellsK6 ?_); intro o0' o1' o2' o3' o4' o5' hd0' hd1' hd2' hd3' hd4' hd5' N' l1; ((revert l1); (revert N'); (revert hd5'); (revert hd4'); (revert hd3'); (revert hd2'); (revert hd1'); (revert hd0'); (revert F'); (revert o5'); (revert o4'); (revert o3'); (revert o2'); (revert o1'); (revert o0'); (revert tk'); (revert h'); (revert L'); ((refine hk9 (h := ?_)); (generalize hkT9 _ = T9); (generalize pj0 T9 = L', pj1 T9 = h', pj2 T9 = tk', pj3 T9 = o0', s4 T9 = U9); (clear T9); (generalize pj0 U9 = o1', pj1 U9 = o2', pj2 U9 = o3', pj3 U9 = o4', s4 U9 = o5'); (clear U9); intro F' hd0' hd1' hd2' hd3' hd4' hd5' N' l1)))); (try simp only [List.cons_append, List.nil_append] at N'); (try k_lt l1); (try dsimp only); (try k_fold); (have hkm := HkMark.mk))
 w_strict k_steps
 all_goals first | exact wea_end hret (by assumption) (by assumption) (by k_mem) (by assumption) | w_report
end Mine
end
section
namespace Mine
local macro_rules | `(tactic| walk_at "my ands") => `(tactic| first | (refine And.intro ?na ?nb; (case na => walk_at "my ands"); (case nb => walk_at "my ands")) | kpt_turns)
theorem packed_w : ∀ (w : World) (loose : List Str) (mean : ExcName → Option Value) (mg mb : Str → Option Value) (dp un : Nat) (gd : Option (List Code)) (outer : List Env) (base g : Heap) (s : Shared) (R : Result → Shared → Prop) (l : Addr) (vs : List Value) (ws : List Int) (n : Int) (t : Tok) (k : Nat) (p6 : Array Value) (c6 : Addr) (o6 : Obj)
  (B : Below (arX dp un gd outer) base outer g) (X : (hd.heap_1 w.params).In g) (T : Top topProg loose mean mg mb g) (hkg : ∀ b o, g.get? b = some o → s.heap.get? b = some o) (hsz : g.objs.size ≤ s.heap.objs.size) (hdp : dp + 120 < recursionLimit) (hun : un + 800 < cLine) (hled : ∀ p ∈ ([(l, listOf vs.toArray k), (61, tabObj p6), (c6, o6)] : List (Addr × Obj)), s.heap.get? p.1 = some p.2 ∧ g.get? p.1 = none) (hi : IntsAre vs ws) (hws : ∀ x ∈ ws, 0 ≤ x ∧ x ≤ 3) (hlw : ws.length ≤ 1000) (hn : 0 ≤ n ∧ n ≤ 16) (hl61 : @Ne Nat l 61) (hlc : @Ne Nat c6 l) (hT : TS 61 51 4 qD p6 c6 o6)
  (hret : RetG R s g (PckQ ws n)),
  codeAny (model PySem.Challenge.rw_sn0104_01.row.toRowW.prog w) (arX dp un gd outer) (.call (.ref 360) ⟨[.ref l, .int n t], []⟩) R s := by
 k_with_none
 k_with "call ref" => ((with_reducible show wpAny _ _ (call (Value.ref 66) _ _) _ _ _); (k_here; k_dflt (refine' use_c ?zqB ?zqF ?zqX ?zqN ?zqT ?zqhA ?zqhf ?zqhke (d2i_c _ _ _ _ _ _ _ _ _ _ _ _ _ _ ?zqp0 ?zqp1 ?zqp2 ?zqp3 ?zqp4 ?zqp5 ?zqp6 ?zqp7 ?zqp8) ?zqhled ?zqhrem ?zqhold ?_); (case zqhA => walk_at "hA"); (case zqhf => walk_at "hf"); (case zqhke => walk_at "hke"); (case zqB => walk_at "ka"); (case zqF => walk_at "ka"); (case zqX => walk_at "ka"); (case zqN => walk_at "ka"); (case zqT => walk_at "ka"); (case zqp8 => (k_dflt ((kbo_bools)))); (case zqhled => (k_dflt (k_allIn))); (case zqp0 => (k_dflt ((first | omega | ((try dsimp only); omega) | ktr_room)))); (case zqp1 => (k_dflt ((first | omega | ((try dsimp only); omega) | ktr_units)))); (case zqp2 => (k_dflt (exact IntsAre.cons _ _ (IntsAre.cons _ _ IntsAre.nil)))); (case zqp3 => (k_dflt ((simp only [List.length_cons, List.length_nil]; omega)))); (case zqp4 => (k_dflt ((intro x hx; simp only [List.mem_cons, List.not_mem_nil, or_false] at hx; rcases hx with hx | hx <;> (rw [hx]; assumption))))); (case zqp5 => (k_dflt (omega))); (case zqp6 => (k_dflt ((intro hx; simp at hx)))); (case zqp7 => (k_dflt (omega))); (case zqhrem => (k_dflt ((first | exact Rem.refl | kat_tups)))); (case zqhold => (k_dflt (exact fun _ _ _ => trivial))); k_whole; intro v9 h' tk' led' F' N' hne9 hP9; obtain ⟨t9, p9, c9, o9, hv9, hl9, hts⟩ := hP9; subst hv9 hl9; walk_at "u9"))
 k_with "eval ListComp" => (k_here; k_dflt (refine ListComp_any (F₀ := by k_asm) (by rfl) (by rfl) (by decide) ?_))
 k_with "CSrc" => (k_here; k_dflt (refine' csrc_list (fun I C D => turn_1 _ _ _ _ _ _ _ _) ?zqca ?zqcb ?zqcc ?zqcd ?zqce ?zqcf ?zqcg ?zqch ?zqci ?zqcj ?_; (case zqca => exact fun C => asg_name rfl rfl); (case zqcb => exact fun _ => trivial); (case zqcc => decide); (case zqcd => rfl); (case zqce => rfl); (case zqcf => k_asm); (case zqcg => k_asm); (case zqch => k_mem); (case zqci => rfl); (case zqcj => rfl); k_whole; intro I' C' D' E' g' hI' hCD' hC0' hCL' hD0' hDL' hIC'))
 k_with "CR" => (((k_here; k_dflt (refine' pk_cr ?zqhn ?zqhi ?zqhws ?zqhl ?zqhk ?zqcd ?zqdi ?zqhT ?zqe1 ?zqe2 ?zqe3 (fun k' t' ys' ps' c' o' oC' oI' m2' h' tk' P' hk0' hk3' hf' hd' hT' hcL' hcl' hL61' hP' hx' hC' F' off' ai' N' => ?_) (fun ys' ps' c' o' hy' hT' => ?_); (case zqhn => assumption); (case zqhi => assumption); (case zqhws => assumption); (case zqhl => assumption); (case zqhk => k_subL); (case zqcd => assumption); (case zqdi => exact Ne.symm (And.right (by assumption))); (case zqhT => assumption); (case zqe1 => first | assumption | omega); (case zqe2 => first | assumption | omega); (case zqe3 => omega); (all_goals (try simp only [OffCD, AllNe, and_true, and_assoc] at off' ai')); (all_goals (try ((revert off'); (try (keq_hits)); (intro hx9); (revert ai'); (try (keq_hits)); (intro hx9))))))); (all_goals (try (k_whole; (fail_if_success (refine dG ?_)); (walk_at "my hk"); (have hkm := HkMark.mk)))))
 k_with "CfEnd" => (k_here; k_dflt (refine' CfEnd.intro (_, _, _) ?zqF ?zqN ?zqhI ?zqhC ?zqhD ?zqhn ?zqoff ?zqai ?zqhP; (case zqhP => refine' pk_fin ?zqr0 ?zqr1 ?zqr2 ?zqr3; (case zqr0 => assumption); (case zqr1 => assumption); (case zqr2 => kpt_turns); (case zqr3 => kpt_turns)); (case zqF => k_asm); (case zqN => k_asm); (case zqhI => k_mem); (case zqhC => k_mem); (case zqhD => k_mem); (case zqhn => (dsimp only [ledP, List.cons_append, List.nil_append]; k_allIn)); (case zqoff => (simp only [ledP, List.cons_append, List.nil_append, OffCD, and_true]; walk_at "my ands")); (case zqai => (simp only [ledP, List.cons_append, List.nil_append, AllNe, and_true]; walk_at "my ands"))))
 w_top off
 k_fill
 ((refine hk22 (h := ?_)); (generalize hkT22 _ = T9); (generalize pj0 T9 = w, pj1 T9 = loose, pj2 T9 = mean, pj3 T9 = mg, s4 T9 = U9); (clear T9); (generalize pj0 U9 = mb, pj1 U9 = dp, pj2 U9 = un, pj3 U9 = gd, s4 U9 = T9); (clear U9); (generalize pj0 T9 = outer, pj1 T9 = base, pj2 T9 = g, pj3 T9 = s, s4 T9 = U9); (clear T9); (generalize pj0 U9 = R, pj1 U9 = l, pj2 U9 = vs, pj3 U9 = ws, s4 U9 = T9); (clear U9); (generalize pj0 T9 = n, pj1 T9 = t, pj2 T9 = k, pj3 T9 = p6, s4 T9 = U9); (clear T9); (generalize pj0 U9 = c6, lj1 U9 = o6); (clear U9); intro B X T hkg hsz hdp hun hled hi hws hlw hn hl61 hlc hT hret)
 k_dflt (refine' enterC (led := [(l, listOf vs.toArray k), (61, tabObj p6), (c6, o6)]) hkg hsz ?kl ?k3 ?k5 ?k6 ?k7 ?k8 ?k9 ?kB ?kN ?_ ?c2 ?c3 ?c4; (case kl => exact hled); (case k3 => k_asm); (case k5 => k_asm); (case k6 => k_is); (case k7 => k_is); (case k8 => ktr_room); (case k9 => exact BindsTo.of_eq rfl); (case kN => decide +kernel); (case kB => exact rfl); (case c2 => exact rfl); (case c3 => exact rfl); (case c4 => exact rfl); k_whole; intro L' h' tk' cells' F' N' Y' l1; (first | ((revert N' l1); (revert cells'); (refine cellsK1 ?_); intro o0' hd0' N' l1; ((revert l1); (revert N'); (revert hd0'); (revert F'); (revert o0'); (revert tk'); (revert h'); (revert L'); ((refine hk4 (h := ?_)); (generalize hkT4 _ = T9); (generalize pj0 T9 = L', pj1 T9 = h', pj2 T9 = tk', lj3 T9 = o0'); (clear T9); intro F' hd0' N' l1))) | ((revert N' l1); (revert cells'); (refine cellsK2 ?_); intro o0' o1' hd0' hd1' N' l1; ((revert l1); (revert N'); (revert hd1'); (revert hd0'); (revert F'); (revert o1'); (revert o0'); (revert tk'); (revert h'); (revert L'); ((refine hk5 (h := ?_)); (generalize hkT5 _ = T9); (generalize pj0 T9 = L', pj1 T9 = h', pj2 T9 = tk', pj3 T9 = o0', s4 T9 = o1'); (clear T9); intro F' hd0' hd1' N' l1))) | ((revert N' l1); (revert cells'); (refine cellsK3 ?_); intro o0' o1' o2' hd0' hd1' hd2' N' l1; ((revert l1); (revert N'); (revert hd2'); (revert hd1'); (revert hd0'); (revert F'); (revert o2'); (revert o1'); (revert o0'); (revert tk'); (revert h'); (revert L'); ((refine hk6 (h := ?_)); (generalize hkT6 _ = T9); (generalize pj0 T9 = L', pj1 T9 = h', pj2 T9 = tk', pj3 T9 = o0', s4 T9 = U9); (clear T9); (generalize pj0 U9 = o1', lj1 U9 = o2'); (clear U9); intro F' hd0' hd1' hd2' N' l1))) | ((revert N' l1); (revert cells'); (refine cellsK4 ?_); intro o0' o1' o2' o3' hd0' hd1' hd2' hd3' N' l1; ((revert l1); (revert N'); (revert hd3'); (revert hd2'); (revert hd1'); (revert hd0'); (revert F'); (revert o3'); (revert o2'); (revert o1'); (revert o0'); (revert tk'); (revert h'); (revert L'); ((refine hk7 (h := ?_)); (generalize hkT7 _ = T9); (generalize pj0 T9 = L', pj1 T9 = h', pj2 T9 = tk', pj3 T9 = o0', s4 T9 = U9); (clear T9); (generalize pj0 U9 = o1', pj1 U9 = o2', lj2 U9 = o3'); (clear U9); intro F' hd0' hd1' hd2' hd3' N' l1))) | ((revert N' l1); (revert cells'); (refine cellsK5 ?_); intro o0' o1' o2' o3' o4' hd0' hd1' hd2' hd3' hd4' N' l1; ((revert l1); (revert N'); (revert hd4'); (revert hd3'); (revert hd2'); (revert hd1'); (revert hd0'); (revert F'); (revert o4'); (revert o3'); (revert o2'); (revert o1'); (revert o0'); (revert tk'); (revert h'); (revert L'); ((refine hk8 (h := ?_)); (generalize hkT8 _ = T9); (generalize pj0 T9 = L', pj1 T9 = h', pj2 T9 = tk', pj3 T9 = o0', s4 T9 = U9); (clear T9); (generalize pj0 U9 = o1', pj1 U9 = o2', pj2 U9 = o3', lj3 U9 = o4'); (clear U9); intro F' hd0' hd1' hd2' hd3' hd4' N' l1))) | ((revert N' l1); (revert cells'); (refine cellsK6 ?_); intro o0' o1' o2' o3' o4' o5' hd0' hd1' hd2' hd3' hd4' hd5' N' l1; ((revert l1); (revert N'); (revert hd5'); (revert hd4'); (revert hd3'); (revert hd2'); (revert hd1'); (revert hd0'); (revert F'); (revert o5'); (revert o4'); (revert o3'); (revert o2'); (revert o1'); (revert o0'); (revert tk'); (revert h'); (revert L'); ((refine hk9 (h := ?_)); (generalize hkT9 _ = T9); (generalize pj0 T9 = L', pj1 T9 = h', pj2 T9 = tk', pj3 T9 = o0', s4 T9 = U9); (clear T9); (generalize pj0 U9 = o1', pj1 U9 = o2', pj2 U9 = o3', pj3 U9 = o4', s4 U9 = o5'); (clear U9); intro F' hd0' hd1' hd2' hd3' hd4' hd5' N' l1)))); (try simp only [List.cons_append, List.nil_append] at N'); (try k_lt l1); (try dsimp only); (try k_fold); (have hkm := HkMark.mk))
 w_strict k_steps
 all_goals first | (refine' pck_end hret (by assumption) (by assumption) ?hi ?hT ?m1 ?m2 ?m3 ?n1 ?n2; (case hi => assumption); (case hT => assumption); (case m1 => k_mem); (case m2 => k_mem); (case m3 => k_mem); (case n1 => kpt_turns); (case n2 => kpt_turns)) | w_report
end Mine
end
section
open PyProof.V PyProof.Rows.LCg
namespace Mine
section
variable {prog : Program} {w : World} {A : Around}
abbrev testB (ct elt : Expr) (acc : Value) (env : Env) (c : Code) : Sem _root_.PySem.Fin :=
 (forIn [ct] true (fun c r => if r = true then do let ok ← isTrue c env (eval c env); pure (ForInStep.yield ok) else pure (ForInStep.yield r)) >>= fun ok =>
  (if ok = true then (eval elt env >>= fun x => call (.builtin "list.append") [acc, x] >>= fun _ => pure ()) >>= fun _ => again c else again c))
theorem test_at {ct elt : Expr} {acc : Value} {cenv : Env} {c : Code} {Q : Shared → Prop} {E : Value → Shared → Prop} {s : Shared}
  (h : wpAny (model prog w) A (isTrue ct cenv (eval ct cenv)) (fun b s' => if b = true then wpAny (model prog w) A (eval elt cenv) (fun y s₁ => wpAny (model prog w) A (call (.builtin "list.append") [acc, y]) (fun _ s₂ => Q s₂) E s₁) E s' else Q s') E s) :
  wpAny (model prog w) A (testB ct elt acc cenv c) (fun f s₃ => f = .again c ∧ Q s₃) E s := by
 refine wpAny_bind ?_
 rw [List.forIn_cons]
 simp only [if_true, List.forIn_nil]
 refine wpAny_bind (wpAny_bind (wpAny_mono h (fun b s' hb => wpAny_pure (wpAny_pure ?_)) fun _ _ e => e))
 cases b with
 | true =>
  rw [if_pos rfl] at hb ⊢
  exact emit_at hb
 | false =>
  rw [if_neg (by decide)] at hb ⊢
  exact wpAny_pure ⟨rfl, hb⟩
def CfNo {σ : Type} (h₀ : Heap) (L : Addr) (m : Str → Option Value) (s₁ : Shared) (I : Addr) (oI : Obj) (C : Addr) (oC : Obj) (D : Addr) (ys : List Value) (Led : σ → List (Addr × Obj)) (P : List Value → σ → Prop) (s₂ : Shared) : Prop :=
 ∃ (c' : σ) (h' : Heap) (tk : Nat), s₂ = { s₁ with heap := h', toks := tk } ∧ Fr h₀ L h' m ∧ News h₀ L h' ((I, oI) :: (C, oC) :: (D, lst ys) :: Led c') ∧ OffCD C D (Led c') ∧ AllNe I (Led c') ∧ P ys c'
theorem cr_foldT {σ : Type} {h₀ : Heap} {L I C D : Addr} {m : Str → Option Value} {keep : List (Addr × Obj)} {kn : (Str → Option Value) → Prop} {c : Code} {x : Str} {ct elt : Expr} {cenv : Env} {E : Value → Shared → Prop} {s : Shared} {Fin : List Value → List (Addr × Obj) → Prop} {vs : List Value}
  (Led : σ → List (Addr × Obj)) (P : Nat → List Value → σ → Prop) (hkn : ∀ m₁ v, kn m₁ → kn (upd m₁ x v)) (hCD : C ≠ D) (hDI : D ≠ I) (hlen : ∀ i ys c, P i ys c → ys.length ≤ sizeLine) (hk : ∀ c, SubL keep (Led c))
  (turn : ∀ (i : Nat) (v : Value) (ys : List Value) (q : σ) (oC oI : Obj) (m₁ m₂ : Str → Option Value) (h : Heap) (tk : Nat), vs[i]? = some v → P i ys q → kn m₁ → m₂ = upd m₁ x v → NsObj oC m₂ → Fr h₀ L h m → OffCD C D (Led q) → AllNe I (Led q) →
   News h₀ L h ((I, oI) :: (C, oC) :: (D, lst ys) :: Led q) →
   wpAny (model prog w) A (isTrue ct cenv (eval ct cenv)) (fun b s' => if b = true then wpAny (model prog w) A (eval elt cenv) (CfEnd h₀ L m { s with heap := h, toks := tk } I oI C oC D ys Led (P (i + 1))) E s' else CfNo h₀ L m { s with heap := h, toks := tk } I oI C oC D ys Led (P (i + 1)) s') E { s with heap := h, toks := tk })
  (fin : ∀ ys q, P vs.length ys q → Fin ys (Led q)) :
  ∀ (j i : Nat) (ys : List Value) (q : σ), i + j = vs.length → P i ys q → CR prog w A h₀ L m C D [(I, "list_iterator")] keep kn (GName x) c (testB ct elt (.ref D) cenv c) E s Fin ((vs.drop i).map .val) ys (Led q) := by
 intro j
 induction j with
 | zero =>
  intro i ys q hij hP
  have e : i = vs.length := by kaf_pre
  subst e
  rw [List.drop_length]
  exact fin ys q hP
 | succ j ih =>
  intro i ys q hij hP
  have hlt : i < vs.length := by kaf_pre
  rw [List.drop_eq_getElem_cons hlt]
  rintro oC m₁ m₂ h tk hkn₁ hG hoC F off
  have hG' : m₂ = upd m₁ x vs[i] := hG
  have hkn₂ : kn m₂ := hG' ▸ hkn m₁ vs[i] hkn₁
  refine allObj_of fun its hits N ap => ?_
  obtain ⟨oI, rfl⟩ := objs_one hits
  refine test_at (wpAny_mono (turn i vs[i] ys q oC oI m₁ m₂ h tk (List.getElem?_eq_getElem hlt) hP hkn₁ hG' hoC F off (AllNe.of fun p hp => ap p hp (I, oI) (.head _)) N) (fun b s₂ hb => ?_) fun _ _ e => e)
  cases b with
  | true =>
   rw [if_pos rfl] at hb ⊢
   refine wpAny_mono hb (fun y s₃ hy => ?_) fun _ _ e => e
   obtain ⟨q', h', tk', rfl, F', N', off', ai', hP'⟩ := hy
   exact put_at hoC hkn₂ hCD (fun p hp => by rw [List.mem_singleton.mp hp]; exact hDI) (hlen i ys q hP)
    ⟨h', tk', Led q', rfl, F', N', off', fun p hp r hr => by rw [List.mem_singleton.mp hr]; exact ai'.mem p hp, hk q', ih (i + 1) _ q' (by kaf_pre) hP'⟩
  | false =>
   rw [if_neg (by decide)] at hb ⊢
   obtain ⟨q', h', tk', rfl, F', N', off', ai', hP'⟩ := hb
   exact ⟨h', tk', oC, m₂, ys, Led q', rfl, F', hoC, hkn₂, N', off', fun p hp r hr => by rw [List.mem_singleton.mp hr]; exact ai'.mem p hp, hk q', ih (i + 1) _ q' (by kaf_pre) hP'⟩
theorem inner_foldT {σ : Type} {h₀ : Heap} {L I C D J : Addr} {m : Str → Option Value} {oI oC : Obj} {keep : List (Addr × Obj)} {x1 x2 : Str} {v1 : Value} {ct elt : Expr} {cenv : Env} {E : Value → Shared → Prop} {s : Shared} {c : Code} {vs2 : List Value} {ys0 : List Value} {q0 : σ}
  (Led : σ → List (Addr × Obj)) (P2 : Nat → List Value → σ → Prop) (Nx : List Value → σ → Prop) (hx : x1 ≠ x2) (hCD : C ≠ D) (hJ : AllLt J ((I, oI) :: (C, oC) :: (D, lst ys0) :: Led q0)) (hlen : ∀ i ys q, P2 i ys q → ys.length ≤ sizeLine) (hk : ∀ q, SubL keep (Led q))
  (ha : ∀ i ys q, P2 i ys q → AllNe I (Led q))
  (turn : ∀ (i : Nat) (v : Value) (ys : List Value) (q : σ) (oC oJ : Obj) (m₂ : Str → Option Value) (h : Heap) (tk : Nat), vs2[i]? = some v → P2 i ys q → m₂ x1 = some v1 → m₂ x2 = some v → NsObj oC m₂ → Fr h₀ L h m → OffCD C D (Led q) → @Ne Nat I J → AllNe J (Led q) →
   News h₀ L h ((J, oJ) :: (C, oC) :: (D, lst ys) :: (I, oI) :: Led q) →
   wpAny (model prog w) A (isTrue ct cenv (eval ct cenv)) (fun b s' => if b = true then wpAny (model prog w) A (eval elt cenv) (CfEnd h₀ L m { s with heap := h, toks := tk } J oJ C oC D ys (fun q => (I, oI) :: Led q) (P2 (i + 1))) E s' else CfNo h₀ L m { s with heap := h, toks := tk } J oJ C oC D ys (fun q => (I, oI) :: Led q) (P2 (i + 1)) s') E { s with heap := h, toks := tk })
  (h0 : P2 0 ys0 q0) (hN : ∀ ys q, P2 vs2.length ys q → Nx ys q) :
  CR prog w A h₀ L m C D [(J, "list_iterator")] keep (fun m' => m' x1 = some v1) (GName x2) c (testB ct elt (.ref D) cenv c) E s (fun ys' news' => ∃ q', news' = (I, oI) :: Led q' ∧ AllNe I (Led q') ∧ Nx ys' q') (vs2.map .val) ys0 ((I, oI) :: Led q0) := by
 have hDJ : D ≠ J := Nat.ne_of_lt hJ.2.2.1
 refine cr_foldT (fun q => (I, oI) :: Led q) P2 (fun m₁ v h => by simp [upd, hx, h]) hCD hDJ hlen (fun q => SubL.cons_r (hk q)) ?_ (fun ys q hP => ⟨q, rfl, ha _ ys q hP, hN ys q hP⟩) vs2.length 0 ys0 q0 (by kaf_pre) h0
 intro i v ys q oC oJ m₁ m₂ h tk hv hP hkn hm hoC F off aj N
 exact turn i v ys q oC oJ m₂ h tk hv hP (by rw [hm]; simp [upd, hx, hkn]) (by rw [hm]; simp [upd]) hoC F off.2 aj.1 aj.2 N
end
end Mine
end
section
open PyProof.V PyProof.Rows.LCg
namespace Mine
abbrev SL := List Value × Nat × Obj
abbrev ledL (lw H : Addr) (rest : List (Addr × Obj)) (c : SL) : List (Addr × Obj) := (lw, listOf c.1.toArray c.2.1) :: (H, c.2.2) :: rest
abbrev stL : List Str := [Str.ofString "ups"]
abbrev PL (F : List Int → Int → List Int) (pos : List Int) (i : Nat) (c : SL) : Prop := IntsAre c.1 ((pos.take i).foldl F []) ∧ ∃ cv, c.2.2.data = .cell cv
section
variable {prog : Program} {w : World} {A : Around} {E : Value → Shared → Prop} {Q : Flow → Shared → Prop} {s : Shared} {env : Env} {h₀ : Heap}
theorem for_lost {target : Expr} {body : List Stmt} {l lw H K Gc : Addr} {ps : List Value} {pos : List Int} {m₀ : Str → Option Value} {oh0 ok og : Obj} {n0 : Nat} {cv0 : Option Value} (F : List Int → Int → List Int)
  (hh : A.handled = none) (Fr0 : Fr h₀ env.locals s.heap m₀) (N : News h₀ env.locals s.heap [(lw, listOf #[] n0), (H, oh0), (K, ok), (Gc, og)]) (hl : h₀.IsList l ps.toArray) (hi : IntsAre ps pos) (hcd : oh0.data = .cell cv0) (hpos : ∀ k ∈ pos, 0 ≤ k ∧ k ≤ 31)
  (turn : ∀ (i : Nat) (k : Int) (t : Tok) (vs : List Value) (n : Nat) (oh : Obj) (cv : Option Value) (u : Str → Option Value) (I : Addr) (oI : Obj) (h : Heap) (tk : Nat),
   pos[i]? = some k → (0 ≤ k ∧ k ≤ 31) → IntsAre vs ((pos.take i).foldl F []) → oh.data = .cell cv → (@LT.lt Nat _ lw I ∧ @LT.lt Nat _ H I ∧ @LT.lt Nat _ K I ∧ @LT.lt Nat _ Gc I) →
   Fr h₀ env.locals h (fun z => if stL.contains z then u z else m₀ z) → News h₀ env.locals h [(I, oI), (lw, listOf vs.toArray n), (H, oh), (K, ok), (Gc, og)] →
   wpAny (model prog w) A (assign target env (.int k t)) (fun _ s₂ => wpAny (model prog w) A (execs body env) (KfPost h₀ env.locals I oI { s with heap := h, toks := tk } (ledL lw H [(K, ok), (Gc, og)]) (fun _ => []) stL m₀ (PL F pos (i + 1)) Q) E s₂) E { s with heap := h, toks := tk })
  (done : ∀ (vs : List Value) (n : Nat) (oh : Obj) (u : Str → Option Value) (h : Heap) (tk : Nat), IntsAre vs (pos.foldl F []) → Fr h₀ env.locals h (fun z => if stL.contains z then u z else m₀ z) →
   News h₀ env.locals h [(lw, listOf vs.toArray n), (H, oh), (K, ok), (Gc, og)] → Q .next { s with heap := h, toks := tk }) :
  wpAny (model prog w) A (pyIter (.ref l)) (fun it s₂ => TurnsAt prog w A h₀ env target body Q E it s₂) E s := by
 refine for_fold (ledL lw H [(K, ok), (Gc, og)]) (fun _ => []) stL (PL F pos) ([], n0, oh0) hh Fr0 N (hl.at fun o e => Fr0.keep _ _ e) (.inl ⟨_, hl.choose_spec.1⟩) (fun p hp => hp) (fun _ hp => nomatch hp) ⟨.nil, _, hcd⟩ ?_ ?_
 ·rintro i v ⟨vs, n, oh⟩ u I oI h tk hlt hv ⟨h1, cv, h2⟩ F' N' ha
  obtain ⟨k, t, rfl, hk⟩ := IntsAre.at hi i v hv
  exact turn i k t vs n oh cv u I oI h tk hk (hpos k (List.mem_of_getElem? hk)) h1 h2 ⟨hlt (lw, _) (.head _), hlt (H, _) (.tail _ (.head _)), hlt (K, _) (.tail _ (.tail _ (.head _))), hlt (Gc, _) (.tail _ (.tail _ (.tail _ (.head _))))⟩ F' N'
 ·rintro ⟨vs, n, oh⟩ u h tk ⟨h1, _⟩ F' N'
  rw [hi.length, List.take_length] at h1
  exact done vs n oh u h tk h1 F' N'
theorem len_games {m : Str → Option Value} {L l : Addr} {gs : List Value} {games : List (List Int)} {Q : Value → Shared → Prop} {E : Value → Shared → Prop} (F : Fr h₀ L s.heap m) (hl : h₀.IsList l gs.toArray) (G : Games h₀ gs games) (hg : games.length ≤ 20)
  (h : Q (.int (games.length : Int) (s.toks + 1)) { s with toks := s.toks + 1 + 1 }) : wpAny (model prog w) A (call (.builtin "len") [.ref l]) Q E s := by
 have e : gs.length = games.length := G.length
 refine call_len_list (hl.at fun o e => F.keep _ _ e) (by rw [List.size_toArray, e]; kaf_pre) ?_
 rw [List.size_toArray, e]
 exact h
theorem item_game {m : Str → Option Value} {L l : Addr} {gs : List Value} {games : List (List Int)} {k : Int} {u : Tok} {value slice : Expr} {Q : Value → Shared → Prop} {E : Value → Shared → Prop} (F : Fr h₀ L s.heap m) (hl : h₀.IsList l gs.toArray) (G : Games h₀ gs games) (h0 : 0 ≤ k) (hk : k < games.length) (hg : games.length ≤ 20)
  (h : ∀ r ms ns, games[k.toNat]? = some ns → h₀.IsList r ms.toArray → IntsAre ms ns → Q (.ref r) s)
  (hs : subscripted slice false (.ref l) (.int k u) = operate [.ref l, .int k u] (getItem (.ref l) (.int k u)) := by with_unfolding_all rfl) :
  wpAny (model prog w) A (subscriptTail value slice (.ref l) (.int k u)) Q E s := by
 have e : gs.length = games.length := G.length
 have hl' := hl.at fun o e => F.keep _ o e
 have hlt : k.toNat < gs.length := by kaf_pre
 obtain ⟨ns, hns, r, ms, hr, hrl, hi⟩ := G.at k.toNat gs[k.toNat] (List.getElem?_eq_getElem hlt)
 refine tail_any hl'.typeIs slot_list_getitem.lookup (wpAny_getItem_list hl' h0 (by kaf_pre) (x := .ref r) ?_ (h r ms ns hns hrl hi)) hs
 rw [← hr]
 simp [hlt]
end
end Mine
end
section
open PyProof.V PyProof.Rows.LCg
namespace Mine
def upsL (n : Nat) (k : Int) : List Int := (rangeKs 0 ((n : Int) - 0).toNat).foldl (fun l k' => if Builtin.bitAnd (k.fdiv (2 ^ k'.toNat)) 1 = 1 then l ++ [k'] else l) []
def outL (games : List (List Int)) (lost : List Int) (k : Int) (ups : List Int) : List Int := ups.flatMap fun c => (games.getD c.toNat []).filter fun mv => decide (Builtin.bitXor k mv ∈ lost)
def lostStep (games : List (List Int)) (lost : List Int) (k : Int) : List Int := if outL games lost k (upsL games.length k) = [] then lost ++ [k] else lost
theorem fold_if_mem (q : Int → Prop) [DecidablePred q] : ∀ (ks acc : List Int) (x : Int), x ∈ ks.foldl (fun l k' => if q k' then l ++ [k'] else l) acc → x ∈ acc ∨ x ∈ ks
 | [], _, _, h => .inl h
 | a :: r, acc, x, h => by
  have h1 := fold_if_mem q r _ x h
  rcases h1 with h1 | h1
  ·dsimp only at h1
   split at h1
   ·rcases List.mem_append.mp h1 with h1 | h1
    ·exact .inl h1
    ·exact .inr (by rw [List.mem_singleton.mp h1]; exact .head _)
   ·exact .inl h1
  ·exact .inr (.tail _ h1)
theorem upsL_mem {n : Nat} {k x : Int} (h : x ∈ upsL n k) : 0 ≤ x ∧ x < n := by
 rcases fold_if_mem _ _ _ x h with h | h
 ·cases h
 ·have := mem_rangeKs h
  kaf_pre
theorem fold_if_len (q : Int → Prop) [DecidablePred q] : ∀ (ks acc : List Int), (ks.foldl (fun l k' => if q k' then l ++ [k'] else l) acc).length ≤ acc.length + ks.length
 | [], _ => Nat.le_refl _
 | a :: r, acc => by
  have h1 := fold_if_len q r (if q a then acc ++ [a] else acc)
  simp only [List.foldl_cons, List.length_cons]
  split at h1
  ·rename_i hq
   simp only [hq, if_true]
   rw [List.length_append] at h1
   simp at h1
   kaf_pre
  ·rename_i hq
   simp only [hq, if_false]
   kaf_pre
theorem upsL_len (n : Nat) (k : Int) : (upsL n k).length ≤ n := by
 have := fold_if_len (fun k' => Builtin.bitAnd (k.fdiv (2 ^ k'.toNat)) 1 = 1) (rangeKs 0 ((n : Int) - 0).toNat) []
 rw [rangeKs_length] at this
 simp at this
 unfold upsL
 simp
 exact this
theorem outL_snoc (games : List (List Int)) (lost : List Int) (k : Int) (ups : List Int) (c : Int) : outL games lost k (ups ++ [c]) = outL games lost k ups ++ (games.getD c.toNat []).filter fun mv => decide (Builtin.bitXor k mv ∈ lost) := by unfold outL; simp
theorem outL_len {games : List (List Int)} (lost : List Int) (k : Int) (hg : ∀ ns ∈ games, ns.length ≤ 20) : ∀ ups : List Int, (outL games lost k ups).length ≤ ups.length * 20
 | [] => Nat.zero_le _
 | c :: r => by
  have ih := outL_len lost k hg r
  have h1 : (games.getD c.toNat []).length ≤ 20 := by
   rcases Nat.lt_or_ge c.toNat games.length with h | h
   ·have e : games.getD c.toNat [] = games[c.toNat] := by simp [List.getD, h]
    rw [e]; exact hg _ (List.getElem_mem _)
   ·have e : games.getD c.toNat [] = [] := by simp [List.getD, h]
    rw [e]; exact Nat.zero_le _
  have h2 := List.length_filter_le (fun mv => decide (Builtin.bitXor k mv ∈ lost)) (games.getD c.toNat [])
  have e : outL games lost k (c :: r) = (games.getD c.toNat []).filter (fun mv => decide (Builtin.bitXor k mv ∈ lost)) ++ outL games lost k r := rfl
  rw [e, List.length_append, List.length_cons]
  kaf_pre
theorem tk_succ' {α : Type} {l : List α} {i : Nat} {a : α} (h : l[i]? = some a) : l.take (i + 1) = l.take i ++ [a] := by rw [List.take_add_one, h]; rfl
def YMem (x : Int) (X : Prop) (P : Value → Shared → Prop) (y : Value) (s : Shared) : Prop := ∃ ty, y = .int x ty ∧ X ∧ P y s
def NMem (h₀ : Heap) (L : Addr) (m : Str → Option Value) (s₁ : Shared) (led : List (Addr × Obj)) (X : Prop) (s₂ : Shared) : Prop := ∃ h' tk, s₂ = { s₁ with heap := h', toks := tk } ∧ Fr h₀ L h' m ∧ News h₀ L h' led ∧ X
section
variable {prog : Program} {w : World} {A : Around}
abbrev LP1 (games : List (List Int)) (lost : List Int) (k : Int) (ups : List Int) (i : Nat) (ys : List Value) (_ : Unit) : Prop := IntsAre ys (outL games lost k (ups.take i))
abbrev LP2 (games : List (List Int)) (lost : List Int) (k : Int) (ups : List Int) (i : Nat) (ns : List Int) (I : Addr) (news : List (Addr × Obj)) (j : Nat) (ys : List Value) (_ : Unit) : Prop :=
 IntsAre ys (outL games lost k (ups.take i) ++ (ns.take j).filter fun mv => decide (Builtin.bitXor k mv ∈ lost)) ∧ AllNe I news
theorem lost_cr {h₀ : Heap} {L I C D : Addr} {m : Str → Option Value} {keep1 : List (Addr × Obj)} {c1 : Code} {x1 x2 : Str} {p2 : Pos} {ct elt t1 i1 i2 : Expr} {scope : Scope} {cp : Pos} {cenv : Env} {E : Value → Shared → Prop} {s : Shared} {Fin : List Value → List (Addr × Obj) → Prop} {vs : List Value} {news : List (Addr × Obj)} {games : List (List Int)} {lost : List Int} {k : Int} {lv gs : List Value}
  (hG : Games h₀ gs games) (hlo : IntsAre lv lost) (hkk : 0 ≤ k ∧ k ≤ 31) (hia : IntsAre vs (upsL games.length k)) (hk : SubL keep1 news)
  (hh : A.handled = none) (hC : cenv.locals = C) (hCD : C ≠ D) (hCL : C ≠ L) (hC₀ : h₀.get? C = none) (hDL : D ≠ L) (hD₀ : h₀.get? D = none) (hIC : I ≠ C) (hID : I ≠ D)
  (hs2 : ∀ x, foldedSetIterable i2 cenv x = pure x) (T : Asg prog w A (.Name x2 p2) cenv (fun _ => True) (GName x2))
  (turn : ∀ (i : Nat) (c : Int) (t : Tok) (ys : List Value) (oC oI : Obj) (m₂ : Str → Option Value) (h : Heap) (tk : Nat), (upsL games.length k)[i]? = some c → 0 ≤ c → c < games.length → LP1 games lost k (upsL games.length k) i ys () → m₂ x1 = some (.int c t) → NsObj oC m₂ → Fr h₀ L h m → OffCD C D news → AllNe I news →
   News h₀ L h ((I, oI) :: (C, oC) :: (D, lst ys) :: news) →
   wpAny (model prog w) A (eval i2 cenv) (It2 prog w A h₀ L m { s with heap := h, toks := tk } I oI C oC D ys (fun _ : Unit => news) () (fun m' => m' x1 = some (.int c t)) (GName x2) (fun J => .compLoop (.ListComp elt [⟨t1, i1, [], 0⟩, ⟨.Name x2 p2, i2, [ct], 0⟩] scope cp) 1 (.ref J) (.ref D) cenv) (fun J => testB ct elt (.ref D) cenv (.compLoop (.ListComp elt [⟨t1, i1, [], 0⟩, ⟨.Name x2 p2, i2, [ct], 0⟩] scope cp) 1 (.ref J) (.ref D) cenv)) (LP1 games lost k (upsL games.length k) (i + 1))) E { s with heap := h, toks := tk })
  (fin : ∀ ys, IntsAre ys (outL games lost k (upsL games.length k)) → Fin ys news) :
  CR prog w A h₀ L m C D [(I, "list_iterator")] keep1 (fun _ => True) (GName x1) c1
   (eval i2 cenv >>= fun x => standAt i2.pos >>= fun _ => foldedSetIterable i2 cenv x >>= fun x => holding [x] (pyIter x) >>= fun it2 => runOwn (.compStart (.ListComp elt [⟨t1, i1, [], 0⟩, ⟨.Name x2 p2, i2, [ct], 0⟩] scope cp) 1 it2 (.ref D) cenv) cenv >>= fun _ => again c1)
   E s Fin (vs.map .val) [] news := by
 refine cr2_fold (fun _ : Unit => news) (LP1 games lost k (upsL games.length k)) hh hC hCD hCL hC₀ hDL hD₀ hIC hID hs2 T (fun J => turn_2t _ _ _ _ _ _ _ _ _ _ _) (fun _ => hk) ?_ ?_ vs.length 0 [] () (by kaf_pre) .nil
 ·intro i v ys q oC oI m₂ h tk hv hP hx hoC F off ai N
  obtain ⟨c, t, rfl, hc⟩ := IntsAre.at hia i v hv
  have hb := upsL_mem (List.mem_of_getElem? hc)
  exact turn i c t ys oC oI m₂ h tk hc hb.1 hb.2 hP hx hoC F off ai N
 ·intro ys q hP
  have q : IntsAre ys (outL games lost k ((upsL games.length k).take vs.length)) := hP
  rw [hia.length, List.take_length] at q
  exact fin ys q
theorem lost_in {h₀ h' : Heap} {L I C D l2 : Addr} {m : Str → Option Value} {s₁ : Shared} {oI oC : Obj} {ys0 : List Value} {x1 x2 : Str} {ct elt : Expr} {cenv : Env} {c2 : Addr → Code} {tk' : Nat} {us : List Value} {news : List (Addr × Obj)} {games : List (List Int)} {lost ups ns : List Int} {k c : Int} {t : Tok} {i : Nat}
  (hg : ∀ ns ∈ games, ns.length ≤ 20) (hgl : games.length ≤ 20) (hul : ups.length ≤ games.length) (F : Fr h₀ L h' m) (N : News h₀ L h' ((I, oI) :: (C, oC) :: (D, lst ys0) :: news)) (hl : h₀.IsList l2 us.toArray) (hib : IntsAre us ns) (hns : games[c.toNat]? = some ns) (hc : ups[i]? = some c) (hP : LP1 games lost k ups i ys0 ()) (ai : AllNe I news) (hx : x1 ≠ x2) (hCD : C ≠ D) (hIC : I ≠ C) (hID : I ≠ D)
  (turn : ∀ (J : Addr) (s₂ : Shared) (E' : Value → Shared → Prop) (j : Nat) (b : Int) (tb : Tok) (ys : List Value) (oC oJ : Obj) (m₂ : Str → Option Value) (h : Heap) (tk : Nat), ns[j]? = some b → m₂ x1 = some (.int c t) → m₂ x2 = some (.int b tb) → NsObj oC m₂ → Fr h₀ L h m →
   News h₀ L h ((J, oJ) :: (C, oC) :: (D, lst ys) :: (I, oI) :: news) →
   wpAny (model prog w) A (isTrue ct cenv (eval ct cenv)) (fun z s' => if z = true then wpAny (model prog w) A (eval elt cenv) (YMem b (Builtin.bitXor k b ∈ lost) (CSame h₀ L m { s₂ with heap := h, toks := tk } [(J, oJ)] C oC D ys ((I, oI) :: news) (fun _ => True))) E' s'
    else NMem h₀ L m { s₂ with heap := h, toks := tk } ((J, oJ) :: (C, oC) :: (D, lst ys) :: (I, oI) :: news) (¬ Builtin.bitXor k b ∈ lost) s') E' { s₂ with heap := h, toks := tk }) :
  It2 prog w A h₀ L m s₁ I oI C oC D ys0 (fun _ : Unit => news) () (fun m' => m' x1 = some (.int c t)) (GName x2) c2 (fun J => testB ct elt (.ref D) cenv (c2 J)) (LP1 games lost k ups (i + 1)) (.ref l2) { s₁ with heap := h', toks := tk' } := by
 refine It2.intro [] F N (hl.at fun o e => F.keep _ _ e) trivial (.inl ⟨_, hl.choose_spec.1⟩) fun J s₂ E' hJ => ?_
 have hlen : ∀ n : Nat, (outL games lost k (ups.take i) ++ (ns.take n).filter fun mv => decide (Builtin.bitXor k mv ∈ lost)).length ≤ 1000 := fun n => by
  have h1 := outL_len lost k hg (ups.take i)
  have h2 : (ups.take i).length ≤ 20 := by rw [List.length_take]; kaf_pre
  have h3 := List.length_filter_le (fun mv => decide (Builtin.bitXor k mv ∈ lost)) (ns.take n)
  have h4 : (ns.take n).length ≤ 20 := by
   have := hg ns (List.mem_of_getElem? hns)
   rw [List.length_take]; kaf_pre
  rw [List.length_append]
  kaf_pre
 refine inner_foldT (q0 := ()) (oI := oI) (oC := oC) (fun _ : Unit => news) (LP2 games lost k ups i ns I news) _ hx hCD hJ (fun n ys _ h => ?_) (fun _ => trivial) (fun _ _ _ h => h.2) ?_ ⟨by simpa using hP, ai⟩ ?_
 ·have e := h.1.length
  have := hlen n
  rw [PySem.sizeLine_eq]
  kaf_pre
 ·intro j v ys _ oC oJ m₂ h tk hv hP2 h1 h2 hoC F' off hIJ aj N'
  obtain ⟨b, tb, rfl, hb⟩ := IntsAre.at hib j v hv
  refine wpAny_mono (turn J s₂ E' j b tb ys oC oJ m₂ h tk hb h1 h2 hoC F' N') (fun z s₃ hz => ?_) fun _ _ e => e
  cases z with
  | true =>
   rw [if_pos rfl] at hz ⊢
   refine wpAny_mono hz (fun y s₄ hy => ?_) fun _ _ e => e
   obtain ⟨ty, rfl, hX, h9, tk9, rfl, F9, N9, _⟩ := hy
   refine ⟨(), h9, tk9, rfl, F9, N9, ⟨⟨hIC, hID⟩, off⟩, ⟨hIJ, aj⟩, ?_, ai⟩
   rw [tk_succ' hb, List.filter_append, ← List.append_assoc]
   refine IntsAre.append hP2.1 ?_
   simp only [List.filter, decide_eq_true hX]
   exact .cons _ _ .nil
  | false =>
   rw [if_neg (by decide)] at hz ⊢
   obtain ⟨h9, tk9, rfl, F9, N9, hX⟩ := hz
   refine ⟨(), h9, tk9, rfl, F9, N9, ⟨⟨hIC, hID⟩, off⟩, ⟨hIJ, aj⟩, ?_, ai⟩
   rw [tk_succ' hb, List.filter_append, ← List.append_assoc]
   simp only [List.filter, decide_eq_false hX, List.append_nil]
   exact hP2.1
 ·intro ys _ h
  have q := h.1
  rw [hib.length, List.take_length] at q
  show IntsAre ys (outL games lost k (ups.take (i + 1)))
  rw [tk_succ' hc, outL_snoc, show games.getD c.toNat [] = ns by simp [List.getD, hns]]
  exact q
theorem lostStep_len (games : List (List Int)) : ∀ (pos acc : List Int), (pos.foldl (lostStep games) acc).length ≤ acc.length + pos.length
 | [], _ => Nat.le_refl _
 | k :: r, acc => by
  have h1 := lostStep_len games r (lostStep games acc k)
  have h2 : (lostStep games acc k).length ≤ acc.length + 1 := by
   unfold lostStep
   split
   ·simp
   ·kaf_pre
  simp only [List.foldl_cons, List.length_cons]
  kaf_pre
theorem for_lost2 {Q : Flow → Shared → Prop} {E : Value → Shared → Prop} {s : Shared} {env : Env} {h₀ : Heap} {target : Expr} {body : List Stmt} {l lw H K Gc : Addr} {ps gs : List Value} {games : List (List Int)} {pos : List Int} {m₀ : Str → Option Value} {oh0 ok og : Obj} {n0 : Nat} {cv0 : Option Value} (G : Games h₀ gs games)
  (hh : A.handled = none) (Fr0 : Fr h₀ env.locals s.heap m₀) (N : News h₀ env.locals s.heap [(lw, listOf #[] n0), (H, oh0), (K, ok), (Gc, og)]) (hl : h₀.IsList l ps.toArray) (hi : IntsAre ps pos) (hcd : oh0.data = .cell cv0) (hpos : ∀ k ∈ pos, 0 ≤ k ∧ k ≤ 31) (hpl : pos.length ≤ 40)
  (turn : ∀ (i : Nat) (k : Int) (t : Tok) (vs : List Value) (n : Nat) (oh : Obj) (cv : Option Value) (u : Str → Option Value) (I : Addr) (oI : Obj) (h : Heap) (tk : Nat),
   pos[i]? = some k → (0 ≤ k ∧ k ≤ 31) → IntsAre vs ((pos.take i).foldl (lostStep games) []) → oh.data = .cell cv → (vs.toArray.size ≤ sizeLine) → (@LT.lt Nat _ lw I ∧ @LT.lt Nat _ H I ∧ @LT.lt Nat _ K I ∧ @LT.lt Nat _ Gc I) →
   Fr h₀ env.locals h (fun z => if stL.contains z then u z else m₀ z) → News h₀ env.locals h [(I, oI), (lw, listOf vs.toArray n), (H, oh), (K, ok), (Gc, og)] →
   wpAny (model prog w) A (assign target env (.int k t)) (fun _ s₂ => wpAny (model prog w) A (execs body env) (KfPost h₀ env.locals I oI { s with heap := h, toks := tk } (ledL lw H [(K, ok), (Gc, og)]) (fun _ => []) stL m₀ (PL (lostStep games) pos (i + 1)) Q) E s₂) E { s with heap := h, toks := tk })
  (done : ∀ (vs : List Value) (n : Nat) (oh : Obj) (u : Str → Option Value) (h : Heap) (tk : Nat), IntsAre vs (pos.foldl (lostStep games) []) → Fr h₀ env.locals h (fun z => if stL.contains z then u z else m₀ z) →
   News h₀ env.locals h [(lw, listOf vs.toArray n), (H, oh), (K, ok), (Gc, og)] → Q .next { s with heap := h, toks := tk }) :
  wpAny (model prog w) A (pyIter (.ref l)) (fun it s₂ => TurnsAt prog w A h₀ env target body Q E it s₂) E s := by
 refine for_lost (lostStep games) hh Fr0 N hl hi hcd hpos ?_ done
 intro i k t vs n oh cv u I oI h tk hk hkb hv hcd'
 refine turn i k t vs n oh cv u I oI h tk hk hkb hv hcd' ?_
 have h1 := hv.length
 have h2 := lostStep_len games (pos.take i) []
 have h3 : (pos.take i).length ≤ pos.length := by rw [List.length_take]; kaf_pre
 rw [List.size_toArray, PySem.sizeLine_eq]
 simp only [List.length_nil] at h2
 kaf_pre
theorem mem_of_any {l : List Int} {x : Int} (h : (l.any fun y => y == x) = true) : x ∈ l := by
 obtain ⟨y, hy, e⟩ := List.any_eq_true.mp h
 have : y = x := by simpa using e
 exact this ▸ hy
theorem not_mem_of_any {l : List Int} {x : Int} (h : (l.any fun y => y == x) = false) : ¬ x ∈ l := fun hm => by
 have : (l.any fun y => y == x) = true := List.any_eq_true.mpr ⟨x, hm, by simp⟩
 rw [h] at this; cases this
theorem kf_endL {h₀ h' : Heap} {L I lw H K Gc : Addr} {oI oh ok og : Obj} {s₁ : Shared} {m₀ m' : Str → Option Value} {tk : Nat} {all : List (Addr × Obj)} {games : List (List Int)} {pos : List Int} {i : Nat} {k : Int} {vs : List Value} {n : Nat} {cv : Option Value}
  (F : Fr h₀ L h' m') (N : News h₀ L h' all) (m1 : (I, oI) ∈ all) (m2 : (lw, listOf vs.toArray n) ∈ all) (m3 : (H, oh) ∈ all) (m4 : (K, ok) ∈ all) (m5 : (Gc, og) ∈ all)
  (hk : pos[i]? = some k) (hv : IntsAre vs (lostStep games ((pos.take i).foldl (lostStep games) []) k)) (hd : oh.data = .cell cv) (hlt : @LT.lt Nat _ lw I ∧ @LT.lt Nat _ H I ∧ @LT.lt Nat _ K I ∧ @LT.lt Nat _ Gc I) (hz : ∀ z, stL.contains z = false → m' z = m₀ z) :
  KfEnd h₀ L I oI s₁ (ledL lw H [(K, ok), (Gc, og)]) (fun _ => []) stL m₀ (PL (lostStep games) pos (i + 1)) { s₁ with heap := h', toks := tk } :=
 KfEnd.intro (vs, n, oh) F N m1 (List.forall_mem_cons.mpr ⟨m2, List.forall_mem_cons.mpr ⟨m3, List.forall_mem_cons.mpr ⟨m4, List.forall_mem_cons.mpr ⟨m5, List.forall_mem_nil _⟩⟩⟩⟩)
  ⟨Nat.ne_of_lt hlt.1, Nat.ne_of_lt hlt.2.1, Nat.ne_of_lt hlt.2.2.1, Nat.ne_of_lt hlt.2.2.2, True.intro⟩ (fun _ h => nomatch h) (fun z _ => hz z) ⟨by
   show IntsAre vs ((pos.take (i + 1)).foldl (lostStep games) [])
   rw [tk_succ' hk, List.foldl_append]
   exact hv, cv, hd⟩
theorem lost_yes {games : List (List Int)} {lost : List Int} {k : Int} {vs : List Value} {t : Tok} (hv : IntsAre vs lost) (h : decide (outL games lost k (upsL games.length k) = []) = true) : IntsAre (vs ++ [.int k t]) (lostStep games lost k) := by
 have h' := of_decide_eq_true h
 unfold lostStep
 rw [if_pos h']
 exact IntsAre.append hv (.cons _ _ .nil)
theorem lost_no {games : List (List Int)} {lost : List Int} {k : Int} {vs : List Value} (hv : IntsAre vs lost) (h : decide (outL games lost k (upsL games.length k) = []) = false) : IntsAre vs (lostStep games lost k) := by
 have h' := of_decide_eq_false h
 unfold lostStep
 rw [if_neg h']
 exact hv
abbrev LosQ (games : List (List Int)) (pos : List Int) (v : Value) (led' : List (Addr × Obj)) : Prop := ∃ D vs n, v = .ref D ∧ led' = [(D, listOf vs.toArray n)] ∧ IntsAre vs (pos.foldl (lostStep games) [])
theorem los_end {R : Result → Shared → Prop} {s : Shared} {g h' : Heap} {L D : Addr} {m : Str → Option Value} {news : List (Addr × Obj)} {tk n : Nat} {vs : List Value} {games : List (List Int)} {pos : List Int}
  (hret : RetG R s g (LosQ games pos)) (F : Fr g L h' m) (N : News g L h' news) (hi : IntsAre vs (pos.foldl (lostStep games) [])) (m1 : (D, listOf vs.toArray n) ∈ news) :
  R (.ok (.ret (.ref D))) { s with heap := h', toks := tk } :=
 ret_end (led' := [(D, listOf vs.toArray n)]) hret F N (fun p hp => by rw [List.mem_singleton.mp hp]; exact m1) ⟨D, vs, n, rfl, rfl, hi⟩
end
end Mine
end
local macro_rules | `(tactic| walk_at "my upd") => `(tactic| first | (refine' Upd.head ?a; (case a => (refine AllNe.mem ?_; kfm_turns))) | (refine' Upd.tail ?a ?b; (case a => kpt_turns); (case b => walk_at "my upd")))
section
namespace Mine
theorem lost_w : ∀ (w : World) (loose : List Str) (mean : ExcName → Option Value) (mg mb : Str → Option Value) (dp un : Nat) (gd : Option (List Code)) (outer : List Env) (base g : Heap) (s : Shared) (R : Result → Shared → Prop) (l lp : Addr) (gs ps : List Value) (games : List (List Int)) (pos : List Int)
  (B : Below (arX dp un gd outer) base outer g) (X : (hd.heap_1 w.params).In g) (T : Top topProg loose mean mg mb g) (hkg : ∀ b o, g.get? b = some o → s.heap.get? b = some o) (hsz : g.objs.size ≤ s.heap.objs.size) (hdp : dp + 120 < recursionLimit) (hun : un + 800 < cLine) (hled : ∀ p ∈ ([] : List (Addr × Obj)), s.heap.get? p.1 = some p.2 ∧ g.get? p.1 = none) (hl : g.IsList l gs.toArray) (hp : g.IsList lp ps.toArray) (G : Games g gs games) (hi : IntsAre ps pos) (hpb : ∀ k ∈ pos, 0 ≤ k ∧ k ≤ 31) (hgl : games.length ≤ 20) (hpl : pos.length ≤ 40) (hgn : ∀ ns ∈ games, ns.length ≤ 20)
  (hret : RetG R s g (LosQ games pos)),
  codeAny (model PySem.Challenge.rw_sn0104_01.row.toRowW.prog w) (arX dp un gd outer) (.call (.ref 370) ⟨[.ref l, .ref lp], []⟩) R s := by
 k_with_none
 k_with "exec For Name Name cons nil" => (k_here; (rename Fr _ _ _ _ => lF'); (with_unfolding_all refine' For_turns lF' ?_; k_whole))
 k_with "exec Assign cons ListComp" => (k_here; (k_dflt (refine LCt.Assign_ListComp_T (F₀ := by k_asm) (by rfl) (by with_unfolding_all rfl) (by with_unfolding_all rfl) (by decide) (by rfl) (by decide) (by rfl) (by rfl) (by rfl) ?_)))
 k_with "call builtin:len" => (k_here; k_dflt (refine' len_games ?zqF ?zqhl ?zqG ?zqhg ?_; (case zqF => k_asm); (case zqhl => assumption); (case zqG => assumption); (case zqhg => assumption); k_whole))
 k_with "subscriptTail" => (k_here; k_dflt (refine' item_game ?zqF ?zqhl ?zqG ?zqh0 ?zqhk ?zqhg ?_ ?zqhs; (case zqhs => with_unfolding_all rfl); (case zqF => k_asm); (case zqhl => assumption); (case zqG => assumption); (case zqh0 => first | assumption | omega); (case zqhk => first | assumption | omega); (case zqhg => assumption); k_whole; intro r' ms' ns' hns' hr' hi'))
 k_with "eval ListComp" => (k_here; (with_reducible show wpAny _ _ (eval (Expr.ListComp _ [_, _] _ _) _) _ _ _); k_dflt (refine ListComp_any (F₀ := by k_asm) (by rfl) (by rfl) (by decide) ?_))
 k_with "CSrc" => (k_here; k_dflt (refine' csrc_list (fun I C D => turn_2a _ _ _ _ _ _ _ _ _ _ _) ?zqca ?zqcb ?zqcc ?zqcd ?zqce ?zqcf ?zqcg ?zqch ?zqci ?zqcj ?_; (case zqca => exact fun C => asg_name rfl rfl); (case zqcb => exact fun _ => trivial); (case zqcc => decide); (case zqcd => rfl); (case zqce => rfl); (case zqcf => k_asm); (case zqcg => k_asm); (case zqch => k_mem); (case zqci => rfl); (case zqcj => rfl); k_whole; intro I' C' D' E' g' hI' hCD' hC0' hCL' hD0' hDL' hIC'))
 k_with "CR" => (((k_here; k_dflt (refine' lost_cr ?zqG ?zqlo ?zqkk ?zqia ?zqk ?zqhh ?zqhC ?zqa ?zqb ?zqc ?zqd ?zqe ?zqf ?zqg ?zqh ?zqT (fun i' c' t' ys' oC' oI' m2' h' tk' hc' hc0' hc1' hP' hx' hC' F' off' ai' N' => ?_) (fun ys' hF' => ?_); (case zqG => assumption); (case zqlo => exact (by assumption : IntsAre _ (List.foldl (lostStep _) _ _))); (case zqia => assumption); (case zqkk => assumption); (case zqk => k_subL); (case zqhh => rfl); (case zqhC => rfl); (case zqa => assumption); (case zqb => assumption); (case zqc => assumption); (case zqd => assumption); (case zqe => assumption); (case zqf => first | assumption | exact And.left (by assumption)); (case zqg => first | assumption | exact And.right (by assumption)); (case zqh => exact fun _ => rfl); (case zqT => exact asg_name rfl rfl)))); (all_goals (try (k_whole; (fail_if_success (refine dG ?_)); (walk_at "my hk"); (have hkm := HkMark.mk)))))
 k_with "It2" => (((k_here; k_dflt (refine' lost_in ?zqhg ?zqgl ?zqul ?zqF ?zqN ?zqhl ?zqib ?zqns ?zqhc ?zqhP ?zqai ?zqhx ?zqhCD ?zqhIC ?zqhID (fun J' s2' E' j' b' tb' ys' oC' oJ' m2' h' tk' hb' hx1' hx2' hC' F' N' => ?_); (case zqhg => assumption); (case zqgl => assumption); (case zqhP => assumption); (case zqhc => assumption); (case zqul => exact upsL_len _ _); (case zqF => k_asm); (case zqN => k_asm); (case zqhl => assumption); (case zqib => assumption); (case zqns => assumption); (case zqai => assumption); (case zqhx => decide); (case zqhCD => assumption); (case zqhIC => first | assumption | exact And.left (by assumption)); (case zqhID => first | assumption | exact And.right (by assumption))))); (all_goals (try (k_whole; (fail_if_success (refine dG ?_)); (walk_at "my hk"); (have hkm := HkMark.mk)))))
 k_with "YMem" => (k_here; k_dflt (exact ⟨_, rfl, mem_of_any (by assumption), CSame.intro (by k_asm) (by k_asm) trivial⟩))
 k_with "NMem" => (k_here; k_dflt (exact ⟨_, _, rfl, by k_asm, by k_asm, not_mem_of_any (by assumption)⟩))
 k_with "call builtin:list.append" => (k_here; k_dflt (refine' append_K ?zqk1 ?zqk2 ?zqk3 ?_ ?zqz; (case zqk1 => k_asm); (case zqk2 => k_asm); (case zqk3 => walk_at "my upd"); (case zqz => assumption); k_whole); intro h' F' N'; (try simp only [List.push_toArray] at N'))
 k_with "KfEnd" => (k_dflt (first | (refine' kf_endL ?zqF ?zqN ?zqm1 ?zqm2 ?zqm3 ?zqm4 ?zqm5 ?zqhk ?zqhv ?zqhd ?zqhlt ?zqhz; (case zqhk => assumption); (case zqF => k_asm); (case zqN => k_asm); (case zqm1 => k_mem); (case zqm2 => k_mem); (case zqhv => exact lost_no (by assumption) (by assumption)); (case zqm3 => k_mem); (case zqm4 => k_mem); (case zqm5 => k_mem); (case zqhd => assumption); (case zqhlt => (kct_strs)); (case zqhz => (intro z h3; (simp only [stL, List.contains_cons, List.contains_nil, Bool.or_false, Bool.or_eq_false_iff, beq_eq_false_iff_ne, ne_eq] at h3); (simp [h3, stL]; done)))) | (refine' kf_endL ?zqF ?zqN ?zqm1 ?zqm2 ?zqm3 ?zqm4 ?zqm5 ?zqhk ?zqhv ?zqhd ?zqhlt ?zqhz; (case zqhk => assumption); (case zqF => k_asm); (case zqN => k_asm); (case zqm1 => k_mem); (case zqm2 => k_mem); (case zqhv => exact lost_yes (by assumption) (by assumption)); (case zqm3 => k_mem); (case zqm4 => k_mem); (case zqm5 => k_mem); (case zqhd => assumption); (case zqhlt => (kct_strs)); (case zqhz => (intro z h3; (simp only [stL, List.contains_cons, List.contains_nil, Bool.or_false, Bool.or_eq_false_iff, beq_eq_false_iff_ne, ne_eq] at h3); (simp [h3, stL]; done))))))
 k_with "KfPost" => (dsimp only [KfPost])
 k_with "pyIter ref" => (((k_here; k_dflt (refine' for_lost2 ?zqG ?zqhh ?zqF ?zqN ?zqhl ?zqhi ?zqhcd ?zqhp ?zqhpl (fun i' k' t' vs' n' oh' cv' u' I' oI' h' tk' hk' hkb' hv' hcd' hsz' hlt' F' N' => ?_) (fun vs' n' oh' u' h' tk' hv' F' N' => ?_); (case zqG => assumption); (case zqhh => rfl); (case zqF => k_asm); (case zqN => k_asm); (case zqhl => assumption); (case zqhi => assumption); (case zqhcd => assumption); (case zqhp => assumption); (case zqhpl => assumption)))); (all_goals (try (k_whole; (fail_if_success (refine dG ?_)); (walk_at "my hk"); (have hkm := HkMark.mk)))))
 w_top off
 k_fill
 ((refine hk19 (h := ?_)); (generalize hkT19 _ = T9); (generalize pj0 T9 = w, pj1 T9 = loose, pj2 T9 = mean, pj3 T9 = mg, s4 T9 = U9); (clear T9); (generalize pj0 U9 = mb, pj1 U9 = dp, pj2 U9 = un, pj3 U9 = gd, s4 U9 = T9); (clear U9); (generalize pj0 T9 = outer, pj1 T9 = base, pj2 T9 = g, pj3 T9 = s, s4 T9 = U9); (clear T9); (generalize pj0 U9 = R, pj1 U9 = l, pj2 U9 = lp, pj3 U9 = gs, s4 U9 = T9); (clear U9); (generalize pj0 T9 = ps, pj1 T9 = games, lj2 T9 = pos); (clear T9); intro B X T hkg hsz hdp hun hled hl hp G hi hpb hgl hpl hgn hret)
 k_dflt (refine' enterC (led := []) hkg hsz ?kl ?k3 ?k5 ?k6 ?k7 ?k8 ?k9 ?kB ?kN ?_ ?c2 ?c3 ?c4; (case kl => exact hled); (case k3 => k_asm); (case k5 => k_asm); (case k6 => k_is); (case k7 => k_is); (case k8 => ktr_room); (case k9 => exact BindsTo.of_eq rfl); (case kN => decide +kernel); (case kB => exact rfl); (case c2 => exact rfl); (case c3 => exact rfl); (case c4 => exact rfl); k_whole; intro L' h' tk' cells' F' N' Y' l1; (first | ((revert N' l1); (revert cells'); (refine cellsK1 ?_); intro o0' hd0' N' l1; ((revert l1); (revert N'); (revert hd0'); (revert F'); (revert o0'); (revert tk'); (revert h'); (revert L'); ((refine hk4 (h := ?_)); (generalize hkT4 _ = T9); (generalize pj0 T9 = L', pj1 T9 = h', pj2 T9 = tk', lj3 T9 = o0'); (clear T9); intro F' hd0' N' l1))) | ((revert N' l1); (revert cells'); (refine cellsK2 ?_); intro o0' o1' hd0' hd1' N' l1; ((revert l1); (revert N'); (revert hd1'); (revert hd0'); (revert F'); (revert o1'); (revert o0'); (revert tk'); (revert h'); (revert L'); ((refine hk5 (h := ?_)); (generalize hkT5 _ = T9); (generalize pj0 T9 = L', pj1 T9 = h', pj2 T9 = tk', pj3 T9 = o0', s4 T9 = o1'); (clear T9); intro F' hd0' hd1' N' l1))) | ((revert N' l1); (revert cells'); (refine cellsK3 ?_); intro o0' o1' o2' hd0' hd1' hd2' N' l1; ((revert l1); (revert N'); (revert hd2'); (revert hd1'); (revert hd0'); (revert F'); (revert o2'); (revert o1'); (revert o0'); (revert tk'); (revert h'); (revert L'); ((refine hk6 (h := ?_)); (generalize hkT6 _ = T9); (generalize pj0 T9 = L', pj1 T9 = h', pj2 T9 = tk', pj3 T9 = o0', s4 T9 = U9); (clear T9); (generalize pj0 U9 = o1', lj1 U9 = o2'); (clear U9); intro F' hd0' hd1' hd2' N' l1))) | ((revert N' l1); (revert cells'); (refine cellsK4 ?_); intro o0' o1' o2' o3' hd0' hd1' hd2' hd3' N' l1; ((revert l1); (revert N'); (revert hd3'); (revert hd2'); (revert hd1'); (revert hd0'); (revert F'); (revert o3'); (revert o2'); (revert o1'); (revert o0'); (revert tk'); (revert h'); (revert L'); ((refine hk7 (h := ?_)); (generalize hkT7 _ = T9); (generalize pj0 T9 = L', pj1 T9 = h', pj2 T9 = tk', pj3 T9 = o0', s4 T9 = U9); (clear T9); (generalize pj0 U9 = o1', pj1 U9 = o2', lj2 U9 = o3'); (clear U9); intro F' hd0' hd1' hd2' hd3' N' l1))) | ((revert N' l1); (revert cells'); (refine cellsK5 ?_); intro o0' o1' o2' o3' o4' hd0' hd1' hd2' hd3' hd4' N' l1; ((revert l1); (revert N'); (revert hd4'); (revert hd3'); (revert hd2'); (revert hd1'); (revert hd0'); (revert F'); (revert o4'); (revert o3'); (revert o2'); (revert o1'); (revert o0'); (revert tk'); (revert h'); (revert L'); ((refine hk8 (h := ?_)); (generalize hkT8 _ = T9); (generalize pj0 T9 = L', pj1 T9 = h', pj2 T9 = tk', pj3 T9 = o0', s4 T9 = U9); (clear T9); (generalize pj0 U9 = o1', pj1 U9 = o2', pj2 U9 = o3', lj3 U9 = o4'); (clear U9); intro F' hd0' hd1' hd2' hd3' hd4' N' l1))) | ((revert N' l1); (revert cells'); (refine cellsK6 ?_); intro o0' o1' o2' o3' o4' o5' hd0' hd1' hd2' hd3' hd4' hd5' N' l1; ((revert l1); (revert N'); (revert hd5'); (revert hd4'); (revert hd3'); (revert hd2'); (revert hd1'); (revert hd0'); (revert F'); (revert o5'); (revert o4'); (revert o3'); (revert o2'); (revert o1'); (revert o0'); (revert tk'); (revert h'); (revert L'); ((refine hk9 (h := ?_)); (generalize hkT9 _ = T9); (generalize pj0 T9 = L', pj1 T9 = h', pj2 T9 = tk', pj3 T9 = o0', s4 T9 = U9); (clear T9); (generalize pj0 U9 = o1', pj1 U9 = o2', pj2 U9 = o3', pj3 U9 = o4', s4 U9 = o5'); (clear U9); intro F' hd0' hd1' hd2' hd3' hd4' hd5' N' l1)))); (try simp only [List.cons_append, List.nil_append] at N'); (try k_lt l1); (try dsimp only); (try k_fold); (have hkm := HkMark.mk))
 w_strict k_steps
 all_goals first | exact los_end hret (by assumption) (by assumption) (by assumption) (by k_mem) | w_report
end Mine
end
section
namespace Mine
def givenL : List Int := [1, 23, 46, 21, 42, 6]
def numAt (ns : List Int) (i : Nat) : Int := if i < ns.length then (ns.getD i 0).fmod 60 else givenL.getD i 0
def NumP (ns : List Int) (i : Nat) (s : Shared) (v : Value) (s' : Shared) : Prop := ∃ t tk, v = .int (numAt ns i) t ∧ s' = { s with toks := tk }
theorem NumP.script {ns : List Int} {i : Nat} {x : Int} {t tk : Tok} {s : Shared} (h : i < ns.length) (e : x = (ns.getD i 0).fmod 60) : NumP ns i s (.int x t) { s with toks := tk } := ⟨t, tk, by rw [e]; simp [numAt, h], rfl⟩
theorem NumP.given {ns : List Int} {i : Nat} {x : Int} {t tk : Tok} {s : Shared} (h : ¬ i < ns.length) (e : x = givenL.getD i 0) : NumP ns i s (.int x t) { s with toks := tk } := ⟨t, tk, by rw [e]; simp [numAt, h], rfl⟩
theorem numAt_bd (ns : List Int) (i : Nat) : 0 ≤ numAt ns i ∧ numAt ns i < 60 := by
 unfold numAt
 split
 ·rw [Int.fmod_eq_emod_of_nonneg _ (by decide)]
  kaf_pre
 ·have key : ∀ j : Nat, 0 ≤ givenL.getD j 0 ∧ givenL.getD j 0 < 60 := by
   intro j
   match j with
   | 0 => decide
   | 1 => decide
   | 2 => decide
   | 3 => decide
   | 4 => decide
   | 5 => decide
   | j + 6 => simp [givenL, List.getD]
  exact key i
theorem join_num {prog : Program} {w : World} {A : Around} {E : Value → Shared → Prop} {s : Shared} {Q : Value → Shared → Prop} {test body orelse : Expr} {pos : Pos} {env : Env} {vs : List Value} {ns : List Int} {h₀ : Heap} {L : Addr} {m : Str → Option Value} {j : Int} {tj : Tok} (_F : Fr h₀ L s.heap m) (_hm : m (Str.ofString "i") = some (.int j tj)) (_hi : IntsAre vs ns)
  (h : wpAny (model prog w) A (isTrue test env (eval test env)) (fun b s₁ => if b then wpAny (model prog w) A (eval body env) (NumP ns j.toNat s) E s₁ else wpAny (model prog w) A (eval orelse env) (NumP ns j.toNat s) E s₁) E s)
  (k : ∀ x t tk, x = numAt ns j.toNat → 0 ≤ x → x < 60 → Q (.int x t) { s with toks := tk }) :
  wpAny (model prog w) A (eval (.IfExp test body orelse pos) env) Q E s :=
 IfExp_ (wpAny_mono h (fun b s₁ hb => by
  cases b with
  | true =>
   simp only [if_true] at hb ⊢
   exact wpAny_mono hb (fun v s' ⟨t, tk, e1, e2⟩ => by subst e1 e2; exact k _ t tk rfl (numAt_bd ns _).1 (numAt_bd ns _).2) fun _ _ e => e
  | false =>
   simp only [Bool.false_eq_true, if_false] at hb ⊢
   exact wpAny_mono hb (fun v s' ⟨t, tk, e1, e2⟩ => by subst e1 e2; exact k _ t tk rfl (numAt_bd ns _).1 (numAt_bd ns _).2) fun _ _ e => e) fun _ _ e => e)
theorem compEnd_same {h₀ h' : Heap} {L I C D : Addr} {m : Str → Option Value} {s₁ : Shared} {oI oC oD : Obj} {S : List (Addr × Obj) → Prop} {rest : Value → List (Addr × Obj) → Prop} {y : Value} {tk : Nat} {news' : List (Addr × Obj)}
  (F : Fr h₀ L h' m) (N : News h₀ L h' ((I, oI) :: (C, oC) :: (D, oD) :: news')) (off : LCg.Off3 I C D news') (hS : S news') (r : rest y news') :
  LCg.CompEnd h₀ L m s₁ I oI C oC D oD S rest y { s₁ with heap := h', toks := tk } := ⟨h', tk, news', rfl, F, N, off, hS, r⟩
end Mine
end
section
open PyProof.V
namespace Mine
section
variable {prog : Program} {w : World} {A : Around} {E : Value → Shared → Prop} {Q : Flow → Shared → Prop} {s : Shared} {env : Env} {h₀ : Heap}
theorem for_foldR {σ : Type} {target : Expr} {body : List Stmt} {r : Addr} {a b : Int} {ta tb tc : Tok} {m₀ : Str → Option Value} (n : Nat) (Led : σ → List (Addr × Obj)) (ps : σ → List (Str × Value)) (stored : List Str) (P : Nat → σ → Prop) (c₀ : σ)
  (hh : A.handled = none) (F : Fr h₀ env.locals s.heap m₀) {news : List (Addr × Obj)} (N : News h₀ env.locals s.heap news) (hr : IsRange s.heap r a b 1 ta tb tc) (hsm : Builtin.Range.small a b 1 = true) (hsz : Builtin.Range.rangeSize a b 1 = n)
  (hgo : ∀ (I : Addr) (i : Nat) (v : Value) (s : Shared) (Q : Unit → Shared → Prop) (E : Value → Shared → Prop), IsRangeIter s.heap I (a + (i : Nat) * 1) ((n : Int) - (i : Nat)) 1 → Q () s → wpAny (model prog w) A (letOwnedTupleGo target (.ref I) v) Q E s)
  (hn : ∀ p ∈ Led c₀, p ∈ news) (hk : ∀ p ∈ ps c₀, m₀ p.1 = some p.2) (hP : P 0 c₀)
  (turn : ∀ (i : Nat) (t : Tok) (c : σ) (u : Str → Option Value) (I : Addr) (oI : Obj) (h : Heap) (tk : Nat), i < n → (∀ p ∈ news, p.1 < I) → P i c → Fr h₀ env.locals h (kstB (fun z => if stored.contains z then u z else m₀ z) (ps c)) → News h₀ env.locals h ((I, oI) :: Led c) → AllNe I (Led c) →
   wpAny (model prog w) A (assign target env (.int (a + (i : Int)) t)) (fun _ s₂ => wpAny (model prog w) A (execs body env) (KfPost h₀ env.locals I oI { s with heap := h, toks := tk } Led ps stored m₀ (P (i + 1)) Q) E s₂) E { s with heap := h, toks := tk })
  (done : ∀ (c : σ) (u : Str → Option Value) (h : Heap) (tk : Nat), P n c → Fr h₀ env.locals h (kstB (fun z => if stored.contains z then u z else m₀ z) (ps c)) → News h₀ env.locals h (Led c) → Q .next { s with heap := h, toks := tk }) :
  wpAny (model prog w) A (pyIter (.ref r)) (fun it s₂ => TurnsAt prog w A h₀ env target body Q E it s₂) E s := by
 refine wpAny_pyIter_range hr hsm ?_
 rw [hsz]
 refine for_core Led ps stored P c₀ F N (Walks.range (prog := prog) (w := w) hh s.heap.objs.size a 1 n) (fun i v s Q E st q => hgo _ i v s Q E st q) (fun b hb => .inl (List.mem_singleton.mp hb)) ?_ (fun i h st => ⟨_, st⟩) hn hk hP
  (fun i v c u I oI h tk hi hv => ?_) done
 ·show IsRangeIter _ _ _ _ _
  rw [Int.natCast_zero, Int.zero_mul, Int.add_zero, Int.sub_zero]
  exact Heap.get?_push_size _ rfl
 ·obtain ⟨t, rfl⟩ := hv
  rw [Int.mul_one]
  exact turn i t c u I oI h tk hi
end
end Mine
end
section
open PyProof.V PyProof.Rows.LCg
namespace Mine
theorem tri_ne (i : Nat) : ([2, 4, 15] : List Int).getD ((0 + (i : Int)) % 3).toNat 0 ≠ 0 := by
 have h : 0 ≤ (0 + (i : Int)) % 3 ∧ (0 + (i : Int)) % 3 ≤ 2 := ⟨Int.emod_nonneg _ (by decide), Int.le_of_lt_add_one (Int.emod_lt_of_pos _ (by decide))⟩
 rcases i3 h with e | e | e <;> rw [e] <;> decide
def movesAt (i : Nat) (x : Int) : List Int :=
 (rangeKs 0 (2 ^ ((0 + (i : Int)).fmod 3).toNat - 0 : Int).toNat).foldl (fun l' k' => if Builtin.bitAnd ((x.fmod (([2, 4, 15] : List Int).getD ((0 + (i : Int)).fmod 3).toNat 0)).fdiv (2 ^ k'.toNat)) 1 = 1 then l' ++ [2 ^ ((0 + (i : Int)).fmod 3).toNat + k'] else l') []
inductive TurnRows (M : Nat → Int → List Int) (ns : List Int) : Nat → List Value → List (Addr × Obj) → Prop
 | nil : TurnRows M ns 0 [] []
 | snoc {i refs done T D t nn ys} : TurnRows M ns i refs done → IntsAre ys (M i (numAt ns i)) → TurnRows M ns (i + 1) (refs ++ [.ref T]) ((T, ({ cls := .type "tuple", data := .seq #[.int ((numAt ns i).fdiv 20) t, .ref D] nn } : Obj)) :: (D, lst ys) :: done)
abbrev ST := List Value × Nat × Obj × Obj × List (Addr × Obj)
abbrev ledT (lt lg L2 L1 : Addr) (og : Obj) (c : ST) : List (Addr × Obj) := (lt, listOf c.1.toArray c.2.1) :: (lg, og) :: (L2, c.2.2.1) :: (L1, c.2.2.2.1) :: c.2.2.2.2
abbrev stT : List Str := [Str.ofString "i", Str.ofString "number"]
abbrev PT (M : Nat → Int → List Int) (ns : List Int) (lt lg L2 L1 : Addr) (i : Nat) (c : ST) : Prop :=
 TurnRows M ns i c.1 c.2.2.2.2 ∧ c.1.length = i ∧ AllNe lt c.2.2.2.2 ∧ AllNe lg c.2.2.2.2 ∧ AllNe L2 c.2.2.2.2 ∧ AllNe L1 c.2.2.2.2 ∧ (∃ cv, c.2.2.1.data = .cell cv) ∧ ∃ cv, c.2.2.2.1.data = .cell cv
theorem pow_bd (i : Nat) : 1 ≤ (2 : Int) ^ ((0 + (i : Int)).fmod 3).toNat ∧ (2 : Int) ^ ((0 + (i : Int)).fmod 3).toNat ≤ 4 := by
 have h : (0 + (i : Int)).fmod 3 = 0 ∨ (0 + (i : Int)).fmod 3 = 1 ∨ (0 + (i : Int)).fmod 3 = 2 := by
  rw [Int.fmod_eq_emod_of_nonneg _ (by decide)]
  kaf_pre
 rcases h with h | h | h <;> rw [h] <;> decide
section
variable {prog : Program} {w : World} {A : Around} {E : Value → Shared → Prop} {Q : Flow → Shared → Prop} {s : Shared} {env : Env} {h₀ : Heap}
theorem for_turns {x : Str} {px : Pos} {body : List Stmt} {r lt lg L2 L1 : Addr} {ta tb tc : Tok} {m₀ : Str → Option Value} {og o2 o1 : Obj} {n0 : Nat} {cv2 cv1 : Option Value} {vs : List Value} {ns : List Int} (M : Nat → Int → List Int)
  (hi : IntsAre vs ns) (hh : A.handled = none) (F : Fr h₀ env.locals s.heap m₀) (N : News h₀ env.locals s.heap [(lt, listOf #[] n0), (lg, og), (L2, o2), (L1, o1)]) (hr : IsRange s.heap r 0 6 1 ta tb tc) (hc2 : o2.data = .cell cv2) (hc1 : o1.data = .cell cv1)
  (turn : ∀ (i : Nat) (t : Tok) (refs : List Value) (n : Nat) (o2 o1 : Obj) (done : List (Addr × Obj)) (cv2 cv1 : Option Value) (u : Str → Option Value) (I : Addr) (oI : Obj) (h : Heap) (tk : Nat), i < 6 → (1 ≤ (2 : Int) ^ ((0 + (i : Int)).fmod 3).toNat) → ((2 : Int) ^ ((0 + (i : Int)).fmod 3).toNat ≤ 4) → (refs.toArray.size ≤ sizeLine) → (@LT.lt Nat _ lt I ∧ @LT.lt Nat _ lg I ∧ @LT.lt Nat _ L2 I ∧ @LT.lt Nat _ L1 I) → TurnRows M ns i refs done → refs.length = i →
   AllNe lt done → AllNe lg done → AllNe L2 done → AllNe L1 done → AllNe I done → o2.data = .cell cv2 → o1.data = .cell cv1 →
   Fr h₀ env.locals h (fun z => if stT.contains z then u z else m₀ z) → News h₀ env.locals h ((I, oI) :: (lt, listOf refs.toArray n) :: (lg, og) :: (L2, o2) :: (L1, o1) :: done) →
   wpAny (model prog w) A (assign (.Name x px) env (.int (0 + (i : Int)) t)) (fun _ s₂ => wpAny (model prog w) A (execs body env) (KfPost h₀ env.locals I oI { s with heap := h, toks := tk } (ledT lt lg L2 L1 og) (fun _ => []) stT m₀ (PT M ns lt lg L2 L1 (i + 1)) Q) E s₂) E { s with heap := h, toks := tk })
  (done : ∀ (refs : List Value) (n : Nat) (o2 o1 : Obj) (done : List (Addr × Obj)) (u : Str → Option Value) (h : Heap) (tk : Nat), TurnRows M ns 6 refs done → AllNe lt done → Fr h₀ env.locals h (fun z => if stT.contains z then u z else m₀ z) →
   News h₀ env.locals h ((lt, listOf refs.toArray n) :: (lg, og) :: (L2, o2) :: (L1, o1) :: done) → Q .next { s with heap := h, toks := tk }) :
  wpAny (model prog w) A (pyIter (.ref r)) (fun it s₂ => TurnsAt prog w A h₀ env (.Name x px) body Q E it s₂) E s := by
 refine for_foldR 6 (ledT lt lg L2 L1 og) (fun _ => []) stT (PT M ns lt lg L2 L1) ([], n0, o2, o1, []) hh F N hr (by decide) (by decide) (fun I i v s Q E st q => wpAny_pure q) (fun p hp => hp) (fun _ hp => nomatch hp) ⟨.nil, rfl, trivial, trivial, trivial, trivial, ⟨_, hc2⟩, _, hc1⟩ ?_ ?_
 ·rintro i t ⟨refs, n, o2', o1', dn⟩ u I oI h tk hlt hI ⟨h1, h2, h3, h4, h5, h6, ⟨cv, h7⟩, cv', h8⟩ F' N' ha
  refine turn i t refs n o2' o1' dn cv cv' u I oI h tk hlt (pow_bd i).1 (pow_bd i).2 ?_ ⟨hI (lt, _) (.head _), hI (lg, _) (.tail _ (.head _)), hI (L2, _) (.tail _ (.tail _ (.head _))), hI (L1, _) (.tail _ (.tail _ (.tail _ (.head _))))⟩ h1 h2 h3 h4 h5 h6 ha.2.2.2.2 h7 h8 F' N'
  have h2' : refs.length = i := h2
  rw [List.size_toArray, PySem.sizeLine_eq]
  kaf_pre
 ·rintro ⟨refs, n, o2', o1', dn⟩ u h tk ⟨h1, h2, h3, _⟩ F' N'
  exact done refs n o2' o1' dn u h tk h1 h3 F' N'
theorem tail_cons {all dn : List (Addr × Obj)} {a : Addr × Obj} (h : ∀ p ∈ dn, p ∈ all) : ∀ p ∈ dn, p ∈ a :: all := fun p hp => .tail _ (h p hp)
theorem kf_endT {h₀ h' : Heap} {L I lt lg L2 L1 T D : Addr} {oI og o2 o1 : Obj} {s₁ : Shared} {m₀ m' : Str → Option Value} {tk : Nat} {all dn : List (Addr × Obj)} {ns : List Int} {i : Nat} {refs ys : List Value} {n nn : Nat} {x : Int} {t : Tok} {cv2 cv1 : Option Value}
  (F : Fr h₀ L h' m') (N : News h₀ L h' all) (m1 : (I, oI) ∈ all) (m2 : (lt, listOf (refs ++ [Value.ref T]).toArray n) ∈ all) (m3 : (lg, og) ∈ all) (m4 : (L2, o2) ∈ all) (m5 : (L1, o1) ∈ all)
  (m6 : (T, ({ cls := .type "tuple", data := .seq #[.int (x.fdiv 20) t, .ref D] nn } : Obj)) ∈ all) (m7 : (D, lst ys) ∈ all) (m8 : ∀ p ∈ dn, p ∈ all)
  (hT : TurnRows movesAt ns i refs dn) (hlen : refs.length = i) (hys : IntsAre ys (movesAt i x)) (hx : x = numAt ns (0 + (i : Int)).toNat) (hd2 : o2.data = .cell cv2) (hd1 : o1.data = .cell cv1)
  (hlt : @LT.lt Nat _ lt I ∧ @LT.lt Nat _ lg I ∧ @LT.lt Nat _ L2 I ∧ @LT.lt Nat _ L1 I) (a1 : AllNe lt dn) (a2 : AllNe lg dn) (a3 : AllNe L2 dn) (a4 : AllNe L1 dn) (a5 : AllNe I dn)
  (d1 : @LT.lt Nat _ lt T) (d2 : @LT.lt Nat _ lg T) (d3 : @LT.lt Nat _ L2 T) (d4 : @LT.lt Nat _ L1 T) (d5 : @LT.lt Nat _ I T) (e1 : @Ne Nat lt D) (e2 : @Ne Nat lg D) (e3 : @Ne Nat L2 D) (e4 : @Ne Nat L1 D) (e5 : @Ne Nat I D)
  (hz : ∀ z, stT.contains z = false → m' z = m₀ z) :
  KfEnd h₀ L I oI s₁ (ledT lt lg L2 L1 og) (fun _ => []) stT m₀ (PT movesAt ns lt lg L2 L1 (i + 1)) { s₁ with heap := h', toks := tk } := by
 have e : (0 + (i : Int)).toNat = i := by kaf_pre
 rw [e] at hx
 subst hx
 refine KfEnd.intro (refs ++ [.ref T], n, o2, o1, (T, ({ cls := .type "tuple", data := .seq #[.int ((numAt ns i).fdiv 20) t, .ref D] nn } : Obj)) :: (D, lst ys) :: dn) F N m1
  (List.forall_mem_cons.mpr ⟨m2, List.forall_mem_cons.mpr ⟨m3, List.forall_mem_cons.mpr ⟨m4, List.forall_mem_cons.mpr ⟨m5, List.forall_mem_cons.mpr ⟨m6, List.forall_mem_cons.mpr ⟨m7, m8⟩⟩⟩⟩⟩⟩)
  ⟨Nat.ne_of_lt hlt.1, Nat.ne_of_lt hlt.2.1, Nat.ne_of_lt hlt.2.2.1, Nat.ne_of_lt hlt.2.2.2, Nat.ne_of_gt d5, Ne.symm e5, a5⟩ (fun _ h => nomatch h) (fun z _ => hz z)
  ⟨.snoc hT hys, by show (refs ++ [Value.ref T]).length = i + 1; rw [List.length_append, hlen]; rfl, ⟨Nat.ne_of_gt d1, Ne.symm e1, a1⟩, ⟨Nat.ne_of_gt d2, Ne.symm e2, a2⟩, ⟨Nat.ne_of_gt d3, Ne.symm e3, a3⟩, ⟨Nat.ne_of_gt d4, Ne.symm e4, a4⟩, ⟨_, hd2⟩, _, hd1⟩
abbrev TurQ (ns : List Int) (v : Value) (led' : List (Addr × Obj)) : Prop := ∃ D refs n dn, v = .ref D ∧ led' = (D, listOf refs.toArray n) :: dn ∧ TurnRows movesAt ns 6 refs dn ∧ AllNe D dn
theorem tur_end {R : Result → Shared → Prop} {s : Shared} {g h' : Heap} {L D : Addr} {m : Str → Option Value} {news dn : List (Addr × Obj)} {tk n : Nat} {refs : List Value} {ns : List Int}
  (hret : RetG R s g (TurQ ns)) (F : Fr g L h' m) (N : News g L h' news) (hT : TurnRows movesAt ns 6 refs dn) (ha : AllNe D dn) (m1 : (D, listOf refs.toArray n) ∈ news) (m2 : ∀ p ∈ dn, p ∈ news) :
  R (.ok (.ret (.ref D))) { s with heap := h', toks := tk } :=
 ret_end (led' := (D, listOf refs.toArray n) :: dn) hret F N (List.forall_mem_cons.mpr ⟨m1, m2⟩) ⟨D, refs, n, dn, rfl, rfl, hT, ha⟩
end
end Mine
end
local macro_rules | `(tactic| walk_at "my updF") => `(tactic| first | (refine' UpdF.head ?a; (case a => (refine AllNe.mem ?_; kfm_turns))) | (refine' UpdF.tail ?a ?b; (case a => kpt_turns); (case b => walk_at "my updF")))
section
namespace Mine
local macro_rules | `(tactic| omega) => `(tactic| first | (with_reducible exact tri_ne _) | (with_reducible exact absurd (by assumption) (tri_ne _)))
local macro_rules | `(tactic| walk_at "my tail") => `(tactic| first | exact fun _ h => h | (refine' tail_cons ?ta; (case ta => walk_at "my tail")))
theorem turns_w : ∀ (w : World) (loose : List Str) (mean : ExcName → Option Value) (mg mb : Str → Option Value) (dp un : Nat) (gd : Option (List Code)) (outer : List Env) (base g : Heap) (s : Shared) (R : Result → Shared → Prop) (l : Addr) (vs : List Value) (ns : List Int)
  (B : Below (arX dp un gd outer) base outer g) (X : (hd.heap_1 w.params).In g) (T : Top topProg loose mean mg mb g) (hkg : ∀ b o, g.get? b = some o → s.heap.get? b = some o) (hsz : g.objs.size ≤ s.heap.objs.size) (hdp : dp + 120 < recursionLimit) (hun : un + 800 < cLine) (hled : ∀ p ∈ ([] : List (Addr × Obj)), s.heap.get? p.1 = some p.2 ∧ g.get? p.1 = none) (hl : g.IsList l vs.toArray) (hi : IntsAre vs ns) (hlen : ns.length ≤ 63)
  (hret : RetG R s g (TurQ ns)),
  codeAny (model PySem.Challenge.rw_sn0104_01.row.toRowW.prog w) (arX dp un gd outer) (.call (.ref 326) ⟨[.ref l], []⟩) R s := by
 k_with_none
 k_with "lt9" => with_reducible (first | assumption | exact (And.left (by assumption)) | exact (cl1 (by assumption)) | exact (cr1 (by assumption)) | exact (cl2 (by assumption)) | exact (cr2 (by assumption)) | exact (cl3 (by assumption)) | exact (cr3 (by assumption)) | exact (cl4 (by assumption)) | exact (cr4 (by assumption)) | exact (cl5 (by assumption)) | exact (cr5 (by assumption)) | exact (cl6 (by assumption)) | exact (cr6 (by assumption)) | exact (cl7 (by assumption)) | exact (cr7 (by assumption)) | exact (cl8 (by assumption)) | exact (cr8 (by assumption)) | exact (cl9 (by assumption)) | exact (cr9 (by assumption)) | exact (cl10 (by assumption)) | exact (cr10 (by assumption)) | exact (cl11 (by assumption)) | exact (cr11 (by assumption)) | exact (cl12 (by assumption)) | exact (cr12 (by assumption)) | exact (cl13 (by assumption)) | exact (cr13 (by assumption)) | exact (cl14 (by assumption)) | exact (cr14 (by assumption)) | exact (cl15 (by assumption)) | exact (cr15 (by assumption)) | exact (cl16 (by assumption)) | exact (cr16 (by assumption)) | exact (cl17 (by assumption)) | exact (cr17 (by assumption)) | exact (cl18 (by assumption)) | exact (cr18 (by assumption)) | exact (cl19 (by assumption)) | exact (cr19 (by assumption)) | exact (cl20 (by assumption)) | exact (cr20 (by assumption)) | exact (cl21 (by assumption)) | exact (cr21 (by assumption)) | exact (cl22 (by assumption)) | exact (cr22 (by assumption)))
 k_with "exec For Name Call cons nil" => (k_here; (rename Fr _ _ _ _ => lF'); (with_unfolding_all refine' For_turns lF' ?_; k_whole))
 k_with "pyIter ref" => (((k_here; k_dflt (refine' for_turns movesAt ?zqhi ?zqhh ?zqF ?zqN ?zqhr ?zqhc2 ?zqhc1 (fun i' t' refs' n' o2' o1' dn' cv2' cv1' u' I' oI' h' tk' hi6' hp1' hp4' hsz' hlt' hT' hlen' ha1' ha2' ha3' ha4' ha5' hd2' hd1' F' N' => ?_) (fun refs' n' o2' o1' dn' u' h' tk' hT' ha1' F' N' => ?_); (case zqhi => assumption); (case zqhh => rfl); (case zqF => k_asm); (case zqN => k_asm); (case zqhr => assumption); (case zqhc2 => assumption); (case zqhc1 => assumption)))); (all_goals (try (k_whole; (fail_if_success (refine dG ?_)); (walk_at "my hk"); (have hkm := HkMark.mk)))))
 k_with "CompSrcT" => (((k_here; (k_dflt (refine LCt.CompSrcT.range (by rfl) (by k_asm) (by k_asm) (by assumption) (by exact small_one (by omega) (by omega) (by omega) (by omega)) (by exact rangeSize_nat _ _) (by rw [PySem.sizeLine_eq]; omega) ?_; intro g'; (refine' kci_range _ (fun k' t' I' oI' C' oC' D' m' ys' l' h' tk' E' hlo' hhi' hI' hC' hx' F' N' off' ne' => ?_) ?_ ?_); (all_goals (try (simp only [LCg.Off3, and_true] at off'))); (all_goals (try ((show KPfMark → _); intro hMark'))); kcf_last)))); (all_goals (try (k_whole; (fail_if_success (refine dG ?_)); (walk_at "my hk"); (have hkm := HkMark.mk)))))
 k_with "KfEnd" => ((k_dflt (refine' kf_endT ?zqF ?zqN ?zqm1 ?zqm2 ?zqm3 ?zqm4 ?zqm5 ?zqm6 ?zqm7 ?zqm8 ?zqhT ?zqhlen ?zqhys ?zqhx ?zqhd2 ?zqhd1 ?zqhlt ?zqa1 ?zqa2 ?zqa3 ?zqa4 ?zqa5 ?zqd1 ?zqd2 ?zqd3 ?zqd4 ?zqd5 ?zqe1 ?zqe2 ?zqe3 ?zqe4 ?zqe5 ?zqhz; (case zqhT => assumption); (case zqF => k_asm); (case zqN => k_asm); (case zqm1 => k_mem); (case zqm2 => k_mem); (case zqm3 => k_mem); (case zqm4 => k_mem); (case zqm5 => k_mem); (case zqm6 => k_mem); (case zqm7 => k_mem); (case zqm8 => walk_at "my tail"); (case zqhlen => assumption); (case zqhys => assumption); (case zqhx => assumption); (case zqhd2 => assumption); (case zqhd1 => assumption); (case zqhlt => (kct_strs)); (case zqa1 => assumption); (case zqa2 => assumption); (case zqa3 => assumption); (case zqa4 => assumption); (case zqa5 => assumption); (case zqd1 => k_extra "lt9"); (case zqd2 => k_extra "lt9"); (case zqd3 => k_extra "lt9"); (case zqd4 => k_extra "lt9"); (case zqd5 => k_extra "lt9"); (case zqe1 => kpt_turns); (case zqe2 => kpt_turns); (case zqe3 => kpt_turns); (case zqe4 => kpt_turns); (case zqe5 => kpt_turns); (case zqhz => (intro z h3; (simp only [stT, List.contains_cons, List.contains_nil, Bool.or_false, Bool.or_eq_false_iff, beq_eq_false_iff_ne, ne_eq] at h3); (simp [h3, stT]; done))))))
 k_with "KfPost" => (dsimp only [KfPost])
 k_with "callWith" => ((with_reducible show wpAny _ _ (callWith _ _ (_ :: _) _ _) _ _ _); refine callWith_method1 ?_)
 k_with "CompEnd" => (k_here; k_dflt (refine' compEnd_same ?zqF ?zqN ?zqoff ?zqS ?_; (case zqF => k_asm); (case zqN => k_asm); (case zqoff => first | assumption | (simp only [LCg.Off3, and_true]; assumption)); (case zqS => exact True.intro)))
 k_with "call builtin:list.append" => (k_here; k_dflt (refine' append_K ?zqk1 ?zqk2 ?zqk3 ?_ ?zqz; (case zqk1 => k_asm); (case zqk2 => k_asm); (case zqk3 => walk_at "my upd"); (case zqz => first | assumption | exact Nat.le_of_ble_eq_true rfl | size_fits); k_whole); intro h' F' N'; (try simp only [List.push_toArray, List.cons_append, List.nil_append] at N'))
 k_with "storeName" => (k_here; k_dflt (refine' storeX_C ?zqF ?zqN ?zqc ?zqU ?zqd ?_ ?zqa ?zqb; (case zqa => rfl); (case zqb => rfl); (case zqF => k_asm); (case zqN => k_asm); (case zqc => rfl); (case zqU => walk_at "my updF"); (case zqd => k_asm); k_whole; intro h' o' F' N' d'; (try dsimp only at N')))
 k_with "eval IfExp" => (((k_here; k_dflt (refine' join_num ?zqF ?zqhm ?zqhi ?_ (fun x' t' tk' hx' hx0' hx1' => ?_); (case zqF => k_asm); (case zqhm => rfl); (case zqhi => assumption)))); (all_goals (try (k_whole; (fail_if_success (refine dG ?_)); (walk_at "my hk"); (have hkm := HkMark.mk)))))
 k_with "NumP" => (k_here; k_dflt (first | exact NumP.script (by omega) rfl | exact NumP.given (by omega) rfl))
 w_top off
 k_fill
 ((refine hk16 (h := ?_)); (generalize hkT16 _ = T9); (generalize pj0 T9 = w, pj1 T9 = loose, pj2 T9 = mean, pj3 T9 = mg, s4 T9 = U9); (clear T9); (generalize pj0 U9 = mb, pj1 U9 = dp, pj2 U9 = un, pj3 U9 = gd, s4 U9 = T9); (clear U9); (generalize pj0 T9 = outer, pj1 T9 = base, pj2 T9 = g, pj3 T9 = s, s4 T9 = U9); (clear T9); (generalize pj0 U9 = R, pj1 U9 = l, pj2 U9 = vs, lj3 U9 = ns); (clear U9); intro B X T hkg hsz hdp hun hled hl hi hlen hret)
 k_dflt (refine' enterC (led := []) hkg hsz ?kl ?k3 ?k5 ?k6 ?k7 ?k8 ?k9 ?kB ?kN ?_ ?c2 ?c3 ?c4; (case kl => exact hled); (case k3 => k_asm); (case k5 => k_asm); (case k6 => k_is); (case k7 => k_is); (case k8 => ktr_room); (case k9 => exact BindsTo.of_eq rfl); (case kN => decide +kernel); (case kB => exact rfl); (case c2 => exact rfl); (case c3 => exact rfl); (case c4 => exact rfl); k_whole; intro L' h' tk' cells' F' N' Y' l1; (first | ((revert N' l1); (revert cells'); (refine cellsK1 ?_); intro o0' hd0' N' l1; ((revert l1); (revert N'); (revert hd0'); (revert F'); (revert o0'); (revert tk'); (revert h'); (revert L'); ((refine hk4 (h := ?_)); (generalize hkT4 _ = T9); (generalize pj0 T9 = L', pj1 T9 = h', pj2 T9 = tk', lj3 T9 = o0'); (clear T9); intro F' hd0' N' l1))) | ((revert N' l1); (revert cells'); (refine cellsK2 ?_); intro o0' o1' hd0' hd1' N' l1; ((revert l1); (revert N'); (revert hd1'); (revert hd0'); (revert F'); (revert o1'); (revert o0'); (revert tk'); (revert h'); (revert L'); ((refine hk5 (h := ?_)); (generalize hkT5 _ = T9); (generalize pj0 T9 = L', pj1 T9 = h', pj2 T9 = tk', pj3 T9 = o0', s4 T9 = o1'); (clear T9); intro F' hd0' hd1' N' l1))) | ((revert N' l1); (revert cells'); (refine cellsK3 ?_); intro o0' o1' o2' hd0' hd1' hd2' N' l1; ((revert l1); (revert N'); (revert hd2'); (revert hd1'); (revert hd0'); (revert F'); (revert o2'); (revert o1'); (revert o0'); (revert tk'); (revert h'); (revert L'); ((refine hk6 (h := ?_)); (generalize hkT6 _ = T9); (generalize pj0 T9 = L', pj1 T9 = h', pj2 T9 = tk', pj3 T9 = o0', s4 T9 = U9); (clear T9); (generalize pj0 U9 = o1', lj1 U9 = o2'); (clear U9); intro F' hd0' hd1' hd2' N' l1))) | ((revert N' l1); (revert cells'); (refine cellsK4 ?_); intro o0' o1' o2' o3' hd0' hd1' hd2' hd3' N' l1; ((revert l1); (revert N'); (revert hd3'); (revert hd2'); (revert hd1'); (revert hd0'); (revert F'); (revert o3'); (revert o2'); (revert o1'); (revert o0'); (revert tk'); (revert h'); (revert L'); ((refine hk7 (h := ?_)); (generalize hkT7 _ = T9); (generalize pj0 T9 = L', pj1 T9 = h', pj2 T9 = tk', pj3 T9 = o0', s4 T9 = U9); (clear T9); (generalize pj0 U9 = o1', pj1 U9 = o2', lj2 U9 = o3'); (clear U9); intro F' hd0' hd1' hd2' hd3' N' l1))) | ((revert N' l1); (revert cells'); (refine cellsK5 ?_); intro o0' o1' o2' o3' o4' hd0' hd1' hd2' hd3' hd4' N' l1; ((revert l1); (revert N'); (revert hd4'); (revert hd3'); (revert hd2'); (revert hd1'); (revert hd0'); (revert F'); (revert o4'); (revert o3'); (revert o2'); (revert o1'); (revert o0'); (revert tk'); (revert h'); (revert L'); ((refine hk8 (h := ?_)); (generalize hkT8 _ = T9); (generalize pj0 T9 = L', pj1 T9 = h', pj2 T9 = tk', pj3 T9 = o0', s4 T9 = U9); (clear T9); (generalize pj0 U9 = o1', pj1 U9 = o2', pj2 U9 = o3', lj3 U9 = o4'); (clear U9); intro F' hd0' hd1' hd2' hd3' hd4' N' l1))) | ((revert N' l1); (revert cells'); (refine cellsK6 ?_); intro o0' o1' o2' o3' o4' o5' hd0' hd1' hd2' hd3' hd4' hd5' N' l1; ((revert l1); (revert N'); (revert hd5'); (revert hd4'); (revert hd3'); (revert hd2'); (revert hd1'); (revert hd0'); (revert F'); (revert o5'); (revert o4'); (revert o3'); (revert o2'); (revert o1'); (revert o0'); (revert tk'); (revert h'); (revert L'); ((refine hk9 (h := ?_)); (generalize hkT9 _ = T9); (generalize pj0 T9 = L', pj1 T9 = h', pj2 T9 = tk', pj3 T9 = o0', s4 T9 = U9); (clear T9); (generalize pj0 U9 = o1', pj1 U9 = o2', pj2 U9 = o3', pj3 U9 = o4', s4 U9 = o5'); (clear U9); intro F' hd0' hd1' hd2' hd3' hd4' hd5' N' l1)))); (try simp only [List.cons_append, List.nil_append] at N'); (try k_lt l1); (try dsimp only); (try k_fold); (have hkm := HkMark.mk))
 w_strict k_steps
 all_goals first | exact tur_end hret (by assumption) (by assumption) (by assumption) (by assumption) (by k_mem) (by walk_at "my tail") | w_report
end Mine
end
section
namespace Mine
theorem worths_c (w : World) (dp un : Nat) (gd : Option (List Code)) (s : Shared) (l : Addr) (gs : List Value) (games : List (List Int)) (ps : Array Value) (c : Addr) (o : Obj)
  (hdp : dp + 300 < recursionLimit) (hun : un + 2000 < cLine) (hT : TSL ps c o) (hgl : games.length ≤ 1000) (hb : ∀ i ns, games[i]? = some ns → ns.length ≤ 1000 ∧ ∀ k ∈ ns, 0 ≤ k ∧ 0 ≤ over (worthsOf (games.take i)) k ∧ over (worthsOf (games.take i)) k ≤ 1000) :
  Ctr w dp un gd s 355 ⟨[.ref l], []⟩ [(350, tabObj ps), (c, o)] (fun g => g.IsList l gs.toArray ∧ Games g gs games) (WorQ games) := by
 intro loose mean mg mb outer base g R B X T hkg hsz hled ho hret
 exact worths_w w loose mean mg mb dp un gd outer base g s R l gs games ps c o B X T hkg hsz hdp hun hled ho.1 ho.2 hT hgl hb hret
theorem weave_c (w : World) (dp un : Nat) (gd : Option (List Code)) (s : Shared) (a b : Addr) (vs us : List Value) (as bs : List Int)
  (hdp : dp + 120 < recursionLimit) (hun : un + 800 < cLine) (hia : IntsAre vs as) (hib : IntsAre us bs) (hla : as.length ≤ 20) (hlb : bs.length ≤ 20) (hba : ∀ x ∈ as, 0 ≤ x ∧ x ≤ 7) (hbb : ∀ x ∈ bs, 0 ≤ x ∧ x ≤ 100) :
  Ctr w dp un gd s 341 ⟨[.ref a, .ref b], []⟩ [] (fun g => g.IsList a vs.toArray ∧ g.IsList b us.toArray) (WeaQ as bs) := by
 intro loose mean mg mb outer base g R B X T hkg hsz hled ho hret
 exact weave_w w loose mean mg mb dp un gd outer base g s R a b vs us as bs B X T hkg hsz hdp hun hled ho.1 ho.2 hia hib hla hlb hba hbb hret
theorem packed_c (w : World) (dp un : Nat) (gd : Option (List Code)) (s : Shared) (l : Addr) (vs : List Value) (ws : List Int) (n : Int) (t : Tok) (k : Nat) (p6 : Array Value) (c6 : Addr) (o6 : Obj)
  (hdp : dp + 120 < recursionLimit) (hun : un + 800 < cLine) (hi : IntsAre vs ws) (hws : ∀ x ∈ ws, 0 ≤ x ∧ x ≤ 3) (hlw : ws.length ≤ 1000) (hn : 0 ≤ n ∧ n ≤ 16) (hl61 : @Ne Nat l 61) (hlc : @Ne Nat c6 l) (hT : TS 61 51 4 qD p6 c6 o6) :
  Ctr w dp un gd s 360 ⟨[.ref l, .int n t], []⟩ [(l, listOf vs.toArray k), (61, tabObj p6), (c6, o6)] (fun _ => True) (PckQ ws n) := by
 intro loose mean mg mb outer base g R B X T hkg hsz hled _ hret
 exact packed_w w loose mean mg mb dp un gd outer base g s R l vs ws n t k p6 c6 o6 B X T hkg hsz hdp hun hled hi hws hlw hn hl61 hlc hT hret
theorem lost_c (w : World) (dp un : Nat) (gd : Option (List Code)) (s : Shared) (l lp : Addr) (gs ps : List Value) (games : List (List Int)) (pos : List Int)
  (hdp : dp + 120 < recursionLimit) (hun : un + 800 < cLine) (hi : IntsAre ps pos) (hpb : ∀ k ∈ pos, 0 ≤ k ∧ k ≤ 31) (hgl : games.length ≤ 20) (hpl : pos.length ≤ 40) (hgn : ∀ ns ∈ games, ns.length ≤ 20) :
  Ctr w dp un gd s 370 ⟨[.ref l, .ref lp], []⟩ [] (fun g => g.IsList l gs.toArray ∧ Games g gs games ∧ g.IsList lp ps.toArray) (LosQ games pos) := by
 intro loose mean mg mb outer base g R B X T hkg hsz hled ho hret
 exact lost_w w loose mean mg mb dp un gd outer base g s R l lp gs ps games pos B X T hkg hsz hdp hun hled ho.1 ho.2.2 ho.2.1 hi hpb hgl hpl hgn hret
theorem turns_c (w : World) (dp un : Nat) (gd : Option (List Code)) (s : Shared) (l : Addr) (vs : List Value) (ns : List Int)
  (hdp : dp + 120 < recursionLimit) (hun : un + 800 < cLine) (hi : IntsAre vs ns) (hlen : ns.length ≤ 63) :
  Ctr w dp un gd s 326 ⟨[.ref l], []⟩ [] (fun g => g.IsList l vs.toArray) (TurQ ns) := by
 intro loose mean mg mb outer base g R B X T hkg hsz hled ho hret
 exact turns_w w loose mean mg mb dp un gd outer base g s R l vs ns B X T hkg hsz hdp hun hled ho hi hlen hret
end Mine
end
section
namespace Mine
def runsOf (tw mv : Nat) : List Nat := [tw] ++ ([2, 1, 0].filter fun c => mv.testBit c) ++ [tw]
def leadOf (tw mv : Nat) : Str := ⟨((runsOf tw mv).flatMap fun r => List.replicate r 32 ++ [9]).toArray⟩
def noMatch (P : Addr) (x : Str) : Prop := ∀ (ps : Params) (S : Setting) (t : Tok), peek (hd.heap_1 ps) S (Builtin.«re.Pattern.search» ⟨[.ref P, .str x t], []⟩) = some (.done (.ret .none))
theorem lead_noMatch {tw mv : Nat} (h1 : tw = 0 ∨ tw = 1 ∨ tw = 2) (h2 : mv = 1 ∨ mv = 2 ∨ mv = 3 ∨ mv = 4 ∨ mv = 5 ∨ mv = 6 ∨ mv = 7) : noMatch 188 (leadOf tw mv) := by
 intro ps S t
 rcases h1 with rfl | rfl | rfl <;> rcases h2 with rfl | rfl | rfl | rfl | rfl | rfl | rfl <;> kernel_rfl
theorem name_noMatch {x : Str} (h : x = Str.ofString "A0" ∨ x = Str.ofString "A1" ∨ x = Str.ofString "A2" ∨ x = Str.ofString "B0" ∨ x = Str.ofString "B1" ∨ x = Str.ofString "B2" ∨ x = Str.ofString "a0" ∨ x = Str.ofString "a1" ∨ x = Str.ofString "a2" ∨ x = Str.ofString "b0" ∨ x = Str.ofString "b1" ∨ x = Str.ofString "b2") : noMatch 183 x := by
 intro ps S t
 rcases h with rfl | rfl | rfl | rfl | rfl | rfl | rfl | rfl | rfl | rfl | rfl | rfl <;> kernel_rfl
theorem slot_search : Slot "re.Pattern" "search" "re.Pattern.search" :=
 .of (owner := "re.Pattern") (n := "search") (by rw [typeLookup_type, builtinLookup_eq_fast]; kernel_rfl) (by decide +kernel) (by decide +kernel) (by decide +kernel)
  (by first | exact .inl (by decide +kernel) | exact .inr (by decide +kernel)) (by rw [isSubtype_type]; kernel_rfl)
theorem entry_search : entryFor table "re.Pattern.search" = some Builtin.«re.Pattern.search» := entryFor_of_fast (by kernel_rfl)
theorem args_search (a b : Value) : argsOk "re.Pattern.search" ⟨[a, b], []⟩ := by unfold argsOk; kernel_rfl
theorem type_search : typeOf (.builtin "re.Pattern.search") = pure (.type "method_descriptor") := by show builtinType _ = _; rw [builtinType_eq_fast]; kernel_rfl
theorem search_at {prog : Program} {w : World} {A : Around} {E : Value → Shared → Prop} {s : Shared} {Q : Value → Shared → Prop} {P : Addr} {x : Str} {t : Tok} (X : (hd.heap_1 w.params).In s.heap) (hT : s.TypeIs (.ref P) "re.Pattern") (hx : noMatch P x) (hQ : Q .none s) :
  wpAny (model prog w) A (call (.builtin "re.Pattern.search") [.ref P, .str x t]) Q E s :=
 wpAny_call_entry slot_search hT entry_search ((Looks.of_peek X (hx _ _ t)).here ⟨_, rfl, hQ⟩) (args_search _ _)
theorem plain_pattern : PlainAttrs "re.Pattern" :=
 ⟨⟨"object.__getattribute__", by rw [typeLookup_type, builtinLookup_eq_fast]; kernel_rfl, by decide +kernel⟩, by rw [typeLookup_type, builtinLookup_eq_fast]; kernel_rfl⟩
theorem method_search {prog : Program} {w : World} {A : Around} {E : Value → Shared → Prop} {s : Shared} {P : Addr} {o : Obj} {pl : Sem Bool} {Q : Value × List Value → Shared → Prop} (hP : s.heap.get? P = some o) (hc : o.cls = .type "re.Pattern") (hd : o.dict = none)
  (h : Q (.builtin "re.Pattern.search", [.ref P]) s) : wpAny (model prog w) A (getMethod (.ref P) (Str.ofString "search") pl) Q E s :=
 getMethod_builtin ⟨o, hP, hc⟩ plain_pattern slot_search type_search (fun a e => by cases e; exact ⟨o, hP, hd⟩) h
end Mine
end
section
open PyProof.V
namespace Mine
section
variable {prog : Program} {w : World} {A : Around} {E : Value → Shared → Prop} {Q : Flow → Shared → Prop} {s : Shared} {env : Env} {h₀ : Heap}
theorem for_foldS {σ : Type} {target : Expr} {body : List Stmt} {tx : Str} {t0 : Tok} {m₀ : Str → Option Value} (Led : σ → List (Addr × Obj)) (ps : σ → List (Str × Value)) (stored : List Str) (P : Nat → σ → Prop) (c₀ : σ)
  (hh : A.handled = none) (F : Fr h₀ env.locals s.heap m₀) {news : List (Addr × Obj)} (N : News h₀ env.locals s.heap news)
  (hgo : ∀ (I : Addr) (v : Value) (s : Shared) (Q : Unit → Shared → Prop) (E : Value → Shared → Prop), Q () s → wpAny (model prog w) A (letOwnedTupleGo target (.ref I) v) Q E s)
  (hn : ∀ p ∈ Led c₀, p ∈ news) (hk : ∀ p ∈ ps c₀, m₀ p.1 = some p.2) (hP : P 0 c₀)
  (turn : ∀ (i : Nat) (k : Nat) (t : Tok) (c : σ) (u : Str → Option Value) (I : Addr) (oI : Obj) (h : Heap) (tk : Nat), tx.cps[i]? = some k → (∀ p ∈ news, p.1 < I) → P i c → Fr h₀ env.locals h (kstB (fun z => if stored.contains z then u z else m₀ z) (ps c)) → News h₀ env.locals h ((I, oI) :: Led c) → AllNe I (Led c) →
   wpAny (model prog w) A (assign target env (.str ⟨#[k]⟩ t)) (fun _ s₂ => wpAny (model prog w) A (execs body env) (KfPost h₀ env.locals I oI { s with heap := h, toks := tk } Led ps stored m₀ (P (i + 1)) Q) E s₂) E { s with heap := h, toks := tk })
  (done : ∀ (c : σ) (u : Str → Option Value) (h : Heap) (tk : Nat), P tx.cps.size c → Fr h₀ env.locals h (kstB (fun z => if stored.contains z then u z else m₀ z) (ps c)) → News h₀ env.locals h (Led c) → Q .next { s with heap := h, toks := tk }) :
  wpAny (model prog w) A (pyIter (.str tx t0)) (fun it s₂ => TurnsAt prog w A h₀ env target body Q E it s₂) E s := by
 have go : ∀ (T : String) (o : Obj), Walks prog w A s.heap.objs.size [s.heap.objs.size] [s.heap.objs.size] tx.cps.size (SignAt tx) (fun i h => h.IsStrIter s.heap.objs.size T tx t0 i) →
   (s.heap.push o).IsStrIter s.heap.objs.size T tx t0 0 → TurnsAt prog w A h₀ env target body Q E (.ref s.heap.objs.size) { s with heap := s.heap.push o } := fun T o W hst =>
  for_core Led ps stored P c₀ F N W (fun i v s Q E _ q => hgo _ v s Q E q) (fun b hb => .inl (List.mem_singleton.mp hb)) hst (fun i h st => let ⟨o, e, _⟩ := st; ⟨o, e⟩) hn hk hP
   (fun i v c u I oI h tk _ hv hi => by obtain ⟨k, t, hk, rfl⟩ := hv; exact turn i k t c u I oI h tk hk hi) done
 cases ha : tx.cps.all (· < 128)
 ·exact wpAny_pyIter_wide ha (go "str_iterator" _ (Walks.strWide hh _ tx t0) ⟨_, Heap.get?_push_size _ rfl, rfl, rfl⟩)
 ·exact wpAny_pyIter_ascii ha (go "str_ascii_iterator" _ (Walks.strAscii hh _ tx t0) ⟨_, Heap.get?_push_size _ rfl, rfl, rfl⟩)
end
end Mine
end
section
open PyProof.V PyProof.Rows.LCg
namespace Mine
abbrev tupH (a b : Value) (nn : Nat) : Obj := { cls := .type "tuple", data := .seq #[a, b] nn }
def TurnsIn (g : Heap) (tws : Nat → Int) (mvs : Nat → List Int) (refs : List Value) : Prop :=
 refs.length = 6 ∧ ∀ i, i < 6 → ∃ T D t nn ys, refs[i]? = some (.ref T) ∧ g.get? T = some (tupH (.int (tws i) t) (.ref D) nn) ∧ g.IsList D ys.toArray ∧ IntsAre ys (mvs i)
section
variable {prog : Program} {w : World} {A : Around} {E : Value → Shared → Prop} {Q : Flow → Shared → Prop} {s : Shared} {env : Env} {h₀ : Heap}
theorem item_turn {m : Str → Option Value} {L l : Addr} {refs : List Value} {tws : Nat → Int} {mvs : Nat → List Int} {k : Int} {u : Tok} {value slice : Expr} {Q : Value → Shared → Prop} {E : Value → Shared → Prop} (F : Fr h₀ L s.heap m) (hl : h₀.IsList l refs.toArray) (G : TurnsIn h₀ tws mvs refs) (i : Nat) (hk : k = (i : Int)) (hi : i < 6)
  (h : ∀ T D t ys, h₀.IsList D ys.toArray → IntsAre ys (mvs i) → IsTup h₀ T #[.int (tws i) t, .ref D] → IsTup s.heap T #[.int (tws i) t, .ref D] → Q (.ref T) s)
  (hs : subscripted slice false (.ref l) (.int k u) = operate [.ref l, .int k u] (getItem (.ref l) (.int k u)) := by with_unfolding_all rfl) :
  wpAny (model prog w) A (subscriptTail value slice (.ref l) (.int k u)) Q E s := by
 have hl' := hl.at fun o e => F.keep _ o e
 obtain ⟨T, D, t, nn, ys, hr, hT, hD, hy⟩ := G.2 i hi
 have e := G.1
 refine tail_any hl'.typeIs slot_list_getitem.lookup (wpAny_getItem_list hl' (by kaf_pre) (by simp; kaf_pre) (x := .ref T) ?_ (h T D t ys hD hy ⟨_, hT, rfl, nn, rfl⟩ ⟨_, F.keep _ _ hT, rfl, nn, rfl⟩)) hs
 subst hk
 simpa using hr
end
def hdrs (mvs : Nat → List Int) : Nat → List (Nat × Int)
 | 0 => []
 | i + 1 => hdrs mvs i ++ (mvs i).map (Prod.mk i)
def nameUp (i : Nat) : Str := (([Str.ofString "A0", Str.ofString "A1", Str.ofString "A2", Str.ofString "B0", Str.ofString "B1", Str.ofString "B2"] : List Str).getD i Str.empty)
inductive HdrRows (tws : Nat → Int) : List (Nat × Int) → List Value → List (Addr × Obj) → Prop
 | nil : HdrRows tws [] [] []
 | snoc {hs refs done T i k t u nn} : HdrRows tws hs refs done → HdrRows tws (hs ++ [(i, k)]) (refs ++ [.ref T]) ((T, tupH (.str (nameUp i) t) (.str (leadOf (tws i).toNat k.toNat) u) nn) :: done)
theorem HdrRows.length {tws : Nat → Int} : ∀ {hs refs done}, HdrRows tws hs refs done → refs.length = hs.length
 | _, _, _, .nil => rfl
 | _, _, _, .snoc h => by rw [List.length_append, List.length_append, h.length]; rfl
theorem hdrs_len {mvs : Nat → List Int} (hml : ∀ i, i < 6 → (mvs i).length ≤ 10) : ∀ i, i ≤ 6 → (hdrs mvs i).length ≤ 10 * i
 | 0, _ => Nat.le_refl _
 | i + 1, h => by
  have h1 := hdrs_len hml i (by kaf_pre)
  have h2 := hml i (by kaf_pre)
  simp only [hdrs, List.length_append, List.length_map]
  kaf_pre
abbrev SB := List Value × Nat × Obj × List (Addr × Obj)
abbrev ledB (lh H x d : Addr) (ox od : Obj) (c : SB) : List (Addr × Obj) := (lh, listOf c.1.toArray c.2.1) :: (H, c.2.2.1) :: (x, ox) :: (d, od) :: c.2.2.2
abbrev ledB2 (lh H x d I0 : Addr) (ox od oI0 : Obj) (c : SB) : List (Addr × Obj) := (lh, listOf c.1.toArray c.2.1) :: (H, c.2.2.1) :: (x, ox) :: (d, od) :: (I0, oI0) :: c.2.2.2
abbrev stB : List Str := [Str.ofString "i", Str.ofString "twice", Str.ofString "moves", Str.ofString "runs"]
abbrev stB2 : List Str := [Str.ofString "runs"]
abbrev PB (tws : Nat → Int) (mvs : Nat → List Int) (lh H x d : Addr) (i : Nat) (c : SB) : Prop :=
 HdrRows tws (hdrs mvs i) c.1 c.2.2.2 ∧ AllNe lh c.2.2.2 ∧ AllNe H c.2.2.2 ∧ AllNe x c.2.2.2 ∧ AllNe d c.2.2.2 ∧ ∃ cv, c.2.2.1.data = .cell cv
abbrev PB2 (tws : Nat → Int) (mvs : Nat → List Int) (lh H x d I0 : Addr) (i j : Nat) (c : SB) : Prop :=
 HdrRows tws (hdrs mvs i ++ ((mvs i).take j).map (Prod.mk i)) c.1 c.2.2.2 ∧ AllNe lh c.2.2.2 ∧ AllNe H c.2.2.2 ∧ AllNe x c.2.2.2 ∧ AllNe d c.2.2.2 ∧ AllNe I0 c.2.2.2 ∧ ∃ cv, c.2.2.1.data = .cell cv
section
variable {prog : Program} {w : World} {A : Around} {E : Value → Shared → Prop} {Q : Flow → Shared → Prop} {s : Shared} {env : Env} {h₀ : Heap}
theorem for_book {xn : Str} {px : Pos} {body : List Stmt} {r lh H x d : Addr} {ta tb tc : Tok} {m₀ : Str → Option Value} {oc ox od : Obj} {n0 : Nat} {cv : Option Value} {tws : Nat → Int} {mvs : Nat → List Int}
  {refsT : List Value} (_G : TurnsIn h₀ tws mvs refsT) (htw : ∀ i, i < 6 → 0 ≤ tws i ∧ tws i ≤ 2) (hh : A.handled = none) (F : Fr h₀ env.locals s.heap m₀) (N : News h₀ env.locals s.heap [(lh, listOf #[] n0), (x, ox), (d, od), (H, oc)]) (hr : IsRange s.heap r 0 6 1 ta tb tc) (hc : oc.data = .cell cv) (hne : (@Ne Nat lh H ∧ @Ne Nat x H ∧ @Ne Nat d H ∧ @Ne Nat lh x ∧ @Ne Nat lh d ∧ @Ne Nat x d))
  (turn : ∀ (i : Nat) (t : Tok) (refs : List Value) (n : Nat) (oc : Obj) (done : List (Addr × Obj)) (cv : Option Value) (u : Str → Option Value) (I : Addr) (oI : Obj) (h : Heap) (tk : Nat), i < 6 → (0 ≤ (0 + (i : Int)) ∧ (0 + (i : Int)) ≤ 5) → (0 ≤ tws i ∧ tws i ≤ 2) →
   HdrRows tws (hdrs mvs i) refs done → (@Ne Nat lh H ∧ @Ne Nat x H ∧ @Ne Nat d H ∧ @Ne Nat lh x ∧ @Ne Nat lh d ∧ @Ne Nat x d) → (@LT.lt Nat _ lh I ∧ @LT.lt Nat _ H I ∧ @LT.lt Nat _ x I ∧ @LT.lt Nat _ d I) →
   AllNe lh done → AllNe H done → AllNe x done → AllNe d done → AllNe I done → oc.data = .cell cv →
   Fr h₀ env.locals h (fun z => if stB.contains z then u z else m₀ z) → News h₀ env.locals h ((I, oI) :: (lh, listOf refs.toArray n) :: (H, oc) :: (x, ox) :: (d, od) :: done) →
   wpAny (model prog w) A (assign (.Name xn px) env (.int (0 + (i : Int)) t)) (fun _ s₂ => wpAny (model prog w) A (execs body env) (KfPost h₀ env.locals I oI { s with heap := h, toks := tk } (ledB lh H x d ox od) (fun _ => []) stB m₀ (PB tws mvs lh H x d (i + 1)) Q) E s₂) E { s with heap := h, toks := tk })
  (done : ∀ (refs : List Value) (n : Nat) (oc : Obj) (done : List (Addr × Obj)) (u : Str → Option Value) (h : Heap) (tk : Nat), HdrRows tws (hdrs mvs 6) refs done → (@Ne Nat lh H ∧ @Ne Nat x H ∧ @Ne Nat d H ∧ @Ne Nat lh x ∧ @Ne Nat lh d ∧ @Ne Nat x d) → AllNe lh done → AllNe x done → AllNe d done → Fr h₀ env.locals h (fun z => if stB.contains z then u z else m₀ z) →
   News h₀ env.locals h ((lh, listOf refs.toArray n) :: (H, oc) :: (x, ox) :: (d, od) :: done) → Q .next { s with heap := h, toks := tk }) :
  wpAny (model prog w) A (pyIter (.ref r)) (fun it s₂ => TurnsAt prog w A h₀ env (.Name xn px) body Q E it s₂) E s := by
 refine for_foldR 6 (ledB lh H x d ox od) (fun _ => []) stB (PB tws mvs lh H x d) ([], n0, oc, []) hh F N hr (by decide) (by decide) (fun I i v s Q E st q => wpAny_pure q) ?_ (fun _ hp => nomatch hp) ⟨.nil, trivial, trivial, trivial, trivial, ⟨_, hc⟩⟩ ?_ ?_
 ·intro p hp
  simp only [List.mem_cons, List.not_mem_nil, or_false] at hp ⊢
  rcases hp with h | h | h | h
  ·exact .inl h
  ·exact .inr (.inr (.inr h))
  ·exact .inr (.inl h)
  ·exact .inr (.inr (.inl h))
 ·rintro i t ⟨refs, n, oc', dn⟩ u I oI h tk hlt hI ⟨h1, h2, h3, h4, h5, cv', h6⟩ F' N' ha
  exact turn i t refs n oc' dn cv' u I oI h tk hlt (by kaf_pre) (htw i hlt) h1 hne ⟨hI (lh, _) (.head _), hI (H, _) (.tail _ (.tail _ (.tail _ (.head _)))), hI (x, _) (.tail _ (.head _)), hI (d, _) (.tail _ (.tail _ (.head _)))⟩ h2 h3 h4 h5 ha.2.2.2.2 h6 F' N'
 ·rintro ⟨refs, n, oc', dn⟩ u h tk ⟨h1, h2, h3, h4, h5, _⟩ F' N'
  exact done refs n oc' dn u h tk h1 hne h2 h4 h5 F' N'
theorem for_book2 {target : Expr} {body : List Stmt} {D lh H x d I0 : Addr} {ys refs0 : List Value} {dn0 : List (Addr × Obj)} {m₀ : Str → Option Value} {oc ox od oI0 : Obj} {n0 : Nat} {cv : Option Value} {tws : Nat → Int} {mvs : Nat → List Int} {i : Nat}
  (hh : A.handled = none) (F : Fr h₀ env.locals s.heap m₀) (N : News h₀ env.locals s.heap ((I0, oI0) :: (lh, listOf refs0.toArray n0) :: (H, oc) :: (x, ox) :: (d, od) :: dn0)) (hl : h₀.IsList D ys.toArray) (hi : IntsAre ys (mvs i)) (hc : oc.data = .cell cv)
  (hi6 : i < 6) (hml : ∀ i, i < 6 → (mvs i).length ≤ 10) (hmv : ∀ i, i < 6 → ∀ k ∈ mvs i, 1 ≤ k ∧ k ≤ 7) (R0 : HdrRows tws (hdrs mvs i) refs0 dn0) (a1 : AllNe lh dn0) (a2 : AllNe H dn0) (a3 : AllNe x dn0) (a4 : AllNe d dn0) (a5 : AllNe I0 dn0)
  (turn : ∀ (j : Nat) (k : Int) (t : Tok) (refs : List Value) (n : Nat) (oc : Obj) (done : List (Addr × Obj)) (cv : Option Value) (u : Str → Option Value) (I : Addr) (oI : Obj) (h : Heap) (tk : Nat), (mvs i)[j]? = some k → (1 ≤ k ∧ k ≤ 7) → (refs.toArray.size < sizeLine) →
   HdrRows tws (hdrs mvs i ++ ((mvs i).take j).map (Prod.mk i)) refs done → (@LT.lt Nat _ lh I ∧ @LT.lt Nat _ H I ∧ @LT.lt Nat _ x I ∧ @LT.lt Nat _ d I ∧ @LT.lt Nat _ I0 I) →
   AllNe lh done → AllNe H done → AllNe x done → AllNe d done → AllNe I0 done → AllNe I done → oc.data = .cell cv →
   Fr h₀ env.locals h (fun z => if stB2.contains z then u z else m₀ z) → News h₀ env.locals h ((I, oI) :: (lh, listOf refs.toArray n) :: (H, oc) :: (x, ox) :: (d, od) :: (I0, oI0) :: done) →
   wpAny (model prog w) A (assign target env (.int k t)) (fun _ s₂ => wpAny (model prog w) A (execs body env) (KfPost h₀ env.locals I oI { s with heap := h, toks := tk } (ledB2 lh H x d I0 ox od oI0) (fun _ => []) stB2 m₀ (PB2 tws mvs lh H x d I0 i (j + 1)) Q) E s₂) E { s with heap := h, toks := tk })
  (done : ∀ (refs : List Value) (n : Nat) (oc : Obj) (done : List (Addr × Obj)) (cv : Option Value) (u : Str → Option Value) (h : Heap) (tk : Nat), HdrRows tws (hdrs mvs (i + 1)) refs done → AllNe lh done → AllNe H done → AllNe x done → AllNe d done → AllNe I0 done → oc.data = .cell cv → Fr h₀ env.locals h (fun z => if stB2.contains z then u z else m₀ z) →
   News h₀ env.locals h ((lh, listOf refs.toArray n) :: (H, oc) :: (x, ox) :: (d, od) :: (I0, oI0) :: done) → Q .next { s with heap := h, toks := tk }) :
  wpAny (model prog w) A (pyIter (.ref D)) (fun it s₂ => TurnsAt prog w A h₀ env target body Q E it s₂) E s := by
 refine for_fold (ledB2 lh H x d I0 ox od oI0) (fun _ => []) stB2 (PB2 tws mvs lh H x d I0 i) (refs0, n0, oc, dn0) hh F N (hl.at fun o e => F.keep _ _ e) (.inl ⟨_, hl.choose_spec.1⟩) ?_ (fun _ hp => nomatch hp) ⟨by simpa using R0, a1, a2, a3, a4, a5, _, hc⟩ ?_ ?_
 ·intro p hp
  simp only [List.mem_cons] at hp ⊢
  rcases hp with h | h | h | h | h | h
  ·exact .inr (.inl h)
  ·exact .inr (.inr (.inl h))
  ·exact .inr (.inr (.inr (.inl h)))
  ·exact .inr (.inr (.inr (.inr (.inl h))))
  ·exact .inl h
  ·exact .inr (.inr (.inr (.inr (.inr h))))
 ·rintro j v ⟨refs, n, oc', dn⟩ u I oI h tk hI hv ⟨h1, h2, h3, h4, h5, h6, cv', h7⟩ F' N' ha
  obtain ⟨k, t, rfl, hk⟩ := IntsAre.at hi j v hv
  refine turn j k t refs n oc' dn cv' u I oI h tk hk (hmv i hi6 k (List.mem_of_getElem? hk)) ?_ h1 ⟨hI (lh, _) (.tail _ (.head _)), hI (H, _) (.tail _ (.tail _ (.head _))), hI (x, _) (.tail _ (.tail _ (.tail _ (.head _)))), hI (d, _) (.tail _ (.tail _ (.tail _ (.tail _ (.head _))))), hI (I0, _) (.head _)⟩ h2 h3 h4 h5 h6 ha.2.2.2.2.2 h7 F' N'
  have e : refs.length = _ := h1.length
  have b1 := hdrs_len hml i (by kaf_pre)
  have b2 := hml i hi6
  rw [List.length_append, List.length_map, List.length_take] at e
  rw [List.size_toArray, PySem.sizeLine_eq, e]
  kaf_pre
 ·rintro ⟨refs, n, oc', dn⟩ u h tk ⟨h1, h2, h3, h4, h5, h6, cv', h7⟩ F' N'
  have e : ys.length = (mvs i).length := hi.length
  rw [e, List.take_length] at h1
  exact done refs n oc' dn cv' u h tk h1 h2 h3 h4 h5 h6 h7 F' N'
theorem kf_endB2 {h₀ h' : Heap} {L I lh H x d I0 T : Addr} {oI oc ox od oI0 : Obj} {s₁ : Shared} {m₀ m' : Str → Option Value} {tk : Nat} {all dn : List (Addr × Obj)} {i j : Nat} {refs : List Value} {n nn : Nat} {k : Int} {t u : Tok} {tws : Nat → Int} {mvs : Nat → List Int} {cv : Option Value} {lead : Str}
  (R0 : HdrRows tws (hdrs mvs i ++ ((mvs i).take j).map (Prod.mk i)) refs dn) (hk : (mvs i)[j]? = some k) (hlead : lead = leadOf (tws i).toNat k.toNat)
  (F : Fr h₀ L h' m') (N : News h₀ L h' all) (m1 : (I, oI) ∈ all) (m2 : (lh, listOf (refs ++ [Value.ref T]).toArray n) ∈ all) (m3 : (H, oc) ∈ all) (m4 : (x, ox) ∈ all) (m5 : (d, od) ∈ all) (m6 : (I0, oI0) ∈ all)
  (m7 : (T, tupH (.str (nameUp i) t) (.str lead u) nn) ∈ all) (m8 : ∀ p ∈ dn, p ∈ all) (hcd : oc.data = .cell cv)
  (hlt : @LT.lt Nat _ lh I ∧ @LT.lt Nat _ H I ∧ @LT.lt Nat _ x I ∧ @LT.lt Nat _ d I ∧ @LT.lt Nat _ I0 I) (a1 : AllNe lh dn) (a2 : AllNe H dn) (a3 : AllNe x dn) (a4 : AllNe d dn) (a5 : AllNe I0 dn) (a6 : AllNe I dn)
  (d1 : @Ne Nat lh T) (d2 : @Ne Nat H T) (d3 : @Ne Nat x T) (d4 : @Ne Nat d T) (d5 : @Ne Nat I0 T) (d6 : @Ne Nat I T)
  (hz : ∀ z, stB2.contains z = false → m' z = m₀ z) :
  KfEnd h₀ L I oI s₁ (ledB2 lh H x d I0 ox od oI0) (fun _ => []) stB2 m₀ (PB2 tws mvs lh H x d I0 i (j + 1)) { s₁ with heap := h', toks := tk } := by
 subst hlead
 refine KfEnd.intro (refs ++ [.ref T], n, oc, (T, tupH (.str (nameUp i) t) (.str (leadOf (tws i).toNat k.toNat) u) nn) :: dn) F N m1
  (List.forall_mem_cons.mpr ⟨m2, List.forall_mem_cons.mpr ⟨m3, List.forall_mem_cons.mpr ⟨m4, List.forall_mem_cons.mpr ⟨m5, List.forall_mem_cons.mpr ⟨m6, List.forall_mem_cons.mpr ⟨m7, m8⟩⟩⟩⟩⟩⟩)
  ⟨Nat.ne_of_lt hlt.1, Nat.ne_of_lt hlt.2.1, Nat.ne_of_lt hlt.2.2.1, Nat.ne_of_lt hlt.2.2.2.1, Nat.ne_of_lt hlt.2.2.2.2, Ne.symm d6, a6⟩ (fun _ h => nomatch h) (fun z _ => hz z)
  ⟨?_, ⟨Ne.symm d1, a1⟩, ⟨Ne.symm d2, a2⟩, ⟨Ne.symm d3, a3⟩, ⟨Ne.symm d4, a4⟩, ⟨Ne.symm d5, a5⟩, _, hcd⟩
 have e : (mvs i).take (j + 1) = (mvs i).take j ++ [k] := by rw [List.take_add_one, hk]; rfl
 show HdrRows tws (hdrs mvs i ++ ((mvs i).take (j + 1)).map (Prod.mk i)) _ _
 rw [e, List.map_append, ← List.append_assoc]
 exact .snoc R0
theorem kf_endB {h₀ h' : Heap} {L I lh H x d : Addr} {oI oc ox od : Obj} {s₁ : Shared} {m₀ m' : Str → Option Value} {tk : Nat} {all dn : List (Addr × Obj)} {i : Nat} {refs : List Value} {n : Nat} {tws : Nat → Int} {mvs : Nat → List Int} {cv : Option Value}
  (R0 : HdrRows tws (hdrs mvs (i + 1)) refs dn) (F : Fr h₀ L h' m') (N : News h₀ L h' all) (m1 : (I, oI) ∈ all) (m2 : (lh, listOf refs.toArray n) ∈ all) (m3 : (H, oc) ∈ all) (m4 : (x, ox) ∈ all) (m5 : (d, od) ∈ all) (m8 : ∀ p ∈ dn, p ∈ all) (hcd : oc.data = .cell cv)
  (hlt : @LT.lt Nat _ lh I ∧ @LT.lt Nat _ H I ∧ @LT.lt Nat _ x I ∧ @LT.lt Nat _ d I) (a1 : AllNe lh dn) (a2 : AllNe H dn) (a3 : AllNe x dn) (a4 : AllNe d dn) (a6 : AllNe I dn)
  (hz : ∀ z, stB.contains z = false → m' z = m₀ z) :
  KfEnd h₀ L I oI s₁ (ledB lh H x d ox od) (fun _ => []) stB m₀ (PB tws mvs lh H x d (i + 1)) { s₁ with heap := h', toks := tk } :=
 KfEnd.intro (refs, n, oc, dn) F N m1
  (List.forall_mem_cons.mpr ⟨m2, List.forall_mem_cons.mpr ⟨m3, List.forall_mem_cons.mpr ⟨m4, List.forall_mem_cons.mpr ⟨m5, m8⟩⟩⟩⟩)
  ⟨Nat.ne_of_lt hlt.1, Nat.ne_of_lt hlt.2.1, Nat.ne_of_lt hlt.2.2.1, Nat.ne_of_lt hlt.2.2.2, a6⟩ (fun _ h => nomatch h) (fun z _ => hz z)
  ⟨R0, a1, a2, a3, a4, _, hcd⟩
def NameP (i : Nat) (s : Shared) (v : Value) (s' : Shared) : Prop := ∃ t tk, v = .str (nameUp i) t ∧ s' = { s with toks := tk }
theorem NameP.mk' {i : Nat} {x : Str} {t tk : Tok} {s : Shared} (e : x = nameUp i) : NameP i s (.str x t) { s with toks := tk } := ⟨t, tk, by rw [e], rfl⟩
theorem join_name {prog : Program} {w : World} {A : Around} {E : Value → Shared → Prop} {s : Shared} {Q : Value → Shared → Prop} {e : Expr} {env : Env} {i : Nat} (_hi : i < 6)
  (h : wpAny (model prog w) A (eval e env) (NameP i s) E s) (k : ∀ t tk, Q (.str (nameUp i) t) { s with toks := tk }) : wpAny (model prog w) A (eval e env) Q E s :=
 wpAny_mono h (fun v s' ⟨t, tk, e1, e2⟩ => by subst e1 e2; exact k t tk) fun _ _ e => e
end
end Mine
end
section
open PyProof.V PyProof.Rows.LCg
namespace Mine
section
variable {prog : Program} {w : World} {A : Around}
theorem turn_1t (elt target iter ct : Expr) (scope : Scope) (pos : Pos) (it acc : Value) (env : Env) :
  compTurn (.ListComp elt [⟨target, iter, [ct], 0⟩] scope pos) 0 it acc env = (standAt iter.pos >>= fun _ => pyNext it >>= fun r => match r with
   | none => pure (.done .next)
   | some v => letOwnedTupleGo target it v >>= fun _ => assign target env v >>= fun _ =>
    testB ct elt acc env (.compLoop (.ListComp elt [⟨target, iter, [ct], 0⟩] scope pos) 0 it acc env)) := by rfl
theorem csrc_tup {h₀ : Heap} {L : Addr} {m : Str → Option Value} {ok : Itm → Prop} {G : Itm → (Str → Option Value) → (Str → Option Value) → Prop} {elt target iter : Expr} {ifs : List Expr} {gs : List Comprehension} {scope : Scope} {cl : List (Str × Addr)} {cp pos : Pos} {env : Env}
  {Fin : Shared → List Value → List (Addr × Obj) → Prop} {E : Value → Shared → Prop} {s : Shared} {ax : Addr} {lo : Obj} {vs : List Value} {k : Nat} {news : List (Addr × Obj)} {B : Addr → Addr → Addr → Sem _root_.PySem.Fin}
  (hE : ∀ I C D, compTurn (.ListComp elt (⟨target, iter, ifs, 0⟩ :: gs) scope cp) 0 (.ref I) (.ref D) (compEnvC scope cl C env) = (standAt pos >>= fun _ => pyNext (.ref I) >>= fun r => match r with
   | none => pure (.done .next)
   | some v => letOwnedTupleGo target (.ref I) v >>= fun _ => assign target (compEnvC scope cl C env) v >>= fun _ => B I C D))
  (T : ∀ C, Asg prog w A target (compEnvC scope cl C env) ok G) (hok : ∀ v, ok (.val v))
  (hcell : ∀ y ∈ scope.names, y.2 ≠ .cell) (hkind : scope.kind = .function)
  (hh : A.handled = none) (F : Fr h₀ L s.heap m) (N : News h₀ L s.heap news) (hm : (ax, lo) ∈ news) (hc : lo.cls = .type "tuple") (hd : lo.data = .seq vs.toArray k)
  (rest : ∀ I C D E' g, (∀ p ∈ news, p.1 < I) → C ≠ D → h₀.get? C = none → C ≠ L → h₀.get? D = none → D ≠ L → I ≠ C ∧ I ≠ D → CR prog w A h₀ L m C D [(I, "tuple_iterator")] [(ax, lo)] (fun _ => True) G (.compLoop (.ListComp elt (⟨target, iter, ifs, 0⟩ :: gs) scope cp) 0 (.ref I) (.ref D) (compEnvC scope cl C env)) (B I C D) E' { s with heap := g } (Fin { s with heap := g }) (vs.map .val) [] news) :
  CSrc prog w A h₀ L m env elt (⟨target, iter, ifs, 0⟩ :: gs) scope cp cl Fin E (.ref ax) s := by
 have hax := N _ hm
 have hl : s.heap.IsTuple ax vs.toArray := ⟨lo, hax.1, hc, k, hd⟩
 have hlt : ax < s.heap.objs.size := Heap.lt_size hax.1
 have hne : ax ≠ s.heap.objs.size := Nat.ne_of_lt hlt
 refine wpAny_pyIter_tuple hl ?_
 intro RR hRR
 have W := Walks.tuple (prog := prog) (w := w) hh s.heap.objs.size ax hne vs.toArray
 refine block_CR (E := E) (xs := vs.map .val) (keep := [(ax, lo)]) (ws := [(s.heap.objs.size, "tuple_iterator")]) (fun C D => hE s.heap.objs.size C D) (KTurns.ofWalks W fun i v s Q E st q => letGo_tupleiter st.1 q) (fun s Q E st q => W.self 0 s Q E st q) T (by simp) (fun i v h hp => ⟨.val v, ?_, rfl⟩) (fun a ha => ?_) (fun i h st => ?_) (fun b hb => ?_) (fun b hb => by simpa using hb) (fun b hb => ?_) (fun b hb => ?_) hcell hkind ?_ (F.push _) (fun p hp => ⟨Heap.get?_push_of_some _ (N p hp).1, (N p hp).2⟩) (fun p hp hI => ?_) (And.intro hm trivial) (fun C D E' h1 h2 h3 h4 h5 h6 => rest s.heap.objs.size C D E' _ (fun p hp => Heap.lt_size (N p hp).1) h1 h2 h3 h4 h5 (h6 _ (by simp))) hRR
 ·have hp' : vs.toArray[i]? = some v := hp
  simpa using hp'
 ·obtain ⟨v, _, rfl⟩ := List.mem_map.mp ha
  exact hok v
 ·obtain ⟨it, hit, hic, _⟩ := st.1
  exact ⟨[(s.heap.objs.size, it)], ⟨⟨rfl, hic⟩, trivial⟩, fun p hp => by rw [List.mem_singleton.mp hp]; exact hit⟩
 ·have hb' : b = s.heap.objs.size := by simpa using hb
  rw [hb']
  exact ⟨List.mem_cons_self .., next_is_new F, fun e => absurd F.ns.lt (by rw [e]; exact Nat.lt_irrefl _)⟩
 ·have hb' : b = s.heap.objs.size ∨ b = ax := by simpa using hb
  rcases hb' with e | e
  ·exact .inl (by simp [e])
  ·exact .inr (.inl ⟨lo, by simp [e]⟩)
 ·have hb' : b = s.heap.objs.size ∨ b = ax := by simpa using hb
  show b < (s.heap.push _).objs.size
  rw [Heap.size_push]
  rcases hb' with e | e
  ·rw [e]; exact Nat.lt_succ_self _
  ·rw [e]; exact Nat.lt_succ_of_lt hlt
 ·exact ⟨⟨_, Heap.get?_push_size _ rfl, rfl, rfl⟩, hl.at fun o e => Heap.get?_push_of_some _ e⟩
 ·have hI' : p.1 = s.heap.objs.size := by simpa using hI
  exact absurd (Heap.lt_size (N p hp).1) (by rw [hI']; exact Nat.lt_irrefl _)
theorem csrc_old {h₀ : Heap} {L : Addr} {m : Str → Option Value} {ok : Itm → Prop} {G : Itm → (Str → Option Value) → (Str → Option Value) → Prop} {elt target iter : Expr} {ifs : List Expr} {gs : List Comprehension} {scope : Scope} {cl : List (Str × Addr)} {cp pos : Pos} {env : Env}
  {Fin : Shared → List Value → List (Addr × Obj) → Prop} {E : Value → Shared → Prop} {s : Shared} {ax : Addr} {vs : List Value} {news : List (Addr × Obj)} {B : Addr → Addr → Addr → Sem _root_.PySem.Fin}
  (hE : ∀ I C D, compTurn (.ListComp elt (⟨target, iter, ifs, 0⟩ :: gs) scope cp) 0 (.ref I) (.ref D) (compEnvC scope cl C env) = (standAt pos >>= fun _ => pyNext (.ref I) >>= fun r => match r with
   | none => pure (.done .next)
   | some v => letOwnedTupleGo target (.ref I) v >>= fun _ => assign target (compEnvC scope cl C env) v >>= fun _ => B I C D))
  (T : ∀ C, Asg prog w A target (compEnvC scope cl C env) ok G) (hok : ∀ v, ok (.val v))
  (hcell : ∀ y ∈ scope.names, y.2 ≠ .cell) (hkind : scope.kind = .function)
  (hh : A.handled = none) (F : Fr h₀ L s.heap m) (N : News h₀ L s.heap news) (hl₀ : h₀.IsList ax vs.toArray)
  (rest : ∀ I C D E' g, (∀ p ∈ news, p.1 < I) → C ≠ D → h₀.get? C = none → C ≠ L → h₀.get? D = none → D ≠ L → I ≠ C ∧ I ≠ D → CR prog w A h₀ L m C D [(I, "list_iterator")] [] (fun _ => True) G (.compLoop (.ListComp elt (⟨target, iter, ifs, 0⟩ :: gs) scope cp) 0 (.ref I) (.ref D) (compEnvC scope cl C env)) (B I C D) E' { s with heap := g } (Fin { s with heap := g }) (vs.map .val) [] news) :
  CSrc prog w A h₀ L m env elt (⟨target, iter, ifs, 0⟩ :: gs) scope cp cl Fin E (.ref ax) s := by
 have hl : s.heap.IsList ax vs.toArray := hl₀.at fun o e => F.keep _ _ e
 obtain ⟨lo, hlo, _⟩ := hl₀
 have hlt : ax < s.heap.objs.size := Heap.lt_size (F.keep _ _ hlo)
 have hne : ax ≠ s.heap.objs.size := Nat.ne_of_lt hlt
 refine wpAny_pyIter_list hl ?_
 intro RR hRR
 have W := Walks.list (prog := prog) (w := w) hh s.heap.objs.size ax hne vs.toArray
 refine block_CR (E := E) (xs := vs.map .val) (keep := []) (ws := [(s.heap.objs.size, "list_iterator")]) (fun C D => hE s.heap.objs.size C D) (KTurns.ofWalks W fun i v s Q E st q => letGo_listiter st.1 q) (fun s Q E st q => W.self 0 s Q E st q) T (by simp) (fun i v h hp => ⟨.val v, ?_, rfl⟩) (fun a ha => ?_) (fun i h st => ?_) (fun b hb => ?_) (fun b hb => by simpa using hb) (fun b hb => ?_) (fun b hb => ?_) hcell hkind ?_ (F.push _) (fun p hp => ⟨Heap.get?_push_of_some _ (N p hp).1, (N p hp).2⟩) (fun p hp hI => ?_) trivial (fun C D E' h1 h2 h3 h4 h5 h6 => rest s.heap.objs.size C D E' _ (fun p hp => Heap.lt_size (N p hp).1) h1 h2 h3 h4 h5 (h6 _ (by simp))) hRR
 ·have hp' : vs.toArray[i]? = some v := hp
  simpa using hp'
 ·obtain ⟨v, _, rfl⟩ := List.mem_map.mp ha
  exact hok v
 ·obtain ⟨it, hit, hic, _⟩ := st.1
  exact ⟨[(s.heap.objs.size, it)], ⟨⟨rfl, hic⟩, trivial⟩, fun p hp => by rw [List.mem_singleton.mp hp]; exact hit⟩
 ·have hb' : b = s.heap.objs.size := by simpa using hb
  rw [hb']
  exact ⟨List.mem_cons_self .., next_is_new F, fun e => absurd F.ns.lt (by rw [e]; exact Nat.lt_irrefl _)⟩
 ·have hb' : b = s.heap.objs.size ∨ b = ax := by simpa using hb
  rcases hb' with e | e
  ·exact .inl (by simp [e])
  ·exact .inr (.inr ⟨lo, by rw [e]; exact hlo⟩)
 ·have hb' : b = s.heap.objs.size ∨ b = ax := by simpa using hb
  show b < (s.heap.push _).objs.size
  rw [Heap.size_push]
  rcases hb' with e | e
  ·rw [e]; exact Nat.lt_succ_self _
  ·rw [e]; exact Nat.lt_succ_of_lt hlt
 ·exact ⟨⟨_, Heap.get?_push_size _ rfl, rfl, rfl⟩, hl.at fun o e => Heap.get?_push_of_some _ e⟩
 ·have hI' : p.1 = s.heap.objs.size := by simpa using hI
  exact absurd (Heap.lt_size (N p hp).1) (by rw [hI']; exact Nat.lt_irrefl _)
def NSame (h₀ : Heap) (L : Addr) (m : Str → Option Value) (s₁ : Shared) (its : List (Addr × Obj)) (C : Addr) (oC : Obj) (D : Addr) (ys : List Value) (news : List (Addr × Obj)) (P : List Value → Prop) (s₂ : Shared) : Prop :=
 ∃ h' tk, s₂ = { s₁ with heap := h', toks := tk } ∧ Fr h₀ L h' m ∧ News h₀ L h' (its ++ (C, oC) :: (D, lst ys) :: news) ∧ P ys
theorem NSame.intro {h₀ : Heap} {L C D : Addr} {m : Str → Option Value} {s₁ : Shared} {its news : List (Addr × Obj)} {oC : Obj} {ys : List Value} {P : List Value → Prop} {h' : Heap} {tk : Nat}
  (F : Fr h₀ L h' m) (N : News h₀ L h' (its ++ (C, oC) :: (D, lst ys) :: news)) (r : P ys) : NSame h₀ L m s₁ its C oC D ys news P { s₁ with heap := h', toks := tk } := ⟨h', tk, rfl, F, N, r⟩
theorem cr_same {h₀ : Heap} {L I C D : Addr} {m : Str → Option Value} {cn : String} {keep : List (Addr × Obj)} {c : Code} {x : Str} {elt : Expr} {cenv : Env} {E : Value → Shared → Prop} {s : Shared} {Fin : List Value → List (Addr × Obj) → Prop} {vs : List Value} {news : List (Addr × Obj)}
  (P : Nat → List Value → Prop) (hCD : C ≠ D) (hDI : I ≠ C ∧ I ≠ D) (hlen : ∀ i ys, P i ys → ys.length ≤ sizeLine) (hk : SubL keep news)
  (turn : ∀ (i : Nat) (v : Value) (ys : List Value) (oC oI : Obj) (m₂ : Str → Option Value) (h : Heap) (tk : Nat), vs[i]? = some v → P i ys → m₂ x = some v → NsObj oC m₂ → Fr h₀ L h m → OffCD C D news → AllNe I news →
   News h₀ L h ((I, oI) :: (C, oC) :: (D, lst ys) :: news) →
   wpAny (model prog w) A (eval elt cenv) (CSame h₀ L m { s with heap := h, toks := tk } [(I, oI)] C oC D ys news (P (i + 1))) E { s with heap := h, toks := tk })
  (h0 : P 0 []) (fin : ∀ ys, P vs.length ys → Fin ys news) :
  CR prog w A h₀ L m C D [(I, cn)] keep (fun _ => True) (GName x) c (emitB elt (.ref D) cenv c) E s Fin (vs.map .val) [] news := by
 have key : ∀ (j i : Nat) (ys : List Value), i + j = vs.length → P i ys → CR prog w A h₀ L m C D [(I, cn)] keep (fun _ => True) (GName x) c (emitB elt (.ref D) cenv c) E s Fin ((vs.drop i).map .val) ys news := by
  intro j
  induction j with
  | zero =>
   intro i ys hij hP
   have e : i = vs.length := by kaf_pre
   subst e
   rw [List.drop_length]
   exact fin ys hP
  | succ j ih =>
   intro i ys hij hP
   have hlt : i < vs.length := by kaf_pre
   rw [List.drop_eq_getElem_cons hlt]
   rintro oC m₁ m₂ h tk hkn₁ hG hoC F off
   have hG' : m₂ = upd m₁ x vs[i] := hG
   refine cr_emit hCD (fun b hb => ?_) (hlen i ys hP) hoC trivial ?_
   ·have e : b = I := by simpa using hb
    rw [e]; exact Ne.symm hDI.2
   ·intro oI hoI N ap
    refine wpAny_mono (turn i vs[i] ys oC oI m₂ h tk (List.getElem?_eq_getElem hlt) hP (by rw [hG']; simp [upd]) hoC F off (AllNe.of fun p hp => ap.mem p hp (I, oI) (.head _)) N) (fun y s₂ hy => ?_) fun _ _ e => e
    obtain ⟨h', tk', rfl, F', N', hP'⟩ := hy
    exact ⟨h', tk', news, rfl, F', N', off, ap.mem, hk, ih (i + 1) _ (by kaf_pre) hP'⟩
 have := key vs.length 0 [] (by kaf_pre) h0
 rwa [List.drop_zero] at this
theorem cr_sameT {h₀ : Heap} {L I C D : Addr} {m : Str → Option Value} {cn : String} {keep : List (Addr × Obj)} {c : Code} {x : Str} {ct elt : Expr} {cenv : Env} {E : Value → Shared → Prop} {s : Shared} {Fin : List Value → List (Addr × Obj) → Prop} {vs : List Value} {news : List (Addr × Obj)}
  (P : Nat → List Value → Prop) (hCD : C ≠ D) (hDI : I ≠ C ∧ I ≠ D) (hlen : ∀ i ys, P i ys → ys.length ≤ sizeLine) (hk : SubL keep news)
  (turn : ∀ (i : Nat) (v : Value) (ys : List Value) (oC oI : Obj) (m₂ : Str → Option Value) (h : Heap) (tk : Nat), vs[i]? = some v → P i ys → m₂ x = some v → NsObj oC m₂ → Fr h₀ L h m → OffCD C D news → AllNe I news →
   News h₀ L h ((I, oI) :: (C, oC) :: (D, lst ys) :: news) →
   wpAny (model prog w) A (isTrue ct cenv (eval ct cenv)) (fun b s' => if b = true then wpAny (model prog w) A (eval elt cenv) (CSame h₀ L m { s with heap := h, toks := tk } [(I, oI)] C oC D ys news (P (i + 1))) E s' else NSame h₀ L m { s with heap := h, toks := tk } [(I, oI)] C oC D ys news (P (i + 1)) s') E { s with heap := h, toks := tk })
  (h0 : P 0 []) (fin : ∀ ys, P vs.length ys → Fin ys news) :
  CR prog w A h₀ L m C D [(I, cn)] keep (fun _ => True) (GName x) c (testB ct elt (.ref D) cenv c) E s Fin (vs.map .val) [] news := by
 have key : ∀ (j i : Nat) (ys : List Value), i + j = vs.length → P i ys → CR prog w A h₀ L m C D [(I, cn)] keep (fun _ => True) (GName x) c (testB ct elt (.ref D) cenv c) E s Fin ((vs.drop i).map .val) ys news := by
  intro j
  induction j with
  | zero =>
   intro i ys hij hP
   have e : i = vs.length := by kaf_pre
   subst e
   rw [List.drop_length]
   exact fin ys hP
  | succ j ih =>
   intro i ys hij hP
   have hlt : i < vs.length := by kaf_pre
   rw [List.drop_eq_getElem_cons hlt]
   rintro oC m₁ m₂ h tk hkn₁ hG hoC F off
   have hG' : m₂ = upd m₁ x vs[i] := hG
   refine allObj_of fun its hits N ap => ?_
   obtain ⟨oI, rfl⟩ := objs_one hits
   refine test_at (wpAny_mono (turn i vs[i] ys oC oI m₂ h tk (List.getElem?_eq_getElem hlt) hP (by rw [hG']; simp [upd]) hoC F off (AllNe.of fun p hp => ap p hp (I, oI) (.head _)) N) (fun b s₂ hb => ?_) fun _ _ e => e)
   cases b with
   | true =>
    rw [if_pos rfl] at hb ⊢
    refine wpAny_mono hb (fun y s₃ hy => ?_) fun _ _ e => e
    obtain ⟨h', tk', rfl, F', N', hP'⟩ := hy
    exact put_at hoC trivial hCD (fun p hp => by rw [List.mem_singleton.mp hp]; exact Ne.symm hDI.2) (hlen i ys hP)
     ⟨h', tk', news, rfl, F', N', off, fun p hp r hr => by rw [List.mem_singleton.mp hr]; exact ap p hp (I, oI) (.head _), hk, ih (i + 1) _ (by kaf_pre) hP'⟩
   | false =>
    rw [if_neg (by decide)] at hb ⊢
    obtain ⟨h', tk', rfl, F', N', hP'⟩ := hb
    exact ⟨h', tk', oC, m₂, ys, news, rfl, F', hoC, trivial, N', off, fun p hp r hr => by rw [List.mem_singleton.mp hr]; exact ap p hp (I, oI) (.head _), hk, ih (i + 1) _ (by kaf_pre) hP'⟩
 have := key vs.length 0 [] (by kaf_pre) h0
 rwa [List.drop_zero] at this
end
end Mine
end
section
open PyProof.V PyProof.Rows.LCg
namespace Mine
def upC (mv : Int) (l : List Int) (k : Int) : List Int := if Builtin.bitAnd (mv.fdiv (2 ^ k.toNat)) 1 = 1 then l ++ [k] else l
def upsC (mv : Int) : List Int := ([2, 1, 0] : List Int).foldl (upC mv) []
theorem upC_yes {mv k : Int} {l : List Int} {ys : List Value} {t : Tok} (hi : IntsAre ys l) (h : Builtin.bitAnd (mv.fdiv (2 ^ k.toNat)) 1 = 1) : IntsAre (ys ++ [.int k t]) (upC mv l k) := by
 unfold upC
 rw [if_pos h]
 exact IntsAre.append hi (.cons _ _ .nil)
theorem upC_no {mv k : Int} {l : List Int} {ys : List Value} (hi : IntsAre ys l) (h : ¬ Builtin.bitAnd (mv.fdiv (2 ^ k.toNat)) 1 = 1) : IntsAre ys (upC mv l k) := by
 unfold upC
 rwa [if_neg h]
theorem upsC_len {mv : Int} : (upsC mv).length ≤ 3 := by
 simp only [upsC, List.foldl_cons, List.foldl_nil, upC]
 repeat' split
 all_goals simp
def blank (k : Int) : Str := ⟨(List.replicate k.toNat 32 ++ [9]).toArray⟩
section
variable {prog : Program} {w : World} {A : Around}
theorem ups_cr {h₀ : Heap} {L I C D : Addr} {m : Str → Option Value} {keep : List (Addr × Obj)} {c : Code} {x : Str} {ct elt : Expr} {cenv : Env} {E : Value → Shared → Prop} {s : Shared} {Fin : List Value → List (Addr × Obj) → Prop} {t2 t1 t0 : Tok} {news : List (Addr × Obj)} {mv : Int}
  (_hmv : 1 ≤ mv ∧ mv ≤ 7) (hCD : C ≠ D) (hDI : I ≠ C ∧ I ≠ D) (hk : SubL keep news)
  (turn : ∀ (k : Int) (t : Tok) (l : List Int) (P : List Value → Prop) (ys : List Value) (oC oI : Obj) (m₂ : Str → Option Value) (h : Heap) (tk : Nat), (0 ≤ k ∧ k ≤ 2) → IntsAre ys l → (∀ ys', IntsAre ys' (upC mv l k) → P ys') → m₂ x = some (.int k t) → NsObj oC m₂ → Fr h₀ L h m → OffCD C D news → AllNe I news →
   News h₀ L h ((I, oI) :: (C, oC) :: (D, lst ys) :: news) →
   wpAny (model prog w) A (isTrue ct cenv (eval ct cenv)) (fun b s' => if b = true then wpAny (model prog w) A (eval elt cenv) (CSame h₀ L m { s with heap := h, toks := tk } [(I, oI)] C oC D ys news P) E s' else NSame h₀ L m { s with heap := h, toks := tk } [(I, oI)] C oC D ys news P s') E { s with heap := h, toks := tk })
  (fin : ∀ ys, IntsAre ys (upsC mv) → (upsC mv).length ≤ 3 → Fin ys news) :
  CR prog w A h₀ L m C D [(I, "tuple_iterator")] keep (fun _ => True) (GName x) c (testB ct elt (.ref D) cenv c) E s Fin (([.int 2 t2, .int 1 t1, .int 0 t0] : List Value).map .val) [] news := by
 have hi : IntsAre [.int 2 t2, .int 1 t1, .int 0 t0] [2, 1, 0] := .cons _ _ (.cons _ _ (.cons _ _ .nil))
 refine cr_sameT (fun i ys => IntsAre ys ((([2, 1, 0] : List Int).take i).foldl (upC mv) []) ∧ ys.length ≤ i ∧ i ≤ 3) hCD hDI (fun i ys h => by rw [PySem.sizeLine_eq]; kaf_pre) hk ?_ ⟨.nil, Nat.le_refl _, by kaf_pre⟩ (fun ys h => fin ys h.1 upsC_len)
 rintro i v ys oC oI m₂ h tk hv ⟨hP, hl, hi3⟩ hx hoC F off ai N
 obtain ⟨k, t, rfl, hk'⟩ := IntsAre.at hi i v hv
 have hlt : i < 3 := (List.getElem?_eq_some_iff.mp hv).1
 have hb : 0 ≤ k ∧ k ≤ 2 := by
  have := List.mem_of_getElem? hk'
  simp only [List.mem_cons, List.not_mem_nil, or_false] at this
  kaf_pre
 refine turn k t _ _ ys oC oI m₂ h tk hb hP (fun ys' h' => ?_) hx hoC F off ai N
 have e : (([2, 1, 0] : List Int).take (i + 1)).foldl (upC mv) [] = upC mv ((([2, 1, 0] : List Int).take i).foldl (upC mv) []) k := by
  rw [List.take_add_one, hk']; simp
 rw [e]
 refine ⟨h', ?_, by kaf_pre⟩
 have e1 := h'.length
 have e2 : (upC mv ((([2, 1, 0] : List Int).take i).foldl (upC mv) []) k).length ≤ ((([2, 1, 0] : List Int).take i).foldl (upC mv) []).length + 1 := by
  unfold upC
  split
  ·simp
  ·kaf_pre
 have e3 := hP.length
 kaf_pre

theorem csame_yes {h₀ : Heap} {L C D : Addr} {m : Str → Option Value} {s₁ : Shared} {its news : List (Addr × Obj)} {oC : Obj} {ys : List Value} {P : List Value → Prop} {h' : Heap} {tk : Nat} {mv k : Int} {t : Tok} {l : List Int}
  (hp : ∀ ys', IntsAre ys' (upC mv l k) → P ys') (hi : IntsAre ys l) (h : Builtin.bitAnd (mv.fdiv (2 ^ k.toNat)) 1 = 1) (F : Fr h₀ L h' m) (N : News h₀ L h' (its ++ (C, oC) :: (D, lst ys) :: news)) : CSame h₀ L m s₁ its C oC D ys news P (.int k t) { s₁ with heap := h', toks := tk } := CSame.intro F N (hp _ (upC_yes hi h))
theorem csame_no {h₀ : Heap} {L C D : Addr} {m : Str → Option Value} {s₁ : Shared} {its news : List (Addr × Obj)} {oC : Obj} {ys : List Value} {P : List Value → Prop} {h' : Heap} {tk : Nat} {mv k : Int} {l : List Int}
  (hp : ∀ ys', IntsAre ys' (upC mv l k) → P ys') (hi : IntsAre ys l) (h : ¬ Builtin.bitAnd (mv.fdiv (2 ^ k.toNat)) 1 = 1) (F : Fr h₀ L h' m) (N : News h₀ L h' (its ++ (C, oC) :: (D, lst ys) :: news)) : NSame h₀ L m s₁ its C oC D ys news P { s₁ with heap := h', toks := tk } := NSame.intro F N (hp _ (upC_no hi h))
def runsI (tw mv : Int) : List Int := [tw] ++ upsC mv ++ [tw]
theorem upsC_bd {mv : Int} : ∀ k ∈ upsC mv, 0 ≤ k ∧ k ≤ 2 := by
 intro k hk
 have : k = 2 ∨ k = 1 ∨ k = 0 := by
  simp only [upsC, List.foldl_cons, List.foldl_nil, upC] at hk
  revert hk
  repeat' split
  all_goals (intro hk; (simp only [List.nil_append, List.cons_append, List.mem_cons, List.not_mem_nil, or_false] at hk) <;> first | (rcases hk with rfl | rfl | rfl <;> decide) | (rcases hk with rfl | rfl <;> decide) | (subst hk; decide))
 rcases this with rfl | rfl | rfl <;> decide
theorem runsI_bd {tw mv : Int} (h : 0 ≤ tw ∧ tw ≤ 2) : ∀ k ∈ runsI tw mv, 0 ≤ k ∧ k ≤ 2 := by
 intro k hk
 simp only [runsI, List.mem_append, List.mem_singleton] at hk
 rcases hk with (rfl | hk) | rfl
 ·exact h
 ·exact upsC_bd k hk
 ·exact h
theorem strs_snoc {y : Str} {t : Tok} {vs : List Value} {ys : List Str} (h : StrsAre vs ys) : StrsAre (vs ++ [.str y t]) (ys ++ [y]) := by
 induction h with
 | nil => exact .cons _ _ .nil
 | cons z u r ih => exact .cons z u ih
theorem strs_len {vs : List Value} {ys : List Str} (h : StrsAre vs ys) : vs.length = ys.length := by
 induction h with
 | nil => rfl
 | cons z u r ih => simp only [List.length_cons, ih]
theorem runs_cr {h₀ : Heap} {L I C D : Addr} {m : Str → Option Value} {cn : String} {keep : List (Addr × Obj)} {c : Code} {x : Str} {elt : Expr} {cenv : Env} {E : Value → Shared → Prop} {s : Shared} {Fin : List Value → List (Addr × Obj) → Prop} {vs : List Value} {news : List (Addr × Obj)} {tw mv : Int}
  (hi : IntsAre vs ([tw] ++ upsC mv ++ [tw])) (htw : 0 ≤ tw ∧ tw ≤ 2) (hu : (upsC mv).length ≤ 3) (hCD : C ≠ D) (hDI : I ≠ C ∧ I ≠ D) (hk : SubL keep news)
  (turn : ∀ (k : Int) (t : Tok) (P : List Value → Prop) (ys : List Value) (oC oI : Obj) (m₂ : Str → Option Value) (h : Heap) (tk : Nat), (0 ≤ k ∧ k ≤ 2) → (∀ x t, x = blank k → P (ys ++ [.str x t])) → m₂ x = some (.int k t) → NsObj oC m₂ → Fr h₀ L h m → OffCD C D news → AllNe I news →
   News h₀ L h ((I, oI) :: (C, oC) :: (D, lst ys) :: news) →
   wpAny (model prog w) A (eval elt cenv) (CSame h₀ L m { s with heap := h, toks := tk } [(I, oI)] C oC D ys news P) E { s with heap := h, toks := tk })
  (fin : ∀ ys, StrsAre ys ((runsI tw mv).map blank) → Fin ys news) :
  CR prog w A h₀ L m C D [(I, cn)] keep (fun _ => True) (GName x) c (emitB elt (.ref D) cenv c) E s Fin (vs.map .val) [] news := by
 have hlen : (runsI tw mv).length ≤ 5 := by simp only [runsI, List.length_append, List.length_singleton]; kaf_pre
 refine cr_same (fun i ys => StrsAre ys (((runsI tw mv).take i).map blank)) hCD hDI (fun i ys h => ?_) hk ?_ .nil (fun ys h => fin ys ?_)
 ·have e := strs_len h
  rw [List.length_map, List.length_take] at e
  rw [PySem.sizeLine_eq, e]
  kaf_pre
 ·intro i v ys oC oI m₂ h tk hv hP hx hoC F off ai N
  obtain ⟨k, t, rfl, hk'⟩ := IntsAre.at hi i v hv
  refine turn k t _ ys oC oI m₂ h tk (runsI_bd htw k (List.mem_of_getElem? hk')) (fun x t e => ?_) hx hoC F off ai N
  have hk2 : (runsI tw mv)[i]? = some k := hk'
  have e2 : (runsI tw mv).take (i + 1) = (runsI tw mv).take i ++ [k] := by rw [List.take_add_one, hk2]; rfl
  subst e
  rw [e2, List.map_append]
  exact strs_snoc hP
 ·have e : vs.length = (runsI tw mv).length := hi.length
  rw [e, List.take_length] at h
  exact h
theorem csame_str {h₀ : Heap} {L C D : Addr} {m : Str → Option Value} {s₁ : Shared} {its news : List (Addr × Obj)} {oC : Obj} {ys : List Value} {P : List Value → Prop} {h' : Heap} {tk : Nat} {k : Int} {x : Str} {t : Tok}
  (hp : ∀ x t, x = blank k → P (ys ++ [.str x t])) (hx : x = blank k) (F : Fr h₀ L h' m) (N : News h₀ L h' (its ++ (C, oC) :: (D, lst ys) :: news)) : CSame h₀ L m s₁ its C oC D ys news P (.str x t) { s₁ with heap := h', toks := tk } := CSame.intro F N (hp _ _ hx)
theorem blank_bd {k : Int} (h : 0 ≤ k ∧ k ≤ 2) : (blank k).length ≤ 3 := by
 have : k = 0 ∨ k = 1 ∨ k = 2 := i3 h
 rcases this with rfl | rfl | rfl <;> decide
theorem join_lead {tw mv : Int} (h1 : 0 ≤ tw ∧ tw ≤ 2) (h2 : 1 ≤ mv ∧ mv ≤ 7) : PySem.Txt.join (PySem.Str.ofString "") ((runsI tw mv).map blank) = leadOf tw.toNat mv.toNat := by
 have a : tw = 0 ∨ tw = 1 ∨ tw = 2 := i3 h1
 have b : mv = 1 ∨ mv = 2 ∨ mv = 3 ∨ mv = 4 ∨ mv = 5 ∨ mv = 6 ∨ mv = 7 := i7 h2
 rcases a with rfl | rfl | rfl <;> rcases b with rfl | rfl | rfl | rfl | rfl | rfl | rfl <;> decide +kernel
theorem join_runs {s : Shared} {E : Value → Shared → Prop} {Q : Value → Shared → Prop} {t : Tok} {D : Addr} {ys : List Value} {tw mv : Int} (hl : s.heap.IsList D ys.toArray) (hi : StrsAre ys ((runsI tw mv).map blank)) (h1 : 0 ≤ tw ∧ tw ≤ 2) (h2 : 1 ≤ mv ∧ mv ≤ 7) (hu : (upsC mv).length ≤ 3)
  (h : ∀ t' k, Q (.str (leadOf tw.toNat mv.toNat) t') { s with toks := k }) : wpAny (model prog w) A (call (.builtin "str.join") [.str (PySem.Str.ofString "") t, .ref D]) Q E s := by
 refine join_listW hl (by simpa using hi) (by decide) ?_ ?_
 ·have b : ∀ n ∈ ((runsI tw mv).map blank).map (·.length), n ≤ 3 := by
   intro n hn
   obtain ⟨y, hy, rfl⟩ := List.mem_map.mp hn
   obtain ⟨k, hk, rfl⟩ := List.mem_map.mp hy
   exact blank_bd (runsI_bd h1 k hk)
  have sumLe : ∀ l : List Nat, (∀ n ∈ l, n ≤ 3) → l.sum ≤ 3 * l.length := by
   intro l
   induction l with
   | nil => intro _; exact Nat.le_refl _
   | cons a r ih => intro hb; have := hb a (.head _); have := ih fun n hn => hb n (.tail _ hn); simp only [List.sum_cons, List.length_cons]; kaf_pre
  have hlen : (runsI tw mv).length ≤ 5 := by simp only [runsI, List.length_append, List.length_singleton]; kaf_pre
  have := sumLe _ b
  simp only [List.length_map] at this ⊢
  kaf_pre
 ·intro t' k
  rw [join_lead h1 h2]
  exact h t' k
theorem blank_eq {k : Int} (h : 0 ≤ k ∧ k ≤ 2) : PySem.Txt.mul (PySem.Str.ofString " ") k ++ PySem.Str.ofString "\t" = blank k := by
 have : k = 0 ∨ k = 1 ∨ k = 2 := i3 h
 rcases this with rfl | rfl | rfl <;> decide
theorem method_searchK {E : Value → Shared → Prop} {s : Shared} {K : Frag} {P : Addr} {cls : Value} {data : Data} {sl : Array (Option Value)} {pl : Sem Bool} {Q : Value × List Value → Shared → Prop} {h₀ : Heap} {L : Addr} {m : Str → Option Value} (F : Fr h₀ L s.heap m) (X : K.In h₀) (hK : K.lookup P = some ⟨cls, none, data, sl⟩) (hc : cls = .type "re.Pattern")
  (h : Q (.builtin "re.Pattern.search", [.ref P]) s) : wpAny (model prog w) A (getMethod (.ref P) (Str.ofString "search") pl) Q E s :=
 method_search (F.keep _ _ (X _ _ hK)) hc rfl h
theorem search_atK {E : Value → Shared → Prop} {s : Shared} {Q : Value → Shared → Prop} {P : Addr} {x : Str} {t : Tok} {cls : Value} {od : Option Addr} {data : Data} {sl : Array (Option Value)} {h₀ : Heap} {L : Addr} {m : Str → Option Value} (F : Fr h₀ L s.heap m) (X : (hd.heap_1 w.params).In h₀) (hK : (hd.heap_1 w.params).lookup P = some ⟨cls, od, data, sl⟩) (hc : cls = .type "re.Pattern") (hx : noMatch P x) (hQ : Q .none s) :
  wpAny (model prog w) A (call (.builtin "re.Pattern.search") [.ref P, .str x t]) Q E s :=
 search_at (X.keeps F.keep) ⟨_, F.keep _ _ (X _ _ hK), hc⟩ hx hQ
theorem lead_no {tw mv : Int} (h1 : 0 ≤ tw ∧ tw ≤ 2) (h2 : 1 ≤ mv ∧ mv ≤ 7) : noMatch 188 (leadOf tw.toNat mv.toNat) := lead_noMatch (i3l h1) (i7l h2)
theorem six_of {i : Nat} (h : i < 6) : i = 0 ∨ i = 1 ∨ i = 2 ∨ i = 3 ∨ i = 4 ∨ i = 5 := lt6 i h
theorem nameUp_no {i : Nat} (h : i < 6) : noMatch 183 (nameUp i) := by
 refine name_noMatch ?_
 rcases six_of h with rfl | rfl | rfl | rfl | rfl | rfl <;> simp [nameUp]
theorem lead_len {tw mv : Int} (h1 : 0 ≤ tw ∧ tw ≤ 2) (h2 : 1 ≤ mv ∧ mv ≤ 7) : (leadOf tw.toNat mv.toNat).length ≤ 20 := by
 have a : tw = 0 ∨ tw = 1 ∨ tw = 2 := i3 h1
 have b : mv = 1 ∨ mv = 2 ∨ mv = 3 ∨ mv = 4 ∨ mv = 5 ∨ mv = 6 ∨ mv = 7 := i7 h2
 rcases a with rfl | rfl | rfl <;> rcases b with rfl | rfl | rfl | rfl | rfl | rfl | rfl <;> decide +kernel
theorem join_one' {s : Shared} {E : Value → Shared → Prop} {Q : Value → Shared → Prop} {t u : Tok} {D : Addr} {x sep : Str} (hl : s.heap.IsList D #[.str x u]) (hs : sep.length ≤ 16) (hx : x.length ≤ 20)
  (h : ∀ t' k, Q (.str x t') { s with toks := k }) : wpAny (model prog w) A (call (.builtin "str.join") [.str sep t, .ref D]) Q E s := by
 refine join_listW hl (.cons x u .nil) hs (by simp; kaf_pre) (fun t' k => ?_)
 have e : PySem.Txt.join sep [x] = x := rfl
 rw [e]
 exact h t' k
inductive SubR : List (Addr × Obj) → List (Addr × Obj) → Prop
 | refl {l} : SubR l l
 | keep {p a b} : SubR a b → SubR (p :: a) (p :: b)
 | drop {p a b} : SubR a b → SubR a (p :: b)
theorem SubR.mem {a b : List (Addr × Obj)} (h : SubR a b) : ∀ p ∈ a, p ∈ b := by
 induction h with
 | refl => exact fun _ h => h
 | keep _ ih => exact fun p hp => (List.mem_cons.mp hp).elim (fun e => e ▸ List.mem_cons_self ..) (fun hp => .tail _ (ih p hp))
 | drop _ ih => exact fun p hp => .tail _ (ih p hp)
theorem news_sub {h₀ h : Heap} {L : Addr} {a b : List (Addr × Obj)} (N : News h₀ L h b) (S : SubR a b) : News h₀ L h a := fun p hp => N p (S.mem p hp)
abbrev bookD (ps : Params) (t : Tok) (lh : Addr) : Obj := dictOf [{ hash := PyData.keyHash ps (Str.ofString "_headers"), key := Value.str (Str.ofString "_headers") t, val := Value.ref lh }] 1
abbrev BooQ (ps : Params) (tws : Nat → Int) (mvs : Nat → List Int) (v : Value) (led' : List (Addr × Obj)) : Prop :=
 ∃ x d lh refs n dn t, v = .ref x ∧ led' = (x, instObj 317 d) :: (d, bookD ps t lh) :: (lh, listOf refs.toArray n) :: dn ∧ HdrRows tws (hdrs mvs 6) refs dn ∧ AllNe lh dn ∧ AllNe x dn ∧ AllNe d dn ∧ @Ne Nat lh x ∧ @Ne Nat lh d ∧ @Ne Nat x d
theorem boo_end {R : Result → Shared → Prop} {s : Shared} {g h' : Heap} {L x d lh : Addr} {m : Str → Option Value} {news dn : List (Addr × Obj)} {tk n : Nat} {refs : List Value} {tws : Nat → Int} {mvs : Nat → List Int} {ps : Params} {t : Tok}
  (hret : RetG R s g (BooQ ps tws mvs)) (F : Fr g L h' m) (N : News g L h' news) (hR : HdrRows tws (hdrs mvs 6) refs dn) (a1 : AllNe lh dn) (a2 : AllNe x dn) (a3 : AllNe d dn) (hne : @Ne Nat lh x ∧ @Ne Nat lh d ∧ @Ne Nat x d)
  (m1 : (x, instObj 317 d) ∈ news) (m2 : (d, bookD ps t lh) ∈ news) (m3 : (lh, listOf refs.toArray n) ∈ news) (m4 : ∀ p ∈ dn, p ∈ news) :
  R (.ok (.ret (.ref x))) { s with heap := h', toks := tk } :=
 ret_end (led' := (x, instObj 317 d) :: (d, bookD ps t lh) :: (lh, listOf refs.toArray n) :: dn) hret F N (List.forall_mem_cons.mpr ⟨m1, List.forall_mem_cons.mpr ⟨m2, List.forall_mem_cons.mpr ⟨m3, m4⟩⟩⟩) ⟨x, d, lh, refs, n, dn, t, rfl, rfl, hR, a1, a2, a3, hne.1, hne.2.1, hne.2.2⟩
theorem tail_cons' {all dn : List (Addr × Obj)} {a : Addr × Obj} (h : ∀ p ∈ dn, p ∈ all) : ∀ p ∈ dn, p ∈ a :: all := fun p hp => .tail _ (h p hp)
end
end Mine
end
local macro_rules | `(tactic| walk_at "my sub") => `(tactic| first | ((with_reducible show SubR _ ((Array.size (Heap.objs _), _) :: _)); refine' SubR.drop ?sa; (case sa => walk_at "my sub")) | (refine' SubR.keep ?sa; (case sa => walk_at "my sub")) | exact SubR.refl)
section
namespace Mine
local macro_rules | `(tactic| k_in) => `(tactic| ((rename Frag.In _ _ => X9); (rename Fr _ _ _ _ => F9); (exact Frag.In.keeps X9 (Fr.keep F9))))
local macro_rules | `(tactic| walk_at "my tail") => `(tactic| first | exact fun _ h => h | (refine' tail_cons' ?ta; (case ta => walk_at "my tail")))
theorem book_w : ∀ (w : World) (loose : List Str) (mean : ExcName → Option Value) (mg mb : Str → Option Value) (dp un : Nat) (gd : Option (List Code)) (outer : List Env) (base g : Heap) (s : Shared) (R : Result → Shared → Prop) (l : Addr) (refs : List Value) (tws : Nat → Int) (mvs : Nat → List Int)
  (B : Below (arX dp un gd outer) base outer g) (X : (hd.heap_1 w.params).In g) (T : Top topProg loose mean mg mb g) (hkg : ∀ b o, g.get? b = some o → s.heap.get? b = some o) (hsz : g.objs.size ≤ s.heap.objs.size) (hdp : dp + 240 < recursionLimit) (hun : un + 1600 < cLine) (hled : ∀ p ∈ ([] : List (Addr × Obj)), s.heap.get? p.1 = some p.2 ∧ g.get? p.1 = none) (hl : g.IsList l refs.toArray) (G : TurnsIn g tws mvs refs) (htw : ∀ i, i < 6 → 0 ≤ tws i ∧ tws i ≤ 2) (hmv : ∀ i, i < 6 → ∀ k ∈ mvs i, 1 ≤ k ∧ k ≤ 7) (hml : ∀ i, i < 6 → (mvs i).length ≤ 10)
  (hret : RetG R s g (BooQ w.params tws mvs)),
  codeAny (model PySem.Challenge.rw_sn0104_01.row.toRowW.prog w) (arX dp un gd outer) (.call (.ref 331) ⟨[.ref l], []⟩) R s := by
 k_with_none
 k_with "exec For Name Call cons nil" => (k_here; (rename Fr _ _ _ _ => lF'); (with_unfolding_all refine' For_turns lF' ?_; k_whole))
 k_with "exec For Name Name cons nil" => (k_here; (rename Fr _ _ _ _ => lF'); (with_unfolding_all refine' For_turns lF' ?_; k_whole))
 k_with "subscriptTail" => (k_here; k_dflt (refine' item_turn ?zqF ?zqhl ?zqG _ ?zqhk ?zqhi ?_ ?zqhs; (case zqhs => with_unfolding_all rfl); (case zqF => k_asm); (case zqhl => assumption); (case zqG => assumption); (case zqhk => exact Int.zero_add _); (case zqhi => assumption); k_whole; intro T' D' t' ys' hD' hy' hT' hT2'))
 k_with "KfPost" => (dsimp only [KfPost])
 k_with "KfEnd" => (k_dflt (first | (refine' kf_endB2 ?zqR0 ?zqhk ?zqhlead ?zqF ?zqN ?zqm1 ?zqm2 ?zqm3 ?zqm4 ?zqm5 ?zqm6 ?zqm7 ?zqm8 ?zqhcd ?zqhlt ?zqa1 ?zqa2 ?zqa3 ?zqa4 ?zqa5 ?zqa6 ?zqd1 ?zqd2 ?zqd3 ?zqd4 ?zqd5 ?zqd6 ?zqhz; (case zqR0 => (kct_strs)); (case zqhk => (kct_strs)); (case zqF => k_asm); (case zqN => k_asm); (case zqm1 => k_mem); (case zqm2 => k_mem); (case zqm3 => k_mem); (case zqm4 => k_mem); (case zqm5 => k_mem); (case zqm6 => k_mem); (case zqm7 => k_mem); (case zqm8 => walk_at "my tail"); (case zqhcd => (kct_strs)); (case zqhlt => (kct_strs)); (case zqa1 => (kct_strs)); (case zqa2 => (kct_strs)); (case zqa3 => (kct_strs)); (case zqa4 => (kct_strs)); (case zqa5 => (kct_strs)); (case zqa6 => (kct_strs)); (case zqd1 => kpt_turns); (case zqd2 => kpt_turns); (case zqd3 => kpt_turns); (case zqd4 => kpt_turns); (case zqd5 => kpt_turns); (case zqd6 => kpt_turns); (case zqhlead => exact rfl); (case zqhz => (intro z h3; (simp only [stB2, List.contains_cons, List.contains_nil, Bool.or_false, Bool.or_eq_false_iff, beq_eq_false_iff_ne, ne_eq] at h3); (simp [h3, stB2]; done)))) | (refine' kf_endB ?zqR0 ?zqF ?zqN ?zqm1 ?zqm2 ?zqm3 ?zqm4 ?zqm5 ?zqm8 ?zqhcd ?zqhlt ?zqa1 ?zqa2 ?zqa3 ?zqa4 ?zqa6 ?zqhz; (case zqR0 => (kct_strs)); (case zqF => k_asm); (case zqN => k_asm); (case zqm1 => k_mem); (case zqm2 => k_mem); (case zqm3 => k_mem); (case zqm4 => k_mem); (case zqm5 => k_mem); (case zqm8 => walk_at "my tail"); (case zqhcd => (kct_strs)); (case zqhlt => (kct_strs)); (case zqa1 => (kct_strs)); (case zqa2 => (kct_strs)); (case zqa3 => (kct_strs)); (case zqa4 => (kct_strs)); (case zqa6 => (kct_strs)); (case zqhz => (intro z h3; (simp only [stB, List.contains_cons, List.contains_nil, Bool.or_false, Bool.or_eq_false_iff, beq_eq_false_iff_ne, ne_eq] at h3); (simp [h3, stB, stB2]; done))))))
 k_with "pyIter ref" => (((k_here; k_dflt (first | (refine' for_book ?zqG ?zqhtw ?zqhh ?zqF ?zqN ?zqhr ?zqhc ?zqhne (fun i' t' refs' n' oc' dn' cv' u' I' oI' h' tk' hi6' hib' htw' hR' hne' hlt' ha1' ha2' ha3' ha4' ha5' hcd' F' N' => ?_) (fun refs' n' oc' dn' u' h' tk' hR' hne' ha1' ha2' ha3' F' N' => ?_); (case zqG => assumption); (case zqhtw => assumption); (case zqhh => rfl); (case zqF => k_asm); (case zqN => k_asm); (case zqhr => (kct_strs)); (case zqhc => (kct_strs)); (case zqhne => omega)) | (refine' for_book2 ?zqhh ?zqF ?zqN ?zqhl ?zqhi ?zqhc ?zqhi6 ?zqhml ?zqhmv ?zqR0 ?zqa1 ?zqa2 ?zqa3 ?zqa4 ?zqa5 (fun j' k' t' refs' n' oc' dn' cv' u' I' oI' h' tk' hjk' hkb' hsz' hR' hlt' ha1' ha2' ha3' ha4' ha5' ha6' hcd' F' N' => ?_) (fun refs' n' oc' dn' cv' u' h' tk' hR' ha1' ha2' ha3' ha4' ha5' hcd' F' N' => ?_); (case zqhh => rfl); (case zqF => k_asm); (case zqN => k_asm); (case zqhl => (kct_strs)); (case zqhi => (kct_strs)); (case zqhc => (kct_strs)); (case zqhi6 => (kct_strs)); (case zqhml => (kct_strs)); (case zqhmv => (kct_strs)); (case zqR0 => (kct_strs)); (case zqa1 => (kct_strs)); (case zqa2 => (kct_strs)); (case zqa3 => (kct_strs)); (case zqa4 => (kct_strs)); (case zqa5 => (kct_strs)))))); (all_goals (try (k_whole; (fail_if_success (refine dG ?_)); (walk_at "my hk"); (have hkm := HkMark.mk)))))
 k_with "storeName" => (k_here; k_dflt (refine' storeX_C ?zqF ?zqN ?zqc ?zqU ?zqd ?_ ?zqa ?zqb; (case zqa => rfl); (case zqb => rfl); (case zqF => k_asm); (case zqN => k_asm); (case zqc => rfl); (case zqU => walk_at "my updF"); (case zqd => k_asm); k_whole; intro h' o' F' N' d'; (try dsimp only at N')))
 k_with "eval ListComp" => (k_here; k_dflt (refine ListComp_any (F₀ := by k_asm) (by rfl) (by rfl) (by decide) ?_))
 k_with "CSrc" => (k_here; k_dflt (first | ((with_reducible show CSrc _ _ _ _ _ _ _ _ [⟨_, _, [_], _⟩] _ _ _ _ _ _ _); refine' csrc_tup (fun I C D => turn_1t _ _ _ _ _ _ _ _ _) ?zqca ?zqcb ?zqcc ?zqcd ?zqce ?zqcf ?zqcg ?zqch ?zqci ?zqcj ?_; (case zqca => exact fun C => asg_name rfl rfl); (case zqcb => exact fun _ => trivial); (case zqcc => decide); (case zqcd => rfl); (case zqce => rfl); (case zqcf => k_asm); (case zqcg => k_asm); (case zqch => k_mem); (case zqci => rfl); (case zqcj => rfl); k_whole; intro I' C' D' E' g' hI' hCD' hC0' hCL' hD0' hDL' hIC') | ((with_reducible show CSrc _ _ _ _ _ _ _ _ [⟨_, _, [], _⟩] _ _ _ _ _ _ _); refine' csrc_list (fun I C D => turn_1 _ _ _ _ _ _ _ _) ?zqca ?zqcb ?zqcc ?zqcd ?zqce ?zqcf ?zqcg ?zqch ?zqci ?zqcj ?_; (case zqca => exact fun C => asg_name rfl rfl); (case zqcb => exact fun _ => trivial); (case zqcc => decide); (case zqcd => rfl); (case zqce => rfl); (case zqcf => k_asm); (case zqcg => k_asm); (case zqch => k_mem); (case zqci => rfl); (case zqcj => rfl); k_whole; intro I' C' D' E' g' hI' hCD' hC0' hCL' hD0' hDL' hIC')))
 k_with "CR" => (((k_here; k_dflt (first | (refine' ups_cr ?zqmv ?zqa ?zqb ?zqk (fun k' t' l' P' ys' oC' oI' m2' h' tk' hb' hi' hp' hx' hC' F' off' ai' N' => ?_) (fun ys' hF' hu' => ?_); (case zqmv => assumption); (case zqk => k_subL); (case zqa => assumption); (case zqb => assumption)) | (refine' runs_cr ?zqhi ?zqtw ?zqhu ?zqa ?zqb ?zqk (fun k' t' P' ys' oC' oI' m2' h' tk' hb' hp' hx' hC' F' off' ai' N' => ?_) (fun ys' hF' => ?_); (case zqhi => assumption); (case zqtw => assumption); (case zqhu => assumption); (case zqk => k_subL); (case zqa => assumption); (case zqb => assumption))))); (all_goals (try (k_whole; (fail_if_success (refine dG ?_)); (walk_at "my hk"); (have hkm := HkMark.mk)))))
 k_with "CSame" => (k_here; k_dflt (first | (refine' csame_yes ?zqhp ?zqhi ?zqh ?zqF ?zqN; (case zqhp => assumption); (case zqhi => assumption); (case zqh => assumption); (case zqF => k_asm); (case zqN => k_asm)) | (refine' csame_str ?zqhp ?zqhx ?zqF ?zqN; (case zqhp => assumption); (case zqF => k_asm); (case zqN => k_asm); (case zqhx => walk_at "blank9"))))
 k_with "NSame" => (k_here; k_dflt (refine' csame_no ?zqhp ?zqhi ?zqh ?zqF ?zqN; (case zqhp => assumption); (case zqhi => assumption); (case zqh => assumption); (case zqF => k_asm); (case zqN => k_asm)))
 k_with "binaryOp Add ref ref" => (k_here; k_dflt (refine' kmk_add_ints ?zqF ?zqN ?zqa ?zqb ?zqi ?zqj ?_ ?zqz; (case zqF => k_asm); (case zqN => k_asm); (case zqa => kmk_list); (case zqb => kmk_list); (case zqi => first | assumption | exact IntsAre.cons _ _ IntsAre.nil); (case zqj => first | assumption | exact IntsAre.cons _ _ IntsAre.nil); (case zqz => (rw [PySem.sizeLine_eq]; (simp only [List.length_cons, List.length_nil, List.length_append]); omega)); k_whole); intro D' ws' h' F' N' l1 hI'; (try k_lt l1))
 k_with "call builtin:str.join" => (k_here; k_dflt (refine' join_runs ?zql ?zqi ?zqa ?zqb ?zqc ?_; (case zqi => assumption); (case zql => is_list); (case zqa => assumption); (case zqb => assumption); (case zqc => assumption); k_whole; intro t' k'))
 k_with "noma9" => ((with_reducible show noMatch _ (leadOf _ _)); exact lead_no (by assumption) (by assumption))
 k_with "noma9" => ((with_reducible show noMatch _ (nameUp _)); exact nameUp_no (by assumption))
 k_with "blank9" => exact blank_eq (by assumption)
 k_with "getMethod ref" => (k_here; (with_reducible show wpAny _ _ (getMethod (Value.ref _) (Str.ofString "search") _) _ _ _); k_dflt (refine' method_searchK ?zqF ?zqX ?zqhK ?zqhc ?_; (case zqF => k_asm); (case zqX => first | assumption | k_asm); (case zqhK => k_is); (case zqhc => rfl); k_whole))
 k_with "call builtin:re.Pattern.search" => (k_here; k_dflt (refine' search_atK ?zqF ?zqX ?zqhK ?zqhc ?zqhx ?_; (case zqF => k_asm); (case zqX => first | assumption | k_asm); (case zqhK => k_is); (case zqhc => rfl); (case zqhx => walk_at "noma9"); k_whole))
 k_with "eval BinOp" => (((k_here; (with_reducible show wpAny _ _ (eval (Expr.BinOp (Expr.Subscript _ _ _) Operator.Add (Expr.Call _ _ _ _) _) _) _ _ _); k_dflt (refine' join_name ?zqhi ?_ (fun t' tk' => ?_); (case zqhi => assumption)); ((rename (@LT.lt Nat _ _ 6) => h8); (have h9 := six_of h8); ((rcases h9 with h9 | h9 | h9 | h9 | h9 | h9) <;> subst h9)))); (all_goals (try (k_whole; (fail_if_success (refine dG ?_)); (walk_at "my hk"); (have hkm := HkMark.mk)))))
 k_with "NameP" => (k_here; k_dflt (exact NameP.mk' (by decide)))
 k_with "call builtin:str.join" => (k_here; k_dflt (refine' join_one' ?zql ?zqa ?zqb ?_; (case zql => is_list); (case zqa => decide); (case zqb => exact lead_len (by assumption) (by assumption)); k_whole; intro t' k'))
 k_with "call builtin:list.append" => (k_here; k_dflt (refine' append_K ?zqk1 ?zqk2 ?zqk3 ?_ ?zqz; (case zqk1 => k_asm); (case zqk2 => (refine' news_sub ?zqN ?zqsub; (case zqN => k_asm); (case zqsub => walk_at "my sub"))); (case zqk3 => walk_at "my upd"); (case zqz => first | assumption | exact Nat.le_of_ble_eq_true rfl | size_fits); k_whole); intro h' F' N'; (try simp only [List.push_toArray, List.cons_append, List.nil_append] at N'))
 w_top off
 k_fill
 ((refine hk17 (h := ?_)); (generalize hkT17 _ = T9); (generalize pj0 T9 = w, pj1 T9 = loose, pj2 T9 = mean, pj3 T9 = mg, s4 T9 = U9); (clear T9); (generalize pj0 U9 = mb, pj1 U9 = dp, pj2 U9 = un, pj3 U9 = gd, s4 U9 = T9); (clear U9); (generalize pj0 T9 = outer, pj1 T9 = base, pj2 T9 = g, pj3 T9 = s, s4 T9 = U9); (clear T9); (generalize pj0 U9 = R, pj1 U9 = l, pj2 U9 = refs, pj3 U9 = tws, s4 U9 = mvs); (clear U9); intro B X T hkg hsz hdp hun hled hl G htw hmv hml hret)
 k_dflt (refine' enterC (led := []) hkg hsz ?kl ?k3 ?k5 ?k6 ?k7 ?k8 ?k9 ?kB ?kN ?_ ?c2 ?c3 ?c4; (case kl => exact hled); (case k3 => k_asm); (case k5 => k_asm); (case k6 => k_is); (case k7 => k_is); (case k8 => ktr_room); (case k9 => exact BindsTo.of_eq rfl); (case kN => decide +kernel); (case kB => exact rfl); (case c2 => exact rfl); (case c3 => exact rfl); (case c4 => exact rfl); k_whole; intro L' h' tk' cells' F' N' Y' l1; (first | ((revert N' l1); (revert cells'); (refine cellsK1 ?_); intro o0' hd0' N' l1; ((revert l1); (revert N'); (revert hd0'); (revert F'); (revert o0'); (revert tk'); (revert h'); (revert L'); ((refine hk4 (h := ?_)); (generalize hkT4 _ = T9); (generalize pj0 T9 = L', pj1 T9 = h', pj2 T9 = tk', lj3 T9 = o0'); (clear T9); intro F' hd0' N' l1))) | ((revert N' l1); (revert cells'); (refine cellsK2 ?_); intro o0' o1' hd0' hd1' N' l1; ((revert l1); (revert N'); (revert hd1'); (revert hd0'); (revert F'); (revert o1'); (revert o0'); (revert tk'); (revert h'); (revert L'); ((refine hk5 (h := ?_)); (generalize hkT5 _ = T9); (generalize pj0 T9 = L', pj1 T9 = h', pj2 T9 = tk', pj3 T9 = o0', s4 T9 = o1'); (clear T9); intro F' hd0' hd1' N' l1))) | ((revert N' l1); (revert cells'); (refine cellsK3 ?_); intro o0' o1' o2' hd0' hd1' hd2' N' l1; ((revert l1); (revert N'); (revert hd2'); (revert hd1'); (revert hd0'); (revert F'); (revert o2'); (revert o1'); (revert o0'); (revert tk'); (revert h'); (revert L'); ((refine hk6 (h := ?_)); (generalize hkT6 _ = T9); (generalize pj0 T9 = L', pj1 T9 = h', pj2 T9 = tk', pj3 T9 = o0', s4 T9 = U9); (clear T9); (generalize pj0 U9 = o1', lj1 U9 = o2'); (clear U9); intro F' hd0' hd1' hd2' N' l1))) | ((revert N' l1); (revert cells'); (refine cellsK4 ?_); intro o0' o1' o2' o3' hd0' hd1' hd2' hd3' N' l1; ((revert l1); (revert N'); (revert hd3'); (revert hd2'); (revert hd1'); (revert hd0'); (revert F'); (revert o3'); (revert o2'); (revert o1'); (revert o0'); (revert tk'); (revert h'); (revert L'); ((refine hk7 (h := ?_)); (generalize hkT7 _ = T9); (generalize pj0 T9 = L', pj1 T9 = h', pj2 T9 = tk', pj3 T9 = o0', s4 T9 = U9); (clear T9); (generalize pj0 U9 = o1', pj1 U9 = o2', lj2 U9 = o3'); (clear U9); intro F' hd0' hd1' hd2' hd3' N' l1))) | ((revert N' l1); (revert cells'); (refine cellsK5 ?_); intro o0' o1' o2' o3' o4' hd0' hd1' hd2' hd3' hd4' N' l1; ((revert l1); (revert N'); (revert hd4'); (revert hd3'); (revert hd2'); (revert hd1'); (revert hd0'); (revert F'); (revert o4'); (revert o3'); (revert o2'); (revert o1'); (revert o0'); (revert tk'); (revert h'); (revert L'); ((refine hk8 (h := ?_)); (generalize hkT8 _ = T9); (generalize pj0 T9 = L', pj1 T9 = h', pj2 T9 = tk', pj3 T9 = o0', s4 T9 = U9); (clear T9); (generalize pj0 U9 = o1', pj1 U9 = o2', pj2 U9 = o3', lj3 U9 = o4'); (clear U9); intro F' hd0' hd1' hd2' hd3' hd4' N' l1))) | ((revert N' l1); (revert cells'); (refine cellsK6 ?_); intro o0' o1' o2' o3' o4' o5' hd0' hd1' hd2' hd3' hd4' hd5' N' l1; ((revert l1); (revert N'); (revert hd5'); (revert hd4'); (revert hd3'); (revert hd2'); (revert hd1'); (revert hd0'); (revert F'); (revert o5'); (revert o4'); (revert o3'); (revert o2'); (revert o1'); (revert o0'); (revert tk'); (revert h'); (revert L'); ((refine hk9 (h := ?_)); (generalize hkT9 _ = T9); (generalize pj0 T9 = L', pj1 T9 = h', pj2 T9 = tk', pj3 T9 = o0', s4 T9 = U9); (clear T9); (generalize pj0 U9 = o1', pj1 U9 = o2', pj2 U9 = o3', pj3 U9 = o4', s4 U9 = o5'); (clear U9); intro F' hd0' hd1' hd2' hd3' hd4' hd5' N' l1)))); (try simp only [List.cons_append, List.nil_append] at N'); (try k_lt l1); (try dsimp only); (try k_fold); (have hkm := HkMark.mk))
 w_strict k_steps
 all_goals first | (refine' boo_end hret ?F ?N ?R ?a1 ?a2 ?a3 ?n ?m1 ?m2 ?m3 ?m4; (case F => assumption); (case N => assumption); (case R => assumption); (case m1 => k_mem); (case m2 => k_mem); (case m3 => k_mem); (case m4 => walk_at "my tail"); (case n => (repeat' (with_reducible refine And.intro ?_ ?_)) <;> (first | assumption | kpt_turns)); (case a1 => assumption); (case a2 => assumption); (case a3 => assumption)) | w_report
end Mine
end
section
open PyProof.V PyProof.Rows.LCg
namespace Mine
def lowAt (i : Nat) : Str := (([Str.ofString "a0", Str.ofString "a1", Str.ofString "a2", Str.ofString "b0", Str.ofString "b1", Str.ofString "b2"] : List Str).getD i Str.empty)
theorem lower_name {i : Nat} (h : i < 6) : PySem.Txt.lower (nameUp i) = lowAt i := by
 rcases six_of h with rfl | rfl | rfl | rfl | rfl | rfl <;> decide +kernel
theorem lower_low {i : Nat} (h : i < 6) : PySem.Txt.lower (lowAt i) = lowAt i := by
 rcases six_of h with rfl | rfl | rfl | rfl | rfl | rfl <;> decide +kernel
theorem lowAt_eq {i c : Nat} (hi : i < 6) (hc : c < 6) : (lowAt i == lowAt c) = decide (i = c) := by
 rcases six_of hi with rfl | rfl | rfl | rfl | rfl | rfl <;> rcases six_of hc with rfl | rfl | rfl | rfl | rfl | rfl <;> decide +kernel
theorem low_len {i : Nat} (h : i < 6) : (lowAt i).length ≤ 20 := by
 rcases six_of h with rfl | rfl | rfl | rfl | rfl | rfl <;> decide +kernel
theorem up_len {i : Nat} (h : i < 6) : (nameUp i).length ≤ 20 := by
 rcases six_of h with rfl | rfl | rfl | rfl | rfl | rfl <;> decide +kernel
theorem lowAt_no {i : Nat} (h : i < 6) : noMatch 183 (lowAt i) := by
 refine name_noMatch ?_
 rcases six_of h with rfl | rfl | rfl | rfl | rfl | rfl <;> simp [lowAt]
abbrev leadS (tws : Nat → Int) (c : Nat) (k : Int) : Str := leadOf (tws c).toNat k.toNat
def selC (c : Nat) (hs : List (Nat × Int)) : List Int := hs.filterMap fun p => if p.1 = c then some p.2 else none
def HdrOld (g : Heap) (tws : Nat → Int) (hs : List (Nat × Int)) (refs : List Value) : Prop :=
 refs.length = hs.length ∧ ∀ (j i : Nat) (k : Int), hs[j]? = some (i, k) → i < 6 ∧ (1 ≤ k ∧ k ≤ 7) ∧ ∃ (T : Addr) (t u : Tok), refs[j]? = some (Value.ref T) ∧ IsTup g T #[.str (nameUp i) t, .str (leadS tws i k) u]
section
variable {prog : Program} {w : World} {A : Around}
theorem lower_up {E : Value → Shared → Prop} {s : Shared} {Q : Value → Shared → Prop} {i : Nat} {t : Tok} (hi : i < 6) (h : ∀ t' k, Q (.str (lowAt i) t') { s with toks := k }) : wpAny (model prog w) A (call (.builtin "str.lower") [.str (nameUp i) t]) Q E s :=
 SCL.lower (by have := up_len hi; kaf_pre) fun _ => by rw [lower_name hi]; exact h _ _
theorem lower_lo {E : Value → Shared → Prop} {s : Shared} {Q : Value → Shared → Prop} {i : Nat} {t : Tok} (hi : i < 6) (h : ∀ t' k, Q (.str (lowAt i) t') { s with toks := k }) : wpAny (model prog w) A (call (.builtin "str.lower") [.str (lowAt i) t]) Q E s :=
 SCL.lower (by have := low_len hi; kaf_pre) fun _ => by rw [lower_low hi]; exact h _ _
theorem item_kv {h₀ : Heap} {m : Str → Option Value} {L T : Addr} {a b : Value} {u : Tok} {value slice : Expr} {Q : Value → Shared → Prop} {E : Value → Shared → Prop} {s : Shared} {k : Int} (F : Fr h₀ L s.heap m) (hT : IsTup h₀ T #[a, b]) (hk : k = 0 ∨ k = 1) (h : Q (if k = 0 then a else b) s)
  (hs : subscripted slice false (.ref T) (.int k u) = operate [.ref T, .int k u] (getItem (.ref T) (.int k u)) := by with_unfolding_all rfl) (hg : ∀ r, PySem.letTemporaryGo value (Value.ref T) r = pure () := by intro _; with_unfolding_all rfl) :
  wpAny (model prog w) A (subscriptTail value slice (.ref T) (.int k u)) Q E s := by
 obtain ⟨o, e, hc, n, hd⟩ := hT
 have hT' : IsTup s.heap T #[a, b] := ⟨o, F.keep _ _ e, hc, n, hd⟩
 rcases hk with rfl | rfl
 ·exact item_tuple hT' (by decide) (by decide) (j := 0) (by rfl) (by rfl) h hs hg
 ·exact item_tuple hT' (by decide) (by decide) (j := 1) (by rfl) (by rfl) h hs hg
theorem get_cr {h₀ : Heap} {L I C D : Addr} {m : Str → Option Value} {cn : String} {keep : List (Addr × Obj)} {c' : Code} {x : Str} {ct elt : Expr} {cenv : Env} {E : Value → Shared → Prop} {s : Shared} {Fin : List Value → List (Addr × Obj) → Prop} {refs : List Value} {news : List (Addr × Obj)} {tws : Nat → Int} {hs : List (Nat × Int)} {c : Nat}
  (G : HdrOld h₀ tws hs refs) (hl : hs.length ≤ 100) (_hc : c < 6) (hCD : C ≠ D) (hDI : I ≠ C ∧ I ≠ D) (hk : SubL keep news)
  (turn : ∀ (i : Nat) (k : Int) (T : Addr) (t u : Tok) (P : List Value → Prop) (ys : List Value) (oC oI : Obj) (m₂ : Str → Option Value) (h : Heap) (tk : Nat), i < 6 → (1 ≤ k ∧ k ≤ 7) → IsTup h₀ T #[.str (nameUp i) t, .str (leadS tws i k) u] →
   (((lowAt i == lowAt c) = true) → ∀ t', P (ys ++ [.str (leadS tws i k) t'])) → (((lowAt i == lowAt c) = false) → P ys) → m₂ x = some (.ref T) → NsObj oC m₂ → Fr h₀ L h m → OffCD C D news → AllNe I news →
   News h₀ L h ((I, oI) :: (C, oC) :: (D, lst ys) :: news) →
   wpAny (model prog w) A (isTrue ct cenv (eval ct cenv)) (fun b s' => if b = true then wpAny (model prog w) A (eval elt cenv) (CSame h₀ L m { s with heap := h, toks := tk } [(I, oI)] C oC D ys news P) E s' else NSame h₀ L m { s with heap := h, toks := tk } [(I, oI)] C oC D ys news P s') E { s with heap := h, toks := tk })
  (fin : ∀ ys, StrsAre ys ((selC c hs).map (leadS tws c)) → ys.length ≤ 100 → Fin ys news) :
  CR prog w A h₀ L m C D [(I, cn)] keep (fun _ => True) (GName x) c' (testB ct elt (.ref D) cenv c') E s Fin (refs.map .val) [] news := by
 have selLen : ∀ l : List (Nat × Int), (selC c l).length ≤ l.length := fun l => List.length_filterMap_le _ _
 refine cr_sameT (fun i ys => StrsAre ys ((selC c (hs.take i)).map (leadS tws c))) hCD hDI (fun i ys h => ?_) hk ?_ .nil (fun ys h => ?_)
 ·have e := strs_len h
  have e2 := selLen (hs.take i)
  rw [List.length_map] at e
  rw [List.length_take] at e2
  rw [PySem.sizeLine_eq]
  kaf_pre
 ·intro j v ys oC oI m₂ h tk hv hP hx hoC F off ai N
  have hj : j < hs.length := by rw [← G.1]; exact (List.getElem?_eq_some_iff.mp hv).1
  rcases hp : hs[j] with ⟨i, k⟩
  have hij : hs[j]? = some (i, k) := by rw [List.getElem?_eq_getElem hj, hp]
  obtain ⟨hi, hkb, T, t, u, hr, hT⟩ := G.2 j i k hij
  rw [hv] at hr
  have hr := Option.some.inj hr
  subst hr
  have e2 : hs.take (j + 1) = hs.take j ++ [(i, k)] := by rw [List.take_add_one, hij]; rfl
  refine turn i k T t u _ ys oC oI m₂ h tk hi hkb hT (fun he t' => ?_) (fun he => ?_) hx hoC F off ai N
  ·rw [lowAt_eq hi _hc] at he
   have hic : i = c := of_decide_eq_true he
   subst hic
   show StrsAre _ ((selC i (hs.take (j + 1))).map (leadS tws i))
   rw [e2]
   have e3 : selC i (hs.take j ++ [(i, k)]) = selC i (hs.take j) ++ [k] := by simp [selC]
   rw [e3, List.map_append]
   exact strs_snoc hP
  ·rw [lowAt_eq hi _hc] at he
   have hic : ¬ i = c := of_decide_eq_false he
   show StrsAre _ ((selC c (hs.take (j + 1))).map (leadS tws c))
   rw [e2]
   have e3 : selC c (hs.take j ++ [(i, k)]) = selC c (hs.take j) := by simp [selC, hic]
   rw [e3]
   exact hP
 ·rw [G.1, List.take_length] at h
  have e := strs_len h
  have e2 := selLen hs
  rw [List.length_map] at e
  exact fin ys h (by kaf_pre)
theorem csame_get {h₀ : Heap} {L C D : Addr} {m : Str → Option Value} {s₁ : Shared} {its news : List (Addr × Obj)} {oC : Obj} {ys : List Value} {P : List Value → Prop} {h' : Heap} {tk : Nat} {x : Str} {t : Tok} {q : Prop}
  (hp : q → ∀ t', P (ys ++ [.str x t'])) (hq : q) (F : Fr h₀ L h' m) (N : News h₀ L h' (its ++ (C, oC) :: (D, lst ys) :: news)) : CSame h₀ L m s₁ its C oC D ys news P (.str x t) { s₁ with heap := h', toks := tk } := CSame.intro F N (hp hq _)
theorem nsame_get {h₀ : Heap} {L C D : Addr} {m : Str → Option Value} {s₁ : Shared} {its news : List (Addr × Obj)} {oC : Obj} {ys : List Value} {P : List Value → Prop} {h' : Heap} {tk : Nat} {q : Prop}
  (hp : q → P ys) (hq : q) (F : Fr h₀ L h' m) (N : News h₀ L h' (its ++ (C, oC) :: (D, lst ys) :: news)) : NSame h₀ L m s₁ its C oC D ys news P { s₁ with heap := h', toks := tk } := NSame.intro F N (hp hq)
def wsStep (st : List Int × Int) (ch : Nat) : List Int × Int :=
 if ch = 32 then (st.1, st.2 + 1) else
  let cnt := if (st.1.length : Int) ≤ st.2 then st.1 ++ List.replicate (st.2 - st.1.length + 1).toNat 0 else st.1
  (cnt.set st.2.toNat (cnt.getD st.2.toNat 0 + 1), 0)
def wsAt (tx : Str) (i : Nat) : List Int × Int := (tx.cps.toList.take i).foldl wsStep ([], 0)
def wsOk (tx : Str) : Bool := decide (tx.cps.size ≤ 20) && tx.cps.toList.all (fun c => c == 32 || c == 9) && (List.range 21).all fun i => decide (0 ≤ (wsAt tx i).2) && decide ((wsAt tx i).2 ≤ 2) && decide ((wsAt tx i).1.length ≤ 3)
theorem lead_ws {tw mv : Int} (h1 : 0 ≤ tw ∧ tw ≤ 2) (h2 : 1 ≤ mv ∧ mv ≤ 7) : wsOk (leadOf tw.toNat mv.toNat) = true := by
 have a : tw = 0 ∨ tw = 1 ∨ tw = 2 := i3 h1
 have b : mv = 1 ∨ mv = 2 ∨ mv = 3 ∨ mv = 4 ∨ mv = 5 ∨ mv = 6 ∨ mv = 7 := i7 h2
 rcases a with rfl | rfl | rfl <;> rcases b with rfl | rfl | rfl | rfl | rfl | rfl | rfl <;> decide +kernel
theorem lead_back {tw mv : Int} (h1 : 0 ≤ tw ∧ tw ≤ 2) (h2 : 1 ≤ mv ∧ mv ≤ 7) : d2v 1 ((wsAt (leadOf tw.toNat mv.toNat) (leadOf tw.toNat mv.toNat).cps.size).1.map fun k => k.fmod 2) = mv := by
 have a : tw = 0 ∨ tw = 1 ∨ tw = 2 := i3 h1
 have b : mv = 1 ∨ mv = 2 ∨ mv = 3 ∨ mv = 4 ∨ mv = 5 ∨ mv = 6 ∨ mv = 7 := i7 h2
 rcases a with rfl | rfl | rfl <;> rcases b with rfl | rfl | rfl | rfl | rfl | rfl | rfl <;> decide +kernel
abbrev SW := List Value × Addr × Nat × Int × Tok × Int × Tok × Int × Tok
abbrev ledW (rest : List (Addr × Obj)) (c : SW) : List (Addr × Obj) := (c.2.1, listOf c.1.toArray c.2.2.1) :: rest
abbrev psW (c : SW) : List (Str × Value) := [(Str.ofString "count", .ref c.2.1), (Str.ofString "b", .int c.2.2.2.1 c.2.2.2.2.1), (Str.ofString "n", .int c.2.2.2.2.2.1 c.2.2.2.2.2.2.1), (Str.ofString "nt", .int c.2.2.2.2.2.2.2.1 c.2.2.2.2.2.2.2.2)]
abbrev stW : List Str := [Str.ofString "ch"]
def PW (rest : List (Addr × Obj)) (st : List Int × Int) (c : SW) : Prop := IntsAre c.1 st.1 ∧ c.2.2.2.1 = st.2 ∧ AllNe c.2.1 rest

theorem wsAt_succ {tx : Str} {i k : Nat} (h : tx.cps[i]? = some k) : wsAt tx (i + 1) = wsStep (wsAt tx i) k := by
 unfold wsAt
 have e : tx.cps.toList[i]? = some k := by simpa using h
 rw [List.take_add_one, e, Option.toList_some, List.foldl_append]
 rfl
theorem for_ws {E : Value → Shared → Prop} {Q : Flow → Shared → Prop} {s : Shared} {env : Env} {h₀ : Heap} {px : Pos} {body : List Stmt} {tx : Str} {t0 tb tn tnt : Tok} {m₀ : Str → Option Value} {l : Addr} {rest : List (Addr × Obj)} {n0 : Nat} {tw mv : Int}
  (htx : tx = leadOf tw.toNat mv.toNat) (h1 : 0 ≤ tw ∧ tw ≤ 2) (h2 : 1 ≤ mv ∧ mv ≤ 7)
  (hh : A.handled = none) (F : Fr h₀ env.locals s.heap m₀) (N : News h₀ env.locals s.heap ((l, listOf #[] n0) :: rest)) (k1 : m₀ (Str.ofString "count") = some (.ref l)) (k2 : m₀ (Str.ofString "b") = some (.int 0 tb)) (k3 : m₀ (Str.ofString "n") = some (.int 0 tn)) (k4 : m₀ (Str.ofString "nt") = some (.int 0 tnt)) (ha : AllNe l rest)
  (turnS : ∀ (t : Tok) (cnt : List Int) (b : Int) (vs : List Value) (l : Addr) (n : Nat) (tb : Tok) (nn : Int) (tn : Tok) (nt : Int) (tnt : Tok) (u : Str → Option Value) (I : Addr) (oI : Obj) (h : Heap) (tk : Nat), IntsAre vs cnt → cnt.length ≤ 3 → (0 ≤ b ∧ b ≤ 2) → AllNe l rest → AllLt I rest → @Ne Nat l I →
   Fr h₀ env.locals h (kstB (fun z => if stW.contains z then u z else m₀ z) (psW (vs, l, n, b, tb, nn, tn, nt, tnt))) → News h₀ env.locals h ((I, oI) :: (l, listOf vs.toArray n) :: rest) →
   wpAny (model prog w) A (assign (.Name (Str.ofString "ch") px) env (.str (Str.ofString " ") t)) (fun _ s₂ => wpAny (model prog w) A (execs body env) (KfPost h₀ env.locals I oI { s with heap := h, toks := tk } (ledW rest) psW stW m₀ (PW rest (wsStep (cnt, b) 32)) Q) E s₂) E { s with heap := h, toks := tk })
  (turnT : ∀ (t : Tok) (cnt : List Int) (b : Int) (vs : List Value) (l : Addr) (n : Nat) (tb : Tok) (nn : Int) (tn : Tok) (nt : Int) (tnt : Tok) (u : Str → Option Value) (I : Addr) (oI : Obj) (h : Heap) (tk : Nat), IntsAre vs cnt → cnt.length ≤ 3 → (0 ≤ b ∧ b ≤ 2) → AllNe l rest → AllLt I rest → @Ne Nat l I →
   Fr h₀ env.locals h (kstB (fun z => if stW.contains z then u z else m₀ z) (psW (vs, l, n, b, tb, nn, tn, nt, tnt))) → News h₀ env.locals h ((I, oI) :: (l, listOf vs.toArray n) :: rest) →
   wpAny (model prog w) A (assign (.Name (Str.ofString "ch") px) env (.str (Str.ofString "\t") t)) (fun _ s₂ => wpAny (model prog w) A (execs body env) (KfPost h₀ env.locals I oI { s with heap := h, toks := tk } (ledW rest) psW stW m₀ (PW rest (wsStep (cnt, b) 9)) Q) E s₂) E { s with heap := h, toks := tk })
  (done : ∀ (cnt : List Int) (b : Int) (vs : List Value) (l : Addr) (n : Nat) (tb : Tok) (nn : Int) (tn : Tok) (nt : Int) (tnt : Tok) (u : Str → Option Value) (h : Heap) (tk : Nat), IntsAre vs cnt → cnt.length ≤ 3 → d2v 1 (cnt.map fun k => k.fmod 2) = mv → AllNe l rest →
   Fr h₀ env.locals h (kstB (fun z => if stW.contains z then u z else m₀ z) (psW (vs, l, n, b, tb, nn, tn, nt, tnt))) → News h₀ env.locals h ((l, listOf vs.toArray n) :: rest) → Q .next { s with heap := h, toks := tk }) :
  wpAny (model prog w) A (pyIter (.str tx t0)) (fun it s₂ => TurnsAt prog w A h₀ env (.Name (Str.ofString "ch") px) body Q E it s₂) E s := by
 have hok : wsOk tx = true := htx ▸ lead_ws h1 h2
 have hback := lead_back h1 h2
 rw [← htx] at hback
 simp only [wsOk, Bool.and_eq_true, decide_eq_true_eq, List.all_eq_true, Bool.or_eq_true, beq_iff_eq, List.mem_range] at hok
 obtain ⟨⟨hsz, hch⟩, hb⟩ := hok
 have hlt : ∀ p ∈ rest, p.1 < s.heap.objs.size := fun p hp => Heap.lt_size (N p (.tail _ hp)).1
 refine for_foldS (ledW rest) psW stW (fun i c => PW rest (wsAt tx i) c) ([], l, n0, 0, tb, 0, tn, 0, tnt) hh F N (fun I v s Q E q => wpAny_pure q) (fun p hp => hp) ?_ ⟨.nil, rfl, ha⟩ ?_ ?_
 ·exact List.forall_mem_cons.mpr ⟨k1, List.forall_mem_cons.mpr ⟨k2, List.forall_mem_cons.mpr ⟨k3, List.forall_mem_cons.mpr ⟨k4, List.forall_mem_nil _⟩⟩⟩⟩
 ·rintro i k t ⟨vs, l', n, b, tb, nn, tn, nt, tnt⟩ u I oI h tk hk hI ⟨hP1, hP2, hP3⟩ F' N' ha'
  have hi : i < tx.cps.size := (Array.getElem?_eq_some_iff.mp hk).1
  obtain ⟨⟨b0, b2⟩, b3⟩ := hb i (by kaf_pre)
  rw [wsAt_succ hk]
  have hc := hch k (by rw [Array.mem_toList_iff]; exact Array.mem_of_getElem? hk)
  generalize wsAt tx i = st at *
  obtain ⟨cnt, b'⟩ := st
  dsimp only at hP1 hP2 hP3 b0 b2 b3
  subst hP2
  have aI : AllLt I rest := allLt_of fun p hp => hI p (.tail _ hp)
  rcases hc with rfl | rfl
  ·exact turnS t cnt b vs l' n tb nn tn nt tnt u I oI h tk hP1 b3 ⟨b0, b2⟩ hP3 aI ha'.1 F' N'
  ·exact turnT t cnt b vs l' n tb nn tn nt tnt u I oI h tk hP1 b3 ⟨b0, b2⟩ hP3 aI ha'.1 F' N'
 ·rintro ⟨vs, l', n, b, tb, nn, tn, nt, tnt⟩ u h tk ⟨hP1, hP2, hP3⟩ F' N'
  obtain ⟨⟨b0, b2⟩, b3⟩ := hb tx.cps.size (by kaf_pre)
  exact done _ b vs l' n tb nn tn nt tnt u h tk hP1 b3 hback hP3 F' N'

abbrev SR := List Value × Nat × Array Value × Addr × Obj
abbrev ledR (lm D : Addr) (ys : List Value) (rest : List (Addr × Obj)) (c : SR) : List (Addr × Obj) := (lm, listOf c.1.toArray c.2.1) :: (61, tabObj c.2.2.1) :: (c.2.2.2.1, c.2.2.2.2) :: (D, lst ys) :: rest
abbrev stR : List Str := [Str.ofString "text", Str.ofString "count", Str.ofString "trailing"]
def PR (ks : List Int) (lm D : Addr) (rest : List (Addr × Obj)) (i : Nat) (c : SR) : Prop := IntsAre c.1 (ks.take i) ∧ TS 61 51 4 qD c.2.2.1 c.2.2.2.1 c.2.2.2.2 ∧ @Ne Nat c.2.2.2.1 lm ∧ @Ne Nat c.2.2.2.1 D ∧ AllNe c.2.2.2.1 rest
theorem for_read {E : Value → Shared → Prop} {Q : Flow → Shared → Prop} {s : Shared} {env : Env} {h₀ : Heap} {target : Expr} {body : List Stmt} {m₀ : Str → Option Value} {D lm c0 : Addr} {o0 : Obj} {p0 : Array Value} {ys : List Value} {news : List (Addr × Obj)} {x d : Addr} {od : Obj} {n0 : Nat} {ks : List Int} {tws : Nat → Int} {c : Nat}
  (hys : StrsAre ys (ks.map (leadS tws c))) (hT : TS 61 51 4 qD p0 c0 o0) (htw : ∀ i, i < 6 → 0 ≤ tws i ∧ tws i ≤ 2) (hc : c < 6) (hkb : ∀ k ∈ ks, 1 ≤ k ∧ k ≤ 7) (hl : ks.length ≤ 100)
  (hh : A.handled = none) (F : Fr h₀ env.locals s.heap m₀) (N : News h₀ env.locals s.heap news) (m5 : (x, instObj 317 d) ∈ news) (m6 : (d, od) ∈ news) (m1 : (lm, listOf #[] n0) ∈ news) (m2 : (61, tabObj p0) ∈ news) (m3 : (c0, o0) ∈ news) (m4 : (D, lst ys) ∈ news)
  (h61 : @Ne Nat 61 lm) (h61D : @Ne Nat 61 D) (hDl : @Ne Nat D lm) (n1 : @Ne Nat c0 lm) (n2 : @Ne Nat c0 D) (n3 : AllNe c0 [(x, instObj 317 d), (d, od)]) (n4 : AllNe lm [(x, instObj 317 d), (d, od)]) (n5 : AllNe 61 [(x, instObj 317 d), (d, od)]) (n6 : AllNe D [(x, instObj 317 d), (d, od)])
  (turn : ∀ (i : Nat) (k : Int) (t : Tok) (vs : List Value) (n : Nat) (p6 : Array Value) (c6 : Addr) (o6 : Obj) (u : Str → Option Value) (I : Addr) (oI : Obj) (h : Heap) (tk : Nat), ks[i]? = some k → (1 ≤ k ∧ k ≤ 7) → (0 ≤ tws c ∧ tws c ≤ 2) → IntsAre vs (ks.take i) → vs.toArray.size < sizeLine → TS 61 51 4 qD p6 c6 o6 → (@Ne Nat c6 lm ∧ @Ne Nat c6 D ∧ AllNe c6 [(x, instObj 317 d), (d, od)]) →
   (@LT.lt Nat _ lm I ∧ @LT.lt Nat _ 61 I ∧ @LT.lt Nat _ D I ∧ AllLt I [(x, instObj 317 d), (d, od)]) → @Ne Nat c6 I → (@Ne Nat 61 lm ∧ @Ne Nat 61 D ∧ @Ne Nat D lm ∧ AllNe lm [(x, instObj 317 d), (d, od)] ∧ AllNe 61 [(x, instObj 317 d), (d, od)] ∧ AllNe D [(x, instObj 317 d), (d, od)]) →
   Fr h₀ env.locals h (fun z => if stR.contains z then u z else m₀ z) → News h₀ env.locals h ((I, oI) :: (lm, listOf vs.toArray n) :: (61, tabObj p6) :: (c6, o6) :: (D, lst ys) :: [(x, instObj 317 d), (d, od)]) →
   wpAny (model prog w) A (assign target env (.str (leadS tws c k) t)) (fun _ s₂ => wpAny (model prog w) A (execs body env) (KfPost h₀ env.locals I oI { s with heap := h, toks := tk } (ledR lm D ys [(x, instObj 317 d), (d, od)]) (fun _ => []) stR m₀ (PR ks lm D [(x, instObj 317 d), (d, od)] (i + 1)) Q) E s₂) E { s with heap := h, toks := tk })
  (done : ∀ (vs : List Value) (n : Nat) (p6 : Array Value) (c6 : Addr) (o6 : Obj) (u : Str → Option Value) (h : Heap) (tk : Nat), IntsAre vs ks → TS 61 51 4 qD p6 c6 o6 → (@Ne Nat c6 lm ∧ @Ne Nat c6 D ∧ AllNe c6 [(x, instObj 317 d), (d, od)]) → Fr h₀ env.locals h (fun z => if stR.contains z then u z else m₀ z) →
   News h₀ env.locals h ((lm, listOf vs.toArray n) :: (61, tabObj p6) :: (c6, o6) :: (D, lst ys) :: [(x, instObj 317 d), (d, od)]) → Q .next { s with heap := h, toks := tk }) :
  wpAny (model prog w) A (pyIter (.ref D)) (fun it s₂ => TurnsAt prog w A h₀ env target body Q E it s₂) E s := by
 have hn : ∀ p ∈ (lm, listOf #[] n0) :: (61, tabObj p0) :: (c0, o0) :: (D, lst ys) :: [(x, instObj 317 d), (d, od)], p ∈ news := List.forall_mem_cons.mpr ⟨m1, List.forall_mem_cons.mpr ⟨m2, List.forall_mem_cons.mpr ⟨m3, List.forall_mem_cons.mpr ⟨m4, List.forall_mem_cons.mpr ⟨m5, List.forall_mem_cons.mpr ⟨m6, List.forall_mem_nil _⟩⟩⟩⟩⟩⟩
 have hlen : ys.length = ks.length := by rw [strs_len hys, List.length_map]
 have hD : (D, lst ys) ∈ news := hn _ (.tail _ (.tail _ (.tail _ (.head _))))
 have hDl' : s.heap.IsList D ys.toArray := ⟨_, (N _ hD).1, rfl, _, rfl⟩
 refine for_fold (ledR lm D ys [(x, instObj 317 d), (d, od)]) (fun _ => []) stR (PR ks lm D [(x, instObj 317 d), (d, od)]) ([], n0, p0, c0, o0) hh F N hDl' (.inr ⟨lst ys, fun _ => .tail _ (.tail _ (.tail _ (.head _)))⟩) hn (fun _ hp => nomatch hp) ⟨.nil, hT, n1, n2, n3⟩ ?_ ?_
 ·rintro i v ⟨vs, n, p6, c6, o6⟩ u I oI h tk hI hv ⟨h1, h2, h3, h4, h5⟩ F' N' ha
  have hi : i < ks.length := by rw [← hlen]; exact (List.getElem?_eq_some_iff.mp hv).1
  have hk : ks[i]? = some ks[i] := List.getElem?_eq_getElem hi
  have strAt : ∀ {ys : List Value} {ts : List Str}, StrsAre ys ts → ∀ (i : Nat) (v : Value), ys[i]? = some v → ∃ x t, v = .str x t ∧ ts[i]? = some x := by
   intro ys ts h
   induction h with
   | nil => intro i v h; simp at h
   | cons z u r ih =>
    intro i v h
    cases i with
    | zero => exact ⟨z, u, by simpa using h.symm, rfl⟩
    | succ i => simpa using ih i v (by simpa using h)
  obtain ⟨x, t, rfl, hx⟩ := strAt hys i v hv
  rw [List.getElem?_map, hk] at hx
  have hx := Option.some.inj hx
  subst hx
  have hlm : (lm, listOf #[] n0) ∈ news := hn _ (.head _)
  have hr : AllLt I [(x, instObj 317 d), (d, od)] := allLt_of fun p hp => hI p (hn p (.tail _ (.tail _ (.tail _ (.tail _ hp)))))
  refine turn i ks[i] t vs n p6 c6 o6 u I oI h tk hk (hkb _ (List.getElem_mem hi)) (htw c hc) h1 ?_ h2 ⟨h3, h4, h5⟩ ⟨hI _ hlm, hI (61, tabObj p0) (hn _ (.tail _ (.head _))), hI _ hD, hr⟩ ha.2.2.1 ⟨h61, h61D, hDl, n4, n5, n6⟩ F' N'
  have e1 : vs.length = _ := h1.length
  rw [List.length_take] at e1
  rw [List.size_toArray, PySem.sizeLine_eq]
  kaf_pre
 ·rintro ⟨vs, n, p6, c6, o6⟩ u h tk ⟨h1, h2, h3, h4, h5⟩ F' N'
  rw [hlen, List.take_length] at h1
  exact done vs n p6 c6 o6 u h tk h1 h2 ⟨h3, h4, h5⟩ F' N'
theorem kf_endR {h₀ h' : Heap} {L I lm D c6 : Addr} {oI o6 : Obj} {s₁ : Shared} {m₀ m' : Str → Option Value} {tk : Nat} {all rest : List (Addr × Obj)} {i : Nat} {vs ys : List Value} {n : Nat} {k y : Int} {t : Tok} {ks : List Int} {p6 : Array Value}
  (hI : IntsAre vs (ks.take i)) (hk : ks[i]? = some k) (hT : TS 61 51 4 qD p6 c6 o6) (hy : y = k) (F : Fr h₀ L h' m') (N : News h₀ L h' all) (m1 : (I, oI) ∈ all) (m2 : (lm, listOf (vs ++ [Value.int y t]).toArray n) ∈ all) (m3 : (61, tabObj p6) ∈ all) (m4 : (c6, o6) ∈ all) (m5 : (D, lst ys) ∈ all) (m6 : ∀ p ∈ rest, p ∈ all)
  (hlt : @LT.lt Nat _ lm I ∧ @LT.lt Nat _ 61 I ∧ @LT.lt Nat _ D I ∧ AllLt I rest) (d0 : @Ne Nat c6 I) (d1 : @Ne Nat c6 lm) (d2 : @Ne Nat c6 D) (d3 : AllNe c6 rest)
  (hz : ∀ z, stR.contains z = false → m' z = m₀ z) :
  KfEnd h₀ L I oI s₁ (ledR lm D ys rest) (fun _ => []) stR m₀ (PR ks lm D rest (i + 1)) { s₁ with heap := h', toks := tk } := by
 subst hy
 have ne_of_lt : ∀ {l : List (Addr × Obj)}, AllLt I l → AllNe I l := by
  intro l
  induction l with
  | nil => intro _; exact trivial
  | cons p r ih => intro h; exact ⟨Nat.ne_of_lt h.1, ih h.2⟩
 refine KfEnd.intro (vs ++ [.int y t], n, p6, c6, o6) F N m1
  (List.forall_mem_cons.mpr ⟨m2, List.forall_mem_cons.mpr ⟨m3, List.forall_mem_cons.mpr ⟨m4, List.forall_mem_cons.mpr ⟨m5, m6⟩⟩⟩⟩)
  ⟨Nat.ne_of_lt hlt.1, Nat.ne_of_lt hlt.2.1, d0, Nat.ne_of_lt hlt.2.2.1, ne_of_lt hlt.2.2.2⟩ (fun _ h => nomatch h) (fun z _ => hz z) ⟨?_, hT, d1, d2, d3⟩
 have e : ks.take (i + 1) = ks.take i ++ [y] := by rw [List.take_add_one, hk]; rfl
 show IntsAre (vs ++ [Value.int y t]) (ks.take (i + 1))
 rw [e]
 exact IntsAre.append hI (.cons _ _ .nil)
abbrev ReaQ (ps : Params) (x d lh : Addr) (th : Tok) (ks : List Int) (v : Value) (led' : List (Addr × Obj)) : Prop :=
 ∃ lm vs n p6 c6 o6, v = .ref lm ∧ led' = [(lm, listOf vs.toArray n), (x, instObj 317 d), (d, bookD ps th lh), (61, tabObj p6), (c6, o6)] ∧ IntsAre vs ks ∧ TS 61 51 4 qD p6 c6 o6 ∧ @Ne Nat 61 lm ∧ @Ne Nat c6 lm ∧ @Ne Nat x lm ∧ @Ne Nat d lm ∧ @Ne Nat c6 x ∧ @Ne Nat c6 d
theorem rea_end {R : Result → Shared → Prop} {s : Shared} {g h' : Heap} {L lm x d lh c6 : Addr} {m : Str → Option Value} {news : List (Addr × Obj)} {tk n : Nat} {vs : List Value} {ks : List Int} {ps : Params} {th : Tok} {p6 : Array Value} {o6 : Obj}
  (hret : RetG R s g (ReaQ ps x d lh th ks)) (F : Fr g L h' m) (N : News g L h' news) (hi : IntsAre vs ks) (hT : TS 61 51 4 qD p6 c6 o6)
  (m1 : (lm, listOf vs.toArray n) ∈ news) (m2 : (x, instObj 317 d) ∈ news) (m3 : (d, bookD ps th lh) ∈ news) (m4 : (61, tabObj p6) ∈ news) (m5 : (c6, o6) ∈ news) (n1 : @Ne Nat 61 lm) (n2 : @Ne Nat c6 lm) (n3 : @Ne Nat x lm) (n4 : @Ne Nat d lm) (n5 : @Ne Nat c6 x) (n6 : @Ne Nat c6 d) :
  R (.ok (.ret (.ref lm))) { s with heap := h', toks := tk } :=
 ret_end (led' := [(lm, listOf vs.toArray n), (x, instObj 317 d), (d, bookD ps th lh), (61, tabObj p6), (c6, o6)]) hret F N (List.forall_mem_cons.mpr ⟨m1, List.forall_mem_cons.mpr ⟨m2, List.forall_mem_cons.mpr ⟨m3, List.forall_mem_cons.mpr ⟨m4, List.forall_mem_cons.mpr ⟨m5, List.forall_mem_nil _⟩⟩⟩⟩⟩) ⟨lm, vs, n, p6, c6, o6, rfl, rfl, hi, hT, n1, n2, n3, n4, n5, n6⟩
theorem pw_end {h₀ h' : Heap} {L I l : Addr} {oI : Obj} {s₁ : Shared} {m₀ m' : Str → Option Value} {tk : Nat} {all rest : List (Addr × Obj)} {vs : List Value} {n : Nat} {b nn nt : Int} {tb tn tnt : Tok} {st : List Int × Int} {cnt : List Int} {b' : Int}
  (F : Fr h₀ L h' m') (N : News h₀ L h' all) (k1 : m' (Str.ofString "count") = some (.ref l)) (k2 : m' (Str.ofString "b") = some (.int b tb)) (k3 : m' (Str.ofString "n") = some (.int nn tn)) (k4 : m' (Str.ofString "nt") = some (.int nt tnt)) (m1 : (I, oI) ∈ all) (m2 : (l, listOf vs.toArray n) ∈ all) (m3 : ∀ p ∈ rest, p ∈ all)
  (hi : IntsAre vs cnt) (e : st = (cnt, b')) (eb : b = b') (hl : AllNe l rest) (hIl : @Ne Nat l I) (hI : AllLt I rest)
  (hz : ∀ z, z ≠ Str.ofString "count" → z ≠ Str.ofString "b" → z ≠ Str.ofString "n" → z ≠ Str.ofString "nt" → z ≠ Str.ofString "ch" → m' z = m₀ z) :
  KfEnd h₀ L I oI s₁ (ledW rest) psW stW m₀ (PW rest st) { s₁ with heap := h', toks := tk } := by
 subst e
 have ne_of_lt : ∀ {l : List (Addr × Obj)}, AllLt I l → AllNe I l := by
  intro l
  induction l with
  | nil => intro _; exact trivial
  | cons p r ih => intro h; exact ⟨Nat.ne_of_lt h.1, ih h.2⟩
 have hz' : ∀ z, (∀ p ∈ psW (vs, l, n, b, tb, nn, tn, nt, tnt), z ≠ p.1) → stW.contains z = false → m' z = m₀ z := by
  intro z h1 h2
  have e : z ≠ Str.ofString "ch" := by
   simp only [stW, List.contains_cons, List.contains_nil, Bool.or_false, beq_eq_false_iff_ne, ne_eq] at h2
   exact h2
  obtain ⟨a1, h1⟩ := List.forall_mem_cons.mp h1
  obtain ⟨a2, h1⟩ := List.forall_mem_cons.mp h1
  obtain ⟨a3, h1⟩ := List.forall_mem_cons.mp h1
  obtain ⟨a4, h1⟩ := List.forall_mem_cons.mp h1
  exact hz z a1 a2 a3 a4 e
 exact KfEnd.intro (vs, l, n, b, tb, nn, tn, nt, tnt) F N m1 (List.forall_mem_cons.mpr ⟨m2, m3⟩) ⟨hIl, ne_of_lt hI⟩
  (List.forall_mem_cons.mpr ⟨k1, List.forall_mem_cons.mpr ⟨k2, List.forall_mem_cons.mpr ⟨k3, List.forall_mem_cons.mpr ⟨k4, List.forall_mem_nil _⟩⟩⟩⟩) hz' ⟨hi, eb, hl⟩

theorem odd_cr {h₀ : Heap} {L I C D : Addr} {m : Str → Option Value} {cn : String} {keep : List (Addr × Obj)} {c : Code} {x : Str} {elt : Expr} {cenv : Env} {E : Value → Shared → Prop} {s : Shared} {Fin : List Value → List (Addr × Obj) → Prop} {vs : List Value} {news : List (Addr × Obj)} {cnt : List Int}
  (hi : IntsAre vs cnt) (hl : cnt.length ≤ 3) (hCD : C ≠ D) (hDI : I ≠ C ∧ I ≠ D) (hk : SubL keep news)
  (turn : ∀ (k : Int) (t : Tok) (P : List Value → Prop) (ys : List Value) (oC oI : Obj) (m₂ : Str → Option Value) (h : Heap) (tk : Nat), (∀ x t, x = k.fmod 2 → P (ys ++ [.int x t])) → m₂ x = some (.int k t) → NsObj oC m₂ → Fr h₀ L h m → OffCD C D news → AllNe I news →
   News h₀ L h ((I, oI) :: (C, oC) :: (D, lst ys) :: news) →
   wpAny (model prog w) A (eval elt cenv) (CSame h₀ L m { s with heap := h, toks := tk } [(I, oI)] C oC D ys news P) E { s with heap := h, toks := tk })
  (fin : ∀ ys, IntsAre ys (cnt.map fun k => k.fmod 2) → (cnt.map fun k => k.fmod 2).length ≤ 3 → (∀ x ∈ cnt.map fun k => k.fmod 2, 0 ≤ x ∧ x ≤ 3) → Fin ys news) :
  CR prog w A h₀ L m C D [(I, cn)] keep (fun _ => True) (GName x) c (emitB elt (.ref D) cenv c) E s Fin (vs.map .val) [] news := by
 refine cr_same (fun i ys => IntsAre ys ((cnt.take i).map fun k => k.fmod 2)) hCD hDI (fun i ys h => ?_) hk ?_ .nil (fun ys h => fin ys ?_ (by rw [List.length_map]; exact hl) ?_)
 ·have e := h.length
  rw [List.length_map, List.length_take] at e
  rw [PySem.sizeLine_eq, e]
  kaf_pre
 ·intro i v ys oC oI m₂ h tk hv hP hx hoC F off ai N
  obtain ⟨k, t, rfl, hk'⟩ := IntsAre.at hi i v hv
  refine turn k t _ ys oC oI m₂ h tk (fun x t e => ?_) hx hoC F off ai N
  have e2 : cnt.take (i + 1) = cnt.take i ++ [k] := by rw [List.take_add_one, hk']; rfl
  subst e
  rw [e2, List.map_append]
  exact IntsAre.append hP (.cons _ _ .nil)
 ·have e : vs.length = cnt.length := hi.length
  rw [e, List.take_length] at h
  exact h
 ·intro x hx
  obtain ⟨k, _, rfl⟩ := List.mem_map.mp hx
  rw [Int.fmod_eq_emod_of_nonneg _ (by decide)]
  kaf_pre
theorem csame_int {h₀ : Heap} {L C D : Addr} {m : Str → Option Value} {s₁ : Shared} {its news : List (Addr × Obj)} {oC : Obj} {ys : List Value} {P : List Value → Prop} {h' : Heap} {tk : Nat} {k x : Int} {t : Tok}
  (hp : ∀ x t, x = k → P (ys ++ [.int x t])) (hx : x = k) (F : Fr h₀ L h' m) (N : News h₀ L h' (its ++ (C, oC) :: (D, lst ys) :: news)) : CSame h₀ L m s₁ its C oC D ys news P (.int x t) { s₁ with heap := h', toks := tk } := CSame.intro F N (hp _ _ hx)
theorem three_of {b : Int} (h : 0 ≤ b ∧ b ≤ 2) : b = 0 ∨ b = 1 ∨ b = 2 := i3 h
abbrev GetQ (ps : Params) (x d lh : Addr) (th : Tok) (tws : Nat → Int) (ks : List Int) (c : Nat) (v : Value) (led' : List (Addr × Obj)) : Prop :=
 ∃ D ys, v = .ref D ∧ led' = [(D, lst ys), (x, instObj 317 d), (d, bookD ps th lh)] ∧ StrsAre ys (ks.map (leadS tws c)) ∧ @Ne Nat x D ∧ @Ne Nat d D
theorem get_end {R : Result → Shared → Prop} {s : Shared} {g h' : Heap} {L D x d lh : Addr} {m : Str → Option Value} {news : List (Addr × Obj)} {tk : Nat} {ys : List Value} {ks : List Int} {ps : Params} {th : Tok} {tws : Nat → Int} {c : Nat}
  (hret : RetG R s g (GetQ ps x d lh th tws ks c)) (F : Fr g L h' m) (N : News g L h' news) (hi : StrsAre ys (ks.map (leadS tws c)))
  (m1 : (D, lst ys) ∈ news) (m2 : (x, instObj 317 d) ∈ news) (m3 : (d, bookD ps th lh) ∈ news) (n1 : @Ne Nat x D) (n2 : @Ne Nat d D) :
  R (.ok (.ret (.ref D))) { s with heap := h', toks := tk } :=
 ret_end (led' := [(D, lst ys), (x, instObj 317 d), (d, bookD ps th lh)]) hret F N (List.forall_mem_cons.mpr ⟨m1, List.forall_mem_cons.mpr ⟨m2, List.forall_mem_cons.mpr ⟨m3, List.forall_mem_nil _⟩⟩⟩) ⟨D, ys, rfl, rfl, hi, n1, n2⟩
theorem HdrOld.keeps {g g' : Heap} {tws : Nat → Int} {hs : List (Nat × Int)} {refs : List Value} (G : HdrOld g tws hs refs) (hk : ∀ b o, g.get? b = some o → g'.get? b = some o) : HdrOld g' tws hs refs :=
 ⟨G.1, fun j i k h => by
  obtain ⟨a, b, T, t, u, hr, o, e, hc, n, hd⟩ := G.2 j i k h
  exact ⟨a, b, T, t, u, hr, o, hk _ _ e, hc, n, hd⟩⟩
theorem hdr_hold {h₀ g : Heap} {tws : Nat → Int} {hs : List (Nat × Int)} {refs : List Value} {lh : Addr} (hl : h₀.IsList lh refs.toArray) (G : HdrOld h₀ tws hs refs) (hk : ∀ b o, h₀.get? b = some o → g.get? b = some o) : g.IsList lh refs.toArray ∧ HdrOld g tws hs refs := ⟨hl.at fun o e => hk _ _ e, G.keeps hk⟩

theorem tup_of {E : Value → Shared → Prop} {s : Shared} {h₀ : Heap} {L l : Addr} {m : Str → Option Value} {news : List (Addr × Obj)} {vs : List Value} {cnt : List Int} {Q : Value → Shared → Prop} (F : Fr h₀ L s.heap m) (N : News h₀ L s.heap news) (hl : s.heap.IsList l vs.toArray) (hi : IntsAre vs cnt) (hc : cnt.length ≤ 3)
  (h : ∀ D h', Fr h₀ L h' m → News h₀ L h' ((D, ({ cls := .type "tuple", data := .seq vs.toArray } : Obj)) :: news) → (∀ p ∈ news, p.1 < D) → Q (.ref D) { s with heap := h' }) : wpAny (model prog w) A (call (.type "tuple") [.ref l]) Q E s :=
 kde_tupleOf F N hl (by have e := hi.length; rw [List.size_toArray, e]; kaf_pre) rfl h
end
end Mine
end
section
namespace Mine
theorem get_w : ∀ (w : World) (loose : List Str) (mean : ExcName → Option Value) (mg mb : Str → Option Value) (dp un : Nat) (gd : Option (List Code)) (outer : List Env) (base g : Heap) (s : Shared) (R : Result → Shared → Prop) (x d lh : Addr) (th tn : Tok) (refs : List Value) (hs : List (Nat × Int)) (tws : Nat → Int) (c : Nat)
  (B : Below (arX dp un gd outer) base outer g) (X : (hd.heap_1 w.params).In g) (T : Top topProg loose mean mg mb g) (hkg : ∀ b o, g.get? b = some o → s.heap.get? b = some o) (hsz : g.objs.size ≤ s.heap.objs.size) (hdp : dp + 120 < recursionLimit) (hun : un + 800 < cLine) (hled : ∀ p ∈ ([(x, instObj 317 d), (d, bookD w.params th lh)] : List (Addr × Obj)), s.heap.get? p.1 = some p.2 ∧ g.get? p.1 = none) (hl : g.IsList lh refs.toArray) (G : HdrOld g tws hs refs) (hhl : hs.length ≤ 100) (hc : c < 6)
  (hret : RetG R s g (GetQ w.params x d lh th tws (selC c hs) c)),
  codeAny (model PySem.Challenge.rw_sn0104_01.row.toRowW.prog w) (arX dp un gd outer) (.call (.ref 256) ⟨[.ref x, .str (lowAt c) tn], []⟩) R s := by
 k_with_none
 k_with "lt9" => with_reducible (first | assumption | exact (And.left (by assumption)) | exact (cl1 (by assumption)) | exact (cr1 (by assumption)) | exact (cl2 (by assumption)) | exact (cr2 (by assumption)) | exact (cl3 (by assumption)) | exact (cr3 (by assumption)) | exact (cl4 (by assumption)) | exact (cr4 (by assumption)) | exact (cl5 (by assumption)) | exact (cr5 (by assumption)) | exact (cl6 (by assumption)) | exact (cr6 (by assumption)) | exact (cl7 (by assumption)) | exact (cr7 (by assumption)) | exact (cl8 (by assumption)) | exact (cr8 (by assumption)) | exact (cl9 (by assumption)) | exact (cr9 (by assumption)) | exact (cl10 (by assumption)) | exact (cr10 (by assumption)) | exact (cl11 (by assumption)) | exact (cr11 (by assumption)) | exact (cl12 (by assumption)) | exact (cr12 (by assumption)) | exact (cl13 (by assumption)) | exact (cr13 (by assumption)) | exact (cl14 (by assumption)) | exact (cr14 (by assumption)) | exact (cl15 (by assumption)) | exact (cr15 (by assumption)) | exact (cl16 (by assumption)) | exact (cr16 (by assumption)) | exact (cl17 (by assumption)) | exact (cr17 (by assumption)) | exact (cl18 (by assumption)) | exact (cr18 (by assumption)) | exact (cl19 (by assumption)) | exact (cr19 (by assumption)) | exact (cl20 (by assumption)) | exact (cr20 (by assumption)) | exact (cl21 (by assumption)) | exact (cr21 (by assumption)) | exact (cl22 (by assumption)) | exact (cr22 (by assumption)))
 k_with "ne2" => ((try dsimp only); first | (refine' Nat.ne_of_lt (Nat.lt_trans ?zqp ?zqq); (case zqq => assumption); (case zqp => k_extra "lt9")) | (refine' Nat.ne_of_gt (Nat.lt_trans ?zqp ?zqq); (case zqq => assumption); (case zqp => k_extra "lt9")))
 k_with "eval ListComp" => (k_here; k_dflt (refine ListComp_any (F₀ := by k_asm) (by rfl) (by rfl) (by decide) ?_))
 k_with "CSrc" => (k_here; k_dflt (first | ((with_reducible show CSrc _ _ _ _ _ _ _ _ [⟨_, _, [_], _⟩] _ _ _ _ _ _ _); refine' csrc_old (fun I C D => turn_1t _ _ _ _ _ _ _ _ _) ?zqca ?zqcb ?zqcc ?zqcd ?zqce ?zqcf ?zqcg ?zqch ?_; (case zqca => exact fun C => asg_name rfl rfl); (case zqcb => exact fun _ => trivial); (case zqcc => decide); (case zqcd => rfl); (case zqce => rfl); (case zqcf => k_asm); (case zqcg => k_asm); (case zqch => assumption); k_whole; intro I' C' D' E' g' hI' hCD' hC0' hCL' hD0' hDL' hIC') | ((with_reducible show CSrc _ _ _ _ _ _ _ _ [⟨_, _, [], _⟩] _ _ _ _ _ _ _); refine' csrc_tup (fun I C D => turn_1 _ _ _ _ _ _ _ _) ?zqca ?zqcb ?zqcc ?zqcd ?zqce ?zqcf ?zqcg ?zqch ?zqci ?zqcj ?_; (case zqca => exact fun C => asg_name rfl rfl); (case zqcb => exact fun _ => trivial); (case zqcc => decide); (case zqcd => rfl); (case zqce => rfl); (case zqcf => k_asm); (case zqcg => k_asm); (case zqch => k_mem); (case zqci => rfl); (case zqcj => rfl); k_whole; intro I' C' D' E' g' hI' hCD' hC0' hCL' hD0' hDL' hIC')))
 k_with "CR" => (((k_here; k_dflt (first | (refine' get_cr ?zqG ?zqhl ?zqhc ?zqa ?zqb ?zqk (fun i' k' T' t' u' P' ys' oC' oI' m2' h' tk' hi6' hkb' hT' hp1' hp2' hx' hC' F' off' ai' N' => ?_) (fun ys' hF' hu' => ?_); (case zqG => (kct_strs)); (case zqhl => (kct_strs)); (case zqhc => (kct_strs)); (case zqk => k_subL); (case zqa => (kct_strs)); (case zqb => (kct_strs))) | (refine' odd_cr ?zqhi ?zqhl ?zqa ?zqb ?zqk (fun k' t' P' ys' oC' oI' m2' h' tk' hp' hx' hC' F' off' ai' N' => ?_) (fun ys' hF' hu' hb' => ?_); (case zqhi => (kct_strs)); (case zqhl => (kct_strs)); (case zqk => k_subL); (case zqa => (kct_strs)); (case zqb => (kct_strs)))))); (all_goals (try (k_whole; (fail_if_success (refine dG ?_)); (walk_at "my hk"); (have hkm := HkMark.mk)))))
 k_with "CSame" => (k_here; k_dflt (first | (refine' csame_get ?zqhp ?zqhq ?zqF ?zqN; (case zqhp => (kct_strs)); (case zqhq => (kct_strs)); (case zqF => k_asm); (case zqN => k_asm)) | (refine' csame_int ?zqhp ?zqhx ?zqF ?zqN; (case zqhp => (kct_strs)); (case zqhx => rfl); (case zqF => k_asm); (case zqN => k_asm))))
 k_with "NSame" => (k_here; k_dflt (refine' nsame_get ?zqhp ?zqhq ?zqF ?zqN; (case zqhp => (kct_strs)); (case zqhq => (kct_strs)); (case zqF => k_asm); (case zqN => k_asm)))
 k_with "getMethod ref" => (k_here; (with_reducible show wpAny _ _ (getMethod (Value.ref _) (Str.ofString "search") _) _ _ _); k_dflt (refine' method_searchK ?zqF ?zqX ?zqhK ?zqhc ?_; (case zqF => k_asm); (case zqX => first | assumption | k_asm); (case zqhK => k_is); (case zqhc => rfl); k_whole))
 k_with "call builtin:re.Pattern.search" => (k_here; k_dflt (refine' search_atK ?zqF ?zqX ?zqhK ?zqhc ?zqhx ?_; (case zqF => k_asm); (case zqX => first | assumption | k_asm); (case zqhK => k_is); (case zqhc => rfl); (case zqhx => exact lowAt_no (by assumption)); k_whole))
 k_with "call builtin:str.lower" => (k_here; k_dflt (first | ((with_reducible show wpAny _ _ (call _ [Value.str (nameUp _) _]) _ _ _); refine' lower_up ?zqhi ?_; (case zqhi => assumption); k_whole; intro t' k') | ((with_reducible show wpAny _ _ (call _ [Value.str (lowAt _) _]) _ _ _); refine' lower_lo ?zqhi ?_; (case zqhi => assumption); k_whole; intro t' k')))
 k_with "subscriptTail" => (k_here; (with_reducible show wpAny _ _ (subscriptTail _ _ (Value.ref _) (Value.int _ _)) _ _ _); k_dflt (refine' item_kv ?zqF ?zqhT ?zqhk ?_ ?zqhs ?zqhg; (case zqhs => with_unfolding_all rfl); (case zqhg => (intro _; with_unfolding_all rfl)); (case zqF => k_asm); (case zqhT => assumption); (case zqhk => first | exact Or.inl rfl | exact Or.inr rfl); k_whole; (simp only [if_true, if_false])))
 w_top off
 k_fill
 ((refine hk22 (h := ?_)); (generalize hkT22 _ = T9); (generalize pj0 T9 = w, pj1 T9 = loose, pj2 T9 = mean, pj3 T9 = mg, s4 T9 = U9); (clear T9); (generalize pj0 U9 = mb, pj1 U9 = dp, pj2 U9 = un, pj3 U9 = gd, s4 U9 = T9); (clear U9); (generalize pj0 T9 = outer, pj1 T9 = base, pj2 T9 = g, pj3 T9 = s, s4 T9 = U9); (clear T9); (generalize pj0 U9 = R, pj1 U9 = x, pj2 U9 = d, pj3 U9 = lh, s4 U9 = T9); (clear U9); (generalize pj0 T9 = th, pj1 T9 = tn, pj2 T9 = refs, pj3 T9 = hs, s4 T9 = U9); (clear T9); (generalize pj0 U9 = tws, lj1 U9 = c); (clear U9); intro B X T hkg hsz hdp hun hled hl G hhl hc hret)
 k_dflt (refine' enterC (led := [(x, instObj 317 d), (d, bookD w.params th lh)]) hkg hsz ?kl ?k3 ?k5 ?k6 ?k7 ?k8 ?k9 ?kB ?kN ?_ ?c2 ?c3 ?c4; (case kl => exact hled); (case k3 => k_asm); (case k5 => k_asm); (case k6 => k_is); (case k7 => k_is); (case k8 => ktr_room); (case k9 => exact BindsTo.of_eq rfl); (case kN => decide +kernel); (case kB => exact rfl); (case c2 => exact rfl); (case c3 => exact rfl); (case c4 => exact rfl); k_whole; intro L' h' tk' cells' F' N' Y' l1; (first | ((revert N' l1); (revert cells'); (refine cellsK1 ?_); intro o0' hd0' N' l1; ((revert l1); (revert N'); (revert hd0'); (revert F'); (revert o0'); (revert tk'); (revert h'); (revert L'); ((refine hk4 (h := ?_)); (generalize hkT4 _ = T9); (generalize pj0 T9 = L', pj1 T9 = h', pj2 T9 = tk', lj3 T9 = o0'); (clear T9); intro F' hd0' N' l1))) | ((revert N' l1); (revert cells'); (refine cellsK2 ?_); intro o0' o1' hd0' hd1' N' l1; ((revert l1); (revert N'); (revert hd1'); (revert hd0'); (revert F'); (revert o1'); (revert o0'); (revert tk'); (revert h'); (revert L'); ((refine hk5 (h := ?_)); (generalize hkT5 _ = T9); (generalize pj0 T9 = L', pj1 T9 = h', pj2 T9 = tk', pj3 T9 = o0', s4 T9 = o1'); (clear T9); intro F' hd0' hd1' N' l1))) | ((revert N' l1); (revert cells'); (refine cellsK3 ?_); intro o0' o1' o2' hd0' hd1' hd2' N' l1; ((revert l1); (revert N'); (revert hd2'); (revert hd1'); (revert hd0'); (revert F'); (revert o2'); (revert o1'); (revert o0'); (revert tk'); (revert h'); (revert L'); ((refine hk6 (h := ?_)); (generalize hkT6 _ = T9); (generalize pj0 T9 = L', pj1 T9 = h', pj2 T9 = tk', pj3 T9 = o0', s4 T9 = U9); (clear T9); (generalize pj0 U9 = o1', lj1 U9 = o2'); (clear U9); intro F' hd0' hd1' hd2' N' l1))) | ((revert N' l1); (revert cells'); (refine cellsK4 ?_); intro o0' o1' o2' o3' hd0' hd1' hd2' hd3' N' l1; ((revert l1); (revert N'); (revert hd3'); (revert hd2'); (revert hd1'); (revert hd0'); (revert F'); (revert o3'); (revert o2'); (revert o1'); (revert o0'); (revert tk'); (revert h'); (revert L'); ((refine hk7 (h := ?_)); (generalize hkT7 _ = T9); (generalize pj0 T9 = L', pj1 T9 = h', pj2 T9 = tk', pj3 T9 = o0', s4 T9 = U9); (clear T9); (generalize pj0 U9 = o1', pj1 U9 = o2', lj2 U9 = o3'); (clear U9); intro F' hd0' hd1' hd2' hd3' N' l1))) | ((revert N' l1); (revert cells'); (refine cellsK5 ?_); intro o0' o1' o2' o3' o4' hd0' hd1' hd2' hd3' hd4' N' l1; ((revert l1); (revert N'); (revert hd4'); (revert hd3'); (revert hd2'); (revert hd1'); (revert hd0'); (revert F'); (revert o4'); (revert o3'); (revert o2'); (revert o1'); (revert o0'); (revert tk'); (revert h'); (revert L'); ((refine hk8 (h := ?_)); (generalize hkT8 _ = T9); (generalize pj0 T9 = L', pj1 T9 = h', pj2 T9 = tk', pj3 T9 = o0', s4 T9 = U9); (clear T9); (generalize pj0 U9 = o1', pj1 U9 = o2', pj2 U9 = o3', lj3 U9 = o4'); (clear U9); intro F' hd0' hd1' hd2' hd3' hd4' N' l1))) | ((revert N' l1); (revert cells'); (refine cellsK6 ?_); intro o0' o1' o2' o3' o4' o5' hd0' hd1' hd2' hd3' hd4' hd5' N' l1; ((revert l1); (revert N'); (revert hd5'); (revert hd4'); (revert hd3'); (revert hd2'); (revert hd1'); (revert hd0'); (revert F'); (revert o5'); (revert o4'); (revert o3'); (revert o2'); (revert o1'); (revert o0'); (revert tk'); (revert h'); (revert L'); ((refine hk9 (h := ?_)); (generalize hkT9 _ = T9); (generalize pj0 T9 = L', pj1 T9 = h', pj2 T9 = tk', pj3 T9 = o0', s4 T9 = U9); (clear T9); (generalize pj0 U9 = o1', pj1 U9 = o2', pj2 U9 = o3', pj3 U9 = o4', s4 U9 = o5'); (clear U9); intro F' hd0' hd1' hd2' hd3' hd4' hd5' N' l1)))); (try simp only [List.cons_append, List.nil_append] at N'); (try k_lt l1); (try dsimp only); (try k_fold); (have hkm := HkMark.mk))
 w_strict k_steps
 all_goals first | (refine' get_end hret ?F ?N ?hi ?m1 ?m2 ?m3 ?n1 ?n2; (case F => assumption); (case N => assumption); (case hi => assumption); (case m1 => k_mem); (case m2 => k_mem); (case m3 => k_mem); (all_goals kpt_turns)) | w_report
end Mine
end
section
namespace Mine
theorem rep_flat (n : Nat) : (List.replicate n [(0 : Int)]).flatten = List.replicate n 0 := by
 induction n with
 | zero => rfl
 | succ n ih => rw [List.replicate_succ, List.flatten_cons, ih]; rfl
theorem ws_ge {cnt : List Int} {b : Int} (h : (cnt.length : Int) ≤ b) : wsStep (cnt, b) 9 = (((cnt ++ (List.replicate (b - cnt.length + 1).toNat [0]).flatten).set b.toNat ((cnt ++ (List.replicate (b - cnt.length + 1).toNat [0]).flatten).getD b.toNat 0 + 1)), 0) := by
 rw [rep_flat]
 show ((if (cnt.length : Int) ≤ b then cnt ++ List.replicate (b - cnt.length + 1).toNat 0 else cnt).set b.toNat ((if (cnt.length : Int) ≤ b then cnt ++ List.replicate (b - cnt.length + 1).toNat 0 else cnt).getD b.toNat 0 + 1), (0 : Int)) = _
 rw [if_pos h]
theorem ws_lt {cnt : List Int} {b : Int} (h : ¬ (cnt.length : Int) ≤ b) : wsStep (cnt, b) 9 = ((cnt.set b.toNat (cnt.getD b.toNat 0 + 1)), 0) := by
 show ((if (cnt.length : Int) ≤ b then cnt ++ List.replicate (b - cnt.length + 1).toNat 0 else cnt).set b.toNat ((if (cnt.length : Int) ≤ b then cnt ++ List.replicate (b - cnt.length + 1).toNat 0 else cnt).getD b.toNat 0 + 1), (0 : Int)) = _
 rw [if_neg h]
theorem get_c (w : World) (dp un : Nat) (gd : Option (List Code)) (s : Shared) (x d lh : Addr) (th tn : Tok) (refs : List Value) (hs : List (Nat × Int)) (tws : Nat → Int) (c : Nat)
  (hdp : dp + 120 < recursionLimit) (hun : un + 800 < cLine) (hhl : hs.length ≤ 100) (hc : c < 6) :
  Ctr w dp un gd s 256 ⟨[.ref x, .str (lowAt c) tn], []⟩ [(x, instObj 317 d), (d, bookD w.params th lh)] (fun g => g.IsList lh refs.toArray ∧ HdrOld g tws hs refs) (GetQ w.params x d lh th tws (selC c hs) c) := by
 intro loose mean mg mb outer base g R B X T hkg hsz hled ho hret
 exact get_w w loose mean mg mb dp un gd outer base g s R x d lh th tn refs hs tws c B X T hkg hsz hdp hun hled ho.1 ho.2 hhl hc hret
end Mine
end
section
namespace Mine
theorem read_w : ∀ (w : World) (loose : List Str) (mean : ExcName → Option Value) (mg mb : Str → Option Value) (dp un : Nat) (gd : Option (List Code)) (outer : List Env) (base g : Heap) (s : Shared) (R : Result → Shared → Prop) (x d lh : Addr) (th tn : Tok) (refs : List Value) (hs : List (Nat × Int)) (tws : Nat → Int) (c : Nat) (p6 : Array Value) (c6 : Addr) (o6 : Obj)
  (B : Below (arX dp un gd outer) base outer g) (X : (hd.heap_1 w.params).In g) (T : Top topProg loose mean mg mb g) (hkg : ∀ b o, g.get? b = some o → s.heap.get? b = some o) (hsz : g.objs.size ≤ s.heap.objs.size) (hdp : dp + 240 < recursionLimit) (hun : un + 1600 < cLine) (hled : ∀ p ∈ ([(x, instObj 317 d), (d, bookD w.params th lh), (61, tabObj p6), (c6, o6)] : List (Addr × Obj)), s.heap.get? p.1 = some p.2 ∧ g.get? p.1 = none) (hl : g.IsList lh refs.toArray) (G : HdrOld g tws hs refs) (hhl : hs.length ≤ 100) (hc : c < 6) (htw : ∀ i, i < 6 → 0 ≤ tws i ∧ tws i ≤ 2) (hkb : ∀ k ∈ selC c hs, 1 ≤ k ∧ k ≤ 7) (hkl : (selC c hs).length ≤ 100) (hT : TS 61 51 4 qD p6 c6 o6) (a1 : @Ne Nat 61 x) (a2 : @Ne Nat 61 d) (a3 : @Ne Nat c6 x) (a4 : @Ne Nat c6 d) (a5 : @Ne Nat x d)
  (hret : RetG R s g (ReaQ w.params x d lh th (selC c hs))),
  codeAny (model PySem.Challenge.rw_sn0104_01.row.toRowW.prog w) (arX dp un gd outer) (.call (.ref 336) ⟨[.ref x, .str (lowAt c) tn], []⟩) R s := by
 k_with_none
 k_with "lt9" => with_reducible (first | assumption | exact (And.left (by assumption)) | exact (cl1 (by assumption)) | exact (cr1 (by assumption)) | exact (cl2 (by assumption)) | exact (cr2 (by assumption)) | exact (cl3 (by assumption)) | exact (cr3 (by assumption)) | exact (cl4 (by assumption)) | exact (cr4 (by assumption)) | exact (cl5 (by assumption)) | exact (cr5 (by assumption)) | exact (cl6 (by assumption)) | exact (cr6 (by assumption)) | exact (cl7 (by assumption)) | exact (cr7 (by assumption)) | exact (cl8 (by assumption)) | exact (cr8 (by assumption)) | exact (cl9 (by assumption)) | exact (cr9 (by assumption)) | exact (cl10 (by assumption)) | exact (cr10 (by assumption)) | exact (cl11 (by assumption)) | exact (cr11 (by assumption)) | exact (cl12 (by assumption)) | exact (cr12 (by assumption)) | exact (cl13 (by assumption)) | exact (cr13 (by assumption)) | exact (cl14 (by assumption)) | exact (cr14 (by assumption)) | exact (cl15 (by assumption)) | exact (cr15 (by assumption)) | exact (cl16 (by assumption)) | exact (cr16 (by assumption)) | exact (cl17 (by assumption)) | exact (cr17 (by assumption)) | exact (cl18 (by assumption)) | exact (cr18 (by assumption)) | exact (cl19 (by assumption)) | exact (cr19 (by assumption)) | exact (cl20 (by assumption)) | exact (cr20 (by assumption)) | exact (cl21 (by assumption)) | exact (cr21 (by assumption)) | exact (cl22 (by assumption)) | exact (cr22 (by assumption)))
 k_with "ne2" => ((try dsimp only); first | (refine' Nat.ne_of_lt (Nat.lt_trans ?zqp ?zqq); (case zqq => assumption); (case zqp => k_extra "lt9")) | (refine' Nat.ne_of_gt (Nat.lt_trans ?zqp ?zqq); (case zqq => assumption); (case zqp => k_extra "lt9")))
 k_with "call ref" => ((with_reducible show wpAny _ _ (call (Value.ref 66) _ _) _ _ _); (k_here; k_dflt (refine' use_c ?zqB ?zqF ?zqX ?zqN ?zqT ?zqhA ?zqhf ?zqhke (d2i_c _ _ _ _ _ _ _ _ _ _ _ _ _ _ ?zqp0 ?zqp1 ?zqp2 ?zqp3 ?zqp4 ?zqp5 ?zqp6 ?zqp7 ?zqp8) ?zqhled ?zqhrem ?zqhold ?_); (case zqhA => walk_at "hA"); (case zqhf => walk_at "hf"); (case zqhke => walk_at "hke"); (case zqB => walk_at "ka"); (case zqF => walk_at "ka"); (case zqX => walk_at "ka"); (case zqN => walk_at "ka"); (case zqT => walk_at "ka"); (case zqp8 => (k_dflt ((kbo_bools)))); (case zqhled => (k_dflt (k_allIn))); (case zqp0 => (k_dflt ((first | omega | ((try dsimp only); omega) | ktr_room)))); (case zqp1 => (k_dflt ((first | omega | ((try dsimp only); omega) | ktr_units)))); (case zqp2 => (k_dflt ((kbo_bools)))); (case zqp3 => (k_dflt ((kbo_bools)))); (case zqp4 => (k_dflt ((kbo_bools)))); (case zqp5 => (k_dflt (omega))); (case zqp6 => (k_dflt ((intro _; rfl)))); (case zqp7 => (k_dflt (kpt_turns))); (case zqhrem => (k_dflt ((first | exact Rem.refl | kat_tups)))); (case zqhold => (k_dflt (exact fun _ _ _ => trivial))); k_whole; intro v9 h' tk' led' F' N' hne9 hP9; obtain ⟨t9, p9, c9, o9, hv9, hl9, hts⟩ := hP9; subst hv9 hl9; walk_at "u9"))
 k_with "call ref" => ((with_reducible show wpAny _ _ (call (Value.ref 256) _ _) _ _ _); (k_here; k_dflt (refine' use_c ?zqB ?zqF ?zqX ?zqN ?zqT ?zqhA ?zqhf ?zqhke (get_c _ _ _ _ _ _ _ _ _ _ _ _ _ _ ?zqp0 ?zqp1 ?zqp2 ?zqp3) ?zqhled ?zqhrem ?zqhold ?_); (case zqhA => walk_at "hA"); (case zqhf => walk_at "hf"); (case zqhke => walk_at "hke"); (case zqB => walk_at "ka"); (case zqF => walk_at "ka"); (case zqX => walk_at "ka"); (case zqN => walk_at "ka"); (case zqT => walk_at "ka"); (case zqhled => (k_dflt (k_allIn))); (case zqhrem => (k_dflt ((first | exact Rem.refl | kat_tups)))); (case zqhold => (k_dflt (exact fun g9 hk9 _ => hdr_hold (by assumption) (by assumption) hk9)));(case zqp0 => (k_dflt ((first | omega | ((try dsimp only); omega) | ktr_room)))); (case zqp1 => (k_dflt ((first | omega | ((try dsimp only); omega) | ktr_units)))); (case zqp2 => (k_dflt ((kbo_bools)))); (case zqp3 => (k_dflt ((kbo_bools)))); k_whole; intro v9 h' tk' led' F' N' hne9 hP9; obtain ⟨D9, ys9, hv9, hl9, hys9, hm9, hn9⟩ := hP9; subst hv9 hl9; walk_at "u9"))
 k_with "exec For Name Call cons nil" => (k_here; (rename Fr _ _ _ _ => lF'); (with_unfolding_all refine' For_turns lF' ?_; k_whole))
 k_with "exec For Name Attribute cons nil" => (k_here; (rename Fr _ _ _ _ => lF'); (with_unfolding_all refine' For_turns lF' ?_; k_whole))
 k_with "KfPost" => (dsimp only [KfPost])
 k_with "KfEnd" => (k_dflt (first | (refine' kf_endR ?zqhI ?zqhk ?zqhT ?zqhy ?zqF ?zqN ?zqm1 ?zqm2 ?zqm3 ?zqm4 ?zqm5 ?zqm6 ?zqhlt ?zqd0 ?zqd1 ?zqd2 ?zqd3 ?zqhz; (case zqhI => (kct_strs)); (case zqhk => (kct_strs)); (case zqhT => (kct_strs)); (case zqhy => assumption); (case zqF => k_asm); (case zqN => k_asm); (case zqm1 => k_mem); (case zqm2 => k_mem); (case zqm3 => k_mem); (case zqm4 => k_mem); (case zqm5 => k_mem); (case zqm6 => k_allIn); (case zqhlt => (kct_strs)); (case zqd0 => kpt_turns); (case zqd1 => kpt_turns); (case zqd2 => kpt_turns); (case zqd3 => kfm_turns); (case zqhz => (intro z h3; (simp only [stR, List.contains_cons, List.contains_nil, Bool.or_false, Bool.or_eq_false_iff, beq_eq_false_iff_ne, ne_eq] at h3); (simp [h3, stR]; done)))) | (refine' pw_end ?zqF ?zqN ?zqk1 ?zqk2 ?zqk3 ?zqk4 ?zqm1 ?zqm2 ?zqm3 ?zqhi ?zqe ?zqeb ?zqhl ?zqhIl ?zqhI ?zqhz; (case zqF => k_asm); (case zqN => k_asm); (case zqk1 => rfl); (case zqk2 => rfl); (case zqk3 => rfl); (case zqk4 => rfl); (case zqm1 => k_mem); (case zqm2 => k_mem); (case zqm3 => k_allIn); (case zqhi => first | assumption | (repeat' constructor)); (case zqe => first | exact rfl | exact ws_ge (by assumption) | exact ws_lt (by assumption)); (case zqeb => rfl); (case zqhl => first | assumption | kfm_turns); (case zqhIl => kpt_turns); (case zqhI => assumption); (case zqhz => (intro z q1 q2 q3 q4 q5; (simp [q1, q2, q3, q4, q5, stW, kstB]; done))))))
 k_with "pyIter str" => (((k_here; k_dflt (refine' for_ws ?zqhtx ?zqh1 ?zqh2 ?zqhh ?zqF ?zqN ?zqk1 ?zqk2 ?zqk3 ?zqk4 ?zqha (fun t' cnt' b' vs' l' n' tb' nn' tn' nt' tnt' u' I' oI' h' tk' hi' hl' hb' ha' hI' hlI' F' N' => ?_) (fun t' cnt' b' vs' l' n' tb' nn' tn' nt' tnt' u' I' oI' h' tk' hiT' hlT' hbT' ha' hI' hlI' F' N' => ?_) (fun cnt' b' vs' l' n' tb' nn' tn' nt' tnt' u' h' tk' hi' hl' hd' ha' F' N' => ?_); (case zqhtx => exact rfl); (case zqh1 => (kct_strs)); (case zqh2 => (kct_strs)); (case zqhh => rfl); (case zqF => k_asm); (case zqN => k_asm); (case zqk1 => rfl); (case zqk2 => rfl); (case zqk3 => rfl); (case zqk4 => rfl); (case zqha => kfm_turns); (all_goals (try ((have hA9 := ha'); (simp only [AllNe, and_true] at hA9)))); (all_goals (try ((have hB9 := hI'); (simp only [AllLt, and_true] at hB9))))))); (all_goals (try (k_whole; (fail_if_success (refine dG ?_)); (walk_at "my hk"); (have hkm := HkMark.mk)))))
 k_with "pyIter ref" => (((k_here; k_dflt (refine' for_read ?zqhys ?zqhT ?zqhtw ?zqhc ?zqhkb ?zqhl ?zqhh ?zqF ?zqN ?zqm5 ?zqm6 ?zqm1 ?zqm2 ?zqm3 ?zqm4 ?zqh1 ?zqh2 ?zqh3 ?zqn1 ?zqn2 ?zqn3 ?zqn4 ?zqn5 ?zqn6 (fun i' k' t' vs' n' p6' c6' o6' u' I' oI' h' tk' hk' hkb' htw' hi' hsz' hT' hc6' hlt' hcI' hne' F' N' => ?_) (fun vs' n' p6' c6' o6' u' h' tk' hi' hT' hc6' F' N' => ?_); (case zqhys => (kct_strs)); (case zqhT => (kct_strs)); (case zqhtw => (kct_strs)); (case zqhc => (kct_strs)); (case zqhkb => (kct_strs)); (case zqhl => (kct_strs)); (case zqhh => rfl); (case zqF => k_asm); (case zqN => k_asm); (case zqm1 => k_mem); (case zqm2 => k_mem); (case zqm3 => k_mem); (case zqm4 => k_mem); (case zqm5 => k_mem); (case zqm6 => k_mem); (case zqh1 => kpt_turns); (case zqh2 => kpt_turns); (case zqh3 => kpt_turns); (case zqn1 => kpt_turns); (case zqn2 => kpt_turns); (case zqn3 => kfm_turns); (case zqn4 => kfm_turns); (case zqn5 => kfm_turns); (case zqn6 => kfm_turns); (all_goals (try ((have hC9 := hc6'); (simp only [AllNe, and_true] at hC9)))); (all_goals (try ((have hD9 := hne'); (simp only [AllNe, and_true] at hD9))))))); (all_goals (try (k_whole; (fail_if_success (refine dG ?_)); (walk_at "my hk"); (have hkm := HkMark.mk)))))
 k_with "call type:tuple" => (k_here; k_dflt (refine' tup_of ?zqF ?zqN ?zqa ?zqi ?zqc ?_; (case zqF => k_asm); (case zqN => k_asm); (case zqi => assumption); (case zqc => assumption); (case zqa => is_list); k_whole); intro D' h' F' N' l1; (try k_lt l1))
 k_with "eval ListComp" => (k_here; k_dflt (refine ListComp_any (F₀ := by k_asm) (by rfl) (by rfl) (by decide) ?_))
 k_with "CSrc" => (k_here; k_dflt (first | ((with_reducible show CSrc _ _ _ _ _ _ _ _ [⟨_, _, [_], _⟩] _ _ _ _ _ _ _); refine' csrc_old (fun I C D => turn_1t _ _ _ _ _ _ _ _ _) ?zqca ?zqcb ?zqcc ?zqcd ?zqce ?zqcf ?zqcg ?zqch ?_; (case zqca => exact fun C => asg_name rfl rfl); (case zqcb => exact fun _ => trivial); (case zqcc => decide); (case zqcd => rfl); (case zqce => rfl); (case zqcf => k_asm); (case zqcg => k_asm); (case zqch => assumption); k_whole; intro I' C' D' E' g' hI' hCD' hC0' hCL' hD0' hDL' hIC') | ((with_reducible show CSrc _ _ _ _ _ _ _ _ [⟨_, _, [], _⟩] _ _ _ _ _ _ _); refine' csrc_tup (fun I C D => turn_1 _ _ _ _ _ _ _ _) ?zqca ?zqcb ?zqcc ?zqcd ?zqce ?zqcf ?zqcg ?zqch ?zqci ?zqcj ?_; (case zqca => exact fun C => asg_name rfl rfl); (case zqcb => exact fun _ => trivial); (case zqcc => decide); (case zqcd => rfl); (case zqce => rfl); (case zqcf => k_asm); (case zqcg => k_asm); (case zqch => k_mem); (case zqci => rfl); (case zqcj => rfl); k_whole; intro I' C' D' E' g' hI' hCD' hC0' hCL' hD0' hDL' hIC')))
 k_with "CR" => (((k_here; k_dflt (first | (refine' get_cr ?zqG ?zqhl ?zqhc ?zqa ?zqb ?zqk (fun i' k' T' t' u' P' ys' oC' oI' m2' h' tk' hi6' hkb' hT' hp1' hp2' hx' hC' F' off' ai' N' => ?_) (fun ys' hF' hu' => ?_); (case zqG => (kct_strs)); (case zqhl => (kct_strs)); (case zqhc => (kct_strs)); (case zqk => k_subL); (case zqa => (kct_strs)); (case zqb => (kct_strs))) | (refine' odd_cr ?zqhi ?zqhl ?zqa ?zqb ?zqk (fun k' t' P' ys' oC' oI' m2' h' tk' hp' hx' hC' F' off' ai' N' => ?_) (fun ys' hF' hu' hb' => ?_); (case zqhi => (kct_strs)); (case zqhl => (kct_strs)); (case zqk => k_subL); (case zqa => (kct_strs)); (case zqb => (kct_strs)))))); (all_goals (try (k_whole; (fail_if_success (refine dG ?_)); (walk_at "my hk"); (have hkm := HkMark.mk)))))
 k_with "CSame" => (k_here; k_dflt (first | (refine' csame_get ?zqhp ?zqhq ?zqF ?zqN; (case zqhp => (kct_strs)); (case zqhq => (kct_strs)); (case zqF => k_asm); (case zqN => k_asm)) | (refine' csame_int ?zqhp ?zqhx ?zqF ?zqN; (case zqhp => (kct_strs)); (case zqhx => rfl); (case zqF => k_asm); (case zqN => k_asm))))
 k_with "call builtin:list.append" => (k_here; k_dflt (refine' append_K ?zqk1 ?zqk2 ?zqk3 ?_ ?zqz; (case zqk1 => k_asm); (case zqk2 => (refine' news_sub ?zqN ?zqsub; (case zqN => k_asm); (case zqsub => walk_at "my sub"))); (case zqk3 => walk_at "my upd"); (case zqz => first | assumption | exact Nat.le_of_ble_eq_true rfl | size_fits); k_whole); intro h' F' N'; (try simp only [List.push_toArray, List.cons_append, List.nil_append] at N'))
 w_top off
 k_fill
 ((refine hk25 (h := ?_)); (generalize hkT25 _ = T9); (generalize pj0 T9 = w, pj1 T9 = loose, pj2 T9 = mean, pj3 T9 = mg, s4 T9 = U9); (clear T9); (generalize pj0 U9 = mb, pj1 U9 = dp, pj2 U9 = un, pj3 U9 = gd, s4 U9 = T9); (clear U9); (generalize pj0 T9 = outer, pj1 T9 = base, pj2 T9 = g, pj3 T9 = s, s4 T9 = U9); (clear T9); (generalize pj0 U9 = R, pj1 U9 = x, pj2 U9 = d, pj3 U9 = lh, s4 U9 = T9); (clear U9); (generalize pj0 T9 = th, pj1 T9 = tn, pj2 T9 = refs, pj3 T9 = hs, s4 T9 = U9); (clear T9); (generalize pj0 U9 = tws, pj1 U9 = c, pj2 U9 = p6, pj3 U9 = c6, s4 U9 = o6); (clear U9); intro B X T hkg hsz hdp hun hled hl G hhl hc htw hkb hkl hT a1 a2 a3 a4 a5 hret)
 k_dflt (refine' enterG (led := [(x, instObj 317 d), (d, bookD w.params th lh), (61, tabObj p6), (c6, o6)]) hkg hsz ?kl ?k3 ?k5 ?k6 ?k7 ?k8 ?k9 ?kB ?_ ?c2 ?c3 ?c4 ?c5; (case kl => exact hled); (case k3 => k_asm); (case k5 => k_asm); (case k6 => k_is); (case k7 => k_is); (case k8 => ktr_room); (case k9 => first | exact BindsTo.of_eq rfl | exact kp_binds (X.keeps hkg) (fun _ => rfl)); (case c5 => decide); (case kB => exact locs rfl); (case c2 => exact rfl); (case c3 => exact rfl); (case c4 => exact rfl); k_whole; ((refine hk2 (h := ?_)); (generalize hkT2 _ = T9); (generalize pj0 T9 = L', lj1 T9 = h'); (clear T9); intro F' N' l1); (try k_lt l1); (try dsimp only); (try k_fold); (have hkm := HkMark.mk))
 w_strict k_steps
 all_goals first | (refine' rea_end hret ?F ?N ?hi ?hT ?m1 ?m2 ?m3 ?m4 ?m5 ?n1 ?n2 ?n3 ?n4 ?n5 ?n6; (case F => assumption); (case N => assumption); (case hi => assumption); (case hT => assumption); (case m1 => k_mem); (case m2 => k_mem); (case m3 => k_mem); (case m4 => k_mem); (case m5 => k_mem); (all_goals kpt_turns)) | w_report
end Mine
end
section
open PyProof.V
namespace Mine
def twsOf (ns : List Int) (i : Nat) : Int := (numAt ns i).fdiv 20
def mvsOf (ns : List Int) (i : Nat) : List Int := movesAt i (numAt ns i)
theorem TurnRows.get {M : Nat → Int → List Int} {ns : List Int} {g : Heap} : ∀ {n : Nat} {refs : List Value} {dn : List (Addr × Obj)}, TurnRows M ns n refs dn → (∀ p ∈ dn, g.get? p.1 = some p.2) →
  refs.length = n ∧ ∀ i, i < n → ∃ T D t nn ys, refs[i]? = some (.ref T) ∧ g.get? T = some (tupH (.int ((numAt ns i).fdiv 20) t) (.ref D) nn) ∧ g.IsList D ys.toArray ∧ IntsAre ys (M i (numAt ns i))
 | _, _, _, .nil, _ => ⟨rfl, fun i h => absurd h (Nat.not_lt_zero i)⟩
 | _, _, _, .snoc (i := n) (refs := refs) (T := T) (D := D) (t := t) (nn := nn) (ys := ys) R hy, hg => by
  obtain ⟨h1, h2⟩ := R.get fun p hp => hg p (.tail _ (.tail _ hp))
  refine ⟨by rw [List.length_append, h1]; rfl, fun i hi => ?_⟩
  by_cases e : i = n
  ·subst e
   exact ⟨T, D, t, nn, ys, by rw [List.getElem?_append_right (by kaf_pre)]; simp [h1], hg _ (.head _), ⟨_, hg _ (.tail _ (.head _)), rfl, _, rfl⟩, hy⟩
  ·obtain ⟨T', D', t', nn', ys', hr, a, b, c⟩ := h2 i (by kaf_pre)
   exact ⟨T', D', t', nn', ys', by rw [List.getElem?_append_left (by kaf_pre)]; exact hr, a, b, c⟩
theorem turnsIn_of {ns : List Int} {g : Heap} {refs : List Value} {dn : List (Addr × Obj)} (R : TurnRows movesAt ns 6 refs dn) (hg : ∀ p ∈ dn, g.get? p.1 = some p.2) : TurnsIn g (twsOf ns) (mvsOf ns) refs := R.get hg
theorem hdrs_mem {mvs : Nat → List Int} : ∀ {n i : Nat} {k : Int}, (i, k) ∈ hdrs mvs n → i < n ∧ k ∈ mvs i
 | 0, _, _, h => nomatch h
 | n + 1, i, k, h => by
  rcases List.mem_append.mp h with h | h
  ·obtain ⟨a, b⟩ := hdrs_mem h
   exact ⟨by kaf_pre, b⟩
  ·obtain ⟨k', hk, e⟩ := List.mem_map.mp h
   cases e
   exact ⟨Nat.lt_succ_self _, hk⟩
theorem HdrRows.get {tws : Nat → Int} {g : Heap} : ∀ {hs : List (Nat × Int)} {refs : List Value} {dn : List (Addr × Obj)}, HdrRows tws hs refs dn → (∀ p ∈ dn, g.get? p.1 = some p.2) →
  ∀ (j i : Nat) (k : Int), hs[j]? = some (i, k) → ∃ (T : Addr) (t u : Tok), refs[j]? = some (Value.ref T) ∧ IsTup g T #[.str (nameUp i) t, .str (leadS tws i k) u]
 | _, _, _, .nil, _ => fun j i k h => by simp at h
 | _, _, _, .snoc (hs := hs) (refs := refs) (T := T) (i := i0) (k := k0) (t := t) (u := u) R, hg => by
  intro j i k h
  have hl := R.length
  by_cases e : j < hs.length
  ·rw [List.getElem?_append_left e] at h
   obtain ⟨T', t', u', hr, a⟩ := R.get (fun p hp => hg p (.tail _ hp)) j i k h
   exact ⟨T', t', u', by rw [List.getElem?_append_left (by kaf_pre)]; exact hr, a⟩
  ·rw [List.getElem?_append_right (by kaf_pre)] at h
   have e2 : j - hs.length = 0 := by
    have := (List.getElem?_eq_some_iff.mp h).1
    simp at this
    kaf_pre
   rw [e2] at h
   simp at h
   obtain ⟨rfl, rfl⟩ := h
   exact ⟨T, t, u, by rw [List.getElem?_append_right (by kaf_pre), hl, e2]; rfl, _, hg _ (.head _), rfl, _, rfl⟩
theorem hdrOld_of {tws : Nat → Int} {mvs : Nat → List Int} {g : Heap} {refs : List Value} {dn : List (Addr × Obj)} (R : HdrRows tws (hdrs mvs 6) refs dn) (hmv : ∀ i, i < 6 → ∀ k ∈ mvs i, 1 ≤ k ∧ k ≤ 7) (hg : ∀ p ∈ dn, g.get? p.1 = some p.2) : HdrOld g tws (hdrs mvs 6) refs :=
 ⟨R.length, fun j i k h => by
  obtain ⟨a, b⟩ := hdrs_mem (List.mem_of_getElem? h)
  exact ⟨a, hmv i a k b, R.get hg j i k h⟩⟩
theorem selC_app (c : Nat) (a b : List (Nat × Int)) : selC c (a ++ b) = selC c a ++ selC c b := List.filterMap_append
theorem selC_map (c i : Nat) (l : List Int) : selC c (l.map (Prod.mk i)) = if i = c then l else [] := by
 induction l with
 | nil => simp [selC]
 | cons a r ih =>
  have e : selC c ((a :: r).map (Prod.mk i)) = selC c [(i, a)] ++ selC c (r.map (Prod.mk i)) := selC_app c [(i, a)] _
  rw [e, ih]
  by_cases h : i = c <;> simp [selC, h]
theorem selC_hdrs (mvs : Nat → List Int) {c : Nat} (hc : c < 6) : selC c (hdrs mvs 6) = mvs c := by
 have key : ∀ n, selC c (hdrs mvs n) = if c < n then mvs c else [] := by
  intro n
  induction n with
  | zero => simp [hdrs, selC]
  | succ n ih =>
   rw [hdrs, selC_app, ih, selC_map]
   by_cases h1 : c < n
   ·have h2 : ¬ n = c := by kaf_pre
    have h3 : c < n + 1 := by kaf_pre
    simp [h1, h2, h3]
   ·by_cases h2 : n = c
    ·subst h2
     simp
    ·have h3 : ¬ c < n + 1 := by kaf_pre
     simp [h1, h2, h3]
 rw [key, if_pos hc]
theorem book_c (w : World) (dp un : Nat) (gd : Option (List Code)) (s : Shared) (l : Addr) (refs : List Value) (tws : Nat → Int) (mvs : Nat → List Int)
  (hdp : dp + 240 < recursionLimit) (hun : un + 1600 < cLine) (htw : ∀ i, i < 6 → 0 ≤ tws i ∧ tws i ≤ 2) (hmv : ∀ i, i < 6 → ∀ k ∈ mvs i, 1 ≤ k ∧ k ≤ 7) (hml : ∀ i, i < 6 → (mvs i).length ≤ 10) :
  Ctr w dp un gd s 331 ⟨[.ref l], []⟩ [] (fun g => g.IsList l refs.toArray ∧ TurnsIn g tws mvs refs) (BooQ w.params tws mvs) := by
 intro loose mean mg mb outer base g R B X T hkg hsz hled ho hret
 exact book_w w loose mean mg mb dp un gd outer base g s R l refs tws mvs B X T hkg hsz hdp hun hled ho.1 ho.2 htw hmv hml hret
theorem read_c (w : World) (dp un : Nat) (gd : Option (List Code)) (s : Shared) (x d lh : Addr) (th tn : Tok) (refs : List Value) (tws : Nat → Int) (mvs : Nat → List Int) (c : Nat) (p6 : Array Value) (c6 : Addr) (o6 : Obj)
  (hdp : dp + 240 < recursionLimit) (hun : un + 1600 < cLine) (hc : c < 6) (htw : ∀ i, i < 6 → 0 ≤ tws i ∧ tws i ≤ 2) (hmv : ∀ i, i < 6 → ∀ k ∈ mvs i, 1 ≤ k ∧ k ≤ 7) (hml : ∀ i, i < 6 → (mvs i).length ≤ 10) (hT : TS 61 51 4 qD p6 c6 o6)
  (a1 : @Ne Nat 61 x) (a2 : @Ne Nat 61 d) (a3 : @Ne Nat c6 x) (a4 : @Ne Nat c6 d) (a5 : @Ne Nat x d) :
  Ctr w dp un gd s 336 ⟨[.ref x, .str (lowAt c) tn], []⟩ [(x, instObj 317 d), (d, bookD w.params th lh), (61, tabObj p6), (c6, o6)] (fun g => g.IsList lh refs.toArray ∧ HdrOld g tws (hdrs mvs 6) refs) (ReaQ w.params x d lh th (mvs c)) := by
 intro loose mean mg mb outer base g R B X T hkg hsz hled ho hret
 have e := selC_hdrs mvs hc
 have hl := hdrs_len hml 6 (Nat.le_refl _)
 refine read_w w loose mean mg mb dp un gd outer base g s R x d lh th tn refs (hdrs mvs 6) tws c p6 c6 o6 B X T hkg hsz hdp hun hled ho.1 ho.2 (by kaf_pre) hc htw ?_ ?_ hT a1 a2 a3 a4 a5 ?_
 ·rw [e]; exact hmv c hc
 ·rw [e]; have := hml c hc; kaf_pre
 ·rw [e]; exact hret
end Mine
end
section
open PyProof.V PyProof.Rows.LCg
namespace Mine
theorem hold_list {h₀ g : Heap} {l : Addr} {vs : Array Value} (hl : h₀.IsList l vs) (hk : ∀ b o, h₀.get? b = some o → g.get? b = some o) : g.IsList l vs := hl.at fun o e => hk _ _ e
theorem tail_app {all dn a : List (Addr × Obj)} (h : ∀ p ∈ dn, p ∈ all) : ∀ p ∈ dn, p ∈ a ++ all := fun p hp => List.mem_append_right _ (h p hp)
theorem hold_turns {h₀ : Heap} {ns : List Int} {refs : List Value} {dn rest : List (Addr × Obj)} {D : Addr} {n : Nat} (R : TurnRows movesAt ns 6 refs dn) (hm : (D, listOf refs.toArray n) ∈ rest) (hd : ∀ p ∈ dn, p ∈ rest) :
  ∀ g : Heap, (∀ b o, h₀.get? b = some o → g.get? b = some o) → (∀ p ∈ rest, g.get? p.1 = some p.2) → g.IsList D refs.toArray ∧ TurnsIn g (twsOf ns) (mvsOf ns) refs :=
 fun g _ hr => ⟨⟨_, hr _ hm, rfl, _, rfl⟩, turnsIn_of R fun p hp => hr p (hd p hp)⟩
theorem mv_fin : ∀ i : Fin 6, ∀ x : Fin 60, (∀ k ∈ movesAt i.val (x.val : Int), 1 ≤ k ∧ k ≤ 7) ∧ (movesAt i.val (x.val : Int)).length ≤ 10 := by decide +kernel
theorem numAt_fin (ns : List Int) (i : Nat) : ∃ x : Fin 60, numAt ns i = (x.val : Int) := by
 obtain ⟨a, b⟩ := numAt_bd ns i
 exact ⟨⟨(numAt ns i).toNat, by kaf_pre⟩, by simp only; kaf_pre⟩
theorem mvs_ok (ns : List Int) : ∀ i, i < 6 → ∀ k ∈ mvsOf ns i, 1 ≤ k ∧ k ≤ 7 := by
 intro i hi
 obtain ⟨x, hx⟩ := numAt_fin ns i
 unfold mvsOf
 rw [hx]
 exact (mv_fin ⟨i, hi⟩ x).1
theorem mvs_len (ns : List Int) : ∀ i, i < 6 → (mvsOf ns i).length ≤ 10 := by
 intro i hi
 obtain ⟨x, hx⟩ := numAt_fin ns i
 unfold mvsOf
 rw [hx]
 exact (mv_fin ⟨i, hi⟩ x).2
theorem tws_ok (ns : List Int) : ∀ i, i < 6 → 0 ≤ twsOf ns i ∧ twsOf ns i ≤ 2 := by
 intro i _
 obtain ⟨a, b⟩ := numAt_bd ns i
 unfold twsOf
 rw [Int.fdiv_eq_ediv_of_nonneg _ (by decide)]
 kaf_pre
theorem deeper_caller (env : Env) : callerA.deeper env = arX (1 + claimMargin + 1) 7 (some []) [env] := rfl
theorem news_rot1 {h₀ h : Heap} {L : Addr} {a : Addr × Obj} {dn r : List (Addr × Obj)} (N : News h₀ L h (a :: (dn ++ r))) : News h₀ L h (a :: (r ++ dn)) := fun p hp => N p (by
 rcases List.mem_cons.mp hp with e | hp
 ·exact e ▸ List.mem_cons_self ..
 ·rcases List.mem_append.mp hp with hp | hp
  ·exact .tail _ (List.mem_append_right _ hp)
  ·exact .tail _ (List.mem_append_left _ hp))
theorem allNe_app {a : Addr} : ∀ {l r : List (Addr × Obj)}, AllNe a l → AllNe a r → AllNe a (l ++ r)
 | [], _, _, h => h
 | _ :: _, _, h, h' => ⟨h.1, allNe_app h.2 h'⟩
theorem off_get {rest l : List (Addr × Obj)} {p : Addr × Obj} (h : OffAll rest l) (hp : p ∈ rest) : AllNe p.1 l := AllNe.of fun q hq e => h.mem p hp q hq e.symm
structure Tails (dn0 dn1 dn : List (Addr × Obj)) : Prop where
 a : ∀ p ∈ dn0, p ∈ dn
 b : ∀ p ∈ dn1, p ∈ dn
theorem Tails.mono {dn0 dn1 dn dn' : List (Addr × Obj)} (h : Tails dn0 dn1 dn) (hs : ∀ p ∈ dn, p ∈ dn') : Tails dn0 dn1 dn' := ⟨fun p hp => hs p (h.a p hp), fun p hp => hs p (h.b p hp)⟩
theorem off1_ne {D : Addr} : ∀ {l : List (Addr × Obj)}, LCg.Off1 D l → AllNe D l
 | [], _ => trivial
 | _ :: _, h => ⟨h.1, off1_ne h.2⟩
theorem law_merge {h₀ h : Heap} {L : Addr} {x d lh r1 r2 r3 r4 r5 r6 r7 r8 r9 : Addr × Obj} {dn1 dn0 : List (Addr × Obj)} (N : News h₀ L h (x :: d :: lh :: (dn1 ++ (r1 :: r2 :: r3 :: r4 :: r5 :: r6 :: r7 :: r8 :: r9 :: dn0))))
  (o0 : OffAll [r2, r3, r4, r5, r6, r7, r8, r9] dn0) (a0 : AllNe r1.1 dn0) (o1 : OffAll (r1 :: r2 :: r3 :: r4 :: r5 :: r6 :: r7 :: r8 :: r9 :: dn0) (x :: d :: lh :: dn1)) (b1 : AllNe x.1 dn1) (b2 : AllNe d.1 dn1) (b3 : AllNe lh.1 dn1) :
  ∃ dn, News h₀ L h (r1 :: x :: d :: r9 :: r9 :: lh :: r1 :: r2 :: r3 :: r4 :: r5 :: r6 :: r7 :: r8 :: dn) ∧ Tails dn0 dn1 dn ∧ AllNe x.1 dn ∧ AllNe d.1 dn ∧ AllNe lh.1 dn ∧ AllNe r1.1 dn ∧ AllNe r2.1 dn ∧ AllNe r3.1 dn ∧ AllNe r4.1 dn ∧ AllNe r5.1 dn ∧ AllNe r6.1 dn ∧ AllNe r7.1 dn ∧ AllNe r8.1 dn ∧ AllNe r9.1 dn := by
 have t1 : OffAll (r1 :: r2 :: r3 :: r4 :: r5 :: r6 :: r7 :: r8 :: r9 :: dn0) dn1 := o1.2.2.2
 have sub : ∀ p ∈ dn0, p ∈ (r1 :: r2 :: r3 :: r4 :: r5 :: r6 :: r7 :: r8 :: r9 :: dn0) := fun p hp => .tail _ (.tail _ (.tail _ (.tail _ (.tail _ (.tail _ (.tail _ (.tail _ (.tail _ hp))))))))
 have x0 : ∀ q : Addr × Obj, AllNe q.1 (r1 :: r2 :: r3 :: r4 :: r5 :: r6 :: r7 :: r8 :: r9 :: dn0) → AllNe q.1 dn0 := fun q h => h.2.2.2.2.2.2.2.2.2
 refine ⟨dn0 ++ dn1, fun p hp => N p ?_, ⟨fun p hp => List.mem_append_left _ hp, fun p hp => List.mem_append_right _ hp⟩, allNe_app (x0 x o1.1) b1, allNe_app (x0 d o1.2.1) b2, allNe_app (x0 lh o1.2.2.1) b3, allNe_app a0 (off_get t1 (by (repeat (first | assumption | (with_reducible exact List.mem_cons_self) | apply List.mem_cons_of_mem)))), allNe_app (off_get o0 (by (repeat (first | assumption | (with_reducible exact List.mem_cons_self) | apply List.mem_cons_of_mem)))) (off_get t1 (by (repeat (first | assumption | (with_reducible exact List.mem_cons_self) | apply List.mem_cons_of_mem)))), allNe_app (off_get o0 (by (repeat (first | assumption | (with_reducible exact List.mem_cons_self) | apply List.mem_cons_of_mem)))) (off_get t1 (by (repeat (first | assumption | (with_reducible exact List.mem_cons_self) | apply List.mem_cons_of_mem)))), allNe_app (off_get o0 (by (repeat (first | assumption | (with_reducible exact List.mem_cons_self) | apply List.mem_cons_of_mem)))) (off_get t1 (by (repeat (first | assumption | (with_reducible exact List.mem_cons_self) | apply List.mem_cons_of_mem)))), allNe_app (off_get o0 (by (repeat (first | assumption | (with_reducible exact List.mem_cons_self) | apply List.mem_cons_of_mem)))) (off_get t1 (by (repeat (first | assumption | (with_reducible exact List.mem_cons_self) | apply List.mem_cons_of_mem)))), allNe_app (off_get o0 (by (repeat (first | assumption | (with_reducible exact List.mem_cons_self) | apply List.mem_cons_of_mem)))) (off_get t1 (by (repeat (first | assumption | (with_reducible exact List.mem_cons_self) | apply List.mem_cons_of_mem)))), allNe_app (off_get o0 (by (repeat (first | assumption | (with_reducible exact List.mem_cons_self) | apply List.mem_cons_of_mem)))) (off_get t1 (by (repeat (first | assumption | (with_reducible exact List.mem_cons_self) | apply List.mem_cons_of_mem)))), allNe_app (off_get o0 (by (repeat (first | assumption | (with_reducible exact List.mem_cons_self) | apply List.mem_cons_of_mem)))) (off_get t1 (by (repeat (first | assumption | (with_reducible exact List.mem_cons_self) | apply List.mem_cons_of_mem)))), allNe_app (off_get o0 (by (repeat (first | assumption | (with_reducible exact List.mem_cons_self) | apply List.mem_cons_of_mem)))) (off_get t1 (by (repeat (first | assumption | (with_reducible exact List.mem_cons_self) | apply List.mem_cons_of_mem))))⟩
 have inA : ∀ q ∈ dn1, q ∈ x :: d :: lh :: (dn1 ++ (r1 :: r2 :: r3 :: r4 :: r5 :: r6 :: r7 :: r8 :: r9 :: dn0)) := fun q hq => .tail _ (.tail _ (.tail _ (List.mem_append_left _ hq)))
 have inB : ∀ q ∈ r1 :: r2 :: r3 :: r4 :: r5 :: r6 :: r7 :: r8 :: r9 :: dn0, q ∈ x :: d :: lh :: (dn1 ++ (r1 :: r2 :: r3 :: r4 :: r5 :: r6 :: r7 :: r8 :: r9 :: dn0)) := fun q hq => .tail _ (.tail _ (.tail _ (List.mem_append_right _ hq)))
 repeat (rcases List.mem_cons.mp hp with h | hp; · (subst h; first | (refine inB _ ?_; (repeat (first | assumption | (with_reducible exact List.mem_cons_self) | apply List.mem_cons_of_mem)); done) | ((repeat (first | assumption | (with_reducible exact List.mem_cons_self) | apply List.mem_cons_of_mem)); done)))
 exact (List.mem_append.mp hp).elim (fun h => inB _ (sub _ h)) (inA _)
theorem sz2 (n : Nat) : @Ne Nat (n + 1 + 1) n := by kaf_pre
theorem sz3 (n : Nat) : @Ne Nat (n + 1 + 1 + 1) n := by kaf_pre
theorem sz4 (n : Nat) : @Ne Nat (n + 1 + 1 + 1 + 1) n := by kaf_pre
theorem law_cells {n : Nat} (h : @LT.lt Nat _ 54 n ∧ @LT.lt Nat _ 350 n ∧ @LT.lt Nat _ 61 n) : (@Ne Nat 54 (n + 1) ∧ @Ne Nat 54 (n + 1 + 1) ∧ @Ne Nat 54 (n + 1 + 1 + 1) ∧ @Ne Nat 54 (n + 1 + 1 + 1 + 1) ∧ @Ne Nat 54 (n + 1 + 1 + 1 + 1 + 1) ∧ @Ne Nat 350 (n + 1) ∧ @Ne Nat 350 (n + 1 + 1) ∧ @Ne Nat 350 (n + 1 + 1 + 1) ∧ @Ne Nat 350 (n + 1 + 1 + 1 + 1)) ∧ (@Ne Nat 350 (n + 1 + 1 + 1 + 1 + 1) ∧ @Ne Nat 61 (n + 1) ∧ @Ne Nat 61 (n + 1 + 1) ∧ @Ne Nat 61 (n + 1 + 1 + 1) ∧ @Ne Nat 61 (n + 1 + 1 + 1 + 1) ∧ @Ne Nat 61 (n + 1 + 1 + 1 + 1 + 1) ∧ @Ne Nat (n + 1 + 1) (n + 1) ∧ @Ne Nat (n + 1 + 1 + 1) (n + 1) ∧ @Ne Nat (n + 1 + 1 + 1 + 1) (n + 1)) ∧ @Ne Nat (n + 1 + 1 + 1 + 1 + 1) (n + 1) ∧ @Ne Nat (n + 1 + 1 + 1) (n + 1 + 1) ∧ @Ne Nat (n + 1 + 1 + 1 + 1) (n + 1 + 1) ∧ @Ne Nat (n + 1 + 1 + 1 + 1 + 1) (n + 1 + 1) ∧ @Ne Nat (n + 1 + 1 + 1 + 1) (n + 1 + 1 + 1) ∧ @Ne Nat (n + 1 + 1 + 1 + 1 + 1) (n + 1 + 1 + 1) ∧ @Ne Nat (n + 1 + 1 + 1 + 1 + 1) (n + 1 + 1 + 1 + 1) := by
 obtain ⟨a, b, c⟩ := h
 refine ⟨⟨?_, ?_, ?_, ?_, ?_, ?_, ?_, ?_, ?_⟩, ⟨?_, ?_, ?_, ?_, ?_, ?_, ?_, ?_, ?_⟩, ?_, ?_, ?_, ?_, ?_, ?_, ?_⟩ <;> kaf_pre
def BaseIs (_ : Nat) : Prop := True
theorem ts_zero : TS 61 51 4 qD #[] 61 (tabObj #[]) := .inl ⟨rfl, rfl, rfl⟩
theorem news_drop2 {h₀ h : Heap} {L : Addr} {a b : Addr × Obj} {r : List (Addr × Obj)} (N : News h₀ L h (a :: b :: r)) : News h₀ L h (a :: r) := fun p hp => N p (by
 rcases List.mem_cons.mp hp with e | hp
 ·exact e ▸ List.mem_cons_self ..
 ·exact .tail _ (.tail _ hp))
end Mine
end
section
open PyProof.V PyProof.Rows.LCg
namespace Mine
def rngI (a : Int) (n : Nat) : List Itm := (List.range n).map fun (i : Nat) => Itm.tok fun t => Value.int (a + (i : Int)) t
section
variable {prog : Program} {w : World} {A : Around}
theorem csrc_range {h₀ : Heap} {L : Addr} {m : Str → Option Value} {ok : Itm → Prop} {G : Itm → (Str → Option Value) → (Str → Option Value) → Prop} {elt iter : Expr} {x : Str} {px : Pos} {ifs : List Expr} {gs : List Comprehension} {scope : Scope} {cl : List (Str × Addr)} {cp pos : Pos} {env : Env}
  {Fin : Shared → List Value → List (Addr × Obj) → Prop} {E : Value → Shared → Prop} {s : Shared} {r : Addr} {a b : Int} {ta tb tc : Tok} {n : Nat} {news : List (Addr × Obj)} {B : Addr → Addr → Addr → Sem _root_.PySem.Fin}
  (hE : ∀ I C D, compTurn (.ListComp elt (⟨.Name x px, iter, ifs, 0⟩ :: gs) scope cp) 0 (.ref I) (.ref D) (compEnvC scope cl C env) = (standAt pos >>= fun _ => pyNext (.ref I) >>= fun r => match r with
   | none => pure (.done .next)
   | some v => letOwnedTupleGo (.Name x px) (.ref I) v >>= fun _ => assign (.Name x px) (compEnvC scope cl C env) v >>= fun _ => B I C D))
  (T : ∀ C, Asg prog w A (.Name x px) (compEnvC scope cl C env) ok G) (hok : ∀ f, ok (.tok f))
  (hcell : ∀ y ∈ scope.names, y.2 ≠ .cell) (hkind : scope.kind = .function)
  (hh : A.handled = none) (F : Fr h₀ L s.heap m) (N : News h₀ L s.heap news) (hr : IsRange s.heap r a b 1 ta tb tc) (hsm : Builtin.Range.small a b 1 = true) (hsz : Builtin.Range.rangeSize a b 1 = (n : Int))
  (rest : ∀ I C D E' g, (∀ p ∈ news, p.1 < I) → C ≠ D → h₀.get? C = none → C ≠ L → h₀.get? D = none → D ≠ L → I ≠ C ∧ I ≠ D → CR prog w A h₀ L m C D [(I, "range_iterator")] [] (fun _ => True) G (.compLoop (.ListComp elt (⟨.Name x px, iter, ifs, 0⟩ :: gs) scope cp) 0 (.ref I) (.ref D) (compEnvC scope cl C env)) (B I C D) E' { s with heap := g } (Fin { s with heap := g }) (rngI a n) [] news) :
  CSrc prog w A h₀ L m env elt (⟨.Name x px, iter, ifs, 0⟩ :: gs) scope cp cl Fin E (.ref r) s := by
 refine wpAny_pyIter_range hr hsm ?_
 rw [hsz]
 intro RR hRR
 have W₀ := Walks.range (prog := prog) (w := w) hh s.heap.objs.size a 1 n
 have W : Walks prog w A s.heap.objs.size [s.heap.objs.size] [s.heap.objs.size] n (fun i v => i < n ∧ ∃ t, v = .int (a + i * 1) t) (fun i h => IsRangeIter h s.heap.objs.size (a + (i : Nat) * 1) ((n : Int) - (i : Nat)) 1) :=
  { sub := W₀.sub, frame := W₀.frame, item := fun i s Q E hi st hQ => W₀.item i s Q E hi st fun v h' tk hP => hQ v h' tk ⟨hi, hP⟩, done := W₀.done, self := W₀.self }
 refine block_CR (E := E) (xs := rngI a n) (keep := []) (ws := [(s.heap.objs.size, "range_iterator")]) (fun C D => hE s.heap.objs.size C D) (KTurns.ofWalks W fun i v s Q E st q => wpAny_pure q) (fun s Q E st q => W.self 0 s Q E st q) T (by simp [rngI]) (fun i v h hp => ?_) (fun a ha => ?_) (fun i h st => ?_) (fun b hb => ?_) (fun b hb => by simpa using hb) (fun b hb => ?_) (fun b hb => ?_) hcell hkind ?_ (F.push _) (fun p hp => ⟨Heap.get?_push_of_some _ (N p hp).1, (N p hp).2⟩) (fun p hp hI => ?_) trivial (fun C D E' h1 h2 h3 h4 h5 h6 => rest s.heap.objs.size C D E' _ (fun p hp => Heap.lt_size (N p hp).1) h1 h2 h3 h4 h5 (h6 _ (by simp))) hRR
 ·obtain ⟨hi, t, e⟩ : i < n ∧ ∃ t, v = .int (a + (i : Int) * 1) t := hp
  refine ⟨.tok fun t => .int (a + (i : Int)) t, by simp [rngI, hi], t, ?_⟩
  rw [e, Int.mul_one]
 ·obtain ⟨i, _, rfl⟩ := List.mem_map.mp ha
  exact hok _
 ·exact ⟨[(s.heap.objs.size, _)], ⟨⟨rfl, rfl⟩, trivial⟩, fun p hp => by rw [List.mem_singleton.mp hp]; exact st⟩
 ·have hb' : b = s.heap.objs.size := by simpa using hb
  rw [hb']
  exact ⟨List.mem_cons_self .., next_is_new F, fun e => absurd F.ns.lt (by rw [e]; exact Nat.lt_irrefl _)⟩
 ·have hb' : b = s.heap.objs.size := by simpa using hb
  exact .inl (by simp [hb'])
 ·have hb' : b = s.heap.objs.size := by simpa using hb
  show b < (s.heap.push _).objs.size
  rw [Heap.size_push, hb']
  exact Nat.lt_succ_self _
 ·show IsRangeIter _ _ _ _ _
  have e1 : a + ((0 : Nat) : Int) * 1 = a := by kaf_pre
  have e2 : (n : Int) - ((0 : Nat) : Int) = n := by kaf_pre
  rw [e1, e2]
  exact Heap.get?_push_size _ rfl
 ·have hI' : p.1 = s.heap.objs.size := by simpa using hI
  exact absurd (Heap.lt_size (N p hp).1) (by rw [hI']; exact Nat.lt_irrefl _)
theorem rngI_drop {a : Int} {n i : Nat} (h : i < n) : (rngI a n).drop i = (.tok fun t => Value.int (a + (i : Int)) t) :: (rngI a n).drop (i + 1) := by
 have hl : i < (rngI a n).length := by simp [rngI, h]
 rw [List.drop_eq_getElem_cons hl]
 simp [rngI]
theorem cr_foldRg {σ : Type} {h₀ : Heap} {L I C D : Addr} {m : Str → Option Value} {cn : String} {c : Code} {x : Str} {elt : Expr} {cenv : Env} {E : Value → Shared → Prop} {s : Shared} {Fin : List Value → List (Addr × Obj) → Prop} {a : Int} {n : Nat}
  (Led : σ → List (Addr × Obj)) (P : Nat → List Value → σ → Prop) (hCD : C ≠ D) (hDI : D ≠ I) (hlen : ∀ i ys c, P i ys c → ys.length ≤ sizeLine)
  (turn : ∀ (i : Nat) (t : Tok) (ys : List Value) (q : σ) (oC oI : Obj) (m₂ : Str → Option Value) (h : Heap) (tk : Nat), i < n → P i ys q → m₂ x = some (.int (a + (i : Int)) t) → NsObj oC m₂ → Fr h₀ L h m → OffCD C D (Led q) → AllNe I (Led q) →
   News h₀ L h ((I, oI) :: (C, oC) :: (D, lst ys) :: Led q) →
   wpAny (model prog w) A (eval elt cenv) (CfEnd h₀ L m { s with heap := h, toks := tk } I oI C oC D ys Led (P (i + 1))) E { s with heap := h, toks := tk })
  (fin : ∀ ys q, P n ys q → Fin ys (Led q)) :
  ∀ (j i : Nat) (ys : List Value) (q : σ), i + j = n → P i ys q → CR prog w A h₀ L m C D [(I, cn)] [] (fun _ => True) (GName x) c (emitB elt (.ref D) cenv c) E s Fin ((rngI a n).drop i) ys (Led q) := by
 intro j
 induction j with
 | zero =>
  intro i ys q hij hP
  have e : i = n := by kaf_pre
  subst e
  have e2 : (rngI a i).drop i = [] := List.drop_of_length_le (by simp [rngI])
  rw [e2]
  exact fin ys q hP
 | succ j ih =>
  intro i ys q hij hP
  have hlt : i < n := by kaf_pre
  rw [rngI_drop hlt]
  rintro oC m₁ m₂ h tk - ⟨t, hG⟩ hoC F off
  refine cr_emit hCD (fun b hb => ?_) (hlen i ys q hP) hoC trivial ?_
  ·have e : b = I := by simpa using hb
   rw [e]; exact hDI
  ·intro oI hoI N ap
   refine wpAny_mono (turn i t ys q oC oI m₂ h tk hlt hP (by rw [hG]; simp [upd]) hoC F off (AllNe.of fun p hp => ap.mem p hp (I, oI) (.head _)) N) (fun y s₂ hy => ?_) fun _ _ e => e
   obtain ⟨q', h', tk', rfl, F', N', off', ai', hP'⟩ := hy
   exact ⟨h', tk', Led q', rfl, F', N', off', fun p hp r hr => by rw [List.mem_singleton.mp hr]; exact ai'.mem p hp, trivial, ih (i + 1) _ q' (by kaf_pre) hP'⟩
end
end Mine
end
section
open PyProof.V PyProof.Rows.LCg
namespace Mine
def ListsAt (dn : List (Addr × Obj)) (refs : List Value) (gs : List (List Int)) : Prop :=
 refs.length = gs.length ∧ ∀ (i : Nat) (ns : List Int), gs[i]? = some ns → ∃ (lm : Addr) (vs : List Value) (n : Nat), refs[i]? = some (Value.ref lm) ∧ (lm, listOf vs.toArray n) ∈ dn ∧ IntsAre vs ns
theorem ListsAt.nil (dn : List (Addr × Obj)) : ListsAt dn [] [] := ⟨rfl, fun i ns h => by simp at h⟩
theorem ListsAt.mono {dn dn' : List (Addr × Obj)} {refs : List Value} {gs : List (List Int)} (h : ListsAt dn refs gs) (hs : ∀ p ∈ dn, p ∈ dn') : ListsAt dn' refs gs :=
 ⟨h.1, fun i ns e => by
  obtain ⟨lm, vs, n, a, b, c⟩ := h.2 i ns e
  exact ⟨lm, vs, n, a, hs _ b, c⟩⟩
theorem ListsAt.snoc {dn : List (Addr × Obj)} {refs : List Value} {gs : List (List Int)} {lm : Addr} {vs : List Value} {n : Nat} {ns : List Int} (h : ListsAt dn refs gs) (hi : IntsAre vs ns) : ListsAt ((lm, listOf vs.toArray n) :: dn) (refs ++ [.ref lm]) (gs ++ [ns]) := by
 refine ⟨by simp [h.1], fun i ms e => ?_⟩
 by_cases q : i < gs.length
 ·rw [List.getElem?_append_left q] at e
  obtain ⟨lm', vs', n', a, b, c⟩ := h.2 i ms e
  exact ⟨lm', vs', n', by rw [List.getElem?_append_left (by rw [h.1]; exact q)]; exact a, .tail _ b, c⟩
 ·rw [List.getElem?_append_right (by kaf_pre)] at e
  have e2 : i - gs.length = 0 := by
   have := (List.getElem?_eq_some_iff.mp e).1
   simp at this
   kaf_pre
  rw [e2] at e
  have e3 : ns = ms := by simpa using e
  subst e3
  exact ⟨lm, vs, n, by rw [List.getElem?_append_right (by rw [h.1]; kaf_pre), h.1, e2]; rfl, .head _, hi⟩
theorem Rem.keepAll {led : List (Addr × Obj)} : ∀ {l : List (Addr × Obj)}, (∀ p ∈ l, AllNe p.1 led) → Rem led l l
 | [], _ => .nil
 | p :: r, h => .keep (h p (.head _)) (Rem.keepAll fun q hq => h q (.tail _ hq))
theorem allNe_symm {a : Addr × Obj} {l : List (Addr × Obj)} (h : AllNe a.1 l) : ∀ p ∈ l, @Ne Nat a.1 p.1 := fun p hp e => h.mem p hp e.symm
theorem hold_hdr {h₀ : Heap} {tws : Nat → Int} {mvs : Nat → List Int} {refs : List Value} {dn rest : List (Addr × Obj)} {lh : Addr} {n : Nat} (R : HdrRows tws (hdrs mvs 6) refs dn) (hmv : ∀ i, i < 6 → ∀ k ∈ mvs i, 1 ≤ k ∧ k ≤ 7) (hm : (lh, listOf refs.toArray n) ∈ rest) (hd : ∀ p ∈ dn, p ∈ rest) :
  ∀ g : Heap, (∀ b o, h₀.get? b = some o → g.get? b = some o) → (∀ p ∈ rest, g.get? p.1 = some p.2) → g.IsList lh refs.toArray ∧ HdrOld g tws (hdrs mvs 6) refs :=
 fun g _ hr => ⟨⟨_, hr _ hm, rfl, _, rfl⟩, hdrOld_of R hmv fun p hp => hr p (hd p hp)⟩
def NameL (j : Nat) (s : Shared) (v : Value) (s' : Shared) : Prop := ∃ t tk, v = .str (lowAt j) t ∧ s' = { s with toks := tk }
theorem NameL.mk' {j : Nat} {x : Str} {t tk : Tok} {s : Shared} (e : x = lowAt j) : NameL j s (.str x t) { s with toks := tk } := ⟨t, tk, by rw [e], rfl⟩
theorem three_nat {i : Nat} (h : i < 3) : i = 0 ∨ i = 1 ∨ i = 2 := lt3 i h
theorem join_low {prog : Program} {w : World} {A : Around} {E : Value → Shared → Prop} {s : Shared} {Q : Value → Shared → Prop} {e : Expr} {env : Env} {j : Nat} (_hj : j < 6)
  (h : wpAny (model prog w) A (eval e env) (NameL j s) E s) (k : ∀ t tk, Q (.str (lowAt j) t) { s with toks := tk }) : wpAny (model prog w) A (eval e env) Q E s :=
 wpAny_mono h (fun v s' ⟨t, tk, e1, e2⟩ => by subst e1 e2; exact k t tk) fun _ _ e => e
structure LFix (x d : Addr × Obj) (fixed : List (Addr × Obj)) : Prop where
 xd : @Ne Nat x.1 d.1
 t61x : @Ne Nat 61 x.1
 t61d : @Ne Nat 61 d.1
 sx : AllNe x.1 fixed
 sd : AllNe d.1 fixed
 s61 : AllNe 61 fixed
structure LDyn (x d : Addr × Obj) (fixed : List (Addr × Obj)) (p6 : Array Value) (c6 : Addr) (o6 : Obj) (dn : List (Addr × Obj)) : Prop where
 ts : TS 61 51 4 qD p6 c6 o6
 cx : @Ne Nat c6 x.1
 cd : @Ne Nat c6 d.1
 sc : AllNe c6 fixed
 nx : AllNe x.1 dn
 nd : AllNe d.1 dn
 n61 : AllNe 61 dn
 nc : AllNe c6 dn
 nf : ∀ p ∈ fixed, AllNe p.1 dn
abbrev SLf := Array Value × Addr × Obj × List (Addr × Obj)
abbrev ledLg (r0 x d : Addr × Obj) (rs : List (Addr × Obj)) (q : SLf) : List (Addr × Obj) := r0 :: x :: d :: (61, tabObj q.1) :: (q.2.1, q.2.2.1) :: (rs ++ q.2.2.2)
abbrev ledLf (r0 x d lh r1 r2 r3 r4 r5 r6 r7 r8 : Addr × Obj) (q : SLf) : List (Addr × Obj) := r0 :: x :: d :: (61, tabObj q.1) :: (q.2.1, q.2.2.1) :: lh :: r1 :: r2 :: r3 :: r4 :: r5 :: r6 :: r7 :: r8 :: q.2.2.2
def LeftEnd (h₀ : Heap) (L : Addr) (m : Str → Option Value) (s₁ : Shared) (x d : Addr × Obj) (rest : List (Addr × Obj)) (ns : List Int) (y : Value) (s₂ : Shared) : Prop :=
 ∃ lm vs n p6 c6 o6 h' tk, y = .ref lm ∧ s₂ = { s₁ with heap := h', toks := tk } ∧ Fr h₀ L h' m ∧ News h₀ L h' ((lm, listOf vs.toArray n) :: x :: d :: (61, tabObj p6) :: (c6, o6) :: rest) ∧ OffAll rest [(lm, listOf vs.toArray n), x, d, (61, tabObj p6), (c6, o6)] ∧ IntsAre vs ns ∧ TS 61 51 4 qD p6 c6 o6 ∧ @Ne Nat 61 lm ∧ @Ne Nat c6 lm ∧ @Ne Nat x.1 lm ∧ @Ne Nat d.1 lm ∧ @Ne Nat c6 x.1 ∧ @Ne Nat c6 d.1
section
variable {prog : Program} {w : World} {A : Around}
theorem left_crG {h₀ : Heap} {L I C D : Addr} {m : Str → Option Value} {c : Code} {xn : Str} {elt : Expr} {cenv : Env} {E : Value → Shared → Prop} {s : Shared} {Fin : List Value → List (Addr × Obj) → Prop} {r0 x d : Addr × Obj} {rs : List (Addr × Obj)} {p0 : Array Value} {c0 : Addr} {o0 : Obj} {dn dn0 dn1 : List (Addr × Obj)} {tws : Nat → Int} {mvs : Nat → List Int} {refs : List Value} {lha : Addr} {nh : Nat} {b : Nat}
  (_hB : BaseIs b) (R : HdrRows tws (hdrs mvs 6) refs dn1) (hmv : ∀ i, i < 6 → ∀ k ∈ mvs i, 1 ≤ k ∧ k ≤ 7) (hlh : (lha, listOf refs.toArray nh) ∈ rs) (Tl : Tails dn0 dn1 dn) (hb : b ≤ 3)
  (Fx : LFix x d (r0 :: rs)) (Dy : LDyn x d (r0 :: rs) p0 c0 o0 dn) (hCD : C ≠ D) (hDI : I ≠ C ∧ I ≠ D)
  (turn : ∀ (i : Nat) (t : Tok) (ys : List Value) (p6 : Array Value) (c6 : Addr) (o6 : Obj) (dn' : List (Addr × Obj)) (oC oI : Obj) (m₂ : Str → Option Value) (h : Heap) (tk : Nat), i < 3 → b + i < 6 → m₂ xn = some (.int (0 + (i : Int)) t) → NsObj oC m₂ → Fr h₀ L h m → TS 61 51 4 qD p6 c6 o6 → (@Ne Nat 61 x.1 ∧ @Ne Nat 61 d.1 ∧ @Ne Nat c6 x.1 ∧ @Ne Nat c6 d.1 ∧ @Ne Nat x.1 d.1) →
   Rem [x, d, (61, tabObj p6), (c6, o6)] ((I, oI) :: (C, oC) :: (D, lst ys) :: r0 :: x :: d :: (61, tabObj p6) :: (c6, o6) :: (rs ++ dn')) ((I, oI) :: (C, oC) :: (D, lst ys) :: r0 :: (rs ++ dn')) →
   (∀ g : Heap, (∀ b o, h₀.get? b = some o → g.get? b = some o) → (∀ p ∈ (I, oI) :: (C, oC) :: (D, lst ys) :: r0 :: (rs ++ dn'), g.get? p.1 = some p.2) → g.IsList lha refs.toArray ∧ HdrOld g tws (hdrs mvs 6) refs) →
   News h₀ L h ((I, oI) :: (C, oC) :: (D, lst ys) :: r0 :: x :: d :: (61, tabObj p6) :: (c6, o6) :: (rs ++ dn')) →
   wpAny (model prog w) A (eval elt cenv) (LeftEnd h₀ L m { s with heap := h, toks := tk } x d ((I, oI) :: (C, oC) :: (D, lst ys) :: r0 :: (rs ++ dn')) (mvs (b + i))) E { s with heap := h, toks := tk })
  (fin : ∀ ys p6 c6 o6 dn', ListsAt dn' ys [mvs b, mvs (b + 1), mvs (b + 2)] → (∀ p ∈ dn, p ∈ dn') → Tails dn0 dn1 dn' → LDyn x d (r0 :: rs) p6 c6 o6 dn' → Fin ys (r0 :: x :: d :: (61, tabObj p6) :: (c6, o6) :: (rs ++ dn'))) :
  CR prog w A h₀ L m C D [(I, "range_iterator")] [] (fun _ => True) (GName xn) c (emitB elt (.ref D) cenv c) E s Fin (rngI 0 3) [] (r0 :: x :: d :: (61, tabObj p0) :: (c0, o0) :: (rs ++ dn)) := by
 have inRest : ∀ (ys : List Value) (oI oC : Obj) (dn' : List (Addr × Obj)), ∀ p ∈ r0 :: rs, p ∈ (I, oI) :: (C, oC) :: (D, lst ys) :: r0 :: (rs ++ dn') := fun ys oI oC dn' =>
  List.forall_mem_cons.mpr ⟨.tail _ (.tail _ (.tail _ (.head _))), fun p hp => .tail _ (.tail _ (.tail _ (.tail _ (List.mem_append_left _ hp))))⟩
 have dnRest : ∀ (ys : List Value) (oI oC : Obj) (dn' : List (Addr × Obj)), ∀ p ∈ dn', p ∈ (I, oI) :: (C, oC) :: (D, lst ys) :: r0 :: (rs ++ dn') := fun ys oI oC dn' p hp =>
  .tail _ (.tail _ (.tail _ (.tail _ (List.mem_append_right _ hp))))
 have key := cr_foldRg (h₀ := h₀) (L := L) (m := m) (cn := "range_iterator") (c := c) (x := xn) (elt := elt) (cenv := cenv) (E := E) (s := s) (Fin := Fin) (a := 0) (n := 3) (I := I) (C := C) (D := D) (A := A) (prog := prog) (w := w) (ledLg r0 x d rs)
  (fun i ys q => ListsAt q.2.2.2 ys ((List.range i).map fun k => mvs (b + k)) ∧ (∀ p ∈ dn, p ∈ q.2.2.2) ∧ LDyn x d (r0 :: rs) q.1 q.2.1 q.2.2.1 q.2.2.2 ∧ i ≤ 3) hCD (Ne.symm hDI.2) (fun i ys q h => ?_) ?_ ?_ 3 0 [] (p0, c0, o0, dn) rfl ⟨.nil _, fun _ h => h, Dy, Nat.zero_le 3⟩
 ·rw [List.drop_zero] at key
  exact key
 ·have e := h.1.1
  have h3 := h.2.2.2
  rw [List.length_map, List.length_range] at e
  rw [PySem.sizeLine_eq, e]
  kaf_pre
 ·rintro i t ys ⟨p6, c6, o6, dn'⟩ oC oI m₂ h tk hi ⟨hL, hsub, Dy', _⟩ hx hoC F off ai N
  dsimp only at hL hsub Dy'
  have offm := off.mem
  have nI : ∀ p ∈ ledLg r0 x d rs (p6, c6, o6, dn'), @Ne Nat p.1 I := ai.mem
  have nC : ∀ p ∈ ledLg r0 x d rs (p6, c6, o6, dn'), @Ne Nat p.1 C := fun p hp => (offm p hp).1
  have nD : ∀ p ∈ ledLg r0 x d rs (p6, c6, o6, dn'), @Ne Nat p.1 D := fun p hp => (offm p hp).2
  have led4 : ∀ a : Addr, (∀ p ∈ ledLg r0 x d rs (p6, c6, o6, dn'), @Ne Nat p.1 a) → AllNe a [x, d, (61, tabObj p6), (c6, o6)] := fun a h =>
   ⟨h _ (.tail _ (.head _)), h _ (.tail _ (.tail _ (.head _))), h (61, tabObj p6) (.tail _ (.tail _ (.tail _ (.head _)))), h (c6, o6) (.tail _ (.tail _ (.tail _ (.tail _ (.head _))))), trivial⟩
  have fixNe : ∀ p ∈ r0 :: rs, AllNe p.1 [x, d, (61, tabObj p6), (c6, o6)] := fun p hp => ⟨Ne.symm (Fx.sx.mem p hp), Ne.symm (Fx.sd.mem p hp), Ne.symm (Fx.s61.mem p hp), Ne.symm (Dy'.sc.mem p hp), trivial⟩
  have dnNe : ∀ p ∈ dn', AllNe p.1 [x, d, (61, tabObj p6), (c6, o6)] := fun p hp => ⟨Ne.symm (Dy'.nx.mem p hp), Ne.symm (Dy'.nd.mem p hp), Ne.symm (Dy'.n61.mem p hp), Ne.symm (Dy'.nc.mem p hp), trivial⟩
  have hrem : Rem [x, d, (61, tabObj p6), (c6, o6)] ((I, oI) :: (C, oC) :: (D, lst ys) :: ledLg r0 x d rs (p6, c6, o6, dn')) ((I, oI) :: (C, oC) :: (D, lst ys) :: r0 :: (rs ++ dn')) :=
   .keep (led4 I nI) (.keep (led4 C nC) (.keep (led4 D nD) (.keep (fixNe r0 (.head _)) (.drop (.drop (.drop (.drop (Rem.keepAll fun p hp => (List.mem_append.mp hp).elim (fun h => fixNe p (.tail _ h)) (dnNe p)))))))))
  refine wpAny_mono (turn i t ys p6 c6 o6 dn' oC oI m₂ h tk hi (Nat.lt_of_lt_of_le (Nat.add_lt_add_left hi b) (Nat.add_le_add_right hb 3)) hx hoC F Dy'.ts ⟨Fx.t61x, Fx.t61d, Dy'.cx, Dy'.cd, Fx.xd⟩ hrem
   (hold_hdr R hmv (inRest ys oI oC dn' _ (.tail _ hlh)) (fun p hp => dnRest ys oI oC dn' p (hsub p (Tl.b p hp)))) N) (fun y s₂ hy => ?_) fun _ _ e => e
  obtain ⟨lm, vs, n, p6', c6', o6', h', tk', rfl, rfl, F', N', o, hi', hT', e1, e2, e3, e4, e5, e6⟩ := hy
  have om := o.mem
  have cNew : (c6', o6') ∈ [(lm, listOf vs.toArray n), x, d, (61, tabObj p6'), (c6', o6')] := .tail _ (.tail _ (.tail _ (.tail _ (.head _))))
  have lNew : (lm, listOf vs.toArray n) ∈ [(lm, listOf vs.toArray n), x, d, (61, tabObj p6'), (c6', o6')] := .head _
  have neAll : ∀ (a : Addr) (oa : Obj), (a, oa) ∈ (I, oI) :: (C, oC) :: (D, lst ys) :: r0 :: (rs ++ dn') → (∀ p ∈ ledLg r0 x d rs (p6, c6, o6, dn'), @Ne Nat p.1 a) → ∀ p ∈ ledLg r0 x d rs (p6', c6', o6', (lm, listOf vs.toArray n) :: dn'), @Ne Nat p.1 a := by
   intro a oa ha hold
   have hl : @Ne Nat lm a := Ne.symm (om (a, oa) ha _ lNew)
   have hs2 : ∀ p ∈ (lm, listOf vs.toArray n) :: dn', @Ne Nat p.1 a := List.forall_mem_cons.mpr ⟨hl, fun p hp => hold p (.tail _ (.tail _ (.tail _ (.tail _ (.tail _ (List.mem_append_right _ hp))))))⟩
   have hs : ∀ p ∈ rs ++ (lm, listOf vs.toArray n) :: dn', @Ne Nat p.1 a := fun p hp => (List.mem_append.mp hp).elim (fun h => hold p (.tail _ (.tail _ (.tail _ (.tail _ (.tail _ (List.mem_append_left _ h)))))))
    fun h => hs2 p h
   have l4 := led4 a hold
   exact List.forall_mem_cons.mpr ⟨hold r0 (.head _), List.forall_mem_cons.mpr ⟨l4.1, List.forall_mem_cons.mpr ⟨l4.2.1, List.forall_mem_cons.mpr ⟨l4.2.2.1, List.forall_mem_cons.mpr ⟨Ne.symm (om (a, oa) ha _ cNew), hs⟩⟩⟩⟩⟩
  have mI : ((I, oI) : Addr × Obj) ∈ (I, oI) :: (C, oC) :: (D, lst ys) :: r0 :: (rs ++ dn') := .head _
  have mC : ((C, oC) : Addr × Obj) ∈ (I, oI) :: (C, oC) :: (D, lst ys) :: r0 :: (rs ++ dn') := .tail _ (.head _)
  have mD : ((D, lst ys) : Addr × Obj) ∈ (I, oI) :: (C, oC) :: (D, lst ys) :: r0 :: (rs ++ dn') := .tail _ (.tail _ (.head _))
  have hN : News h₀ L h' ((I, oI) :: (C, oC) :: (D, lst ys) :: ledLg r0 x d rs (p6', c6', o6', (lm, listOf vs.toArray n) :: dn')) := by
   obtain ⟨nl, all5⟩ := List.forall_mem_cons.mp N'
   obtain ⟨nx, all5⟩ := List.forall_mem_cons.mp all5
   obtain ⟨nd, all5⟩ := List.forall_mem_cons.mp all5
   obtain ⟨nt, all5⟩ := List.forall_mem_cons.mp all5
   obtain ⟨nc, all5⟩ := List.forall_mem_cons.mp all5
   obtain ⟨nI', all5⟩ := List.forall_mem_cons.mp all5
   obtain ⟨nC', all5⟩ := List.forall_mem_cons.mp all5
   obtain ⟨nD', all5⟩ := List.forall_mem_cons.mp all5
   obtain ⟨n0, all5⟩ := List.forall_mem_cons.mp all5
   have nl2 : News h₀ L h' ((lm, listOf vs.toArray n) :: dn') := List.forall_mem_cons.mpr ⟨nl, fun p hp => all5 p (List.mem_append_right _ hp)⟩
   exact List.forall_mem_cons.mpr ⟨nI', List.forall_mem_cons.mpr ⟨nC', List.forall_mem_cons.mpr ⟨nD', List.forall_mem_cons.mpr ⟨n0, List.forall_mem_cons.mpr ⟨nx, List.forall_mem_cons.mpr ⟨nd, List.forall_mem_cons.mpr ⟨nt, List.forall_mem_cons.mpr ⟨nc, fun p hp => (List.mem_append.mp hp).elim (fun h => all5 p (List.mem_append_left _ h)) fun h => nl2 p h⟩⟩⟩⟩⟩⟩⟩⟩
  refine ⟨(p6', c6', o6', (lm, listOf vs.toArray n) :: dn'), h', tk', rfl, F', hN, OffCD.of fun p hp => ⟨neAll C oC mC nC p hp, neAll D (lst ys) mD nD p hp⟩, AllNe.of fun p hp => neAll I oI mI nI p hp, ?_, fun p hp => .tail _ (hsub p hp), ?_, hi⟩
  ·have e : (List.range (i + 1)).map (fun k => mvs (b + k)) = (List.range i).map (fun k => mvs (b + k)) ++ [mvs (b + i)] := by rw [List.range_succ, List.map_append]; rfl
   rw [e]
   exact hL.snoc hi'
  ·exact ⟨hT', e5, e6, AllNe.of fun p hp => om p (inRest ys oI oC dn' p hp) _ cNew, ⟨Ne.symm e3, Dy'.nx⟩, ⟨Ne.symm e4, Dy'.nd⟩, ⟨Ne.symm e1, Dy'.n61⟩, ⟨Ne.symm e2, AllNe.of fun p hp => om p (dnRest ys oI oC dn' p hp) _ cNew⟩,
    fun p hp => ⟨Ne.symm (om p (inRest ys oI oC dn' p hp) _ lNew), Dy'.nf p hp⟩⟩
 ·rintro ys ⟨p6, c6, o6, dn'⟩ ⟨hL, hsub, Dy', _⟩
  exact fin ys p6 c6 o6 dn' hL hsub (Tl.mono hsub) Dy'
theorem left_cr {h₀ : Heap} {L I C D : Addr} {m : Str → Option Value} {c : Code} {xn : Str} {elt : Expr} {cenv : Env} {E : Value → Shared → Prop} {s : Shared} {Fin : List Value → List (Addr × Obj) → Prop} {r0 x d lh r1 r2 r3 r4 r5 r6 r7 r8 : Addr × Obj} {p0 : Array Value} {c0 : Addr} {o0 : Obj} {dn dn0 dn1 : List (Addr × Obj)} {tws : Nat → Int} {mvs : Nat → List Int} {refs : List Value} {lha : Addr} {nh : Nat} {b : Nat}
  (_hB : BaseIs b) (R : HdrRows tws (hdrs mvs 6) refs dn1) (hmv : ∀ i, i < 6 → ∀ k ∈ mvs i, 1 ≤ k ∧ k ≤ 7) (hlh : lh = (lha, listOf refs.toArray nh)) (Tl : Tails dn0 dn1 dn) (hb : b ≤ 3)
  (Fx : LFix x d [r0, lh, r1, r2, r3, r4, r5, r6, r7, r8]) (Dy : LDyn x d [r0, lh, r1, r2, r3, r4, r5, r6, r7, r8] p0 c0 o0 dn) (hCD : C ≠ D) (hDI : I ≠ C ∧ I ≠ D)
  (turn : ∀ (i : Nat) (t : Tok) (ys : List Value) (p6 : Array Value) (c6 : Addr) (o6 : Obj) (dn' : List (Addr × Obj)) (oC oI : Obj) (m₂ : Str → Option Value) (h : Heap) (tk : Nat), i < 3 → b + i < 6 → m₂ xn = some (.int (0 + (i : Int)) t) → NsObj oC m₂ → Fr h₀ L h m → TS 61 51 4 qD p6 c6 o6 → (@Ne Nat 61 x.1 ∧ @Ne Nat 61 d.1 ∧ @Ne Nat c6 x.1 ∧ @Ne Nat c6 d.1 ∧ @Ne Nat x.1 d.1) →
   Rem [x, d, (61, tabObj p6), (c6, o6)] ((I, oI) :: (C, oC) :: (D, lst ys) :: r0 :: x :: d :: (61, tabObj p6) :: (c6, o6) :: lh :: r1 :: r2 :: r3 :: r4 :: r5 :: r6 :: r7 :: r8 :: dn') ((I, oI) :: (C, oC) :: (D, lst ys) :: r0 :: lh :: r1 :: r2 :: r3 :: r4 :: r5 :: r6 :: r7 :: r8 :: dn') →
   (∀ g : Heap, (∀ b o, h₀.get? b = some o → g.get? b = some o) → (∀ p ∈ (I, oI) :: (C, oC) :: (D, lst ys) :: r0 :: lh :: r1 :: r2 :: r3 :: r4 :: r5 :: r6 :: r7 :: r8 :: dn', g.get? p.1 = some p.2) → g.IsList lha refs.toArray ∧ HdrOld g tws (hdrs mvs 6) refs) →
   News h₀ L h ((I, oI) :: (C, oC) :: (D, lst ys) :: r0 :: x :: d :: (61, tabObj p6) :: (c6, o6) :: lh :: r1 :: r2 :: r3 :: r4 :: r5 :: r6 :: r7 :: r8 :: dn') →
   wpAny (model prog w) A (eval elt cenv) (LeftEnd h₀ L m { s with heap := h, toks := tk } x d ((I, oI) :: (C, oC) :: (D, lst ys) :: r0 :: lh :: r1 :: r2 :: r3 :: r4 :: r5 :: r6 :: r7 :: r8 :: dn') (mvs (b + i))) E { s with heap := h, toks := tk })
  (fin : ∀ ys p6 c6 o6 dn', ListsAt dn' ys [mvs b, mvs (b + 1), mvs (b + 2)] → (∀ p ∈ dn, p ∈ dn') → Tails dn0 dn1 dn' → LDyn x d [r0, lh, r1, r2, r3, r4, r5, r6, r7, r8] p6 c6 o6 dn' → Fin ys (r0 :: x :: d :: (61, tabObj p6) :: (c6, o6) :: lh :: r1 :: r2 :: r3 :: r4 :: r5 :: r6 :: r7 :: r8 :: dn')) :
  CR prog w A h₀ L m C D [(I, "range_iterator")] [] (fun _ => True) (GName xn) c (emitB elt (.ref D) cenv c) E s Fin (rngI 0 3) [] (r0 :: x :: d :: (61, tabObj p0) :: (c0, o0) :: lh :: r1 :: r2 :: r3 :: r4 :: r5 :: r6 :: r7 :: r8 :: dn) :=
 left_crG (rs := [lh, r1, r2, r3, r4, r5, r6, r7, r8]) _hB R hmv (by subst hlh; exact List.Mem.head _) Tl hb Fx Dy hCD hDI turn fin
end
end Mine
end
section
open PyProof.V PyProof.Rows.LCg
namespace Mine
def RowsIn (kp : List (Addr × Obj)) (h : Heap) : Prop := ∀ p ∈ kp, h.get? p.1 = some p.2
theorem turns_with {prog : Program} {w : World} {A : Around} {target : Expr} {I : Addr} {fp wr : List Addr} {n : Nat} {P Md : Nat → Value → Heap → Prop} {St : Nat → Heap → Prop} (W : KTurns prog w A target I fp wr n P Md St) (kp : List (Addr × Obj)) (hk : ∀ p ∈ kp, p.1 ∉ wr) :
  KTurns prog w A target I (fp ++ kp.map (·.1)) wr n (fun i v h => P i v h ∧ RowsIn kp h) (fun i v h => Md i v h ∧ RowsIn kp h) (fun i h => St i h ∧ RowsIn kp h) where
 sub := fun b hb => List.mem_append_left _ (W.sub b hb)
 frame := fun i h h' st hf => ⟨W.frame i h h' st.1 fun b hb => hf b (List.mem_append_left _ hb), fun p hp => hf p.1 (List.mem_append_right _ (List.mem_map_of_mem hp)) p.2 (st.2 p hp)⟩
 item := fun i s Q E hi st hQ => W.item i s Q E hi st.1 fun v h' tk hM hkk => hQ v h' tk ⟨hM, fun p hp => hkk _ _ (hk p hp) (st.2 p hp)⟩ hkk
 go := fun i v s Q E hm hQ => W.go i v s Q E hm.1 fun h' hP st' hkk => hQ h' ⟨hP, fun p hp => hkk _ _ (hk p hp) (hm.2 p hp)⟩ ⟨st', fun p hp => hkk _ _ (hk p hp) (hm.2 p hp)⟩ hkk
 done := fun s Q E st hQ => W.done s Q E st.1 hQ
def PairsAt (kp : List (Addr × Obj)) (vs : List Value) (xs : List (Int × Addr)) : Prop :=
 vs.length = xs.length ∧ ∀ (i : Nat) (p : Int × Addr), xs[i]? = some p → ∃ (T : Addr) (t : Tok) (o : Obj) (nn : Nat), vs[i]? = some (Value.ref T) ∧ (T, o) ∈ kp ∧ o.cls = .type "tuple" ∧ o.data = .seq #[.int p.1 t, .ref p.2] nn
def pairItm (p : Int × Addr) : Itm := .pair (fun t => .int p.1 t) (.ref p.2)
theorem subL_of {news : List (Addr × Obj)} : ∀ {k : List (Addr × Obj)}, (∀ p ∈ k, p ∈ news) → SubL k news
 | [], _ => trivial
 | _ :: _, h => ⟨h _ (.head _), subL_of fun p hp => h p (.tail _ hp)⟩
section
variable {prog : Program} {w : World} {A : Around}
theorem csrc_pairs {h₀ : Heap} {L : Addr} {m : Str → Option Value} {elt iter : Expr} {elts : List Expr} {kk : Nat} {tp : Pos} {G : Itm → (Str → Option Value) → (Str → Option Value) → Prop} {ifs : List Expr} {gs : List Comprehension} {scope : Scope} {cl : List (Str × Addr)} {cp pos : Pos} {env : Env}
  {Fin : Shared → List Value → List (Addr × Obj) → Prop} {E : Value → Shared → Prop} {s : Shared} {ax : Addr} {lo : Obj} {vs : List Value} {xs : List (Int × Addr)} {k : Nat} {news kp : List (Addr × Obj)} {B : Addr → Addr → Addr → Sem _root_.PySem.Fin}
  (hE : ∀ I C D, compTurn (.ListComp elt (⟨.Tuple elts kk tp, iter, ifs, 0⟩ :: gs) scope cp) 0 (.ref I) (.ref D) (compEnvC scope cl C env) = (standAt pos >>= fun _ => pyNext (.ref I) >>= fun r => match r with
   | none => pure (.done .next)
   | some v => letOwnedTupleGo (.Tuple elts kk tp) (.ref I) v >>= fun _ => assign (.Tuple elts kk tp) (compEnvC scope cl C env) v >>= fun _ => B I C D))
  (T : ∀ C, Asg prog w A (.Tuple elts kk tp) (compEnvC scope cl C env) okPair G)
  (hcell : ∀ y ∈ scope.names, y.2 ≠ .cell) (hkind : scope.kind = .function)
  (hp : PairsAt kp vs xs) (hkp : ∀ p ∈ kp, p ∈ news)
  (hh : A.handled = none) (F : Fr h₀ L s.heap m) (N : News h₀ L s.heap news) (hm : (ax, lo) ∈ news) (hc : lo.cls = .type "list") (hd : lo.data = .seq vs.toArray k)
  (rest : ∀ I C D E' g, (∀ p ∈ news, p.1 < I) → C ≠ D → h₀.get? C = none → C ≠ L → h₀.get? D = none → D ≠ L → I ≠ C ∧ I ≠ D → CR prog w A h₀ L m C D [(I, "list_iterator")] ((ax, lo) :: kp) (fun _ => True) G (.compLoop (.ListComp elt (⟨.Tuple elts kk tp, iter, ifs, 0⟩ :: gs) scope cp) 0 (.ref I) (.ref D) (compEnvC scope cl C env)) (B I C D) E' { s with heap := g } (Fin { s with heap := g }) (xs.map pairItm) [] news) :
  CSrc prog w A h₀ L m env elt (⟨.Tuple elts kk tp, iter, ifs, 0⟩ :: gs) scope cp cl Fin E (.ref ax) s := by
 have hax := N _ hm
 have hl : s.heap.IsList ax vs.toArray := ⟨lo, hax.1, hc, k, hd⟩
 have hlt : ax < s.heap.objs.size := Heap.lt_size hax.1
 have hne : ax ≠ s.heap.objs.size := Nat.ne_of_lt hlt
 have hklt : ∀ p ∈ kp, p.1 < s.heap.objs.size := fun p hp => Heap.lt_size (N p (hkp p hp)).1
 refine wpAny_pyIter_list hl ?_
 intro RR hRR
 have W₀ := Walks.list (prog := prog) (w := w) hh s.heap.objs.size ax hne vs.toArray
 have W₁ := KTurns.ofWalks (target := .Tuple elts kk tp) W₀ fun i v s Q E st q => letGo_listiter st.1 q
 have W := turns_with W₁ kp fun p hp hw => by
  have e : p.1 = s.heap.objs.size := by simpa using hw
  exact absurd (hklt p hp) (by rw [e]; exact Nat.lt_irrefl _)
 refine block_CR (E := E) (xs := xs.map pairItm) (keep := (ax, lo) :: kp) (ws := [(s.heap.objs.size, "list_iterator")]) (fun C D => hE s.heap.objs.size C D) W (fun s Q E st q => W₀.self 0 s Q E st.1 q) T (by simp [hp.1]) (fun i v h hpv => ?_) (fun a ha => ?_) (fun i h st => ?_) (fun b hb => ?_) (fun b hb => by simpa using hb) (fun b hb => ?_) (fun b hb => ?_) hcell hkind ?_ (F.push _) (fun p hp => ⟨Heap.get?_push_of_some _ (N p hp).1, (N p hp).2⟩) (fun p hp hI => ?_) ⟨hm, subL_of hkp⟩ (fun C D E' h1 h2 h3 h4 h5 h6 => rest s.heap.objs.size C D E' _ (fun p hp => Heap.lt_size (N p hp).1) h1 h2 h3 h4 h5 (h6 _ (by simp))) hRR
 ·obtain ⟨hv, hr⟩ := hpv
  have hv' : vs[i]? = some v := by
   have hv'' : vs.toArray[i]? = some v := hv
   simpa using hv''
  have hi : i < xs.length := by rw [← hp.1]; exact (List.getElem?_eq_some_iff.mp hv').1
  obtain ⟨T, t, o, nn, hT, ho, hcl, hdat⟩ := hp.2 i xs[i] (List.getElem?_eq_getElem hi)
  rw [hv'] at hT
  have hT := Option.some.inj hT
  refine ⟨pairItm xs[i], by rw [List.getElem?_map, List.getElem?_eq_getElem hi]; rfl, T, t, hT, o, hr _ ho, hcl, nn, hdat⟩
 ·obtain ⟨p, _, rfl⟩ := List.mem_map.mp ha
  exact trivial
 ·obtain ⟨it, hit, hic, _⟩ := st.1.1
  exact ⟨[(s.heap.objs.size, it)], ⟨⟨rfl, hic⟩, trivial⟩, fun p hp => by rw [List.mem_singleton.mp hp]; exact hit⟩
 ·have hb' : b = s.heap.objs.size := by simpa using hb
  rw [hb']
  exact ⟨List.mem_append_left _ (List.mem_cons_self ..), next_is_new F, fun e => absurd F.ns.lt (by rw [e]; exact Nat.lt_irrefl _)⟩
 ·rcases List.mem_append.mp hb with hb | hb
  ·have hb' : b = s.heap.objs.size ∨ b = ax := by simpa using hb
   rcases hb' with e | e
   ·exact .inl (by simp [e])
   ·exact .inr (.inl ⟨lo, by simp [e]⟩)
  ·obtain ⟨p, hp', rfl⟩ := List.mem_map.mp hb
   exact .inr (.inl ⟨p.2, .tail _ hp'⟩)
 ·show b < (s.heap.push _).objs.size
  rw [Heap.size_push]
  rcases List.mem_append.mp hb with hb | hb
  ·have hb' : b = s.heap.objs.size ∨ b = ax := by simpa using hb
   rcases hb' with e | e
   ·rw [e]; exact Nat.lt_succ_self _
   ·rw [e]; exact Nat.lt_succ_of_lt hlt
  ·obtain ⟨p, hp', rfl⟩ := List.mem_map.mp hb
   exact Nat.lt_succ_of_lt (hklt p hp')
 ·exact ⟨⟨⟨_, Heap.get?_push_size _ rfl, rfl, rfl⟩, hl.at fun o e => Heap.get?_push_of_some _ e⟩, fun p hp => Heap.get?_push_of_some _ (N p (hkp p hp)).1⟩
 ·have hI' : p.1 = s.heap.objs.size := by simpa using hI
  exact absurd (Heap.lt_size (N p hp).1) (by rw [hI']; exact Nat.lt_irrefl _)
theorem cr_snd {h₀ : Heap} {L I C D : Addr} {m : Str → Option Value} {keep : List (Addr × Obj)} {c : Code} {x y : Str} {elt : Expr} {cenv : Env} {E : Value → Shared → Prop} {s : Shared} {Fin : List Value → List (Addr × Obj) → Prop} {xs : List (Int × Addr)} {news : List (Addr × Obj)}
  (hxy : x ≠ y) (hl : xs.length ≤ 100) (hCD : C ≠ D) (hDI : I ≠ C ∧ I ≠ D) (hk : SubL keep news)
  (turn : ∀ (D' : Addr) (P : List Value → Prop) (ys : List Value) (oC oI : Obj) (m₂ : Str → Option Value) (h : Heap) (tk : Nat), P (ys ++ [.ref D']) → m₂ y = some (.ref D') → NsObj oC m₂ → Fr h₀ L h m → OffCD C D news → AllNe I news →
   News h₀ L h ((I, oI) :: (C, oC) :: (D, lst ys) :: news) →
   wpAny (model prog w) A (eval elt cenv) (CSame h₀ L m { s with heap := h, toks := tk } [(I, oI)] C oC D ys news P) E { s with heap := h, toks := tk })
  (fin : ∀ ys, ys = xs.map (fun p => Value.ref p.2) → Fin ys news) :
  CR prog w A h₀ L m C D [(I, "list_iterator")] keep (fun _ => True) (GPair x y) c (emitB elt (.ref D) cenv c) E s Fin (xs.map pairItm) [] news := by
 have key : ∀ (j i : Nat) (ys : List Value), i + j = xs.length → ys = (xs.take i).map (fun p => Value.ref p.2) → CR prog w A h₀ L m C D [(I, "list_iterator")] keep (fun _ => True) (GPair x y) c (emitB elt (.ref D) cenv c) E s Fin ((xs.drop i).map pairItm) ys news := by
  intro j
  induction j with
  | zero =>
   intro i ys hij hP
   have e : i = xs.length := by kaf_pre
   subst e
   rw [List.drop_length]
   rw [List.take_length] at hP
   exact fin ys hP
  | succ j ih =>
   intro i ys hij hP
   have hlt : i < xs.length := by kaf_pre
   rw [List.drop_eq_getElem_cons hlt, List.map_cons]
   rintro oC m₁ m₂ h tk hkn₁ ⟨t, hG⟩ hoC F off
   have hylen : ys.length ≤ sizeLine := by rw [hP, List.length_map, List.length_take, PySem.sizeLine_eq]; kaf_pre
   refine cr_emit hCD (fun b hb => ?_) hylen hoC trivial ?_
   ·have e : b = I := by simpa using hb
    rw [e]; exact Ne.symm hDI.2
   ·intro oI hoI N ap
    refine wpAny_mono (turn xs[i].2 (fun ys' => ys' = (xs.take (i + 1)).map (fun p => Value.ref p.2)) ys oC oI m₂ h tk ?_ (by rw [hG]; simp [upd]) hoC F off (AllNe.of fun p hp => ap.mem p hp (I, oI) (.head _)) N) (fun y s₂ hy => ?_) fun _ _ e => e
    ·show ys ++ [Value.ref xs[i].2] = (xs.take (i + 1)).map fun p => Value.ref p.2
     rw [List.take_add_one, List.getElem?_eq_getElem hlt, hP, List.map_append]
     rfl
    ·obtain ⟨h', tk', rfl, F', N', hP'⟩ := hy
     exact ⟨h', tk', news, rfl, F', N', off, ap.mem, hk, ih (i + 1) _ (by kaf_pre) hP'⟩
 have := key xs.length 0 [] (by kaf_pre) (by simp)
 rwa [List.drop_zero] at this
end
end Mine
end
section
open PyProof.V PyProof.Rows.LCg
namespace Mine
theorem pairsAt_of {ns : List Int} : ∀ {n : Nat} {refs : List Value} {dn : List (Addr × Obj)}, TurnRows movesAt ns n refs dn → ∃ xs : List (Int × Addr), xs.length = n ∧ PairsAt dn refs xs ∧ ListsAt dn (xs.map fun p => Value.ref p.2) ((List.range n).map (mvsOf ns))
 | _, _, _, .nil => ⟨[], rfl, ⟨rfl, fun i p h => by simp at h⟩, .nil _⟩
 | _, _, _, .snoc (i := n) (refs := refs) (done := done) (T := T) (D := D) (t := t) (nn := nn) (ys := ys) R hy => by
  obtain ⟨xs, hl, hp, hL⟩ := pairsAt_of R
  refine ⟨xs ++ [((numAt ns n).fdiv 20, D)], by simp [hl], ⟨by simp [hp.1], fun i p h => ?_⟩, ?_⟩
  ·by_cases q : i < xs.length
   ·rw [List.getElem?_append_left q] at h
    obtain ⟨T', t', o', n', a, b, c⟩ := hp.2 i p h
    exact ⟨T', t', o', n', by rw [List.getElem?_append_left (by rw [hp.1]; exact q)]; exact a, .tail _ (.tail _ b), c⟩
   ·rw [List.getElem?_append_right (by kaf_pre)] at h
    have e2 : i - xs.length = 0 := by
     have := (List.getElem?_eq_some_iff.mp h).1
     simp at this
     kaf_pre
    rw [e2] at h
    have e3 : ((numAt ns n).fdiv 20, D) = p := by simpa using h
    subst e3
    exact ⟨T, t, _, nn, by rw [List.getElem?_append_right (by rw [hp.1]; kaf_pre), hp.1, e2]; rfl, .head _, rfl, rfl⟩
  ·rw [List.map_append, List.range_succ, List.map_append]
   have h2 : ListsAt ((D, lst ys) :: done) (xs.map (fun p => Value.ref p.2) ++ [Value.ref D]) ((List.range n).map (mvsOf ns) ++ [mvsOf ns n]) := ListsAt.snoc (n := ys.length) hL hy
   exact h2.mono fun p hp => .tail _ hp
abbrev lsD (gs : List (List Int)) : List PyData := gs.map fun g => PyData.list (g.map PyData.int)
theorem reads_lists {h : Heap} : ∀ {gs : List (List Int)} {refs : List Value} , refs.length = gs.length → (∀ (i : Nat) (ns : List Int), gs[i]? = some ns → ∃ (lm : Addr) (vs : List Value), refs[i]? = some (Value.ref lm) ∧ h.IsList lm vs.toArray ∧ IntsAre vs ns) → ∃ as, ReadsAll h refs (lsD gs) as
 | [], [], _, _ => ⟨_, .nil⟩
 | [], _ :: _, hl, _ => by simp at hl
 | _ :: _, [], hl, _ => by simp at hl
 | g :: gs, r :: refs, hl, hr => by
  obtain ⟨lm, vs, a, b, c⟩ := hr 0 g rfl
  have e : r = Value.ref lm := by simpa using a
  subst e
  obtain ⟨as, ih⟩ := reads_lists (gs := gs) (refs := refs) (by simpa using hl) fun i ns hi => by
   obtain ⟨lm', vs', a', b', c'⟩ := hr (i + 1) ns (by simpa using hi)
   exact ⟨lm', vs', by simpa using a', b', c'⟩
  exact ⟨_, .cons (reads_newData b (ke_carried c)) ih⟩
theorem eqvAll_self : ∀ gs : List (List Int), PyData.eqvAll (lsD gs) (lsD gs) = true
 | [] => by simp [lsD, PyData.eqvAll]
 | g :: r => by
  have ih := eqvAll_self r
  simp only [lsD] at ih
  simp only [lsD, List.map_cons, PyData.eqvAll, PyData.eqv, ked_eqvAll, ih, decide_true, Bool.and_true]
section
variable {prog : Program} {w : World} {A : Around}
theorem ne_lists {h₀ : Heap} {L a b : Addr} {E : Value → Shared → Prop} {s : Shared} {Q : Value → Shared → Prop} {news dn dm : List (Addr × Obj)} {va vb : List Value} {n k : Nat} {m0 m1 m2 m3 m4 m5 : List Int}
  (N : News h₀ L s.heap news) (h1 : (a, listOf va.toArray n) ∈ news) (h2 : (b, listOf vb.toArray k) ∈ news) (L1 : ListsAt dn va [m0, m1, m2, m3, m4, m5]) (L2 : ListsAt dm vb [m0, m1, m2, m3, m4, m5]) (s1 : ∀ p ∈ dn, p ∈ news) (s2 : ∀ p ∈ dm, p ∈ news) (hu : A.units + 64 < cLine)
  (h : Q (.bool false) s) : wpAny (model prog w) A (compareOp .NotEq (.ref a) (.ref b)) Q E s := by
 have rd : ∀ {v : List Value} {x : Addr} {j : Nat} {dq : List (Addr × Obj)}, (x, listOf v.toArray j) ∈ news → ListsAt dq v [m0, m1, m2, m3, m4, m5] → (∀ p ∈ dq, p ∈ news) → ∃ as, Reads s.heap (.ref x) (.list (lsD [m0, m1, m2, m3, m4, m5])) as := by
  intro v x j dq hx hL hs
  obtain ⟨as, hr⟩ := reads_lists (h := s.heap) hL.1 fun i ns hi => by
   obtain ⟨lm, vs, n', a', b', c'⟩ := hL.2 i ns hi
   exact ⟨lm, vs, a', ⟨_, (N _ (hs _ b')).1, rfl, _, rfl⟩, c'⟩
  exact ⟨_, reads_list_at (N _ hx).1 rfl rfl (by simpa using hr)⟩
 obtain ⟨as, ra⟩ := rd h1 L1 s1
 obtain ⟨bs, rb⟩ := rd h2 L2 s2
 have hsh : SeqAt.shaped (PyData.list (lsD [m0, m1, m2, m3, m4, m5])) = true := by
  simp [lsD, SeqAt.shaped, PyData.canLay0, PyData.canLayAll0, PyData.depth, PyData.depthAll, ke_canLayAll0, ke_depthAll]
 refine ne_dataH ra rb hsh hsh hu ?_
 have e : PyData.eqv (PyData.list (lsD [m0, m1, m2, m3, m4, m5])) (PyData.list (lsD [m0, m1, m2, m3, m4, m5])) = true := by
  simp only [PyData.eqv, eqvAll_self]
 rw [e]
 exact h
theorem add_refs {h₀ : Heap} {L a b : Addr} {m : Str → Option Value} {E : Value → Shared → Prop} {s : Shared} {Q : Value → Shared → Prop} {news dn : List (Addr × Obj)} {va vb : List Value} {n k : Nat} {m0 m1 m2 m3 m4 m5 : List Int}
  (F : Fr h₀ L s.heap m) (N : News h₀ L s.heap news) (L1 : ListsAt dn va [m0, m1, m2]) (L2 : ListsAt dn vb [m3, m4, m5]) (h1 : (a, listOf va.toArray n) ∈ news) (h2 : (b, listOf vb.toArray k) ∈ news)
  (h : ∀ D h', Fr h₀ L h' m → News h₀ L h' ((D, listOf (va ++ vb).toArray 0) :: news) → (∀ p ∈ news, p.1 < D) → ListsAt dn (va ++ vb) [m0, m1, m2, m3, m4, m5] → Q (.ref D) { s with heap := h' }) :
  wpAny (model prog w) A (binaryOp .Add (.ref a) (.ref b)) Q E s := by
 have e1 : va.length = 3 := L1.1
 have e2 : vb.length = 3 := L2.1
 refine add_lists F N ⟨_, (N _ h1).1, rfl, _, rfl⟩ ⟨_, (N _ h2).1, rfl, _, rfl⟩ (fun h' F' N' => h _ h' F' N' (fun p hp => Heap.lt_size (N p hp).1) ⟨by simp [e1, e2], fun i ns hi => ?_⟩) (by rw [PySem.sizeLine_eq]; kaf_pre)
 by_cases q : i < 3
 ·have hi' : ([m0, m1, m2] : List (List Int))[i]? = some ns := by
   have e : ([m0, m1, m2, m3, m4, m5] : List (List Int)) = [m0, m1, m2] ++ [m3, m4, m5] := rfl
   rw [e, List.getElem?_append_left (by simpa using q)] at hi
   exact hi
  obtain ⟨lm, vs, n', a', b', c'⟩ := L1.2 i ns hi'
  exact ⟨lm, vs, n', by rw [List.getElem?_append_left (by kaf_pre)]; exact a', b', c'⟩
 ·have hi' : ([m3, m4, m5] : List (List Int))[i - 3]? = some ns := by
   have e : ([m0, m1, m2, m3, m4, m5] : List (List Int)) = [m0, m1, m2] ++ [m3, m4, m5] := rfl
   rw [e, List.getElem?_append_right (by simp; kaf_pre)] at hi
   exact hi
  obtain ⟨lm, vs, n', a', b', c'⟩ := L2.2 (i - 3) ns hi'
  exact ⟨lm, vs, n', by rw [List.getElem?_append_right (by kaf_pre), e1]; exact a', b', c'⟩
end
theorem tails_in {dn0 dn1 dn news : List (Addr × Obj)} (T : Tails dn0 dn1 dn) (h : ∀ p ∈ dn, p ∈ news) : ∀ p ∈ dn0, p ∈ news := fun p hp => h p (T.a p hp)
end Mine
end
section
open PyProof.V PyProof.Rows.LCg
namespace Mine
inductive SplT (dn : List (Addr × Obj)) : List (Addr × Obj) → List (Addr × Obj) → Prop
 | base : SplT dn [] dn
 | cons {a pre l} : SplT dn pre l → SplT dn (a :: pre) (a :: l)
theorem SplT.eq {dn pre l : List (Addr × Obj)} (h : SplT dn pre l) : l = pre ++ dn := by
 induction h with
 | base => rfl
 | cons _ ih => rw [ih]; rfl
def wov (gl gr : List (List Int)) : List (List Int) := gl.flatMap fun a => gr.map (weaveI a)
theorem wov_snoc (gl gr : List (List Int)) (a : List Int) : wov (gl ++ [a]) gr = wov gl gr ++ gr.map (weaveI a) := by simp [wov]
theorem wov_len (gl gr : List (List Int)) : (wov gl gr).length = gl.length * gr.length := by
 unfold wov
 induction gl with
 | nil => simp
 | cons a r ih => simp only [List.flatMap_cons, List.length_append, ih, List.length_map, List.length_cons, Nat.succ_mul]; kaf_pre
structure TailOk (pre dn q : List (Addr × Obj)) : Prop where
 sub : ∀ p ∈ dn, p ∈ q
 ne : ∀ p ∈ pre, AllNe p.1 q
def WvP1 (pre dn : List (Addr × Obj)) (gl gr : List (List Int)) (i : Nat) (ys : List Value) (q : List (Addr × Obj)) : Prop := ListsAt q ys (wov (gl.take i) gr) ∧ TailOk pre dn q
def WvP2 (pre dn : List (Addr × Obj)) (gl gr : List (List Int)) (i : Nat) (a : List Int) (I : Addr) (j : Nat) (ys : List Value) (q : List (Addr × Obj)) : Prop := ListsAt q ys (wov (gl.take i) gr ++ (gr.take j).map (weaveI a)) ∧ TailOk pre dn q ∧ AllNe I (pre ++ q)
def WovEnd (h₀ : Heap) (L : Addr) (m : Str → Option Value) (s₁ : Shared) (rest : List (Addr × Obj)) (ns : List Int) (y : Value) (s₂ : Shared) : Prop :=
 ∃ D vs n h' tk, y = .ref D ∧ s₂ = { s₁ with heap := h', toks := tk } ∧ Fr h₀ L h' m ∧ News h₀ L h' ((D, listOf vs.toArray n) :: rest) ∧ OffAll rest [(D, listOf vs.toArray n)] ∧ IntsAre vs ns
def smallG (gs : List (List Int)) : Prop := ∀ g ∈ gs, g.length ≤ 20 ∧ ∀ x ∈ g, 0 ≤ x ∧ x ≤ 7
section
variable {prog : Program} {w : World} {A : Around}
theorem wov_cr {h₀ : Heap} {L I C D : Addr} {m : Str → Option Value} {keep1 : List (Addr × Obj)} {c1 : Code} {x1 x2 : Str} {p2 : Pos} {elt t1 i1 i2 : Expr} {scope : Scope} {cp : Pos} {cenv : Env} {E : Value → Shared → Prop} {s : Shared} {Fin : List Value → List (Addr × Obj) → Prop} {ysL ysR : List Value} {gl gr : List (List Int)} {pre dn news : List (Addr × Obj)}
  (hS : SplT dn pre news) (LL : ListsAt dn ysL gl) (LR : ListsAt dn ysR gr) (hpd : ∀ p ∈ pre, AllNe p.1 dn) (hk : SubL keep1 news) (hkp : ∀ p ∈ keep1, p ∈ pre)
  (hh : A.handled = none) (hC : cenv.locals = C) (hCD : C ≠ D) (hCL : C ≠ L) (hC₀ : h₀.get? C = none) (hDL : D ≠ L) (hD₀ : h₀.get? D = none) (hIC : I ≠ C ∧ I ≠ D)
  (hs2 : ∀ x, foldedSetIterable i2 cenv x = pure x) (T : Asg prog w A (.Name x2 p2) cenv (fun _ => True) (GName x2))
  (turn : ∀ (i : Nat) (a : List Int) (la : Addr) (va : List Value) (na : Nat) (ys : List Value) (q : List (Addr × Obj)) (oC oI : Obj) (m₂ : Str → Option Value) (h : Heap) (tk : Nat), gl[i]? = some a → (la, listOf va.toArray na) ∈ dn → IntsAre va a → WvP1 pre dn gl gr i ys q → m₂ x1 = some (.ref la) → NsObj oC m₂ → Fr h₀ L h m → OffCD C D (pre ++ q) → AllNe I (pre ++ q) →
   News h₀ L h ((I, oI) :: (C, oC) :: (D, lst ys) :: (pre ++ q)) →
   wpAny (model prog w) A (eval i2 cenv) (It2 prog w A h₀ L m { s with heap := h, toks := tk } I oI C oC D ys (fun q : List (Addr × Obj) => pre ++ q) q (fun m' => m' x1 = some (.ref la)) (GName x2) (fun J => .compLoop (.ListComp elt [⟨t1, i1, [], 0⟩, ⟨.Name x2 p2, i2, [], 0⟩] scope cp) 1 (.ref J) (.ref D) cenv) (fun J => emitB elt (.ref D) cenv (.compLoop (.ListComp elt [⟨t1, i1, [], 0⟩, ⟨.Name x2 p2, i2, [], 0⟩] scope cp) 1 (.ref J) (.ref D) cenv)) (WvP1 pre dn gl gr (i + 1))) E { s with heap := h, toks := tk })
  (fin : ∀ ys q, ListsAt q ys (wov gl gr) → TailOk pre dn q → Fin ys (pre ++ q)) :
  CR prog w A h₀ L m C D [(I, "list_iterator")] keep1 (fun _ => True) (GName x1) c1
   (eval i2 cenv >>= fun x => standAt i2.pos >>= fun _ => foldedSetIterable i2 cenv x >>= fun x => holding [x] (pyIter x) >>= fun it2 => runOwn (.compStart (.ListComp elt [⟨t1, i1, [], 0⟩, ⟨.Name x2 p2, i2, [], 0⟩] scope cp) 1 it2 (.ref D) cenv) cenv >>= fun _ => again c1)
   E s Fin (ysL.map .val) [] news := by
 have e := hS.eq
 subst e
 refine cr2_fold (fun q : List (Addr × Obj) => pre ++ q) (WvP1 pre dn gl gr) hh hC hCD hCL hC₀ hDL hD₀ hIC.1 hIC.2 hs2 T (fun J => turn_2b _ _ _ _ _ _ _ _ _ _) (fun q => subL_of fun p hp => List.mem_append_left _ (hkp p hp)) ?_ ?_ ysL.length 0 [] dn (by kaf_pre) ⟨.nil _, fun _ h => h, hpd⟩
 ·intro i v ys q oC oI m₂ h tk hv hP hx hoC F off ai N
  have hi : i < gl.length := by rw [← LL.1]; exact (List.getElem?_eq_some_iff.mp hv).1
  obtain ⟨la, va, na, hr, hm, hia⟩ := LL.2 i gl[i] (List.getElem?_eq_getElem hi)
  rw [hv] at hr
  have hr := Option.some.inj hr
  subst hr
  exact turn i gl[i] la va na ys q oC oI m₂ h tk (List.getElem?_eq_getElem hi) hm hia hP hx hoC F off ai N
 ·intro ys q hP
  obtain ⟨h1, h2⟩ := hP
  rw [LL.1, List.take_length] at h1
  exact fin ys q h1 h2
theorem wov_in {h₀ h' : Heap} {L I C D Dr la : Addr} {m : Str → Option Value} {s₁ : Shared} {oI oC : Obj} {ys0 : List Value} {x1 x2 : Str} {elt : Expr} {cenv : Env} {c2 : Addr → Code} {tk' : Nat} {ysR va : List Value} {gl gr : List (List Int)} {pre dn q : List (Addr × Obj)} {i na : Nat} {a : List Int}
  (LR : ListsAt dn ysR gr) (hma : (la, listOf va.toArray na) ∈ dn) (hia : IntsAre va a) (hk : gl[i]? = some a) (hP : WvP1 pre dn gl gr i ys0 q) (F : Fr h₀ L h' m) (N : News h₀ L h' ((I, oI) :: (C, oC) :: (D, lst ys0) :: (pre ++ q))) (hDr : (Dr, lst ysR) ∈ pre) (ai : AllNe I (pre ++ q)) (hx : x1 ≠ x2) (hCD : C ≠ D) (hIC : I ≠ C ∧ I ≠ D) (sl : smallG gl) (sr : smallG gr) (hgl : gl.length ≤ 20) (hgr : gr.length ≤ 20)
  (turn : ∀ (J : Addr) (s₂ : Shared) (E' : Value → Shared → Prop) (b : List Int) (lb : Addr) (vb ys : List Value) (q : List (Addr × Obj)) (oC oJ : Obj) (m₂ : Str → Option Value) (h : Heap) (tk : Nat), IntsAre va a → IntsAre vb b → a.length ≤ 20 → b.length ≤ 20 → (∀ x ∈ a, 0 ≤ x ∧ x ≤ 7) → (∀ x ∈ b, 0 ≤ x ∧ x ≤ 100) → m₂ x1 = some (.ref la) → m₂ x2 = some (.ref lb) → NsObj oC m₂ → Fr h₀ L h m →
   (∀ g : Heap, (∀ b o, h₀.get? b = some o → g.get? b = some o) → (∀ p ∈ (J, oJ) :: (C, oC) :: (D, lst ys) :: (I, oI) :: (pre ++ q), g.get? p.1 = some p.2) → g.IsList la va.toArray ∧ g.IsList lb vb.toArray) →
   News h₀ L h ((J, oJ) :: (C, oC) :: (D, lst ys) :: (I, oI) :: (pre ++ q)) →
   wpAny (model prog w) A (eval elt cenv) (WovEnd h₀ L m { s₂ with heap := h, toks := tk } ((J, oJ) :: (C, oC) :: (D, lst ys) :: (I, oI) :: (pre ++ q)) (weaveI a b)) E' { s₂ with heap := h, toks := tk }) :
  It2 prog w A h₀ L m s₁ I oI C oC D ys0 (fun q : List (Addr × Obj) => pre ++ q) q (fun m' => m' x1 = some (.ref la)) (GName x2) c2 (fun J => emitB elt (.ref D) cenv (c2 J)) (WvP1 pre dn gl gr (i + 1)) (.ref Dr) { s₁ with heap := h', toks := tk' } := by
 have hm : (Dr, lst ysR) ∈ (I, oI) :: (C, oC) :: (D, lst ys0) :: (pre ++ q) := .tail _ (.tail _ (.tail _ (List.mem_append_left _ hDr)))
 refine It2.intro [(Dr, lst ysR)] F N ⟨_, (N _ hm).1, rfl, _, rfl⟩ ⟨List.mem_append_left _ hDr, trivial⟩ (.inr ⟨_, .head _⟩) fun J s₂ E' hJ => ?_
 have hmemA : a ∈ gl := List.mem_of_getElem? hk
 have hlen2 : (wov (gl.take i) gr).length ≤ 400 := by
  rw [wov_len]
  have h1 : (gl.take i).length ≤ 20 := by rw [List.length_take]; kaf_pre
  exact Nat.le_trans (Nat.mul_le_mul h1 hgr) (by decide)
 refine inner_fold (q0 := q) (oI := oI) (oC := oC) (fun q : List (Addr × Obj) => pre ++ q) (WvP2 pre dn gl gr i a I) _ hx hCD hIC.1 hIC.2 hJ (fun n ys q' h => ?_) (fun q' => ⟨List.mem_append_left _ hDr, trivial⟩) (fun _ _ _ h => h.2.2) ?_ ⟨by simpa using hP.1, hP.2, ai⟩ ?_
 ·have e := h.1.1
  rw [List.length_append, List.length_map, List.length_take] at e
  rw [PySem.sizeLine_eq]
  kaf_pre
 ·intro j v ys q' oC oJ m₂ h tk hv hP2 h1 h2 hoC F' off hIJ aj N'
  obtain ⟨hL2, hT2, hI2⟩ := hP2
  have hj : j < gr.length := by rw [← LR.1]; exact (List.getElem?_eq_some_iff.mp hv).1
  obtain ⟨lb, vb, nb, hr, hmb, hib⟩ := LR.2 j gr[j] (List.getElem?_eq_getElem hj)
  rw [hv] at hr
  have hr := Option.some.inj hr
  subst hr
  have bA := sl a hmemA
  have bB := sr gr[j] (List.getElem_mem hj)
  have inR : ∀ p ∈ dn, p ∈ (J, oJ) :: (C, oC) :: (D, lst ys) :: (I, oI) :: (pre ++ q') := fun p hp => .tail _ (.tail _ (.tail _ (.tail _ (List.mem_append_right _ (hT2.sub p hp)))))
  refine wpAny_mono (turn J s₂ E' gr[j] lb vb ys q' oC oJ m₂ h tk hia hib bA.1 bB.1 bA.2 (fun x hx => ⟨(bB.2 x hx).1, by have := (bB.2 x hx).2; kaf_pre⟩) h1 h2 hoC F'
   (fun g _ hg => ⟨⟨_, hg _ (inR _ hma), rfl, _, rfl⟩, ⟨_, hg _ (inR _ hmb), rfl, _, rfl⟩⟩) N') (fun y s₃ hy => ?_) fun _ _ e => e
  obtain ⟨D', vs, n, h9, tk9, rfl, rfl, F9, N9, o, hi9⟩ := hy
  have om := o.mem
  have oD : ∀ p ∈ (J, oJ) :: (C, oC) :: (D, lst ys) :: (I, oI) :: (pre ++ q'), @Ne Nat p.1 D' := fun p hp => om p hp _ (.head _)
  have inP : ∀ p ∈ pre ++ q', p ∈ (J, oJ) :: (C, oC) :: (D, lst ys) :: (I, oI) :: (pre ++ q') := fun p hp => .tail _ (.tail _ (.tail _ (.tail _ hp)))
  have offm := off.mem
  have ajm := aj.mem
  have hIm := hI2.mem
  have oneOf : ∀ p ∈ pre ++ (D', listOf vs.toArray n) :: q', p.1 = D' ∨ p ∈ pre ++ q' := fun p hp => by
   rcases List.mem_append.mp hp with hp | hp
   ·exact .inr (List.mem_append_left _ hp)
   ·rcases List.mem_cons.mp hp with rfl | hp
    ·exact .inl rfl
    ·exact .inr (List.mem_append_right _ hp)
  have nI : AllNe I (pre ++ (D', listOf vs.toArray n) :: q') := AllNe.of fun p hp => by
   rcases oneOf p hp with e | hp
   ·rw [e]; exact Ne.symm (oD (I, oI) (.tail _ (.tail _ (.tail _ (.head _)))))
   ·exact hIm p hp
  refine ⟨(D', listOf vs.toArray n) :: q', h9, tk9, rfl, F9, fun p hp => N9 p ?_, ⟨⟨hIC.1, hIC.2⟩, OffCD.of fun p hp => ?_⟩, ⟨hIJ, AllNe.of fun p hp => ?_⟩, ?_⟩
  ·simp only [List.mem_cons, List.mem_append] at hp ⊢
   rcases hp with h | h | h | h | h | h | h <;> simp [h]
  ·rcases oneOf p hp with e | hp
   ·rw [e]; exact ⟨Ne.symm (oD (C, oC) (.tail _ (.head _))), Ne.symm (oD (D, lst ys) (.tail _ (.tail _ (.head _))))⟩
   ·exact offm p hp
  ·rcases oneOf p hp with e | hp
   ·rw [e]; exact Ne.symm (oD (J, oJ) (.head _))
   ·exact ajm p hp
  ·refine ⟨?_, ⟨fun p hp => .tail _ (hT2.sub p hp), fun p hp => ⟨Ne.symm (oD p (inP p (List.mem_append_left _ hp))), hT2.ne p hp⟩⟩, nI⟩
   have e : (gr.take (j + 1)).map (weaveI a) = (gr.take j).map (weaveI a) ++ [weaveI a gr[j]] := by rw [List.take_add_one, List.getElem?_eq_getElem hj, List.map_append]; rfl
   rw [e, ← List.append_assoc]
   exact hL2.snoc hi9
 ·intro ys q' h
  obtain ⟨h1, h2, _⟩ := h
  rw [LR.1, List.take_length] at h1
  refine ⟨?_, h2⟩
  have e : gl.take (i + 1) = gl.take i ++ [a] := tk_succ hk
  rw [e, wov_snoc]
  exact h1
end
theorem smallG_of {ns : List Int} : smallG [mvsOf ns 0, mvsOf ns (0 + 1), mvsOf ns (0 + 2)] ∧ smallG [mvsOf ns 3, mvsOf ns (3 + 1), mvsOf ns (3 + 2)] := by
 have key : ∀ i, i < 6 → (mvsOf ns i).length ≤ 20 ∧ ∀ x ∈ mvsOf ns i, 0 ≤ x ∧ x ≤ 7 := fun i hi => ⟨by have := mvs_len ns i hi; kaf_pre, fun x hx => by have := mvs_ok ns i hi x hx; kaf_pre⟩
 refine ⟨fun g hg => ?_, fun g hg => ?_⟩
 ·simp only [List.mem_cons, List.not_mem_nil, or_false] at hg
  rcases hg with rfl | rfl | rfl
  ·exact key 0 (by decide)
  ·exact key 1 (by decide)
  ·exact key 2 (by decide)
 ·simp only [List.mem_cons, List.not_mem_nil, or_false] at hg
  rcases hg with rfl | rfl | rfl
  ·exact key 3 (by decide)
  ·exact key 4 (by decide)
  ·exact key 5 (by decide)
inductive KeepR (dn : List (Addr × Obj)) : List (Addr × Obj) → List (Addr × Obj) → Prop
 | base : KeepR dn dn dn
 | keep {p a b} : AllNe p.1 dn → KeepR dn a b → KeepR dn (p :: a) (p :: b)
 | keepT {ps c o a b} : TS 61 51 4 qD ps c o → AllNe c dn → KeepR dn a b → KeepR dn ((c, o) :: a) ((c, o) :: b)
 | drop {p a b} : KeepR dn a b → KeepR dn a (p :: b)
theorem KeepR.mem {dn a b : List (Addr × Obj)} (h : KeepR dn a b) : ∀ p ∈ a, p ∈ b := by
 induction h with
 | base => exact fun _ h => h
 | keep _ _ ih => exact fun p hp => (List.mem_cons.mp hp).elim (fun e => e ▸ List.mem_cons_self ..) (fun hp => .tail _ (ih p hp))
 | keepT _ _ _ ih => exact fun p hp => (List.mem_cons.mp hp).elim (fun e => e ▸ List.mem_cons_self ..) (fun hp => .tail _ (ih p hp))
 | drop _ ih => exact fun p hp => .tail _ (ih p hp)
theorem keep_news {h₀ h : Heap} {L : Addr} {dn a b : List (Addr × Obj)} {ys : List Value} {ns : List Int} {g1 g2 : List Int} (_LR : ListsAt dn ys [mvsOf ns 3, g1, g2]) (N : News h₀ L h b) (K : KeepR dn a b) : News h₀ L h a := fun p hp => N p (K.mem p hp)
theorem allLt_ne {a : Addr} : ∀ {l : List (Addr × Obj)}, AllLt a l → AllNe a l
 | [], _ => trivial
 | _ :: _, h => ⟨Nat.ne_of_lt h.1, allLt_ne h.2⟩
inductive KeepR2 (dn : List (Addr × Obj)) : List (Addr × Obj) → List (Addr × Obj) → Prop
 | base : KeepR2 dn [] dn
 | keep {p a b} : AllNe p.1 dn → KeepR2 dn a b → KeepR2 dn (p :: a) (p :: b)
 | drop {p a b} : KeepR2 dn a b → KeepR2 dn a (p :: b)
theorem KeepR2.mem {dn a b : List (Addr × Obj)} (h : KeepR2 dn a b) : ∀ p ∈ a ++ dn, p ∈ b := by
 induction h with
 | base => exact fun _ h => h
 | keep _ _ ih => exact fun p hp => (List.mem_cons.mp hp).elim (fun e => e ▸ List.mem_cons_self ..) (fun hp => .tail _ (ih p hp))
 | drop _ ih => exact fun p hp => .tail _ (ih p hp)
theorem KeepR2.ne {dn a b : List (Addr × Obj)} (h : KeepR2 dn a b) : ∀ p ∈ a, AllNe p.1 dn := by
 induction h with
 | base => exact fun _ h => nomatch h
 | keep hn _ ih => exact fun p hp => (List.mem_cons.mp hp).elim (fun e => e ▸ hn) (fun hp => ih p hp)
 | drop _ ih => exact ih
theorem keep_cont {G : Prop} {h₀ h : Heap} {L : Addr} {dn pre b : List (Addr × Obj)} {ys : List Value} {ns : List Int} {g1 g2 : List Int} (_LR : ListsAt dn ys [mvsOf ns 3, g1, g2]) (N : News h₀ L h b) (K : KeepR2 dn pre b) (k : News h₀ L h (pre ++ dn) → (∀ p ∈ pre, AllNe p.1 dn) → G) : G :=
 k (fun p hp => N p (K.mem p hp)) K.ne
theorem keepTS {dn a b : List (Addr × Obj)} {ps : Array Value} {c : Addr} {o : Obj} (_h : TS 61 51 4 qD ps c o) (hn : AllNe c dn) (k : KeepR2 dn a b) : KeepR2 dn ((c, o) :: a) ((c, o) :: b) := .keep hn k
end Mine
end
section
namespace Mine
def leave (a v w b : Int) : Int := Builtin.bitXor (Builtin.bitXor (nimP a v) (nimP w b)) (nimP a b)
abbrev Q4 : List Int := [0, 1, 2, 3]
theorem leave_ne : ∀ w ∈ Q4, ∀ v ∈ Q4, ∀ a ∈ Q4, ∀ b ∈ Q4, a ≠ w → b ≠ v → leave a v w b ≠ nimP w v := by unfold leave; decide +kernel
theorem leave_all : ∀ w ∈ Q4, ∀ v ∈ Q4, ∀ k ∈ Q4, k < nimP w v → ∃ a ∈ Q4, a < w ∧ ∃ b ∈ Q4, b < v ∧ leave a v w b = k := by unfold leave; decide +kernel
theorem nim_q4 : ∀ w ∈ Q4, ∀ v ∈ Q4, nimP w v ∈ Q4 := by decide +kernel
theorem xor_q4 : ∀ w ∈ Q4, ∀ v ∈ Q4, Builtin.bitXor w v ∈ Q4 := by decide +kernel
theorem nim_add_l : ∀ a ∈ Q4, ∀ b ∈ Q4, ∀ c ∈ Q4, nimP (Builtin.bitXor a b) c = Builtin.bitXor (nimP a c) (nimP b c) := by decide +kernel
theorem nim_add_r : ∀ a ∈ Q4, ∀ b ∈ Q4, ∀ c ∈ Q4, nimP c (Builtin.bitXor a b) = Builtin.bitXor (nimP c a) (nimP c b) := by decide +kernel
theorem q4_iff {x : Int} : x ∈ Q4 ↔ 0 ≤ x ∧ x ≤ 3 := ⟨fun h => (by decide : ∀ x ∈ Q4, 0 ≤ x ∧ x ≤ 3) x h, m4⟩
theorem rowOf_mem {ws : List Int} : ∀ {ms : List Int} {x : Int}, x ∈ rowOf ws ms ↔ ∃ m ∈ ms, x = over ws m := by
 intro ms x
 unfold rowOf
 suffices h : ∀ (ms r : List Int), x ∈ ms.foldl (fun r m => ins r (over ws m)) r ↔ x ∈ r ∨ ∃ m ∈ ms, x = over ws m by simpa using h ms []
 intro ms
 induction ms with
 | nil => intro r; simp
 | cons m ms ih =>
  intro r
  simp only [List.foldl_cons, ih, ins_mem, List.mem_cons, exists_eq_or_imp]
  constructor
  ·rintro ((h | h) | h) <;> simp [h]
  ·rintro (h | h | h) <;> simp [h]
theorem mexFrom_eq : ∀ {row : List Int} {i w : Int}, row.Pairwise (· < ·) → (∀ x ∈ row, i ≤ x) → i ≤ w → (∀ k, i ≤ k → k < w → k ∈ row) → w ∉ row → mexFrom i row = w
 | [], i, w, _, _, hi, hall, _ => by
  rcases Int.lt_or_eq_of_le hi with h | h
  ·exact absurd (hall i (Int.le_refl _) h) (by simp)
  ·exact h
 | a :: r, i, w, hs, hge, hi, hall, hno => by
  have h1 := List.pairwise_cons.mp hs
  have ha := hge a (.head _)
  simp only [mexFrom]
  split
  ·next h =>
   rcases Int.lt_or_eq_of_le hi with h2 | h2
   ·have := hall i (Int.le_refl _) h2
    rcases List.mem_cons.mp this with e | hm
    ·kaf_pre
    ·have := h1.1 i hm; kaf_pre
   ·exact h2
  ·next h =>
   have e : a = i := by kaf_pre
   subst e
   have hw : a ≠ w := fun q => hno (by rw [q]; exact .head _)
   refine mexFrom_eq h1.2 (fun x hx => by have := h1.1 x hx; kaf_pre) (by kaf_pre) (fun k hk hkw => ?_) (fun hm => hno (.tail _ hm))
   rcases List.mem_cons.mp (hall k (by kaf_pre) hkw) with q | q
   ·kaf_pre
   ·exact q
theorem mex_eq {ws ms : List Int} {w : Int} (h0 : ∀ m ∈ ms, 0 ≤ over ws m) (hw : 0 ≤ w) (hall : ∀ k, 0 ≤ k → k < w → ∃ m ∈ ms, k = over ws m) (hno : ∀ m ∈ ms, over ws m ≠ w) : mex (rowOf ws ms) = w :=
 mexFrom_eq (rowOf_sorted ws ms) (fun x hx => by obtain ⟨m, hm, e⟩ := rowOf_mem.mp hx; rw [e]; exact h0 m hm) hw (fun k h1 h2 => rowOf_mem.mpr (hall k h1 h2)) (fun hm => by
  obtain ⟨m, hm', e⟩ := rowOf_mem.mp hm
  exact hno m hm' e.symm)
theorem mexFrom_spec : ∀ {row : List Int} {i : Int}, row.Pairwise (· < ·) → (∀ x ∈ row, i ≤ x) → i ≤ mexFrom i row ∧ (∀ k, i ≤ k → k < mexFrom i row → k ∈ row) ∧ mexFrom i row ∉ row
 | [], i, _, _ => ⟨Int.le_refl _, fun k h1 h2 => by simp [mexFrom] at h2; kaf_pre, by simp [mexFrom]⟩
 | a :: r, i, hs, hge => by
  have h1 := List.pairwise_cons.mp hs
  have ha := hge a (.head _)
  simp only [mexFrom]
  split
  ·next h =>
   refine ⟨Int.le_refl _, fun k h2 h3 => by kaf_pre, fun hm => ?_⟩
   rcases List.mem_cons.mp hm with e | hm
   ·kaf_pre
   ·have := h1.1 i hm; kaf_pre
  ·next h =>
   have e : a = i := by kaf_pre
   subst e
   have ih := mexFrom_spec (i := a + 1) h1.2 (fun x hx => by have := h1.1 x hx; kaf_pre)
   refine ⟨by kaf_pre, fun k h2 h3 => ?_, fun hm => ?_⟩
   ·rcases Int.lt_or_eq_of_le h2 with q | q
    ·exact .tail _ (ih.2.1 k (by kaf_pre) h3)
    ·rw [← q]; exact .head _
   ·rcases List.mem_cons.mp hm with q | q
    ·kaf_pre
    ·exact ih.2.2 q
theorem mex_spec {ws ms : List Int} (h0 : ∀ m ∈ ms, 0 ≤ over ws m) : 0 ≤ mex (rowOf ws ms) ∧ (∀ k, 0 ≤ k → k < mex (rowOf ws ms) → ∃ m ∈ ms, k = over ws m) ∧ ∀ m ∈ ms, over ws m ≠ mex (rowOf ws ms) := by
 have h := mexFrom_spec (rowOf_sorted ws ms) (i := 0) (fun x hx => by obtain ⟨m, hm, e⟩ := rowOf_mem.mp hx; rw [e]; exact h0 m hm)
 exact ⟨h.1, fun k h1 h2 => rowOf_mem.mp (h.2.1 k h1 h2), fun m hm e => h.2.2 (rowOf_mem.mpr ⟨m, hm, e.symm⟩)⟩
end Mine
end
section
namespace Mine
abbrev Q2 : List Int := [0, 1]
abbrev Q3 : List Int := [0, 1, 2]
theorem fin_1_1 : ∀ u0 ∈ Q2, ∀ v0 ∈ Q2, 0 = leave (0) v0 u0 (0) := by unfold leave; decide +kernel
section
variable (u0 v0 : Int) (hu0 : u0 ∈ Q2) (hv0 : v0 ∈ Q2)
include hu0 hv0
theorem ov_1_1 : over [] (spread1 1 * 1) = leave (over [] 1) v0 u0 (over [] 1) :=
 Eq.trans (by kernel_rfl) ((fin_1_1 u0 hu0 v0 hv0).trans (by kernel_rfl))
end
theorem fin_1_2 : ∀ u0 ∈ Q2, ∀ v0 ∈ Q2, ∀ v1 ∈ Q3, 0 = leave (0) v1 u0 (0) := by unfold leave; decide +kernel
theorem fin_1_3 : ∀ u0 ∈ Q2, ∀ v0 ∈ Q2, ∀ v1 ∈ Q3, Builtin.bitXor (0) (nimP u0 v0) = leave (0) v1 u0 (Builtin.bitXor (0) (v0)) := by unfold leave; decide +kernel
section
variable (u0 v0 v1 : Int) (hu0 : u0 ∈ Q2) (hv0 : v0 ∈ Q2) (hv1 : v1 ∈ Q3)
include hu0 hv0 hv1
theorem ov_1_2 : over [nimP u0 v0] (spread1 1 * 2) = leave (over [] 1) v1 u0 (over [v0] 2) :=
 Eq.trans (by kernel_rfl) ((fin_1_2 u0 hu0 v0 hv0 v1 hv1).trans (by kernel_rfl))
theorem ov_1_3 : over [nimP u0 v0] (spread1 1 * 3) = leave (over [] 1) v1 u0 (over [v0] 3) :=
 Eq.trans (by kernel_rfl) ((fin_1_3 u0 hu0 v0 hv0 v1 hv1).trans (by kernel_rfl))
end
theorem fin_1_4 : ∀ u0 ∈ Q2, ∀ v0 ∈ Q2, ∀ v1 ∈ Q3, ∀ v2 ∈ Q4, 0 = leave (0) v2 u0 (0) := by unfold leave; decide +kernel
theorem fin_1_5 : ∀ u0 ∈ Q2, ∀ v0 ∈ Q2, ∀ v1 ∈ Q3, ∀ v2 ∈ Q4, Builtin.bitXor (0) (nimP u0 v0) = leave (0) v2 u0 (Builtin.bitXor (0) (v0)) := by unfold leave; decide +kernel
theorem fin_1_6 : ∀ u0 ∈ Q2, ∀ v0 ∈ Q2, ∀ v1 ∈ Q3, ∀ v2 ∈ Q4, Builtin.bitXor (0) (nimP u0 v1) = leave (0) v2 u0 (Builtin.bitXor (0) (v1)) := by unfold leave; decide +kernel
theorem fin_1_7 : ∀ u0 ∈ Q2, ∀ v0 ∈ Q2, ∀ v1 ∈ Q3, ∀ v2 ∈ Q4, Builtin.bitXor (Builtin.bitXor (0) (nimP u0 v0)) (nimP u0 v1) = leave (0) v2 u0 (Builtin.bitXor (Builtin.bitXor (0) (v0)) (v1)) := by unfold leave; decide +kernel
section
variable (u0 v0 v1 v2 : Int) (hu0 : u0 ∈ Q2) (hv0 : v0 ∈ Q2) (hv1 : v1 ∈ Q3) (hv2 : v2 ∈ Q4)
include hu0 hv0 hv1 hv2
theorem ov_1_4 : over [nimP u0 v0, nimP u0 v1] (spread1 1 * 4) = leave (over [] 1) v2 u0 (over [v0, v1] 4) :=
 Eq.trans (by kernel_rfl) ((fin_1_4 u0 hu0 v0 hv0 v1 hv1 v2 hv2).trans (by kernel_rfl))
theorem ov_1_5 : over [nimP u0 v0, nimP u0 v1] (spread1 1 * 5) = leave (over [] 1) v2 u0 (over [v0, v1] 5) :=
 Eq.trans (by kernel_rfl) ((fin_1_5 u0 hu0 v0 hv0 v1 hv1 v2 hv2).trans (by kernel_rfl))
theorem ov_1_6 : over [nimP u0 v0, nimP u0 v1] (spread1 1 * 6) = leave (over [] 1) v2 u0 (over [v0, v1] 6) :=
 Eq.trans (by kernel_rfl) ((fin_1_6 u0 hu0 v0 hv0 v1 hv1 v2 hv2).trans (by kernel_rfl))
theorem ov_1_7 : over [nimP u0 v0, nimP u0 v1] (spread1 1 * 7) = leave (over [] 1) v2 u0 (over [v0, v1] 7) :=
 Eq.trans (by kernel_rfl) ((fin_1_7 u0 hu0 v0 hv0 v1 hv1 v2 hv2).trans (by kernel_rfl))
end
theorem fin_2_1 : ∀ u0 ∈ Q2, ∀ u1 ∈ Q3, ∀ v0 ∈ Q2, 0 = leave (0) v0 u1 (0) := by unfold leave; decide +kernel
theorem fin_3_1 : ∀ u0 ∈ Q2, ∀ u1 ∈ Q3, ∀ v0 ∈ Q2, Builtin.bitXor (0) (nimP u0 v0) = leave (Builtin.bitXor (0) (u0)) v0 u1 (0) := by unfold leave; decide +kernel
section
variable (x1 x2 : Int) (u0 u1 v0 : Int) (hu0 : u0 ∈ Q2) (hu1 : u1 ∈ Q3) (hv0 : v0 ∈ Q2)
include hu0 hu1 hv0
theorem ov_2_1 : over [nimP u0 v0, x1, x2] (spread1 2 * 1) = leave (over [u0] 2) v0 u1 (over [] 1) :=
 Eq.trans (by kernel_rfl) ((fin_2_1 u0 hu0 u1 hu1 v0 hv0).trans (by kernel_rfl))
theorem ov_3_1 : over [nimP u0 v0, x1, x2] (spread1 3 * 1) = leave (over [u0] 3) v0 u1 (over [] 1) :=
 Eq.trans (by kernel_rfl) ((fin_3_1 u0 hu0 u1 hu1 v0 hv0).trans (by kernel_rfl))
end
theorem fin_2_2 : ∀ u0 ∈ Q2, ∀ u1 ∈ Q3, ∀ v0 ∈ Q2, ∀ v1 ∈ Q3, 0 = leave (0) v1 u1 (0) := by unfold leave; decide +kernel
theorem fin_2_3 : ∀ u0 ∈ Q2, ∀ u1 ∈ Q3, ∀ v0 ∈ Q2, ∀ v1 ∈ Q3, Builtin.bitXor (0) (nimP u1 v0) = leave (0) v1 u1 (Builtin.bitXor (0) (v0)) := by unfold leave; decide +kernel
theorem fin_3_2 : ∀ u0 ∈ Q2, ∀ u1 ∈ Q3, ∀ v0 ∈ Q2, ∀ v1 ∈ Q3, Builtin.bitXor (0) (nimP u0 v1) = leave (Builtin.bitXor (0) (u0)) v1 u1 (0) := by unfold leave; decide +kernel
theorem fin_3_3 : ∀ u0 ∈ Q2, ∀ u1 ∈ Q3, ∀ v0 ∈ Q2, ∀ v1 ∈ Q3, Builtin.bitXor (Builtin.bitXor (Builtin.bitXor (0) (nimP u0 v0)) (nimP u0 v1)) (nimP u1 v0) = leave (Builtin.bitXor (0) (u0)) v1 u1 (Builtin.bitXor (0) (v0)) := by unfold leave; decide +kernel
section
variable (x0 : Int) (u0 u1 v0 v1 : Int) (hu0 : u0 ∈ Q2) (hu1 : u1 ∈ Q3) (hv0 : v0 ∈ Q2) (hv1 : v1 ∈ Q3)
include hu0 hu1 hv0 hv1
theorem ov_2_2 : over [nimP u0 v0, nimP u0 v1, x0, nimP u1 v0] (spread1 2 * 2) = leave (over [u0] 2) v1 u1 (over [v0] 2) :=
 Eq.trans (by kernel_rfl) ((fin_2_2 u0 hu0 u1 hu1 v0 hv0 v1 hv1).trans (by kernel_rfl))
theorem ov_2_3 : over [nimP u0 v0, nimP u0 v1, x0, nimP u1 v0] (spread1 2 * 3) = leave (over [u0] 2) v1 u1 (over [v0] 3) :=
 Eq.trans (by kernel_rfl) ((fin_2_3 u0 hu0 u1 hu1 v0 hv0 v1 hv1).trans (by kernel_rfl))
theorem ov_3_2 : over [nimP u0 v0, nimP u0 v1, x0, nimP u1 v0] (spread1 3 * 2) = leave (over [u0] 3) v1 u1 (over [v0] 2) :=
 Eq.trans (by kernel_rfl) ((fin_3_2 u0 hu0 u1 hu1 v0 hv0 v1 hv1).trans (by kernel_rfl))
theorem ov_3_3 : over [nimP u0 v0, nimP u0 v1, x0, nimP u1 v0] (spread1 3 * 3) = leave (over [u0] 3) v1 u1 (over [v0] 3) :=
 Eq.trans (by kernel_rfl) ((fin_3_3 u0 hu0 u1 hu1 v0 hv0 v1 hv1).trans (by kernel_rfl))
end
theorem fin_2_4 : ∀ u0 ∈ Q2, ∀ u1 ∈ Q3, ∀ v0 ∈ Q2, ∀ v1 ∈ Q3, ∀ v2 ∈ Q4, 0 = leave (0) v2 u1 (0) := by unfold leave; decide +kernel
theorem fin_2_5 : ∀ u0 ∈ Q2, ∀ u1 ∈ Q3, ∀ v0 ∈ Q2, ∀ v1 ∈ Q3, ∀ v2 ∈ Q4, Builtin.bitXor (0) (nimP u1 v0) = leave (0) v2 u1 (Builtin.bitXor (0) (v0)) := by unfold leave; decide +kernel
theorem fin_2_6 : ∀ u0 ∈ Q2, ∀ u1 ∈ Q3, ∀ v0 ∈ Q2, ∀ v1 ∈ Q3, ∀ v2 ∈ Q4, Builtin.bitXor (0) (nimP u1 v1) = leave (0) v2 u1 (Builtin.bitXor (0) (v1)) := by unfold leave; decide +kernel
theorem fin_2_7 : ∀ u0 ∈ Q2, ∀ u1 ∈ Q3, ∀ v0 ∈ Q2, ∀ v1 ∈ Q3, ∀ v2 ∈ Q4, Builtin.bitXor (Builtin.bitXor (0) (nimP u1 v0)) (nimP u1 v1) = leave (0) v2 u1 (Builtin.bitXor (Builtin.bitXor (0) (v0)) (v1)) := by unfold leave; decide +kernel
theorem fin_3_4 : ∀ u0 ∈ Q2, ∀ u1 ∈ Q3, ∀ v0 ∈ Q2, ∀ v1 ∈ Q3, ∀ v2 ∈ Q4, Builtin.bitXor (0) (nimP u0 v2) = leave (Builtin.bitXor (0) (u0)) v2 u1 (0) := by unfold leave; decide +kernel
theorem fin_3_5 : ∀ u0 ∈ Q2, ∀ u1 ∈ Q3, ∀ v0 ∈ Q2, ∀ v1 ∈ Q3, ∀ v2 ∈ Q4, Builtin.bitXor (Builtin.bitXor (Builtin.bitXor (0) (nimP u0 v0)) (nimP u0 v2)) (nimP u1 v0) = leave (Builtin.bitXor (0) (u0)) v2 u1 (Builtin.bitXor (0) (v0)) := by unfold leave; decide +kernel
theorem fin_3_6 : ∀ u0 ∈ Q2, ∀ u1 ∈ Q3, ∀ v0 ∈ Q2, ∀ v1 ∈ Q3, ∀ v2 ∈ Q4, Builtin.bitXor (Builtin.bitXor (Builtin.bitXor (0) (nimP u0 v1)) (nimP u0 v2)) (nimP u1 v1) = leave (Builtin.bitXor (0) (u0)) v2 u1 (Builtin.bitXor (0) (v1)) := by unfold leave; decide +kernel
theorem fin_3_7 : ∀ u0 ∈ Q2, ∀ u1 ∈ Q3, ∀ v0 ∈ Q2, ∀ v1 ∈ Q3, ∀ v2 ∈ Q4, Builtin.bitXor (Builtin.bitXor (Builtin.bitXor (Builtin.bitXor (Builtin.bitXor (0) (nimP u0 v0)) (nimP u0 v1)) (nimP u0 v2)) (nimP u1 v0)) (nimP u1 v1) = leave (Builtin.bitXor (0) (u0)) v2 u1 (Builtin.bitXor (Builtin.bitXor (0) (v0)) (v1)) := by unfold leave; decide +kernel
section
variable (u0 u1 v0 v1 v2 : Int) (hu0 : u0 ∈ Q2) (hu1 : u1 ∈ Q3) (hv0 : v0 ∈ Q2) (hv1 : v1 ∈ Q3) (hv2 : v2 ∈ Q4)
include hu0 hu1 hv0 hv1 hv2
theorem ov_2_4 : over [nimP u0 v0, nimP u0 v1, nimP u0 v2, nimP u1 v0, nimP u1 v1] (spread1 2 * 4) = leave (over [u0] 2) v2 u1 (over [v0, v1] 4) :=
 Eq.trans (by kernel_rfl) ((fin_2_4 u0 hu0 u1 hu1 v0 hv0 v1 hv1 v2 hv2).trans (by kernel_rfl))
theorem ov_2_5 : over [nimP u0 v0, nimP u0 v1, nimP u0 v2, nimP u1 v0, nimP u1 v1] (spread1 2 * 5) = leave (over [u0] 2) v2 u1 (over [v0, v1] 5) :=
 Eq.trans (by kernel_rfl) ((fin_2_5 u0 hu0 u1 hu1 v0 hv0 v1 hv1 v2 hv2).trans (by kernel_rfl))
theorem ov_2_6 : over [nimP u0 v0, nimP u0 v1, nimP u0 v2, nimP u1 v0, nimP u1 v1] (spread1 2 * 6) = leave (over [u0] 2) v2 u1 (over [v0, v1] 6) :=
 Eq.trans (by kernel_rfl) ((fin_2_6 u0 hu0 u1 hu1 v0 hv0 v1 hv1 v2 hv2).trans (by kernel_rfl))
theorem ov_2_7 : over [nimP u0 v0, nimP u0 v1, nimP u0 v2, nimP u1 v0, nimP u1 v1] (spread1 2 * 7) = leave (over [u0] 2) v2 u1 (over [v0, v1] 7) :=
 Eq.trans (by kernel_rfl) ((fin_2_7 u0 hu0 u1 hu1 v0 hv0 v1 hv1 v2 hv2).trans (by kernel_rfl))
theorem ov_3_4 : over [nimP u0 v0, nimP u0 v1, nimP u0 v2, nimP u1 v0, nimP u1 v1] (spread1 3 * 4) = leave (over [u0] 3) v2 u1 (over [v0, v1] 4) :=
 Eq.trans (by kernel_rfl) ((fin_3_4 u0 hu0 u1 hu1 v0 hv0 v1 hv1 v2 hv2).trans (by kernel_rfl))
theorem ov_3_5 : over [nimP u0 v0, nimP u0 v1, nimP u0 v2, nimP u1 v0, nimP u1 v1] (spread1 3 * 5) = leave (over [u0] 3) v2 u1 (over [v0, v1] 5) :=
 Eq.trans (by kernel_rfl) ((fin_3_5 u0 hu0 u1 hu1 v0 hv0 v1 hv1 v2 hv2).trans (by kernel_rfl))
theorem ov_3_6 : over [nimP u0 v0, nimP u0 v1, nimP u0 v2, nimP u1 v0, nimP u1 v1] (spread1 3 * 6) = leave (over [u0] 3) v2 u1 (over [v0, v1] 6) :=
 Eq.trans (by kernel_rfl) ((fin_3_6 u0 hu0 u1 hu1 v0 hv0 v1 hv1 v2 hv2).trans (by kernel_rfl))
theorem ov_3_7 : over [nimP u0 v0, nimP u0 v1, nimP u0 v2, nimP u1 v0, nimP u1 v1] (spread1 3 * 7) = leave (over [u0] 3) v2 u1 (over [v0, v1] 7) :=
 Eq.trans (by kernel_rfl) ((fin_3_7 u0 hu0 u1 hu1 v0 hv0 v1 hv1 v2 hv2).trans (by kernel_rfl))
end
theorem fin_4_1 : ∀ u0 ∈ Q2, ∀ u1 ∈ Q3, ∀ u2 ∈ Q4, ∀ v0 ∈ Q2, 0 = leave (0) v0 u2 (0) := by unfold leave; decide +kernel
theorem fin_5_1 : ∀ u0 ∈ Q2, ∀ u1 ∈ Q3, ∀ u2 ∈ Q4, ∀ v0 ∈ Q2, Builtin.bitXor (0) (nimP u0 v0) = leave (Builtin.bitXor (0) (u0)) v0 u2 (0) := by unfold leave; decide +kernel
theorem fin_6_1 : ∀ u0 ∈ Q2, ∀ u1 ∈ Q3, ∀ u2 ∈ Q4, ∀ v0 ∈ Q2, Builtin.bitXor (0) (nimP u1 v0) = leave (Builtin.bitXor (0) (u1)) v0 u2 (0) := by unfold leave; decide +kernel
theorem fin_7_1 : ∀ u0 ∈ Q2, ∀ u1 ∈ Q3, ∀ u2 ∈ Q4, ∀ v0 ∈ Q2, Builtin.bitXor (Builtin.bitXor (0) (nimP u0 v0)) (nimP u1 v0) = leave (Builtin.bitXor (Builtin.bitXor (0) (u0)) (u1)) v0 u2 (0) := by unfold leave; decide +kernel
section
variable (x1 x2 x4 x5 : Int) (u0 u1 u2 v0 : Int) (hu0 : u0 ∈ Q2) (hu1 : u1 ∈ Q3) (hu2 : u2 ∈ Q4) (hv0 : v0 ∈ Q2)
include hu0 hu1 hu2 hv0
theorem ov_4_1 : over [nimP u0 v0, x1, x2, nimP u1 v0, x4, x5] (spread1 4 * 1) = leave (over [u0, u1] 4) v0 u2 (over [] 1) :=
 Eq.trans (by kernel_rfl) ((fin_4_1 u0 hu0 u1 hu1 u2 hu2 v0 hv0).trans (by kernel_rfl))
theorem ov_5_1 : over [nimP u0 v0, x1, x2, nimP u1 v0, x4, x5] (spread1 5 * 1) = leave (over [u0, u1] 5) v0 u2 (over [] 1) :=
 Eq.trans (by kernel_rfl) ((fin_5_1 u0 hu0 u1 hu1 u2 hu2 v0 hv0).trans (by kernel_rfl))
theorem ov_6_1 : over [nimP u0 v0, x1, x2, nimP u1 v0, x4, x5] (spread1 6 * 1) = leave (over [u0, u1] 6) v0 u2 (over [] 1) :=
 Eq.trans (by kernel_rfl) ((fin_6_1 u0 hu0 u1 hu1 u2 hu2 v0 hv0).trans (by kernel_rfl))
theorem ov_7_1 : over [nimP u0 v0, x1, x2, nimP u1 v0, x4, x5] (spread1 7 * 1) = leave (over [u0, u1] 7) v0 u2 (over [] 1) :=
 Eq.trans (by kernel_rfl) ((fin_7_1 u0 hu0 u1 hu1 u2 hu2 v0 hv0).trans (by kernel_rfl))
end
theorem fin_4_2 : ∀ u0 ∈ Q2, ∀ u1 ∈ Q3, ∀ u2 ∈ Q4, ∀ v0 ∈ Q2, ∀ v1 ∈ Q3, 0 = leave (0) v1 u2 (0) := by unfold leave; decide +kernel
theorem fin_4_3 : ∀ u0 ∈ Q2, ∀ u1 ∈ Q3, ∀ u2 ∈ Q4, ∀ v0 ∈ Q2, ∀ v1 ∈ Q3, Builtin.bitXor (0) (nimP u2 v0) = leave (0) v1 u2 (Builtin.bitXor (0) (v0)) := by unfold leave; decide +kernel
theorem fin_5_2 : ∀ u0 ∈ Q2, ∀ u1 ∈ Q3, ∀ u2 ∈ Q4, ∀ v0 ∈ Q2, ∀ v1 ∈ Q3, Builtin.bitXor (0) (nimP u0 v1) = leave (Builtin.bitXor (0) (u0)) v1 u2 (0) := by unfold leave; decide +kernel
theorem fin_5_3 : ∀ u0 ∈ Q2, ∀ u1 ∈ Q3, ∀ u2 ∈ Q4, ∀ v0 ∈ Q2, ∀ v1 ∈ Q3, Builtin.bitXor (Builtin.bitXor (Builtin.bitXor (0) (nimP u0 v0)) (nimP u0 v1)) (nimP u2 v0) = leave (Builtin.bitXor (0) (u0)) v1 u2 (Builtin.bitXor (0) (v0)) := by unfold leave; decide +kernel
theorem fin_6_2 : ∀ u0 ∈ Q2, ∀ u1 ∈ Q3, ∀ u2 ∈ Q4, ∀ v0 ∈ Q2, ∀ v1 ∈ Q3, Builtin.bitXor (0) (nimP u1 v1) = leave (Builtin.bitXor (0) (u1)) v1 u2 (0) := by unfold leave; decide +kernel
theorem fin_6_3 : ∀ u0 ∈ Q2, ∀ u1 ∈ Q3, ∀ u2 ∈ Q4, ∀ v0 ∈ Q2, ∀ v1 ∈ Q3, Builtin.bitXor (Builtin.bitXor (Builtin.bitXor (0) (nimP u1 v0)) (nimP u1 v1)) (nimP u2 v0) = leave (Builtin.bitXor (0) (u1)) v1 u2 (Builtin.bitXor (0) (v0)) := by unfold leave; decide +kernel
theorem fin_7_2 : ∀ u0 ∈ Q2, ∀ u1 ∈ Q3, ∀ u2 ∈ Q4, ∀ v0 ∈ Q2, ∀ v1 ∈ Q3, Builtin.bitXor (Builtin.bitXor (0) (nimP u0 v1)) (nimP u1 v1) = leave (Builtin.bitXor (Builtin.bitXor (0) (u0)) (u1)) v1 u2 (0) := by unfold leave; decide +kernel
theorem fin_7_3 : ∀ u0 ∈ Q2, ∀ u1 ∈ Q3, ∀ u2 ∈ Q4, ∀ v0 ∈ Q2, ∀ v1 ∈ Q3, Builtin.bitXor (Builtin.bitXor (Builtin.bitXor (Builtin.bitXor (Builtin.bitXor (0) (nimP u0 v0)) (nimP u0 v1)) (nimP u1 v0)) (nimP u1 v1)) (nimP u2 v0) = leave (Builtin.bitXor (Builtin.bitXor (0) (u0)) (u1)) v1 u2 (Builtin.bitXor (0) (v0)) := by unfold leave; decide +kernel
section
variable (x0 x1 : Int) (u0 u1 u2 v0 v1 : Int) (hu0 : u0 ∈ Q2) (hu1 : u1 ∈ Q3) (hu2 : u2 ∈ Q4) (hv0 : v0 ∈ Q2) (hv1 : v1 ∈ Q3)
include hu0 hu1 hu2 hv0 hv1
theorem ov_4_2 : over [nimP u0 v0, nimP u0 v1, x0, nimP u1 v0, nimP u1 v1, x1, nimP u2 v0] (spread1 4 * 2) = leave (over [u0, u1] 4) v1 u2 (over [v0] 2) :=
 Eq.trans (by kernel_rfl) ((fin_4_2 u0 hu0 u1 hu1 u2 hu2 v0 hv0 v1 hv1).trans (by kernel_rfl))
theorem ov_4_3 : over [nimP u0 v0, nimP u0 v1, x0, nimP u1 v0, nimP u1 v1, x1, nimP u2 v0] (spread1 4 * 3) = leave (over [u0, u1] 4) v1 u2 (over [v0] 3) :=
 Eq.trans (by kernel_rfl) ((fin_4_3 u0 hu0 u1 hu1 u2 hu2 v0 hv0 v1 hv1).trans (by kernel_rfl))
theorem ov_5_2 : over [nimP u0 v0, nimP u0 v1, x0, nimP u1 v0, nimP u1 v1, x1, nimP u2 v0] (spread1 5 * 2) = leave (over [u0, u1] 5) v1 u2 (over [v0] 2) :=
 Eq.trans (by kernel_rfl) ((fin_5_2 u0 hu0 u1 hu1 u2 hu2 v0 hv0 v1 hv1).trans (by kernel_rfl))
theorem ov_5_3 : over [nimP u0 v0, nimP u0 v1, x0, nimP u1 v0, nimP u1 v1, x1, nimP u2 v0] (spread1 5 * 3) = leave (over [u0, u1] 5) v1 u2 (over [v0] 3) :=
 Eq.trans (by kernel_rfl) ((fin_5_3 u0 hu0 u1 hu1 u2 hu2 v0 hv0 v1 hv1).trans (by kernel_rfl))
theorem ov_6_2 : over [nimP u0 v0, nimP u0 v1, x0, nimP u1 v0, nimP u1 v1, x1, nimP u2 v0] (spread1 6 * 2) = leave (over [u0, u1] 6) v1 u2 (over [v0] 2) :=
 Eq.trans (by kernel_rfl) ((fin_6_2 u0 hu0 u1 hu1 u2 hu2 v0 hv0 v1 hv1).trans (by kernel_rfl))
theorem ov_6_3 : over [nimP u0 v0, nimP u0 v1, x0, nimP u1 v0, nimP u1 v1, x1, nimP u2 v0] (spread1 6 * 3) = leave (over [u0, u1] 6) v1 u2 (over [v0] 3) :=
 Eq.trans (by kernel_rfl) ((fin_6_3 u0 hu0 u1 hu1 u2 hu2 v0 hv0 v1 hv1).trans (by kernel_rfl))
theorem ov_7_2 : over [nimP u0 v0, nimP u0 v1, x0, nimP u1 v0, nimP u1 v1, x1, nimP u2 v0] (spread1 7 * 2) = leave (over [u0, u1] 7) v1 u2 (over [v0] 2) :=
 Eq.trans (by kernel_rfl) ((fin_7_2 u0 hu0 u1 hu1 u2 hu2 v0 hv0 v1 hv1).trans (by kernel_rfl))
theorem ov_7_3 : over [nimP u0 v0, nimP u0 v1, x0, nimP u1 v0, nimP u1 v1, x1, nimP u2 v0] (spread1 7 * 3) = leave (over [u0, u1] 7) v1 u2 (over [v0] 3) :=
 Eq.trans (by kernel_rfl) ((fin_7_3 u0 hu0 u1 hu1 u2 hu2 v0 hv0 v1 hv1).trans (by kernel_rfl))
end
theorem fin_4_4 : ∀ u0 ∈ Q2, ∀ u1 ∈ Q3, ∀ u2 ∈ Q4, ∀ v0 ∈ Q2, ∀ v1 ∈ Q3, ∀ v2 ∈ Q4, 0 = leave (0) v2 u2 (0) := by unfold leave; decide +kernel
theorem fin_4_5 : ∀ u0 ∈ Q2, ∀ u1 ∈ Q3, ∀ u2 ∈ Q4, ∀ v0 ∈ Q2, ∀ v1 ∈ Q3, ∀ v2 ∈ Q4, Builtin.bitXor (0) (nimP u2 v0) = leave (0) v2 u2 (Builtin.bitXor (0) (v0)) := by unfold leave; decide +kernel
theorem fin_4_6 : ∀ u0 ∈ Q2, ∀ u1 ∈ Q3, ∀ u2 ∈ Q4, ∀ v0 ∈ Q2, ∀ v1 ∈ Q3, ∀ v2 ∈ Q4, Builtin.bitXor (0) (nimP u2 v1) = leave (0) v2 u2 (Builtin.bitXor (0) (v1)) := by unfold leave; decide +kernel
theorem fin_4_7 : ∀ u0 ∈ Q2, ∀ u1 ∈ Q3, ∀ u2 ∈ Q4, ∀ v0 ∈ Q2, ∀ v1 ∈ Q3, ∀ v2 ∈ Q4, Builtin.bitXor (Builtin.bitXor (0) (nimP u2 v0)) (nimP u2 v1) = leave (0) v2 u2 (Builtin.bitXor (Builtin.bitXor (0) (v0)) (v1)) := by unfold leave; decide +kernel
theorem fin_5_4 : ∀ u0 ∈ Q2, ∀ u1 ∈ Q3, ∀ u2 ∈ Q4, ∀ v0 ∈ Q2, ∀ v1 ∈ Q3, ∀ v2 ∈ Q4, Builtin.bitXor (0) (nimP u0 v2) = leave (Builtin.bitXor (0) (u0)) v2 u2 (0) := by unfold leave; decide +kernel
theorem fin_5_5 : ∀ u0 ∈ Q2, ∀ u1 ∈ Q3, ∀ u2 ∈ Q4, ∀ v0 ∈ Q2, ∀ v1 ∈ Q3, ∀ v2 ∈ Q4, Builtin.bitXor (Builtin.bitXor (Builtin.bitXor (0) (nimP u0 v0)) (nimP u0 v2)) (nimP u2 v0) = leave (Builtin.bitXor (0) (u0)) v2 u2 (Builtin.bitXor (0) (v0)) := by unfold leave; decide +kernel
theorem fin_5_6 : ∀ u0 ∈ Q2, ∀ u1 ∈ Q3, ∀ u2 ∈ Q4, ∀ v0 ∈ Q2, ∀ v1 ∈ Q3, ∀ v2 ∈ Q4, Builtin.bitXor (Builtin.bitXor (Builtin.bitXor (0) (nimP u0 v1)) (nimP u0 v2)) (nimP u2 v1) = leave (Builtin.bitXor (0) (u0)) v2 u2 (Builtin.bitXor (0) (v1)) := by unfold leave; decide +kernel
theorem fin_5_7 : ∀ u0 ∈ Q2, ∀ u1 ∈ Q3, ∀ u2 ∈ Q4, ∀ v0 ∈ Q2, ∀ v1 ∈ Q3, ∀ v2 ∈ Q4, Builtin.bitXor (Builtin.bitXor (Builtin.bitXor (Builtin.bitXor (Builtin.bitXor (0) (nimP u0 v0)) (nimP u0 v1)) (nimP u0 v2)) (nimP u2 v0)) (nimP u2 v1) = leave (Builtin.bitXor (0) (u0)) v2 u2 (Builtin.bitXor (Builtin.bitXor (0) (v0)) (v1)) := by unfold leave; decide +kernel
theorem fin_6_4 : ∀ u0 ∈ Q2, ∀ u1 ∈ Q3, ∀ u2 ∈ Q4, ∀ v0 ∈ Q2, ∀ v1 ∈ Q3, ∀ v2 ∈ Q4, Builtin.bitXor (0) (nimP u1 v2) = leave (Builtin.bitXor (0) (u1)) v2 u2 (0) := by unfold leave; decide +kernel
theorem fin_6_5 : ∀ u0 ∈ Q2, ∀ u1 ∈ Q3, ∀ u2 ∈ Q4, ∀ v0 ∈ Q2, ∀ v1 ∈ Q3, ∀ v2 ∈ Q4, Builtin.bitXor (Builtin.bitXor (Builtin.bitXor (0) (nimP u1 v0)) (nimP u1 v2)) (nimP u2 v0) = leave (Builtin.bitXor (0) (u1)) v2 u2 (Builtin.bitXor (0) (v0)) := by unfold leave; decide +kernel
theorem fin_6_6 : ∀ u0 ∈ Q2, ∀ u1 ∈ Q3, ∀ u2 ∈ Q4, ∀ v0 ∈ Q2, ∀ v1 ∈ Q3, ∀ v2 ∈ Q4, Builtin.bitXor (Builtin.bitXor (Builtin.bitXor (0) (nimP u1 v1)) (nimP u1 v2)) (nimP u2 v1) = leave (Builtin.bitXor (0) (u1)) v2 u2 (Builtin.bitXor (0) (v1)) := by unfold leave; decide +kernel
theorem fin_6_7 : ∀ u0 ∈ Q2, ∀ u1 ∈ Q3, ∀ u2 ∈ Q4, ∀ v0 ∈ Q2, ∀ v1 ∈ Q3, ∀ v2 ∈ Q4, Builtin.bitXor (Builtin.bitXor (Builtin.bitXor (Builtin.bitXor (Builtin.bitXor (0) (nimP u1 v0)) (nimP u1 v1)) (nimP u1 v2)) (nimP u2 v0)) (nimP u2 v1) = leave (Builtin.bitXor (0) (u1)) v2 u2 (Builtin.bitXor (Builtin.bitXor (0) (v0)) (v1)) := by unfold leave; decide +kernel
theorem fin_7_4 : ∀ u0 ∈ Q2, ∀ u1 ∈ Q3, ∀ u2 ∈ Q4, ∀ v0 ∈ Q2, ∀ v1 ∈ Q3, ∀ v2 ∈ Q4, Builtin.bitXor (Builtin.bitXor (0) (nimP u0 v2)) (nimP u1 v2) = leave (Builtin.bitXor (Builtin.bitXor (0) (u0)) (u1)) v2 u2 (0) := by unfold leave; decide +kernel
theorem fin_7_5 : ∀ u0 ∈ Q2, ∀ u1 ∈ Q3, ∀ u2 ∈ Q4, ∀ v0 ∈ Q2, ∀ v1 ∈ Q3, ∀ v2 ∈ Q4, Builtin.bitXor (Builtin.bitXor (Builtin.bitXor (Builtin.bitXor (Builtin.bitXor (0) (nimP u0 v0)) (nimP u0 v2)) (nimP u1 v0)) (nimP u1 v2)) (nimP u2 v0) = leave (Builtin.bitXor (Builtin.bitXor (0) (u0)) (u1)) v2 u2 (Builtin.bitXor (0) (v0)) := by unfold leave; decide +kernel
theorem fin_7_6 : ∀ u0 ∈ Q2, ∀ u1 ∈ Q3, ∀ u2 ∈ Q4, ∀ v0 ∈ Q2, ∀ v1 ∈ Q3, ∀ v2 ∈ Q4, Builtin.bitXor (Builtin.bitXor (Builtin.bitXor (Builtin.bitXor (Builtin.bitXor (0) (nimP u0 v1)) (nimP u0 v2)) (nimP u1 v1)) (nimP u1 v2)) (nimP u2 v1) = leave (Builtin.bitXor (Builtin.bitXor (0) (u0)) (u1)) v2 u2 (Builtin.bitXor (0) (v1)) := by unfold leave; decide +kernel
theorem fin_7_7 : ∀ u0 ∈ Q2, ∀ u1 ∈ Q3, ∀ u2 ∈ Q4, ∀ v0 ∈ Q2, ∀ v1 ∈ Q3, ∀ v2 ∈ Q4, Builtin.bitXor (Builtin.bitXor (Builtin.bitXor (Builtin.bitXor (Builtin.bitXor (Builtin.bitXor (Builtin.bitXor (Builtin.bitXor (0) (nimP u0 v0)) (nimP u0 v1)) (nimP u0 v2)) (nimP u1 v0)) (nimP u1 v1)) (nimP u1 v2)) (nimP u2 v0)) (nimP u2 v1) = leave (Builtin.bitXor (Builtin.bitXor (0) (u0)) (u1)) v2 u2 (Builtin.bitXor (Builtin.bitXor (0) (v0)) (v1)) := by unfold leave; decide +kernel
section
variable (u0 u1 u2 v0 v1 v2 : Int) (hu0 : u0 ∈ Q2) (hu1 : u1 ∈ Q3) (hu2 : u2 ∈ Q4) (hv0 : v0 ∈ Q2) (hv1 : v1 ∈ Q3) (hv2 : v2 ∈ Q4)
include hu0 hu1 hu2 hv0 hv1 hv2
theorem ov_4_4 : over [nimP u0 v0, nimP u0 v1, nimP u0 v2, nimP u1 v0, nimP u1 v1, nimP u1 v2, nimP u2 v0, nimP u2 v1] (spread1 4 * 4) = leave (over [u0, u1] 4) v2 u2 (over [v0, v1] 4) :=
 Eq.trans (by kernel_rfl) ((fin_4_4 u0 hu0 u1 hu1 u2 hu2 v0 hv0 v1 hv1 v2 hv2).trans (by kernel_rfl))
theorem ov_4_5 : over [nimP u0 v0, nimP u0 v1, nimP u0 v2, nimP u1 v0, nimP u1 v1, nimP u1 v2, nimP u2 v0, nimP u2 v1] (spread1 4 * 5) = leave (over [u0, u1] 4) v2 u2 (over [v0, v1] 5) :=
 Eq.trans (by kernel_rfl) ((fin_4_5 u0 hu0 u1 hu1 u2 hu2 v0 hv0 v1 hv1 v2 hv2).trans (by kernel_rfl))
theorem ov_4_6 : over [nimP u0 v0, nimP u0 v1, nimP u0 v2, nimP u1 v0, nimP u1 v1, nimP u1 v2, nimP u2 v0, nimP u2 v1] (spread1 4 * 6) = leave (over [u0, u1] 4) v2 u2 (over [v0, v1] 6) :=
 Eq.trans (by kernel_rfl) ((fin_4_6 u0 hu0 u1 hu1 u2 hu2 v0 hv0 v1 hv1 v2 hv2).trans (by kernel_rfl))
theorem ov_4_7 : over [nimP u0 v0, nimP u0 v1, nimP u0 v2, nimP u1 v0, nimP u1 v1, nimP u1 v2, nimP u2 v0, nimP u2 v1] (spread1 4 * 7) = leave (over [u0, u1] 4) v2 u2 (over [v0, v1] 7) :=
 Eq.trans (by kernel_rfl) ((fin_4_7 u0 hu0 u1 hu1 u2 hu2 v0 hv0 v1 hv1 v2 hv2).trans (by kernel_rfl))
theorem ov_5_4 : over [nimP u0 v0, nimP u0 v1, nimP u0 v2, nimP u1 v0, nimP u1 v1, nimP u1 v2, nimP u2 v0, nimP u2 v1] (spread1 5 * 4) = leave (over [u0, u1] 5) v2 u2 (over [v0, v1] 4) :=
 Eq.trans (by kernel_rfl) ((fin_5_4 u0 hu0 u1 hu1 u2 hu2 v0 hv0 v1 hv1 v2 hv2).trans (by kernel_rfl))
theorem ov_5_5 : over [nimP u0 v0, nimP u0 v1, nimP u0 v2, nimP u1 v0, nimP u1 v1, nimP u1 v2, nimP u2 v0, nimP u2 v1] (spread1 5 * 5) = leave (over [u0, u1] 5) v2 u2 (over [v0, v1] 5) :=
 Eq.trans (by kernel_rfl) ((fin_5_5 u0 hu0 u1 hu1 u2 hu2 v0 hv0 v1 hv1 v2 hv2).trans (by kernel_rfl))
theorem ov_5_6 : over [nimP u0 v0, nimP u0 v1, nimP u0 v2, nimP u1 v0, nimP u1 v1, nimP u1 v2, nimP u2 v0, nimP u2 v1] (spread1 5 * 6) = leave (over [u0, u1] 5) v2 u2 (over [v0, v1] 6) :=
 Eq.trans (by kernel_rfl) ((fin_5_6 u0 hu0 u1 hu1 u2 hu2 v0 hv0 v1 hv1 v2 hv2).trans (by kernel_rfl))
theorem ov_5_7 : over [nimP u0 v0, nimP u0 v1, nimP u0 v2, nimP u1 v0, nimP u1 v1, nimP u1 v2, nimP u2 v0, nimP u2 v1] (spread1 5 * 7) = leave (over [u0, u1] 5) v2 u2 (over [v0, v1] 7) :=
 Eq.trans (by kernel_rfl) ((fin_5_7 u0 hu0 u1 hu1 u2 hu2 v0 hv0 v1 hv1 v2 hv2).trans (by kernel_rfl))
theorem ov_6_4 : over [nimP u0 v0, nimP u0 v1, nimP u0 v2, nimP u1 v0, nimP u1 v1, nimP u1 v2, nimP u2 v0, nimP u2 v1] (spread1 6 * 4) = leave (over [u0, u1] 6) v2 u2 (over [v0, v1] 4) :=
 Eq.trans (by kernel_rfl) ((fin_6_4 u0 hu0 u1 hu1 u2 hu2 v0 hv0 v1 hv1 v2 hv2).trans (by kernel_rfl))
theorem ov_6_5 : over [nimP u0 v0, nimP u0 v1, nimP u0 v2, nimP u1 v0, nimP u1 v1, nimP u1 v2, nimP u2 v0, nimP u2 v1] (spread1 6 * 5) = leave (over [u0, u1] 6) v2 u2 (over [v0, v1] 5) :=
 Eq.trans (by kernel_rfl) ((fin_6_5 u0 hu0 u1 hu1 u2 hu2 v0 hv0 v1 hv1 v2 hv2).trans (by kernel_rfl))
theorem ov_6_6 : over [nimP u0 v0, nimP u0 v1, nimP u0 v2, nimP u1 v0, nimP u1 v1, nimP u1 v2, nimP u2 v0, nimP u2 v1] (spread1 6 * 6) = leave (over [u0, u1] 6) v2 u2 (over [v0, v1] 6) :=
 Eq.trans (by kernel_rfl) ((fin_6_6 u0 hu0 u1 hu1 u2 hu2 v0 hv0 v1 hv1 v2 hv2).trans (by kernel_rfl))
theorem ov_6_7 : over [nimP u0 v0, nimP u0 v1, nimP u0 v2, nimP u1 v0, nimP u1 v1, nimP u1 v2, nimP u2 v0, nimP u2 v1] (spread1 6 * 7) = leave (over [u0, u1] 6) v2 u2 (over [v0, v1] 7) :=
 Eq.trans (by kernel_rfl) ((fin_6_7 u0 hu0 u1 hu1 u2 hu2 v0 hv0 v1 hv1 v2 hv2).trans (by kernel_rfl))
theorem ov_7_4 : over [nimP u0 v0, nimP u0 v1, nimP u0 v2, nimP u1 v0, nimP u1 v1, nimP u1 v2, nimP u2 v0, nimP u2 v1] (spread1 7 * 4) = leave (over [u0, u1] 7) v2 u2 (over [v0, v1] 4) :=
 Eq.trans (by kernel_rfl) ((fin_7_4 u0 hu0 u1 hu1 u2 hu2 v0 hv0 v1 hv1 v2 hv2).trans (by kernel_rfl))
theorem ov_7_5 : over [nimP u0 v0, nimP u0 v1, nimP u0 v2, nimP u1 v0, nimP u1 v1, nimP u1 v2, nimP u2 v0, nimP u2 v1] (spread1 7 * 5) = leave (over [u0, u1] 7) v2 u2 (over [v0, v1] 5) :=
 Eq.trans (by kernel_rfl) ((fin_7_5 u0 hu0 u1 hu1 u2 hu2 v0 hv0 v1 hv1 v2 hv2).trans (by kernel_rfl))
theorem ov_7_6 : over [nimP u0 v0, nimP u0 v1, nimP u0 v2, nimP u1 v0, nimP u1 v1, nimP u1 v2, nimP u2 v0, nimP u2 v1] (spread1 7 * 6) = leave (over [u0, u1] 7) v2 u2 (over [v0, v1] 6) :=
 Eq.trans (by kernel_rfl) ((fin_7_6 u0 hu0 u1 hu1 u2 hu2 v0 hv0 v1 hv1 v2 hv2).trans (by kernel_rfl))
theorem ov_7_7 : over [nimP u0 v0, nimP u0 v1, nimP u0 v2, nimP u1 v0, nimP u1 v1, nimP u1 v2, nimP u2 v0, nimP u2 v1] (spread1 7 * 7) = leave (over [u0, u1] 7) v2 u2 (over [v0, v1] 7) :=
 Eq.trans (by kernel_rfl) ((fin_7_7 u0 hu0 u1 hu1 u2 hu2 v0 hv0 v1 hv1 v2 hv2).trans (by kernel_rfl))
end
end Mine
end
section
namespace Mine
theorem leave_q4 {a v w b : Int} (ha : a ∈ Q4) (hv : v ∈ Q4) (hw : w ∈ Q4) (hb : b ∈ Q4) : leave a v w b ∈ Q4 :=
 xor_q4 _ (xor_q4 _ (nim_q4 a ha v hv) _ (nim_q4 w hw b hb)) _ (nim_q4 a ha b hb)
theorem mem_weave {la lb : List Int} {m : Int} : m ∈ weaveI la lb ↔ ∃ a ∈ la, ∃ b ∈ lb, m = spread1 a * b := by
 unfold weaveI mulAll
 simp only [List.mem_flatMap, List.mem_map]
 constructor
 ·rintro ⟨x, ⟨a, ha, rfl⟩, b, hb, rfl⟩
  exact ⟨a, ha, b, hb, rfl⟩
 ·rintro ⟨a, ha, b, hb, rfl⟩
  exact ⟨_, ⟨a, ha, rfl⟩, b, hb, rfl⟩
theorem cell_mex {wsL wsR la lb cells : List Int} {u v : Int} (hu : u = mex (rowOf wsL la)) (hv : v = mex (rowOf wsR lb)) (hu4 : u ∈ Q4) (hv4 : v ∈ Q4) (hA : ∀ a ∈ la, over wsL a ∈ Q4) (hB : ∀ b ∈ lb, over wsR b ∈ Q4)
  (hov : ∀ a ∈ la, ∀ b ∈ lb, over cells (spread1 a * b) = leave (over wsL a) v u (over wsR b)) : mex (rowOf cells (weaveI la lb)) = nimP u v := by
 have sL := mex_spec (ws := wsL) (ms := la) fun a ha => (q4_iff.mp (hA a ha)).1
 have sR := mex_spec (ws := wsR) (ms := lb) fun b hb => (q4_iff.mp (hB b hb)).1
 rw [← hu] at sL
 rw [← hv] at sR
 have hn := nim_q4 u hu4 v hv4
 refine mex_eq (fun m hm => ?_) (q4_iff.mp hn).1 (fun k h1 h2 => ?_) (fun m hm => ?_)
 ·obtain ⟨a, ha, b, hb, rfl⟩ := mem_weave.mp hm
  rw [hov a ha b hb]
  exact (q4_iff.mp (leave_q4 (hA a ha) hv4 hu4 (hB b hb))).1
 ·have hk : k ∈ Q4 := q4_iff.mpr ⟨h1, by have := (q4_iff.mp hn).2; kaf_pre⟩
  obtain ⟨x, hx, hxu, y, hy, hyv, e⟩ := leave_all u hu4 v hv4 k hk h2
  obtain ⟨a, ha, ea⟩ := sL.2.1 x (q4_iff.mp hx).1 hxu
  obtain ⟨b, hb, eb⟩ := sR.2.1 y (q4_iff.mp hy).1 hyv
  exact ⟨spread1 a * b, mem_weave.mpr ⟨a, ha, b, hb, rfl⟩, by rw [hov a ha b hb, ← ea, ← eb, e]⟩
 ·obtain ⟨a, ha, b, hb, rfl⟩ := mem_weave.mp hm
  rw [hov a ha b hb]
  exact leave_ne u hu4 v hv4 _ (hA a ha) _ (hB b hb) (sL.2.2 a ha) (sR.2.2 b hb)
end Mine
end
section
namespace Mine
theorem and_nat (x y : Nat) : Builtin.bitAnd (x : Int) (y : Int) = ((x &&& y : Nat) : Int) := by
 unfold Builtin.bitAnd
 have h1 : decide (0 ≤ (x : Int)) = true := decide_eq_true (Int.natCast_nonneg _)
 have h2 : decide (0 ≤ (y : Int)) = true := decide_eq_true (Int.natCast_nonneg _)
 rw [h1, h2]
 show (((x : Int).toNat &&& (y : Int).toNat : Nat) : Int) = _
 rw [Int.toNat_natCast, Int.toNat_natCast]
theorem lt2 : ∀ i, i < 2 → i = 0 ∨ i = 1 := by decide
theorem xor_key (ra : Nat) (ha : ra < 2) (rb : Nat) (hb : rb < 2) (rc : Nat) (hc : rc < 2) (h : rc = 1 ↔ ra = 1 ∧ rb = 1) : 2 * rc ≤ ra + rb ∧ ra + rb < 2 + 2 * rc := by
 rcases lt2 _ ha with rfl | rfl <;> rcases lt2 _ hb with rfl | rfl <;> rcases lt2 _ hc with rfl | rfl <;> revert h <;> decide
theorem xor_sum {q qa qb ra rb rc a b c P : Nat} (ih : 2 * q ≤ qa + qb ∧ qa + qb - 2 * q < P) (k : 2 * rc ≤ ra + rb ∧ ra + rb < 2 + 2 * rc) (d1 : 2 * q + rc = c) (da : 2 * qa + ra = a) (db : 2 * qb + rb = b) :
  2 * c ≤ a + b ∧ a + b - 2 * c < 2 * P := by
 subst d1 da db
 kaf_pre
theorem xor_lt : ∀ (n a b : Nat), a < 2 ^ n → b < 2 ^ n → 2 * (a &&& b) ≤ a + b ∧ a + b - 2 * (a &&& b) < 2 ^ n
 | 0, a, b, ha, hb => by
  have : a = 0 := by kaf_pre
  have : b = 0 := by kaf_pre
  subst a b
  simp
 | n + 1, a, b, ha, hb => by
  have e1 : (a &&& b) / 2 = a / 2 &&& b / 2 := Nat.and_div_two
  have e2 : (a &&& b) % 2 = 1 ↔ a % 2 = 1 ∧ b % 2 = 1 := Nat.and_mod_two_eq_one
  have hp : 2 ^ (n + 1) = 2 * 2 ^ n := by rw [Nat.pow_succ]; kaf_pre
  have ih := xor_lt n (a / 2) (b / 2) (by kaf_pre) (by kaf_pre)
  rw [← e1] at ih
  have d1 := Nat.div_add_mod (a &&& b) 2
  have da := Nat.div_add_mod a 2
  have db := Nat.div_add_mod b 2
  have k := xor_key (a % 2) (Nat.mod_lt _ (by decide)) (b % 2) (Nat.mod_lt _ (by decide)) ((a &&& b) % 2) (Nat.mod_lt _ (by decide)) e2
  rw [hp]
  exact xor_sum ih k d1 da db
theorem xor_512 {x y : Int} (hx : 0 ≤ x ∧ x < 512) (hy : 0 ≤ y ∧ y < 512) : 0 ≤ Builtin.bitXor x y ∧ Builtin.bitXor x y < 512 := by
 obtain ⟨a, rfl⟩ := Int.eq_ofNat_of_zero_le hx.1
 obtain ⟨b, rfl⟩ := Int.eq_ofNat_of_zero_le hy.1
 rw [bitXor_and, and_nat]
 have h := xor_lt 9 a b (by kaf_pre) (by kaf_pre)
 kaf_pre
theorem getD_512 {ws : List Int} (h : ∀ w ∈ ws, 0 ≤ w ∧ w < 512) (k : Nat) : 0 ≤ ws.getD k 0 ∧ ws.getD k 0 < 512 := by
 by_cases q : k < ws.length
 ·have e : ws.getD k 0 = ws[k] := by simp [List.getD, List.getElem?_eq_getElem q]
  rw [e]
  exact h _ (List.getElem_mem q)
 ·have e : ws.getD k 0 = 0 := by simp [List.getD, List.getElem?_eq_none (Nat.le_of_not_lt q)]
  rw [e]
  decide
theorem over_512 {ws : List Int} (h : ∀ w ∈ ws, 0 ≤ w ∧ w < 512) (m : Int) : 0 ≤ over ws m ∧ over ws m < 512 := by
 unfold over
 suffices key : ∀ k, 0 ≤ overUp ws m k ∧ overUp ws m k < 512 from key _
 intro k
 induction k with
 | zero => simp [overUp]
 | succ k ih =>
  simp only [overUp]
  split
  ·exact xor_512 ih (getD_512 h k)
  ·exact ih
theorem mexFrom_bd : ∀ (row : List Int) (i : Int), i ≤ mexFrom i row ∧ mexFrom i row ≤ i + row.length
 | [], i => by simp [mexFrom]
 | a :: r, i => by
  have h := mexFrom_bd r (i + 1)
  simp only [mexFrom, List.length_cons]
  split <;> kaf_pre
theorem worths_512 : ∀ {gs : List (List Int)} {ws : List Int}, (∀ w ∈ ws, 0 ≤ w ∧ w < 512) → (∀ g ∈ gs, g.length ≤ 400) → ∀ w ∈ gs.foldl (fun ws g => ws ++ [mex (rowOf ws g)]) ws, 0 ≤ w ∧ w < 512
 | [], _, h, _ => h
 | g :: gs, ws, h, hg => by
  refine worths_512 (gs := gs) (ws := ws ++ [mex (rowOf ws g)]) (fun w hw => ?_) fun g' h' => hg g' (.tail _ h')
  rcases List.mem_append.mp hw with hw | hw
  ·exact h w hw
  ·rw [List.mem_singleton.mp hw]
   have a := mexFrom_bd (rowOf ws g) 0
   have b := rowOf_len ws g
   have c := hg g (.head _)
   unfold mex
   kaf_pre
theorem bound_gs {gs : List (List Int)} (hg : ∀ g ∈ gs, g.length ≤ 400 ∧ ∀ k ∈ g, 0 ≤ k) : ∀ i ms, gs[i]? = some ms → ms.length ≤ 1000 ∧ ∀ k ∈ ms, 0 ≤ k ∧ 0 ≤ over (worthsOf (gs.take i)) k ∧ over (worthsOf (gs.take i)) k ≤ 1000 := by
 intro i ms hm
 have hmem := List.mem_of_getElem? hm
 have hw : ∀ w ∈ worthsOf (gs.take i), 0 ≤ w ∧ w < 512 := worths_512 (fun w hw => nomatch hw) fun g h => (hg g (List.mem_of_mem_take h)).1
 refine ⟨by have := (hg ms hmem).1; kaf_pre, fun k hk => ⟨(hg ms hmem).2 k hk, ?_⟩⟩
 have := over_512 hw k
 kaf_pre
end Mine
end
section
open PyProof.V PyProof.Rows.LCg
namespace Mine
theorem ts350 : TSL #[] 350 (tabObj #[]) := .inl ⟨rfl, rfl, rfl⟩
theorem ts54 : TS 54 36 4 qI #[] 54 (tabObj #[]) := .inl ⟨rfl, rfl, rfl⟩
theorem games_of {g : Heap} : ∀ {gs : List (List Int)} {refs : List Value}, refs.length = gs.length → (∀ (i : Nat) (ns : List Int), gs[i]? = some ns → ∃ (lm : Addr) (vs : List Value), refs[i]? = some (Value.ref lm) ∧ g.IsList lm vs.toArray ∧ IntsAre vs ns) → Games g refs gs
 | [], [], _, _ => .nil
 | [], _ :: _, hl, _ => by simp at hl
 | _ :: _, [], hl, _ => by simp at hl
 | a :: gs, r :: refs, hl, hr => by
  obtain ⟨lm, vs, h1, b, c⟩ := hr 0 a rfl
  have e : r = Value.ref lm := by simpa using h1
  subst e
  refine .cons ⟨lm, vs, rfl, b, c⟩ (games_of (by simpa using hl) fun i ns hi => ?_)
  obtain ⟨lm', vs', a', b', c'⟩ := hr (i + 1) ns (by simpa using hi)
  exact ⟨lm', vs', by simpa using a', b', c'⟩
theorem hold_games {h₀ : Heap} {D : Addr} {ys : List Value} {gs : List (List Int)} {n : Nat} {dn rest : List (Addr × Obj)} (LL : ListsAt dn ys gs) (hm : (D, listOf ys.toArray n) ∈ rest) (hd : ∀ p ∈ dn, p ∈ rest) :
  ∀ g : Heap, (∀ b o, h₀.get? b = some o → g.get? b = some o) → (∀ p ∈ rest, g.get? p.1 = some p.2) → g.IsList D ys.toArray ∧ Games g ys gs :=
 fun g _ hr => ⟨⟨_, hr _ hm, rfl, _, rfl⟩, games_of LL.1 fun i ns hi => by
  obtain ⟨lm, vs, k, a, b, c⟩ := LL.2 i ns hi
  exact ⟨lm, vs, a, ⟨_, hr _ (hd _ b), rfl, _, rfl⟩, c⟩⟩
theorem Rem.tailAll {led dn : List (Addr × Obj)} (h : ∀ q ∈ led, AllNe q.1 dn) : Rem led dn dn := Rem.keepAll fun p hp => AllNe.of fun q hq e => (h q hq).mem p hp e.symm
theorem tab_ne {h₀ h : Heap} {L P D : Addr} {ps vs : Array Value} {n : Nat} {r : List (Addr × Obj)} (N : News h₀ L h ((D, listOf vs n) :: (P, tabObj ps) :: r)) : @Ne Nat P D := fun e => by
 have a := (N _ (.head _)).1
 have b := (N _ (.tail _ (.head _))).1
 have e' : P = D := e
 subst e'
 rw [a] at b
 cases b
abbrev glOf (ns : List Int) : List (List Int) := [mvsOf ns 0, mvsOf ns (0 + 1), mvsOf ns (0 + 2)]
abbrev grOf (ns : List Int) : List (List Int) := [mvsOf ns 3, mvsOf ns (3 + 1), mvsOf ns (3 + 2)]
theorem gl_mem {ns : List Int} : ∀ g ∈ glOf ns, ∃ i, i < 6 ∧ g = mvsOf ns i := by
 intro g hg
 simp only [glOf, List.mem_cons, List.not_mem_nil, or_false] at hg
 rcases hg with rfl | rfl | rfl
 ·exact ⟨0, by decide, rfl⟩
 ·exact ⟨1, by decide, rfl⟩
 ·exact ⟨2, by decide, rfl⟩
theorem gr_mem {ns : List Int} : ∀ g ∈ grOf ns, ∃ i, i < 6 ∧ g = mvsOf ns i := by
 intro g hg
 simp only [grOf, List.mem_cons, List.not_mem_nil, or_false] at hg
 rcases hg with rfl | rfl | rfl
 ·exact ⟨3, by decide, rfl⟩
 ·exact ⟨4, by decide, rfl⟩
 ·exact ⟨5, by decide, rfl⟩
theorem mv_small : ∀ i : Fin 6, ∀ x : Fin 60, (movesAt i.val (x.val : Int)).length ≤ 3 := by decide +kernel
theorem mvs_small (ns : List Int) : ∀ i, i < 6 → (mvsOf ns i).length ≤ 3 := by
 intro i hi
 obtain ⟨x, hx⟩ := numAt_fin ns i
 unfold mvsOf
 rw [hx]
 exact mv_small ⟨i, hi⟩ x
theorem bound_l (ns : List Int) : ∀ i ms, (glOf ns)[i]? = some ms → ms.length ≤ 1000 ∧ ∀ k ∈ ms, 0 ≤ k ∧ 0 ≤ over (worthsOf ((glOf ns).take i)) k ∧ over (worthsOf ((glOf ns).take i)) k ≤ 1000 :=
 bound_gs fun g hg => by
  obtain ⟨i, hi, rfl⟩ := gl_mem g hg
  exact ⟨by have := mvs_len ns i hi; kaf_pre, fun k hk => by have := mvs_ok ns i hi k hk; kaf_pre⟩
theorem bound_r (ns : List Int) : ∀ i ms, (grOf ns)[i]? = some ms → ms.length ≤ 1000 ∧ ∀ k ∈ ms, 0 ≤ k ∧ 0 ≤ over (worthsOf ((grOf ns).take i)) k ∧ over (worthsOf ((grOf ns).take i)) k ≤ 1000 :=
 bound_gs fun g hg => by
  obtain ⟨i, hi, rfl⟩ := gr_mem g hg
  exact ⟨by have := mvs_len ns i hi; kaf_pre, fun k hk => by have := mvs_ok ns i hi k hk; kaf_pre⟩
theorem spread_pos : ∀ x ∈ [(1 : Int), 2, 3, 4, 5, 6, 7], 0 ≤ spread1 x := by decide
theorem weave_bd {as bs : List Int} (ha : ∀ x ∈ as, 1 ≤ x ∧ x ≤ 7) (hb : ∀ x ∈ bs, 1 ≤ x ∧ x ≤ 7) : ∀ k ∈ weaveI as bs, 0 ≤ k := by
 intro k hk
 unfold weaveI mulAll at hk
 obtain ⟨a, hma, hk⟩ := List.mem_flatMap.mp hk
 obtain ⟨b, hmb, rfl⟩ := List.mem_map.mp hk
 obtain ⟨x, hx, rfl⟩ := List.mem_map.mp hma
 have h1 := ha x hx
 have h2 := hb b hmb
 have h3 := spread_pos x (m7 h1)
 exact Int.mul_nonneg h3 (by kaf_pre)
theorem bound_wov (ns : List Int) : ∀ i ms, (wov (glOf ns) (grOf ns))[i]? = some ms → ms.length ≤ 1000 ∧ ∀ k ∈ ms, 0 ≤ k ∧ 0 ≤ over (worthsOf ((wov (glOf ns) (grOf ns)).take i)) k ∧ over (worthsOf ((wov (glOf ns) (grOf ns)).take i)) k ≤ 1000 :=
 bound_gs fun g hg => by
  unfold wov at hg
  obtain ⟨a, ha, hg⟩ := List.mem_flatMap.mp hg
  obtain ⟨b, hb, rfl⟩ := List.mem_map.mp hg
  obtain ⟨i, hi, rfl⟩ := gl_mem a ha
  obtain ⟨j, hj, rfl⟩ := gr_mem b hb
  refine ⟨?_, weave_bd (mvs_ok ns i hi) (mvs_ok ns j hj)⟩
  have h1 := mvs_small ns i hi
  have h2 := mvs_small ns j hj
  unfold weaveI
  rw [mulAll_len, List.length_map]
  exact Nat.le_trans (Nat.mul_le_mul h1 h2) (by decide)
theorem worths_3 : ∀ {gs : List (List Int)} {ws : List Int}, (∀ w ∈ ws, 0 ≤ w ∧ w ≤ 3) → (∀ g ∈ gs, g.length ≤ 3) → ∀ w ∈ gs.foldl (fun ws g => ws ++ [mex (rowOf ws g)]) ws, 0 ≤ w ∧ w ≤ 3
 | [], _, h, _ => h
 | g :: gs, ws, h, hg => by
  refine worths_3 (gs := gs) (ws := ws ++ [mex (rowOf ws g)]) (fun w hw => ?_) fun g' h' => hg g' (.tail _ h')
  rcases List.mem_append.mp hw with hw | hw
  ·exact h w hw
  ·rw [List.mem_singleton.mp hw]
   have a := mexFrom_bd (rowOf ws g) 0
   have b := rowOf_len ws g
   have c := hg g (.head _)
   unfold mex
   kaf_pre
theorem worths_len (gs : List (List Int)) : (worthsOf gs).length = gs.length := by
 unfold worthsOf
 suffices h : ∀ (gs : List (List Int)) (ws : List Int), (gs.foldl (fun ws g => ws ++ [mex (rowOf ws g)]) ws).length = ws.length + gs.length by simpa using h gs []
 intro gs
 induction gs with
 | nil => intro ws; rfl
 | cons g r ih =>
  intro ws
  simp only [List.foldl_cons, ih, List.length_append, List.length_cons, List.length_nil]
  kaf_pre
theorem small_l (ns : List Int) : (∀ x ∈ worthsOf (glOf ns), 0 ≤ x ∧ x ≤ 3) ∧ (worthsOf (glOf ns)).length ≤ 1000 :=
 ⟨worths_3 (fun w hw => nomatch hw) fun g hg => by
  obtain ⟨i, hi, rfl⟩ := gl_mem g hg
  exact mvs_small ns i hi, by rw [worths_len]; exact Nat.le_of_ble_eq_true rfl⟩
theorem small_r (ns : List Int) : (∀ x ∈ worthsOf (grOf ns), 0 ≤ x ∧ x ≤ 3) ∧ (worthsOf (grOf ns)).length ≤ 1000 :=
 ⟨worths_3 (fun w hw => nomatch hw) fun g hg => by
  obtain ⟨i, hi, rfl⟩ := gr_mem g hg
  exact mvs_small ns i hi, by rw [worths_len]; exact Nat.le_of_ble_eq_true rfl⟩
end Mine
end
section
open PyProof.V PyProof.Rows.LCg
namespace Mine
def prodsI (xs zs : List Int) : List Int := xs.flatMap fun x => zs.map (nimP x)
theorem prodsI_snoc (xs zs : List Int) (x : Int) : prodsI (xs ++ [x]) zs = prodsI xs zs ++ zs.map (nimP x) := by unfold prodsI; simp
theorem prodsI_len (xs zs : List Int) : (prodsI xs zs).length = xs.length * zs.length := by
 unfold prodsI
 induction xs with
 | nil => simp
 | cons a r ih => simp only [List.flatMap_cons, List.length_append, ih, List.length_map, List.length_cons, Nat.succ_mul]; kaf_pre
abbrev SPr := Array Value × Addr × Obj × Array Value × Addr × Obj
abbrev ledPr (fixed : List (Addr × Obj)) (q : SPr) : List (Addr × Obj) := (54, tabObj q.1) :: (q.2.1, q.2.2.1) :: (61, tabObj q.2.2.2.1) :: (q.2.2.2.2.1, q.2.2.2.2.2) :: fixed
structure PrOk (fixed : List (Addr × Obj)) (p4 : Array Value) (c4 : Addr) (o4 : Obj) (p6 : Array Value) (c6 : Addr) (o6 : Obj) : Prop where
 t4 : TS 54 36 4 qI p4 c4 o4
 t6 : TS 61 51 4 qD p6 c6 o6
 d1 : @Ne Nat c4 61
 d2 : @Ne Nat c6 54
 d3 : @Ne Nat c4 c6
 f54 : AllNe 54 fixed
 f4 : AllNe c4 fixed
 f61 : AllNe 61 fixed
 f6 : AllNe c6 fixed
def PrP1 (fixed : List (Addr × Obj)) (xs zs : List Int) (i : Nat) (ys : List Value) (q : SPr) : Prop := IntsAre ys (prodsI (xs.take i) zs) ∧ PrOk fixed q.1 q.2.1 q.2.2.1 q.2.2.2.1 q.2.2.2.2.1 q.2.2.2.2.2
def PrP2 (fixed : List (Addr × Obj)) (xs zs : List Int) (i : Nat) (x : Int) (I : Addr) (j : Nat) (ys : List Value) (q : SPr) : Prop := IntsAre ys (prodsI (xs.take i) zs ++ (zs.take j).map (nimP x)) ∧ PrOk fixed q.1 q.2.1 q.2.2.1 q.2.2.2.1 q.2.2.2.2.1 q.2.2.2.2.2 ∧ AllNe I (ledPr fixed q)
def ProdEnd (h₀ : Heap) (L : Addr) (m : Str → Option Value) (s₁ : Shared) (rest : List (Addr × Obj)) (r : Int) (y : Value) (s₂ : Shared) : Prop :=
 ∃ t p4 c4 o4 p6 c6 o6 h' tk, y = .int r t ∧ s₂ = { s₁ with heap := h', toks := tk } ∧ Fr h₀ L h' m ∧ News h₀ L h' ((54, tabObj p4) :: (c4, o4) :: (61, tabObj p6) :: (c6, o6) :: rest) ∧ OffAll rest [(54, tabObj p4), (c4, o4), (61, tabObj p6), (c6, o6)] ∧ TS 54 36 4 qI p4 c4 o4 ∧ TS 61 51 4 qD p6 c6 o6 ∧ @Ne Nat c4 61 ∧ @Ne Nat c6 54 ∧ @Ne Nat c4 c6
theorem prods_prep {G : Prop} {h₀ h : Heap} {L : Addr} {news fixed : List (Addr × Obj)} {p4 p6 : Array Value} {c4 c6 : Addr} {o4 o6 : Obj} (t4 : TS 54 36 4 qI p4 c4 o4) (t6 : TS 61 51 4 qD p6 c6 o6) (N : News h₀ L h news)
  (hled : ∀ p ∈ [(54, tabObj p4), (c4, o4), (61, tabObj p6), (c6, o6)], p ∈ news) (hrem : Rem [(54, tabObj p4), (c4, o4), (61, tabObj p6), (c6, o6)] news fixed) (d1 : @Ne Nat c4 61) (d2 : @Ne Nat c6 54) (d3 : @Ne Nat c4 c6)
  (k : News h₀ L h (ledPr fixed (p4, c4, o4, p6, c6, o6)) → PrOk fixed p4 c4 o4 p6 c6 o6 → G) : G := by
 have off := hrem.off
 have sub := hrem.sub
 refine k (fun p hp => ?_) ⟨t4, t6, d1, d2, d3, AllNe.of fun p hp => off p hp _ (.head _), AllNe.of fun p hp => off p hp _ (.tail _ (.head _)), AllNe.of fun p hp => off p hp _ (.tail _ (.tail _ (.head _))), AllNe.of fun p hp => off p hp _ (.tail _ (.tail _ (.tail _ (.head _))))⟩
 simp only [ledPr, List.mem_cons] at hp
 rcases hp with h | h | h | h | h
 ·exact N p (hled p (by simp [h]))
 ·exact N p (hled p (by simp [h]))
 ·exact N p (hled p (by simp [h]))
 ·exact N p (hled p (by simp [h]))
 ·exact N p (sub p h)
section
variable {prog : Program} {w : World} {A : Around}
theorem prods_cr {h₀ : Heap} {L I C D : Addr} {m : Str → Option Value} {keep1 : List (Addr × Obj)} {c1 : Code} {x1 x2 : Str} {p2 : Pos} {elt t1 i1 i2 : Expr} {scope : Scope} {cp : Pos} {cenv : Env} {E : Value → Shared → Prop} {s : Shared} {Fin : List Value → List (Addr × Obj) → Prop} {vs : List Value} {xs : List Int} {n : Int} {fixed : List (Addr × Obj)} {p4 p6 : Array Value} {c4 c6 : Addr} {o4 o6 : Obj}
  (hO : PrOk fixed p4 c4 o4 p6 c6 o6) (hia : IntsAre vs (xs.map fun x => pk x n)) (hk : SubL keep1 fixed) (zs : List Int)
  (hh : A.handled = none) (hC : cenv.locals = C) (hCD : C ≠ D) (hCL : C ≠ L) (hC₀ : h₀.get? C = none) (hDL : D ≠ L) (hD₀ : h₀.get? D = none) (hIC : I ≠ C ∧ I ≠ D)
  (hs2 : ∀ x, foldedSetIterable i2 cenv x = pure x) (T : Asg prog w A (.Name x2 p2) cenv (fun _ => True) (GName x2))
  (turn : ∀ (i : Nat) (x : Int) (t : Tok) (ys : List Value) (q : SPr) (oC oI : Obj) (m₂ : Str → Option Value) (h : Heap) (tk : Nat), xs[i]? = some x → PrP1 fixed xs zs i ys q → m₂ x1 = some (.int (pk x n) t) → NsObj oC m₂ → Fr h₀ L h m → OffCD C D (ledPr fixed q) → AllNe I (ledPr fixed q) →
   News h₀ L h ((I, oI) :: (C, oC) :: (D, lst ys) :: ledPr fixed q) →
   wpAny (model prog w) A (eval i2 cenv) (It2 prog w A h₀ L m { s with heap := h, toks := tk } I oI C oC D ys (ledPr fixed) q (fun m' => m' x1 = some (.int (pk x n) t)) (GName x2) (fun J => .compLoop (.ListComp elt [⟨t1, i1, [], 0⟩, ⟨.Name x2 p2, i2, [], 0⟩] scope cp) 1 (.ref J) (.ref D) cenv) (fun J => emitB elt (.ref D) cenv (.compLoop (.ListComp elt [⟨t1, i1, [], 0⟩, ⟨.Name x2 p2, i2, [], 0⟩] scope cp) 1 (.ref J) (.ref D) cenv)) (PrP1 fixed xs zs (i + 1))) E { s with heap := h, toks := tk })
  (fin : ∀ ys p4 c4 o4 p6 c6 o6, IntsAre ys (prodsI xs zs) → PrOk fixed p4 c4 o4 p6 c6 o6 → Fin ys (ledPr fixed (p4, c4, o4, p6, c6, o6))) :
  CR prog w A h₀ L m C D [(I, "list_iterator")] keep1 (fun _ => True) (GName x1) c1
   (eval i2 cenv >>= fun x => standAt i2.pos >>= fun _ => foldedSetIterable i2 cenv x >>= fun x => holding [x] (pyIter x) >>= fun it2 => runOwn (.compStart (.ListComp elt [⟨t1, i1, [], 0⟩, ⟨.Name x2 p2, i2, [], 0⟩] scope cp) 1 it2 (.ref D) cenv) cenv >>= fun _ => again c1)
   E s Fin (vs.map .val) [] (ledPr fixed (p4, c4, o4, p6, c6, o6)) := by
 refine cr2_fold (ledPr fixed) (PrP1 fixed xs zs) hh hC hCD hCL hC₀ hDL hD₀ hIC.1 hIC.2 hs2 T (fun J => turn_2b _ _ _ _ _ _ _ _ _ _) (fun q => subL_of fun p hp => .tail _ (.tail _ (.tail _ (.tail _ (hk.mem p hp))))) ?_ ?_ vs.length 0 [] (p4, c4, o4, p6, c6, o6) (by kaf_pre) ⟨.nil, hO⟩
 ·intro i v ys q oC oI m₂ h tk hv hP hx hoC F off ai N
  obtain ⟨k, t, rfl, hk'⟩ := IntsAre.at hia i v hv
  rw [List.getElem?_map] at hk'
  obtain ⟨x, hx1, rfl⟩ := Option.map_eq_some_iff.mp hk'
  exact turn i x t ys q oC oI m₂ h tk hx1 hP hx hoC F off ai N
 ·intro ys q hP
  obtain ⟨h1, h2⟩ := hP
  have e := hia.length
  rw [List.length_map] at e
  rw [e, List.take_length] at h1
  obtain ⟨q1, q2, q3, q4, q5, q6⟩ := q
  exact fin ys q1 q2 q3 q4 q5 q6 h1 h2
theorem prods_in {h₀ h' : Heap} {L I C D Dr : Addr} {m : Str → Option Value} {s₁ : Shared} {oI oC : Obj} {ys0 : List Value} {x1 x2 : Str} {elt : Expr} {cenv : Env} {c2 : Addr → Code} {tk' : Nat} {us : List Value} {xs zs : List Int} {n : Int} {kd : Nat} {fixed : List (Addr × Obj)} {q : SPr} {i : Nat} {x : Int} {t : Tok}
  (hib : IntsAre us (zs.map fun x => pk x n)) (hk : xs[i]? = some x) (hP : PrP1 fixed xs zs i ys0 q) (F : Fr h₀ L h' m) (N : News h₀ L h' ((I, oI) :: (C, oC) :: (D, lst ys0) :: ledPr fixed q)) (hDr : (Dr, listOf us.toArray kd) ∈ fixed) (ai : AllNe I (ledPr fixed q)) (hx : x1 ≠ x2) (hCD : C ≠ D) (hIC : I ≠ C ∧ I ≠ D) (sl : ∀ x ∈ xs, 0 ≤ x ∧ x ≤ 3) (sr : ∀ x ∈ zs, 0 ≤ x ∧ x ≤ 3) (hl : xs.length ≤ 20) (hr : zs.length ≤ 20)
  (turn : ∀ (J : Addr) (s₂ : Shared) (E' : Value → Shared → Prop) (y : Int) (ty : Tok) (ys : List Value) (p4 p6 : Array Value) (c4 c6 : Addr) (o4 o6 oC oJ : Obj) (m₂ : Str → Option Value) (h : Heap) (tk : Nat), (0 ≤ x ∧ x ≤ 3) → (0 ≤ y ∧ y ≤ 3) → TS 54 36 4 qI p4 c4 o4 → TS 61 51 4 qD p6 c6 o6 → @Ne Nat c4 61 → @Ne Nat c6 54 → @Ne Nat c4 c6 → m₂ x1 = some (.int (pk x n) t) → m₂ x2 = some (.int (pk y n) ty) → NsObj oC m₂ → Fr h₀ L h m →
   Rem [(54, tabObj p4), (c4, o4), (61, tabObj p6), (c6, o6)] ((J, oJ) :: (C, oC) :: (D, lst ys) :: (I, oI) :: ledPr fixed (p4, c4, o4, p6, c6, o6)) ((J, oJ) :: (C, oC) :: (D, lst ys) :: (I, oI) :: fixed) →
   News h₀ L h ((J, oJ) :: (C, oC) :: (D, lst ys) :: (I, oI) :: ledPr fixed (p4, c4, o4, p6, c6, o6)) →
   wpAny (model prog w) A (eval elt cenv) (ProdEnd h₀ L m { s₂ with heap := h, toks := tk } ((J, oJ) :: (C, oC) :: (D, lst ys) :: (I, oI) :: fixed) (nimP x y)) E' { s₂ with heap := h, toks := tk }) :
  It2 prog w A h₀ L m s₁ I oI C oC D ys0 (ledPr fixed) q (fun m' => m' x1 = some (.int (pk x n) t)) (GName x2) c2 (fun J => emitB elt (.ref D) cenv (c2 J)) (PrP1 fixed xs zs (i + 1)) (.ref Dr) { s₁ with heap := h', toks := tk' } := by
 have hm : (Dr, listOf us.toArray kd) ∈ (I, oI) :: (C, oC) :: (D, lst ys0) :: ledPr fixed q := by (repeat (first | assumption | (with_reducible exact List.mem_cons_self) | apply List.mem_cons_of_mem))
 refine It2.intro [(Dr, listOf us.toArray kd)] F N ⟨_, (N _ hm).1, rfl, _, rfl⟩ ⟨by (repeat (first | assumption | (with_reducible exact List.mem_cons_self) | apply List.mem_cons_of_mem)), trivial⟩ (.inr ⟨_, .head _⟩) fun J s₂ E' hJ => ?_
 have hmemX : x ∈ xs := List.mem_of_getElem? hk
 have hlenI : (prodsI (xs.take i) zs).length ≤ 400 := by
  rw [prodsI_len]
  have h1 : (xs.take i).length ≤ 20 := by rw [List.length_take]; kaf_pre
  exact Nat.le_trans (Nat.mul_le_mul h1 hr) (by decide)
 refine inner_fold (q0 := q) (oI := oI) (oC := oC) (ledPr fixed) (PrP2 fixed xs zs i x I) _ hx hCD hIC.1 hIC.2 hJ (fun k ys q' h => ?_) (fun q' => ⟨by (repeat (first | assumption | (with_reducible exact List.mem_cons_self) | apply List.mem_cons_of_mem)), trivial⟩) (fun _ _ _ h => h.2.2) ?_ ⟨by simpa using hP.1, hP.2, ai⟩ ?_
 ·have e := h.1.length
  rw [List.length_append, List.length_map, List.length_take] at e
  rw [PySem.sizeLine_eq]
  kaf_pre
 ·rintro j v ys ⟨p4, c4, o4, p6, c6, o6⟩ oC oJ m₂ h tk hv hP2 h1 h2 hoC F' off hIJ aj N'
  obtain ⟨hL2, hT2, hI2⟩ := hP2
  dsimp only at hT2
  obtain ⟨k, ty, rfl, hk'⟩ := IntsAre.at hib j v hv
  rw [List.getElem?_map] at hk'
  obtain ⟨y, hy1, rfl⟩ := Option.map_eq_some_iff.mp hk'
  have offm := off.mem
  have ajm := aj.mem
  have hIm := hI2.mem
  have led4 : ∀ a : Addr, (∀ p ∈ ledPr fixed (p4, c4, o4, p6, c6, o6), @Ne Nat p.1 a) → AllNe a [(54, tabObj p4), (c4, o4), (61, tabObj p6), (c6, o6)] := fun a h => ⟨h _ (by (repeat (first | assumption | (with_reducible exact List.mem_cons_self) | apply List.mem_cons_of_mem))), h (c4, o4) (by (repeat (first | assumption | (with_reducible exact List.mem_cons_self) | apply List.mem_cons_of_mem))), h (61, tabObj p6) (by (repeat (first | assumption | (with_reducible exact List.mem_cons_self) | apply List.mem_cons_of_mem))), h (c6, o6) (by (repeat (first | assumption | (with_reducible exact List.mem_cons_self) | apply List.mem_cons_of_mem))), trivial⟩
  have hrem : Rem [(54, tabObj p4), (c4, o4), (61, tabObj p6), (c6, o6)] ((J, oJ) :: (C, oC) :: (D, lst ys) :: (I, oI) :: ledPr fixed (p4, c4, o4, p6, c6, o6)) ((J, oJ) :: (C, oC) :: (D, lst ys) :: (I, oI) :: fixed) :=
   .keep (led4 J ajm) (.keep (led4 C fun p hp => (offm p hp).1) (.keep (led4 D fun p hp => (offm p hp).2) (.keep (led4 I hIm) (.drop (.drop (.drop (.drop (Rem.keepAll fun p hp =>
    ⟨Ne.symm (hT2.f54.mem p hp), Ne.symm (hT2.f4.mem p hp), Ne.symm (hT2.f61.mem p hp), Ne.symm (hT2.f6.mem p hp), trivial⟩))))))))
  refine wpAny_mono (turn J s₂ E' y ty ys p4 p6 c4 c6 o4 o6 oC oJ m₂ h tk (sl x hmemX) (sr y (List.mem_of_getElem? hy1)) hT2.t4 hT2.t6 hT2.d1 hT2.d2 hT2.d3 h1 h2 hoC F' hrem N') (fun yv s₃ hy => ?_) fun _ _ e => e
  obtain ⟨t9, p4', c4', o4', p6', c6', o6', h9, tk9, rfl, rfl, F9, N9, o, hT4, hT6, e1, e2, e3⟩ := hy
  have om := o.mem
  have mI : ((I, oI) : Addr × Obj) ∈ (J, oJ) :: (C, oC) :: (D, lst ys) :: (I, oI) :: fixed := by (repeat (first | assumption | (with_reducible exact List.mem_cons_self) | apply List.mem_cons_of_mem))
  have mJ : ((J, oJ) : Addr × Obj) ∈ (J, oJ) :: (C, oC) :: (D, lst ys) :: (I, oI) :: fixed := by (repeat (first | assumption | (with_reducible exact List.mem_cons_self) | apply List.mem_cons_of_mem))
  have mC : ((C, oC) : Addr × Obj) ∈ (J, oJ) :: (C, oC) :: (D, lst ys) :: (I, oI) :: fixed := by (repeat (first | assumption | (with_reducible exact List.mem_cons_self) | apply List.mem_cons_of_mem))
  have mD : ((D, lst ys) : Addr × Obj) ∈ (J, oJ) :: (C, oC) :: (D, lst ys) :: (I, oI) :: fixed := by (repeat (first | assumption | (with_reducible exact List.mem_cons_self) | apply List.mem_cons_of_mem))
  have mF : ∀ p ∈ fixed, p ∈ (J, oJ) :: (C, oC) :: (D, lst ys) :: (I, oI) :: fixed := fun p hp => by (repeat (first | assumption | (with_reducible exact List.mem_cons_self) | apply List.mem_cons_of_mem))
  have neAll : ∀ (a : Addr) (oa : Obj), (a, oa) ∈ (J, oJ) :: (C, oC) :: (D, lst ys) :: (I, oI) :: fixed → (∀ p ∈ fixed, @Ne Nat p.1 a) → ∀ p ∈ ledPr fixed (p4', c4', o4', p6', c6', o6'), @Ne Nat p.1 a := by
   intro a oa ha hf p hp
   simp only [ledPr, List.mem_cons] at hp
   rcases hp with h | h | h | h | h
   ·rw [h]; exact Ne.symm (om (a, oa) ha _ (by (repeat (first | assumption | (with_reducible exact List.mem_cons_self) | apply List.mem_cons_of_mem))))
   ·rw [h]; exact Ne.symm (om (a, oa) ha (c4', o4') (by (repeat (first | assumption | (with_reducible exact List.mem_cons_self) | apply List.mem_cons_of_mem))))
   ·rw [h]; exact Ne.symm (om (a, oa) ha (61, tabObj p6') (by (repeat (first | assumption | (with_reducible exact List.mem_cons_self) | apply List.mem_cons_of_mem))))
   ·rw [h]; exact Ne.symm (om (a, oa) ha (c6', o6') (by (repeat (first | assumption | (with_reducible exact List.mem_cons_self) | apply List.mem_cons_of_mem))))
   ·exact hf p h
  have inF : ∀ p ∈ fixed, p ∈ ledPr fixed (p4, c4, o4, p6, c6, o6) := fun p hp => by (repeat (first | assumption | (with_reducible exact List.mem_cons_self) | apply List.mem_cons_of_mem))
  refine ⟨(p4', c4', o4', p6', c6', o6'), h9, tk9, rfl, F9, fun p hp => N9 p ?_, ⟨⟨hIC.1, hIC.2⟩, OffCD.of fun p hp => ⟨neAll C oC mC (fun p hp => (offm p (inF p hp)).1) p hp, neAll D (lst ys) mD (fun p hp => (offm p (inF p hp)).2) p hp⟩⟩, ⟨hIJ, AllNe.of fun p hp => neAll J oJ mJ (fun p hp => ajm p (inF p hp)) p hp⟩, ?_⟩
  ·simp only [ledPr, List.mem_cons] at hp ⊢
   rcases hp with h | h | h | h | h | h | h | h | h <;> simp [h]
  ·refine ⟨?_, ⟨hT4, hT6, e1, e2, e3, hT2.f54, AllNe.of fun p hp => om p (mF p hp) (c4', o4') (by (repeat (first | assumption | (with_reducible exact List.mem_cons_self) | apply List.mem_cons_of_mem))), hT2.f61, AllNe.of fun p hp => om p (mF p hp) (c6', o6') (by (repeat (first | assumption | (with_reducible exact List.mem_cons_self) | apply List.mem_cons_of_mem)))⟩, AllNe.of fun p hp => neAll I oI mI (fun p hp => hIm p (inF p hp)) p hp⟩
   have e : (zs.take (j + 1)).map (nimP x) = (zs.take j).map (nimP x) ++ [nimP x y] := by rw [List.take_add_one, hy1, List.map_append]; rfl
   rw [e, ← List.append_assoc]
   exact IntsAre.append hL2 (.cons _ _ .nil)
 ·intro ys q' h
  obtain ⟨h1, h2, _⟩ := h
  have e0 := hib.length
  rw [List.length_map] at e0
  rw [e0, List.take_length] at h1
  refine ⟨?_, h2⟩
  rw [tk_succ hk, prodsI_snoc]
  exact h1
end
theorem prod_c2 (w : World) (dp un : Nat) (gd : Option (List Code)) (s : Shared) (x y a b n : Int) (ta tb tn : Tok) (p4 p6 : Array Value) (c4 c6 : Addr) (o4 o6 : Obj)
  (hdp : dp + 240 < recursionLimit) (hun : un + 1600 < cLine) (ha : a = pk x n) (hb : b = pk y n) (hn : 3 ≤ n ∧ n ≤ 8) (hx : 0 ≤ x ∧ x ≤ 3) (hy : 0 ≤ y ∧ y ≤ 3)
  (h4 : TS 54 36 4 qI p4 c4 o4) (h6 : TS 61 51 4 qD p6 c6 o6) (hd1 : @Ne Nat c4 61) (hd2 : @Ne Nat c6 54) (hd3 : @Ne Nat c4 c6) :
  Ctr w dp un gd s 365 ⟨[.int a ta, .int b tb, .int n tn], []⟩ [(54, tabObj p4), (c4, o4), (61, tabObj p6), (c6, o6)] (fun _ => True) (TabQ (nimP x y)) :=
 prod_c w dp un gd s x y a b n ta tb tn p4 p6 c4 c6 o4 o6 hdp hun hn hx hy ha hb h4 h6 hd1 hd2 hd3
theorem width_bd (x : Int) : 3 ≤ 3 + x.fmod 6 ∧ 3 + x.fmod 6 ≤ 8 := by
 rw [Int.fmod_eq_emod_of_nonneg _ (by decide)]
 kaf_pre
theorem width_bd0 (x : Int) : 0 ≤ 3 + x.fmod 6 ∧ 3 + x.fmod 6 ≤ 16 := by
 have := width_bd x
 kaf_pre
theorem len_l (ns : List Int) : (worthsOf (glOf ns)).length ≤ 20 := by rw [worths_len]; exact Nat.le_of_ble_eq_true rfl
theorem len_r (ns : List Int) : (worthsOf (grOf ns)).length ≤ 20 := by rw [worths_len]; exact Nat.le_of_ble_eq_true rfl
def AllPs : List Prop → Prop
 | [] => True
 | P :: r => P ∧ AllPs r
inductive PwF : List (Addr × Obj) → List Prop → Prop
 | nil : PwF [] []
 | consT {P : Addr} {ps : Array Value} {c : Addr} {o : Obj} {r : List (Addr × Obj)} {fs : List Prop} : AllNe P r → PwF ((c, o) :: r) fs → PwF ((P, tabObj ps) :: (c, o) :: r) (AllNe P r :: fs)
 | cons {p : Addr × Obj} {r : List (Addr × Obj)} {fs : List Prop} : AllNe p.1 r → PwF r fs → PwF (p :: r) (AllNe p.1 r :: fs)
theorem PwF.ok {l : List (Addr × Obj)} {fs : List Prop} (h : PwF l fs) : AllPs fs := by
 induction h with
 | nil => trivial
 | consT h _ ih => exact ⟨h, ih⟩
 | cons h _ ih => exact ⟨h, ih⟩
theorem pwTS {ps : Array Value} {c : Addr} {o : Obj} {r : List (Addr × Obj)} {fs : List Prop} (_h : TS 61 51 4 qD ps c o) (a : AllNe 61 r) (b : PwF ((c, o) :: r) fs) : PwF ((61, tabObj ps) :: (c, o) :: r) (AllNe 61 r :: fs) := .consT a b
inductive KeepF (dn : List (Addr × Obj)) : List (Addr × Obj) → List (Addr × Obj) → List Prop → Prop
 | base : KeepF dn [] dn []
 | keep {p a b fs} {P : Prop} : P → AllNe p.1 dn → KeepF dn a b fs → KeepF dn (p :: a) (p :: b) (P :: fs)
 | drop {p a b fs} : KeepF dn a b fs → KeepF dn a (p :: b) fs
theorem KeepF.ok {dn a b : List (Addr × Obj)} {fs : List Prop} (h : KeepF dn a b fs) : (∀ p ∈ a ++ dn, p ∈ b) ∧ (∀ p ∈ a, AllNe p.1 dn) ∧ AllPs fs := by
 induction h with
 | base => exact ⟨fun _ h => h, (fun _ h => nomatch h), trivial⟩
 | keep hP hn _ ih => exact ⟨fun p hp => (List.mem_cons.mp hp).elim (fun e => e ▸ List.mem_cons_self ..) (fun hp => .tail _ (ih.1 p hp)), fun p hp => (List.mem_cons.mp hp).elim (fun e => e ▸ hn) (fun hp => ih.2.1 p hp), hP, ih.2.2⟩
 | drop _ ih => exact ⟨fun p hp => .tail _ (ih.1 p hp), ih.2⟩
theorem keepF_L {dn x y : List (Addr × Obj)} {fs : List Prop} {a : Addr} {ys : List Value} {ns : List Int} {i j k : Nat} (h : ListsAt dn ys [mvsOf ns i, mvsOf ns j, mvsOf ns k]) (n : AllNe a dn) (r : KeepF dn x y fs) : KeepF dn ((a, lst ys) :: x) ((a, lst ys) :: y) (ListsAt dn ys [mvsOf ns i, mvsOf ns j, mvsOf ns k] :: fs) := .keep h n r
theorem keepF_T {dn x y : List (Addr × Obj)} {fs : List Prop} {c : Addr} {o : Obj} {ps : Array Value} (h : TS 61 51 4 qD ps c o) (n : AllNe c dn) (r : KeepF dn x y fs) : KeepF dn ((c, o) :: x) ((c, o) :: y) (TS 61 51 4 qD ps c o :: fs) := .keep h n r
theorem keepF_tab {dn x y : List (Addr × Obj)} {fs : List Prop} {c : Addr} {ps : Array Value} (n : AllNe c dn) (r : KeepF dn x y fs) : KeepF dn ((c, tabObj ps) :: x) ((c, tabObj ps) :: y) (True :: fs) := .keep trivial n r
theorem keepF_W {dn x y : List (Addr × Obj)} {fs : List Prop} {a : Addr} {o : Obj} {e : Int} {t : Tok} (h : o.data = .cell (some (.int (3 + e.fmod 6) t))) (n : AllNe a dn) (r : KeepF dn x y fs) : KeepF dn ((a, o) :: x) ((a, o) :: y) ((∃ k t, (3 ≤ k ∧ k ≤ 8) ∧ o.data = .cell (some (.int k t))) :: fs) := .keep ⟨_, _, width_bd e, h⟩ n r
theorem keepF_C {dn x y : List (Addr × Obj)} {fs : List Prop} {a : Addr} {o : Obj} {v : Option Value} (h : o.data = .cell v) (n : AllNe a dn) (r : KeepF dn x y fs) : KeepF dn ((a, o) :: x) ((a, o) :: y) ((o.data = .cell v) :: fs) := .keep h n r
theorem allNe_c {a d : Addr} {o : Obj} {r : List (Addr × Obj)} (h : @Ne Nat a d) (t : AllNe d r) : AllNe d ((a, o) :: r) := ⟨h, t⟩
theorem allNe_n {d : Addr} : AllNe d [] := trivial
theorem pwC {a : Addr} {o : Obj} {r : List (Addr × Obj)} {fs : List Prop} (h : AllNe a r) (t : PwF r fs) : PwF ((a, o) :: r) (AllNe a r :: fs) := .cons h t
theorem cut_prep {G G1 G2 G3 G4 G5 : Prop} {h₀ h : Heap} {L : Addr} {dn pre b : List (Addr × Obj)} {fs : List Prop} {ys : List Value} {ns : List Int} {g1 g2 : List Int} (_LR : ListsAt dn ys [mvsOf ns 3, g1, g2]) (N : News h₀ L h b) (K : KeepF dn pre b fs) {qs : List Prop} (P : PwF pre qs) (f1 : G1) (f2 : G2) (f3 : G3) (f4 : G4) (f5 : G5)
  (k : G1 → G2 → G3 → G4 → G5 → News h₀ L h (pre ++ dn) → (∀ p ∈ pre, AllNe p.1 dn) → AllPs fs → AllPs qs → G) : G :=
 k f1 f2 f3 f4 f5 (fun p hp => N p (K.ok.1 p hp)) K.ok.2.1 K.ok.2.2 P.ok
theorem wd16 {n : Int} (h : 3 ≤ n ∧ n ≤ 8) : 0 ≤ n ∧ n ≤ 16 := by kaf_pre
end Mine
end
section
namespace Mine
theorem over_q1 : ∀ u0 ∈ Q4, over [u0] 2 ∈ Q4 ∧ over [u0] 3 ∈ Q4 := by decide +kernel
theorem over_q2 : ∀ u0 ∈ Q4, ∀ u1 ∈ Q4, over [u0, u1] 4 ∈ Q4 ∧ over [u0, u1] 5 ∈ Q4 ∧ over [u0, u1] 6 ∈ Q4 ∧ over [u0, u1] 7 ∈ Q4 := by decide +kernel
theorem q2_q4 {x : Int} (h : x ∈ ([0, 1] : List Int)) : x ∈ Q4 := (by decide : ∀ x ∈ ([0, 1] : List Int), x ∈ Q4) x h
theorem q3_q4 {x : Int} (h : x ∈ ([0, 1, 2] : List Int)) : x ∈ Q4 := (by decide : ∀ x ∈ ([0, 1, 2] : List Int), x ∈ Q4) x h
theorem mex_bd (ws ms : List Int) : 0 ≤ mex (rowOf ws ms) ∧ mex (rowOf ws ms) ≤ ms.length := by
 have a := mexFrom_bd (rowOf ws ms) 0
 have b := rowOf_len ws ms
 unfold mex
 kaf_pre
structure Side (g0 g1 g2 : List Int) : Prop where
 m0 : ∀ a ∈ g0, a = 1
 m1 : ∀ a ∈ g1, a = 2 ∨ a = 3
 m2 : ∀ a ∈ g2, a = 4 ∨ a = 5 ∨ a = 6 ∨ a = 7
 l0 : g0.length ≤ 1
 l1 : g1.length ≤ 2
 l2 : g2.length ≤ 3
theorem Side.v0 {g0 g1 g2 : List Int} (S : Side g0 g1 g2) {u0 : Int} (h : u0 = mex (rowOf [] g0)) : u0 ∈ ([0, 1] : List Int) := by
 have a := mex_bd [] g0
 have b := S.l0
 simp only [List.mem_cons, List.not_mem_nil, or_false]; kaf_pre
theorem Side.v1 {g0 g1 g2 : List Int} (S : Side g0 g1 g2) {u0 u1 : Int} (h : u1 = mex (rowOf [u0] g1)) : u1 ∈ ([0, 1, 2] : List Int) := by
 have a := mex_bd [u0] g1
 have b := S.l1
 simp only [List.mem_cons, List.not_mem_nil, or_false]; kaf_pre
theorem Side.v2 {g0 g1 g2 : List Int} (S : Side g0 g1 g2) {u0 u1 u2 : Int} (h : u2 = mex (rowOf [u0, u1] g2)) : u2 ∈ Q4 := by
 have a := mex_bd [u0, u1] g2
 have b := S.l2
 simp only [Q4, List.mem_cons, List.not_mem_nil, or_false]; kaf_pre
theorem Side.o0 {g0 g1 g2 : List Int} (S : Side g0 g1 g2) : ∀ a ∈ g0, over [] a ∈ Q4 := fun a ha => by rw [S.m0 a ha]; decide +kernel
theorem Side.o1 {g0 g1 g2 : List Int} (S : Side g0 g1 g2) {u0 : Int} (h : u0 ∈ Q4) : ∀ a ∈ g1, over [u0] a ∈ Q4 := fun a ha => by
 rcases S.m1 a ha with rfl | rfl
 ·exact (over_q1 u0 h).1
 ·exact (over_q1 u0 h).2
theorem Side.o2 {g0 g1 g2 : List Int} (S : Side g0 g1 g2) {u0 u1 : Int} (h : u0 ∈ Q4) (h1 : u1 ∈ Q4) : ∀ a ∈ g2, over [u0, u1] a ∈ Q4 := fun a ha => by
 rcases S.m2 a ha with rfl | rfl | rfl | rfl
 ·exact (over_q2 u0 h u1 h1).1
 ·exact (over_q2 u0 h u1 h1).2.1
 ·exact (over_q2 u0 h u1 h1).2.2.1
 ·exact (over_q2 u0 h u1 h1).2.2.2
theorem cell_00 {g0 g1 g2 k0 k1 k2 : List Int} (S : Side g0 g1 g2) (T : Side k0 k1 k2) {u0 u1 u2 v0 v1 v2 : Int} (hu0 : u0 = mex (rowOf [] g0)) (hu1 : u1 = mex (rowOf [u0] g1)) (hu2 : u2 = mex (rowOf [u0, u1] g2)) (hv0 : v0 = mex (rowOf [] k0)) (hv1 : v1 = mex (rowOf [v0] k1)) (hv2 : v2 = mex (rowOf [v0, v1] k2)) : mex (rowOf [] (weaveI g0 k0)) = nimP u0 v0 := by
 refine cell_mex (wsL := []) (wsR := []) hu0 hv0 (q2_q4 (S.v0 hu0)) (q2_q4 (T.v0 hv0)) S.o0 T.o0 fun a ha b hb => ?_
 ·skip
  rw [S.m0 a ha, T.m0 b hb]
  ·exact ov_1_1 _ _ (S.v0 hu0) (T.v0 hv0)
theorem cell_01 {g0 g1 g2 k0 k1 k2 : List Int} (S : Side g0 g1 g2) (T : Side k0 k1 k2) {u0 u1 u2 v0 v1 v2 : Int} (hu0 : u0 = mex (rowOf [] g0)) (hu1 : u1 = mex (rowOf [u0] g1)) (hu2 : u2 = mex (rowOf [u0, u1] g2)) (hv0 : v0 = mex (rowOf [] k0)) (hv1 : v1 = mex (rowOf [v0] k1)) (hv2 : v2 = mex (rowOf [v0, v1] k2)) : mex (rowOf [nimP u0 v0] (weaveI g0 k1)) = nimP u0 v1 := by
 refine cell_mex (wsL := []) (wsR := [v0]) hu0 hv1 (q2_q4 (S.v0 hu0)) (q3_q4 (T.v1 hv1)) S.o0 (T.o1 (q2_q4 (T.v0 hv0))) fun a ha b hb => ?_
 ·skip
  rw [S.m0 a ha]
  rcases T.m1 b hb with rfl | rfl
  ·exact ov_1_2 _ _ _ (S.v0 hu0) (T.v0 hv0) (T.v1 hv1)
  ·exact ov_1_3 _ _ _ (S.v0 hu0) (T.v0 hv0) (T.v1 hv1)
theorem cell_02 {g0 g1 g2 k0 k1 k2 : List Int} (S : Side g0 g1 g2) (T : Side k0 k1 k2) {u0 u1 u2 v0 v1 v2 : Int} (hu0 : u0 = mex (rowOf [] g0)) (hu1 : u1 = mex (rowOf [u0] g1)) (hu2 : u2 = mex (rowOf [u0, u1] g2)) (hv0 : v0 = mex (rowOf [] k0)) (hv1 : v1 = mex (rowOf [v0] k1)) (hv2 : v2 = mex (rowOf [v0, v1] k2)) : mex (rowOf [nimP u0 v0, nimP u0 v1] (weaveI g0 k2)) = nimP u0 v2 := by
 refine cell_mex (wsL := []) (wsR := [v0, v1]) hu0 hv2 (q2_q4 (S.v0 hu0)) (T.v2 hv2) S.o0 (T.o2 (q2_q4 (T.v0 hv0)) (q3_q4 (T.v1 hv1))) fun a ha b hb => ?_
 ·skip
  rw [S.m0 a ha]
  rcases T.m2 b hb with rfl | rfl | rfl | rfl
  ·exact ov_1_4 _ _ _ _ (S.v0 hu0) (T.v0 hv0) (T.v1 hv1) (T.v2 hv2)
  ·exact ov_1_5 _ _ _ _ (S.v0 hu0) (T.v0 hv0) (T.v1 hv1) (T.v2 hv2)
  ·exact ov_1_6 _ _ _ _ (S.v0 hu0) (T.v0 hv0) (T.v1 hv1) (T.v2 hv2)
  ·exact ov_1_7 _ _ _ _ (S.v0 hu0) (T.v0 hv0) (T.v1 hv1) (T.v2 hv2)
theorem cell_10 {g0 g1 g2 k0 k1 k2 : List Int} (S : Side g0 g1 g2) (T : Side k0 k1 k2) {u0 u1 u2 v0 v1 v2 : Int} (hu0 : u0 = mex (rowOf [] g0)) (hu1 : u1 = mex (rowOf [u0] g1)) (hu2 : u2 = mex (rowOf [u0, u1] g2)) (hv0 : v0 = mex (rowOf [] k0)) (hv1 : v1 = mex (rowOf [v0] k1)) (hv2 : v2 = mex (rowOf [v0, v1] k2)) {x1 x2 : Int} : mex (rowOf [nimP u0 v0, x1, x2] (weaveI g1 k0)) = nimP u1 v0 := by
 refine cell_mex (wsL := [u0]) (wsR := []) hu1 hv0 (q3_q4 (S.v1 hu1)) (q2_q4 (T.v0 hv0)) (S.o1 (q2_q4 (S.v0 hu0))) T.o0 fun a ha b hb => ?_
 ·skip
  rw [T.m0 b hb]
  rcases S.m1 a ha with rfl | rfl
  ·exact ov_2_1 _ _ _ _ _ (S.v0 hu0) (S.v1 hu1) (T.v0 hv0)
  ·exact ov_3_1 _ _ _ _ _ (S.v0 hu0) (S.v1 hu1) (T.v0 hv0)
theorem cell_11 {g0 g1 g2 k0 k1 k2 : List Int} (S : Side g0 g1 g2) (T : Side k0 k1 k2) {u0 u1 u2 v0 v1 v2 : Int} (hu0 : u0 = mex (rowOf [] g0)) (hu1 : u1 = mex (rowOf [u0] g1)) (hu2 : u2 = mex (rowOf [u0, u1] g2)) (hv0 : v0 = mex (rowOf [] k0)) (hv1 : v1 = mex (rowOf [v0] k1)) (hv2 : v2 = mex (rowOf [v0, v1] k2)) {x0 : Int} : mex (rowOf [nimP u0 v0, nimP u0 v1, x0, nimP u1 v0] (weaveI g1 k1)) = nimP u1 v1 := by
 refine cell_mex (wsL := [u0]) (wsR := [v0]) hu1 hv1 (q3_q4 (S.v1 hu1)) (q3_q4 (T.v1 hv1)) (S.o1 (q2_q4 (S.v0 hu0))) (T.o1 (q2_q4 (T.v0 hv0))) fun a ha b hb => ?_
 ·skip
  rcases S.m1 a ha with rfl | rfl <;> rcases T.m1 b hb with rfl | rfl
  ·exact ov_2_2 _ _ _ _ _ (S.v0 hu0) (S.v1 hu1) (T.v0 hv0) (T.v1 hv1)
  ·exact ov_2_3 _ _ _ _ _ (S.v0 hu0) (S.v1 hu1) (T.v0 hv0) (T.v1 hv1)
  ·exact ov_3_2 _ _ _ _ _ (S.v0 hu0) (S.v1 hu1) (T.v0 hv0) (T.v1 hv1)
  ·exact ov_3_3 _ _ _ _ _ (S.v0 hu0) (S.v1 hu1) (T.v0 hv0) (T.v1 hv1)
theorem cell_12 {g0 g1 g2 k0 k1 k2 : List Int} (S : Side g0 g1 g2) (T : Side k0 k1 k2) {u0 u1 u2 v0 v1 v2 : Int} (hu0 : u0 = mex (rowOf [] g0)) (hu1 : u1 = mex (rowOf [u0] g1)) (hu2 : u2 = mex (rowOf [u0, u1] g2)) (hv0 : v0 = mex (rowOf [] k0)) (hv1 : v1 = mex (rowOf [v0] k1)) (hv2 : v2 = mex (rowOf [v0, v1] k2)) : mex (rowOf [nimP u0 v0, nimP u0 v1, nimP u0 v2, nimP u1 v0, nimP u1 v1] (weaveI g1 k2)) = nimP u1 v2 := by
 refine cell_mex (wsL := [u0]) (wsR := [v0, v1]) hu1 hv2 (q3_q4 (S.v1 hu1)) (T.v2 hv2) (S.o1 (q2_q4 (S.v0 hu0))) (T.o2 (q2_q4 (T.v0 hv0)) (q3_q4 (T.v1 hv1))) fun a ha b hb => ?_
 ·skip
  rcases S.m1 a ha with rfl | rfl <;> rcases T.m2 b hb with rfl | rfl | rfl | rfl
  ·exact ov_2_4 _ _ _ _ _ (S.v0 hu0) (S.v1 hu1) (T.v0 hv0) (T.v1 hv1) (T.v2 hv2)
  ·exact ov_2_5 _ _ _ _ _ (S.v0 hu0) (S.v1 hu1) (T.v0 hv0) (T.v1 hv1) (T.v2 hv2)
  ·exact ov_2_6 _ _ _ _ _ (S.v0 hu0) (S.v1 hu1) (T.v0 hv0) (T.v1 hv1) (T.v2 hv2)
  ·exact ov_2_7 _ _ _ _ _ (S.v0 hu0) (S.v1 hu1) (T.v0 hv0) (T.v1 hv1) (T.v2 hv2)
  ·exact ov_3_4 _ _ _ _ _ (S.v0 hu0) (S.v1 hu1) (T.v0 hv0) (T.v1 hv1) (T.v2 hv2)
  ·exact ov_3_5 _ _ _ _ _ (S.v0 hu0) (S.v1 hu1) (T.v0 hv0) (T.v1 hv1) (T.v2 hv2)
  ·exact ov_3_6 _ _ _ _ _ (S.v0 hu0) (S.v1 hu1) (T.v0 hv0) (T.v1 hv1) (T.v2 hv2)
  ·exact ov_3_7 _ _ _ _ _ (S.v0 hu0) (S.v1 hu1) (T.v0 hv0) (T.v1 hv1) (T.v2 hv2)
theorem cell_20 {g0 g1 g2 k0 k1 k2 : List Int} (S : Side g0 g1 g2) (T : Side k0 k1 k2) {u0 u1 u2 v0 v1 v2 : Int} (hu0 : u0 = mex (rowOf [] g0)) (hu1 : u1 = mex (rowOf [u0] g1)) (hu2 : u2 = mex (rowOf [u0, u1] g2)) (hv0 : v0 = mex (rowOf [] k0)) (hv1 : v1 = mex (rowOf [v0] k1)) (hv2 : v2 = mex (rowOf [v0, v1] k2)) {x1 x2 x4 x5 : Int} : mex (rowOf [nimP u0 v0, x1, x2, nimP u1 v0, x4, x5] (weaveI g2 k0)) = nimP u2 v0 := by
 refine cell_mex (wsL := [u0, u1]) (wsR := []) hu2 hv0 (S.v2 hu2) (q2_q4 (T.v0 hv0)) (S.o2 (q2_q4 (S.v0 hu0)) (q3_q4 (S.v1 hu1))) T.o0 fun a ha b hb => ?_
 ·skip
  rw [T.m0 b hb]
  rcases S.m2 a ha with rfl | rfl | rfl | rfl
  ·exact ov_4_1 _ _ _ _ _ _ _ _ (S.v0 hu0) (S.v1 hu1) (S.v2 hu2) (T.v0 hv0)
  ·exact ov_5_1 _ _ _ _ _ _ _ _ (S.v0 hu0) (S.v1 hu1) (S.v2 hu2) (T.v0 hv0)
  ·exact ov_6_1 _ _ _ _ _ _ _ _ (S.v0 hu0) (S.v1 hu1) (S.v2 hu2) (T.v0 hv0)
  ·exact ov_7_1 _ _ _ _ _ _ _ _ (S.v0 hu0) (S.v1 hu1) (S.v2 hu2) (T.v0 hv0)
theorem cell_21 {g0 g1 g2 k0 k1 k2 : List Int} (S : Side g0 g1 g2) (T : Side k0 k1 k2) {u0 u1 u2 v0 v1 v2 : Int} (hu0 : u0 = mex (rowOf [] g0)) (hu1 : u1 = mex (rowOf [u0] g1)) (hu2 : u2 = mex (rowOf [u0, u1] g2)) (hv0 : v0 = mex (rowOf [] k0)) (hv1 : v1 = mex (rowOf [v0] k1)) (hv2 : v2 = mex (rowOf [v0, v1] k2)) {x0 x1 : Int} : mex (rowOf [nimP u0 v0, nimP u0 v1, x0, nimP u1 v0, nimP u1 v1, x1, nimP u2 v0] (weaveI g2 k1)) = nimP u2 v1 := by
 refine cell_mex (wsL := [u0, u1]) (wsR := [v0]) hu2 hv1 (S.v2 hu2) (q3_q4 (T.v1 hv1)) (S.o2 (q2_q4 (S.v0 hu0)) (q3_q4 (S.v1 hu1))) (T.o1 (q2_q4 (T.v0 hv0))) fun a ha b hb => ?_
 ·skip
  rcases S.m2 a ha with rfl | rfl | rfl | rfl <;> rcases T.m1 b hb with rfl | rfl
  ·exact ov_4_2 _ _ _ _ _ _ _ (S.v0 hu0) (S.v1 hu1) (S.v2 hu2) (T.v0 hv0) (T.v1 hv1)
  ·exact ov_4_3 _ _ _ _ _ _ _ (S.v0 hu0) (S.v1 hu1) (S.v2 hu2) (T.v0 hv0) (T.v1 hv1)
  ·exact ov_5_2 _ _ _ _ _ _ _ (S.v0 hu0) (S.v1 hu1) (S.v2 hu2) (T.v0 hv0) (T.v1 hv1)
  ·exact ov_5_3 _ _ _ _ _ _ _ (S.v0 hu0) (S.v1 hu1) (S.v2 hu2) (T.v0 hv0) (T.v1 hv1)
  ·exact ov_6_2 _ _ _ _ _ _ _ (S.v0 hu0) (S.v1 hu1) (S.v2 hu2) (T.v0 hv0) (T.v1 hv1)
  ·exact ov_6_3 _ _ _ _ _ _ _ (S.v0 hu0) (S.v1 hu1) (S.v2 hu2) (T.v0 hv0) (T.v1 hv1)
  ·exact ov_7_2 _ _ _ _ _ _ _ (S.v0 hu0) (S.v1 hu1) (S.v2 hu2) (T.v0 hv0) (T.v1 hv1)
  ·exact ov_7_3 _ _ _ _ _ _ _ (S.v0 hu0) (S.v1 hu1) (S.v2 hu2) (T.v0 hv0) (T.v1 hv1)
theorem cell_22 {g0 g1 g2 k0 k1 k2 : List Int} (S : Side g0 g1 g2) (T : Side k0 k1 k2) {u0 u1 u2 v0 v1 v2 : Int} (hu0 : u0 = mex (rowOf [] g0)) (hu1 : u1 = mex (rowOf [u0] g1)) (hu2 : u2 = mex (rowOf [u0, u1] g2)) (hv0 : v0 = mex (rowOf [] k0)) (hv1 : v1 = mex (rowOf [v0] k1)) (hv2 : v2 = mex (rowOf [v0, v1] k2)) : mex (rowOf [nimP u0 v0, nimP u0 v1, nimP u0 v2, nimP u1 v0, nimP u1 v1, nimP u1 v2, nimP u2 v0, nimP u2 v1] (weaveI g2 k2)) = nimP u2 v2 := by
 refine cell_mex (wsL := [u0, u1]) (wsR := [v0, v1]) hu2 hv2 (S.v2 hu2) (T.v2 hv2) (S.o2 (q2_q4 (S.v0 hu0)) (q3_q4 (S.v1 hu1))) (T.o2 (q2_q4 (T.v0 hv0)) (q3_q4 (T.v1 hv1))) fun a ha b hb => ?_
 ·skip
  rcases S.m2 a ha with rfl | rfl | rfl | rfl <;> rcases T.m2 b hb with rfl | rfl | rfl | rfl
  ·exact ov_4_4 _ _ _ _ _ _ (S.v0 hu0) (S.v1 hu1) (S.v2 hu2) (T.v0 hv0) (T.v1 hv1) (T.v2 hv2)
  ·exact ov_4_5 _ _ _ _ _ _ (S.v0 hu0) (S.v1 hu1) (S.v2 hu2) (T.v0 hv0) (T.v1 hv1) (T.v2 hv2)
  ·exact ov_4_6 _ _ _ _ _ _ (S.v0 hu0) (S.v1 hu1) (S.v2 hu2) (T.v0 hv0) (T.v1 hv1) (T.v2 hv2)
  ·exact ov_4_7 _ _ _ _ _ _ (S.v0 hu0) (S.v1 hu1) (S.v2 hu2) (T.v0 hv0) (T.v1 hv1) (T.v2 hv2)
  ·exact ov_5_4 _ _ _ _ _ _ (S.v0 hu0) (S.v1 hu1) (S.v2 hu2) (T.v0 hv0) (T.v1 hv1) (T.v2 hv2)
  ·exact ov_5_5 _ _ _ _ _ _ (S.v0 hu0) (S.v1 hu1) (S.v2 hu2) (T.v0 hv0) (T.v1 hv1) (T.v2 hv2)
  ·exact ov_5_6 _ _ _ _ _ _ (S.v0 hu0) (S.v1 hu1) (S.v2 hu2) (T.v0 hv0) (T.v1 hv1) (T.v2 hv2)
  ·exact ov_5_7 _ _ _ _ _ _ (S.v0 hu0) (S.v1 hu1) (S.v2 hu2) (T.v0 hv0) (T.v1 hv1) (T.v2 hv2)
  ·exact ov_6_4 _ _ _ _ _ _ (S.v0 hu0) (S.v1 hu1) (S.v2 hu2) (T.v0 hv0) (T.v1 hv1) (T.v2 hv2)
  ·exact ov_6_5 _ _ _ _ _ _ (S.v0 hu0) (S.v1 hu1) (S.v2 hu2) (T.v0 hv0) (T.v1 hv1) (T.v2 hv2)
  ·exact ov_6_6 _ _ _ _ _ _ (S.v0 hu0) (S.v1 hu1) (S.v2 hu2) (T.v0 hv0) (T.v1 hv1) (T.v2 hv2)
  ·exact ov_6_7 _ _ _ _ _ _ (S.v0 hu0) (S.v1 hu1) (S.v2 hu2) (T.v0 hv0) (T.v1 hv1) (T.v2 hv2)
  ·exact ov_7_4 _ _ _ _ _ _ (S.v0 hu0) (S.v1 hu1) (S.v2 hu2) (T.v0 hv0) (T.v1 hv1) (T.v2 hv2)
  ·exact ov_7_5 _ _ _ _ _ _ (S.v0 hu0) (S.v1 hu1) (S.v2 hu2) (T.v0 hv0) (T.v1 hv1) (T.v2 hv2)
  ·exact ov_7_6 _ _ _ _ _ _ (S.v0 hu0) (S.v1 hu1) (S.v2 hu2) (T.v0 hv0) (T.v1 hv1) (T.v2 hv2)
  ·exact ov_7_7 _ _ _ _ _ _ (S.v0 hu0) (S.v1 hu1) (S.v2 hu2) (T.v0 hv0) (T.v1 hv1) (T.v2 hv2)
theorem tartan {g0 g1 g2 k0 k1 k2 : List Int} (S : Side g0 g1 g2) (T : Side k0 k1 k2) : worthsOf (wov [g0, g1, g2] [k0, k1, k2]) = prodsI (worthsOf [g0, g1, g2]) (worthsOf [k0, k1, k2]) := by
 obtain ⟨u0, hu0⟩ : ∃ u, u = mex (rowOf [] g0) := ⟨_, rfl⟩
 obtain ⟨u1, hu1⟩ : ∃ u, u = mex (rowOf [u0] g1) := ⟨_, rfl⟩
 obtain ⟨u2, hu2⟩ : ∃ u, u = mex (rowOf [u0, u1] g2) := ⟨_, rfl⟩
 obtain ⟨v0, hv0⟩ : ∃ u, u = mex (rowOf [] k0) := ⟨_, rfl⟩
 obtain ⟨v1, hv1⟩ : ∃ u, u = mex (rowOf [v0] k1) := ⟨_, rfl⟩
 obtain ⟨v2, hv2⟩ : ∃ u, u = mex (rowOf [v0, v1] k2) := ⟨_, rfl⟩
 have eL : worthsOf [g0, g1, g2] = [u0, u1, u2] := by
  simp only [worthsOf, List.foldl_cons, List.foldl_nil, List.nil_append, List.cons_append, ← hu0, ← hu1, ← hu2]
 have eR : worthsOf [k0, k1, k2] = [v0, v1, v2] := by
  simp only [worthsOf, List.foldl_cons, List.foldl_nil, List.nil_append, List.cons_append, ← hv0, ← hv1, ← hv2]
 rw [eL, eR]
 have eW : wov [g0, g1, g2] [k0, k1, k2] = [weaveI g0 k0, weaveI g0 k1, weaveI g0 k2, weaveI g1 k0, weaveI g1 k1, weaveI g1 k2, weaveI g2 k0, weaveI g2 k1, weaveI g2 k2] := rfl
 rw [eW]
 simp only [worthsOf, List.foldl_cons, List.foldl_nil, List.nil_append, List.cons_append]
 rw [cell_00 S T hu0 hu1 hu2 hv0 hv1 hv2]
 rw [cell_01 S T hu0 hu1 hu2 hv0 hv1 hv2]
 rw [cell_02 S T hu0 hu1 hu2 hv0 hv1 hv2]
 rw [cell_10 S T hu0 hu1 hu2 hv0 hv1 hv2]
 rw [cell_11 S T hu0 hu1 hu2 hv0 hv1 hv2]
 rw [cell_12 S T hu0 hu1 hu2 hv0 hv1 hv2]
 rw [cell_20 S T hu0 hu1 hu2 hv0 hv1 hv2]
 rw [cell_21 S T hu0 hu1 hu2 hv0 hv1 hv2]
 rw [cell_22 S T hu0 hu1 hu2 hv0 hv1 hv2]
 rfl
abbrev cornerI : List Int := [0, 1, 2, 3, 8, 9, 10, 11, 16, 17, 18, 19, 24, 25, 26, 27]
theorem corner_fin : ∀ g0 ∈ ([[], [1]] : List (List Int)), ∀ g1 ∈ ([[], [2], [3], [2, 3]] : List (List Int)), ∀ k0 ∈ ([[], [1]] : List (List Int)), ∀ k1 ∈ ([[], [2], [3], [2, 3]] : List (List Int)),
  cornerI.foldl (lostStep [weaveI g0 k0, weaveI g0 k1, [], weaveI g1 k0, weaveI g1 k1]) [] = cornerI.filter fun h => over [nimP (mex (rowOf [] g0)) (mex (rowOf [] k0)), nimP (mex (rowOf [] g0)) (mex (rowOf [mex (rowOf [] k0)] k1)), 0, nimP (mex (rowOf [mex (rowOf [] g0)] g1)) (mex (rowOf [] k0)), nimP (mex (rowOf [mex (rowOf [] g0)] g1)) (mex (rowOf [mex (rowOf [] k0)] k1))] h = 0 := by decide +kernel
end Mine
end
section
namespace Mine
theorem side_fin : ∀ x : Fin 60, ((∀ a ∈ movesAt 0 (x.val : Int), a = 1) ∧ (movesAt 0 (x.val : Int)).length ≤ 1) ∧ ((∀ a ∈ movesAt 1 (x.val : Int), a = 2 ∨ a = 3) ∧ (movesAt 1 (x.val : Int)).length ≤ 2) ∧ ((∀ a ∈ movesAt 2 (x.val : Int), a = 4 ∨ a = 5 ∨ a = 6 ∨ a = 7) ∧ (movesAt 2 (x.val : Int)).length ≤ 3) ∧
  ((∀ a ∈ movesAt 3 (x.val : Int), a = 1) ∧ (movesAt 3 (x.val : Int)).length ≤ 1) ∧ ((∀ a ∈ movesAt 4 (x.val : Int), a = 2 ∨ a = 3) ∧ (movesAt 4 (x.val : Int)).length ≤ 2) ∧ ((∀ a ∈ movesAt 5 (x.val : Int), a = 4 ∨ a = 5 ∨ a = 6 ∨ a = 7) ∧ (movesAt 5 (x.val : Int)).length ≤ 3) ∧
  (movesAt 0 (x.val : Int) ∈ ([[], [1]] : List (List Int)) ∧ movesAt 1 (x.val : Int) ∈ ([[], [2], [3], [2, 3]] : List (List Int)) ∧ movesAt 3 (x.val : Int) ∈ ([[], [1]] : List (List Int)) ∧ movesAt 4 (x.val : Int) ∈ ([[], [2], [3], [2, 3]] : List (List Int))) := by decide +kernel
theorem side_l (ns : List Int) : Side (mvsOf ns 0) (mvsOf ns (0 + 1)) (mvsOf ns (0 + 2)) := by
 obtain ⟨x, hx⟩ := numAt_fin ns 0
 obtain ⟨y, hy⟩ := numAt_fin ns (0 + 1)
 obtain ⟨z, hz⟩ := numAt_fin ns (0 + 2)
 unfold mvsOf
 rw [hx, hy, hz]
 exact ⟨(side_fin x).1.1, (side_fin y).2.1.1, (side_fin z).2.2.1.1, (side_fin x).1.2, (side_fin y).2.1.2, (side_fin z).2.2.1.2⟩
theorem side_r (ns : List Int) : Side (mvsOf ns 3) (mvsOf ns (3 + 1)) (mvsOf ns (3 + 2)) := by
 obtain ⟨x, hx⟩ := numAt_fin ns 3
 obtain ⟨y, hy⟩ := numAt_fin ns (3 + 1)
 obtain ⟨z, hz⟩ := numAt_fin ns (3 + 2)
 unfold mvsOf
 rw [hx, hy, hz]
 exact ⟨(side_fin x).2.2.2.1.1, (side_fin y).2.2.2.2.1.1, (side_fin z).2.2.2.2.2.1.1, (side_fin x).2.2.2.1.2, (side_fin y).2.2.2.2.1.2, (side_fin z).2.2.2.2.2.1.2⟩
theorem tartan_at (ns : List Int) : worthsOf (wov (glOf ns) (grOf ns)) = prodsI (worthsOf (glOf ns)) (worthsOf (grOf ns)) := tartan (side_l ns) (side_r ns)
theorem over_hole (a b x c d : Int) : ∀ h ∈ cornerI, over [a, b, x, c, d] h = over [a, b, 0, c, d] h := by
 intro h hh
 simp only [cornerI, List.mem_cons, List.not_mem_nil, or_false] at hh
 rcases hh with rfl | rfl | rfl | rfl | rfl | rfl | rfl | rfl | rfl | rfl | rfl | rfl | rfl | rfl | rfl | rfl <;> kernel_rfl
theorem ups_no2 : ∀ k ∈ cornerI, ∀ c ∈ upsL 5 k, c ≠ 2 := by decide +kernel
theorem flatMap_on {α β : Type} {f g : α → List β} : ∀ {l : List α}, (∀ x ∈ l, f x = g x) → l.flatMap f = l.flatMap g
 | [], _ => rfl
 | a :: r, h => by rw [List.flatMap_cons, List.flatMap_cons, h a (.head _), flatMap_on fun x hx => h x (.tail _ hx)]
theorem foldl_on {α β : Type} {f g : β → α → β} : ∀ {l : List α} (b : β), (∀ b, ∀ x ∈ l, f b x = g b x) → l.foldl f b = l.foldl g b
 | [], _, _ => rfl
 | a :: r, b, h => by rw [List.foldl_cons, List.foldl_cons, h b a (.head _), foldl_on _ fun b x hx => h b x (.tail _ hx)]
theorem five_no2k : ∀ n : Nat, n < 5 → n ≠ 2 → (n : Int) = 0 ∨ (n : Int) = 1 ∨ (n : Int) = 3 ∨ (n : Int) = 4 := by decide
theorem five_no2 {x : Int} (h : 0 ≤ x ∧ x < 5) (h2 : x ≠ 2) : x = 0 ∨ x = 1 ∨ x = 3 ∨ x = 4 := by
 obtain ⟨n, rfl⟩ := Int.eq_ofNat_of_zero_le h.1
 exact five_no2k n (Int.ofNat_lt.mp h.2) fun e => h2 (e ▸ rfl)
theorem lost_hole (a b w c d : List Int) (lost : List Int) : ∀ k ∈ cornerI, lostStep [a, b, w, c, d] lost k = lostStep [a, b, [], c, d] lost k := by
 intro k hk
 have e : outL [a, b, w, c, d] lost k (upsL 5 k) = outL [a, b, [], c, d] lost k (upsL 5 k) := flatMap_on fun x hx => by
  have h1 := upsL_mem hx
  have h2 := ups_no2 k hk x hx
  have h3 := five_no2 h1 h2
  rcases h3 with rfl | rfl | rfl | rfl <;> rfl
 show (if outL [a, b, w, c, d] lost k (upsL 5 k) = [] then _ else _) = if outL [a, b, [], c, d] lost k (upsL 5 k) = [] then _ else _
 rw [e]
theorem corner_gs {g0 g1 g2 k0 k1 k2 : List Int} (S : Side g0 g1 g2) (T : Side k0 k1 k2) (m0 : g0 ∈ ([[], [1]] : List (List Int))) (m1 : g1 ∈ ([[], [2], [3], [2, 3]] : List (List Int))) (n0 : k0 ∈ ([[], [1]] : List (List Int))) (n1 : k1 ∈ ([[], [2], [3], [2, 3]] : List (List Int))) :
  cornerI.foldl (lostStep ((wov [g0, g1, g2] [k0, k1, k2]).take 5)) [] = cornerI.filter fun h => over ((worthsOf (wov [g0, g1, g2] [k0, k1, k2])).take 5) h = 0 := by
 rw [tartan S T]
 have e1 : (wov [g0, g1, g2] [k0, k1, k2]).take 5 = [weaveI g0 k0, weaveI g0 k1, weaveI g0 k2, weaveI g1 k0, weaveI g1 k1] := rfl
 have e2 : (prodsI (worthsOf [g0, g1, g2]) (worthsOf [k0, k1, k2])).take 5 = [nimP (mex (rowOf [] g0)) (mex (rowOf [] k0)), nimP (mex (rowOf [] g0)) (mex (rowOf [mex (rowOf [] k0)] k1)), nimP (mex (rowOf [] g0)) (mex (rowOf [mex (rowOf [] k0), mex (rowOf [mex (rowOf [] k0)] k1)] k2)), nimP (mex (rowOf [mex (rowOf [] g0)] g1)) (mex (rowOf [] k0)), nimP (mex (rowOf [mex (rowOf [] g0)] g1)) (mex (rowOf [mex (rowOf [] k0)] k1))] := rfl
 rw [e1, e2, foldl_on [] fun b x hx => lost_hole _ _ _ _ _ b x hx, corner_fin g0 m0 g1 m1 k0 n0 k1 n1]
 refine List.filter_congr fun h hh => ?_
 exact congrArg (fun z => decide (z = 0)) (over_hole _ _ _ _ _ h hh).symm
theorem corner_at (ns : List Int) : cornerI.foldl (lostStep ((wov (glOf ns) (grOf ns)).take 5)) [] = cornerI.filter fun h => over ((worthsOf (wov (glOf ns) (grOf ns))).take 5) h = 0 := by
 have m0 : mvsOf ns 0 ∈ ([[], [1]] : List (List Int)) := by
  obtain ⟨x, hx⟩ := numAt_fin ns 0
  unfold mvsOf; rw [hx]; exact (side_fin x).2.2.2.2.2.2.1
 have m1 : mvsOf ns (0 + 1) ∈ ([[], [2], [3], [2, 3]] : List (List Int)) := by
  obtain ⟨x, hx⟩ := numAt_fin ns (0 + 1)
  unfold mvsOf; rw [hx]; exact (side_fin x).2.2.2.2.2.2.2.1
 have n0 : mvsOf ns 3 ∈ ([[], [1]] : List (List Int)) := by
  obtain ⟨x, hx⟩ := numAt_fin ns 3
  unfold mvsOf; rw [hx]; exact (side_fin x).2.2.2.2.2.2.2.2.1
 have n1 : mvsOf ns (3 + 1) ∈ ([[], [2], [3], [2, 3]] : List (List Int)) := by
  obtain ⟨x, hx⟩ := numAt_fin ns (3 + 1)
  unfold mvsOf; rw [hx]; exact (side_fin x).2.2.2.2.2.2.2.2.2
 exact corner_gs (side_l ns) (side_r ns) m0 m1 n0 n1
end Mine
end
section
open PyProof.V PyProof.Rows.LCg
namespace Mine
structure HkBase : Prop where
theorem ListsAt.takeN {dn : List (Addr × Obj)} {refs : List Value} {gs : List (List Int)} (h : ListsAt dn refs gs) (n : Nat) : ListsAt dn (refs.take n) (gs.take n) :=
 ⟨by rw [List.length_take, List.length_take, h.1], fun i ns e => by
  rw [List.getElem?_take] at e
  split at e
  ·next q =>
   obtain ⟨lm, vs, k, a, b, c⟩ := h.2 i ns e
   exact ⟨lm, vs, k, by rw [List.getElem?_take, if_pos q]; exact a, b, c⟩
  ·cases e⟩
theorem news_tl {h₀ h : Heap} {L : Addr} {a : Addr × Obj} {r : List (Addr × Obj)} (N : News h₀ L h (a :: r)) : News h₀ L h r := fun p hp => N p (.tail _ hp)
theorem pick5 (vs : List Value) : (slicePick vs.toArray none (some 5) none).toList = vs.take 5 := by
 have e : sliceBounds none (some 5) none vs.toArray.size = (((0 : Nat) : Int), ((min 5 vs.toArray.size : Nat) : Int), 1) := by
  simp only [sliceBounds, Option.getD_none, show (1 : Int) > 0 by decide, if_true, if_neg (show ¬ ((5 : Int) < 0) by decide)]
  congr 1
  congr 1
  kaf_pre
 rw [kmk_pick_nat _ e]
 show (vs.drop 0).take (min 5 vs.toArray.size - 0) = _
 rw [List.drop_zero, Nat.sub_zero, List.size_toArray, kmk_take_min]
section
variable {prog : Program} {w : World} {A : Around} {E : Value → Shared → Prop} {s : Shared} {h₀ : Heap} {L l : Addr} {m : Str → Option Value} {news : List (Addr × Obj)} {value slice : Expr} {vs : List Value} {k : Nat} {t : Tok} {Q : Value → Shared → Prop}
theorem slice5_ints {ns : List Int} (F : Fr h₀ L s.heap m) (N : News h₀ L s.heap news) (hm : (l, listOf vs.toArray k) ∈ news) (hi : IntsAre vs ns) (hz : ns.length ≤ 1000)
  (h : ∀ D h', Fr h₀ L h' m → News h₀ L h' ((D, listOf (vs.take 5).toArray 0) :: news) → (∀ p ∈ news, p.1 < D) → IntsAre (vs.take 5) (ns.take 5) → Q (.ref D) { s with heap := h' })
  (hs : subscripted slice false (.ref l) (.ref s.heap.objs.size) = operate [.ref s.heap.objs.size, .ref l] (getItem (.ref l) (.ref s.heap.objs.size))) (ht : ∀ r, letTemporaryGo value (.ref l) r = pure ()) :
  wpAny (model prog w) A (subscriptTail value slice (.ref l) (.ref s.heap.objs.size)) Q E { s with heap := s.heap.push { cls := .type "slice", data := .fields #[.none, .int 5 t, .none] } } :=
 kmk_slice_lit F N ⟨_, (N _ hm).1, rfl, _, rfl⟩ .none (.int _ _) (pick5 vs) (fun D h' F' N' l1 => h D h' F' N' l1 (hi.take 5)) hs ht (by rw [List.size_toArray, hi.length, PySem.sizeLine_eq]; kaf_pre)
theorem slice5_refs {dn : List (Addr × Obj)} {gs : List (List Int)} (F : Fr h₀ L s.heap m) (N : News h₀ L s.heap news) (hm : (l, listOf vs.toArray k) ∈ news) (hi : ListsAt dn vs gs) (hz : gs.length ≤ 1000)
  (h : ∀ D h', Fr h₀ L h' m → News h₀ L h' ((D, listOf (vs.take 5).toArray 0) :: news) → (∀ p ∈ news, p.1 < D) → ListsAt dn (vs.take 5) (gs.take 5) → Q (.ref D) { s with heap := h' })
  (hs : subscripted slice false (.ref l) (.ref s.heap.objs.size) = operate [.ref s.heap.objs.size, .ref l] (getItem (.ref l) (.ref s.heap.objs.size))) (ht : ∀ r, letTemporaryGo value (.ref l) r = pure ()) :
  wpAny (model prog w) A (subscriptTail value slice (.ref l) (.ref s.heap.objs.size)) Q E { s with heap := s.heap.push { cls := .type "slice", data := .fields #[.none, .int 5 t, .none] } } :=
 kmk_slice_lit F N ⟨_, (N _ hm).1, rfl, _, rfl⟩ .none (.int _ _) (pick5 vs) (fun D h' F' N' l1 => h D h' F' N' l1 (hi.takeN 5)) hs ht (by rw [List.size_toArray, hi.1, PySem.sizeLine_eq]; kaf_pre)
theorem ne_same {a b : Addr} {xs ys : List Value} {n j : Nat} {ns ms : List Int} (N : News h₀ L s.heap news) (h1 : (a, listOf xs.toArray n) ∈ news) (h2 : (b, listOf ys.toArray j) ∈ news) (hi : IntsAre xs ns) (hj : IntsAre ys ms) (hu : A.units + 64 < cLine) (he : ns = ms) (h : Q (.bool false) s) :
  wpAny (model prog w) A (compareOp .NotEq (.ref a) (.ref b)) Q E s :=
 ke_ne_ints ⟨_, (N _ h1).1, rfl, _, rfl⟩ ⟨_, (N _ h2).1, rfl, _, rfl⟩ hi hj hu (by rw [decide_eq_true he]; exact h)
theorem eq_same {a b : Addr} {xs ys : List Value} {n j : Nat} {ns ms : List Int} (N : News h₀ L s.heap news) (h1 : (a, listOf xs.toArray n) ∈ news) (h2 : (b, listOf ys.toArray j) ∈ news) (hi : IntsAre xs ns) (hj : IntsAre ys ms) (hu : A.units + 64 < cLine) (he : ns = ms) (h : Q (.bool true) s) :
  wpAny (model prog w) A (compareOp .Eq (.ref a) (.ref b)) Q E s :=
 ke_eq_ints ⟨_, (N _ h1).1, rfl, _, rfl⟩ ⟨_, (N _ h2).1, rfl, _, rfl⟩ hi hj hu (by rw [decide_eq_true he]; exact h)
def LastY (h₀ : Heap) (L : Addr) (m : Str → Option Value) (s₁ : Shared) (rows : List (Addr × Obj)) (k x : Int) (y : Value) (s₂ : Shared) : Prop :=
 ∃ t h' tk a, y = .int k t ∧ x = 0 ∧ s₂ = { s₁ with heap := h', toks := tk } ∧ Fr h₀ L h' m ∧ News h₀ L h' (a :: rows)
def LastN (h₀ : Heap) (L : Addr) (m : Str → Option Value) (s₁ : Shared) (rows : List (Addr × Obj)) (x : Int) (s₂ : Shared) : Prop :=
 ∃ h' tk a, x ≠ 0 ∧ s₂ = { s₁ with heap := h', toks := tk } ∧ Fr h₀ L h' m ∧ News h₀ L h' (a :: rows)
theorem last_cr {I C D : Addr} {keep : List (Addr × Obj)} {c : Code} {x : Str} {ct elt : Expr} {cenv : Env} {Fin : List Value → List (Addr × Obj) → Prop} {pos : List Int} (f : Int → Int)
  (hi : IntsAre vs pos) (hp : ∀ k ∈ pos, 0 ≤ k ∧ k ≤ 31) (hpl : pos.length ≤ 1000) (hCD : C ≠ D) (hDI : I ≠ C ∧ I ≠ D) (hk : SubL keep news)
  (turn : ∀ (k : Int) (t : Tok) (ys : List Value) (oC oI : Obj) (m₂ : Str → Option Value) (h : Heap) (tk : Nat), 0 ≤ k → m₂ x = some (.int k t) → NsObj oC m₂ → Fr h₀ L h m →
   News h₀ L h ((I, oI) :: (C, oC) :: (D, lst ys) :: news) →
   wpAny (model prog w) A (isTrue ct cenv (eval ct cenv)) (fun b s' => if b = true then wpAny (model prog w) A (eval elt cenv) (LastY h₀ L m { s with heap := h, toks := tk } ((I, oI) :: (C, oC) :: (D, lst ys) :: news) k (f k)) E s' else LastN h₀ L m { s with heap := h, toks := tk } ((I, oI) :: (C, oC) :: (D, lst ys) :: news) (f k) s') E { s with heap := h, toks := tk })
  (fin : ∀ ys, IntsAre ys (pos.filter fun h => f h = 0) → Fin ys news) :
  CR prog w A h₀ L m C D [(I, "list_iterator")] keep (fun _ => True) (GName x) c (testB ct elt (.ref D) cenv c) E s Fin (vs.map .val) [] news := by
 refine cr_sameT (fun i ys => IntsAre ys ((pos.take i).filter fun h => f h = 0)) hCD hDI (fun i ys h => ?_) hk ?_ .nil (fun ys h => ?_)
 ·have e := h.length
  have h1 := List.length_filter_le (fun h => decide (f h = 0)) (pos.take i)
  rw [List.length_take] at h1
  rw [PySem.sizeLine_eq, e]
  kaf_pre
 ·intro i v ys oC oI m₂ h tk hv hP hx hoC F off ai N
  obtain ⟨k, t, rfl, hk'⟩ := IntsAre.at hi i v hv
  refine wpAny_mono (turn k t ys oC oI m₂ h tk (hp k (List.mem_of_getElem? hk')).1 hx hoC F N) (fun b s' hb => ?_) fun _ _ e => e
  have e1 : (pos.take (i + 1)).filter (fun h => decide (f h = 0)) = (pos.take i).filter (fun h => decide (f h = 0)) ++ [k].filter fun h => decide (f h = 0) := by rw [tk_succ hk', List.filter_append]
  cases b with
  | true =>
   rw [if_pos rfl] at hb ⊢
   refine wpAny_mono hb (fun y s₃ hy => ?_) fun _ _ e => e
   obtain ⟨t', h', tk', a, rfl, e0, rfl, F', N'⟩ := hy
   refine ⟨h', tk', rfl, F', news_tl N', ?_⟩
   show IntsAre _ _
   rw [e1, List.filter_cons_of_pos (by simp [e0])]
   exact IntsAre.append hP (.cons _ _ .nil)
  | false =>
   rw [if_neg (by decide)] at hb ⊢
   obtain ⟨h', tk', a, e0, rfl, F', N'⟩ := hb
   refine ⟨h', tk', rfl, F', news_tl N', ?_⟩
   show IntsAre _ _
   rw [e1, List.filter_cons_of_neg (by simp [e0]), List.filter_nil, List.append_nil]
   exact hP
 ·rw [hi.length, List.take_length] at h
  exact fin ys h
end
theorem hold_lost {h₀ : Heap} {D lp : Addr} {ys ps : List Value} {gs : List (List Int)} {n j : Nat} {dn rest : List (Addr × Obj)} (hm : (D, listOf ys.toArray n) ∈ rest) (LL : ListsAt dn ys gs) (hp : (lp, listOf ps.toArray j) ∈ rest) (hd : ∀ p ∈ dn, p ∈ rest) :
  ∀ g : Heap, (∀ b o, h₀.get? b = some o → g.get? b = some o) → (∀ p ∈ rest, g.get? p.1 = some p.2) → g.IsList D ys.toArray ∧ Games g ys gs ∧ g.IsList lp ps.toArray :=
 fun g hk hr => ⟨(hold_games LL hm hd g hk hr).1, (hold_games LL hm hd g hk hr).2, ⟨_, hr _ hp, rfl, _, rfl⟩⟩
theorem hold_one {h₀ : Heap} {D : Addr} {ys : List Value} {n : Nat} {rest : List (Addr × Obj)} (hm : (D, listOf ys.toArray n) ∈ rest) :
  ∀ g : Heap, (∀ b o, h₀.get? b = some o → g.get? b = some o) → (∀ p ∈ rest, g.get? p.1 = some p.2) → g.IsList D ys.toArray :=
 fun g _ hr => ⟨_, hr _ hm, rfl, _, rfl⟩
theorem corner_pos : ∀ k ∈ cornerI, 0 ≤ k ∧ k ≤ 31 := by decide
theorem small_wov (ns : List Int) : ∀ g ∈ (wov (glOf ns) (grOf ns)).take 5, g.length ≤ 20 := by
 intro g hg
 have hg := List.mem_of_mem_take hg
 unfold wov at hg
 obtain ⟨a, ha, hg⟩ := List.mem_flatMap.mp hg
 obtain ⟨b, hb, rfl⟩ := List.mem_map.mp hg
 obtain ⟨i, hi, rfl⟩ := gl_mem a ha
 obtain ⟨j, hj, rfl⟩ := gr_mem b hb
 have h1 := mvs_small ns i hi
 have h2 := mvs_small ns j hj
 unfold weaveI
 rw [mulAll_len, List.length_map]
 exact Nat.le_trans (Nat.mul_le_mul h1 h2) (by decide)
abbrev cornB (k : Int) : Int := Builtin.bitAnd (k.fdiv (2 ^ (2 : Int).toNat)) 1
def cornG (l : List Int) (k : Int) : List Int := if cornB k = 0 then l ++ [k] else l
def CorY (h₀ : Heap) (L : Addr) (m : Str → Option Value) (s₁ : Shared) (rows : List (Addr × Obj)) (k : Int) (y : Value) (s₂ : Shared) : Prop :=
 ∃ t h' tk, y = .int k t ∧ cornB k = 0 ∧ s₂ = { s₁ with heap := h', toks := tk } ∧ Fr h₀ L h' m ∧ News h₀ L h' rows
def CorN (h₀ : Heap) (L : Addr) (m : Str → Option Value) (s₁ : Shared) (rows : List (Addr × Obj)) (k : Int) (s₂ : Shared) : Prop :=
 ∃ h' tk, ¬ cornB k = 0 ∧ s₂ = { s₁ with heap := h', toks := tk } ∧ Fr h₀ L h' m ∧ News h₀ L h' rows
theorem corn_eq : (rangeKs 0 32).foldl cornG [] = cornerI := by decide +kernel
theorem corner_rest {prog : Program} {w : World} {A : Around} {h₀ : Heap} {L : Addr} {m : Str → Option Value} {env : Env} {ct elt : Expr} {x : Str} {scope : Scope} {cl : List (Str × Addr)} {s : Shared} {Fin : List Value → List (Addr × Obj) → Prop} {news : List (Addr × Obj)}
  (turn : ∀ k t I oI C oC D m₂ ys h tk (E' : Value → Shared → Prop), 0 ≤ k → k < 32 → LCg.NsObj oC m₂ → m₂ x = some (.int k t) → Fr h₀ L h m → News h₀ L h ((I, oI) :: (C, oC) :: (D, LCg.lst ys) :: news) →
   wpAny (model prog w) A (isTrue ct (compEnvC scope cl C env) (eval ct (compEnvC scope cl C env))) (fun b s' => if b = true then wpAny (model prog w) A (eval elt (compEnvC scope cl C env)) (CorY h₀ L m { s with heap := h, toks := tk } ((I, oI) :: (C, oC) :: (D, LCg.lst ys) :: news) k) E' s'
    else CorN h₀ L m { s with heap := h, toks := tk } ((I, oI) :: (C, oC) :: (D, LCg.lst ys) :: news) k s') E' { s with heap := h, toks := tk })
  (fin : ∀ ys, IntsAre ys cornerI → Fin ys news) : LCt.CompRestT prog w A h₀ L m env ct elt x scope cl s (fun _ => True) (fun i v => ∃ t, v = .int (0 + (i : Int)) t) Fin 32 0 [] news := by
 refine kci_range cornG (fun k t I oI C oC D m₂ ys l h tk E' h1 h2 hi hC hx F N off ne _ => ?_) (fun ys hi _ => fin ys (corn_eq ▸ hi)) (fun l k => by unfold cornG; split <;> simp)
 refine wpAny_mono (turn k t I oI C oC D m₂ ys h tk E' h1 (by simpa using h2) hC hx F N) (fun b s' hb => ?_) fun _ _ e => e
 cases b with
 | true =>
  rw [if_pos rfl] at hb ⊢
  refine wpAny_mono hb (fun y s₂ hq => ?_) fun _ _ e => e
  obtain ⟨t', h', tk', hy, h0, e, F', N'⟩ := hq
  exact ⟨h', tk', news, e, F', N', off, trivial, rfl, k, t', hy, by unfold cornG; rw [if_pos h0]⟩
 | false =>
  rw [if_neg (by decide)] at hb ⊢
  obtain ⟨h', tk', h0, e, F', N'⟩ := hb
  exact ⟨h', tk', news, e, F', N', off, trivial, rfl, by unfold cornG; rw [if_neg h0]⟩
inductive KeepG (dn : List (Addr × Obj)) : List (Addr × Obj) → List (Addr × Obj) → List Prop → Prop
 | base : KeepG dn [] dn []
 | keep {p a b fs} {P : Prop} : P → KeepG dn a b fs → KeepG dn (p :: a) (p :: b) (P :: fs)
 | drop {p a b fs} : KeepG dn a b fs → KeepG dn a (p :: b) fs
theorem KeepG.ok {dn a b : List (Addr × Obj)} {fs : List Prop} (h : KeepG dn a b fs) : (∀ p ∈ a ++ dn, p ∈ b) ∧ AllPs fs := by
 induction h with
 | base => exact ⟨fun _ h => h, trivial⟩
 | keep hP _ ih => exact ⟨fun p hp => (List.mem_cons.mp hp).elim (fun e => e ▸ List.mem_cons_self ..) (fun hp => .tail _ (ih.1 p hp)), hP, ih.2⟩
 | drop _ ih => exact ⟨fun p hp => .tail _ (ih.1 p hp), ih.2⟩
theorem keepG_W {dn x y : List (Addr × Obj)} {fs : List Prop} {a : Addr} {ys : List Value} {k : Nat} {gl gr : List (List Int)} (h : ListsAt dn ys (wov gl gr)) (r : KeepG dn x y fs) : KeepG dn ((a, listOf ys.toArray k) :: x) ((a, listOf ys.toArray k) :: y) (ListsAt dn ys (wov gl gr) :: fs) := .keep h r
theorem keepG_WL {dn x y : List (Addr × Obj)} {fs : List Prop} {a : Addr} {ys : List Value} {gl gr : List (List Int)} (h : ListsAt dn ys (wov gl gr)) (r : KeepG dn x y fs) : KeepG dn ((a, lst ys) :: x) ((a, lst ys) :: y) (ListsAt dn ys (wov gl gr) :: fs) := .keep h r
theorem keepG_I {dn x y : List (Addr × Obj)} {fs : List Prop} {a : Addr} {ys : List Value} {k : Nat} {gl gr : List (List Int)} (h : IntsAre ys (worthsOf (wov gl gr))) (r : KeepG dn x y fs) : KeepG dn ((a, listOf ys.toArray k) :: x) ((a, listOf ys.toArray k) :: y) (IntsAre ys (worthsOf (wov gl gr)) :: fs) := .keep h r
theorem keepG_C {dn x y : List (Addr × Obj)} {fs : List Prop} {a : Addr} {o : Obj} {v : Option Value} (h : o.data = .cell v) (r : KeepG dn x y fs) : KeepG dn ((a, o) :: x) ((a, o) :: y) ((o.data = .cell v) :: fs) := .keep h r
theorem keepG_tab {dn x y : List (Addr × Obj)} {fs : List Prop} {c : Addr} {ps : Array Value} (r : KeepG dn x y fs) : KeepG dn ((c, tabObj ps) :: x) ((c, tabObj ps) :: y) (True :: fs) := .keep trivial r
theorem cut_prep2 {G G1 G2 G3 G4 : Prop} {h₀ h : Heap} {L : Addr} {dn pre b : List (Addr × Obj)} {fs : List Prop} {ys : List Value} {gl gr : List (List Int)} (_LR : ListsAt dn ys (wov gl gr)) (N : News h₀ L h b) (K : KeepG dn pre b fs) (f1 : G1) (f2 : G2) (f3 : G3) (f4 : G4)
  (k : G1 → G2 → G3 → G4 → News h₀ L h (pre ++ dn) → AllPs fs → G) : G :=
 k f1 f2 f3 f4 (fun p hp => N p (K.ok.1 p hp)) K.ok.2
end Mine
end
open Mine
local macro_rules | `(tactic| lsm_bools) => `(tactic| first | exact Rem.nil | (refine' Rem.dropM ?rm ?rb; (case rm => first | k_dflt k_memK | k_dflt (exact List.Mem.head _) | k_dflt (exact List.Mem.tail _ (List.Mem.head _))); (case rb => lsm_bools)) | (refine' Rem.keep ?ra ?rb; (case ra => k_dflt (kfm_turns)); (case rb => lsm_bools)) | (refine' Rem.tailAll ?rh; (case rh => k_dflt (walk_at "my alls"))))
local macro_rules | `(tactic| walk_at "my alls") => `(tactic| first | exact List.forall_mem_nil _ | (refine' List.forall_mem_cons.mpr (And.intro ?g1 ?g2); (case g1 => kfm_turns); (case g2 => walk_at "my alls")))
local macro_rules | `(tactic| walk_at "my keepold") => `(tactic| first
 | exact KeepR2.base
 | ((first | (with_reducible show KeepR2 _ _ ((_, LCg.lst _) :: _)) | (with_reducible show KeepR2 _ _ ((_, tabObj _) :: _)) | (with_reducible show KeepR2 _ _ ((_ + 1, _) :: _))); refine' KeepR2.keep ?n ?k; (case n => kfm_turns); (case k => walk_at "my keep"))
 | (refine' keepTS ?t ?n ?k; (case t => (kbo_bools)); (case n => kfm_turns); (case k => walk_at "my keep"))
 | (refine' KeepR2.drop ?k; (case k => walk_at "my keep")))
local macro_rules | `(tactic| walk_at "my splt") => `(tactic| first | (refine' SplT.cons ?s; (case s => walk_at "my splt")) | exact SplT.base)
local macro_rules | `(tactic| walk_at "my keepg") => `(tactic| with_reducible (first
 | exact KeepG.base
 | (refine' keepG_WL ?t ?k; (case t => assumption); (case k => walk_at "my keepg"))
 | (refine' keepG_I ?t ?k; (case t => assumption); (case k => walk_at "my keepg"))
 | (refine' keepG_tab ?k; (case k => walk_at "my keepg"))
 | (refine' keepG_C ?t ?k; (case t => assumption); (case k => walk_at "my keepg"))
 | (refine' KeepG.drop ?k; (case k => walk_at "my keepg"))))
local macro_rules | `(tactic| walk_at "my tail") => `(tactic| first | exact fun _ h => h | (refine' tail_cons' ?ta; (case ta => walk_at "my tail")) | (refine' tail_app ?ta; (case ta => walk_at "my tail")))
local macro_rules | `(tactic| walk_at "my tail") => `(tactic| (refine' tails_in ?T ?d; (case T => (kbo_bools)); (case d => walk_at "my tail0")))
local macro_rules | `(tactic| walk_at "my tail0") => `(tactic| first | exact fun _ h => h | (refine' tail_cons' ?ta; (case ta => walk_at "my tail0")))
local macro_rules | `(tactic| tb_start) => `(tactic| with_reducible (first | assumption | exact off1_ne (by assumption) | exact allLt_ne (by assumption) | exact allNe_n | (refine' allNe_c ?na ?nb; (case na => (k_extra "fne")); (case nb => tb_start))))
local macro_rules | `(tactic| regstrif_slice) => `(tactic| with_reducible (first | exact PwF.nil | (refine' pwTS ?t ?a ?b; (case t => assumption); (case a => tb_start); (case b => regstrif_slice)) | (refine' pwC ?a ?b; (case a => tb_start); (case b => regstrif_slice))))
local macro_rules | `(tactic| walk_at "my keepf") => `(tactic| with_reducible (first
 | exact KeepF.base
 | (refine' keepF_L ?t ?n ?k; (case t => assumption); (case n => (tb_start)); (case k => walk_at "my keepf"))
 | (refine' keepF_tab ?n ?k; (case n => tb_start); (case k => walk_at "my keepf"))
 | (refine' keepF_W ?t ?n ?k; (case t => assumption); (case n => tb_start); (case k => walk_at "my keepf"))
 | (refine' keepF_C ?t ?n ?k; (case t => assumption); (case n => tb_start); (case k => walk_at "my keepf"))
 | (refine' keepF_T ?t ?n ?k; (case t => assumption); (case n => tb_start); (case k => walk_at "my keepf"))
 | (refine' KeepF.drop ?k; (case k => walk_at "my keepf"))))
theorem PySem.Challenge.cw_sn0104_01_holds : PySem.Challenge.rw_sn0104_01.Holds :=
  hd ⟨runs, by
 k_with_none
 k_with "hA" => first | exact deeper_caller _ | exact deeper_ar _ _ _ _ _
 k_with "al2" => with_reducible (first | exact off1_ne (cr13 (by assumption)) | exact off1_ne (cr14 (by assumption)) | exact off1_ne (cr15 (by assumption)) | exact off1_ne (cr16 (by assumption)) | exact off1_ne (cr17 (by assumption)) | exact off1_ne (cr12 (by assumption)) | exact off1_ne (cr18 (by assumption)) | exact off1_ne (cr11 (by assumption)) | exact off1_ne (cr19 (by assumption)) | exact off1_ne (cr10 (by assumption)) | exact off1_ne (cr20 (by assumption)) | exact off1_ne (cr9 (by assumption)) | exact off1_ne (cr8 (by assumption)) | exact off1_ne (cr7 (by assumption)) | exact off1_ne (cr6 (by assumption)) | exact off1_ne (cr5 (by assumption)) | exact off1_ne (cr4 (by assumption)) | exact off1_ne (cr3 (by assumption)) | exact off1_ne (cr2 (by assumption)) | exact off1_ne (cr1 (by assumption)) | exact off1_ne (by assumption) | exact allLt_ne (cr13 (by assumption)) | exact allLt_ne (cr14 (by assumption)) | exact allLt_ne (cr15 (by assumption)) | exact allLt_ne (cr16 (by assumption)) | exact allLt_ne (cr17 (by assumption)) | exact allLt_ne (cr12 (by assumption)) | exact allLt_ne (cr18 (by assumption)) | exact allLt_ne (cr11 (by assumption)) | exact allLt_ne (cr19 (by assumption)) | exact allLt_ne (cr10 (by assumption)) | exact allLt_ne (cr20 (by assumption)) | exact allLt_ne (cr9 (by assumption)) | exact allLt_ne (cr8 (by assumption)) | exact allLt_ne (cr7 (by assumption)) | exact allLt_ne (cr6 (by assumption)) | exact allLt_ne (cr5 (by assumption)) | exact allLt_ne (cr4 (by assumption)) | exact allLt_ne (cr3 (by assumption)) | exact allLt_ne (cr2 (by assumption)) | exact allLt_ne (cr1 (by assumption)) | exact allLt_ne (by assumption))
 k_with "lt9" => with_reducible (first | assumption | exact (And.left (by assumption)) | exact (cl1 (by assumption)) | exact (cr1 (by assumption)) | exact (cl2 (by assumption)) | exact (cr2 (by assumption)) | exact (cl3 (by assumption)) | exact (cr3 (by assumption)) | exact (cl4 (by assumption)) | exact (cr4 (by assumption)) | exact (cl5 (by assumption)) | exact (cr5 (by assumption)) | exact (cl6 (by assumption)) | exact (cr6 (by assumption)) | exact (cl7 (by assumption)) | exact (cr7 (by assumption)) | exact (cl8 (by assumption)) | exact (cr8 (by assumption)) | exact (cl9 (by assumption)) | exact (cr9 (by assumption)) | exact (cl10 (by assumption)) | exact (cr10 (by assumption)) | exact (cl11 (by assumption)) | exact (cr11 (by assumption)) | exact (cl12 (by assumption)) | exact (cr12 (by assumption)) | exact (cl13 (by assumption)) | exact (cr13 (by assumption)) | exact (cl14 (by assumption)) | exact (cr14 (by assumption)) | exact (cl15 (by assumption)) | exact (cr15 (by assumption)) | exact (cl16 (by assumption)) | exact (cr16 (by assumption)) | exact (cl17 (by assumption)) | exact (cr17 (by assumption)) | exact (cl18 (by assumption)) | exact (cr18 (by assumption)) | exact (cl19 (by assumption)) | exact (cr19 (by assumption)) | exact (cl20 (by assumption)) | exact (cr20 (by assumption)) | exact (cl21 (by assumption)) | exact (cr21 (by assumption)) | exact (cl22 (by assumption)) | exact (cr22 (by assumption)))
 k_with "ne2" => ((try dsimp only); first | exact sz2 _ | exact sz3 _ | exact sz4 _ | exact Ne.symm (sz2 _) | exact Ne.symm (sz3 _) | exact Ne.symm (sz4 _) | (refine' Nat.ne_of_lt (Nat.lt_trans ?zqp ?zqq); (case zqq => assumption); (case zqp => k_extra "lt9")) | (refine' Nat.ne_of_gt (Nat.lt_trans ?zqp ?zqq); (case zqq => assumption); (case zqp => k_extra "lt9")))
 k_with "call ref" => ((with_reducible show wpAny _ _ (call (Value.ref 326) _ _) _ _ _); (k_here; k_dflt (refine' use_c ?zqB ?zqF ?zqX ?zqN ?zqT ?zqhA ?zqhf ?zqhke (turns_c _ _ _ _ _ _ _ _ ?zqp0 ?zqp1 ?zqp2 ?zqp3) ?zqhled ?zqhrem ?zqhold ?_); (case zqhA => walk_at "hA"); (case zqhf => walk_at "hf"); (case zqhke => walk_at "hke"); (case zqB => walk_at "ka"); (case zqF => walk_at "ka"); (case zqX => walk_at "ka"); (case zqN => walk_at "ka"); (case zqT => walk_at "ka"); (case zqhled => (k_dflt (k_allIn))); (case zqhrem => (k_dflt ((first | exact Rem.refl | lsm_bools)))); (case zqhold => (k_dflt (exact fun g9 hk9 _ => hold_list (by assumption) hk9)));(case zqp0 => (k_dflt ((first | decide | ktr_room)))); (case zqp1 => (k_dflt ((first | decide | ktr_units)))); (case zqp2 => (k_dflt ((kbo_bools)))); (case zqp3 => (k_dflt (omega))); k_whole; intro v9 h' tk' led' F' N' hne9 hP9; obtain ⟨D9, refs9, n9, dn9, hv9, hl9, hR9, hA9⟩ := hP9; subst hv9 hl9; (try simp only [List.cons_append, List.nil_append] at N'); (try dsimp only at N'); (walk_at "my hk"); (rename OffAll _ _ => hne9); (rename News _ _ _ _ => N'); (walk_at "my sq"); (replace N' := news_rot1 N'); (simp only [List.cons_append, List.nil_append] at N'); (have hkm := HkMark.mk); (try dsimp only)))
 k_with "call ref" => ((with_reducible show wpAny _ _ (call (Value.ref 331) _ _) _ _ _); (k_here; k_dflt (refine' use_c ?zqB ?zqF ?zqX ?zqN ?zqT ?zqhA ?zqhf ?zqhke (book_c _ _ _ _ _ _ _ _ _ ?zqp0 ?zqp1 ?zqp2 ?zqp3 ?zqp4) ?zqhled ?zqhrem ?zqhold ?_); (case zqhA => walk_at "hA"); (case zqhf => walk_at "hf"); (case zqhke => walk_at "hke"); (case zqB => walk_at "ka"); (case zqF => walk_at "ka"); (case zqX => walk_at "ka"); (case zqN => walk_at "ka"); (case zqT => walk_at "ka"); (case zqhled => (k_dflt (k_allIn))); (case zqhrem => (k_dflt ((first | exact Rem.refl | lsm_bools)))); (case zqhold => (k_dflt ((refine' hold_turns ?zqR ?zqm ?zqd; (case zqR => (kbo_bools)); (case zqm => k_mem); (case zqd => walk_at "my tail")))));(case zqp0 => (k_dflt ((first | decide | ktr_room)))); (case zqp1 => (k_dflt ((first | decide | ktr_units)))); (case zqp2 => (k_dflt (exact tws_ok _))); (case zqp3 => (k_dflt (exact mvs_ok _))); (case zqp4 => (k_dflt (exact mvs_len _))); k_whole; intro v9 h' tk' led' F' N' hne9 hP9; obtain ⟨x9, d9, lh9, refs9, n9, dn9, t9, hv9, hl9, hR9, hA9, hA8, hA7, hn9, hn8, hn7⟩ := hP9; subst hv9 hl9; (try simp only [List.cons_append, List.nil_append] at N'); (try dsimp only at N'); (have hne8 := hne9); obtain ⟨dn8, N8, s8, f8⟩ := law_merge N' (by assumption) (by assumption) hne8 (by assumption) (by assumption) (by assumption); (clear N' hne8); (revert f8); (try (keq_hits)); (intro hx9); (walk_at "my hk"); (rename OffAll _ _ => hne9); (rename News _ _ _ _ => N'); (walk_at "my sq"); (have hkm := HkMark.mk); (try dsimp only)))
 k_with "call ref" => ((with_reducible show wpAny _ _ (call (Value.ref 341) _ _) _ _ _); (k_here; k_dflt (refine' use_c ?zqB ?zqF ?zqX ?zqN ?zqT ?zqhA ?zqhf ?zqhke (weave_c _ _ _ _ _ _ _ _ _ _ _ ?zqp0 ?zqp1 ?zqp2 ?zqp3 ?zqp4 ?zqp5 ?zqp6 ?zqp7) ?zqhled ?zqhrem ?zqhold ?_); (case zqhA => walk_at "hA"); (case zqhf => walk_at "hf"); (case zqhke => walk_at "hke"); (case zqB => walk_at "ka"); (case zqF => walk_at "ka"); (case zqX => walk_at "ka"); (case zqN => walk_at "ka"); (case zqT => walk_at "ka"); (case zqhled => (k_dflt (k_allIn))); (case zqhrem => (k_dflt ((first | exact Rem.refl | lsm_bools)))); (case zqhold => (k_dflt (assumption)));(case zqp0 => (k_dflt ((first | decide | ktr_room)))); (case zqp1 => (k_dflt ((first | decide | ktr_units)))); (case zqp2 => (k_dflt ((kbo_bools)))); (case zqp3 => (k_dflt ((kbo_bools)))); (case zqp4 => (k_dflt ((kbo_bools)))); (case zqp5 => (k_dflt ((kbo_bools)))); (case zqp6 => (k_dflt ((kbo_bools)))); (case zqp7 => (k_dflt ((kbo_bools)))); k_whole; intro v9 h' tk' led' F' N' hne9 hP9; obtain ⟨D9, vs9, n9, hv9, hl9, hi9⟩ := hP9; subst hv9 hl9; (try simp only [List.cons_append, List.nil_append] at N'); (try dsimp only at N'); (have hne8 := hne9); (walk_at "my hk"); (rename OffAll _ _ => hne9); (rename News _ _ _ _ => N'); (walk_at "my sq"); (have hkm := HkMark.mk); (try dsimp only)))
 k_with "call ref" => ((with_reducible show wpAny _ _ (call (Value.ref 355) _ _) _ _ _); (k_here; k_dflt (refine' use_c ?zqB ?zqF ?zqX ?zqN ?zqT ?zqhA ?zqhf ?zqhke (worths_c _ _ _ _ _ _ _ _ _ _ _ ?zqp0 ?zqp1 ?zqp2 ?zqp3 ?zqp4) ?zqhled ?zqhrem ?zqhold ?_); (case zqhA => walk_at "hA"); (case zqhf => walk_at "hf"); (case zqhke => walk_at "hke"); (case zqB => walk_at "ka"); (case zqF => walk_at "ka"); (case zqX => walk_at "ka"); (case zqN => walk_at "ka"); (case zqT => walk_at "ka"); (case zqp2 => (k_dflt (first | with_reducible assumption | assumption | exact ts350))); (case zqhled => (k_dflt (k_allIn))); (case zqhrem => (k_dflt ((first | exact Rem.refl | lsm_bools)))); (case zqhold => (k_dflt ((refine' hold_games ?zqLL ?zqm ?zqd; (case zqm => k_mem); (case zqLL => (kbo_bools)); (case zqd => walk_at "my tail")))));(case zqp0 => (k_dflt ((first | decide | ktr_room)))); (case zqp1 => (k_dflt ((first | decide | ktr_units)))); (case zqp3 => (k_dflt (walk_at "wlen9"))); (case zqp4 => (k_dflt (walk_at "bound9"))); k_whole; intro v9 h' tk' led' F' N' hne9 hP9; obtain ⟨D9, vs9, n9, p9, c9, o9, hv9, hl9, hi9, hT9, hq1⟩ := hP9; subst hv9 hl9; (try simp only [List.cons_append, List.nil_append] at N'); (try dsimp only at N'); (have hne8 := hne9); (have ht9 := tab_ne N'); (walk_at "my hk"); (rename OffAll _ _ => hne9); (rename News _ _ _ _ => N'); (walk_at "my sq"); (have hkm := HkMark.mk); (try dsimp only)))
 k_with "bound9" => first | with_reducible exact bound_wov _ | with_reducible exact bound_l _ | with_reducible exact bound_r _
 k_with "wlen9" => first | exact Nat.le_of_ble_eq_true rfl | (rw [wov_len]; exact Nat.le_of_ble_eq_true rfl)
 k_with "call ref" => ((with_reducible show wpAny _ _ (call (Value.ref 336) _ _) _ _ _); (k_here; k_dflt (refine' use_c ?zqB ?zqF ?zqX ?zqN ?zqT ?zqhA ?zqhf ?zqhke (read_c _ _ _ _ _ _ _ _ _ _ _ _ _ _ _ _ _ ?zqp0 ?zqp1 ?zqp2 ?zqp3 ?zqp4 ?zqp5 ?zqp6 ?zqp7 ?zqp8 ?zqp9 ?zqp10 ?zqp11) ?zqhled ?zqhrem ?zqhold ?_); (case zqhA => walk_at "hA"); (case zqhf => walk_at "hf"); (case zqhke => walk_at "hke"); (case zqB => walk_at "ka"); (case zqF => walk_at "ka"); (case zqX => walk_at "ka"); (case zqN => walk_at "ka"); (case zqT => walk_at "ka"); (case zqhrem => (k_dflt (assumption))); (case zqhled => (k_dflt (k_allIn))); (case zqhold => (k_dflt (assumption)));(case zqp0 => (k_dflt ((first | decide | ktr_room)))); (case zqp1 => (k_dflt ((first | decide | ktr_units)))); (case zqp2 => (k_dflt ((kbo_bools)))); (case zqp3 => (k_dflt (exact tws_ok _))); (case zqp4 => (k_dflt (exact mvs_ok _))); (case zqp5 => (k_dflt (exact mvs_len _))); (case zqp6 => (k_dflt ((kbo_bools)))); (case zqp7 => (k_dflt (exact And.left (by assumption)))); (case zqp8 => (k_dflt (exact And.left (And.right (by assumption))))); (case zqp9 => (k_dflt (exact And.left (And.right (And.right (by assumption)))))); (case zqp10 => (k_dflt (exact And.left (And.right (And.right (And.right (by assumption))))))); (case zqp11 => (k_dflt (exact And.right (And.right (And.right (And.right (by assumption))))))); k_whole; intro v9 h' tk' led' F' N' hne9 hP9; obtain ⟨lm9, vs9, n9, p9, c9, o9, hv9, hl9, hi9, hT9, hq1, hq2, hq3, hq4, hq5, hq6⟩ := hP9; subst hv9 hl9; (try simp only [List.cons_append, List.nil_append] at N'); (try dsimp only at N'); (have hne8 := hne9); (walk_at "my hk"); (rename OffAll _ _ => hne9); (rename News _ _ _ _ => N'); (walk_at "my sq"); (have hkm := HkMark.mk); (try dsimp only)))
 k_with "call ref" => ((with_reducible show wpAny _ _ (call (Value.ref 360) _ _) _ _ _); (k_here; k_dflt (refine' use_c ?zqB ?zqF ?zqX ?zqN ?zqT ?zqhA ?zqhf ?zqhke (packed_c _ _ _ _ _ _ _ _ _ _ _ _ _ _ ?zqp0 ?zqp1 ?zqp2 ?zqp3 ?zqp4 ?zqp5 ?zqp6 ?zqp7 ?zqp8) ?zqhled ?zqhrem ?zqhold ?_); (case zqhA => walk_at "hA"); (case zqhf => walk_at "hf"); (case zqhke => walk_at "hke"); (case zqB => walk_at "ka"); (case zqF => walk_at "ka"); (case zqX => walk_at "ka"); (case zqN => walk_at "ka"); (case zqT => walk_at "ka"); (case zqp8 => (k_dflt ((kbo_bools)))); (case zqhled => (k_dflt (k_allIn))); (case zqhrem => (k_dflt ((first | exact Rem.refl | lsm_bools)))); (case zqhold => (k_dflt (exact fun _ _ _ => trivial)));(case zqp0 => (k_dflt ((first | decide | ktr_room)))); (case zqp1 => (k_dflt ((first | decide | ktr_units)))); (case zqp2 => (k_dflt ((kbo_bools)))); (case zqp3 => (k_dflt (first | with_reducible exact (small_l _).1 | with_reducible exact (small_r _).1))); (case zqp4 => (k_dflt (first | with_reducible exact (small_l _).2 | with_reducible exact (small_r _).2))); (case zqp5 => (k_dflt (exact wd16 (by assumption)))); (case zqp6 => (k_dflt (kpt_turns))); (case zqp7 => (k_dflt (kpt_turns))); k_whole; intro v9 h' tk' led' F' N' hne9 hP9; obtain ⟨D9, vs9, k9, p9, c9, o9, hv9, hl9, hi9, hT9, hq1, hq2⟩ := hP9; subst hv9 hl9; (try simp only [List.cons_append, List.nil_append] at N'); (try dsimp only at N'); (have hne8 := hne9); (walk_at "my hk"); (rename OffAll _ _ => hne9); (rename News _ _ _ _ => N'); (walk_at "my sq"); (have hkm := HkMark.mk); (try dsimp only)))
 k_with "call ref" => ((with_reducible show wpAny _ _ (call (Value.ref 365) _ _) _ _ _); (k_here; k_dflt (refine' use_c ?zqB ?zqF ?zqX ?zqN ?zqT ?zqhA ?zqhf ?zqhke (prod_c2 _ _ _ _ _ _ _ _ _ _ _ _ _ _ _ _ _ _ _ ?zqp0 ?zqp1 ?zqp2 ?zqp3 ?zqp4 ?zqp5 ?zqp6 ?zqp7 ?zqp8 ?zqp9 ?zqp10 ?zqp11) ?zqhled ?zqhrem ?zqhold ?_); (case zqhA => walk_at "hA"); (case zqhf => walk_at "hf"); (case zqhke => walk_at "hke"); (case zqB => walk_at "ka"); (case zqF => walk_at "ka"); (case zqX => walk_at "ka"); (case zqN => walk_at "ka"); (case zqT => walk_at "ka"); (case zqhrem => (k_dflt (assumption))); (case zqhled => (k_dflt (k_allIn))); (case zqhold => (k_dflt (exact fun _ _ _ => trivial)));(case zqp0 => (k_dflt ((first | decide | ktr_room)))); (case zqp1 => (k_dflt ((first | decide | ktr_units)))); (case zqp2 => (k_dflt (exact rfl))); (case zqp3 => (k_dflt (exact rfl))); (case zqp4 => (k_dflt ((kbo_bools)))); (case zqp5 => (k_dflt ((kbo_bools)))); (case zqp6 => (k_dflt ((kbo_bools)))); (case zqp7 => (k_dflt ((kbo_bools)))); (case zqp8 => (k_dflt ((kbo_bools)))); (case zqp9 => (k_dflt ((kbo_bools)))); (case zqp10 => (k_dflt ((kbo_bools)))); (case zqp11 => (k_dflt ((kbo_bools)))); k_whole; intro v9 h' tk' led' F' N' hne9 hP9; obtain ⟨t9, p4, c4, o4, p6, c6, o6, hv9, hl9, hT4, hT6, hq1, hq2, hq3⟩ := hP9; subst hv9 hl9; (try simp only [List.cons_append, List.nil_append] at N'); (try dsimp only at N'); (have hne8 := hne9); (walk_at "my hk"); (rename OffAll _ _ => hne9); (rename News _ _ _ _ => N'); (walk_at "my sq"); (have hkm := HkMark.mk); (try dsimp only)))
 k_with "call ref" => ((with_reducible show wpAny _ _ (call (Value.ref 370) _ _) _ _ _); (k_here; k_dflt (refine' use_c ?zqB ?zqF ?zqX ?zqN ?zqT ?zqhA ?zqhf ?zqhke (lost_c _ _ _ _ _ _ _ _ _ _ _ ?zqp0 ?zqp1 ?zqp2 ?zqp3 ?zqp4 ?zqp5 ?zqp6) ?zqhled ?zqhrem ?zqhold ?_); (case zqhA => walk_at "hA"); (case zqhf => walk_at "hf"); (case zqhke => walk_at "hke"); (case zqB => walk_at "ka"); (case zqF => walk_at "ka"); (case zqX => walk_at "ka"); (case zqN => walk_at "ka"); (case zqT => walk_at "ka"); (case zqhled => (k_dflt (k_allIn))); (case zqhrem => (k_dflt ((first | exact Rem.refl | lsm_bools)))); (case zqhold => (k_dflt ((refine' hold_lost ?zqm ?zqLL ?zqmp ?zqd; (case zqm => k_mem); (case zqLL => (kbo_bools)); (case zqmp => k_mem); (case zqd => walk_at "my tail")))));(case zqp0 => (k_dflt ((first | decide | ktr_room)))); (case zqp1 => (k_dflt ((first | decide | ktr_units)))); (case zqp2 => (k_dflt ((kbo_bools)))); (case zqp3 => (k_dflt (exact corner_pos))); (case zqp4 => (k_dflt (exact Nat.le_of_ble_eq_true rfl))); (case zqp5 => (k_dflt (decide))); (case zqp6 => (k_dflt (exact small_wov _))); k_whole; intro v9 h' tk' led' F' N' hne9 hP9; obtain ⟨D9, vs9, n9, hv9, hl9, hi9⟩ := hP9; subst hv9 hl9; walk_at "u9"))
 k_with "call ref" => ((with_reducible show wpAny _ _ (call (Value.ref 348) _ _) _ _ _); (k_here; k_dflt (refine' use_c ?zqB ?zqF ?zqX ?zqN ?zqT ?zqhA ?zqhf ?zqhke (over_c _ _ _ _ _ _ _ _ _ _ ?zqp0 ?zqp1 ?zqp2 ?zqp3 ?zqp4) ?zqhled ?zqhrem ?zqhold ?_); (case zqhA => walk_at "hA"); (case zqhf => walk_at "hf"); (case zqhke => walk_at "hke"); (case zqB => walk_at "ka"); (case zqF => walk_at "ka"); (case zqX => walk_at "ka"); (case zqN => walk_at "ka"); (case zqT => walk_at "ka"); (case zqhled => (k_dflt (k_allIn))); (case zqhrem => (k_dflt ((first | exact Rem.refl | lsm_bools)))); (case zqhold => (k_dflt ((refine' hold_one ?zqm; (case zqm => k_mem)))));(case zqp0 => (k_dflt ((first | decide | ktr_room)))); (case zqp1 => (k_dflt ((first | decide | ktr_units)))); (case zqp2 => (k_dflt ((kbo_bools)))); (case zqp3 => (k_dflt (exact Nat.le_of_ble_eq_true rfl))); (case zqp4 => (k_dflt ((kbo_bools)))); k_whole; intro v9 h' tk' led' F' N' hne9 hP9; obtain ⟨t9, hv9, hl9⟩ := hP9; subst hv9 hl9; (try simp only [List.cons_append, List.nil_append] at N'); (try dsimp only at N'); (walk_at "my sq"); (try dsimp only)))
 k_with "exec Assign cons ListComp" => (k_here; (first | (with_reducible show wpAny _ _ (exec (Stmt.Assign [_] (Expr.ListComp (Expr.Call _ [_, Expr.BinOp _ _ _ _] _ _) _ _ _) _) _) _ _ _) | (with_reducible show wpAny _ _ (exec (Stmt.Assign [_] (Expr.ListComp _ [_, _] _ _) _) _) _ _ _)); (k_dflt (refine Assign_any (F₀ := by k_asm) (by rfl) (by with_unfolding_all rfl) (by with_unfolding_all rfl) (by rfl) (by decide) (by rfl) (by rfl) ?_)))
 k_with "eval ListComp" => (k_here; (first | (with_reducible show wpAny _ _ (eval (Expr.ListComp (Expr.Call _ [_, Expr.BinOp _ _ _ _] _ _) _ _ _) _) _ _ _) | (with_reducible show wpAny _ _ (eval (Expr.ListComp _ [⟨Expr.Tuple _ _ _, _, _, _⟩] _ _) _) _ _ _) | (with_reducible show wpAny _ _ (eval (Expr.ListComp _ [⟨_, Expr.Name (Str.ofString "corner") _, _, _⟩] _ _) _) _ _ _) | (with_reducible show wpAny _ _ (eval (Expr.ListComp _ [_, _] _ _) _) _ _ _)); k_dflt (refine ListComp_any (F₀ := by k_asm) (by rfl) (by rfl) (by decide) ?_))
 k_with "CSrc" => (k_here; k_dflt (first | ((with_reducible show CSrc _ _ _ _ _ _ _ (Expr.Call _ [_, Expr.BinOp (Expr.Constant (Const.str (Str.ofString "a")) _ _) _ _ _] _ _) _ _ _ _ _ _ _ _); (have hB9 : BaseIs 0 := True.intro); refine' csrc_range (n := 3) (fun I C D => turn_1 _ _ _ _ _ _ _ _) ?zqca ?zqcb ?zqcc ?zqcd ?zqce ?zqcf ?zqcg ?zqch ?zqci ?zqcj ?_; (case zqca => exact fun C => asg_name rfl rfl); (case zqcb => exact fun _ => trivial); (case zqcc => decide); (case zqcd => rfl); (case zqce => rfl); (case zqcf => k_asm); (case zqcg => k_asm); (case zqch => (kbo_bools)); (case zqci => decide); (case zqcj => decide); k_whole; intro I' C' D' E' g' hI' hCD' hC0' hCL' hD0' hDL' hIC') | ((with_reducible show CSrc _ _ _ _ _ _ _ (Expr.Call _ [_, Expr.BinOp (Expr.Constant (Const.str (Str.ofString "b")) _ _) _ _ _] _ _) _ _ _ _ _ _ _ _); (have hB9 : BaseIs 3 := True.intro); refine' csrc_range (n := 3) (fun I C D => turn_1 _ _ _ _ _ _ _ _) ?zqca ?zqcb ?zqcc ?zqcd ?zqce ?zqcf ?zqcg ?zqch ?zqci ?zqcj ?_; (case zqca => exact fun C => asg_name rfl rfl); (case zqcb => exact fun _ => trivial); (case zqcc => decide); (case zqcd => rfl); (case zqce => rfl); (case zqcf => k_asm); (case zqcg => exact news_drop2 (by k_asm)); (case zqch => (kbo_bools)); (case zqci => decide); (case zqcj => decide); k_whole; intro I' C' D' E' g' hI' hCD' hC0' hCL' hD0' hDL' hIC') | ((with_reducible show CSrc _ _ _ _ _ _ _ _ [⟨Expr.Name (Str.ofString "one") _, _, _, _⟩, _] _ _ _ _ _ _ _); (refine' prods_prep ?zqt4 ?zqt6 ?zqN ?zqhled ?zqhrem ?zqd1 ?zqd2 ?zqd3 ?_; (case zqt4 => exact ts54); (case zqt6 => (kbo_bools)); (case zqN => k_asm); (case zqhled => k_allIn); (case zqhrem => lsm_bools); (case zqd1 => decide); (case zqd2 => kpt_turns); (case zqd3 => kpt_turns)); intro hN9 hO9; refine' csrc_list (fun I C D => turn_2a _ _ _ _ _ _ _ _ _ _ _) ?zqca ?zqcb ?zqcc ?zqcd ?zqce ?zqcf ?zqcg ?zqch ?zqci ?zqcj ?_; (case zqca => exact fun C => asg_name rfl rfl); (case zqcb => exact fun _ => trivial); (case zqcc => decide); (case zqcd => rfl); (case zqce => rfl); (case zqcf => k_asm); (case zqcg => exact hN9); (case zqch => k_mem); (case zqci => rfl); (case zqcj => rfl); k_whole; intro I' C' D' E' g' hI' hCD' hC0' hCL' hD0' hDL' hIC') | ((with_reducible show CSrc _ _ _ _ _ _ _ _ [⟨_, _, [_], _⟩] _ _ _ _ _ _ _); refine' csrc_list (fun I C D => turn_1t _ _ _ _ _ _ _ _ _) ?zqca ?zqcb ?zqcc ?zqcd ?zqce ?zqcf ?zqcg ?zqch ?zqci ?zqcj ?_; (case zqca => exact fun C => asg_name rfl rfl); (case zqcb => exact fun _ => trivial); (case zqcc => decide); (case zqcd => rfl); (case zqce => rfl); (case zqcf => k_asm); (case zqcg => k_asm); (case zqch => k_mem); (case zqci => rfl); (case zqcj => rfl); k_whole; intro I' C' D' E' g' hI' hCD' hC0' hCL' hD0' hDL' hIC') | ((with_reducible show CSrc _ _ _ _ _ _ _ _ [_, _] _ _ _ _ _ _ _); refine' csrc_list (fun I C D => turn_2a _ _ _ _ _ _ _ _ _ _ _) ?zqca ?zqcb ?zqcc ?zqcd ?zqce ?zqcf ?zqcg ?zqch ?zqci ?zqcj ?_; (case zqca => exact fun C => asg_name rfl rfl); (case zqcb => exact fun _ => trivial); (case zqcc => decide); (case zqcd => rfl); (case zqce => rfl); (case zqcf => k_asm); (case zqcg => k_asm); (case zqch => k_mem); (case zqci => rfl); (case zqcj => rfl); k_whole; intro I' C' D' E' g' hI' hCD' hC0' hCL' hD0' hDL' hIC') | ((with_reducible show CSrc _ _ _ _ _ _ _ _ [⟨Expr.Tuple _ _ _, _, _, _⟩] _ _ _ _ _ _ _); (have hx9 := pairsAt_of (by assumption)); (obtain ⟨xs9, hxl9, hxp9, hxL9⟩ := hx9); refine' csrc_pairs (fun I C D => turn_1 _ _ _ _ _ _ _ _) ?zqca ?zqcc ?zqcd ?zqcp ?zqck ?zqce ?zqcf ?zqcg ?zqch ?zqci ?zqcj ?_; (case zqca => exact fun C => asg_pair rfl rfl rfl rfl); (case zqcc => decide); (case zqcd => rfl); (case zqcp => exact hxp9); (case zqce => rfl); (case zqcf => k_asm); (case zqcg => k_asm); (case zqch => k_mem); (case zqck => walk_at "my tail"); (case zqci => rfl); (case zqcj => rfl); k_whole; intro I' C' D' E' g' hI' hCD' hC0' hCL' hD0' hDL' hIC')))
 k_with "fix9" => (refine' LFix.mk ?zqf1 ?zqf2 ?zqf3 ?zqf4 ?zqf5 ?zqf6; (case zqf1 => kpt_turns); (case zqf2 => kpt_turns); (case zqf3 => kpt_turns); (case zqf4 => kfm_turns); (case zqf5 => kfm_turns); (case zqf6 => kfm_turns))
 k_with "dyn9" => (refine' LDyn.mk ?zqf0 ?zqf1 ?zqf2 ?zqf3 ?zqf4 ?zqf5 ?zqf6 ?zqf7 ?zqf8; (case zqf0 => first | assumption | exact ts_zero); (case zqf1 => kpt_turns); (case zqf2 => kpt_turns); (case zqf3 => kfm_turns); (case zqf4 => kfm_turns); (case zqf5 => kfm_turns); (case zqf6 => kfm_turns); (case zqf7 => kfm_turns); (case zqf8 => walk_at "my alls"))
 k_with "CR" => (k_here; k_dflt (first | ((with_reducible show CR _ _ _ _ _ _ _ _ _ _ _ (GPair _ _) _ _ _ _ _ _ _ _); refine' cr_snd ?zqxy ?zqhl ?zqa ?zqb ?zqk (fun D'' P' ys' oC' oI' m2' h' tk' hp' hx' hC' F' off' ai' N' => ?_) (fun ys' hy' => ?_); (case zqxy => decide); (case zqhl => omega); (case zqk => exact ⟨by k_mem, subL_of (by walk_at "my tail")⟩); (case zqa => (kbo_bools)); (case zqb => (kbo_bools)); (all_goals (try subst hy'))) | ((with_reducible show CR _ _ _ _ _ _ _ _ _ _ _ (GName (Str.ofString "one")) _ _ _ _ _ _ _ _); (refine' prods_cr ?zqhO ?zqhia ?zqk (worthsOf _) ?zqhh ?zqhC ?zqa ?zqb ?zqc ?zqd ?zqe ?zqf ?zqh ?zqT (fun i' x' t' ys' q' oC' oI' m2' h' tk' hk' hP' hx' hC' F' off' ai' N' => ?_) (fun ys' p4' c4' o4' p6' c6' o6' hy' hO' => ?_); (case zqhO => (kbo_bools)); (case zqhia => (kbo_bools)); (case zqk => k_subL); (case zqhh => rfl); (case zqhC => rfl); (case zqa => (kbo_bools)); (case zqb => (kbo_bools)); (case zqc => (kbo_bools)); (case zqd => (kbo_bools)); (case zqe => (kbo_bools)); (case zqf => (kbo_bools)); (case zqh => exact fun _ => rfl); (case zqT => exact asg_name rfl rfl); (all_goals (try (dsimp only [ledPr] at N'))); (all_goals (try ((obtain ⟨ht4, ht6, hd1, hd2, hd3, hf54, hf4, hf61, hf6⟩ := hO'); (simp only [AllNe, and_true] at hf54 hf4 hf61 hf6); (revert hf54); (try (keq_hits)); (intro hx9); (walk_at "my un"); (revert hf4); (try (keq_hits)); (intro hx9); (walk_at "my un"); (revert hf61); (try (keq_hits)); (intro hx9); (walk_at "my un"); (revert hf6); (try (keq_hits)); (intro hx9); (walk_at "my un"); (dsimp only [ledPr])))))) | ((with_reducible show CR _ _ _ _ _ _ _ _ _ _ _ (GName (Str.ofString "heads")) _ _ _ _ _ _ _ _); (refine' last_cr (over _) ?zqhi ?zqhp ?zqhpl ?zqa ?zqb ?zqk (fun k' t' ys' oC' oI' m2' h' tk' hk' hx' hC' F' N' => ?_) (fun ys' hy' => ?_); (case zqhi => (kbo_bools)); (case zqhp => exact corner_pos); (case zqhpl => decide); (case zqa => (kbo_bools)); (case zqb => (kbo_bools)); (case zqk => k_subL))) | ((with_reducible show CR _ _ _ _ _ _ _ _ _ _ _ _ _ (eval _ _ >>= _) _ _ _ _ _ _); (refine' wov_cr ?zqS ?zqLL ?zqLR ?zqpd ?zqk ?zqkp ?zqhh ?zqhC ?zqa ?zqb ?zqc ?zqd ?zqe ?zqf ?zqh ?zqT (fun i' a' la' va' na' ys' q' oC' oI' m2' h' tk' hk' hma' hia' hP' hx' hC' F' off' ai' N' => ?_) (fun ys' q' hL' hT' => ?_); (case zqS => walk_at "my splt"); (case zqLL => (kbo_bools)); (case zqLR => with_reducible exact (by assumption : ListsAt _ _ [mvsOf _ 3, _, _])); (case zqpd => (kbo_bools)); (case zqk => k_subL); (case zqkp => k_allIn); (case zqhh => rfl); (case zqhC => rfl); (case zqa => (kbo_bools)); (case zqb => (kbo_bools)); (case zqc => (kbo_bools)); (case zqd => (kbo_bools)); (case zqe => (kbo_bools)); (case zqf => (kbo_bools)); (case zqh => exact fun _ => rfl); (case zqT => exact asg_name rfl rfl); (all_goals (try simp only [List.cons_append, List.nil_append] at N')); skip; (all_goals (try ((have hm8 := ListsAt.mono (by with_reducible assumption : ListsAt _ _ [mvsOf _ 0, _, _]) hT'.sub); (have hm9 := ListsAt.mono (by with_reducible assumption : ListsAt _ _ [mvsOf _ 3, _, _]) hT'.sub); (have hTn9 := hT'.ne); (simp only [List.forall_mem_cons, List.forall_mem_nil, and_true] at hTn9); (revert hTn9); (try (keq_hits)); (intro hx9); (simp only [List.cons_append, List.nil_append]); skip))); skip)) | (refine' left_cr ?zqhB ?zqR ?zqhmv ?zqhlh ?zqTl ?zqhb ?zqFx ?zqDy ?zqa ?zqb (fun i' t' ys' p6' c6' o6' dn' oC' oI' m2' h' tk' hi3' hj6' hx' hC' F' hT' hne' hrem' hhold' N' => ?_) (fun ys' p6' c6' o6' dn' hL' hsub' Tl' Dy' => ?_); (case zqhB => (kbo_bools)); (case zqR => (kbo_bools)); (case zqhmv => exact mvs_ok _); (case zqhlh => rfl); (case zqTl => (kbo_bools)); (case zqhb => decide); (case zqFx => walk_at "fix9"); (case zqDy => walk_at "dyn9"); (case zqa => (kbo_bools)); (case zqb => (kbo_bools)); (all_goals (try ((obtain ⟨hts9, hcx9, hcd9, hsc9, hnx9, hnd9, hn69, hnc9, hnf9⟩ := Dy'); (simp only [AllNe, and_true] at hsc9); (simp only [List.forall_mem_cons, List.forall_mem_nil, and_true] at hnf9); (revert hnf9); (try (keq_hits)); (intro hx9)))); (all_goals (try (have hLm9 := ListsAt.mono (by assumption) hsub'))))))
 k_with "It2" => (k_here; k_dflt (first | ((rename PrP1 _ _ _ _ _ _ => hP9); (refine' prods_in ?zqhib ?zqhk ?zqhP ?zqF ?zqN ?zqhDr ?zqai ?zqhx ?zqa ?zqb ?zqsl ?zqsr ?zqhl ?zqhr (fun J' s2' E' y' ty' ys' p4' p6' c4' c6' o4' o6' oC' oJ' m2' h' tk' hbx' hby' hT4' hT6' hd1' hd2' hd3' hx1' hx2' hC' F' hrem' N' => ?_); (case zqhP => exact hP9); (case zqhk => (kbo_bools)); (case zqF => k_asm); (case zqN => (kbo_bools)); (case zqhDr => k_mem); (case zqhib => exact (by assumption : IntsAre _ (List.map _ (worthsOf [mvsOf _ 3, _, _])))); (case zqai => (kbo_bools)); (case zqhx => decide); (case zqa => (kbo_bools)); (case zqb => (kbo_bools)); (case zqsl => exact (small_l _).1); (case zqsr => exact (small_r _).1); (case zqhl => exact len_l _); (case zqhr => exact len_r _); (dsimp only [ledPr] at hrem' N'))) | refine' wov_in ?zqLR ?zqma ?zqia ?zqhk ?zqP ?zqF ?zqN ?zqDr ?zqai ?zqhx ?zqa ?zqb ?zqsl ?zqsr ?zqgl ?zqgr (fun J' s2' E' b' lb' vb' ys' q' oC' oJ' m2' h' tk' hia' hib' hla' hlb' hba' hbb' hx1' hx2' hC' F' hhold' N' => ?_); (case zqP => (kbo_bools)); (case zqma => (kbo_bools)); (case zqia => (kbo_bools)); (case zqhk => (kbo_bools)); (case zqF => k_asm); (case zqN => (kbo_bools)); (case zqDr => k_mem); (case zqLR => (kbo_bools)); (case zqai => (kbo_bools)); (case zqhx => decide); (case zqa => (kbo_bools)); (case zqb => (kbo_bools)); (case zqsl => first | with_reducible exact smallG_of.1 | with_reducible exact smallG_of.2); (case zqsr => first | with_reducible exact smallG_of.1 | with_reducible exact smallG_of.2); (case zqgl => exact Nat.le_of_ble_eq_true rfl); (case zqgr => exact Nat.le_of_ble_eq_true rfl)))
 k_with "ProdEnd" => (k_here; k_dflt (exact ⟨_, _, _, _, _, _, _, _, _, rfl, rfl, by k_asm, by k_asm, by assumption, by assumption, by assumption, by assumption, by assumption, by assumption⟩))
 k_with "LastY" => (k_here; k_dflt (exact ⟨_, _, _, _, rfl, by assumption, rfl, by k_asm, by k_asm⟩))
 k_with "LastN" => (k_here; k_dflt (exact ⟨_, _, _, by assumption, rfl, by k_asm, by k_asm⟩))
 k_with "WovEnd" => (k_here; k_dflt (exact ⟨_, _, _, _, _, rfl, rfl, by k_asm, by k_asm, by assumption, by assumption⟩))
 k_with "CSame" => (k_here; k_dflt (exact CSame.intro (by k_asm) (by k_asm) (by assumption)))
 k_with "binaryOp Add ref ref" => (k_here; k_dflt (refine' add_refs ?zqF ?zqN ?zqL1 ?zqL2 ?zqh1 ?zqh2 ?_; (case zqF => k_asm); (case zqN => k_asm); (case zqh1 => k_mem); (case zqh2 => k_mem); (case zqL1 => (kbo_bools)); (case zqL2 => (kbo_bools)); k_whole); intro D' h' F' N' l1 hL'; (try k_lt l1))
 k_with "compareOp Eq ref ref" => (k_here; k_dflt (refine' eq_same ?zqN ?zqh1 ?zqh2 ?zqhi ?zqhj ?zqhu ?zqhe ?_; (case zqN => k_asm); (case zqh1 => k_mem); (case zqh2 => k_mem); (case zqhi => (kbo_bools)); (case zqhj => (kbo_bools)); (case zqhu => ke_room); (case zqhe => exact corner_at _); k_whole))
 k_with "compareOp NotEq ref ref" => (k_here; k_dflt (first | (refine' ne_same ?zqN ?zqh1 ?zqh2 ?zqhi ?zqhj ?zqhu ?zqhe ?_; (case zqN => k_asm); (case zqh1 => k_mem); (case zqh2 => k_mem); (case zqhi => (kbo_bools)); (case zqhj => (kbo_bools)); (case zqhu => ke_room); (case zqhe => exact tartan_at _); k_whole) | (refine' ne_lists ?zqN ?zqh1 ?zqh2 ?zqL1 ?zqL2 ?zqs1 ?zqs2 ?zqhu ?_; (case zqN => k_asm); (case zqh1 => k_mem); (case zqh2 => k_mem); (case zqL1 => (kbo_bools)); (case zqL2 => (kbo_bools)); (case zqs1 => walk_at "my tail"); (case zqs2 => walk_at "my tail"); (case zqhu => ke_room); k_whole)))
 k_with "subscriptTail Name Slice ref ref" => (k_here; k_dflt (first | ((refine' slice5_ints ?zqF ?zqN ?zqm ?zqhi ?zqhz ?_ ?zqs ?zqt; (case zqF => k_asm); (case zqN => k_asm); (case zqm => k_mem); (case zqhi => (kbo_bools)); (case zqhz => exact Nat.le_of_ble_eq_true rfl); (case zqs => with_unfolding_all rfl); (case zqt => kmk_pure)); intro D' h' F' N' l1 hI'; (try k_lt l1)) | ((refine' slice5_refs ?zqF ?zqN ?zqm ?zqhi ?zqhz ?_ ?zqs ?zqt; (case zqF => k_asm); (case zqN => k_asm); (case zqm => k_mem); (case zqhi => (kbo_bools)); (case zqhz => exact Nat.le_of_ble_eq_true rfl); (case zqs => with_unfolding_all rfl); (case zqt => kmk_pure)); intro D' h' F' N' l1 hI'; (try k_lt l1))))
 k_with "exec Assign cons ListComp" => (k_here; (with_reducible show wpAny _ _ (exec (Stmt.Assign [Expr.Name (Str.ofString "corner") _] _ _) _) _ _ _); (k_dflt ((rename Below callerA _ _ _ => B9); (rename ((hd.heap_1 _).In _) => X9); (rename Top topProg _ _ _ _ _ => T9); (rename Fr _ _ _ _ => F9); (refine' cut_prep2 ?zqLR ?zqN ?zqK B9 X9 T9 F9 ?_; (case zqLR => with_reducible exact (by assumption : ListsAt _ _ (wov _ _))); (case zqN => with_reducible k_asm); (case zqK => (walk_at "my keepg"))); (repeat ((rename (_ : Prop) => z9); (fail_if_success (with_reducible have m9 : HkBase := z9)); (clear z9))); intro B9 X9 T9 F9 N9 hfs9; (simp only [List.cons_append, List.nil_append] at N9); (dsimp only [AllPs] at hfs9); (revert hfs9); (try (keq_hits)); (intro hx9); (walk_at "my un"); refine LCt.Assign_ListComp_T (F₀ := by k_asm) (by rfl) (by with_unfolding_all rfl) (by with_unfolding_all rfl) (by decide) (by rfl) (by decide) (by rfl) (by rfl) (by rfl) ?_)))
 k_with "CompSrcT" => (k_here; k_dflt (refine LCt.CompSrcT.range (by rfl) (by k_asm) (by k_asm) (by k_asm) (by decide) (by rfl) (by exact Nat.le_of_ble_eq_true rfl) ?_; intro g'; (refine' corner_rest (fun k' t' I' oI' C' oC' D' m' ys' h' tk' E' hlo' hhi' hC' hx' F' N' => ?_) (fun ys' hy' => ?_))))
 k_with "CorY" => (k_here; k_dflt (exact ⟨_, _, _, rfl, by assumption, rfl, by k_asm, by k_asm⟩))
 k_with "CorN" => (k_here; k_dflt (exact ⟨_, _, by assumption, rfl, by k_asm, by k_asm⟩))
 k_with "LeftEnd" => (k_here; k_dflt (exact ⟨_, _, _, _, _, _, _, _, rfl, rfl, by k_asm, by k_asm, by assumption, by assumption, by assumption, by assumption, by assumption, by assumption, by assumption, by assumption, by assumption⟩))
 k_with "eval BinOp" => (k_here; (with_reducible show wpAny _ _ (eval (Expr.BinOp (Expr.Constant (Const.str _) _ _) Operator.Add (Expr.Call _ _ _ _) _) _) _ _ _); k_dflt (refine' join_low ?zqhi ?_ (fun t' tk' => ?_); (case zqhi => (kbo_bools))); ((rename (@LT.lt Nat _ _ 3) => h8); (have h9 := three_nat h8); ((rcases h9 with h9 | h9 | h9) <;> subst h9)))
 k_with "NameL" => (k_here; k_dflt (exact NameL.mk' (by decide)))
 k_with "storeName" => (k_here; k_dflt (refine' storeX_C ?zqF ?zqN ?zqc ?zqU ?zqd ?_ ?zqa ?zqb; (case zqa => rfl); (case zqb => rfl); (case zqF => k_asm); (case zqN => k_asm); (case zqc => rfl); (case zqU => walk_at "my updF"); (case zqd => k_asm); k_whole; intro h' o' F' N' d'; (try dsimp only at N')))
 k_with "fne" => with_reducible (first | assumption | exact Ne.symm (by assumption) | decide | exact Nat.ne_of_lt (by assumption) | exact Nat.ne_of_gt (by assumption) | exact Nat.succ_ne_self _ | exact Ne.symm (Nat.succ_ne_self _) | exact sz2 _ | exact sz3 _ | exact sz4 _ | exact Ne.symm (sz2 _) | exact Ne.symm (sz3 _) | exact Ne.symm (sz4 _))
 k_with "exec Assign cons ListComp" => (k_here; (with_reducible show wpAny _ _ (exec (Stmt.Assign [_] (Expr.ListComp _ [_, _] _ _) _) _) _ _ _); (k_dflt ((repeat ((with_reducible rename (_ ∧ _) => h9); (haveI hx9 := And.left h9); (haveI hy9 := And.right h9); clear h9)); (rename Below callerA _ _ _ => B9); (rename ((hd.heap_1 _).In _) => X9); (rename Top topProg _ _ _ _ _ => T9); (rename Fr _ _ _ _ => F9); (refine' cut_prep ?zqLR ?zqN ?zqK ?zqP B9 X9 T9 F9 True.intro ?_; (case zqLR => with_reducible exact (by assumption : ListsAt _ _ [mvsOf _ 3, _, _])); (case zqN => with_reducible k_asm); (case zqK => (walk_at "my keepf")); (case zqP => (regstrif_slice))); (repeat ((rename (_ : Prop) => z9); (fail_if_success (with_reducible have m9 : HkBase := z9)); (clear z9))); intro B9 X9 T9 F9 _ N9 hpd9 hfs9 hpw9; (simp only [List.cons_append, List.nil_append] at N9); (dsimp only [AllPs] at hfs9); (simp only [AllPs, AllNe, and_true, true_and, and_assoc] at hpw9); (revert hfs9); (try (keq_hits)); (intro hx9); (walk_at "my un"); (revert hpw9); (try (keq_hits)); (intro hx9); (walk_at "my un"); (have hq9 := hpd9); (simp only [List.forall_mem_cons, List.forall_mem_nil, and_true] at hq9); (revert hq9); (try (keq_hits)); (intro hx9); (walk_at "my un"); (rename (∃ _ _, _) => hw9); (obtain ⟨n9, t9, hn9, hw8⟩ := hw9); (k_dflt (refine Assign_any (F₀ := by k_asm) (by rfl) (by with_unfolding_all rfl) (by with_unfolding_all rfl) (by rfl) (by decide) (by rfl) (by rfl) ?_)))))
 k_go0
 rename (_ < _ ∧ _ < _ ∧ _ < _) => hl9
 obtain ⟨hl8, hl7, hl6⟩ := law_cells hl9
 have hkb := HkBase.mk
 w_strict k_steps⟩
