import PyProof.Rows.All
import Wide.All
import OpenK.AllK
import Wide.FinOn
import Lean
import PySem.Challenge.RW_oy0315_01
set_option Elab.async false
set_option linter.all false
section
open PySem PySem.W PyProof.Rows
set_option maxRecDepth 100000
set_option genInjectivity false
set_option genSizeOf false
set_option genSizeOfSpec false
namespace OyMine
noncomputable def topG (stp : SharedT → Thread → Option (SharedT × Thread)) (ok : Thread → Bool) : Nat → SharedT → Thread → Option SharedT
  | 0, _, _ => none
  | n + 1, s, t => match through t with
    | true => some s
    | false => match ok t with
      | false => none
      | true => match stp s t with
        | some (s', t') => topG stp ok n s' t'
        | none => none
theorem topG_of {tb : String → Option Builtin} {p : Program} {w : World} {n₀ : Nat} {ann : Option Value} : ∀ {n : Nat} {s s' : SharedT} {t : Thread},
    topG (stepT (denote tb) p w) (stepOk n₀ ann) n s t = some s' → topRun tb p w n₀ ann n s.abs t = some s'.abs
  | 0, _, _, _, h => by cases h
  | n + 1, s, s', t, h => by
    unfold topG at h
    unfold topRun
    cases ht : through t with
    | true => rw [ht] at h; cases h; rfl
    | false =>
      rw [ht] at h
      cases hk : stepOk n₀ ann t with
      | false => rw [hk] at h; cases h
      | true =>
        rw [hk] at h
        cases hs : stepT (denote tb) p w s t with
        | none => rw [hs] at h; cases h
        | some r => obtain ⟨s₂, t₂⟩ := r; rw [hs] at h; dsimp only; rw [stepT_spec hs]; exact topG_of h
noncomputable def impG (stp : SharedT → Thread → Option (SharedT × Thread)) : Nat → SharedT → Thread → Option SharedT
  | 0, _, _ => none
  | n + 1, s, t => match t.atExitBegin with
    | some l => match l with
      | [] => some s
      | _ :: _ => none
    | none => match stp s t with
      | some (s', t') => impG stp n s' t'
      | none => none
theorem impG_of {tb : String → Option Builtin} {p : Program} {w : World} : ∀ {n : Nat} {s s' : SharedT} {t : Thread},
    impG (stepT (denote tb) p w) n s t = some s' → importEnds tb p w n s.abs t = some s'.abs
  | 0, _, _, _, h => by cases h
  | n + 1, s, s', t, h => by
    unfold impG at h
    unfold importEnds
    cases ht : t.atExitBegin with
    | some l =>
      rw [ht] at h
      cases l with
      | nil => cases h; rfl
      | cons a l => cases h
    | none =>
      rw [ht] at h
      cases hs : stepT (denote tb) p w s t with
      | none => rw [hs] at h; cases h
      | some r => obtain ⟨s₂, t₂⟩ := r; rw [hs] at h; dsimp only; rw [stepT_spec hs]; exact impG_of h

noncomputable def startOf (p : Program) : SharedT := ⟨.nil, 0, {}, #[], {}, 1, { stdin := p.given.stdin.toArray }⟩
theorem start_abs (p : Program) : (startOf p).abs = (start p).1 := rfl
noncomputable abbrev StpTy := (Code → Sem Fin) → Program → World → SharedT → Thread → Option (SharedT × Thread)


noncomputable def fenceModT (m : Str) (s : SharedT) : Option SharedT :=
  match boundIn s.abs.heap sysModules m, tameNamesOf? m with
  | some (.ref a), some row => (match s.abs.heap.get? a with
    | some o => (match o.dict with
      | some D => (match s.abs.heap.get? D with
        | some od => (match fenceDict? m row od with
          | some od' => (match s.tree.get D with
            | some _ => some { s with tree := s.tree.set D fun _ => od' }
            | none => none)
          | none => none)
        | none => none)
      | none => none)
    | none => none)
  | _, _ => none
theorem fenceModT_of {m : Str} {s s' : SharedT} (h : fenceModT m s = some s') : fenceModule? m s.abs = some s'.abs := by
  unfold fenceModT at h
  unfold fenceModule?
  split at h
  · rename_i a row e1 e2
    rw [e1, e2]
    dsimp only
    split at h
    · rename_i o e3
      rw [e3]
      dsimp only
      split at h
      · rename_i D e4
        rw [e4]
        dsimp only
        split at h
        · rename_i od e5
          rw [e5]
          dsimp only
          split at h
          · rename_i od' e6
            rw [e6]
            split at h
            · rename_i x e7
              cases h
              exact congrArg (fun g => some (⟨g, s.gens, s.drawn, s.toks, s.os⟩ : Shared)) (absHeap_set (n := s.n) (life := s.life) (f := fun _ => od') e7).symm
            · cases h
          · cases h
        · cases h
      · cases h
    · cases h
  · cases h
noncomputable def fenceAllT : List Str → SharedT → Option SharedT
  | [], s => some s
  | m :: r, s => match fenceModT m s with
    | some s' => fenceAllT r s'
    | none => none
theorem fenceAllT_of : ∀ {ms : List Str} {s s' : SharedT}, fenceAllT ms s = some s' → fenceAll? ms s.abs = some s'.abs
  | [], _, _, h => by cases h; rfl
  | m :: r, s, s', h => by
    unfold fenceAllT at h
    unfold fenceAll?
    cases e : fenceModT m s with
    | none => rw [e] at h; cases h
    | some s₁ =>
      rw [e] at h
      rw [fenceModT_of e]
      exact fenceAllT_of h
noncomputable def runBy (p : Program) (ms : List Str) (N : Nat) (stp : SharedT → Thread → Option (SharedT × Thread)) (stp' : SharedT → Thread → Option (SharedT × Thread)) : Option (SharedT × SharedT) :=
  match impG stp N (startOf (opening p)) (start (opening p)).2 with
  | some s₀ => match fenceAllT ms s₀ with
    | some s => match topG stp' (stepOk s.n (s.abs.heap.nsMap mainGlobals "__annotations__")) N s (topStub p) with
      | some s' => some (s, s')
      | none => none
    | none => none
  | none => none
noncomputable def chkBy (p : Program) (ms : List Str) (a b : Shared) : Bool := (a.heap.isNs mainGlobals && a.gens.size == 0) && (staticsOk ms a.heap b.heap && namesBound p b.heap && gensDone b && laidKept a.heap b.heap)

theorem left_of {p q : Program} {ms loose : List Str} {N : Nat} (hms : importedModules p.main.body = ms) (hnp : p.main.body.any namesNumpy = false) {Xt : Shared → Bool} {α : Type} {Yf : Shared → α} {Ya : World → α} {stp : StpTy} {den : Code → Sem Fin} (e1 : stepT = stp) (e2 : denote treeTable = den)
    {seenF : Program → List Str → List Str → (Shared → Bool) → Bool → Shared → _} (e3 : openSeen = seenF)
    (hA : ∀ w : World, (runBy p ms N (stp den (opening p) w) (stp den p w)).map (fun x => (chkBy p ms x.1.abs x.2.abs, seenF q loose ms Xt true x.2.abs)) = some (true, openGood q loose))
    (hB : ∀ w : World, (runBy p ms N (stp den (opening p) w) (stp den p w)).map (fun x => Yf x.2.abs) = some (Ya w)) :
    LeftO p q loose Xt Yf Ya N true := fun w => by
  subst e1 e2 e3 hms
  obtain ⟨⟨a, b⟩, hr, hx⟩ := Option.map_eq_some_iff.mp (hA w)
  obtain ⟨⟨a', b'⟩, hr', hy⟩ := Option.map_eq_some_iff.mp (hB w)
  rw [hr] at hr'
  cases hr'
  simp only [Prod.mk.injEq] at hx
  obtain ⟨hc, hs⟩ := hx
  unfold runBy at hr
  cases hi : impG (stepT (denote treeTable) (opening p) w) N (startOf (opening p)) (start (opening p)).2 with
  | none => rw [hi] at hr; cases hr
  | some s₀ =>
    rw [hi] at hr
    dsimp only at hr
    cases hf : fenceAllT (importedModules p.main.body) s₀ with
    | none => rw [hf] at hr; cases hr
    | some s =>
      rw [hf] at hr
      dsimp only at hr
      cases ht : topG (stepT (denote treeTable) p w) (stepOk s.n (s.abs.heap.nsMap mainGlobals "__annotations__")) N s (topStub p) with
      | none => rw [ht] at hr; cases hr
      | some s' =>
        rw [ht] at hr
        obtain ⟨rfl, rfl⟩ : s = a ∧ s' = b := by simpa using hr
        have i := impG_of hi
        rw [start_abs] at i
        have t := topG_of ht
        unfold chkBy at hc
        obtain ⟨hc1, hc2⟩ := Bool.and_eq_true_iff.mp hc
        have hn : s.n = s.abs.heap.objs.size := (absHeap_size s.tree s.n s.life).symm
        rw [hn] at t
        have tf : topFrom treeTable p w N s.abs = some s'.abs := by
          unfold topFrom
          rw [hc1, t]
          show (match staticsOk (importedModules p.main.body) s.abs.heap s'.abs.heap && namesBound p s'.abs.heap && gensDone s'.abs && laidKept s.abs.heap s'.abs.heap with | true => some s'.abs | false => none) = _
          rw [hc2]
        have fe : fenceModules? p s₀.abs = some s.abs := by
          unfold fenceModules?
          rw [fenceAllT_of hf, hnp]
          rfl
        unfold openEnds fencedOpening
        rw [i]
        show ((fenceModules? p s₀.abs).bind _).map _ = _
        rw [fe]
        show (topFrom treeTable p w N s.abs).map _ = _
        rw [tf]
        exact congrArg some (Prod.ext hs hy)
noncomputable def getT (s : SharedT) (a : Addr) : Option Obj := match Nat.blt a s.n with
  | true => (match s.tree.get a with
    | some o => alive o
    | none => alive default)
  | false => none
theorem getT_of (s : SharedT) (a : Addr) : s.abs.heap.get? a = getT s a := by
  unfold getT
  cases h : Nat.blt a s.n with
  | false => exact abs_get_none fun q => by rw [show Nat.blt a s.n = true from Nat.ble_eq_true_of_le q] at h; cases h
  | true =>
    have lt : a < s.n := Nat.le_of_ble_eq_true h
    cases g : s.tree.get a with
    | some o => exact abs_get lt g
    | none =>
      show (absHeap s.tree s.n s.life).get? a = _
      unfold Heap.get?
      rw [absHeap_at, if_pos lt, g]
      rfl
theorem obs_of {p : Program} {ms : List Str} {N : Nat} (stp stp' : World → SharedT → Thread → Option (SharedT × Thread)) (as ts : List Addr) (K : Params → Frag)
    (h : ∀ w : World, (runBy p ms N (stp w) (stp' w)).map (fun x => (as.map (getT x.2), ts.map (getT x.2))) = some ((K w.params).map fun p => some p.2, ts.map fun _ => some (tabObj #[]))) :
    ∀ w : World, (runBy p ms N (stp w) (stp' w)).map (fun x => (as.map x.2.abs.heap.get?, ts.map x.2.abs.heap.get?)) = some ((K w.params).map fun p => some p.2, ts.map fun _ => some (tabObj #[])) := fun w => by
  have e : (fun x : SharedT × SharedT => (as.map x.2.abs.heap.get?, ts.map x.2.abs.heap.get?)) = fun x => (as.map (getT x.2), ts.map (getT x.2)) :=
    funext fun x => Prod.ext (List.map_congr_left fun a _ => getT_of x.2 a) (List.map_congr_left fun a _ => getT_of x.2 a)
  rw [e]
  exact h w
theorem den_eq : denote treeTable = PySem.W.Fast.tw11892475500146522536 PySem.W.Fast.tw14364793385576792824 :=
  (congrFun PySem.W.Fast.te11892475500146522536 treeTable).trans (congrArg PySem.W.Fast.tw11892475500146522536 PySem.W.Fast.te14364793385576792824)
noncomputable abbrev stpQ : StpTy := PySem.W.Fast.tw10156331382660048174
noncomputable abbrev denQ : Code → Sem Fin := PySem.W.Fast.tw11892475500146522536 PySem.W.Fast.tw14364793385576792824
noncomputable abbrev pw := PySem.Challenge.pw_oy0315_01
noncomputable abbrev oyLoose : List Str := ["_wall", "twin_re_1_smtplib", "_twin_re_2", "CRLF", "quotedata", "_initial_missing", "reduce", "twin_re_1_shlex", "_whence", "_index", "UnsupportedOperation", "IOBase", "BufferedIOBase", "TextIOBase", "BytesIO", "StringIO", "_kind", "_fspath", "_check_arg_types", "isabs", "join", "dirname", "shlex", "_find_unsafe", "quote", "_law_tree", "_law_outline", "_law_walk", "_law_written", "_law_step"]
noncomputable def oyView : Program := view PySem.Challenge.pw_oy0315_01 [0, 1, 38]
noncomputable abbrev runQ (w : World) : Option (SharedT × SharedT) := runBy pw ["_sre", "_collections"] 10646 (stpQ denQ (opening pw) w) (stpQ denQ pw w)
noncomputable abbrev XtQ : Shared → Bool := fun s => xlAt oyView [] s && recOk (RowW.records (OpenRow.toRowW (OpenLaw.row PySem.Challenge.rw_oy0315_01))) s
theorem mods_pw : importedModules pw.main.body = ([("_sre" : Str), ("_collections" : Str)] : List Str) := by decide +kernel
theorem np_pw : pw.main.body.any namesNumpy = false := by decide +kernel
set_option maxHeartbeats 0 in
theorem hA : ∀ w : World, (runQ w).map (fun x => (chkBy pw ["_sre", "_collections"] x.1.abs x.2.abs, PySem.W.Fast.tw4187177175401517315 oyView oyLoose ["_sre", "_collections"] XtQ true x.2.abs)) = some (true, openGood oyView oyLoose) := by
  intro w; kernel_rfl
end OyMine
end
section
open PySem PySem.W PyProof.Rows
set_option maxRecDepth 100000
set_option genInjectivity false
set_option genSizeOf false
set_option genSizeOfSpec false
namespace OyMine
set_option maxHeartbeats 8000000 in
theorem said9 : OpenLaw.wellSaid PySem.Challenge.rw_oy0315_01 = true := by
  refine (congrFun PySem.W.Fast.te9446332074065402090 PySem.Challenge.rw_oy0315_01).trans ?_
  delta PySem.W.Fast.tw9446332074065402090
  repeat' with_reducible refine look_both ?_ ?_
  all_goals (try delta PySem.W.Fast.tw17960256430627541270)
  all_goals (repeat' with_reducible refine look_both ?_ ?_)
  all_goals (try delta PySem.W.Fast.tw2436336058641802641)
  all_goals (repeat' with_reducible refine look_both ?_ ?_)
  all_goals (try delta PySem.W.Fast.tw12908688711261696721)
  all_goals (repeat' with_reducible refine look_both ?_ ?_)
  all_goals decide +kernel
local macro_rules | `(tactic| o_law) => `(tactic| refine holds_law said9 fun said => ?_)

local macro_rules | `(tactic| o_head $H) => `(tactic| (
  refine holds_open (q := oyView) (loose := oyLoose) (Xt := XtQ) (XP := XL oyView []) (Yf := Hook.obs $H) (Ya := Hook.val $H) (YP := Hook.says $H) (N := 10646) ?hl (Hook.of $H) (Hook.keeps $H) (fun s e => xl_of s (Bool.and_eq_true_iff.mp e).1) XL.keeps (by rfl) (by rfl) (by rfl) (fun s e => recFacts_of (Bool.and_eq_true_iff.mp e).2) (by rfl) (by first | assumption | decide +kernel) (by decide +kernel) ⟨rfl, rfl, rfl, rfl, rfl, by decide +kernel⟩ ?hw ?hc
  (case hl => (refine left_of mods_pw np_pw PySem.W.Fast.te10156331382660048174 den_eq PySem.W.Fast.te4187177175401517315 hA ?_; refine obs_of (fun w => stpQ denQ (opening pw) w) (fun w => stpQ denQ pw w) _ _ _ ?_; intro w; kernel_rfl))))
set_option maxHeartbeats 8000000 in
open_top hd for PySem.Challenge.rw_oy0315_01
end OyMine
end
open PySem PySem.W
local macro_rules | `(tactic| walk_at $s:str) => do `(tactic| k_extra $(Lean.Syntax.mkStrLit ("my " ++ s.getString)))
local macro_rules | `(tactic| k_room) => `(tactic| k_extra "my k_room")
local macro_rules | `(tactic| ktr_room) => `(tactic| k_extra "my ktr_room")
local macro_rules | `(tactic| k_units) => `(tactic| k_extra "my k_units")
local macro_rules | `(tactic| units_room) => `(tactic| k_extra "my units_room")
local macro_rules | `(tactic| k_enter) => `(tactic| k_extra "my k_enter")
local macro_rules | `(tactic| kt_len) => `(tactic| k_extra "my kt_len")
local macro_rules | `(tactic| k_memK) => `(tactic| k_extra "my k_memK")
local macro_rules | `(tactic| k_all) => `(tactic| k_extra "my k_all")
local macro_rules | `(tactic| omega) => `(tactic| k_extra "my omega")
namespace OyMine
theorem q1 {n node i : Nat} (h : 5 - node ≤ n + 1) : 5 - (node + 1 + i) ≤ n := by omega
theorem q2 {node i : Nat} (h : node + (i + 1) < 5) : node + 1 + i < 5 := by omega
theorem q3 {node i : Nat} (h : node + (i + 1) < 5) : node + i < 5 := by omega
theorem q4 {node i : Nat} : node < node + 1 + i := by omega
theorem q5 {node : Nat} (h : node < 5) : node + (4 - node) < 5 := by omega
theorem q6 {node k : Nat} (h : node < 5) (g : k < node + 1 + (4 - node)) : k < 5 := by omega
theorem q7 {node i : Nat} (h : node + 1 + i < 5) : node + i < 5 := by omega
theorem q8 {a b : Nat} : a - b ≤ a := Nat.sub_le a b
theorem room_le {a b k c : Nat} (h : a ≤ b) (e : Nat.ble (b + k) c = true) : a + k ≤ c := Nat.le_trans (Nat.add_le_add_right h k) (Nat.le_of_ble_eq_true e)
theorem room_lt {a b k c : Nat} (h : a ≤ b) (e : Nat.ble (b + k + 1) c = true) : a + k < c := Nat.lt_of_le_of_lt (Nat.add_le_add_right h k) (Nat.le_of_ble_eq_true e)
theorem room_le0 {a b c : Nat} (h : a ≤ b) (e : Nat.ble b c = true) : a ≤ c := Nat.le_trans h (Nat.le_of_ble_eq_true e)
theorem words_Top0_0 : True := by
  w_top off
  k_with_none
  k_with "my omega" => (first
    | with_reducible assumption
    | with_reducible exact Nat.ne_of_lt (by assumption)
    | with_reducible exact Nat.ne_of_gt (by assumption)
    | decide
    | with_reducible exact Nat.le_refl _
    | with_reducible exact Nat.zero_le _
    | with_reducible exact Nat.le_add_right _ _
    | with_reducible exact Nat.le_add_left _ _
    | with_reducible exact Nat.lt_succ_self _
    | with_reducible exact Nat.le_succ _
    | with_reducible exact Nat.succ_pos _
    | with_reducible exact Nat.zero_add _
    | with_reducible exact q4
    | with_reducible exact q8
    | with_reducible exact Nat.le_of_lt (by assumption)
    | with_reducible exact Nat.le_of_succ_le (by assumption)
    | with_reducible exact Nat.le_of_succ_le_succ (by assumption)
    | with_reducible exact Nat.not_lt.mp (by assumption)
    | with_reducible exact Nat.lt_succ_of_le (by assumption)
    | with_reducible exact Nat.le_succ_of_le (by assumption)
    | with_reducible exact Nat.succ_le_of_lt (by assumption)
    | with_reducible exact q1 (by assumption)
    | with_reducible exact q2 (by assumption)
    | with_reducible exact q3 (by assumption)
    | with_reducible exact q5 (by assumption)
    | with_reducible exact q7 (by assumption)
    | with_reducible exact q6 (by assumption) (by assumption)
    | with_reducible exact absurd (by assumption) (Nat.not_lt.mpr (by assumption))
    | (with_reducible refine room_le (by assumption) ?_; with_unfolding_all rfl)
    | (with_reducible refine room_lt (by assumption) ?_; with_unfolding_all rfl)
    | (with_reducible refine room_le0 (by assumption) ?_; with_unfolding_all rfl)
    | ((fail_if_success (with_reducible show _ ≠ _)); (rename _ ∧ _ => cW9; clear cW9); (repeat (rename _ ∧ _ => cW9; clear cW9)); omega)
    | fail "no")
  k_with "my execs cons" => (k_here; refine wpAny_execs_cons ?_; k_fold)
  trivial
end OyMine
section
set_option maxRecDepth 100000
set_option genInjectivity false
set_option genSizeOf false
set_option genSizeOfSpec false
namespace OyMine
open PySem PySem.Sre PySem.Builtin.Re

theorem runFor_done {m : M} (h : m.outcome.isSome = true) : ∀ n, M.runFor n m = m
  | 0 => rfl
  | n + 1 => by unfold M.runFor; rw [if_pos h]
theorem runFor_succ (n : Nat) (m : M) : M.runFor (n + 1) m = if m.outcome.isSome then m else M.runFor n m.step := rfl
theorem runFor_add : ∀ (a b : Nat) (m : M), M.runFor (a + b) m = M.runFor b (M.runFor a m)
  | 0, b, m => by rw [Nat.zero_add]; rfl
  | a + 1, b, m => by
    rw [show a + 1 + b = (a + b) + 1 by omega, runFor_succ, runFor_succ]
    by_cases h : m.outcome.isSome = true
    · rw [if_pos h, if_pos h, runFor_done h]
    · rw [if_neg h, if_neg h]
      exact runFor_add a b m.step
/-- the machine comes from m to m' in n steps -/
noncomputable def Goes (n : Nat) (m m' : M) : Prop := M.runFor n m = m'
theorem Goes.trans {a b : Nat} {m m' m'' : M} (h : Goes a m m') (h' : Goes b m' m'') : Goes (a + b) m m'' := by
  unfold Goes at *
  rw [runFor_add, h, h']
theorem Goes.one {m m' : M} (h0 : m.outcome = none) (h : m.step = m') : Goes 1 m m' := by
  unfold Goes M.runFor
  rw [h0]
  simp [h, M.runFor]
section
variable {Mo : Model} {A : Around} {E : Value → Shared → Prop} {s : Shared}
theorem wp_drive {Q : M → Shared → Prop} {m' : M} (hd : m'.outcome.isSome = true) (hQ : Q m' s) : ∀ (turns n : Nat) (m : M), Goes n m m' → n ≤ 4 * turns → 0 < turns → wpAny Mo A (reDrive turns m) Q E s
  | 0, _, _, _, _, h => absurd h (Nat.lt_irrefl _)
  | t + 1, n, m, hg, hn, _ => by
    have key : (M.runFor 4 m).outcome.isSome = true → M.runFor 4 m = m' := fun h => by
      unfold Goes at hg
      by_cases q : n ≤ 4
      · rw [show 4 = n + (4 - n) by omega, runFor_add, hg, runFor_done hd]
      · rw [show n = 4 + (n - 4) by omega, runFor_add, runFor_done h] at hg
        exact hg
    show wpAny Mo A (if (M.runFor 4 m).outcome.isSome then pure (M.runFor 4 m) else do rule "sre.turn"; reDrive t (M.runFor 4 m)) Q E s
    by_cases h : (M.runFor 4 m).outcome.isSome = true
    · rw [if_pos h, key h]
      exact wpAny_pure hQ
    · rw [if_neg h]
      have q : 4 < n := by
        refine Nat.lt_of_not_le fun q => h ?_
        unfold Goes at hg
        rw [show 4 = n + (4 - n) by omega, runFor_add, hg, runFor_done hd]
        exact hd
      refine wpAny_bind (wpAny_rule ?_)
      refine wp_drive hd hQ t (n - 4) _ ?_ (by omega) (by omega)
      unfold Goes at hg ⊢
      rw [← runFor_add, show 4 + (n - 4) = n by omega]
      exact hg
theorem wp_skim {Q : PUnit → Shared → Prop} {f : Nat → PUnit → Sem (ForInStep PUnit)} (hf : ∀ i r (Q' : ForInStep PUnit → Shared → Prop), Q' (.yield PUnit.unit) s → wpAny Mo A (f i r) Q' E s) (hQ : Q PUnit.unit s) :
    ∀ l : List Nat, wpAny Mo A (forIn l PUnit.unit f) Q E s
  | [] => wpAny_pure hQ
  | i :: l => by
    rw [List.forIn_cons]
    exact wpAny_bind (hf i _ _ (wp_skim hf hQ l))
theorem wp_run {Q : Option M → Shared → Prop} {m m' : M} {n : Nat} (hg : Goes n m m') (hn : n ≤ 2 ^ 60) {r : Option M} (ho : (m'.outcome = some .matched ∧ r = some m') ∨ (m'.outcome = some .failed ∧ r = none)) (hQ : Q r s) : wpAny Mo A (reRunToEnd m) Q E s := by
  have hd : m'.outcome.isSome = true := by rcases ho with ⟨h, _⟩ | ⟨h, _⟩ <;> rw [h] <;> rfl
  unfold reRunToEnd
  refine wpAny_bind (wp_drive hd ?_ (2 ^ 64) n m hg (by omega) (by omega))
  refine wpAny_bind (wp_skim (fun i r Q' h => ?_) ?_ _)
  · split
    · exact wpAny_bind (wpAny_rule (wpAny_pure h))
    · exact wpAny_bind (wpAny_pure (wpAny_pure h))
  rcases ho with ⟨h, rfl⟩ | ⟨h, rfl⟩
  · rw [h]; exact wpAny_pure hQ
  · rw [h]; exact wpAny_pure hQ
end

noncomputable def c1 : Array Nat := #[14, 4, 0, 1, 1, 6, 1, 16, 46, 1]
noncomputable def S1 (text : Array Nat) (s : Nat) (b : Bool) (seen : Seen) : M :=
  { code := c1, text, lim := text.size, start := s, lastStart := text.size, pc := 5, pos := s, handed := s, outermost := b, marks := #[],
    frames := [{ wait := .nextStart, pc := 5, pos := s, outermost := b }], weight := 1, seen }
/-- a line begins at s -/
noncomputable def bol (text : Array Nat) (s : Nat) : Bool := s == 0 || text.getD (s - 1) 0 == 10
theorem s1_at {text : Array Nat} {s : Nat} {b : Bool} {seen : Seen} : ∃ seen', (S1 text s b seen).step = (if bol text s then { S1 text s b seen' with pc := 7 } else { S1 text s b seen' with answer := some false }) := by
  refine ⟨(seen.add 6).add 44, ?_⟩
  exact (rfl : (if bol text s = true then _ else _) = _)
noncomputable def find1 (text : Array Nat) : Nat → Nat → Option Nat
  | 0, _ => none
  | f + 1, k => if bol text k && text.getD k 0 == 46 then some k else find1 text f (k + 1)
noncomputable def Says1 (m' : M) (r : Option Nat) : Prop := match r with
  | some k => m'.outcome = some .matched ∧ m'.start = k ∧ m'.handed = k + 1
  | none => m'.outcome = some .failed
theorem s1_lit {text : Array Nat} {s : Nat} {b : Bool} {seen : Seen} : ∃ seen', ({ S1 text s b seen with pc := 7 } : M).step =
    (if s ≥ text.size then { S1 text s b seen' with pc := 7, answer := some false } else if text.getD s 0 == 46 then { S1 text s b seen' with pc := 9, pos := s + 1 } else { S1 text s b seen' with pc := 7, answer := some false }) := by
  refine ⟨seen.add 16, ?_⟩
  by_cases h : s ≥ text.size
  · rw [if_pos h]
    show (if s ≥ text.size then _ else _) = _
    rw [if_pos h]
    rfl
  · rw [if_neg h]
    show (if s ≥ text.size then _ else _) = _
    rw [if_neg h]
    cases q : text.getD s 0 == 46 with
    | true =>
      show (match (Except.ok (text.getD s 0 == 46, seen.add 16) : Except String (Bool × Seen)) with | .error why => _ | .ok (false, seen) => _ | .ok (true, seen) => _) = _
      rw [q]
      rfl
    | false =>
      show (match (Except.ok (text.getD s 0 == 46, seen.add 16) : Except String (Bool × Seen)) with | .error why => _ | .ok (false, seen) => _ | .ok (true, seen) => _) = _
      rw [q]
      rfl
theorem s1_yes {text : Array Nat} {s : Nat} {b : Bool} {seen : Seen} : ∃ m', Goes 3 ({ S1 text s b seen with pc := 9, pos := s + 1 } : M) m' ∧ Says1 m' (some s) :=
  ⟨_, rfl, by cases b <;> exact ⟨rfl, rfl, rfl⟩⟩
theorem s1_no {text : Array Nat} {s p : Nat} {b : Bool} {seen : Seen} (h : s < text.size) : Goes 1 ({ S1 text s b seen with pc := p, answer := some false } : M) (S1 text (s + 1) false seen) := by
  refine Goes.one rfl ?_
  show (if s < text.size then _ else _) = _
  rw [if_pos h]
  rfl
theorem s1_end {text : Array Nat} {s p : Nat} {b : Bool} {seen : Seen} (h : ¬ s < text.size) : ∃ m', Goes 2 ({ S1 text s b seen with pc := p, answer := some false } : M) m' ∧ Says1 m' none := by
  refine ⟨_, Goes.trans (a := 1) (b := 1) (Goes.one rfl rfl) (Goes.one (m' := _) ?_ rfl), ?_⟩
  · show M.outcome (if s < text.size then _ else _) = none
    rw [if_neg h]
    rfl
  · show M.outcome (M.step (if s < text.size then _ else _)) = _
    rw [if_neg h]
    rfl
theorem search1 {text : Array Nat} : ∀ (f s : Nat) (b : Bool) (seen : Seen), f + s = text.size → ∃ n m', Goes n (S1 text s b seen) m' ∧ n ≤ 8 * f + 8 ∧ Says1 m' (find1 text f s)
  | 0, s, b, seen, h => by
    obtain ⟨se, e1⟩ := s1_at (text := text) (s := s) (b := b) (seen := seen)
    have hs : s ≥ text.size := by omega
    by_cases hb : bol text s = true
    · rw [if_pos hb] at e1
      obtain ⟨se2, e2⟩ := s1_lit (text := text) (s := s) (b := b) (seen := se)
      rw [if_pos hs] at e2
      obtain ⟨m', g, q⟩ := s1_end (text := text) (s := s) (p := 7) (b := b) (seen := se2) (by omega)
      exact ⟨_, m', (Goes.one rfl e1).trans ((Goes.one rfl e2).trans g), (by omega), q⟩
    · rw [if_neg hb] at e1
      obtain ⟨m', g, q⟩ := s1_end (text := text) (s := s) (p := 5) (b := b) (seen := se) (by omega)
      exact ⟨_, m', (Goes.one rfl e1).trans g, (by omega), q⟩
  | f + 1, s, b, seen, h => by
    obtain ⟨se, e1⟩ := s1_at (text := text) (s := s) (b := b) (seen := seen)
    have hs : s < text.size := by omega
    unfold find1
    by_cases hb : bol text s = true
    · rw [if_pos hb] at e1
      obtain ⟨se2, e2⟩ := s1_lit (text := text) (s := s) (b := b) (seen := se)
      rw [if_neg (by omega)] at e2
      by_cases hc : (text.getD s 0 == 46) = true
      · rw [if_pos hc] at e2
        obtain ⟨m', g, q⟩ := s1_yes (text := text) (s := s) (b := b) (seen := se2)
        rw [hb, hc]
        exact ⟨_, m', (Goes.one rfl e1).trans ((Goes.one rfl e2).trans g), (by omega), q⟩
      · rw [if_neg hc] at e2
        obtain ⟨n, m', g, l, q⟩ := search1 (text := text) f (s + 1) false se2 (by omega)
        rw [hb, show (text.getD s 0 == 46) = false by simpa using hc]
        refine ⟨_, m', (Goes.one rfl e1).trans ((Goes.one rfl e2).trans ((s1_no hs).trans g)), ?_, q⟩
        omega
    · rw [if_neg hb] at e1
      obtain ⟨n, m', g, l, q⟩ := search1 (text := text) f (s + 1) false se (by omega)
      rw [show bol text s = false by simpa using hb]
      refine ⟨_, m', (Goes.one rfl e1).trans ((s1_no hs).trans g), ?_, q⟩
      omega
theorem forSearch1 {text : Array Nat} {s : Nat} (hs : s ≤ text.size) : ∃ n m', Goes n (forSearch c1 text 0 s text.size false) m' ∧ n ≤ 8 * text.size + 8 ∧ Says1 m' (find1 text (text.size - s) s) := by
  by_cases h : s < text.size
  · have e : forSearch c1 text 0 s text.size false = S1 text s true (({} : Seen).add 14) := by
      show (if (decide (s > text.size) || decide (text.size - s < 1)) = true then _ else _) = _
      rw [if_neg (by simp; omega)]
      rfl
    rw [e]
    obtain ⟨n, m', g, l, q⟩ := search1 (text := text) (text.size - s) s true (({} : Seen).add 14) (by omega)
    exact ⟨n, m', g, (by omega), q⟩
  · have z : text.size - s = 0 := by omega
    rw [z]
    refine ⟨1, _, Goes.one ?_ rfl, by omega, ?_⟩
    · show M.outcome (if (decide (s > text.size) || decide (text.size - s < 1)) = true then _ else _) = _
      rw [if_pos (by simp; omega)]
      rfl
    · show M.outcome (M.step (if (decide (s > text.size) || decide (text.size - s < 1)) = true then _ else _)) = _
      rw [if_pos (by simp; omega)]
      rfl
end OyMine
end
section
set_option maxRecDepth 100000
set_option genInjectivity false
set_option genSizeOf false
set_option genSizeOfSpec false
namespace OyMine
open PySem PySem.Sre PySem.Builtin.Re
theorem step_exec (m : M) (h0 : m.outcome = none) (ha : m.answer = none) (hp : m.pc < m.code.size) : m.step = m.exec := by
  delta M.step
  rw [h0, ha]
  simp [hp]
theorem lit_step (m : M) (c : Nat) (h0 : m.outcome = none) (ha : m.answer = none) (hp : m.pc < m.code.size) (hw : m.code.getD m.pc 0 = 16) (hc : m.code.getD (m.pc + 1) 0 = c) :
    m.step = if m.pos ≥ m.lim then { m with seen := m.seen.add 16, answer := some false } else if m.text.getD m.pos 0 == c then { m with seen := m.seen.add 16, pc := m.pc + 2, pos := m.pos + 1 } else { m with seen := m.seen.add 16, answer := some false } := by
  rw [step_exec m h0 ha hp]
  delta M.exec
  rw [show m.word 0 = 16 from hw]
  by_cases h : m.pos ≥ m.lim
  · rw [if_pos h]
    show (if m.pos ≥ m.lim then _ else _) = _
    rw [if_pos h]; rfl
  · rw [if_neg h]
    show (if m.pos ≥ m.lim then _ else _) = _
    rw [if_neg h]
    have ea : ∀ ch se, accepts m.code m.pc ch se = .ok (ch == c, se) := by
      intro ch se
      delta accepts
      rw [hw, hc]
      rfl
    have ei : itemWidth m.code m.pc = 2 := by
      delta itemWidth
      rw [hw]
      rfl
    rw [ea, ei]
    cases q : m.text.getD m.pos 0 == c
    · rfl
    · rfl
noncomputable def c2 : Array Nat := #[14, 9, 4, 1, 2, 16, 10, 16, 13, 0, 7, 7, 16, 13, 16, 10, 15, 18, 5, 16, 10, 15, 13, 11, 16, 13, 5, 5, 0, 16, 10, 1, 15, 2, 0, 1]
noncomputable def nS (k : Nat) (b : Bool) : Sre.Frame := { wait := .nextStart, pc := 10, pos := k, outermost := b }
noncomputable def nB (p k : Nat) (b : Bool) : Sre.Frame := { wait := .nextBranch, pc := p, pos := k, outermost := b }
noncomputable def F2 (text : Array Nat) (k : Nat) (frames : List Sre.Frame) (w pc pos handed : Nat) (om : Bool) (seen : Seen) (answer : Option Bool) : M :=
  { code := c2, text, lim := text.size, start := k, lastStart := text.size, pc, pos, handed, outermost := om, marks := #[], frames, weight := w, answer, seen }
noncomputable def Says2 (m' : M) (r : Option (Nat × Nat)) : Prop := match r with
  | some (k, l) => m'.outcome = some .matched ∧ m'.start = k ∧ m'.handed = k + l
  | none => m'.outcome = some .failed
variable {text : Array Nat} {k : Nat} {b : Bool} {seen : Seen}
theorem f2_start : ∃ se, Goes 1 (F2 text k [nS k b] 1 10 k k b seen none) (F2 text k [nB 11 k b, nS k b] 2 12 k k b se none) := ⟨_, Goes.one rfl rfl⟩
theorem f2_alt2 {p q : Nat} : ∃ se, Goes 1 (F2 text k [nB 11 k b, nS k b] 2 p q k b seen (some false)) (F2 text k [nB 18 k b, nS k b] 2 19 k k b se none) := ⟨_, Goes.one rfl rfl⟩
theorem f2_alt3 {p : Nat} : ∃ se, Goes 1 (F2 text k [nB 18 k b, nS k b] 2 p k k b seen (some false)) (F2 text k [nB 23 k b, nS k b] 2 24 k k b se none) := ⟨_, Goes.one rfl rfl⟩
theorem f2_lit {fr : List Sre.Frame} {w pc pos hd c : Nat} {om : Bool} (hp : pc < c2.size) (hw : c2.getD pc 0 = 16) (hc : c2.getD (pc + 1) 0 = c) :
    (F2 text k fr w pc pos hd om seen none).step = if pos ≥ text.size then F2 text k fr w pc pos hd om (seen.add 16) (some false) else if text.getD pos 0 == c then F2 text k fr w (pc + 2) (pos + 1) hd om (seen.add 16) none else F2 text k fr w pc pos hd om (seen.add 16) (some false) :=
  lit_step (F2 text k fr w pc pos hd om seen none) c rfl rfl hp hw hc
theorem f2_yes {fr : List Sre.Frame} {w pc pos hd c : Nat} {om : Bool} (hp : pc < c2.size) (hw : c2.getD pc 0 = 16) (hc : c2.getD (pc + 1) 0 = c) (h : pos < text.size) (e : text.getD pos 0 = c) :
    Goes 1 (F2 text k fr w pc pos hd om seen none) (F2 text k fr w (pc + 2) (pos + 1) hd om (seen.add 16) none) := by
  refine Goes.one rfl ?_
  rw [f2_lit hp hw hc, if_neg (by omega), if_pos (by simpa using e)]
theorem f2_no {fr : List Sre.Frame} {w pc pos hd c : Nat} {om : Bool} (hp : pc < c2.size) (hw : c2.getD pc 0 = 16) (hc : c2.getD (pc + 1) 0 = c) (h : pos < text.size → text.getD pos 0 ≠ c) :
    Goes 1 (F2 text k fr w pc pos hd om seen none) (F2 text k fr w pc pos hd om (seen.add 16) (some false)) := by
  refine Goes.one rfl ?_
  rw [f2_lit hp hw hc]
  by_cases q : pos ≥ text.size
  · rw [if_pos q]
  · rw [if_neg q, if_neg (by simpa using h (by omega))]
theorem f2_done {p l hd : Nat} : ∃ m', Goes 4 (F2 text k [nB p k b, nS k b] 2 35 (k + l) hd b seen none) m' ∧ Says2 m' (some (k, l)) := ⟨_, rfl, by cases b <;> exact ⟨rfl, rfl, rfl⟩⟩
theorem f2_jump {p pc l hd : Nat} (h : pc = 16 ∨ pc = 21 ∨ pc = 32) : ∃ se, Goes 1 (F2 text k [nB p k b, nS k b] 2 pc (k + l) hd b seen none) (F2 text k [nB p k b, nS k b] 2 35 (k + l) hd b se none) := by
  rcases h with rfl | rfl | rfl <;> exact ⟨_, Goes.one rfl rfl⟩
noncomputable def lN (k : Nat) (b : Bool) : Sre.Frame := { wait := .lookNot, pc := 26, pos := k + 1, outermost := b }
theorem f2_look {hd : Nat} : ∃ se, Goes 1 (F2 text k [nB 23 k b, nS k b] 2 26 (k + 1) hd b seen none) (F2 text k [lN k b, nB 23 k b, nS k b] 3 29 (k + 1) (k + 1) false se none) := ⟨_, Goes.one rfl rfl⟩
theorem f2_looked {hd p : Nat} {om : Bool} : ∃ se, Goes 1 (F2 text k [lN k b, nB 23 k b, nS k b] 3 29 p hd om seen (some false)) (F2 text k [nB 23 k b, nS k b] 2 32 (k + 1) hd b se none) := ⟨_, Goes.one rfl rfl⟩
/-- the length of the row end that stands at k -/
noncomputable def endLen (text : Array Nat) (k : Nat) : Nat := if text.getD k 0 = 13 ∧ k + 1 < text.size ∧ text.getD (k + 1) 0 = 10 then 2 else 1
theorem match2 (hk : k < text.size) (hc : text.getD k 0 = 13 ∨ text.getD k 0 = 10) :
    ∃ n m', Goes n (F2 text k [nS k b] 1 10 k k b seen none) m' ∧ n ≤ 40 ∧ Says2 m' (some (k, endLen text k)) := by
  obtain ⟨s1, g1⟩ := f2_start (text := text) (k := k) (b := b) (seen := seen)
  rcases hc with hc | hc
  · have g2 := f2_yes (text := text) (k := k) (fr := [nB 11 k b, nS k b]) (w := 2) (pc := 12) (pos := k) (hd := k) (c := 13) (om := b) (seen := s1) (by decide) rfl rfl hk hc
    by_cases h : k + 1 < text.size ∧ text.getD (k + 1) 0 = 10
    · have e : endLen text k = 2 := if_pos ⟨hc, h⟩
      have g3 := f2_yes (text := text) (k := k) (fr := [nB 11 k b, nS k b]) (w := 2) (pc := 14) (pos := k + 1) (hd := k) (c := 10) (om := b) (seen := s1.add 16) (by decide) rfl rfl h.1 h.2
      obtain ⟨s4, g4⟩ := f2_jump (text := text) (k := k) (b := b) (seen := (s1.add 16).add 16) (p := 11) (pc := 16) (l := 2) (hd := k) (.inl rfl)
      obtain ⟨m', g5, q⟩ := f2_done (text := text) (k := k) (b := b) (seen := s4) (p := 11) (l := 2) (hd := k)
      exact ⟨_, m', g1.trans (g2.trans (g3.trans (g4.trans g5))), by decide, e ▸ q⟩
    · have e : endLen text k = 1 := if_neg fun z => h z.2
      have h' : k + 1 < text.size → text.getD (k + 1) 0 ≠ 10 := fun a z => h ⟨a, z⟩
      have g3 := f2_no (text := text) (k := k) (fr := [nB 11 k b, nS k b]) (w := 2) (pc := 14) (pos := k + 1) (hd := k) (c := 10) (om := b) (seen := s1.add 16) (by decide) rfl rfl h'
      obtain ⟨s4, g4⟩ := f2_alt2 (text := text) (k := k) (b := b) (seen := (s1.add 16).add 16) (p := 14) (q := k + 1)
      have g5 := f2_no (text := text) (k := k) (fr := [nB 18 k b, nS k b]) (w := 2) (pc := 19) (pos := k) (hd := k) (c := 10) (om := b) (seen := s4) (by decide) rfl rfl (fun _ => by rw [hc]; decide)
      obtain ⟨s6, g6⟩ := f2_alt3 (text := text) (k := k) (b := b) (seen := s4.add 16) (p := 19)
      have g7 := f2_yes (text := text) (k := k) (fr := [nB 23 k b, nS k b]) (w := 2) (pc := 24) (pos := k) (hd := k) (c := 13) (om := b) (seen := s6) (by decide) rfl rfl hk hc
      obtain ⟨s8, g8⟩ := f2_look (text := text) (k := k) (b := b) (seen := s6.add 16) (hd := k)
      have g9 := f2_no (text := text) (k := k) (fr := [lN k b, nB 23 k b, nS k b]) (w := 3) (pc := 29) (pos := k + 1) (hd := k + 1) (c := 10) (om := false) (seen := s8) (by decide) rfl rfl h'
      obtain ⟨s10, g10⟩ := f2_looked (text := text) (k := k) (b := b) (seen := s8.add 16) (hd := k + 1) (p := k + 1) (om := false)
      obtain ⟨s11, g11⟩ := f2_jump (text := text) (k := k) (b := b) (seen := s10) (p := 23) (pc := 32) (l := 1) (hd := k + 1) (.inr (.inr rfl))
      obtain ⟨m', g12, q⟩ := f2_done (text := text) (k := k) (b := b) (seen := s11) (p := 23) (l := 1) (hd := k + 1)
      exact ⟨_, m', g1.trans (g2.trans (g3.trans (g4.trans (g5.trans (g6.trans (g7.trans (g8.trans (g9.trans (g10.trans (g11.trans g12)))))))))), by decide, e ▸ q⟩
  · have e : endLen text k = 1 := if_neg fun z => by rw [hc] at z; exact absurd z.1 (by decide)
    have g2 := f2_no (text := text) (k := k) (fr := [nB 11 k b, nS k b]) (w := 2) (pc := 12) (pos := k) (hd := k) (c := 13) (om := b) (seen := s1) (by decide) rfl rfl (fun _ => by rw [hc]; decide)
    obtain ⟨s4, g4⟩ := f2_alt2 (text := text) (k := k) (b := b) (seen := s1.add 16) (p := 12) (q := k)
    have g5 := f2_yes (text := text) (k := k) (fr := [nB 18 k b, nS k b]) (w := 2) (pc := 19) (pos := k) (hd := k) (c := 10) (om := b) (seen := s4) (by decide) rfl rfl hk hc
    obtain ⟨s11, g11⟩ := f2_jump (text := text) (k := k) (b := b) (seen := s4.add 16) (p := 18) (pc := 21) (l := 1) (hd := k) (.inr (.inl rfl))
    obtain ⟨m', g12, q⟩ := f2_done (text := text) (k := k) (b := b) (seen := s11) (p := 18) (l := 1) (hd := k)
    exact ⟨_, m', g1.trans (g2.trans (g4.trans (g5.trans (g11.trans g12)))), by decide, e ▸ q⟩
/-- the first sign from s on that is a feed or a return -/
noncomputable def find2 (text : Array Nat) : Nat → Nat → Option Nat
  | 0, _ => none
  | f + 1, k => if text.getD k 0 == 10 || text.getD k 0 == 13 then some k else find2 text f (k + 1)
theorem inSet2 (c : Nat) (seen : Seen) : ∃ se, inSet c2 c c2.size 5 true seen = .ok (c == 10 || c == 13, se) := by
  have e : inSet c2 c c2.size 5 true seen = if c == 10 then .ok (true, seen.add 16) else if c == 13 then .ok (true, (seen.add 16).add 16) else .ok (false, ((seen.add 16).add 16).add 0) := rfl
  rw [e]
  cases c == 10 <;> cases c == 13 <;> exact ⟨_, rfl⟩
theorem admitted2 (m : M) (hc : m.code = c2) (ht : m.text = text) (hl : m.lim = text.size) : ∀ (f s : Nat) (seen : Seen), f + s = text.size → ∃ se, M.admitted m (f + 1) s seen = .ok (find2 text f s, se)
  | 0, s, seen, h => by
    unfold M.admitted
    rw [if_pos (by omega)]
    exact ⟨_, rfl⟩
  | f + 1, s, seen, h => by
    unfold M.admitted find2
    rw [if_neg (by omega), hc, ht]
    obtain ⟨se, e⟩ := inSet2 (text.getD s 0) seen
    rw [e]
    cases q : (text.getD s 0 == 10 || text.getD s 0 == 13) with
    | true => exact ⟨_, rfl⟩
    | false => exact admitted2 m hc ht hl f (s + 1) se (by omega)
theorem find2_spec : ∀ {f s k : Nat}, f + s = text.size → find2 text f s = some k → k < text.size ∧ (text.getD k 0 = 13 ∨ text.getD k 0 = 10)
  | 0, _, _, _, h => by cases h
  | f + 1, s, k, hs, h => by
    unfold find2 at h
    cases q : (text.getD s 0 == 10 || text.getD s 0 == 13) with
    | true =>
      rw [q] at h
      cases h
      simp only [Bool.or_eq_true, beq_iff_eq] at q
      exact ⟨by omega, q.symm⟩
    | false =>
      rw [q] at h
      exact find2_spec (f := f) (s := s + 1) (by omega) h
noncomputable def Sought (text : Array Nat) (s : Nat) : Option (Nat × Nat) := (find2 text (text.size - s) s).map fun k => (k, endLen text k)
theorem forSearch2 {s : Nat} (hs : s ≤ text.size) : ∃ n m', Goes n (forSearch c2 text 0 s text.size false) m' ∧ n ≤ 60 ∧ Says2 m' (Sought text s) := by
  by_cases h : s < text.size
  · let m0 : M := { code := c2, text, lim := text.size, start := s, lastStart := text.size, pc := 10, pos := s, handed := s, marks := #[], seen := ({} : Seen).add 14 }
    have e : forSearch c2 text 0 s text.size false = M.attemptFrom m0 s true := by
      show (if (decide (s > text.size) || decide (text.size - s < 1)) = true then _ else _) = _
      rw [if_neg (by simp; omega)]
      rfl
    obtain ⟨se, ea⟩ := admitted2 (text := text) m0 rfl rfl rfl (text.size - s) s m0.seen (by omega)
    have e2 : M.attemptFrom m0 s true = (match M.admitted m0 (m0.lim + 1 - s) s m0.seen with
        | .ok (some s, seen) => M.attemptAt { m0 with mustAdvance := false, seen } s true
        | .ok (none, seen) => M.say { m0 with seen } false
        | .error why => M.stick m0 why) := rfl
    have e3 : m0.lim + 1 - s = text.size - s + 1 := by show text.size + 1 - s = _; omega
    rw [e, e2, e3, ea]
    unfold Sought
    cases q : find2 text (text.size - s) s with
    | none => exact ⟨1, _, Goes.one rfl rfl, by decide, rfl⟩
    | some k =>
      obtain ⟨h1, h2⟩ := find2_spec (text := text) (by omega) q
      obtain ⟨n, m', g, l, z⟩ := match2 (text := text) (k := k) (b := true) (seen := se) h1 h2
      exact ⟨n, m', g, by omega, z⟩
  · have z : text.size - s = 0 := by omega
    unfold Sought
    rw [z]
    refine ⟨1, _, Goes.one ?_ rfl, by omega, ?_⟩
    · show M.outcome (if (decide (s > text.size) || decide (text.size - s < 1)) = true then _ else _) = _
      rw [if_pos (by simp; omega)]
      rfl
    · show M.outcome (M.step (if (decide (s > text.size) || decide (text.size - s < 1)) = true then _ else _)) = _
      rw [if_pos (by simp; omega)]
      rfl
end OyMine
end
section
open PySem PySem.W PyProof.Rows PySem.Builtin PySem.Builtin.Re
set_option maxRecDepth 100000
set_option genInjectivity false
set_option genSizeOf false
set_option genSizeOfSpec false
namespace OyMine
theorem entry_sub_loop : entryFor table "re.Pattern.sub.loop" = some Builtin.«re.Pattern.sub.loop» := entryFor_of_tree (by kernel_rfl)
theorem plain_sub_loop : plainId "re.Pattern.sub.loop" = true := by decide +kernel
theorem plain_sub : plainId "re.Pattern.sub" = true := by decide +kernel
theorem entry_sub : entryFor table "re.Pattern.sub" = some Builtin.«re.Pattern.sub» := entryFor_of_tree (by kernel_rfl)

noncomputable def Says (m' : Sre.M) (r : Option (Nat × Nat)) : Prop := Says2 m' r
/-- what the machine with this code finds -/
structure Finds (code : Array Nat) (x : Str) (find : Nat → Option (Nat × Nat)) : Prop where
  run : ∀ st, st ≤ x.cps.size → ∃ n m', Goes n (Sre.forSearch code x.cps 0 st x.cps.size false) m' ∧ n ≤ 2 ^ 60 ∧ Says m' (find st)
  spec : ∀ st k l, st ≤ x.cps.size → find st = some (k, l) → st ≤ k ∧ k + l ≤ x.cps.size ∧ 0 < l
noncomputable def subParts (x repl : Str) (find : Nat → Option (Nat × Nat)) : Nat → Nat → List Str
  | 0, _ => []
  | f + 1, st => match find st with
    | some (k, l) => (if st < k then [⟨x.cps.extract st k⟩] else []) ++ (repl :: subParts x repl find f (k + l))
    | none => if st < x.cps.size then [⟨x.cps.extract st x.cps.size⟩] else []
noncomputable def target (pat : Addr) (x : Str) (tx : Tok) (code : Array Nat) : ReTarget := { pattern := .ref pat, string := .str x tx, code := code, text := x.cps, kind := 0, groups := 0, pos := 0, lim := x.cps.size }
section
variable {w : World} {A : Around} {E : Value → Shared → Prop} {R : Result → Shared → Prop} {pat l : Addr} {x repl : Str} {tx tr : Tok} {code : Array Nat} {find : Nat → Option (Nat × Nat)}
theorem sumL_append (a b : List Str) : ((a ++ b).map (·.length)).sum = (a.map (·.length)).sum + (b.map (·.length)).sum := by simp
theorem strValues_append : ∀ (a b : List (Str × Tok)), strValues (a ++ b) = strValues a ++ strValues b := by intro a b; simp [strValues]
theorem K_upd {K : Frag} {h h' : Heap} (X : K.In h) (hs : Heap.SameBut l h h') (hl : K.lookup l = none) : K.In h' := fun a o e => by
  by_cases q : a = l
  · subst q; rw [hl] at e; cases e
  · rw [hs.2 a q]; exact X a o e
theorem upd_push {M : Model} {s : Shared} {ps : List (Str × Tok)} {n : Nat} {y : Str} {t : Tok} {Q : Unit → Shared → Prop} (hL : s.heap.get? l = some (listOf (strValues ps).toArray n)) (hn : ps.length ≤ 4000000)
    (h : ∀ h', Heap.SameBut l s.heap h' → h'.get? l = some (listOf (strValues (ps ++ [(y, t)])).toArray (n + 1)) → Q () { s with heap := h' }) : wpAny M A (updateSeq l (·.push (.str y t))) Q E s := by
  have e2 : (strValues ps).length = ps.length := by simp [strValues]
  refine wpAny_updateSeq hL rfl (h _ (Heap.SameBut.update ..) ?_) (by rw [sizeLine_eq, List.size_toArray, e2]; omega) (by rw [sizeLine_eq, Array.size_push, List.size_toArray, e2]; omega)
  rw [Heap.get?_update_self _ hL rfl]
  simp [Obj.mapSeq, strValues]
theorem sub_loop (hF : Finds code x find) (hx : x.cps.size ≤ 1000000) (hr : repl.length ≤ 2) (hl : (hd.heap_1 w.params).lookup l = none)
    (hT : ∀ h : Heap, (hd.heap_1 w.params).In h → Looks (model PySem.Challenge.rw_oy0315_01.row.prog w) h (reWholeTarget (.ref pat) (.str x tx)) (target pat x tx code)) :
    ∀ (f st : Nat) (ps : List (Str × Tok)) (n : Nat) (cnt : Int) (s : Shared), x.cps.size < f + st → st ≤ x.cps.size → (hd.heap_1 w.params).In s.heap → s.heap.get? l = some (listOf (strValues ps).toArray n) → ps.length ≤ 2 * st → ((ps.map (·.1)).map (·.length)).sum ≤ 3 * st →
      (∀ t' h' tk', Heap.SameBut l s.heap h' → R (.ok (.ret (.str (Txt.join "" (ps.map (·.1) ++ subParts x repl find f st)) t'))) { s with heap := h', toks := tk' }) →
      codeAny (model PySem.Challenge.rw_oy0315_01.row.prog w) A (.builtin "re.Pattern.sub.loop" ⟨[.ref pat, .str x tx, .str repl tr, rawInt 0, rawInt 0, rawInt cnt, rawInt st, rawInt st, .bool false, .ref l, .bool false], []⟩) R s
  | 0, st, _, _, _, _, h1, h2, _, _, _, _, _ => absurd h1 (by omega)
  | f + 1, st, ps, n, cnt, s, h1, h2, X, hL, hn, hs, hQ => by
    refine codeAny_builtin entry_sub_loop ?_
    unfold Builtin.«re.Pattern.sub.loop»
    refine wpAny_bind ((hT s.heap X).here ?_)
    refine wpAny_bind (wpAny_bind (wpAny_pure ?_))
    dsimp only
    rw [if_neg (by simp)]
    refine wpAny_pure ?_
    refine wpAny_bind ?_
    rw [if_neg (by simp)]
    show wpAny _ _ (reRunToEnd (Sre.forSearch code x.cps 0 st x.cps.size false)) _ _ _
    obtain ⟨nn, m', g, ln, says⟩ := hF.run st h2
    unfold subParts at hQ
    cases hfind : find st with
    | none =>
      rw [hfind] at says hQ
      refine wp_run g ln (.inr ⟨says, rfl⟩) ?_
      dsimp only at hQ ⊢
      have eE : Str.mk (x.cps.extract 0 0) = Str.ofString "" := by
        have : x.cps.extract 0 0 = #[] := by simp
        rw [this]; decide +kernel
      have last : ∀ (ps' : List (Str × Tok)) (n' : Nat) (s' : Shared), (∃ h' tk', Heap.SameBut l s.heap h' ∧ s' = { s with heap := h', toks := tk' }) → s'.heap.get? l = some (listOf (strValues ps').toArray n') → ((ps'.map (·.1)).map (·.length)).sum ≤ 4000000 →
          ps'.map (·.1) = ps.map (·.1) ++ (if st < x.cps.size then [⟨x.cps.extract st x.cps.size⟩] else []) →
          wpAny (model PySem.Challenge.rw_oy0315_01.row.prog w) (A.under (.builtin "re.Pattern.sub.loop" ⟨[.ref pat, .str x tx, .str repl tr, rawInt 0, rawInt 0, rawInt cnt, rawInt st, rawInt st, .bool false, .ref l, .bool false], []⟩))
            (do
              let joiner ← mkStr ⟨x.cps.extract 0 0⟩
              let text ← if ((← seqItems? (.ref l)).getD #[]).isEmpty then pure joiner else call (.builtin "str.join") [joiner, .ref l]
              ret text)
            (fun fin s' => match fin with | .done f => R (.ok f) s' | .again c' => c'.quiet = true ∧ codeAny (model PySem.Challenge.rw_oy0315_01.row.prog w) A c' R s') (fun e s' => R (.error e) s') s' := by
        rintro ps' n' _ ⟨h', tk', sb, rfl⟩ hL' hs' hp
        rw [eE]
        refine wpAny_bind (wpAny_mkStr ?_ (by rw [sizeLine_eq]; decide))
        refine wpAny_bind (wpAny_seqItems (s := { s with heap := h', toks := tk' + 1 }) hL' rfl ?_)
        dsimp only [Option.getD_some]
        cases ps' with
        | nil =>
          rw [if_pos (by rfl)]
          refine wpAny_bind (wpAny_pure (wpAny_pure ?_))
          have := hQ tk' h' (tk' + 1) sb
          rw [← hp] at this
          exact this
        | cons a r =>
          rw [if_neg (by simp [strValues])]
          refine wpAny_bind (SC.join (texts := (a :: r).map (·.1)) ⟨_, hL', rfl, n', rfl⟩ rfl ?_ fun t2 k2 => wpAny_pure ?_)
          · unfold JoinOk
            have z := StrLaws.joinTotal "" ((a :: r).map (·.1))
            have z0 : Str.length "" = 0 := by decide
            rw [z0] at z
            unfold Builtin.Str.tooLong
            simp only [z0] at *
            rw [Bool.not_eq_true', decide_eq_false_iff_not, sizeLine_eq]
            omega
          · have := hQ t2 h' k2 sb
            rw [← hp] at this
            exact this
      by_cases hk : st < x.cps.size
      · rw [if_pos (show (Int.toNat (st : Int)) < (target pat x tx code).lim from hk)]
        have hz : (x.cps.extract st x.cps.size).size ≤ x.cps.size - st := by simp
        refine wpAny_bind ?_
        show wpAny _ _ (mkStr ⟨x.cps.extract st x.cps.size⟩) _ _ _
        refine wpAny_mkStr ?_ (by rw [sizeLine_eq]; show (x.cps.extract st x.cps.size).size ≤ _; omega)
        refine wpAny_bind ?_
        refine upd_push (s := { s with toks := s.toks + 1 }) hL (by omega) fun h' sb hL' => ?_
        refine last _ _ _ ⟨h', _, sb, rfl⟩ hL' ?_ (by simp [hk])
        rw [List.map_append, sumL_append]
        simp only [List.map_cons, List.map_nil, List.sum_cons, List.sum_nil]
        have : Str.length ⟨x.cps.extract st x.cps.size⟩ = (x.cps.extract st x.cps.size).size := rfl
        omega
      · rw [if_neg (show ¬ (Int.toNat (st : Int)) < (target pat x tx code).lim from hk)]
        exact last ps n s ⟨s.heap, s.toks, .refl .., rfl⟩ hL (by omega) (by simp [hk])
    | some kl =>
      obtain ⟨k, ll⟩ := kl
      rw [hfind] at says hQ
      obtain ⟨ho, hst, hh⟩ := says
      obtain ⟨q1, q2, q3⟩ := hF.spec st k ll h2 hfind
      refine wp_run g ln (.inl ⟨ho, rfl⟩) ?_
      dsimp only at hQ ⊢
      rw [hst, hh]
      have last : ∀ (ps' : List (Str × Tok)) (n' : Nat) (s' : Shared), (∃ h' tk', Heap.SameBut l s.heap h' ∧ s' = { s with heap := h', toks := tk' }) → s'.heap.get? l = some (listOf (strValues ps').toArray n') → ps'.length ≤ 2 * k + 1 → ((ps'.map (·.1)).map (·.length)).sum ≤ 3 * k →
          ps'.map (·.1) = ps.map (·.1) ++ (if st < k then [⟨x.cps.extract st k⟩] else []) →
          wpAny (model PySem.Challenge.rw_oy0315_01.row.prog w) (A.under (.builtin "re.Pattern.sub.loop" ⟨[.ref pat, .str x tx, .str repl tr, rawInt 0, rawInt 0, rawInt cnt, rawInt st, rawInt st, .bool false, .ref l, .bool false], []⟩))
            (updateSeq l (·.push (.str repl tr)) >>= fun _ => again (.builtin "re.Pattern.sub.loop" ⟨[.ref pat, .str x tx, .str repl tr, rawInt 0, rawInt 0, rawInt (cnt + 1), rawInt ↑(k + ll), rawInt ↑(k + ll), .bool (k + ll == k), .ref l, .bool false], []⟩))
            (fun fin s' => match fin with | .done f => R (.ok f) s' | .again c' => c'.quiet = true ∧ codeAny (model PySem.Challenge.rw_oy0315_01.row.prog w) A c' R s') (fun e s' => R (.error e) s') s' := by
        rintro ps' n' _ ⟨h', tk', sb, rfl⟩ hL' hn' hs' hp
        refine wpAny_bind (upd_push hL' (by omega) fun h2' sb2 hL2 => wpAny_pure ⟨plainId_quiet plain_sub_loop _, ?_⟩)
        have e : (k + ll == k) = false := by simp; omega
        rw [e]
        refine sub_loop hF hx hr hl hT f (k + ll) (ps' ++ [(repl, tr)]) (n' + 1) (cnt + 1) _ (by omega) (by omega) (K_upd X (sb.trans sb2) hl) hL2 (by simp; omega) (by rw [List.map_append, sumL_append]; simp only [List.map_cons, List.map_nil, List.sum_cons, List.sum_nil]; omega) fun t2 h3 tk3 sb3 => ?_
        have := hQ t2 h3 tk3 (sb.trans (sb2.trans sb3))
        rw [List.map_append, hp]
        simpa [List.append_assoc] using this
      have e0 : ((0 : Int) == 0) = true := rfl
      have e1 : (Value.str repl tr != Value.none) = true := rfl
      by_cases hk : st < k
      · rw [if_pos (show (Int.toNat (st : Int)) < k from hk)]
        have hz : (x.cps.extract st k).size ≤ k - st := by simp; omega
        refine wpAny_bind ?_
        show wpAny _ _ (mkStr ⟨x.cps.extract st k⟩) _ _ _
        refine wpAny_mkStr ?_ (by rw [sizeLine_eq]; show (x.cps.extract st k).size ≤ _; omega)
        refine wpAny_bind ?_
        refine upd_push (s := { s with toks := s.toks + 1 }) hL (by omega) fun h' sb hL' => ?_
        rw [if_pos e0]
        refine wpAny_bind (wpAny_pure ?_)
        rw [if_pos e1]
        refine last _ _ _ ⟨h', _, sb, rfl⟩ hL' (by simp; omega) ?_ (by simp [hk])
        rw [List.map_append, sumL_append]
        simp only [List.map_cons, List.map_nil, List.sum_cons, List.sum_nil]
        have : Str.length ⟨x.cps.extract st k⟩ = (x.cps.extract st k).size := rfl
        omega
      · rw [if_neg (show ¬ (Int.toNat (st : Int)) < k from hk), if_pos e0]
        refine wpAny_bind (wpAny_pure ?_)
        rw [if_pos e1]
        exact last ps n s ⟨s.heap, s.toks, .refl .., rfl⟩ hL (by omega) (by omega) (by simp [hk])
end
end OyMine
end
section
open PySem PySem.W PyProof.Rows PySem.Builtin PySem.Builtin.Re
set_option maxRecDepth 100000
set_option genInjectivity false
set_option genSizeOf false
set_option genSizeOfSpec false
namespace OyMine
theorem plainAttrs_pat : PlainAttrs "re.Pattern" :=
  ⟨⟨"object.__getattribute__", by rw [typeLookup_type, builtinLookup_eq_fast]; kernel_rfl, by decide +kernel⟩, by rw [typeLookup_type, builtinLookup_eq_fast]; kernel_rfl⟩
theorem slot_sub : Slot "re.Pattern" "sub" "re.Pattern.sub" :=
  .of (owner := "re.Pattern") (n := "sub") (by rw [typeLookup_type, builtinLookup_eq_fast]; kernel_rfl) (by decide +kernel) (by decide +kernel) (by decide +kernel)
    (by first | exact .inl (by decide +kernel) | exact .inr (by decide +kernel)) (by rw [isSubtype_type]; kernel_rfl)
theorem type_sub : typeOf (.builtin "re.Pattern.sub") = pure (.type "method_descriptor") := by show builtinType _ = _; rw [builtinType_eq_fast]; kernel_rfl
theorem args_sub (a b c : Value) : argsOk "re.Pattern.sub" ⟨[a, b, c], []⟩ := by unfold argsOk; kernel_rfl
section
variable {w : World} {A : Around} {E : Value → Shared → Prop} {pat : Addr} {x repl : Str} {tx tr : Tok} {code : Array Nat} {find : Nat → Option (Nat × Nat)} {s : Shared} {Q : Value → Shared → Prop}
theorem K_push {K : Frag} {h : Heap} (X : K.In h) (o : Obj) : K.In (h.push o) := fun a ob e => Heap.get?_push_of_some _ (X a ob e)
theorem special_str {K : Frag} {M : Model} {h : Heap} (X : K.In h) (y : Str) (t : Tok) : Looks M h (specialOf (.str y t) "__call__") none := looks_specialIn X (show specialIn K (.str y t) "__call__" = some none from by kernel_rfl)
theorem sub_call (hF : Finds code x find) (hx : x.cps.size ≤ 1000000) (hr : repl.length ≤ 2) (hlit : repl.cps.contains 92 = false)
    (hT : ∀ h : Heap, (hd.heap_1 w.params).In h → Looks (model PySem.Challenge.rw_oy0315_01.row.prog w) h (reWholeTarget (.ref pat) (.str x tx)) (target pat x tx code))
    (X : (hd.heap_1 w.params).In s.heap) (hp : s.TypeIs (.ref pat) "re.Pattern")
    (hQ : ∀ t' h' tk', (∀ b o, s.heap.get? b = some o → h'.get? b = some o) → Q (.str (Txt.join "" (subParts x repl find (x.cps.size + 1) 0)) t') { s with heap := h', toks := tk' }) :
    wpAny (model PySem.Challenge.rw_oy0315_01.row.prog w) A (call (.builtin "re.Pattern.sub") [.ref pat, .str repl tr, .str x tx]) Q E s := by
  refine wpAny_call (codeAny_call_builtin slot_sub.plain entry_sub (slot_sub.check _ _ _ _ _ _ _ _ hp (args_sub _ _ _) ?_))
  unfold Builtin.«re.Pattern.sub» reSubstitute
  dsimp only
  have e1 : reNamed "re.Pattern.sub" "sub" ["repl", "string", "count"] 2 [Value.str repl tr, Value.str x tx] [] = pure [some (.str repl tr), some (.str x tx), none] := by kernel_rfl
  rw [e1]
  refine wpAny_bind (wpAny_pure ?_)
  dsimp only
  refine wpAny_bind (wpAny_pure ?_)
  refine wpAny_bind ((special_str X repl tr).here ?_)
  refine wpAny_bind ?_
  refine wpAny_pure ?_
  dsimp only
  refine wpAny_bind (wpAny_pure ?_)
  rw [if_neg (by simp), hlit, if_pos (by rfl)]
  refine wpAny_bind (wpAny_pure ?_)
  dsimp only
  refine wpAny_bind (wpAny_holding ((hT _ X).here ?_))
  rw [if_neg (by decide)]
  refine wpAny_bind (wpAny_newObj_type ?_ (by show (#[] : Array Value).size ≤ sizeLine; rw [sizeLine_eq]; decide))
  have hl : (hd.heap_1 w.params).lookup s.heap.objs.size = none := by
    cases q : (hd.heap_1 w.params).lookup s.heap.objs.size with
    | none => rfl
    | some o => exact absurd (Heap.lt_size (X _ _ q)) (Nat.lt_irrefl _)
  refine wpAny_pure ⟨plainId_quiet plain_sub_loop _, ?_⟩
  refine sub_loop (l := s.heap.objs.size) hF hx hr hl hT (x.cps.size + 1) 0 [] 0 0 _ (by omega) (by omega) (K_push X _) (Heap.get?_push_size _ rfl) (by simp) (by simp) fun t' h' tk' sb => ?_
  refine hQ t' h' tk' fun b o e => ?_
  rw [sb.2 b (Nat.ne_of_lt (Heap.lt_size e))]
  exact Heap.get?_push_of_some _ e
end
end OyMine
end
section
open PySem PySem.W PyProof.Rows PySem.Builtin PySem.Builtin.Re
set_option maxRecDepth 100000
set_option genInjectivity false
set_option genSizeOf false
set_option genSizeOfSpec false
namespace OyMine
/-- every row end a return and a feed -/
noncomputable def nl : List Nat → List Nat
  | [] => []
  | c :: r => if c = 13 then (match r with
      | 10 :: r' => 13 :: 10 :: nl r'
      | r => 13 :: 10 :: nl r)
    else if c = 10 then 13 :: 10 :: nl r else c :: nl r
theorem nl_10 (r : List Nat) : nl (10 :: r) = 13 :: 10 :: nl r := by
  conv => lhs; rw [nl.eq_def]
  rfl
theorem nl_13_10 (r : List Nat) : nl (13 :: 10 :: r) = 13 :: 10 :: nl r := by
  conv => lhs; rw [nl.eq_def]
  rfl
theorem nl_13 {r : List Nat} (h : ∀ r', r ≠ 10 :: r') : nl (13 :: r) = 13 :: 10 :: nl r := by
  conv => lhs; rw [nl.eq_def]
  cases r with
  | nil => rfl
  | cons u v =>
    show (match u :: v with | 10 :: r' => 13 :: 10 :: nl r' | r => 13 :: 10 :: nl r) = _
    split
    · rename_i r' e
      exact absurd e (h r')
    · rfl
/-- one dot more where a row begins with one -/
noncomputable def stuff : Bool → List Nat → List Nat
  | _, [] => []
  | b, c :: r => if b = true ∧ c = 46 then 46 :: 46 :: stuff false r else c :: stuff (c == 10) r
noncomputable def catL (ps : List Str) : List Nat := (ps.map (·.cps.toList)).flatten
theorem catL_cons (p : Str) (ps : List Str) : catL (p :: ps) = p.cps.toList ++ catL ps := rfl
theorem catL_append (a b : List Str) : catL (a ++ b) = catL a ++ catL b := by simp [catL]
theorem join_cat : ∀ ps : List Str, (Txt.join "" ps).cps.toList = catL ps := by
  intro ps
  have z : (Str.ofString "").cps = #[] := by decide +kernel
  have key : ∀ (l : List Str) (acc : Array Nat), (l.foldl (fun acc p => acc ++ (Str.ofString "").cps ++ p.cps) acc).toList = acc.toList ++ catL l := by
    intro l
    induction l with
    | nil => intro acc; simp [catL]
    | cons p l ih => intro acc; rw [List.foldl_cons, ih, catL_cons, z]; simp
  show (Array.toList (List.foldl _ _ _)) = _
  rw [key]
  cases ps with
  | nil => rfl
  | cons p l => rfl
theorem nl_plain : ∀ (a b : List Nat), (∀ c ∈ a, c ≠ 10 ∧ c ≠ 13) → nl (a ++ b) = a ++ nl b
  | [], _, _ => rfl
  | c :: a, b, h => by
    have hc := h c (List.mem_cons_self ..)
    rw [List.cons_append, nl.eq_def]
    simp only [hc.1, hc.2, if_false]
    rw [nl_plain a b fun d hd => h d (List.mem_cons_of_mem _ hd)]
    rfl
theorem find2_none {t : Array Nat} : ∀ {f s : Nat}, find2 t f s = none → ∀ j, s ≤ j → j < s + f → t.getD j 0 ≠ 10 ∧ t.getD j 0 ≠ 13
  | 0, s, _, j, h1, h2 => absurd h2 (by omega)
  | f + 1, s, h, j, h1, h2 => by
    unfold find2 at h
    split at h
    · cases h
    · rename_i q
      simp only [Bool.or_eq_true, beq_iff_eq, not_or] at q
      by_cases e : j = s
      · subst e; exact q
      · exact find2_none h j (by omega) (by omega)
theorem find2_some {t : Array Nat} : ∀ {f s k : Nat}, find2 t f s = some k → s ≤ k ∧ k < s + f ∧ (t.getD k 0 = 10 ∨ t.getD k 0 = 13) ∧ ∀ j, s ≤ j → j < k → t.getD j 0 ≠ 10 ∧ t.getD j 0 ≠ 13
  | 0, s, k, h => by cases h
  | f + 1, s, k, h => by
    unfold find2 at h
    split at h
    · rename_i q
      cases h
      simp only [Bool.or_eq_true, beq_iff_eq] at q
      exact ⟨Nat.le_refl _, by omega, q, fun j a b => absurd b (by omega)⟩
    · rename_i q
      simp only [Bool.or_eq_true, beq_iff_eq, not_or] at q
      obtain ⟨a, b, c, d⟩ := find2_some h
      refine ⟨by omega, by omega, c, fun j h1 h2 => ?_⟩
      by_cases e : j = s
      · subst e; exact q
      · exact d j (by omega) h2
theorem finds2 (x : Str) : Finds c2 x (Sought x.cps) where
  run := fun st h => by
    obtain ⟨n, m', g, l, q⟩ := forSearch2 (text := x.cps) h
    exact ⟨n, m', g, by omega, q⟩
  spec := fun st k l h e => by
    unfold Sought at e
    cases q : find2 x.cps (x.cps.size - st) st with
    | none => rw [q] at e; cases e
    | some k' =>
      rw [q] at e
      cases e
      obtain ⟨a, b, c, d⟩ := find2_some q
      unfold endLen
      split <;> omega
noncomputable def Sought1 (text : Array Nat) (s : Nat) : Option (Nat × Nat) := (find1 text (text.size - s) s).map fun k => (k, 1)
theorem find1_some {t : Array Nat} : ∀ {f s k : Nat}, find1 t f s = some k → s ≤ k ∧ k < s + f ∧ bol t k = true ∧ t.getD k 0 = 46 ∧ ∀ j, s ≤ j → j < k → ¬ (bol t j = true ∧ t.getD j 0 = 46)
  | 0, s, k, h => by cases h
  | f + 1, s, k, h => by
    unfold find1 at h
    split at h
    · rename_i q
      cases h
      simp only [Bool.and_eq_true, beq_iff_eq] at q
      exact ⟨Nat.le_refl _, by omega, q.1, q.2, fun j a b => absurd b (by omega)⟩
    · rename_i q
      simp only [Bool.and_eq_true, beq_iff_eq] at q
      obtain ⟨a, b, c, d, e⟩ := find1_some h
      refine ⟨by omega, by omega, c, d, fun j h1 h2 => ?_⟩
      by_cases e2 : j = s
      · subst e2; exact q
      · exact e j (by omega) h2
theorem find1_none {t : Array Nat} : ∀ {f s : Nat}, find1 t f s = none → ∀ j, s ≤ j → j < s + f → ¬ (bol t j = true ∧ t.getD j 0 = 46)
  | 0, s, _, j, h1, h2 => absurd h2 (by omega)
  | f + 1, s, h, j, h1, h2 => by
    unfold find1 at h
    split at h
    · cases h
    · rename_i q
      simp only [Bool.and_eq_true, beq_iff_eq] at q
      by_cases e : j = s
      · subst e; exact q
      · exact find1_none h j (by omega) (by omega)
theorem finds1 (x : Str) (hx : x.cps.size ≤ 1000000) : Finds c1 x (Sought1 x.cps) where
  run := fun st h => by
    obtain ⟨n, m', g, l, q⟩ := forSearch1 (text := x.cps) h
    refine ⟨n, m', g, by omega, ?_⟩
    unfold Sought1
    cases e : find1 x.cps (x.cps.size - st) st with
    | none => rw [e] at q; exact q
    | some k => rw [e] at q; exact q
  spec := fun st k l h e => by
    unfold Sought1 at e
    cases q : find1 x.cps (x.cps.size - st) st with
    | none => rw [q] at e; cases e
    | some k' =>
      rw [q] at e
      cases e
      obtain ⟨a, b, c, d⟩ := find1_some q
      omega
theorem getD_drop {T : List Nat} {k : Nat} (h : k < T.length) : T.drop k = T.getD k 0 :: T.drop (k + 1) := by
  rw [List.drop_eq_getElem_cons h]
  simp [List.getD, h]
theorem cut_drop {T : List Nat} {a k : Nat} (h : a ≤ k) : T.drop a = (T.drop a).take (k - a) ++ T.drop k := by
  have := List.take_append_drop (k - a) (T.drop a)
  rw [List.drop_drop, show a + (k - a) = k by omega] at this
  exact this.symm
theorem mem_cut {T : List Nat} {a k c : Nat} (hk : k ≤ T.length) (h : c ∈ (T.drop a).take (k - a)) : ∃ j, a ≤ j ∧ j < k ∧ c = T.getD j 0 := by
  obtain ⟨i, hi, e⟩ := List.getElem_of_mem h
  simp only [List.length_take, List.length_drop] at hi
  refine ⟨a + i, by omega, by omega, ?_⟩
  rw [← e, List.getElem_take, List.getElem_drop]
  simp [List.getD, show a + i < T.length by omega]
theorem arr_getD (t : Array Nat) (j : Nat) : t.getD j 0 = t.toList.getD j 0 := by
  simp [Array.getD, List.getD]
  split <;> simp_all
theorem ext_list (t : Array Nat) (a b : Nat) : (t.extract a b).toList = (t.toList.drop a).take (b - a) := by
  simp [Array.toList_extract, List.extract]
theorem nl_parts (x : Str) : ∀ (f st : Nat), x.cps.size < f + st → st ≤ x.cps.size → catL (subParts x "\r\n" (Sought x.cps) f st) = nl (x.cps.toList.drop st)
  | 0, st, h1, h2 => absurd h1 (by omega)
  | f + 1, st, h1, h2 => by
    have hz : x.cps.toList.length = x.cps.size := Array.length_toList
    have z : (Str.ofString "\r\n").cps.toList = [13, 10] := by decide +kernel
    unfold subParts
    cases q : find2 x.cps (x.cps.size - st) st with
    | none =>
      have e : Sought x.cps st = none := by unfold Sought; rw [q]; rfl
      rw [e]
      dsimp only
      have no : ∀ c ∈ x.cps.toList.drop st, c ≠ 10 ∧ c ≠ 13 := fun c hc => by
        rw [cut_drop (T := x.cps.toList) (a := st) (k := x.cps.toList.length) (by omega), List.drop_length, List.append_nil] at hc
        obtain ⟨j, a, b, rfl⟩ := mem_cut (Nat.le_refl _) hc
        rw [← arr_getD]
        exact find2_none q j a (by omega)
      have := nl_plain (x.cps.toList.drop st) [] no
      rw [List.append_nil] at this
      rw [this]
      show _ = x.cps.toList.drop st ++ []
      rw [List.append_nil]
      by_cases hk : st < x.cps.size
      · rw [if_pos hk, catL_cons, ext_list]
        show _ ++ [] = _
        rw [List.append_nil, List.take_of_length_le (by simp)]
      · rw [if_neg hk, List.drop_of_length_le (by omega)]
        rfl
    | some k =>
      obtain ⟨a, b, c, d⟩ := find2_some q
      have e : Sought x.cps st = some (k, endLen x.cps k) := by unfold Sought; rw [q]; rfl
      have hl : endLen x.cps k = 1 ∨ (endLen x.cps k = 2 ∧ x.cps.getD k 0 = 13 ∧ k + 1 < x.cps.size ∧ x.cps.getD (k + 1) 0 = 10) := by
        unfold endLen
        split
        · rename_i h; exact .inr ⟨rfl, h⟩
        · exact .inl rfl
      have hle : k + endLen x.cps k ≤ x.cps.size := by rcases hl with h | h <;> omega
      have hp : 0 < endLen x.cps k := by rcases hl with h | h <;> omega
      rw [e]
      dsimp only
      rw [catL_append, catL_cons, z, nl_parts x f (k + endLen x.cps k) (by omega) hle]
      rw [cut_drop (T := x.cps.toList) (a := st) (k := k) a, nl_plain]
      · have e1 : catL (if st < k then [⟨x.cps.extract st k⟩] else []) = (x.cps.toList.drop st).take (k - st) := by
          by_cases hk : st < k
          · rw [if_pos hk, catL_cons, ext_list]
            show _ ++ [] = _
            rw [List.append_nil]
          · rw [if_neg hk, show k - st = 0 by omega]
            rfl
        rw [e1]
        refine congrArg (((x.cps.toList.drop st).take (k - st)) ++ ·) ?_
        rw [getD_drop (T := x.cps.toList) (k := k) (by omega), ← arr_getD]
        rcases hl with h | ⟨h, h13, hk1, h10⟩
        · rw [h]
          rcases c with c | c
          · rw [c, nl_10]; rfl
          · have hne : ¬ (k + 1 < x.cps.size ∧ x.cps.getD (k + 1) 0 = 10) := fun y => by
              unfold endLen at h
              rw [if_pos ⟨c, y⟩] at h
              exact absurd h (by decide)
            rw [c, nl_13 (fun r' hd => ?_)]
            · rfl
            · have hlt : k + 1 < x.cps.size := by
                refine Nat.lt_of_not_le fun y => ?_
                rw [List.drop_of_length_le (by omega)] at hd
                cases hd
              rw [getD_drop (T := x.cps.toList) (k := k + 1) (by omega), ← arr_getD] at hd
              exact hne ⟨hlt, (List.cons.inj hd).1⟩
        · rw [h, h13, getD_drop (T := x.cps.toList) (k := k + 1) (by omega), ← arr_getD, h10, nl_13_10]
          rfl
      · intro u hu
        obtain ⟨j, q1, q2, rfl⟩ := mem_cut (T := x.cps.toList) (by omega) hu
        rw [← arr_getD]
        exact d j q1 q2
theorem stuff_plain : ∀ (a b : List Nat) (T : List Nat) (st : Nat), T.drop st = a ++ b → (∀ j, st ≤ j → j < st + a.length → ¬ ((j = 0 ∨ T.getD (j - 1) 0 = 10) ∧ T.getD j 0 = 46)) →
    stuff (decide (st = 0 ∨ T.getD (st - 1) 0 = 10)) (a ++ b) = a ++ stuff (decide (st + a.length = 0 ∨ T.getD (st + a.length - 1) 0 = 10)) b
  | [], b, T, st, h, hn => by simp
  | c :: a, b, T, st, h, hn => by
    have hlt : st < T.length := by
      refine Nat.lt_of_not_le fun y => ?_
      rw [List.drop_of_length_le y] at h
      cases h
    rw [getD_drop hlt, List.cons_append] at h
    obtain ⟨hc, hr⟩ := List.cons.inj h
    have h0 := hn st (Nat.le_refl _) (by simp)
    rw [hc] at h0
    rw [List.cons_append, stuff]
    rw [if_neg (by simpa using h0)]
    have ih := stuff_plain a b T (st + 1) hr fun j h1 h2 => hn j (by omega) (by simp; omega)
    have e : (c == 10) = decide (st + 1 = 0 ∨ T.getD (st + 1 - 1) 0 = 10) := by
      rw [Nat.add_sub_cancel, hc]
      by_cases q : c = 10 <;> simp [q]
    rw [e, ih, List.length_cons, show st + 1 + a.length = st + (a.length + 1) by omega]
    rfl
theorem bol_iff (t : Array Nat) (j : Nat) : bol t j = true ↔ (j = 0 ∨ t.toList.getD (j - 1) 0 = 10) := by
  unfold bol
  rw [← arr_getD]
  simp
theorem stuff_parts (x : Str) : ∀ (f st : Nat), x.cps.size < f + st → st ≤ x.cps.size → catL (subParts x ".." (Sought1 x.cps) f st) = stuff (decide (st = 0 ∨ x.cps.toList.getD (st - 1) 0 = 10)) (x.cps.toList.drop st)
  | 0, st, h1, h2 => absurd h1 (by omega)
  | f + 1, st, h1, h2 => by
    have hz : x.cps.toList.length = x.cps.size := Array.length_toList
    have z : (Str.ofString "..").cps.toList = [46, 46] := by decide +kernel
    unfold subParts
    cases q : find1 x.cps (x.cps.size - st) st with
    | none =>
      have e : Sought1 x.cps st = none := by unfold Sought1; rw [q]; rfl
      rw [e]
      dsimp only
      have no : ∀ j, st ≤ j → j < st + (x.cps.toList.drop st).length → ¬ ((j = 0 ∨ x.cps.toList.getD (j - 1) 0 = 10) ∧ x.cps.toList.getD j 0 = 46) := fun j a b hh => by
        refine find1_none q j a (by simp at b; omega) ⟨(bol_iff _ _).mpr hh.1, ?_⟩
        rw [arr_getD]; exact hh.2
      have := stuff_plain (x.cps.toList.drop st) [] x.cps.toList st (by simp) no
      rw [List.append_nil] at this
      rw [this]
      show _ = x.cps.toList.drop st ++ []
      rw [List.append_nil]
      by_cases hk : st < x.cps.size
      · rw [if_pos hk, catL_cons, ext_list]
        show _ ++ [] = _
        rw [List.append_nil, List.take_of_length_le (by simp)]
      · rw [if_neg hk, List.drop_of_length_le (by omega)]
        rfl
    | some k =>
      obtain ⟨a, b, c1, c2, d⟩ := find1_some q
      have e : Sought1 x.cps st = some (k, 1) := by unfold Sought1; rw [q]; rfl
      rw [e]
      dsimp only
      rw [catL_append, catL_cons, z, stuff_parts x f (k + 1) (by omega) (by omega)]
      have hlen : ((x.cps.toList.drop st).take (k - st)).length = k - st := by simp; omega
      have sp := stuff_plain ((x.cps.toList.drop st).take (k - st)) (x.cps.toList.drop k) x.cps.toList st (cut_drop a) (fun j h3 h4 hh => by
        rw [hlen] at h4
        exact d j h3 (by omega) ⟨(bol_iff _ _).mpr hh.1, by rw [arr_getD]; exact hh.2⟩)
      rw [← cut_drop a, hlen, show st + (k - st) = k by omega] at sp
      rw [sp]
      have e1 : catL (if st < k then [⟨x.cps.extract st k⟩] else []) = (x.cps.toList.drop st).take (k - st) := by
        by_cases hk : st < k
        · rw [if_pos hk, catL_cons, ext_list]
          show _ ++ [] = _
          rw [List.append_nil]
        · rw [if_neg hk, show k - st = 0 by omega]
          rfl
      rw [e1]
      refine congrArg (((x.cps.toList.drop st).take (k - st)) ++ ·) ?_
      rw [arr_getD] at c2
      rw [getD_drop (T := x.cps.toList) (k := k) (by omega), c2, stuff, if_pos ⟨by simpa using (bol_iff _ _).mp c1, rfl⟩]
      have e3 : decide (k + 1 = 0 ∨ x.cps.toList.getD (k + 1 - 1) 0 = 10) = false := by
        rw [Nat.add_sub_cancel, c2]
        simp
      rw [e3]
      rfl
/-- what quotedata makes of a text, on its signs -/
noncomputable def qd (l : List Nat) : List Nat := stuff true (nl l)
end OyMine
end
section
set_option maxRecDepth 100000
set_option genInjectivity false
set_option genSizeOf false
set_option genSizeOfSpec false
namespace OyMine
open PySem PySem.Sre PySem.Builtin.Re
noncomputable def c3 : Array Nat := #[14, 17, 4, 1, 1, 21, 9, 0, 604043296, 1, 0, 0, 0, 0, 0, 8, 4, 0, 13, 14, 21, 9, 0, 604043296, 1, 0, 0, 0, 0, 0, 8, 4, 0, 1]
noncomputable def unsafeC (c : Nat) : Bool := !((decide (c < 256) && (c3.getD (6 + (1 + c / 32)) 0).testBit (c % 32)) || isWord c)
theorem inSet3 (c : Nat) (seen : Seen) : ∃ se, inSet c3 c c3.size 5 true seen = .ok (unsafeC c, se) := by
  have e : inSet c3 c c3.size 5 true seen = (if (decide (c < 256) && (c3.getD (6 + (1 + c / 32)) 0).testBit (c % 32)) = true then .ok (false, (seen.add 21).add 9) else
      if (isWord c != false) = true then .ok (false, (((seen.add 21).add 9).add 8).add 59) else .ok (true, ((((seen.add 21).add 9).add 8).add 59).add 0)) := by
    show (if (decide (c < 256) && (c3.getD (6 + (1 + c / 32)) 0).testBit (c % 32)) = true then _ else _) = _
    split
    · rfl
    · show (if (isWord c != false) = true then _ else _) = _
      split <;> rfl
  rw [e]
  unfold unsafeC
  cases h1 : (decide (c < 256) && (c3.getD (6 + (1 + c / 32)) 0).testBit (c % 32)) <;> cases h2 : isWord c <;> exact ⟨_, rfl⟩
theorem inSet3' (c : Nat) (seen : Seen) : ∃ se, inSet c3 c c3.size 20 true seen = .ok (unsafeC c, se) := by
  have e : inSet c3 c c3.size 20 true seen = (if (decide (c < 256) && (c3.getD (6 + (1 + c / 32)) 0).testBit (c % 32)) = true then .ok (false, (seen.add 21).add 9) else
      if (isWord c != false) = true then .ok (false, (((seen.add 21).add 9).add 8).add 59) else .ok (true, ((((seen.add 21).add 9).add 8).add 59).add 0)) := by
    have sh : c3.getD (21 + (1 + c / 32)) 0 = c3.getD (6 + (1 + c / 32)) 0 ∨ 256 ≤ c := by
      by_cases h : c < 256
      · left
        have : c / 32 < 8 := by omega
        generalize c / 32 = q at this
        match q, this with
        | 0, _ | 1, _ | 2, _ | 3, _ | 4, _ | 5, _ | 6, _ | 7, _ => rfl
      · right; omega
    show (if (decide (c < 256) && (c3.getD (21 + (1 + c / 32)) 0).testBit (c % 32)) = true then _ else _) = _
    have e9 : (decide (c < 256) && (c3.getD (21 + (1 + c / 32)) 0).testBit (c % 32)) = (decide (c < 256) && (c3.getD (6 + (1 + c / 32)) 0).testBit (c % 32)) := by
      rcases sh with h | h
      · rw [h]
      · have : decide (c < 256) = false := decide_eq_false (by omega)
        rw [this]; rfl
    rw [e9]
    split
    · rfl
    · show (if (isWord c != false) = true then _ else _) = _
      split <;> rfl
  rw [e]
  unfold unsafeC
  cases h1 : (decide (c < 256) && (c3.getD (6 + (1 + c / 32)) 0).testBit (c % 32)) <;> cases h2 : isWord c <;> exact ⟨_, rfl⟩
noncomputable def find3 (text : Array Nat) : Nat → Nat → Option Nat
  | 0, _ => none
  | f + 1, k => if unsafeC (text.getD k 0) then some k else find3 text f (k + 1)
variable {text : Array Nat}
theorem admitted3 (m : M) (hc : m.code = c3) (ht : m.text = text) (hl : m.lim = text.size) : ∀ (f s : Nat) (seen : Seen), f + s = text.size → ∃ se, M.admitted m (f + 1) s seen = .ok (find3 text f s, se)
  | 0, s, seen, h => by
    unfold M.admitted
    rw [if_pos (by omega)]
    exact ⟨_, rfl⟩
  | f + 1, s, seen, h => by
    unfold M.admitted find3
    rw [if_neg (by omega), hc, ht]
    obtain ⟨se, e⟩ := inSet3 (text.getD s 0) seen
    rw [e]
    cases q : unsafeC (text.getD s 0) with
    | true => exact ⟨_, rfl⟩
    | false => exact admitted3 m hc ht hl f (s + 1) se (by omega)
theorem find3_some : ∀ {f s k : Nat}, find3 text f s = some k → k < s + f ∧ unsafeC (text.getD k 0) = true
  | 0, _, _, h => by cases h
  | f + 1, s, k, h => by
    unfold find3 at h
    split at h
    · rename_i q; cases h; exact ⟨by omega, q⟩
    · obtain ⟨a, b⟩ := find3_some h
      exact ⟨by omega, b⟩
theorem find3_has : ∀ {f s j : Nat}, s ≤ j → j < s + f → unsafeC (text.getD j 0) = true → ∃ k, find3 text f s = some k
  | 0, s, j, h1, h2, _ => absurd h2 (by omega)
  | f + 1, s, j, h1, h2, h => by
    unfold find3
    split
    · exact ⟨_, rfl⟩
    · rename_i q
      by_cases e : j = s
      · subst e; exact absurd h q
      · exact find3_has (j := j) (by omega) (by omega) h
noncomputable def S3 (text : Array Nat) (k : Nat) (b : Bool) (seen : Seen) : M :=
  { code := c3, text, lim := text.size, start := k, lastStart := text.size, pc := 18, pos := k, handed := k, outermost := b, marks := #[],
    frames := [{ wait := .nextStart, pc := 18, pos := k, outermost := b }], weight := 1, seen }
theorem s3_in {k : Nat} {b : Bool} {seen : Seen} (hk : k < text.size) (hu : unsafeC (text.getD k 0) = true) : ∃ m', Goes 4 (S3 text k b seen) m' ∧ m'.outcome = some .matched := by
  obtain ⟨se, e⟩ := inSet3' (text.getD k 0) (seen.add 13)
  rw [hu] at e
  have e1 : (S3 text k b seen).step = { S3 text k b se with pc := 33, pos := k + 1 } := by
    rw [step_exec (S3 text k b seen) rfl rfl (show 18 < c3.size by decide)]
    show (if k ≥ text.size then _ else _) = _
    rw [if_neg (by omega)]
    show (match inSet c3 (text.getD k 0) c3.size 20 true (seen.add 13) with | .error why => _ | .ok (false, seen) => _ | .ok (true, seen) => _) = _
    rw [e]
    rfl
  exact ⟨_, (Goes.one rfl e1).trans (show Goes 3 _ _ from rfl), by cases b <;> rfl⟩
theorem forSearch3 {j : Nat} (hj : j < text.size) (hu : unsafeC (text.getD j 0) = true) : ∃ n m', Goes n (forSearch c3 text 0 0 text.size false) m' ∧ n ≤ 60 ∧ m'.outcome = some .matched := by
  let m0 : M := { code := c3, text, lim := text.size, start := 0, lastStart := text.size, pc := 18, pos := 0, handed := 0, marks := #[], seen := ({} : Seen).add 14 }
  have e : forSearch c3 text 0 0 text.size false = M.attemptFrom m0 0 true := by
    show (if (decide (0 > text.size) || decide (text.size - 0 < 1)) = true then _ else _) = _
    rw [if_neg (by rw [Bool.or_eq_true, decide_eq_true_eq, decide_eq_true_eq]; omega)]
    rfl
  obtain ⟨se, ea⟩ := admitted3 (text := text) m0 rfl rfl rfl text.size 0 m0.seen (by omega)
  have e2 : M.attemptFrom m0 0 true = (match M.admitted m0 (m0.lim + 1 - 0) 0 m0.seen with
      | .ok (some s, seen) => M.attemptAt { m0 with mustAdvance := false, seen } s true
      | .ok (none, seen) => M.say { m0 with seen } false
      | .error why => M.stick m0 why) := rfl
  obtain ⟨k, hk⟩ := find3_has (text := text) (f := text.size) (s := 0) (j := j) (Nat.zero_le _) (by omega) hu
  obtain ⟨h1, h2⟩ := find3_some hk
  have e3 : m0.lim + 1 - 0 = text.size + 1 := by show text.size + 1 - 0 = _; omega
  rw [e, e2, e3, ea, hk]
  obtain ⟨m', g, q⟩ := s3_in (text := text) (k := k) (b := true) (seen := se) (by omega) h2
  exact ⟨4, m', g, by decide, q⟩
end OyMine
end
section
open PySem PySem.W PyProof.Rows PySem.Builtin PySem.Builtin.Re
set_option maxRecDepth 100000
set_option genInjectivity false
set_option genSizeOf false
set_option genSizeOfSpec false
namespace OyMine
/-- a call (or any tree) that is shown at any place of the walk: `G` is asked at every frame, ledger and state -/
noncomputable def AtAny (w : World) (D U : Nat) (G : (A : Around) → (h₀ : Heap) → (L : Addr) → (m : Str → Option Value) → (news : List (Addr × Obj)) → (s : Shared) → Prop) : Prop :=
  ∀ (dp un : Nat) (p : Program) (loose : List Str) (mean : ExcName → Option Value) (mg mb : Str → Option Value) (news : List (Addr × Obj)) (gd : Option (List Code)) (cn : Str) (cs : Scope) (a : Addr) (ccd : Value) (cl : List (Str × Addr)) (outer : List Env) (A₀ : Around) (base h₀ : Heap) (L : Addr) (m : Str → Option Value) (s : Shared),
    dp ≤ D → un ≤ U → Below A₀ base outer h₀ → Fr h₀ L s.heap m → (hd.heap_1 w.params).In h₀ → News h₀ L s.heap news → Top p loose mean mg mb h₀ → cs.kind = .function →
    G (ktrTop dp un gd cn cs L a ccd cl outer) h₀ L m news s
/-- a call that makes nothing that lasts -/
noncomputable def Pure (w : World) (f : Addr) (D U : Nat) (args : List Value) (R : Value → Prop) : Prop :=
  AtAny w D U fun A h₀ L m news s => ∀ Q E : Value → Shared → Prop, (∀ r h' tk', Fr h₀ L h' m → News h₀ L h' news → R r → Q r { s with heap := h', toks := tk' }) → wpAny (model PySem.Challenge.rw_oy0315_01.row.prog w) A (call (.ref f) args) Q E s
/-- a call that reads objects of the ledger and makes nothing that lasts -/
noncomputable def Reads (w : World) (f : Addr) (D U : Nat) (need : List (Addr × Obj)) (args : List Value) (R : Value → Prop) : Prop :=
  AtAny w D U fun A h₀ L m news s => (∀ q ∈ need, q ∈ news) → ∀ Q E : Value → Shared → Prop, (∀ r h' tk', Fr h₀ L h' m → News h₀ L h' news → R r → Q r { s with heap := h', toks := tk' }) → wpAny (model PySem.Challenge.rw_oy0315_01.row.prog w) A (call (.ref f) args) Q E s
section
variable {w : World} {f L : Addr} {D U dp un : Nat} {args : List Value} {R : Value → Prop} {p : Program} {loose : List Str} {mean : ExcName → Option Value} {mg mb : Str → Option Value} {news need : List (Addr × Obj)} {gd : Option (List Code)} {cn : Str} {cs : Scope} {a : Addr} {ccd : Value} {cl : List (Str × Addr)} {outer : List Env} {A₀ : Around} {base h₀ : Heap} {m : Str → Option Value} {s : Shared} {Q E : Value → Shared → Prop}
theorem pure_use (C : Pure w f D U args R) (B : Below A₀ base outer h₀) (F : Fr h₀ L s.heap m) (X : (hd.heap_1 w.params).In h₀) (N : News h₀ L s.heap news) (T : Top p loose mean mg mb h₀) (hk : cs.kind = .function) (hd : dp ≤ D) (hu : un ≤ U)
    (ret : ∀ r h' tk', Fr h₀ L h' m → News h₀ L h' news → R r → Q r { s with heap := h', toks := tk' }) : wpAny (model PySem.Challenge.rw_oy0315_01.row.prog w) (ktrTop dp un gd cn cs L a ccd cl outer) (call (.ref f) args) Q E s :=
  C _ _ _ _ _ _ _ _ _ _ _ _ _ _ _ _ _ _ _ _ _ hd hu B F X N T hk Q E ret
theorem reads_use (C : Reads w f D U need args R) (B : Below A₀ base outer h₀) (F : Fr h₀ L s.heap m) (X : (hd.heap_1 w.params).In h₀) (N : News h₀ L s.heap news) (T : Top p loose mean mg mb h₀) (hk : cs.kind = .function) (hd : dp ≤ D) (hu : un ≤ U) (hn : ∀ q ∈ need, q ∈ news)
    (ret : ∀ r h' tk', Fr h₀ L h' m → News h₀ L h' news → R r → Q r { s with heap := h', toks := tk' }) : wpAny (model PySem.Challenge.rw_oy0315_01.row.prog w) (ktrTop dp un gd cn cs L a ccd cl outer) (call (.ref f) args) Q E s :=
  C _ _ _ _ _ _ _ _ _ _ _ _ _ _ _ _ _ _ _ _ _ hd hu B F X N T hk hn Q E ret
end
/-- a statement ahead of others, the state's tokens and other parts brought back to what they were -/
theorem execs_cons_n {M : Model} {A : Around} {env : Env} {st : Stmt} {rest : List Stmt} {Q : Flow → Shared → Prop} {E : Value → Shared → Prop} {h : Heap} {g g' : Array GenState} {d d' : Drawn} {o o' : OsState} {tk' : Nat} (eg : g' = g) (ed : d' = d) (eo : o' = o)
    (H : ∀ tk, wpAny M A (exec st env) (fun f s' => match f with | .next => wpAny M A (execs rest env) Q E s' | f => Q f s') E ⟨h, g, d, tk, o⟩) : wpAny M A (execs (st :: rest) env) Q E ⟨h, g', d', tk', o'⟩ := by
  subst eg ed eo
  exact wpAny_execs_cons (H _)
theorem uuk (A : Around) (C : Addr) (vals : List Value) (kw : List (Str × Value)) : (A.under (.builtin "type.__call__" ⟨.ref C :: vals, kw⟩)).units = A.units + 1 := rfl
theorem duk (A : Around) (C : Addr) (vals : List Value) (kw : List (Str × Value)) : (A.under (.builtin "type.__call__" ⟨.ref C :: vals, kw⟩)).depth = A.depth + 1 := rfl
end OyMine
end
section
open PySem PySem.W PyProof.Rows PySem.Builtin PySem.Builtin.Re PySem.Calls
set_option maxRecDepth 100000
set_option genInjectivity false
set_option genSizeOf false
set_option genSizeOfSpec false
namespace OyMine
theorem entry_search : entryFor table "re.Pattern.search" = some Builtin.«re.Pattern.search» := entryFor_of_tree (by kernel_rfl)
theorem plain_search : plainId "re.Pattern.search" = true := by decide +kernel
section
variable {w : World} {A : Around} {E : Value → Shared → Prop} {x : Str} {tx : Tok} {s : Shared} {Q : Value → Shared → Prop}
noncomputable def target3 (x : Str) (tx : Tok) : ReTarget := { pattern := .ref 75, string := .str x tx, code := c3, text := x.cps, kind := 0, groups := 0, pos := min 0 x.cps.size, lim := min (2 ^ 63 - 1) x.cps.size }
theorem look75 (x : Str) (tx : Tok) (h : Heap) (X : (hd.heap_1 w.params).In h) : Looks (model PySem.Challenge.rw_oy0315_01.row.prog w) h (reTarget "re.Pattern.search" "search" ⟨[.ref 75, .str x tx], []⟩) (target3 x tx) :=
  Looks.of_peek X (by kernel_rfl)
theorem look763 (x : Str) (tx : Tok) (h : Heap) (X : (hd.heap_1 w.params).In h) : Looks (model PySem.Challenge.rw_oy0315_01.row.prog w) h (checkBoundCall "re.Pattern.search" ⟨[.ref 75, .str x tx], []⟩) () :=
  Looks.of_peek X (by kernel_rfl)
theorem search_call {j : Nat} (hx : x.cps.size ≤ 1000000) (hj : j < x.cps.size) (hu : unsafeC (x.cps.getD j 0) = true) (X : (hd.heap_1 w.params).In s.heap)
    (hQ : ∀ a h', (∀ b o, s.heap.get? b = some o → h'.get? b = some o) → Q (.ref a) { s with heap := h' }) :
    wpAny (model PySem.Challenge.rw_oy0315_01.row.prog w) A (call (.ref 763) [.str x tx]) Q E s := by
  refine wpAny_call (codeAny_of_tree ?_)
  have ho : (hd.heap_1 w.params).lookup 763 = some ⟨.type "builtin_function_or_method", none, .fields #[.builtin "re.Pattern.search", .ref 75], #[]⟩ := by kernel_rfl
  show wpAny _ _ (callAny (.ref 763) ⟨[.str x tx], []⟩) _ _ _
  unfold callAny
  refine nd_load (X _ _ ho) ?_
  refine nd_bind (wpAny_pure ?_)
  dsimp only
  rw [if_pos (by rfl)]
  show wpAny _ _ (if _ then _ else _) _ _ _
  rw [if_pos (by rfl)]
  refine wpAny_bind ((look763 x tx _ X).here ?_)
  refine wpAny_pure ⟨plainId_quiet plain_search _, ?_⟩
  refine codeAny_builtin entry_search ?_
  unfold Builtin.«re.Pattern.search»
  refine wpAny_bind ((look75 x tx _ X).here ?_)
  have e3 : (target3 x tx).lim = x.cps.size := by show min (2 ^ 63 - 1) x.cps.size = _; omega
  have e4 : (target3 x tx).pos = 0 := by show min 0 x.cps.size = _; omega
  unfold reAnswer
  rw [e3, e4]
  show wpAny _ _ (reRunToEnd (Sre.forSearch c3 x.cps 0 0 x.cps.size false) >>= _) _ _ _
  obtain ⟨n, m', g, ln, hm⟩ := forSearch3 (text := x.cps) hj hu
  refine wpAny_bind (wp_run g (by omega) (.inl ⟨hm, rfl⟩) ?_)
  dsimp only
  unfold reNewMatch
  refine wpAny_bind ?_
  show wpAny _ _ (newTuple [rawInt m'.start, rawInt m'.handed] >>= _) _ _ _
  refine wpAny_bind (wpAny_newTuple ?_)
  refine wpAny_newObj_type ?_
  refine wpAny_pure ?_
  exact hQ _ _ fun b o e => Heap.get?_push_of_some _ (Heap.get?_push_of_some _ e)
variable {L : Addr} {h₀ : Heap} {m : Str → Option Value} {news : List (Addr × Obj)}
theorem search_K {j : Nat} (F : Fr h₀ L s.heap m) (X₀ : (hd.heap_1 w.params).In h₀) (N : News h₀ L s.heap news) (hx : x.cps.size ≤ 1000000) (hj : j < x.cps.size) (hu : unsafeC (x.cps.getD j 0) = true)
    (h : ∀ a h', Fr h₀ L h' m → News h₀ L h' news → Q (.ref a) { s with heap := h' }) :
    wpAny (model PySem.Challenge.rw_oy0315_01.row.prog w) A (call (.ref 763) [.str x tx]) Q E s :=
  search_call hx hj hu (X₀.keeps F.keep) fun a h' k => h a h' ⟨F.ns.keeps k, fun b o e => k _ _ (F.keep b o e), F.above⟩ fun p hp => ⟨k _ _ (N p hp).1, (N p hp).2⟩
theorem callWith_763 {M : Model} {pos : Pos} {env : Env} {first : List Value} {e : PySem.Expr} {rest : List PySem.Expr} (_X : (hd.heap_1 w.params).In h₀)
    (h : wpAny M A (spliced (backTo pos (starEach (e :: rest) env))) (fun vs s₁ => (hd.heap_1 w.params).In s₁.heap ∧ wpAny M A (call (.ref 763) (first ++ vs)) Q E s₁) E s)
    (he : starEach (e :: rest) env = (false, eval e env) :: starEach rest env := by rfl) (hplain : (backTo pos (starEach rest env)).any (·.1) = false := by rfl) :
    wpAny M A (callWith pos (.ref 763) first (backTo pos (starEach (e :: rest) env)) []) Q E s := by
  rw [he] at h ⊢
  exact callWith_of (P := fun h => (hd.heap_1 w.params).In h) (by show ((false || (backTo pos (starEach rest env)).any (·.1)) || false) = false; rw [hplain]; rfl)
    (fun h X => ⟨.machine, .inr (.inl rfl), Looks.of_peek X (by kernel_rfl)⟩) (evalArgs_plain h)
end
end OyMine
end
section
open PySem PySem.W PyProof.Rows PySem.Builtin PySem.Builtin.Re
set_option maxRecDepth 100000
set_option genInjectivity false
set_option genSizeOf false
set_option genSizeOfSpec false
namespace OyMine
theorem words_Qd2_0 : True := by
  w_top off
  k_with_none
  k_with "my omega" => (first
    | with_reducible assumption
    | with_reducible exact Nat.ne_of_lt (by assumption)
    | with_reducible exact Nat.ne_of_gt (by assumption)
    | decide
    | with_reducible exact Nat.le_refl _
    | with_reducible exact Nat.zero_le _
    | with_reducible exact Nat.le_add_right _ _
    | with_reducible exact Nat.le_add_left _ _
    | with_reducible exact Nat.lt_succ_self _
    | with_reducible exact Nat.le_succ _
    | with_reducible exact Nat.succ_pos _
    | with_reducible exact Nat.zero_add _
    | with_reducible exact q4
    | with_reducible exact q8
    | with_reducible exact Nat.le_of_lt (by assumption)
    | with_reducible exact Nat.le_of_succ_le (by assumption)
    | with_reducible exact Nat.le_of_succ_le_succ (by assumption)
    | with_reducible exact Nat.not_lt.mp (by assumption)
    | with_reducible exact Nat.lt_succ_of_le (by assumption)
    | with_reducible exact Nat.le_succ_of_le (by assumption)
    | with_reducible exact Nat.succ_le_of_lt (by assumption)
    | with_reducible exact q1 (by assumption)
    | with_reducible exact q2 (by assumption)
    | with_reducible exact q3 (by assumption)
    | with_reducible exact q5 (by assumption)
    | with_reducible exact q7 (by assumption)
    | with_reducible exact q6 (by assumption) (by assumption)
    | with_reducible exact absurd (by assumption) (Nat.not_lt.mpr (by assumption))
    | (with_reducible refine room_le (by assumption) ?_; with_unfolding_all rfl)
    | (with_reducible refine room_lt (by assumption) ?_; with_unfolding_all rfl)
    | (with_reducible refine room_le0 (by assumption) ?_; with_unfolding_all rfl)
    | ((fail_if_success (with_reducible show _ ≠ _)); (rename _ ∧ _ => cW9; clear cW9); (repeat (rename _ ∧ _ => cW9; clear cW9)); omega)
    | fail "no")
  k_with "my execs cons" => (k_here; refine wpAny_execs_cons ?_; k_fold)
  trivial
section
variable {w : World} {A : Around} {E : Value → Shared → Prop} {s : Shared} {x : Str} {tx tr : Tok} {Q : Value → Shared → Prop} {L : Addr} {h₀ : Heap} {m : Str → Option Value} {news : List (Addr × Obj)}
theorem look54 (x : Str) (tx : Tok) (h : Heap) (X : (hd.heap_1 w.params).In h) : Looks (model PySem.Challenge.rw_oy0315_01.row.prog w) h (reWholeTarget (.ref 54) (.str x tx)) (target 54 x tx c2) :=
  Looks.of_peek X (by kernel_rfl)
theorem look49 (x : Str) (tx : Tok) (h : Heap) (X : (hd.heap_1 w.params).In h) : Looks (model PySem.Challenge.rw_oy0315_01.row.prog w) h (reWholeTarget (.ref 49) (.str x tx)) (target 49 x tx c1) :=
  Looks.of_peek X (by kernel_rfl)
theorem pat_obj {a : Addr} {K : Frag} (X : K.In s.heap) (e : typeIn K (.ref a) = some (.type "re.Pattern")) : s.TypeIs (.ref a) "re.Pattern" := by
  obtain ⟨o, h1, h2⟩ := Option.map_eq_some_iff.mp (show (K.lookup a).map (·.cls) = _ from e)
  exact ⟨o, X _ _ h1, h2⟩
noncomputable abbrev mk (l : List Nat) : Str := ⟨l.toArray⟩
theorem mk_of {y : Str} {l : List Nat} (e : y.cps.toList = l) : y = mk l := by
  obtain ⟨c⟩ := y
  subst e
  rfl
theorem fr_keeps {h h' : Heap} (F : Fr h₀ L h m) (k : ∀ b o, h.get? b = some o → h'.get? b = some o) : Fr h₀ L h' m := ⟨F.ns.keeps k, fun b o e => k _ _ (F.keep b o e), F.above⟩
theorem news_keeps {h h' : Heap} (N : News h₀ L h news) (k : ∀ b o, h.get? b = some o → h'.get? b = some o) : News h₀ L h' news := fun p hp => ⟨k _ _ (N p hp).1, (N p hp).2⟩
theorem sub54_K (F : Fr h₀ L s.heap m) (X₀ : (hd.heap_1 w.params).In h₀) (N : News h₀ L s.heap news) (hx : x.cps.size ≤ 1000000)
    (h : ∀ t' h' tk', Fr h₀ L h' m → News h₀ L h' news → Q (.str (mk (nl x.cps.toList)) t') { s with heap := h', toks := tk' }) :
    wpAny (model PySem.Challenge.rw_oy0315_01.row.prog w) A (call (.builtin "re.Pattern.sub") [.ref 54, .str "\r\n" tr, .str x tx]) Q E s := by
  have X := X₀.keeps F.keep
  refine sub_call (finds2 x) hx (by decide) (by decide +kernel) (look54 x tx) X (pat_obj X (by kernel_rfl)) fun t' h' tk' k => ?_
  have e := (join_cat _).trans (nl_parts x (x.cps.size + 1) 0 (by omega) (by omega))
  rw [List.drop_zero] at e
  rw [mk_of e]
  exact h t' h' tk' (fr_keeps F k) (news_keeps N k)
theorem sub49_K (F : Fr h₀ L s.heap m) (X₀ : (hd.heap_1 w.params).In h₀) (N : News h₀ L s.heap news) (hx : x.cps.size ≤ 1000000)
    (h : ∀ t' h' tk', Fr h₀ L h' m → News h₀ L h' news → Q (.str (mk (stuff true x.cps.toList)) t') { s with heap := h', toks := tk' }) :
    wpAny (model PySem.Challenge.rw_oy0315_01.row.prog w) A (call (.builtin "re.Pattern.sub") [.ref 49, .str ".." tr, .str x tx]) Q E s := by
  have X := X₀.keeps F.keep
  refine sub_call (finds1 x hx) hx (by decide) (by decide +kernel) (look49 x tx) X (pat_obj X (by kernel_rfl)) fun t' h' tk' k => ?_
  have e := (join_cat _).trans (stuff_parts x (x.cps.size + 1) 0 (by omega) (by omega))
  rw [List.drop_zero] at e
  rw [mk_of e]
  exact h t' h' tk' (fr_keeps F k) (news_keeps N k)
theorem meth_sub {M : Model} {A : Around} {E : Value → Shared → Prop} {a : Addr} {o : Obj} {pl : Sem Bool} {Q : Value × List Value → Shared → Prop} (F : Fr h₀ L s.heap m) (X₀ : (hd.heap_1 w.params).In h₀) (e : (hd.heap_1 w.params).lookup a = some o) (hc : o.cls = .type "re.Pattern") (hd : o.dict = none)
    (h : Q (.builtin "re.Pattern.sub", [.ref a]) s) : wpAny M A (getMethod (.ref a) "sub" pl) Q E s :=
  have g := (X₀.keeps F.keep) _ _ e
  getMethod_builtin ⟨o, g, hc⟩ plainAttrs_pat slot_sub type_sub (fun b eb => by cases eb; exact ⟨o, g, hd⟩) h
end
theorem nl_len : ∀ l : List Nat, (nl l).length ≤ 2 * l.length
  | [] => Nat.le_refl _
  | c :: r => by
    have ih := nl_len r
    by_cases h10 : c = 10
    · subst h10; rw [nl_10]; simp only [List.length_cons]; omega
    · by_cases h13 : c = 13
      · subst h13
        by_cases q : ∃ r', r = 10 :: r'
        · obtain ⟨r', rfl⟩ := q
          have := nl_len r'
          rw [nl_13_10]; simp only [List.length_cons]; omega
        · rw [nl_13 (fun r' e => q ⟨r', e⟩)]; simp only [List.length_cons]; omega
      · have := nl_plain [c] r (by simp [h10, h13])
        rw [show c :: r = [c] ++ r from rfl, this]
        simp only [List.length_append, List.length_cons, List.length_nil]; omega
theorem nl_fits {x : Str} (hx : x.cps.size ≤ 100000) : (mk (nl x.cps.toList)).cps.size ≤ 1000000 := by
  have h1 := nl_len x.cps.toList
  have h2 : x.cps.toList.length = x.cps.size := Array.length_toList
  have h3 : (mk (nl x.cps.toList)).cps.size = (nl x.cps.toList).length := List.size_toArray ..
  omega
theorem words_Qd2_1 : True := by
  k_with "my k_room" => (first | exact Nat.le_of_ble_eq_true rfl | ((try simp only [duk, depth_under_make, depth_under_kw, depth_in1, depth_deeper, depth_caller, recursionLimit]); (try dsimp only [ktrTop]); (try simp only [recursionLimit]); omega))
  k_with "my ktr_room" => (k_room)
  k_with "my k_units" => (first | exact Nat.le_of_ble_eq_true rfl | ((have hcL9W9 := cLine_is); (try simp only [uuk, units_in1, units_deeper, Around.mark_units, units_caller]); (try dsimp only [ktrTop]); omega))
  k_with "my units_room" => (first | exact Nat.le_of_ble_eq_true rfl | ((have hcL9W9 := cLine_is); (try simp only [uuk, units_in1, units_deeper, Around.mark_units, units_caller]); (try dsimp only [ktrTop]); omega))
  k_with "my k_enter" => ((refine' code_def ?k1W9 ?k2W9 ?k3W9 ?k4W9 ?k5W9 ?kAW9 ?kFW9 ?kKW9 ?k6W9 ?k7W9 ?k8W9 ?k9W9 ?kBW9 ?_ ?c2W9 ?c3W9 ?c4W9 ?c5W9; (case kAW9 => exact rfl); (case kFW9 => exact rfl); (case kKW9 => first | exact rfl | assumption); (case k1W9 => k_asm); (case k2W9 => k_asm); (case k3W9 => k_asm); (case k4W9 => k_asm); (case k5W9 => k_asm); (case k6W9 => k_is); (case k7W9 => k_is); (case k8W9 => k_room); (case k9W9 => first | exact BindsTo.of_eq rfl | exact binds_K (by k_in) rfl (by k_is) rfl rfl rfl | fail "k_enter: no rule for these arguments"); (case c5W9 => decide); (case kBW9 => exact locs rfl); (case c2W9 => exact rfl); (case c3W9 => exact rfl); (case c4W9 => exact rfl); k_whole; intro g'W9 L'W9 h'W9 FG'W9 F'W9 N'W9 B'W9 X'W9 T'W9; (try dsimp only); (try k_lift B'W9); (try k_fold)))
  k_with "my getMethod ref" => ((k_here; (with_reducible show wpAny _ _ (getMethod (Value.ref _) (Str.ofString "sub") _) _ _ _); k_dflt (refine' meth_sub ?FW9 ?XW9 ?eW9 ?cW9 ?dW9 ?_; (case FW9 => k_asm); (case XW9 => k_asm); (case eW9 => k_is); (case cW9 => exact rfl); (case dW9 => exact rfl); k_whole)))
  k_with "my call builtin:re.Pattern.sub" => ((k_here; k_dflt (first
    | (refine' sub54_K ?FW9 ?XW9 ?NW9 ?xW9 ?_; (case FW9 => k_asm); (case XW9 => k_asm); (case NW9 => k_asm); (case xW9 => first | exact nl_fits (by assumption) | omega); k_whole; intro t'W9 h'W9 tk'W9 F'W9 N'W9; (try k_sweep))
    | (refine' sub49_K ?FW9 ?XW9 ?NW9 ?xW9 ?_; (case FW9 => k_asm); (case XW9 => k_asm); (case NW9 => k_asm); (case xW9 => first | exact nl_fits (by assumption) | omega); k_whole; intro t'W9 h'W9 tk'W9 F'W9 N'W9; (try k_sweep)))))
  k_with "my call ref" => ((k_here; (with_reducible show wpAny _ _ (call (Value.ref 763) [Value.str _ _]) _ _ _); k_dflt (refine' search_K ?FW9 ?XW9 ?NW9 ?xW9 ?jW9 ?uW9 ?_; (case FW9 => k_asm); (case XW9 => k_asm); (case NW9 => k_asm); (case xW9 => omega); (case jW9 => assumption); (case uW9 => assumption); k_whole; intro a'W9 h'W9 F'W9 N'W9; (try k_sweep))))
  k_with "my kt_len" => (with_reducible assumption)
  k_with "my truthy str" => ((k_here; (with_reducible show wpAny _ _ (PySem.truthy (Value.str _ _)) _ _ _); (refine' KXt.truthy_pos (K := 16777216) ?kxtaW9 ?kxtbW9 (Nat.le_refl _) ?_; (case kxtaW9 => with_reducible assumption); (case kxtbW9 => omega)); intro _))
  k_with "my callWith ref" => ((k_here; (with_reducible show wpAny _ _ (callWith _ (Value.ref 763) _ _ _) _ _ _); k_dflt (refine' callWith_763 ?k1W9 ?_; (case k1W9 => k_asm); k_whole)))
  k_with "my call builtin:str.replace" => ((k_here; (with_reducible show wpAny _ _ (call (Value.builtin "str.replace") [Value.str _ _, Value.str (Str.ofString "'") _, Value.str _ _]) _ _ _); k_dflt ((refine' replaceQ ?aW9 ?bW9 ?cW9 ?dW9 ?_; (case aW9 => k_ne); (case bW9 => k_ne); (case cW9 => k_ne); (case dW9 => first | with_reducible assumption | omega); k_whole; intro t'W9 k'W9 len'W9))))
  k_with "my k_memK" => (first | assumption | (refine need_app ?_; k_memK) | (refine need_cons ?_; k_memK))
  k_with "my subscriptTail" => ((k_here; (with_reducible show wpAny _ _ (subscriptTail _ _ (Value.ref (TreeAt.t _)) (Value.int (Nat.cast _) _)) _ _ _); k_dflt ((refine' tree_item ?NW9 ?TW9 ?kW9 ?_; (case NW9 => k_asm); (case TW9 => k_memK); (case kW9 => omega); k_whole; intro hm'W9))))
  k_with "my call ref" => ((k_here; (with_reducible show wpAny _ _ (call (Value.ref 770) [Value.str (TreeAt.lab _ _) _]) _ _ _); k_dflt ((refine' pure_use (qt_lab _ _ ?OW9 _ ?kW9 _) ?BW9 ?FW9 ?XW9 ?NW9 ?TW9 ?kkW9 ?hdW9 ?huW9 ?_; (case OW9 => assumption); (case kW9 => omega); (case BW9 => k_asm); (case FW9 => k_asm); (case XW9 => k_asm); (case NW9 => k_asm); (case TW9 => k_asm); (case kkW9 => first | exact rfl | assumption); (case hdW9 => k_room); (case huW9 => k_units); k_whole; intro r'W9 h'W9 tk'W9 F'W9 N'W9 ht'W9; obtain ⟨t'W9, e'W9⟩ := ht'W9; subst e'W9; (try k_sweep)))))
  k_with "my call ref" => ((k_here; (with_reducible show wpAny _ _ (call (Value.ref 61) [Value.str (Str.mk (List.toArray _)) _]) _ _ _); k_dflt ((refine' pure_use (qd_mk _ _ _ ?xW9) ?BW9 ?FW9 ?XW9 ?NW9 ?TW9 ?kkW9 ?hdW9 ?huW9 ?_; (case xW9 => first | omega | exact size_out (by assumption) (by omega)); (case BW9 => k_asm); (case FW9 => k_asm); (case XW9 => k_asm); (case NW9 => k_asm); (case TW9 => k_asm); (case kkW9 => first | exact rfl | assumption); (case hdW9 => k_room); (case huW9 => k_units); k_whole; intro r'W9 h'W9 tk'W9 F'W9 N'W9 ht'W9; obtain ⟨t'W9, e'W9⟩ := ht'W9; subst e'W9; (try k_sweep)))))
  k_with "my kt_len" => (first | exact len_out (by assumption) (by omega) | exact len_quoted (by assumption) (by omega) | exact TreeAt.Ok.eol (by assumption) _ (by omega) | exact TreeAt.part_len (by assumption) (by omega) (by omega) | ((with_reducible refine' len_qd ?qqW9); (case qqW9 => kt_len)))
  k_with "my call builtin:len" => ((k_here; (with_reducible show wpAny _ _ (call (Value.builtin "len") [Value.ref (TreeAt.t _)]) _ _ _); k_dflt ((refine' tree_len ?NW9 ?TW9 ?_; (case NW9 => k_asm); (case TW9 => k_memK); k_whole; intro t'W9 k'W9))))
  k_with "my call ref" => ((k_here; (with_reducible show wpAny _ _ (call (Value.ref 782) [Value.ref _, Value.int (Nat.cast _) _]) _ _ _); (with_reducible rename ∀ k, _ < k → k < 5 → Outline _ _ k => ihOW9); k_dflt ((refine' reads_use (ihOW9 _ ?aW9 ?bW9 _) ?BW9 ?FW9 ?XW9 ?NW9 ?TW9 ?kkW9 ?hdW9 ?huW9 ?hnW9 ?_; (case aW9 => omega); (case bW9 => omega); (case BW9 => k_asm); (case FW9 => k_asm); (case XW9 => k_asm); (case NW9 => k_asm); (case TW9 => k_asm); (case kkW9 => first | exact rfl | assumption); (case hdW9 => k_room); (case huW9 => k_units); (case hnW9 => k_memK); k_whole; intro r'W9 h'W9 tk'W9 F'W9 N'W9 ht'W9; obtain ⟨t'W9, e'W9⟩ := ht'W9; subst e'W9; (try k_sweep)))))
  k_with "my inplaceOp Add str str" => ((k_here; (with_reducible show wpAny _ _ (inplaceOp Operator.Add (Value.str _ _) (Value.str _ _)) _ _ _); (refine' iaddK ?kxaaW9 ?kxabW9 ?kxacW9 ?_; (case kxaaW9 => kt_len); (case kxabW9 => kt_len); (case kxacW9 => exact Nat.le_of_ble_eq_true rfl)); intro _ _ _))
  k_with "my k_enter" => ((kp_kind "both"; (fail_if_success k_inElt); (refine' kp_both ?k1W9 ?k2W9 ?k3W9 ?k4W9 ?k5W9 ?kAW9 ?kFW9 ?kKW9 ?k6W9 ?k7W9 ?k8W9 ?kVW9 ?kXW9 ?kQW9 ?kMW9 ?kNW9 ?kDW9 ?kRW9 ?kPW9 ?kSW9 ?kTW9 ?kBW9 ?_ ?c2W9 ?c3W9 ?c4W9 ?c5W9; (case kAW9 => exact rfl); (case kFW9 => exact rfl); (case kKW9 => first | exact rfl | assumption); (case k1W9 => k_asm); (case k2W9 => k_asm); (case k3W9 => k_asm); (case k4W9 => k_asm); (case k5W9 => k_asm); (case k6W9 => k_is); (case k7W9 => k_is); (case k8W9 => k_room); (case kVW9 => kp_lit); (case kXW9 => kp_lit); (case kQW9 => exact rfl); (case kMW9 => exact rfl); (case kNW9 => exact rfl); (case kDW9 => kp_flats); (case kRW9 => exact rfl); (case kPW9 => exact rfl); (case kSW9 => exact fun _ => rfl); (case kTW9 => exact fun _ _ => rfl); (case kBW9 => exact fun _ _ => locs rfl); (case c5W9 => decide); (case c2W9 => exact rfl); (case c3W9 => exact rfl); (case c4W9 => exact rfl); k_whole; intro C'W9 D'W9 o'W9 g'W9 L'W9 h'W9 tk'W9 l1W9 l2W9 lo'W9 hs'W9 fs'W9 FG'W9 F'W9 N'W9 B'W9 X'W9 T'W9; (try k_lt l1W9); (try k_lt2 l2W9); (try dsimp only); (try k_lift B'W9); (try k_fold))))
  k_with "my call builtin:object.__new__" => ((k_here; k_dflt ((refine' new623_K ?FW9 ?XW9 ?NW9 ?_; (case FW9 => k_asm); (case XW9 => k_asm); (case NW9 => k_asm); k_whole; intro x'W9 d'W9 h'W9 F'W9 N'W9 l1W9 l2W9; (try k_lt l1W9); (try k_lt2 l2W9); (try k_sweep)))))
  k_with "my k_all" => (first | exact allNe (by assumption) | exact allNe' (by assumption) | exact allNeT (by assumption) (by first | assumption | omega))
  trivial

set_option maxHeartbeats 8000000 in
theorem qd_ok (w : World) (x : Str) (tx : Tok) (hx : x.cps.size ≤ 100000) : Pure w 61 600 6000 [.str x tx] (fun r => ∃ t, r = .str (mk (qd x.cps.toList)) t) := by
  w_strict (
  unfold Pure AtAny
  k_fill
  intro dp un p loose mean mg mb news gd cn cs a ccd cl outer A₀ base h₀ L m s hdp hun B F X N T hk Q E hret
  refine wpAny_call ?_
  (k_dflt k_enter)
  k_steps
  all_goals exact hret _ _ _ (by k_asm) (by k_asm) ⟨_, rfl⟩)
theorem qd_mk (w : World) (l : List Nat) (tx : Tok) (hx : (mk l).cps.size ≤ 100000) : Pure w 61 600 6000 [.str (mk l) tx] (fun r => ∃ t, r = .str (mk (qd l)) t) := qd_ok w (mk l) tx hx
end OyMine
end
section
open PySem PySem.W PyProof.Rows PySem.Builtin PySem.Builtin.Str
set_option maxRecDepth 100000
set_option genInjectivity false
set_option genSizeOf false
set_option genSizeOfSpec false
namespace OyMine
/-- each apostrophe as quote writes it -/
noncomputable def esc : List Nat → List Nat
  | [] => []
  | c :: r => if c = 39 then 39 :: 34 :: 39 :: 34 :: 39 :: esc r else c :: esc r
theorem esc_append : ∀ a b : List Nat, esc (a ++ b) = esc a ++ esc b
  | [], b => rfl
  | c :: a, b => by
    rw [List.cons_append, esc, esc, esc_append a b]
    split <;> simp
theorem esc_free : ∀ l : List Nat, 39 ∉ l → esc l = l
  | [], _ => rfl
  | c :: l, h => by
    rw [esc, if_neg (fun e : c = 39 => h (by rw [e]; exact List.mem_cons_self ..)), esc_free l fun q => h (List.mem_cons_of_mem _ q)]
theorem esc_len : ∀ l : List Nat, (esc l).length ≤ 5 * l.length
  | [] => Nat.le_refl _
  | c :: l => by
    have := esc_len l
    rw [esc]
    split <;> simp only [List.length_cons] <;> omega
theorem esc_len_ge : ∀ l : List Nat, l.length ≤ (esc l).length
  | [] => Nat.le_refl _
  | c :: l => by
    have := esc_len_ge l
    rw [esc]
    split <;> simp only [List.length_cons] <;> omega
theorem apo : Str.ofString "'" = ⟨#[39]⟩ := by decide +kernel
theorem apo5 : Str.ofString "'\"'\"'" = ⟨#[39, 34, 39, 34, 39]⟩ := by decide +kernel
theorem join_toList (sep : Str) : ∀ (x : Str) (r : List Str), (Str.join sep (x :: r)).cps.toList = x.cps.toList ++ (r.map fun p => sep.cps.toList ++ p.cps.toList).flatten
  | x, [] => by simp [Str.join]
  | x, y :: r => by
    show ((x ++ sep ++ Str.join sep (y :: r)).cps).toList = _
    rw [Str.cps_append, Str.cps_append, Array.toList_append, Array.toList_append, join_toList sep y r]
    simp
theorem esc_join : ∀ parts : List Str, (∀ p ∈ parts, 39 ∉ p.cps.toList) → esc (Str.join ⟨#[39]⟩ parts).cps.toList = (Str.join ⟨#[39, 34, 39, 34, 39]⟩ parts).cps.toList
  | [], _ => rfl
  | x :: r, h => by
    rw [join_toList, join_toList, esc_append, esc_free _ (h x (List.mem_cons_self ..))]
    refine congrArg (x.cps.toList ++ ·) ?_
    have h' : ∀ p ∈ r, 39 ∉ p.cps.toList := fun p hp => h p (List.mem_cons_of_mem _ hp)
    clear h
    induction r with
    | nil => rfl
    | cons y r ih =>
      rw [List.map_cons, List.map_cons, List.flatten_cons, List.flatten_cons, esc_append, esc_append, esc_free y.cps.toList (h' y (List.mem_cons_self ..)), ih fun p hp => h' p (List.mem_cons_of_mem _ hp)]
      rfl
theorem join_split_esc (x : Str) : Str.join "'\"'\"'" (Txt.split x "'") = mk (esc x.cps.toList) := by
  refine mk_of ?_
  rw [apo, apo5, ← esc_join _ (StrLaws.split_free x 39), StrLaws.join_split]
theorem replace_esc (x : Str) : Txt.replace x "'" "'\"'\"'" = mk (esc x.cps.toList) := by
  rw [← join_split_esc, apo, StrLaws.replace_one]
theorem mk_len (l : List Nat) : (mk l).length = l.length := List.size_toArray ..
theorem mk_list (l : List Nat) : (mk l).cps.toList = l := by simp
theorem mk_append (a b : List Nat) : mk a ++ mk b = mk (a ++ b) := mk_of (by rw [Str.cps_append, Array.toList_append])
theorem quoted_eq (l : List Nat) : Str.ofString "'" ++ mk l ++ Str.ofString "'" = mk (39 :: (l ++ [39])) := by
  rw [apo]
  exact (congrArg (· ++ mk [39]) (mk_append [39] l)).trans (mk_append _ _)
section
variable {prog : Program} {w : World} {A : Around} {E : Value → Shared → Prop} {s : Shared} {x : Str} {t u v : Tok} {Q : Value → Shared → Prop}
theorem iaddK {y : Str} {K L : Nat} (hx : x.length ≤ K) (hy : y.length ≤ L) (hK : K + L ≤ 16777216) (h : ∀ t' k, (x.length + y.length ≤ (x ++ y).length ∧ (x ++ y).length ≤ x.length + y.length) → Q (.str (x ++ y) t') { s with toks := k }) :
    wpAny (model prog w) A (inplaceOp .Add (.str x t) (.str y u)) Q E s := SBL.iadd h (by rw [sizeLine_eq]; omega)
theorem replaceQ (hu : u ≠ 0) (hv : v ≠ 0) (huv : u ≠ v) (hx : x.length ≤ 1000) (h : ∀ t' k, (mk (esc x.cps.toList)).length ≤ 5000 → Q (.str (mk (esc x.cps.toList)) t') { s with toks := k }) :
    wpAny (model prog w) A (call (.builtin "str.replace") [.str x t, .str "'" u, .str "'\"'\"'" v]) Q E s := by
  refine SC.replace hu hv huv (by decide +kernel) ?_ fun t' k => ?_
  · have : Str.length "'\"'\"'" = 5 := by decide +kernel
    rw [this]
    omega
  · rw [replace_esc]
    refine h t' k ?_
    rw [mk_len]
    have h1 := esc_len x.cps.toList
    have h2 : x.cps.toList.length = x.length := Array.length_toList
    omega
end
end OyMine
end
section
open PySem PySem.W PyProof.Rows PySem.Builtin PySem.Builtin.Re
set_option maxRecDepth 100000
set_option genInjectivity false
set_option genSizeOf false
set_option genSizeOfSpec false
namespace OyMine
theorem words_Quote_0 : True := by
  w_top off
  k_with_none
  k_with "my omega" => (first
    | with_reducible assumption
    | with_reducible exact Nat.ne_of_lt (by assumption)
    | with_reducible exact Nat.ne_of_gt (by assumption)
    | decide
    | with_reducible exact Nat.le_refl _
    | with_reducible exact Nat.zero_le _
    | with_reducible exact Nat.le_add_right _ _
    | with_reducible exact Nat.le_add_left _ _
    | with_reducible exact Nat.lt_succ_self _
    | with_reducible exact Nat.le_succ _
    | with_reducible exact Nat.succ_pos _
    | with_reducible exact Nat.zero_add _
    | with_reducible exact q4
    | with_reducible exact q8
    | with_reducible exact Nat.le_of_lt (by assumption)
    | with_reducible exact Nat.le_of_succ_le (by assumption)
    | with_reducible exact Nat.le_of_succ_le_succ (by assumption)
    | with_reducible exact Nat.not_lt.mp (by assumption)
    | with_reducible exact Nat.lt_succ_of_le (by assumption)
    | with_reducible exact Nat.le_succ_of_le (by assumption)
    | with_reducible exact Nat.succ_le_of_lt (by assumption)
    | with_reducible exact q1 (by assumption)
    | with_reducible exact q2 (by assumption)
    | with_reducible exact q3 (by assumption)
    | with_reducible exact q5 (by assumption)
    | with_reducible exact q7 (by assumption)
    | with_reducible exact q6 (by assumption) (by assumption)
    | with_reducible exact absurd (by assumption) (Nat.not_lt.mpr (by assumption))
    | (with_reducible refine room_le (by assumption) ?_; with_unfolding_all rfl)
    | (with_reducible refine room_lt (by assumption) ?_; with_unfolding_all rfl)
    | (with_reducible refine room_le0 (by assumption) ?_; with_unfolding_all rfl)
    | ((fail_if_success (with_reducible show _ ≠ _)); (rename _ ∧ _ => cW9; clear cW9); (repeat (rename _ ∧ _ => cW9; clear cW9)); omega)
    | fail "no")
  k_with "my execs cons" => (k_here; refine wpAny_execs_cons ?_; k_fold)
  trivial
theorem words_Quote_1 : True := by
  k_with "my k_room" => (first | exact Nat.le_of_ble_eq_true rfl | ((try simp only [duk, depth_under_make, depth_under_kw, depth_in1, depth_deeper, depth_caller, recursionLimit]); (try dsimp only [ktrTop]); (try simp only [recursionLimit]); omega))
  k_with "my ktr_room" => (k_room)
  k_with "my k_units" => (first | exact Nat.le_of_ble_eq_true rfl | ((have hcL9W9 := cLine_is); (try simp only [uuk, units_in1, units_deeper, Around.mark_units, units_caller]); (try dsimp only [ktrTop]); omega))
  k_with "my units_room" => (first | exact Nat.le_of_ble_eq_true rfl | ((have hcL9W9 := cLine_is); (try simp only [uuk, units_in1, units_deeper, Around.mark_units, units_caller]); (try dsimp only [ktrTop]); omega))
  k_with "my k_enter" => ((refine' code_def ?k1W9 ?k2W9 ?k3W9 ?k4W9 ?k5W9 ?kAW9 ?kFW9 ?kKW9 ?k6W9 ?k7W9 ?k8W9 ?k9W9 ?kBW9 ?_ ?c2W9 ?c3W9 ?c4W9 ?c5W9; (case kAW9 => exact rfl); (case kFW9 => exact rfl); (case kKW9 => first | exact rfl | assumption); (case k1W9 => k_asm); (case k2W9 => k_asm); (case k3W9 => k_asm); (case k4W9 => k_asm); (case k5W9 => k_asm); (case k6W9 => k_is); (case k7W9 => k_is); (case k8W9 => k_room); (case k9W9 => first | exact BindsTo.of_eq rfl | exact binds_K (by k_in) rfl (by k_is) rfl rfl rfl | fail "k_enter: no rule for these arguments"); (case c5W9 => decide); (case kBW9 => exact locs rfl); (case c2W9 => exact rfl); (case c3W9 => exact rfl); (case c4W9 => exact rfl); k_whole; intro g'W9 L'W9 h'W9 FG'W9 F'W9 N'W9 B'W9 X'W9 T'W9; (try dsimp only); (try k_lift B'W9); (try k_fold)))
  k_with "my getMethod ref" => ((k_here; (with_reducible show wpAny _ _ (getMethod (Value.ref _) (Str.ofString "sub") _) _ _ _); k_dflt (refine' meth_sub ?FW9 ?XW9 ?eW9 ?cW9 ?dW9 ?_; (case FW9 => k_asm); (case XW9 => k_asm); (case eW9 => k_is); (case cW9 => exact rfl); (case dW9 => exact rfl); k_whole)))
  k_with "my call builtin:re.Pattern.sub" => ((k_here; k_dflt (first
    | (refine' sub54_K ?FW9 ?XW9 ?NW9 ?xW9 ?_; (case FW9 => k_asm); (case XW9 => k_asm); (case NW9 => k_asm); (case xW9 => first | exact nl_fits (by assumption) | omega); k_whole; intro t'W9 h'W9 tk'W9 F'W9 N'W9; (try k_sweep))
    | (refine' sub49_K ?FW9 ?XW9 ?NW9 ?xW9 ?_; (case FW9 => k_asm); (case XW9 => k_asm); (case NW9 => k_asm); (case xW9 => first | exact nl_fits (by assumption) | omega); k_whole; intro t'W9 h'W9 tk'W9 F'W9 N'W9; (try k_sweep)))))
  k_with "my call ref" => ((k_here; (with_reducible show wpAny _ _ (call (Value.ref 763) [Value.str _ _]) _ _ _); k_dflt (refine' search_K ?FW9 ?XW9 ?NW9 ?xW9 ?jW9 ?uW9 ?_; (case FW9 => k_asm); (case XW9 => k_asm); (case NW9 => k_asm); (case xW9 => omega); (case jW9 => assumption); (case uW9 => assumption); k_whole; intro a'W9 h'W9 F'W9 N'W9; (try k_sweep))))
  k_with "my kt_len" => (with_reducible assumption)
  k_with "my truthy str" => ((k_here; (with_reducible show wpAny _ _ (PySem.truthy (Value.str _ _)) _ _ _); (refine' KXt.truthy_pos (K := 16777216) ?kxtaW9 ?kxtbW9 (Nat.le_refl _) ?_; (case kxtaW9 => with_reducible assumption); (case kxtbW9 => omega)); intro _))
  k_with "my callWith ref" => ((k_here; (with_reducible show wpAny _ _ (callWith _ (Value.ref 763) _ _ _) _ _ _); k_dflt (refine' callWith_763 ?k1W9 ?_; (case k1W9 => k_asm); k_whole)))
  k_with "my call builtin:str.replace" => ((k_here; (with_reducible show wpAny _ _ (call (Value.builtin "str.replace") [Value.str _ _, Value.str (Str.ofString "'") _, Value.str _ _]) _ _ _); k_dflt ((refine' replaceQ ?aW9 ?bW9 ?cW9 ?dW9 ?_; (case aW9 => k_ne); (case bW9 => k_ne); (case cW9 => k_ne); (case dW9 => first | with_reducible assumption | omega); k_whole; intro t'W9 k'W9 len'W9))))
  k_with "my k_memK" => (first | assumption | (refine need_app ?_; k_memK) | (refine need_cons ?_; k_memK))
  k_with "my subscriptTail" => ((k_here; (with_reducible show wpAny _ _ (subscriptTail _ _ (Value.ref (TreeAt.t _)) (Value.int (Nat.cast _) _)) _ _ _); k_dflt ((refine' tree_item ?NW9 ?TW9 ?kW9 ?_; (case NW9 => k_asm); (case TW9 => k_memK); (case kW9 => omega); k_whole; intro hm'W9))))
  k_with "my call ref" => ((k_here; (with_reducible show wpAny _ _ (call (Value.ref 770) [Value.str (TreeAt.lab _ _) _]) _ _ _); k_dflt ((refine' pure_use (qt_lab _ _ ?OW9 _ ?kW9 _) ?BW9 ?FW9 ?XW9 ?NW9 ?TW9 ?kkW9 ?hdW9 ?huW9 ?_; (case OW9 => assumption); (case kW9 => omega); (case BW9 => k_asm); (case FW9 => k_asm); (case XW9 => k_asm); (case NW9 => k_asm); (case TW9 => k_asm); (case kkW9 => first | exact rfl | assumption); (case hdW9 => k_room); (case huW9 => k_units); k_whole; intro r'W9 h'W9 tk'W9 F'W9 N'W9 ht'W9; obtain ⟨t'W9, e'W9⟩ := ht'W9; subst e'W9; (try k_sweep)))))
  k_with "my call ref" => ((k_here; (with_reducible show wpAny _ _ (call (Value.ref 61) [Value.str (Str.mk (List.toArray _)) _]) _ _ _); k_dflt ((refine' pure_use (qd_mk _ _ _ ?xW9) ?BW9 ?FW9 ?XW9 ?NW9 ?TW9 ?kkW9 ?hdW9 ?huW9 ?_; (case xW9 => first | omega | exact size_out (by assumption) (by omega)); (case BW9 => k_asm); (case FW9 => k_asm); (case XW9 => k_asm); (case NW9 => k_asm); (case TW9 => k_asm); (case kkW9 => first | exact rfl | assumption); (case hdW9 => k_room); (case huW9 => k_units); k_whole; intro r'W9 h'W9 tk'W9 F'W9 N'W9 ht'W9; obtain ⟨t'W9, e'W9⟩ := ht'W9; subst e'W9; (try k_sweep)))))
  k_with "my kt_len" => (first | exact len_out (by assumption) (by omega) | exact len_quoted (by assumption) (by omega) | exact TreeAt.Ok.eol (by assumption) _ (by omega) | exact TreeAt.part_len (by assumption) (by omega) (by omega) | ((with_reducible refine' len_qd ?qqW9); (case qqW9 => kt_len)))
  k_with "my call builtin:len" => ((k_here; (with_reducible show wpAny _ _ (call (Value.builtin "len") [Value.ref (TreeAt.t _)]) _ _ _); k_dflt ((refine' tree_len ?NW9 ?TW9 ?_; (case NW9 => k_asm); (case TW9 => k_memK); k_whole; intro t'W9 k'W9))))
  k_with "my call ref" => ((k_here; (with_reducible show wpAny _ _ (call (Value.ref 782) [Value.ref _, Value.int (Nat.cast _) _]) _ _ _); (with_reducible rename ∀ k, _ < k → k < 5 → Outline _ _ k => ihOW9); k_dflt ((refine' reads_use (ihOW9 _ ?aW9 ?bW9 _) ?BW9 ?FW9 ?XW9 ?NW9 ?TW9 ?kkW9 ?hdW9 ?huW9 ?hnW9 ?_; (case aW9 => omega); (case bW9 => omega); (case BW9 => k_asm); (case FW9 => k_asm); (case XW9 => k_asm); (case NW9 => k_asm); (case TW9 => k_asm); (case kkW9 => first | exact rfl | assumption); (case hdW9 => k_room); (case huW9 => k_units); (case hnW9 => k_memK); k_whole; intro r'W9 h'W9 tk'W9 F'W9 N'W9 ht'W9; obtain ⟨t'W9, e'W9⟩ := ht'W9; subst e'W9; (try k_sweep)))))
  k_with "my inplaceOp Add str str" => ((k_here; (with_reducible show wpAny _ _ (inplaceOp Operator.Add (Value.str _ _) (Value.str _ _)) _ _ _); (refine' iaddK ?kxaaW9 ?kxabW9 ?kxacW9 ?_; (case kxaaW9 => kt_len); (case kxabW9 => kt_len); (case kxacW9 => exact Nat.le_of_ble_eq_true rfl)); intro _ _ _))
  k_with "my k_enter" => ((kp_kind "both"; (fail_if_success k_inElt); (refine' kp_both ?k1W9 ?k2W9 ?k3W9 ?k4W9 ?k5W9 ?kAW9 ?kFW9 ?kKW9 ?k6W9 ?k7W9 ?k8W9 ?kVW9 ?kXW9 ?kQW9 ?kMW9 ?kNW9 ?kDW9 ?kRW9 ?kPW9 ?kSW9 ?kTW9 ?kBW9 ?_ ?c2W9 ?c3W9 ?c4W9 ?c5W9; (case kAW9 => exact rfl); (case kFW9 => exact rfl); (case kKW9 => first | exact rfl | assumption); (case k1W9 => k_asm); (case k2W9 => k_asm); (case k3W9 => k_asm); (case k4W9 => k_asm); (case k5W9 => k_asm); (case k6W9 => k_is); (case k7W9 => k_is); (case k8W9 => k_room); (case kVW9 => kp_lit); (case kXW9 => kp_lit); (case kQW9 => exact rfl); (case kMW9 => exact rfl); (case kNW9 => exact rfl); (case kDW9 => kp_flats); (case kRW9 => exact rfl); (case kPW9 => exact rfl); (case kSW9 => exact fun _ => rfl); (case kTW9 => exact fun _ _ => rfl); (case kBW9 => exact fun _ _ => locs rfl); (case c5W9 => decide); (case c2W9 => exact rfl); (case c3W9 => exact rfl); (case c4W9 => exact rfl); k_whole; intro C'W9 D'W9 o'W9 g'W9 L'W9 h'W9 tk'W9 l1W9 l2W9 lo'W9 hs'W9 fs'W9 FG'W9 F'W9 N'W9 B'W9 X'W9 T'W9; (try k_lt l1W9); (try k_lt2 l2W9); (try dsimp only); (try k_lift B'W9); (try k_fold))))
  k_with "my call builtin:object.__new__" => ((k_here; k_dflt ((refine' new623_K ?FW9 ?XW9 ?NW9 ?_; (case FW9 => k_asm); (case XW9 => k_asm); (case NW9 => k_asm); k_whole; intro x'W9 d'W9 h'W9 F'W9 N'W9 l1W9 l2W9; (try k_lt l1W9); (try k_lt2 l2W9); (try k_sweep)))))
  k_with "my k_all" => (first | exact allNe (by assumption) | exact allNe' (by assumption) | exact allNeT (by assumption) (by first | assumption | omega))
  trivial

set_option maxHeartbeats 8000000 in
theorem qt_ok (w : World) (x : Str) (tx : Tok) (j : Nat) (hx : x.length ≤ 1000) (hx1 : 1 ≤ x.length) (hj : j < x.cps.size) (hu : unsafeC (x.cps.getD j 0) = true) : Pure w 770 600 6000 [.str x tx] (fun r => ∃ t, r = .str (mk (39 :: (esc x.cps.toList ++ [39]))) t) := by
  w_strict (
  unfold Pure AtAny
  k_fill
  have hxs : x.cps.size ≤ 1000 := hx
  intro dp un p loose mean mg mb news gd cn cs a ccd cl outer A₀ base h₀ L m s hdp hun B F X N T hk Q E hret
  refine wpAny_call ?_
  (k_dflt k_enter)
  k_steps
  all_goals exact hret _ _ _ (by k_asm) (by k_asm) ⟨_, congrArg (Value.str · _) (quoted_eq _)⟩
  )
end OyMine
end
section
open PySem PySem.W PyProof.Rows PySem.Builtin PySem.Builtin.Str
set_option maxRecDepth 100000
set_option genInjectivity false
set_option genSizeOf false
set_option genSizeOfSpec false
namespace OyMine
section
variable {prog : Program} {w : World} {A : Around} {E : Value → Shared → Prop} {s : Shared} {env : Env} {h₀ : Heap} {x : Str} {body : List Stmt} {Q : Flow → Shared → Prop}
/-- a loop over a range that turns one name: at its i-th turn it holds X i -/
theorem range_val {r : Addr} {a₀ b₀ : Int} {t₀ u₀ v₀ : Tok} {n : Nat} {m₀ : Str → Option Value} {news : List (Addr × Obj)} {y : Str} {ty : Tok} (X : Nat → Tok → Value) (a : Nat) (ha : a₀ = (a : Int))
    (hh : A.handled = none) (hr : IsRange s.heap r a₀ b₀ 1 t₀ u₀ v₀) (hsmall : Builtin.Range.small a₀ b₀ 1 = true) (hn : Builtin.Range.rangeSize a₀ b₀ 1 = (n : Int)) (F : Fr h₀ env.locals s.heap m₀) (N : News h₀ env.locals s.heap news) (hy : m₀ y = some (X 0 ty))
    (turn : ∀ (i : Nat) t ta h tk own, i < n → OwnOff own (news.map (·.1)) → Fr h₀ env.locals h (fun z => if z = x then some (.int ((a + i : Nat) : Int) t) else if z = y then some (X i ta) else m₀ z) → News h₀ env.locals h (news ++ own) →
      wpAny (model prog w) A (execs body env) (InvPostN h₀ env.locals (fun m' nx => nx = news ∧ (∃ t', m' y = some (X (i + 1) t')) ∧ ∀ z, z ≠ x → z ≠ y → m' z = m₀ z) own (news.map (·.1)) { s with heap := h, toks := tk } Q) E { s with heap := h, toks := tk })
    (done : ∀ (u : Str → Option Value) t h tk, Fr h₀ env.locals h (fun z => if z = x then u z else if z = y then some (X n t) else m₀ z) → News h₀ env.locals h news → Q .next { s with heap := h, toks := tk }) :
    wpAny (model prog w) A (pyIter (.ref r)) (fun it s₂ => LoopAtV prog w A h₀ env x body Q E it s₂) E s := by
  refine kpr_invN (fun i m nx => nx = news ∧ (∃ t, m y = some (X i t)) ∧ ∀ z, z ≠ x → z ≠ y → m z = m₀ z) hh hr hsmall hn F N ⟨rfl, ⟨ty, hy⟩, fun _ _ _ => rfl⟩ ?_ ?_
  · rintro i k t m₁ nx h tk own hk hoff ⟨rfl, ⟨ta, ha⟩, hm⟩ F₁ N₁
    rw [map_one ha hm] at F₁
    have hi : i < n := by
      have := (List.getElem?_eq_some_iff.mp hk).1
      rwa [rangeKs_length] at this
    have e : k = ((a + i : Nat) : Int) := by
      have := (List.getElem?_eq_some_iff.mp hk).2
      simp only [rangeKs, List.getElem_map, List.getElem_range] at this
      omega
    subst e
    exact turn i t ta h tk own hi hoff F₁ N₁
  · rintro m₁ nx h tk ⟨rfl, ⟨t, ha⟩, hm⟩ F₁ N₁
    rw [rangeKs_length] at ha
    refine done m₁ t h tk ?_ N₁
    rw [done_one ha hm]; exact F₁
end
/-- a tree of five places as the ledger bears it -/
structure TreeAt where
  t : Addr
  n : Nat
  adr : Nat → Addr
  par : Nat → Int
  lab : Nat → Str
  eol : Nat → Str
  tp : Nat → Tok
  tl : Nat → Tok
  te : Nat → Tok
  nn : Nat → Nat
namespace TreeAt
variable (T : TreeAt)
noncomputable abbrev tup (k : Nat) : Obj := { cls := .type "tuple", data := .seq #[.int (T.par k) (T.tp k), .str (T.lab k) (T.tl k), .str (T.eol k) (T.te k)] (T.nn k) }
noncomputable def objs : List (Addr × Obj) := [(T.t, listOf #[.ref (T.adr 0), .ref (T.adr 1), .ref (T.adr 2), .ref (T.adr 3), .ref (T.adr 4)] T.n), (T.adr 0, T.tup 0), (T.adr 1, T.tup 1), (T.adr 2, T.tup 2), (T.adr 3, T.tup 3), (T.adr 4, T.tup 4)]
theorem tup_mem {k : Nat} (h : k < 5) : (T.adr k, T.tup k) ∈ T.objs := by
  match k, h with
  | 0, _ => exact .tail _ (.head _)
  | 1, _ => exact .tail _ (.tail _ (.head _))
  | 2, _ => exact .tail _ (.tail _ (.tail _ (.head _)))
  | 3, _ => exact .tail _ (.tail _ (.tail _ (.tail _ (.head _))))
  | 4, _ => exact .tail _ (.tail _ (.tail _ (.tail _ (.tail _ (.head _)))))
end TreeAt
section
variable {prog : Program} {w : World} {A : Around} {E : Value → Shared → Prop} {s : Shared} {h₀ : Heap} {L : Addr} {news : List (Addr × Obj)} {T : TreeAt} {Q : Value → Shared → Prop} {value slice : PySem.Expr} {k : Nat} {u : Tok}
theorem tree_item (N : News h₀ L s.heap news) (hT : ∀ q ∈ T.objs, q ∈ news) (h5 : k < 5) (h : (T.adr k, T.tup k) ∈ news → Q (.ref (T.adr k)) s)
    (hs : subscripted slice false (.ref T.t) (.int (k : Int) u) = operate [.ref T.t, .int (k : Int) u] (getItem (.ref T.t) (.int (k : Int) u)) := by with_unfolding_all rfl) :
    wpAny (model prog w) A (subscriptTail value slice (.ref T.t) (.int (k : Int) u)) Q E s := by
  have hl : s.heap.IsList T.t #[.ref (T.adr 0), .ref (T.adr 1), .ref (T.adr 2), .ref (T.adr 3), .ref (T.adr 4)] := N.isList (hT _ (List.mem_cons_self ..))
  refine tail_any hl.typeIs slot_list_getitem.lookup (wpAny_getItem_list hl (Int.natCast_nonneg k) (by omega) ?_ (h (hT _ (T.tup_mem (by omega))))) hs
  match k, h5 with
  | 0, _ | 1, _ | 2, _ | 3, _ | 4, _ => rfl
theorem tree_len (N : News h₀ L s.heap news) (hT : ∀ q ∈ T.objs, q ∈ news) (h : ∀ t k, Q (.int 5 t) { s with toks := k }) : wpAny (model prog w) A (call (.builtin "len") [.ref T.t]) Q E s := by
  have hl : s.heap.IsList T.t #[.ref (T.adr 0), .ref (T.adr 1), .ref (T.adr 2), .ref (T.adr 3), .ref (T.adr 4)] := N.isList (hT _ (List.mem_cons_self ..))
  exact Calls.call_len_list hl (by show ((5 : Nat) : Int) < _; decide) (h _ _)
end
end OyMine
end
section
open PySem PySem.W PyProof.Rows PySem.Builtin PySem.Builtin.Re
set_option maxRecDepth 100000
set_option genInjectivity false
set_option genSizeOf false
set_option genSizeOfSpec false
namespace OyMine
namespace TreeAt
variable (T : TreeAt)
/-- what place k's outline adds to node's -/
noncomputable def kid (o : Nat → List Nat) (node k : Nat) : List Nat := if T.par k = (node : Int) then 46 :: qd (o k) else []
/-- the outline of a place, up to the i-th place behind it -/
noncomputable def base (node : Nat) : List Nat := 39 :: (esc (T.lab node).cps.toList ++ [39]) ++ (T.eol node).cps.toList
noncomputable def part (o : Nat → List Nat) (node : Nat) : Nat → List Nat
  | 0 => T.base node
  | i + 1 => part o node i ++ T.kid o node (node + 1 + i)
noncomputable def outl : Nat → Nat → List Nat
  | 0, _ => []
  | f + 1, node => T.part (outl f) node (4 - node)
/-- what the law's own walk needs of a tree -/
structure Ok : Prop where
  par0 : T.par 0 = -1
  par : ∀ k, 1 ≤ k → k < 5 → 0 ≤ T.par k ∧ T.par k < k
  lab : ∀ k, k < 5 → (T.lab k).length = 4
  eol : ∀ k, k < 5 → (T.eol k).length ≤ 2
  blank : ∀ k, k < 5 → (T.lab k).cps.getD 3 0 = 32
theorem outl_more : ∀ (f node : Nat), 5 - node ≤ f → ∀ g, f ≤ g → node < 5 → T.outl g node = T.outl f node := by
  have parts : ∀ (o o' : Nat → List Nat) (node : Nat) (i : Nat), (∀ k, node < k → k < node + 1 + i → o k = o' k) → T.part o node i = T.part o' node i := by
    intro o o' node i
    induction i with
    | zero => intro _; rfl
    | succ i ih =>
      intro h
      rw [part, part, ih fun k h1 h2 => h k h1 (by omega)]
      unfold kid
      rw [h (node + 1 + i) (by omega) (by omega)]
  intro f
  induction f with
  | zero => intro node h g _ h5; omega
  | succ f ih =>
    intro node h g hg h5
    obtain ⟨g, rfl⟩ : ∃ g', g = g' + 1 := ⟨g - 1, by omega⟩
    rw [outl, outl]
    refine parts _ _ node _ fun k h1 h2 => ?_
    exact ih k (by omega) g (by omega) (by omega)
noncomputable def out (node : Nat) : List Nat := T.outl 5 node
theorem out_eq {node : Nat} (h : node < 5) : T.out node = T.part T.out node (4 - node) := by
  have parts : ∀ (o o' : Nat → List Nat) (i : Nat), (∀ k, node < k → k < node + 1 + i → o k = o' k) → T.part o node i = T.part o' node i := by
    intro o o' i
    induction i with
    | zero => intro _; rfl
    | succ i ih =>
      intro h
      rw [part, part, ih fun k h1 h2 => h k h1 (by omega)]
      unfold kid
      rw [h (node + 1 + i) (by omega) (by omega)]
  show T.outl 5 node = _
  rw [outl]
  refine parts _ _ _ fun k h1 h2 => ?_
  exact (T.outl_more 4 k (by omega) 5 (by omega) (by omega)).symm
end TreeAt
theorem stuff_len : ∀ (b : Bool) (l : List Nat), (stuff b l).length ≤ 2 * l.length
  | _, [] => by simp [stuff]
  | b, c :: l => by
    rw [stuff]
    split
    · have := stuff_len false l
      simp only [List.length_cons]; omega
    · have := stuff_len (c == 10) l
      simp only [List.length_cons]; omega
theorem qd_len (l : List Nat) : (qd l).length ≤ 4 * l.length := by
  have h1 := nl_len l
  have h2 := stuff_len true (nl l)
  unfold qd
  omega
namespace TreeAt
variable {T : TreeAt}
theorem base_len (O : T.Ok) {k : Nat} (h : k < 5) : (T.base k).length ≤ 24 := by
  have h1 := esc_len (T.lab k).cps.toList
  have h2 : (T.lab k).cps.toList.length = 4 := (Array.length_toList).trans (O.lab k h)
  have h3 : (T.eol k).cps.toList.length ≤ 2 := Nat.le_trans (Nat.le_of_eq Array.length_toList) (O.eol k h)
  unfold base
  simp only [List.length_append, List.length_cons, List.length_nil]
  omega
theorem kid_len (o : Nat → List Nat) (node k : Nat) : (T.kid o node k).length ≤ 1 + 4 * (o k).length := by
  unfold kid
  have := qd_len (o k)
  split
  · simp only [List.length_cons]; omega
  · simp
theorem part_mono (o : Nat → List Nat) (node : Nat) {i j : Nat} (h : i ≤ j) : (T.part o node i).length ≤ (T.part o node j).length := by
  induction j with
  | zero => rw [show i = 0 by omega]; exact Nat.le_refl _
  | succ j ih =>
    by_cases e : i = j + 1
    · rw [e]; exact Nat.le_refl _
    · have := ih (by omega)
      rw [part, List.length_append]
      omega
theorem out_len (O : T.Ok) {node : Nat} (h : node < 5) : (T.out node).length ≤ 15156 := by
  have e4 : (T.out 4).length ≤ 24 := by rw [T.out_eq (by decide)]; exact base_len O (by decide)
  have e3 : (T.out 3).length ≤ 121 := by
    rw [T.out_eq (by decide)]
    have := base_len O (k := 3) (by decide)
    have := T.kid_len T.out 3 4
    show (T.base 3 ++ T.kid T.out 3 4).length ≤ _
    rw [List.length_append]; omega
  have e2 : (T.out 2).length ≤ 606 := by
    rw [T.out_eq (by decide)]
    have := base_len O (k := 2) (by decide)
    have := T.kid_len T.out 2 3
    have := T.kid_len T.out 2 4
    show (T.base 2 ++ T.kid T.out 2 3 ++ T.kid T.out 2 4).length ≤ _
    rw [List.length_append, List.length_append]; omega
  have e1 : (T.out 1).length ≤ 3031 := by
    rw [T.out_eq (by decide)]
    have := base_len O (k := 1) (by decide)
    have := T.kid_len T.out 1 2
    have := T.kid_len T.out 1 3
    have := T.kid_len T.out 1 4
    show (T.base 1 ++ T.kid T.out 1 2 ++ T.kid T.out 1 3 ++ T.kid T.out 1 4).length ≤ _
    rw [List.length_append, List.length_append, List.length_append]; omega
  have e0 : (T.out 0).length ≤ 15156 := by
    rw [T.out_eq (by decide)]
    have := base_len O (k := 0) (by decide)
    have := T.kid_len T.out 0 1
    have := T.kid_len T.out 0 2
    have := T.kid_len T.out 0 3
    have := T.kid_len T.out 0 4
    show (T.base 0 ++ T.kid T.out 0 1 ++ T.kid T.out 0 2 ++ T.kid T.out 0 3 ++ T.kid T.out 0 4).length ≤ _
    rw [List.length_append, List.length_append, List.length_append, List.length_append]; omega
  match node, h with
  | 0, _ => exact e0
  | 1, _ => exact Nat.le_trans e1 (by decide)
  | 2, _ => exact Nat.le_trans e2 (by decide)
  | 3, _ => exact Nat.le_trans e3 (by decide)
  | 4, _ => exact Nat.le_trans e4 (by decide)
theorem part_len (O : T.Ok) {node i : Nat} (h : node < 5) (hi : i ≤ 4 - node) : (OyMine.mk (T.part T.out node i)).length ≤ 15156 := by
  rw [mk_len]
  refine Nat.le_trans (part_mono T.out node hi) ?_
  rw [← T.out_eq h]
  exact out_len O h
end TreeAt
theorem need_app {l news own : List (Addr × Obj)} (h : ∀ q ∈ l, q ∈ news) : ∀ q ∈ l, q ∈ news ++ own := fun q hq => List.mem_append.mpr (.inl (h q hq))
theorem need_cons {l news : List (Addr × Obj)} {p : Addr × Obj} (h : ∀ q ∈ l, q ∈ news) : ∀ q ∈ l, q ∈ p :: news := fun q hq => .tail _ (h q hq)
theorem len_qd {l : List Nat} {K : Nat} (h : (mk l).length ≤ K) : (mk (qd l)).length ≤ 4 * K := by
  rw [mk_len] at h ⊢
  exact Nat.le_trans (qd_len l) (Nat.mul_le_mul_left 4 h)
theorem len_out {T : TreeAt} {k : Nat} (O : T.Ok) (h : k < 5) : (mk (T.out k)).length ≤ 15156 := by
  rw [mk_len]; exact TreeAt.out_len O h
theorem size_out {T : TreeAt} {k : Nat} (O : T.Ok) (h : k < 5) : (mk (T.out k)).cps.size ≤ 100000 := Nat.le_trans (len_out O h) (by decide)
theorem len_quoted {T : TreeAt} {k : Nat} (O : T.Ok) (h : k < 5) : (mk (39 :: (esc (T.lab k).cps.toList ++ [39]))).length ≤ 22 := by
  have h1 := esc_len (T.lab k).cps.toList
  have h2 : (T.lab k).cps.toList.length = 4 := (Array.length_toList).trans (O.lab k h)
  rw [mk_len]
  simp only [List.length_append, List.length_cons, List.length_nil]
  omega
theorem base_eq (T : TreeAt) (k : Nat) : mk (39 :: (esc (T.lab k).cps.toList ++ [39])) ++ T.eol k = mk (T.base k) := by
  refine mk_of ?_
  rw [Str.cps_append, Array.toList_append]
  rfl
theorem kid_yes {T : TreeAt} {node k : Nat} (h : T.par k = (node : Int)) (l : List Nat) : mk l ++ (Str.ofString "." ++ mk (qd (T.out k))) = mk (l ++ T.kid T.out node k) := by
  have e : Str.ofString "." = mk [46] := by decide +kernel
  unfold TreeAt.kid
  rw [if_pos h, e, mk_append, mk_append]
  rfl
theorem kid_no {T : TreeAt} {node k : Nat} (h : T.par k ≠ (node : Int)) (l : List Nat) : mk l = mk (l ++ T.kid T.out node k) := by
  unfold TreeAt.kid
  rw [if_neg h, List.append_nil]
noncomputable def Outline (w : World) (T : TreeAt) (node : Nat) : Prop := ∀ tk, Reads w 782 (400 + 20 * node) (4000 + 200 * node) T.objs [.ref T.t, .int (node : Int) tk] (fun r => ∃ t, r = .str (mk (T.out node)) t)
end OyMine
end
section
open PySem PySem.W PyProof.Rows PySem.Builtin PySem.Builtin.Re
set_option maxRecDepth 100000
set_option genInjectivity false
set_option genSizeOf false
set_option genSizeOfSpec false
namespace OyMine
theorem words_Outline_0 : True := by
  w_top off
  k_with_none
  k_with "my omega" => (first
    | with_reducible assumption
    | with_reducible exact Nat.ne_of_lt (by assumption)
    | with_reducible exact Nat.ne_of_gt (by assumption)
    | decide
    | with_reducible exact Nat.le_refl _
    | with_reducible exact Nat.zero_le _
    | with_reducible exact Nat.le_add_right _ _
    | with_reducible exact Nat.le_add_left _ _
    | with_reducible exact Nat.lt_succ_self _
    | with_reducible exact Nat.le_succ _
    | with_reducible exact Nat.succ_pos _
    | with_reducible exact Nat.zero_add _
    | with_reducible exact q4
    | with_reducible exact q8
    | with_reducible exact Nat.le_of_lt (by assumption)
    | with_reducible exact Nat.le_of_succ_le (by assumption)
    | with_reducible exact Nat.le_of_succ_le_succ (by assumption)
    | with_reducible exact Nat.not_lt.mp (by assumption)
    | with_reducible exact Nat.lt_succ_of_le (by assumption)
    | with_reducible exact Nat.le_succ_of_le (by assumption)
    | with_reducible exact Nat.succ_le_of_lt (by assumption)
    | with_reducible exact q1 (by assumption)
    | with_reducible exact q2 (by assumption)
    | with_reducible exact q3 (by assumption)
    | with_reducible exact q5 (by assumption)
    | with_reducible exact q7 (by assumption)
    | with_reducible exact q6 (by assumption) (by assumption)
    | with_reducible exact absurd (by assumption) (Nat.not_lt.mpr (by assumption))
    | (with_reducible refine room_le (by assumption) ?_; with_unfolding_all rfl)
    | (with_reducible refine room_lt (by assumption) ?_; with_unfolding_all rfl)
    | (with_reducible refine room_le0 (by assumption) ?_; with_unfolding_all rfl)
    | ((fail_if_success (with_reducible show _ ≠ _)); (rename _ ∧ _ => cW9; clear cW9); (repeat (rename _ ∧ _ => cW9; clear cW9)); omega)
    | fail "no")
  k_with "my execs cons" => (k_here; refine wpAny_execs_cons ?_; k_fold)
  trivial
theorem qt_lab (w : World) (T : TreeAt) (O : T.Ok) (k : Nat) (h : k < 5) (tx : Tok) : Pure w 770 600 6000 [.str (T.lab k) tx] (fun r => ∃ t, r = .str (mk (39 :: (esc (T.lab k).cps.toList ++ [39]))) t) := by
  have h4 : (T.lab k).length = 4 := O.lab k h
  exact qt_ok w (T.lab k) tx 3 (by omega) (by omega) (by show 3 < (T.lab k).length; omega) (by rw [O.blank k h]; decide +kernel)
theorem words_Outline_1 : True := by
  k_with "my k_room" => (first | exact Nat.le_of_ble_eq_true rfl | ((try simp only [duk, depth_under_make, depth_under_kw, depth_in1, depth_deeper, depth_caller, recursionLimit]); (try dsimp only [ktrTop]); (try simp only [recursionLimit]); omega))
  k_with "my ktr_room" => (k_room)
  k_with "my k_units" => (first | exact Nat.le_of_ble_eq_true rfl | ((have hcL9W9 := cLine_is); (try simp only [uuk, units_in1, units_deeper, Around.mark_units, units_caller]); (try dsimp only [ktrTop]); omega))
  k_with "my units_room" => (first | exact Nat.le_of_ble_eq_true rfl | ((have hcL9W9 := cLine_is); (try simp only [uuk, units_in1, units_deeper, Around.mark_units, units_caller]); (try dsimp only [ktrTop]); omega))
  k_with "my k_enter" => ((refine' code_def ?k1W9 ?k2W9 ?k3W9 ?k4W9 ?k5W9 ?kAW9 ?kFW9 ?kKW9 ?k6W9 ?k7W9 ?k8W9 ?k9W9 ?kBW9 ?_ ?c2W9 ?c3W9 ?c4W9 ?c5W9; (case kAW9 => exact rfl); (case kFW9 => exact rfl); (case kKW9 => first | exact rfl | assumption); (case k1W9 => k_asm); (case k2W9 => k_asm); (case k3W9 => k_asm); (case k4W9 => k_asm); (case k5W9 => k_asm); (case k6W9 => k_is); (case k7W9 => k_is); (case k8W9 => k_room); (case k9W9 => first | exact BindsTo.of_eq rfl | exact binds_K (by k_in) rfl (by k_is) rfl rfl rfl | fail "k_enter: no rule for these arguments"); (case c5W9 => decide); (case kBW9 => exact locs rfl); (case c2W9 => exact rfl); (case c3W9 => exact rfl); (case c4W9 => exact rfl); k_whole; intro g'W9 L'W9 h'W9 FG'W9 F'W9 N'W9 B'W9 X'W9 T'W9; (try dsimp only); (try k_lift B'W9); (try k_fold)))
  k_with "my getMethod ref" => ((k_here; (with_reducible show wpAny _ _ (getMethod (Value.ref _) (Str.ofString "sub") _) _ _ _); k_dflt (refine' meth_sub ?FW9 ?XW9 ?eW9 ?cW9 ?dW9 ?_; (case FW9 => k_asm); (case XW9 => k_asm); (case eW9 => k_is); (case cW9 => exact rfl); (case dW9 => exact rfl); k_whole)))
  k_with "my call builtin:re.Pattern.sub" => ((k_here; k_dflt (first
    | (refine' sub54_K ?FW9 ?XW9 ?NW9 ?xW9 ?_; (case FW9 => k_asm); (case XW9 => k_asm); (case NW9 => k_asm); (case xW9 => first | exact nl_fits (by assumption) | omega); k_whole; intro t'W9 h'W9 tk'W9 F'W9 N'W9; (try k_sweep))
    | (refine' sub49_K ?FW9 ?XW9 ?NW9 ?xW9 ?_; (case FW9 => k_asm); (case XW9 => k_asm); (case NW9 => k_asm); (case xW9 => first | exact nl_fits (by assumption) | omega); k_whole; intro t'W9 h'W9 tk'W9 F'W9 N'W9; (try k_sweep)))))
  k_with "my call ref" => ((k_here; (with_reducible show wpAny _ _ (call (Value.ref 763) [Value.str _ _]) _ _ _); k_dflt (refine' search_K ?FW9 ?XW9 ?NW9 ?xW9 ?jW9 ?uW9 ?_; (case FW9 => k_asm); (case XW9 => k_asm); (case NW9 => k_asm); (case xW9 => omega); (case jW9 => assumption); (case uW9 => assumption); k_whole; intro a'W9 h'W9 F'W9 N'W9; (try k_sweep))))
  k_with "my kt_len" => (with_reducible assumption)
  k_with "my truthy str" => ((k_here; (with_reducible show wpAny _ _ (PySem.truthy (Value.str _ _)) _ _ _); (refine' KXt.truthy_pos (K := 16777216) ?kxtaW9 ?kxtbW9 (Nat.le_refl _) ?_; (case kxtaW9 => with_reducible assumption); (case kxtbW9 => omega)); intro _))
  k_with "my callWith ref" => ((k_here; (with_reducible show wpAny _ _ (callWith _ (Value.ref 763) _ _ _) _ _ _); k_dflt (refine' callWith_763 ?k1W9 ?_; (case k1W9 => k_asm); k_whole)))
  k_with "my call builtin:str.replace" => ((k_here; (with_reducible show wpAny _ _ (call (Value.builtin "str.replace") [Value.str _ _, Value.str (Str.ofString "'") _, Value.str _ _]) _ _ _); k_dflt ((refine' replaceQ ?aW9 ?bW9 ?cW9 ?dW9 ?_; (case aW9 => k_ne); (case bW9 => k_ne); (case cW9 => k_ne); (case dW9 => first | with_reducible assumption | omega); k_whole; intro t'W9 k'W9 len'W9))))
  k_with "my k_memK" => (first | assumption | (refine need_app ?_; k_memK) | (refine need_cons ?_; k_memK))
  k_with "my subscriptTail" => ((k_here; (with_reducible show wpAny _ _ (subscriptTail _ _ (Value.ref (TreeAt.t _)) (Value.int (Nat.cast _) _)) _ _ _); k_dflt ((refine' tree_item ?NW9 ?TW9 ?kW9 ?_; (case NW9 => k_asm); (case TW9 => k_memK); (case kW9 => omega); k_whole; intro hm'W9))))
  k_with "my call ref" => ((k_here; (with_reducible show wpAny _ _ (call (Value.ref 770) [Value.str (TreeAt.lab _ _) _]) _ _ _); k_dflt ((refine' pure_use (qt_lab _ _ ?OW9 _ ?kW9 _) ?BW9 ?FW9 ?XW9 ?NW9 ?TW9 ?kkW9 ?hdW9 ?huW9 ?_; (case OW9 => assumption); (case kW9 => omega); (case BW9 => k_asm); (case FW9 => k_asm); (case XW9 => k_asm); (case NW9 => k_asm); (case TW9 => k_asm); (case kkW9 => first | exact rfl | assumption); (case hdW9 => k_room); (case huW9 => k_units); k_whole; intro r'W9 h'W9 tk'W9 F'W9 N'W9 ht'W9; obtain ⟨t'W9, e'W9⟩ := ht'W9; subst e'W9; (try k_sweep)))))
  k_with "my call ref" => ((k_here; (with_reducible show wpAny _ _ (call (Value.ref 61) [Value.str (Str.mk (List.toArray _)) _]) _ _ _); k_dflt ((refine' pure_use (qd_mk _ _ _ ?xW9) ?BW9 ?FW9 ?XW9 ?NW9 ?TW9 ?kkW9 ?hdW9 ?huW9 ?_; (case xW9 => first | omega | exact size_out (by assumption) (by omega)); (case BW9 => k_asm); (case FW9 => k_asm); (case XW9 => k_asm); (case NW9 => k_asm); (case TW9 => k_asm); (case kkW9 => first | exact rfl | assumption); (case hdW9 => k_room); (case huW9 => k_units); k_whole; intro r'W9 h'W9 tk'W9 F'W9 N'W9 ht'W9; obtain ⟨t'W9, e'W9⟩ := ht'W9; subst e'W9; (try k_sweep)))))
  k_with "my kt_len" => (first | exact len_out (by assumption) (by omega) | exact len_quoted (by assumption) (by omega) | exact TreeAt.Ok.eol (by assumption) _ (by omega) | exact TreeAt.part_len (by assumption) (by omega) (by omega) | ((with_reducible refine' len_qd ?qqW9); (case qqW9 => kt_len)))
  k_with "my call builtin:len" => ((k_here; (with_reducible show wpAny _ _ (call (Value.builtin "len") [Value.ref (TreeAt.t _)]) _ _ _); k_dflt ((refine' tree_len ?NW9 ?TW9 ?_; (case NW9 => k_asm); (case TW9 => k_memK); k_whole; intro t'W9 k'W9))))
  k_with "my call ref" => ((k_here; (with_reducible show wpAny _ _ (call (Value.ref 782) [Value.ref _, Value.int (Nat.cast _) _]) _ _ _); (with_reducible rename ∀ k, _ < k → k < 5 → Outline _ _ k => ihOW9); k_dflt ((refine' reads_use (ihOW9 _ ?aW9 ?bW9 _) ?BW9 ?FW9 ?XW9 ?NW9 ?TW9 ?kkW9 ?hdW9 ?huW9 ?hnW9 ?_; (case aW9 => omega); (case bW9 => omega); (case BW9 => k_asm); (case FW9 => k_asm); (case XW9 => k_asm); (case NW9 => k_asm); (case TW9 => k_asm); (case kkW9 => first | exact rfl | assumption); (case hdW9 => k_room); (case huW9 => k_units); (case hnW9 => k_memK); k_whole; intro r'W9 h'W9 tk'W9 F'W9 N'W9 ht'W9; obtain ⟨t'W9, e'W9⟩ := ht'W9; subst e'W9; (try k_sweep)))))
  k_with "my inplaceOp Add str str" => ((k_here; (with_reducible show wpAny _ _ (inplaceOp Operator.Add (Value.str _ _) (Value.str _ _)) _ _ _); (refine' iaddK ?kxaaW9 ?kxabW9 ?kxacW9 ?_; (case kxaaW9 => kt_len); (case kxabW9 => kt_len); (case kxacW9 => exact Nat.le_of_ble_eq_true rfl)); intro _ _ _))
  k_with "my k_enter" => ((kp_kind "both"; (fail_if_success k_inElt); (refine' kp_both ?k1W9 ?k2W9 ?k3W9 ?k4W9 ?k5W9 ?kAW9 ?kFW9 ?kKW9 ?k6W9 ?k7W9 ?k8W9 ?kVW9 ?kXW9 ?kQW9 ?kMW9 ?kNW9 ?kDW9 ?kRW9 ?kPW9 ?kSW9 ?kTW9 ?kBW9 ?_ ?c2W9 ?c3W9 ?c4W9 ?c5W9; (case kAW9 => exact rfl); (case kFW9 => exact rfl); (case kKW9 => first | exact rfl | assumption); (case k1W9 => k_asm); (case k2W9 => k_asm); (case k3W9 => k_asm); (case k4W9 => k_asm); (case k5W9 => k_asm); (case k6W9 => k_is); (case k7W9 => k_is); (case k8W9 => k_room); (case kVW9 => kp_lit); (case kXW9 => kp_lit); (case kQW9 => exact rfl); (case kMW9 => exact rfl); (case kNW9 => exact rfl); (case kDW9 => kp_flats); (case kRW9 => exact rfl); (case kPW9 => exact rfl); (case kSW9 => exact fun _ => rfl); (case kTW9 => exact fun _ _ => rfl); (case kBW9 => exact fun _ _ => locs rfl); (case c5W9 => decide); (case c2W9 => exact rfl); (case c3W9 => exact rfl); (case c4W9 => exact rfl); k_whole; intro C'W9 D'W9 o'W9 g'W9 L'W9 h'W9 tk'W9 l1W9 l2W9 lo'W9 hs'W9 fs'W9 FG'W9 F'W9 N'W9 B'W9 X'W9 T'W9; (try k_lt l1W9); (try k_lt2 l2W9); (try dsimp only); (try k_lift B'W9); (try k_fold))))
  k_with "my call builtin:object.__new__" => ((k_here; k_dflt ((refine' new623_K ?FW9 ?XW9 ?NW9 ?_; (case FW9 => k_asm); (case XW9 => k_asm); (case NW9 => k_asm); k_whole; intro x'W9 d'W9 h'W9 F'W9 N'W9 l1W9 l2W9; (try k_lt l1W9); (try k_lt2 l2W9); (try k_sweep)))))
  k_with "my k_all" => (first | exact allNe (by assumption) | exact allNe' (by assumption) | exact allNeT (by assumption) (by first | assumption | omega))
  trivial

set_option maxHeartbeats 8000000 in
theorem out_step (w : World) (T : TreeAt) (O : T.Ok) (node : Nat) (h5 : node < 5) (ih : ∀ k, node < k → k < 5 → Outline w T k) : Outline w T node := by
  w_strict (
  unfold Outline Reads AtAny
  k_fill
  intro ntk dp un p loose mean mg mb news gd cn cs a ccd cl outer A₀ base h₀ L m s hdp hun B F X N T' hk hT Q E hret
  refine wpAny_call ?_
  (k_dflt k_enter)
  k_with "pyIter ref" => (rename Fr _ _ _ _ => lF'; rename News _ _ _ _ => lN'; rename IsRange _ _ _ _ _ _ _ _ => rgX; with_unfolding_all refine' range_val (y := Str.ofString "text") (n := 4 - node) (fun i t => Value.str (mk (T.part T.out node i)) t) (node + 1) (by omega) (by rfl) rgX (small_one (by omega) (by omega) (by omega) (by omega)) ((rangeSize_nat _ _).trans (by omega)) lF' lN' ?hy (fun i' t' ta' h' tk' own' hi' hoff' F' N' => ?_) (fun u' t' h' tk' F' N' => ?_); (case hy => exact congrArg (fun z => some (Value.str z _)) (base_eq T node)); all_goals (clear lF' lN'; (try k_fold)))
  k_steps
  all_goals first
    | exact hret _ _ _ (by k_asm) (by k_asm) ⟨_, by rw [T.out_eq h5]⟩
    | (refine InvEndN.intro (by assumption) (by assumption) ⟨rfl, ?_, by k_same2⟩ rfl (fun p hp => List.mem_append.mpr (.inl hp)) (fun p hp => List.mem_append.mpr (.inr hp));
       first
       | exact ⟨_, congrArg (fun z => some (Value.str z _)) (kid_yes (by assumption) _)⟩
       | exact ⟨_, congrArg (fun z => some (Value.str z _)) (kid_no (by assumption) _)⟩)
  )
theorem outline_all (w : World) (T : TreeAt) (O : T.Ok) : ∀ n node, 5 - node ≤ n → node < 5 → Outline w T node
  | 0, node, h, h5 => absurd h5 (by omega)
  | n + 1, node, h, h5 => out_step w T O node h5 fun k h1 h2 => outline_all w T O n k (by omega) h2
theorem outline_ok (w : World) (T : TreeAt) (O : T.Ok) : Outline w T 0 := outline_all w T O 5 0 (by decide) (by decide)
end OyMine
end
section
open PySem PySem.W PyProof.Rows PySem.Calls PySem.Builtin PySem.Builtin.ObjectAttr
set_option maxRecDepth 100000
set_option maxHeartbeats 4000000
set_option genInjectivity false
set_option genSizeOf false
set_option genSizeOfSpec false
namespace OyMine
theorem at_use {w : World} {D U dp un : Nat} {G : (A : Around) → (h₀ : Heap) → (L : Addr) → (m : Str → Option Value) → (news : List (Addr × Obj)) → (s : Shared) → Prop} {p : Program} {loose : List Str} {mean : ExcName → Option Value} {mg mb : Str → Option Value} {news : List (Addr × Obj)} {gd : Option (List Code)} {cn : Str} {cs : Scope} {L a : Addr} {ccd : Value} {cl : List (Str × Addr)} {outer : List Env} {A₀ : Around} {base h₀ : Heap} {m : Str → Option Value} {s : Shared}
    (C : AtAny w D U G) (hd : dp ≤ D) (hu : un ≤ U) (B : Below A₀ base outer h₀) (F : Fr h₀ L s.heap m) (X : (OyMine.hd.heap_1 w.params).In h₀) (N : News h₀ L s.heap news) (T : Top p loose mean mg mb h₀) (hk : cs.kind = .function) : G (ktrTop dp un gd cn cs L a ccd cl outer) h₀ L m news s :=
  C _ _ _ _ _ _ _ _ _ _ _ _ _ _ _ _ _ _ _ _ _ hd hu B F X N T hk
theorem allNe {l : List (Addr × Obj)} {d : Addr} (h : ∀ p ∈ l, p.1 < d) : ∀ p ∈ l, p.1 ≠ d := fun p hp => Nat.ne_of_lt (h p hp)
theorem allNe' {l : List (Addr × Obj)} {d : Addr} (h : AllLt d l) : ∀ p ∈ l, p.1 ≠ d := fun p hp => Nat.ne_of_lt (ktn_ltOf h p hp)
theorem allNeT {l : List (Addr × Obj)} {d e : Addr} (h : ∀ p ∈ l, p.1 < d) (he : @LT.lt Nat _ d e) : ∀ p ∈ l, p.1 ≠ e := fun p hp => Nat.ne_of_lt (Nat.lt_trans (h p hp) he)
noncomputable def clsOk (o : Option Obj) : Bool := match o with
  | some ⟨_, _, .cls cd, _⟩ => !cd.abstract && !cd.hasDel && !cd.mro.isEmpty
  | _ => false
section
variable {w : World} {A : Around} {h : Heap} {g : Array GenState} {d : Drawn} {t : Nat} {os : OsState}
theorem cls623 (w : World) : clsOk ((hd.heap_1 w.params).lookup 623) = true := by kernel_rfl
theorem new623 {Q E : Value → Shared → Prop} (X : (hd.heap_1 w.params).In h) (hq : Q (.ref (h.objs.size + 1)) ⟨(h.push emptyDict).push (instObj 623 h.objs.size), g, d, t, os⟩) :
    wpAny (model PySem.Challenge.rw_oy0315_01.row.prog w) A (call (.builtin "object.__new__") [.ref 623]) Q E ⟨h, g, d, t, os⟩ := by
  have F := PySem.F.objNew
  refine wpAny_call (codeAny_call_builtin_code (Code.quiet_builtin _ F.quiet) ?_)
  have chk : Looks (model PySem.Challenge.rw_oy0315_01.row.prog w) h (checkBuiltinCall "object.__new__" ⟨[.ref 623], []⟩) () := Looks.of_peek X (by kernel_rfl)
  refine chk.here ?_
  refine codeAny_builtin F.entry ?_
  unfold Builtin.«object.__new__»
  have c1 := cls623 w
  unfold clsOk at c1
  split at c1
  · rename_i oc od cd sl ho
    simp only [Bool.and_eq_true, Bool.not_eq_true'] at c1
    obtain ⟨⟨e1, e2⟩, e4⟩ := c1
    have hC := X _ _ ho
    have typ : Looks (model PySem.Challenge.rw_oy0315_01.row.prog w) h (isInstance (.ref 623) (.type "type")) true := Looks.of_peek X (by kernel_rfl)
    have mh : Looks (model PySem.Challenge.rw_oy0315_01.row.prog w) h (Bind.madeHere "object.__new__" (.ref 623)) () := Looks.of_peek X (by kernel_rfl)
    have fin : ∀ A', wpAny (model PySem.Challenge.rw_oy0315_01.row.prog w) A' (do
        let d ← if typeHasDict (.ref 623) then some <$> alloc { cls := .type "dict", data := .dict #[] } else pure none
        ret (← newObj (.ref 623) .plain d)) (fun fin s' => match fin with | .done f => (match (.ok f : Result) with | .ok (.ret v) => Q v s' | .ok _ => False | .error e => E e s') | .again c' => c'.quiet = true ∧ codeAny (model PySem.Challenge.rw_oy0315_01.row.prog w) A c' (fun r s' => match r with | .ok (.ret v) => Q v s' | .ok _ => False | .error e => E e s') s') (fun e s' => E e s') ⟨h, g, d, t, os⟩ := by
      intro A'
      show wpAny _ _ ((alloc emptyDict >>= fun x => pure (some x)) >>= _) _ _ _
      refine wpAny_bind (wpAny_bind (wpAny_alloc (wpAny_pure (wpAny_bind ?_))))
      show wpAny _ _ (newObjAsIs _ _ _) _ _ _
      unfold newObjAsIs classHasDel
      refine wpAny_bind (wpAny_alloc (wpAny_bind (wpAny_bind (wpAny_load (Heap.get?_push_of_some _ (Heap.get?_push_of_some _ hC)) (wpAny_pure ?_)))))
      rw [e2]
      refine wpAny_pure (wpAny_pure ?_)
      show Q _ _
      rw [Heap.size_push]
      exact hq
    repeat (first | simp only [e1, Bool.false_eq_true, if_false] | exact fin _ | lk)
  · cases c1
variable {s : Shared} {Q E : Value → Shared → Prop} {v : Value}
theorem make623 {h₀ : Heap} {L : Addr} {m : Str → Option Value} (F : Fr h₀ L s.heap m) (X₀ : (hd.heap_1 w.params).In h₀)
    (hq : ∀ tk, wpAny (model PySem.Challenge.rw_oy0315_01.row.prog w) (A.under (.builtin "type.__call__" ⟨[.ref 623, v], []⟩)) (call (.ref 116) [.ref 623, v]) (fun o s1 => ∃ x dx, o = .ref x ∧ (hd.heap_1 w.params).In s1.heap ∧ s1.heap.get? x = some (instObj 623 dx) ∧
      codeAny (model PySem.Challenge.rw_oy0315_01.row.prog w) (A.under (.builtin "type.__call__" ⟨[.ref 623, v], []⟩)) (.call (.ref 393) ⟨[.ref x, v], []⟩) (InitBack x fun r s' => match r with | .ok (.ret v) => Q v s' | .ok _ => False | .error e => E e s') s1) E { s with toks := tk }) :
    wpAny (model PySem.Challenge.rw_oy0315_01.row.prog w) A (call (.ref 623) [v]) Q E s := by
  have X := X₀.keeps F.keep
  obtain ⟨h, g, d, t, os⟩ := s
  have c1 := cls623 w
  unfold clsOk at c1
  split at c1
  · rename_i oc od cd sl ho
    simp only [Bool.and_eq_true, Bool.not_eq_true'] at c1
    obtain ⟨⟨e1, e2⟩, e4⟩ := c1
    have hC := X _ _ ho
    have typ : Looks (model PySem.Challenge.rw_oy0315_01.row.prog w) h (isInstance (.ref 623) (.type "type")) true := Looks.of_peek X (by kernel_rfl)
    have clc : Looks (model PySem.Challenge.rw_oy0315_01.row.prog w) h (specialOf (.ref 623) "__call__") (some (.builtin "type.__call__")) := Looks.of_peek X (by kernel_rfl)
    have mby : Looks (model PySem.Challenge.rw_oy0315_01.row.prog w) h (Bind.madeBy (.ref 623)) none := Looks.of_peek X (by kernel_rfl)

    refine wpAny_call (codeAny_of_tree ?_)
    show wpAny _ _ (callAny (.ref 623) _) _ _ _
    refine nd_load hC ?_
    show wpAny _ _ (callAny.viaDunder (.ref 623) _) _ _ _
    unfold callAny.viaDunder
    refine wpAny_bind (clc.at ?_)
    dsimp only
    rw [PySem.tc_bind]
    refine wpAny_bind (wpAny_pure (wpAny_bind (wpAny_pure ?_)))
    refine wpAny_pure (a := Fin.again (.call (.builtin "type.__call__") ⟨[.ref 623, v], []⟩)) (And.intro rfl ?_)
    refine codeAny_call_builtin_at (Code.quiet_builtin _ (by decide +kernel)) entry_typeCall (check_slot tc_kind tc_split typ (tc_args _ _ _) ?_)
    unfold Builtin.«type.__call__»
    have hm : Looks (model PySem.Challenge.rw_oy0315_01.row.prog w) h (mroOf (.ref 623)) cd.mro := ((Looks.ld (part := none) hC).andThen .now).andThen .now
    repeat (first | simp only [e4, Bool.false_eq_true, if_false] | ((fail_if_success (with_reducible show wpAny _ _ (getAttr _ _ _) _ _ _)); lk))
    refine cls_sm (mc := .type "type") (p := 120) (f := .ref 116) (rest := []) F X₀ (by kernel_rfl) (by kernel_rfl) (by kernel_rfl) (by kernel_rfl) rfl ?_
    refine wpAny_bind (wpAny_holding (wpAny_mono (hq _) (fun o s1 ho => ?_) fun _ _ e => e))
    obtain ⟨x, dx, rfl, X1, hx, hinit⟩ := ho
    have t1 : Looks (model PySem.Challenge.rw_oy0315_01.row.prog w) s1.heap (typeOf (.ref x)) (.ref 623) := (Looks.ld hx).andThen .now
    have s1' : Looks (model PySem.Challenge.rw_oy0315_01.row.prog w) s1.heap (isSubtype (.ref 623) (.ref 623)) true := Looks.of_peek X1 (by kernel_rfl)
    have i1 : Looks (model PySem.Challenge.rw_oy0315_01.row.prog w) s1.heap (typeLookup (.ref 623) "__init__") (some (.ref 393)) := Looks.of_peek X1 (by kernel_rfl)
    have b1 : Looks (model PySem.Challenge.rw_oy0315_01.row.prog w) s1.heap (bindSpecial (.ref 393) (.ref x)) (.ref 393, [.ref x]) := bind_fn X1 _ (by kernel_rfl)
    unfold isInstance callSpecial? specialOf
    obtain ⟨hh1, g1, d1, tk1, os1⟩ := s1
    repeat (first | with_reducible refine wpAny_call ?_ | lk)
    refine codeAny_mono hinit fun r s' z => ?_
    rcases r with e | (v | _ | _ | _) <;> first | exact z | exact z.elim | skip
    obtain ⟨rfl, z⟩ := z
    exact wpAny_pure (wpAny_pure z)
  · cases c1
theorem new623_K {h₀ : Heap} {L : Addr} {m : Str → Option Value} {news : List (Addr × Obj)} (F : Fr h₀ L s.heap m) (X₀ : (hd.heap_1 w.params).In h₀) (N : News h₀ L s.heap news)
    (hq : ∀ x dx h', Fr h₀ L h' m → News h₀ L h' ((x, instObj 623 dx) :: (dx, dictOf [] 0) :: news) → (∀ p ∈ news, p.1 < dx) → dx < x → Q (.ref x) { s with heap := h' }) :
    wpAny (model PySem.Challenge.rw_oy0315_01.row.prog w) A (call (.builtin "object.__new__") [.ref 623]) Q E s := by
  have X := X₀.keeps F.keep
  obtain ⟨h, g, d, t, os⟩ := s
  refine new623 X (hq _ h.objs.size _ ((F.push _).push _) ?_ (fun p hp => Heap.lt_size (N p hp).1) (Nat.lt_succ_self _))
  have := (N.push F emptyDict).push (F.push _) (instObj 623 h.objs.size)
  rwa [Heap.size_push] at this
end
/-- the fields of a StringIO -/
noncomputable abbrev sioDict (w : World) (k1 k2 k3 : Tok) (buf pos : Value) : Obj :=
  dictOf [⟨PyData.keyHash w.params "_StringIO__newline", .str "_StringIO__newline" k1, .str "\n" 840⟩, ⟨PyData.keyHash w.params "_StringIO__buf", .str "_StringIO__buf" k2, buf⟩, ⟨PyData.keyHash w.params "_StringIO__pos", .str "_StringIO__pos" k3, pos⟩] 3
end OyMine
end
section
open PySem PySem.W PyProof.Rows PySem.Builtin PySem.Builtin.Re
set_option maxRecDepth 100000
set_option genInjectivity false
set_option genSizeOf false
set_option genSizeOfSpec false
namespace OyMine
theorem words_SioNew_0 : True := by
  w_top off
  k_with_none
  k_with "my omega" => (first
    | with_reducible assumption
    | with_reducible exact Nat.ne_of_lt (by assumption)
    | with_reducible exact Nat.ne_of_gt (by assumption)
    | decide
    | with_reducible exact Nat.le_refl _
    | with_reducible exact Nat.zero_le _
    | with_reducible exact Nat.le_add_right _ _
    | with_reducible exact Nat.le_add_left _ _
    | with_reducible exact Nat.lt_succ_self _
    | with_reducible exact Nat.le_succ _
    | with_reducible exact Nat.succ_pos _
    | with_reducible exact Nat.zero_add _
    | with_reducible exact q4
    | with_reducible exact q8
    | with_reducible exact Nat.le_of_lt (by assumption)
    | with_reducible exact Nat.le_of_succ_le (by assumption)
    | with_reducible exact Nat.le_of_succ_le_succ (by assumption)
    | with_reducible exact Nat.not_lt.mp (by assumption)
    | with_reducible exact Nat.lt_succ_of_le (by assumption)
    | with_reducible exact Nat.le_succ_of_le (by assumption)
    | with_reducible exact Nat.succ_le_of_lt (by assumption)
    | with_reducible exact q1 (by assumption)
    | with_reducible exact q2 (by assumption)
    | with_reducible exact q3 (by assumption)
    | with_reducible exact q5 (by assumption)
    | with_reducible exact q7 (by assumption)
    | with_reducible exact q6 (by assumption) (by assumption)
    | with_reducible exact absurd (by assumption) (Nat.not_lt.mpr (by assumption))
    | (with_reducible refine room_le (by assumption) ?_; with_unfolding_all rfl)
    | (with_reducible refine room_lt (by assumption) ?_; with_unfolding_all rfl)
    | (with_reducible refine room_le0 (by assumption) ?_; with_unfolding_all rfl)
    | ((fail_if_success (with_reducible show _ ≠ _)); (rename _ ∧ _ => cW9; clear cW9); (repeat (rename _ ∧ _ => cW9; clear cW9)); omega)
    | fail "no")
  k_with "my execs cons" => (k_here; refine wpAny_execs_cons ?_; k_fold)
  trivial
theorem words_SioNew_1 : True := by
  k_with "my k_room" => (first | exact Nat.le_of_ble_eq_true rfl | ((try simp only [duk, depth_under_make, depth_under_kw, depth_in1, depth_deeper, depth_caller, recursionLimit]); (try dsimp only [ktrTop]); (try simp only [recursionLimit]); omega))
  k_with "my ktr_room" => (k_room)
  k_with "my k_units" => (first | exact Nat.le_of_ble_eq_true rfl | ((have hcL9W9 := cLine_is); (try simp only [uuk, units_in1, units_deeper, Around.mark_units, units_caller]); (try dsimp only [ktrTop]); omega))
  k_with "my units_room" => (first | exact Nat.le_of_ble_eq_true rfl | ((have hcL9W9 := cLine_is); (try simp only [uuk, units_in1, units_deeper, Around.mark_units, units_caller]); (try dsimp only [ktrTop]); omega))
  k_with "my k_enter" => ((refine' code_def ?k1W9 ?k2W9 ?k3W9 ?k4W9 ?k5W9 ?kAW9 ?kFW9 ?kKW9 ?k6W9 ?k7W9 ?k8W9 ?k9W9 ?kBW9 ?_ ?c2W9 ?c3W9 ?c4W9 ?c5W9; (case kAW9 => exact rfl); (case kFW9 => exact rfl); (case kKW9 => first | exact rfl | assumption); (case k1W9 => k_asm); (case k2W9 => k_asm); (case k3W9 => k_asm); (case k4W9 => k_asm); (case k5W9 => k_asm); (case k6W9 => k_is); (case k7W9 => k_is); (case k8W9 => k_room); (case k9W9 => first | exact BindsTo.of_eq rfl | exact binds_K (by k_in) rfl (by k_is) rfl rfl rfl | fail "k_enter: no rule for these arguments"); (case c5W9 => decide); (case kBW9 => exact locs rfl); (case c2W9 => exact rfl); (case c3W9 => exact rfl); (case c4W9 => exact rfl); k_whole; intro g'W9 L'W9 h'W9 FG'W9 F'W9 N'W9 B'W9 X'W9 T'W9; (try dsimp only); (try k_lift B'W9); (try k_fold)))
  k_with "my getMethod ref" => ((k_here; (with_reducible show wpAny _ _ (getMethod (Value.ref _) (Str.ofString "sub") _) _ _ _); k_dflt (refine' meth_sub ?FW9 ?XW9 ?eW9 ?cW9 ?dW9 ?_; (case FW9 => k_asm); (case XW9 => k_asm); (case eW9 => k_is); (case cW9 => exact rfl); (case dW9 => exact rfl); k_whole)))
  k_with "my call builtin:re.Pattern.sub" => ((k_here; k_dflt (first
    | (refine' sub54_K ?FW9 ?XW9 ?NW9 ?xW9 ?_; (case FW9 => k_asm); (case XW9 => k_asm); (case NW9 => k_asm); (case xW9 => first | exact nl_fits (by assumption) | omega); k_whole; intro t'W9 h'W9 tk'W9 F'W9 N'W9; (try k_sweep))
    | (refine' sub49_K ?FW9 ?XW9 ?NW9 ?xW9 ?_; (case FW9 => k_asm); (case XW9 => k_asm); (case NW9 => k_asm); (case xW9 => first | exact nl_fits (by assumption) | omega); k_whole; intro t'W9 h'W9 tk'W9 F'W9 N'W9; (try k_sweep)))))
  k_with "my call ref" => ((k_here; (with_reducible show wpAny _ _ (call (Value.ref 763) [Value.str _ _]) _ _ _); k_dflt (refine' search_K ?FW9 ?XW9 ?NW9 ?xW9 ?jW9 ?uW9 ?_; (case FW9 => k_asm); (case XW9 => k_asm); (case NW9 => k_asm); (case xW9 => omega); (case jW9 => assumption); (case uW9 => assumption); k_whole; intro a'W9 h'W9 F'W9 N'W9; (try k_sweep))))
  k_with "my kt_len" => (with_reducible assumption)
  k_with "my truthy str" => ((k_here; (with_reducible show wpAny _ _ (PySem.truthy (Value.str _ _)) _ _ _); (refine' KXt.truthy_pos (K := 16777216) ?kxtaW9 ?kxtbW9 (Nat.le_refl _) ?_; (case kxtaW9 => with_reducible assumption); (case kxtbW9 => omega)); intro _))
  k_with "my callWith ref" => ((k_here; (with_reducible show wpAny _ _ (callWith _ (Value.ref 763) _ _ _) _ _ _); k_dflt (refine' callWith_763 ?k1W9 ?_; (case k1W9 => k_asm); k_whole)))
  k_with "my call builtin:str.replace" => ((k_here; (with_reducible show wpAny _ _ (call (Value.builtin "str.replace") [Value.str _ _, Value.str (Str.ofString "'") _, Value.str _ _]) _ _ _); k_dflt ((refine' replaceQ ?aW9 ?bW9 ?cW9 ?dW9 ?_; (case aW9 => k_ne); (case bW9 => k_ne); (case cW9 => k_ne); (case dW9 => first | with_reducible assumption | omega); k_whole; intro t'W9 k'W9 len'W9))))
  k_with "my k_memK" => (first | assumption | (refine need_app ?_; k_memK) | (refine need_cons ?_; k_memK))
  k_with "my subscriptTail" => ((k_here; (with_reducible show wpAny _ _ (subscriptTail _ _ (Value.ref (TreeAt.t _)) (Value.int (Nat.cast _) _)) _ _ _); k_dflt ((refine' tree_item ?NW9 ?TW9 ?kW9 ?_; (case NW9 => k_asm); (case TW9 => k_memK); (case kW9 => omega); k_whole; intro hm'W9))))
  k_with "my call ref" => ((k_here; (with_reducible show wpAny _ _ (call (Value.ref 770) [Value.str (TreeAt.lab _ _) _]) _ _ _); k_dflt ((refine' pure_use (qt_lab _ _ ?OW9 _ ?kW9 _) ?BW9 ?FW9 ?XW9 ?NW9 ?TW9 ?kkW9 ?hdW9 ?huW9 ?_; (case OW9 => assumption); (case kW9 => omega); (case BW9 => k_asm); (case FW9 => k_asm); (case XW9 => k_asm); (case NW9 => k_asm); (case TW9 => k_asm); (case kkW9 => first | exact rfl | assumption); (case hdW9 => k_room); (case huW9 => k_units); k_whole; intro r'W9 h'W9 tk'W9 F'W9 N'W9 ht'W9; obtain ⟨t'W9, e'W9⟩ := ht'W9; subst e'W9; (try k_sweep)))))
  k_with "my call ref" => ((k_here; (with_reducible show wpAny _ _ (call (Value.ref 61) [Value.str (Str.mk (List.toArray _)) _]) _ _ _); k_dflt ((refine' pure_use (qd_mk _ _ _ ?xW9) ?BW9 ?FW9 ?XW9 ?NW9 ?TW9 ?kkW9 ?hdW9 ?huW9 ?_; (case xW9 => first | omega | exact size_out (by assumption) (by omega)); (case BW9 => k_asm); (case FW9 => k_asm); (case XW9 => k_asm); (case NW9 => k_asm); (case TW9 => k_asm); (case kkW9 => first | exact rfl | assumption); (case hdW9 => k_room); (case huW9 => k_units); k_whole; intro r'W9 h'W9 tk'W9 F'W9 N'W9 ht'W9; obtain ⟨t'W9, e'W9⟩ := ht'W9; subst e'W9; (try k_sweep)))))
  k_with "my kt_len" => (first | exact len_out (by assumption) (by omega) | exact len_quoted (by assumption) (by omega) | exact TreeAt.Ok.eol (by assumption) _ (by omega) | exact TreeAt.part_len (by assumption) (by omega) (by omega) | ((with_reducible refine' len_qd ?qqW9); (case qqW9 => kt_len)))
  k_with "my call builtin:len" => ((k_here; (with_reducible show wpAny _ _ (call (Value.builtin "len") [Value.ref (TreeAt.t _)]) _ _ _); k_dflt ((refine' tree_len ?NW9 ?TW9 ?_; (case NW9 => k_asm); (case TW9 => k_memK); k_whole; intro t'W9 k'W9))))
  k_with "my call ref" => ((k_here; (with_reducible show wpAny _ _ (call (Value.ref 782) [Value.ref _, Value.int (Nat.cast _) _]) _ _ _); (with_reducible rename ∀ k, _ < k → k < 5 → Outline _ _ k => ihOW9); k_dflt ((refine' reads_use (ihOW9 _ ?aW9 ?bW9 _) ?BW9 ?FW9 ?XW9 ?NW9 ?TW9 ?kkW9 ?hdW9 ?huW9 ?hnW9 ?_; (case aW9 => omega); (case bW9 => omega); (case BW9 => k_asm); (case FW9 => k_asm); (case XW9 => k_asm); (case NW9 => k_asm); (case TW9 => k_asm); (case kkW9 => first | exact rfl | assumption); (case hdW9 => k_room); (case huW9 => k_units); (case hnW9 => k_memK); k_whole; intro r'W9 h'W9 tk'W9 F'W9 N'W9 ht'W9; obtain ⟨t'W9, e'W9⟩ := ht'W9; subst e'W9; (try k_sweep)))))
  k_with "my inplaceOp Add str str" => ((k_here; (with_reducible show wpAny _ _ (inplaceOp Operator.Add (Value.str _ _) (Value.str _ _)) _ _ _); (refine' iaddK ?kxaaW9 ?kxabW9 ?kxacW9 ?_; (case kxaaW9 => kt_len); (case kxabW9 => kt_len); (case kxacW9 => exact Nat.le_of_ble_eq_true rfl)); intro _ _ _))
  k_with "my k_enter" => ((kp_kind "both"; (fail_if_success k_inElt); (refine' kp_both ?k1W9 ?k2W9 ?k3W9 ?k4W9 ?k5W9 ?kAW9 ?kFW9 ?kKW9 ?k6W9 ?k7W9 ?k8W9 ?kVW9 ?kXW9 ?kQW9 ?kMW9 ?kNW9 ?kDW9 ?kRW9 ?kPW9 ?kSW9 ?kTW9 ?kBW9 ?_ ?c2W9 ?c3W9 ?c4W9 ?c5W9; (case kAW9 => exact rfl); (case kFW9 => exact rfl); (case kKW9 => first | exact rfl | assumption); (case k1W9 => k_asm); (case k2W9 => k_asm); (case k3W9 => k_asm); (case k4W9 => k_asm); (case k5W9 => k_asm); (case k6W9 => k_is); (case k7W9 => k_is); (case k8W9 => k_room); (case kVW9 => kp_lit); (case kXW9 => kp_lit); (case kQW9 => exact rfl); (case kMW9 => exact rfl); (case kNW9 => exact rfl); (case kDW9 => kp_flats); (case kRW9 => exact rfl); (case kPW9 => exact rfl); (case kSW9 => exact fun _ => rfl); (case kTW9 => exact fun _ _ => rfl); (case kBW9 => exact fun _ _ => locs rfl); (case c5W9 => decide); (case c2W9 => exact rfl); (case c3W9 => exact rfl); (case c4W9 => exact rfl); k_whole; intro C'W9 D'W9 o'W9 g'W9 L'W9 h'W9 tk'W9 l1W9 l2W9 lo'W9 hs'W9 fs'W9 FG'W9 F'W9 N'W9 B'W9 X'W9 T'W9; (try k_lt l1W9); (try k_lt2 l2W9); (try dsimp only); (try k_lift B'W9); (try k_fold))))
  k_with "my call builtin:object.__new__" => ((k_here; k_dflt ((refine' new623_K ?FW9 ?XW9 ?NW9 ?_; (case FW9 => k_asm); (case XW9 => k_asm); (case NW9 => k_asm); k_whole; intro x'W9 d'W9 h'W9 F'W9 N'W9 l1W9 l2W9; (try k_lt l1W9); (try k_lt2 l2W9); (try k_sweep)))))
  k_with "my k_all" => (first | exact allNe (by assumption) | exact allNe' (by assumption) | exact allNeT (by assumption) (by first | assumption | omega))
  trivial

set_option maxHeartbeats 8000000 in
theorem new_sio (w : World) (x : Str) (tx : Tok) : AtAny w 560 5600 fun A h₀ L m news s => ∀ Q E : Value → Shared → Prop, (∀ x dx h' tk', Fr h₀ L h' m → News h₀ L h' ((x, instObj 623 dx) :: (dx, dictOf [] 0) :: news) → (∀ p ∈ news, p.1 < dx) → dx < x → Q (.ref x) { s with heap := h', toks := tk' }) → wpAny (model PySem.Challenge.rw_oy0315_01.row.prog w) A (call (.ref 116) [.ref 623, .str x tx]) Q E s := by
  w_strict (
  unfold AtAny
  k_fill
  intro dp un p loose mean mg mb news gd cn cs a ccd cl outer A₀ base h₀ L m s hdp hun B F X N T hk Q E hret
  k_steps
  all_goals (
    rename _ ∧ _ ∧ AllLt _ _ => l9
    refine hret _ _ _ _ (by k_asm) (kst_newsOf (by k_asm) fun q hq => ?_) (ktn_ltOf l9.2.2) (by k_asm)
    rcases List.mem_cons.mp hq with rfl | hq
    · exact .head _
    rcases List.mem_cons.mp hq with rfl | hq
    · exact .tail _ (.head _)
    exact .tail _ (.tail _ (.tail _ (.tail _ hq))))
  )
end OyMine
end
section
open PySem PySem.W PyProof.Rows PySem.Builtin PySem.Builtin.Re
set_option maxRecDepth 100000
set_option genInjectivity false
set_option genSizeOf false
set_option genSizeOfSpec false
namespace OyMine
theorem words_SioInit_0 : True := by
  w_top off
  k_with_none
  k_with "my omega" => (first
    | with_reducible assumption
    | with_reducible exact Nat.ne_of_lt (by assumption)
    | with_reducible exact Nat.ne_of_gt (by assumption)
    | decide
    | with_reducible exact Nat.le_refl _
    | with_reducible exact Nat.zero_le _
    | with_reducible exact Nat.le_add_right _ _
    | with_reducible exact Nat.le_add_left _ _
    | with_reducible exact Nat.lt_succ_self _
    | with_reducible exact Nat.le_succ _
    | with_reducible exact Nat.succ_pos _
    | with_reducible exact Nat.zero_add _
    | with_reducible exact q4
    | with_reducible exact q8
    | with_reducible exact Nat.le_of_lt (by assumption)
    | with_reducible exact Nat.le_of_succ_le (by assumption)
    | with_reducible exact Nat.le_of_succ_le_succ (by assumption)
    | with_reducible exact Nat.not_lt.mp (by assumption)
    | with_reducible exact Nat.lt_succ_of_le (by assumption)
    | with_reducible exact Nat.le_succ_of_le (by assumption)
    | with_reducible exact Nat.succ_le_of_lt (by assumption)
    | with_reducible exact q1 (by assumption)
    | with_reducible exact q2 (by assumption)
    | with_reducible exact q3 (by assumption)
    | with_reducible exact q5 (by assumption)
    | with_reducible exact q7 (by assumption)
    | with_reducible exact q6 (by assumption) (by assumption)
    | with_reducible exact absurd (by assumption) (Nat.not_lt.mpr (by assumption))
    | (with_reducible refine room_le (by assumption) ?_; with_unfolding_all rfl)
    | (with_reducible refine room_lt (by assumption) ?_; with_unfolding_all rfl)
    | (with_reducible refine room_le0 (by assumption) ?_; with_unfolding_all rfl)
    | ((fail_if_success (with_reducible show _ ≠ _)); (rename _ ∧ _ => cW9; clear cW9); (repeat (rename _ ∧ _ => cW9; clear cW9)); omega)
    | fail "no")
  k_with "my execs cons" => (k_here; refine wpAny_execs_cons ?_; k_fold)
  trivial
theorem words_SioInit_1 : True := by
  k_with "my k_room" => (first | exact Nat.le_of_ble_eq_true rfl | ((try simp only [duk, depth_under_make, depth_under_kw, depth_in1, depth_deeper, depth_caller, recursionLimit]); (try dsimp only [ktrTop]); (try simp only [recursionLimit]); omega))
  k_with "my ktr_room" => (k_room)
  k_with "my k_units" => (first | exact Nat.le_of_ble_eq_true rfl | ((have hcL9W9 := cLine_is); (try simp only [uuk, units_in1, units_deeper, Around.mark_units, units_caller]); (try dsimp only [ktrTop]); omega))
  k_with "my units_room" => (first | exact Nat.le_of_ble_eq_true rfl | ((have hcL9W9 := cLine_is); (try simp only [uuk, units_in1, units_deeper, Around.mark_units, units_caller]); (try dsimp only [ktrTop]); omega))
  k_with "my k_enter" => ((refine' code_def ?k1W9 ?k2W9 ?k3W9 ?k4W9 ?k5W9 ?kAW9 ?kFW9 ?kKW9 ?k6W9 ?k7W9 ?k8W9 ?k9W9 ?kBW9 ?_ ?c2W9 ?c3W9 ?c4W9 ?c5W9; (case kAW9 => exact rfl); (case kFW9 => exact rfl); (case kKW9 => first | exact rfl | assumption); (case k1W9 => k_asm); (case k2W9 => k_asm); (case k3W9 => k_asm); (case k4W9 => k_asm); (case k5W9 => k_asm); (case k6W9 => k_is); (case k7W9 => k_is); (case k8W9 => k_room); (case k9W9 => first | exact BindsTo.of_eq rfl | exact binds_K (by k_in) rfl (by k_is) rfl rfl rfl | fail "k_enter: no rule for these arguments"); (case c5W9 => decide); (case kBW9 => exact locs rfl); (case c2W9 => exact rfl); (case c3W9 => exact rfl); (case c4W9 => exact rfl); k_whole; intro g'W9 L'W9 h'W9 FG'W9 F'W9 N'W9 B'W9 X'W9 T'W9; (try dsimp only); (try k_lift B'W9); (try k_fold)))
  k_with "my getMethod ref" => ((k_here; (with_reducible show wpAny _ _ (getMethod (Value.ref _) (Str.ofString "sub") _) _ _ _); k_dflt (refine' meth_sub ?FW9 ?XW9 ?eW9 ?cW9 ?dW9 ?_; (case FW9 => k_asm); (case XW9 => k_asm); (case eW9 => k_is); (case cW9 => exact rfl); (case dW9 => exact rfl); k_whole)))
  k_with "my call builtin:re.Pattern.sub" => ((k_here; k_dflt (first
    | (refine' sub54_K ?FW9 ?XW9 ?NW9 ?xW9 ?_; (case FW9 => k_asm); (case XW9 => k_asm); (case NW9 => k_asm); (case xW9 => first | exact nl_fits (by assumption) | omega); k_whole; intro t'W9 h'W9 tk'W9 F'W9 N'W9; (try k_sweep))
    | (refine' sub49_K ?FW9 ?XW9 ?NW9 ?xW9 ?_; (case FW9 => k_asm); (case XW9 => k_asm); (case NW9 => k_asm); (case xW9 => first | exact nl_fits (by assumption) | omega); k_whole; intro t'W9 h'W9 tk'W9 F'W9 N'W9; (try k_sweep)))))
  k_with "my call ref" => ((k_here; (with_reducible show wpAny _ _ (call (Value.ref 763) [Value.str _ _]) _ _ _); k_dflt (refine' search_K ?FW9 ?XW9 ?NW9 ?xW9 ?jW9 ?uW9 ?_; (case FW9 => k_asm); (case XW9 => k_asm); (case NW9 => k_asm); (case xW9 => omega); (case jW9 => assumption); (case uW9 => assumption); k_whole; intro a'W9 h'W9 F'W9 N'W9; (try k_sweep))))
  k_with "my kt_len" => (with_reducible assumption)
  k_with "my truthy str" => ((k_here; (with_reducible show wpAny _ _ (PySem.truthy (Value.str _ _)) _ _ _); (refine' KXt.truthy_pos (K := 16777216) ?kxtaW9 ?kxtbW9 (Nat.le_refl _) ?_; (case kxtaW9 => with_reducible assumption); (case kxtbW9 => omega)); intro _))
  k_with "my callWith ref" => ((k_here; (with_reducible show wpAny _ _ (callWith _ (Value.ref 763) _ _ _) _ _ _); k_dflt (refine' callWith_763 ?k1W9 ?_; (case k1W9 => k_asm); k_whole)))
  k_with "my call builtin:str.replace" => ((k_here; (with_reducible show wpAny _ _ (call (Value.builtin "str.replace") [Value.str _ _, Value.str (Str.ofString "'") _, Value.str _ _]) _ _ _); k_dflt ((refine' replaceQ ?aW9 ?bW9 ?cW9 ?dW9 ?_; (case aW9 => k_ne); (case bW9 => k_ne); (case cW9 => k_ne); (case dW9 => first | with_reducible assumption | omega); k_whole; intro t'W9 k'W9 len'W9))))
  k_with "my k_memK" => (first | assumption | (refine need_app ?_; k_memK) | (refine need_cons ?_; k_memK))
  k_with "my subscriptTail" => ((k_here; (with_reducible show wpAny _ _ (subscriptTail _ _ (Value.ref (TreeAt.t _)) (Value.int (Nat.cast _) _)) _ _ _); k_dflt ((refine' tree_item ?NW9 ?TW9 ?kW9 ?_; (case NW9 => k_asm); (case TW9 => k_memK); (case kW9 => omega); k_whole; intro hm'W9))))
  k_with "my call ref" => ((k_here; (with_reducible show wpAny _ _ (call (Value.ref 770) [Value.str (TreeAt.lab _ _) _]) _ _ _); k_dflt ((refine' pure_use (qt_lab _ _ ?OW9 _ ?kW9 _) ?BW9 ?FW9 ?XW9 ?NW9 ?TW9 ?kkW9 ?hdW9 ?huW9 ?_; (case OW9 => assumption); (case kW9 => omega); (case BW9 => k_asm); (case FW9 => k_asm); (case XW9 => k_asm); (case NW9 => k_asm); (case TW9 => k_asm); (case kkW9 => first | exact rfl | assumption); (case hdW9 => k_room); (case huW9 => k_units); k_whole; intro r'W9 h'W9 tk'W9 F'W9 N'W9 ht'W9; obtain ⟨t'W9, e'W9⟩ := ht'W9; subst e'W9; (try k_sweep)))))
  k_with "my call ref" => ((k_here; (with_reducible show wpAny _ _ (call (Value.ref 61) [Value.str (Str.mk (List.toArray _)) _]) _ _ _); k_dflt ((refine' pure_use (qd_mk _ _ _ ?xW9) ?BW9 ?FW9 ?XW9 ?NW9 ?TW9 ?kkW9 ?hdW9 ?huW9 ?_; (case xW9 => first | omega | exact size_out (by assumption) (by omega)); (case BW9 => k_asm); (case FW9 => k_asm); (case XW9 => k_asm); (case NW9 => k_asm); (case TW9 => k_asm); (case kkW9 => first | exact rfl | assumption); (case hdW9 => k_room); (case huW9 => k_units); k_whole; intro r'W9 h'W9 tk'W9 F'W9 N'W9 ht'W9; obtain ⟨t'W9, e'W9⟩ := ht'W9; subst e'W9; (try k_sweep)))))
  k_with "my kt_len" => (first | exact len_out (by assumption) (by omega) | exact len_quoted (by assumption) (by omega) | exact TreeAt.Ok.eol (by assumption) _ (by omega) | exact TreeAt.part_len (by assumption) (by omega) (by omega) | ((with_reducible refine' len_qd ?qqW9); (case qqW9 => kt_len)))
  k_with "my call builtin:len" => ((k_here; (with_reducible show wpAny _ _ (call (Value.builtin "len") [Value.ref (TreeAt.t _)]) _ _ _); k_dflt ((refine' tree_len ?NW9 ?TW9 ?_; (case NW9 => k_asm); (case TW9 => k_memK); k_whole; intro t'W9 k'W9))))
  k_with "my call ref" => ((k_here; (with_reducible show wpAny _ _ (call (Value.ref 782) [Value.ref _, Value.int (Nat.cast _) _]) _ _ _); (with_reducible rename ∀ k, _ < k → k < 5 → Outline _ _ k => ihOW9); k_dflt ((refine' reads_use (ihOW9 _ ?aW9 ?bW9 _) ?BW9 ?FW9 ?XW9 ?NW9 ?TW9 ?kkW9 ?hdW9 ?huW9 ?hnW9 ?_; (case aW9 => omega); (case bW9 => omega); (case BW9 => k_asm); (case FW9 => k_asm); (case XW9 => k_asm); (case NW9 => k_asm); (case TW9 => k_asm); (case kkW9 => first | exact rfl | assumption); (case hdW9 => k_room); (case huW9 => k_units); (case hnW9 => k_memK); k_whole; intro r'W9 h'W9 tk'W9 F'W9 N'W9 ht'W9; obtain ⟨t'W9, e'W9⟩ := ht'W9; subst e'W9; (try k_sweep)))))
  k_with "my inplaceOp Add str str" => ((k_here; (with_reducible show wpAny _ _ (inplaceOp Operator.Add (Value.str _ _) (Value.str _ _)) _ _ _); (refine' iaddK ?kxaaW9 ?kxabW9 ?kxacW9 ?_; (case kxaaW9 => kt_len); (case kxabW9 => kt_len); (case kxacW9 => exact Nat.le_of_ble_eq_true rfl)); intro _ _ _))
  k_with "my k_enter" => ((kp_kind "both"; (fail_if_success k_inElt); (refine' kp_both ?k1W9 ?k2W9 ?k3W9 ?k4W9 ?k5W9 ?kAW9 ?kFW9 ?kKW9 ?k6W9 ?k7W9 ?k8W9 ?kVW9 ?kXW9 ?kQW9 ?kMW9 ?kNW9 ?kDW9 ?kRW9 ?kPW9 ?kSW9 ?kTW9 ?kBW9 ?_ ?c2W9 ?c3W9 ?c4W9 ?c5W9; (case kAW9 => exact rfl); (case kFW9 => exact rfl); (case kKW9 => first | exact rfl | assumption); (case k1W9 => k_asm); (case k2W9 => k_asm); (case k3W9 => k_asm); (case k4W9 => k_asm); (case k5W9 => k_asm); (case k6W9 => k_is); (case k7W9 => k_is); (case k8W9 => k_room); (case kVW9 => kp_lit); (case kXW9 => kp_lit); (case kQW9 => exact rfl); (case kMW9 => exact rfl); (case kNW9 => exact rfl); (case kDW9 => kp_flats); (case kRW9 => exact rfl); (case kPW9 => exact rfl); (case kSW9 => exact fun _ => rfl); (case kTW9 => exact fun _ _ => rfl); (case kBW9 => exact fun _ _ => locs rfl); (case c5W9 => decide); (case c2W9 => exact rfl); (case c3W9 => exact rfl); (case c4W9 => exact rfl); k_whole; intro C'W9 D'W9 o'W9 g'W9 L'W9 h'W9 tk'W9 l1W9 l2W9 lo'W9 hs'W9 fs'W9 FG'W9 F'W9 N'W9 B'W9 X'W9 T'W9; (try k_lt l1W9); (try k_lt2 l2W9); (try dsimp only); (try k_lift B'W9); (try k_fold))))
  k_with "my call builtin:object.__new__" => ((k_here; k_dflt ((refine' new623_K ?FW9 ?XW9 ?NW9 ?_; (case FW9 => k_asm); (case XW9 => k_asm); (case NW9 => k_asm); k_whole; intro x'W9 d'W9 h'W9 F'W9 N'W9 l1W9 l2W9; (try k_lt l1W9); (try k_lt2 l2W9); (try k_sweep)))))
  k_with "my k_all" => (first | exact allNe (by assumption) | exact allNe' (by assumption) | exact allNeT (by assumption) (by first | assumption | omega))
  trivial

set_option maxHeartbeats 8000000 in
theorem sio_ok (w : World) (l : List Nat) (tx : Tok) (hl : (mk l).length ≤ 1000000) : AtAny w 540 5400 fun A h₀ L m news s => ∀ Q E : Value → Shared → Prop, (∀ x dx k1 k2 k3 tb tp h' tk', Fr h₀ L h' m → News h₀ L h' ((x, instObj 623 dx) :: (dx, sioDict w k1 k2 k3 (.str (mk l) tb) (.int 0 tp)) :: news) → (∀ p ∈ news, p.1 < dx) → dx < x → Q (.ref x) { s with heap := h', toks := tk' }) → wpAny (model PySem.Challenge.rw_oy0315_01.row.prog w) A (call (.ref 623) [.str (mk l) tx]) Q E s := by
  w_strict (
  unfold AtAny
  k_fill
  intro dp un p loose mean mg mb news gd cn cs a ccd cl outer A₀ base h₀ L m s hdp hun B F X N T hk Q E hret
  refine make623 F X fun tk => ?_
  refine' at_use (s := { s with toks := tk }) (new_sio w (mk l) tx) ?hd ?hu B F X N T hk _ _ fun x dx h1 tk1 F1 N1 l1 l2 => ?_
  case hd => exact (show dp + 1 ≤ 560 by omega)
  case hu => exact (show un + 1 ≤ 5600 by omega)
  replace l2 := ltN l2
  refine ⟨x, dx, rfl, X.keeps F1.keep, (N1 _ (.head _)).1, ?_⟩
  (k_dflt k_enter)
  k_steps
  all_goals exact hret _ _ _ _ _ _ _ _ _ (by k_asm) (by k_asm) l1 l2
  )
end OyMine
end
section
open PySem PySem.W PyProof.Rows PySem.Calls PySem.Builtin
set_option maxRecDepth 100000
set_option maxHeartbeats 4000000
set_option genInjectivity false
set_option genSizeOf false
set_option genSizeOfSpec false
namespace OyMine
noncomputable abbrev dqObj (n : Int) (xs : List Value) : Obj := { cls := .type "collections.deque", data := .fields ([.none, rawInt n] ++ xs).toArray }
theorem dq_mro : mroOf (.type "collections.deque") = pure [.type "collections.deque", .type "object"] := by rw [mroOf_type]; kernel_rfl
theorem dq_lookup_new : typeLookup (.type "collections.deque") "__new__" = pure (some (.builtin "collections.deque.__new__")) := by rw [typeLookup_type, builtinLookup_eq_fast]; kernel_rfl
theorem slot_dq_init : Slot "collections.deque" "__init__" "collections.deque.__init__" :=
  .of (owner := "collections.deque") (n := "__init__") (by rw [typeLookup_type, builtinLookup_eq_fast]; kernel_rfl) (by decide +kernel) (by decide +kernel) (by decide +kernel)
    (by first | exact .inl (by decide +kernel) | exact .inr (by decide +kernel)) (by rw [isSubtype_type]; kernel_rfl)
theorem dq_called : TypeCalled "collections.deque" "collections.deque.__new__" "collections.deque.__init__" :=
  ⟨by decide +kernel, by decide +kernel, ⟨_, _, dq_mro⟩, madeBy_type dq_mro dq_lookup_new (by decide +kernel), by decide +kernel, by rw [isSubtype_type]; kernel_rfl, slot_dq_init⟩
theorem dq_typeCall : checkTypeCall "collections.deque" ⟨[], []⟩ = pure () := by kernel_rfl
theorem dq_newCall : checkBuiltinCall "collections.deque.__new__" ⟨[.type "collections.deque"], []⟩ = pure () := by kernel_rfl
theorem dq_entry_new : entryFor table "collections.deque.__new__" = some Builtin.«collections.deque.__new__» := entryFor_of_tree (by kernel_rfl)
theorem dq_entry_init : entryFor table "collections.deque.__init__" = some Builtin.«collections.deque.__init__» := entryFor_of_tree (by kernel_rfl)
theorem dq_plain_new : plainId "collections.deque.__new__" = true := by decide +kernel
theorem dq_args_init (v : Value) : argsOk "collections.deque.__init__" ⟨[v], []⟩ := by unfold argsOk; kernel_rfl
section
variable {prog : Program} {w : World} {A : Around} {E : Value → Shared → Prop} {s : Shared} {h₀ : Heap} {L : Addr} {m : Str → Option Value} {news : List (Addr × Obj)}
theorem dq_new {Q₁ : Value → Shared → Prop} (h : Q₁ (.ref s.heap.objs.size) { s with heap := s.heap.push (dqObj 0 []) }) :
    codeAny (model prog w) A (.call (.builtin "collections.deque.__new__") ⟨[.type "collections.deque"], []⟩) (wants Q₁ E) s := by
  refine codeAny_call_builtin dq_plain_new dq_entry_new (wpAny_of_eq dq_newCall ?_)
  unfold Builtin.«collections.deque.__new__»
  have e1 : Builtin.Deque.newArgs Builtin.Deque.ty ⟨[.type "collections.deque"], []⟩ = pure (.type "collections.deque", []) := by kernel_rfl
  rw [e1]
  refine wpAny_bind (wpAny_pure ?_)
  dsimp only
  unfold Builtin.Deque.new
  refine wpAny_bind ?_
  rw [if_neg (by decide)]
  refine wpAny_bind (wpAny_pure ?_)
  refine wpAny_newObj_type ?_ (by show (#[Value.none, rawInt 0] : Array Value).size ≤ _; rw [sizeLine_eq]; decide)
  exact wpAny_pure h
theorem dq_make {Q : Value → Shared → Prop} (F : Fr h₀ L s.heap m) (N : News h₀ L s.heap news) (h : ∀ h' a, Fr h₀ L h' m → News h₀ L h' ((a, dqObj 0 []) :: news) → (∀ p ∈ news, p.1 < a) → Q (.ref a) { s with heap := h' }) :
    wpAny (model prog w) A (call (.type "collections.deque") []) Q E s := by
  have F1 := F.push (dqObj 0 [])
  have N1 := N.push F (dqObj 0 [])
  refine callType_codes (Q₁ := fun obj s₁ => obj = .ref s.heap.objs.size ∧ s₁ = { s with heap := s.heap.push (dqObj 0 []) }) dq_called dq_typeCall dq_entry_init (dq_new ⟨rfl, rfl⟩) ?_
  rintro obj s₁ ⟨rfl, rfl⟩
  have ho := Heap.get?_push_size s.heap (o := dqObj 0 []) rfl
  refine ⟨⟨_, ho, rfl⟩, dq_args_init _, ?_⟩
  unfold Builtin.«collections.deque.__init__»
  dsimp only
  rw [if_neg (by decide)]
  show wpAny _ _ (setField (.ref s.heap.objs.size) 0 .none >>= fun _ => Builtin.Deque.clear (.ref s.heap.objs.size) >>= fun _ => ret .none) _ _ _
  refine wpAny_bind (wpAny_setField ho rfl (by decide) ?_)
  have hn : ∀ p ∈ news, p.1 ≠ s.heap.objs.size := fun p hp => Nat.ne_of_lt (Heap.lt_size (N p hp).1)
  have u := news_upd (pre := []) (f := Obj.mapFields (·.setIfInBounds 0 .none)) F1 N1 (fun _ h => nomatch h) hn (o' := dqObj 0 []) rfl rfl
  unfold Builtin.Deque.clear Builtin.Deque.items
  refine wpAny_bind (wpAny_bind (wpAny_bind (wpAny_fieldsOf (u.2 _ (.head _)).1 rfl (wpAny_pure ?_))))
  rw [if_neg (by decide)]
  exact wpAny_pure (wpAny_pure ⟨rfl, h _ _ u.1 u.2 fun p hp => Heap.lt_size (N p hp).1⟩)
end
theorem dq_slot {n id : String} (h1 : typeLookup (.type "collections.deque") n = pure (some (.builtin id)) := by rw [typeLookup_type, builtinLookup_eq_fast]; kernel_rfl) (h2 : splitId id = some ("collections.deque", n) := by decide +kernel)
    (h3 : withoutEnding? id "#opaque" = none := by decide +kernel) (h4 : withoutEnding? id "#data" = none := by decide +kernel) (h5 : (Manifest.find? "collections.deque").bind (·.attrs.lookup n) = some .slot ∨ (Manifest.find? "collections.deque").bind (·.attrs.lookup n) = some .method)
    (h6 : plainId id = true := by decide +kernel) : Slot "collections.deque" n id := .of h1 h2 h3 h4 h5 (by rw [isSubtype_type]; kernel_rfl) h6
theorem slot_dq_len : Slot "collections.deque" "__len__" "collections.deque.__len__" := dq_slot (h5 := .inl (by decide +kernel))
theorem slot_dq_append : Slot "collections.deque" "append" "collections.deque.append" := dq_slot (h5 := .inr (by decide +kernel))
theorem slot_dq_pop : Slot "collections.deque" "pop" "collections.deque.pop" := dq_slot (h5 := .inr (by decide +kernel))
theorem dq_entry_len : entryFor table "collections.deque.__len__" = some Builtin.«collections.deque.__len__» := entryFor_of_tree (by kernel_rfl)
theorem dq_entry_append : entryFor table "collections.deque.append" = some Builtin.«collections.deque.append» := entryFor_of_tree (by kernel_rfl)
theorem dq_entry_pop : entryFor table "collections.deque.pop" = some Builtin.«collections.deque.pop» := entryFor_of_tree (by kernel_rfl)
theorem dq_args_len (v : Value) : argsOk "collections.deque.__len__" ⟨[v], []⟩ := by unfold argsOk; kernel_rfl
theorem dq_args_append (v x : Value) : argsOk "collections.deque.append" ⟨[v, x], []⟩ := by unfold argsOk; kernel_rfl
theorem dq_args_pop (v : Value) : argsOk "collections.deque.pop" ⟨[v], []⟩ := by unfold argsOk; kernel_rfl
theorem dq_noBool : typeLookup (.type "collections.deque") "__bool__" = pure none := by rw [typeLookup_type, builtinLookup_eq_fast]; kernel_rfl
theorem dq_plainAttrs : PlainAttrs "collections.deque" :=
  ⟨⟨"collections.deque.__getattribute__", by rw [typeLookup_type, builtinLookup_eq_fast]; kernel_rfl, by decide +kernel⟩, by rw [typeLookup_type, builtinLookup_eq_fast]; kernel_rfl⟩
theorem dq_type_append : typeOf (.builtin "collections.deque.append") = pure (.type "method_descriptor") := by show builtinType _ = _; rw [builtinType_eq_fast]; kernel_rfl
theorem dq_type_pop : typeOf (.builtin "collections.deque.pop") = pure (.type "method_descriptor") := by show builtinType _ = _; rw [builtinType_eq_fast]; kernel_rfl
section
variable {prog : Program} {w : World} {A : Around} {E : Value → Shared → Prop} {s : Shared} {h₀ : Heap} {L a : Addr} {m : Str → Option Value} {news news' : List (Addr × Obj)} {n : Int} {xs : List Value}
theorem dq_truthy {Q : Bool → Shared → Prop} (N : News h₀ L s.heap news) (hm : (a, dqObj n xs) ∈ news) (hx : xs.length ≤ 10) (h : ∀ k, Q ((xs.length : Int) != 0) { s with toks := k }) : wpAny (model prog w) A (truthy (.ref a)) Q E s := by
  have ho := (N _ hm).1
  have hT : s.TypeIs (.ref a) "collections.deque" := ⟨_, ho, rfl⟩
  have key : wpAny (model prog w) A (runValue (.builtin "len" ⟨[.ref a], []⟩)) (fun r s' => r = .int xs.length (s.toks + 1) ∧ Q ((xs.length : Int) != 0) s') E s := by
    refine wpAny_runValue (codeAny_builtin entry_len ?_)
    rw [Around.under_plainId plain_len _]
    unfold Builtin.«len»
    refine wpAny_bind (m := oneArg "len" _) (wpAny_pure ?_)
    refine wpAny_bind (m := callSpecial? (.ref a) (Str.ofString "__len__")) (wpAny_callSpecial?_slot (name := Str.ofString "__len__") hT slot_dq_len
      (wpAny_call_entry slot_dq_len hT dq_entry_len ?_ (dq_args_len _)))
    show wpAny _ _ (do retInt (← Builtin.Deque.size (.ref a))) _ _ s
    unfold Builtin.Deque.size
    refine wpAny_bind (wpAny_bind (wpAny_fieldsOf ho rfl (wpAny_pure ?_)))
    have e : ((([.none, rawInt n] ++ xs).toArray.size - 2 : Nat)) = xs.length := by simp
    rw [e]
    refine wpAny_bind (wpAny_mkInt (wpAny_pure ⟨_, rfl, ?_⟩))
    refine wpAny_bind (wpAny_holding (wpAny_pure ?_))
    refine wpAny_bind (wpAny_letGo ?_)
    show wpAny _ _ (if ((xs.length : Nat) : Int) < 0 then _ else _) _ _ _
    rw [if_neg (by omega)]
    show wpAny _ _ (if ((xs.length : Nat) : Int) ≥ 2 ^ 63 then _ else _) _ _ _
    rw [if_neg (by omega)]
    exact wpAny_bind (wpAny_mkInt (wpAny_pure ⟨rfl, h _⟩))
  unfold truthy
  first
    | refine wpAny_bind (wpAny_callSpecial?_none (name := Str.ofString "__bool__") hT dq_noBool ?_)
    | refine wpAny_bind (wpAny_pure (wpAny_bind (wpAny_callSpecial?_none (name := Str.ofString "__bool__") hT dq_noBool ?_)))
  first
    | refine wpAny_bind (wpAny_specialOf (name := Str.ofString "__len__") hT slot_dq_len.lookup ?_)
    | refine wpAny_bind (wpAny_pure (wpAny_bind (wpAny_specialOf (name := Str.ofString "__len__") hT slot_dq_len.lookup ?_)))
  first
    | exact wpAny_bind (wpAny_mono key (fun r s' h' => by obtain ⟨rfl, hq⟩ := h'; exact wpAny_pure hq) fun _ _ e => e)
    | exact wpAny_bind (wpAny_pure (wpAny_bind (wpAny_mono key (fun r s' h' => by obtain ⟨rfl, hq⟩ := h'; exact wpAny_pure hq) fun _ _ e => e)))
theorem dq_meth {name : Str} {id : String} {pl : Sem Bool} {Q : Value × List Value → Shared → Prop} (N : News h₀ L s.heap news) (hm : (a, dqObj n xs) ∈ news) (sl : Slot "collections.deque" name id) (ty : typeOf (.builtin id) = pure (.type "method_descriptor"))
    (h : Q (.builtin id, [.ref a]) s) : wpAny (model prog w) A (getMethod (.ref a) name pl) Q E s :=
  getMethod_builtin ⟨_, (N _ hm).1, rfl⟩ dq_plainAttrs sl ty (fun b eb => by cases eb; exact ⟨_, (N _ hm).1, rfl⟩) h
theorem dq_append {Q : Value → Shared → Prop} {x : Value} (F : Fr h₀ L s.heap m) (N : News h₀ L s.heap news) (U : Upd a (dqObj n xs) (dqObj (n + 1) (xs ++ [x])) news news') (hx : xs.length ≤ 10)
    (h : ∀ h', Fr h₀ L h' m → News h₀ L h' news' → Q .none { s with heap := h' }) : wpAny (model prog w) A (call (.builtin "collections.deque.append") [.ref a, x]) Q E s := by
  obtain ⟨pre, post, rfl, rfl, h1, h2⟩ := U.split
  have hm : (a, dqObj n xs) ∈ pre ++ (a, dqObj n xs) :: post := List.mem_append.mpr (.inr (.head _))
  have ho := (N _ hm).1
  have hT : s.TypeIs (.ref a) "collections.deque" := ⟨_, ho, rfl⟩
  refine wpAny_call (codeAny_call_builtin slot_dq_append.plain dq_entry_append (slot_dq_append.check _ _ _ _ _ _ _ _ hT (dq_args_append _ _) ?_))
  unfold Builtin.«collections.deque.append»
  show wpAny _ _ (Builtin.Deque.pushRight (.ref a) x >>= fun _ => ret .none) _ _ _
  unfold Builtin.Deque.pushRight Builtin.Deque.change Builtin.Deque.state
  refine wpAny_bind (wpAny_bind ?_)
  refine wpAny_bind (wpAny_bind (wpAny_field (i := 1) (x := rawInt n) ho rfl rfl (wpAny_pure ?_)))
  have hz : ((([.none, rawInt n] ++ xs).toArray).extract 2 (([.none, rawInt n] ++ xs).toArray).size).push x = (xs ++ [x]).toArray := by simp
  have u := news_upd (f := Obj.mapFields fun vs => #[vs.getD 0 .none, rawInt (if true then n + 1 else n)] ++ (vs.extract 2 vs.size).push x) F N h1 h2 (o' := dqObj (n + 1) (xs ++ [x])) (by
    show Obj.mapFields _ (dqObj n xs) = _
    unfold Obj.mapFields dqObj
    dsimp only
    rw [hz]
    simp) rfl
  refine wpAny_updateFields ho rfl ?_ ?_
  · unfold Builtin.Deque.maxlen
    refine wpAny_bind (wpAny_bind (wpAny_field (i := 0) (x := .none) (u.2 _ (List.mem_append.mpr (.inr (.head _)))).1 rfl rfl (wpAny_pure ?_)))
    exact wpAny_pure (wpAny_pure (h _ u.1 u.2))
  · rw [sizeLine_eq]
    simp
    omega
theorem dq_pop {Q : Value → Shared → Prop} {x : Value} (F : Fr h₀ L s.heap m) (N : News h₀ L s.heap news) (U : Upd a (dqObj n (xs ++ [x])) (dqObj (n + 1) xs) news news') (hx : xs.length ≤ 10)
    (h : ∀ h', Fr h₀ L h' m → News h₀ L h' news' → Q x { s with heap := h' }) : wpAny (model prog w) A (call (.builtin "collections.deque.pop") [.ref a]) Q E s := by
  obtain ⟨pre, post, rfl, rfl, h1, h2⟩ := U.split
  have hm : (a, dqObj n (xs ++ [x])) ∈ pre ++ (a, dqObj n (xs ++ [x])) :: post := List.mem_append.mpr (.inr (.head _))
  have ho := (N _ hm).1
  have hT : s.TypeIs (.ref a) "collections.deque" := ⟨_, ho, rfl⟩
  refine wpAny_call (codeAny_call_builtin slot_dq_pop.plain dq_entry_pop (slot_dq_pop.check _ _ _ _ _ _ _ _ hT (dq_args_pop _) ?_))
  unfold Builtin.«collections.deque.pop»
  show wpAny _ _ (Builtin.Deque.items (.ref a) >>= _) _ _ _
  unfold Builtin.Deque.items
  refine wpAny_bind (wpAny_bind (wpAny_fieldsOf ho rfl (wpAny_pure ?_)))
  have hz : (([.none, rawInt n] ++ (xs ++ [x])).toArray).extract 2 (([.none, rawInt n] ++ (xs ++ [x])).toArray).size = (xs ++ [x]).toArray := by
    apply Array.ext'
    simp [List.extract]
    exact List.take_of_length_le (by simp)
  have hz2 : (([.none, rawInt n] ++ (xs ++ [x])).toArray.extract 2 (([.none, rawInt n] ++ (xs ++ [x])).toArray).size).pop = xs.toArray := by rw [hz]; simp
  rw [hz]
  have hb : (xs ++ [x]).toArray.back? = some x := by simp
  rw [hb]
  dsimp only
  unfold Builtin.Deque.change Builtin.Deque.state
  refine wpAny_bind ?_
  refine wpAny_bind (wpAny_bind (wpAny_field (i := 1) (x := rawInt n) ho rfl rfl (wpAny_pure ?_)))
  have u := news_upd (f := Obj.mapFields fun vs => #[vs.getD 0 .none, rawInt (if true then n + 1 else n)] ++ (vs.extract 2 vs.size).pop) F N h1 h2 (o' := dqObj (n + 1) xs) (by
    show Obj.mapFields _ (dqObj n (xs ++ [x])) = _
    unfold Obj.mapFields dqObj
    dsimp only
    rw [hz2]
    simp) rfl
  refine wpAny_updateFields ho rfl ?_ ?_
  · exact wpAny_pure (h _ u.1 u.2)
  · rw [sizeLine_eq]
    simp
    omega
end
end OyMine
end
section
open PySem PySem.W PyProof.Rows PySem.Calls PySem.Builtin
set_option maxRecDepth 100000
set_option maxHeartbeats 4000000
set_option genInjectivity false
set_option genSizeOf false
set_option genSizeOfSpec false
namespace OyMine
theorem fk_typeCall : checkTypeCall "dict" ⟨[], []⟩ = pure () := by kernel_rfl
theorem fk_newCall : checkBuiltinCall "dict.__new__" ⟨[.type "dict"], []⟩ = pure () := by kernel_rfl
theorem fk_plain : plainId "dict.fromkeys" = true := by decide +kernel
theorem fk_plain_loop : plainId "dict.fromkeys.loop" = true := by decide +kernel
theorem fk_entry : entryFor table "dict.fromkeys" = some Builtin.«dict.fromkeys» := entryFor_of_tree (by kernel_rfl)
theorem fk_entry_loop : entryFor table "dict.fromkeys.loop" = some Builtin.«dict.fromkeys.loop» := entryFor_of_tree (by kernel_rfl)
theorem tr_plain : plainId "str.maketrans" = true := by decide +kernel
theorem tr_entry : entryFor table "str.maketrans" = some Builtin.«str.maketrans» := entryFor_of_tree (by kernel_rfl)
theorem tl_entry : entryFor table "str.translate" = some Builtin.«str.translate» := entryFor_of_tree (by kernel_rfl)
noncomputable def fkBound : Obj := { cls := .type "builtin_function_or_method", data := .fields #[.builtin "dict.fromkeys", .type "dict"] }
theorem fk_check (tp : Tok) : checkBoundCall "dict.fromkeys" ⟨[.type "dict", .str "." tp], []⟩ = pure () := by kernel_rfl
noncomputable def Grows (h h' : Heap) : Prop := ∀ b o, h.get? b = some o → h'.get? b = some o
theorem Grows.trans {a b c : Heap} (x : Grows a b) (y : Grows b c) : Grows a c := fun _ _ e => y _ _ (x _ _ e)
theorem Grows.push (h : Heap) (o : Obj) : Grows h (h.push o) := fun _ _ e => Heap.get?_push_of_some _ e
section
variable {prog : Program} {w : World} {A : Around} {E : Value → Shared → Prop} {s : Shared} {Q : Value → Shared → Prop} {tp : Tok}
theorem fk_new {Q₁ : Value → Shared → Prop} (h : Q₁ (.ref s.heap.objs.size) { s with heap := s.heap.push { cls := .type "dict", data := .dict #[] } }) :
    codeAny (model prog w) A (.call (.builtin "dict.__new__") ⟨[.type "dict"], []⟩) (wants Q₁ E) s := by
  refine codeAny_call_builtin F.kt_plain_dict_new F.kt_entry_dict_new (wpAny_of_eq fk_newCall ?_)
  have hsub := F.kt_sub_dict
  have hmro := F.kt_mro_dict
  obtain ⟨hp, g, d, tk, os⟩ := s
  unfold Builtin.«dict.__new__»
  wp_walk
  exact h
theorem fk_dict (h : Q (.ref s.heap.objs.size) { s with heap := s.heap.push { cls := .type "dict", data := .dict #[] } }) : wpAny (model prog w) A (call (.type "dict") []) Q E s := by
  refine callType_codes (Q₁ := fun obj s₁ => obj = .ref s.heap.objs.size ∧ s₁ = { s with heap := s.heap.push { cls := .type "dict", data := .dict #[] } }) F.kt_called_dict fk_typeCall F.entry_dict_init (fk_new ⟨rfl, rfl⟩) ?_
  rintro obj s₁ ⟨rfl, rfl⟩
  have hnew : (s.heap.push { cls := .type "dict", data := .dict #[] }).DictOf (strKind prog w) s.heap.objs.size [] := Heap.DictOf.new s.heap
  refine ⟨hnew.typeIs, ?_, ?_⟩
  · unfold argsOk; kernel_rfl
  unfold Builtin.«dict.__init__»
  refine wpAny_bind ?_
  unfold Builtin.Dict.selfAndRest
  refine wpAny_bind (wpAny_notOrdered_dict hnew.typeIs ?_)
  show wpAny _ _ (pure (s.heap.objs.size, [])) _ _ _
  refine wpAny_pure ?_
  exact wpAny_bind (wpAny_pure (wpAny_pure ⟨rfl, h⟩))
theorem fk_dot {u : Addr} (hu : s.heap.get? u = some fkBound) (hh : A.handled = none) (hbig : 1 < s.heap.objs.size) (hQ : ∀ h' tk', Grows s.heap h' → h'.DictOf (strKind prog w) s.heap.objs.size [(".", .none)] → (s.heap.objs.size == sysModules) = false → Q (.ref s.heap.objs.size) { s with heap := h', toks := tk' }) :
    wpAny (model prog w) A (call (.ref u) [.str "." tp]) Q E s := by
  refine wpAny_call (codeAny_of_tree ?_)
  show wpAny _ A.in1 (callAny (.ref u) ⟨[.str "." tp], []⟩) _ _ s
  simp only [callAny]
  refine wpAny_bind (wpAny_load hu ?_)
  simp only [fkBound, show (Value.type "builtin_function_or_method" == Value.type "method" || Value.type "builtin_function_or_method" == Value.type "builtin_function_or_method" || Value.type "builtin_function_or_method" == Value.type "method-wrapper") = true by decide, if_true]
  refine KFB.if_so (by decide) ?_
  refine wpAny_bind (wpAny_of_eq (a := ()) (fk_check tp) ?_)
  refine wpAny_bind (wpAny_pure (wpAny_pure ?_))
  refine ⟨plainId_quiet fk_plain _, codeAny_builtin fk_entry ?_⟩
  unfold Builtin.«dict.fromkeys»
  have e1 : isType (.type "dict") = pure true := by kernel_rfl
  have e2 := F.kt_sub_dict
  dsimp only
  refine wpAny_bind (wpAny_of_eq e1 ?_)
  rw [if_neg (by decide)]
  refine wpAny_bind (wpAny_of_eq e2 ?_)
  rw [if_neg (by decide), if_neg (by decide)]
  refine wpAny_bind (wpAny_bind (wpAny_rule (wpAny_pure ?_)))
  refine wpAny_bind (wpAny_pure ?_)
  refine wpAny_bind (fk_dict ?_)
  have hnew : (s.heap.push { cls := .type "dict", data := .dict #[] }).DictOf (strKind prog w) s.heap.objs.size [] := Heap.DictOf.new s.heap
  refine wpAny_holding ?_
  refine wpAny_bind (wpAny_typeOf (typeIs_str _ "." tp) ?_)
  refine wpAny_bind (wpAny_typeOf hnew.typeIs ?_)
  rw [if_neg (by decide)]
  refine wpAny_bind (wpAny_typeOf hnew.typeIs ?_)
  rw [if_neg (by decide)]
  refine wpAny_bind (wpAny_pyIter_strU ?_)
  have hsz : (s.heap.push { cls := .type "dict", data := .dict #[] }).objs.size = s.heap.objs.size + 1 := Heap.size_push ..
  have eI : strIterType (Str.ofString ".") = "str_ascii_iterator" := by decide +kernel
  rw [eI, hsz]
  have hit : ((s.heap.push { cls := .type "dict", data := .dict #[] }).push { cls := .type "str_ascii_iterator", data := .fields #[.str "." tp, .int 0 0] }).IsStrIter (s.heap.objs.size + 1) "str_ascii_iterator" "." tp 0 := by
    refine ⟨{ cls := .type "str_ascii_iterator", data := .fields #[.str "." tp, .int 0 0] }, ?_, rfl, rfl⟩
    rw [← hsz]
    exact Heap.get?_push_size _ rfl
  have hd2 := hnew.push { cls := .type "str_ascii_iterator", data := .fields #[.str "." tp, .int 0 0] }
  have hdS : (s.heap.objs.size == sysModules) = false := by
    rw [beq_eq_false_iff_ne]
    show s.heap.objs.size ≠ 1
    omega
  have hfree : s.heap.get? s.heap.objs.size = none := by
    cases q : s.heap.get? s.heap.objs.size with
    | none => rfl
    | some o => exact absurd (Heap.lt_size q) (Nat.lt_irrefl _)
  have hg : Grows s.heap ((s.heap.push { cls := .type "dict", data := .dict #[] }).push { cls := .type "str_ascii_iterator", data := .fields #[.str "." tp, .int 0 0] }) := (Grows.push _ _).trans (Grows.push _ _)
  generalize ((s.heap.push { cls := .type "dict", data := .dict #[] }).push { cls := .type "str_ascii_iterator", data := .fields #[.str "." tp, .int 0 0] }) = h2 at *
  refine wpAny_pure ⟨plainId_quiet fk_plain_loop _, ?_⟩
  refine codeAny_builtin fk_entry_loop ?_
  unfold Builtin.«dict.fromkeys.loop»
  have c0 : (Str.ofString ".").cps[0]? = some 46 := by decide +kernel
  have c1 : (Str.ofString ".").cps[1]? = none := by decide +kernel
  refine wpAny_bind (wpAny_pyNext_ascii_item (s := { s with heap := h2 }) hit c0 fun h3 hit3 sb3 => ?_)
  have hd3 := hd2.sameBut sb3 (Nat.ne_of_lt (Nat.lt_succ_self _))
  refine wpAny_bind (wpAny_typeOf (s := { s with heap := h3, toks := s.toks + 1 }) hd3.typeIs ?_)
  rw [if_pos (by decide)]
  refine wpAny_bind (wpAny_pure ?_)
  refine wpAny_bind (wpAny_holding ?_)
  have kd : (strKind prog w).is "." (.str ⟨#[46]⟩ s.toks) = true := by
    show ((⟨#[46]⟩ : Str) == Str.ofString ".") = true
    decide +kernel
  refine wpAny_dictSet_pairs (s := { s with heap := h3, toks := s.toks + 1 }) kd hd3 (fun h4 hd4 sb4 => ?_)
  refine wpAny_pure ⟨plainId_quiet fk_plain_loop _, ?_⟩
  refine codeAny_builtin fk_entry_loop ?_
  unfold Builtin.«dict.fromkeys.loop»
  have hit4 : h4.IsStrIter (s.heap.objs.size + 1) "str_ascii_iterator" "." tp 1 := by
    obtain ⟨o, ho, r⟩ := hit3
    exact ⟨o, (sb4.2 _ (Nat.ne_of_gt (Nat.lt_succ_self _))).trans ho, r⟩
  refine wpAny_bind (wpAny_pyNext_ascii_end (s := { s with heap := h4, toks := s.toks + 1 + 1 }) hh hit4 c1 fun h5 sb5 => ?_)
  have hd5 := hd4.extBut sb5 (Nat.ne_of_lt (Nat.lt_succ_self _))
  refine wpAny_pure ?_
  refine hQ h5 _ ?_ hd5 hdS
  intro b o e
  have hb := Heap.lt_size e
  have n1 : b ≠ s.heap.objs.size := Nat.ne_of_lt hb
  have n2 : b ≠ s.heap.objs.size + 1 := Nat.ne_of_lt (Nat.lt_succ_of_lt hb)
  have g2 := hg b o e
  have g3 := (sb3.2 b n2).trans g2
  have g4 := (sb4.2 b n1).trans g3
  exact sb5 b o n2 g4
theorem tr_call (d : Addr) : checkBuiltinCall "str.maketrans" ⟨[.ref d], []⟩ = pure () := by kernel_rfl
theorem tr_make {d : Addr} (hd : s.heap.DictOf (strKind prog w) d [(".", .none)]) (hdS : (d == sysModules) = false) (hQ : ∀ h' tk', Grows s.heap h' → h'.DictOf (intKind prog w) s.heap.objs.size [(46, .none)] → Q (.ref s.heap.objs.size) { s with heap := h', toks := tk' }) :
    wpAny (model prog w) A (call (.builtin "str.maketrans") [.ref d]) Q E s := by
  refine wpAny_call (codeAny_call_builtin tr_plain tr_entry (wpAny_of_eq (tr_call d) ?_))
  unfold Builtin.«str.maketrans»
  refine wpAny_bind (wpAny_pure ?_)
  refine wpAny_bind (wpAny_of_eq (a := ()) (by kernel_rfl) ?_)
  refine wpAny_bind (wpAny_pure ?_)
  refine wpAny_bind (wpAny_pure ?_)
  have hnew : (s.heap.push { cls := .type "dict", data := .dict #[] }).DictOf (intKind prog w) s.heap.objs.size [] := Heap.DictOf.new s.heap
  have hd2 : (s.heap.push { cls := .type "dict", data := .dict #[] }).DictOf (strKind prog w) d [(".", .none)] := hd.push _
  have hg : Grows s.heap (s.heap.push { cls := .type "dict", data := .dict #[] }) := Grows.push _ _
  have hfree : s.heap.get? s.heap.objs.size = none := by
    cases q : s.heap.get? s.heap.objs.size with
    | none => rfl
    | some o => exact absurd (Heap.lt_size q) (Nat.lt_irrefl _)
  refine wpAny_bind ?_
  unfold newDict
  refine wpAny_newObj_type ?_ (by show (#[] : Array DictEntry).size ≤ _; exact Nat.zero_le _)
  refine wpAny_bind (wpAny_holding ?_)
  dsimp only
  generalize (s.heap.push { cls := .type "dict", data := .dict #[] }) = h2 at *
  refine wpAny_bind (wpAny_typeOf (s := { s with heap := h2 }) hd2.typeIs ?_)
  refine wpAny_bind (wpAny_pure ?_)
  refine wpAny_bind (wpAny_typeOf (s := { s with heap := h2 }) hd2.typeIs ?_)
  rw [if_neg (by decide)]
  unfold notTheModulesDict
  refine wpAny_bind ?_
  rw [if_neg (by rw [hdS]; decide)]
  refine wpAny_pure ?_
  obtain ⟨o, es, ep, ho, hc, hdd, hk, hp, hn⟩ := id hd2
  refine wpAny_bind (wpAny_dictEntries (s := { s with heap := h2 }) ho hdd ?_)
  obtain ⟨es⟩ := es
  dsimp only at hp
  cases hp with
  | @cons e kv es kvs k1 k2 k3 =>
    cases k3
    obtain ⟨eh, ek, ev⟩ := e
    dsimp only at k1 k2
    subst k2
    obtain ⟨tk, rfl⟩ := Value.isStrOf_shape (show Value.isStrOf "." ek = true from k1)
    rw [← Array.forIn_toList, List.forIn_cons]
    refine wpAny_bind (wpAny_bind ?_)
    refine wpAny_bind (wpAny_pure ?_)
    have ec : (Str.ofString ".") = ⟨#[46]⟩ := by decide +kernel
    rw [ec]
    refine wpAny_bind (wpAny_mkInt ?_)
    refine wpAny_bind (wpAny_dictSet_pairs (knd := intKind prog w) (k := 46) (intKind_is ..) hnew fun h3 hd3 sb3 => ?_)
    refine wpAny_pure ?_
    refine wpAny_pure ?_
    refine wpAny_pure ?_
    refine wpAny_pure ?_
    refine hQ h3 _ (fun b o e => ?_) hd3
    exact (sb3.2 b (Nat.ne_of_lt (Heap.lt_size e))).trans (hg b o e)
theorem sub_KeyError : isSubtype (.type "KeyError") (.type "LookupError") = pure true := by rw [isSubtype_type]; kernel_rfl
theorem tl_keep {t : Addr} {c : Nat} {Q : Builtin.Str.Mapped → Shared → Prop} (hh : A.handled = none) (ht : s.heap.DictOf (intKind prog w) t [(46, .none)]) (htS : (t == sysModules) = false) (hc : c ≠ 46)
    (hQ : ∀ h' tk', Grows s.heap h' → Q .keep { s with heap := h', toks := tk' }) : wpAny (model prog w) A (Builtin.Str.tableLookup (.ref t) c) Q E s := by
  unfold Builtin.Str.tableLookup
  refine wpAny_bind (wpAny_attempt (wpAny_bind (wpAny_mkInt ?_)))
  refine wpAny_getItem_missing_of (knd := intKind prog w) (k := (c : Int)) (s := { s with toks := s.toks + 1 }) (intKind_is ..) htS hh ht.mapOf ?_ fun h' e hx => ?_
  · unfold valueAt
    rw [List.find?_cons_of_neg]
    · rfl
    · simp
      omega
  · obtain ⟨ob, u, ho, hcls, _⟩ := hx.there
    refine wpAny_bind (wpAny_isInstance (s := { s with heap := h', toks := _ }) ⟨ob, ho, hcls⟩ sub_KeyError ?_)
    rw [if_pos rfl]
    exact wpAny_bind (wpAny_rule (wpAny_pure (hQ h' _ hx.keeps)))
theorem tl_drop {t : Addr} {Q : Builtin.Str.Mapped → Shared → Prop} (ht : s.heap.DictOf (intKind prog w) t [(46, .none)])
    (hQ : ∀ tk', Q .drop { s with toks := tk' }) : wpAny (model prog w) A (Builtin.Str.tableLookup (.ref t) 46) Q E s := by
  unfold Builtin.Str.tableLookup
  refine wpAny_bind (wpAny_attempt (wpAny_bind (wpAny_mkInt ?_)))
  refine wpAny_getItem_of (knd := intKind prog w) (k := 46) (v := .none) (s := { s with toks := s.toks + 1 }) (intKind_is ..) ht.mapOf ?_ ?_
  · unfold valueAt
    rw [List.find?_cons_of_pos]
    · rfl
    · simp
  · exact wpAny_pure (hQ _)
noncomputable abbrev TlS := List Str × Nat × Bool × List (Nat × Option Nat) × Bool
noncomputable def TlIn (prog : Program) (w : World) (t : Addr) (h : Heap) : Prop := h.DictOf (intKind prog w) t [(46, .none)]
theorem TlIn.grow {t : Addr} {h h' : Heap} (x : TlIn prog w t h) (g : Grows h h') : TlIn prog w t h' := Heap.DictOf.keep x g
theorem tl_fold {t : Addr} {f : Nat → TlS → Sem (ForInStep TlS)} {Q : TlS → Shared → Prop}
    (hk : ∀ c (P : List Str) n ad (Q' : ForInStep TlS → Shared → Prop) s, TlIn prog w t s.heap → n ≤ 1000 → c ≠ 46 → (∀ h' tk', Grows s.heap h' → Q' (.yield (⟨#[c]⟩ :: P, n + 1, false, [], false)) { s with heap := h', toks := tk' }) → wpAny (model prog w) A (f c (P, n, false, [], ad)) Q' E s)
    (hd : ∀ (P : List Str) n ad (Q' : ForInStep TlS → Shared → Prop) s, TlIn prog w t s.heap → n ≤ 1000 → (∀ tk', Q' (.yield (P, n, false, [], true)) { s with toks := tk' }) → wpAny (model prog w) A (f 46 (P, n, false, [], ad)) Q' E s) :
    ∀ (l : List Nat) (P : List Str) n ad (s : Shared), TlIn prog w t s.heap → n + l.length ≤ 1000 →
      (∀ n' ad' h' tk', Grows s.heap h' → n' ≤ 1000 → Q (((l.filter (· != 46)).map fun c => (⟨#[c]⟩ : Str)).reverse ++ P, n', false, [], ad') { s with heap := h', toks := tk' }) → wpAny (model prog w) A (forIn l (P, n, false, [], ad) f) Q E s
  | [], P, n, ad, s, T, hn, hQ => wpAny_pure (by simpa using hQ n ad s.heap s.toks (fun _ _ e => e) (by simpa using hn))
  | c :: l, P, n, ad, s, T, hn, hQ => by
    simp only [List.length_cons] at hn
    rw [List.forIn_cons]
    by_cases hc : c = 46
    · subst hc
      refine wpAny_bind (hd P n ad _ s T (by omega) fun tk' => ?_)
      refine tl_fold hk hd l P n true _ T (by omega) fun n' ad' h' tk'' g hn' => ?_
      have := hQ n' ad' h' tk'' g hn'
      simpa using this
    · refine wpAny_bind (hk c P n ad _ s T (by omega) hc fun h' tk' g => ?_)
      refine tl_fold hk hd l (⟨#[c]⟩ :: P) (n + 1) false _ (T.grow g) (by omega) fun n' ad' h'' tk'' g' hn' => ?_
      have := hQ n' ad' h'' tk'' (g.trans g') hn'
      rw [List.filter_cons_of_pos (by simpa using hc)] at this
      simpa using this
theorem tl_pieces (l : List Nat) : ∀ acc : Array Nat, ((l.map fun c => (⟨#[c]⟩ : Str)).foldl (fun acc p => acc ++ p.cps) acc).toList = acc.toList ++ l := by
  induction l with
  | nil => intro acc; simp
  | cons c l ih => intro acc; rw [List.map_cons, List.foldl_cons, ih]; simp
theorem tl_call {x : Str} {tx : Tok} {t : Addr} : checkBuiltinCall "str.translate" ⟨[.str x tx, .ref t], []⟩ = pure () := by kernel_rfl
theorem tl_plain : plainId "str.translate" = true := by decide +kernel
theorem tl_strOne {x : Str} {tx : Tok} {t : Addr} : Builtin.Str.strOneArg "translate" ⟨[.str x tx, .ref t], []⟩ = pure (.str x tx, x, .ref t) := by kernel_rfl
theorem tl_run {x : Str} {tx : Tok} {t : Addr} (hh : A.handled = none) (ht : s.heap.DictOf (intKind prog w) t [(46, .none)]) (htS : (t == sysModules) = false) (hx : x.length ≤ 1000) (h1 : 1 ≤ x.length) (hw : x.cps.all (· < 128) = false)
    (hQ : ∀ t' h' tk', Grows s.heap h' → Q (.str ⟨x.cps.filter (· != 46)⟩ t') { s with heap := h', toks := tk' }) :
    wpAny (model prog w) A (call (.builtin "str.translate") [.str x tx, .ref t]) Q E s := by
  refine wpAny_call (codeAny_call_builtin tl_plain tl_entry (wpAny_of_eq tl_call ?_))
  unfold Builtin.«str.translate»
  refine wpAny_bind (wpAny_of_eq tl_strOne ?_)
  dsimp only
  rw [if_neg (by simp; omega), hw, ← Array.forIn_toList]
  refine wpAny_bind ?_
  refine tl_fold (t := t) ?_ ?_ x.cps.toList [] 0 false s ht (by have : x.cps.toList.length = x.length := Array.length_toList; omega) ?_
  · intro c P n ad Q' s' T hn hc hq
    have tl : Builtin.Str.tooLong n = false := by unfold Builtin.Str.tooLong; rw [decide_eq_false_iff_not, sizeLine_eq]; omega
    dsimp only
    rw [tl, if_neg (by decide), if_neg (by decide)]
    cases ad with
    | false =>
      rw [if_neg (by decide)]
      exact wpAny_bind (tl_keep hh T htS hc fun h' tk' g => wpAny_pure (hq h' tk' g))
    | true =>
      rw [if_pos rfl]
      refine wpAny_bind (tl_keep hh T htS hc fun h' tk' g => ?_)
      exact wpAny_bind (tl_keep (s := { s' with heap := h', toks := tk' }) hh (T.grow g) htS hc fun h'' tk'' g' => wpAny_pure (hq h'' tk'' (g.trans g')))
  · intro P n ad Q' s' T hn hq
    have tl : Builtin.Str.tooLong n = false := by unfold Builtin.Str.tooLong; rw [decide_eq_false_iff_not, sizeLine_eq]; omega
    dsimp only
    rw [tl, if_neg (by decide), if_neg (by decide)]
    cases ad with
    | false =>
      rw [if_neg (by decide)]
      exact wpAny_bind (tl_drop T fun tk' => wpAny_pure (hq tk'))
    | true =>
      rw [if_pos rfl]
      exact wpAny_bind (tl_drop T fun tk' => wpAny_pure (hq tk'))
  · intro n' ad' h' tk' g hn'
    have tl : Builtin.Str.tooLong n' = false := by unfold Builtin.Str.tooLong; rw [decide_eq_false_iff_not, sizeLine_eq]; omega
    dsimp only
    rw [tl, if_neg (by decide)]
    have e : ((((x.cps.toList.filter (· != 46)).map fun c => (⟨#[c]⟩ : Str)).reverse ++ []).reverse.foldl (fun (acc : Array Nat) (p : Str) => acc ++ p.cps) #[]) = x.cps.filter (· != 46) := by
      apply Array.ext'
      rw [List.append_nil, List.reverse_reverse, tl_pieces]
      simp
    unfold retStr
    rw [e]
    refine wpAny_bind (wpAny_mkStr (wpAny_pure (hQ _ h' _ g)) ?_)
    rw [sizeLine_eq]
    have : (x.cps.filter (· != 46)).size ≤ x.cps.size := Array.size_filter_le
    have hx' : x.cps.size ≤ 1000 := hx
    show (x.cps.filter (· != 46)).size ≤ _
    omega
end
noncomputable abbrev wc0 : Str := Str.ofString "abcdfeghijklmnopqrstuvwxyzABCDEFGHIJKLMNOPQRSTUVWXYZ0123456789_ßàáâãäåæçèéêëìíîïðñòóôõöøùúûüýþÿÀÁÂÃÄÅÆÇÈÉÊËÌÍÎÏÐÑÒÓÔÕÖØÙÚÛÜÝÞ~-./*?="
noncomputable abbrev wc1 : Str := Str.ofString "abcdfeghijklmnopqrstuvwxyzABCDEFGHIJKLMNOPQRSTUVWXYZ0123456789_ßàáâãäåæçèéêëìíîïðñòóôõöøùúûüýþÿÀÁÂÃÄÅÆÇÈÉÊËÌÍÎÏÐÑÒÓÔÕÖØÙÚÛÜÝÞ~-/*?="
theorem wc_drop : (⟨wc0.cps.filter (· != 46)⟩ : Str) = wc1 := by decide +kernel
theorem wc_wide : wc0.cps.all (· < 128) = false := by decide +kernel
theorem wc_len : wc0.length ≤ 1000 := by decide +kernel
theorem wc_pos : 1 ≤ wc0.length := by decide +kernel
theorem slot_str_ga : Slot "str" "__getattribute__" "object.__getattribute__" :=
  .of (owner := "object") (n := "__getattribute__") (by rw [typeLookup_type, builtinLookup_eq_fast]; kernel_rfl) (by decide +kernel) (by decide +kernel) (by decide +kernel)
    (by first | exact .inl (by decide +kernel) | exact .inr (by decide +kernel)) (by rw [isSubtype_type]; kernel_rfl)
theorem entry_ga : entryFor table "object.__getattribute__" = some Builtin.«object.__getattribute__» := entryFor_of_tree (by kernel_rfl)
theorem args_ga (a b : Value) : argsOk "object.__getattribute__" ⟨[a, b], []⟩ := by unfold argsOk; kernel_rfl
theorem look_ga (M : Model) (h : Heap) (x : Str) (t u : Tok) : Looks M h (Builtin.«object.__getattribute__» ⟨[.str x t, .str "maketrans" u], []⟩) (.done (.ret (.builtin "str.maketrans"))) :=
  Looks.of_peek (K := []) (fun _ _ e => nomatch e) (by kernel_rfl)
theorem type_mt : typeOf (.builtin "str.maketrans") = pure (.type "builtin_function_or_method") := by show builtinType _ = _; rw [builtinType_eq_fast]; kernel_rfl
section
variable {prog : Program} {w : World} {A : Around} {E : Value → Shared → Prop} {s : Shared}
theorem ga_maketrans {x : Str} {t : Tok} {ex : Bool} {Q : Value → Shared → Prop} (h : ∀ k, Q (.builtin "str.maketrans") { s with toks := k }) : wpAny (model prog w) A (getAttr (.str x t) "maketrans" ex) Q E s := by
  unfold getAttr
  refine wpAny_bind (wpAny_mkText ?_)
  unfold getAttrBy
  refine wpAny_holding (wpAny_bind (wpAny_typeOf (typeIs_str _ x t) ?_))
  refine wpAny_bind (wpAny_of_eq slot_str_ga.lookup ?_)
  dsimp only
  rw [if_neg (by decide)]
  unfold getAttrByItsOwn hookBefore
  refine wpAny_bind ?_
  rw [if_neg (by decide)]
  refine wpAny_pure (wpAny_bind (wpAny_attempt (wpAny_holding ?_)))
  unfold callGetattribute
  rw [if_neg (by simp [onTheHeap])]
  unfold boundAndCalled
  refine wpAny_bind (wpAny_of_eq (slot_str_ga.bind _) ?_)
  refine wpAny_call_entry slot_str_ga (typeIs_str _ x t) entry_ga ?_ (args_ga _ _)
  refine (look_ga _ _ x t _).here ⟨_, rfl, ?_⟩
  unfold handedOut
  exact wpAny_pure (h _)
theorem lookup_mt : typeLookup (.type "str") "maketrans" = pure (some (.builtin "str.maketrans")) := by rw [typeLookup_type, builtinLookup_eq_fast]; kernel_rfl
theorem noGa_str : typeLookup (.type "str") "__getattr__" = pure none := by rw [typeLookup_type, builtinLookup_eq_fast]; kernel_rfl
theorem gm_maketrans {x : Str} {t : Tok} {pl : Sem Bool} {Q : Value × List Value → Shared → Prop} (h : ∀ k, Q (.builtin "str.maketrans", []) { s with toks := k }) : wpAny (model prog w) A (getMethod (.str x t) "maketrans" pl) Q E s := by
  unfold getMethod
  refine wpAny_bind (wpAny_specialOf (typeIs_str _ x t) slot_str_ga.lookup ?_)
  dsimp only
  rw [if_neg (by decide +kernel)]
  refine wpAny_bind (wpAny_specialOf (typeIs_str _ x t) noGa_str ?_)
  rw [if_neg (by decide)]
  refine wpAny_bind (wpAny_specialOf (typeIs_str _ x t) lookup_mt ?_)
  dsimp only
  refine wpAny_bind (wpAny_of_eq type_mt ?_)
  rw [if_pos (by decide)]
  exact wpAny_bind (ga_maketrans fun k => wpAny_pure (h k))
theorem type_fk : typeOf (.builtin "dict.fromkeys") = pure (.type "classmethod_descriptor") := by show builtinType _ = _; rw [builtinType_eq_fast]; kernel_rfl
theorem owner_fk : (kfb_private% "ownerAndName") "dict.fromkeys" = ("dict", "fromkeys") := by first | decide +kernel | kernel_rfl
theorem isType_dict : isType (.type "dict") = pure true := by kernel_rfl
theorem fk_get {P : Fin → Shared → Prop} {M : Model} (h : P (.done (.ret (.ref s.heap.objs.size))) { s with heap := s.heap.push fkBound }) :
    wpAny M A (Builtin.«classmethod_descriptor.__get__» ⟨[.builtin "dict.fromkeys", .none, .type "dict"], []⟩) P E s := by
  unfold Builtin.«classmethod_descriptor.__get__»
  refine wpAny_bind (wpAny_of_eq (a := (.builtin "dict.fromkeys", none, some (.type "dict"))) (by first | rfl | kernel_rfl) ?_)
  simp only [owner_fk]
  refine wpAny_bind (wpAny_of_eq (a := .type "dict") rfl ?_)
  refine wpAny_bind (wpAny_of_eq (a := true) isType_dict ?_)
  refine KFB.if_not rfl ?_
  refine wpAny_bind (wpAny_of_eq (a := true) F.kt_sub_dict ?_)
  refine KFB.if_not rfl ?_
  exact wpAny_bind (wpAny_newObj_type (wpAny_pure h))
theorem fk_getm {K : Frag} {h₀ : Heap} {L : Addr} {m : Str → Option Value} {news : List (Addr × Obj)} {pl : Sem Bool} {Q : Value × List Value → Shared → Prop} (F : Fr h₀ L s.heap m) (N : News h₀ L s.heap news) (X₀ : K.In h₀)
    (h : ∀ x h', Fr h₀ L h' m → News h₀ L h' ((x, fkBound) :: news) → (∀ p ∈ news, p.1 < x) → Q (.ref x, []) { s with heap := h', toks := s.toks + 1 }) :
    wpAny (model prog w) A (getMethod (.type "dict") "fromkeys" pl) Q E s := by
  have e : findCls K (.type "dict") (.type "type") "fromkeys" = some (.get (.builtin "classmethod_descriptor.__get__") (.builtin "dict.fromkeys") .none (.type "dict")) := by kernel_rfl
  have X := X₀.keeps F.keep
  have hstub : opaqueClassAbove (.type "dict") = pure none := by unfold opaqueClassAbove; dsimp only; rw [show Manifest.isStub "dict" = false by decide +kernel]; rfl
  have ht : typeOf (.type "dict") = pure (.type "type") := by first | rfl | kernel_rfl
  have L0 : Looks (model prog w) s.heap (typeOf (.type "dict")) (.type "type") := Looks.of_pure ht
  have hg : findIn K (.type "type") "__getattribute__" = some (some (.builtin "type.__getattribute__")) := type_tga
  unfold getMethod specialOf
  refine wpAny_bind (wpAny_bind (L0.here ((looks_findIn X hg).here ?_)))
  dsimp only
  rw [if_pos canon_tga]
  refine wpAny_bind (wpAny_mono (Q := fun v => Q (v, [])) (E := E) ?_ (fun _ _ z => wpAny_pure z) fun _ _ z => z)
  have LO : Looks (model prog w) s.heap (opaqueClassAbove (.type "dict")) none := Looks.of_pure hstub
  refine cls_open X LO L0 hg (looks_hook X (r := none) (by rfl)) (by show subIn K _ _ = _; rfl) e ?_
  show wpAny _ _ (holding [.builtin "dict.fromkeys"] (call (.builtin "classmethod_descriptor.__get__") [.builtin "dict.fromkeys", .none, .type "dict"]) >>= fun v => ret v) _ _ _
  exact wpAny_bind (wpAny_holding (wpAny_call_entry KFB.slot_get type_fk KFB.entry_get (fk_get ⟨_, rfl, wpAny_pure (wpAny_pure (h _ _ (F.push _) (News.push F N _) fun p hp => Heap.lt_size (N p hp).1))⟩) (KFB.args_get _ _ _)))
end
section
variable {prog : Program} {w : World} {A : Around} {E : Value → Shared → Prop} {s : Shared} {Q : Value → Shared → Prop} {tp : Tok} {h₀ : Heap} {L d t : Addr} {m : Str → Option Value} {news : List (Addr × Obj)} {o : Obj}
theorem fr_grows {h h' : Heap} (F : Fr h₀ L h m) (g : Grows h h') : Fr h₀ L h' m := ⟨F.ns.keeps g, fun b o e => g _ _ (F.keep b o e), F.above⟩
theorem nw_grows {h h' : Heap} (N : News h₀ L h news) (g : Grows h h') : News h₀ L h' news := fun p hp => ⟨g _ _ (N p hp).1, (N p hp).2⟩
theorem nw_top {h' : Heap} (F : Fr h₀ L s.heap m) (N : News h₀ L s.heap news) (g : Grows s.heap h') (ho : h'.get? s.heap.objs.size = some o) : News h₀ L h' ((s.heap.objs.size, o) :: news) := fun p hp => by
  rcases List.mem_cons.mp hp with rfl | hp
  · refine ⟨ho, Nat.ne_of_gt F.ns.lt, ?_⟩
    cases q : h₀.get? s.heap.objs.size with
    | none => rfl
    | some o' => exact absurd (Heap.lt_size (F.keep _ _ q)) (Nat.lt_irrefl _)
  · exact nw_grows N g p hp
theorem callWith_fk {K : Frag} {pos : Pos} {u : Addr} {first : List Value} {env : Env} {e : PySem.Expr} {rest : List PySem.Expr} {Q : Value → Shared → Prop} (_X : K.In h₀) (_N : News h₀ L s.heap news) (_hm : (u, fkBound) ∈ news)
    (h : wpAny (model prog w) A (spliced (backTo pos (starEach (e :: rest) env))) (fun vs s₁ => s₁.heap.get? u = some fkBound ∧ wpAny (model prog w) A (call (.ref u) (first ++ vs)) Q E s₁) E s)
    (he : starEach (e :: rest) env = (false, eval e env) :: starEach rest env := by rfl) (hplain : (backTo pos (starEach rest env)).any (·.1) = false := by rfl) :
    wpAny (model prog w) A (callWith pos (.ref u) first (backTo pos (starEach (e :: rest) env)) []) Q E s := by
  rw [he] at h ⊢
  refine callWith_of (P := fun h => h.get? u = some fkBound) (by show ((false || (backTo pos (starEach rest env)).any (·.1)) || false) = false; rw [hplain]; rfl)
    (fun h X => ⟨.machine, .inr (.inl rfl), (Looks.ld (part := none) X).andThen .now⟩) (evalArgs_plain h)
theorem fk_K {u : Addr} (F : Fr h₀ L s.heap m) (N : News h₀ L s.heap news) (hu : (u, fkBound) ∈ news) (hh : A.handled = none) (hbig : 1 < h₀.objs.size)
    (h : ∀ d o h' tk', Fr h₀ L h' m → News h₀ L h' ((d, o) :: news) → o.IsDictOf (strKind prog w) [(".", .none)] → (d == sysModules) = false → (∀ p ∈ news, p.1 < d) → Q (.ref d) { s with heap := h', toks := tk' }) :
    wpAny (model prog w) A (call (.ref u) [.str "." tp]) Q E s := by
  refine fk_dot (N _ hu).1 hh (Nat.lt_of_lt_of_le hbig (Nat.le_trans F.above (Nat.le_of_lt F.ns.lt))) fun h' tk' g hd hS => ?_
  obtain ⟨o, ho, hi⟩ := Heap.dictOf_iff.mp hd
  exact h _ o h' tk' (fr_grows F g) (nw_top F N g ho) hi hS fun p hp => Heap.lt_size (N p hp).1
theorem tr_K (F : Fr h₀ L s.heap m) (N : News h₀ L s.heap news) (hm : (d, o) ∈ news) (hi : o.IsDictOf (strKind prog w) [(".", .none)]) (hS : (d == sysModules) = false) (hbig : 1 < h₀.objs.size)
    (h : ∀ t o h' tk', Fr h₀ L h' m → News h₀ L h' ((t, o) :: news) → o.IsDictOf (intKind prog w) [(46, .none)] → (t == sysModules) = false → (∀ p ∈ news, p.1 < t) → Q (.ref t) { s with heap := h', toks := tk' }) :
    wpAny (model prog w) A (call (.builtin "str.maketrans") [.ref d]) Q E s := by
  refine tr_make (Heap.dictOf_iff.mpr ⟨o, (N _ hm).1, hi⟩) hS fun h' tk' g hd => ?_
  obtain ⟨o, ho, hi⟩ := Heap.dictOf_iff.mp hd
  refine h _ o h' tk' (fr_grows F g) (nw_top F N g ho) hi ?_ fun p hp => Heap.lt_size (N p hp).1
  rw [beq_eq_false_iff_ne]
  exact Nat.ne_of_gt (Nat.lt_of_lt_of_le hbig (Nat.le_trans F.above (Nat.le_of_lt F.ns.lt)))
theorem tl_K {tx : Tok} (F : Fr h₀ L s.heap m) (N : News h₀ L s.heap news) (hh : A.handled = none) (hm : (t, o) ∈ news) (hi : o.IsDictOf (intKind prog w) [(46, .none)]) (hS : (t == sysModules) = false)
    (h : ∀ t' h' tk', Fr h₀ L h' m → News h₀ L h' news → Q (.str wc1 t') { s with heap := h', toks := tk' }) :
    wpAny (model prog w) A (call (.builtin "str.translate") [.str wc0 tx, .ref t]) Q E s := by
  refine tl_run hh (Heap.dictOf_iff.mpr ⟨o, (N _ hm).1, hi⟩) hS wc_len wc_pos wc_wide fun t' h' tk' g => ?_
  rw [wc_drop]
  exact h t' h' tk' (fr_grows F g) (nw_grows N g)
end
theorem slot_str_tl : Slot "str" "translate" "str.translate" :=
  .of (owner := "str") (n := "translate") (by rw [typeLookup_type, builtinLookup_eq_fast]; kernel_rfl) (by decide +kernel) (by decide +kernel) (by decide +kernel)
    (by first | exact .inl (by decide +kernel) | exact .inr (by decide +kernel)) (by rw [isSubtype_type]; kernel_rfl)
theorem type_tl : typeOf (.builtin "str.translate") = pure (.type "method_descriptor") := by show builtinType _ = _; rw [builtinType_eq_fast]; kernel_rfl
theorem gm_translate {M : Model} {A : Around} {E : Value → Shared → Prop} {s : Shared} {x : Str} {t : Tok} {pl : Sem Bool} {Q : Value × List Value → Shared → Prop} (h : Q (.builtin "str.translate", [.str x t]) s) : wpAny M A (getMethod (.str x t) "translate" pl) Q E s :=
  getMethod_builtin (typeIs_str _ x t) F.plainAttrs_str slot_str_tl type_tl (fun _ e => nomatch e) h
theorem big_of {w : World} {h : Heap} (X : (hd.heap_1 w.params).In h) : 1 < h.objs.size := by
  have e : ((hd.heap_1 w.params).lookup 804).isSome = true := by kernel_rfl
  obtain ⟨o, ho⟩ := Option.isSome_iff_exists.mp e
  exact Nat.lt_trans (by decide) (Heap.lt_size (X _ _ ho))
end OyMine
end
section
open PySem PySem.W PyProof.Rows PySem.Calls PySem.Builtin
set_option maxRecDepth 100000
set_option genInjectivity false
set_option genSizeOf false
set_option genSizeOfSpec false
namespace OyMine
/-- where a lexer lies, and the tokens of its fields' names and of the values that stay -/
structure LexA where
  x : Addr
  dx : Addr
  st : Addr
  ds : Addr
  pb : Addr
  fs : Addr
  pp : Addr
  (k0 k1 k2 k3 k4 k5 k6 k7 k8 k9 k10 k11 k12 k13 k14 k15 k16 k17 k18 k19 : Tok)
  (c4 c5 c6 c8 c9 c10 c14 c18 : Tok)
  (s0 s1 s2 sb : Tok)
structure LexA.Ok (ℓ : LexA) : Prop where
  o1 : @LT.lt Nat _ ℓ.dx ℓ.x
  o2 : @LT.lt Nat _ ℓ.x ℓ.ds
  o3 : @LT.lt Nat _ ℓ.ds ℓ.st
  o4 : @LT.lt Nat _ ℓ.st ℓ.pb
  o5 : @LT.lt Nat _ ℓ.pb ℓ.fs
  o6 : @LT.lt Nat _ ℓ.fs ℓ.pp
/-- what turns in a lexer -/
structure LexC where
  sv : Value
  tok : Str
  tt : Tok
  line : Int
  tl : Tok
  pos : Nat
  tp : Tok
  pn : Int
  pushed : List Value
noncomputable abbrev lexDict (w : World) (ℓ : LexA) (sv tokv linv : Value) : Obj :=
  dictOf [⟨PyData.keyHash w.params "instream", .str "instream" ℓ.k0, .ref ℓ.st⟩,
    ⟨PyData.keyHash w.params "infile", .str "infile" ℓ.k1, .none⟩,
    ⟨PyData.keyHash w.params "posix", .str "posix" ℓ.k2, .bool true⟩,
    ⟨PyData.keyHash w.params "eof", .str "eof" ℓ.k3, .none⟩,
    ⟨PyData.keyHash w.params "commenters", .str "commenters" ℓ.k4, .str "#" ℓ.c4⟩,
    ⟨PyData.keyHash w.params "wordchars", .str "wordchars" ℓ.k5, .str wc1 ℓ.c5⟩,
    ⟨PyData.keyHash w.params "whitespace", .str "whitespace" ℓ.k6, .str " \t\r\n" ℓ.c6⟩,
    ⟨PyData.keyHash w.params "whitespace_split", .str "whitespace_split" ℓ.k7, .bool false⟩,
    ⟨PyData.keyHash w.params "quotes", .str "quotes" ℓ.k8, .str "'\"" ℓ.c8⟩,
    ⟨PyData.keyHash w.params "escape", .str "escape" ℓ.k9, .str "\\" ℓ.c9⟩,
    ⟨PyData.keyHash w.params "escapedquotes", .str "escapedquotes" ℓ.k10, .str "\"" ℓ.c10⟩,
    ⟨PyData.keyHash w.params "state", .str "state" ℓ.k11, sv⟩,
    ⟨PyData.keyHash w.params "pushback", .str "pushback" ℓ.k12, .ref ℓ.pb⟩,
    ⟨PyData.keyHash w.params "lineno", .str "lineno" ℓ.k13, linv⟩,
    ⟨PyData.keyHash w.params "debug", .str "debug" ℓ.k14, .int 0 ℓ.c14⟩,
    ⟨PyData.keyHash w.params "token", .str "token" ℓ.k15, tokv⟩,
    ⟨PyData.keyHash w.params "filestack", .str "filestack" ℓ.k16, .ref ℓ.fs⟩,
    ⟨PyData.keyHash w.params "source", .str "source" ℓ.k17, .none⟩,
    ⟨PyData.keyHash w.params "_punctuation_chars", .str "_punctuation_chars" ℓ.k18, .str "." ℓ.c18⟩,
    ⟨PyData.keyHash w.params "_pushback_chars", .str "_pushback_chars" ℓ.k19, .ref ℓ.pp⟩] 20
noncomputable abbrev lexObjs (w : World) (ℓ : LexA) (buf : List Nat) (c : LexC) : List (Addr × Obj) :=
  [(ℓ.x, instObj 758 ℓ.dx), (ℓ.dx, lexDict w ℓ c.sv (.str c.tok c.tt) (.int c.line c.tl)), (ℓ.st, instObj 623 ℓ.ds), (ℓ.ds, sioDict w ℓ.s0 ℓ.s1 ℓ.s2 (.str (mk buf) ℓ.sb) (.int (c.pos : Int) c.tp)),
    (ℓ.pb, dqObj 0 []), (ℓ.fs, dqObj 0 []), (ℓ.pp, dqObj c.pn c.pushed)]
noncomputable abbrev LexA.adr (ℓ : LexA) : List Addr := [ℓ.x, ℓ.dx, ℓ.st, ℓ.ds, ℓ.pb, ℓ.fs, ℓ.pp]
/-- a call that turns the lexer and lets all else stand -/
noncomputable def LexCall (w : World) (ℓ : LexA) (buf : List Nat) (f : Addr) (D U : Nat) (args : List Value) (c : LexC) (R : Value → LexC → Prop) : Prop :=
  AtAny w D U fun A h₀ L m news s => ∀ rest, OwnOff rest ℓ.adr → news = lexObjs w ℓ buf c ++ rest → ∀ Q E : Value → Shared → Prop,
    (∀ r c' h' tk', Fr h₀ L h' m → News h₀ L h' (lexObjs w ℓ buf c' ++ rest) → R r c' → Q r { s with heap := h', toks := tk' }) → wpAny (model PySem.Challenge.rw_oy0315_01.row.prog w) A (call (.ref f) args) Q E s
theorem slice_at {buf : List Nat} {p ch : Nat} (h : buf[p]? = some ch) : Txt.slice (mk buf) (some (p : Int)) (some ((p : Int) + 1)) = mk [ch] := by
  have hp : p < buf.length := (List.getElem?_eq_some_iff.mp h).1
  have e := StrLaws.sliceText_nat (mk buf) (a := p) (b := p + 1) (by omega) (by rw [mk_len]; omega)
  refine (show Txt.slice (mk buf) (some (p : Int)) (some ((p : Int) + 1)) = StrLaws.sliceText (mk buf) (some (p : Int)) (some ((p + 1 : Nat) : Int)) from rfl).trans (e.trans ?_)
  have e2 : ((mk buf).cps.toList.drop p).take (p + 1 - p) = [ch] := by
    rw [mk_list, show p + 1 - p = 1 by omega, List.drop_eq_getElem_cons hp, List.take_succ_cons, List.take_zero]
    rw [(List.getElem?_eq_some_iff.mp h).2]
  rw [e2]
theorem slice_last {buf : List Nat} {p ch : Nat} (h : buf[p]? = some ch) (hl : (((mk buf).length : Nat) : Int) ≤ (p : Int) + 1) : Txt.slice (mk buf) (some (p : Int)) (some (((mk buf).length : Nat) : Int)) = mk [ch] := by
  have hp : p < buf.length := (List.getElem?_eq_some_iff.mp h).1
  rw [mk_len] at hl ⊢
  have : ((buf.length : Nat) : Int) = (p : Int) + 1 := by omega
  rw [this]
  exact slice_at h
theorem all_cons {q : Addr × Obj} {l N : List (Addr × Obj)} (h : q ∈ N) (r : ∀ p ∈ l, p ∈ N) : ∀ p ∈ q :: l, p ∈ N := fun p hp => by
  rcases List.mem_cons.mp hp with rfl | hp
  · exact h
  · exact r p hp
end OyMine
end
section
open PySem PySem.W PyProof.Rows PySem.Builtin PySem.Builtin.Re
set_option maxRecDepth 100000
set_option genInjectivity false
set_option genSizeOf false
set_option genSizeOfSpec false
namespace OyMine
theorem words_LexAttr_0 : True := by
  w_top off
  k_with_none
  k_with "my omega" => (first
    | with_reducible assumption
    | with_reducible exact Nat.ne_of_lt (by assumption)
    | with_reducible exact Nat.ne_of_gt (by assumption)
    | decide
    | with_reducible exact Nat.le_refl _
    | with_reducible exact Nat.zero_le _
    | with_reducible exact Nat.le_add_right _ _
    | with_reducible exact Nat.le_add_left _ _
    | with_reducible exact Nat.lt_succ_self _
    | with_reducible exact Nat.le_succ _
    | with_reducible exact Nat.succ_pos _
    | with_reducible exact Nat.zero_add _
    | with_reducible exact q4
    | with_reducible exact q8
    | with_reducible exact Nat.le_of_lt (by assumption)
    | with_reducible exact Nat.le_of_succ_le (by assumption)
    | with_reducible exact Nat.le_of_succ_le_succ (by assumption)
    | with_reducible exact Nat.not_lt.mp (by assumption)
    | with_reducible exact Nat.lt_succ_of_le (by assumption)
    | with_reducible exact Nat.le_succ_of_le (by assumption)
    | with_reducible exact Nat.succ_le_of_lt (by assumption)
    | with_reducible exact q1 (by assumption)
    | with_reducible exact q2 (by assumption)
    | with_reducible exact q3 (by assumption)
    | with_reducible exact q5 (by assumption)
    | with_reducible exact q7 (by assumption)
    | with_reducible exact q6 (by assumption) (by assumption)
    | with_reducible exact absurd (by assumption) (Nat.not_lt.mpr (by assumption))
    | (with_reducible refine room_le (by assumption) ?_; with_unfolding_all rfl)
    | (with_reducible refine room_lt (by assumption) ?_; with_unfolding_all rfl)
    | (with_reducible refine room_le0 (by assumption) ?_; with_unfolding_all rfl)
    | ((fail_if_success (with_reducible show _ ≠ _)); (rename _ ∧ _ => cW9; clear cW9); (repeat (rename _ ∧ _ => cW9; clear cW9)); omega)
    | fail "no")
  k_with "my execs cons" => (k_here; refine wpAny_execs_cons ?_; k_fold)
  trivial
theorem words_LexAttr_1 : True := by
  k_with "my k_room" => (first | exact Nat.le_of_ble_eq_true rfl | ((try simp only [duk, depth_under_make, depth_under_kw, depth_in1, depth_deeper, depth_caller, recursionLimit]); (try dsimp only [ktrTop]); (try simp only [recursionLimit]); omega))
  k_with "my ktr_room" => (k_room)
  k_with "my k_units" => (first | exact Nat.le_of_ble_eq_true rfl | ((have hcL9W9 := cLine_is); (try simp only [uuk, units_in1, units_deeper, Around.mark_units, units_caller]); (try dsimp only [ktrTop]); omega))
  k_with "my units_room" => (first | exact Nat.le_of_ble_eq_true rfl | ((have hcL9W9 := cLine_is); (try simp only [uuk, units_in1, units_deeper, Around.mark_units, units_caller]); (try dsimp only [ktrTop]); omega))
  k_with "my k_enter" => ((refine' code_def ?k1W9 ?k2W9 ?k3W9 ?k4W9 ?k5W9 ?kAW9 ?kFW9 ?kKW9 ?k6W9 ?k7W9 ?k8W9 ?k9W9 ?kBW9 ?_ ?c2W9 ?c3W9 ?c4W9 ?c5W9; (case kAW9 => exact rfl); (case kFW9 => exact rfl); (case kKW9 => first | exact rfl | assumption); (case k1W9 => k_asm); (case k2W9 => k_asm); (case k3W9 => k_asm); (case k4W9 => k_asm); (case k5W9 => k_asm); (case k6W9 => k_is); (case k7W9 => k_is); (case k8W9 => k_room); (case k9W9 => first | exact BindsTo.of_eq rfl | exact binds_K (by k_in) rfl (by k_is) rfl rfl rfl | fail "k_enter: no rule for these arguments"); (case c5W9 => decide); (case kBW9 => exact locs rfl); (case c2W9 => exact rfl); (case c3W9 => exact rfl); (case c4W9 => exact rfl); k_whole; intro g'W9 L'W9 h'W9 FG'W9 F'W9 N'W9 B'W9 X'W9 T'W9; (try dsimp only); (try k_lift B'W9); (try k_fold)))
  k_with "my getMethod ref" => ((k_here; (with_reducible show wpAny _ _ (getMethod (Value.ref _) (Str.ofString "sub") _) _ _ _); k_dflt (refine' meth_sub ?FW9 ?XW9 ?eW9 ?cW9 ?dW9 ?_; (case FW9 => k_asm); (case XW9 => k_asm); (case eW9 => k_is); (case cW9 => exact rfl); (case dW9 => exact rfl); k_whole)))
  k_with "my call builtin:re.Pattern.sub" => ((k_here; k_dflt (first
    | (refine' sub54_K ?FW9 ?XW9 ?NW9 ?xW9 ?_; (case FW9 => k_asm); (case XW9 => k_asm); (case NW9 => k_asm); (case xW9 => first | exact nl_fits (by assumption) | omega); k_whole; intro t'W9 h'W9 tk'W9 F'W9 N'W9; (try k_sweep))
    | (refine' sub49_K ?FW9 ?XW9 ?NW9 ?xW9 ?_; (case FW9 => k_asm); (case XW9 => k_asm); (case NW9 => k_asm); (case xW9 => first | exact nl_fits (by assumption) | omega); k_whole; intro t'W9 h'W9 tk'W9 F'W9 N'W9; (try k_sweep)))))
  k_with "my call ref" => ((k_here; (with_reducible show wpAny _ _ (call (Value.ref 763) [Value.str _ _]) _ _ _); k_dflt (refine' search_K ?FW9 ?XW9 ?NW9 ?xW9 ?jW9 ?uW9 ?_; (case FW9 => k_asm); (case XW9 => k_asm); (case NW9 => k_asm); (case xW9 => omega); (case jW9 => assumption); (case uW9 => assumption); k_whole; intro a'W9 h'W9 F'W9 N'W9; (try k_sweep))))
  k_with "my kt_len" => (with_reducible assumption)
  k_with "my truthy str" => ((k_here; (with_reducible show wpAny _ _ (PySem.truthy (Value.str _ _)) _ _ _); (refine' KXt.truthy_pos (K := 16777216) ?kxtaW9 ?kxtbW9 (Nat.le_refl _) ?_; (case kxtaW9 => with_reducible assumption); (case kxtbW9 => omega)); intro _))
  k_with "my callWith ref" => ((k_here; (with_reducible show wpAny _ _ (callWith _ (Value.ref 763) _ _ _) _ _ _); k_dflt (refine' callWith_763 ?k1W9 ?_; (case k1W9 => k_asm); k_whole)))
  k_with "my call builtin:str.replace" => ((k_here; (with_reducible show wpAny _ _ (call (Value.builtin "str.replace") [Value.str _ _, Value.str (Str.ofString "'") _, Value.str _ _]) _ _ _); k_dflt ((refine' replaceQ ?aW9 ?bW9 ?cW9 ?dW9 ?_; (case aW9 => k_ne); (case bW9 => k_ne); (case cW9 => k_ne); (case dW9 => first | with_reducible assumption | omega); k_whole; intro t'W9 k'W9 len'W9))))
  k_with "my k_memK" => (first | assumption | (refine need_app ?_; k_memK) | (refine need_cons ?_; k_memK))
  k_with "my subscriptTail" => ((k_here; (with_reducible show wpAny _ _ (subscriptTail _ _ (Value.ref (TreeAt.t _)) (Value.int (Nat.cast _) _)) _ _ _); k_dflt ((refine' tree_item ?NW9 ?TW9 ?kW9 ?_; (case NW9 => k_asm); (case TW9 => k_memK); (case kW9 => omega); k_whole; intro hm'W9))))
  k_with "my call ref" => ((k_here; (with_reducible show wpAny _ _ (call (Value.ref 770) [Value.str (TreeAt.lab _ _) _]) _ _ _); k_dflt ((refine' pure_use (qt_lab _ _ ?OW9 _ ?kW9 _) ?BW9 ?FW9 ?XW9 ?NW9 ?TW9 ?kkW9 ?hdW9 ?huW9 ?_; (case OW9 => assumption); (case kW9 => omega); (case BW9 => k_asm); (case FW9 => k_asm); (case XW9 => k_asm); (case NW9 => k_asm); (case TW9 => k_asm); (case kkW9 => first | exact rfl | assumption); (case hdW9 => k_room); (case huW9 => k_units); k_whole; intro r'W9 h'W9 tk'W9 F'W9 N'W9 ht'W9; obtain ⟨t'W9, e'W9⟩ := ht'W9; subst e'W9; (try k_sweep)))))
  k_with "my call ref" => ((k_here; (with_reducible show wpAny _ _ (call (Value.ref 61) [Value.str (Str.mk (List.toArray _)) _]) _ _ _); k_dflt ((refine' pure_use (qd_mk _ _ _ ?xW9) ?BW9 ?FW9 ?XW9 ?NW9 ?TW9 ?kkW9 ?hdW9 ?huW9 ?_; (case xW9 => first | omega | exact size_out (by assumption) (by omega)); (case BW9 => k_asm); (case FW9 => k_asm); (case XW9 => k_asm); (case NW9 => k_asm); (case TW9 => k_asm); (case kkW9 => first | exact rfl | assumption); (case hdW9 => k_room); (case huW9 => k_units); k_whole; intro r'W9 h'W9 tk'W9 F'W9 N'W9 ht'W9; obtain ⟨t'W9, e'W9⟩ := ht'W9; subst e'W9; (try k_sweep)))))
  k_with "my kt_len" => (first | exact len_out (by assumption) (by omega) | exact len_quoted (by assumption) (by omega) | exact TreeAt.Ok.eol (by assumption) _ (by omega) | exact TreeAt.part_len (by assumption) (by omega) (by omega) | ((with_reducible refine' len_qd ?qqW9); (case qqW9 => kt_len)))
  k_with "my call builtin:len" => ((k_here; (with_reducible show wpAny _ _ (call (Value.builtin "len") [Value.ref (TreeAt.t _)]) _ _ _); k_dflt ((refine' tree_len ?NW9 ?TW9 ?_; (case NW9 => k_asm); (case TW9 => k_memK); k_whole; intro t'W9 k'W9))))
  k_with "my call ref" => ((k_here; (with_reducible show wpAny _ _ (call (Value.ref 782) [Value.ref _, Value.int (Nat.cast _) _]) _ _ _); (with_reducible rename ∀ k, _ < k → k < 5 → Outline _ _ k => ihOW9); k_dflt ((refine' reads_use (ihOW9 _ ?aW9 ?bW9 _) ?BW9 ?FW9 ?XW9 ?NW9 ?TW9 ?kkW9 ?hdW9 ?huW9 ?hnW9 ?_; (case aW9 => omega); (case bW9 => omega); (case BW9 => k_asm); (case FW9 => k_asm); (case XW9 => k_asm); (case NW9 => k_asm); (case TW9 => k_asm); (case kkW9 => first | exact rfl | assumption); (case hdW9 => k_room); (case huW9 => k_units); (case hnW9 => k_memK); k_whole; intro r'W9 h'W9 tk'W9 F'W9 N'W9 ht'W9; obtain ⟨t'W9, e'W9⟩ := ht'W9; subst e'W9; (try k_sweep)))))
  k_with "my inplaceOp Add str str" => ((k_here; (with_reducible show wpAny _ _ (inplaceOp Operator.Add (Value.str _ _) (Value.str _ _)) _ _ _); (refine' iaddK ?kxaaW9 ?kxabW9 ?kxacW9 ?_; (case kxaaW9 => kt_len); (case kxabW9 => kt_len); (case kxacW9 => exact Nat.le_of_ble_eq_true rfl)); intro _ _ _))
  k_with "my k_enter" => ((kp_kind "both"; (fail_if_success k_inElt); (refine' kp_both ?k1W9 ?k2W9 ?k3W9 ?k4W9 ?k5W9 ?kAW9 ?kFW9 ?kKW9 ?k6W9 ?k7W9 ?k8W9 ?kVW9 ?kXW9 ?kQW9 ?kMW9 ?kNW9 ?kDW9 ?kRW9 ?kPW9 ?kSW9 ?kTW9 ?kBW9 ?_ ?c2W9 ?c3W9 ?c4W9 ?c5W9; (case kAW9 => exact rfl); (case kFW9 => exact rfl); (case kKW9 => first | exact rfl | assumption); (case k1W9 => k_asm); (case k2W9 => k_asm); (case k3W9 => k_asm); (case k4W9 => k_asm); (case k5W9 => k_asm); (case k6W9 => k_is); (case k7W9 => k_is); (case k8W9 => k_room); (case kVW9 => kp_lit); (case kXW9 => kp_lit); (case kQW9 => exact rfl); (case kMW9 => exact rfl); (case kNW9 => exact rfl); (case kDW9 => kp_flats); (case kRW9 => exact rfl); (case kPW9 => exact rfl); (case kSW9 => exact fun _ => rfl); (case kTW9 => exact fun _ _ => rfl); (case kBW9 => exact fun _ _ => locs rfl); (case c5W9 => decide); (case c2W9 => exact rfl); (case c3W9 => exact rfl); (case c4W9 => exact rfl); k_whole; intro C'W9 D'W9 o'W9 g'W9 L'W9 h'W9 tk'W9 l1W9 l2W9 lo'W9 hs'W9 fs'W9 FG'W9 F'W9 N'W9 B'W9 X'W9 T'W9; (try k_lt l1W9); (try k_lt2 l2W9); (try dsimp only); (try k_lift B'W9); (try k_fold))))
  k_with "my call builtin:object.__new__" => ((k_here; k_dflt ((refine' new623_K ?FW9 ?XW9 ?NW9 ?_; (case FW9 => k_asm); (case XW9 => k_asm); (case NW9 => k_asm); k_whole; intro x'W9 d'W9 h'W9 F'W9 N'W9 l1W9 l2W9; (try k_lt l1W9); (try k_lt2 l2W9); (try k_sweep)))))
  k_with "my k_all" => (first | exact allNe (by assumption) | exact allNe' (by assumption) | exact allNeT (by assumption) (by first | assumption | omega))
  k_with "my call type:collections.deque" => ((k_here; k_dflt ((refine' dq_make ?FW9 ?NW9 ?_; (case FW9 => k_asm); (case NW9 => k_asm); k_whole; intro h'W9 a'W9 F'W9 N'W9 l1W9; (try k_lt l1W9); (try k_sweep)))))
  k_with "my truthy ref" => ((k_here; k_dflt (refine' dq_truthy ?NW9 ?mW9 ?xW9 ?_; (case NW9 => k_asm); (case mW9 => k_mem); (case xW9 => exact Nat.le_of_ble_eq_true rfl); k_whole; intro k'W9)))
  k_with "my getMethod ref" => ((k_here; k_dflt (first
    | (refine' dq_meth ?NW9 ?mW9 slot_dq_append dq_type_append ?_; (case NW9 => k_asm); (case mW9 => k_mem); k_whole)
    | (refine' dq_meth ?NW9 ?mW9 slot_dq_pop dq_type_pop ?_; (case NW9 => k_asm); (case mW9 => k_mem); k_whole))))
  k_with "my call builtin:collections.deque.append" => ((k_here; k_dflt ((refine' dq_append ?FW9 ?NW9 ?UW9 ?xW9 ?_; (case FW9 => k_asm); (case NW9 => k_asm); (case UW9 => k_upd); (case xW9 => exact Nat.le_of_ble_eq_true rfl); k_whole; intro h'W9 F'W9 N'W9; (try k_sweep)))))
  k_with "my call builtin:collections.deque.pop" => ((k_here; k_dflt ((refine' dq_pop (xs := []) ?FW9 ?NW9 ?UW9 ?xW9 ?_; (case FW9 => k_asm); (case NW9 => k_asm); (case UW9 => k_upd); (case xW9 => exact Nat.le_of_ble_eq_true rfl); k_whole; intro h'W9 F'W9 N'W9; (try k_sweep)))))
  k_with "my call ref" => ((k_here; (with_reducible show wpAny _ _ (call (Value.ref 623) [Value.str (Str.mk (List.toArray _)) _]) _ _ _); k_dflt ((refine' at_use (sio_ok _ _ _ ?lW9) ?hdW9 ?huW9 ?BW9 ?FW9 ?XW9 ?NW9 ?TW9 ?kkW9 _ _ ?_; (case lW9 => assumption); (case BW9 => k_asm); (case FW9 => k_asm); (case XW9 => k_asm); (case NW9 => k_asm); (case TW9 => k_asm); (case kkW9 => first | exact rfl | assumption); (case hdW9 => k_room); (case huW9 => k_units); k_whole; intro x'W9 d'W9 k1'W9 k2'W9 k3'W9 tb'W9 tp'W9 h'W9 tk'W9 F'W9 N'W9 l1W9 l2W9; (try k_lt l1W9); (try k_lt2 l2W9); (try k_sweep)))))
  k_with "my getMethod str" => ((k_here; (with_reducible show wpAny _ _ (getMethod (Value.str _ _) (Str.ofString "maketrans") _) _ _ _); k_dflt ((refine' gm_maketrans ?_; intro k'W9))))
  k_with "my getMethod type:dict" => ((k_here; (with_reducible show wpAny _ _ (getMethod _ (Str.ofString "fromkeys") _) _ _ _); k_dflt ((refine' fk_getm ?FW9 ?NW9 ?XW9 ?_; (case FW9 => k_asm); (case NW9 => k_asm); (case XW9 => k_asm); k_whole; intro x'W9 h'W9 F'W9 N'W9 l1W9; (try k_lt l1W9); (try k_sweep)))))
  k_with "my callWith ref" => ((k_here; k_dflt (refine' callWith_fk ?XW9 ?NW9 ?mW9 ?_; (case XW9 => k_asm); (case NW9 => k_asm); (case mW9 => k_mem); k_whole)))
  k_with "my And" => (((with_reducible show Heap.get? _ _ = some fkBound ∧ _); k_dflt ((refine' ⟨News.get ?NW9 ?mW9, ?_⟩; (case NW9 => k_asm); (case mW9 => k_mem)))))
  k_with "my call ref" => ((k_here; (with_reducible show wpAny _ _ (call (Value.ref _) [Value.str (Str.ofString ".") _]) _ _ _); k_dflt (refine' fk_K ?FW9 ?NW9 ?mW9 ?hhW9 ?bW9 ?_; (case FW9 => k_asm); (case NW9 => k_asm); (case mW9 => k_mem); (case hhW9 => exact rfl); (case bW9 => exact big_of (by assumption)); k_whole; intro d'W9 o'W9 h'W9 tk'W9 F'W9 N'W9 hi'W9 hS'W9 l1W9; (try k_lt l1W9); (try k_sweep))))
  k_with "my call builtin:str.maketrans" => ((k_here; k_dflt ((refine' tr_K ?FW9 ?NW9 ?mW9 ?iW9 ?SW9 ?bW9 ?_; (case FW9 => k_asm); (case NW9 => k_asm); (case mW9 => k_mem); (case iW9 => assumption); (case SW9 => assumption); (case bW9 => exact big_of (by assumption)); k_whole; intro d'W9 o'W9 h'W9 tk'W9 F'W9 N'W9 hi'W9 hS'W9 l1W9; (try k_lt l1W9); (try k_sweep)))))
  k_with "my call builtin:str.translate" => ((k_here; k_dflt ((refine' tl_K ?FW9 ?NW9 ?hhW9 ?mW9 ?iW9 ?SW9 ?_; (case FW9 => k_asm); (case NW9 => k_asm); (case hhW9 => exact rfl); (case mW9 => k_mem); (case iW9 => assumption); (case SW9 => assumption); k_whole; intro t'W9 h'W9 tk'W9 F'W9 N'W9; (try k_sweep)))))
  k_with "my getMethod str" => ((k_here; (with_reducible show wpAny _ _ (getMethod (Value.str _ _) (Str.ofString "translate") _) _ _ _); k_dflt ((refine' gm_translate ?_))))
  k_with "my WhlRest" => ((refine stop_of ?_))
  k_with "my call ref" => ((k_here; (with_reducible show wpAny _ _ (call (Value.ref 569) [Value.ref _, Value.int 1 _]) _ _ _); k_dflt ((first
    | (refine' read_K ?NW9 ?FW9 ?okW9 ?hbW9 ?hcW9 ?offW9 ?BW9 ?XW9 ?TW9 ?kkW9 ?hdW9 ?huW9 ?_; (case NW9 => k_asm); (case FW9 => k_asm); (case okW9 => constructor <;> assumption); (case hbW9 => assumption); (case hcW9 => assumption); (case offW9 => assumption); (case BW9 => k_asm); (case XW9 => k_asm); (case TW9 => k_asm); (case kkW9 => first | exact rfl | assumption); (case hdW9 => k_room); (case huW9 => k_units); k_whole; intro t'W9 tp'W9 h'W9 tk'W9 F'W9 N'W9; (try k_sweep))
    | (refine' read_KE ?NW9 ?FW9 ?okW9 ?hbW9 ?hcW9 ?offW9 ?BW9 ?XW9 ?TW9 ?kkW9 ?hdW9 ?huW9 ?_; (case NW9 => k_asm); (case FW9 => k_asm); (case okW9 => constructor <;> assumption); (case hbW9 => assumption); (case hcW9 => assumption); (case offW9 => assumption); (case BW9 => k_asm); (case XW9 => k_asm); (case TW9 => k_asm); (case kkW9 => first | exact rfl | assumption); (case hdW9 => k_room); (case huW9 => k_units); k_whole; intro t'W9 h'W9 tk'W9 F'W9 N'W9; (try k_sweep))))))
  k_with "my compareOp In str str" => ((k_here; first
    | (refine' in_is false ?eW9 ?_; (case eW9 => first | with_reducible assumption | decide +kernel))
    | (refine' in_is true ?eW9 ?_; (case eW9 => first | with_reducible assumption | decide +kernel))))
  k_with "my compareOp NotIn str str" => ((k_here; first
    | (refine' notin_is false ?eW9 ?_; (case eW9 => first | with_reducible assumption | decide +kernel))
    | (refine' notin_is true ?eW9 ?_; (case eW9 => first | with_reducible assumption | decide +kernel))))
  k_with "my compareOp Eq str str" => ((k_here; first
    | (refine' eq_is false ?eW9 ?_; (case eW9 => first | with_reducible assumption | decide +kernel))
    | (refine' eq_is true ?eW9 ?_; (case eW9 => first | with_reducible assumption | decide +kernel))))
  k_with "my exec If" => ((refine wpAny_If ?_))
  k_with "my truthy ref" => ((k_here; k_dflt (first
    | (refine' dq_false ?NW9 ?mW9 ?_; (case NW9 => k_asm); (case mW9 => k_mem); k_whole; intro k'W9)
    | (refine' dq_true ?NW9 ?mW9 ?_; (case NW9 => k_asm); (case mW9 => k_mem); k_whole; intro k'W9))))
  trivial

theorem news_two {g h : Heap} {L : Addr} {p q : Addr × Obj} {news : List (Addr × Obj)} (N : News g L h news) (hp : p ∈ news) (hq : q ∈ news) : News g L h [p, q] := fun z hz => N z (by
  rcases List.mem_cons.mp hz with rfl | hz
  · exact hp
  · rw [List.mem_singleton.mp hz]; exact hq)
section
variable {w : World} {ℓ : LexA} {A : Around} {h₀ : Heap} {L : Addr} {m : Str → Option Value} {s : Shared} {news : List (Addr × Obj)} {Q E : Value → Shared → Prop} {expr : Bool} {y tok : Str} {ty tt tl : Tok} {line : Int}
set_option maxHeartbeats 8000000 in
theorem lex_get_instream (F : Fr h₀ L s.heap m) (X : (hd.heap_1 w.params).In h₀) (N : News h₀ L s.heap news) (hx : (ℓ.x, instObj 758 ℓ.dx) ∈ news) (hd9 : (ℓ.dx, lexDict w ℓ (.str y ty) (.str tok tt) (.int line tl)) ∈ news) (h : Q (.ref ℓ.st) { s with toks := s.toks + 1 }) : wpAny (model PySem.Challenge.rw_oy0315_01.row.prog w) A (getAttr (.ref ℓ.x) "instream" expr) Q E s := by
  w_strict (
  revert X
  k_fill
  intro X
  have N2 := news_two N hx hd9
  clear N
  k_dflt (refine' get_own ?k1 ?k2 ?k3 ?k4 ?k5 ?k6 ?k7 ?k8 ?k9 ?_; (case k1 => k_asm); (case k2 => k_asm); (case k3 => k_inst); (case k4 => k_is); (case k5 => k_is); (case k6 => k_is); (case k7 => k_is); (case k8 => k_get); (case k9 => k_handed); k_whole)
  exact h)
set_option maxHeartbeats 8000000 in
theorem lex_get_posix (F : Fr h₀ L s.heap m) (X : (hd.heap_1 w.params).In h₀) (N : News h₀ L s.heap news) (hx : (ℓ.x, instObj 758 ℓ.dx) ∈ news) (hd9 : (ℓ.dx, lexDict w ℓ (.str y ty) (.str tok tt) (.int line tl)) ∈ news) (h : Q (.bool true) { s with toks := s.toks + 1 }) : wpAny (model PySem.Challenge.rw_oy0315_01.row.prog w) A (getAttr (.ref ℓ.x) "posix" expr) Q E s := by
  w_strict (
  revert X
  k_fill
  intro X
  have N2 := news_two N hx hd9
  clear N
  k_dflt (refine' get_own ?k1 ?k2 ?k3 ?k4 ?k5 ?k6 ?k7 ?k8 ?k9 ?_; (case k1 => k_asm); (case k2 => k_asm); (case k3 => k_inst); (case k4 => k_is); (case k5 => k_is); (case k6 => k_is); (case k7 => k_is); (case k8 => k_get); (case k9 => k_handed); k_whole)
  exact h)
set_option maxHeartbeats 8000000 in
theorem lex_get_eof (F : Fr h₀ L s.heap m) (X : (hd.heap_1 w.params).In h₀) (N : News h₀ L s.heap news) (hx : (ℓ.x, instObj 758 ℓ.dx) ∈ news) (hd9 : (ℓ.dx, lexDict w ℓ (.str y ty) (.str tok tt) (.int line tl)) ∈ news) (h : Q (.none) { s with toks := s.toks + 1 }) : wpAny (model PySem.Challenge.rw_oy0315_01.row.prog w) A (getAttr (.ref ℓ.x) "eof" expr) Q E s := by
  w_strict (
  revert X
  k_fill
  intro X
  have N2 := news_two N hx hd9
  clear N
  k_dflt (refine' get_own ?k1 ?k2 ?k3 ?k4 ?k5 ?k6 ?k7 ?k8 ?k9 ?_; (case k1 => k_asm); (case k2 => k_asm); (case k3 => k_inst); (case k4 => k_is); (case k5 => k_is); (case k6 => k_is); (case k7 => k_is); (case k8 => k_get); (case k9 => k_handed); k_whole)
  exact h)
set_option maxHeartbeats 8000000 in
theorem lex_get_commenters (F : Fr h₀ L s.heap m) (X : (hd.heap_1 w.params).In h₀) (N : News h₀ L s.heap news) (hx : (ℓ.x, instObj 758 ℓ.dx) ∈ news) (hd9 : (ℓ.dx, lexDict w ℓ (.str y ty) (.str tok tt) (.int line tl)) ∈ news) (h : Q (.str "#" ℓ.c4) { s with toks := s.toks + 1 }) : wpAny (model PySem.Challenge.rw_oy0315_01.row.prog w) A (getAttr (.ref ℓ.x) "commenters" expr) Q E s := by
  w_strict (
  revert X
  k_fill
  intro X
  have N2 := news_two N hx hd9
  clear N
  k_dflt (refine' get_own ?k1 ?k2 ?k3 ?k4 ?k5 ?k6 ?k7 ?k8 ?k9 ?_; (case k1 => k_asm); (case k2 => k_asm); (case k3 => k_inst); (case k4 => k_is); (case k5 => k_is); (case k6 => k_is); (case k7 => k_is); (case k8 => k_get); (case k9 => k_handed); k_whole)
  exact h)
set_option maxHeartbeats 8000000 in
theorem lex_get_wordchars (F : Fr h₀ L s.heap m) (X : (hd.heap_1 w.params).In h₀) (N : News h₀ L s.heap news) (hx : (ℓ.x, instObj 758 ℓ.dx) ∈ news) (hd9 : (ℓ.dx, lexDict w ℓ (.str y ty) (.str tok tt) (.int line tl)) ∈ news) (h : Q (.str wc1 ℓ.c5) { s with toks := s.toks + 1 }) : wpAny (model PySem.Challenge.rw_oy0315_01.row.prog w) A (getAttr (.ref ℓ.x) "wordchars" expr) Q E s := by
  w_strict (
  revert X
  k_fill
  intro X
  have N2 := news_two N hx hd9
  clear N
  k_dflt (refine' get_own ?k1 ?k2 ?k3 ?k4 ?k5 ?k6 ?k7 ?k8 ?k9 ?_; (case k1 => k_asm); (case k2 => k_asm); (case k3 => k_inst); (case k4 => k_is); (case k5 => k_is); (case k6 => k_is); (case k7 => k_is); (case k8 => k_get); (case k9 => k_handed); k_whole)
  exact h)
set_option maxHeartbeats 8000000 in
theorem lex_get_whitespace (F : Fr h₀ L s.heap m) (X : (hd.heap_1 w.params).In h₀) (N : News h₀ L s.heap news) (hx : (ℓ.x, instObj 758 ℓ.dx) ∈ news) (hd9 : (ℓ.dx, lexDict w ℓ (.str y ty) (.str tok tt) (.int line tl)) ∈ news) (h : Q (.str " \t\r\n" ℓ.c6) { s with toks := s.toks + 1 }) : wpAny (model PySem.Challenge.rw_oy0315_01.row.prog w) A (getAttr (.ref ℓ.x) "whitespace" expr) Q E s := by
  w_strict (
  revert X
  k_fill
  intro X
  have N2 := news_two N hx hd9
  clear N
  k_dflt (refine' get_own ?k1 ?k2 ?k3 ?k4 ?k5 ?k6 ?k7 ?k8 ?k9 ?_; (case k1 => k_asm); (case k2 => k_asm); (case k3 => k_inst); (case k4 => k_is); (case k5 => k_is); (case k6 => k_is); (case k7 => k_is); (case k8 => k_get); (case k9 => k_handed); k_whole)
  exact h)
set_option maxHeartbeats 8000000 in
theorem lex_get_whitespace_split (F : Fr h₀ L s.heap m) (X : (hd.heap_1 w.params).In h₀) (N : News h₀ L s.heap news) (hx : (ℓ.x, instObj 758 ℓ.dx) ∈ news) (hd9 : (ℓ.dx, lexDict w ℓ (.str y ty) (.str tok tt) (.int line tl)) ∈ news) (h : Q (.bool false) { s with toks := s.toks + 1 }) : wpAny (model PySem.Challenge.rw_oy0315_01.row.prog w) A (getAttr (.ref ℓ.x) "whitespace_split" expr) Q E s := by
  w_strict (
  revert X
  k_fill
  intro X
  have N2 := news_two N hx hd9
  clear N
  k_dflt (refine' get_own ?k1 ?k2 ?k3 ?k4 ?k5 ?k6 ?k7 ?k8 ?k9 ?_; (case k1 => k_asm); (case k2 => k_asm); (case k3 => k_inst); (case k4 => k_is); (case k5 => k_is); (case k6 => k_is); (case k7 => k_is); (case k8 => k_get); (case k9 => k_handed); k_whole)
  exact h)
set_option maxHeartbeats 8000000 in
theorem lex_get_quotes (F : Fr h₀ L s.heap m) (X : (hd.heap_1 w.params).In h₀) (N : News h₀ L s.heap news) (hx : (ℓ.x, instObj 758 ℓ.dx) ∈ news) (hd9 : (ℓ.dx, lexDict w ℓ (.str y ty) (.str tok tt) (.int line tl)) ∈ news) (h : Q (.str "'\"" ℓ.c8) { s with toks := s.toks + 1 }) : wpAny (model PySem.Challenge.rw_oy0315_01.row.prog w) A (getAttr (.ref ℓ.x) "quotes" expr) Q E s := by
  w_strict (
  revert X
  k_fill
  intro X
  have N2 := news_two N hx hd9
  clear N
  k_dflt (refine' get_own ?k1 ?k2 ?k3 ?k4 ?k5 ?k6 ?k7 ?k8 ?k9 ?_; (case k1 => k_asm); (case k2 => k_asm); (case k3 => k_inst); (case k4 => k_is); (case k5 => k_is); (case k6 => k_is); (case k7 => k_is); (case k8 => k_get); (case k9 => k_handed); k_whole)
  exact h)
set_option maxHeartbeats 8000000 in
theorem lex_get_escape (F : Fr h₀ L s.heap m) (X : (hd.heap_1 w.params).In h₀) (N : News h₀ L s.heap news) (hx : (ℓ.x, instObj 758 ℓ.dx) ∈ news) (hd9 : (ℓ.dx, lexDict w ℓ (.str y ty) (.str tok tt) (.int line tl)) ∈ news) (h : Q (.str "\\" ℓ.c9) { s with toks := s.toks + 1 }) : wpAny (model PySem.Challenge.rw_oy0315_01.row.prog w) A (getAttr (.ref ℓ.x) "escape" expr) Q E s := by
  w_strict (
  revert X
  k_fill
  intro X
  have N2 := news_two N hx hd9
  clear N
  k_dflt (refine' get_own ?k1 ?k2 ?k3 ?k4 ?k5 ?k6 ?k7 ?k8 ?k9 ?_; (case k1 => k_asm); (case k2 => k_asm); (case k3 => k_inst); (case k4 => k_is); (case k5 => k_is); (case k6 => k_is); (case k7 => k_is); (case k8 => k_get); (case k9 => k_handed); k_whole)
  exact h)
set_option maxHeartbeats 8000000 in
theorem lex_get_escapedquotes (F : Fr h₀ L s.heap m) (X : (hd.heap_1 w.params).In h₀) (N : News h₀ L s.heap news) (hx : (ℓ.x, instObj 758 ℓ.dx) ∈ news) (hd9 : (ℓ.dx, lexDict w ℓ (.str y ty) (.str tok tt) (.int line tl)) ∈ news) (h : Q (.str "\"" ℓ.c10) { s with toks := s.toks + 1 }) : wpAny (model PySem.Challenge.rw_oy0315_01.row.prog w) A (getAttr (.ref ℓ.x) "escapedquotes" expr) Q E s := by
  w_strict (
  revert X
  k_fill
  intro X
  have N2 := news_two N hx hd9
  clear N
  k_dflt (refine' get_own ?k1 ?k2 ?k3 ?k4 ?k5 ?k6 ?k7 ?k8 ?k9 ?_; (case k1 => k_asm); (case k2 => k_asm); (case k3 => k_inst); (case k4 => k_is); (case k5 => k_is); (case k6 => k_is); (case k7 => k_is); (case k8 => k_get); (case k9 => k_handed); k_whole)
  exact h)
set_option maxHeartbeats 8000000 in
theorem lex_get_state (F : Fr h₀ L s.heap m) (X : (hd.heap_1 w.params).In h₀) (N : News h₀ L s.heap news) (hx : (ℓ.x, instObj 758 ℓ.dx) ∈ news) (hd9 : (ℓ.dx, lexDict w ℓ (.str y ty) (.str tok tt) (.int line tl)) ∈ news) (h : Q (.str y ty) { s with toks := s.toks + 1 }) : wpAny (model PySem.Challenge.rw_oy0315_01.row.prog w) A (getAttr (.ref ℓ.x) "state" expr) Q E s := by
  w_strict (
  revert X
  k_fill
  intro X
  have N2 := news_two N hx hd9
  clear N
  k_dflt (refine' get_own ?k1 ?k2 ?k3 ?k4 ?k5 ?k6 ?k7 ?k8 ?k9 ?_; (case k1 => k_asm); (case k2 => k_asm); (case k3 => k_inst); (case k4 => k_is); (case k5 => k_is); (case k6 => k_is); (case k7 => k_is); (case k8 => k_get); (case k9 => k_handed); k_whole)
  exact h)
set_option maxHeartbeats 8000000 in
theorem lex_get_pushback (F : Fr h₀ L s.heap m) (X : (hd.heap_1 w.params).In h₀) (N : News h₀ L s.heap news) (hx : (ℓ.x, instObj 758 ℓ.dx) ∈ news) (hd9 : (ℓ.dx, lexDict w ℓ (.str y ty) (.str tok tt) (.int line tl)) ∈ news) (h : Q (.ref ℓ.pb) { s with toks := s.toks + 1 }) : wpAny (model PySem.Challenge.rw_oy0315_01.row.prog w) A (getAttr (.ref ℓ.x) "pushback" expr) Q E s := by
  w_strict (
  revert X
  k_fill
  intro X
  have N2 := news_two N hx hd9
  clear N
  k_dflt (refine' get_own ?k1 ?k2 ?k3 ?k4 ?k5 ?k6 ?k7 ?k8 ?k9 ?_; (case k1 => k_asm); (case k2 => k_asm); (case k3 => k_inst); (case k4 => k_is); (case k5 => k_is); (case k6 => k_is); (case k7 => k_is); (case k8 => k_get); (case k9 => k_handed); k_whole)
  exact h)
set_option maxHeartbeats 8000000 in
theorem lex_get_lineno (F : Fr h₀ L s.heap m) (X : (hd.heap_1 w.params).In h₀) (N : News h₀ L s.heap news) (hx : (ℓ.x, instObj 758 ℓ.dx) ∈ news) (hd9 : (ℓ.dx, lexDict w ℓ (.str y ty) (.str tok tt) (.int line tl)) ∈ news) (h : Q (.int line tl) { s with toks := s.toks + 1 }) : wpAny (model PySem.Challenge.rw_oy0315_01.row.prog w) A (getAttr (.ref ℓ.x) "lineno" expr) Q E s := by
  w_strict (
  revert X
  k_fill
  intro X
  have N2 := news_two N hx hd9
  clear N
  k_dflt (refine' get_own ?k1 ?k2 ?k3 ?k4 ?k5 ?k6 ?k7 ?k8 ?k9 ?_; (case k1 => k_asm); (case k2 => k_asm); (case k3 => k_inst); (case k4 => k_is); (case k5 => k_is); (case k6 => k_is); (case k7 => k_is); (case k8 => k_get); (case k9 => k_handed); k_whole)
  exact h)
set_option maxHeartbeats 8000000 in
theorem lex_get_debug (F : Fr h₀ L s.heap m) (X : (hd.heap_1 w.params).In h₀) (N : News h₀ L s.heap news) (hx : (ℓ.x, instObj 758 ℓ.dx) ∈ news) (hd9 : (ℓ.dx, lexDict w ℓ (.str y ty) (.str tok tt) (.int line tl)) ∈ news) (h : Q (.int 0 ℓ.c14) { s with toks := s.toks + 1 }) : wpAny (model PySem.Challenge.rw_oy0315_01.row.prog w) A (getAttr (.ref ℓ.x) "debug" expr) Q E s := by
  w_strict (
  revert X
  k_fill
  intro X
  have N2 := news_two N hx hd9
  clear N
  k_dflt (refine' get_own ?k1 ?k2 ?k3 ?k4 ?k5 ?k6 ?k7 ?k8 ?k9 ?_; (case k1 => k_asm); (case k2 => k_asm); (case k3 => k_inst); (case k4 => k_is); (case k5 => k_is); (case k6 => k_is); (case k7 => k_is); (case k8 => k_get); (case k9 => k_handed); k_whole)
  exact h)
set_option maxHeartbeats 8000000 in
theorem lex_get_token (F : Fr h₀ L s.heap m) (X : (hd.heap_1 w.params).In h₀) (N : News h₀ L s.heap news) (hx : (ℓ.x, instObj 758 ℓ.dx) ∈ news) (hd9 : (ℓ.dx, lexDict w ℓ (.str y ty) (.str tok tt) (.int line tl)) ∈ news) (h : Q (.str tok tt) { s with toks := s.toks + 1 }) : wpAny (model PySem.Challenge.rw_oy0315_01.row.prog w) A (getAttr (.ref ℓ.x) "token" expr) Q E s := by
  w_strict (
  revert X
  k_fill
  intro X
  have N2 := news_two N hx hd9
  clear N
  k_dflt (refine' get_own ?k1 ?k2 ?k3 ?k4 ?k5 ?k6 ?k7 ?k8 ?k9 ?_; (case k1 => k_asm); (case k2 => k_asm); (case k3 => k_inst); (case k4 => k_is); (case k5 => k_is); (case k6 => k_is); (case k7 => k_is); (case k8 => k_get); (case k9 => k_handed); k_whole)
  exact h)
set_option maxHeartbeats 8000000 in
theorem lex_get_filestack (F : Fr h₀ L s.heap m) (X : (hd.heap_1 w.params).In h₀) (N : News h₀ L s.heap news) (hx : (ℓ.x, instObj 758 ℓ.dx) ∈ news) (hd9 : (ℓ.dx, lexDict w ℓ (.str y ty) (.str tok tt) (.int line tl)) ∈ news) (h : Q (.ref ℓ.fs) { s with toks := s.toks + 1 }) : wpAny (model PySem.Challenge.rw_oy0315_01.row.prog w) A (getAttr (.ref ℓ.x) "filestack" expr) Q E s := by
  w_strict (
  revert X
  k_fill
  intro X
  have N2 := news_two N hx hd9
  clear N
  k_dflt (refine' get_own ?k1 ?k2 ?k3 ?k4 ?k5 ?k6 ?k7 ?k8 ?k9 ?_; (case k1 => k_asm); (case k2 => k_asm); (case k3 => k_inst); (case k4 => k_is); (case k5 => k_is); (case k6 => k_is); (case k7 => k_is); (case k8 => k_get); (case k9 => k_handed); k_whole)
  exact h)
set_option maxHeartbeats 8000000 in
theorem lex_get_source (F : Fr h₀ L s.heap m) (X : (hd.heap_1 w.params).In h₀) (N : News h₀ L s.heap news) (hx : (ℓ.x, instObj 758 ℓ.dx) ∈ news) (hd9 : (ℓ.dx, lexDict w ℓ (.str y ty) (.str tok tt) (.int line tl)) ∈ news) (h : Q (.none) { s with toks := s.toks + 1 }) : wpAny (model PySem.Challenge.rw_oy0315_01.row.prog w) A (getAttr (.ref ℓ.x) "source" expr) Q E s := by
  w_strict (
  revert X
  k_fill
  intro X
  have N2 := news_two N hx hd9
  clear N
  k_dflt (refine' get_own ?k1 ?k2 ?k3 ?k4 ?k5 ?k6 ?k7 ?k8 ?k9 ?_; (case k1 => k_asm); (case k2 => k_asm); (case k3 => k_inst); (case k4 => k_is); (case k5 => k_is); (case k6 => k_is); (case k7 => k_is); (case k8 => k_get); (case k9 => k_handed); k_whole)
  exact h)
set_option maxHeartbeats 8000000 in
theorem lex_get_punct (F : Fr h₀ L s.heap m) (X : (hd.heap_1 w.params).In h₀) (N : News h₀ L s.heap news) (hx : (ℓ.x, instObj 758 ℓ.dx) ∈ news) (hd9 : (ℓ.dx, lexDict w ℓ (.str y ty) (.str tok tt) (.int line tl)) ∈ news) (h : Q (.str "." ℓ.c18) { s with toks := s.toks + 1 }) : wpAny (model PySem.Challenge.rw_oy0315_01.row.prog w) A (getAttr (.ref ℓ.x) "_punctuation_chars" expr) Q E s := by
  w_strict (
  revert X
  k_fill
  intro X
  have N2 := news_two N hx hd9
  clear N
  k_dflt (refine' get_own ?k1 ?k2 ?k3 ?k4 ?k5 ?k6 ?k7 ?k8 ?k9 ?_; (case k1 => k_asm); (case k2 => k_asm); (case k3 => k_inst); (case k4 => k_is); (case k5 => k_is); (case k6 => k_is); (case k7 => k_is); (case k8 => k_get); (case k9 => k_handed); k_whole)
  exact h)
set_option maxHeartbeats 8000000 in
theorem lex_get_pushback_chars (F : Fr h₀ L s.heap m) (X : (hd.heap_1 w.params).In h₀) (N : News h₀ L s.heap news) (hx : (ℓ.x, instObj 758 ℓ.dx) ∈ news) (hd9 : (ℓ.dx, lexDict w ℓ (.str y ty) (.str tok tt) (.int line tl)) ∈ news) (h : Q (.ref ℓ.pp) { s with toks := s.toks + 1 }) : wpAny (model PySem.Challenge.rw_oy0315_01.row.prog w) A (getAttr (.ref ℓ.x) "_pushback_chars" expr) Q E s := by
  w_strict (
  revert X
  k_fill
  intro X
  have N2 := news_two N hx hd9
  clear N
  k_dflt (refine' get_own ?k1 ?k2 ?k3 ?k4 ?k5 ?k6 ?k7 ?k8 ?k9 ?_; (case k1 => k_asm); (case k2 => k_asm); (case k3 => k_inst); (case k4 => k_is); (case k5 => k_is); (case k6 => k_is); (case k7 => k_is); (case k8 => k_get); (case k9 => k_handed); k_whole)
  exact h)
end
section
variable {w : World} {ℓ : LexA} {A : Around} {h₀ : Heap} {L : Addr} {m : Str → Option Value} {s : Shared} {a1 a2 a3 a4 a5 a6 : Obj} {rest : List (Addr × Obj)} {Q : Unit → Shared → Prop} {E : Value → Shared → Prop} {sv : Value} {tok : Str} {tt tl : Tok} {line : Int}
theorem off_dx (off : OwnOff rest ℓ.adr) : ∀ p ∈ rest, p.1 ≠ ℓ.dx := fun p hp => off p hp _ (.tail _ (.head _))
set_option maxHeartbeats 8000000 in
theorem lex_set_state {v : Value} (F : Fr h₀ L s.heap m) (X : (hd.heap_1 w.params).In h₀) (ok : ℓ.Ok) (off : OwnOff rest ℓ.adr)
    (N : News h₀ L s.heap ((ℓ.x, instObj 758 ℓ.dx) :: (ℓ.dx, lexDict w ℓ sv (.str tok tt) (.int line tl)) :: (ℓ.st, a2) :: (ℓ.ds, a3) :: (ℓ.pb, a4) :: (ℓ.fs, a5) :: (ℓ.pp, a6) :: rest))
    (h : ∀ h', Fr h₀ L h' m → News h₀ L h' ((ℓ.x, instObj 758 ℓ.dx) :: (ℓ.dx, lexDict w ℓ v (.str tok tt) (.int line tl)) :: (ℓ.st, a2) :: (ℓ.ds, a3) :: (ℓ.pb, a4) :: (ℓ.fs, a5) :: (ℓ.pp, a6) :: rest) → Q () { s with heap := h', toks := s.toks + 2 }) :
    wpAny (model PySem.Challenge.rw_oy0315_01.row.prog w) A (setAttr (.ref ℓ.x) "state" (v)) Q E s := by
  w_strict (
  revert X
  k_fill
  intro X
  have ok9 := ok
  obtain ⟨o1, o2, o3, o4, o5, o6⟩ := ok
  have offd := off_dx off
  k_dflt (refine' set_dict ?k1 ?k2 ?k3 ?k4 ?k5 ?k6 ?k7 ?k8 ?k9 ?k10 ?k11 ?k12 ?k13 ?_; (case k1 => k_asm); (case k2 => k_asm); (case k3 => k_asm); (case k4 => k_inst); (case k5 => exact rfl); (case k6 => k_is); (case k7 => k_is); (case k8 => k_is); (case k9 => k_is); (case k10 => k_get); (case k11 => k_put); (case k12 => k_upd); (case k13 => exact Nat.le_of_ble_eq_true rfl); k_whole; intro h' F' N')
  exact h _ (by k_asm) (by k_asm))
set_option maxHeartbeats 8000000 in
theorem lex_set_token {k : Str} {kt : Tok} (F : Fr h₀ L s.heap m) (X : (hd.heap_1 w.params).In h₀) (ok : ℓ.Ok) (off : OwnOff rest ℓ.adr)
    (N : News h₀ L s.heap ((ℓ.x, instObj 758 ℓ.dx) :: (ℓ.dx, lexDict w ℓ sv (.str tok tt) (.int line tl)) :: (ℓ.st, a2) :: (ℓ.ds, a3) :: (ℓ.pb, a4) :: (ℓ.fs, a5) :: (ℓ.pp, a6) :: rest))
    (h : ∀ h', Fr h₀ L h' m → News h₀ L h' ((ℓ.x, instObj 758 ℓ.dx) :: (ℓ.dx, lexDict w ℓ sv (.str k kt) (.int line tl)) :: (ℓ.st, a2) :: (ℓ.ds, a3) :: (ℓ.pb, a4) :: (ℓ.fs, a5) :: (ℓ.pp, a6) :: rest) → Q () { s with heap := h', toks := s.toks + 2 }) :
    wpAny (model PySem.Challenge.rw_oy0315_01.row.prog w) A (setAttr (.ref ℓ.x) "token" (.str k kt)) Q E s := by
  w_strict (
  revert X
  k_fill
  intro X
  have ok9 := ok
  obtain ⟨o1, o2, o3, o4, o5, o6⟩ := ok
  have offd := off_dx off
  k_dflt (refine' set_dict ?k1 ?k2 ?k3 ?k4 ?k5 ?k6 ?k7 ?k8 ?k9 ?k10 ?k11 ?k12 ?k13 ?_; (case k1 => k_asm); (case k2 => k_asm); (case k3 => k_asm); (case k4 => k_inst); (case k5 => exact rfl); (case k6 => k_is); (case k7 => k_is); (case k8 => k_is); (case k9 => k_is); (case k10 => k_get); (case k11 => k_put); (case k12 => k_upd); (case k13 => exact Nat.le_of_ble_eq_true rfl); k_whole; intro h' F' N')
  exact h _ (by k_asm) (by k_asm))
set_option maxHeartbeats 8000000 in
theorem lex_set_lineno {k : Int} {kt : Tok} (F : Fr h₀ L s.heap m) (X : (hd.heap_1 w.params).In h₀) (ok : ℓ.Ok) (off : OwnOff rest ℓ.adr)
    (N : News h₀ L s.heap ((ℓ.x, instObj 758 ℓ.dx) :: (ℓ.dx, lexDict w ℓ sv (.str tok tt) (.int line tl)) :: (ℓ.st, a2) :: (ℓ.ds, a3) :: (ℓ.pb, a4) :: (ℓ.fs, a5) :: (ℓ.pp, a6) :: rest))
    (h : ∀ h', Fr h₀ L h' m → News h₀ L h' ((ℓ.x, instObj 758 ℓ.dx) :: (ℓ.dx, lexDict w ℓ sv (.str tok tt) (.int k kt)) :: (ℓ.st, a2) :: (ℓ.ds, a3) :: (ℓ.pb, a4) :: (ℓ.fs, a5) :: (ℓ.pp, a6) :: rest) → Q () { s with heap := h', toks := s.toks + 2 }) :
    wpAny (model PySem.Challenge.rw_oy0315_01.row.prog w) A (setAttr (.ref ℓ.x) "lineno" (.int k kt)) Q E s := by
  w_strict (
  revert X
  k_fill
  intro X
  have ok9 := ok
  obtain ⟨o1, o2, o3, o4, o5, o6⟩ := ok
  have offd := off_dx off
  k_dflt (refine' set_dict ?k1 ?k2 ?k3 ?k4 ?k5 ?k6 ?k7 ?k8 ?k9 ?k10 ?k11 ?k12 ?k13 ?_; (case k1 => k_asm); (case k2 => k_asm); (case k3 => k_asm); (case k4 => k_inst); (case k5 => exact rfl); (case k6 => k_is); (case k7 => k_is); (case k8 => k_is); (case k9 => k_is); (case k10 => k_get); (case k11 => k_put); (case k12 => k_upd); (case k13 => exact Nat.le_of_ble_eq_true rfl); k_whole; intro h' F' N')
  exact h _ (by k_asm) (by k_asm))
end
end OyMine
end
section
open PySem PySem.W PyProof.Rows PySem.Builtin PySem.Builtin.Re
set_option maxRecDepth 100000
set_option genInjectivity false
set_option genSizeOf false
set_option genSizeOfSpec false
namespace OyMine
theorem words_Read_0 : True := by
  w_top off
  k_with_none
  k_with "my omega" => (first
    | with_reducible assumption
    | with_reducible exact Nat.ne_of_lt (by assumption)
    | with_reducible exact Nat.ne_of_gt (by assumption)
    | decide
    | with_reducible exact Nat.le_refl _
    | with_reducible exact Nat.zero_le _
    | with_reducible exact Nat.le_add_right _ _
    | with_reducible exact Nat.le_add_left _ _
    | with_reducible exact Nat.lt_succ_self _
    | with_reducible exact Nat.le_succ _
    | with_reducible exact Nat.succ_pos _
    | with_reducible exact Nat.zero_add _
    | with_reducible exact q4
    | with_reducible exact q8
    | with_reducible exact Nat.le_of_lt (by assumption)
    | with_reducible exact Nat.le_of_succ_le (by assumption)
    | with_reducible exact Nat.le_of_succ_le_succ (by assumption)
    | with_reducible exact Nat.not_lt.mp (by assumption)
    | with_reducible exact Nat.lt_succ_of_le (by assumption)
    | with_reducible exact Nat.le_succ_of_le (by assumption)
    | with_reducible exact Nat.succ_le_of_lt (by assumption)
    | with_reducible exact q1 (by assumption)
    | with_reducible exact q2 (by assumption)
    | with_reducible exact q3 (by assumption)
    | with_reducible exact q5 (by assumption)
    | with_reducible exact q7 (by assumption)
    | with_reducible exact q6 (by assumption) (by assumption)
    | with_reducible exact absurd (by assumption) (Nat.not_lt.mpr (by assumption))
    | (with_reducible refine room_le (by assumption) ?_; with_unfolding_all rfl)
    | (with_reducible refine room_lt (by assumption) ?_; with_unfolding_all rfl)
    | (with_reducible refine room_le0 (by assumption) ?_; with_unfolding_all rfl)
    | ((fail_if_success (with_reducible show _ ≠ _)); (rename _ ∧ _ => cW9; clear cW9); (repeat (rename _ ∧ _ => cW9; clear cW9)); omega)
    | fail "no")
  k_with "my execs cons" => ((rename Shared => s); refine' execs_cons_n (g := Shared.gens s) (d := Shared.drawn s) (o := Shared.os s) ?gW9 ?dW9 ?oW9 ?_; (case gW9 => exact rfl); (case dW9 => exact rfl); (case oW9 => exact rfl); intro tkW9; (try k_fold))
  trivial
theorem words_Read_1 : True := by
  k_with "my k_room" => (first | exact Nat.le_of_ble_eq_true rfl | ((try simp only [duk, depth_under_make, depth_under_kw, depth_in1, depth_deeper, depth_caller, recursionLimit]); (try dsimp only [ktrTop]); (try simp only [recursionLimit]); omega))
  k_with "my ktr_room" => (k_room)
  k_with "my k_units" => (first | exact Nat.le_of_ble_eq_true rfl | ((have hcL9W9 := cLine_is); (try simp only [uuk, units_in1, units_deeper, Around.mark_units, units_caller]); (try dsimp only [ktrTop]); omega))
  k_with "my units_room" => (first | exact Nat.le_of_ble_eq_true rfl | ((have hcL9W9 := cLine_is); (try simp only [uuk, units_in1, units_deeper, Around.mark_units, units_caller]); (try dsimp only [ktrTop]); omega))
  k_with "my k_enter" => ((refine' code_def ?k1W9 ?k2W9 ?k3W9 ?k4W9 ?k5W9 ?kAW9 ?kFW9 ?kKW9 ?k6W9 ?k7W9 ?k8W9 ?k9W9 ?kBW9 ?_ ?c2W9 ?c3W9 ?c4W9 ?c5W9; (case kAW9 => exact rfl); (case kFW9 => exact rfl); (case kKW9 => first | exact rfl | assumption); (case k1W9 => k_asm); (case k2W9 => k_asm); (case k3W9 => k_asm); (case k4W9 => k_asm); (case k5W9 => k_asm); (case k6W9 => k_is); (case k7W9 => k_is); (case k8W9 => k_room); (case k9W9 => first | exact BindsTo.of_eq rfl | exact binds_K (by k_in) rfl (by k_is) rfl rfl rfl | fail "k_enter: no rule for these arguments"); (case c5W9 => decide); (case kBW9 => exact locs rfl); (case c2W9 => exact rfl); (case c3W9 => exact rfl); (case c4W9 => exact rfl); k_whole; intro g'W9 L'W9 h'W9 FG'W9 F'W9 N'W9 B'W9 X'W9 T'W9; (try dsimp only); (try k_lift B'W9); (try k_fold)))
  k_with "my getMethod ref" => ((k_here; (with_reducible show wpAny _ _ (getMethod (Value.ref _) (Str.ofString "sub") _) _ _ _); k_dflt (refine' meth_sub ?FW9 ?XW9 ?eW9 ?cW9 ?dW9 ?_; (case FW9 => k_asm); (case XW9 => k_asm); (case eW9 => k_is); (case cW9 => exact rfl); (case dW9 => exact rfl); k_whole)))
  k_with "my call builtin:re.Pattern.sub" => ((k_here; k_dflt (first
    | (refine' sub54_K ?FW9 ?XW9 ?NW9 ?xW9 ?_; (case FW9 => k_asm); (case XW9 => k_asm); (case NW9 => k_asm); (case xW9 => first | exact nl_fits (by assumption) | omega); k_whole; intro t'W9 h'W9 tk'W9 F'W9 N'W9; (try k_sweep))
    | (refine' sub49_K ?FW9 ?XW9 ?NW9 ?xW9 ?_; (case FW9 => k_asm); (case XW9 => k_asm); (case NW9 => k_asm); (case xW9 => first | exact nl_fits (by assumption) | omega); k_whole; intro t'W9 h'W9 tk'W9 F'W9 N'W9; (try k_sweep)))))
  k_with "my call ref" => ((k_here; (with_reducible show wpAny _ _ (call (Value.ref 763) [Value.str _ _]) _ _ _); k_dflt (refine' search_K ?FW9 ?XW9 ?NW9 ?xW9 ?jW9 ?uW9 ?_; (case FW9 => k_asm); (case XW9 => k_asm); (case NW9 => k_asm); (case xW9 => omega); (case jW9 => assumption); (case uW9 => assumption); k_whole; intro a'W9 h'W9 F'W9 N'W9; (try k_sweep))))
  k_with "my kt_len" => (with_reducible assumption)
  k_with "my truthy str" => ((k_here; (with_reducible show wpAny _ _ (PySem.truthy (Value.str _ _)) _ _ _); (refine' KXt.truthy_pos (K := 16777216) ?kxtaW9 ?kxtbW9 (Nat.le_refl _) ?_; (case kxtaW9 => with_reducible assumption); (case kxtbW9 => omega)); intro _))
  k_with "my callWith ref" => ((k_here; (with_reducible show wpAny _ _ (callWith _ (Value.ref 763) _ _ _) _ _ _); k_dflt (refine' callWith_763 ?k1W9 ?_; (case k1W9 => k_asm); k_whole)))
  k_with "my call builtin:str.replace" => ((k_here; (with_reducible show wpAny _ _ (call (Value.builtin "str.replace") [Value.str _ _, Value.str (Str.ofString "'") _, Value.str _ _]) _ _ _); k_dflt ((refine' replaceQ ?aW9 ?bW9 ?cW9 ?dW9 ?_; (case aW9 => k_ne); (case bW9 => k_ne); (case cW9 => k_ne); (case dW9 => first | with_reducible assumption | omega); k_whole; intro t'W9 k'W9 len'W9))))
  k_with "my k_memK" => (first | assumption | (refine need_app ?_; k_memK) | (refine need_cons ?_; k_memK))
  k_with "my subscriptTail" => ((k_here; (with_reducible show wpAny _ _ (subscriptTail _ _ (Value.ref (TreeAt.t _)) (Value.int (Nat.cast _) _)) _ _ _); k_dflt ((refine' tree_item ?NW9 ?TW9 ?kW9 ?_; (case NW9 => k_asm); (case TW9 => k_memK); (case kW9 => omega); k_whole; intro hm'W9))))
  k_with "my call ref" => ((k_here; (with_reducible show wpAny _ _ (call (Value.ref 770) [Value.str (TreeAt.lab _ _) _]) _ _ _); k_dflt ((refine' pure_use (qt_lab _ _ ?OW9 _ ?kW9 _) ?BW9 ?FW9 ?XW9 ?NW9 ?TW9 ?kkW9 ?hdW9 ?huW9 ?_; (case OW9 => assumption); (case kW9 => omega); (case BW9 => k_asm); (case FW9 => k_asm); (case XW9 => k_asm); (case NW9 => k_asm); (case TW9 => k_asm); (case kkW9 => first | exact rfl | assumption); (case hdW9 => k_room); (case huW9 => k_units); k_whole; intro r'W9 h'W9 tk'W9 F'W9 N'W9 ht'W9; obtain ⟨t'W9, e'W9⟩ := ht'W9; subst e'W9; (try k_sweep)))))
  k_with "my call ref" => ((k_here; (with_reducible show wpAny _ _ (call (Value.ref 61) [Value.str (Str.mk (List.toArray _)) _]) _ _ _); k_dflt ((refine' pure_use (qd_mk _ _ _ ?xW9) ?BW9 ?FW9 ?XW9 ?NW9 ?TW9 ?kkW9 ?hdW9 ?huW9 ?_; (case xW9 => first | omega | exact size_out (by assumption) (by omega)); (case BW9 => k_asm); (case FW9 => k_asm); (case XW9 => k_asm); (case NW9 => k_asm); (case TW9 => k_asm); (case kkW9 => first | exact rfl | assumption); (case hdW9 => k_room); (case huW9 => k_units); k_whole; intro r'W9 h'W9 tk'W9 F'W9 N'W9 ht'W9; obtain ⟨t'W9, e'W9⟩ := ht'W9; subst e'W9; (try k_sweep)))))
  k_with "my kt_len" => (first | exact len_out (by assumption) (by omega) | exact len_quoted (by assumption) (by omega) | exact TreeAt.Ok.eol (by assumption) _ (by omega) | exact TreeAt.part_len (by assumption) (by omega) (by omega) | ((with_reducible refine' len_qd ?qqW9); (case qqW9 => kt_len)))
  k_with "my call builtin:len" => ((k_here; (with_reducible show wpAny _ _ (call (Value.builtin "len") [Value.ref (TreeAt.t _)]) _ _ _); k_dflt ((refine' tree_len ?NW9 ?TW9 ?_; (case NW9 => k_asm); (case TW9 => k_memK); k_whole; intro t'W9 k'W9))))
  k_with "my call ref" => ((k_here; (with_reducible show wpAny _ _ (call (Value.ref 782) [Value.ref _, Value.int (Nat.cast _) _]) _ _ _); (with_reducible rename ∀ k, _ < k → k < 5 → Outline _ _ k => ihOW9); k_dflt ((refine' reads_use (ihOW9 _ ?aW9 ?bW9 _) ?BW9 ?FW9 ?XW9 ?NW9 ?TW9 ?kkW9 ?hdW9 ?huW9 ?hnW9 ?_; (case aW9 => omega); (case bW9 => omega); (case BW9 => k_asm); (case FW9 => k_asm); (case XW9 => k_asm); (case NW9 => k_asm); (case TW9 => k_asm); (case kkW9 => first | exact rfl | assumption); (case hdW9 => k_room); (case huW9 => k_units); (case hnW9 => k_memK); k_whole; intro r'W9 h'W9 tk'W9 F'W9 N'W9 ht'W9; obtain ⟨t'W9, e'W9⟩ := ht'W9; subst e'W9; (try k_sweep)))))
  k_with "my inplaceOp Add str str" => ((k_here; (with_reducible show wpAny _ _ (inplaceOp Operator.Add (Value.str _ _) (Value.str _ _)) _ _ _); (refine' iaddK ?kxaaW9 ?kxabW9 ?kxacW9 ?_; (case kxaaW9 => kt_len); (case kxabW9 => kt_len); (case kxacW9 => exact Nat.le_of_ble_eq_true rfl)); intro _ _ _))
  k_with "my k_enter" => ((kp_kind "both"; (fail_if_success k_inElt); (refine' kp_both ?k1W9 ?k2W9 ?k3W9 ?k4W9 ?k5W9 ?kAW9 ?kFW9 ?kKW9 ?k6W9 ?k7W9 ?k8W9 ?kVW9 ?kXW9 ?kQW9 ?kMW9 ?kNW9 ?kDW9 ?kRW9 ?kPW9 ?kSW9 ?kTW9 ?kBW9 ?_ ?c2W9 ?c3W9 ?c4W9 ?c5W9; (case kAW9 => exact rfl); (case kFW9 => exact rfl); (case kKW9 => first | exact rfl | assumption); (case k1W9 => k_asm); (case k2W9 => k_asm); (case k3W9 => k_asm); (case k4W9 => k_asm); (case k5W9 => k_asm); (case k6W9 => k_is); (case k7W9 => k_is); (case k8W9 => k_room); (case kVW9 => kp_lit); (case kXW9 => kp_lit); (case kQW9 => exact rfl); (case kMW9 => exact rfl); (case kNW9 => exact rfl); (case kDW9 => kp_flats); (case kRW9 => exact rfl); (case kPW9 => exact rfl); (case kSW9 => exact fun _ => rfl); (case kTW9 => exact fun _ _ => rfl); (case kBW9 => exact fun _ _ => locs rfl); (case c5W9 => decide); (case c2W9 => exact rfl); (case c3W9 => exact rfl); (case c4W9 => exact rfl); k_whole; intro C'W9 D'W9 o'W9 g'W9 L'W9 h'W9 tk'W9 l1W9 l2W9 lo'W9 hs'W9 fs'W9 FG'W9 F'W9 N'W9 B'W9 X'W9 T'W9; (try k_lt l1W9); (try k_lt2 l2W9); (try dsimp only); (try k_lift B'W9); (try k_fold))))
  k_with "my call builtin:object.__new__" => ((k_here; k_dflt ((refine' new623_K ?FW9 ?XW9 ?NW9 ?_; (case FW9 => k_asm); (case XW9 => k_asm); (case NW9 => k_asm); k_whole; intro x'W9 d'W9 h'W9 F'W9 N'W9 l1W9 l2W9; (try k_lt l1W9); (try k_lt2 l2W9); (try k_sweep)))))
  k_with "my k_all" => (first | exact allNe (by assumption) | exact allNe' (by assumption) | exact allNeT (by assumption) (by first | assumption | omega))
  k_with "my call type:collections.deque" => ((k_here; k_dflt ((refine' dq_make ?FW9 ?NW9 ?_; (case FW9 => k_asm); (case NW9 => k_asm); k_whole; intro h'W9 a'W9 F'W9 N'W9 l1W9; (try k_lt l1W9); (try k_sweep)))))
  k_with "my truthy ref" => ((k_here; k_dflt (refine' dq_truthy ?NW9 ?mW9 ?xW9 ?_; (case NW9 => k_asm); (case mW9 => k_mem); (case xW9 => exact Nat.le_of_ble_eq_true rfl); k_whole; intro k'W9)))
  k_with "my getMethod ref" => ((k_here; k_dflt (first
    | (refine' dq_meth ?NW9 ?mW9 slot_dq_append dq_type_append ?_; (case NW9 => k_asm); (case mW9 => k_mem); k_whole)
    | (refine' dq_meth ?NW9 ?mW9 slot_dq_pop dq_type_pop ?_; (case NW9 => k_asm); (case mW9 => k_mem); k_whole))))
  k_with "my call builtin:collections.deque.append" => ((k_here; k_dflt ((refine' dq_append ?FW9 ?NW9 ?UW9 ?xW9 ?_; (case FW9 => k_asm); (case NW9 => k_asm); (case UW9 => k_upd); (case xW9 => exact Nat.le_of_ble_eq_true rfl); k_whole; intro h'W9 F'W9 N'W9; (try k_sweep)))))
  k_with "my call builtin:collections.deque.pop" => ((k_here; k_dflt ((refine' dq_pop (xs := []) ?FW9 ?NW9 ?UW9 ?xW9 ?_; (case FW9 => k_asm); (case NW9 => k_asm); (case UW9 => k_upd); (case xW9 => exact Nat.le_of_ble_eq_true rfl); k_whole; intro h'W9 F'W9 N'W9; (try k_sweep)))))
  k_with "my call ref" => ((k_here; (with_reducible show wpAny _ _ (call (Value.ref 623) [Value.str (Str.mk (List.toArray _)) _]) _ _ _); k_dflt ((refine' at_use (sio_ok _ _ _ ?lW9) ?hdW9 ?huW9 ?BW9 ?FW9 ?XW9 ?NW9 ?TW9 ?kkW9 _ _ ?_; (case lW9 => assumption); (case BW9 => k_asm); (case FW9 => k_asm); (case XW9 => k_asm); (case NW9 => k_asm); (case TW9 => k_asm); (case kkW9 => first | exact rfl | assumption); (case hdW9 => k_room); (case huW9 => k_units); k_whole; intro x'W9 d'W9 k1'W9 k2'W9 k3'W9 tb'W9 tp'W9 h'W9 tk'W9 F'W9 N'W9 l1W9 l2W9; (try k_lt l1W9); (try k_lt2 l2W9); (try k_sweep)))))
  k_with "my getMethod str" => ((k_here; (with_reducible show wpAny _ _ (getMethod (Value.str _ _) (Str.ofString "maketrans") _) _ _ _); k_dflt ((refine' gm_maketrans ?_; intro k'W9))))
  k_with "my getMethod type:dict" => ((k_here; (with_reducible show wpAny _ _ (getMethod _ (Str.ofString "fromkeys") _) _ _ _); k_dflt ((refine' fk_getm ?FW9 ?NW9 ?XW9 ?_; (case FW9 => k_asm); (case NW9 => k_asm); (case XW9 => k_asm); k_whole; intro x'W9 h'W9 F'W9 N'W9 l1W9; (try k_lt l1W9); (try k_sweep)))))
  k_with "my callWith ref" => ((k_here; k_dflt (refine' callWith_fk ?XW9 ?NW9 ?mW9 ?_; (case XW9 => k_asm); (case NW9 => k_asm); (case mW9 => k_mem); k_whole)))
  k_with "my And" => (((with_reducible show Heap.get? _ _ = some fkBound ∧ _); k_dflt ((refine' ⟨News.get ?NW9 ?mW9, ?_⟩; (case NW9 => k_asm); (case mW9 => k_mem)))))
  k_with "my call ref" => ((k_here; (with_reducible show wpAny _ _ (call (Value.ref _) [Value.str (Str.ofString ".") _]) _ _ _); k_dflt (refine' fk_K ?FW9 ?NW9 ?mW9 ?hhW9 ?bW9 ?_; (case FW9 => k_asm); (case NW9 => k_asm); (case mW9 => k_mem); (case hhW9 => exact rfl); (case bW9 => exact big_of (by assumption)); k_whole; intro d'W9 o'W9 h'W9 tk'W9 F'W9 N'W9 hi'W9 hS'W9 l1W9; (try k_lt l1W9); (try k_sweep))))
  k_with "my call builtin:str.maketrans" => ((k_here; k_dflt ((refine' tr_K ?FW9 ?NW9 ?mW9 ?iW9 ?SW9 ?bW9 ?_; (case FW9 => k_asm); (case NW9 => k_asm); (case mW9 => k_mem); (case iW9 => assumption); (case SW9 => assumption); (case bW9 => exact big_of (by assumption)); k_whole; intro d'W9 o'W9 h'W9 tk'W9 F'W9 N'W9 hi'W9 hS'W9 l1W9; (try k_lt l1W9); (try k_sweep)))))
  k_with "my call builtin:str.translate" => ((k_here; k_dflt ((refine' tl_K ?FW9 ?NW9 ?hhW9 ?mW9 ?iW9 ?SW9 ?_; (case FW9 => k_asm); (case NW9 => k_asm); (case hhW9 => exact rfl); (case mW9 => k_mem); (case iW9 => assumption); (case SW9 => assumption); k_whole; intro t'W9 h'W9 tk'W9 F'W9 N'W9; (try k_sweep)))))
  k_with "my getMethod str" => ((k_here; (with_reducible show wpAny _ _ (getMethod (Value.str _ _) (Str.ofString "translate") _) _ _ _); k_dflt ((refine' gm_translate ?_))))
  trivial

set_option maxHeartbeats 8000000 in
theorem read_ok (w : World) (ℓ : LexA) (ok : ℓ.Ok) (buf : List Nat) (hb : (mk buf).length ≤ 1000000) (c : LexC) (ch : Nat) (hc : buf[c.pos]? = some ch) (t1 : Tok) :
    LexCall w ℓ buf 569 520 5200 [.ref ℓ.st, .int 1 t1] c (fun r c' => ∃ t tp, r = .str (mk [ch]) t ∧ c' = { c with pos := c.pos + 1, tp := tp }) := by
  w_strict (
  unfold LexCall AtAny
  k_fill
  intro dp un p loose mean mg mb news gd cn cs a ccd cl outer A₀ base h₀ L m s hdp hun B F X N T hk rest off en Q E hret
  subst en
  have ok9 := ok
  obtain ⟨o1, o2, o3, o4, o5, o6⟩ := ok
  simp only [List.cons_append, List.nil_append] at N hret
  have hp : c.pos < buf.length := (List.getElem?_eq_some_iff.mp hc).1
  have hlt : ((c.pos : Nat) : Int) < (((mk buf).length : Nat) : Int) := by rw [mk_len]; omega
  refine wpAny_call ?_
  (k_dflt k_enter)
  k_steps
  all_goals first
    | (rw [slice_at hc]; exact hret _ { c with pos := c.pos + 1, tp := _ } _ _ (by k_asm) (by k_asm) ⟨_, _, rfl, rfl⟩)
    | (have el : (mk buf).length = c.pos + 1 := by omega
       rw [slice_last hc (by omega)]
       exact hret _ { c with pos := (mk buf).length, tp := _ } _ _ (by k_asm) (by k_asm) ⟨_, _, rfl, by rw [el]⟩)
  )
set_option maxHeartbeats 8000000 in
theorem read_end (w : World) (ℓ : LexA) (ok : ℓ.Ok) (buf : List Nat) (hb : (mk buf).length ≤ 1000000) (c : LexC) (hc : c.pos = buf.length) (t1 : Tok) :
    LexCall w ℓ buf 569 520 5200 [.ref ℓ.st, .int 1 t1] c (fun r c' => (∃ t, r = .str "" t) ∧ c' = c) := by
  w_strict (
  unfold LexCall AtAny
  k_fill
  intro dp un p loose mean mg mb news gd cn cs a ccd cl outer A₀ base h₀ L m s hdp hun B F X N T hk rest off en Q E hret
  subst en
  have ok9 := ok
  obtain ⟨o1, o2, o3, o4, o5, o6⟩ := ok
  simp only [List.cons_append, List.nil_append] at N hret
  have hlt : (((mk buf).length : Nat) : Int) ≤ ((c.pos : Nat) : Int) := by rw [mk_len]; omega
  refine wpAny_call ?_
  (k_dflt k_enter)
  k_steps
  all_goals exact hret _ c _ _ (by k_asm) (by k_asm) ⟨⟨_, rfl⟩, rfl⟩
  )
end OyMine
end
section
open PySem PySem.W PyProof.Rows PySem.Builtin PySem.Builtin.Re
set_option maxRecDepth 100000
set_option genInjectivity false
set_option genSizeOf false
set_option genSizeOfSpec false
namespace OyMine
theorem words_MkLex_0 : True := by
  w_top off
  k_with_none
  k_with "my pick" => (with_reducible (first | with_reducible assumption | exact And.left (by with_reducible assumption) | exact And.left (And.right (by with_reducible assumption)) | exact And.left (And.right (And.right (by with_reducible assumption))) | exact And.left (And.right (And.right (And.right (by with_reducible assumption)))) | exact And.left (And.right (And.right (And.right (And.right (by with_reducible assumption))))) | exact And.left (And.right (And.right (And.right (And.right (And.right (by with_reducible assumption)))))) | exact And.left (And.right (And.right (And.right (And.right (And.right (And.right (by with_reducible assumption))))))) | exact And.left (And.right (And.right (And.right (And.right (And.right (And.right (And.right (by with_reducible assumption)))))))) | exact And.left (And.right (And.right (And.right (And.right (And.right (And.right (And.right (And.right (by with_reducible assumption))))))))) | exact And.left (And.right (And.right (And.right (And.right (And.right (And.right (And.right (And.right (And.right (by with_reducible assumption)))))))))) | exact And.left (And.right (And.right (And.right (And.right (And.right (And.right (And.right (And.right (And.right (And.right (by with_reducible assumption))))))))))) | exact And.left (And.right (And.right (And.right (And.right (And.right (And.right (And.right (And.right (And.right (And.right (And.right (by with_reducible assumption)))))))))))) | exact And.left (And.right (And.right (And.right (And.right (And.right (And.right (And.right (And.right (And.right (And.right (And.right (And.right (by with_reducible assumption))))))))))))) | exact And.left (And.right (And.right (And.right (And.right (And.right (And.right (And.right (And.right (And.right (And.right (And.right (And.right (And.right (by with_reducible assumption)))))))))))))) | exact And.left (And.right (And.right (And.right (And.right (And.right (And.right (And.right (And.right (And.right (And.right (And.right (And.right (And.right (And.right (by with_reducible assumption))))))))))))))) | exact And.left (And.right (And.right (And.right (And.right (And.right (And.right (And.right (And.right (And.right (And.right (And.right (And.right (And.right (And.right (And.right (by with_reducible assumption)))))))))))))))) | exact And.left (And.right (And.right (And.right (And.right (And.right (And.right (And.right (And.right (And.right (And.right (And.right (And.right (And.right (And.right (And.right (And.right (by with_reducible assumption))))))))))))))))) | exact And.left (And.right (And.right (And.right (And.right (And.right (And.right (And.right (And.right (And.right (And.right (And.right (And.right (And.right (And.right (And.right (And.right (And.right (by with_reducible assumption)))))))))))))))))) | exact And.left (And.right (And.right (And.right (And.right (And.right (And.right (And.right (And.right (And.right (And.right (And.right (And.right (And.right (And.right (And.right (And.right (And.right (And.right (by with_reducible assumption))))))))))))))))))) | exact And.left (And.right (And.right (And.right (And.right (And.right (And.right (And.right (And.right (And.right (And.right (And.right (And.right (And.right (And.right (And.right (And.right (And.right (And.right (And.right (by with_reducible assumption)))))))))))))))))))) | exact And.left (And.right (And.right (And.right (And.right (And.right (And.right (And.right (And.right (And.right (And.right (And.right (And.right (And.right (And.right (And.right (And.right (And.right (And.right (And.right (And.right (by with_reducible assumption))))))))))))))))))))) | exact And.left (And.right (And.right (And.right (And.right (And.right (And.right (And.right (And.right (And.right (And.right (And.right (And.right (And.right (And.right (And.right (And.right (And.right (And.right (And.right (And.right (And.right (by with_reducible assumption)))))))))))))))))))))) | exact And.left (And.right (And.right (And.right (And.right (And.right (And.right (And.right (And.right (And.right (And.right (And.right (And.right (And.right (And.right (And.right (And.right (And.right (And.right (And.right (And.right (And.right (And.right (by with_reducible assumption))))))))))))))))))))))) | exact And.left (And.right (And.right (And.right (And.right (And.right (And.right (And.right (And.right (And.right (And.right (And.right (And.right (And.right (And.right (And.right (And.right (And.right (And.right (And.right (And.right (And.right (And.right (And.right (by with_reducible assumption)))))))))))))))))))))))) | exact And.left (And.right (And.right (And.right (And.right (And.right (And.right (And.right (And.right (And.right (And.right (And.right (And.right (And.right (And.right (And.right (And.right (And.right (And.right (And.right (And.right (And.right (And.right (And.right (And.right (by with_reducible assumption))))))))))))))))))))))))) | exact And.left (And.right (And.right (And.right (And.right (And.right (And.right (And.right (And.right (And.right (And.right (And.right (And.right (And.right (And.right (And.right (And.right (And.right (And.right (And.right (And.right (And.right (And.right (And.right (And.right (And.right (by with_reducible assumption)))))))))))))))))))))))))) | exact And.right (by with_reducible assumption) | exact And.right (And.right (by with_reducible assumption)) | exact And.right (And.right (And.right (by with_reducible assumption)))))
  k_with "my omega" => (first
    | exact Nat.ne_of_lt (by k_extra "my pick")
    | exact Nat.ne_of_gt (by k_extra "my pick")
    | k_extra "my pick"
    | fail "no")
  k_with "my omega" => (first
    | with_reducible assumption
    | with_reducible exact Nat.ne_of_lt (by assumption)
    | with_reducible exact Nat.ne_of_gt (by assumption)
    | decide
    | with_reducible exact Nat.le_refl _
    | with_reducible exact Nat.zero_le _
    | with_reducible exact Nat.le_add_right _ _
    | with_reducible exact Nat.le_add_left _ _
    | with_reducible exact Nat.lt_succ_self _
    | with_reducible exact Nat.le_succ _
    | with_reducible exact Nat.succ_pos _
    | with_reducible exact Nat.zero_add _
    | with_reducible exact q4
    | with_reducible exact q8
    | with_reducible exact Nat.le_of_lt (by assumption)
    | with_reducible exact Nat.le_of_succ_le (by assumption)
    | with_reducible exact Nat.le_of_succ_le_succ (by assumption)
    | with_reducible exact Nat.not_lt.mp (by assumption)
    | with_reducible exact Nat.lt_succ_of_le (by assumption)
    | with_reducible exact Nat.le_succ_of_le (by assumption)
    | with_reducible exact Nat.succ_le_of_lt (by assumption)
    | with_reducible exact q1 (by assumption)
    | with_reducible exact q2 (by assumption)
    | with_reducible exact q3 (by assumption)
    | with_reducible exact q5 (by assumption)
    | with_reducible exact q7 (by assumption)
    | with_reducible exact q6 (by assumption) (by assumption)
    | with_reducible exact absurd (by assumption) (Nat.not_lt.mpr (by assumption))
    | (with_reducible refine room_le (by assumption) ?_; with_unfolding_all rfl)
    | (with_reducible refine room_lt (by assumption) ?_; with_unfolding_all rfl)
    | (with_reducible refine room_le0 (by assumption) ?_; with_unfolding_all rfl)
    | ((fail_if_success (with_reducible show _ ≠ _)); (rename _ ∧ _ => cW9; clear cW9); (repeat (rename _ ∧ _ => cW9; clear cW9)); omega)
    | fail "no")
  k_with "my execs cons" => ((rename Shared => s); refine' execs_cons_n (g := Shared.gens s) (d := Shared.drawn s) (o := Shared.os s) ?gW9 ?dW9 ?oW9 ?_; (case gW9 => exact rfl); (case dW9 => exact rfl); (case oW9 => exact rfl); intro tkW9; (try k_fold))
  trivial
theorem words_MkLex_1 : True := by
  k_with "my k_room" => (first | exact Nat.le_of_ble_eq_true rfl | ((try simp only [duk, depth_under_make, depth_under_kw, depth_in1, depth_deeper, depth_caller, recursionLimit]); (try dsimp only [ktrTop]); (try simp only [recursionLimit]); omega))
  k_with "my ktr_room" => (k_room)
  k_with "my k_units" => (first | exact Nat.le_of_ble_eq_true rfl | ((have hcL9W9 := cLine_is); (try simp only [uuk, units_in1, units_deeper, Around.mark_units, units_caller]); (try dsimp only [ktrTop]); omega))
  k_with "my units_room" => (first | exact Nat.le_of_ble_eq_true rfl | ((have hcL9W9 := cLine_is); (try simp only [uuk, units_in1, units_deeper, Around.mark_units, units_caller]); (try dsimp only [ktrTop]); omega))
  k_with "my k_enter" => ((refine' code_def ?k1W9 ?k2W9 ?k3W9 ?k4W9 ?k5W9 ?kAW9 ?kFW9 ?kKW9 ?k6W9 ?k7W9 ?k8W9 ?k9W9 ?kBW9 ?_ ?c2W9 ?c3W9 ?c4W9 ?c5W9; (case kAW9 => exact rfl); (case kFW9 => exact rfl); (case kKW9 => first | exact rfl | assumption); (case k1W9 => k_asm); (case k2W9 => k_asm); (case k3W9 => k_asm); (case k4W9 => k_asm); (case k5W9 => k_asm); (case k6W9 => k_is); (case k7W9 => k_is); (case k8W9 => k_room); (case k9W9 => first | exact BindsTo.of_eq rfl | exact binds_K (by k_in) rfl (by k_is) rfl rfl rfl | fail "k_enter: no rule for these arguments"); (case c5W9 => decide); (case kBW9 => exact locs rfl); (case c2W9 => exact rfl); (case c3W9 => exact rfl); (case c4W9 => exact rfl); k_whole; intro g'W9 L'W9 h'W9 FG'W9 F'W9 N'W9 B'W9 X'W9 T'W9; (try dsimp only); (try k_lift B'W9); (try k_fold)))
  k_with "my getMethod ref" => ((k_here; (with_reducible show wpAny _ _ (getMethod (Value.ref _) (Str.ofString "sub") _) _ _ _); k_dflt (refine' meth_sub ?FW9 ?XW9 ?eW9 ?cW9 ?dW9 ?_; (case FW9 => k_asm); (case XW9 => k_asm); (case eW9 => k_is); (case cW9 => exact rfl); (case dW9 => exact rfl); k_whole)))
  k_with "my call builtin:re.Pattern.sub" => ((k_here; k_dflt (first
    | (refine' sub54_K ?FW9 ?XW9 ?NW9 ?xW9 ?_; (case FW9 => k_asm); (case XW9 => k_asm); (case NW9 => k_asm); (case xW9 => first | exact nl_fits (by assumption) | omega); k_whole; intro t'W9 h'W9 tk'W9 F'W9 N'W9; (try k_sweep))
    | (refine' sub49_K ?FW9 ?XW9 ?NW9 ?xW9 ?_; (case FW9 => k_asm); (case XW9 => k_asm); (case NW9 => k_asm); (case xW9 => first | exact nl_fits (by assumption) | omega); k_whole; intro t'W9 h'W9 tk'W9 F'W9 N'W9; (try k_sweep)))))
  k_with "my call ref" => ((k_here; (with_reducible show wpAny _ _ (call (Value.ref 763) [Value.str _ _]) _ _ _); k_dflt (refine' search_K ?FW9 ?XW9 ?NW9 ?xW9 ?jW9 ?uW9 ?_; (case FW9 => k_asm); (case XW9 => k_asm); (case NW9 => k_asm); (case xW9 => omega); (case jW9 => assumption); (case uW9 => assumption); k_whole; intro a'W9 h'W9 F'W9 N'W9; (try k_sweep))))
  k_with "my kt_len" => (with_reducible assumption)
  k_with "my truthy str" => ((k_here; (with_reducible show wpAny _ _ (PySem.truthy (Value.str _ _)) _ _ _); (refine' KXt.truthy_pos (K := 16777216) ?kxtaW9 ?kxtbW9 (Nat.le_refl _) ?_; (case kxtaW9 => with_reducible assumption); (case kxtbW9 => omega)); intro _))
  k_with "my callWith ref" => ((k_here; (with_reducible show wpAny _ _ (callWith _ (Value.ref 763) _ _ _) _ _ _); k_dflt (refine' callWith_763 ?k1W9 ?_; (case k1W9 => k_asm); k_whole)))
  k_with "my call builtin:str.replace" => ((k_here; (with_reducible show wpAny _ _ (call (Value.builtin "str.replace") [Value.str _ _, Value.str (Str.ofString "'") _, Value.str _ _]) _ _ _); k_dflt ((refine' replaceQ ?aW9 ?bW9 ?cW9 ?dW9 ?_; (case aW9 => k_ne); (case bW9 => k_ne); (case cW9 => k_ne); (case dW9 => first | with_reducible assumption | omega); k_whole; intro t'W9 k'W9 len'W9))))
  k_with "my k_memK" => (first | assumption | (refine need_app ?_; k_memK) | (refine need_cons ?_; k_memK))
  k_with "my subscriptTail" => ((k_here; (with_reducible show wpAny _ _ (subscriptTail _ _ (Value.ref (TreeAt.t _)) (Value.int (Nat.cast _) _)) _ _ _); k_dflt ((refine' tree_item ?NW9 ?TW9 ?kW9 ?_; (case NW9 => k_asm); (case TW9 => k_memK); (case kW9 => omega); k_whole; intro hm'W9))))
  k_with "my call ref" => ((k_here; (with_reducible show wpAny _ _ (call (Value.ref 770) [Value.str (TreeAt.lab _ _) _]) _ _ _); k_dflt ((refine' pure_use (qt_lab _ _ ?OW9 _ ?kW9 _) ?BW9 ?FW9 ?XW9 ?NW9 ?TW9 ?kkW9 ?hdW9 ?huW9 ?_; (case OW9 => assumption); (case kW9 => omega); (case BW9 => k_asm); (case FW9 => k_asm); (case XW9 => k_asm); (case NW9 => k_asm); (case TW9 => k_asm); (case kkW9 => first | exact rfl | assumption); (case hdW9 => k_room); (case huW9 => k_units); k_whole; intro r'W9 h'W9 tk'W9 F'W9 N'W9 ht'W9; obtain ⟨t'W9, e'W9⟩ := ht'W9; subst e'W9; (try k_sweep)))))
  k_with "my call ref" => ((k_here; (with_reducible show wpAny _ _ (call (Value.ref 61) [Value.str (Str.mk (List.toArray _)) _]) _ _ _); k_dflt ((refine' pure_use (qd_mk _ _ _ ?xW9) ?BW9 ?FW9 ?XW9 ?NW9 ?TW9 ?kkW9 ?hdW9 ?huW9 ?_; (case xW9 => first | omega | exact size_out (by assumption) (by omega)); (case BW9 => k_asm); (case FW9 => k_asm); (case XW9 => k_asm); (case NW9 => k_asm); (case TW9 => k_asm); (case kkW9 => first | exact rfl | assumption); (case hdW9 => k_room); (case huW9 => k_units); k_whole; intro r'W9 h'W9 tk'W9 F'W9 N'W9 ht'W9; obtain ⟨t'W9, e'W9⟩ := ht'W9; subst e'W9; (try k_sweep)))))
  k_with "my kt_len" => (first | exact len_out (by assumption) (by omega) | exact len_quoted (by assumption) (by omega) | exact TreeAt.Ok.eol (by assumption) _ (by omega) | exact TreeAt.part_len (by assumption) (by omega) (by omega) | ((with_reducible refine' len_qd ?qqW9); (case qqW9 => kt_len)))
  k_with "my call builtin:len" => ((k_here; (with_reducible show wpAny _ _ (call (Value.builtin "len") [Value.ref (TreeAt.t _)]) _ _ _); k_dflt ((refine' tree_len ?NW9 ?TW9 ?_; (case NW9 => k_asm); (case TW9 => k_memK); k_whole; intro t'W9 k'W9))))
  k_with "my call ref" => ((k_here; (with_reducible show wpAny _ _ (call (Value.ref 782) [Value.ref _, Value.int (Nat.cast _) _]) _ _ _); (with_reducible rename ∀ k, _ < k → k < 5 → Outline _ _ k => ihOW9); k_dflt ((refine' reads_use (ihOW9 _ ?aW9 ?bW9 _) ?BW9 ?FW9 ?XW9 ?NW9 ?TW9 ?kkW9 ?hdW9 ?huW9 ?hnW9 ?_; (case aW9 => omega); (case bW9 => omega); (case BW9 => k_asm); (case FW9 => k_asm); (case XW9 => k_asm); (case NW9 => k_asm); (case TW9 => k_asm); (case kkW9 => first | exact rfl | assumption); (case hdW9 => k_room); (case huW9 => k_units); (case hnW9 => k_memK); k_whole; intro r'W9 h'W9 tk'W9 F'W9 N'W9 ht'W9; obtain ⟨t'W9, e'W9⟩ := ht'W9; subst e'W9; (try k_sweep)))))
  k_with "my inplaceOp Add str str" => ((k_here; (with_reducible show wpAny _ _ (inplaceOp Operator.Add (Value.str _ _) (Value.str _ _)) _ _ _); (refine' iaddK ?kxaaW9 ?kxabW9 ?kxacW9 ?_; (case kxaaW9 => kt_len); (case kxabW9 => kt_len); (case kxacW9 => exact Nat.le_of_ble_eq_true rfl)); intro _ _ _))
  k_with "my k_enter" => ((kp_kind "both"; (fail_if_success k_inElt); (refine' kp_both ?k1W9 ?k2W9 ?k3W9 ?k4W9 ?k5W9 ?kAW9 ?kFW9 ?kKW9 ?k6W9 ?k7W9 ?k8W9 ?kVW9 ?kXW9 ?kQW9 ?kMW9 ?kNW9 ?kDW9 ?kRW9 ?kPW9 ?kSW9 ?kTW9 ?kBW9 ?_ ?c2W9 ?c3W9 ?c4W9 ?c5W9; (case kAW9 => exact rfl); (case kFW9 => exact rfl); (case kKW9 => first | exact rfl | assumption); (case k1W9 => k_asm); (case k2W9 => k_asm); (case k3W9 => k_asm); (case k4W9 => k_asm); (case k5W9 => k_asm); (case k6W9 => k_is); (case k7W9 => k_is); (case k8W9 => k_room); (case kVW9 => kp_lit); (case kXW9 => kp_lit); (case kQW9 => exact rfl); (case kMW9 => exact rfl); (case kNW9 => exact rfl); (case kDW9 => kp_flats); (case kRW9 => exact rfl); (case kPW9 => exact rfl); (case kSW9 => exact fun _ => rfl); (case kTW9 => exact fun _ _ => rfl); (case kBW9 => exact fun _ _ => locs rfl); (case c5W9 => decide); (case c2W9 => exact rfl); (case c3W9 => exact rfl); (case c4W9 => exact rfl); k_whole; intro C'W9 D'W9 o'W9 g'W9 L'W9 h'W9 tk'W9 l1W9 l2W9 lo'W9 hs'W9 fs'W9 FG'W9 F'W9 N'W9 B'W9 X'W9 T'W9; (try k_lt l1W9); (try k_lt2 l2W9); (try dsimp only); (try k_lift B'W9); (try k_fold))))
  k_with "my call builtin:object.__new__" => ((k_here; k_dflt ((refine' new623_K ?FW9 ?XW9 ?NW9 ?_; (case FW9 => k_asm); (case XW9 => k_asm); (case NW9 => k_asm); k_whole; intro x'W9 d'W9 h'W9 F'W9 N'W9 l1W9 l2W9; (try k_lt l1W9); (try k_lt2 l2W9); (try k_sweep)))))
  k_with "my k_all" => (first | exact allNe (by assumption) | exact allNe' (by assumption) | exact allNeT (by assumption) (by first | assumption | omega))
  k_with "my call type:collections.deque" => ((k_here; k_dflt ((refine' dq_make ?FW9 ?NW9 ?_; (case FW9 => k_asm); (case NW9 => k_asm); k_whole; intro h'W9 a'W9 F'W9 N'W9 l1W9; (try k_lt l1W9); (try k_sweep)))))
  k_with "my truthy ref" => ((k_here; k_dflt (refine' dq_truthy ?NW9 ?mW9 ?xW9 ?_; (case NW9 => k_asm); (case mW9 => k_mem); (case xW9 => exact Nat.le_of_ble_eq_true rfl); k_whole; intro k'W9)))
  k_with "my getMethod ref" => ((k_here; k_dflt (first
    | (refine' dq_meth ?NW9 ?mW9 slot_dq_append dq_type_append ?_; (case NW9 => k_asm); (case mW9 => k_mem); k_whole)
    | (refine' dq_meth ?NW9 ?mW9 slot_dq_pop dq_type_pop ?_; (case NW9 => k_asm); (case mW9 => k_mem); k_whole))))
  k_with "my call builtin:collections.deque.append" => ((k_here; k_dflt ((refine' dq_append ?FW9 ?NW9 ?UW9 ?xW9 ?_; (case FW9 => k_asm); (case NW9 => k_asm); (case UW9 => k_upd); (case xW9 => exact Nat.le_of_ble_eq_true rfl); k_whole; intro h'W9 F'W9 N'W9; (try k_sweep)))))
  k_with "my call builtin:collections.deque.pop" => ((k_here; k_dflt ((refine' dq_pop (xs := []) ?FW9 ?NW9 ?UW9 ?xW9 ?_; (case FW9 => k_asm); (case NW9 => k_asm); (case UW9 => k_upd); (case xW9 => exact Nat.le_of_ble_eq_true rfl); k_whole; intro h'W9 F'W9 N'W9; (try k_sweep)))))
  k_with "my call ref" => ((k_here; (with_reducible show wpAny _ _ (call (Value.ref 623) [Value.str (Str.mk (List.toArray _)) _]) _ _ _); k_dflt ((refine' at_use (sio_ok _ _ _ ?lW9) ?hdW9 ?huW9 ?BW9 ?FW9 ?XW9 ?NW9 ?TW9 ?kkW9 _ _ ?_; (case lW9 => assumption); (case BW9 => k_asm); (case FW9 => k_asm); (case XW9 => k_asm); (case NW9 => k_asm); (case TW9 => k_asm); (case kkW9 => first | exact rfl | assumption); (case hdW9 => k_room); (case huW9 => k_units); k_whole; intro x'W9 d'W9 k1'W9 k2'W9 k3'W9 tb'W9 tp'W9 h'W9 tk'W9 F'W9 N'W9 l1W9 l2W9; (try k_lt l1W9); (try k_lt2 l2W9); (try k_sweep)))))
  k_with "my getMethod str" => ((k_here; (with_reducible show wpAny _ _ (getMethod (Value.str _ _) (Str.ofString "maketrans") _) _ _ _); k_dflt ((refine' gm_maketrans ?_; intro k'W9))))
  k_with "my getMethod type:dict" => ((k_here; (with_reducible show wpAny _ _ (getMethod _ (Str.ofString "fromkeys") _) _ _ _); k_dflt ((refine' fk_getm ?FW9 ?NW9 ?XW9 ?_; (case FW9 => k_asm); (case NW9 => k_asm); (case XW9 => k_asm); k_whole; intro x'W9 h'W9 F'W9 N'W9 l1W9; (try k_lt l1W9); (try k_sweep)))))
  k_with "my callWith ref" => ((k_here; k_dflt (refine' callWith_fk ?XW9 ?NW9 ?mW9 ?_; (case XW9 => k_asm); (case NW9 => k_asm); (case mW9 => k_mem); k_whole)))
  k_with "my And" => (((with_reducible show Heap.get? _ _ = some fkBound ∧ _); k_dflt ((refine' ⟨News.get ?NW9 ?mW9, ?_⟩; (case NW9 => k_asm); (case mW9 => k_mem)))))
  k_with "my call ref" => ((k_here; (with_reducible show wpAny _ _ (call (Value.ref _) [Value.str (Str.ofString ".") _]) _ _ _); k_dflt (refine' fk_K ?FW9 ?NW9 ?mW9 ?hhW9 ?bW9 ?_; (case FW9 => k_asm); (case NW9 => k_asm); (case mW9 => k_mem); (case hhW9 => exact rfl); (case bW9 => exact big_of (by assumption)); k_whole; intro d'W9 o'W9 h'W9 tk'W9 F'W9 N'W9 hi'W9 hS'W9 l1W9; (try k_lt l1W9); (try k_sweep))))
  k_with "my call builtin:str.maketrans" => ((k_here; k_dflt ((refine' tr_K ?FW9 ?NW9 ?mW9 ?iW9 ?SW9 ?bW9 ?_; (case FW9 => k_asm); (case NW9 => k_asm); (case mW9 => k_mem); (case iW9 => assumption); (case SW9 => assumption); (case bW9 => exact big_of (by assumption)); k_whole; intro d'W9 o'W9 h'W9 tk'W9 F'W9 N'W9 hi'W9 hS'W9 l1W9; (try k_lt l1W9); (try k_sweep)))))
  k_with "my call builtin:str.translate" => ((k_here; k_dflt ((refine' tl_K ?FW9 ?NW9 ?hhW9 ?mW9 ?iW9 ?SW9 ?_; (case FW9 => k_asm); (case NW9 => k_asm); (case hhW9 => exact rfl); (case mW9 => k_mem); (case iW9 => assumption); (case SW9 => assumption); k_whole; intro t'W9 h'W9 tk'W9 F'W9 N'W9; (try k_sweep)))))
  k_with "my getMethod str" => ((k_here; (with_reducible show wpAny _ _ (getMethod (Value.str _ _) (Str.ofString "translate") _) _ _ _); k_dflt ((refine' gm_translate ?_))))
  trivial

set_option maxHeartbeats 8000000 in
theorem mk_lexer (w : World) (l : List Nat) (tx tp : Tok) (hx : (mk l).length ≤ 1000000) : AtAny w 500 5000 fun A h₀ L m news s => ∀ Q E : Value → Shared → Prop,
    (∀ (ℓ : LexA) ts tt tl tp h' tk', ℓ.Ok → (∀ p ∈ news, p.1 < ℓ.dx) → Fr h₀ L h' m → News h₀ L h' (lexObjs w ℓ l ⟨.str " " ts, "", tt, 1, tl, 0, tp, 0, []⟩ ++ news) → Q (.ref ℓ.x) { s with heap := h', toks := tk' }) →
    wpAny (model PySem.Challenge.rw_oy0315_01.row.prog w) A (call (.ref 758) [.str (mk l) tx] [("posix", .bool true), ("punctuation_chars", .str "." tp)]) Q E s := by
  w_strict (
  unfold AtAny
  k_fill
  intro dp un p loose mean mg mb news gd cn cs a ccd cl outer A₀ base h₀ L m s hdp hun B F X N T hk Q E hret
  k_steps
  all_goals (
    refine' hret ⟨_, _, _, _, _, _, _, _, _, _, _, _, _, _, _, _, _, _, _, _, _, _, _, _, _, _, _, _, _, _, _, _, _, _, _, _, _, _, _⟩ _ _ _ _ _ _ ?ok ?lo ?F ?N
    case F => k_asm
    case N =>
      refine' kst_newsOf (by k_asm) ?_
      simp only [List.cons_append, List.nil_append]
      refine' all_cons (by k_mem) ?_
      refine' all_cons (by k_mem) ?_
      refine' all_cons (by k_mem) ?_
      refine' all_cons (by k_mem) ?_
      refine' all_cons (by k_mem) ?_
      refine' all_cons (by k_mem) ?_
      refine' all_cons (by k_mem) ?_
      exact fun p hp => .tail _ (.tail _ (.tail _ (.tail _ (.tail _ (.tail _ (.tail _ (.tail _ (.tail _ (.tail _ hp)))))))))
    case ok => (constructor <;> (refine ltN ?_; (try dsimp only); omega))
    case lo => assumption)
  )
end OyMine
end
section
open PySem PySem.W PyProof.Rows PySem.Calls PySem.Builtin
set_option maxRecDepth 100000
set_option genInjectivity false
set_option genSizeOf false
set_option genSizeOfSpec false
namespace OyMine
/-- the walk stops here -/
noncomputable def Stop (p : Prop) : Prop := p
theorem stop_of {p : Prop} (h : Stop p) : p := h
/-- the while of read_token -/
noncomputable def IsWhile (w : World) (test : PySem.Expr) (body orelse : List Stmt) (cs : Scope) (ccd : Value) : Prop :=
  ∃ oc od osl name params s1 s2 pos more dV kV doc pm an ct, (hd.heap_1 w.params).lookup 726 = some ⟨oc, od, .func (fnOf name "shlex.read_token" params (s1 :: s2 :: .While test body orelse pos :: more) cs dV kV doc pm an ccd ct), osl⟩
theorem IsWhile.elim {w : World} {test : PySem.Expr} {body orelse : List Stmt} {cs : Scope} {ccd : Value} {o : Obj} {G : Prop} (h : IsWhile w test body orelse cs ccd) (e : (hd.heap_1 w.params).lookup 726 = some o)
    (g : ∀ oc od osl name params s1 s2 pos more dV kV doc pm an ct, o = ⟨oc, od, .func (fnOf name "shlex.read_token" params (s1 :: s2 :: .While test body orelse pos :: more) cs dV kV doc pm an ccd ct), osl⟩ → G) : G := by
  obtain ⟨oc, od, osl, name, params, s1, s2, pos, more, dV, kV, doc, pm, an, ct, h⟩ := h
  rw [e] at h
  exact g oc od osl name params s1 s2 pos more dV kV doc pm an ct (Option.some.inj h)
/-- the frame of read_token in its loop -/
noncomputable def lexFr (ℓ : LexA) (q : Bool) (esc : Value) (nc : Option Value) : Str → Option Value := fun z =>
  if z = Str.ofString "nextchar" then nc else if z = Str.ofString "escapedstate" then some esc else if z = Str.ofString "quoted" then some (.bool q) else if z = Str.ofString "self" then some (.ref ℓ.x) else none
theorem fr_congr {g : Heap} {L : Addr} {h : Heap} {m m' : Str → Option Value} (F : Fr g L h m) (e : ∀ z, m z = m' z) : Fr g L h m' := (funext e : m = m') ▸ F
/-- from this state on the loop ends, and P holds of the lexer then and of `quoted` -/
noncomputable def LoopsAt (w : World) (ℓ : LexA) (buf : List Nat) (c : LexC) (q : Bool) (esc : Value) (nc : Option Value) (P : LexC → Bool → Prop) (test : PySem.Expr) (body orelse : List Stmt) (cs : Scope) (ccd : Value) : Prop :=
  ∀ (dp un : Nat) (p : Program) (loose : List Str) (mean : ExcName → Option Value) (mg mb : Str → Option Value) (gd : Option (List Code)) (cn : Str) (cs0 : Scope) (L0 a : Addr) (ccd0 : Value) (cl : List (Str × Addr)) (outer : List Env) (base g : Heap) (L : Addr) (rest : List (Addr × Obj)) (s : Shared) (Q : Flow → Shared → Prop) (E : Value → Shared → Prop) (j : Nat),
    dp ≤ 480 → un ≤ 4800 → Below (ktrTop dp un gd cn cs0 L0 a ccd0 cl outer) base (envX cn cs0 L0 a ccd0 cl :: outer) g → (hd.heap_1 w.params).In g → Top p loose mean mg mb g → OwnOff rest ℓ.adr →
    Fr g L s.heap (lexFr ℓ q esc nc) → News g L s.heap (lexObjs w ℓ buf c ++ rest) →
    PassesOwn (model PySem.Challenge.rw_oy0315_01.row.prog w) ((ktrTop dp un gd cn cs0 L0 a ccd0 cl outer).deeper (envOf "shlex.read_token" cs L 726 ccd)) (envOf "shlex.read_token" cs L 726 ccd) E →
    (∀ c' q' esc' nc' h' tk', P c' q' → Fr g L h' (lexFr ℓ q' esc' nc') → News g L h' (lexObjs w ℓ buf c' ++ rest) → Q .next { s with heap := h', toks := tk' }) →
    WhlRest PySem.Challenge.rw_oy0315_01.row.prog w ((ktrTop dp un gd cn cs0 L0 a ccd0 cl outer).deeper (envOf "shlex.read_token" cs L 726 ccd)) E (envOf "shlex.read_token" cs L 726 ccd) test body orelse Q j s
noncomputable def Loops (w : World) (ℓ : LexA) (buf : List Nat) (c : LexC) (q : Bool) (esc : Value) (nc : Option Value) (P : LexC → Bool → Prop) : Prop :=
  ∀ (test : PySem.Expr) (body orelse : List Stmt) (cs : Scope) (ccd : Value), IsWhile w test body orelse cs ccd → LoopsAt w ℓ buf c q esc nc P test body orelse cs ccd
theorem loops_open {w : World} {ℓ : LexA} {buf : List Nat} {c : LexC} {q : Bool} {esc : Value} {nc : Option Value} {P : LexC → Bool → Prop} {t0 : PySem.Expr} {b0 o0 : List Stmt} {c0 : Scope} {d0 : Value} {oc : Value} {od : Option Addr} {osl : Array (Option Value)} {name : Str} {params : Arguments} {s1 s2 : Stmt} {pos : Pos} {more : List Stmt} {dV kV doc pm ct : Value} {an : Option Addr}
    (e : (hd.heap_1 w.params).lookup 726 = some ⟨oc, od, .func (fnOf name "shlex.read_token" params (s1 :: s2 :: .While t0 b0 o0 pos :: more) c0 dV kV doc pm an d0 ct), osl⟩)
    (g : IsWhile w t0 b0 o0 c0 d0 → LoopsAt w ℓ buf c q esc nc P t0 b0 o0 c0 d0) : Loops w ℓ buf c q esc nc P := by
  intro test body orelse cs ccd hW
  have hW' := hW
  obtain ⟨oc, od, osl, name, params, s1, s2, pos, more, dV, kV, doc, pm, an, ct, h⟩ := hW
  rw [e] at h
  cases h
  exact g hW'
noncomputable abbrev lexL (w : World) (ℓ : LexA) (buf : List Nat) (sv : Value) (tok : Str) (tt : Tok) (line : Int) (tl : Tok) (pos : Nat) (tp : Tok) (pn : Int) (pushed : List Value) (rest : List (Addr × Obj)) : List (Addr × Obj) :=
  (ℓ.x, instObj 758 ℓ.dx) :: (ℓ.dx, lexDict w ℓ sv (.str tok tt) (.int line tl)) :: (ℓ.st, instObj 623 ℓ.ds) :: (ℓ.ds, sioDict w ℓ.s0 ℓ.s1 ℓ.s2 (.str (mk buf) ℓ.sb) (.int (pos : Int) tp)) ::
    (ℓ.pb, dqObj 0 []) :: (ℓ.fs, dqObj 0 []) :: (ℓ.pp, dqObj pn pushed) :: rest
section
variable {w : World} {ℓ : LexA} {buf : List Nat} {sv : Value} {tok : Str} {tt : Tok} {line : Int} {tl : Tok} {pos : Nat} {tp : Tok} {pn : Int} {pushed : List Value} {rest : List (Addr × Obj)}
  {L : Addr} {dp un : Nat} {p : Program} {loose : List Str} {mean : ExcName → Option Value} {mg mb : Str → Option Value} {gd : Option (List Code)} {cn : Str} {cs : Scope} {a : Addr} {ccd : Value} {cl : List (Str × Addr)} {outer : List Env} {A₀ : Around} {base h₀ : Heap} {m : Str → Option Value} {s : Shared} {Q E : Value → Shared → Prop} {t1 : Tok}
theorem read_K {ch : Nat} (N : News h₀ L s.heap (lexL w ℓ buf sv tok tt line tl pos tp pn pushed rest)) (F : Fr h₀ L s.heap m) (ok : ℓ.Ok) (hb : (mk buf).length ≤ 1000000) (hc : buf[pos]? = some ch) (off : OwnOff rest ℓ.adr)
    (B : Below A₀ base outer h₀) (X : (hd.heap_1 w.params).In h₀) (T : Top p loose mean mg mb h₀) (hk : cs.kind = .function) (hdp : dp ≤ 520) (hun : un ≤ 5200)
    (h : ∀ t tp' h' tk', Fr h₀ L h' m → News h₀ L h' (lexL w ℓ buf sv tok tt line tl (pos + 1) tp' pn pushed rest) → Q (.str (mk [ch]) t) { s with heap := h', toks := tk' }) :
    wpAny (model PySem.Challenge.rw_oy0315_01.row.prog w) (ktrTop dp un gd cn cs L a ccd cl outer) (call (.ref 569) [.ref ℓ.st, .int 1 t1]) Q E s := by
  refine at_use (read_ok w ℓ ok buf hb ⟨sv, tok, tt, line, tl, pos, tp, pn, pushed⟩ ch hc t1) hdp hun B F X N T hk rest off rfl Q E ?_
  rintro r c' h' tk' F' N' ⟨t, tp', rfl, rfl⟩
  exact h t tp' h' tk' F' N'
theorem read_KE (N : News h₀ L s.heap (lexL w ℓ buf sv tok tt line tl pos tp pn pushed rest)) (F : Fr h₀ L s.heap m) (ok : ℓ.Ok) (hb : (mk buf).length ≤ 1000000) (hc : pos = buf.length) (off : OwnOff rest ℓ.adr)
    (B : Below A₀ base outer h₀) (X : (hd.heap_1 w.params).In h₀) (T : Top p loose mean mg mb h₀) (hk : cs.kind = .function) (hdp : dp ≤ 520) (hun : un ≤ 5200)
    (h : ∀ t h' tk', Fr h₀ L h' m → News h₀ L h' (lexL w ℓ buf sv tok tt line tl pos tp pn pushed rest) → Q (.str "" t) { s with heap := h', toks := tk' }) :
    wpAny (model PySem.Challenge.rw_oy0315_01.row.prog w) (ktrTop dp un gd cn cs L a ccd cl outer) (call (.ref 569) [.ref ℓ.st, .int 1 t1]) Q E s := by
  refine at_use (read_end w ℓ ok buf hb ⟨sv, tok, tt, line, tl, pos, tp, pn, pushed⟩ hc t1) hdp hun B F X N T hk rest off rfl Q E ?_
  rintro r c' h' tk' F' N' ⟨⟨t, rfl⟩, rfl⟩
  exact h t h' tk' F' N'
end
section
variable {prog : Program} {w : World} {A : Around} {E : Value → Shared → Prop} {s : Shared} {x y : Str} {t u : Tok} {Q : Value → Shared → Prop}
theorem in_is (b : Bool) (e : Txt.contains x y = b) (h : Q (.bool b) s) : wpAny (model prog w) A (compareOp .In (.str y u) (.str x t)) Q E s := SB.contains (by rw [e]; exact h)
theorem notin_is (b : Bool) (e : Txt.contains x y = b) (h : Q (.bool (!b)) s) : wpAny (model prog w) A (compareOp .NotIn (.str y u) (.str x t)) Q E s := SB.notContains (by rw [e]; exact h)
theorem eq_is (b : Bool) (e : (x == y) = b) (h : Q (.bool b) s) : wpAny (model prog w) A (compareOp .Eq (.str x t) (.str y u)) Q E s := PyProof.Rows.eq_str (by rw [e]; exact h)
end
theorem lexFr_n (ℓ : LexA) (q : Bool) (esc : Value) (nc : Option Value) (v : Value) : (fun y => if y = Str.ofString "nextchar" then some v else lexFr ℓ q esc nc y) = lexFr ℓ q esc (some v) := by
  funext z
  by_cases h : z = Str.ofString "nextchar"
  · subst h; rfl
  · unfold lexFr
    rw [if_neg h, if_neg h, if_neg h]
theorem lexFr_q (ℓ : LexA) (q : Bool) (esc : Value) (nc : Option Value) (v : Value) : (fun y => if y = Str.ofString "quoted" then some (Value.bool true) else if y = Str.ofString "nextchar" then some v else lexFr ℓ q esc nc y) = lexFr ℓ true esc (some v) := by
  funext z
  by_cases h : z = Str.ofString "quoted"
  · subst h; rfl
  · rw [if_neg h, congrFun (lexFr_n ℓ q esc nc v) z]
    unfold lexFr
    rw [if_neg h, if_neg h]
theorem fr_n {ℓ : LexA} {q : Bool} {esc : Value} {nc : Option Value} {v : Value} {g h : Heap} {L : Addr} (F : Fr g L h (fun y => if y = Str.ofString "nextchar" then some v else lexFr ℓ q esc nc y)) : Fr g L h (lexFr ℓ q esc (some v)) := lexFr_n ℓ q esc nc v ▸ F
theorem fr_q {ℓ : LexA} {q : Bool} {esc : Value} {nc : Option Value} {v : Value} {g h : Heap} {L : Addr} (F : Fr g L h (fun y => if y = Str.ofString "quoted" then some (Value.bool true) else if y = Str.ofString "nextchar" then some v else lexFr ℓ q esc nc y)) : Fr g L h (lexFr ℓ true esc (some v)) := lexFr_q ℓ q esc nc v ▸ F
theorem loops_use {w : World} {ℓ : LexA} {buf : List Nat} {c : LexC} {q : Bool} {esc : Value} {nc : Option Value} {P : LexC → Bool → Prop} {test : PySem.Expr} {body orelse : List Stmt} {cs : Scope} {ccd : Value} {dp un : Nat} {p : Program} {loose : List Str} {mean : ExcName → Option Value} {mg mb : Str → Option Value} {gd : Option (List Code)} {cn : Str} {cs0 : Scope} {L0 a : Addr} {ccd0 : Value} {cl : List (Str × Addr)} {outer : List Env} {base g : Heap} {L : Addr} {rest : List (Addr × Obj)} {s : Shared} {Q : Flow → Shared → Prop} {E : Value → Shared → Prop} {j : Nat}
    (C : Loops w ℓ buf c q esc nc P) (hW : IsWhile w test body orelse cs ccd) (hdp : dp ≤ 480) (hun : un ≤ 4800) (B : Below (ktrTop dp un gd cn cs0 L0 a ccd0 cl outer) base (envX cn cs0 L0 a ccd0 cl :: outer) g) (X : (hd.heap_1 w.params).In g) (T : Top p loose mean mg mb g) (off : OwnOff rest ℓ.adr)
    (F : Fr g L s.heap (lexFr ℓ q esc nc)) (N : News g L s.heap (lexObjs w ℓ buf c ++ rest))
    (hE : PassesOwn (model PySem.Challenge.rw_oy0315_01.row.prog w) ((ktrTop dp un gd cn cs0 L0 a ccd0 cl outer).deeper (envOf "shlex.read_token" cs L 726 ccd)) (envOf "shlex.read_token" cs L 726 ccd) E)
    (fin : ∀ c' q' esc' nc' h' tk', P c' q' → Fr g L h' (lexFr ℓ q' esc' nc') → News g L h' (lexObjs w ℓ buf c' ++ rest) → Q .next { s with heap := h', toks := tk' }) :
    WhlRest PySem.Challenge.rw_oy0315_01.row.prog w ((ktrTop dp un gd cn cs0 L0 a ccd0 cl outer).deeper (envOf "shlex.read_token" cs L 726 ccd)) E (envOf "shlex.read_token" cs L 726 ccd) test body orelse Q j s :=
  C _ _ _ _ _ hW _ _ _ _ _ _ _ _ _ _ _ _ _ _ _ _ _ _ _ _ _ _ _ hdp hun B X T off F N hE fin
theorem news_tail {h₀ h : Heap} {L : Addr} {q : Addr × Obj} {l : List (Addr × Obj)} (N : News h₀ L h (q :: l)) : News h₀ L h l := fun p hp => N p (.tail _ hp)
section
variable {prog : Program} {w : World} {A : Around} {E : Value → Shared → Prop} {s : Shared} {h₀ : Heap} {L a : Addr} {news : List (Addr × Obj)} {n : Int} {v : Value} {Q : Bool → Shared → Prop}
theorem dq_true (N : News h₀ L s.heap news) (hm : (a, dqObj n [v]) ∈ news) (h : ∀ k, Q true { s with toks := k }) : wpAny (model prog w) A (truthy (.ref a)) Q E s := dq_truthy N hm (Nat.le_of_ble_eq_true rfl) h
theorem dq_false (N : News h₀ L s.heap news) (hm : (a, dqObj n []) ∈ news) (h : ∀ k, Q false { s with toks := k }) : wpAny (model prog w) A (truthy (.ref a)) Q E s := dq_truthy N hm (Nat.le_of_ble_eq_true rfl) h
end
end OyMine
end
section
open PySem PySem.W PyProof.Rows PySem.Builtin PySem.Builtin.Re
set_option maxRecDepth 100000
set_option genInjectivity false
set_option genSizeOf false
set_option genSizeOfSpec false
namespace OyMine
theorem words_Turn1_0 : True := by
  w_top off
  k_with_none
  k_with "my omega" => (first
    | with_reducible assumption
    | with_reducible exact Nat.ne_of_lt (by assumption)
    | with_reducible exact Nat.ne_of_gt (by assumption)
    | decide
    | with_reducible exact Nat.le_refl _
    | with_reducible exact Nat.zero_le _
    | with_reducible exact Nat.le_add_right _ _
    | with_reducible exact Nat.le_add_left _ _
    | with_reducible exact Nat.lt_succ_self _
    | with_reducible exact Nat.le_succ _
    | with_reducible exact Nat.succ_pos _
    | with_reducible exact Nat.zero_add _
    | with_reducible exact q4
    | with_reducible exact q8
    | with_reducible exact Nat.le_of_lt (by assumption)
    | with_reducible exact Nat.le_of_succ_le (by assumption)
    | with_reducible exact Nat.le_of_succ_le_succ (by assumption)
    | with_reducible exact Nat.not_lt.mp (by assumption)
    | with_reducible exact Nat.lt_succ_of_le (by assumption)
    | with_reducible exact Nat.le_succ_of_le (by assumption)
    | with_reducible exact Nat.succ_le_of_lt (by assumption)
    | with_reducible exact q1 (by assumption)
    | with_reducible exact q2 (by assumption)
    | with_reducible exact q3 (by assumption)
    | with_reducible exact q5 (by assumption)
    | with_reducible exact q7 (by assumption)
    | with_reducible exact q6 (by assumption) (by assumption)
    | with_reducible exact absurd (by assumption) (Nat.not_lt.mpr (by assumption))
    | (with_reducible refine room_le (by assumption) ?_; with_unfolding_all rfl)
    | (with_reducible refine room_lt (by assumption) ?_; with_unfolding_all rfl)
    | (with_reducible refine room_le0 (by assumption) ?_; with_unfolding_all rfl)
    | ((fail_if_success (with_reducible show _ ≠ _)); (rename _ ∧ _ => cW9; clear cW9); (repeat (rename _ ∧ _ => cW9; clear cW9)); omega)
    | fail "no")
  k_with "my execs cons" => (k_here; refine wpAny_execs_cons ?_; k_fold)
  k_with "my getAttr ref" => (k_here; (with_reducible show wpAny _ _ (getAttr (Value.ref (LexA.x _)) _ _) _ _ _); k_dflt ((with_reducible first | refine' lex_get_instream ?FW9 ?XW9 ?NW9 ?hxW9 ?hdW9 ?_ | refine' lex_get_posix ?FW9 ?XW9 ?NW9 ?hxW9 ?hdW9 ?_ | refine' lex_get_eof ?FW9 ?XW9 ?NW9 ?hxW9 ?hdW9 ?_ | refine' lex_get_commenters ?FW9 ?XW9 ?NW9 ?hxW9 ?hdW9 ?_ | refine' lex_get_wordchars ?FW9 ?XW9 ?NW9 ?hxW9 ?hdW9 ?_ | refine' lex_get_whitespace ?FW9 ?XW9 ?NW9 ?hxW9 ?hdW9 ?_ | refine' lex_get_whitespace_split ?FW9 ?XW9 ?NW9 ?hxW9 ?hdW9 ?_ | refine' lex_get_quotes ?FW9 ?XW9 ?NW9 ?hxW9 ?hdW9 ?_ | refine' lex_get_escape ?FW9 ?XW9 ?NW9 ?hxW9 ?hdW9 ?_ | refine' lex_get_escapedquotes ?FW9 ?XW9 ?NW9 ?hxW9 ?hdW9 ?_ | refine' lex_get_state ?FW9 ?XW9 ?NW9 ?hxW9 ?hdW9 ?_ | refine' lex_get_pushback ?FW9 ?XW9 ?NW9 ?hxW9 ?hdW9 ?_ | refine' lex_get_lineno ?FW9 ?XW9 ?NW9 ?hxW9 ?hdW9 ?_ | refine' lex_get_debug ?FW9 ?XW9 ?NW9 ?hxW9 ?hdW9 ?_ | refine' lex_get_token ?FW9 ?XW9 ?NW9 ?hxW9 ?hdW9 ?_ | refine' lex_get_filestack ?FW9 ?XW9 ?NW9 ?hxW9 ?hdW9 ?_ | refine' lex_get_source ?FW9 ?XW9 ?NW9 ?hxW9 ?hdW9 ?_ | refine' lex_get_punct ?FW9 ?XW9 ?NW9 ?hxW9 ?hdW9 ?_ | refine' lex_get_pushback_chars ?FW9 ?XW9 ?NW9 ?hxW9 ?hdW9 ?_); (case FW9 => k_asm); (case XW9 => k_asm); (case NW9 => k_asm); (case hxW9 => k_mem); (case hdW9 => k_mem); k_whole))
  k_with "my setAttr ref" => (k_here; (with_reducible show wpAny _ _ (setAttr (Value.ref (LexA.x _)) _ _) _ _ _); k_dflt ((with_reducible first | refine' lex_set_state ?FW9 ?XW9 ?okW9 ?offW9 ?NW9 ?_ | refine' lex_set_token ?FW9 ?XW9 ?okW9 ?offW9 ?NW9 ?_ | refine' lex_set_lineno ?FW9 ?XW9 ?okW9 ?offW9 ?NW9 ?_); (case FW9 => k_asm); (case XW9 => k_asm); (case okW9 => assumption); (case offW9 => assumption); (case NW9 => k_asm); k_whole; intro hW9 FaW9 NaW9; (try k_sweep)))
  trivial
theorem words_Turn1_1 : True := by
  k_with "my k_room" => (first | exact Nat.le_of_ble_eq_true rfl | ((try simp only [duk, depth_under_make, depth_under_kw, depth_in1, depth_deeper, depth_caller, recursionLimit]); (try dsimp only [ktrTop]); (try simp only [recursionLimit]); omega))
  k_with "my ktr_room" => (k_room)
  k_with "my k_units" => (first | exact Nat.le_of_ble_eq_true rfl | ((have hcL9W9 := cLine_is); (try simp only [uuk, units_in1, units_deeper, Around.mark_units, units_caller]); (try dsimp only [ktrTop]); omega))
  k_with "my units_room" => (first | exact Nat.le_of_ble_eq_true rfl | ((have hcL9W9 := cLine_is); (try simp only [uuk, units_in1, units_deeper, Around.mark_units, units_caller]); (try dsimp only [ktrTop]); omega))
  k_with "my k_enter" => ((refine' code_def ?k1W9 ?k2W9 ?k3W9 ?k4W9 ?k5W9 ?kAW9 ?kFW9 ?kKW9 ?k6W9 ?k7W9 ?k8W9 ?k9W9 ?kBW9 ?_ ?c2W9 ?c3W9 ?c4W9 ?c5W9; (case kAW9 => exact rfl); (case kFW9 => exact rfl); (case kKW9 => first | exact rfl | assumption); (case k1W9 => k_asm); (case k2W9 => k_asm); (case k3W9 => k_asm); (case k4W9 => k_asm); (case k5W9 => k_asm); (case k6W9 => k_is); (case k7W9 => k_is); (case k8W9 => k_room); (case k9W9 => first | exact BindsTo.of_eq rfl | exact binds_K (by k_in) rfl (by k_is) rfl rfl rfl | fail "k_enter: no rule for these arguments"); (case c5W9 => decide); (case kBW9 => exact locs rfl); (case c2W9 => exact rfl); (case c3W9 => exact rfl); (case c4W9 => exact rfl); k_whole; intro g'W9 L'W9 h'W9 FG'W9 F'W9 N'W9 B'W9 X'W9 T'W9; (try dsimp only); (try k_lift B'W9); (try k_fold)))
  k_with "my getMethod ref" => ((k_here; (with_reducible show wpAny _ _ (getMethod (Value.ref _) (Str.ofString "sub") _) _ _ _); k_dflt (refine' meth_sub ?FW9 ?XW9 ?eW9 ?cW9 ?dW9 ?_; (case FW9 => k_asm); (case XW9 => k_asm); (case eW9 => k_is); (case cW9 => exact rfl); (case dW9 => exact rfl); k_whole)))
  k_with "my call builtin:re.Pattern.sub" => ((k_here; k_dflt (first
    | (refine' sub54_K ?FW9 ?XW9 ?NW9 ?xW9 ?_; (case FW9 => k_asm); (case XW9 => k_asm); (case NW9 => k_asm); (case xW9 => first | exact nl_fits (by assumption) | omega); k_whole; intro t'W9 h'W9 tk'W9 F'W9 N'W9; (try k_sweep))
    | (refine' sub49_K ?FW9 ?XW9 ?NW9 ?xW9 ?_; (case FW9 => k_asm); (case XW9 => k_asm); (case NW9 => k_asm); (case xW9 => first | exact nl_fits (by assumption) | omega); k_whole; intro t'W9 h'W9 tk'W9 F'W9 N'W9; (try k_sweep)))))
  k_with "my call ref" => ((k_here; (with_reducible show wpAny _ _ (call (Value.ref 763) [Value.str _ _]) _ _ _); k_dflt (refine' search_K ?FW9 ?XW9 ?NW9 ?xW9 ?jW9 ?uW9 ?_; (case FW9 => k_asm); (case XW9 => k_asm); (case NW9 => k_asm); (case xW9 => omega); (case jW9 => assumption); (case uW9 => assumption); k_whole; intro a'W9 h'W9 F'W9 N'W9; (try k_sweep))))
  k_with "my kt_len" => (with_reducible assumption)
  k_with "my truthy str" => ((k_here; (with_reducible show wpAny _ _ (PySem.truthy (Value.str _ _)) _ _ _); (refine' KXt.truthy_pos (K := 16777216) ?kxtaW9 ?kxtbW9 (Nat.le_refl _) ?_; (case kxtaW9 => with_reducible assumption); (case kxtbW9 => omega)); intro _))
  k_with "my callWith ref" => ((k_here; (with_reducible show wpAny _ _ (callWith _ (Value.ref 763) _ _ _) _ _ _); k_dflt (refine' callWith_763 ?k1W9 ?_; (case k1W9 => k_asm); k_whole)))
  k_with "my call builtin:str.replace" => ((k_here; (with_reducible show wpAny _ _ (call (Value.builtin "str.replace") [Value.str _ _, Value.str (Str.ofString "'") _, Value.str _ _]) _ _ _); k_dflt ((refine' replaceQ ?aW9 ?bW9 ?cW9 ?dW9 ?_; (case aW9 => k_ne); (case bW9 => k_ne); (case cW9 => k_ne); (case dW9 => first | with_reducible assumption | omega); k_whole; intro t'W9 k'W9 len'W9))))
  k_with "my k_memK" => (first | assumption | (refine need_app ?_; k_memK) | (refine need_cons ?_; k_memK))
  k_with "my subscriptTail" => ((k_here; (with_reducible show wpAny _ _ (subscriptTail _ _ (Value.ref (TreeAt.t _)) (Value.int (Nat.cast _) _)) _ _ _); k_dflt ((refine' tree_item ?NW9 ?TW9 ?kW9 ?_; (case NW9 => k_asm); (case TW9 => k_memK); (case kW9 => omega); k_whole; intro hm'W9))))
  k_with "my call ref" => ((k_here; (with_reducible show wpAny _ _ (call (Value.ref 770) [Value.str (TreeAt.lab _ _) _]) _ _ _); k_dflt ((refine' pure_use (qt_lab _ _ ?OW9 _ ?kW9 _) ?BW9 ?FW9 ?XW9 ?NW9 ?TW9 ?kkW9 ?hdW9 ?huW9 ?_; (case OW9 => assumption); (case kW9 => omega); (case BW9 => k_asm); (case FW9 => k_asm); (case XW9 => k_asm); (case NW9 => k_asm); (case TW9 => k_asm); (case kkW9 => first | exact rfl | assumption); (case hdW9 => k_room); (case huW9 => k_units); k_whole; intro r'W9 h'W9 tk'W9 F'W9 N'W9 ht'W9; obtain ⟨t'W9, e'W9⟩ := ht'W9; subst e'W9; (try k_sweep)))))
  k_with "my call ref" => ((k_here; (with_reducible show wpAny _ _ (call (Value.ref 61) [Value.str (Str.mk (List.toArray _)) _]) _ _ _); k_dflt ((refine' pure_use (qd_mk _ _ _ ?xW9) ?BW9 ?FW9 ?XW9 ?NW9 ?TW9 ?kkW9 ?hdW9 ?huW9 ?_; (case xW9 => first | omega | exact size_out (by assumption) (by omega)); (case BW9 => k_asm); (case FW9 => k_asm); (case XW9 => k_asm); (case NW9 => k_asm); (case TW9 => k_asm); (case kkW9 => first | exact rfl | assumption); (case hdW9 => k_room); (case huW9 => k_units); k_whole; intro r'W9 h'W9 tk'W9 F'W9 N'W9 ht'W9; obtain ⟨t'W9, e'W9⟩ := ht'W9; subst e'W9; (try k_sweep)))))
  k_with "my kt_len" => (first | exact len_out (by assumption) (by omega) | exact len_quoted (by assumption) (by omega) | exact TreeAt.Ok.eol (by assumption) _ (by omega) | exact TreeAt.part_len (by assumption) (by omega) (by omega) | ((with_reducible refine' len_qd ?qqW9); (case qqW9 => kt_len)))
  k_with "my call builtin:len" => ((k_here; (with_reducible show wpAny _ _ (call (Value.builtin "len") [Value.ref (TreeAt.t _)]) _ _ _); k_dflt ((refine' tree_len ?NW9 ?TW9 ?_; (case NW9 => k_asm); (case TW9 => k_memK); k_whole; intro t'W9 k'W9))))
  k_with "my call ref" => ((k_here; (with_reducible show wpAny _ _ (call (Value.ref 782) [Value.ref _, Value.int (Nat.cast _) _]) _ _ _); (with_reducible rename ∀ k, _ < k → k < 5 → Outline _ _ k => ihOW9); k_dflt ((refine' reads_use (ihOW9 _ ?aW9 ?bW9 _) ?BW9 ?FW9 ?XW9 ?NW9 ?TW9 ?kkW9 ?hdW9 ?huW9 ?hnW9 ?_; (case aW9 => omega); (case bW9 => omega); (case BW9 => k_asm); (case FW9 => k_asm); (case XW9 => k_asm); (case NW9 => k_asm); (case TW9 => k_asm); (case kkW9 => first | exact rfl | assumption); (case hdW9 => k_room); (case huW9 => k_units); (case hnW9 => k_memK); k_whole; intro r'W9 h'W9 tk'W9 F'W9 N'W9 ht'W9; obtain ⟨t'W9, e'W9⟩ := ht'W9; subst e'W9; (try k_sweep)))))
  k_with "my inplaceOp Add str str" => ((k_here; (with_reducible show wpAny _ _ (inplaceOp Operator.Add (Value.str _ _) (Value.str _ _)) _ _ _); (refine' iaddK ?kxaaW9 ?kxabW9 ?kxacW9 ?_; (case kxaaW9 => kt_len); (case kxabW9 => kt_len); (case kxacW9 => exact Nat.le_of_ble_eq_true rfl)); intro _ _ _))
  k_with "my k_enter" => ((kp_kind "both"; (fail_if_success k_inElt); (refine' kp_both ?k1W9 ?k2W9 ?k3W9 ?k4W9 ?k5W9 ?kAW9 ?kFW9 ?kKW9 ?k6W9 ?k7W9 ?k8W9 ?kVW9 ?kXW9 ?kQW9 ?kMW9 ?kNW9 ?kDW9 ?kRW9 ?kPW9 ?kSW9 ?kTW9 ?kBW9 ?_ ?c2W9 ?c3W9 ?c4W9 ?c5W9; (case kAW9 => exact rfl); (case kFW9 => exact rfl); (case kKW9 => first | exact rfl | assumption); (case k1W9 => k_asm); (case k2W9 => k_asm); (case k3W9 => k_asm); (case k4W9 => k_asm); (case k5W9 => k_asm); (case k6W9 => k_is); (case k7W9 => k_is); (case k8W9 => k_room); (case kVW9 => kp_lit); (case kXW9 => kp_lit); (case kQW9 => exact rfl); (case kMW9 => exact rfl); (case kNW9 => exact rfl); (case kDW9 => kp_flats); (case kRW9 => exact rfl); (case kPW9 => exact rfl); (case kSW9 => exact fun _ => rfl); (case kTW9 => exact fun _ _ => rfl); (case kBW9 => exact fun _ _ => locs rfl); (case c5W9 => decide); (case c2W9 => exact rfl); (case c3W9 => exact rfl); (case c4W9 => exact rfl); k_whole; intro C'W9 D'W9 o'W9 g'W9 L'W9 h'W9 tk'W9 l1W9 l2W9 lo'W9 hs'W9 fs'W9 FG'W9 F'W9 N'W9 B'W9 X'W9 T'W9; (try k_lt l1W9); (try k_lt2 l2W9); (try dsimp only); (try k_lift B'W9); (try k_fold))))
  k_with "my call builtin:object.__new__" => ((k_here; k_dflt ((refine' new623_K ?FW9 ?XW9 ?NW9 ?_; (case FW9 => k_asm); (case XW9 => k_asm); (case NW9 => k_asm); k_whole; intro x'W9 d'W9 h'W9 F'W9 N'W9 l1W9 l2W9; (try k_lt l1W9); (try k_lt2 l2W9); (try k_sweep)))))
  k_with "my k_all" => (first | exact allNe (by assumption) | exact allNe' (by assumption) | exact allNeT (by assumption) (by first | assumption | omega))
  k_with "my call type:collections.deque" => ((k_here; k_dflt ((refine' dq_make ?FW9 ?NW9 ?_; (case FW9 => k_asm); (case NW9 => k_asm); k_whole; intro h'W9 a'W9 F'W9 N'W9 l1W9; (try k_lt l1W9); (try k_sweep)))))
  k_with "my truthy ref" => ((k_here; k_dflt (refine' dq_truthy ?NW9 ?mW9 ?xW9 ?_; (case NW9 => k_asm); (case mW9 => k_mem); (case xW9 => exact Nat.le_of_ble_eq_true rfl); k_whole; intro k'W9)))
  k_with "my getMethod ref" => ((k_here; k_dflt (first
    | (refine' dq_meth ?NW9 ?mW9 slot_dq_append dq_type_append ?_; (case NW9 => k_asm); (case mW9 => k_mem); k_whole)
    | (refine' dq_meth ?NW9 ?mW9 slot_dq_pop dq_type_pop ?_; (case NW9 => k_asm); (case mW9 => k_mem); k_whole))))
  k_with "my call builtin:collections.deque.append" => ((k_here; k_dflt ((refine' dq_append ?FW9 ?NW9 ?UW9 ?xW9 ?_; (case FW9 => k_asm); (case NW9 => k_asm); (case UW9 => k_upd); (case xW9 => exact Nat.le_of_ble_eq_true rfl); k_whole; intro h'W9 F'W9 N'W9; (try k_sweep)))))
  k_with "my call builtin:collections.deque.pop" => ((k_here; k_dflt ((refine' dq_pop (xs := []) ?FW9 ?NW9 ?UW9 ?xW9 ?_; (case FW9 => k_asm); (case NW9 => k_asm); (case UW9 => k_upd); (case xW9 => exact Nat.le_of_ble_eq_true rfl); k_whole; intro h'W9 F'W9 N'W9; (try k_sweep)))))
  k_with "my call ref" => ((k_here; (with_reducible show wpAny _ _ (call (Value.ref 623) [Value.str (Str.mk (List.toArray _)) _]) _ _ _); k_dflt ((refine' at_use (sio_ok _ _ _ ?lW9) ?hdW9 ?huW9 ?BW9 ?FW9 ?XW9 ?NW9 ?TW9 ?kkW9 _ _ ?_; (case lW9 => assumption); (case BW9 => k_asm); (case FW9 => k_asm); (case XW9 => k_asm); (case NW9 => k_asm); (case TW9 => k_asm); (case kkW9 => first | exact rfl | assumption); (case hdW9 => k_room); (case huW9 => k_units); k_whole; intro x'W9 d'W9 k1'W9 k2'W9 k3'W9 tb'W9 tp'W9 h'W9 tk'W9 F'W9 N'W9 l1W9 l2W9; (try k_lt l1W9); (try k_lt2 l2W9); (try k_sweep)))))
  k_with "my getMethod str" => ((k_here; (with_reducible show wpAny _ _ (getMethod (Value.str _ _) (Str.ofString "maketrans") _) _ _ _); k_dflt ((refine' gm_maketrans ?_; intro k'W9))))
  k_with "my getMethod type:dict" => ((k_here; (with_reducible show wpAny _ _ (getMethod _ (Str.ofString "fromkeys") _) _ _ _); k_dflt ((refine' fk_getm ?FW9 ?NW9 ?XW9 ?_; (case FW9 => k_asm); (case NW9 => k_asm); (case XW9 => k_asm); k_whole; intro x'W9 h'W9 F'W9 N'W9 l1W9; (try k_lt l1W9); (try k_sweep)))))
  k_with "my callWith ref" => ((k_here; k_dflt (refine' callWith_fk ?XW9 ?NW9 ?mW9 ?_; (case XW9 => k_asm); (case NW9 => k_asm); (case mW9 => k_mem); k_whole)))
  k_with "my And" => (((with_reducible show Heap.get? _ _ = some fkBound ∧ _); k_dflt ((refine' ⟨News.get ?NW9 ?mW9, ?_⟩; (case NW9 => k_asm); (case mW9 => k_mem)))))
  k_with "my call ref" => ((k_here; (with_reducible show wpAny _ _ (call (Value.ref _) [Value.str (Str.ofString ".") _]) _ _ _); k_dflt (refine' fk_K ?FW9 ?NW9 ?mW9 ?hhW9 ?bW9 ?_; (case FW9 => k_asm); (case NW9 => k_asm); (case mW9 => k_mem); (case hhW9 => exact rfl); (case bW9 => exact big_of (by assumption)); k_whole; intro d'W9 o'W9 h'W9 tk'W9 F'W9 N'W9 hi'W9 hS'W9 l1W9; (try k_lt l1W9); (try k_sweep))))
  k_with "my call builtin:str.maketrans" => ((k_here; k_dflt ((refine' tr_K ?FW9 ?NW9 ?mW9 ?iW9 ?SW9 ?bW9 ?_; (case FW9 => k_asm); (case NW9 => k_asm); (case mW9 => k_mem); (case iW9 => assumption); (case SW9 => assumption); (case bW9 => exact big_of (by assumption)); k_whole; intro d'W9 o'W9 h'W9 tk'W9 F'W9 N'W9 hi'W9 hS'W9 l1W9; (try k_lt l1W9); (try k_sweep)))))
  k_with "my call builtin:str.translate" => ((k_here; k_dflt ((refine' tl_K ?FW9 ?NW9 ?hhW9 ?mW9 ?iW9 ?SW9 ?_; (case FW9 => k_asm); (case NW9 => k_asm); (case hhW9 => exact rfl); (case mW9 => k_mem); (case iW9 => assumption); (case SW9 => assumption); k_whole; intro t'W9 h'W9 tk'W9 F'W9 N'W9; (try k_sweep)))))
  k_with "my getMethod str" => ((k_here; (with_reducible show wpAny _ _ (getMethod (Value.str _ _) (Str.ofString "translate") _) _ _ _); k_dflt ((refine' gm_translate ?_))))
  k_with "my WhlRest" => ((refine stop_of ?_))
  k_with "my call ref" => ((k_here; (with_reducible show wpAny _ _ (call (Value.ref 569) [Value.ref _, Value.int 1 _]) _ _ _); k_dflt ((first
    | (refine' read_K ?NW9 ?FW9 ?okW9 ?hbW9 ?hcW9 ?offW9 ?BW9 ?XW9 ?TW9 ?kkW9 ?hdW9 ?huW9 ?_; (case NW9 => k_asm); (case FW9 => k_asm); (case okW9 => constructor <;> assumption); (case hbW9 => assumption); (case hcW9 => assumption); (case offW9 => assumption); (case BW9 => k_asm); (case XW9 => k_asm); (case TW9 => k_asm); (case kkW9 => first | exact rfl | assumption); (case hdW9 => k_room); (case huW9 => k_units); k_whole; intro t'W9 tp'W9 h'W9 tk'W9 F'W9 N'W9; (try k_sweep))
    | (refine' read_KE ?NW9 ?FW9 ?okW9 ?hbW9 ?hcW9 ?offW9 ?BW9 ?XW9 ?TW9 ?kkW9 ?hdW9 ?huW9 ?_; (case NW9 => k_asm); (case FW9 => k_asm); (case okW9 => constructor <;> assumption); (case hbW9 => assumption); (case hcW9 => assumption); (case offW9 => assumption); (case BW9 => k_asm); (case XW9 => k_asm); (case TW9 => k_asm); (case kkW9 => first | exact rfl | assumption); (case hdW9 => k_room); (case huW9 => k_units); k_whole; intro t'W9 h'W9 tk'W9 F'W9 N'W9; (try k_sweep))))))
  k_with "my compareOp In str str" => ((k_here; first
    | (refine' in_is false ?eW9 ?_; (case eW9 => first | with_reducible assumption | decide +kernel))
    | (refine' in_is true ?eW9 ?_; (case eW9 => first | with_reducible assumption | decide +kernel))))
  k_with "my compareOp NotIn str str" => ((k_here; first
    | (refine' notin_is false ?eW9 ?_; (case eW9 => first | with_reducible assumption | decide +kernel))
    | (refine' notin_is true ?eW9 ?_; (case eW9 => first | with_reducible assumption | decide +kernel))))
  k_with "my compareOp Eq str str" => ((k_here; first
    | (refine' eq_is false ?eW9 ?_; (case eW9 => first | with_reducible assumption | decide +kernel))
    | (refine' eq_is true ?eW9 ?_; (case eW9 => first | with_reducible assumption | decide +kernel))))
  k_with "my exec If" => ((refine wpAny_If ?_))
  k_with "my truthy ref" => ((k_here; k_dflt (first
    | (refine' dq_false ?NW9 ?mW9 ?_; (case NW9 => k_asm); (case mW9 => k_mem); k_whole; intro k'W9)
    | (refine' dq_true ?NW9 ?mW9 ?_; (case NW9 => k_asm); (case mW9 => k_mem); k_whole; intro k'W9))))
  trivial

variable {w : World} {ℓ : LexA} {buf : List Nat} {q : Bool} {esc : Value} {nc : Option Value} {P : LexC → Bool → Prop}
set_option maxHeartbeats 8000000 in
theorem turn_A (ok : ℓ.Ok) (hb : (mk buf).length ≤ 1000000) {ts tt tl tp : Tok} {tok : Str} {line : Int} {pos : Nat} {pn : Int}  (hc : buf[pos]? = some 46) (ht : tok.length ≤ 1000) 
    (next : ∀ (ts' tt' tl' tp' : Tok) v, Loops w ℓ buf ⟨.str "c" ts', mk [46], tt', line, tl', pos + 1, tp', pn, []⟩ q esc (some v) P) : Loops w ℓ buf ⟨.str " " ts, tok, tt, line, tl, pos, tp, pn, []⟩ q esc nc P := by
  w_strict (
  unfold Loops LoopsAt
  k_fill
  change Loops _ _ _ _ _ _ _ _
  refine' loops_open ?e9 ?_
  case e9 => k_is
  intro hW'
  unfold LoopsAt
  intro dp un p loose mean mg mb gd cn cs0 L0 a ccd0 cl outer base g L rest s Q E j hdp hun B X T off F N hE fin
  have ok9 := ok
  obtain ⟨o1, o2, o3, o4, o5, o6⟩ := ok
  simp only [List.cons_append, List.nil_append] at N
  refine whl_turn (k := j) hE ?_
  k_steps
  all_goals (show WhlRest _ _ _ _ _ _ _ _ _ _ _; refine loops_use (next _ _ _ _ _) hW' hdp hun B X T off (by (first | exact fr_n (by k_asm) | exact fr_q (by k_asm))) (by (first | exact news_tail (by k_asm) | k_asm)) hE fin)
  )
set_option maxHeartbeats 8000000 in
theorem turn_B (ok : ℓ.Ok) (hb : (mk buf).length ≤ 1000000) {ts tt tl tp : Tok} {tok : Str} {line : Int} {pos : Nat} {pn : Int}  (hc : buf[pos]? = some 46) (ht : tok.length ≤ 1000) 
    (next : ∀ (tt' tl' tp' : Tok) v, Loops w ℓ buf ⟨.str "c" ts, tok ++ mk [46], tt', line, tl', pos + 1, tp', pn, []⟩ q esc (some v) P) : Loops w ℓ buf ⟨.str "c" ts, tok, tt, line, tl, pos, tp, pn, []⟩ q esc nc P := by
  w_strict (
  unfold Loops LoopsAt
  k_fill
  change Loops _ _ _ _ _ _ _ _
  refine' loops_open ?e9 ?_
  case e9 => k_is
  intro hW'
  unfold LoopsAt
  intro dp un p loose mean mg mb gd cn cs0 L0 a ccd0 cl outer base g L rest s Q E j hdp hun B X T off F N hE fin
  have ok9 := ok
  obtain ⟨o1, o2, o3, o4, o5, o6⟩ := ok
  simp only [List.cons_append, List.nil_append] at N
  refine whl_turn (k := j) hE ?_
  k_steps
  all_goals (show WhlRest _ _ _ _ _ _ _ _ _ _ _; refine loops_use (next _ _ _ _) hW' hdp hun B X T off (by (first | exact fr_n (by k_asm) | exact fr_q (by k_asm))) (by (first | exact news_tail (by k_asm) | k_asm)) hE fin)
  )
set_option maxHeartbeats 8000000 in
theorem turn_C (ok : ℓ.Ok) (hb : (mk buf).length ≤ 1000000) {ts tt tl tp : Tok} {tok : Str} {line : Int} {pos : Nat} {pn : Int}  (hc : buf[pos]? = some 39) (ht : tok.length ≤ 1000) 
    (fin' : ∀ (ts' tt' tl' tp' t' : Tok), P ⟨.str " " ts', tok, tt', line, tl', pos + 1, tp', pn + 1, [.str (mk [39]) t']⟩ q) : Loops w ℓ buf ⟨.str "c" ts, tok, tt, line, tl, pos, tp, pn, []⟩ q esc nc P := by
  w_strict (
  unfold Loops LoopsAt
  k_fill
  change Loops _ _ _ _ _ _ _ _
  refine' loops_open ?e9 ?_
  case e9 => k_is
  intro hW'
  unfold LoopsAt
  intro dp un p loose mean mg mb gd cn cs0 L0 a ccd0 cl outer base g L rest s Q E j hdp hun B X T off F N hE fin
  have ok9 := ok
  obtain ⟨o1, o2, o3, o4, o5, o6⟩ := ok
  simp only [List.cons_append, List.nil_append] at N
  refine whl_turn (k := j) hE ?_
  k_steps
  all_goals (refine fin _ q _ _ _ _ (fin' _ _ _ _ _) (by (first | exact fr_n (by k_asm) | exact fr_q (by k_asm))) (by (first | exact news_tail (by k_asm) | k_asm)))
  )
set_option maxHeartbeats 8000000 in
theorem turn_D (ok : ℓ.Ok) (hb : (mk buf).length ≤ 1000000) {ts tt tl tp : Tok} {tok : Str} {line : Int} {pos : Nat} {pn : Int} {tq : Tok} (ht : tok.length ≤ 1000) 
    (next : ∀ (tt' tl' tp' : Tok) v, Loops w ℓ buf ⟨.str (mk [39]) tq, tok, tt', line, tl', pos, tp', pn + 1, []⟩ q esc (some v) P) : Loops w ℓ buf ⟨.str " " ts, tok, tt, line, tl, pos, tp, pn, [.str (mk [39]) tq]⟩ q esc nc P := by
  w_strict (
  unfold Loops LoopsAt
  k_fill
  change Loops _ _ _ _ _ _ _ _
  refine' loops_open ?e9 ?_
  case e9 => k_is
  intro hW'
  unfold LoopsAt
  intro dp un p loose mean mg mb gd cn cs0 L0 a ccd0 cl outer base g L rest s Q E j hdp hun B X T off F N hE fin
  have ok9 := ok
  obtain ⟨o1, o2, o3, o4, o5, o6⟩ := ok
  simp only [List.cons_append, List.nil_append] at N
  refine whl_turn (k := j) hE ?_
  k_steps
  all_goals (show WhlRest _ _ _ _ _ _ _ _ _ _ _; refine loops_use (next _ _ _ _) hW' hdp hun B X T off (by (first | exact fr_n (by k_asm) | exact fr_q (by k_asm))) (by (first | exact news_tail (by k_asm) | k_asm)) hE fin)
  )
end OyMine
end
section
open PySem PySem.W PyProof.Rows PySem.Builtin PySem.Builtin.Re
set_option maxRecDepth 100000
set_option genInjectivity false
set_option genSizeOf false
set_option genSizeOfSpec false
namespace OyMine
theorem words_Turn2_0 : True := by
  w_top off
  k_with_none
  k_with "my omega" => (first
    | with_reducible assumption
    | with_reducible exact Nat.ne_of_lt (by assumption)
    | with_reducible exact Nat.ne_of_gt (by assumption)
    | decide
    | with_reducible exact Nat.le_refl _
    | with_reducible exact Nat.zero_le _
    | with_reducible exact Nat.le_add_right _ _
    | with_reducible exact Nat.le_add_left _ _
    | with_reducible exact Nat.lt_succ_self _
    | with_reducible exact Nat.le_succ _
    | with_reducible exact Nat.succ_pos _
    | with_reducible exact Nat.zero_add _
    | with_reducible exact q4
    | with_reducible exact q8
    | with_reducible exact Nat.le_of_lt (by assumption)
    | with_reducible exact Nat.le_of_succ_le (by assumption)
    | with_reducible exact Nat.le_of_succ_le_succ (by assumption)
    | with_reducible exact Nat.not_lt.mp (by assumption)
    | with_reducible exact Nat.lt_succ_of_le (by assumption)
    | with_reducible exact Nat.le_succ_of_le (by assumption)
    | with_reducible exact Nat.succ_le_of_lt (by assumption)
    | with_reducible exact q1 (by assumption)
    | with_reducible exact q2 (by assumption)
    | with_reducible exact q3 (by assumption)
    | with_reducible exact q5 (by assumption)
    | with_reducible exact q7 (by assumption)
    | with_reducible exact q6 (by assumption) (by assumption)
    | with_reducible exact absurd (by assumption) (Nat.not_lt.mpr (by assumption))
    | (with_reducible refine room_le (by assumption) ?_; with_unfolding_all rfl)
    | (with_reducible refine room_lt (by assumption) ?_; with_unfolding_all rfl)
    | (with_reducible refine room_le0 (by assumption) ?_; with_unfolding_all rfl)
    | ((fail_if_success (with_reducible show _ ≠ _)); (rename _ ∧ _ => cW9; clear cW9); (repeat (rename _ ∧ _ => cW9; clear cW9)); omega)
    | fail "no")
  k_with "my execs cons" => (k_here; refine wpAny_execs_cons ?_; k_fold)
  k_with "my getAttr ref" => (k_here; (with_reducible show wpAny _ _ (getAttr (Value.ref (LexA.x _)) _ _) _ _ _); k_dflt ((with_reducible first | refine' lex_get_instream ?FW9 ?XW9 ?NW9 ?hxW9 ?hdW9 ?_ | refine' lex_get_posix ?FW9 ?XW9 ?NW9 ?hxW9 ?hdW9 ?_ | refine' lex_get_eof ?FW9 ?XW9 ?NW9 ?hxW9 ?hdW9 ?_ | refine' lex_get_commenters ?FW9 ?XW9 ?NW9 ?hxW9 ?hdW9 ?_ | refine' lex_get_wordchars ?FW9 ?XW9 ?NW9 ?hxW9 ?hdW9 ?_ | refine' lex_get_whitespace ?FW9 ?XW9 ?NW9 ?hxW9 ?hdW9 ?_ | refine' lex_get_whitespace_split ?FW9 ?XW9 ?NW9 ?hxW9 ?hdW9 ?_ | refine' lex_get_quotes ?FW9 ?XW9 ?NW9 ?hxW9 ?hdW9 ?_ | refine' lex_get_escape ?FW9 ?XW9 ?NW9 ?hxW9 ?hdW9 ?_ | refine' lex_get_escapedquotes ?FW9 ?XW9 ?NW9 ?hxW9 ?hdW9 ?_ | refine' lex_get_state ?FW9 ?XW9 ?NW9 ?hxW9 ?hdW9 ?_ | refine' lex_get_pushback ?FW9 ?XW9 ?NW9 ?hxW9 ?hdW9 ?_ | refine' lex_get_lineno ?FW9 ?XW9 ?NW9 ?hxW9 ?hdW9 ?_ | refine' lex_get_debug ?FW9 ?XW9 ?NW9 ?hxW9 ?hdW9 ?_ | refine' lex_get_token ?FW9 ?XW9 ?NW9 ?hxW9 ?hdW9 ?_ | refine' lex_get_filestack ?FW9 ?XW9 ?NW9 ?hxW9 ?hdW9 ?_ | refine' lex_get_source ?FW9 ?XW9 ?NW9 ?hxW9 ?hdW9 ?_ | refine' lex_get_punct ?FW9 ?XW9 ?NW9 ?hxW9 ?hdW9 ?_ | refine' lex_get_pushback_chars ?FW9 ?XW9 ?NW9 ?hxW9 ?hdW9 ?_); (case FW9 => k_asm); (case XW9 => k_asm); (case NW9 => k_asm); (case hxW9 => k_mem); (case hdW9 => k_mem); k_whole))
  k_with "my setAttr ref" => (k_here; (with_reducible show wpAny _ _ (setAttr (Value.ref (LexA.x _)) _ _) _ _ _); k_dflt ((with_reducible first | refine' lex_set_state ?FW9 ?XW9 ?okW9 ?offW9 ?NW9 ?_ | refine' lex_set_token ?FW9 ?XW9 ?okW9 ?offW9 ?NW9 ?_ | refine' lex_set_lineno ?FW9 ?XW9 ?okW9 ?offW9 ?NW9 ?_); (case FW9 => k_asm); (case XW9 => k_asm); (case okW9 => assumption); (case offW9 => assumption); (case NW9 => k_asm); k_whole; intro hW9 FaW9 NaW9; (try k_sweep)))
  trivial
theorem words_Turn2_1 : True := by
  k_with "my k_room" => (first | exact Nat.le_of_ble_eq_true rfl | ((try simp only [duk, depth_under_make, depth_under_kw, depth_in1, depth_deeper, depth_caller, recursionLimit]); (try dsimp only [ktrTop]); (try simp only [recursionLimit]); omega))
  k_with "my ktr_room" => (k_room)
  k_with "my k_units" => (first | exact Nat.le_of_ble_eq_true rfl | ((have hcL9W9 := cLine_is); (try simp only [uuk, units_in1, units_deeper, Around.mark_units, units_caller]); (try dsimp only [ktrTop]); omega))
  k_with "my units_room" => (first | exact Nat.le_of_ble_eq_true rfl | ((have hcL9W9 := cLine_is); (try simp only [uuk, units_in1, units_deeper, Around.mark_units, units_caller]); (try dsimp only [ktrTop]); omega))
  k_with "my k_enter" => ((refine' code_def ?k1W9 ?k2W9 ?k3W9 ?k4W9 ?k5W9 ?kAW9 ?kFW9 ?kKW9 ?k6W9 ?k7W9 ?k8W9 ?k9W9 ?kBW9 ?_ ?c2W9 ?c3W9 ?c4W9 ?c5W9; (case kAW9 => exact rfl); (case kFW9 => exact rfl); (case kKW9 => first | exact rfl | assumption); (case k1W9 => k_asm); (case k2W9 => k_asm); (case k3W9 => k_asm); (case k4W9 => k_asm); (case k5W9 => k_asm); (case k6W9 => k_is); (case k7W9 => k_is); (case k8W9 => k_room); (case k9W9 => first | exact BindsTo.of_eq rfl | exact binds_K (by k_in) rfl (by k_is) rfl rfl rfl | fail "k_enter: no rule for these arguments"); (case c5W9 => decide); (case kBW9 => exact locs rfl); (case c2W9 => exact rfl); (case c3W9 => exact rfl); (case c4W9 => exact rfl); k_whole; intro g'W9 L'W9 h'W9 FG'W9 F'W9 N'W9 B'W9 X'W9 T'W9; (try dsimp only); (try k_lift B'W9); (try k_fold)))
  k_with "my getMethod ref" => ((k_here; (with_reducible show wpAny _ _ (getMethod (Value.ref _) (Str.ofString "sub") _) _ _ _); k_dflt (refine' meth_sub ?FW9 ?XW9 ?eW9 ?cW9 ?dW9 ?_; (case FW9 => k_asm); (case XW9 => k_asm); (case eW9 => k_is); (case cW9 => exact rfl); (case dW9 => exact rfl); k_whole)))
  k_with "my call builtin:re.Pattern.sub" => ((k_here; k_dflt (first
    | (refine' sub54_K ?FW9 ?XW9 ?NW9 ?xW9 ?_; (case FW9 => k_asm); (case XW9 => k_asm); (case NW9 => k_asm); (case xW9 => first | exact nl_fits (by assumption) | omega); k_whole; intro t'W9 h'W9 tk'W9 F'W9 N'W9; (try k_sweep))
    | (refine' sub49_K ?FW9 ?XW9 ?NW9 ?xW9 ?_; (case FW9 => k_asm); (case XW9 => k_asm); (case NW9 => k_asm); (case xW9 => first | exact nl_fits (by assumption) | omega); k_whole; intro t'W9 h'W9 tk'W9 F'W9 N'W9; (try k_sweep)))))
  k_with "my call ref" => ((k_here; (with_reducible show wpAny _ _ (call (Value.ref 763) [Value.str _ _]) _ _ _); k_dflt (refine' search_K ?FW9 ?XW9 ?NW9 ?xW9 ?jW9 ?uW9 ?_; (case FW9 => k_asm); (case XW9 => k_asm); (case NW9 => k_asm); (case xW9 => omega); (case jW9 => assumption); (case uW9 => assumption); k_whole; intro a'W9 h'W9 F'W9 N'W9; (try k_sweep))))
  k_with "my kt_len" => (with_reducible assumption)
  k_with "my truthy str" => ((k_here; (with_reducible show wpAny _ _ (PySem.truthy (Value.str _ _)) _ _ _); (refine' KXt.truthy_pos (K := 16777216) ?kxtaW9 ?kxtbW9 (Nat.le_refl _) ?_; (case kxtaW9 => with_reducible assumption); (case kxtbW9 => omega)); intro _))
  k_with "my callWith ref" => ((k_here; (with_reducible show wpAny _ _ (callWith _ (Value.ref 763) _ _ _) _ _ _); k_dflt (refine' callWith_763 ?k1W9 ?_; (case k1W9 => k_asm); k_whole)))
  k_with "my call builtin:str.replace" => ((k_here; (with_reducible show wpAny _ _ (call (Value.builtin "str.replace") [Value.str _ _, Value.str (Str.ofString "'") _, Value.str _ _]) _ _ _); k_dflt ((refine' replaceQ ?aW9 ?bW9 ?cW9 ?dW9 ?_; (case aW9 => k_ne); (case bW9 => k_ne); (case cW9 => k_ne); (case dW9 => first | with_reducible assumption | omega); k_whole; intro t'W9 k'W9 len'W9))))
  k_with "my k_memK" => (first | assumption | (refine need_app ?_; k_memK) | (refine need_cons ?_; k_memK))
  k_with "my subscriptTail" => ((k_here; (with_reducible show wpAny _ _ (subscriptTail _ _ (Value.ref (TreeAt.t _)) (Value.int (Nat.cast _) _)) _ _ _); k_dflt ((refine' tree_item ?NW9 ?TW9 ?kW9 ?_; (case NW9 => k_asm); (case TW9 => k_memK); (case kW9 => omega); k_whole; intro hm'W9))))
  k_with "my call ref" => ((k_here; (with_reducible show wpAny _ _ (call (Value.ref 770) [Value.str (TreeAt.lab _ _) _]) _ _ _); k_dflt ((refine' pure_use (qt_lab _ _ ?OW9 _ ?kW9 _) ?BW9 ?FW9 ?XW9 ?NW9 ?TW9 ?kkW9 ?hdW9 ?huW9 ?_; (case OW9 => assumption); (case kW9 => omega); (case BW9 => k_asm); (case FW9 => k_asm); (case XW9 => k_asm); (case NW9 => k_asm); (case TW9 => k_asm); (case kkW9 => first | exact rfl | assumption); (case hdW9 => k_room); (case huW9 => k_units); k_whole; intro r'W9 h'W9 tk'W9 F'W9 N'W9 ht'W9; obtain ⟨t'W9, e'W9⟩ := ht'W9; subst e'W9; (try k_sweep)))))
  k_with "my call ref" => ((k_here; (with_reducible show wpAny _ _ (call (Value.ref 61) [Value.str (Str.mk (List.toArray _)) _]) _ _ _); k_dflt ((refine' pure_use (qd_mk _ _ _ ?xW9) ?BW9 ?FW9 ?XW9 ?NW9 ?TW9 ?kkW9 ?hdW9 ?huW9 ?_; (case xW9 => first | omega | exact size_out (by assumption) (by omega)); (case BW9 => k_asm); (case FW9 => k_asm); (case XW9 => k_asm); (case NW9 => k_asm); (case TW9 => k_asm); (case kkW9 => first | exact rfl | assumption); (case hdW9 => k_room); (case huW9 => k_units); k_whole; intro r'W9 h'W9 tk'W9 F'W9 N'W9 ht'W9; obtain ⟨t'W9, e'W9⟩ := ht'W9; subst e'W9; (try k_sweep)))))
  k_with "my kt_len" => (first | exact len_out (by assumption) (by omega) | exact len_quoted (by assumption) (by omega) | exact TreeAt.Ok.eol (by assumption) _ (by omega) | exact TreeAt.part_len (by assumption) (by omega) (by omega) | ((with_reducible refine' len_qd ?qqW9); (case qqW9 => kt_len)))
  k_with "my call builtin:len" => ((k_here; (with_reducible show wpAny _ _ (call (Value.builtin "len") [Value.ref (TreeAt.t _)]) _ _ _); k_dflt ((refine' tree_len ?NW9 ?TW9 ?_; (case NW9 => k_asm); (case TW9 => k_memK); k_whole; intro t'W9 k'W9))))
  k_with "my call ref" => ((k_here; (with_reducible show wpAny _ _ (call (Value.ref 782) [Value.ref _, Value.int (Nat.cast _) _]) _ _ _); (with_reducible rename ∀ k, _ < k → k < 5 → Outline _ _ k => ihOW9); k_dflt ((refine' reads_use (ihOW9 _ ?aW9 ?bW9 _) ?BW9 ?FW9 ?XW9 ?NW9 ?TW9 ?kkW9 ?hdW9 ?huW9 ?hnW9 ?_; (case aW9 => omega); (case bW9 => omega); (case BW9 => k_asm); (case FW9 => k_asm); (case XW9 => k_asm); (case NW9 => k_asm); (case TW9 => k_asm); (case kkW9 => first | exact rfl | assumption); (case hdW9 => k_room); (case huW9 => k_units); (case hnW9 => k_memK); k_whole; intro r'W9 h'W9 tk'W9 F'W9 N'W9 ht'W9; obtain ⟨t'W9, e'W9⟩ := ht'W9; subst e'W9; (try k_sweep)))))
  k_with "my inplaceOp Add str str" => ((k_here; (with_reducible show wpAny _ _ (inplaceOp Operator.Add (Value.str _ _) (Value.str _ _)) _ _ _); (refine' iaddK ?kxaaW9 ?kxabW9 ?kxacW9 ?_; (case kxaaW9 => kt_len); (case kxabW9 => kt_len); (case kxacW9 => exact Nat.le_of_ble_eq_true rfl)); intro _ _ _))
  k_with "my k_enter" => ((kp_kind "both"; (fail_if_success k_inElt); (refine' kp_both ?k1W9 ?k2W9 ?k3W9 ?k4W9 ?k5W9 ?kAW9 ?kFW9 ?kKW9 ?k6W9 ?k7W9 ?k8W9 ?kVW9 ?kXW9 ?kQW9 ?kMW9 ?kNW9 ?kDW9 ?kRW9 ?kPW9 ?kSW9 ?kTW9 ?kBW9 ?_ ?c2W9 ?c3W9 ?c4W9 ?c5W9; (case kAW9 => exact rfl); (case kFW9 => exact rfl); (case kKW9 => first | exact rfl | assumption); (case k1W9 => k_asm); (case k2W9 => k_asm); (case k3W9 => k_asm); (case k4W9 => k_asm); (case k5W9 => k_asm); (case k6W9 => k_is); (case k7W9 => k_is); (case k8W9 => k_room); (case kVW9 => kp_lit); (case kXW9 => kp_lit); (case kQW9 => exact rfl); (case kMW9 => exact rfl); (case kNW9 => exact rfl); (case kDW9 => kp_flats); (case kRW9 => exact rfl); (case kPW9 => exact rfl); (case kSW9 => exact fun _ => rfl); (case kTW9 => exact fun _ _ => rfl); (case kBW9 => exact fun _ _ => locs rfl); (case c5W9 => decide); (case c2W9 => exact rfl); (case c3W9 => exact rfl); (case c4W9 => exact rfl); k_whole; intro C'W9 D'W9 o'W9 g'W9 L'W9 h'W9 tk'W9 l1W9 l2W9 lo'W9 hs'W9 fs'W9 FG'W9 F'W9 N'W9 B'W9 X'W9 T'W9; (try k_lt l1W9); (try k_lt2 l2W9); (try dsimp only); (try k_lift B'W9); (try k_fold))))
  k_with "my call builtin:object.__new__" => ((k_here; k_dflt ((refine' new623_K ?FW9 ?XW9 ?NW9 ?_; (case FW9 => k_asm); (case XW9 => k_asm); (case NW9 => k_asm); k_whole; intro x'W9 d'W9 h'W9 F'W9 N'W9 l1W9 l2W9; (try k_lt l1W9); (try k_lt2 l2W9); (try k_sweep)))))
  k_with "my k_all" => (first | exact allNe (by assumption) | exact allNe' (by assumption) | exact allNeT (by assumption) (by first | assumption | omega))
  k_with "my call type:collections.deque" => ((k_here; k_dflt ((refine' dq_make ?FW9 ?NW9 ?_; (case FW9 => k_asm); (case NW9 => k_asm); k_whole; intro h'W9 a'W9 F'W9 N'W9 l1W9; (try k_lt l1W9); (try k_sweep)))))
  k_with "my truthy ref" => ((k_here; k_dflt (refine' dq_truthy ?NW9 ?mW9 ?xW9 ?_; (case NW9 => k_asm); (case mW9 => k_mem); (case xW9 => exact Nat.le_of_ble_eq_true rfl); k_whole; intro k'W9)))
  k_with "my getMethod ref" => ((k_here; k_dflt (first
    | (refine' dq_meth ?NW9 ?mW9 slot_dq_append dq_type_append ?_; (case NW9 => k_asm); (case mW9 => k_mem); k_whole)
    | (refine' dq_meth ?NW9 ?mW9 slot_dq_pop dq_type_pop ?_; (case NW9 => k_asm); (case mW9 => k_mem); k_whole))))
  k_with "my call builtin:collections.deque.append" => ((k_here; k_dflt ((refine' dq_append ?FW9 ?NW9 ?UW9 ?xW9 ?_; (case FW9 => k_asm); (case NW9 => k_asm); (case UW9 => k_upd); (case xW9 => exact Nat.le_of_ble_eq_true rfl); k_whole; intro h'W9 F'W9 N'W9; (try k_sweep)))))
  k_with "my call builtin:collections.deque.pop" => ((k_here; k_dflt ((refine' dq_pop (xs := []) ?FW9 ?NW9 ?UW9 ?xW9 ?_; (case FW9 => k_asm); (case NW9 => k_asm); (case UW9 => k_upd); (case xW9 => exact Nat.le_of_ble_eq_true rfl); k_whole; intro h'W9 F'W9 N'W9; (try k_sweep)))))
  k_with "my call ref" => ((k_here; (with_reducible show wpAny _ _ (call (Value.ref 623) [Value.str (Str.mk (List.toArray _)) _]) _ _ _); k_dflt ((refine' at_use (sio_ok _ _ _ ?lW9) ?hdW9 ?huW9 ?BW9 ?FW9 ?XW9 ?NW9 ?TW9 ?kkW9 _ _ ?_; (case lW9 => assumption); (case BW9 => k_asm); (case FW9 => k_asm); (case XW9 => k_asm); (case NW9 => k_asm); (case TW9 => k_asm); (case kkW9 => first | exact rfl | assumption); (case hdW9 => k_room); (case huW9 => k_units); k_whole; intro x'W9 d'W9 k1'W9 k2'W9 k3'W9 tb'W9 tp'W9 h'W9 tk'W9 F'W9 N'W9 l1W9 l2W9; (try k_lt l1W9); (try k_lt2 l2W9); (try k_sweep)))))
  k_with "my getMethod str" => ((k_here; (with_reducible show wpAny _ _ (getMethod (Value.str _ _) (Str.ofString "maketrans") _) _ _ _); k_dflt ((refine' gm_maketrans ?_; intro k'W9))))
  k_with "my getMethod type:dict" => ((k_here; (with_reducible show wpAny _ _ (getMethod _ (Str.ofString "fromkeys") _) _ _ _); k_dflt ((refine' fk_getm ?FW9 ?NW9 ?XW9 ?_; (case FW9 => k_asm); (case NW9 => k_asm); (case XW9 => k_asm); k_whole; intro x'W9 h'W9 F'W9 N'W9 l1W9; (try k_lt l1W9); (try k_sweep)))))
  k_with "my callWith ref" => ((k_here; k_dflt (refine' callWith_fk ?XW9 ?NW9 ?mW9 ?_; (case XW9 => k_asm); (case NW9 => k_asm); (case mW9 => k_mem); k_whole)))
  k_with "my And" => (((with_reducible show Heap.get? _ _ = some fkBound ∧ _); k_dflt ((refine' ⟨News.get ?NW9 ?mW9, ?_⟩; (case NW9 => k_asm); (case mW9 => k_mem)))))
  k_with "my call ref" => ((k_here; (with_reducible show wpAny _ _ (call (Value.ref _) [Value.str (Str.ofString ".") _]) _ _ _); k_dflt (refine' fk_K ?FW9 ?NW9 ?mW9 ?hhW9 ?bW9 ?_; (case FW9 => k_asm); (case NW9 => k_asm); (case mW9 => k_mem); (case hhW9 => exact rfl); (case bW9 => exact big_of (by assumption)); k_whole; intro d'W9 o'W9 h'W9 tk'W9 F'W9 N'W9 hi'W9 hS'W9 l1W9; (try k_lt l1W9); (try k_sweep))))
  k_with "my call builtin:str.maketrans" => ((k_here; k_dflt ((refine' tr_K ?FW9 ?NW9 ?mW9 ?iW9 ?SW9 ?bW9 ?_; (case FW9 => k_asm); (case NW9 => k_asm); (case mW9 => k_mem); (case iW9 => assumption); (case SW9 => assumption); (case bW9 => exact big_of (by assumption)); k_whole; intro d'W9 o'W9 h'W9 tk'W9 F'W9 N'W9 hi'W9 hS'W9 l1W9; (try k_lt l1W9); (try k_sweep)))))
  k_with "my call builtin:str.translate" => ((k_here; k_dflt ((refine' tl_K ?FW9 ?NW9 ?hhW9 ?mW9 ?iW9 ?SW9 ?_; (case FW9 => k_asm); (case NW9 => k_asm); (case hhW9 => exact rfl); (case mW9 => k_mem); (case iW9 => assumption); (case SW9 => assumption); k_whole; intro t'W9 h'W9 tk'W9 F'W9 N'W9; (try k_sweep)))))
  k_with "my getMethod str" => ((k_here; (with_reducible show wpAny _ _ (getMethod (Value.str _ _) (Str.ofString "translate") _) _ _ _); k_dflt ((refine' gm_translate ?_))))
  k_with "my WhlRest" => ((refine stop_of ?_))
  k_with "my call ref" => ((k_here; (with_reducible show wpAny _ _ (call (Value.ref 569) [Value.ref _, Value.int 1 _]) _ _ _); k_dflt ((first
    | (refine' read_K ?NW9 ?FW9 ?okW9 ?hbW9 ?hcW9 ?offW9 ?BW9 ?XW9 ?TW9 ?kkW9 ?hdW9 ?huW9 ?_; (case NW9 => k_asm); (case FW9 => k_asm); (case okW9 => constructor <;> assumption); (case hbW9 => assumption); (case hcW9 => assumption); (case offW9 => assumption); (case BW9 => k_asm); (case XW9 => k_asm); (case TW9 => k_asm); (case kkW9 => first | exact rfl | assumption); (case hdW9 => k_room); (case huW9 => k_units); k_whole; intro t'W9 tp'W9 h'W9 tk'W9 F'W9 N'W9; (try k_sweep))
    | (refine' read_KE ?NW9 ?FW9 ?okW9 ?hbW9 ?hcW9 ?offW9 ?BW9 ?XW9 ?TW9 ?kkW9 ?hdW9 ?huW9 ?_; (case NW9 => k_asm); (case FW9 => k_asm); (case okW9 => constructor <;> assumption); (case hbW9 => assumption); (case hcW9 => assumption); (case offW9 => assumption); (case BW9 => k_asm); (case XW9 => k_asm); (case TW9 => k_asm); (case kkW9 => first | exact rfl | assumption); (case hdW9 => k_room); (case huW9 => k_units); k_whole; intro t'W9 h'W9 tk'W9 F'W9 N'W9; (try k_sweep))))))
  k_with "my compareOp In str str" => ((k_here; first
    | (refine' in_is false ?eW9 ?_; (case eW9 => first | with_reducible assumption | decide +kernel))
    | (refine' in_is true ?eW9 ?_; (case eW9 => first | with_reducible assumption | decide +kernel))))
  k_with "my compareOp NotIn str str" => ((k_here; first
    | (refine' notin_is false ?eW9 ?_; (case eW9 => first | with_reducible assumption | decide +kernel))
    | (refine' notin_is true ?eW9 ?_; (case eW9 => first | with_reducible assumption | decide +kernel))))
  k_with "my compareOp Eq str str" => ((k_here; first
    | (refine' eq_is false ?eW9 ?_; (case eW9 => first | with_reducible assumption | decide +kernel))
    | (refine' eq_is true ?eW9 ?_; (case eW9 => first | with_reducible assumption | decide +kernel))))
  k_with "my exec If" => ((refine wpAny_If ?_))
  k_with "my truthy ref" => ((k_here; k_dflt (first
    | (refine' dq_false ?NW9 ?mW9 ?_; (case NW9 => k_asm); (case mW9 => k_mem); k_whole; intro k'W9)
    | (refine' dq_true ?NW9 ?mW9 ?_; (case NW9 => k_asm); (case mW9 => k_mem); k_whole; intro k'W9))))
  trivial

variable {w : World} {ℓ : LexA} {buf : List Nat} {q : Bool} {esc : Value} {nc : Option Value} {P : LexC → Bool → Prop}
set_option maxHeartbeats 8000000 in
theorem turn_D1 (ok : ℓ.Ok) (hb : (mk buf).length ≤ 1000000) {ts tt tl tp : Tok} {tok : Str} {line : Int} {pos : Nat} {pn : Int}  (hc : buf[pos]? = some 39) (ht : tok.length ≤ 1000) 
    (next : ∀ (ts' tt' tl' tp' : Tok) v, Loops w ℓ buf ⟨.str (mk [39]) ts', tok, tt', line, tl', pos + 1, tp', pn, []⟩ q esc (some v) P) : Loops w ℓ buf ⟨.str " " ts, tok, tt, line, tl, pos, tp, pn, []⟩ q esc nc P := by
  w_strict (
  unfold Loops LoopsAt
  k_fill
  change Loops _ _ _ _ _ _ _ _
  refine' loops_open ?e9 ?_
  case e9 => k_is
  intro hW'
  unfold LoopsAt
  intro dp un p loose mean mg mb gd cn cs0 L0 a ccd0 cl outer base g L rest s Q E j hdp hun B X T off F N hE fin
  have ok9 := ok
  obtain ⟨o1, o2, o3, o4, o5, o6⟩ := ok
  simp only [List.cons_append, List.nil_append] at N
  refine whl_turn (k := j) hE ?_
  k_steps
  all_goals (show WhlRest _ _ _ _ _ _ _ _ _ _ _; refine loops_use (next _ _ _ _ _) hW' hdp hun B X T off (by (first | exact fr_n (by k_asm) | exact fr_q (by k_asm))) (by (first | exact news_tail (by k_asm) | k_asm)) hE fin)
  )
set_option maxHeartbeats 8000000 in
theorem turn_Eg (ok : ℓ.Ok) (hb : (mk buf).length ≤ 1000000) {ts tt tl tp : Tok} {tok : Str} {line : Int} {pos : Nat} {pn : Int} {ch : Nat} (hc : buf[pos]? = some ch) (ht : tok.length ≤ 1000) (n10 : (mk [ch] == Str.ofString "\n") = false) (n39 : (mk [ch] == mk [39]) = false) (n92 : Txt.contains (Str.ofString "\\") (mk [ch]) = false) (h1 : 1 ≤ (mk [ch]).length) (h2 : (mk [ch]).length ≤ 1) 
    (next : ∀ (tt' tl' tp' : Tok) v, Loops w ℓ buf ⟨.str (mk [39]) ts, tok ++ mk [ch], tt', line, tl', pos + 1, tp', pn, []⟩ true esc (some v) P) : Loops w ℓ buf ⟨.str (mk [39]) ts, tok, tt, line, tl, pos, tp, pn, []⟩ q esc nc P := by
  w_strict (
  unfold Loops LoopsAt
  k_fill
  change Loops _ _ _ _ _ _ _ _
  refine' loops_open ?e9 ?_
  case e9 => k_is
  intro hW'
  unfold LoopsAt
  intro dp un p loose mean mg mb gd cn cs0 L0 a ccd0 cl outer base g L rest s Q E j hdp hun B X T off F N hE fin
  have ok9 := ok
  obtain ⟨o1, o2, o3, o4, o5, o6⟩ := ok
  simp only [List.cons_append, List.nil_append] at N
  refine whl_turn (k := j) hE ?_
  k_steps
  all_goals (show WhlRest _ _ _ _ _ _ _ _ _ _ _; refine loops_use (next _ _ _ _) hW' hdp hun B X T off (by (first | exact fr_n (by k_asm) | exact fr_q (by k_asm))) (by (first | exact news_tail (by k_asm) | k_asm)) hE fin)
  )
set_option maxHeartbeats 8000000 in
theorem turn_E10 (ok : ℓ.Ok) (hb : (mk buf).length ≤ 1000000) {ts tt tl tp : Tok} {tok : Str} {line : Int} {pos : Nat} {pn : Int}  (hc : buf[pos]? = some 10) (ht : tok.length ≤ 1000) (hl : 0 ≤ line ∧ line ≤ 100000) 
    (next : ∀ (tt' tl' tp' : Tok) v, Loops w ℓ buf ⟨.str (mk [39]) ts, tok ++ mk [10], tt', line + 1, tl', pos + 1, tp', pn, []⟩ true esc (some v) P) : Loops w ℓ buf ⟨.str (mk [39]) ts, tok, tt, line, tl, pos, tp, pn, []⟩ q esc nc P := by
  w_strict (
  unfold Loops LoopsAt
  k_fill
  change Loops _ _ _ _ _ _ _ _
  refine' loops_open ?e9 ?_
  case e9 => k_is
  intro hW'
  unfold LoopsAt
  intro dp un p loose mean mg mb gd cn cs0 L0 a ccd0 cl outer base g L rest s Q E j hdp hun B X T off F N hE fin
  have ok9 := ok
  obtain ⟨o1, o2, o3, o4, o5, o6⟩ := ok
  simp only [List.cons_append, List.nil_append] at N
  refine whl_turn (k := j) hE ?_
  k_steps
  all_goals (show WhlRest _ _ _ _ _ _ _ _ _ _ _; refine loops_use (next _ _ _ _) hW' hdp hun B X T off (by (first | exact fr_n (by k_asm) | exact fr_q (by k_asm))) (by (first | exact news_tail (by k_asm) | k_asm)) hE fin)
  )
set_option maxHeartbeats 8000000 in
theorem turn_E92 (ok : ℓ.Ok) (hb : (mk buf).length ≤ 1000000) {ts tt tl tp : Tok} {tok : Str} {line : Int} {pos : Nat} {pn : Int}  (hc : buf[pos]? = some 92) (ht : tok.length ≤ 1000) 
    (next : ∀ (tt' tl' tp' : Tok) v, Loops w ℓ buf ⟨.str (mk [39]) ts, tok ++ mk [92], tt', line, tl', pos + 1, tp', pn, []⟩ true esc (some v) P) : Loops w ℓ buf ⟨.str (mk [39]) ts, tok, tt, line, tl, pos, tp, pn, []⟩ q esc nc P := by
  w_strict (
  unfold Loops LoopsAt
  k_fill
  change Loops _ _ _ _ _ _ _ _
  refine' loops_open ?e9 ?_
  case e9 => k_is
  intro hW'
  unfold LoopsAt
  intro dp un p loose mean mg mb gd cn cs0 L0 a ccd0 cl outer base g L rest s Q E j hdp hun B X T off F N hE fin
  have ok9 := ok
  obtain ⟨o1, o2, o3, o4, o5, o6⟩ := ok
  simp only [List.cons_append, List.nil_append] at N
  refine whl_turn (k := j) hE ?_
  k_steps
  all_goals (show WhlRest _ _ _ _ _ _ _ _ _ _ _; refine loops_use (next _ _ _ _) hW' hdp hun B X T off (by (first | exact fr_n (by k_asm) | exact fr_q (by k_asm))) (by (first | exact news_tail (by k_asm) | k_asm)) hE fin)
  )
end OyMine
end
section
open PySem PySem.W PyProof.Rows PySem.Builtin PySem.Builtin.Re
set_option maxRecDepth 100000
set_option genInjectivity false
set_option genSizeOf false
set_option genSizeOfSpec false
namespace OyMine
theorem words_Turn3_0 : True := by
  w_top off
  k_with_none
  k_with "my omega" => (first
    | with_reducible assumption
    | with_reducible exact Nat.ne_of_lt (by assumption)
    | with_reducible exact Nat.ne_of_gt (by assumption)
    | decide
    | with_reducible exact Nat.le_refl _
    | with_reducible exact Nat.zero_le _
    | with_reducible exact Nat.le_add_right _ _
    | with_reducible exact Nat.le_add_left _ _
    | with_reducible exact Nat.lt_succ_self _
    | with_reducible exact Nat.le_succ _
    | with_reducible exact Nat.succ_pos _
    | with_reducible exact Nat.zero_add _
    | with_reducible exact q4
    | with_reducible exact q8
    | with_reducible exact Nat.le_of_lt (by assumption)
    | with_reducible exact Nat.le_of_succ_le (by assumption)
    | with_reducible exact Nat.le_of_succ_le_succ (by assumption)
    | with_reducible exact Nat.not_lt.mp (by assumption)
    | with_reducible exact Nat.lt_succ_of_le (by assumption)
    | with_reducible exact Nat.le_succ_of_le (by assumption)
    | with_reducible exact Nat.succ_le_of_lt (by assumption)
    | with_reducible exact q1 (by assumption)
    | with_reducible exact q2 (by assumption)
    | with_reducible exact q3 (by assumption)
    | with_reducible exact q5 (by assumption)
    | with_reducible exact q7 (by assumption)
    | with_reducible exact q6 (by assumption) (by assumption)
    | with_reducible exact absurd (by assumption) (Nat.not_lt.mpr (by assumption))
    | (with_reducible refine room_le (by assumption) ?_; with_unfolding_all rfl)
    | (with_reducible refine room_lt (by assumption) ?_; with_unfolding_all rfl)
    | (with_reducible refine room_le0 (by assumption) ?_; with_unfolding_all rfl)
    | ((fail_if_success (with_reducible show _ ≠ _)); (rename _ ∧ _ => cW9; clear cW9); (repeat (rename _ ∧ _ => cW9; clear cW9)); omega)
    | fail "no")
  k_with "my execs cons" => (k_here; refine wpAny_execs_cons ?_; k_fold)
  k_with "my getAttr ref" => (k_here; (with_reducible show wpAny _ _ (getAttr (Value.ref (LexA.x _)) _ _) _ _ _); k_dflt ((with_reducible first | refine' lex_get_instream ?FW9 ?XW9 ?NW9 ?hxW9 ?hdW9 ?_ | refine' lex_get_posix ?FW9 ?XW9 ?NW9 ?hxW9 ?hdW9 ?_ | refine' lex_get_eof ?FW9 ?XW9 ?NW9 ?hxW9 ?hdW9 ?_ | refine' lex_get_commenters ?FW9 ?XW9 ?NW9 ?hxW9 ?hdW9 ?_ | refine' lex_get_wordchars ?FW9 ?XW9 ?NW9 ?hxW9 ?hdW9 ?_ | refine' lex_get_whitespace ?FW9 ?XW9 ?NW9 ?hxW9 ?hdW9 ?_ | refine' lex_get_whitespace_split ?FW9 ?XW9 ?NW9 ?hxW9 ?hdW9 ?_ | refine' lex_get_quotes ?FW9 ?XW9 ?NW9 ?hxW9 ?hdW9 ?_ | refine' lex_get_escape ?FW9 ?XW9 ?NW9 ?hxW9 ?hdW9 ?_ | refine' lex_get_escapedquotes ?FW9 ?XW9 ?NW9 ?hxW9 ?hdW9 ?_ | refine' lex_get_state ?FW9 ?XW9 ?NW9 ?hxW9 ?hdW9 ?_ | refine' lex_get_pushback ?FW9 ?XW9 ?NW9 ?hxW9 ?hdW9 ?_ | refine' lex_get_lineno ?FW9 ?XW9 ?NW9 ?hxW9 ?hdW9 ?_ | refine' lex_get_debug ?FW9 ?XW9 ?NW9 ?hxW9 ?hdW9 ?_ | refine' lex_get_token ?FW9 ?XW9 ?NW9 ?hxW9 ?hdW9 ?_ | refine' lex_get_filestack ?FW9 ?XW9 ?NW9 ?hxW9 ?hdW9 ?_ | refine' lex_get_source ?FW9 ?XW9 ?NW9 ?hxW9 ?hdW9 ?_ | refine' lex_get_punct ?FW9 ?XW9 ?NW9 ?hxW9 ?hdW9 ?_ | refine' lex_get_pushback_chars ?FW9 ?XW9 ?NW9 ?hxW9 ?hdW9 ?_); (case FW9 => k_asm); (case XW9 => k_asm); (case NW9 => k_asm); (case hxW9 => k_mem); (case hdW9 => k_mem); k_whole))
  k_with "my setAttr ref" => (k_here; (with_reducible show wpAny _ _ (setAttr (Value.ref (LexA.x _)) _ _) _ _ _); k_dflt ((with_reducible first | refine' lex_set_state ?FW9 ?XW9 ?okW9 ?offW9 ?NW9 ?_ | refine' lex_set_token ?FW9 ?XW9 ?okW9 ?offW9 ?NW9 ?_ | refine' lex_set_lineno ?FW9 ?XW9 ?okW9 ?offW9 ?NW9 ?_); (case FW9 => k_asm); (case XW9 => k_asm); (case okW9 => assumption); (case offW9 => assumption); (case NW9 => k_asm); k_whole; intro hW9 FaW9 NaW9; (try k_sweep)))
  trivial
theorem words_Turn3_1 : True := by
  k_with "my k_room" => (first | exact Nat.le_of_ble_eq_true rfl | ((try simp only [duk, depth_under_make, depth_under_kw, depth_in1, depth_deeper, depth_caller, recursionLimit]); (try dsimp only [ktrTop]); (try simp only [recursionLimit]); omega))
  k_with "my ktr_room" => (k_room)
  k_with "my k_units" => (first | exact Nat.le_of_ble_eq_true rfl | ((have hcL9W9 := cLine_is); (try simp only [uuk, units_in1, units_deeper, Around.mark_units, units_caller]); (try dsimp only [ktrTop]); omega))
  k_with "my units_room" => (first | exact Nat.le_of_ble_eq_true rfl | ((have hcL9W9 := cLine_is); (try simp only [uuk, units_in1, units_deeper, Around.mark_units, units_caller]); (try dsimp only [ktrTop]); omega))
  k_with "my k_enter" => ((refine' code_def ?k1W9 ?k2W9 ?k3W9 ?k4W9 ?k5W9 ?kAW9 ?kFW9 ?kKW9 ?k6W9 ?k7W9 ?k8W9 ?k9W9 ?kBW9 ?_ ?c2W9 ?c3W9 ?c4W9 ?c5W9; (case kAW9 => exact rfl); (case kFW9 => exact rfl); (case kKW9 => first | exact rfl | assumption); (case k1W9 => k_asm); (case k2W9 => k_asm); (case k3W9 => k_asm); (case k4W9 => k_asm); (case k5W9 => k_asm); (case k6W9 => k_is); (case k7W9 => k_is); (case k8W9 => k_room); (case k9W9 => first | exact BindsTo.of_eq rfl | exact binds_K (by k_in) rfl (by k_is) rfl rfl rfl | fail "k_enter: no rule for these arguments"); (case c5W9 => decide); (case kBW9 => exact locs rfl); (case c2W9 => exact rfl); (case c3W9 => exact rfl); (case c4W9 => exact rfl); k_whole; intro g'W9 L'W9 h'W9 FG'W9 F'W9 N'W9 B'W9 X'W9 T'W9; (try dsimp only); (try k_lift B'W9); (try k_fold)))
  k_with "my getMethod ref" => ((k_here; (with_reducible show wpAny _ _ (getMethod (Value.ref _) (Str.ofString "sub") _) _ _ _); k_dflt (refine' meth_sub ?FW9 ?XW9 ?eW9 ?cW9 ?dW9 ?_; (case FW9 => k_asm); (case XW9 => k_asm); (case eW9 => k_is); (case cW9 => exact rfl); (case dW9 => exact rfl); k_whole)))
  k_with "my call builtin:re.Pattern.sub" => ((k_here; k_dflt (first
    | (refine' sub54_K ?FW9 ?XW9 ?NW9 ?xW9 ?_; (case FW9 => k_asm); (case XW9 => k_asm); (case NW9 => k_asm); (case xW9 => first | exact nl_fits (by assumption) | omega); k_whole; intro t'W9 h'W9 tk'W9 F'W9 N'W9; (try k_sweep))
    | (refine' sub49_K ?FW9 ?XW9 ?NW9 ?xW9 ?_; (case FW9 => k_asm); (case XW9 => k_asm); (case NW9 => k_asm); (case xW9 => first | exact nl_fits (by assumption) | omega); k_whole; intro t'W9 h'W9 tk'W9 F'W9 N'W9; (try k_sweep)))))
  k_with "my call ref" => ((k_here; (with_reducible show wpAny _ _ (call (Value.ref 763) [Value.str _ _]) _ _ _); k_dflt (refine' search_K ?FW9 ?XW9 ?NW9 ?xW9 ?jW9 ?uW9 ?_; (case FW9 => k_asm); (case XW9 => k_asm); (case NW9 => k_asm); (case xW9 => omega); (case jW9 => assumption); (case uW9 => assumption); k_whole; intro a'W9 h'W9 F'W9 N'W9; (try k_sweep))))
  k_with "my kt_len" => (with_reducible assumption)
  k_with "my truthy str" => ((k_here; (with_reducible show wpAny _ _ (PySem.truthy (Value.str _ _)) _ _ _); (refine' KXt.truthy_pos (K := 16777216) ?kxtaW9 ?kxtbW9 (Nat.le_refl _) ?_; (case kxtaW9 => with_reducible assumption); (case kxtbW9 => omega)); intro _))
  k_with "my callWith ref" => ((k_here; (with_reducible show wpAny _ _ (callWith _ (Value.ref 763) _ _ _) _ _ _); k_dflt (refine' callWith_763 ?k1W9 ?_; (case k1W9 => k_asm); k_whole)))
  k_with "my call builtin:str.replace" => ((k_here; (with_reducible show wpAny _ _ (call (Value.builtin "str.replace") [Value.str _ _, Value.str (Str.ofString "'") _, Value.str _ _]) _ _ _); k_dflt ((refine' replaceQ ?aW9 ?bW9 ?cW9 ?dW9 ?_; (case aW9 => k_ne); (case bW9 => k_ne); (case cW9 => k_ne); (case dW9 => first | with_reducible assumption | omega); k_whole; intro t'W9 k'W9 len'W9))))
  k_with "my k_memK" => (first | assumption | (refine need_app ?_; k_memK) | (refine need_cons ?_; k_memK))
  k_with "my subscriptTail" => ((k_here; (with_reducible show wpAny _ _ (subscriptTail _ _ (Value.ref (TreeAt.t _)) (Value.int (Nat.cast _) _)) _ _ _); k_dflt ((refine' tree_item ?NW9 ?TW9 ?kW9 ?_; (case NW9 => k_asm); (case TW9 => k_memK); (case kW9 => omega); k_whole; intro hm'W9))))
  k_with "my call ref" => ((k_here; (with_reducible show wpAny _ _ (call (Value.ref 770) [Value.str (TreeAt.lab _ _) _]) _ _ _); k_dflt ((refine' pure_use (qt_lab _ _ ?OW9 _ ?kW9 _) ?BW9 ?FW9 ?XW9 ?NW9 ?TW9 ?kkW9 ?hdW9 ?huW9 ?_; (case OW9 => assumption); (case kW9 => omega); (case BW9 => k_asm); (case FW9 => k_asm); (case XW9 => k_asm); (case NW9 => k_asm); (case TW9 => k_asm); (case kkW9 => first | exact rfl | assumption); (case hdW9 => k_room); (case huW9 => k_units); k_whole; intro r'W9 h'W9 tk'W9 F'W9 N'W9 ht'W9; obtain ⟨t'W9, e'W9⟩ := ht'W9; subst e'W9; (try k_sweep)))))
  k_with "my call ref" => ((k_here; (with_reducible show wpAny _ _ (call (Value.ref 61) [Value.str (Str.mk (List.toArray _)) _]) _ _ _); k_dflt ((refine' pure_use (qd_mk _ _ _ ?xW9) ?BW9 ?FW9 ?XW9 ?NW9 ?TW9 ?kkW9 ?hdW9 ?huW9 ?_; (case xW9 => first | omega | exact size_out (by assumption) (by omega)); (case BW9 => k_asm); (case FW9 => k_asm); (case XW9 => k_asm); (case NW9 => k_asm); (case TW9 => k_asm); (case kkW9 => first | exact rfl | assumption); (case hdW9 => k_room); (case huW9 => k_units); k_whole; intro r'W9 h'W9 tk'W9 F'W9 N'W9 ht'W9; obtain ⟨t'W9, e'W9⟩ := ht'W9; subst e'W9; (try k_sweep)))))
  k_with "my kt_len" => (first | exact len_out (by assumption) (by omega) | exact len_quoted (by assumption) (by omega) | exact TreeAt.Ok.eol (by assumption) _ (by omega) | exact TreeAt.part_len (by assumption) (by omega) (by omega) | ((with_reducible refine' len_qd ?qqW9); (case qqW9 => kt_len)))
  k_with "my call builtin:len" => ((k_here; (with_reducible show wpAny _ _ (call (Value.builtin "len") [Value.ref (TreeAt.t _)]) _ _ _); k_dflt ((refine' tree_len ?NW9 ?TW9 ?_; (case NW9 => k_asm); (case TW9 => k_memK); k_whole; intro t'W9 k'W9))))
  k_with "my call ref" => ((k_here; (with_reducible show wpAny _ _ (call (Value.ref 782) [Value.ref _, Value.int (Nat.cast _) _]) _ _ _); (with_reducible rename ∀ k, _ < k → k < 5 → Outline _ _ k => ihOW9); k_dflt ((refine' reads_use (ihOW9 _ ?aW9 ?bW9 _) ?BW9 ?FW9 ?XW9 ?NW9 ?TW9 ?kkW9 ?hdW9 ?huW9 ?hnW9 ?_; (case aW9 => omega); (case bW9 => omega); (case BW9 => k_asm); (case FW9 => k_asm); (case XW9 => k_asm); (case NW9 => k_asm); (case TW9 => k_asm); (case kkW9 => first | exact rfl | assumption); (case hdW9 => k_room); (case huW9 => k_units); (case hnW9 => k_memK); k_whole; intro r'W9 h'W9 tk'W9 F'W9 N'W9 ht'W9; obtain ⟨t'W9, e'W9⟩ := ht'W9; subst e'W9; (try k_sweep)))))
  k_with "my inplaceOp Add str str" => ((k_here; (with_reducible show wpAny _ _ (inplaceOp Operator.Add (Value.str _ _) (Value.str _ _)) _ _ _); (refine' iaddK ?kxaaW9 ?kxabW9 ?kxacW9 ?_; (case kxaaW9 => kt_len); (case kxabW9 => kt_len); (case kxacW9 => exact Nat.le_of_ble_eq_true rfl)); intro _ _ _))
  k_with "my k_enter" => ((kp_kind "both"; (fail_if_success k_inElt); (refine' kp_both ?k1W9 ?k2W9 ?k3W9 ?k4W9 ?k5W9 ?kAW9 ?kFW9 ?kKW9 ?k6W9 ?k7W9 ?k8W9 ?kVW9 ?kXW9 ?kQW9 ?kMW9 ?kNW9 ?kDW9 ?kRW9 ?kPW9 ?kSW9 ?kTW9 ?kBW9 ?_ ?c2W9 ?c3W9 ?c4W9 ?c5W9; (case kAW9 => exact rfl); (case kFW9 => exact rfl); (case kKW9 => first | exact rfl | assumption); (case k1W9 => k_asm); (case k2W9 => k_asm); (case k3W9 => k_asm); (case k4W9 => k_asm); (case k5W9 => k_asm); (case k6W9 => k_is); (case k7W9 => k_is); (case k8W9 => k_room); (case kVW9 => kp_lit); (case kXW9 => kp_lit); (case kQW9 => exact rfl); (case kMW9 => exact rfl); (case kNW9 => exact rfl); (case kDW9 => kp_flats); (case kRW9 => exact rfl); (case kPW9 => exact rfl); (case kSW9 => exact fun _ => rfl); (case kTW9 => exact fun _ _ => rfl); (case kBW9 => exact fun _ _ => locs rfl); (case c5W9 => decide); (case c2W9 => exact rfl); (case c3W9 => exact rfl); (case c4W9 => exact rfl); k_whole; intro C'W9 D'W9 o'W9 g'W9 L'W9 h'W9 tk'W9 l1W9 l2W9 lo'W9 hs'W9 fs'W9 FG'W9 F'W9 N'W9 B'W9 X'W9 T'W9; (try k_lt l1W9); (try k_lt2 l2W9); (try dsimp only); (try k_lift B'W9); (try k_fold))))
  k_with "my call builtin:object.__new__" => ((k_here; k_dflt ((refine' new623_K ?FW9 ?XW9 ?NW9 ?_; (case FW9 => k_asm); (case XW9 => k_asm); (case NW9 => k_asm); k_whole; intro x'W9 d'W9 h'W9 F'W9 N'W9 l1W9 l2W9; (try k_lt l1W9); (try k_lt2 l2W9); (try k_sweep)))))
  k_with "my k_all" => (first | exact allNe (by assumption) | exact allNe' (by assumption) | exact allNeT (by assumption) (by first | assumption | omega))
  k_with "my call type:collections.deque" => ((k_here; k_dflt ((refine' dq_make ?FW9 ?NW9 ?_; (case FW9 => k_asm); (case NW9 => k_asm); k_whole; intro h'W9 a'W9 F'W9 N'W9 l1W9; (try k_lt l1W9); (try k_sweep)))))
  k_with "my truthy ref" => ((k_here; k_dflt (refine' dq_truthy ?NW9 ?mW9 ?xW9 ?_; (case NW9 => k_asm); (case mW9 => k_mem); (case xW9 => exact Nat.le_of_ble_eq_true rfl); k_whole; intro k'W9)))
  k_with "my getMethod ref" => ((k_here; k_dflt (first
    | (refine' dq_meth ?NW9 ?mW9 slot_dq_append dq_type_append ?_; (case NW9 => k_asm); (case mW9 => k_mem); k_whole)
    | (refine' dq_meth ?NW9 ?mW9 slot_dq_pop dq_type_pop ?_; (case NW9 => k_asm); (case mW9 => k_mem); k_whole))))
  k_with "my call builtin:collections.deque.append" => ((k_here; k_dflt ((refine' dq_append ?FW9 ?NW9 ?UW9 ?xW9 ?_; (case FW9 => k_asm); (case NW9 => k_asm); (case UW9 => k_upd); (case xW9 => exact Nat.le_of_ble_eq_true rfl); k_whole; intro h'W9 F'W9 N'W9; (try k_sweep)))))
  k_with "my call builtin:collections.deque.pop" => ((k_here; k_dflt ((refine' dq_pop (xs := []) ?FW9 ?NW9 ?UW9 ?xW9 ?_; (case FW9 => k_asm); (case NW9 => k_asm); (case UW9 => k_upd); (case xW9 => exact Nat.le_of_ble_eq_true rfl); k_whole; intro h'W9 F'W9 N'W9; (try k_sweep)))))
  k_with "my call ref" => ((k_here; (with_reducible show wpAny _ _ (call (Value.ref 623) [Value.str (Str.mk (List.toArray _)) _]) _ _ _); k_dflt ((refine' at_use (sio_ok _ _ _ ?lW9) ?hdW9 ?huW9 ?BW9 ?FW9 ?XW9 ?NW9 ?TW9 ?kkW9 _ _ ?_; (case lW9 => assumption); (case BW9 => k_asm); (case FW9 => k_asm); (case XW9 => k_asm); (case NW9 => k_asm); (case TW9 => k_asm); (case kkW9 => first | exact rfl | assumption); (case hdW9 => k_room); (case huW9 => k_units); k_whole; intro x'W9 d'W9 k1'W9 k2'W9 k3'W9 tb'W9 tp'W9 h'W9 tk'W9 F'W9 N'W9 l1W9 l2W9; (try k_lt l1W9); (try k_lt2 l2W9); (try k_sweep)))))
  k_with "my getMethod str" => ((k_here; (with_reducible show wpAny _ _ (getMethod (Value.str _ _) (Str.ofString "maketrans") _) _ _ _); k_dflt ((refine' gm_maketrans ?_; intro k'W9))))
  k_with "my getMethod type:dict" => ((k_here; (with_reducible show wpAny _ _ (getMethod _ (Str.ofString "fromkeys") _) _ _ _); k_dflt ((refine' fk_getm ?FW9 ?NW9 ?XW9 ?_; (case FW9 => k_asm); (case NW9 => k_asm); (case XW9 => k_asm); k_whole; intro x'W9 h'W9 F'W9 N'W9 l1W9; (try k_lt l1W9); (try k_sweep)))))
  k_with "my callWith ref" => ((k_here; k_dflt (refine' callWith_fk ?XW9 ?NW9 ?mW9 ?_; (case XW9 => k_asm); (case NW9 => k_asm); (case mW9 => k_mem); k_whole)))
  k_with "my And" => (((with_reducible show Heap.get? _ _ = some fkBound ∧ _); k_dflt ((refine' ⟨News.get ?NW9 ?mW9, ?_⟩; (case NW9 => k_asm); (case mW9 => k_mem)))))
  k_with "my call ref" => ((k_here; (with_reducible show wpAny _ _ (call (Value.ref _) [Value.str (Str.ofString ".") _]) _ _ _); k_dflt (refine' fk_K ?FW9 ?NW9 ?mW9 ?hhW9 ?bW9 ?_; (case FW9 => k_asm); (case NW9 => k_asm); (case mW9 => k_mem); (case hhW9 => exact rfl); (case bW9 => exact big_of (by assumption)); k_whole; intro d'W9 o'W9 h'W9 tk'W9 F'W9 N'W9 hi'W9 hS'W9 l1W9; (try k_lt l1W9); (try k_sweep))))
  k_with "my call builtin:str.maketrans" => ((k_here; k_dflt ((refine' tr_K ?FW9 ?NW9 ?mW9 ?iW9 ?SW9 ?bW9 ?_; (case FW9 => k_asm); (case NW9 => k_asm); (case mW9 => k_mem); (case iW9 => assumption); (case SW9 => assumption); (case bW9 => exact big_of (by assumption)); k_whole; intro d'W9 o'W9 h'W9 tk'W9 F'W9 N'W9 hi'W9 hS'W9 l1W9; (try k_lt l1W9); (try k_sweep)))))
  k_with "my call builtin:str.translate" => ((k_here; k_dflt ((refine' tl_K ?FW9 ?NW9 ?hhW9 ?mW9 ?iW9 ?SW9 ?_; (case FW9 => k_asm); (case NW9 => k_asm); (case hhW9 => exact rfl); (case mW9 => k_mem); (case iW9 => assumption); (case SW9 => assumption); k_whole; intro t'W9 h'W9 tk'W9 F'W9 N'W9; (try k_sweep)))))
  k_with "my getMethod str" => ((k_here; (with_reducible show wpAny _ _ (getMethod (Value.str _ _) (Str.ofString "translate") _) _ _ _); k_dflt ((refine' gm_translate ?_))))
  k_with "my WhlRest" => ((refine stop_of ?_))
  k_with "my call ref" => ((k_here; (with_reducible show wpAny _ _ (call (Value.ref 569) [Value.ref _, Value.int 1 _]) _ _ _); k_dflt ((first
    | (refine' read_K ?NW9 ?FW9 ?okW9 ?hbW9 ?hcW9 ?offW9 ?BW9 ?XW9 ?TW9 ?kkW9 ?hdW9 ?huW9 ?_; (case NW9 => k_asm); (case FW9 => k_asm); (case okW9 => constructor <;> assumption); (case hbW9 => assumption); (case hcW9 => assumption); (case offW9 => assumption); (case BW9 => k_asm); (case XW9 => k_asm); (case TW9 => k_asm); (case kkW9 => first | exact rfl | assumption); (case hdW9 => k_room); (case huW9 => k_units); k_whole; intro t'W9 tp'W9 h'W9 tk'W9 F'W9 N'W9; (try k_sweep))
    | (refine' read_KE ?NW9 ?FW9 ?okW9 ?hbW9 ?hcW9 ?offW9 ?BW9 ?XW9 ?TW9 ?kkW9 ?hdW9 ?huW9 ?_; (case NW9 => k_asm); (case FW9 => k_asm); (case okW9 => constructor <;> assumption); (case hbW9 => assumption); (case hcW9 => assumption); (case offW9 => assumption); (case BW9 => k_asm); (case XW9 => k_asm); (case TW9 => k_asm); (case kkW9 => first | exact rfl | assumption); (case hdW9 => k_room); (case huW9 => k_units); k_whole; intro t'W9 h'W9 tk'W9 F'W9 N'W9; (try k_sweep))))))
  k_with "my compareOp In str str" => ((k_here; first
    | (refine' in_is false ?eW9 ?_; (case eW9 => first | with_reducible assumption | decide +kernel))
    | (refine' in_is true ?eW9 ?_; (case eW9 => first | with_reducible assumption | decide +kernel))))
  k_with "my compareOp NotIn str str" => ((k_here; first
    | (refine' notin_is false ?eW9 ?_; (case eW9 => first | with_reducible assumption | decide +kernel))
    | (refine' notin_is true ?eW9 ?_; (case eW9 => first | with_reducible assumption | decide +kernel))))
  k_with "my compareOp Eq str str" => ((k_here; first
    | (refine' eq_is false ?eW9 ?_; (case eW9 => first | with_reducible assumption | decide +kernel))
    | (refine' eq_is true ?eW9 ?_; (case eW9 => first | with_reducible assumption | decide +kernel))))
  k_with "my exec If" => ((refine wpAny_If ?_))
  k_with "my truthy ref" => ((k_here; k_dflt (first
    | (refine' dq_false ?NW9 ?mW9 ?_; (case NW9 => k_asm); (case mW9 => k_mem); k_whole; intro k'W9)
    | (refine' dq_true ?NW9 ?mW9 ?_; (case NW9 => k_asm); (case mW9 => k_mem); k_whole; intro k'W9))))
  trivial

variable {w : World} {ℓ : LexA} {buf : List Nat} {q : Bool} {esc : Value} {nc : Option Value} {P : LexC → Bool → Prop}
set_option maxHeartbeats 8000000 in
theorem turn_F (ok : ℓ.Ok) (hb : (mk buf).length ≤ 1000000) {ts tt tl tp : Tok} {tok : Str} {line : Int} {pos : Nat} {pn : Int}  (hc : buf[pos]? = some 39) (ht : tok.length ≤ 1000) 
    (next : ∀ (ts' tt' tl' tp' : Tok) v, Loops w ℓ buf ⟨.str "a" ts', tok, tt', line, tl', pos + 1, tp', pn, []⟩ true esc (some v) P) : Loops w ℓ buf ⟨.str (mk [39]) ts, tok, tt, line, tl, pos, tp, pn, []⟩ q esc nc P := by
  w_strict (
  unfold Loops LoopsAt
  k_fill
  change Loops _ _ _ _ _ _ _ _
  refine' loops_open ?e9 ?_
  case e9 => k_is
  intro hW'
  unfold LoopsAt
  intro dp un p loose mean mg mb gd cn cs0 L0 a ccd0 cl outer base g L rest s Q E j hdp hun B X T off F N hE fin
  have ok9 := ok
  obtain ⟨o1, o2, o3, o4, o5, o6⟩ := ok
  simp only [List.cons_append, List.nil_append] at N
  refine whl_turn (k := j) hE ?_
  k_steps
  all_goals (show WhlRest _ _ _ _ _ _ _ _ _ _ _; refine loops_use (next _ _ _ _ _) hW' hdp hun B X T off (by (first | exact fr_n (by k_asm) | exact fr_q (by k_asm))) (by (first | exact news_tail (by k_asm) | k_asm)) hE fin)
  )
set_option maxHeartbeats 8000000 in
theorem turn_G (ok : ℓ.Ok) (hb : (mk buf).length ≤ 1000000) {ts tt tl tp : Tok} {tok : Str} {line : Int} {pos : Nat} {pn : Int}  (hc : buf[pos]? = some 34) (ht : tok.length ≤ 1000) 
    (next : ∀ (ts' tt' tl' tp' : Tok) v, Loops w ℓ buf ⟨.str (mk [34]) ts', tok, tt', line, tl', pos + 1, tp', pn, []⟩ q esc (some v) P) : Loops w ℓ buf ⟨.str "a" ts, tok, tt, line, tl, pos, tp, pn, []⟩ q esc nc P := by
  w_strict (
  unfold Loops LoopsAt
  k_fill
  change Loops _ _ _ _ _ _ _ _
  refine' loops_open ?e9 ?_
  case e9 => k_is
  intro hW'
  unfold LoopsAt
  intro dp un p loose mean mg mb gd cn cs0 L0 a ccd0 cl outer base g L rest s Q E j hdp hun B X T off F N hE fin
  have ok9 := ok
  obtain ⟨o1, o2, o3, o4, o5, o6⟩ := ok
  simp only [List.cons_append, List.nil_append] at N
  refine whl_turn (k := j) hE ?_
  k_steps
  all_goals (show WhlRest _ _ _ _ _ _ _ _ _ _ _; refine loops_use (next _ _ _ _ _) hW' hdp hun B X T off (by (first | exact fr_n (by k_asm) | exact fr_q (by k_asm))) (by (first | exact news_tail (by k_asm) | k_asm)) hE fin)
  )
set_option maxHeartbeats 8000000 in
theorem turn_H (ok : ℓ.Ok) (hb : (mk buf).length ≤ 1000000) {ts tt tl tp : Tok} {tok : Str} {line : Int} {pos : Nat} {pn : Int}  (hc : buf[pos]? = some 39) (ht : tok.length ≤ 1000) 
    (next : ∀ (tt' tl' tp' : Tok) v, Loops w ℓ buf ⟨.str (mk [34]) ts, tok ++ mk [39], tt', line, tl', pos + 1, tp', pn, []⟩ true esc (some v) P) : Loops w ℓ buf ⟨.str (mk [34]) ts, tok, tt, line, tl, pos, tp, pn, []⟩ q esc nc P := by
  w_strict (
  unfold Loops LoopsAt
  k_fill
  change Loops _ _ _ _ _ _ _ _
  refine' loops_open ?e9 ?_
  case e9 => k_is
  intro hW'
  unfold LoopsAt
  intro dp un p loose mean mg mb gd cn cs0 L0 a ccd0 cl outer base g L rest s Q E j hdp hun B X T off F N hE fin
  have ok9 := ok
  obtain ⟨o1, o2, o3, o4, o5, o6⟩ := ok
  simp only [List.cons_append, List.nil_append] at N
  refine whl_turn (k := j) hE ?_
  k_steps
  all_goals (show WhlRest _ _ _ _ _ _ _ _ _ _ _; refine loops_use (next _ _ _ _) hW' hdp hun B X T off (by (first | exact fr_n (by k_asm) | exact fr_q (by k_asm))) (by (first | exact news_tail (by k_asm) | k_asm)) hE fin)
  )
set_option maxHeartbeats 8000000 in
theorem turn_I (ok : ℓ.Ok) (hb : (mk buf).length ≤ 1000000) {ts tt tl tp : Tok} {tok : Str} {line : Int} {pos : Nat} {pn : Int}  (hc : buf[pos]? = some 34) (ht : tok.length ≤ 1000) 
    (next : ∀ (ts' tt' tl' tp' : Tok) v, Loops w ℓ buf ⟨.str "a" ts', tok, tt', line, tl', pos + 1, tp', pn, []⟩ true esc (some v) P) : Loops w ℓ buf ⟨.str (mk [34]) ts, tok, tt, line, tl, pos, tp, pn, []⟩ q esc nc P := by
  w_strict (
  unfold Loops LoopsAt
  k_fill
  change Loops _ _ _ _ _ _ _ _
  refine' loops_open ?e9 ?_
  case e9 => k_is
  intro hW'
  unfold LoopsAt
  intro dp un p loose mean mg mb gd cn cs0 L0 a ccd0 cl outer base g L rest s Q E j hdp hun B X T off F N hE fin
  have ok9 := ok
  obtain ⟨o1, o2, o3, o4, o5, o6⟩ := ok
  simp only [List.cons_append, List.nil_append] at N
  refine whl_turn (k := j) hE ?_
  k_steps
  all_goals (show WhlRest _ _ _ _ _ _ _ _ _ _ _; refine loops_use (next _ _ _ _ _) hW' hdp hun B X T off (by (first | exact fr_n (by k_asm) | exact fr_q (by k_asm))) (by (first | exact news_tail (by k_asm) | k_asm)) hE fin)
  )
end OyMine
end
section
open PySem PySem.W PyProof.Rows PySem.Builtin PySem.Builtin.Re
set_option maxRecDepth 100000
set_option genInjectivity false
set_option genSizeOf false
set_option genSizeOfSpec false
namespace OyMine
theorem words_Turn4_0 : True := by
  w_top off
  k_with_none
  k_with "my omega" => (first
    | with_reducible assumption
    | with_reducible exact Nat.ne_of_lt (by assumption)
    | with_reducible exact Nat.ne_of_gt (by assumption)
    | decide
    | with_reducible exact Nat.le_refl _
    | with_reducible exact Nat.zero_le _
    | with_reducible exact Nat.le_add_right _ _
    | with_reducible exact Nat.le_add_left _ _
    | with_reducible exact Nat.lt_succ_self _
    | with_reducible exact Nat.le_succ _
    | with_reducible exact Nat.succ_pos _
    | with_reducible exact Nat.zero_add _
    | with_reducible exact q4
    | with_reducible exact q8
    | with_reducible exact Nat.le_of_lt (by assumption)
    | with_reducible exact Nat.le_of_succ_le (by assumption)
    | with_reducible exact Nat.le_of_succ_le_succ (by assumption)
    | with_reducible exact Nat.not_lt.mp (by assumption)
    | with_reducible exact Nat.lt_succ_of_le (by assumption)
    | with_reducible exact Nat.le_succ_of_le (by assumption)
    | with_reducible exact Nat.succ_le_of_lt (by assumption)
    | with_reducible exact q1 (by assumption)
    | with_reducible exact q2 (by assumption)
    | with_reducible exact q3 (by assumption)
    | with_reducible exact q5 (by assumption)
    | with_reducible exact q7 (by assumption)
    | with_reducible exact q6 (by assumption) (by assumption)
    | with_reducible exact absurd (by assumption) (Nat.not_lt.mpr (by assumption))
    | (with_reducible refine room_le (by assumption) ?_; with_unfolding_all rfl)
    | (with_reducible refine room_lt (by assumption) ?_; with_unfolding_all rfl)
    | (with_reducible refine room_le0 (by assumption) ?_; with_unfolding_all rfl)
    | ((fail_if_success (with_reducible show _ ≠ _)); (rename _ ∧ _ => cW9; clear cW9); (repeat (rename _ ∧ _ => cW9; clear cW9)); omega)
    | fail "no")
  k_with "my execs cons" => (k_here; refine wpAny_execs_cons ?_; k_fold)
  k_with "my getAttr ref" => (k_here; (with_reducible show wpAny _ _ (getAttr (Value.ref (LexA.x _)) _ _) _ _ _); k_dflt ((with_reducible first | refine' lex_get_instream ?FW9 ?XW9 ?NW9 ?hxW9 ?hdW9 ?_ | refine' lex_get_posix ?FW9 ?XW9 ?NW9 ?hxW9 ?hdW9 ?_ | refine' lex_get_eof ?FW9 ?XW9 ?NW9 ?hxW9 ?hdW9 ?_ | refine' lex_get_commenters ?FW9 ?XW9 ?NW9 ?hxW9 ?hdW9 ?_ | refine' lex_get_wordchars ?FW9 ?XW9 ?NW9 ?hxW9 ?hdW9 ?_ | refine' lex_get_whitespace ?FW9 ?XW9 ?NW9 ?hxW9 ?hdW9 ?_ | refine' lex_get_whitespace_split ?FW9 ?XW9 ?NW9 ?hxW9 ?hdW9 ?_ | refine' lex_get_quotes ?FW9 ?XW9 ?NW9 ?hxW9 ?hdW9 ?_ | refine' lex_get_escape ?FW9 ?XW9 ?NW9 ?hxW9 ?hdW9 ?_ | refine' lex_get_escapedquotes ?FW9 ?XW9 ?NW9 ?hxW9 ?hdW9 ?_ | refine' lex_get_state ?FW9 ?XW9 ?NW9 ?hxW9 ?hdW9 ?_ | refine' lex_get_pushback ?FW9 ?XW9 ?NW9 ?hxW9 ?hdW9 ?_ | refine' lex_get_lineno ?FW9 ?XW9 ?NW9 ?hxW9 ?hdW9 ?_ | refine' lex_get_debug ?FW9 ?XW9 ?NW9 ?hxW9 ?hdW9 ?_ | refine' lex_get_token ?FW9 ?XW9 ?NW9 ?hxW9 ?hdW9 ?_ | refine' lex_get_filestack ?FW9 ?XW9 ?NW9 ?hxW9 ?hdW9 ?_ | refine' lex_get_source ?FW9 ?XW9 ?NW9 ?hxW9 ?hdW9 ?_ | refine' lex_get_punct ?FW9 ?XW9 ?NW9 ?hxW9 ?hdW9 ?_ | refine' lex_get_pushback_chars ?FW9 ?XW9 ?NW9 ?hxW9 ?hdW9 ?_); (case FW9 => k_asm); (case XW9 => k_asm); (case NW9 => k_asm); (case hxW9 => k_mem); (case hdW9 => k_mem); k_whole))
  k_with "my setAttr ref" => (k_here; (with_reducible show wpAny _ _ (setAttr (Value.ref (LexA.x _)) _ _) _ _ _); k_dflt ((with_reducible first | refine' lex_set_state ?FW9 ?XW9 ?okW9 ?offW9 ?NW9 ?_ | refine' lex_set_token ?FW9 ?XW9 ?okW9 ?offW9 ?NW9 ?_ | refine' lex_set_lineno ?FW9 ?XW9 ?okW9 ?offW9 ?NW9 ?_); (case FW9 => k_asm); (case XW9 => k_asm); (case okW9 => assumption); (case offW9 => assumption); (case NW9 => k_asm); k_whole; intro hW9 FaW9 NaW9; (try k_sweep)))
  trivial
theorem words_Turn4_1 : True := by
  k_with "my k_room" => (first | exact Nat.le_of_ble_eq_true rfl | ((try simp only [duk, depth_under_make, depth_under_kw, depth_in1, depth_deeper, depth_caller, recursionLimit]); (try dsimp only [ktrTop]); (try simp only [recursionLimit]); omega))
  k_with "my ktr_room" => (k_room)
  k_with "my k_units" => (first | exact Nat.le_of_ble_eq_true rfl | ((have hcL9W9 := cLine_is); (try simp only [uuk, units_in1, units_deeper, Around.mark_units, units_caller]); (try dsimp only [ktrTop]); omega))
  k_with "my units_room" => (first | exact Nat.le_of_ble_eq_true rfl | ((have hcL9W9 := cLine_is); (try simp only [uuk, units_in1, units_deeper, Around.mark_units, units_caller]); (try dsimp only [ktrTop]); omega))
  k_with "my k_enter" => ((refine' code_def ?k1W9 ?k2W9 ?k3W9 ?k4W9 ?k5W9 ?kAW9 ?kFW9 ?kKW9 ?k6W9 ?k7W9 ?k8W9 ?k9W9 ?kBW9 ?_ ?c2W9 ?c3W9 ?c4W9 ?c5W9; (case kAW9 => exact rfl); (case kFW9 => exact rfl); (case kKW9 => first | exact rfl | assumption); (case k1W9 => k_asm); (case k2W9 => k_asm); (case k3W9 => k_asm); (case k4W9 => k_asm); (case k5W9 => k_asm); (case k6W9 => k_is); (case k7W9 => k_is); (case k8W9 => k_room); (case k9W9 => first | exact BindsTo.of_eq rfl | exact binds_K (by k_in) rfl (by k_is) rfl rfl rfl | fail "k_enter: no rule for these arguments"); (case c5W9 => decide); (case kBW9 => exact locs rfl); (case c2W9 => exact rfl); (case c3W9 => exact rfl); (case c4W9 => exact rfl); k_whole; intro g'W9 L'W9 h'W9 FG'W9 F'W9 N'W9 B'W9 X'W9 T'W9; (try dsimp only); (try k_lift B'W9); (try k_fold)))
  k_with "my getMethod ref" => ((k_here; (with_reducible show wpAny _ _ (getMethod (Value.ref _) (Str.ofString "sub") _) _ _ _); k_dflt (refine' meth_sub ?FW9 ?XW9 ?eW9 ?cW9 ?dW9 ?_; (case FW9 => k_asm); (case XW9 => k_asm); (case eW9 => k_is); (case cW9 => exact rfl); (case dW9 => exact rfl); k_whole)))
  k_with "my call builtin:re.Pattern.sub" => ((k_here; k_dflt (first
    | (refine' sub54_K ?FW9 ?XW9 ?NW9 ?xW9 ?_; (case FW9 => k_asm); (case XW9 => k_asm); (case NW9 => k_asm); (case xW9 => first | exact nl_fits (by assumption) | omega); k_whole; intro t'W9 h'W9 tk'W9 F'W9 N'W9; (try k_sweep))
    | (refine' sub49_K ?FW9 ?XW9 ?NW9 ?xW9 ?_; (case FW9 => k_asm); (case XW9 => k_asm); (case NW9 => k_asm); (case xW9 => first | exact nl_fits (by assumption) | omega); k_whole; intro t'W9 h'W9 tk'W9 F'W9 N'W9; (try k_sweep)))))
  k_with "my call ref" => ((k_here; (with_reducible show wpAny _ _ (call (Value.ref 763) [Value.str _ _]) _ _ _); k_dflt (refine' search_K ?FW9 ?XW9 ?NW9 ?xW9 ?jW9 ?uW9 ?_; (case FW9 => k_asm); (case XW9 => k_asm); (case NW9 => k_asm); (case xW9 => omega); (case jW9 => assumption); (case uW9 => assumption); k_whole; intro a'W9 h'W9 F'W9 N'W9; (try k_sweep))))
  k_with "my kt_len" => (with_reducible assumption)
  k_with "my truthy str" => ((k_here; (with_reducible show wpAny _ _ (PySem.truthy (Value.str _ _)) _ _ _); (refine' KXt.truthy_pos (K := 16777216) ?kxtaW9 ?kxtbW9 (Nat.le_refl _) ?_; (case kxtaW9 => with_reducible assumption); (case kxtbW9 => omega)); intro _))
  k_with "my callWith ref" => ((k_here; (with_reducible show wpAny _ _ (callWith _ (Value.ref 763) _ _ _) _ _ _); k_dflt (refine' callWith_763 ?k1W9 ?_; (case k1W9 => k_asm); k_whole)))
  k_with "my call builtin:str.replace" => ((k_here; (with_reducible show wpAny _ _ (call (Value.builtin "str.replace") [Value.str _ _, Value.str (Str.ofString "'") _, Value.str _ _]) _ _ _); k_dflt ((refine' replaceQ ?aW9 ?bW9 ?cW9 ?dW9 ?_; (case aW9 => k_ne); (case bW9 => k_ne); (case cW9 => k_ne); (case dW9 => first | with_reducible assumption | omega); k_whole; intro t'W9 k'W9 len'W9))))
  k_with "my k_memK" => (first | assumption | (refine need_app ?_; k_memK) | (refine need_cons ?_; k_memK))
  k_with "my subscriptTail" => ((k_here; (with_reducible show wpAny _ _ (subscriptTail _ _ (Value.ref (TreeAt.t _)) (Value.int (Nat.cast _) _)) _ _ _); k_dflt ((refine' tree_item ?NW9 ?TW9 ?kW9 ?_; (case NW9 => k_asm); (case TW9 => k_memK); (case kW9 => omega); k_whole; intro hm'W9))))
  k_with "my call ref" => ((k_here; (with_reducible show wpAny _ _ (call (Value.ref 770) [Value.str (TreeAt.lab _ _) _]) _ _ _); k_dflt ((refine' pure_use (qt_lab _ _ ?OW9 _ ?kW9 _) ?BW9 ?FW9 ?XW9 ?NW9 ?TW9 ?kkW9 ?hdW9 ?huW9 ?_; (case OW9 => assumption); (case kW9 => omega); (case BW9 => k_asm); (case FW9 => k_asm); (case XW9 => k_asm); (case NW9 => k_asm); (case TW9 => k_asm); (case kkW9 => first | exact rfl | assumption); (case hdW9 => k_room); (case huW9 => k_units); k_whole; intro r'W9 h'W9 tk'W9 F'W9 N'W9 ht'W9; obtain ⟨t'W9, e'W9⟩ := ht'W9; subst e'W9; (try k_sweep)))))
  k_with "my call ref" => ((k_here; (with_reducible show wpAny _ _ (call (Value.ref 61) [Value.str (Str.mk (List.toArray _)) _]) _ _ _); k_dflt ((refine' pure_use (qd_mk _ _ _ ?xW9) ?BW9 ?FW9 ?XW9 ?NW9 ?TW9 ?kkW9 ?hdW9 ?huW9 ?_; (case xW9 => first | omega | exact size_out (by assumption) (by omega)); (case BW9 => k_asm); (case FW9 => k_asm); (case XW9 => k_asm); (case NW9 => k_asm); (case TW9 => k_asm); (case kkW9 => first | exact rfl | assumption); (case hdW9 => k_room); (case huW9 => k_units); k_whole; intro r'W9 h'W9 tk'W9 F'W9 N'W9 ht'W9; obtain ⟨t'W9, e'W9⟩ := ht'W9; subst e'W9; (try k_sweep)))))
  k_with "my kt_len" => (first | exact len_out (by assumption) (by omega) | exact len_quoted (by assumption) (by omega) | exact TreeAt.Ok.eol (by assumption) _ (by omega) | exact TreeAt.part_len (by assumption) (by omega) (by omega) | ((with_reducible refine' len_qd ?qqW9); (case qqW9 => kt_len)))
  k_with "my call builtin:len" => ((k_here; (with_reducible show wpAny _ _ (call (Value.builtin "len") [Value.ref (TreeAt.t _)]) _ _ _); k_dflt ((refine' tree_len ?NW9 ?TW9 ?_; (case NW9 => k_asm); (case TW9 => k_memK); k_whole; intro t'W9 k'W9))))
  k_with "my call ref" => ((k_here; (with_reducible show wpAny _ _ (call (Value.ref 782) [Value.ref _, Value.int (Nat.cast _) _]) _ _ _); (with_reducible rename ∀ k, _ < k → k < 5 → Outline _ _ k => ihOW9); k_dflt ((refine' reads_use (ihOW9 _ ?aW9 ?bW9 _) ?BW9 ?FW9 ?XW9 ?NW9 ?TW9 ?kkW9 ?hdW9 ?huW9 ?hnW9 ?_; (case aW9 => omega); (case bW9 => omega); (case BW9 => k_asm); (case FW9 => k_asm); (case XW9 => k_asm); (case NW9 => k_asm); (case TW9 => k_asm); (case kkW9 => first | exact rfl | assumption); (case hdW9 => k_room); (case huW9 => k_units); (case hnW9 => k_memK); k_whole; intro r'W9 h'W9 tk'W9 F'W9 N'W9 ht'W9; obtain ⟨t'W9, e'W9⟩ := ht'W9; subst e'W9; (try k_sweep)))))
  k_with "my inplaceOp Add str str" => ((k_here; (with_reducible show wpAny _ _ (inplaceOp Operator.Add (Value.str _ _) (Value.str _ _)) _ _ _); (refine' iaddK ?kxaaW9 ?kxabW9 ?kxacW9 ?_; (case kxaaW9 => kt_len); (case kxabW9 => kt_len); (case kxacW9 => exact Nat.le_of_ble_eq_true rfl)); intro _ _ _))
  k_with "my k_enter" => ((kp_kind "both"; (fail_if_success k_inElt); (refine' kp_both ?k1W9 ?k2W9 ?k3W9 ?k4W9 ?k5W9 ?kAW9 ?kFW9 ?kKW9 ?k6W9 ?k7W9 ?k8W9 ?kVW9 ?kXW9 ?kQW9 ?kMW9 ?kNW9 ?kDW9 ?kRW9 ?kPW9 ?kSW9 ?kTW9 ?kBW9 ?_ ?c2W9 ?c3W9 ?c4W9 ?c5W9; (case kAW9 => exact rfl); (case kFW9 => exact rfl); (case kKW9 => first | exact rfl | assumption); (case k1W9 => k_asm); (case k2W9 => k_asm); (case k3W9 => k_asm); (case k4W9 => k_asm); (case k5W9 => k_asm); (case k6W9 => k_is); (case k7W9 => k_is); (case k8W9 => k_room); (case kVW9 => kp_lit); (case kXW9 => kp_lit); (case kQW9 => exact rfl); (case kMW9 => exact rfl); (case kNW9 => exact rfl); (case kDW9 => kp_flats); (case kRW9 => exact rfl); (case kPW9 => exact rfl); (case kSW9 => exact fun _ => rfl); (case kTW9 => exact fun _ _ => rfl); (case kBW9 => exact fun _ _ => locs rfl); (case c5W9 => decide); (case c2W9 => exact rfl); (case c3W9 => exact rfl); (case c4W9 => exact rfl); k_whole; intro C'W9 D'W9 o'W9 g'W9 L'W9 h'W9 tk'W9 l1W9 l2W9 lo'W9 hs'W9 fs'W9 FG'W9 F'W9 N'W9 B'W9 X'W9 T'W9; (try k_lt l1W9); (try k_lt2 l2W9); (try dsimp only); (try k_lift B'W9); (try k_fold))))
  k_with "my call builtin:object.__new__" => ((k_here; k_dflt ((refine' new623_K ?FW9 ?XW9 ?NW9 ?_; (case FW9 => k_asm); (case XW9 => k_asm); (case NW9 => k_asm); k_whole; intro x'W9 d'W9 h'W9 F'W9 N'W9 l1W9 l2W9; (try k_lt l1W9); (try k_lt2 l2W9); (try k_sweep)))))
  k_with "my k_all" => (first | exact allNe (by assumption) | exact allNe' (by assumption) | exact allNeT (by assumption) (by first | assumption | omega))
  k_with "my call type:collections.deque" => ((k_here; k_dflt ((refine' dq_make ?FW9 ?NW9 ?_; (case FW9 => k_asm); (case NW9 => k_asm); k_whole; intro h'W9 a'W9 F'W9 N'W9 l1W9; (try k_lt l1W9); (try k_sweep)))))
  k_with "my truthy ref" => ((k_here; k_dflt (refine' dq_truthy ?NW9 ?mW9 ?xW9 ?_; (case NW9 => k_asm); (case mW9 => k_mem); (case xW9 => exact Nat.le_of_ble_eq_true rfl); k_whole; intro k'W9)))
  k_with "my getMethod ref" => ((k_here; k_dflt (first
    | (refine' dq_meth ?NW9 ?mW9 slot_dq_append dq_type_append ?_; (case NW9 => k_asm); (case mW9 => k_mem); k_whole)
    | (refine' dq_meth ?NW9 ?mW9 slot_dq_pop dq_type_pop ?_; (case NW9 => k_asm); (case mW9 => k_mem); k_whole))))
  k_with "my call builtin:collections.deque.append" => ((k_here; k_dflt ((refine' dq_append ?FW9 ?NW9 ?UW9 ?xW9 ?_; (case FW9 => k_asm); (case NW9 => k_asm); (case UW9 => k_upd); (case xW9 => exact Nat.le_of_ble_eq_true rfl); k_whole; intro h'W9 F'W9 N'W9; (try k_sweep)))))
  k_with "my call builtin:collections.deque.pop" => ((k_here; k_dflt ((refine' dq_pop (xs := []) ?FW9 ?NW9 ?UW9 ?xW9 ?_; (case FW9 => k_asm); (case NW9 => k_asm); (case UW9 => k_upd); (case xW9 => exact Nat.le_of_ble_eq_true rfl); k_whole; intro h'W9 F'W9 N'W9; (try k_sweep)))))
  k_with "my call ref" => ((k_here; (with_reducible show wpAny _ _ (call (Value.ref 623) [Value.str (Str.mk (List.toArray _)) _]) _ _ _); k_dflt ((refine' at_use (sio_ok _ _ _ ?lW9) ?hdW9 ?huW9 ?BW9 ?FW9 ?XW9 ?NW9 ?TW9 ?kkW9 _ _ ?_; (case lW9 => assumption); (case BW9 => k_asm); (case FW9 => k_asm); (case XW9 => k_asm); (case NW9 => k_asm); (case TW9 => k_asm); (case kkW9 => first | exact rfl | assumption); (case hdW9 => k_room); (case huW9 => k_units); k_whole; intro x'W9 d'W9 k1'W9 k2'W9 k3'W9 tb'W9 tp'W9 h'W9 tk'W9 F'W9 N'W9 l1W9 l2W9; (try k_lt l1W9); (try k_lt2 l2W9); (try k_sweep)))))
  k_with "my getMethod str" => ((k_here; (with_reducible show wpAny _ _ (getMethod (Value.str _ _) (Str.ofString "maketrans") _) _ _ _); k_dflt ((refine' gm_maketrans ?_; intro k'W9))))
  k_with "my getMethod type:dict" => ((k_here; (with_reducible show wpAny _ _ (getMethod _ (Str.ofString "fromkeys") _) _ _ _); k_dflt ((refine' fk_getm ?FW9 ?NW9 ?XW9 ?_; (case FW9 => k_asm); (case NW9 => k_asm); (case XW9 => k_asm); k_whole; intro x'W9 h'W9 F'W9 N'W9 l1W9; (try k_lt l1W9); (try k_sweep)))))
  k_with "my callWith ref" => ((k_here; k_dflt (refine' callWith_fk ?XW9 ?NW9 ?mW9 ?_; (case XW9 => k_asm); (case NW9 => k_asm); (case mW9 => k_mem); k_whole)))
  k_with "my And" => (((with_reducible show Heap.get? _ _ = some fkBound ∧ _); k_dflt ((refine' ⟨News.get ?NW9 ?mW9, ?_⟩; (case NW9 => k_asm); (case mW9 => k_mem)))))
  k_with "my call ref" => ((k_here; (with_reducible show wpAny _ _ (call (Value.ref _) [Value.str (Str.ofString ".") _]) _ _ _); k_dflt (refine' fk_K ?FW9 ?NW9 ?mW9 ?hhW9 ?bW9 ?_; (case FW9 => k_asm); (case NW9 => k_asm); (case mW9 => k_mem); (case hhW9 => exact rfl); (case bW9 => exact big_of (by assumption)); k_whole; intro d'W9 o'W9 h'W9 tk'W9 F'W9 N'W9 hi'W9 hS'W9 l1W9; (try k_lt l1W9); (try k_sweep))))
  k_with "my call builtin:str.maketrans" => ((k_here; k_dflt ((refine' tr_K ?FW9 ?NW9 ?mW9 ?iW9 ?SW9 ?bW9 ?_; (case FW9 => k_asm); (case NW9 => k_asm); (case mW9 => k_mem); (case iW9 => assumption); (case SW9 => assumption); (case bW9 => exact big_of (by assumption)); k_whole; intro d'W9 o'W9 h'W9 tk'W9 F'W9 N'W9 hi'W9 hS'W9 l1W9; (try k_lt l1W9); (try k_sweep)))))
  k_with "my call builtin:str.translate" => ((k_here; k_dflt ((refine' tl_K ?FW9 ?NW9 ?hhW9 ?mW9 ?iW9 ?SW9 ?_; (case FW9 => k_asm); (case NW9 => k_asm); (case hhW9 => exact rfl); (case mW9 => k_mem); (case iW9 => assumption); (case SW9 => assumption); k_whole; intro t'W9 h'W9 tk'W9 F'W9 N'W9; (try k_sweep)))))
  k_with "my getMethod str" => ((k_here; (with_reducible show wpAny _ _ (getMethod (Value.str _ _) (Str.ofString "translate") _) _ _ _); k_dflt ((refine' gm_translate ?_))))
  k_with "my WhlRest" => ((refine stop_of ?_))
  k_with "my call ref" => ((k_here; (with_reducible show wpAny _ _ (call (Value.ref 569) [Value.ref _, Value.int 1 _]) _ _ _); k_dflt ((first
    | (refine' read_K ?NW9 ?FW9 ?okW9 ?hbW9 ?hcW9 ?offW9 ?BW9 ?XW9 ?TW9 ?kkW9 ?hdW9 ?huW9 ?_; (case NW9 => k_asm); (case FW9 => k_asm); (case okW9 => constructor <;> assumption); (case hbW9 => assumption); (case hcW9 => assumption); (case offW9 => assumption); (case BW9 => k_asm); (case XW9 => k_asm); (case TW9 => k_asm); (case kkW9 => first | exact rfl | assumption); (case hdW9 => k_room); (case huW9 => k_units); k_whole; intro t'W9 tp'W9 h'W9 tk'W9 F'W9 N'W9; (try k_sweep))
    | (refine' read_KE ?NW9 ?FW9 ?okW9 ?hbW9 ?hcW9 ?offW9 ?BW9 ?XW9 ?TW9 ?kkW9 ?hdW9 ?huW9 ?_; (case NW9 => k_asm); (case FW9 => k_asm); (case okW9 => constructor <;> assumption); (case hbW9 => assumption); (case hcW9 => assumption); (case offW9 => assumption); (case BW9 => k_asm); (case XW9 => k_asm); (case TW9 => k_asm); (case kkW9 => first | exact rfl | assumption); (case hdW9 => k_room); (case huW9 => k_units); k_whole; intro t'W9 h'W9 tk'W9 F'W9 N'W9; (try k_sweep))))))
  k_with "my compareOp In str str" => ((k_here; first
    | (refine' in_is false ?eW9 ?_; (case eW9 => first | with_reducible assumption | decide +kernel))
    | (refine' in_is true ?eW9 ?_; (case eW9 => first | with_reducible assumption | decide +kernel))))
  k_with "my compareOp NotIn str str" => ((k_here; first
    | (refine' notin_is false ?eW9 ?_; (case eW9 => first | with_reducible assumption | decide +kernel))
    | (refine' notin_is true ?eW9 ?_; (case eW9 => first | with_reducible assumption | decide +kernel))))
  k_with "my compareOp Eq str str" => ((k_here; first
    | (refine' eq_is false ?eW9 ?_; (case eW9 => first | with_reducible assumption | decide +kernel))
    | (refine' eq_is true ?eW9 ?_; (case eW9 => first | with_reducible assumption | decide +kernel))))
  k_with "my exec If" => ((refine wpAny_If ?_))
  k_with "my truthy ref" => ((k_here; k_dflt (first
    | (refine' dq_false ?NW9 ?mW9 ?_; (case NW9 => k_asm); (case mW9 => k_mem); k_whole; intro k'W9)
    | (refine' dq_true ?NW9 ?mW9 ?_; (case NW9 => k_asm); (case mW9 => k_mem); k_whole; intro k'W9))))
  trivial

variable {w : World} {ℓ : LexA} {buf : List Nat} {q : Bool} {esc : Value} {nc : Option Value} {P : LexC → Bool → Prop}
set_option maxHeartbeats 8000000 in
theorem turn_J (ok : ℓ.Ok) (hb : (mk buf).length ≤ 1000000) {ts tt tl tp : Tok} {tok : Str} {line : Int} {pos : Nat} {pn : Int}  (hc : buf[pos]? = some 39) (ht : tok.length ≤ 1000) 
    (next : ∀ (ts' tt' tl' tp' : Tok) v, Loops w ℓ buf ⟨.str (mk [39]) ts', tok, tt', line, tl', pos + 1, tp', pn, []⟩ q esc (some v) P) : Loops w ℓ buf ⟨.str "a" ts, tok, tt, line, tl, pos, tp, pn, []⟩ q esc nc P := by
  w_strict (
  unfold Loops LoopsAt
  k_fill
  change Loops _ _ _ _ _ _ _ _
  refine' loops_open ?e9 ?_
  case e9 => k_is
  intro hW'
  unfold LoopsAt
  intro dp un p loose mean mg mb gd cn cs0 L0 a ccd0 cl outer base g L rest s Q E j hdp hun B X T off F N hE fin
  have ok9 := ok
  obtain ⟨o1, o2, o3, o4, o5, o6⟩ := ok
  simp only [List.cons_append, List.nil_append] at N
  refine whl_turn (k := j) hE ?_
  k_steps
  all_goals (show WhlRest _ _ _ _ _ _ _ _ _ _ _; refine loops_use (next _ _ _ _ _) hW' hdp hun B X T off (by (first | exact fr_n (by k_asm) | exact fr_q (by k_asm))) (by (first | exact news_tail (by k_asm) | k_asm)) hE fin)
  )
set_option maxHeartbeats 8000000 in
theorem turn_K (ok : ℓ.Ok) (hb : (mk buf).length ≤ 1000000) {ts tt tl tp : Tok} {tok : Str} {line : Int} {pos : Nat} {pn : Int}  (hc : buf[pos]? = some 13) (ht : tok.length ≤ 1000) (ht1 : 1 ≤ tok.length) 
    (fin' : ∀ (ts' tt' tl' tp' : Tok), P ⟨.str " " ts', tok, tt', line, tl', pos + 1, tp', pn, []⟩ q) : Loops w ℓ buf ⟨.str "a" ts, tok, tt, line, tl, pos, tp, pn, []⟩ q esc nc P := by
  w_strict (
  unfold Loops LoopsAt
  k_fill
  change Loops _ _ _ _ _ _ _ _
  refine' loops_open ?e9 ?_
  case e9 => k_is
  intro hW'
  unfold LoopsAt
  intro dp un p loose mean mg mb gd cn cs0 L0 a ccd0 cl outer base g L rest s Q E j hdp hun B X T off F N hE fin
  have ok9 := ok
  obtain ⟨o1, o2, o3, o4, o5, o6⟩ := ok
  simp only [List.cons_append, List.nil_append] at N
  refine whl_turn (k := j) hE ?_
  k_steps
  all_goals (refine fin _ q _ _ _ _ (fin' _ _ _ _) (by (first | exact fr_n (by k_asm) | exact fr_q (by k_asm))) (by (first | exact news_tail (by k_asm) | k_asm)))
  )
set_option maxHeartbeats 8000000 in
theorem turn_L (ok : ℓ.Ok) (hb : (mk buf).length ≤ 1000000) {ts tt tl tp : Tok} {tok : Str} {line : Int} {pos : Nat} {pn : Int}  (hc : buf[pos]? = some 10) (hl : 0 ≤ line ∧ line ≤ 100000) 
    (next : ∀ (tt' tl' tp' : Tok) v, Loops w ℓ buf ⟨.str " " ts, (Str.ofString ""), tt', line + 1, tl', pos + 1, tp', pn, []⟩ false esc (some v) P) : Loops w ℓ buf ⟨.str " " ts, (Str.ofString ""), tt, line, tl, pos, tp, pn, []⟩ false esc nc P := by
  w_strict (
  unfold Loops LoopsAt
  k_fill
  change Loops _ _ _ _ _ _ _ _
  refine' loops_open ?e9 ?_
  case e9 => k_is
  intro hW'
  unfold LoopsAt
  intro dp un p loose mean mg mb gd cn cs0 L0 a ccd0 cl outer base g L rest s Q E j hdp hun B X T off F N hE fin
  have ok9 := ok
  obtain ⟨o1, o2, o3, o4, o5, o6⟩ := ok
  simp only [List.cons_append, List.nil_append] at N
  refine whl_turn (k := j) hE ?_
  k_steps
  all_goals (show WhlRest _ _ _ _ _ _ _ _ _ _ _; refine loops_use (next _ _ _ _) hW' hdp hun B X T off (by (first | exact fr_n (by k_asm) | exact fr_q (by k_asm))) (by (first | exact news_tail (by k_asm) | k_asm)) hE fin)
  )
set_option maxHeartbeats 8000000 in
theorem turn_M (ok : ℓ.Ok) (hb : (mk buf).length ≤ 1000000) {ts tt tl tp : Tok} {tok : Str} {line : Int} {pos : Nat} {pn : Int}  (ht : tok.length ≤ 1000) (hc : pos = buf.length) 
    (fin' : ∀ (tt' tl' tp' : Tok), P ⟨.none, tok, tt', line, tl', pos, tp', pn, []⟩ q) : Loops w ℓ buf ⟨.str " " ts, tok, tt, line, tl, pos, tp, pn, []⟩ q esc nc P := by
  w_strict (
  unfold Loops LoopsAt
  k_fill
  change Loops _ _ _ _ _ _ _ _
  refine' loops_open ?e9 ?_
  case e9 => k_is
  intro hW'
  unfold LoopsAt
  intro dp un p loose mean mg mb gd cn cs0 L0 a ccd0 cl outer base g L rest s Q E j hdp hun B X T off F N hE fin
  have ok9 := ok
  obtain ⟨o1, o2, o3, o4, o5, o6⟩ := ok
  simp only [List.cons_append, List.nil_append] at N
  refine whl_turn (k := j) hE ?_
  k_steps
  all_goals (refine fin _ q _ _ _ _ (fin' _ _ _) (by (first | exact fr_n (by k_asm) | exact fr_q (by k_asm))) (by (first | exact news_tail (by k_asm) | k_asm)))
  )
end OyMine
end
section
open PySem PySem.W PyProof.Rows PySem.Builtin PySem.Builtin.Re
set_option maxRecDepth 100000
set_option genInjectivity false
set_option genSizeOf false
set_option genSizeOfSpec false
namespace OyMine
theorem words_Tok_0 : True := by
  w_top off
  k_with_none
  k_with "my omega" => (first
    | with_reducible assumption
    | with_reducible exact Nat.ne_of_lt (by assumption)
    | with_reducible exact Nat.ne_of_gt (by assumption)
    | decide
    | with_reducible exact Nat.le_refl _
    | with_reducible exact Nat.zero_le _
    | with_reducible exact Nat.le_add_right _ _
    | with_reducible exact Nat.le_add_left _ _
    | with_reducible exact Nat.lt_succ_self _
    | with_reducible exact Nat.le_succ _
    | with_reducible exact Nat.succ_pos _
    | with_reducible exact Nat.zero_add _
    | with_reducible exact q4
    | with_reducible exact q8
    | with_reducible exact Nat.le_of_lt (by assumption)
    | with_reducible exact Nat.le_of_succ_le (by assumption)
    | with_reducible exact Nat.le_of_succ_le_succ (by assumption)
    | with_reducible exact Nat.not_lt.mp (by assumption)
    | with_reducible exact Nat.lt_succ_of_le (by assumption)
    | with_reducible exact Nat.le_succ_of_le (by assumption)
    | with_reducible exact Nat.succ_le_of_lt (by assumption)
    | with_reducible exact q1 (by assumption)
    | with_reducible exact q2 (by assumption)
    | with_reducible exact q3 (by assumption)
    | with_reducible exact q5 (by assumption)
    | with_reducible exact q7 (by assumption)
    | with_reducible exact q6 (by assumption) (by assumption)
    | with_reducible exact absurd (by assumption) (Nat.not_lt.mpr (by assumption))
    | (with_reducible refine room_le (by assumption) ?_; with_unfolding_all rfl)
    | (with_reducible refine room_lt (by assumption) ?_; with_unfolding_all rfl)
    | (with_reducible refine room_le0 (by assumption) ?_; with_unfolding_all rfl)
    | ((fail_if_success (with_reducible show _ ≠ _)); (rename _ ∧ _ => cW9; clear cW9); (repeat (rename _ ∧ _ => cW9; clear cW9)); omega)
    | fail "no")
  k_with "my execs cons" => (k_here; refine wpAny_execs_cons ?_; k_fold)
  k_with "my getAttr ref" => (k_here; (with_reducible show wpAny _ _ (getAttr (Value.ref (LexA.x _)) _ _) _ _ _); k_dflt ((with_reducible first | refine' lex_get_instream ?FW9 ?XW9 ?NW9 ?hxW9 ?hdW9 ?_ | refine' lex_get_posix ?FW9 ?XW9 ?NW9 ?hxW9 ?hdW9 ?_ | refine' lex_get_eof ?FW9 ?XW9 ?NW9 ?hxW9 ?hdW9 ?_ | refine' lex_get_commenters ?FW9 ?XW9 ?NW9 ?hxW9 ?hdW9 ?_ | refine' lex_get_wordchars ?FW9 ?XW9 ?NW9 ?hxW9 ?hdW9 ?_ | refine' lex_get_whitespace ?FW9 ?XW9 ?NW9 ?hxW9 ?hdW9 ?_ | refine' lex_get_whitespace_split ?FW9 ?XW9 ?NW9 ?hxW9 ?hdW9 ?_ | refine' lex_get_quotes ?FW9 ?XW9 ?NW9 ?hxW9 ?hdW9 ?_ | refine' lex_get_escape ?FW9 ?XW9 ?NW9 ?hxW9 ?hdW9 ?_ | refine' lex_get_escapedquotes ?FW9 ?XW9 ?NW9 ?hxW9 ?hdW9 ?_ | refine' lex_get_state ?FW9 ?XW9 ?NW9 ?hxW9 ?hdW9 ?_ | refine' lex_get_pushback ?FW9 ?XW9 ?NW9 ?hxW9 ?hdW9 ?_ | refine' lex_get_lineno ?FW9 ?XW9 ?NW9 ?hxW9 ?hdW9 ?_ | refine' lex_get_debug ?FW9 ?XW9 ?NW9 ?hxW9 ?hdW9 ?_ | refine' lex_get_token ?FW9 ?XW9 ?NW9 ?hxW9 ?hdW9 ?_ | refine' lex_get_filestack ?FW9 ?XW9 ?NW9 ?hxW9 ?hdW9 ?_ | refine' lex_get_source ?FW9 ?XW9 ?NW9 ?hxW9 ?hdW9 ?_ | refine' lex_get_punct ?FW9 ?XW9 ?NW9 ?hxW9 ?hdW9 ?_ | refine' lex_get_pushback_chars ?FW9 ?XW9 ?NW9 ?hxW9 ?hdW9 ?_); (case FW9 => k_asm); (case XW9 => k_asm); (case NW9 => k_asm); (case hxW9 => k_mem); (case hdW9 => k_mem); k_whole))
  k_with "my setAttr ref" => (k_here; (with_reducible show wpAny _ _ (setAttr (Value.ref (LexA.x _)) _ _) _ _ _); k_dflt ((with_reducible first | refine' lex_set_state ?FW9 ?XW9 ?okW9 ?offW9 ?NW9 ?_ | refine' lex_set_token ?FW9 ?XW9 ?okW9 ?offW9 ?NW9 ?_ | refine' lex_set_lineno ?FW9 ?XW9 ?okW9 ?offW9 ?NW9 ?_); (case FW9 => k_asm); (case XW9 => k_asm); (case okW9 => assumption); (case offW9 => assumption); (case NW9 => k_asm); k_whole; intro hW9 FaW9 NaW9; (try k_sweep)))
  trivial
theorem words_Tok_1 : True := by
  k_with "my k_room" => (first | exact Nat.le_of_ble_eq_true rfl | ((try simp only [duk, depth_under_make, depth_under_kw, depth_in1, depth_deeper, depth_caller, recursionLimit]); (try dsimp only [ktrTop]); (try simp only [recursionLimit]); omega))
  k_with "my ktr_room" => (k_room)
  k_with "my k_units" => (first | exact Nat.le_of_ble_eq_true rfl | ((have hcL9W9 := cLine_is); (try simp only [uuk, units_in1, units_deeper, Around.mark_units, units_caller]); (try dsimp only [ktrTop]); omega))
  k_with "my units_room" => (first | exact Nat.le_of_ble_eq_true rfl | ((have hcL9W9 := cLine_is); (try simp only [uuk, units_in1, units_deeper, Around.mark_units, units_caller]); (try dsimp only [ktrTop]); omega))
  k_with "my k_enter" => ((refine' code_def ?k1W9 ?k2W9 ?k3W9 ?k4W9 ?k5W9 ?kAW9 ?kFW9 ?kKW9 ?k6W9 ?k7W9 ?k8W9 ?k9W9 ?kBW9 ?_ ?c2W9 ?c3W9 ?c4W9 ?c5W9; (case kAW9 => exact rfl); (case kFW9 => exact rfl); (case kKW9 => first | exact rfl | assumption); (case k1W9 => k_asm); (case k2W9 => k_asm); (case k3W9 => k_asm); (case k4W9 => k_asm); (case k5W9 => k_asm); (case k6W9 => k_is); (case k7W9 => k_is); (case k8W9 => k_room); (case k9W9 => first | exact BindsTo.of_eq rfl | exact binds_K (by k_in) rfl (by k_is) rfl rfl rfl | fail "k_enter: no rule for these arguments"); (case c5W9 => decide); (case kBW9 => exact locs rfl); (case c2W9 => exact rfl); (case c3W9 => exact rfl); (case c4W9 => exact rfl); k_whole; intro g'W9 L'W9 h'W9 FG'W9 F'W9 N'W9 B'W9 X'W9 T'W9; (try dsimp only); (try k_lift B'W9); (try k_fold)))
  k_with "my getMethod ref" => ((k_here; (with_reducible show wpAny _ _ (getMethod (Value.ref _) (Str.ofString "sub") _) _ _ _); k_dflt (refine' meth_sub ?FW9 ?XW9 ?eW9 ?cW9 ?dW9 ?_; (case FW9 => k_asm); (case XW9 => k_asm); (case eW9 => k_is); (case cW9 => exact rfl); (case dW9 => exact rfl); k_whole)))
  k_with "my call builtin:re.Pattern.sub" => ((k_here; k_dflt (first
    | (refine' sub54_K ?FW9 ?XW9 ?NW9 ?xW9 ?_; (case FW9 => k_asm); (case XW9 => k_asm); (case NW9 => k_asm); (case xW9 => first | exact nl_fits (by assumption) | omega); k_whole; intro t'W9 h'W9 tk'W9 F'W9 N'W9; (try k_sweep))
    | (refine' sub49_K ?FW9 ?XW9 ?NW9 ?xW9 ?_; (case FW9 => k_asm); (case XW9 => k_asm); (case NW9 => k_asm); (case xW9 => first | exact nl_fits (by assumption) | omega); k_whole; intro t'W9 h'W9 tk'W9 F'W9 N'W9; (try k_sweep)))))
  k_with "my call ref" => ((k_here; (with_reducible show wpAny _ _ (call (Value.ref 763) [Value.str _ _]) _ _ _); k_dflt (refine' search_K ?FW9 ?XW9 ?NW9 ?xW9 ?jW9 ?uW9 ?_; (case FW9 => k_asm); (case XW9 => k_asm); (case NW9 => k_asm); (case xW9 => omega); (case jW9 => assumption); (case uW9 => assumption); k_whole; intro a'W9 h'W9 F'W9 N'W9; (try k_sweep))))
  k_with "my kt_len" => (with_reducible assumption)
  k_with "my truthy str" => ((k_here; (with_reducible show wpAny _ _ (PySem.truthy (Value.str _ _)) _ _ _); (refine' KXt.truthy_pos (K := 16777216) ?kxtaW9 ?kxtbW9 (Nat.le_refl _) ?_; (case kxtaW9 => with_reducible assumption); (case kxtbW9 => omega)); intro _))
  k_with "my callWith ref" => ((k_here; (with_reducible show wpAny _ _ (callWith _ (Value.ref 763) _ _ _) _ _ _); k_dflt (refine' callWith_763 ?k1W9 ?_; (case k1W9 => k_asm); k_whole)))
  k_with "my call builtin:str.replace" => ((k_here; (with_reducible show wpAny _ _ (call (Value.builtin "str.replace") [Value.str _ _, Value.str (Str.ofString "'") _, Value.str _ _]) _ _ _); k_dflt ((refine' replaceQ ?aW9 ?bW9 ?cW9 ?dW9 ?_; (case aW9 => k_ne); (case bW9 => k_ne); (case cW9 => k_ne); (case dW9 => first | with_reducible assumption | omega); k_whole; intro t'W9 k'W9 len'W9))))
  k_with "my k_memK" => (first | assumption | (refine need_app ?_; k_memK) | (refine need_cons ?_; k_memK))
  k_with "my subscriptTail" => ((k_here; (with_reducible show wpAny _ _ (subscriptTail _ _ (Value.ref (TreeAt.t _)) (Value.int (Nat.cast _) _)) _ _ _); k_dflt ((refine' tree_item ?NW9 ?TW9 ?kW9 ?_; (case NW9 => k_asm); (case TW9 => k_memK); (case kW9 => omega); k_whole; intro hm'W9))))
  k_with "my call ref" => ((k_here; (with_reducible show wpAny _ _ (call (Value.ref 770) [Value.str (TreeAt.lab _ _) _]) _ _ _); k_dflt ((refine' pure_use (qt_lab _ _ ?OW9 _ ?kW9 _) ?BW9 ?FW9 ?XW9 ?NW9 ?TW9 ?kkW9 ?hdW9 ?huW9 ?_; (case OW9 => assumption); (case kW9 => omega); (case BW9 => k_asm); (case FW9 => k_asm); (case XW9 => k_asm); (case NW9 => k_asm); (case TW9 => k_asm); (case kkW9 => first | exact rfl | assumption); (case hdW9 => k_room); (case huW9 => k_units); k_whole; intro r'W9 h'W9 tk'W9 F'W9 N'W9 ht'W9; obtain ⟨t'W9, e'W9⟩ := ht'W9; subst e'W9; (try k_sweep)))))
  k_with "my call ref" => ((k_here; (with_reducible show wpAny _ _ (call (Value.ref 61) [Value.str (Str.mk (List.toArray _)) _]) _ _ _); k_dflt ((refine' pure_use (qd_mk _ _ _ ?xW9) ?BW9 ?FW9 ?XW9 ?NW9 ?TW9 ?kkW9 ?hdW9 ?huW9 ?_; (case xW9 => first | omega | exact size_out (by assumption) (by omega)); (case BW9 => k_asm); (case FW9 => k_asm); (case XW9 => k_asm); (case NW9 => k_asm); (case TW9 => k_asm); (case kkW9 => first | exact rfl | assumption); (case hdW9 => k_room); (case huW9 => k_units); k_whole; intro r'W9 h'W9 tk'W9 F'W9 N'W9 ht'W9; obtain ⟨t'W9, e'W9⟩ := ht'W9; subst e'W9; (try k_sweep)))))
  k_with "my kt_len" => (first | exact len_out (by assumption) (by omega) | exact len_quoted (by assumption) (by omega) | exact TreeAt.Ok.eol (by assumption) _ (by omega) | exact TreeAt.part_len (by assumption) (by omega) (by omega) | ((with_reducible refine' len_qd ?qqW9); (case qqW9 => kt_len)))
  k_with "my call builtin:len" => ((k_here; (with_reducible show wpAny _ _ (call (Value.builtin "len") [Value.ref (TreeAt.t _)]) _ _ _); k_dflt ((refine' tree_len ?NW9 ?TW9 ?_; (case NW9 => k_asm); (case TW9 => k_memK); k_whole; intro t'W9 k'W9))))
  k_with "my call ref" => ((k_here; (with_reducible show wpAny _ _ (call (Value.ref 782) [Value.ref _, Value.int (Nat.cast _) _]) _ _ _); (with_reducible rename ∀ k, _ < k → k < 5 → Outline _ _ k => ihOW9); k_dflt ((refine' reads_use (ihOW9 _ ?aW9 ?bW9 _) ?BW9 ?FW9 ?XW9 ?NW9 ?TW9 ?kkW9 ?hdW9 ?huW9 ?hnW9 ?_; (case aW9 => omega); (case bW9 => omega); (case BW9 => k_asm); (case FW9 => k_asm); (case XW9 => k_asm); (case NW9 => k_asm); (case TW9 => k_asm); (case kkW9 => first | exact rfl | assumption); (case hdW9 => k_room); (case huW9 => k_units); (case hnW9 => k_memK); k_whole; intro r'W9 h'W9 tk'W9 F'W9 N'W9 ht'W9; obtain ⟨t'W9, e'W9⟩ := ht'W9; subst e'W9; (try k_sweep)))))
  k_with "my inplaceOp Add str str" => ((k_here; (with_reducible show wpAny _ _ (inplaceOp Operator.Add (Value.str _ _) (Value.str _ _)) _ _ _); (refine' iaddK ?kxaaW9 ?kxabW9 ?kxacW9 ?_; (case kxaaW9 => kt_len); (case kxabW9 => kt_len); (case kxacW9 => exact Nat.le_of_ble_eq_true rfl)); intro _ _ _))
  k_with "my k_enter" => ((kp_kind "both"; (fail_if_success k_inElt); (refine' kp_both ?k1W9 ?k2W9 ?k3W9 ?k4W9 ?k5W9 ?kAW9 ?kFW9 ?kKW9 ?k6W9 ?k7W9 ?k8W9 ?kVW9 ?kXW9 ?kQW9 ?kMW9 ?kNW9 ?kDW9 ?kRW9 ?kPW9 ?kSW9 ?kTW9 ?kBW9 ?_ ?c2W9 ?c3W9 ?c4W9 ?c5W9; (case kAW9 => exact rfl); (case kFW9 => exact rfl); (case kKW9 => first | exact rfl | assumption); (case k1W9 => k_asm); (case k2W9 => k_asm); (case k3W9 => k_asm); (case k4W9 => k_asm); (case k5W9 => k_asm); (case k6W9 => k_is); (case k7W9 => k_is); (case k8W9 => k_room); (case kVW9 => kp_lit); (case kXW9 => kp_lit); (case kQW9 => exact rfl); (case kMW9 => exact rfl); (case kNW9 => exact rfl); (case kDW9 => kp_flats); (case kRW9 => exact rfl); (case kPW9 => exact rfl); (case kSW9 => exact fun _ => rfl); (case kTW9 => exact fun _ _ => rfl); (case kBW9 => exact fun _ _ => locs rfl); (case c5W9 => decide); (case c2W9 => exact rfl); (case c3W9 => exact rfl); (case c4W9 => exact rfl); k_whole; intro C'W9 D'W9 o'W9 g'W9 L'W9 h'W9 tk'W9 l1W9 l2W9 lo'W9 hs'W9 fs'W9 FG'W9 F'W9 N'W9 B'W9 X'W9 T'W9; (try k_lt l1W9); (try k_lt2 l2W9); (try dsimp only); (try k_lift B'W9); (try k_fold))))
  k_with "my call builtin:object.__new__" => ((k_here; k_dflt ((refine' new623_K ?FW9 ?XW9 ?NW9 ?_; (case FW9 => k_asm); (case XW9 => k_asm); (case NW9 => k_asm); k_whole; intro x'W9 d'W9 h'W9 F'W9 N'W9 l1W9 l2W9; (try k_lt l1W9); (try k_lt2 l2W9); (try k_sweep)))))
  k_with "my k_all" => (first | exact allNe (by assumption) | exact allNe' (by assumption) | exact allNeT (by assumption) (by first | assumption | omega))
  k_with "my call type:collections.deque" => ((k_here; k_dflt ((refine' dq_make ?FW9 ?NW9 ?_; (case FW9 => k_asm); (case NW9 => k_asm); k_whole; intro h'W9 a'W9 F'W9 N'W9 l1W9; (try k_lt l1W9); (try k_sweep)))))
  k_with "my truthy ref" => ((k_here; k_dflt (refine' dq_truthy ?NW9 ?mW9 ?xW9 ?_; (case NW9 => k_asm); (case mW9 => k_mem); (case xW9 => exact Nat.le_of_ble_eq_true rfl); k_whole; intro k'W9)))
  k_with "my getMethod ref" => ((k_here; k_dflt (first
    | (refine' dq_meth ?NW9 ?mW9 slot_dq_append dq_type_append ?_; (case NW9 => k_asm); (case mW9 => k_mem); k_whole)
    | (refine' dq_meth ?NW9 ?mW9 slot_dq_pop dq_type_pop ?_; (case NW9 => k_asm); (case mW9 => k_mem); k_whole))))
  k_with "my call builtin:collections.deque.append" => ((k_here; k_dflt ((refine' dq_append ?FW9 ?NW9 ?UW9 ?xW9 ?_; (case FW9 => k_asm); (case NW9 => k_asm); (case UW9 => k_upd); (case xW9 => exact Nat.le_of_ble_eq_true rfl); k_whole; intro h'W9 F'W9 N'W9; (try k_sweep)))))
  k_with "my call builtin:collections.deque.pop" => ((k_here; k_dflt ((refine' dq_pop (xs := []) ?FW9 ?NW9 ?UW9 ?xW9 ?_; (case FW9 => k_asm); (case NW9 => k_asm); (case UW9 => k_upd); (case xW9 => exact Nat.le_of_ble_eq_true rfl); k_whole; intro h'W9 F'W9 N'W9; (try k_sweep)))))
  k_with "my call ref" => ((k_here; (with_reducible show wpAny _ _ (call (Value.ref 623) [Value.str (Str.mk (List.toArray _)) _]) _ _ _); k_dflt ((refine' at_use (sio_ok _ _ _ ?lW9) ?hdW9 ?huW9 ?BW9 ?FW9 ?XW9 ?NW9 ?TW9 ?kkW9 _ _ ?_; (case lW9 => assumption); (case BW9 => k_asm); (case FW9 => k_asm); (case XW9 => k_asm); (case NW9 => k_asm); (case TW9 => k_asm); (case kkW9 => first | exact rfl | assumption); (case hdW9 => k_room); (case huW9 => k_units); k_whole; intro x'W9 d'W9 k1'W9 k2'W9 k3'W9 tb'W9 tp'W9 h'W9 tk'W9 F'W9 N'W9 l1W9 l2W9; (try k_lt l1W9); (try k_lt2 l2W9); (try k_sweep)))))
  k_with "my getMethod str" => ((k_here; (with_reducible show wpAny _ _ (getMethod (Value.str _ _) (Str.ofString "maketrans") _) _ _ _); k_dflt ((refine' gm_maketrans ?_; intro k'W9))))
  k_with "my getMethod type:dict" => ((k_here; (with_reducible show wpAny _ _ (getMethod _ (Str.ofString "fromkeys") _) _ _ _); k_dflt ((refine' fk_getm ?FW9 ?NW9 ?XW9 ?_; (case FW9 => k_asm); (case NW9 => k_asm); (case XW9 => k_asm); k_whole; intro x'W9 h'W9 F'W9 N'W9 l1W9; (try k_lt l1W9); (try k_sweep)))))
  k_with "my callWith ref" => ((k_here; k_dflt (refine' callWith_fk ?XW9 ?NW9 ?mW9 ?_; (case XW9 => k_asm); (case NW9 => k_asm); (case mW9 => k_mem); k_whole)))
  k_with "my And" => (((with_reducible show Heap.get? _ _ = some fkBound ∧ _); k_dflt ((refine' ⟨News.get ?NW9 ?mW9, ?_⟩; (case NW9 => k_asm); (case mW9 => k_mem)))))
  k_with "my call ref" => ((k_here; (with_reducible show wpAny _ _ (call (Value.ref _) [Value.str (Str.ofString ".") _]) _ _ _); k_dflt (refine' fk_K ?FW9 ?NW9 ?mW9 ?hhW9 ?bW9 ?_; (case FW9 => k_asm); (case NW9 => k_asm); (case mW9 => k_mem); (case hhW9 => exact rfl); (case bW9 => exact big_of (by assumption)); k_whole; intro d'W9 o'W9 h'W9 tk'W9 F'W9 N'W9 hi'W9 hS'W9 l1W9; (try k_lt l1W9); (try k_sweep))))
  k_with "my call builtin:str.maketrans" => ((k_here; k_dflt ((refine' tr_K ?FW9 ?NW9 ?mW9 ?iW9 ?SW9 ?bW9 ?_; (case FW9 => k_asm); (case NW9 => k_asm); (case mW9 => k_mem); (case iW9 => assumption); (case SW9 => assumption); (case bW9 => exact big_of (by assumption)); k_whole; intro d'W9 o'W9 h'W9 tk'W9 F'W9 N'W9 hi'W9 hS'W9 l1W9; (try k_lt l1W9); (try k_sweep)))))
  k_with "my call builtin:str.translate" => ((k_here; k_dflt ((refine' tl_K ?FW9 ?NW9 ?hhW9 ?mW9 ?iW9 ?SW9 ?_; (case FW9 => k_asm); (case NW9 => k_asm); (case hhW9 => exact rfl); (case mW9 => k_mem); (case iW9 => assumption); (case SW9 => assumption); k_whole; intro t'W9 h'W9 tk'W9 F'W9 N'W9; (try k_sweep)))))
  k_with "my getMethod str" => ((k_here; (with_reducible show wpAny _ _ (getMethod (Value.str _ _) (Str.ofString "translate") _) _ _ _); k_dflt ((refine' gm_translate ?_))))
  k_with "my WhlRest" => ((refine stop_of ?_))
  k_with "my call ref" => ((k_here; (with_reducible show wpAny _ _ (call (Value.ref 569) [Value.ref _, Value.int 1 _]) _ _ _); k_dflt ((first
    | (refine' read_K ?NW9 ?FW9 ?okW9 ?hbW9 ?hcW9 ?offW9 ?BW9 ?XW9 ?TW9 ?kkW9 ?hdW9 ?huW9 ?_; (case NW9 => k_asm); (case FW9 => k_asm); (case okW9 => constructor <;> assumption); (case hbW9 => assumption); (case hcW9 => assumption); (case offW9 => assumption); (case BW9 => k_asm); (case XW9 => k_asm); (case TW9 => k_asm); (case kkW9 => first | exact rfl | assumption); (case hdW9 => k_room); (case huW9 => k_units); k_whole; intro t'W9 tp'W9 h'W9 tk'W9 F'W9 N'W9; (try k_sweep))
    | (refine' read_KE ?NW9 ?FW9 ?okW9 ?hbW9 ?hcW9 ?offW9 ?BW9 ?XW9 ?TW9 ?kkW9 ?hdW9 ?huW9 ?_; (case NW9 => k_asm); (case FW9 => k_asm); (case okW9 => constructor <;> assumption); (case hbW9 => assumption); (case hcW9 => assumption); (case offW9 => assumption); (case BW9 => k_asm); (case XW9 => k_asm); (case TW9 => k_asm); (case kkW9 => first | exact rfl | assumption); (case hdW9 => k_room); (case huW9 => k_units); k_whole; intro t'W9 h'W9 tk'W9 F'W9 N'W9; (try k_sweep))))))
  k_with "my compareOp In str str" => ((k_here; first
    | (refine' in_is false ?eW9 ?_; (case eW9 => first | with_reducible assumption | decide +kernel))
    | (refine' in_is true ?eW9 ?_; (case eW9 => first | with_reducible assumption | decide +kernel))))
  k_with "my compareOp NotIn str str" => ((k_here; first
    | (refine' notin_is false ?eW9 ?_; (case eW9 => first | with_reducible assumption | decide +kernel))
    | (refine' notin_is true ?eW9 ?_; (case eW9 => first | with_reducible assumption | decide +kernel))))
  k_with "my compareOp Eq str str" => ((k_here; first
    | (refine' eq_is false ?eW9 ?_; (case eW9 => first | with_reducible assumption | decide +kernel))
    | (refine' eq_is true ?eW9 ?_; (case eW9 => first | with_reducible assumption | decide +kernel))))
  k_with "my exec If" => ((refine wpAny_If ?_))
  k_with "my truthy ref" => ((k_here; k_dflt (first
    | (refine' dq_false ?NW9 ?mW9 ?_; (case NW9 => k_asm); (case mW9 => k_mem); k_whole; intro k'W9)
    | (refine' dq_true ?NW9 ?mW9 ?_; (case NW9 => k_asm); (case mW9 => k_mem); k_whole; intro k'W9))))
  trivial

theorem lexFr_none {ℓ : LexA} {q : Bool} {esc : Value} {nc : Option Value} {z : Str} (h1 : ¬ z = Str.ofString "nextchar") (h2 : ¬ z = Str.ofString "escapedstate") (h3 : ¬ z = Str.ofString "quoted") (h4 : ¬ z = Str.ofString "self") : lexFr ℓ q esc nc z = none := by
  unfold lexFr
  rw [if_neg h1, if_neg h2, if_neg h3, if_neg h4]
theorem lookup_one {z y : Str} {v : Value} (h : z ≠ y) : List.lookup z [(y, v)] = none := by
  rw [List.lookup_cons, beq_eq_false_iff_ne.mpr h]
  rfl
set_option maxHeartbeats 8000000 in
theorem rt_word (w : World) (ℓ : LexA) (ok : ℓ.Ok) (buf : List Nat) (c : LexC) (P : LexC → Bool → Prop) (C : ∀ te, Loops w ℓ buf c false (.str " " te) none P) (hP : ∀ c' q', P c' q' → (c'.tok == Str.ofString "") = false ∧ c'.tok.length ≤ 1000) :
    LexCall w ℓ buf 726 470 4700 [.ref ℓ.x] c (fun r c2 => ∃ c' q' t, P c' q' ∧ r = .str c'.tok t ∧ ∃ tt, c2 = { c' with tok := Str.ofString "", tt := tt }) := by
  w_strict (
  unfold LexCall AtAny
  k_fill
  intro dp un p loose mean mg mb news gd cn cs a ccd cl outer A₀ base h₀ L m s hdp hun B F X N T hk rest off en Q E hret
  subst en
  refine wpAny_call ?_
  (k_dflt k_enter)
  k_steps
  show WhlRest _ _ _ _ _ _ _ _ _ _ _
  refine' loops_use (C _) ⟨_, _, _, _, _, _, _, _, _, _, _, _, _, _, _, by k_is⟩ (by omega) (by omega) (by k_asm) (by k_asm) (by k_asm) off (fr_congr (by k_asm) ?fr) (by k_asm) ?hE ?fin
  case hE => first | passes_own | with_unfolding_all passes_own
  case fr =>
    intro z
    by_cases h1 : z = Str.ofString "nextchar"
    · subst h1; rfl
    by_cases h2 : z = Str.ofString "escapedstate"
    · subst h2; rfl
    by_cases h3 : z = Str.ofString "quoted"
    · subst h3; rfl
    by_cases h4 : z = Str.ofString "self"
    · subst h4; rfl
    refine Eq.trans ?_ (lexFr_none h1 h2 h3 h4).symm
    refine (if_neg h2).trans ((if_neg h3).trans ?_)
    refine (congrArg (fun l => List.lookup z l) (?e : _ = [(Str.ofString "self", Value.ref ℓ.x)])).trans (lookup_one h4)
    kernel_rfl
  case fin =>
    intro c' q' esc' nc' h' tk' hp F' N'
    obtain ⟨e1, e2⟩ := hP _ _ hp
    have ok9 := ok
    obtain ⟨o1, o2, o3, o4, o5, o6⟩ := ok
    simp only [List.cons_append, List.nil_append] at N'
    k_steps
    all_goals exact hret _ { c' with tok := Str.ofString "", tt := _ } _ _ (by k_asm) (by first | exact news_tail (by k_asm) | k_asm) ⟨c', q', _, hp, rfl, _, rfl⟩
  )
end OyMine
end
section
open PySem PySem.W PyProof.Rows PySem.Builtin PySem.Builtin.Re
set_option maxRecDepth 100000
set_option genInjectivity false
set_option genSizeOf false
set_option genSizeOfSpec false
namespace OyMine
theorem words_Tok2_0 : True := by
  w_top off
  k_with_none
  k_with "my omega" => (first
    | with_reducible assumption
    | with_reducible exact Nat.ne_of_lt (by assumption)
    | with_reducible exact Nat.ne_of_gt (by assumption)
    | decide
    | with_reducible exact Nat.le_refl _
    | with_reducible exact Nat.zero_le _
    | with_reducible exact Nat.le_add_right _ _
    | with_reducible exact Nat.le_add_left _ _
    | with_reducible exact Nat.lt_succ_self _
    | with_reducible exact Nat.le_succ _
    | with_reducible exact Nat.succ_pos _
    | with_reducible exact Nat.zero_add _
    | with_reducible exact q4
    | with_reducible exact q8
    | with_reducible exact Nat.le_of_lt (by assumption)
    | with_reducible exact Nat.le_of_succ_le (by assumption)
    | with_reducible exact Nat.le_of_succ_le_succ (by assumption)
    | with_reducible exact Nat.not_lt.mp (by assumption)
    | with_reducible exact Nat.lt_succ_of_le (by assumption)
    | with_reducible exact Nat.le_succ_of_le (by assumption)
    | with_reducible exact Nat.succ_le_of_lt (by assumption)
    | with_reducible exact q1 (by assumption)
    | with_reducible exact q2 (by assumption)
    | with_reducible exact q3 (by assumption)
    | with_reducible exact q5 (by assumption)
    | with_reducible exact q7 (by assumption)
    | with_reducible exact q6 (by assumption) (by assumption)
    | with_reducible exact absurd (by assumption) (Nat.not_lt.mpr (by assumption))
    | (with_reducible refine room_le (by assumption) ?_; with_unfolding_all rfl)
    | (with_reducible refine room_lt (by assumption) ?_; with_unfolding_all rfl)
    | (with_reducible refine room_le0 (by assumption) ?_; with_unfolding_all rfl)
    | ((fail_if_success (with_reducible show _ ≠ _)); (rename _ ∧ _ => cW9; clear cW9); (repeat (rename _ ∧ _ => cW9; clear cW9)); omega)
    | fail "no")
  k_with "my execs cons" => (k_here; refine wpAny_execs_cons ?_; k_fold)
  k_with "my getAttr ref" => (k_here; (with_reducible show wpAny _ _ (getAttr (Value.ref (LexA.x _)) _ _) _ _ _); k_dflt ((with_reducible first | refine' lex_get_instream ?FW9 ?XW9 ?NW9 ?hxW9 ?hdW9 ?_ | refine' lex_get_posix ?FW9 ?XW9 ?NW9 ?hxW9 ?hdW9 ?_ | refine' lex_get_eof ?FW9 ?XW9 ?NW9 ?hxW9 ?hdW9 ?_ | refine' lex_get_commenters ?FW9 ?XW9 ?NW9 ?hxW9 ?hdW9 ?_ | refine' lex_get_wordchars ?FW9 ?XW9 ?NW9 ?hxW9 ?hdW9 ?_ | refine' lex_get_whitespace ?FW9 ?XW9 ?NW9 ?hxW9 ?hdW9 ?_ | refine' lex_get_whitespace_split ?FW9 ?XW9 ?NW9 ?hxW9 ?hdW9 ?_ | refine' lex_get_quotes ?FW9 ?XW9 ?NW9 ?hxW9 ?hdW9 ?_ | refine' lex_get_escape ?FW9 ?XW9 ?NW9 ?hxW9 ?hdW9 ?_ | refine' lex_get_escapedquotes ?FW9 ?XW9 ?NW9 ?hxW9 ?hdW9 ?_ | refine' lex_get_state ?FW9 ?XW9 ?NW9 ?hxW9 ?hdW9 ?_ | refine' lex_get_pushback ?FW9 ?XW9 ?NW9 ?hxW9 ?hdW9 ?_ | refine' lex_get_lineno ?FW9 ?XW9 ?NW9 ?hxW9 ?hdW9 ?_ | refine' lex_get_debug ?FW9 ?XW9 ?NW9 ?hxW9 ?hdW9 ?_ | refine' lex_get_token ?FW9 ?XW9 ?NW9 ?hxW9 ?hdW9 ?_ | refine' lex_get_filestack ?FW9 ?XW9 ?NW9 ?hxW9 ?hdW9 ?_ | refine' lex_get_source ?FW9 ?XW9 ?NW9 ?hxW9 ?hdW9 ?_ | refine' lex_get_punct ?FW9 ?XW9 ?NW9 ?hxW9 ?hdW9 ?_ | refine' lex_get_pushback_chars ?FW9 ?XW9 ?NW9 ?hxW9 ?hdW9 ?_); (case FW9 => k_asm); (case XW9 => k_asm); (case NW9 => k_asm); (case hxW9 => k_mem); (case hdW9 => k_mem); k_whole))
  k_with "my setAttr ref" => (k_here; (with_reducible show wpAny _ _ (setAttr (Value.ref (LexA.x _)) _ _) _ _ _); k_dflt ((with_reducible first | refine' lex_set_state ?FW9 ?XW9 ?okW9 ?offW9 ?NW9 ?_ | refine' lex_set_token ?FW9 ?XW9 ?okW9 ?offW9 ?NW9 ?_ | refine' lex_set_lineno ?FW9 ?XW9 ?okW9 ?offW9 ?NW9 ?_); (case FW9 => k_asm); (case XW9 => k_asm); (case okW9 => assumption); (case offW9 => assumption); (case NW9 => k_asm); k_whole; intro hW9 FaW9 NaW9; (try k_sweep)))
  trivial
theorem words_Tok2_1 : True := by
  k_with "my k_room" => (first | exact Nat.le_of_ble_eq_true rfl | ((try simp only [duk, depth_under_make, depth_under_kw, depth_in1, depth_deeper, depth_caller, recursionLimit]); (try dsimp only [ktrTop]); (try simp only [recursionLimit]); omega))
  k_with "my ktr_room" => (k_room)
  k_with "my k_units" => (first | exact Nat.le_of_ble_eq_true rfl | ((have hcL9W9 := cLine_is); (try simp only [uuk, units_in1, units_deeper, Around.mark_units, units_caller]); (try dsimp only [ktrTop]); omega))
  k_with "my units_room" => (first | exact Nat.le_of_ble_eq_true rfl | ((have hcL9W9 := cLine_is); (try simp only [uuk, units_in1, units_deeper, Around.mark_units, units_caller]); (try dsimp only [ktrTop]); omega))
  k_with "my k_enter" => ((refine' code_def ?k1W9 ?k2W9 ?k3W9 ?k4W9 ?k5W9 ?kAW9 ?kFW9 ?kKW9 ?k6W9 ?k7W9 ?k8W9 ?k9W9 ?kBW9 ?_ ?c2W9 ?c3W9 ?c4W9 ?c5W9; (case kAW9 => exact rfl); (case kFW9 => exact rfl); (case kKW9 => first | exact rfl | assumption); (case k1W9 => k_asm); (case k2W9 => k_asm); (case k3W9 => k_asm); (case k4W9 => k_asm); (case k5W9 => k_asm); (case k6W9 => k_is); (case k7W9 => k_is); (case k8W9 => k_room); (case k9W9 => first | exact BindsTo.of_eq rfl | exact binds_K (by k_in) rfl (by k_is) rfl rfl rfl | fail "k_enter: no rule for these arguments"); (case c5W9 => decide); (case kBW9 => exact locs rfl); (case c2W9 => exact rfl); (case c3W9 => exact rfl); (case c4W9 => exact rfl); k_whole; intro g'W9 L'W9 h'W9 FG'W9 F'W9 N'W9 B'W9 X'W9 T'W9; (try dsimp only); (try k_lift B'W9); (try k_fold)))
  k_with "my getMethod ref" => ((k_here; (with_reducible show wpAny _ _ (getMethod (Value.ref _) (Str.ofString "sub") _) _ _ _); k_dflt (refine' meth_sub ?FW9 ?XW9 ?eW9 ?cW9 ?dW9 ?_; (case FW9 => k_asm); (case XW9 => k_asm); (case eW9 => k_is); (case cW9 => exact rfl); (case dW9 => exact rfl); k_whole)))
  k_with "my call builtin:re.Pattern.sub" => ((k_here; k_dflt (first
    | (refine' sub54_K ?FW9 ?XW9 ?NW9 ?xW9 ?_; (case FW9 => k_asm); (case XW9 => k_asm); (case NW9 => k_asm); (case xW9 => first | exact nl_fits (by assumption) | omega); k_whole; intro t'W9 h'W9 tk'W9 F'W9 N'W9; (try k_sweep))
    | (refine' sub49_K ?FW9 ?XW9 ?NW9 ?xW9 ?_; (case FW9 => k_asm); (case XW9 => k_asm); (case NW9 => k_asm); (case xW9 => first | exact nl_fits (by assumption) | omega); k_whole; intro t'W9 h'W9 tk'W9 F'W9 N'W9; (try k_sweep)))))
  k_with "my call ref" => ((k_here; (with_reducible show wpAny _ _ (call (Value.ref 763) [Value.str _ _]) _ _ _); k_dflt (refine' search_K ?FW9 ?XW9 ?NW9 ?xW9 ?jW9 ?uW9 ?_; (case FW9 => k_asm); (case XW9 => k_asm); (case NW9 => k_asm); (case xW9 => omega); (case jW9 => assumption); (case uW9 => assumption); k_whole; intro a'W9 h'W9 F'W9 N'W9; (try k_sweep))))
  k_with "my kt_len" => (with_reducible assumption)
  k_with "my truthy str" => ((k_here; (with_reducible show wpAny _ _ (PySem.truthy (Value.str _ _)) _ _ _); (refine' KXt.truthy_pos (K := 16777216) ?kxtaW9 ?kxtbW9 (Nat.le_refl _) ?_; (case kxtaW9 => with_reducible assumption); (case kxtbW9 => omega)); intro _))
  k_with "my callWith ref" => ((k_here; (with_reducible show wpAny _ _ (callWith _ (Value.ref 763) _ _ _) _ _ _); k_dflt (refine' callWith_763 ?k1W9 ?_; (case k1W9 => k_asm); k_whole)))
  k_with "my call builtin:str.replace" => ((k_here; (with_reducible show wpAny _ _ (call (Value.builtin "str.replace") [Value.str _ _, Value.str (Str.ofString "'") _, Value.str _ _]) _ _ _); k_dflt ((refine' replaceQ ?aW9 ?bW9 ?cW9 ?dW9 ?_; (case aW9 => k_ne); (case bW9 => k_ne); (case cW9 => k_ne); (case dW9 => first | with_reducible assumption | omega); k_whole; intro t'W9 k'W9 len'W9))))
  k_with "my k_memK" => (first | assumption | (refine need_app ?_; k_memK) | (refine need_cons ?_; k_memK))
  k_with "my subscriptTail" => ((k_here; (with_reducible show wpAny _ _ (subscriptTail _ _ (Value.ref (TreeAt.t _)) (Value.int (Nat.cast _) _)) _ _ _); k_dflt ((refine' tree_item ?NW9 ?TW9 ?kW9 ?_; (case NW9 => k_asm); (case TW9 => k_memK); (case kW9 => omega); k_whole; intro hm'W9))))
  k_with "my call ref" => ((k_here; (with_reducible show wpAny _ _ (call (Value.ref 770) [Value.str (TreeAt.lab _ _) _]) _ _ _); k_dflt ((refine' pure_use (qt_lab _ _ ?OW9 _ ?kW9 _) ?BW9 ?FW9 ?XW9 ?NW9 ?TW9 ?kkW9 ?hdW9 ?huW9 ?_; (case OW9 => assumption); (case kW9 => omega); (case BW9 => k_asm); (case FW9 => k_asm); (case XW9 => k_asm); (case NW9 => k_asm); (case TW9 => k_asm); (case kkW9 => first | exact rfl | assumption); (case hdW9 => k_room); (case huW9 => k_units); k_whole; intro r'W9 h'W9 tk'W9 F'W9 N'W9 ht'W9; obtain ⟨t'W9, e'W9⟩ := ht'W9; subst e'W9; (try k_sweep)))))
  k_with "my call ref" => ((k_here; (with_reducible show wpAny _ _ (call (Value.ref 61) [Value.str (Str.mk (List.toArray _)) _]) _ _ _); k_dflt ((refine' pure_use (qd_mk _ _ _ ?xW9) ?BW9 ?FW9 ?XW9 ?NW9 ?TW9 ?kkW9 ?hdW9 ?huW9 ?_; (case xW9 => first | omega | exact size_out (by assumption) (by omega)); (case BW9 => k_asm); (case FW9 => k_asm); (case XW9 => k_asm); (case NW9 => k_asm); (case TW9 => k_asm); (case kkW9 => first | exact rfl | assumption); (case hdW9 => k_room); (case huW9 => k_units); k_whole; intro r'W9 h'W9 tk'W9 F'W9 N'W9 ht'W9; obtain ⟨t'W9, e'W9⟩ := ht'W9; subst e'W9; (try k_sweep)))))
  k_with "my kt_len" => (first | exact len_out (by assumption) (by omega) | exact len_quoted (by assumption) (by omega) | exact TreeAt.Ok.eol (by assumption) _ (by omega) | exact TreeAt.part_len (by assumption) (by omega) (by omega) | ((with_reducible refine' len_qd ?qqW9); (case qqW9 => kt_len)))
  k_with "my call builtin:len" => ((k_here; (with_reducible show wpAny _ _ (call (Value.builtin "len") [Value.ref (TreeAt.t _)]) _ _ _); k_dflt ((refine' tree_len ?NW9 ?TW9 ?_; (case NW9 => k_asm); (case TW9 => k_memK); k_whole; intro t'W9 k'W9))))
  k_with "my call ref" => ((k_here; (with_reducible show wpAny _ _ (call (Value.ref 782) [Value.ref _, Value.int (Nat.cast _) _]) _ _ _); (with_reducible rename ∀ k, _ < k → k < 5 → Outline _ _ k => ihOW9); k_dflt ((refine' reads_use (ihOW9 _ ?aW9 ?bW9 _) ?BW9 ?FW9 ?XW9 ?NW9 ?TW9 ?kkW9 ?hdW9 ?huW9 ?hnW9 ?_; (case aW9 => omega); (case bW9 => omega); (case BW9 => k_asm); (case FW9 => k_asm); (case XW9 => k_asm); (case NW9 => k_asm); (case TW9 => k_asm); (case kkW9 => first | exact rfl | assumption); (case hdW9 => k_room); (case huW9 => k_units); (case hnW9 => k_memK); k_whole; intro r'W9 h'W9 tk'W9 F'W9 N'W9 ht'W9; obtain ⟨t'W9, e'W9⟩ := ht'W9; subst e'W9; (try k_sweep)))))
  k_with "my inplaceOp Add str str" => ((k_here; (with_reducible show wpAny _ _ (inplaceOp Operator.Add (Value.str _ _) (Value.str _ _)) _ _ _); (refine' iaddK ?kxaaW9 ?kxabW9 ?kxacW9 ?_; (case kxaaW9 => kt_len); (case kxabW9 => kt_len); (case kxacW9 => exact Nat.le_of_ble_eq_true rfl)); intro _ _ _))
  k_with "my k_enter" => ((kp_kind "both"; (fail_if_success k_inElt); (refine' kp_both ?k1W9 ?k2W9 ?k3W9 ?k4W9 ?k5W9 ?kAW9 ?kFW9 ?kKW9 ?k6W9 ?k7W9 ?k8W9 ?kVW9 ?kXW9 ?kQW9 ?kMW9 ?kNW9 ?kDW9 ?kRW9 ?kPW9 ?kSW9 ?kTW9 ?kBW9 ?_ ?c2W9 ?c3W9 ?c4W9 ?c5W9; (case kAW9 => exact rfl); (case kFW9 => exact rfl); (case kKW9 => first | exact rfl | assumption); (case k1W9 => k_asm); (case k2W9 => k_asm); (case k3W9 => k_asm); (case k4W9 => k_asm); (case k5W9 => k_asm); (case k6W9 => k_is); (case k7W9 => k_is); (case k8W9 => k_room); (case kVW9 => kp_lit); (case kXW9 => kp_lit); (case kQW9 => exact rfl); (case kMW9 => exact rfl); (case kNW9 => exact rfl); (case kDW9 => kp_flats); (case kRW9 => exact rfl); (case kPW9 => exact rfl); (case kSW9 => exact fun _ => rfl); (case kTW9 => exact fun _ _ => rfl); (case kBW9 => exact fun _ _ => locs rfl); (case c5W9 => decide); (case c2W9 => exact rfl); (case c3W9 => exact rfl); (case c4W9 => exact rfl); k_whole; intro C'W9 D'W9 o'W9 g'W9 L'W9 h'W9 tk'W9 l1W9 l2W9 lo'W9 hs'W9 fs'W9 FG'W9 F'W9 N'W9 B'W9 X'W9 T'W9; (try k_lt l1W9); (try k_lt2 l2W9); (try dsimp only); (try k_lift B'W9); (try k_fold))))
  k_with "my call builtin:object.__new__" => ((k_here; k_dflt ((refine' new623_K ?FW9 ?XW9 ?NW9 ?_; (case FW9 => k_asm); (case XW9 => k_asm); (case NW9 => k_asm); k_whole; intro x'W9 d'W9 h'W9 F'W9 N'W9 l1W9 l2W9; (try k_lt l1W9); (try k_lt2 l2W9); (try k_sweep)))))
  k_with "my k_all" => (first | exact allNe (by assumption) | exact allNe' (by assumption) | exact allNeT (by assumption) (by first | assumption | omega))
  k_with "my call type:collections.deque" => ((k_here; k_dflt ((refine' dq_make ?FW9 ?NW9 ?_; (case FW9 => k_asm); (case NW9 => k_asm); k_whole; intro h'W9 a'W9 F'W9 N'W9 l1W9; (try k_lt l1W9); (try k_sweep)))))
  k_with "my truthy ref" => ((k_here; k_dflt (refine' dq_truthy ?NW9 ?mW9 ?xW9 ?_; (case NW9 => k_asm); (case mW9 => k_mem); (case xW9 => exact Nat.le_of_ble_eq_true rfl); k_whole; intro k'W9)))
  k_with "my getMethod ref" => ((k_here; k_dflt (first
    | (refine' dq_meth ?NW9 ?mW9 slot_dq_append dq_type_append ?_; (case NW9 => k_asm); (case mW9 => k_mem); k_whole)
    | (refine' dq_meth ?NW9 ?mW9 slot_dq_pop dq_type_pop ?_; (case NW9 => k_asm); (case mW9 => k_mem); k_whole))))
  k_with "my call builtin:collections.deque.append" => ((k_here; k_dflt ((refine' dq_append ?FW9 ?NW9 ?UW9 ?xW9 ?_; (case FW9 => k_asm); (case NW9 => k_asm); (case UW9 => k_upd); (case xW9 => exact Nat.le_of_ble_eq_true rfl); k_whole; intro h'W9 F'W9 N'W9; (try k_sweep)))))
  k_with "my call builtin:collections.deque.pop" => ((k_here; k_dflt ((refine' dq_pop (xs := []) ?FW9 ?NW9 ?UW9 ?xW9 ?_; (case FW9 => k_asm); (case NW9 => k_asm); (case UW9 => k_upd); (case xW9 => exact Nat.le_of_ble_eq_true rfl); k_whole; intro h'W9 F'W9 N'W9; (try k_sweep)))))
  k_with "my call ref" => ((k_here; (with_reducible show wpAny _ _ (call (Value.ref 623) [Value.str (Str.mk (List.toArray _)) _]) _ _ _); k_dflt ((refine' at_use (sio_ok _ _ _ ?lW9) ?hdW9 ?huW9 ?BW9 ?FW9 ?XW9 ?NW9 ?TW9 ?kkW9 _ _ ?_; (case lW9 => assumption); (case BW9 => k_asm); (case FW9 => k_asm); (case XW9 => k_asm); (case NW9 => k_asm); (case TW9 => k_asm); (case kkW9 => first | exact rfl | assumption); (case hdW9 => k_room); (case huW9 => k_units); k_whole; intro x'W9 d'W9 k1'W9 k2'W9 k3'W9 tb'W9 tp'W9 h'W9 tk'W9 F'W9 N'W9 l1W9 l2W9; (try k_lt l1W9); (try k_lt2 l2W9); (try k_sweep)))))
  k_with "my getMethod str" => ((k_here; (with_reducible show wpAny _ _ (getMethod (Value.str _ _) (Str.ofString "maketrans") _) _ _ _); k_dflt ((refine' gm_maketrans ?_; intro k'W9))))
  k_with "my getMethod type:dict" => ((k_here; (with_reducible show wpAny _ _ (getMethod _ (Str.ofString "fromkeys") _) _ _ _); k_dflt ((refine' fk_getm ?FW9 ?NW9 ?XW9 ?_; (case FW9 => k_asm); (case NW9 => k_asm); (case XW9 => k_asm); k_whole; intro x'W9 h'W9 F'W9 N'W9 l1W9; (try k_lt l1W9); (try k_sweep)))))
  k_with "my callWith ref" => ((k_here; k_dflt (refine' callWith_fk ?XW9 ?NW9 ?mW9 ?_; (case XW9 => k_asm); (case NW9 => k_asm); (case mW9 => k_mem); k_whole)))
  k_with "my And" => (((with_reducible show Heap.get? _ _ = some fkBound ∧ _); k_dflt ((refine' ⟨News.get ?NW9 ?mW9, ?_⟩; (case NW9 => k_asm); (case mW9 => k_mem)))))
  k_with "my call ref" => ((k_here; (with_reducible show wpAny _ _ (call (Value.ref _) [Value.str (Str.ofString ".") _]) _ _ _); k_dflt (refine' fk_K ?FW9 ?NW9 ?mW9 ?hhW9 ?bW9 ?_; (case FW9 => k_asm); (case NW9 => k_asm); (case mW9 => k_mem); (case hhW9 => exact rfl); (case bW9 => exact big_of (by assumption)); k_whole; intro d'W9 o'W9 h'W9 tk'W9 F'W9 N'W9 hi'W9 hS'W9 l1W9; (try k_lt l1W9); (try k_sweep))))
  k_with "my call builtin:str.maketrans" => ((k_here; k_dflt ((refine' tr_K ?FW9 ?NW9 ?mW9 ?iW9 ?SW9 ?bW9 ?_; (case FW9 => k_asm); (case NW9 => k_asm); (case mW9 => k_mem); (case iW9 => assumption); (case SW9 => assumption); (case bW9 => exact big_of (by assumption)); k_whole; intro d'W9 o'W9 h'W9 tk'W9 F'W9 N'W9 hi'W9 hS'W9 l1W9; (try k_lt l1W9); (try k_sweep)))))
  k_with "my call builtin:str.translate" => ((k_here; k_dflt ((refine' tl_K ?FW9 ?NW9 ?hhW9 ?mW9 ?iW9 ?SW9 ?_; (case FW9 => k_asm); (case NW9 => k_asm); (case hhW9 => exact rfl); (case mW9 => k_mem); (case iW9 => assumption); (case SW9 => assumption); k_whole; intro t'W9 h'W9 tk'W9 F'W9 N'W9; (try k_sweep)))))
  k_with "my getMethod str" => ((k_here; (with_reducible show wpAny _ _ (getMethod (Value.str _ _) (Str.ofString "translate") _) _ _ _); k_dflt ((refine' gm_translate ?_))))
  k_with "my WhlRest" => ((refine stop_of ?_))
  k_with "my call ref" => ((k_here; (with_reducible show wpAny _ _ (call (Value.ref 569) [Value.ref _, Value.int 1 _]) _ _ _); k_dflt ((first
    | (refine' read_K ?NW9 ?FW9 ?okW9 ?hbW9 ?hcW9 ?offW9 ?BW9 ?XW9 ?TW9 ?kkW9 ?hdW9 ?huW9 ?_; (case NW9 => k_asm); (case FW9 => k_asm); (case okW9 => constructor <;> assumption); (case hbW9 => assumption); (case hcW9 => assumption); (case offW9 => assumption); (case BW9 => k_asm); (case XW9 => k_asm); (case TW9 => k_asm); (case kkW9 => first | exact rfl | assumption); (case hdW9 => k_room); (case huW9 => k_units); k_whole; intro t'W9 tp'W9 h'W9 tk'W9 F'W9 N'W9; (try k_sweep))
    | (refine' read_KE ?NW9 ?FW9 ?okW9 ?hbW9 ?hcW9 ?offW9 ?BW9 ?XW9 ?TW9 ?kkW9 ?hdW9 ?huW9 ?_; (case NW9 => k_asm); (case FW9 => k_asm); (case okW9 => constructor <;> assumption); (case hbW9 => assumption); (case hcW9 => assumption); (case offW9 => assumption); (case BW9 => k_asm); (case XW9 => k_asm); (case TW9 => k_asm); (case kkW9 => first | exact rfl | assumption); (case hdW9 => k_room); (case huW9 => k_units); k_whole; intro t'W9 h'W9 tk'W9 F'W9 N'W9; (try k_sweep))))))
  k_with "my compareOp In str str" => ((k_here; first
    | (refine' in_is false ?eW9 ?_; (case eW9 => first | with_reducible assumption | decide +kernel))
    | (refine' in_is true ?eW9 ?_; (case eW9 => first | with_reducible assumption | decide +kernel))))
  k_with "my compareOp NotIn str str" => ((k_here; first
    | (refine' notin_is false ?eW9 ?_; (case eW9 => first | with_reducible assumption | decide +kernel))
    | (refine' notin_is true ?eW9 ?_; (case eW9 => first | with_reducible assumption | decide +kernel))))
  k_with "my compareOp Eq str str" => ((k_here; first
    | (refine' eq_is false ?eW9 ?_; (case eW9 => first | with_reducible assumption | decide +kernel))
    | (refine' eq_is true ?eW9 ?_; (case eW9 => first | with_reducible assumption | decide +kernel))))
  k_with "my exec If" => ((refine wpAny_If ?_))
  k_with "my truthy ref" => ((k_here; k_dflt (first
    | (refine' dq_false ?NW9 ?mW9 ?_; (case NW9 => k_asm); (case mW9 => k_mem); k_whole; intro k'W9)
    | (refine' dq_true ?NW9 ?mW9 ?_; (case NW9 => k_asm); (case mW9 => k_mem); k_whole; intro k'W9))))
  trivial

set_option maxHeartbeats 8000000 in
theorem rt_end (w : World) (ℓ : LexA) (ok : ℓ.Ok) (buf : List Nat) (c : LexC) (P : LexC → Bool → Prop) (C : ∀ te, Loops w ℓ buf c false (.str " " te) none P) (hP : ∀ c' q', P c' q' → c'.tok = Str.ofString "" ∧ q' = false) :
    LexCall w ℓ buf 726 470 4700 [.ref ℓ.x] c (fun r c2 => r = .none ∧ ∃ c' q', P c' q' ∧ ∃ tt, c2 = { c' with tok := Str.ofString "", tt := tt }) := by
  w_strict (
  unfold LexCall AtAny
  k_fill
  intro dp un p loose mean mg mb news gd cn cs a ccd cl outer A₀ base h₀ L m s hdp hun B F X N T hk rest off en Q E hret
  subst en
  refine wpAny_call ?_
  (k_dflt k_enter)
  k_steps
  show WhlRest _ _ _ _ _ _ _ _ _ _ _
  refine' loops_use (C _) ⟨_, _, _, _, _, _, _, _, _, _, _, _, _, _, _, by k_is⟩ (by omega) (by omega) (by k_asm) (by k_asm) (by k_asm) off (fr_congr (by k_asm) ?fr) (by k_asm) ?hE ?fin
  case hE => first | passes_own | with_unfolding_all passes_own
  case fr =>
    intro z
    by_cases h1 : z = Str.ofString "nextchar"
    · subst h1; rfl
    by_cases h2 : z = Str.ofString "escapedstate"
    · subst h2; rfl
    by_cases h3 : z = Str.ofString "quoted"
    · subst h3; rfl
    by_cases h4 : z = Str.ofString "self"
    · subst h4; rfl
    refine Eq.trans ?_ (lexFr_none h1 h2 h3 h4).symm
    refine (if_neg h2).trans ((if_neg h3).trans ?_)
    refine (congrArg (fun l => List.lookup z l) (?e : _ = [(Str.ofString "self", Value.ref ℓ.x)])).trans (lookup_one h4)
    kernel_rfl
  case fin =>
    intro c' q' esc' nc' h' tk' hp F' N'
    obtain ⟨e1, e2⟩ := hP _ _ hp
    subst e2
    have ok9 := ok
    obtain ⟨o1, o2, o3, o4, o5, o6⟩ := ok
    obtain ⟨sv, tok, tt, line, tl, pos, tp, pn, pushed⟩ := c'
    dsimp only at e1
    subst e1
    simp only [List.cons_append, List.nil_append] at N'
    k_steps
    all_goals exact hret _ ⟨sv, Str.ofString "", _, line, tl, pos, tp, pn, pushed⟩ _ _ (by k_asm) (by first | exact news_tail (by k_asm) | k_asm) ⟨rfl, _, _, hp, _, rfl⟩
  )
end OyMine
end
section
open PySem PySem.W PyProof.Rows PySem.Builtin PySem.Builtin.Re
set_option maxRecDepth 100000
set_option genInjectivity false
set_option genSizeOf false
set_option genSizeOfSpec false
namespace OyMine
theorem words_Tok3_0 : True := by
  w_top off
  k_with_none
  k_with "my omega" => (first
    | with_reducible assumption
    | with_reducible exact Nat.ne_of_lt (by assumption)
    | with_reducible exact Nat.ne_of_gt (by assumption)
    | decide
    | with_reducible exact Nat.le_refl _
    | with_reducible exact Nat.zero_le _
    | with_reducible exact Nat.le_add_right _ _
    | with_reducible exact Nat.le_add_left _ _
    | with_reducible exact Nat.lt_succ_self _
    | with_reducible exact Nat.le_succ _
    | with_reducible exact Nat.succ_pos _
    | with_reducible exact Nat.zero_add _
    | with_reducible exact q4
    | with_reducible exact q8
    | with_reducible exact Nat.le_of_lt (by assumption)
    | with_reducible exact Nat.le_of_succ_le (by assumption)
    | with_reducible exact Nat.le_of_succ_le_succ (by assumption)
    | with_reducible exact Nat.not_lt.mp (by assumption)
    | with_reducible exact Nat.lt_succ_of_le (by assumption)
    | with_reducible exact Nat.le_succ_of_le (by assumption)
    | with_reducible exact Nat.succ_le_of_lt (by assumption)
    | with_reducible exact q1 (by assumption)
    | with_reducible exact q2 (by assumption)
    | with_reducible exact q3 (by assumption)
    | with_reducible exact q5 (by assumption)
    | with_reducible exact q7 (by assumption)
    | with_reducible exact q6 (by assumption) (by assumption)
    | with_reducible exact absurd (by assumption) (Nat.not_lt.mpr (by assumption))
    | (with_reducible refine room_le (by assumption) ?_; with_unfolding_all rfl)
    | (with_reducible refine room_lt (by assumption) ?_; with_unfolding_all rfl)
    | (with_reducible refine room_le0 (by assumption) ?_; with_unfolding_all rfl)
    | ((fail_if_success (with_reducible show _ ≠ _)); (rename _ ∧ _ => cW9; clear cW9); (repeat (rename _ ∧ _ => cW9; clear cW9)); omega)
    | fail "no")
  k_with "my execs cons" => (k_here; refine wpAny_execs_cons ?_; k_fold)
  k_with "my getAttr ref" => (k_here; (with_reducible show wpAny _ _ (getAttr (Value.ref (LexA.x _)) _ _) _ _ _); k_dflt ((with_reducible first | refine' lex_get_instream ?FW9 ?XW9 ?NW9 ?hxW9 ?hdW9 ?_ | refine' lex_get_posix ?FW9 ?XW9 ?NW9 ?hxW9 ?hdW9 ?_ | refine' lex_get_eof ?FW9 ?XW9 ?NW9 ?hxW9 ?hdW9 ?_ | refine' lex_get_commenters ?FW9 ?XW9 ?NW9 ?hxW9 ?hdW9 ?_ | refine' lex_get_wordchars ?FW9 ?XW9 ?NW9 ?hxW9 ?hdW9 ?_ | refine' lex_get_whitespace ?FW9 ?XW9 ?NW9 ?hxW9 ?hdW9 ?_ | refine' lex_get_whitespace_split ?FW9 ?XW9 ?NW9 ?hxW9 ?hdW9 ?_ | refine' lex_get_quotes ?FW9 ?XW9 ?NW9 ?hxW9 ?hdW9 ?_ | refine' lex_get_escape ?FW9 ?XW9 ?NW9 ?hxW9 ?hdW9 ?_ | refine' lex_get_escapedquotes ?FW9 ?XW9 ?NW9 ?hxW9 ?hdW9 ?_ | refine' lex_get_state ?FW9 ?XW9 ?NW9 ?hxW9 ?hdW9 ?_ | refine' lex_get_pushback ?FW9 ?XW9 ?NW9 ?hxW9 ?hdW9 ?_ | refine' lex_get_lineno ?FW9 ?XW9 ?NW9 ?hxW9 ?hdW9 ?_ | refine' lex_get_debug ?FW9 ?XW9 ?NW9 ?hxW9 ?hdW9 ?_ | refine' lex_get_token ?FW9 ?XW9 ?NW9 ?hxW9 ?hdW9 ?_ | refine' lex_get_filestack ?FW9 ?XW9 ?NW9 ?hxW9 ?hdW9 ?_ | refine' lex_get_source ?FW9 ?XW9 ?NW9 ?hxW9 ?hdW9 ?_ | refine' lex_get_punct ?FW9 ?XW9 ?NW9 ?hxW9 ?hdW9 ?_ | refine' lex_get_pushback_chars ?FW9 ?XW9 ?NW9 ?hxW9 ?hdW9 ?_); (case FW9 => k_asm); (case XW9 => k_asm); (case NW9 => k_asm); (case hxW9 => k_mem); (case hdW9 => k_mem); k_whole))
  k_with "my setAttr ref" => (k_here; (with_reducible show wpAny _ _ (setAttr (Value.ref (LexA.x _)) _ _) _ _ _); k_dflt ((with_reducible first | refine' lex_set_state ?FW9 ?XW9 ?okW9 ?offW9 ?NW9 ?_ | refine' lex_set_token ?FW9 ?XW9 ?okW9 ?offW9 ?NW9 ?_ | refine' lex_set_lineno ?FW9 ?XW9 ?okW9 ?offW9 ?NW9 ?_); (case FW9 => k_asm); (case XW9 => k_asm); (case okW9 => assumption); (case offW9 => assumption); (case NW9 => k_asm); k_whole; intro hW9 FaW9 NaW9; (try k_sweep)))
  trivial
theorem words_Tok3_1 : True := by
  k_with "my k_room" => (first | exact Nat.le_of_ble_eq_true rfl | ((try simp only [duk, depth_under_make, depth_under_kw, depth_in1, depth_deeper, depth_caller, recursionLimit]); (try dsimp only [ktrTop]); (try simp only [recursionLimit]); omega))
  k_with "my ktr_room" => (k_room)
  k_with "my k_units" => (first | exact Nat.le_of_ble_eq_true rfl | ((have hcL9W9 := cLine_is); (try simp only [uuk, units_in1, units_deeper, Around.mark_units, units_caller]); (try dsimp only [ktrTop]); omega))
  k_with "my units_room" => (first | exact Nat.le_of_ble_eq_true rfl | ((have hcL9W9 := cLine_is); (try simp only [uuk, units_in1, units_deeper, Around.mark_units, units_caller]); (try dsimp only [ktrTop]); omega))
  k_with "my k_enter" => ((refine' code_def ?k1W9 ?k2W9 ?k3W9 ?k4W9 ?k5W9 ?kAW9 ?kFW9 ?kKW9 ?k6W9 ?k7W9 ?k8W9 ?k9W9 ?kBW9 ?_ ?c2W9 ?c3W9 ?c4W9 ?c5W9; (case kAW9 => exact rfl); (case kFW9 => exact rfl); (case kKW9 => first | exact rfl | assumption); (case k1W9 => k_asm); (case k2W9 => k_asm); (case k3W9 => k_asm); (case k4W9 => k_asm); (case k5W9 => k_asm); (case k6W9 => k_is); (case k7W9 => k_is); (case k8W9 => k_room); (case k9W9 => first | exact BindsTo.of_eq rfl | exact binds_K (by k_in) rfl (by k_is) rfl rfl rfl | fail "k_enter: no rule for these arguments"); (case c5W9 => decide); (case kBW9 => exact locs rfl); (case c2W9 => exact rfl); (case c3W9 => exact rfl); (case c4W9 => exact rfl); k_whole; intro g'W9 L'W9 h'W9 FG'W9 F'W9 N'W9 B'W9 X'W9 T'W9; (try dsimp only); (try k_lift B'W9); (try k_fold)))
  k_with "my getMethod ref" => ((k_here; (with_reducible show wpAny _ _ (getMethod (Value.ref _) (Str.ofString "sub") _) _ _ _); k_dflt (refine' meth_sub ?FW9 ?XW9 ?eW9 ?cW9 ?dW9 ?_; (case FW9 => k_asm); (case XW9 => k_asm); (case eW9 => k_is); (case cW9 => exact rfl); (case dW9 => exact rfl); k_whole)))
  k_with "my call builtin:re.Pattern.sub" => ((k_here; k_dflt (first
    | (refine' sub54_K ?FW9 ?XW9 ?NW9 ?xW9 ?_; (case FW9 => k_asm); (case XW9 => k_asm); (case NW9 => k_asm); (case xW9 => first | exact nl_fits (by assumption) | omega); k_whole; intro t'W9 h'W9 tk'W9 F'W9 N'W9; (try k_sweep))
    | (refine' sub49_K ?FW9 ?XW9 ?NW9 ?xW9 ?_; (case FW9 => k_asm); (case XW9 => k_asm); (case NW9 => k_asm); (case xW9 => first | exact nl_fits (by assumption) | omega); k_whole; intro t'W9 h'W9 tk'W9 F'W9 N'W9; (try k_sweep)))))
  k_with "my call ref" => ((k_here; (with_reducible show wpAny _ _ (call (Value.ref 763) [Value.str _ _]) _ _ _); k_dflt (refine' search_K ?FW9 ?XW9 ?NW9 ?xW9 ?jW9 ?uW9 ?_; (case FW9 => k_asm); (case XW9 => k_asm); (case NW9 => k_asm); (case xW9 => omega); (case jW9 => assumption); (case uW9 => assumption); k_whole; intro a'W9 h'W9 F'W9 N'W9; (try k_sweep))))
  k_with "my kt_len" => (with_reducible assumption)
  k_with "my truthy str" => ((k_here; (with_reducible show wpAny _ _ (PySem.truthy (Value.str _ _)) _ _ _); (refine' KXt.truthy_pos (K := 16777216) ?kxtaW9 ?kxtbW9 (Nat.le_refl _) ?_; (case kxtaW9 => with_reducible assumption); (case kxtbW9 => omega)); intro _))
  k_with "my callWith ref" => ((k_here; (with_reducible show wpAny _ _ (callWith _ (Value.ref 763) _ _ _) _ _ _); k_dflt (refine' callWith_763 ?k1W9 ?_; (case k1W9 => k_asm); k_whole)))
  k_with "my call builtin:str.replace" => ((k_here; (with_reducible show wpAny _ _ (call (Value.builtin "str.replace") [Value.str _ _, Value.str (Str.ofString "'") _, Value.str _ _]) _ _ _); k_dflt ((refine' replaceQ ?aW9 ?bW9 ?cW9 ?dW9 ?_; (case aW9 => k_ne); (case bW9 => k_ne); (case cW9 => k_ne); (case dW9 => first | with_reducible assumption | omega); k_whole; intro t'W9 k'W9 len'W9))))
  k_with "my k_memK" => (first | assumption | (refine need_app ?_; k_memK) | (refine need_cons ?_; k_memK))
  k_with "my subscriptTail" => ((k_here; (with_reducible show wpAny _ _ (subscriptTail _ _ (Value.ref (TreeAt.t _)) (Value.int (Nat.cast _) _)) _ _ _); k_dflt ((refine' tree_item ?NW9 ?TW9 ?kW9 ?_; (case NW9 => k_asm); (case TW9 => k_memK); (case kW9 => omega); k_whole; intro hm'W9))))
  k_with "my call ref" => ((k_here; (with_reducible show wpAny _ _ (call (Value.ref 770) [Value.str (TreeAt.lab _ _) _]) _ _ _); k_dflt ((refine' pure_use (qt_lab _ _ ?OW9 _ ?kW9 _) ?BW9 ?FW9 ?XW9 ?NW9 ?TW9 ?kkW9 ?hdW9 ?huW9 ?_; (case OW9 => assumption); (case kW9 => omega); (case BW9 => k_asm); (case FW9 => k_asm); (case XW9 => k_asm); (case NW9 => k_asm); (case TW9 => k_asm); (case kkW9 => first | exact rfl | assumption); (case hdW9 => k_room); (case huW9 => k_units); k_whole; intro r'W9 h'W9 tk'W9 F'W9 N'W9 ht'W9; obtain ⟨t'W9, e'W9⟩ := ht'W9; subst e'W9; (try k_sweep)))))
  k_with "my call ref" => ((k_here; (with_reducible show wpAny _ _ (call (Value.ref 61) [Value.str (Str.mk (List.toArray _)) _]) _ _ _); k_dflt ((refine' pure_use (qd_mk _ _ _ ?xW9) ?BW9 ?FW9 ?XW9 ?NW9 ?TW9 ?kkW9 ?hdW9 ?huW9 ?_; (case xW9 => first | omega | exact size_out (by assumption) (by omega)); (case BW9 => k_asm); (case FW9 => k_asm); (case XW9 => k_asm); (case NW9 => k_asm); (case TW9 => k_asm); (case kkW9 => first | exact rfl | assumption); (case hdW9 => k_room); (case huW9 => k_units); k_whole; intro r'W9 h'W9 tk'W9 F'W9 N'W9 ht'W9; obtain ⟨t'W9, e'W9⟩ := ht'W9; subst e'W9; (try k_sweep)))))
  k_with "my kt_len" => (first | exact len_out (by assumption) (by omega) | exact len_quoted (by assumption) (by omega) | exact TreeAt.Ok.eol (by assumption) _ (by omega) | exact TreeAt.part_len (by assumption) (by omega) (by omega) | ((with_reducible refine' len_qd ?qqW9); (case qqW9 => kt_len)))
  k_with "my call builtin:len" => ((k_here; (with_reducible show wpAny _ _ (call (Value.builtin "len") [Value.ref (TreeAt.t _)]) _ _ _); k_dflt ((refine' tree_len ?NW9 ?TW9 ?_; (case NW9 => k_asm); (case TW9 => k_memK); k_whole; intro t'W9 k'W9))))
  k_with "my call ref" => ((k_here; (with_reducible show wpAny _ _ (call (Value.ref 782) [Value.ref _, Value.int (Nat.cast _) _]) _ _ _); (with_reducible rename ∀ k, _ < k → k < 5 → Outline _ _ k => ihOW9); k_dflt ((refine' reads_use (ihOW9 _ ?aW9 ?bW9 _) ?BW9 ?FW9 ?XW9 ?NW9 ?TW9 ?kkW9 ?hdW9 ?huW9 ?hnW9 ?_; (case aW9 => omega); (case bW9 => omega); (case BW9 => k_asm); (case FW9 => k_asm); (case XW9 => k_asm); (case NW9 => k_asm); (case TW9 => k_asm); (case kkW9 => first | exact rfl | assumption); (case hdW9 => k_room); (case huW9 => k_units); (case hnW9 => k_memK); k_whole; intro r'W9 h'W9 tk'W9 F'W9 N'W9 ht'W9; obtain ⟨t'W9, e'W9⟩ := ht'W9; subst e'W9; (try k_sweep)))))
  k_with "my inplaceOp Add str str" => ((k_here; (with_reducible show wpAny _ _ (inplaceOp Operator.Add (Value.str _ _) (Value.str _ _)) _ _ _); (refine' iaddK ?kxaaW9 ?kxabW9 ?kxacW9 ?_; (case kxaaW9 => kt_len); (case kxabW9 => kt_len); (case kxacW9 => exact Nat.le_of_ble_eq_true rfl)); intro _ _ _))
  k_with "my k_enter" => ((kp_kind "both"; (fail_if_success k_inElt); (refine' kp_both ?k1W9 ?k2W9 ?k3W9 ?k4W9 ?k5W9 ?kAW9 ?kFW9 ?kKW9 ?k6W9 ?k7W9 ?k8W9 ?kVW9 ?kXW9 ?kQW9 ?kMW9 ?kNW9 ?kDW9 ?kRW9 ?kPW9 ?kSW9 ?kTW9 ?kBW9 ?_ ?c2W9 ?c3W9 ?c4W9 ?c5W9; (case kAW9 => exact rfl); (case kFW9 => exact rfl); (case kKW9 => first | exact rfl | assumption); (case k1W9 => k_asm); (case k2W9 => k_asm); (case k3W9 => k_asm); (case k4W9 => k_asm); (case k5W9 => k_asm); (case k6W9 => k_is); (case k7W9 => k_is); (case k8W9 => k_room); (case kVW9 => kp_lit); (case kXW9 => kp_lit); (case kQW9 => exact rfl); (case kMW9 => exact rfl); (case kNW9 => exact rfl); (case kDW9 => kp_flats); (case kRW9 => exact rfl); (case kPW9 => exact rfl); (case kSW9 => exact fun _ => rfl); (case kTW9 => exact fun _ _ => rfl); (case kBW9 => exact fun _ _ => locs rfl); (case c5W9 => decide); (case c2W9 => exact rfl); (case c3W9 => exact rfl); (case c4W9 => exact rfl); k_whole; intro C'W9 D'W9 o'W9 g'W9 L'W9 h'W9 tk'W9 l1W9 l2W9 lo'W9 hs'W9 fs'W9 FG'W9 F'W9 N'W9 B'W9 X'W9 T'W9; (try k_lt l1W9); (try k_lt2 l2W9); (try dsimp only); (try k_lift B'W9); (try k_fold))))
  k_with "my call builtin:object.__new__" => ((k_here; k_dflt ((refine' new623_K ?FW9 ?XW9 ?NW9 ?_; (case FW9 => k_asm); (case XW9 => k_asm); (case NW9 => k_asm); k_whole; intro x'W9 d'W9 h'W9 F'W9 N'W9 l1W9 l2W9; (try k_lt l1W9); (try k_lt2 l2W9); (try k_sweep)))))
  k_with "my k_all" => (first | exact allNe (by assumption) | exact allNe' (by assumption) | exact allNeT (by assumption) (by first | assumption | omega))
  k_with "my call type:collections.deque" => ((k_here; k_dflt ((refine' dq_make ?FW9 ?NW9 ?_; (case FW9 => k_asm); (case NW9 => k_asm); k_whole; intro h'W9 a'W9 F'W9 N'W9 l1W9; (try k_lt l1W9); (try k_sweep)))))
  k_with "my truthy ref" => ((k_here; k_dflt (refine' dq_truthy ?NW9 ?mW9 ?xW9 ?_; (case NW9 => k_asm); (case mW9 => k_mem); (case xW9 => exact Nat.le_of_ble_eq_true rfl); k_whole; intro k'W9)))
  k_with "my getMethod ref" => ((k_here; k_dflt (first
    | (refine' dq_meth ?NW9 ?mW9 slot_dq_append dq_type_append ?_; (case NW9 => k_asm); (case mW9 => k_mem); k_whole)
    | (refine' dq_meth ?NW9 ?mW9 slot_dq_pop dq_type_pop ?_; (case NW9 => k_asm); (case mW9 => k_mem); k_whole))))
  k_with "my call builtin:collections.deque.append" => ((k_here; k_dflt ((refine' dq_append ?FW9 ?NW9 ?UW9 ?xW9 ?_; (case FW9 => k_asm); (case NW9 => k_asm); (case UW9 => k_upd); (case xW9 => exact Nat.le_of_ble_eq_true rfl); k_whole; intro h'W9 F'W9 N'W9; (try k_sweep)))))
  k_with "my call builtin:collections.deque.pop" => ((k_here; k_dflt ((refine' dq_pop (xs := []) ?FW9 ?NW9 ?UW9 ?xW9 ?_; (case FW9 => k_asm); (case NW9 => k_asm); (case UW9 => k_upd); (case xW9 => exact Nat.le_of_ble_eq_true rfl); k_whole; intro h'W9 F'W9 N'W9; (try k_sweep)))))
  k_with "my call ref" => ((k_here; (with_reducible show wpAny _ _ (call (Value.ref 623) [Value.str (Str.mk (List.toArray _)) _]) _ _ _); k_dflt ((refine' at_use (sio_ok _ _ _ ?lW9) ?hdW9 ?huW9 ?BW9 ?FW9 ?XW9 ?NW9 ?TW9 ?kkW9 _ _ ?_; (case lW9 => assumption); (case BW9 => k_asm); (case FW9 => k_asm); (case XW9 => k_asm); (case NW9 => k_asm); (case TW9 => k_asm); (case kkW9 => first | exact rfl | assumption); (case hdW9 => k_room); (case huW9 => k_units); k_whole; intro x'W9 d'W9 k1'W9 k2'W9 k3'W9 tb'W9 tp'W9 h'W9 tk'W9 F'W9 N'W9 l1W9 l2W9; (try k_lt l1W9); (try k_lt2 l2W9); (try k_sweep)))))
  k_with "my getMethod str" => ((k_here; (with_reducible show wpAny _ _ (getMethod (Value.str _ _) (Str.ofString "maketrans") _) _ _ _); k_dflt ((refine' gm_maketrans ?_; intro k'W9))))
  k_with "my getMethod type:dict" => ((k_here; (with_reducible show wpAny _ _ (getMethod _ (Str.ofString "fromkeys") _) _ _ _); k_dflt ((refine' fk_getm ?FW9 ?NW9 ?XW9 ?_; (case FW9 => k_asm); (case NW9 => k_asm); (case XW9 => k_asm); k_whole; intro x'W9 h'W9 F'W9 N'W9 l1W9; (try k_lt l1W9); (try k_sweep)))))
  k_with "my callWith ref" => ((k_here; k_dflt (refine' callWith_fk ?XW9 ?NW9 ?mW9 ?_; (case XW9 => k_asm); (case NW9 => k_asm); (case mW9 => k_mem); k_whole)))
  k_with "my And" => (((with_reducible show Heap.get? _ _ = some fkBound ∧ _); k_dflt ((refine' ⟨News.get ?NW9 ?mW9, ?_⟩; (case NW9 => k_asm); (case mW9 => k_mem)))))
  k_with "my call ref" => ((k_here; (with_reducible show wpAny _ _ (call (Value.ref _) [Value.str (Str.ofString ".") _]) _ _ _); k_dflt (refine' fk_K ?FW9 ?NW9 ?mW9 ?hhW9 ?bW9 ?_; (case FW9 => k_asm); (case NW9 => k_asm); (case mW9 => k_mem); (case hhW9 => exact rfl); (case bW9 => exact big_of (by assumption)); k_whole; intro d'W9 o'W9 h'W9 tk'W9 F'W9 N'W9 hi'W9 hS'W9 l1W9; (try k_lt l1W9); (try k_sweep))))
  k_with "my call builtin:str.maketrans" => ((k_here; k_dflt ((refine' tr_K ?FW9 ?NW9 ?mW9 ?iW9 ?SW9 ?bW9 ?_; (case FW9 => k_asm); (case NW9 => k_asm); (case mW9 => k_mem); (case iW9 => assumption); (case SW9 => assumption); (case bW9 => exact big_of (by assumption)); k_whole; intro d'W9 o'W9 h'W9 tk'W9 F'W9 N'W9 hi'W9 hS'W9 l1W9; (try k_lt l1W9); (try k_sweep)))))
  k_with "my call builtin:str.translate" => ((k_here; k_dflt ((refine' tl_K ?FW9 ?NW9 ?hhW9 ?mW9 ?iW9 ?SW9 ?_; (case FW9 => k_asm); (case NW9 => k_asm); (case hhW9 => exact rfl); (case mW9 => k_mem); (case iW9 => assumption); (case SW9 => assumption); k_whole; intro t'W9 h'W9 tk'W9 F'W9 N'W9; (try k_sweep)))))
  k_with "my getMethod str" => ((k_here; (with_reducible show wpAny _ _ (getMethod (Value.str _ _) (Str.ofString "translate") _) _ _ _); k_dflt ((refine' gm_translate ?_))))
  k_with "my call ref" => ((k_here; (with_reducible show wpAny _ _ (call (Value.ref 569) [Value.ref _, Value.int 1 _]) _ _ _); k_dflt ((first
    | (refine' read_K ?NW9 ?FW9 ?okW9 ?hbW9 ?hcW9 ?offW9 ?BW9 ?XW9 ?TW9 ?kkW9 ?hdW9 ?huW9 ?_; (case NW9 => k_asm); (case FW9 => k_asm); (case okW9 => constructor <;> assumption); (case hbW9 => assumption); (case hcW9 => assumption); (case offW9 => assumption); (case BW9 => k_asm); (case XW9 => k_asm); (case TW9 => k_asm); (case kkW9 => first | exact rfl | assumption); (case hdW9 => k_room); (case huW9 => k_units); k_whole; intro t'W9 tp'W9 h'W9 tk'W9 F'W9 N'W9; (try k_sweep))
    | (refine' read_KE ?NW9 ?FW9 ?okW9 ?hbW9 ?hcW9 ?offW9 ?BW9 ?XW9 ?TW9 ?kkW9 ?hdW9 ?huW9 ?_; (case NW9 => k_asm); (case FW9 => k_asm); (case okW9 => constructor <;> assumption); (case hbW9 => assumption); (case hcW9 => assumption); (case offW9 => assumption); (case BW9 => k_asm); (case XW9 => k_asm); (case TW9 => k_asm); (case kkW9 => first | exact rfl | assumption); (case hdW9 => k_room); (case huW9 => k_units); k_whole; intro t'W9 h'W9 tk'W9 F'W9 N'W9; (try k_sweep))))))
  k_with "my compareOp In str str" => ((k_here; first
    | (refine' in_is false ?eW9 ?_; (case eW9 => first | with_reducible assumption | decide +kernel))
    | (refine' in_is true ?eW9 ?_; (case eW9 => first | with_reducible assumption | decide +kernel))))
  k_with "my compareOp NotIn str str" => ((k_here; first
    | (refine' notin_is false ?eW9 ?_; (case eW9 => first | with_reducible assumption | decide +kernel))
    | (refine' notin_is true ?eW9 ?_; (case eW9 => first | with_reducible assumption | decide +kernel))))
  k_with "my compareOp Eq str str" => ((k_here; first
    | (refine' eq_is false ?eW9 ?_; (case eW9 => first | with_reducible assumption | decide +kernel))
    | (refine' eq_is true ?eW9 ?_; (case eW9 => first | with_reducible assumption | decide +kernel))))
  k_with "my exec If" => ((refine wpAny_If ?_))
  k_with "my truthy ref" => ((k_here; k_dflt (first
    | (refine' dq_false ?NW9 ?mW9 ?_; (case NW9 => k_asm); (case mW9 => k_mem); k_whole; intro k'W9)
    | (refine' dq_true ?NW9 ?mW9 ?_; (case NW9 => k_asm); (case mW9 => k_mem); k_whole; intro k'W9))))
  trivial

noncomputable def WordR (R : Value → LexC → Prop) (x : Str) : Prop := ∀ r c', R r c' → ∃ t, r = .str x t
theorem wordR_of {R : Value → LexC → Prop} {x : Str} {r : Value} {c' : LexC} (h : WordR R x) (k : R r c') : ∃ t, r = .str x t := h r c' k
noncomputable def NoneR (R : Value → LexC → Prop) : Prop := ∀ r c', R r c' → r = .none
theorem noneR_of {R : Value → LexC → Prop} {r : Value} {c' : LexC} (h : NoneR R) (k : R r c') : r = .none := h r c' k
theorem call_nil {M : Model} {A : Around} {f : Value} {xs : List Value} {Q E : Value → Shared → Prop} {s : Shared} (h : wpAny M A (call f xs) Q E s) : wpAny M A (call f (xs ++ [])) Q E s := by rw [List.append_nil]; exact h
theorem words_Tok3_2 : True := by
  k_with "my call ref" => ((k_here; (try with_reducible refine call_nil ?_); (try dsimp only); (with_reducible show wpAny _ _ (call (Value.ref 726) [Value.ref _]) _ _ _); (rename LexCall _ _ _ 726 _ _ _ _ _ => hC9W9); k_dflt ((refine' at_use hC9W9 ?hdW9 ?huW9 ?BW9 ?FW9 ?XW9 ?NW9 ?TW9 ?kkW9 _ (by assumption) rfl _ _ ?_; (case BW9 => k_asm); (case FW9 => k_asm); (case XW9 => k_asm); (case NW9 => k_asm); (case TW9 => k_asm); (case kkW9 => first | exact rfl | assumption); (case hdW9 => k_room); (case huW9 => k_units); k_whole; intro r'W9 c'W9 h'W9 tk'W9 F'W9 N'W9 hR'W9; obtain ⟨sv'W9, tok'W9, tt'W9, line'W9, tl'W9, pos'W9, tp'W9, pn'W9, pushed'W9⟩ := c'W9; (first | (obtain ⟨t'W9, hv9W9⟩ := wordR_of (by assumption) hR'W9; subst hv9W9) | (have hv9W9 := noneR_of (by assumption) hR'W9; subst hv9W9)); simp only [List.cons_append, List.nil_append] at N'W9; (try k_sweep)))))
  trivial

set_option maxHeartbeats 8000000 in
theorem gt_word (w : World) (ℓ : LexA) (ok : ℓ.Ok) (buf : List Nat) (c : LexC) (x : Str) (R : Value → LexC → Prop) (C : LexCall w ℓ buf 726 470 4700 [.ref ℓ.x] c R) (hR9 : WordR R x) :
    LexCall w ℓ buf 719 460 4600 [.ref ℓ.x] c R := by
  w_strict (
  unfold LexCall AtAny
  k_fill
  intro dp un p loose mean mg mb news gd cn cs a ccd cl outer A₀ base h₀ L m s hdp hun B F X N T hk rest off en Q E hret
  subst en
  have ok9 := ok
  obtain ⟨o1, o2, o3, o4, o5, o6⟩ := ok
  obtain ⟨sv, tok, tt, line, tl, pos, tp, pn, pushed⟩ := c
  simp only [List.cons_append, List.nil_append] at N
  refine wpAny_call ?_
  (k_dflt k_enter)
  k_steps

  all_goals exact hret _ ⟨_, _, _, _, _, _, _, _, _⟩ _ _ (by k_asm) (by first | exact news_tail (by k_asm) | k_asm) (by assumption)
  )
set_option maxHeartbeats 8000000 in
theorem gt_end (w : World) (ℓ : LexA) (ok : ℓ.Ok) (buf : List Nat) (c : LexC) (R : Value → LexC → Prop) (C : LexCall w ℓ buf 726 470 4700 [.ref ℓ.x] c R) (hR9 : NoneR R) :
    LexCall w ℓ buf 719 460 4600 [.ref ℓ.x] c R := by
  w_strict (
  unfold LexCall AtAny
  k_fill
  intro dp un p loose mean mg mb news gd cn cs a ccd cl outer A₀ base h₀ L m s hdp hun B F X N T hk rest off en Q E hret
  subst en
  have ok9 := ok
  obtain ⟨o1, o2, o3, o4, o5, o6⟩ := ok
  obtain ⟨sv, tok, tt, line, tl, pos, tp, pn, pushed⟩ := c
  simp only [List.cons_append, List.nil_append] at N
  refine wpAny_call ?_
  (k_dflt k_enter)
  k_steps
  all_goals exact hret _ ⟨_, _, _, _, _, _, _, _, _⟩ _ _ (by k_asm) (by first | exact news_tail (by k_asm) | k_asm) (by assumption)
  )
end OyMine
end
section
open PySem PySem.W PyProof.Rows
set_option maxRecDepth 100000
set_option genInjectivity false
set_option genSizeOf false
set_option genSizeOfSpec false
namespace OyMine
theorem nl_other {c : Nat} (h1 : c ≠ 13) (h2 : c ≠ 10) (r : List Nat) : nl (c :: r) = c :: nl r := by
  conv => lhs; rw [nl.eq_def]
  simp only [h1, h2, if_false]
/-- how nl goes: an induction -/
theorem nl_ind {P : List Nat → Prop} (h0 : P []) (h1 : ∀ r, P r → P (13 :: 10 :: r)) (h2 : ∀ r, P r → (∀ r', r ≠ 10 :: r') → P (13 :: r)) (h3 : ∀ r, P r → P (10 :: r)) (h4 : ∀ c r, c ≠ 13 → c ≠ 10 → P r → P (c :: r)) : ∀ l, P l := by
  intro l
  induction hn : l.length using Nat.strongRecOn generalizing l with
  | _ n ih =>
    subst hn
    cases l with
    | nil => exact h0
    | cons c r =>
      by_cases e13 : c = 13
      · subst e13
        by_cases q : ∃ r', r = 10 :: r'
        · obtain ⟨r', rfl⟩ := q
          exact h1 _ (ih r'.length (by simp only [List.length_cons]; omega) r' rfl)
        · exact h2 _ (ih r.length (by simp only [List.length_cons]; omega) r rfl) fun r' e => q ⟨r', e⟩
      · by_cases e10 : c = 10
        · subst e10
          exact h3 _ (ih r.length (by simp only [List.length_cons]; omega) r rfl)
        · exact h4 _ _ e13 e10 (ih r.length (by simp only [List.length_cons]; omega) r rfl)
theorem nl_app {y : List Nat} {c : Nat} (hc : c ≠ 10) (hc2 : c ≠ 13) : ∀ a : List Nat, nl (a ++ c :: y) = nl a ++ c :: nl y := by
  refine nl_ind ?_ ?_ ?_ ?_ ?_
  · exact nl_other hc2 hc y
  · intro r ih
    rw [List.cons_append, List.cons_append, nl_13_10, nl_13_10, ih]; rfl
  · intro r ih hr
    rw [List.cons_append, nl_13 hr, nl_13, ih]; · rfl
    intro r'
    cases r with
    | nil => intro e; exact hc (List.cons.inj e).1
    | cons u v => intro e; exact hr v (by rw [show u = 10 from (List.cons.inj e).1])
  · intro r ih
    rw [List.cons_append, nl_10, nl_10, ih]; rfl
  · intro c' r h1 h2 ih
    rw [List.cons_append, nl_other h1 h2, nl_other h1 h2, ih]; rfl
/-- k dots ahead of a dot where a row begins with one -/
noncomputable def ins (k : Nat) : Bool → List Nat → List Nat
  | _, [] => []
  | b, c :: r => if b = true ∧ c = 46 then List.replicate k 46 ++ 46 :: ins k false r else c :: ins k (c == 10) r
theorem ins_dot (k : Nat) (r : List Nat) : ins k true (46 :: r) = List.replicate k 46 ++ 46 :: ins k false r := by rw [ins, if_pos ⟨rfl, rfl⟩]
theorem ins_other {k : Nat} {b : Bool} {c : Nat} (h : ¬ (b = true ∧ c = 46)) (r : List Nat) : ins k b (c :: r) = c :: ins k (c == 10) r := by rw [ins, if_neg h]
theorem stuff_dot (r : List Nat) : stuff true (46 :: r) = 46 :: 46 :: stuff false r := by rw [stuff, if_pos ⟨rfl, rfl⟩]
theorem stuff_other {b : Bool} {c : Nat} (h : ¬ (b = true ∧ c = 46)) (r : List Nat) : stuff b (c :: r) = c :: stuff (c == 10) r := by rw [stuff, if_neg h]
theorem stuff_ins1 : ∀ (b : Bool) (l : List Nat), stuff b l = ins 1 b l
  | _, [] => by rw [stuff, ins]
  | b, c :: r => by
    by_cases h : b = true ∧ c = 46
    · obtain ⟨rfl, rfl⟩ := h
      rw [stuff_dot, ins_dot, stuff_ins1 false r]; rfl
    · rw [stuff_other h, ins_other h, stuff_ins1 _ r]
theorem stuff_dots : ∀ (k : Nat) (r : List Nat), stuff false (List.replicate k 46 ++ r) = List.replicate k 46 ++ stuff false r
  | 0, _ => rfl
  | k + 1, r => by
    rw [List.replicate_succ, List.cons_append, stuff_other (by simp), List.cons_append]
    exact congrArg _ (stuff_dots k r)
theorem rep_cons (r : List Nat) : ∀ k : Nat, List.replicate k 46 ++ 46 :: r = 46 :: (List.replicate k 46 ++ r)
  | 0 => rfl
  | k + 1 => by rw [List.replicate_succ, List.cons_append, rep_cons r k]; rfl
theorem stuff_ins (k : Nat) : ∀ (b : Bool) (l : List Nat), stuff b (ins k b l) = ins (k + 1) b l
  | _, [] => by rw [ins, ins, stuff]
  | b, c :: r => by
    by_cases h : b = true ∧ c = 46
    · obtain ⟨rfl, rfl⟩ := h
      rw [ins_dot, ins_dot, rep_cons, stuff_dot, stuff_dots, stuff_ins k false r, rep_cons, List.replicate_succ]
      rfl
    · rw [ins_other h, stuff_other h, ins_other h, stuff_ins k _ r]
theorem nl_dots (r : List Nat) : ∀ k : Nat, nl (List.replicate k 46 ++ r) = List.replicate k 46 ++ nl r
  | 0 => rfl
  | k + 1 => by
    rw [List.replicate_succ, List.cons_append, nl_other (by decide) (by decide), nl_dots r k]; rfl
theorem nl_ins (k : Nat) : ∀ (l : List Nat) (b : Bool), nl (ins k b (nl l)) = ins k b (nl l) := by
  have n13 : ∀ b : Bool, ¬ (b = true ∧ 13 = 46) := by simp
  have n10 : ∀ b : Bool, ¬ (b = true ∧ 10 = 46) := by simp
  have two : ∀ (b : Bool) (r : List Nat), ins k b (13 :: 10 :: r) = 13 :: 10 :: ins k true r := by
    intro b r
    rw [ins_other (n13 b), ins_other (n10 _)]
    rfl
  refine nl_ind ?_ ?_ ?_ ?_ ?_
  · intro b; rfl
  · intro r ih b
    rw [nl_13_10, two, nl_13_10, ih]
  · intro r ih hr b
    rw [nl_13 hr, two, nl_13_10, ih]
  · intro r ih b
    rw [nl_10, two, nl_13_10, ih]
  · intro c r h1 h2 ih b
    rw [nl_other h1 h2]
    by_cases h : b = true ∧ c = 46
    · obtain ⟨rfl, rfl⟩ := h
      rw [ins_dot, nl_dots, nl_other (by decide) (by decide), ih]
    · rw [ins_other h, nl_other h1 h2, ih]
theorem esc_cons_other {c : Nat} (h : c ≠ 39) (r : List Nat) : esc (c :: r) = c :: esc r := by rw [esc, if_neg h]
theorem esc_39 (r : List Nat) : esc (39 :: r) = 39 :: 34 :: 39 :: 34 :: 39 :: esc r := by rw [esc, if_pos rfl]
theorem esc_10 {r r' : List Nat} (h : esc r = 10 :: r') : ∃ r'', r = 10 :: r'' := by
  cases r with
  | nil => cases h
  | cons u v =>
    by_cases e : u = 39
    · subst e
      rw [esc_39] at h
      cases h
    · rw [esc_cons_other e] at h
      exact ⟨v, by rw [(List.cons.inj h).1]⟩
theorem nl_esc : ∀ l : List Nat, nl (esc l) = esc (nl l) := by
  refine nl_ind ?_ ?_ ?_ ?_ ?_
  · rfl
  · intro r ih
    rw [esc_cons_other (by decide), esc_cons_other (by decide), nl_13_10, nl_13_10, esc_cons_other (by decide), esc_cons_other (by decide), ih]
  · intro r ih hr
    rw [esc_cons_other (by decide), nl_13 hr, nl_13 (fun r' e => (esc_10 e).elim fun r'' e' => hr r'' e'), esc_cons_other (by decide), esc_cons_other (by decide), ih]
  · intro r ih
    rw [esc_cons_other (by decide), nl_10, nl_10, esc_cons_other (by decide), esc_cons_other (by decide), ih]
  · intro c r h1 h2 ih
    rw [nl_other h1 h2]
    by_cases e : c = 39
    · subst e
      rw [esc_39, esc_39, nl_other (by decide) (by decide), nl_other (by decide) (by decide), nl_other (by decide) (by decide), nl_other (by decide) (by decide), nl_other (by decide) (by decide), ih]
    · rw [esc_cons_other e, esc_cons_other e, nl_other h1 h2, ih]
theorem stuff_esc : ∀ (b : Bool) (l : List Nat), stuff b (esc l) = esc (stuff b l)
  | _, [] => by rw [esc, stuff, esc]
  | b, c :: r => by
    by_cases e : c = 39
    · subst e
      have h : ∀ b : Bool, ¬ (b = true ∧ 39 = 46) := by simp
      have h' : ∀ b : Bool, ¬ (b = true ∧ 34 = 46) := by simp
      rw [esc_39, stuff_other (h b), stuff_other (h' _), stuff_other (h _), stuff_other (h' _), stuff_other (h _), stuff_other (h b), esc_39, stuff_esc _ r]
    · by_cases h : b = true ∧ c = 46
      · obtain ⟨rfl, rfl⟩ := h
        rw [esc_cons_other e, stuff_dot, stuff_dot, esc_cons_other e, esc_cons_other e, stuff_esc _ r]
      · rw [esc_cons_other e, stuff_other h, stuff_other h, esc_cons_other e, stuff_esc _ r]
/-- whether a row begins behind the text -/
noncomputable def endB : Bool → List Nat → Bool
  | b, [] => b
  | _, c :: r => endB (c == 10) r
theorem stuff_app : ∀ (b : Bool) (u v : List Nat), stuff b (u ++ v) = stuff b u ++ stuff (endB b u) v
  | _, [], _ => by rw [endB, stuff]; rfl
  | b, c :: r, v => by
    by_cases h : b = true ∧ c = 46
    · obtain ⟨rfl, rfl⟩ := h
      rw [List.cons_append, stuff_dot, stuff_dot, stuff_app _ r v]; rfl
    · rw [List.cons_append, stuff_other h, stuff_other h, stuff_app _ r v]; rfl
theorem endB_stuff : ∀ (b : Bool) (u : List Nat), endB b (stuff b u) = endB b u
  | _, [] => by rw [stuff]
  | b, c :: r => by
    by_cases h : b = true ∧ c = 46
    · obtain ⟨rfl, rfl⟩ := h
      rw [stuff_dot]
      exact endB_stuff false r
    · rw [stuff_other h]
      exact endB_stuff (c == 10) r
theorem endB_app : ∀ (b : Bool) (u v : List Nat), endB b (u ++ v) = endB (endB b u) v
  | _, [], _ => rfl
  | _, c :: r, v => endB_app (c == 10) r v
theorem endB_nl_nl : ∀ (l : List Nat) (b : Bool), endB b (nl l) = true → endB b (nl (nl l)) = true := by
  refine nl_ind ?_ ?_ ?_ ?_ ?_
  · exact fun b h => h
  · intro r ih b h
    rw [nl_13_10] at h ⊢
    rw [nl_13_10]
    exact ih _ h
  · intro r ih hr b h
    rw [nl_13 hr] at h ⊢
    rw [nl_13_10]
    exact ih _ h
  · intro r ih b h
    rw [nl_10] at h ⊢
    rw [nl_13_10]
    exact ih _ h
  · intro c r h1 h2 ih b h
    rw [nl_other h1 h2] at h ⊢
    rw [nl_other h1 h2]
    exact ih _ h
theorem qd_eq (l : List Nat) : qd l = ins 1 true (nl l) := stuff_ins1 _ _
theorem nl_qd (l : List Nat) : nl (qd l) = qd l := by rw [qd_eq, nl_ins]
/-- a text that ends a row -/
noncomputable def Ends (l : List Nat) : Prop := endB true (nl l) = true
theorem ends_qd {l : List Nat} (h : Ends l) : Ends (qd l) := by
  unfold Ends
  rw [nl_qd, qd, endB_stuff]
  exact h
theorem qd_app {a : List Nat} (h : Ends a) (y : List Nat) : qd (a ++ 46 :: y) = qd a ++ qd (46 :: y) := by
  unfold qd
  rw [nl_app (by decide) (by decide), stuff_app, h, nl_other (by decide) (by decide)]
noncomputable def qdN : Nat → List Nat → List Nat
  | 0, l => l
  | n + 1, l => qdN n (qd l)
theorem qdN_succ : ∀ (n : Nat) (l : List Nat), qdN (n + 1) l = qd (qdN n l)
  | 0, _ => rfl
  | n + 1, l => by
    show qdN (n + 1) (qd l) = _
    rw [qdN_succ n (qd l)]
    rfl
theorem qd_dots (z : List Nat) (k : Nat) : qd (46 :: (List.replicate k 46 ++ 39 :: z)) = 46 :: 46 :: (List.replicate k 46 ++ qd (39 :: z)) := by
  unfold qd
  rw [nl_other (by decide) (by decide), nl_dots, nl_other (by decide) (by decide), stuff_dot, stuff_dots, stuff_other (by simp), stuff_other (by simp)]
theorem qd_39 (z : List Nat) : ∃ z', qd (39 :: z) = 39 :: z' := ⟨_, by unfold qd; rw [nl_other (by decide) (by decide), stuff_other (by simp)]⟩
theorem qdN_dots : ∀ (n k : Nat) (z : List Nat), (∃ z', z = 39 :: z') → qdN n (46 :: (List.replicate k 46 ++ z)) = List.replicate (n + k + 1) 46 ++ qdN n z
  | 0, k, z, _ => by rw [show 0 + k + 1 = k + 1 by omega, List.replicate_succ]; rfl
  | n + 1, k, z, h => by
    obtain ⟨z', rfl⟩ := h
    show qdN n (qd _) = _ ++ qdN n (qd _)
    rw [qd_dots]
    have := qdN_dots n (k + 1) (qd (39 :: z')) (qd_39 z')
    rw [List.replicate_succ, List.cons_append] at this
    rw [this, show n + 1 + k + 1 = n + (k + 1) + 1 by omega]
theorem qdN_app : ∀ (n : Nat) (a y : List Nat), Ends a → (∃ z', y = 39 :: z') → qdN n (a ++ 46 :: y) = qdN n a ++ qdN n (46 :: y)
  | 0, _, _, _, _ => rfl
  | n + 1, a, y, h, hy => by
    obtain ⟨z', rfl⟩ := hy
    show qdN n (qd _) = qdN n (qd a) ++ qdN n (qd _)
    have e := qd_dots z' 0
    rw [List.replicate_zero, List.nil_append, List.nil_append] at e
    rw [qd_app h, e]
    have gen : ∀ (m j : Nat) (a z : List Nat), Ends a → (∃ z', z = 39 :: z') → qdN m (a ++ 46 :: (List.replicate j 46 ++ z)) = qdN m a ++ qdN m (46 :: (List.replicate j 46 ++ z)) := by
      intro m
      induction m with
      | zero => intros; rfl
      | succ m ih =>
        intro j a z ha hz
        obtain ⟨z', rfl⟩ := hz
        show qdN m (qd _) = qdN m (qd a) ++ qdN m (qd _)
        rw [qd_app ha, qd_dots]
        have := ih (j + 1) (qd a) (qd (39 :: z')) (ends_qd ha) (qd_39 z')
        rw [List.replicate_succ, List.cons_append] at this
        exact this
    have := gen n 1 (qd a) (qd (39 :: z')) (ends_qd h) (qd_39 z')
    exact this
theorem ends_qdN : ∀ (n : Nat) (l : List Nat), Ends l → Ends (qdN n l)
  | 0, _, h => h
  | n + 1, l, h => ends_qdN n (qd l) (ends_qd h)
/-- a label as so many sendings make it -/
noncomputable def labd (d : Nat) (l : List Nat) : List Nat := ins d false (nl l)
noncomputable def EolOk (e : List Nat) : Prop := e = [10] ∨ e = [13] ∨ e = [13, 10]
theorem nl_eol {e : List Nat} (h : EolOk e) : nl e = [13, 10] := by
  rcases h with rfl | rfl | rfl
  · decide +kernel
  · decide +kernel
  · decide +kernel
theorem qd_row {l e : List Nat} (h : nl e = [13, 10]) : qd (39 :: (esc l ++ 39 :: e)) = 39 :: (esc (stuff false (nl l)) ++ [39, 13, 10]) := by
  unfold qd
  rw [nl_other (by decide) (by decide), nl_app (by decide) (by decide), h, nl_esc, stuff_other (by simp), stuff_app, ← stuff_esc, stuff_other (by simp)]
  rfl
theorem qdN_row {l e : List Nat} (h : nl e = [13, 10]) : ∀ n : Nat, qdN (n + 1) (39 :: (esc l ++ 39 :: e)) = 39 :: (esc (labd (n + 1) l) ++ [39, 13, 10])
  | 0 => by
    show qd _ = _
    rw [qd_row h, stuff_ins1]; rfl
  | n + 1 => by
    rw [qdN_succ, qdN_row h n, show [39, 13, 10] = 39 :: [13, 10] from rfl, qd_row (by decide +kernel), labd, nl_ins, stuff_ins]
    rfl
theorem ends_row {l e : List Nat} (h : nl e = [13, 10]) : Ends (39 :: (esc l ++ 39 :: e)) := by
  unfold Ends
  rw [nl_other (by decide) (by decide), nl_app (by decide) (by decide), h]
  show endB _ (nl (esc l) ++ [39, 13, 10]) = _
  rw [endB_app]
  rfl
end OyMine
end
section
open PySem PySem.W PyProof.Rows
set_option maxRecDepth 100000
set_option genInjectivity false
set_option genSizeOf false
set_option genSizeOfSpec false
namespace OyMine
/-- one row of what the walk tells -/
structure Row where
  dots : Nat
  par : Int
  lab : List Nat
  line : Nat
noncomputable def Row.written (r : Row) : List Nat := List.replicate r.dots 46 ++ 39 :: (esc r.lab ++ [39, 13, 10])
noncomputable def flat (rs : List Row) : List Nat := (rs.map Row.written).flatten
theorem flat_app (a b : List Row) : flat (a ++ b) = flat a ++ flat b := by simp [flat]
theorem flat_one (r : Row) : flat [r] = r.written := by simp [flat]
noncomputable def nrows (l : List Nat) : Nat := 1 + (nl l).count 10
noncomputable def lastLine (rs : List Row) : Nat := match rs.getLast? with
  | some r => r.line
  | none => 0
namespace TreeAt
variable (T : TreeAt)
noncomputable abbrev labL (k : Nat) : List Nat := (T.lab k).cps.toList
noncomputable def effd (parent : Int) (dots : Nat) : Nat := if 0 ≤ parent then dots else 0
noncomputable def rowOf (node : Nat) (parent : Int) (dots : Nat) (told : List Row) : Row := ⟨effd parent dots, parent, labd dots (T.labL node), lastLine told + nrows (T.labL node)⟩
noncomputable def wpart (W : Nat → Int → Nat → List Row → List Row) (node : Nat) (here : Int) (dots : Nat) (told : List Row) : Nat → List Row
  | 0 => told
  | i + 1 => if T.par (node + 1 + i) = (node : Int) then W (node + 1 + i) here (dots + 1) (wpart W node here dots told i) else wpart W node here dots told i
noncomputable def walk : Nat → Nat → Int → Nat → List Row → List Row
  | 0, _, _, _, told => told
  | f + 1, node, parent, dots, told => T.wpart (walk f) node (told.length : Int) dots (told ++ [T.rowOf node parent dots told]) (4 - node)
theorem wpart_eq {W W' : Nat → Int → Nat → List Row → List Row} (node : Nat) (here : Int) (dots : Nat) (told : List Row) : ∀ i, (∀ k, node < k → k < node + 1 + i → W k = W' k) → T.wpart W node here dots told i = T.wpart W' node here dots told i := by
  intro i
  induction i with
  | zero => intro _; rfl
  | succ i ih =>
    intro h
    rw [wpart, wpart, ih fun k h1 h2 => h k h1 (by omega), h (node + 1 + i) (by omega) (by omega)]
theorem walk_more : ∀ (f node : Nat), 5 - node ≤ f → ∀ g, f ≤ g → node < 5 → T.walk g node = T.walk f node := by
  intro f
  induction f with
  | zero => intro node h g _ h5; omega
  | succ f ih =>
    intro node h g hg h5
    obtain ⟨g, rfl⟩ : ∃ g', g = g' + 1 := ⟨g - 1, by omega⟩
    funext parent dots told
    rw [walk, walk]
    exact T.wpart_eq _ _ _ _ _ fun k h1 h2 => ih k (by omega) g (by omega) (by omega)
noncomputable def walked (node : Nat) (parent : Int) (dots : Nat) (told : List Row) : List Row := T.walk 5 node parent dots told
theorem walked_eq {node : Nat} (h : node < 5) (parent : Int) (dots : Nat) (told : List Row) : T.walked node parent dots told = T.wpart T.walked node (told.length : Int) dots (told ++ [T.rowOf node parent dots told]) (4 - node) := by
  show T.walk 5 node parent dots told = _
  rw [walk]
  refine T.wpart_eq _ _ _ _ _ fun k h1 h2 => ?_
  exact (T.walk_more 4 k (by omega) 5 (by omega) (by omega)).symm
theorem out_39 {node : Nat} (h : node < 5) : ∃ z, T.out node = 39 :: z := by
  rw [T.out_eq h]
  have : ∀ i, ∃ z, T.part T.out node i = 39 :: z := by
    intro i
    induction i with
    | zero => exact ⟨_, rfl⟩
    | succ i ih => obtain ⟨z, e⟩ := ih; exact ⟨_, by rw [part, e]; rfl⟩
  exact this _
theorem base_row (node : Nat) : T.base node = 39 :: (esc (T.labL node) ++ 39 :: (T.eol node).cps.toList) := by
  unfold base
  simp
theorem part_ends {node : Nat} (he : EolOk (T.eol node).cps.toList) (i : Nat) (hi : node + i < 5) (hk : ∀ k, node < k → k < 5 → Ends (T.out k)) : Ends (T.part T.out node i) := by
  induction i with
  | zero => rw [part, base_row]; exact ends_row (nl_eol he)
  | succ i ih =>
    rw [part]
    unfold kid
    split
    · have h := ends_qd (hk (node + 1 + i) (by omega) (by omega))
      obtain ⟨z, e⟩ := T.out_39 (node := node + 1 + i) (by omega)
      obtain ⟨z', e'⟩ := qd_39 z
      rw [← e] at e'
      unfold Ends at h ⊢
      rw [nl_app (by decide) (by decide), endB_app]
      rw [e', nl_other (by decide) (by decide)] at h ⊢
      exact h
    · rw [List.append_nil]; exact ih (by omega)
theorem out_ends (he : ∀ k, k < 5 → EolOk (T.eol k).cps.toList) : ∀ n node, 5 - node ≤ n → node < 5 → Ends (T.out node)
  | 0, node, h, h5 => absurd h5 (by omega)
  | n + 1, node, h, h5 => by
    rw [T.out_eq h5]
    exact T.part_ends (he node h5) _ (by omega) fun k h1 h2 => out_ends he n k (by omega) h2
theorem part_39 (o : Nat → List Nat) (node : Nat) : ∀ i, ∃ z, T.part o node i = 39 :: z := by
  intro i
  induction i with
  | zero => exact ⟨_, rfl⟩
  | succ i ih => obtain ⟨z, e⟩ := ih; exact ⟨_, by rw [part, e]; rfl⟩
/-- the mail, sign by sign -/
theorem walked_flat (he : ∀ k, k < 5 → EolOk (T.eol k).cps.toList) : ∀ n node, 5 - node ≤ n → node < 5 → ∀ (parent : Int) (d : Nat) (told : List Row),
    flat (T.walked node parent (d + 1) told) = flat told ++ (List.replicate (effd parent (d + 1)) 46 ++ qdN (d + 1) (T.out node))
  | 0, node, h, h5 => absurd h5 (by omega)
  | n + 1, node, h, h5 => by
    intro parent d told
    have E : ∀ k, k < 5 → Ends (T.out k) := fun k hk => T.out_ends he 5 k (by omega) hk
    have main : ∀ i, node + i < 5 → flat (T.wpart T.walked node (told.length : Int) (d + 1) (told ++ [T.rowOf node parent (d + 1) told]) i) = flat told ++ (List.replicate (effd parent (d + 1)) 46 ++ qdN (d + 1) (T.part T.out node i)) := by
      intro i
      induction i with
      | zero =>
        intro _
        rw [wpart, part, base_row, qdN_row (nl_eol (he node h5)), flat_app, flat_one]
        rfl
      | succ i ih =>
        intro hi
        rw [wpart, part]
        unfold kid
        by_cases q : T.par (node + 1 + i) = (node : Int)
        · rw [if_pos q, if_pos q, walked_flat he n (node + 1 + i) (by omega) (by omega), ih (by omega)]
          obtain ⟨z, e⟩ := T.out_39 (node := node + 1 + i) (by omega)
          obtain ⟨z', e'⟩ := qd_39 z
          rw [← e] at e'
          rw [qdN_app _ _ _ (T.part_ends (he node h5) i (by omega) fun k h1 h2 => E k h2) ⟨_, e'⟩]
          have := qdN_dots (d + 1) 0 (qd (T.out (node + 1 + i))) ⟨_, e'⟩
          rw [List.replicate_zero, List.nil_append] at this
          rw [this]
          have e0 : effd (told.length : Int) (d + 1 + 1) = d + 1 + 1 := if_pos (Int.natCast_nonneg _)
          rw [e0]
          show _ = flat told ++ (_ ++ (_ ++ (List.replicate (d + 1 + 0 + 1) 46 ++ qdN (d + 1 + 1) (T.out (node + 1 + i)))))
          simp only [List.append_assoc, Nat.add_zero]
        · rw [if_neg q, if_neg q, List.append_nil, ih (by omega)]
    rw [T.walked_eq h5, main _ (by omega), ← T.out_eq h5]
end TreeAt
noncomputable def lastPar (S : List (Nat × Nat)) : Int := match S.getLast? with
  | some q => (q.2 : Int)
  | none => -1
/-- what the lexer's reader makes of a row -/
noncomputable def back (st : List Row × List (Nat × Nat)) (r : Row) : List Row × List (Nat × Nat) :=
  (st.1 ++ [⟨r.dots, lastPar (st.2.filter fun q => decide (q.1 < r.dots)), r.lab, r.line⟩], st.2.filter (fun q => decide (q.1 < r.dots)) ++ [(r.dots, st.1.length)])
namespace TreeAt
variable (T : TreeAt)
/-- the places that are open when a place is told: those with fewer dots, its own the last -/
noncomputable def Open (S : List (Nat × Nat)) (parent : Int) : Prop := parent = lastPar S
theorem walked_more : ∀ n node, 5 - node ≤ n → node < 5 → ∀ (parent : Int) (d : Nat) (told : List Row), ∃ new, T.walked node parent d told = told ++ new
  | 0, node, h, h5 => absurd h5 (by omega)
  | n + 1, node, h, h5 => by
    intro parent d told
    have main : ∀ i, node + i < 5 → ∃ new, T.wpart T.walked node (told.length : Int) d (told ++ [T.rowOf node parent d told]) i = told ++ new := by
      intro i
      induction i with
      | zero => intro _; exact ⟨_, rfl⟩
      | succ i ih =>
        intro hi
        obtain ⟨new, e⟩ := ih (by omega)
        rw [wpart]
        split
        · obtain ⟨new', e'⟩ := walked_more n (node + 1 + i) (by omega) (by omega) (told.length : Int) (d + 1) (told ++ new)
          exact ⟨new ++ new', by rw [e, e', List.append_assoc]⟩
        · exact ⟨new, e⟩
    rw [T.walked_eq h5]
    exact main _ (by omega)
theorem filter_all {S : List (Nat × Nat)} {e : Nat} (h : ∀ q ∈ S, q.1 < e) : S.filter (fun q => decide (q.1 < e)) = S := List.filter_eq_self.mpr fun q hq => decide_eq_true (h q hq)
theorem filter_none {S : List (Nat × Nat)} {e : Nat} (h : ∀ q ∈ S, e ≤ q.1) : S.filter (fun q => decide (q.1 < e)) = [] := List.filter_eq_nil_iff.mpr fun q hq hd => by have := h q hq; have := of_decide_eq_true hd; omega
/-- the tree told back -/
theorem walked_back : ∀ n node, 5 - node ≤ n → node < 5 → ∀ (parent : Int) (d : Nat) (told : List Row) (S J : List (Nat × Nat)),
    (∀ q ∈ S, q.1 < effd parent d ∨ effd parent d = 0 ∧ False) → (∀ q ∈ J, effd parent d ≤ q.1) → Open S parent →
    ∃ new J', T.walked node parent d told = told ++ new ∧ new.foldl back (told, S ++ J) = (told ++ new, S ++ (effd parent d, told.length) :: J') ∧ ∀ q ∈ J', d + 1 ≤ q.1
  | 0, node, h, h5 => absurd h5 (by omega)
  | n + 1, node, h, h5 => by
    intro parent d told S J hS hJ hp
    have hS' : ∀ q ∈ S, q.1 < effd parent d := fun q hq => (hS q hq).elim id fun z => z.2.elim
    have hle : effd parent d ≤ d := by unfold effd; split <;> omega
    have e1 : back (told, S ++ J) (T.rowOf node parent d told) = (told ++ [T.rowOf node parent d told], S ++ [(effd parent d, told.length)]) := by
      have ef : (S ++ J).filter (fun q => decide (q.1 < effd parent d)) = S := by rw [List.filter_append, filter_all hS', filter_none hJ, List.append_nil]
      show (told ++ [⟨effd parent d, lastPar ((S ++ J).filter (fun q => decide (q.1 < effd parent d))), _, _⟩], (S ++ J).filter (fun q => decide (q.1 < effd parent d)) ++ [(effd parent d, told.length)]) = _
      rw [ef, ← show parent = _ from hp]
      rfl
    have main : ∀ i, node + i < 5 → ∃ new J', T.wpart T.walked node (told.length : Int) d (told ++ [T.rowOf node parent d told]) i = told ++ new ∧
        new.foldl back (told, S ++ J) = (told ++ new, S ++ (effd parent d, told.length) :: J') ∧ ∀ q ∈ J', d + 1 ≤ q.1 := by
      intro i
      induction i with
      | zero =>
        intro _
        refine ⟨[T.rowOf node parent d told], [], rfl, ?_, fun q hq => absurd hq (List.not_mem_nil)⟩
        rw [List.foldl_cons, e1]
        rfl
      | succ i ih =>
        intro hi
        obtain ⟨new, J', h1, h2, h3⟩ := ih (by omega)
        rw [wpart]
        split
        · have e0 : effd (told.length : Int) (d + 1) = d + 1 := if_pos (Int.natCast_nonneg _)
          obtain ⟨new', J'', g1, g2, g3⟩ := walked_back n (node + 1 + i) (by omega) (by omega) (told.length : Int) (d + 1) (told ++ new) (S ++ [(effd parent d, told.length)]) J'
            (fun q hq => .inl (by
              rw [e0]
              rcases List.mem_append.mp hq with hq | hq
              · have := hS' q hq; omega
              · rw [List.mem_singleton.mp hq]; show effd parent d < d + 1; omega))
            (fun q hq => by rw [e0]; exact h3 q hq)
            (by unfold Open lastPar; rw [List.getLast?_append]; rfl)
          refine ⟨new ++ new', (d + 1, (told ++ new).length) :: J'', by rw [h1, g1, List.append_assoc], ?_, ?_⟩
          · rw [List.foldl_append, h2]
            have e : S ++ (effd parent d, told.length) :: J' = (S ++ [(effd parent d, told.length)]) ++ J' := by simp
            rw [e, g2, e0]
            simp
          · intro q hq
            rcases List.mem_cons.mp hq with rfl | hq
            · exact Nat.le_refl _
            · have := g3 q hq; omega
        · exact ⟨new, J', h1, h2, h3⟩
    rw [T.walked_eq h5]
    exact main _ (by omega)
theorem told_back (d : Nat) : ((T.walked 0 (-1) d []).foldl back ([], [])).1 = T.walked 0 (-1) d [] := by
  obtain ⟨new, J', h1, h2, _⟩ := T.walked_back 5 0 (by omega) (by omega) (-1) d [] [] [] (fun q hq => absurd hq List.not_mem_nil) (fun q hq => absurd hq List.not_mem_nil) rfl
  rw [List.nil_append] at h1
  rw [h1]
  exact congrArg Prod.fst h2
end TreeAt
end OyMine
end
section
open PySem PySem.W PyProof.Rows PySem.Builtin PySem.Builtin.Str
set_option maxRecDepth 100000
set_option genInjectivity false
set_option genSizeOf false
set_option genSizeOfSpec false
namespace OyMine
theorem drop_at {buf r : List Nat} {pos c : Nat} (h : buf.drop pos = c :: r) : buf[pos]? = some c := by
  have := List.getElem?_drop (xs := buf) (i := pos) (j := 0)
  rw [h] at this
  exact this.symm
theorem drop_next {buf r : List Nat} {pos c : Nat} (h : buf.drop pos = c :: r) : buf.drop (pos + 1) = r := by
  rw [← List.drop_drop, h]; rfl
theorem one_ne {c d : Nat} (h : c ≠ d) : (mk [c] == mk [d]) = false := by
  refine beq_eq_false_iff_ne.mpr fun e => h ?_
  have := congrArg (fun x : Str => x.cps.toList) e
  simpa using this
theorem one_len (c : Nat) : (mk [c]).length = 1 := rfl
theorem nl_str : Str.ofString "\n" = mk [10] := by decide +kernel
theorem bs_str : Str.ofString "\\" = mk [92] := by decide +kernel
theorem nil_str : Str.ofString "" = mk [] := by decide +kernel
theorem contains_one {c d : Nat} (h : c ≠ d) : Txt.contains (mk [d]) (mk [c]) = false := by
  have hs : subAt (mk [d]) (mk [c]) 0 = false := by
    show (#[d].extract 0 (0 + 1) == #[c]) = false
    have e : #[d].extract 0 (0 + 1) = #[d] := by simp
    rw [e]
    refine beq_eq_false_iff_ne.mpr fun q => h ?_
    have := congrArg Array.toList q
    simpa using this.symm
  unfold Txt.contains occurrences
  have e : (mk [d]).length = 1 := rfl
  have e2 : (mk [c]).length = 1 := rfl
  simp only [e, e2, Std.Legacy.Range.forIn_eq_forIn_range', Std.Legacy.Range.size]
  simp [List.range', hs, Id.run]
  rfl
section
variable {w : World} {ℓ : LexA} {buf : List Nat} {P : LexC → Bool → Prop}
theorem run_word (ok : ℓ.Ok) (hb : (mk buf).length ≤ 1000000) {e : Value} {r : List Nat} {pn : Int} {q' : Nat} {ln : Int} {full : List Nat} : ∀ (l u : List Nat) (line : Int) (pos : Nat), buf.drop pos = esc l ++ 39 :: 13 :: r → u.length + l.length ≤ 900 → 1 ≤ u.length + l.length → 0 ≤ line → line + (l.count 10 : Int) ≤ 100000 →
    u ++ l = full → line + (l.count 10 : Int) = ln → pos + (esc l).length + 2 = q' →
    (∀ ts tt tl tp, P ⟨.str " " ts, mk full, tt, ln, tl, q', tp, pn, []⟩ true) →
    ∀ (ts tt tl tp : Tok) (q : Bool) (nc : Option Value), Loops w ℓ buf ⟨.str (mk [39]) ts, mk u, tt, line, tl, pos, tp, pn, []⟩ q e nc P
  | [], u, line, pos, h, h1, h2, h3, h4, hu, hn, hq, fin => by
    intro ts tt tl tp q nc
    rw [List.append_nil] at hu
    subst hu
    have hd : buf.drop pos = 39 :: 13 :: r := h
    have hl : (mk u).length ≤ 1000 := by rw [mk_len]; simp at h1; omega
    have hl1 : 1 ≤ (mk u).length := by rw [mk_len]; simp at h2; omega
    obtain rfl : line = ln := by simpa using hn
    obtain rfl : pos + 1 + 1 = q' := by simpa [esc] using hq
    refine turn_F ok hb (drop_at hd) hl fun ts' tt' tl' tp' v => ?_
    refine turn_K ok hb (drop_at (drop_next hd)) hl hl1 fun ts' tt' tl' tp' => ?_
    exact fin _ _ _ _
  | c :: l, u, line, pos, h, h1, h2, h3, h4, hu, hn, hq, fin => by
    intro ts tt tl tp q nc
    have hl : (mk u).length ≤ 1000 := by rw [mk_len]; simp at h1; omega
    have hu' : (u ++ [c]) ++ l = full := by rw [← hu]; simp
    have hlen : (u ++ [c]).length + l.length ≤ 900 := by simp at h1 ⊢; omega
    have hlen1 : 1 ≤ (u ++ [c]).length + l.length := by simp; omega
    have step : ∀ (line' : Int) (pos' : Nat), buf.drop pos' = esc l ++ 39 :: 13 :: r → 0 ≤ line' → line' + (l.count 10 : Int) = ln → pos' + (esc l).length + 2 = q' → ∀ (ts tt tl tp : Tok) (q : Bool) (nc : Option Value), Loops w ℓ buf ⟨.str (mk [39]) ts, mk u ++ mk [c], tt, line', tl, pos', tp, pn, []⟩ q e nc P := by
      intro line' pos' a1 a2 a3 a4
      rw [mk_append]
      exact run_word ok hb l (u ++ [c]) line' pos' a1 hlen hlen1 a2 (by omega) hu' a3 a4 fin
    by_cases c39 : c = 39
    · subst c39
      rw [esc_39] at h hq
      have d0 : buf.drop pos = 39 :: 34 :: 39 :: 34 :: 39 :: (esc l ++ 39 :: 13 :: r) := h
      have d1 := drop_next d0
      have d2 := drop_next d1
      have d3 := drop_next d2
      have d4 := drop_next d3
      have hl2 : (mk u ++ mk [39]).length ≤ 1000 := by rw [mk_append, mk_len]; simp at h1 ⊢; omega
      refine turn_F ok hb (drop_at d0) hl fun _ _ _ _ v => ?_
      refine turn_G ok hb (drop_at d1) hl fun _ _ _ _ v => ?_
      refine turn_H ok hb (drop_at d2) hl fun _ _ _ v => ?_
      refine turn_I ok hb (drop_at d3) hl2 fun _ _ _ _ v => ?_
      refine turn_J ok hb (drop_at d4) hl2 fun _ _ _ _ v => ?_
      exact step line _ (drop_next d4) h3 (by rw [← hn, List.count_cons_of_ne (by decide)]) (by rw [← hq]; simp only [List.length_cons]; omega) _ _ _ _ _ _
    · rw [esc_cons_other c39] at h hq
      have d0 : buf.drop pos = c :: (esc l ++ 39 :: 13 :: r) := h
      have a4 : pos + 1 + (esc l).length + 2 = q' := by rw [← hq]; simp only [List.length_cons]; omega
      by_cases c10 : c = 10
      · subst c10
        refine turn_E10 ok hb (drop_at d0) hl ⟨h3, by simp at h4; omega⟩ fun _ _ _ v => ?_
        exact step _ _ (drop_next d0) (by omega) (by rw [← hn, List.count_cons_self]; omega) a4 _ _ _ _ _ _
      · have a3 : line + (l.count 10 : Int) = ln := by rw [← hn, List.count_cons_of_ne c10]
        by_cases c92 : c = 92
        · subst c92
          refine turn_E92 ok hb (drop_at d0) hl fun _ _ _ v => ?_
          exact step _ _ (drop_next d0) h3 a3 a4 _ _ _ _ _ _
        · refine turn_Eg ok hb (drop_at d0) hl (by rw [nl_str]; exact one_ne c10) (one_ne c39) (by rw [bs_str]; exact contains_one c92) (Nat.le_refl _) (Nat.le_refl _) fun _ _ _ v => ?_
          exact step _ _ (drop_next d0) h3 a3 a4 _ _ _ _ _ _
theorem run_dots (ok : ℓ.Ok) (hb : (mk buf).length ≤ 1000000) {e : Value} {r : List Nat} {pn : Int} {line : Int} {q : Bool} : ∀ (k n pos : Nat), buf.drop pos = List.replicate k 46 ++ 39 :: r → n + k ≤ 900 →
    (∀ ts tt tl tp t', P ⟨.str " " ts, mk (List.replicate (n + k) 46), tt, line, tl, pos + k + 1, tp, pn + 1, [.str (mk [39]) t']⟩ q) →
    ∀ (ts tt tl tp : Tok) (nc : Option Value), Loops w ℓ buf ⟨.str "c" ts, mk (List.replicate n 46), tt, line, tl, pos, tp, pn, []⟩ q e nc P
  | 0, n, pos, h, h1, fin => by
    intro ts tt tl tp nc
    refine turn_C ok hb (drop_at h) (by rw [mk_len, List.length_replicate]; omega) fun _ _ _ _ _ => ?_
    exact fin _ _ _ _ _
  | k + 1, n, pos, h, h1, fin => by
    intro ts tt tl tp nc
    rw [List.replicate_succ] at h
    refine turn_B ok hb (drop_at h) (by rw [mk_len, List.length_replicate]; omega) fun _ _ _ v => ?_
    rw [mk_append, show List.replicate n 46 ++ [46] = List.replicate (n + 1) 46 from List.replicate_succ'.symm]
    refine run_dots ok hb k (n + 1) (pos + 1) (drop_next h) (by omega) ?_ _ _ _ _ _
    rw [show n + 1 + k = n + (k + 1) by omega, show pos + 1 + k + 1 = pos + (k + 1) + 1 by omega]
    exact fin
/-- a lexer between two words; b: an apostrophe is pushed back -/
noncomputable def Rest (line : Int) (pos : Nat) (b : Bool) (c : LexC) : Prop := ∃ ts tt tl tp pn tq, c = ⟨.str " " ts, Str.ofString "", tt, line, tl, pos, tp, pn, if b then [.str (mk [39]) tq] else []⟩
noncomputable def Word (l : List Nat) (line : Int) (pos : Nat) (b : Bool) (r : Value) (c : LexC) : Prop := (∃ t, r = .str (mk l) t) ∧ Rest line pos b c
theorem call_mono {D U : Nat} {f : Addr} {args : List Value} {c : LexC} {R R' : Value → LexC → Prop} (C : LexCall w ℓ buf f D U args c R) (h : ∀ r c', R r c' → R' r c') : LexCall w ℓ buf f D U args c R' := by
  unfold LexCall AtAny at C ⊢
  intro dp un p loose mean mg mb news gd cn cs a ccd cl outer A₀ base h₀ L m s hdp hun B F X N T hk rest off en Q E hret
  exact C dp un p loose mean mg mb news gd cn cs a ccd cl outer A₀ base h₀ L m s hdp hun B F X N T hk rest off en Q E fun r c' h' tk' F' N' hR => hret r c' h' tk' F' N' (h r c' hR)
theorem word_call (ok : ℓ.Ok) {c : LexC} {l : List Nat} {line : Int} {pos : Nat} {b : Bool} (hl : l ≠ []) (hl2 : l.length ≤ 900)
    (C : ∀ te, Loops w ℓ buf c false (.str " " te) none fun c' _ => ∃ ts tt tl tp pn tq, c' = ⟨.str " " ts, mk l, tt, line, tl, pos, tp, pn, if b then [.str (mk [39]) tq] else []⟩) : LexCall w ℓ buf 719 460 4600 [.ref ℓ.x] c (Word l line pos b) := by
  refine call_mono (gt_word w ℓ ok buf c (mk l) _ (rt_word w ℓ ok buf c _ C ?_) ?_) ?_
  · rintro c' q' ⟨ts, tt, tl, tp, pn, tq, rfl⟩
    refine ⟨?_, by rw [mk_len]; omega⟩
    show (mk l == _) = false
    rw [nil_str]
    refine beq_eq_false_iff_ne.mpr fun e => hl ?_
    have := congrArg (fun x : Str => x.cps.toList) e
    simpa using this
  · rintro r c2 ⟨c', q', t, ⟨ts, tt, tl, tp, pn, tq, rfl⟩, rfl, _⟩
    exact ⟨t, rfl⟩
  · rintro r c2 ⟨c', q', t, ⟨ts, tt, tl, tp, pn, tq, rfl⟩, rfl, tt', rfl⟩
    exact ⟨⟨t, rfl⟩, ts, tt', tl, tp, pn, tq, rfl⟩
theorem tok_first (ok : ℓ.Ok) (hb : (mk buf).length ≤ 1000000) {c : LexC} {l r : List Nat} {line : Int} {pos : Nat} (hc : Rest line pos false c) (hl : l ≠ []) (hl2 : l.length ≤ 900) (h0 : 0 ≤ line) (h1 : line ≤ 10000) (hd : buf.drop pos = 39 :: (esc l ++ 39 :: 13 :: r)) :
    LexCall w ℓ buf 719 460 4600 [.ref ℓ.x] c (Word l (line + (l.count 10 : Int)) (pos + 1 + (esc l).length + 2) false) := by
  obtain ⟨ts, tt, tl, tp, pn, tq, rfl⟩ := hc
  refine word_call ok hl hl2 fun te => ?_
  have hp : 1 ≤ l.length := List.length_pos_iff.mpr hl
  have hcn : l.count 10 ≤ l.length := List.count_le_length
  refine turn_D1 ok hb (drop_at hd) (by rw [nil_str, mk_len]; simp) fun _ _ _ _ v => ?_
  rw [nil_str]
  exact run_word ok hb l [] line (pos + 1) (drop_next hd) (by simpa using hl2) (by simpa using hp) h0 (by omega) rfl rfl rfl (fun ts tt tl tp => ⟨ts, tt, tl, tp, pn, tq, rfl⟩) _ _ _ _ _ _
theorem tok_label (ok : ℓ.Ok) (hb : (mk buf).length ≤ 1000000) {c : LexC} {l r : List Nat} {line : Int} {pos : Nat} (hc : Rest line pos true c) (hl : l ≠ []) (hl2 : l.length ≤ 900) (h0 : 0 ≤ line) (h1 : line ≤ 10000) (hd : buf.drop pos = esc l ++ 39 :: 13 :: r) :
    LexCall w ℓ buf 719 460 4600 [.ref ℓ.x] c (Word l (line + (l.count 10 : Int)) (pos + (esc l).length + 2) false) := by
  obtain ⟨ts, tt, tl, tp, pn, tq, rfl⟩ := hc
  refine word_call ok hl hl2 fun te => ?_
  have hp : 1 ≤ l.length := List.length_pos_iff.mpr hl
  have hcn : l.count 10 ≤ l.length := List.count_le_length
  refine turn_D ok hb (by rw [nil_str, mk_len]; simp) fun _ _ _ v => ?_
  rw [nil_str]
  exact run_word ok hb l [] line pos hd (by simpa using hl2) (by simpa using hp) h0 (by omega) rfl rfl rfl (fun ts tt tl tp => ⟨ts, tt, tl, tp, pn + 1, tq, rfl⟩) _ _ _ _ _ _
theorem tok_dots (ok : ℓ.Ok) (hb : (mk buf).length ≤ 1000000) {c : LexC} {r : List Nat} {line : Int} {pos d : Nat} (hc : Rest line pos false c) (h0 : 0 ≤ line) (h1 : line ≤ 10000) (hd2 : d ≤ 800) (hd : buf.drop pos = 10 :: (List.replicate (d + 1) 46 ++ 39 :: r)) :
    LexCall w ℓ buf 719 460 4600 [.ref ℓ.x] c (Word (List.replicate (d + 1) 46) (line + 1) (pos + 1 + (d + 1) + 1) true) := by
  obtain ⟨ts, tt, tl, tp, pn, tq, rfl⟩ := hc
  refine word_call ok (by rw [List.replicate_succ]; simp) (by rw [List.length_replicate]; omega) fun te => ?_
  refine turn_L (tok := Str.ofString "") ok hb (drop_at hd) ⟨h0, by omega⟩ fun _ _ _ v => ?_
  have hd' := drop_next hd
  rw [List.replicate_succ] at hd'
  refine turn_A ok hb (drop_at hd') (by rw [nil_str, mk_len]; simp) fun _ _ _ _ v => ?_
  refine run_dots ok hb d 1 (pos + 1 + 1) (drop_next hd') (by omega) ?_ _ _ _ _ _
  intro ts tt tl tp t'
  exact ⟨ts, tt, tl, tp, pn + 1, t', by rw [show 1 + d = d + 1 by omega, show pos + 1 + 1 + d + 1 = pos + 1 + (d + 1) + 1 by omega]; rfl⟩
noncomputable def Ended (r : Value) (c : LexC) : Prop := r = .none ∧ ∃ sv tok tt line tl pos tp pn, c = ⟨sv, tok, tt, line, tl, pos, tp, pn, []⟩
theorem tok_end (ok : ℓ.Ok) (hb : (mk buf).length ≤ 1000000) {c : LexC} {line : Int} {pos : Nat} (hc : Rest line pos false c) (h0 : 0 ≤ line) (h1 : line ≤ 10000) (hd : buf.drop pos = [10]) :
    LexCall w ℓ buf 719 460 4600 [.ref ℓ.x] c Ended := by
  obtain ⟨ts, tt, tl, tp, pn, tq, rfl⟩ := hc
  refine call_mono (gt_end w ℓ ok buf _ _ (rt_end w ℓ ok buf _ (fun c' q' => q' = false ∧ ∃ sv tt line tl pos tp pn, c' = ⟨sv, Str.ofString "", tt, line, tl, pos, tp, pn, []⟩) (fun te => ?_) ?_) ?_) ?_
  · refine turn_L (tok := Str.ofString "") ok hb (drop_at hd) ⟨h0, by omega⟩ fun _ _ _ v => ?_
    have hd' := drop_next hd
    refine turn_M ok hb (by rw [nil_str, mk_len]; simp) ?_ fun _ _ _ => ?_
    · have h2 := congrArg List.length hd
      rw [List.length_drop, List.length_cons, List.length_nil] at h2
      omega
    · exact ⟨rfl, _, _, _, _, _, _, _, rfl⟩
  · rintro c' q' ⟨rfl, sv, tt, line, tl, pos, tp, pn, rfl⟩
    exact ⟨rfl, rfl⟩
  · rintro r c' ⟨rfl, _⟩
    rfl
  · rintro r c2 ⟨rfl, c', q', ⟨rfl, sv, tt, line, tl, pos, tp, pn, rfl⟩, tt', rfl⟩
    exact ⟨rfl, _, _, _, _, _, _, _, _, rfl⟩
end
end OyMine
end
section
open PySem PySem.W PyProof.Rows PySem.Builtin PySem.Builtin.Re
set_option maxRecDepth 100000
set_option genInjectivity false
set_option genSizeOf false
set_option genSizeOfSpec false
namespace OyMine
theorem words_Next_0 : True := by
  w_top off
  k_with_none
  k_with "my omega" => (first
    | with_reducible assumption
    | with_reducible exact Nat.ne_of_lt (by assumption)
    | with_reducible exact Nat.ne_of_gt (by assumption)
    | decide
    | with_reducible exact Nat.le_refl _
    | with_reducible exact Nat.zero_le _
    | with_reducible exact Nat.le_add_right _ _
    | with_reducible exact Nat.le_add_left _ _
    | with_reducible exact Nat.lt_succ_self _
    | with_reducible exact Nat.le_succ _
    | with_reducible exact Nat.succ_pos _
    | with_reducible exact Nat.zero_add _
    | with_reducible exact q4
    | with_reducible exact q8
    | with_reducible exact Nat.le_of_lt (by assumption)
    | with_reducible exact Nat.le_of_succ_le (by assumption)
    | with_reducible exact Nat.le_of_succ_le_succ (by assumption)
    | with_reducible exact Nat.not_lt.mp (by assumption)
    | with_reducible exact Nat.lt_succ_of_le (by assumption)
    | with_reducible exact Nat.le_succ_of_le (by assumption)
    | with_reducible exact Nat.succ_le_of_lt (by assumption)
    | with_reducible exact q1 (by assumption)
    | with_reducible exact q2 (by assumption)
    | with_reducible exact q3 (by assumption)
    | with_reducible exact q5 (by assumption)
    | with_reducible exact q7 (by assumption)
    | with_reducible exact q6 (by assumption) (by assumption)
    | with_reducible exact absurd (by assumption) (Nat.not_lt.mpr (by assumption))
    | (with_reducible refine room_le (by assumption) ?_; with_unfolding_all rfl)
    | (with_reducible refine room_lt (by assumption) ?_; with_unfolding_all rfl)
    | (with_reducible refine room_le0 (by assumption) ?_; with_unfolding_all rfl)
    | ((fail_if_success (with_reducible show _ ≠ _)); (rename _ ∧ _ => cW9; clear cW9); (repeat (rename _ ∧ _ => cW9; clear cW9)); omega)
    | fail "no")
  k_with "my execs cons" => (k_here; refine wpAny_execs_cons ?_; k_fold)
  k_with "my getAttr ref" => (k_here; (with_reducible show wpAny _ _ (getAttr (Value.ref (LexA.x _)) _ _) _ _ _); k_dflt ((with_reducible first | refine' lex_get_instream ?FW9 ?XW9 ?NW9 ?hxW9 ?hdW9 ?_ | refine' lex_get_posix ?FW9 ?XW9 ?NW9 ?hxW9 ?hdW9 ?_ | refine' lex_get_eof ?FW9 ?XW9 ?NW9 ?hxW9 ?hdW9 ?_ | refine' lex_get_commenters ?FW9 ?XW9 ?NW9 ?hxW9 ?hdW9 ?_ | refine' lex_get_wordchars ?FW9 ?XW9 ?NW9 ?hxW9 ?hdW9 ?_ | refine' lex_get_whitespace ?FW9 ?XW9 ?NW9 ?hxW9 ?hdW9 ?_ | refine' lex_get_whitespace_split ?FW9 ?XW9 ?NW9 ?hxW9 ?hdW9 ?_ | refine' lex_get_quotes ?FW9 ?XW9 ?NW9 ?hxW9 ?hdW9 ?_ | refine' lex_get_escape ?FW9 ?XW9 ?NW9 ?hxW9 ?hdW9 ?_ | refine' lex_get_escapedquotes ?FW9 ?XW9 ?NW9 ?hxW9 ?hdW9 ?_ | refine' lex_get_state ?FW9 ?XW9 ?NW9 ?hxW9 ?hdW9 ?_ | refine' lex_get_pushback ?FW9 ?XW9 ?NW9 ?hxW9 ?hdW9 ?_ | refine' lex_get_lineno ?FW9 ?XW9 ?NW9 ?hxW9 ?hdW9 ?_ | refine' lex_get_debug ?FW9 ?XW9 ?NW9 ?hxW9 ?hdW9 ?_ | refine' lex_get_token ?FW9 ?XW9 ?NW9 ?hxW9 ?hdW9 ?_ | refine' lex_get_filestack ?FW9 ?XW9 ?NW9 ?hxW9 ?hdW9 ?_ | refine' lex_get_source ?FW9 ?XW9 ?NW9 ?hxW9 ?hdW9 ?_ | refine' lex_get_punct ?FW9 ?XW9 ?NW9 ?hxW9 ?hdW9 ?_ | refine' lex_get_pushback_chars ?FW9 ?XW9 ?NW9 ?hxW9 ?hdW9 ?_); (case FW9 => k_asm); (case XW9 => k_asm); (case NW9 => k_asm); (case hxW9 => k_mem); (case hdW9 => k_mem); k_whole))
  k_with "my setAttr ref" => (k_here; (with_reducible show wpAny _ _ (setAttr (Value.ref (LexA.x _)) _ _) _ _ _); k_dflt ((with_reducible first | refine' lex_set_state ?FW9 ?XW9 ?okW9 ?offW9 ?NW9 ?_ | refine' lex_set_token ?FW9 ?XW9 ?okW9 ?offW9 ?NW9 ?_ | refine' lex_set_lineno ?FW9 ?XW9 ?okW9 ?offW9 ?NW9 ?_); (case FW9 => k_asm); (case XW9 => k_asm); (case okW9 => assumption); (case offW9 => assumption); (case NW9 => k_asm); k_whole; intro hW9 FaW9 NaW9; (try k_sweep)))
  trivial
theorem words_Next_1 : True := by
  k_with "my k_room" => (first | exact Nat.le_of_ble_eq_true rfl | ((try simp only [duk, depth_under_make, depth_under_kw, depth_in1, depth_deeper, depth_caller, recursionLimit]); (try dsimp only [ktrTop]); (try simp only [recursionLimit]); omega))
  k_with "my ktr_room" => (k_room)
  k_with "my k_units" => (first | exact Nat.le_of_ble_eq_true rfl | ((have hcL9W9 := cLine_is); (try simp only [uuk, units_in1, units_deeper, Around.mark_units, units_caller]); (try dsimp only [ktrTop]); omega))
  k_with "my units_room" => (first | exact Nat.le_of_ble_eq_true rfl | ((have hcL9W9 := cLine_is); (try simp only [uuk, units_in1, units_deeper, Around.mark_units, units_caller]); (try dsimp only [ktrTop]); omega))
  k_with "my k_enter" => ((refine' code_def ?k1W9 ?k2W9 ?k3W9 ?k4W9 ?k5W9 ?kAW9 ?kFW9 ?kKW9 ?k6W9 ?k7W9 ?k8W9 ?k9W9 ?kBW9 ?_ ?c2W9 ?c3W9 ?c4W9 ?c5W9; (case kAW9 => exact rfl); (case kFW9 => exact rfl); (case kKW9 => first | exact rfl | assumption); (case k1W9 => k_asm); (case k2W9 => k_asm); (case k3W9 => k_asm); (case k4W9 => k_asm); (case k5W9 => k_asm); (case k6W9 => k_is); (case k7W9 => k_is); (case k8W9 => k_room); (case k9W9 => first | exact BindsTo.of_eq rfl | exact binds_K (by k_in) rfl (by k_is) rfl rfl rfl | fail "k_enter: no rule for these arguments"); (case c5W9 => decide); (case kBW9 => exact locs rfl); (case c2W9 => exact rfl); (case c3W9 => exact rfl); (case c4W9 => exact rfl); k_whole; intro g'W9 L'W9 h'W9 FG'W9 F'W9 N'W9 B'W9 X'W9 T'W9; (try dsimp only); (try k_lift B'W9); (try k_fold)))
  k_with "my getMethod ref" => ((k_here; (with_reducible show wpAny _ _ (getMethod (Value.ref _) (Str.ofString "sub") _) _ _ _); k_dflt (refine' meth_sub ?FW9 ?XW9 ?eW9 ?cW9 ?dW9 ?_; (case FW9 => k_asm); (case XW9 => k_asm); (case eW9 => k_is); (case cW9 => exact rfl); (case dW9 => exact rfl); k_whole)))
  k_with "my call builtin:re.Pattern.sub" => ((k_here; k_dflt (first
    | (refine' sub54_K ?FW9 ?XW9 ?NW9 ?xW9 ?_; (case FW9 => k_asm); (case XW9 => k_asm); (case NW9 => k_asm); (case xW9 => first | exact nl_fits (by assumption) | omega); k_whole; intro t'W9 h'W9 tk'W9 F'W9 N'W9; (try k_sweep))
    | (refine' sub49_K ?FW9 ?XW9 ?NW9 ?xW9 ?_; (case FW9 => k_asm); (case XW9 => k_asm); (case NW9 => k_asm); (case xW9 => first | exact nl_fits (by assumption) | omega); k_whole; intro t'W9 h'W9 tk'W9 F'W9 N'W9; (try k_sweep)))))
  k_with "my call ref" => ((k_here; (with_reducible show wpAny _ _ (call (Value.ref 763) [Value.str _ _]) _ _ _); k_dflt (refine' search_K ?FW9 ?XW9 ?NW9 ?xW9 ?jW9 ?uW9 ?_; (case FW9 => k_asm); (case XW9 => k_asm); (case NW9 => k_asm); (case xW9 => omega); (case jW9 => assumption); (case uW9 => assumption); k_whole; intro a'W9 h'W9 F'W9 N'W9; (try k_sweep))))
  k_with "my kt_len" => (with_reducible assumption)
  k_with "my truthy str" => ((k_here; (with_reducible show wpAny _ _ (PySem.truthy (Value.str _ _)) _ _ _); (refine' KXt.truthy_pos (K := 16777216) ?kxtaW9 ?kxtbW9 (Nat.le_refl _) ?_; (case kxtaW9 => with_reducible assumption); (case kxtbW9 => omega)); intro _))
  k_with "my callWith ref" => ((k_here; (with_reducible show wpAny _ _ (callWith _ (Value.ref 763) _ _ _) _ _ _); k_dflt (refine' callWith_763 ?k1W9 ?_; (case k1W9 => k_asm); k_whole)))
  k_with "my call builtin:str.replace" => ((k_here; (with_reducible show wpAny _ _ (call (Value.builtin "str.replace") [Value.str _ _, Value.str (Str.ofString "'") _, Value.str _ _]) _ _ _); k_dflt ((refine' replaceQ ?aW9 ?bW9 ?cW9 ?dW9 ?_; (case aW9 => k_ne); (case bW9 => k_ne); (case cW9 => k_ne); (case dW9 => first | with_reducible assumption | omega); k_whole; intro t'W9 k'W9 len'W9))))
  k_with "my k_memK" => (first | assumption | (refine need_app ?_; k_memK) | (refine need_cons ?_; k_memK))
  k_with "my subscriptTail" => ((k_here; (with_reducible show wpAny _ _ (subscriptTail _ _ (Value.ref (TreeAt.t _)) (Value.int (Nat.cast _) _)) _ _ _); k_dflt ((refine' tree_item ?NW9 ?TW9 ?kW9 ?_; (case NW9 => k_asm); (case TW9 => k_memK); (case kW9 => omega); k_whole; intro hm'W9))))
  k_with "my call ref" => ((k_here; (with_reducible show wpAny _ _ (call (Value.ref 770) [Value.str (TreeAt.lab _ _) _]) _ _ _); k_dflt ((refine' pure_use (qt_lab _ _ ?OW9 _ ?kW9 _) ?BW9 ?FW9 ?XW9 ?NW9 ?TW9 ?kkW9 ?hdW9 ?huW9 ?_; (case OW9 => assumption); (case kW9 => omega); (case BW9 => k_asm); (case FW9 => k_asm); (case XW9 => k_asm); (case NW9 => k_asm); (case TW9 => k_asm); (case kkW9 => first | exact rfl | assumption); (case hdW9 => k_room); (case huW9 => k_units); k_whole; intro r'W9 h'W9 tk'W9 F'W9 N'W9 ht'W9; obtain ⟨t'W9, e'W9⟩ := ht'W9; subst e'W9; (try k_sweep)))))
  k_with "my call ref" => ((k_here; (with_reducible show wpAny _ _ (call (Value.ref 61) [Value.str (Str.mk (List.toArray _)) _]) _ _ _); k_dflt ((refine' pure_use (qd_mk _ _ _ ?xW9) ?BW9 ?FW9 ?XW9 ?NW9 ?TW9 ?kkW9 ?hdW9 ?huW9 ?_; (case xW9 => first | omega | exact size_out (by assumption) (by omega)); (case BW9 => k_asm); (case FW9 => k_asm); (case XW9 => k_asm); (case NW9 => k_asm); (case TW9 => k_asm); (case kkW9 => first | exact rfl | assumption); (case hdW9 => k_room); (case huW9 => k_units); k_whole; intro r'W9 h'W9 tk'W9 F'W9 N'W9 ht'W9; obtain ⟨t'W9, e'W9⟩ := ht'W9; subst e'W9; (try k_sweep)))))
  k_with "my kt_len" => (first | exact len_out (by assumption) (by omega) | exact len_quoted (by assumption) (by omega) | exact TreeAt.Ok.eol (by assumption) _ (by omega) | exact TreeAt.part_len (by assumption) (by omega) (by omega) | ((with_reducible refine' len_qd ?qqW9); (case qqW9 => kt_len)))
  k_with "my call builtin:len" => ((k_here; (with_reducible show wpAny _ _ (call (Value.builtin "len") [Value.ref (TreeAt.t _)]) _ _ _); k_dflt ((refine' tree_len ?NW9 ?TW9 ?_; (case NW9 => k_asm); (case TW9 => k_memK); k_whole; intro t'W9 k'W9))))
  k_with "my call ref" => ((k_here; (with_reducible show wpAny _ _ (call (Value.ref 782) [Value.ref _, Value.int (Nat.cast _) _]) _ _ _); (with_reducible rename ∀ k, _ < k → k < 5 → Outline _ _ k => ihOW9); k_dflt ((refine' reads_use (ihOW9 _ ?aW9 ?bW9 _) ?BW9 ?FW9 ?XW9 ?NW9 ?TW9 ?kkW9 ?hdW9 ?huW9 ?hnW9 ?_; (case aW9 => omega); (case bW9 => omega); (case BW9 => k_asm); (case FW9 => k_asm); (case XW9 => k_asm); (case NW9 => k_asm); (case TW9 => k_asm); (case kkW9 => first | exact rfl | assumption); (case hdW9 => k_room); (case huW9 => k_units); (case hnW9 => k_memK); k_whole; intro r'W9 h'W9 tk'W9 F'W9 N'W9 ht'W9; obtain ⟨t'W9, e'W9⟩ := ht'W9; subst e'W9; (try k_sweep)))))
  k_with "my inplaceOp Add str str" => ((k_here; (with_reducible show wpAny _ _ (inplaceOp Operator.Add (Value.str _ _) (Value.str _ _)) _ _ _); (refine' iaddK ?kxaaW9 ?kxabW9 ?kxacW9 ?_; (case kxaaW9 => kt_len); (case kxabW9 => kt_len); (case kxacW9 => exact Nat.le_of_ble_eq_true rfl)); intro _ _ _))
  k_with "my k_enter" => ((kp_kind "both"; (fail_if_success k_inElt); (refine' kp_both ?k1W9 ?k2W9 ?k3W9 ?k4W9 ?k5W9 ?kAW9 ?kFW9 ?kKW9 ?k6W9 ?k7W9 ?k8W9 ?kVW9 ?kXW9 ?kQW9 ?kMW9 ?kNW9 ?kDW9 ?kRW9 ?kPW9 ?kSW9 ?kTW9 ?kBW9 ?_ ?c2W9 ?c3W9 ?c4W9 ?c5W9; (case kAW9 => exact rfl); (case kFW9 => exact rfl); (case kKW9 => first | exact rfl | assumption); (case k1W9 => k_asm); (case k2W9 => k_asm); (case k3W9 => k_asm); (case k4W9 => k_asm); (case k5W9 => k_asm); (case k6W9 => k_is); (case k7W9 => k_is); (case k8W9 => k_room); (case kVW9 => kp_lit); (case kXW9 => kp_lit); (case kQW9 => exact rfl); (case kMW9 => exact rfl); (case kNW9 => exact rfl); (case kDW9 => kp_flats); (case kRW9 => exact rfl); (case kPW9 => exact rfl); (case kSW9 => exact fun _ => rfl); (case kTW9 => exact fun _ _ => rfl); (case kBW9 => exact fun _ _ => locs rfl); (case c5W9 => decide); (case c2W9 => exact rfl); (case c3W9 => exact rfl); (case c4W9 => exact rfl); k_whole; intro C'W9 D'W9 o'W9 g'W9 L'W9 h'W9 tk'W9 l1W9 l2W9 lo'W9 hs'W9 fs'W9 FG'W9 F'W9 N'W9 B'W9 X'W9 T'W9; (try k_lt l1W9); (try k_lt2 l2W9); (try dsimp only); (try k_lift B'W9); (try k_fold))))
  k_with "my call builtin:object.__new__" => ((k_here; k_dflt ((refine' new623_K ?FW9 ?XW9 ?NW9 ?_; (case FW9 => k_asm); (case XW9 => k_asm); (case NW9 => k_asm); k_whole; intro x'W9 d'W9 h'W9 F'W9 N'W9 l1W9 l2W9; (try k_lt l1W9); (try k_lt2 l2W9); (try k_sweep)))))
  k_with "my k_all" => (first | exact allNe (by assumption) | exact allNe' (by assumption) | exact allNeT (by assumption) (by first | assumption | omega))
  k_with "my call type:collections.deque" => ((k_here; k_dflt ((refine' dq_make ?FW9 ?NW9 ?_; (case FW9 => k_asm); (case NW9 => k_asm); k_whole; intro h'W9 a'W9 F'W9 N'W9 l1W9; (try k_lt l1W9); (try k_sweep)))))
  k_with "my truthy ref" => ((k_here; k_dflt (refine' dq_truthy ?NW9 ?mW9 ?xW9 ?_; (case NW9 => k_asm); (case mW9 => k_mem); (case xW9 => exact Nat.le_of_ble_eq_true rfl); k_whole; intro k'W9)))
  k_with "my getMethod ref" => ((k_here; k_dflt (first
    | (refine' dq_meth ?NW9 ?mW9 slot_dq_append dq_type_append ?_; (case NW9 => k_asm); (case mW9 => k_mem); k_whole)
    | (refine' dq_meth ?NW9 ?mW9 slot_dq_pop dq_type_pop ?_; (case NW9 => k_asm); (case mW9 => k_mem); k_whole))))
  k_with "my call builtin:collections.deque.append" => ((k_here; k_dflt ((refine' dq_append ?FW9 ?NW9 ?UW9 ?xW9 ?_; (case FW9 => k_asm); (case NW9 => k_asm); (case UW9 => k_upd); (case xW9 => exact Nat.le_of_ble_eq_true rfl); k_whole; intro h'W9 F'W9 N'W9; (try k_sweep)))))
  k_with "my call builtin:collections.deque.pop" => ((k_here; k_dflt ((refine' dq_pop (xs := []) ?FW9 ?NW9 ?UW9 ?xW9 ?_; (case FW9 => k_asm); (case NW9 => k_asm); (case UW9 => k_upd); (case xW9 => exact Nat.le_of_ble_eq_true rfl); k_whole; intro h'W9 F'W9 N'W9; (try k_sweep)))))
  k_with "my call ref" => ((k_here; (with_reducible show wpAny _ _ (call (Value.ref 623) [Value.str (Str.mk (List.toArray _)) _]) _ _ _); k_dflt ((refine' at_use (sio_ok _ _ _ ?lW9) ?hdW9 ?huW9 ?BW9 ?FW9 ?XW9 ?NW9 ?TW9 ?kkW9 _ _ ?_; (case lW9 => assumption); (case BW9 => k_asm); (case FW9 => k_asm); (case XW9 => k_asm); (case NW9 => k_asm); (case TW9 => k_asm); (case kkW9 => first | exact rfl | assumption); (case hdW9 => k_room); (case huW9 => k_units); k_whole; intro x'W9 d'W9 k1'W9 k2'W9 k3'W9 tb'W9 tp'W9 h'W9 tk'W9 F'W9 N'W9 l1W9 l2W9; (try k_lt l1W9); (try k_lt2 l2W9); (try k_sweep)))))
  k_with "my getMethod str" => ((k_here; (with_reducible show wpAny _ _ (getMethod (Value.str _ _) (Str.ofString "maketrans") _) _ _ _); k_dflt ((refine' gm_maketrans ?_; intro k'W9))))
  k_with "my getMethod type:dict" => ((k_here; (with_reducible show wpAny _ _ (getMethod _ (Str.ofString "fromkeys") _) _ _ _); k_dflt ((refine' fk_getm ?FW9 ?NW9 ?XW9 ?_; (case FW9 => k_asm); (case NW9 => k_asm); (case XW9 => k_asm); k_whole; intro x'W9 h'W9 F'W9 N'W9 l1W9; (try k_lt l1W9); (try k_sweep)))))
  k_with "my callWith ref" => ((k_here; k_dflt (refine' callWith_fk ?XW9 ?NW9 ?mW9 ?_; (case XW9 => k_asm); (case NW9 => k_asm); (case mW9 => k_mem); k_whole)))
  k_with "my And" => (((with_reducible show Heap.get? _ _ = some fkBound ∧ _); k_dflt ((refine' ⟨News.get ?NW9 ?mW9, ?_⟩; (case NW9 => k_asm); (case mW9 => k_mem)))))
  k_with "my call ref" => ((k_here; (with_reducible show wpAny _ _ (call (Value.ref _) [Value.str (Str.ofString ".") _]) _ _ _); k_dflt (refine' fk_K ?FW9 ?NW9 ?mW9 ?hhW9 ?bW9 ?_; (case FW9 => k_asm); (case NW9 => k_asm); (case mW9 => k_mem); (case hhW9 => exact rfl); (case bW9 => exact big_of (by assumption)); k_whole; intro d'W9 o'W9 h'W9 tk'W9 F'W9 N'W9 hi'W9 hS'W9 l1W9; (try k_lt l1W9); (try k_sweep))))
  k_with "my call builtin:str.maketrans" => ((k_here; k_dflt ((refine' tr_K ?FW9 ?NW9 ?mW9 ?iW9 ?SW9 ?bW9 ?_; (case FW9 => k_asm); (case NW9 => k_asm); (case mW9 => k_mem); (case iW9 => assumption); (case SW9 => assumption); (case bW9 => exact big_of (by assumption)); k_whole; intro d'W9 o'W9 h'W9 tk'W9 F'W9 N'W9 hi'W9 hS'W9 l1W9; (try k_lt l1W9); (try k_sweep)))))
  k_with "my call builtin:str.translate" => ((k_here; k_dflt ((refine' tl_K ?FW9 ?NW9 ?hhW9 ?mW9 ?iW9 ?SW9 ?_; (case FW9 => k_asm); (case NW9 => k_asm); (case hhW9 => exact rfl); (case mW9 => k_mem); (case iW9 => assumption); (case SW9 => assumption); k_whole; intro t'W9 h'W9 tk'W9 F'W9 N'W9; (try k_sweep)))))
  k_with "my getMethod str" => ((k_here; (with_reducible show wpAny _ _ (getMethod (Value.str _ _) (Str.ofString "translate") _) _ _ _); k_dflt ((refine' gm_translate ?_))))
  k_with "my call ref" => ((k_here; (with_reducible show wpAny _ _ (call (Value.ref 569) [Value.ref _, Value.int 1 _]) _ _ _); k_dflt ((first
    | (refine' read_K ?NW9 ?FW9 ?okW9 ?hbW9 ?hcW9 ?offW9 ?BW9 ?XW9 ?TW9 ?kkW9 ?hdW9 ?huW9 ?_; (case NW9 => k_asm); (case FW9 => k_asm); (case okW9 => constructor <;> assumption); (case hbW9 => assumption); (case hcW9 => assumption); (case offW9 => assumption); (case BW9 => k_asm); (case XW9 => k_asm); (case TW9 => k_asm); (case kkW9 => first | exact rfl | assumption); (case hdW9 => k_room); (case huW9 => k_units); k_whole; intro t'W9 tp'W9 h'W9 tk'W9 F'W9 N'W9; (try k_sweep))
    | (refine' read_KE ?NW9 ?FW9 ?okW9 ?hbW9 ?hcW9 ?offW9 ?BW9 ?XW9 ?TW9 ?kkW9 ?hdW9 ?huW9 ?_; (case NW9 => k_asm); (case FW9 => k_asm); (case okW9 => constructor <;> assumption); (case hbW9 => assumption); (case hcW9 => assumption); (case offW9 => assumption); (case BW9 => k_asm); (case XW9 => k_asm); (case TW9 => k_asm); (case kkW9 => first | exact rfl | assumption); (case hdW9 => k_room); (case huW9 => k_units); k_whole; intro t'W9 h'W9 tk'W9 F'W9 N'W9; (try k_sweep))))))
  k_with "my compareOp In str str" => ((k_here; first
    | (refine' in_is false ?eW9 ?_; (case eW9 => first | with_reducible assumption | decide +kernel))
    | (refine' in_is true ?eW9 ?_; (case eW9 => first | with_reducible assumption | decide +kernel))))
  k_with "my compareOp NotIn str str" => ((k_here; first
    | (refine' notin_is false ?eW9 ?_; (case eW9 => first | with_reducible assumption | decide +kernel))
    | (refine' notin_is true ?eW9 ?_; (case eW9 => first | with_reducible assumption | decide +kernel))))
  k_with "my compareOp Eq str str" => ((k_here; first
    | (refine' eq_is false ?eW9 ?_; (case eW9 => first | with_reducible assumption | decide +kernel))
    | (refine' eq_is true ?eW9 ?_; (case eW9 => first | with_reducible assumption | decide +kernel))))
  k_with "my exec If" => ((refine wpAny_If ?_))
  k_with "my truthy ref" => ((k_here; k_dflt (first
    | (refine' dq_false ?NW9 ?mW9 ?_; (case NW9 => k_asm); (case mW9 => k_mem); k_whole; intro k'W9)
    | (refine' dq_true ?NW9 ?mW9 ?_; (case NW9 => k_asm); (case mW9 => k_mem); k_whole; intro k'W9))))
  k_with "my call ref" => ((k_here; (try with_reducible refine call_nil ?_); (try dsimp only); (with_reducible show wpAny _ _ (call (Value.ref 719) [Value.ref _]) _ _ _); (with_reducible rename LexCall _ _ _ 719 _ _ _ _ _ => hC9W9); k_dflt ((refine' at_use hC9W9 ?hdW9 ?huW9 ?BW9 ?FW9 ?XW9 ?NW9 ?TW9 ?kkW9 _ (by assumption) rfl _ _ ?_; (case BW9 => k_asm); (case FW9 => k_asm); (case XW9 => k_asm); (case NW9 => k_asm); (case TW9 => k_asm); (case kkW9 => first | exact rfl | assumption); (case hdW9 => k_room); (case huW9 => k_units); k_whole; intro r'W9 c'W9 h'W9 tk'W9 F'W9 N'W9 hR'W9; obtain ⟨sv'W9, tok'W9, tt'W9, line'W9, tl'W9, pos'W9, tp'W9, pn'W9, pushed'W9⟩ := c'W9; obtain ⟨t'W9, hv9W9⟩ := wordR_of (by assumption) hR'W9; subst hv9W9; simp only [List.cons_append, List.nil_append] at N'W9; (try k_sweep)))))
  trivial

set_option maxHeartbeats 8000000 in
theorem next_word (w : World) (ℓ : LexA) (ok : ℓ.Ok) (buf : List Nat) (c : LexC) (x : Str) (R : Value → LexC → Prop) (C : LexCall w ℓ buf 719 460 4600 [.ref ℓ.x] c R) (hR9 : WordR R x) :
    LexCall w ℓ buf 755 450 4500 [.ref ℓ.x] c R := by
  w_strict (
  unfold LexCall AtAny
  k_fill
  intro dp un p loose mean mg mb news gd cn cs a ccd cl outer A₀ base h₀ L m s hdp hun B F X N T hk rest off en Q E hret
  subst en
  have ok9 := ok
  obtain ⟨o1, o2, o3, o4, o5, o6⟩ := ok
  obtain ⟨sv, tok, tt, line, tl, pos, tp, pn, pushed⟩ := c
  simp only [List.cons_append, List.nil_append] at N
  refine wpAny_call ?_
  (k_dflt k_enter)
  k_steps
  all_goals exact hret _ ⟨_, _, _, _, _, _, _, _, _⟩ _ _ (by k_asm) (by first | exact news_tail (by k_asm) | k_asm) (by assumption)
  )
end OyMine
end
section
open PySem PySem.W PyProof.Rows PySem.Builtin PySem.Builtin.Str
set_option maxRecDepth 100000
set_option genInjectivity false
set_option genSizeOf false
set_option genSizeOfSpec false
namespace OyMine
noncomputable def crlf : List Nat → List Nat
  | [] => []
  | c :: r => if c = 13 then (match r with
      | 10 :: r' => 10 :: crlf r'
      | r => 13 :: crlf r)
    else c :: crlf r
theorem crlf_yes (r : List Nat) : crlf (13 :: 10 :: r) = 10 :: crlf r := by
  conv => lhs; rw [crlf.eq_def]
  rfl
theorem crlf_no {c : Nat} {r : List Nat} (h : ¬ (c = 13 ∧ ∃ r', r = 10 :: r')) : crlf (c :: r) = c :: crlf r := by
  conv => lhs; rw [crlf.eq_def]
  by_cases e : c = 13
  · subst e
    cases r with
    | nil => rfl
    | cons u v =>
      show (if 13 = 13 then (match u :: v with | 10 :: r' => 10 :: crlf r' | r => 13 :: crlf r) else _) = _
      rw [if_pos rfl]
      split
      · rename_i r' e
        exact absurd ⟨rfl, r', e⟩ h
      · rfl
  · show (if c = 13 then _ else c :: crlf r) = _
    rw [if_neg e]
theorem crlf_plain : ∀ (n : Nat) (l : List Nat), (∀ j, j < n → ¬ (l[j]? = some 13 ∧ l[j + 1]? = some 10)) → crlf l = l.take n ++ crlf (l.drop n)
  | 0, l, _ => rfl
  | n + 1, [], _ => by simp [crlf]
  | n + 1, c :: r, h => by
    have h0 := h 0 (by omega)
    rw [crlf_no, crlf_plain n r fun j hj => by have := h (j + 1) (by omega); simpa using this]
    · rfl
    · rintro ⟨rfl, r', rfl⟩
      exact h0 ⟨rfl, rfl⟩
theorem crlf_str : Str.ofString "\r\n" = mk [13, 10] := by decide +kernel
theorem cr_str : Str.ofString "\r" = mk [13] := by decide +kernel
theorem lf_str : Str.ofString "\n" = mk [10] := by decide +kernel
theorem at_crlf (x : Str) (k : Nat) : StrLaws.At x (mk [13, 10]) x.length k ↔ (x.cps.toList[k]? = some 13 ∧ x.cps.toList[k + 1]? = some 10) := by
  unfold StrLaws.At
  rw [StrLaws.subAt_eq]
  have e2 : (mk [13, 10]).length = 2 := rfl
  have el : x.cps.toList.length = x.length := Array.length_toList
  rw [e2]
  show (k + 2 ≤ x.length ∧ ((x.cps.toList.drop k).take 2 == [13, 10]) = true) ↔ _
  rw [beq_iff_eq]
  constructor
  · rintro ⟨h1, h2⟩
    have a := congrArg (fun l => l[0]?) h2
    have b := congrArg (fun l => l[1]?) h2
    simp at a b
    exact ⟨by simpa using a, by simpa using b⟩
  · rintro ⟨h1, h2⟩
    have l2 := (List.getElem?_eq_some_iff.mp h2).1
    refine ⟨by omega, ?_⟩
    rw [List.drop_eq_getElem_cons (by omega : k < x.cps.toList.length), List.drop_eq_getElem_cons (by omega : k + 1 < x.cps.toList.length)]
    rw [(List.getElem?_eq_some_iff.mp h1).2, (List.getElem?_eq_some_iff.mp h2).2]
    rfl
theorem crlf_parts (x : Str) : ∀ (cuts : List Nat) (a f : Nat), StrLaws.ChainG x (mk [13, 10]) x.length a cuts f → (∀ k, f ≤ k → ¬ StrLaws.At x (mk [13, 10]) x.length k) →
    (Str.join (mk [10]) (StrLaws.partsFrom x 2 a cuts)).cps.toList = crlf (x.cps.toList.drop a)
  | [], a, f, h, hn => by
    have e : f = a := h
    subst e
    show (strSub x f x.length).cps.toList = _
    have el : x.cps.toList.length = x.length := Array.length_toList
    rw [StrLaws.strSub_toList, crlf_plain (x.length - f) _ fun j hj => ?_]
    · have e0 : x.cps.toList.drop (f + (x.length - f)) = [] := List.drop_eq_nil_of_le (by omega)
      rw [List.drop_drop, e0]
      show _ = _ ++ []
      rw [List.append_nil]
    · rw [List.getElem?_drop, List.getElem?_drop, ← Nat.add_assoc, ← at_crlf]
      exact hn _ (by omega)
  | c :: r, a, f, h, hn => by
    obtain ⟨h1, h2, h3, h4⟩ := h
    have h4' : StrLaws.ChainG x (mk [13, 10]) x.length (c + 2) r f := h4
    have ih := crlf_parts x r (c + 2) f h4' hn
    have h2' := (at_crlf x c).mp h2
    have el : x.cps.toList.length = x.length := Array.length_toList
    have l2 := (List.getElem?_eq_some_iff.mp h2'.2).1
    obtain ⟨p, q, e⟩ := StrLaws.partsFrom_ne x 2 (c + 2) r
    show (Str.join (mk [10]) (strSub x a c :: StrLaws.partsFrom x 2 (c + 2) r)).cps.toList = _
    rw [e] at ih ⊢
    have ej : (Str.join (mk [10]) (strSub x a c :: p :: q)).cps.toList = (strSub x a c).cps.toList ++ 10 :: (Str.join (mk [10]) (p :: q)).cps.toList := by
      show ((strSub x a c ++ mk [10] ++ Str.join (mk [10]) (p :: q)).cps).toList = _
      rw [Str.cps_append, Str.cps_append, Array.toList_append, Array.toList_append]
      simp
    rw [ej, ih, StrLaws.strSub_toList, crlf_plain (c - a) (x.cps.toList.drop a) fun j hj => ?_]
    · rw [List.drop_drop, show a + (c - a) = c by omega, List.drop_eq_getElem_cons (by omega : c < x.cps.toList.length), List.drop_eq_getElem_cons (by omega : c + 1 < x.cps.toList.length)]
      rw [(List.getElem?_eq_some_iff.mp h2'.1).2, (List.getElem?_eq_some_iff.mp h2'.2).2, crlf_yes]
    · rw [List.getElem?_drop, List.getElem?_drop, ← Nat.add_assoc, ← at_crlf]
      exact h3 _ (by omega) (by omega)
theorem replace_crlf (x : Str) : Txt.replace x "\r\n" "\n" = mk (crlf x.cps.toList) := by
  rw [crlf_str, lf_str]
  obtain ⟨f, hG, hn⟩ := StrLaws.occ_tight x (mk [13, 10]) (by decide)
  have e2 : (mk [13, 10]).length = 2 := rfl
  unfold Txt.replace
  rw [e2, show ((2 : Nat) == 0) = false from rfl, Bool.false_and, Bool.or_false]
  cases he : (occurrences x (mk [13, 10]) 0 x.length (x.length + 1)).isEmpty
  · rw [if_neg Bool.false_ne_true, StrLaws.glued_eq_join, StrLaws.partsBetween_eq]
    refine mk_of ?_
    exact crlf_parts x _ 0 f hG hn
  · rw [if_pos rfl]
    have e0 : occurrences x (mk [13, 10]) 0 x.length (x.length + 1) = [] := List.isEmpty_iff.mp he
    rw [e0] at hG
    have ef : f = 0 := hG
    subst ef
    refine mk_of ?_
    have := crlf_parts x [] 0 0 rfl hn
    rw [List.drop_zero] at this
    rw [← this]
    show _ = (strSub x 0 x.length).cps.toList
    rw [StrLaws.sub_whole]
/-- the parts between the signs c -/
noncomputable def splitL (c : Nat) : List Nat → List (List Nat)
  | [] => [[]]
  | x :: r => if x = c then [] :: splitL c r else match splitL c r with
    | [] => [[x]]
    | p :: ps => (x :: p) :: ps
theorem splitL_ne (c : Nat) : ∀ l, ∃ p ps, splitL c l = p :: ps
  | [] => ⟨_, _, rfl⟩
  | x :: r => by
    obtain ⟨p, ps, e⟩ := splitL_ne c r
    rw [splitL, e]
    split
    · exact ⟨_, _, rfl⟩
    · exact ⟨_, _, rfl⟩
theorem splitL_self (c : Nat) (r : List Nat) : splitL c (c :: r) = [] :: splitL c r := by rw [splitL, if_pos rfl]
theorem splitL_other {c x : Nat} (h : x ≠ c) {r p : List Nat} {ps : List (List Nat)} (e : splitL c r = p :: ps) : splitL c (x :: r) = (x :: p) :: ps := by rw [splitL, if_neg h, e]
theorem splitL_free {c : Nat} : ∀ p : List Nat, c ∉ p → splitL c p = [p]
  | [], _ => rfl
  | x :: p, h => by
    have ih := splitL_free p fun q => h (List.mem_cons_of_mem _ q)
    exact splitL_other (fun e => h (by rw [e]; exact List.mem_cons_self ..)) ih
theorem splitL_app {c : Nat} (r : List Nat) : ∀ p : List Nat, c ∉ p → splitL c (p ++ c :: r) = p :: splitL c r
  | [], _ => splitL_self c r
  | x :: p, h => by
    have ih := splitL_app r p fun q => h (List.mem_cons_of_mem _ q)
    exact splitL_other (fun e => h (by rw [e]; exact List.mem_cons_self ..)) ih
theorem splitL_join (c : Nat) : ∀ ps : List Str, ps ≠ [] → (∀ p ∈ ps, c ∉ p.cps.toList) → splitL c (Str.join (mk [c]) ps).cps.toList = ps.map (·.cps.toList)
  | [], h, _ => absurd rfl h
  | [x], _, hf => by
    show splitL c x.cps.toList = _
    rw [splitL_free _ (hf x (List.mem_cons_self ..))]
    rfl
  | x :: y :: r, _, hf => by
    have ej : (Str.join (mk [c]) (x :: y :: r)).cps.toList = x.cps.toList ++ c :: (Str.join (mk [c]) (y :: r)).cps.toList := by
      show ((x ++ mk [c] ++ Str.join (mk [c]) (y :: r)).cps).toList = _
      rw [Str.cps_append, Str.cps_append, Array.toList_append, Array.toList_append]
      simp
    rw [ej, splitL_app _ _ (hf x (List.mem_cons_self ..)), splitL_join c (y :: r) (by simp) fun p hp => hf p (List.mem_cons_of_mem _ hp)]
    rfl
theorem split_ne (x y : Str) : Txt.split x y ≠ [] := by
  unfold Txt.split
  split
  · simp
  · split
    · simp
    · rw [StrLaws.partsBetween_eq]
      obtain ⟨p, q, e⟩ := StrLaws.partsFrom_ne x y.length 0 (occurrences x y 0 x.length (x.length + 1))
      rw [e]; simp
theorem split_one (x : Str) (c : Nat) : Txt.split x (mk [c]) = (splitL c x.cps.toList).map mk := by
  have h := splitL_join c (Txt.split x (mk [c])) (split_ne _ _) (StrLaws.split_free x c)
  rw [StrLaws.join_split] at h
  rw [h, List.map_map]
  have : (mk ∘ fun x : Str => x.cps.toList) = _root_.id := by
    funext x
    exact (mk_of rfl).symm
  rw [this, List.map_id]
theorem join_mk (sep : List Nat) : ∀ (p : List Nat) (ps : List (List Nat)), Str.join (mk sep) ((p :: ps).map mk) = mk (p ++ (ps.map fun q => sep ++ q).flatten)
  | p, ps => by
    refine mk_of ?_
    rw [List.map_cons, join_toList]
    simp [List.map_map, Function.comp_def]
noncomputable def cr (l : List Nat) : List Nat := l.map fun c => if c = 13 then 10 else c
theorem cr_split : ∀ l : List Nat, ∀ p ps, splitL 13 l = p :: ps → p ++ (ps.map fun q => [10] ++ q).flatten = cr l
  | [], p, ps, e => by
    obtain ⟨rfl, rfl⟩ := List.cons.inj e.symm
    rfl
  | x :: r, p, ps, e => by
    obtain ⟨p', ps', e'⟩ := splitL_ne 13 r
    have ih := cr_split r p' ps' e'
    by_cases h : x = 13
    · subst h
      rw [splitL_self, e'] at e
      obtain ⟨rfl, rfl⟩ := List.cons.inj e.symm
      rw [List.map_cons, List.flatten_cons, List.append_assoc, ih]
      simp [cr]
    · rw [splitL_other h e'] at e
      obtain ⟨rfl, rfl⟩ := List.cons.inj e.symm
      rw [List.cons_append, ih]
      simp [cr, h]
theorem replace_cr (m : List Nat) : Txt.replace (mk m) "\r" "\n" = mk (cr m) := by
  rw [cr_str, lf_str]
  show Txt.replace (mk m) ⟨#[13]⟩ (mk [10]) = _
  rw [StrLaws.replace_one]
  show Str.join (mk [10]) (Txt.split (mk m) (mk [13])) = _
  rw [split_one, mk_list]
  obtain ⟨p, ps, e⟩ := splitL_ne 13 m
  rw [e, join_mk, cr_split m p ps e]
/-- a text with plain row ends -/
noncomputable def lf (l : List Nat) : List Nat := cr (crlf l)
noncomputable def wide (l : List Nat) : List Nat := (l.map fun c => if c = 10 then [13, 10] else [c]).flatten
theorem nl_wide : ∀ l, nl l = wide (lf l) := by
  refine nl_ind ?_ ?_ ?_ ?_ ?_
  · rfl
  · intro r ih
    rw [nl_13_10, ih, lf, lf, crlf_yes]
    rfl
  · intro r ih hr
    rw [nl_13 hr, ih, lf, lf, crlf_no fun ⟨_, r', e⟩ => hr r' e]
    rfl
  · intro r ih
    rw [nl_10, ih, lf, lf, crlf_no fun h => absurd h.1 (by decide)]
    rfl
  · intro c r h1 h2 ih
    rw [nl_other h1 h2, ih, lf, lf, crlf_no fun h => h1 h.1]
    simp [cr, wide, h1, h2]
noncomputable def dotted (d : Nat) (p : List Nat) : List Nat := if p.head? = some 46 then List.replicate d 46 ++ p else p
theorem ins_split (d : Nat) : ∀ (m : List Nat), 13 ∉ m → ∀ p ps, splitL 10 m = p :: ps →
    ins d false (wide m) = p ++ ((ps.map (dotted d)).map fun q => [13, 10] ++ q).flatten ∧ ins d true (wide m) = dotted d p ++ ((ps.map (dotted d)).map fun q => [13, 10] ++ q).flatten
  | [], _, p, ps, e => by
    obtain ⟨rfl, rfl⟩ := List.cons.inj e.symm
    exact ⟨rfl, rfl⟩
  | x :: r, h, p, ps, e => by
    obtain ⟨p', ps', e'⟩ := splitL_ne 10 r
    obtain ⟨i1, i2⟩ := ins_split d r (fun q => h (List.mem_cons_of_mem _ q)) p' ps' e'
    by_cases h10 : x = 10
    · subst h10
      rw [splitL_self, e'] at e
      obtain ⟨rfl, rfl⟩ := List.cons.inj e.symm
      have ew : wide (10 :: r) = 13 :: 10 :: wide r := by simp [wide]
      have two : ∀ b : Bool, ins d b (13 :: 10 :: wide r) = 13 :: 10 :: ins d true (wide r) := by
        intro b
        rw [ins_other (by simp), ins_other (by simp)]
        rfl
      rw [ew, two, two, i2]
      simp [dotted]
    · rw [splitL_other h10 e'] at e
      obtain ⟨rfl, rfl⟩ := List.cons.inj e.symm
      have ew : wide (x :: r) = x :: wide r := by simp [wide, h10]
      have hx : (x == 10) = false := by simpa using h10
      rw [ew]
      refine ⟨?_, ?_⟩
      · rw [ins_other (by simp), hx, i1]; rfl
      · by_cases h46 : x = 46
        · subst h46
          rw [ins_dot, i1]
          simp [dotted]
        · rw [ins_other (by simpa using h46), hx, i1]
          simp [dotted, h46]
theorem lf_13 (l : List Nat) : 13 ∉ lf l := by
  unfold lf cr
  intro h
  obtain ⟨c, _, e⟩ := List.mem_map.mp h
  by_cases q : c = 13
  · rw [if_pos q] at e; exact absurd e (by decide)
  · rw [if_neg q] at e; exact q e
theorem split_count : ∀ (m p : List Nat) (ps : List (List Nat)), splitL 10 m = p :: ps → ps.length = m.count 10
  | [], p, ps, e => by
    obtain ⟨rfl, rfl⟩ := List.cons.inj e.symm
    rfl
  | x :: r, p, ps, e => by
    obtain ⟨p', ps', e'⟩ := splitL_ne 10 r
    have ih := split_count r p' ps' e'
    by_cases h10 : x = 10
    · subst h10
      rw [splitL_self, e'] at e
      obtain ⟨rfl, rfl⟩ := List.cons.inj e.symm
      rw [List.length_cons, ih, List.count_cons_self]
    · rw [splitL_other h10 e'] at e
      obtain ⟨rfl, rfl⟩ := List.cons.inj e.symm
      rw [ih, List.count_cons_of_ne h10]
theorem wide_count : ∀ m : List Nat, (wide m).count 10 = m.count 10
  | [] => rfl
  | x :: r => by
    have ih := wide_count r
    by_cases h10 : x = 10
    · subst h10
      have ew : wide (10 :: r) = 13 :: 10 :: wide r := by simp [wide]
      rw [ew, List.count_cons_of_ne (by decide), List.count_cons_self, List.count_cons_self, ih]
    · have ew : wide (x :: r) = x :: wide r := by simp [wide, h10]
      rw [ew, List.count_cons_of_ne h10, List.count_cons_of_ne h10, ih]
theorem nrows_split {l p : List Nat} {ps : List (List Nat)} (e : splitL 10 (lf l) = p :: ps) : nrows l = ps.length + 1 := by
  unfold nrows
  rw [nl_wide, wide_count, split_count _ _ _ e]
  omega
/-- the label as the walk makes it of its rows -/
theorem labd_split {d : Nat} {l p : List Nat} {ps : List (List Nat)} (e : splitL 10 (lf l) = p :: ps) : labd d l = p ++ ((ps.map (dotted d)).map fun q => [13, 10] ++ q).flatten := by
  unfold labd
  rw [nl_wide]
  exact (ins_split d (lf l) (lf_13 l) p ps e).1
theorem crlf_len : ∀ (n : Nat) (l : List Nat), l.length ≤ n → (crlf l).length ≤ l.length
  | 0, l, h => by rw [List.length_eq_zero_iff.mp (by omega : l.length = 0)]; exact Nat.le_refl _
  | n + 1, [], _ => Nat.le_refl _
  | n + 1, c :: r, h => by
    rw [List.length_cons] at h
    by_cases q : c = 13 ∧ ∃ r', r = 10 :: r'
    · obtain ⟨rfl, r', rfl⟩ := q
      rw [crlf_yes]
      have := crlf_len n r' (by simp at h; omega)
      simp only [List.length_cons]; omega
    · rw [crlf_no q]
      have := crlf_len n r (by omega)
      simp only [List.length_cons]; omega
theorem cr_len (l : List Nat) : (cr l).length = l.length := List.length_map ..
theorem lf_len (l : List Nat) : (lf l).length ≤ l.length := by
  unfold lf
  rw [cr_len]
  exact crlf_len _ l (Nat.le_refl _)
end OyMine
end
section
open PySem PySem.W PyProof.Rows PySem.Builtin PySem.Builtin.Re
set_option maxRecDepth 100000
set_option genInjectivity false
set_option genSizeOf false
set_option genSizeOfSpec false
namespace OyMine
section
variable {news : List (Addr × Obj)} {v : Value} {vs : List Value} {d : Dat} {ds : List Dat}
theorem inv_cons (h : DatAll news vs (d :: ds)) : ∃ v ws, vs = v :: ws ∧ DatIn news v d ∧ DatAll news ws ds := by
  cases h with
  | cons a b => exact ⟨_, _, rfl, a, b⟩
theorem inv_nil (h : DatAll news vs []) : vs = [] := by cases h; rfl
theorem inv_int {i : Int} (h : DatIn news v (.int i)) : ∃ t, v = .int i t := by cases h; exact ⟨_, rfl⟩
theorem inv_str {x : Str} (h : DatIn news v (.str x)) : ∃ t, v = .str x t := by cases h; exact ⟨_, rfl⟩
theorem inv_tuple (h : DatIn news v (.tuple ds)) : ∃ a vs n, v = .ref a ∧ (a, ({ cls := .type "tuple", data := .seq (List.toArray vs) n } : Obj)) ∈ news ∧ DatAll news vs ds := by
  cases h with
  | tuple a b => exact ⟨_, _, _, rfl, a, b⟩
theorem inv_list (h : DatIn news v (.list ds)) : ∃ a vs n, v = .ref a ∧ (a, listOf (List.toArray vs) n) ∈ news ∧ DatAll news vs ds := by
  cases h with
  | list a b => exact ⟨_, _, _, rfl, a, b⟩
end
noncomputable def Row.dat (r : Row) : Dat := .tuple [.int (r.dots : Int), .int r.par, .str (OyMine.mk r.lab), .int (r.line : Int)]
noncomputable def told (rs : List Row) : List Dat := rs.map Row.dat
noncomputable abbrev adrs (l : List (Addr × Obj)) : List Addr := l.map (·.1)
/-- a call that adds rows to the list of what is told -/
noncomputable def Walks (w : World) (T : TreeAt) (D U : Nat) (td : Addr) (args : List Value) (rs rs' : List Row) : Prop :=
  AtAny w D U fun A h₀ L m news s => ∀ (vs : List Value) (n : Nat) (base rest : List (Addr × Obj)), news = (td, listOf vs.toArray n) :: rest → OwnOff rest [td] → (∀ q ∈ T.objs, q ∈ rest) → (∀ q ∈ base, q ∈ rest) → DatAll base vs (told rs) →
    ∀ Q E : Value → Shared → Prop,
    (∀ vs' n' own h' tk', Fr h₀ L h' m → News h₀ L h' ((td, listOf vs'.toArray n') :: (own ++ rest)) → OwnOff own (td :: adrs rest) → DatAll (own ++ base) vs' (told rs') → Q (.ref td) { s with heap := h', toks := tk' }) →
    wpAny (model PySem.Challenge.rw_oy0315_01.row.prog w) A (call (.ref 787) args) Q E s
noncomputable def Walk (w : World) (T : TreeAt) (node : Nat) : Prop := ∀ (td : Addr) (t1 t2 t3 : Tok) (parent : Int) (d : Nat) (rs : List Row), d ≤ 10 + node → rs.length + 2 ^ (4 - node) ≤ 16 →
  Walks w T (400 + 20 * node) (4000 + 200 * node) td [.ref td, .ref T.t, .int (node : Int) t1, .int parent t2, .int (d : Int) t3] rs (T.walked node parent d rs)
/-- the end of a turn that adds to what is told -/
noncomputable def TellPost (h₀ : Heap) (L td : Addr) (x : Str) (m₀ : Str → Option Value) (base rest : List (Addr × Obj)) (rs : List Row) (s : Shared) (f : Flow) (s₂ : Shared) : Prop :=
  (f = .next ∨ f = .cont) ∧ ∃ h' tk' m' vs n own, s₂ = { s with heap := h', toks := tk' } ∧ Fr h₀ L h' m' ∧ (∀ z, z ≠ x → m' z = m₀ z) ∧ News h₀ L h' ((td, listOf (List.toArray vs) n) :: (own ++ rest)) ∧ OwnOff own (td :: adrs rest) ∧ DatAll (own ++ base) vs (told rs)
section
variable {prog : Program} {w : World} {A : Around} {E : Value → Shared → Prop} {s : Shared} {env : Env} {h₀ : Heap} {x : Str} {body : List Stmt} {Q : Flow → Shared → Prop}
theorem range_told {n₁ : Nat} {r td : Addr} {a₀ b₀ : Int} {t₀ u₀ v₀ : Tok} {n : Nat} {m₀ : Str → Option Value} {base rest : List (Addr × Obj)} {vs₀ : List Value} {n₀ : Nat} (W : Nat → List Row) (a : Nat) (ha : a₀ = (a : Int))
    (hh : A.handled = none) (hr : IsRange s.heap r a₀ b₀ 1 t₀ u₀ v₀) (hsmall : Builtin.Range.small a₀ b₀ 1 = true) (hn : Builtin.Range.rangeSize a₀ b₀ 1 = (n : Int)) (F : Fr h₀ env.locals s.heap m₀)
    (N : News h₀ env.locals s.heap ((td, listOf (List.toArray vs₀) n₀) :: rest)) (hoff : OwnOff rest [td]) (hb : ∀ q ∈ base, q ∈ rest) (hD : DatAll base vs₀ (told (W 0)))
    (turn : ∀ (i : Nat) t h tk vs n base' rest', (a : Int) + i < b₀ → OwnOff rest' [td] → (∀ q ∈ rest, q ∈ rest') → (∀ q ∈ base', q ∈ rest') → DatAll base' vs (told (W i)) → Fr h₀ env.locals h (fun z => if z = x then some (.int ((a + i : Nat) : Int) t) else m₀ z) → News h₀ env.locals h ((td, listOf (List.toArray vs) n) :: rest') →
      wpAny (model prog w) A (execs body env) (TellPost h₀ env.locals td x m₀ base' rest' (W (i + 1)) { s with heap := h, toks := tk }) E { s with heap := h, toks := tk })
    (done : ∀ vs n own (u : Str → Option Value) h tk, Fr h₀ env.locals h (fun z => if z = x then u z else m₀ z) → News h₀ env.locals h ((td, listOf (List.toArray vs) n) :: (own ++ rest)) → OwnOff own (td :: adrs rest) → DatAll (own ++ base) vs (told (W n₁)) → Q .next { s with heap := h, toks := tk }) (hn₁ : n₁ = n) :
    wpAny (model prog w) A (pyIter (.ref r)) (fun it s₂ => LoopAtV prog w A h₀ env x body Q E it s₂) E s := by
  subst hn₁
  refine tbr_invG (fun i m nx => ∃ vs k own, nx = (td, listOf (List.toArray vs) k) :: (own ++ rest) ∧ OwnOff own (td :: adrs rest) ∧ DatAll (own ++ base) vs (told (W i)) ∧ ∀ z, z ≠ x → m z = m₀ z) hh hr hsmall hn F N
    ⟨vs₀, n₀, [], rfl, fun _ h => (nomatch h), hD, fun _ _ => rfl⟩ ?_ ?_
  · rintro i k t m₁ nx h tk ol hk hoff' ⟨vs, n', own, rfl, ho, hd, hm⟩ F₁ N₁
    have hi : i < n₁ := by
      have := (List.getElem?_eq_some_iff.mp hk).1
      rwa [rangeKs_length] at this
    have e : k = ((a + i : Nat) : Int) := by
      have := (List.getElem?_eq_some_iff.mp hk).2
      simp only [rangeKs, List.getElem_map, List.getElem_range] at this
      omega
    subst e
    have em : (fun y => if y = x then some (Value.int ((a + i : Nat) : Int) t) else m₁ y) = fun y => if y = x then some (Value.int ((a + i : Nat) : Int) t) else m₀ y := by
      funext y
      by_cases h : y = x
      · rw [if_pos h, if_pos h]
      · rw [if_neg h, if_neg h, hm y h]
    rw [em] at F₁
    have hlt : (a : Int) + i < b₀ := by
      rw [ha] at hn
      unfold Builtin.Range.rangeSize at hn
      simp only [show (1 : Int) > 0 by decide, if_true] at hn
      split at hn <;> omega
    have e2 : (td, listOf (List.toArray vs) n') :: (own ++ rest) ++ ol = (td, listOf (List.toArray vs) n') :: ((own ++ rest) ++ ol) := rfl
    rw [e2] at N₁
    refine wpAny_mono (turn i t h tk vs n' (own ++ base) ((own ++ rest) ++ ol) hlt ?_ (fun q hq => List.mem_append_left _ (List.mem_append_right _ hq)) ?_ hd F₁ N₁) (fun f s₂ hp => ?_) fun _ _ z => z
    · intro p hp b hb'
      rw [List.mem_singleton.mp hb']
      rcases List.mem_append.mp hp with hp | hp
      · rcases List.mem_append.mp hp with hp | hp
        · exact ho p hp td (List.mem_cons_self ..)
        · exact hoff p hp td (List.mem_cons_self ..)
      · exact hoff' p hp (td, listOf (List.toArray vs) n') (List.mem_cons_self ..)
    · intro q hq
      rcases List.mem_append.mp hq with hq | hq
      · exact List.mem_append_left _ (List.mem_append_left _ hq)
      · exact List.mem_append_left _ (List.mem_append_right _ (hb q hq))
    · obtain ⟨hf, h', tk', m', vs', n'', own', rfl, F', hm', N', ho', hd'⟩ := hp
      have fin : TbEnd h₀ env.locals (fun m nx => ∃ vs k own, nx = (td, listOf (List.toArray vs) k) :: (own ++ rest) ∧ OwnOff own (td :: adrs rest) ∧ DatAll (own ++ base) vs (told (W (i + 1))) ∧ ∀ z, z ≠ x → m z = m₀ z) ol { s with heap := h, toks := tk } { s with heap := h', toks := tk' } := by
        refine ⟨h', tk', m', _, (td, listOf (List.toArray vs') n'') :: ((own' ++ own) ++ rest), rfl, F', N', ?_, ?_, ?_, vs', n'', own' ++ own, rfl, ?_, by rw [List.append_assoc]; exact hd', hm'⟩
        · intro p hp
          rcases List.mem_cons.mp hp with rfl | hp
          · exact List.mem_cons_self ..
          · refine List.mem_cons_of_mem _ ?_
            rcases List.mem_append.mp hp with hp | hp
            · rcases List.mem_append.mp hp with hp | hp
              · exact List.mem_append_left _ hp
              · exact List.mem_append_right _ (List.mem_append_left _ (List.mem_append_left _ hp))
            · exact List.mem_append_right _ (List.mem_append_left _ (List.mem_append_right _ hp))
        · intro p hp
          exact List.mem_cons_of_mem _ (List.mem_append_right _ (List.mem_append_right _ hp))
        · intro p hp q hq
          rcases List.mem_cons.mp hq with rfl | hq
          · exact hoff' p hp (td, listOf (List.toArray vs) n') (List.mem_cons_self ..)
          · rcases List.mem_append.mp hq with hq | hq
            · rcases List.mem_append.mp hq with hq | hq
              · exact fun e => ho' q hq p.1 (List.mem_cons_of_mem _ (List.mem_map_of_mem (List.mem_append_right _ hp))) e.symm
              · exact hoff' p hp q (List.mem_cons_of_mem _ (List.mem_append_left _ hq))
            · exact hoff' p hp q (List.mem_cons_of_mem _ (List.mem_append_right _ hq))
        · intro p hp b hb'
          rcases List.mem_append.mp hp with hp | hp
          · rcases List.mem_cons.mp hb' with rfl | hb'
            · exact ho' p hp _ (List.mem_cons_self ..)
            · obtain ⟨q, hq, rfl⟩ := List.mem_map.mp hb'
              exact ho' p hp _ (List.mem_cons_of_mem _ (List.mem_map_of_mem (List.mem_append_left _ (List.mem_append_right _ hq))))
          · exact ho p hp b hb'
      rcases hf with rfl | rfl
      · exact fin
      · exact fin
  · rintro m₁ nx h tk ⟨vs, n', own, rfl, ho, hd, hm⟩ F₁ N₁
    have em : m₁ = fun y => if y = x then m₁ y else m₀ y := by
      funext y
      by_cases h : y = x
      · rw [if_pos h]
      · rw [if_neg h, hm y h]
    rw [em] at F₁
    exact done vs n' own m₁ h tk F₁ N₁ ho hd
end
end OyMine
end
section
open PySem PySem.W PyProof.Rows PySem.Calls
set_option maxRecDepth 100000
set_option genInjectivity false
set_option genSizeOf false
set_option genSizeOfSpec false
namespace OyMine
/-- the end of a turn of a comprehension that makes a text -/
noncomputable def TextEnd (h₀ : Heap) (L : Addr) (m : Str → Option Value) (led : List (Addr × Obj)) (x : List Nat) (s : Shared) (y : Value) (s₂ : Shared) : Prop :=
  ∃ t h' tk', y = .str (mk x) t ∧ s₂ = { s with heap := h', toks := tk' } ∧ Fr h₀ L h' m ∧ News h₀ L h' led
theorem TextEnd.intro {h₀ : Heap} {L : Addr} {m : Str → Option Value} {led : List (Addr × Obj)} {x : List Nat} {s : Shared} {t : Tok} {h' : Heap} {tk' : Nat} (F : Fr h₀ L h' m) (N : News h₀ L h' led) :
    TextEnd h₀ L m led x s (.str (mk x) t) { s with heap := h', toks := tk' } := ⟨t, h', tk', rfl, rfl, F, N⟩
section
variable {prog : Program} {w : World} {A : Around} {E : Value → Shared → Prop} {s : Shared} {h₀ : Heap} {L : Addr} {m : Str → Option Value} {env : Env} {elt : PySem.Expr} {x : Str} {scope : Scope} {cl : List (Str × Addr)} {news : List (Addr × Obj)} {ax : Addr}
/-- a comprehension whose element is a text of the item, item by item -/
theorem comp_any {P : Nat → Value → Prop} {n : Nat} {Sx : List (Addr × Obj) → Prop} (hS : Sx news) {Fin : List Value → List (Addr × Obj) → Prop} (g : Nat → List Nat)
    (turn : ∀ (i : Nat) (v : Value) (ys : List Value) I oI C oC D m₂ h tk (E' : Value → Shared → Prop), i < n → P i v → LCg.NsObj oC m₂ → m₂ x = some v → Fr h₀ L h m → News h₀ L h ((I, oI) :: (C, oC) :: (D, LCg.lst ys) :: news) → LCg.Off3 I C D news → ((@Ne Nat I C) ∧ (@Ne Nat I D) ∧ (@Ne Nat C D)) →
      wpAny (model prog w) A (eval elt (compEnvC scope cl C env)) (TextEnd h₀ L m ((I, oI) :: (C, oC) :: (D, LCg.lst ys) :: news) (g i) { s with heap := h, toks := tk }) E' { s with heap := h, toks := tk })
    (fin : ∀ ys, StrsAre ys ((List.range n).map fun i => mk (g i)) → Fin ys news) :
    LCg.CompRest prog w A h₀ L m env elt x scope cl s Sx P Fin n 0 [] news := by
  have key : ∀ (k i : Nat) (ys : List Value), i + k = n → StrsAre ys ((List.range i).map fun i => mk (g i)) → LCg.CompRest prog w A h₀ L m env elt x scope cl s Sx P Fin k i ys news := by
    intro k
    induction k with
    | zero =>
      intro i ys e hy
      obtain rfl : i = n := by omega
      exact LCg.CompRest.zero (fin ys hy)
    | succ k ih =>
      intro i ys e hy
      refine LCg.CompRest.succ fun v I oI C oC D m₂ h tk E' hP hC hx F N off ne => ?_
      refine wpAny_mono (turn i v ys I oI C oC D m₂ h tk E' (by omega) hP hC hx F N off ne) (fun y s₂ h2 => ?_) fun _ _ z => z
      obtain ⟨t, h', tk', rfl, rfl, F', N'⟩ := h2
      refine LCg.CompEnd.intro F' N' news (fun p hp => hp) off hS (ih (i + 1) _ (by omega) ?_)
      rw [List.range_succ, List.map_append]
      have app : ∀ {a b : List Value} {as bs : List Str}, StrsAre a as → StrsAre b bs → StrsAre (a ++ b) (as ++ bs) := by
        intro a b as bs ha hb
        induction ha with
        | nil => exact hb
        | cons y t _ ih => exact .cons y t ih
      exact app hy (.cons _ t .nil)
  exact key n 0 [] (by omega) .nil
theorem strs_len {a : List Value} {as : List Str} (h : StrsAre a as) : a.length = as.length := by
  induction h with
  | nil => rfl
  | cons y t _ ih => simp [ih]
theorem strs_at {a : List Value} {as : List Str} (h : StrsAre a as) : ∀ {i : Nat} {v : Value}, a[i]? = some v → ∃ (y : Str) (t : Tok), as[i]? = some y ∧ v = .str y t := by
  induction h with
  | nil => intro i v e; simp at e
  | cons y t _ ih =>
    intro i v e
    cases i with
    | zero => exact ⟨y, t, rfl, (Option.some.inj e).symm⟩
    | succ i => exact ih e
theorem comp_texts {vs : List Value} {ps : List (List Nat)} (hv : StrsAre vs (ps.map mk)) {Sx : List (Addr × Obj) → Prop} (hS : Sx news) {Fin : List Value → List (Addr × Obj) → Prop} (f : List Nat → List Nat)
    (turn : ∀ (q : List Nat) (tq : Tok) (ys : List Value) I oI C oC D m₂ h tk (E' : Value → Shared → Prop), q ∈ ps → LCg.NsObj oC m₂ → m₂ x = some (.str (mk q) tq) → Fr h₀ L h m → News h₀ L h ((I, oI) :: (C, oC) :: (D, LCg.lst ys) :: news) → LCg.Off3 I C D news → ((@Ne Nat I C) ∧ (@Ne Nat I D) ∧ (@Ne Nat C D)) →
      wpAny (model prog w) A (eval elt (compEnvC scope cl C env)) (TextEnd h₀ L m ((I, oI) :: (C, oC) :: (D, LCg.lst ys) :: news) (f q) { s with heap := h, toks := tk }) E' { s with heap := h, toks := tk })
    (fin : ∀ ys, StrsAre ys ((ps.map f).map mk) → Fin ys news) :
    LCg.CompRest prog w A h₀ L m env elt x scope cl s Sx (fun i v => vs.toArray[i]? = some v) Fin vs.toArray.size 0 [] news := by
  have el : vs.length = ps.length := by rw [strs_len hv, List.length_map]
  refine comp_any hS (fun i => f (ps.getD i [])) (fun i v ys I oI C oC D m₂ h tk E' hi hP hC hx F N off ne => ?_) fun ys hy => fin ys ?_
  · have hP' : vs[i]? = some v := by simpa using hP
    obtain ⟨y, t, e1, rfl⟩ := strs_at hv hP'
    obtain ⟨q, e2, rfl⟩ := List.getElem?_map .. ▸ e1 |> fun z => (Option.map_eq_some_iff.mp z : ∃ q, ps[i]? = some q ∧ mk q = y)
    have e3 : ps.getD i [] = q := by rw [List.getD_eq_getElem?_getD, e2]; rfl
    rw [e3]
    exact turn q t ys I oI C oC D m₂ h tk E' (List.mem_of_getElem? e2) hC hx F N off ne
  · have : (List.range vs.toArray.size).map (fun i => mk (f (ps.getD i []))) = (ps.map f).map mk := by
      rw [List.size_toArray, el]
      apply List.ext_getElem?
      intro i
      rw [List.getElem?_map, List.getElem?_map, List.getElem?_map]
      by_cases h : i < ps.length
      · rw [List.getElem?_range h]
        show some (mk (f (ps.getD i []))) = _
        rw [List.getD_eq_getElem?_getD, List.getElem?_eq_getElem h]
        rfl
      · rw [List.getElem?_eq_none (by simpa using h), List.getElem?_eq_none (by simpa using h)]
        rfl
    rw [← this]
    exact hy
end
section
variable {prog : Program} {w : World} {A : Around} {E : Value → Shared → Prop} {s : Shared} {h₀ : Heap} {L : Addr} {m : Str → Option Value} {news : List (Addr × Obj)} {Q : Value → Shared → Prop}
theorem cons_strs {a : List Value} {y : Str} {ys : List Str} (h : StrsAre a (y :: ys)) : ∃ t b, a = .str y t :: b ∧ StrsAre b ys := by
  cases h with
  | cons y t r => exact ⟨t, _, rfl, r⟩
theorem split_sum (c : Nat) : ∀ l : List Nat, ((splitL c l).map List.length).sum + (splitL c l).length = l.length + 1
  | [] => rfl
  | x :: r => by
    have ih := split_sum c r
    obtain ⟨p, ps, e⟩ := splitL_ne c r
    by_cases h : x = c
    · subst h
      rw [splitL_self]
      simp only [List.map_cons, List.sum_cons, List.length_cons, List.length_nil] at ih ⊢
      omega
    · rw [splitL_other h e]
      rw [e] at ih
      simp only [List.map_cons, List.sum_cons, List.length_cons] at ih ⊢
      omega
theorem sum_mem : ∀ (l : List Nat) (x : Nat), x ∈ l → x ≤ l.sum
  | y :: l, x, h => by
    rcases List.mem_cons.mp h with rfl | h
    · simp
    · have := sum_mem l x h
      simp only [List.sum_cons]; omega
theorem split_lf {l : List Nat} {t u : Tok} (F : Fr h₀ L s.heap m) (N : News h₀ L s.heap news) (hl : (mk l).length ≤ 1000)
    (h : ∀ D p ps tp ws h' k, splitL 10 l = p :: ps → StrsAre ws (ps.map mk) → ws.length ≤ 1000 → (∀ q ∈ ps, (mk q).length ≤ 1000) → Fr h₀ L h' m → News h₀ L h' ((D, listOf (.str (mk p) tp :: ws).toArray 0) :: news) → (∀ p ∈ news, p.1 < D) → Q (.ref D) { s with heap := h', toks := k }) :
    wpAny (model prog w) A (call (.builtin "str.split") [.str (mk l) t, .str "\n" u]) Q E s := by
  refine KSpl.split1 F N (by decide +kernel) (fun D a h' k e hs F' N' l1 => ?_) (by rw [sizeLine_eq]; omega)
  rw [lf_str, split_one, mk_list] at e
  obtain ⟨p, ps, e'⟩ := splitL_ne 10 l
  rw [e, e', List.map_cons] at hs
  obtain ⟨tp, ws, e1, hw⟩ := cons_strs hs
  rw [e1] at N'
  have hsum := split_sum 10 l
  rw [e'] at hsum
  rw [mk_len] at hl
  simp only [List.map_cons, List.sum_cons, List.length_cons] at hsum
  refine h D p ps tp ws h' k e' hw ?_ (fun q hq => ?_) F' N' l1
  rotate_left
  · have := sum_mem _ _ (List.mem_map_of_mem (f := List.length) hq)
    rw [mk_len]; omega
  rw [strs_len hw, List.length_map]
  omega
theorem pick_to1 (v : Value) (vs : List Value) : kms_pick (v :: vs).toArray.toList none (some 1) = [v] := by
  unfold kms_pick kms_lo kms_hi
  simp
theorem pick_from1 (v : Value) (vs : List Value) : kms_pick (v :: vs).toArray.toList (some 1) none = vs := by
  unfold kms_pick kms_lo kms_hi
  simp
theorem join_crlf {D : Addr} {k : Nat} {ws : List Value} {p : List Nat} {tp t : Tok} {qs : List (List Nat)} (N : News h₀ L s.heap news) (hm : (D, listOf (.str (mk p) tp :: ws).toArray k) ∈ news) (hw : StrsAre ws (qs.map mk))
    (hlen : (((p :: qs).map mk).map (·.length)).sum + (p :: qs).length ≤ 100000)
    (h : ∀ t' k, Q (.str (mk (p ++ (qs.map fun q => [13, 10] ++ q).flatten)) t') { s with toks := k }) : wpAny (model prog w) A (call (.builtin "str.join") [.str "\r\n" t, .ref D]) Q E s := by
  have hl : s.heap.IsList D (.str (mk p) tp :: ws).toArray := N.isList hm
  refine join_listW hl (ys := (p :: qs).map mk) (.cons _ _ hw) (by decide +kernel) (by rw [List.length_map]; omega) fun t' k' => ?_
  have e : Txt.join (Str.ofString "\r\n") ((p :: qs).map mk) = mk (p ++ (qs.map fun q => [13, 10] ++ q).flatten) := by
    refine (show Txt.join (Str.ofString "\r\n") ((p :: qs).map mk) = Str.join (Str.ofString "\r\n") ((p :: qs).map mk) from StrLaws.glued_eq_join _ _).trans ?_
    rw [crlf_str, join_mk]
  rw [e]
  exact h t' k'
end
end OyMine
end
section
open PySem PySem.W PyProof.Rows PySem.Builtin PySem.Builtin.Re
set_option maxRecDepth 100000
set_option genInjectivity false
set_option genSizeOf false
set_option genSizeOfSpec false
namespace OyMine
theorem words_Written_0 : True := by
  w_top off
  k_with_none
  k_with "my omega" => (first
    | with_reducible assumption
    | with_reducible exact Nat.ne_of_lt (by assumption)
    | with_reducible exact Nat.ne_of_gt (by assumption)
    | decide
    | with_reducible exact Nat.le_refl _
    | with_reducible exact Nat.zero_le _
    | with_reducible exact Nat.le_add_right _ _
    | with_reducible exact Nat.le_add_left _ _
    | with_reducible exact Nat.lt_succ_self _
    | with_reducible exact Nat.le_succ _
    | with_reducible exact Nat.succ_pos _
    | with_reducible exact Nat.zero_add _
    | with_reducible exact q4
    | with_reducible exact q8
    | with_reducible exact Nat.le_of_lt (by assumption)
    | with_reducible exact Nat.le_of_succ_le (by assumption)
    | with_reducible exact Nat.le_of_succ_le_succ (by assumption)
    | with_reducible exact Nat.not_lt.mp (by assumption)
    | with_reducible exact Nat.lt_succ_of_le (by assumption)
    | with_reducible exact Nat.le_succ_of_le (by assumption)
    | with_reducible exact Nat.succ_le_of_lt (by assumption)
    | with_reducible exact q1 (by assumption)
    | with_reducible exact q2 (by assumption)
    | with_reducible exact q3 (by assumption)
    | with_reducible exact q5 (by assumption)
    | with_reducible exact q7 (by assumption)
    | with_reducible exact q6 (by assumption) (by assumption)
    | with_reducible exact absurd (by assumption) (Nat.not_lt.mpr (by assumption))
    | (with_reducible refine room_le (by assumption) ?_; with_unfolding_all rfl)
    | (with_reducible refine room_lt (by assumption) ?_; with_unfolding_all rfl)
    | (with_reducible refine room_le0 (by assumption) ?_; with_unfolding_all rfl)
    | ((fail_if_success (with_reducible show _ ≠ _)); (rename _ ∧ _ => cW9; clear cW9); (repeat (rename _ ∧ _ => cW9; clear cW9)); omega)
    | fail "no")
  k_with "my execs cons" => (k_here; refine wpAny_execs_cons ?_; k_fold)
  trivial
theorem dot_str : Str.ofString "." = mk [46] := by decide +kernel
theorem mul_dots (d : Nat) : Txt.mul (Str.ofString ".") (d : Int) = mk (List.replicate d 46) := by
  refine mk_of ?_
  rw [dot_str]
  exact (mul_one_list 46 (d : Int)).trans (by rw [Int.toNat_natCast])
theorem end_str : Str.ofString "'\r\n" = mk [39, 13, 10] := by decide +kernel
theorem written_eq (r : Row) : Txt.mul (Str.ofString ".") (r.dots : Int) ++ Str.ofString "'" ++ mk (esc r.lab) ++ Str.ofString "'\r\n" = mk r.written := by
  rw [mul_dots, apo, end_str]
  show mk _ ++ mk [39] ++ mk _ ++ mk _ = _
  rw [mk_append, mk_append, mk_append]
  refine congrArg mk ?_
  unfold Row.written
  simp
section
variable {prog : Program} {w : World} {A : Around} {E : Value → Shared → Prop} {s : Shared} {t : Tok} {Q : Value → Shared → Prop}
theorem join_esc {D : Addr} {l : List (Str × Tok)} {x : List Nat} (hl : s.heap.IsList D (strValues l).toArray) (e : l.map (·.1) = Txt.split (mk x) "'") (hx : x.length ≤ 1000)
    (h : ∀ t' k, (mk (esc x)).length ≤ 5000 → Q (.str (mk (esc x)) t') { s with toks := k }) : wpAny (model prog w) A (call (.builtin "str.join") [.str "'\"'\"'" t, .ref D]) Q E s := by
  have e1 : Txt.join (Str.ofString "'\"'\"'") (Txt.split (mk x) (Str.ofString "'")) = mk (esc x) := by
    rw [show Txt.join (Str.ofString "'\"'\"'") (Txt.split (mk x) (Str.ofString "'")) = Str.join (Str.ofString "'\"'\"'") (Txt.split (mk x) (Str.ofString "'")) from StrLaws.glued_eq_join _ _, join_split_esc, mk_list]
  refine SC.join hl e (joinOk_of_weight ?_ (by decide +kernel)) fun t' k => ?_
  · have := weighs_of_split e (by decide +kernel)
    unfold Weighs at this
    rw [e, mk_len] at this
    omega
  · rw [e1]
    refine h t' k ?_
    rw [mk_len]
    have := esc_len x
    omega
end
theorem words_Written_1 : True := by
  k_with "my k_room" => (first | exact Nat.le_of_ble_eq_true rfl | ((try simp only [duk, depth_under_make, depth_under_kw, depth_in1, depth_deeper, depth_caller, recursionLimit]); (try dsimp only [ktrTop]); (try simp only [recursionLimit]); omega))
  k_with "my ktr_room" => (k_room)
  k_with "my k_units" => (first | exact Nat.le_of_ble_eq_true rfl | ((have hcL9W9 := cLine_is); (try simp only [uuk, units_in1, units_deeper, Around.mark_units, units_caller]); (try dsimp only [ktrTop]); omega))
  k_with "my units_room" => (first | exact Nat.le_of_ble_eq_true rfl | ((have hcL9W9 := cLine_is); (try simp only [uuk, units_in1, units_deeper, Around.mark_units, units_caller]); (try dsimp only [ktrTop]); omega))
  k_with "my k_enter" => ((refine' code_def ?k1W9 ?k2W9 ?k3W9 ?k4W9 ?k5W9 ?kAW9 ?kFW9 ?kKW9 ?k6W9 ?k7W9 ?k8W9 ?k9W9 ?kBW9 ?_ ?c2W9 ?c3W9 ?c4W9 ?c5W9; (case kAW9 => exact rfl); (case kFW9 => exact rfl); (case kKW9 => first | exact rfl | assumption); (case k1W9 => k_asm); (case k2W9 => k_asm); (case k3W9 => k_asm); (case k4W9 => k_asm); (case k5W9 => k_asm); (case k6W9 => k_is); (case k7W9 => k_is); (case k8W9 => k_room); (case k9W9 => first | exact BindsTo.of_eq rfl | exact binds_K (by k_in) rfl (by k_is) rfl rfl rfl | fail "k_enter: no rule for these arguments"); (case c5W9 => decide); (case kBW9 => exact locs rfl); (case c2W9 => exact rfl); (case c3W9 => exact rfl); (case c4W9 => exact rfl); k_whole; intro g'W9 L'W9 h'W9 FG'W9 F'W9 N'W9 B'W9 X'W9 T'W9; (try dsimp only); (try k_lift B'W9); (try k_fold)))
  k_with "my getMethod ref" => ((k_here; (with_reducible show wpAny _ _ (getMethod (Value.ref _) (Str.ofString "sub") _) _ _ _); k_dflt (refine' meth_sub ?FW9 ?XW9 ?eW9 ?cW9 ?dW9 ?_; (case FW9 => k_asm); (case XW9 => k_asm); (case eW9 => k_is); (case cW9 => exact rfl); (case dW9 => exact rfl); k_whole)))
  k_with "my call builtin:re.Pattern.sub" => ((k_here; k_dflt (first
    | (refine' sub54_K ?FW9 ?XW9 ?NW9 ?xW9 ?_; (case FW9 => k_asm); (case XW9 => k_asm); (case NW9 => k_asm); (case xW9 => first | exact nl_fits (by assumption) | omega); k_whole; intro t'W9 h'W9 tk'W9 F'W9 N'W9; (try k_sweep))
    | (refine' sub49_K ?FW9 ?XW9 ?NW9 ?xW9 ?_; (case FW9 => k_asm); (case XW9 => k_asm); (case NW9 => k_asm); (case xW9 => first | exact nl_fits (by assumption) | omega); k_whole; intro t'W9 h'W9 tk'W9 F'W9 N'W9; (try k_sweep)))))
  k_with "my call ref" => ((k_here; (with_reducible show wpAny _ _ (call (Value.ref 763) [Value.str _ _]) _ _ _); k_dflt (refine' search_K ?FW9 ?XW9 ?NW9 ?xW9 ?jW9 ?uW9 ?_; (case FW9 => k_asm); (case XW9 => k_asm); (case NW9 => k_asm); (case xW9 => omega); (case jW9 => assumption); (case uW9 => assumption); k_whole; intro a'W9 h'W9 F'W9 N'W9; (try k_sweep))))
  k_with "my kt_len" => (with_reducible assumption)
  k_with "my truthy str" => ((k_here; (with_reducible show wpAny _ _ (PySem.truthy (Value.str _ _)) _ _ _); (refine' KXt.truthy_pos (K := 16777216) ?kxtaW9 ?kxtbW9 (Nat.le_refl _) ?_; (case kxtaW9 => with_reducible assumption); (case kxtbW9 => omega)); intro _))
  k_with "my callWith ref" => ((k_here; (with_reducible show wpAny _ _ (callWith _ (Value.ref 763) _ _ _) _ _ _); k_dflt (refine' callWith_763 ?k1W9 ?_; (case k1W9 => k_asm); k_whole)))
  k_with "my call builtin:str.replace" => ((k_here; (with_reducible show wpAny _ _ (call (Value.builtin "str.replace") [Value.str _ _, Value.str (Str.ofString "'") _, Value.str _ _]) _ _ _); k_dflt ((refine' replaceQ ?aW9 ?bW9 ?cW9 ?dW9 ?_; (case aW9 => k_ne); (case bW9 => k_ne); (case cW9 => k_ne); (case dW9 => first | with_reducible assumption | omega); k_whole; intro t'W9 k'W9 len'W9))))
  k_with "my k_memK" => (first | assumption | (refine need_app ?_; k_memK) | (refine need_cons ?_; k_memK))
  k_with "my subscriptTail" => ((k_here; (with_reducible show wpAny _ _ (subscriptTail _ _ (Value.ref (TreeAt.t _)) (Value.int (Nat.cast _) _)) _ _ _); k_dflt ((refine' tree_item ?NW9 ?TW9 ?kW9 ?_; (case NW9 => k_asm); (case TW9 => k_memK); (case kW9 => omega); k_whole; intro hm'W9))))
  k_with "my call ref" => ((k_here; (with_reducible show wpAny _ _ (call (Value.ref 770) [Value.str (TreeAt.lab _ _) _]) _ _ _); k_dflt ((refine' pure_use (qt_lab _ _ ?OW9 _ ?kW9 _) ?BW9 ?FW9 ?XW9 ?NW9 ?TW9 ?kkW9 ?hdW9 ?huW9 ?_; (case OW9 => assumption); (case kW9 => omega); (case BW9 => k_asm); (case FW9 => k_asm); (case XW9 => k_asm); (case NW9 => k_asm); (case TW9 => k_asm); (case kkW9 => first | exact rfl | assumption); (case hdW9 => k_room); (case huW9 => k_units); k_whole; intro r'W9 h'W9 tk'W9 F'W9 N'W9 ht'W9; obtain ⟨t'W9, e'W9⟩ := ht'W9; subst e'W9; (try k_sweep)))))
  k_with "my call ref" => ((k_here; (with_reducible show wpAny _ _ (call (Value.ref 61) [Value.str (Str.mk (List.toArray _)) _]) _ _ _); k_dflt ((refine' pure_use (qd_mk _ _ _ ?xW9) ?BW9 ?FW9 ?XW9 ?NW9 ?TW9 ?kkW9 ?hdW9 ?huW9 ?_; (case xW9 => first | omega | exact size_out (by assumption) (by omega)); (case BW9 => k_asm); (case FW9 => k_asm); (case XW9 => k_asm); (case NW9 => k_asm); (case TW9 => k_asm); (case kkW9 => first | exact rfl | assumption); (case hdW9 => k_room); (case huW9 => k_units); k_whole; intro r'W9 h'W9 tk'W9 F'W9 N'W9 ht'W9; obtain ⟨t'W9, e'W9⟩ := ht'W9; subst e'W9; (try k_sweep)))))
  k_with "my kt_len" => (first | exact len_out (by assumption) (by omega) | exact len_quoted (by assumption) (by omega) | exact TreeAt.Ok.eol (by assumption) _ (by omega) | exact TreeAt.part_len (by assumption) (by omega) (by omega) | ((with_reducible refine' len_qd ?qqW9); (case qqW9 => kt_len)))
  k_with "my call builtin:len" => ((k_here; (with_reducible show wpAny _ _ (call (Value.builtin "len") [Value.ref (TreeAt.t _)]) _ _ _); k_dflt ((refine' tree_len ?NW9 ?TW9 ?_; (case NW9 => k_asm); (case TW9 => k_memK); k_whole; intro t'W9 k'W9))))
  k_with "my call ref" => ((k_here; (with_reducible show wpAny _ _ (call (Value.ref 782) [Value.ref _, Value.int (Nat.cast _) _]) _ _ _); (with_reducible rename ∀ k, _ < k → k < 5 → Outline _ _ k => ihOW9); k_dflt ((refine' reads_use (ihOW9 _ ?aW9 ?bW9 _) ?BW9 ?FW9 ?XW9 ?NW9 ?TW9 ?kkW9 ?hdW9 ?huW9 ?hnW9 ?_; (case aW9 => omega); (case bW9 => omega); (case BW9 => k_asm); (case FW9 => k_asm); (case XW9 => k_asm); (case NW9 => k_asm); (case TW9 => k_asm); (case kkW9 => first | exact rfl | assumption); (case hdW9 => k_room); (case huW9 => k_units); (case hnW9 => k_memK); k_whole; intro r'W9 h'W9 tk'W9 F'W9 N'W9 ht'W9; obtain ⟨t'W9, e'W9⟩ := ht'W9; subst e'W9; (try k_sweep)))))
  k_with "my inplaceOp Add str str" => ((k_here; (with_reducible show wpAny _ _ (inplaceOp Operator.Add (Value.str _ _) (Value.str _ _)) _ _ _); (refine' iaddK ?kxaaW9 ?kxabW9 ?kxacW9 ?_; (case kxaaW9 => kt_len); (case kxabW9 => kt_len); (case kxacW9 => exact Nat.le_of_ble_eq_true rfl)); intro _ _ _))
  k_with "my k_enter" => ((kp_kind "both"; (fail_if_success k_inElt); (refine' kp_both ?k1W9 ?k2W9 ?k3W9 ?k4W9 ?k5W9 ?kAW9 ?kFW9 ?kKW9 ?k6W9 ?k7W9 ?k8W9 ?kVW9 ?kXW9 ?kQW9 ?kMW9 ?kNW9 ?kDW9 ?kRW9 ?kPW9 ?kSW9 ?kTW9 ?kBW9 ?_ ?c2W9 ?c3W9 ?c4W9 ?c5W9; (case kAW9 => exact rfl); (case kFW9 => exact rfl); (case kKW9 => first | exact rfl | assumption); (case k1W9 => k_asm); (case k2W9 => k_asm); (case k3W9 => k_asm); (case k4W9 => k_asm); (case k5W9 => k_asm); (case k6W9 => k_is); (case k7W9 => k_is); (case k8W9 => k_room); (case kVW9 => kp_lit); (case kXW9 => kp_lit); (case kQW9 => exact rfl); (case kMW9 => exact rfl); (case kNW9 => exact rfl); (case kDW9 => kp_flats); (case kRW9 => exact rfl); (case kPW9 => exact rfl); (case kSW9 => exact fun _ => rfl); (case kTW9 => exact fun _ _ => rfl); (case kBW9 => exact fun _ _ => locs rfl); (case c5W9 => decide); (case c2W9 => exact rfl); (case c3W9 => exact rfl); (case c4W9 => exact rfl); k_whole; intro C'W9 D'W9 o'W9 g'W9 L'W9 h'W9 tk'W9 l1W9 l2W9 lo'W9 hs'W9 fs'W9 FG'W9 F'W9 N'W9 B'W9 X'W9 T'W9; (try k_lt l1W9); (try k_lt2 l2W9); (try dsimp only); (try k_lift B'W9); (try k_fold))))
  k_with "my call builtin:object.__new__" => ((k_here; k_dflt ((refine' new623_K ?FW9 ?XW9 ?NW9 ?_; (case FW9 => k_asm); (case XW9 => k_asm); (case NW9 => k_asm); k_whole; intro x'W9 d'W9 h'W9 F'W9 N'W9 l1W9 l2W9; (try k_lt l1W9); (try k_lt2 l2W9); (try k_sweep)))))
  k_with "my k_all" => (first | exact allNe (by assumption) | exact allNe' (by assumption) | exact allNeT (by assumption) (by first | assumption | omega))
  k_with "my call builtin:str.join" => ((k_here; k_dflt ((refine' join_esc ?lW9 ?eW9 ?xW9 ?_; (case lW9 => assumption); (case eW9 => assumption); (case xW9 => assumption); k_whole; intro t'W9 k'W9 len'W9))))
  trivial

set_option maxHeartbeats 8000000 in
theorem written_ok (w : World) (r : Row) (t1 t2 : Tok) (h1 : r.dots ≤ 100) (h2 : r.lab.length ≤ 1000) : Pure w 794 450 4500 [.int (r.dots : Int) t1, .str (mk r.lab) t2] (fun v => ∃ t, v = .str (mk r.written) t) := by
  w_strict (
  unfold Pure AtAny
  k_fill
  intro dp un p loose mean mg mb news gd cn cs a ccd cl outer A₀ base h₀ L m s hdp hun B F X N T hk Q E hret
  refine wpAny_call ?_
  (k_dflt k_enter)
  k_steps
  all_goals exact hret _ _ _ (by k_asm) (by first | k_asm | exact fun p hp => (by k_asm : News _ _ _ (_ :: news)) p (.tail _ hp)) ⟨_, congrArg (fun z => Value.str z _) (written_eq r)⟩
  )
end OyMine
end
section
open PySem PySem.W PyProof.Rows PySem.Calls
set_option maxRecDepth 100000
set_option genInjectivity false
set_option genSizeOf false
set_option genSizeOfSpec false
namespace OyMine
/-- the walk stops here -/
noncomputable def Stop2 (p : Prop) : Prop := p
theorem stop2_of {p : Prop} (h : Stop2 p) : p := h
theorem eq_is9 {prog : Program} {w : World} {A : Around} {E : Value → Shared → Prop} {s : Shared} {x y : Str} {t u : Tok} {Q : Value → Shared → Prop} (b : Bool) (e : (x == y) = b) (h : Q (.bool b) s) : wpAny (model prog w) A (compareOp .Eq (.str x t) (.str y u)) Q E s := PyProof.Rows.eq_str (by rw [e]; exact h)
noncomputable abbrev rowObj (r : Row) (n : Nat) (t1 t2 t3 t4 : Tok) : Obj := { cls := .type "tuple", data := .seq #[.int (r.dots : Int) t1, .int r.par t2, .str (OyMine.mk r.lab) t3, .int (r.line : Int) t4] n }
theorem row_open {news : List (Addr × Obj)} {v : Value} {r : Row} (h : DatIn news v r.dat) : ∃ a n t1 t2 t3 t4, v = .ref a ∧ (a, rowObj r n t1 t2 t3 t4) ∈ news := by
  obtain ⟨a, ws, n, rfl, hm, hd⟩ := inv_tuple h
  obtain ⟨v1, ws, rfl, h1, hd⟩ := inv_cons hd
  obtain ⟨v2, ws, rfl, h2, hd⟩ := inv_cons hd
  obtain ⟨v3, ws, rfl, h3, hd⟩ := inv_cons hd
  obtain ⟨v4, ws, rfl, h4, hd⟩ := inv_cons hd
  obtain rfl := inv_nil hd
  obtain ⟨t1, rfl⟩ := inv_int h1
  obtain ⟨t2, rfl⟩ := inv_int h2
  obtain ⟨t3, rfl⟩ := inv_str h3
  obtain ⟨t4, rfl⟩ := inv_int h4
  exact ⟨_, _, _, _, _, _, rfl, hm⟩
theorem row_in {news : List (Addr × Obj)} {a : Addr} {r : Row} {n : Nat} {t1 t2 t3 t4 : Tok} (h : (a, rowObj r n t1 t2 t3 t4) ∈ news) : DatIn news (.ref a) r.dat :=
  .tuple h (.cons (.int _ _) (.cons (.int _ _) (.cons (.str _ _) (.cons (.int _ _) .nil))))
theorem told_length (rs : List Row) : (told rs).length = rs.length := List.length_map ..
theorem last_get {rs : List Row} {r : Row} (h : rs.getLast? = some r) : rs[rs.length - 1]? = some r ∧ 1 ≤ rs.length := by
  rw [List.getLast?_eq_getElem?] at h
  exact ⟨h, by have := (List.getElem?_eq_some_iff.mp h).1; omega⟩
/-- the end of a tree that gives an int and lets all stand -/
noncomputable def IntEnd (h₀ : Heap) (L : Addr) (m : Str → Option Value) (led : List (Addr × Obj)) (x : Int) (s : Shared) (y : Value) (s₂ : Shared) : Prop :=
  ∃ t h' tk', y = .int x t ∧ s₂ = { s with heap := h', toks := tk' } ∧ Fr h₀ L h' m ∧ News h₀ L h' led
theorem IntEnd.intro' {h₀ : Heap} {L : Addr} {m : Str → Option Value} {led : List (Addr × Obj)} {x z : Int} {s : Shared} {t : Tok} {h' : Heap} {tk' : Nat} (e : z = x) (F : Fr h₀ L h' m) (N : News h₀ L h' led) :
    IntEnd h₀ L m led x s (.int z t) { s with heap := h', toks := tk' } := by subst e; exact ⟨t, h', tk', rfl, rfl, F, N⟩
theorem cut_int {M : Model} {A : Around} {E : Value → Shared → Prop} {s : Shared} {h₀ : Heap} {L : Addr} {m : Str → Option Value} {news : List (Addr × Obj)} {tree : Sem Value} {Q : Value → Shared → Prop} (x : Int) (F : Fr h₀ L s.heap m) (N : News h₀ L s.heap news)
    (h1 : wpAny M A tree (IntEnd h₀ L m news x s) E s) (h2 : ∀ t h' tk', Fr h₀ L h' m → News h₀ L h' news → Q (.int x t) { s with heap := h', toks := tk' }) : wpAny M A tree Q E s :=
  wpAny_mono h1 (fun v s' ⟨t, h', tk', e1, e2, F', N'⟩ => by subst e1; subst e2; exact h2 t h' tk' F' N') fun _ _ z => z
section
variable {prog : Program} {w : World} {A : Around} {E : Value → Shared → Prop} {s : Shared} {h₀ : Heap} {L td : Addr} {m : Str → Option Value} {news L9 : List (Addr × Obj)} {us : List Value} {n : Nat} {rs : List Row}
theorem told_len {Q : Value → Shared → Prop} (N : News h₀ L s.heap news) (hm : (td, listOf us.toArray n) ∈ news) (hD : DatAll L9 us (told rs)) (hr : rs.length ≤ 100) (h : ∀ t k, Q (.int (rs.length : Int) t) { s with toks := k }) : wpAny (model prog w) A (call (.builtin "len") [.ref td]) Q E s := by
  refine kd_len N hm hD (by rw [told_length]; omega) ?_
  rw [told_length]
  exact h _ _
theorem told_nil {Q : Bool → Shared → Prop} (N : News h₀ L s.heap news) (hm : (td, listOf us.toArray n) ∈ news) (hD : DatAll L9 us (told rs)) (hr : rs = []) (h : ∀ k, Q false { s with toks := k }) : wpAny (model prog w) A (truthy (.ref td)) Q E s := by
  subst hr
  cases hD
  have hl : s.heap.IsList td #[] := N.isList hm
  exact wpAny_truthy_list hl (by decide) (h _)
theorem told_cons {Q : Bool → Shared → Prop} (N : News h₀ L s.heap news) (hm : (td, listOf us.toArray n) ∈ news) (hD : DatAll L9 us (told rs)) {r : Row} (hr : rs.getLast? = some r) (h5 : rs.length ≤ 100) (h : ∀ k, Q true { s with toks := k }) : wpAny (model prog w) A (truthy (.ref td)) Q E s := by
  have hl : s.heap.IsList td us.toArray := N.isList hm
  have e : us.toArray.size = rs.length := by rw [List.size_toArray, hD.length, told_length]
  have h1 := (last_get hr).2
  refine wpAny_truthy_list hl (by rw [e]; omega) ?_
  have e2 : (!us.toArray.isEmpty) = true := by
    have e3 : us.toArray.isEmpty = false := by
      rw [Array.isEmpty, e]
      exact decide_eq_false (by omega)
    rw [e3]
    rfl
  rw [e2]
  exact h _
theorem told_last {Q : Value → Shared → Prop} {value slice : PySem.Expr} {u : Tok} (N : News h₀ L s.heap news) (hm : (td, listOf us.toArray n) ∈ news) (hD : DatAll L9 us (told rs)) (hsub : ∀ q ∈ L9, q ∈ news) {r : Row} (hr : rs.getLast? = some r) (h5 : rs.length ≤ 100)
    (h : ∀ a n t1 t2 t3 t4, (a, rowObj r n t1 t2 t3 t4) ∈ news → Q (.ref a) s)
    (hs : subscripted slice false (.ref td) (.int (-1) u) = operate [.ref td, .int (-1) u] (getItem (.ref td) (.int (-1) u)) := by with_unfolding_all rfl) :
    wpAny (model prog w) A (subscriptTail value slice (.ref td) (.int (-1) u)) Q E s := by
  have hl : s.heap.IsList td us.toArray := N.isList hm
  have e : us.toArray.size = rs.length := by rw [List.size_toArray, hD.length, told_length]
  obtain ⟨g1, g2⟩ := last_get hr
  have hk : rs.length - 1 < (told rs).length := by rw [told_length]; omega
  obtain ⟨v, hv, hV⟩ := hD.get hk
  have ed : (told rs)[rs.length - 1]'hk = r.dat := by
    have : (told rs)[rs.length - 1]? = some r.dat := by unfold told; rw [List.getElem?_map, g1]; rfl
    exact (List.getElem?_eq_some_iff.mp this).2
  rw [ed] at hV
  obtain ⟨a, n', t1, t2, t3, t4, rfl, hmem⟩ := row_open hV
  refine tail_any hl.typeIs slot_list_getitem.lookup (wpAny_getItem_list_neg hl (by decide) (by rw [e]; omega) (by decide) ?_ (h a n' t1 t2 t3 t4 (hsub _ hmem))) hs
  rw [e, show ((-1 : Int) + (rs.length : Int)).toNat = rs.length - 1 by omega]
  simpa using hv
theorem row_item3 {Q : Value → Shared → Prop} {value slice : PySem.Expr} {u : Tok} {a : Addr} {r : Row} {k : Nat} {t1 t2 t3 t4 : Tok} (N : News h₀ L s.heap news) (hm : (a, rowObj r k t1 t2 t3 t4) ∈ news) (h : Q (.int (r.line : Int) t4) s)
    (hs : subscripted slice false (.ref a) (.int 3 u) = operate [.ref a, .int 3 u] (getItem (.ref a) (.int 3 u)) := by with_unfolding_all rfl) :
    wpAny (model prog w) A (subscriptTail value slice (.ref a) (.int 3 u)) Q E s :=
  item_tupleT (l := [.int (r.dots : Int) t1, .int r.par t2, .str (OyMine.mk r.lab) t3, .int (r.line : Int) t4]) (j := 3) (N.isTup hm) (by decide) (by decide) (by rfl) rfl h hs
theorem rows_len {Q : Value → Shared → Prop} {D : Addr} {p : List Nat} {ps : List (List Nat)} {tp : Tok} {ws : List Value} {k : Nat} {l : List Nat} (N : News h₀ L s.heap news) (hm : (D, listOf (.str (mk p) tp :: ws).toArray k) ∈ news) (hw : StrsAre ws (ps.map mk)) (e : splitL 10 (lf l) = p :: ps) (hl : (mk (lf l)).length ≤ 1000)
    (h : ∀ t k, Q (.int (nrows l : Int) t) { s with toks := k }) : wpAny (model prog w) A (call (.builtin "len") [.ref D]) Q E s := by
  have hl' : s.heap.IsList D (.str (mk p) tp :: ws).toArray := N.isList hm
  have e1 : (Value.str (mk p) tp :: ws).toArray.size = nrows l := by rw [List.size_toArray, List.length_cons, strs_len hw, List.length_map, nrows_split e]
  have e2 : nrows l ≤ 1001 := by
    have hs := split_sum 10 (lf l)
    rw [e] at hs
    rw [mk_len] at hl
    simp only [List.map_cons, List.sum_cons, List.length_cons] at hs
    rw [nrows_split e]; omega
  refine len_list hl' (by rw [e1]; omega) ?_
  rw [e1]
  exact h _ _
theorem last_cases (rs : List Row) : (rs = [] ∧ (0 : Int) = (lastLine rs : Int)) ∨ ∃ r, rs.getLast? = some r ∧ (r.line : Int) = (lastLine rs : Int) := by
  cases h : rs.getLast? with
  | none => exact .inl ⟨List.getLast?_eq_none_iff.mp h, by unfold lastLine; rw [h]; rfl⟩
  | some r => exact .inr ⟨r, rfl, by unfold lastLine; rw [h]⟩
end
theorem told_app (rs : List Row) (r : Row) : told (rs ++ [r]) = told rs ++ [r.dat] := by unfold told; rw [List.map_append]; rfl
theorem ledger_loop {g h : Heap} {L D C td : Addr} {ro co : Obj} {a1 a2 a3 a4 a5 : Addr × Obj} {vs : List Value} {v : Value} {k : Nat} {rest : List (Addr × Obj)}
    (N : News g L h ((D, ro) :: a1 :: a2 :: a3 :: a4 :: a5 :: (C, co) :: (td, listOf (vs.toArray.push v) k) :: rest)) : News g L h ((td, listOf (vs ++ [v]).toArray k) :: (D, ro) :: (C, co) :: rest) := by
  have e : vs.toArray.push v = (vs ++ [v]).toArray := by simp
  rw [e] at N
  intro p hp
  rcases List.mem_cons.mp hp with rfl | hp
  · exact N _ (by simp)
  · rcases List.mem_cons.mp hp with rfl | hp
    · exact N _ (by simp)
    · rcases List.mem_cons.mp hp with rfl | hp
      · exact N _ (by simp)
      · exact N _ (by simp [hp])
theorem ledger_row {g h : Heap} {L D C td : Addr} (r : Row) {n9 : Nat} {t1 t2 t3 t4 : Tok} {co : Obj} {a1 a2 a3 a4 a5 : Addr × Obj} {vs : List Value} {v : Value} {k : Nat} {rest : List (Addr × Obj)}
    (N : News g L h ((D, rowObj r n9 t1 t2 t3 t4) :: a1 :: a2 :: a3 :: a4 :: a5 :: (C, co) :: (td, listOf (vs.toArray.push v) k) :: rest)) : ∃ n9 t1 t2 t3 t4, News g L h ((td, listOf (vs ++ [v]).toArray k) :: (D, rowObj r n9 t1 t2 t3 t4) :: (C, co) :: rest) := ⟨_, _, _, _, _, ledger_loop N⟩
theorem row_new {base : List (Addr × Obj)} {vs : List Value} {rs : List Row} {D : Addr} {r : Row} {n : Nat} {t1 t2 t3 t4 : Tok} (h : DatAll base vs (told rs)) : DatAll ((D, rowObj r n t1 t2 t3 t4) :: base) (vs ++ [.ref D]) (told (rs ++ [r])) := by
  rw [told_app]
  exact (h.mono fun p hp => List.mem_cons_of_mem _ hp).append (.one (row_in (List.mem_cons_self ..)))
section
variable {w : World} {T : TreeAt} {L : Addr} {dp un : Nat} {p : Program} {loose : List Str} {mean : ExcName → Option Value} {mg mb : Str → Option Value} {gd : Option (List Code)} {cn : Str} {cs : Scope} {a : Addr} {ccd : Value} {cl : List (Str × Addr)} {outer : List Env} {A₀ : Around} {ba h₀ : Heap} {m : Str → Option Value} {s : Shared} {Q E : Value → Shared → Prop}
theorem walk_use {k : Nat} (hW : Walk w T k) {td : Addr} {t1 t2 t3 : Tok} {parent : Int} {d : Nat} {dv : Int} (hdv : dv = (d : Int)) {rs : List Row} {vs : List Value} {n : Nat} {base rest : List (Addr × Obj)} (hd9 : d ≤ 10 + k) (hl : rs.length + 2 ^ (4 - k) ≤ 16)
    (hdp : dp ≤ 400 + 20 * k) (hun : un ≤ 4000 + 200 * k) (B : Below A₀ ba outer h₀) (F : Fr h₀ L s.heap m) (X : (hd.heap_1 w.params).In h₀) (N : News h₀ L s.heap ((td, listOf vs.toArray n) :: rest)) (T' : Top p loose mean mg mb h₀) (hk : cs.kind = .function)
    (off : OwnOff rest [td]) (hT : ∀ q ∈ T.objs, q ∈ rest) (hb : ∀ q ∈ base, q ∈ rest) (hD : DatAll base vs (told rs))
    (ret : ∀ vs' n' own h' tk', Fr h₀ L h' m → News h₀ L h' ((td, listOf (List.toArray vs') n') :: (own ++ rest)) → OwnOff own (td :: adrs rest) → DatAll (own ++ base) vs' (told (T.walked k parent d rs)) → Q (.ref td) { s with heap := h', toks := tk' }) :
    wpAny (model PySem.Challenge.rw_oy0315_01.row.prog w) (ktrTop dp un gd cn cs L a ccd cl outer) (call (.ref 787) [.ref td, .ref T.t, .int (k : Int) t1, .int parent t2, .int dv t3]) Q E s := by
  subst hdv
  exact at_use (hW td t1 t2 t3 parent d rs hd9 hl) hdp hun B F X N T' hk vs n base rest rfl off hT hb hD Q E ret
end
theorem walk_off {own rest : List (Addr × Obj)} {D C td : Addr} {ro co : Obj} (off : OwnOff own (td :: adrs ((D, ro) :: (C, co) :: rest))) (ltd : @LT.lt Nat _ td D) (lrest : AllLt D rest) : OwnOff (own ++ [(D, ro)]) (td :: adrs rest) := by
  intro p hp b hb
  rcases List.mem_append.mp hp with hp | hp
  · refine off p hp b ?_
    rcases List.mem_cons.mp hb with rfl | hb
    · exact List.mem_cons_self ..
    · exact List.mem_cons_of_mem _ (List.mem_cons_of_mem _ (List.mem_cons_of_mem _ hb))
  · rw [List.mem_singleton.mp hp]
    rcases List.mem_cons.mp hb with rfl | hb
    · exact Ne.symm (Nat.ne_of_lt ltd)
    · obtain ⟨q, hq, rfl⟩ := List.mem_map.mp hb
      exact Ne.symm (allNe' lrest q hq)
theorem walk_news {g h : Heap} {L : Addr} {t : Addr × Obj} {q c : Addr × Obj} {own rest : List (Addr × Obj)} (N : News g L h (t :: (own ++ q :: c :: rest))) : News g L h (t :: ((own ++ [q]) ++ rest)) := by
  intro p hp
  rcases List.mem_cons.mp hp with rfl | hp
  · exact N _ (List.mem_cons_self ..)
  · rw [List.append_assoc] at hp
    rcases List.mem_append.mp hp with hp | hp
    · exact N _ (List.mem_cons_of_mem _ (List.mem_append_left _ hp))
    · rcases List.mem_cons.mp hp with rfl | hp
      · exact N _ (List.mem_cons_of_mem _ (List.mem_append_right _ (List.mem_cons_self ..)))
      · exact N _ (List.mem_cons_of_mem _ (List.mem_append_right _ (List.mem_cons_of_mem _ (List.mem_cons_of_mem _ hp))))
theorem walk_off0 {rest : List (Addr × Obj)} {D L' td : Addr} {ro co : Obj} (off : OwnOff rest [td]) (ltd : @LT.lt Nat _ td D) (lc : @LT.lt Nat _ td L') : OwnOff ((D, ro) :: (L' + 1, co) :: rest) [td] := by
  intro p hp b hb
  rw [List.mem_singleton.mp hb]
  rcases List.mem_cons.mp hp with rfl | hp
  · exact Ne.symm (Nat.ne_of_lt ltd)
  · rcases List.mem_cons.mp hp with rfl | hp
    · exact Ne.symm (Nat.ne_of_lt (Nat.lt_succ_of_lt lc))
    · exact off p hp td (List.mem_cons_self ..)
theorem walked_len (T : TreeAt) : ∀ n node, 5 - node ≤ n → node < 5 → ∀ (parent : Int) (d : Nat) (rs : List Row), (T.walked node parent d rs).length ≤ rs.length + 2 ^ (4 - node) ∧
    ∀ (here : Int) (rs0 : List Row) (i : Nat), node + i < 5 → (T.wpart T.walked node here d rs0 i).length + 2 ^ (4 - node - i) ≤ rs0.length + 2 ^ (4 - node)
  | 0, node, h, h5 => absurd h5 (by omega)
  | n + 1, node, h, h5 => by
    intro parent d rs
    have main : ∀ (here : Int) (rs0 : List Row) (i : Nat), node + i < 5 → (T.wpart T.walked node here d rs0 i).length + 2 ^ (4 - node - i) ≤ rs0.length + 2 ^ (4 - node) := by
      intro here rs0 i
      induction i with
      | zero => intro _; exact Nat.le_refl _
      | succ i ih =>
        intro hi
        have ih := ih (by omega)
        have e : 2 ^ (4 - node - i) = 2 * 2 ^ (4 - node - (i + 1)) := by
          rw [show 4 - node - i = (4 - node - (i + 1)) + 1 by omega, Nat.pow_succ, Nat.mul_comm]
        rw [TreeAt.wpart]
        split
        · have := (walked_len T n (node + 1 + i) (by omega) (by omega) here (d + 1) (T.wpart T.walked node here d rs0 i)).1
          rw [show 4 - (node + 1 + i) = 4 - node - (i + 1) by omega] at this
          omega
        · omega
    refine ⟨?_, main⟩
    rw [T.walked_eq h5]
    have := main (rs.length : Int) (rs ++ [T.rowOf node parent d rs]) (4 - node) (by omega)
    rw [List.length_append, List.length_singleton, show 4 - node - (4 - node) = 0 by omega] at this
    simp only [Nat.pow_zero] at this
    omega
theorem wpart_room {T : TreeAt} {node : Nat} (h5 : node < 5) {here : Int} {d : Nat} {rs0 : List Row} (hl : rs0.length + 2 ^ (4 - node) ≤ 17) {i : Nat} (hi : node + 1 + i < 5) : (T.wpart T.walked node here d rs0 i).length + 2 ^ (4 - (node + 1 + i)) ≤ 16 := by
  have := (walked_len T 5 node (by omega) h5 0 d []).2 here rs0 i (by omega)
  have e : 2 ^ (4 - node - i) = 2 * 2 ^ (4 - (node + 1 + i)) := by
    rw [show 4 - node - i = (4 - (node + 1 + i)) + 1 by omega, Nat.pow_succ, Nat.mul_comm]
  have h1 := Nat.one_le_two_pow (n := 4 - (node + 1 + i))
  omega
end OyMine
end
section
open PySem PySem.W PyProof.Rows PySem.Builtin PySem.Builtin.Re
set_option maxRecDepth 100000
set_option genInjectivity false
set_option genSizeOf false
set_option genSizeOfSpec false
namespace OyMine
theorem words_Walk_0 : True := by
  w_top off
  k_with_none
  k_with "my omega" => (first
    | with_reducible assumption
    | with_reducible exact Nat.ne_of_lt (by assumption)
    | with_reducible exact Nat.ne_of_gt (by assumption)
    | decide
    | with_reducible exact Nat.le_refl _
    | with_reducible exact Nat.zero_le _
    | with_reducible exact Nat.le_add_right _ _
    | with_reducible exact Nat.le_add_left _ _
    | with_reducible exact Nat.lt_succ_self _
    | with_reducible exact Nat.le_succ _
    | with_reducible exact Nat.succ_pos _
    | with_reducible exact Nat.zero_add _
    | with_reducible exact q4
    | with_reducible exact q8
    | with_reducible exact Nat.le_of_lt (by assumption)
    | with_reducible exact Nat.le_of_succ_le (by assumption)
    | with_reducible exact Nat.le_of_succ_le_succ (by assumption)
    | with_reducible exact Nat.not_lt.mp (by assumption)
    | with_reducible exact Nat.lt_succ_of_le (by assumption)
    | with_reducible exact Nat.le_succ_of_le (by assumption)
    | with_reducible exact Nat.succ_le_of_lt (by assumption)
    | with_reducible exact q1 (by assumption)
    | with_reducible exact q2 (by assumption)
    | with_reducible exact q3 (by assumption)
    | with_reducible exact q5 (by assumption)
    | with_reducible exact q7 (by assumption)
    | with_reducible exact q6 (by assumption) (by assumption)
    | with_reducible exact absurd (by assumption) (Nat.not_lt.mpr (by assumption))
    | (with_reducible refine room_le (by assumption) ?_; with_unfolding_all rfl)
    | (with_reducible refine room_lt (by assumption) ?_; with_unfolding_all rfl)
    | (with_reducible refine room_le0 (by assumption) ?_; with_unfolding_all rfl)
    | ((fail_if_success (with_reducible show _ ≠ _)); (rename _ ∧ _ => cW9; clear cW9); (repeat (rename _ ∧ _ => cW9; clear cW9)); omega)
    | fail "no")
  k_with "my execs cons" => (k_here; refine wpAny_execs_cons ?_; k_fold)
  trivial
theorem mul_dots' (d : Nat) : Txt.mul (mk [46]) (d : Int) = mk (List.replicate d 46) := by rw [← dot_str, mul_dots]
section
variable {prog : Program} {w : World} {A : Around} {E : Value → Shared → Prop} {s : Shared} {x : Str} {t u v : Tok} {Q : Value → Shared → Prop}
theorem rep_any {y z : Str} (hu : u ≠ 0) (hv : v ≠ 0) (huv : u ≠ v) (hyz : (y == z) = false) (hb : x.length + (x.length + 1) * z.length ≤ 16777216)
    (hq : ∀ t' (k : Nat), s.toks ≤ k → Q (.str (Txt.replace x y z) t') { s with toks := k }) : wpAny (model prog w) A (call (.builtin "str.replace") [.str x t, .str y u, .str z v]) Q E s := by
  have hl : PySem.Builtin.Str.tooLong (x.length + (PySem.Builtin.Str.occurrences x y 0 x.length (x.length + 1)).length * z.length) = false := by
    have h1 := StrLaws.occ_length_le x y 0 x.length (x.length + 1)
    have h2 : (PySem.Builtin.Str.occurrences x y 0 x.length (x.length + 1)).length * z.length ≤ (x.length + 1) * z.length := Nat.mul_le_mul_right _ h1
    unfold PySem.Builtin.Str.tooLong
    rw [sizeLine_eq]
    exact decide_eq_false (by omega)
  refine call_gives F.slot_str_replace (typeIs_str _ _ _) F.entry_str_replace (F.args_str_replace_3 _ _ _)
    (gives_str_replace x y z t u v fun _ => ⟨by simp [hu, hv], by simp [huv], hyz, hl⟩) ?_
  unfold Txt.replace at hq
  cases hc : ((PySem.Builtin.Str.occurrences x y 0 x.length (x.length + 1)).isEmpty || (y.length == 0 && z.length == 0))
  · rw [hc] at hq
    simp only [Bool.false_eq_true, if_false] at hq ⊢
    exact ⟨fits_replaced y hb, hq _ _ (Nat.le_add_right _ _)⟩
  · rw [hc] at hq
    simp only [if_true] at hq ⊢
    exact hq t s.toks (Nat.le_refl _)
theorem rep_crlf (hu : u ≠ 0) (hv : v ≠ 0) (huv : u ≠ v) (hx : x.length ≤ 1000) (h : ∀ t' (k : Nat), s.toks ≤ k → Q (.str (mk (crlf x.cps.toList)) t') { s with toks := k }) :
    wpAny (model prog w) A (call (.builtin "str.replace") [.str x t, .str "\r\n" u, .str "\n" v]) Q E s := by
  refine rep_any hu hv huv (by decide +kernel) ?_ fun t' k hk => ?_
  · have : Str.length "\n" = 1 := by decide +kernel
    rw [this]
    omega
  · rw [replace_crlf]
    exact h t' k hk
theorem rep_cr (hu : u ≠ 0) (hv : v ≠ 0) (huv : u ≠ v) (hx : x.length ≤ 1000) (h : ∀ t' (k : Nat), s.toks ≤ k → Q (.str (mk (lf x.cps.toList)) t') { s with toks := k }) :
    wpAny (model prog w) A (call (.builtin "str.replace") [.str (mk (crlf x.cps.toList)) t, .str "\r" u, .str "\n" v]) Q E s := by
  refine rep_any hu hv huv (by decide +kernel) ?_ fun t' k hk => ?_
  · have : Str.length "\n" = 1 := by decide +kernel
    have h2 := crlf_len _ x.cps.toList (Nat.le_refl _)
    have h3 : x.cps.toList.length = x.length := Array.length_toList
    rw [this, mk_len]
    omega
  · rw [replace_cr]
    exact h t' k hk
end
theorem words_Walk_1 : True := by
  k_with "my k_room" => (first | exact Nat.le_of_ble_eq_true rfl | ((try simp only [duk, depth_under_make, depth_under_kw, depth_in1, depth_deeper, depth_caller, recursionLimit]); (try dsimp only [ktrTop]); (try simp only [recursionLimit]); omega))
  k_with "my ktr_room" => (k_room)
  k_with "my k_units" => (first | exact Nat.le_of_ble_eq_true rfl | ((have hcL9W9 := cLine_is); (try simp only [uuk, units_in1, units_deeper, Around.mark_units, units_caller]); (try dsimp only [ktrTop]); omega))
  k_with "my units_room" => (first | exact Nat.le_of_ble_eq_true rfl | ((have hcL9W9 := cLine_is); (try simp only [uuk, units_in1, units_deeper, Around.mark_units, units_caller]); (try dsimp only [ktrTop]); omega))
  k_with "my k_enter" => ((refine' code_def ?k1W9 ?k2W9 ?k3W9 ?k4W9 ?k5W9 ?kAW9 ?kFW9 ?kKW9 ?k6W9 ?k7W9 ?k8W9 ?k9W9 ?kBW9 ?_ ?c2W9 ?c3W9 ?c4W9 ?c5W9; (case kAW9 => exact rfl); (case kFW9 => exact rfl); (case kKW9 => first | exact rfl | assumption); (case k1W9 => k_asm); (case k2W9 => k_asm); (case k3W9 => k_asm); (case k4W9 => k_asm); (case k5W9 => k_asm); (case k6W9 => k_is); (case k7W9 => k_is); (case k8W9 => k_room); (case k9W9 => first | exact BindsTo.of_eq rfl | exact binds_K (by k_in) rfl (by k_is) rfl rfl rfl | fail "k_enter: no rule for these arguments"); (case c5W9 => decide); (case kBW9 => exact locs rfl); (case c2W9 => exact rfl); (case c3W9 => exact rfl); (case c4W9 => exact rfl); k_whole; intro g'W9 L'W9 h'W9 FG'W9 F'W9 N'W9 B'W9 X'W9 T'W9; (try dsimp only); (try k_lift B'W9); (try k_fold)))
  k_with "my getMethod ref" => ((k_here; (with_reducible show wpAny _ _ (getMethod (Value.ref _) (Str.ofString "sub") _) _ _ _); k_dflt (refine' meth_sub ?FW9 ?XW9 ?eW9 ?cW9 ?dW9 ?_; (case FW9 => k_asm); (case XW9 => k_asm); (case eW9 => k_is); (case cW9 => exact rfl); (case dW9 => exact rfl); k_whole)))
  k_with "my call builtin:re.Pattern.sub" => ((k_here; k_dflt (first
    | (refine' sub54_K ?FW9 ?XW9 ?NW9 ?xW9 ?_; (case FW9 => k_asm); (case XW9 => k_asm); (case NW9 => k_asm); (case xW9 => first | exact nl_fits (by assumption) | omega); k_whole; intro t'W9 h'W9 tk'W9 F'W9 N'W9; (try k_sweep))
    | (refine' sub49_K ?FW9 ?XW9 ?NW9 ?xW9 ?_; (case FW9 => k_asm); (case XW9 => k_asm); (case NW9 => k_asm); (case xW9 => first | exact nl_fits (by assumption) | omega); k_whole; intro t'W9 h'W9 tk'W9 F'W9 N'W9; (try k_sweep)))))
  k_with "my call ref" => ((k_here; (with_reducible show wpAny _ _ (call (Value.ref 763) [Value.str _ _]) _ _ _); k_dflt (refine' search_K ?FW9 ?XW9 ?NW9 ?xW9 ?jW9 ?uW9 ?_; (case FW9 => k_asm); (case XW9 => k_asm); (case NW9 => k_asm); (case xW9 => omega); (case jW9 => assumption); (case uW9 => assumption); k_whole; intro a'W9 h'W9 F'W9 N'W9; (try k_sweep))))
  k_with "my kt_len" => (with_reducible assumption)
  k_with "my truthy str" => ((k_here; (with_reducible show wpAny _ _ (PySem.truthy (Value.str _ _)) _ _ _); (refine' KXt.truthy_pos (K := 16777216) ?kxtaW9 ?kxtbW9 (Nat.le_refl _) ?_; (case kxtaW9 => with_reducible assumption); (case kxtbW9 => omega)); intro _))
  k_with "my callWith ref" => ((k_here; (with_reducible show wpAny _ _ (callWith _ (Value.ref 763) _ _ _) _ _ _); k_dflt (refine' callWith_763 ?k1W9 ?_; (case k1W9 => k_asm); k_whole)))
  k_with "my call builtin:str.replace" => ((k_here; (with_reducible show wpAny _ _ (call (Value.builtin "str.replace") [Value.str _ _, Value.str (Str.ofString "'") _, Value.str _ _]) _ _ _); k_dflt ((refine' replaceQ ?aW9 ?bW9 ?cW9 ?dW9 ?_; (case aW9 => k_ne); (case bW9 => k_ne); (case cW9 => k_ne); (case dW9 => first | with_reducible assumption | omega); k_whole; intro t'W9 k'W9 len'W9))))
  k_with "my k_memK" => (first | assumption | (refine need_app ?_; k_memK) | (refine need_cons ?_; k_memK))
  k_with "my subscriptTail" => ((k_here; (with_reducible show wpAny _ _ (subscriptTail _ _ (Value.ref (TreeAt.t _)) (Value.int (Nat.cast _) _)) _ _ _); k_dflt ((refine' tree_item ?NW9 ?TW9 ?kW9 ?_; (case NW9 => k_asm); (case TW9 => k_memK); (case kW9 => omega); k_whole; intro hm'W9))))
  k_with "my call ref" => ((k_here; (with_reducible show wpAny _ _ (call (Value.ref 770) [Value.str (TreeAt.lab _ _) _]) _ _ _); k_dflt ((refine' pure_use (qt_lab _ _ ?OW9 _ ?kW9 _) ?BW9 ?FW9 ?XW9 ?NW9 ?TW9 ?kkW9 ?hdW9 ?huW9 ?_; (case OW9 => assumption); (case kW9 => omega); (case BW9 => k_asm); (case FW9 => k_asm); (case XW9 => k_asm); (case NW9 => k_asm); (case TW9 => k_asm); (case kkW9 => first | exact rfl | assumption); (case hdW9 => k_room); (case huW9 => k_units); k_whole; intro r'W9 h'W9 tk'W9 F'W9 N'W9 ht'W9; obtain ⟨t'W9, e'W9⟩ := ht'W9; subst e'W9; (try k_sweep)))))
  k_with "my call ref" => ((k_here; (with_reducible show wpAny _ _ (call (Value.ref 61) [Value.str (Str.mk (List.toArray _)) _]) _ _ _); k_dflt ((refine' pure_use (qd_mk _ _ _ ?xW9) ?BW9 ?FW9 ?XW9 ?NW9 ?TW9 ?kkW9 ?hdW9 ?huW9 ?_; (case xW9 => first | omega | exact size_out (by assumption) (by omega)); (case BW9 => k_asm); (case FW9 => k_asm); (case XW9 => k_asm); (case NW9 => k_asm); (case TW9 => k_asm); (case kkW9 => first | exact rfl | assumption); (case hdW9 => k_room); (case huW9 => k_units); k_whole; intro r'W9 h'W9 tk'W9 F'W9 N'W9 ht'W9; obtain ⟨t'W9, e'W9⟩ := ht'W9; subst e'W9; (try k_sweep)))))
  k_with "my kt_len" => (first | exact len_out (by assumption) (by omega) | exact len_quoted (by assumption) (by omega) | exact TreeAt.Ok.eol (by assumption) _ (by omega) | exact TreeAt.part_len (by assumption) (by omega) (by omega) | ((with_reducible refine' len_qd ?qqW9); (case qqW9 => kt_len)))
  k_with "my call builtin:len" => ((k_here; (with_reducible show wpAny _ _ (call (Value.builtin "len") [Value.ref (TreeAt.t _)]) _ _ _); k_dflt ((refine' tree_len ?NW9 ?TW9 ?_; (case NW9 => k_asm); (case TW9 => k_memK); k_whole; intro t'W9 k'W9))))
  k_with "my call ref" => ((k_here; (with_reducible show wpAny _ _ (call (Value.ref 782) [Value.ref _, Value.int (Nat.cast _) _]) _ _ _); (with_reducible rename ∀ k, _ < k → k < 5 → Outline _ _ k => ihOW9); k_dflt ((refine' reads_use (ihOW9 _ ?aW9 ?bW9 _) ?BW9 ?FW9 ?XW9 ?NW9 ?TW9 ?kkW9 ?hdW9 ?huW9 ?hnW9 ?_; (case aW9 => omega); (case bW9 => omega); (case BW9 => k_asm); (case FW9 => k_asm); (case XW9 => k_asm); (case NW9 => k_asm); (case TW9 => k_asm); (case kkW9 => first | exact rfl | assumption); (case hdW9 => k_room); (case huW9 => k_units); (case hnW9 => k_memK); k_whole; intro r'W9 h'W9 tk'W9 F'W9 N'W9 ht'W9; obtain ⟨t'W9, e'W9⟩ := ht'W9; subst e'W9; (try k_sweep)))))
  k_with "my inplaceOp Add str str" => ((k_here; (with_reducible show wpAny _ _ (inplaceOp Operator.Add (Value.str _ _) (Value.str _ _)) _ _ _); (refine' iaddK ?kxaaW9 ?kxabW9 ?kxacW9 ?_; (case kxaaW9 => kt_len); (case kxabW9 => kt_len); (case kxacW9 => exact Nat.le_of_ble_eq_true rfl)); intro _ _ _))
  k_with "my k_enter" => ((kp_kind "both"; (fail_if_success k_inElt); (refine' kp_both ?k1W9 ?k2W9 ?k3W9 ?k4W9 ?k5W9 ?kAW9 ?kFW9 ?kKW9 ?k6W9 ?k7W9 ?k8W9 ?kVW9 ?kXW9 ?kQW9 ?kMW9 ?kNW9 ?kDW9 ?kRW9 ?kPW9 ?kSW9 ?kTW9 ?kBW9 ?_ ?c2W9 ?c3W9 ?c4W9 ?c5W9; (case kAW9 => exact rfl); (case kFW9 => exact rfl); (case kKW9 => first | exact rfl | assumption); (case k1W9 => k_asm); (case k2W9 => k_asm); (case k3W9 => k_asm); (case k4W9 => k_asm); (case k5W9 => k_asm); (case k6W9 => k_is); (case k7W9 => k_is); (case k8W9 => k_room); (case kVW9 => kp_lit); (case kXW9 => kp_lit); (case kQW9 => exact rfl); (case kMW9 => exact rfl); (case kNW9 => exact rfl); (case kDW9 => kp_flats); (case kRW9 => exact rfl); (case kPW9 => exact rfl); (case kSW9 => exact fun _ => rfl); (case kTW9 => exact fun _ _ => rfl); (case kBW9 => exact fun _ _ => locs rfl); (case c5W9 => decide); (case c2W9 => exact rfl); (case c3W9 => exact rfl); (case c4W9 => exact rfl); k_whole; intro C'W9 D'W9 o'W9 g'W9 L'W9 h'W9 tk'W9 l1W9 l2W9 lo'W9 hs'W9 fs'W9 FG'W9 F'W9 N'W9 B'W9 X'W9 T'W9; (try k_lt l1W9); (try k_lt2 l2W9); (try dsimp only); (try k_lift B'W9); (try k_fold))))
  k_with "my call builtin:object.__new__" => ((k_here; k_dflt ((refine' new623_K ?FW9 ?XW9 ?NW9 ?_; (case FW9 => k_asm); (case XW9 => k_asm); (case NW9 => k_asm); k_whole; intro x'W9 d'W9 h'W9 F'W9 N'W9 l1W9 l2W9; (try k_lt l1W9); (try k_lt2 l2W9); (try k_sweep)))))
  k_with "my k_all" => (first | exact allNe (by assumption) | exact allNe' (by assumption) | exact allNeT (by assumption) (by first | assumption | omega))
  k_with "my call builtin:str.replace" => ((k_here; k_dflt (first
    | (refine' rep_crlf ?aW9 ?bW9 ?cW9 ?dW9 ?_; (case aW9 => k_ne); (case bW9 => k_ne); (case cW9 => k_ne); (case dW9 => first | omega | exact Nat.le_of_ble_eq_true rfl); k_whole; intro t'W9 k'W9 hk'W9; (try dsimp only at hk'W9))
    | (refine' rep_cr ?aW9 ?bW9 ?cW9 ?dW9 ?_; (case aW9 => k_ne); (case bW9 => k_ne); (case cW9 => k_ne); (case dW9 => first | omega | exact Nat.le_of_ble_eq_true rfl); k_whole; intro t'W9 k'W9 hk'W9; (try dsimp only at hk'W9)))))
  k_with "my k_enter" => ((refine' code_defC ?k1W9 ?k2W9 ?k3W9 ?k4W9 ?k5W9 ?kAW9 ?kFW9 ?kKW9 ?k6W9 ?k7W9 ?k8W9 ?k9W9 ?kBW9 ?kDW9 ?_ ?c2W9 ?c3W9 ?c4W9; (case kAW9 => exact rfl); (case kFW9 => exact rfl); (case kKW9 => first | exact rfl | assumption); (case k1W9 => k_asm); (case k2W9 => k_asm); (case k3W9 => k_asm); (case k4W9 => k_asm); (case k5W9 => k_asm); (case k6W9 => k_is); (case k7W9 => k_is); (case k8W9 => k_room); (case k9W9 => first | exact BindsTo.of_eq rfl | exact binds_K (by k_in) rfl (by k_is) rfl rfl rfl | fail "k_enter: no rule for these arguments"); (case kBW9 => exact rfl); (case kDW9 => decide +kernel); (case c2W9 => exact rfl); (case c3W9 => exact rfl); (case c4W9 => exact rfl); k_whole; intro g'W9 L'W9 h'W9 tk'W9 cells'W9 FG'W9 F'W9 N'W9 Y'W9 B'W9 X'W9 T'W9 l1W9; (try k_lt l1W9); k_cells Y'W9; (try simp only [List.cons_append, List.nil_append] at N'W9); (try dsimp only); (try k_lift B'W9); (try k_fold)))
  trivial

theorem TextEnd.intro' {h₀ : Heap} {L : Addr} {m : Str → Option Value} {led : List (Addr × Obj)} {x : List Nat} {z : Str} {s : Shared} {t : Tok} {h' : Heap} {tk' : Nat} (e : z = mk x) (F : Fr h₀ L h' m) (N : News h₀ L h' led) :
    TextEnd h₀ L m led x s (.str z t) { s with heap := h', toks := tk' } := by subst e; exact TextEnd.intro F N
noncomputable def DotsIs (_ : Nat) : Prop := True
noncomputable abbrev dotsN {d : Nat} (_ : DotsIs d) : Nat := d
noncomputable abbrev dotsF {d : Nat} (_ : DotsIs d) : List Nat → List Nat := dotted d
theorem head_cases (d : Nat) (q : List Nat) : ((Txt.slice (mk q) none (some 1) == Str.ofString ".") = true ∧ Txt.mul (Str.ofString ".") (d : Int) ++ mk q = mk (dotted d q)) ∨ ((Txt.slice (mk q) none (some 1) == Str.ofString ".") = false ∧ mk q = mk (dotted d q)) := by
  have e : Txt.slice (mk q) none (some 1) = mk (q.take 1) := by
    cases q with
    | nil => decide +kernel
    | cons c r =>
      have := StrLaws.sliceText_to (x := mk (c :: r)) (j := 1) ⟨by decide, by rw [mk_list]; simp only [List.length_cons]; omega⟩
      refine (show Txt.slice (mk (c :: r)) none (some 1) = StrLaws.sliceText (mk (c :: r)) none (some 1) from rfl).trans (this.trans ?_)
      simp
  rw [e, dot_str, mul_dots', mk_append]
  unfold dotted
  by_cases h : q.head? = some 46
  · rw [if_pos h]
    cases q with
    | nil => cases h
    | cons c r =>
      have : c = 46 := by simpa using h
      subst this
      exact .inl ⟨by simp, rfl⟩
  · rw [if_neg h]
    refine .inr ⟨?_, rfl⟩
    refine beq_eq_false_iff_ne.mpr fun e => h ?_
    have := congrArg (fun x : Str => x.cps.toList) e
    cases q with
    | nil => simp at this
    | cons c r => simpa using this
theorem head_casesD {d : Nat} (_ : DotsIs d) (q : List Nat) : ((Txt.slice (mk q) none (some 1) == Str.ofString ".") = true ∧ Txt.mul (Str.ofString ".") (d : Int) ++ mk q = mk (dotted d q)) ∨ ((Txt.slice (mk q) none (some 1) == Str.ofString ".") = false ∧ mk q = mk (dotted d q)) := head_cases d q
theorem strs_size {ws : List Value} (h : ws.length ≤ 1000) : ws.toArray.size ≤ sizeLine := by rw [List.size_toArray, sizeLine_eq]; omega
theorem strs_size1 {v : Value} {ws : List Value} (h : ws.length ≤ 1000) : (v :: ws).toArray.size ≤ sizeLine := by rw [List.size_toArray, sizeLine_eq, List.length_cons]; omega
theorem strs_size2 {v : Value} {ys : List Value} (h : ys.length ≤ 1000) : (#[v] : Array Value).toList.length + ys.toArray.toList.length ≤ sizeLine := by rw [sizeLine_eq]; simp; omega
theorem src_at {h₀ : Heap} {ax : Addr} {its : Array Value} {k : Nat} {news : List (Addr × Obj)} (hm : (ax, listOf its k) ∈ news) : LCg.SrcAt h₀ ax its news := .inr ⟨_, hm, rfl, _, rfl⟩
theorem words_Walk_2 : True := by
  k_with "my call builtin:str.split" => ((k_here; k_dflt ((refine' split_lf ?FW9 ?NW9 ?lW9 ?_; (case FW9 => k_asm); (case NW9 => k_asm); (case lW9 => assumption); k_whole; intro D'W9 p'W9 ps'W9 tp'W9 ws'W9 h'W9 k'W9 e'W9 hw'W9 hl'W9 hq8W9 F'W9 N'W9 l1W9; (try k_lt l1W9); (try k_sweep)))))
  k_with "my subscriptTail Name Slice ref ref" => ((k_here; (with_reducible show wpAny _ _ (subscriptTail _ (PySem.Expr.Slice _ _ none _) (Value.ref _) (Value.ref _)) _ _ _); k_dflt ((refine' kms_slice_lit ?FW9 ?NW9 ?lW9 ?pW9 ?qW9 ?eW9 ?_ ?sW9 ?tW9 ?zW9; (case FW9 => k_asm); (case NW9 => k_asm); (case lW9 => kmk_list); (case pW9 => kmk_part); (case qW9 => kmk_part); (case eW9 => first | exact pick_to1 _ _ | exact pick_from1 _ _); (case sW9 => with_unfolding_all rfl); (case tW9 => kmk_pure); (case zW9 => exact strs_size1 (by assumption)))); intro D'W9 h'W9 F'W9 N'W9 l1W9; (try k_lt l1W9); (try k_sweep)))
  k_with "my eval ListComp" => ((k_here; (refine' LCg.ListComp_U ?FW9 ?c1W9 ?c2W9 ?c3W9 ?c4W9 ?c5W9 ?_ ?c6W9); (case FW9 => k_asm); (case c1W9 => with_unfolding_all rfl); (case c2W9 => decide); (case c3W9 => rfl); (case c4W9 => decide); (case c5W9 => with_unfolding_all rfl); (case c6W9 => (intro _; with_unfolding_all rfl)); (k_dflt lcg_toSrc)))
  k_with "my CompSrc" => ((refine stop2_of ?_))
  trivial

theorem sz1000 {x : Str} (h : x.length ≤ 1000) : x.length ≤ sizeLine := by rw [sizeLine_eq]; omega
theorem words_Walk_3 : True := by
  k_with "my subscriptTail Name Slice str ref" => ((k_here; (with_reducible show wpAny _ _ (subscriptTail _ (PySem.Expr.Slice none (some _) none _) _ _) _ _ _); k_dflt ((refine' slice_strN_ns (s := ⟨_, _, _, _, _⟩) ?FW9 ?NW9 ?_ ?hsW9 ?htW9 ?zW9; (case FW9 => k_asm); (case NW9 => k_asm); (case hsW9 => with_unfolding_all rfl); (case htW9 => (intro _; with_unfolding_all rfl)); (case zW9 => exact sz1000 (by assumption)))); intro h'W9 t'W9 k'W9 F'W9 N'W9; (try k_sweep)))
  k_with "my TextEnd" => (((exact TextEnd.intro' (by assumption) (by k_asm) (by k_asm))))
  k_with "my compareOp Eq str str" => ((k_here; first
    | (refine' eq_is9 false ?eW9 ?_; (case eW9 => with_reducible assumption))
    | (refine' eq_is9 true ?eW9 ?_; (case eW9 => with_reducible assumption))))
  trivial

noncomputable abbrev lastOf {news : List (Addr × Obj)} {vs : List Value} {rs : List Row} (_ : DatAll news vs (told rs)) : Int := (lastLine rs : Int)
theorem lastOf_cases {news : List (Addr × Obj)} {vs : List Value} {rs : List Row} (_ : DatAll news vs (told rs)) : (rs = [] ∧ (0 : Int) = (lastLine rs : Int)) ∨ ∃ r, rs.getLast? = some r ∧ (r.line : Int) = (lastLine rs : Int) := last_cases rs
noncomputable def EffIs (_ : Int) (_ : Nat) : Prop := True
noncomputable abbrev effOf {parent : Int} {d : Nat} (_ : EffIs parent d) : Int := (TreeAt.effd parent d : Int)
theorem eff_yes {parent : Int} {d : Nat} (h : 0 ≤ parent) : (d : Int) = (TreeAt.effd parent d : Int) := by unfold TreeAt.effd; rw [if_pos h]
theorem eff_no {parent : Int} {d : Nat} (h : ¬ 0 ≤ parent) : (0 : Int) = (TreeAt.effd parent d : Int) := by unfold TreeAt.effd; rw [if_neg h]; rfl
theorem join_lab {D : Addr} {k : Nat} {ws : List Value} {p : List Nat} {tp t : Tok} {ps : List (List Nat)} {d : Nat} {l : List Nat} {prog : Program} {w : World} {A : Around} {E : Value → Shared → Prop} {s : Shared} {h₀ : Heap} {L : Addr} {news : List (Addr × Obj)} {Q : Value → Shared → Prop} (N : News h₀ L s.heap news) (hm : (D, listOf (.str (mk p) tp :: ws).toArray k) ∈ news) (hw : StrsAre ws ((ps.map (dotted d)).map mk))
    (e : splitL 10 (lf l) = p :: ps) (hl : (mk (lf l)).length ≤ 1000) (hd : d ≤ 20)
    (h : ∀ t' k, Q (.str (mk (labd d l)) t') { s with toks := k }) : wpAny (model prog w) A (call (.builtin "str.join") [.str "\r\n" t, .ref D]) Q E s := by
  refine join_crlf N hm hw ?_ fun t' k' => ?_
  · have hs := split_sum 10 (lf l)
    rw [e] at hs
    rw [mk_len] at hl
    have key : ∀ qs : List (List Nat), (((qs.map (dotted d)).map mk).map (·.length)).sum ≤ (qs.map List.length).sum + 20 * qs.length := by
      intro qs
      induction qs with
      | nil => simp
      | cons q qs ih =>
        have hq : (mk (dotted d q)).length ≤ q.length + 20 := by
          rw [mk_len]
          unfold dotted
          split
          · rw [List.length_append, List.length_replicate]; omega
          · omega
        simp only [List.map_cons, List.sum_cons, List.length_cons] at ih ⊢
        omega
    have := key ps
    have e1 : (mk p).length = p.length := mk_len p
    simp only [List.map_cons, List.sum_cons, List.length_cons, List.length_map] at hs this ⊢
    omega
  · rw [← labd_split e]
    exact h t' k'
theorem words_Walk_4 : True := by
  k_with "my binaryOp Add ref ref" => ((k_here; k_dflt ((refine' kmk_add_lit (zs := _ :: _) ?FW9 ?NW9 ?aW9 ?bW9 ?eW9 ?_ ?zW9; (case FW9 => k_asm); (case NW9 => k_asm); (case aW9 => kmk_list); (case bW9 => kmk_list); (case eW9 => exact rfl); (case zW9 => exact strs_size2 (by assumption)))); intro D'W9 h'W9 F'W9 N'W9 l1W9; (try k_lt l1W9); (try k_sweep)))
  k_with "my call builtin:str.join" => ((k_here; k_dflt ((refine' join_lab ?NW9 ?mW9 ?wW9 ?eW9 ?lW9 ?dW9 ?_; (case NW9 => k_asm); (case mW9 => k_mem); (case wW9 => assumption); (case eW9 => assumption); (case lW9 => assumption); (case dW9 => omega); k_whole; intro t'W9 k'W9))))
  k_with "my call builtin:len" => ((k_here; (with_reducible show wpAny _ _ (call (Value.builtin "len") [Value.ref _]) _ _ _); k_dflt (first
    | (refine' rows_len ?NW9 ?mW9 ?wW9 ?eW9 ?lW9 ?_; (case NW9 => k_asm); (case mW9 => k_mem); (case wW9 => assumption); (case eW9 => assumption); (case lW9 => assumption); k_whole; intro t'W9 k'W9)
    | (refine' told_len ?NW9 ?mW9 ?DW9 ?rW9 ?_; (case NW9 => k_asm); (case mW9 => k_mem); (case DW9 => assumption); (case rW9 => omega); k_whole; intro t'W9 k'W9)
    | (refine' tree_len ?NW9 ?TW9 ?_; (case NW9 => k_asm); (case TW9 => k_memK); k_whole; intro t'W9 k'W9))))
  k_with "my truthy ref" => ((k_here; k_dflt (first
    | ((with_reducible rename _ = ([] : List Row) => hq9W9); refine' told_nil ?NW9 ?mW9 ?DW9 ?rW9 ?_; (case NW9 => k_asm); (case mW9 => k_mem); (case DW9 => assumption); (case rW9 => assumption); k_whole; intro k'W9)
    | ((with_reducible rename List.getLast? _ = some _ => hq9W9); refine' told_cons ?NW9 ?mW9 ?DW9 ?rW9 ?lW9 ?_; (case NW9 => k_asm); (case mW9 => k_mem); (case DW9 => assumption); (case rW9 => assumption); (case lW9 => omega); k_whole; intro k'W9))))
  k_with "my subscriptTail" => ((k_here; (with_reducible show wpAny _ _ (subscriptTail _ _ (Value.ref _) (Value.int _ _)) _ _ _); (with_reducible rename List.getLast? _ = some _ => hq9W9); k_dflt ((refine' told_last ?NW9 ?mW9 ?DW9 ?sW9 ?rW9 ?lW9 ?_; (case NW9 => k_asm); (case mW9 => k_mem); (case DW9 => assumption); (case sW9 => ((repeat refine need_cons ?_); assumption)); (case rW9 => assumption); (case lW9 => omega); k_whole; intro a'W9 n'W9 t1'W9 t2'W9 t3'W9 t4'W9 hm'W9))))
  k_with "my subscriptTail" => ((k_here; (with_reducible show wpAny _ _ (subscriptTail _ _ (Value.ref _) (Value.int 3 _)) _ _ _); k_dflt ((refine' row_item3 ?NW9 ?mW9 ?_; (case NW9 => k_asm); (case mW9 => assumption)))))
  k_with "my eval IfExp" => ((k_here; (with_reducible show wpAny _ _ (PySem.eval (PySem.Expr.IfExp (PySem.Expr.Name (Str.ofString "told") _) _ _ _) _) _ _ _); (fail_if_success (with_reducible show wpAny _ _ _ (IntEnd _ _ _ _ _ _) _ _)); with_reducible rename DatAll _ _ (told _) => hD9W9; k_dflt ((refine' cut_int (lastOf hD9W9) ?FW9 ?NW9 ?_ ?_; (case FW9 => k_asm); (case NW9 => k_asm); rotate_left; (intro t'W9 h'W9 tk'W9 F'W9 N'W9; (try k_sweep)); rotate_left; (rcases lastOf_cases hD9W9 with ⟨hn'W9, hl'W9⟩ | ⟨r'W9, hn'W9, hl'W9⟩)))))
  k_with "my eval IfExp" => ((k_here; (with_reducible show wpAny _ _ (PySem.eval (PySem.Expr.IfExp (PySem.Expr.Compare _ [PySem.CmpOp.GtE] _ _) _ _ _) _) _ _ _); (fail_if_success (with_reducible show wpAny _ _ _ (IntEnd _ _ _ _ _ _) _ _)); with_reducible rename EffIs _ _ => hE9W9; k_dflt ((refine' cut_int (effOf hE9W9) ?FW9 ?NW9 ?_ ?_; (case FW9 => k_asm); (case NW9 => k_asm); rotate_left; (intro t'W9 h'W9 tk'W9 F'W9 N'W9; (try k_sweep)); rotate_left))))
  k_with "my IntEnd" => (((refine' IntEnd.intro' ?eW9 ?FW9 ?NW9; (case eW9 => first | assumption | exact (eff_yes (by assumption)) | exact (eff_no (by assumption))); (case FW9 => k_asm); (case NW9 => k_asm))))
  trivial

theorem told_size {news : List (Addr × Obj)} {vs : List Value} {rs : List Row} (h : DatAll news vs (told rs)) (hr : rs.length ≤ 100) : vs.toArray.size ≤ sizeLine := by rw [List.size_toArray, h.length, told_length, sizeLine_eq]; omega
theorem words_Walk_5 : True := by
  k_with "my k_all" => (with_reducible assumption)
  k_with "my call builtin:list.append" => ((k_here; (with_reducible show wpAny _ _ (call (Value.builtin _) [Value.ref _, _]) _ _ _); with_reducible rename DatAll _ _ (told _) => hD9W9; k_dflt ((refine' append_K ?k1W9 ?k2W9 ?k3W9 ?_ ?zW9; (case k1W9 => k_asm); (case k2W9 => k_asm); (case k3W9 => k_upd); (case zW9 => exact told_size hD9W9 (by omega)); k_whole)); intro h'W9 F'W9 N'W9; (try k_sweep)))
  trivial

theorem range_mk {prog : Program} {w : World} {A : Around} {E : Value → Shared → Prop} {s : Shared} {h₀ : Heap} {L : Addr} {m : Str → Option Value} {Q : Value → Shared → Prop} {a b : Int} {t u : Tok} {news : List (Addr × Obj)} (F : Fr h₀ L s.heap m) (N : News h₀ L s.heap news)
    (h : ∀ r h' tk t₁ u₁ v₁, IsRange h' r a b 1 t₁ u₁ v₁ → Fr h₀ L h' m → News h₀ L h' news → Q (.ref r) { s with heap := h', toks := tk }) :
    wpAny (model prog w) A (call (.type "range") [.int a t, .int b u]) Q E s := range2_rows F N fun h' tk t₁ u₁ v₁ R F' N' _ => h _ h' tk t₁ u₁ v₁ R F' N'
theorem words_Walk_6 : True := by
  k_with "my call type:range" => ((k_here; k_dflt ((refine' range_mk ?FW9 ?NW9 ?_; (case FW9 => k_asm); (case NW9 => k_asm); k_whole; intro r'W9 h'W9 tk'W9 t1'W9 u1'W9 v1'W9 R'W9 F'W9 N'W9))))
  k_with "my call ref" => ((k_here; (with_reducible show wpAny _ _ (call (Value.ref 787) _) _ _ _); with_reducible rename ∀ k, _ < k → k < 5 → Walk _ _ k => ihWW9; with_reducible rename DotsIs _ => hd9W9; with_reducible rename OwnOff _ [_] => ho9W9; k_dflt ((refine' walk_use (ihWW9 _ ?aW9 ?bW9) (d := dotsN hd9W9 + 1) ?vW9 ?ddW9 ?lW9 ?hdW9 ?huW9 ?BW9 ?FW9 ?XW9 ?NW9 ?TW9 ?kkW9 ?offW9 ?hTW9 ?hbW9 ?hDW9 ?_; (case aW9 => omega); (case bW9 => omega); (case vW9 => exact rfl); (case BW9 => k_asm); (case FW9 => k_asm); (case XW9 => k_asm); (case NW9 => k_asm); (case TW9 => k_asm); (case kkW9 => first | exact rfl | assumption); (case hdW9 => k_room); (case huW9 => k_units); (case offW9 => exact ho9W9); (case hTW9 => with_reducible assumption); (case hDW9 => with_reducible assumption); (case hbW9 => with_reducible assumption); (case ddW9 => ((try dsimp only [dotsN]); omega)); (case lW9 => with_reducible assumption); k_whole; intro vs'W9 n'W9 own'W9 h'W9 tk'W9 F'W9 N'W9 off'W9 hD'W9; (try k_sweep)))))
  trivial

set_option maxHeartbeats 8000000 in
theorem walk_step (w : World) (T : TreeAt) (O : T.Ok) (node : Nat) (h5 : node < 5) (ih : ∀ k, node < k → k < 5 → Walk w T k) : Walk w T node := by
  w_strict (
  unfold Walk Walks AtAny
  k_fill
  intro td t1 t2 t3 parent d rs hdot hlen dp un p loose mean mg mb news gd cn cs a ccd cl outer A₀ base h₀ L m s hdp hun B F X N T' hk vs n bse rest en off hT hbse hD Q E hret
  subst en
  have hoffE : OwnOff rest [td] ∧ True := ⟨off, trivial⟩
  have hDD : DatAll bse vs (told rs) ∧ True := ⟨hD, trivial⟩
  have hlen2 : rs.length ≤ 16 := by have := Nat.one_le_two_pow (n := 4 - node); omega
  have hofft : ∀ p ∈ rest, p.1 ≠ td := fun p hp => off p hp td (List.mem_cons_self ..)
  have hlab : (T.lab node).length = 4 := O.lab node h5
  have hlf : (mk (lf (T.lab node).cps.toList)).length ≤ 1000 := by
    have h2 := lf_len (T.lab node).cps.toList
    have h3 : (T.lab node).cps.toList.length = (T.lab node).length := Array.length_toList
    rw [mk_len]; omega
  refine wpAny_call ?_
  (k_dflt k_enter)
  rename Obj.data _ = Data.cell _ => hcell
  rename _ ∧ AllLt _ rest => lE
  have ltE := lE.1
  have hcell2 := hcell.trans (congrArg Data.cell (show _ = some (Value.int (d : Int) t3) from by kernel_rfl))
  clear hcell
  have hdots : DotsIs d := trivial
  have heff : EffIs parent d := trivial
  k_steps
  unfold Stop2
  rename StrsAre _ _ => hw9
  rename List.length _ ≤ 1000 => hwl9
  refine' LCg.CompSrc.ledger ?h ?F ?N ?m ?z ?_
  case h => rfl
  case F => k_asm
  case N => k_asm
  case m => k_mem
  case z => exact strs_size (by assumption)
  intro g'
  refine' comp_texts ?v ?S (dotsF hdots) ?turn ?fin
  case v => assumption
  case S => lcg_src
  case turn =>
    intro q' tq' ys' I' oI' C' oC' D' m' h' tk' E' hq' hC' hx' F' N' off' ne'
    rename ∀ q ∈ _, (mk q).length ≤ 1000 => hq9
    have hql := hq9 _ hq'
    rcases head_casesD hdots q' with ⟨hq1', hq2'⟩ | ⟨hq1', hq2'⟩
    · k_steps
    · k_steps
  case fin =>
    intro ys' hys'
    have hysl : ys'.length ≤ 1000 := by
      rw [strs_len hys', List.length_map, List.length_map]
      rw [strs_len hw9, List.length_map] at hwl9
      exact hwl9
    k_with "pyIter ref" => (refine stop2_of ?_)
    k_steps
    unfold Stop2
    rename IsRange _ _ _ _ _ _ _ _ => rgX
    rename News _ _ _ _ => lN
    rename Fr _ _ _ _ => lF
    rename _ ∧ _ => lA
    obtain ⟨_, _, _, _, _, lc, ltd, lrest⟩ := lA
    obtain ⟨n9, t91, t92, t93, t94, lN2⟩ := ledger_row (T.rowOf node parent d rs) lN
    have hlen3 : (rs ++ [T.rowOf node parent d rs]).length + 2 ^ (4 - node) ≤ 17 := by rw [List.length_append, List.length_singleton]; omega
    refine range_told (n₁ := 4 - node) (base := (_, rowObj (T.rowOf node parent d rs) n9 t91 t92 t93 t94) :: bse) (fun i => T.wpart T.walked node (rs.length : Int) d (rs ++ [T.rowOf node parent d rs]) i) (node + 1) (by omega) (by rfl) rgX (small_one (by omega) (by omega) (by omega) (by omega)) ((rangeSize_nat _ _).trans (by omega)) lF lN2 ?off ?hb (row_new (r := T.rowOf node parent d rs) hDD.1) ?turn ?done rfl
    case off => exact walk_off0 hoffE.1 ltd ltE
    case hb =>
      intro q hq
      rcases List.mem_cons.mp hq with rfl | hq
      · exact List.mem_cons_self ..
      · exact List.mem_cons_of_mem _ (List.mem_cons_of_mem _ (hbse q hq))
    case turn =>
      intro i t h tk vs' n' base' rest' hi off' hsub hb' hD' F' N'
      clear lN lN2 lF
      have hcm := List.mem_cons_of_mem (td, listOf vs'.toArray n') (hsub _ (List.mem_cons_of_mem _ (List.mem_cons_self ..)))
      have hT' : ∀ q ∈ T.objs, q ∈ rest' := fun q hq => hsub q (List.mem_cons_of_mem _ (List.mem_cons_of_mem _ (hT q hq)))
      have hroom : (T.wpart T.walked node (rs.length : Int) d (rs ++ [T.rowOf node parent d rs]) i).length + 2 ^ (4 - (node + 1 + i)) ≤ 16 := wpart_room h5 hlen3 (by omega)
      k_steps
      all_goals first
        | (refine ⟨.inl rfl, _, _, _, _, _, _, rfl, by k_asm, fun z hz => if_neg hz, by k_asm, by with_reducible assumption, ?_⟩; rw [TreeAt.wpart, if_pos (by assumption)]; with_reducible assumption)
        | (refine ⟨.inl rfl, _, _, _, vs', n', [], rfl, by k_asm, fun z hz => if_neg hz, by k_asm, fun _ h => (nomatch h), ?_⟩; rw [TreeAt.wpart, if_neg (by assumption)]; exact hD')
    case done =>
      intro vs' n' own' u h tk F' N' off' hD'
      clear lN lN2 lF
      k_steps
      all_goals (refine hret vs' n' _ _ _ (by k_asm) (walk_news (by k_asm)) (walk_off off' ltd lrest) ?_; rw [T.walked_eq h5, List.append_assoc]; exact hD')
  )
theorem walk_all (w : World) (T : TreeAt) (O : T.Ok) : ∀ n node, 5 - node ≤ n → node < 5 → Walk w T node
  | 0, node, h, h5 => absurd h5 (by omega)
  | n + 1, node, h, h5 => walk_step w T O node h5 fun k h1 h2 => walk_all w T O n k (by omega) h2
theorem walk_ok (w : World) (T : TreeAt) (O : T.Ok) : Walk w T 0 := walk_all w T O 5 0 (by decide) (by decide)
end OyMine
end
section
open PySem PySem.W PyProof.Rows PySem.Calls
set_option maxRecDepth 100000
set_option genInjectivity false
set_option genSizeOf false
set_option genSizeOfSpec false
namespace OyMine
noncomputable def stillD (S : List (Nat × Nat)) : List Dat := S.map fun q => .tuple [.int (q.1 : Int), .int (q.2 : Int)]
noncomputable def readD (rows : List Row) (d : Nat) (S : List (Nat × Nat)) : Dat := .tuple [.list (told rows), .int (d : Int), .list (stillD S)]
noncomputable abbrev pairObj (q : Nat × Nat) (n : Nat) (t1 t2 : Tok) : Obj := { cls := .type "tuple", data := .seq #[.int (q.1 : Int) t1, .int (q.2 : Int) t2] n }
noncomputable abbrev readObj (ra sa : Addr) (d : Nat) (td : Tok) (n : Nat) : Obj := { cls := .type "tuple", data := .seq #[.ref ra, .int (d : Int) td, .ref sa] n }
theorem pair_open {news : List (Addr × Obj)} {v : Value} {q : Nat × Nat} (h : DatIn news v (.tuple [.int (q.1 : Int), .int (q.2 : Int)])) : ∃ a n t1 t2, v = .ref a ∧ (a, pairObj q n t1 t2) ∈ news := by
  obtain ⟨a, ws, n, rfl, hm, hd⟩ := inv_tuple h
  obtain ⟨v1, ws, rfl, h1, hd⟩ := inv_cons hd
  obtain ⟨v2, ws, rfl, h2, hd⟩ := inv_cons hd
  obtain rfl := inv_nil hd
  obtain ⟨t1, rfl⟩ := inv_int h1
  obtain ⟨t2, rfl⟩ := inv_int h2
  exact ⟨_, _, _, _, rfl, hm⟩
theorem pair_in {news : List (Addr × Obj)} {a : Addr} {q : Nat × Nat} {n : Nat} {t1 t2 : Tok} (h : (a, pairObj q n t1 t2) ∈ news) : DatIn news (.ref a) (.tuple [.int (q.1 : Int), .int (q.2 : Int)]) :=
  .tuple h (.cons (.int _ _) (.cons (.int _ _) .nil))
theorem read_open {news : List (Addr × Obj)} {v : Value} {rows : List Row} {d : Nat} {S : List (Nat × Nat)} (h : DatIn news v (readD rows d S)) :
    ∃ vt ra sa td n n1 n2 rvs svs, v = .ref vt ∧ (vt, readObj ra sa d td n) ∈ news ∧ (ra, listOf (List.toArray rvs) n1) ∈ news ∧ (sa, listOf (List.toArray svs) n2) ∈ news ∧ DatAll news rvs (told rows) ∧ DatAll news svs (stillD S) := by
  obtain ⟨a, ws, n, rfl, hm, hd⟩ := inv_tuple h
  obtain ⟨v1, ws, rfl, h1, hd⟩ := inv_cons hd
  obtain ⟨v2, ws, rfl, h2, hd⟩ := inv_cons hd
  obtain ⟨v3, ws, rfl, h3, hd⟩ := inv_cons hd
  obtain rfl := inv_nil hd
  obtain ⟨a1, ws1, n1, rfl, m1, d1⟩ := inv_list h1
  obtain ⟨t2, rfl⟩ := inv_int h2
  obtain ⟨a3, ws3, n3, rfl, m3, d3⟩ := inv_list h3
  exact ⟨_, _, _, _, _, _, _, _, _, rfl, hm, m1, m3, d1, d3⟩
theorem read_in {news : List (Addr × Obj)} {vt ra sa : Addr} {td : Tok} {n n1 n2 : Nat} {rvs svs : List Value} {rows : List Row} {d : Nat} {S : List (Nat × Nat)} (h : (vt, readObj ra sa d td n) ∈ news) (h1 : (ra, listOf rvs.toArray n1) ∈ news) (h2 : (sa, listOf svs.toArray n2) ∈ news)
    (d1 : DatAll news rvs (told rows)) (d2 : DatAll news svs (stillD S)) : DatIn news (.ref vt) (readD rows d S) := .tuple h (.cons (.list h1 d1) (.cons (.int _ _) (.cons (.list h2 d2) .nil)))
theorem still_length (S : List (Nat × Nat)) : (stillD S).length = S.length := List.length_map ..
theorem still_app (S S' : List (Nat × Nat)) : stillD (S ++ S') = stillD S ++ stillD S' := by unfold stillD; rw [List.map_append]
theorem goes_dot (c : Nat) : (mk [46]).cps.contains c = decide (c = 46) := by simp
theorem getD_at {l : List Nat} {k : Nat} : (mk l).cps.getD k 0 = l.getD k 0 := by rw [← getD_list, mk_list]
theorem strip_dots (k : Nat) : Txt.stripChars (mk (List.replicate k 46)) (mk [46]) = mk [] := by
  unfold Txt.stripChars
  rw [PyProof.Rows.stripBy_eq]
  obtain ⟨l1, l2, l3⟩ := lo_facts (mk [46]).cps.contains (mk (List.replicate k 46))
  have e : PySem.stripLo (mk [46]).cps.contains true (mk (List.replicate k 46)) = (mk (List.replicate k 46)).length := by
    rcases l3 with h | h
    · exact h
    · by_cases hlt : PySem.stripLo (mk [46]).cps.contains true (mk (List.replicate k 46)) < k
      · rw [goes_dot, getD_at, List.getD_eq_getElem?_getD, List.getElem?_replicate, if_pos hlt] at h
        exact absurd h (by decide)
      · rw [mk_len, List.length_replicate] at l1 ⊢
        omega
  rw [e]
  refine mk_of ?_
  rw [StrLaws.strSub_toList]
  have : (mk (List.replicate k 46)).cps.toList.length = (mk (List.replicate k 46)).length := Array.length_toList
  rw [List.drop_eq_nil_of_le (by omega)]
  exact List.take_nil
theorem strip_word {l : List Nat} (h : 32 ∈ l) : (Txt.stripChars (mk l) (mk [46]) == mk []) = false := by
  unfold Txt.stripChars
  rw [PyProof.Rows.stripBy_eq]
  obtain ⟨k, hk⟩ := List.getElem?_of_mem h
  have hkl := (List.getElem?_eq_some_iff.mp hk).1
  have g : (mk [46]).cps.contains ((mk l).cps.getD k 0) = false := by
    rw [goes_dot, getD_at, List.getD_eq_getElem?_getD, hk]; rfl
  obtain ⟨l1, l2, l3⟩ := lo_facts (mk [46]).cps.contains (mk l)
  obtain ⟨h1, h2, h3, h4⟩ := hi_facts (mk [46]).cps.contains (mk l) _ l1
  have a1 : PySem.stripLo (mk [46]).cps.contains true (mk l) ≤ k := by
    refine Nat.le_of_not_lt fun hlt => ?_
    have := l2 k hlt
    rw [g] at this; cases this
  have a2 : k < PySem.stripHi (mk [46]).cps.contains true (mk l) (PySem.stripLo (mk [46]).cps.contains true (mk l)) := by
    refine Nat.lt_of_not_le fun hle => ?_
    have := h3 k hle (by rw [mk_len]; exact hkl)
    rw [g] at this; cases this
  refine beq_eq_false_iff_ne.mpr fun e => ?_
  have e2 := congrArg (fun x : Str => x.cps.toList) e
  have e2 : (PySem.Builtin.Str.strSub (mk l) (PySem.stripLo (mk [46]).cps.contains true (mk l)) (PySem.stripHi (mk [46]).cps.contains true (mk l) (PySem.stripLo (mk [46]).cps.contains true (mk l)))).cps.toList = [] := e2
  rw [StrLaws.strSub_toList] at e2
  have e3 := congrArg List.length e2
  rw [List.length_take, List.length_drop, List.length_nil] at e3
  have e4 : (mk l).cps.toList.length = (mk l).length := Array.length_toList
  rw [e4] at e3
  omega
section
variable {prog : Program} {w : World} {A : Around} {E : Value → Shared → Prop} {s : Shared} {t u : Tok} {Q : Value → Shared → Prop}
theorem strip_D {k : Nat} (hk : k ≤ 1000) (h : ∀ t' k, Q (.str (Str.ofString "") t') { s with toks := k }) : wpAny (model prog w) A (call (.builtin "str.strip") [.str (mk (List.replicate k 46)) t, .str "." u]) Q E s := by
  refine SC.stripChars (fun t' k' => ?_) (by rw [sizeLine_eq, mk_len, List.length_replicate]; omega)
  rw [dot_str, strip_dots, ← nil_str]
  exact h _ _
end
section
variable {prog : Program} {w : World} {A : Around} {E : Value → Shared → Prop} {s : Shared} {h₀ : Heap} {L sa : Addr} {m : Str → Option Value} {news L9 : List (Addr × Obj)} {svs : List Value} {n : Nat} {S : List (Nat × Nat)}
theorem still_nil {Q : Bool → Shared → Prop} (N : News h₀ L s.heap news) (hm : (sa, listOf svs.toArray n) ∈ news) (hD : DatAll L9 svs (stillD S)) (hr : S = []) (h : ∀ k, Q false { s with toks := k }) : wpAny (model prog w) A (truthy (.ref sa)) Q E s := by
  subst hr
  cases hD
  have hl : s.heap.IsList sa #[] := N.isList hm
  exact wpAny_truthy_list hl (by decide) (h _)
theorem still_last {q : Nat × Nat} (h : S.getLast? = some q) : S[S.length - 1]? = some q ∧ 1 ≤ S.length := by
  rw [List.getLast?_eq_getElem?] at h
  exact ⟨h, by have := (List.getElem?_eq_some_iff.mp h).1; omega⟩
theorem still_cons {Q : Bool → Shared → Prop} (N : News h₀ L s.heap news) (hm : (sa, listOf svs.toArray n) ∈ news) (hD : DatAll L9 svs (stillD S)) {q : Nat × Nat} (hr : S.getLast? = some q) (h5 : S.length ≤ 100) (h : ∀ k, Q true { s with toks := k }) : wpAny (model prog w) A (truthy (.ref sa)) Q E s := by
  have hl : s.heap.IsList sa svs.toArray := N.isList hm
  have e : svs.toArray.size = S.length := by rw [List.size_toArray, hD.length, still_length]
  have h1 := (still_last hr).2
  refine wpAny_truthy_list hl (by rw [e]; omega) ?_
  have e3 : svs.toArray.isEmpty = false := by
    rw [Array.isEmpty, e]
    exact decide_eq_false (by omega)
  rw [e3]
  exact h _
theorem still_item {Q : Value → Shared → Prop} {value slice : PySem.Expr} {u : Tok} (N : News h₀ L s.heap news) (hm : (sa, listOf svs.toArray n) ∈ news) (hD : DatAll L9 svs (stillD S)) (hsub : ∀ q ∈ L9, q ∈ news) {q : Nat × Nat} (hr : S.getLast? = some q) (h5 : S.length ≤ 100)
    (h : ∀ a n t1 t2, (a, pairObj q n t1 t2) ∈ news → Q (.ref a) s)
    (hs : subscripted slice false (.ref sa) (.int (-1) u) = operate [.ref sa, .int (-1) u] (getItem (.ref sa) (.int (-1) u)) := by with_unfolding_all rfl) :
    wpAny (model prog w) A (subscriptTail value slice (.ref sa) (.int (-1) u)) Q E s := by
  have hl : s.heap.IsList sa svs.toArray := N.isList hm
  have e : svs.toArray.size = S.length := by rw [List.size_toArray, hD.length, still_length]
  obtain ⟨g1, g2⟩ := still_last hr
  have hk : S.length - 1 < (stillD S).length := by rw [still_length]; omega
  obtain ⟨v, hv, hV⟩ := hD.get hk
  have ed : (stillD S)[S.length - 1]'hk = .tuple [.int (q.1 : Int), .int (q.2 : Int)] := by
    have : (stillD S)[S.length - 1]? = some (.tuple [.int (q.1 : Int), .int (q.2 : Int)]) := by unfold stillD; rw [List.getElem?_map, g1]; rfl
    exact (List.getElem?_eq_some_iff.mp this).2
  rw [ed] at hV
  obtain ⟨a, n', t1, t2, rfl, hmem⟩ := pair_open hV
  refine tail_any hl.typeIs slot_list_getitem.lookup (wpAny_getItem_list_neg hl (by decide) (by rw [e]; omega) (by decide) ?_ (h a n' t1 t2 (hsub _ hmem))) hs
  rw [e, show ((-1 : Int) + (S.length : Int)).toNat = S.length - 1 by omega]
  simpa using hv
theorem pair_item0 {Q : Value → Shared → Prop} {value slice : PySem.Expr} {u : Tok} {a : Addr} {q : Nat × Nat} {k : Nat} {t1 t2 : Tok} (N : News h₀ L s.heap news) (hm : (a, pairObj q k t1 t2) ∈ news) (h : Q (.int (q.1 : Int) t1) s)
    (hs : subscripted slice false (.ref a) (.int 0 u) = operate [.ref a, .int 0 u] (getItem (.ref a) (.int 0 u)) := by with_unfolding_all rfl) :
    wpAny (model prog w) A (subscriptTail value slice (.ref a) (.int 0 u)) Q E s :=
  item_tupleT (l := [.int (q.1 : Int) t1, .int (q.2 : Int) t2]) (j := 0) (N.isTup hm) (by decide) (by decide) (by rfl) rfl h hs
theorem pair_item1 {Q : Value → Shared → Prop} {value slice : PySem.Expr} {u : Tok} {a : Addr} {q : Nat × Nat} {k : Nat} {t1 t2 : Tok} (N : News h₀ L s.heap news) (hm : (a, pairObj q k t1 t2) ∈ news) (h : Q (.int (q.2 : Int) t2) s)
    (hs : subscripted slice false (.ref a) (.int 1 u) = operate [.ref a, .int 1 u] (getItem (.ref a) (.int 1 u)) := by with_unfolding_all rfl) :
    wpAny (model prog w) A (subscriptTail value slice (.ref a) (.int 1 u)) Q E s :=
  item_tupleT (l := [.int (q.1 : Int) t1, .int (q.2 : Int) t2]) (j := 1) (N.isTup hm) (by decide) (by decide) (by rfl) rfl h hs
theorem lastPar_cases (S : List (Nat × Nat)) : (S = [] ∧ (-1 : Int) = lastPar S) ∨ ∃ q, S.getLast? = some q ∧ (q.2 : Int) = lastPar S := by
  cases h : S.getLast? with
  | none => exact .inl ⟨List.getLast?_eq_none_iff.mp h, by unfold lastPar; rw [h]⟩
  | some q => exact .inr ⟨q, rfl, by unfold lastPar; rw [h]⟩
/-- the end of a test of a comprehension that lets all stand -/
noncomputable def TestEnd (h₀ : Heap) (L : Addr) (m : Str → Option Value) (led : List (Addr × Obj)) (b : Bool) (s : Shared) (ok : Bool) (s₂ : Shared) : Prop :=
  ok = b ∧ ∃ h' tk', s₂ = { s with heap := h', toks := tk' } ∧ Fr h₀ L h' m ∧ News h₀ L h' led
theorem TestEnd.intro' {h₀ : Heap} {L : Addr} {m : Str → Option Value} {led : List (Addr × Obj)} {b ok : Bool} {s : Shared} {h' : Heap} {tk' : Nat} (e : ok = b) (F : Fr h₀ L h' m) (N : News h₀ L h' led) :
    TestEnd h₀ L m led b s ok { s with heap := h', toks := tk' } := ⟨e, h', tk', rfl, F, N⟩
variable {env : Env} {x : Str} {px : Pos} {ct : PySem.Expr} {scope : Scope} {cl : List (Str × Addr)}
/-- the places that stay open -/
theorem comp_still {px' : Pos} (hlook : ∀ (C : Addr) {Q E : Value → Shared → Prop} {s : Shared} {v : Value} {m₂ : Str → Option Value}, s.heap.Ns C m₂ → m₂ x = some v → Q v s → wpAny (model prog w) A (eval (.Name x px') (compEnvC scope cl C env)) Q E s)
    (hD : DatAll L9 svs (stillD S)) {Sx : List (Addr × Obj) → Prop} (hS : Sx news) {Fin : List Value → List (Addr × Obj) → Prop} (d : Nat) (hsub : ∀ q ∈ L9, q ∈ news)
    (turn : ∀ (q : Nat × Nat) (a : Addr) k t1 t2 (ys : List Value) I oI C oC D m₂ h tk (E' : Value → Shared → Prop), (a, pairObj q k t1 t2) ∈ (I, oI) :: (C, oC) :: (D, LCg.lst ys) :: news → LCg.NsObj oC m₂ → m₂ x = some (.ref a) → Fr h₀ L h m → News h₀ L h ((I, oI) :: (C, oC) :: (D, LCg.lst ys) :: news) → LCg.Off3 I C D news → ((@Ne Nat I C) ∧ (@Ne Nat I D) ∧ (@Ne Nat C D)) →
      wpAny (model prog w) A (isTrue ct (compEnvC scope cl C env) (eval ct (compEnvC scope cl C env))) (TestEnd h₀ L m ((I, oI) :: (C, oC) :: (D, LCg.lst ys) :: news) (decide (q.1 < d)) { s with heap := h, toks := tk }) E' { s with heap := h, toks := tk })
    (fin : ∀ ys, DatAll L9 ys (stillD (S.filter fun q => decide (q.1 < d))) → Fin ys news) :
    LCt.CompRestT prog w A h₀ L m env ct (.Name x px') x scope cl s Sx (fun i v => svs.toArray[i]? = some v) Fin svs.toArray.size 0 [] news := by
  have el : svs.length = S.length := by rw [hD.length, still_length]
  have key : ∀ (k i : Nat) (ys : List Value), i + k = S.length → DatAll L9 ys (stillD ((S.take i).filter fun q => decide (q.1 < d))) → LCt.CompRestT prog w A h₀ L m env ct (.Name x px') x scope cl s Sx (fun i v => svs.toArray[i]? = some v) Fin k i ys news := by
    intro k
    induction k with
    | zero =>
      intro i ys e hy
      obtain rfl : i = S.length := by omega
      rw [List.take_length] at hy
      exact LCt.CompRestT.zero (fin ys hy)
    | succ k ih =>
      intro i ys e hy
      refine LCt.CompRestT.succ fun v I oI C oC D m₂ h tk E' hP hC hx F N off ne => ?_
      have hi : i < S.length := by omega
      have hk : i < (stillD S).length := by rw [still_length]; exact hi
      obtain ⟨v', hv, hV⟩ := hD.get hk
      have hvv : v' = v := by
        have : svs[i]? = some v := by simpa using hP
        rw [hv] at this
        exact Option.some.inj this
      subst hvv
      have ed : (stillD S)[i]'hk = .tuple [.int ((S[i]'hi).1 : Int), .int ((S[i]'hi).2 : Int)] := by
        have : (stillD S)[i]? = some (.tuple [.int ((S[i]'hi).1 : Int), .int ((S[i]'hi).2 : Int)]) := by unfold stillD; rw [List.getElem?_map, List.getElem?_eq_getElem hi]; rfl
        exact (List.getElem?_eq_some_iff.mp this).2
      rw [ed] at hV
      obtain ⟨a, n', t1, t2, rfl, hmem⟩ := pair_open hV
      have et : S.take (i + 1) = S.take i ++ [S[i]'hi] := by rw [List.take_succ_eq_append_getElem hi]
      refine wpAny_mono (turn (S[i]'hi) a n' t1 t2 ys I oI C oC D m₂ h tk E' (.tail _ (.tail _ (.tail _ (hsub _ hmem)))) hC hx F N off ne) (fun ok s₂ h2 => ?_) fun _ _ z => z
      obtain ⟨rfl, h', tk', rfl, F', N'⟩ := h2
      by_cases hq : (S[i]'hi).1 < d
      · rw [if_pos (decide_eq_true hq)]
        refine hlook C (hC.ns (N' _ (.tail _ (.head _))).1) hx ?_
        refine LCg.CompEnd.intro F' N' news (fun p hp => hp) off hS (ih (i + 1) _ (by omega) ?_)
        have ef : [S[i]'hi].filter (fun q => decide (q.1 < d)) = [S[i]'hi] := by simp [hq]
        rw [et, List.filter_append, ef, still_app]
        exact hy.append (.one hV)
      · rw [if_neg (fun z => hq (of_decide_eq_true z))]
        refine LCg.CompEnd.intro F' N' news (fun p hp => hp) off hS (ih (i + 1) _ (by omega) ?_)
        have ef : [S[i]'hi].filter (fun q => decide (q.1 < d)) = [] := by simp; omega
        rw [et, List.filter_append, ef, List.append_nil]
        exact hy
  have := key S.length 0 [] (by omega) .nil
  rw [List.size_toArray, el]
  exact this
end
end OyMine
end
section
open PySem PySem.W PyProof.Rows PySem.Builtin PySem.Builtin.Re
set_option maxRecDepth 100000
set_option genInjectivity false
set_option genSizeOf false
set_option genSizeOfSpec false
namespace OyMine
theorem words_Step1_0 : True := by
  w_top off
  k_with_none
  k_with "my omega" => (first
    | with_reducible assumption
    | with_reducible exact Nat.ne_of_lt (by assumption)
    | with_reducible exact Nat.ne_of_gt (by assumption)
    | decide
    | with_reducible exact Nat.le_refl _
    | with_reducible exact Nat.zero_le _
    | with_reducible exact Nat.le_add_right _ _
    | with_reducible exact Nat.le_add_left _ _
    | with_reducible exact Nat.lt_succ_self _
    | with_reducible exact Nat.le_succ _
    | with_reducible exact Nat.succ_pos _
    | with_reducible exact Nat.zero_add _
    | with_reducible exact q4
    | with_reducible exact q8
    | with_reducible exact Nat.le_of_lt (by assumption)
    | with_reducible exact Nat.le_of_succ_le (by assumption)
    | with_reducible exact Nat.le_of_succ_le_succ (by assumption)
    | with_reducible exact Nat.not_lt.mp (by assumption)
    | with_reducible exact Nat.lt_succ_of_le (by assumption)
    | with_reducible exact Nat.le_succ_of_le (by assumption)
    | with_reducible exact Nat.succ_le_of_lt (by assumption)
    | with_reducible exact q1 (by assumption)
    | with_reducible exact q2 (by assumption)
    | with_reducible exact q3 (by assumption)
    | with_reducible exact q5 (by assumption)
    | with_reducible exact q7 (by assumption)
    | with_reducible exact q6 (by assumption) (by assumption)
    | with_reducible exact absurd (by assumption) (Nat.not_lt.mpr (by assumption))
    | (with_reducible refine room_le (by assumption) ?_; with_unfolding_all rfl)
    | (with_reducible refine room_lt (by assumption) ?_; with_unfolding_all rfl)
    | (with_reducible refine room_le0 (by assumption) ?_; with_unfolding_all rfl)
    | ((fail_if_success (with_reducible show _ ≠ _)); (rename _ ∧ _ => cW9; clear cW9); (repeat (rename _ ∧ _ => cW9; clear cW9)); omega)
    | fail "no")
  k_with "my execs cons" => (k_here; refine wpAny_execs_cons ?_; k_fold)
  k_with "my getAttr ref" => (k_here; (with_reducible show wpAny _ _ (getAttr (Value.ref (LexA.x _)) _ _) _ _ _); k_dflt ((with_reducible first | refine' lex_get_instream ?FW9 ?XW9 ?NW9 ?hxW9 ?hdW9 ?_ | refine' lex_get_posix ?FW9 ?XW9 ?NW9 ?hxW9 ?hdW9 ?_ | refine' lex_get_eof ?FW9 ?XW9 ?NW9 ?hxW9 ?hdW9 ?_ | refine' lex_get_commenters ?FW9 ?XW9 ?NW9 ?hxW9 ?hdW9 ?_ | refine' lex_get_wordchars ?FW9 ?XW9 ?NW9 ?hxW9 ?hdW9 ?_ | refine' lex_get_whitespace ?FW9 ?XW9 ?NW9 ?hxW9 ?hdW9 ?_ | refine' lex_get_whitespace_split ?FW9 ?XW9 ?NW9 ?hxW9 ?hdW9 ?_ | refine' lex_get_quotes ?FW9 ?XW9 ?NW9 ?hxW9 ?hdW9 ?_ | refine' lex_get_escape ?FW9 ?XW9 ?NW9 ?hxW9 ?hdW9 ?_ | refine' lex_get_escapedquotes ?FW9 ?XW9 ?NW9 ?hxW9 ?hdW9 ?_ | refine' lex_get_state ?FW9 ?XW9 ?NW9 ?hxW9 ?hdW9 ?_ | refine' lex_get_pushback ?FW9 ?XW9 ?NW9 ?hxW9 ?hdW9 ?_ | refine' lex_get_lineno ?FW9 ?XW9 ?NW9 ?hxW9 ?hdW9 ?_ | refine' lex_get_debug ?FW9 ?XW9 ?NW9 ?hxW9 ?hdW9 ?_ | refine' lex_get_token ?FW9 ?XW9 ?NW9 ?hxW9 ?hdW9 ?_ | refine' lex_get_filestack ?FW9 ?XW9 ?NW9 ?hxW9 ?hdW9 ?_ | refine' lex_get_source ?FW9 ?XW9 ?NW9 ?hxW9 ?hdW9 ?_ | refine' lex_get_punct ?FW9 ?XW9 ?NW9 ?hxW9 ?hdW9 ?_ | refine' lex_get_pushback_chars ?FW9 ?XW9 ?NW9 ?hxW9 ?hdW9 ?_); (case FW9 => k_asm); (case XW9 => k_asm); (case NW9 => k_asm); (case hxW9 => k_mem); (case hdW9 => k_mem); k_whole))
  k_with "my setAttr ref" => (k_here; (with_reducible show wpAny _ _ (setAttr (Value.ref (LexA.x _)) _ _) _ _ _); k_dflt ((with_reducible first | refine' lex_set_state ?FW9 ?XW9 ?okW9 ?offW9 ?NW9 ?_ | refine' lex_set_token ?FW9 ?XW9 ?okW9 ?offW9 ?NW9 ?_ | refine' lex_set_lineno ?FW9 ?XW9 ?okW9 ?offW9 ?NW9 ?_); (case FW9 => k_asm); (case XW9 => k_asm); (case okW9 => assumption); (case offW9 => assumption); (case NW9 => k_asm); k_whole; intro hW9 FaW9 NaW9; (try k_sweep)))
  trivial
theorem words_Step1_1 : True := by
  k_with "my k_room" => (first | exact Nat.le_of_ble_eq_true rfl | ((try simp only [duk, depth_under_make, depth_under_kw, depth_in1, depth_deeper, depth_caller, recursionLimit]); (try dsimp only [ktrTop]); (try simp only [recursionLimit]); omega))
  k_with "my ktr_room" => (k_room)
  k_with "my k_units" => (first | exact Nat.le_of_ble_eq_true rfl | ((have hcL9W9 := cLine_is); (try simp only [uuk, units_in1, units_deeper, Around.mark_units, units_caller]); (try dsimp only [ktrTop]); omega))
  k_with "my units_room" => (first | exact Nat.le_of_ble_eq_true rfl | ((have hcL9W9 := cLine_is); (try simp only [uuk, units_in1, units_deeper, Around.mark_units, units_caller]); (try dsimp only [ktrTop]); omega))
  k_with "my k_enter" => ((refine' code_def ?k1W9 ?k2W9 ?k3W9 ?k4W9 ?k5W9 ?kAW9 ?kFW9 ?kKW9 ?k6W9 ?k7W9 ?k8W9 ?k9W9 ?kBW9 ?_ ?c2W9 ?c3W9 ?c4W9 ?c5W9; (case kAW9 => exact rfl); (case kFW9 => exact rfl); (case kKW9 => first | exact rfl | assumption); (case k1W9 => k_asm); (case k2W9 => k_asm); (case k3W9 => k_asm); (case k4W9 => k_asm); (case k5W9 => k_asm); (case k6W9 => k_is); (case k7W9 => k_is); (case k8W9 => k_room); (case k9W9 => first | exact BindsTo.of_eq rfl | exact binds_K (by k_in) rfl (by k_is) rfl rfl rfl | fail "k_enter: no rule for these arguments"); (case c5W9 => decide); (case kBW9 => exact locs rfl); (case c2W9 => exact rfl); (case c3W9 => exact rfl); (case c4W9 => exact rfl); k_whole; intro g'W9 L'W9 h'W9 FG'W9 F'W9 N'W9 B'W9 X'W9 T'W9; (try dsimp only); (try k_lift B'W9); (try k_fold)))
  k_with "my getMethod ref" => ((k_here; (with_reducible show wpAny _ _ (getMethod (Value.ref _) (Str.ofString "sub") _) _ _ _); k_dflt (refine' meth_sub ?FW9 ?XW9 ?eW9 ?cW9 ?dW9 ?_; (case FW9 => k_asm); (case XW9 => k_asm); (case eW9 => k_is); (case cW9 => exact rfl); (case dW9 => exact rfl); k_whole)))
  k_with "my call builtin:re.Pattern.sub" => ((k_here; k_dflt (first
    | (refine' sub54_K ?FW9 ?XW9 ?NW9 ?xW9 ?_; (case FW9 => k_asm); (case XW9 => k_asm); (case NW9 => k_asm); (case xW9 => first | exact nl_fits (by assumption) | omega); k_whole; intro t'W9 h'W9 tk'W9 F'W9 N'W9; (try k_sweep))
    | (refine' sub49_K ?FW9 ?XW9 ?NW9 ?xW9 ?_; (case FW9 => k_asm); (case XW9 => k_asm); (case NW9 => k_asm); (case xW9 => first | exact nl_fits (by assumption) | omega); k_whole; intro t'W9 h'W9 tk'W9 F'W9 N'W9; (try k_sweep)))))
  k_with "my call ref" => ((k_here; (with_reducible show wpAny _ _ (call (Value.ref 763) [Value.str _ _]) _ _ _); k_dflt (refine' search_K ?FW9 ?XW9 ?NW9 ?xW9 ?jW9 ?uW9 ?_; (case FW9 => k_asm); (case XW9 => k_asm); (case NW9 => k_asm); (case xW9 => omega); (case jW9 => assumption); (case uW9 => assumption); k_whole; intro a'W9 h'W9 F'W9 N'W9; (try k_sweep))))
  k_with "my kt_len" => (with_reducible assumption)
  k_with "my truthy str" => ((k_here; (with_reducible show wpAny _ _ (PySem.truthy (Value.str _ _)) _ _ _); (refine' KXt.truthy_pos (K := 16777216) ?kxtaW9 ?kxtbW9 (Nat.le_refl _) ?_; (case kxtaW9 => with_reducible assumption); (case kxtbW9 => omega)); intro _))
  k_with "my callWith ref" => ((k_here; (with_reducible show wpAny _ _ (callWith _ (Value.ref 763) _ _ _) _ _ _); k_dflt (refine' callWith_763 ?k1W9 ?_; (case k1W9 => k_asm); k_whole)))
  k_with "my call builtin:str.replace" => ((k_here; (with_reducible show wpAny _ _ (call (Value.builtin "str.replace") [Value.str _ _, Value.str (Str.ofString "'") _, Value.str _ _]) _ _ _); k_dflt ((refine' replaceQ ?aW9 ?bW9 ?cW9 ?dW9 ?_; (case aW9 => k_ne); (case bW9 => k_ne); (case cW9 => k_ne); (case dW9 => first | with_reducible assumption | omega); k_whole; intro t'W9 k'W9 len'W9))))
  k_with "my k_memK" => (first | assumption | (refine need_app ?_; k_memK) | (refine need_cons ?_; k_memK))
  k_with "my subscriptTail" => ((k_here; (with_reducible show wpAny _ _ (subscriptTail _ _ (Value.ref (TreeAt.t _)) (Value.int (Nat.cast _) _)) _ _ _); k_dflt ((refine' tree_item ?NW9 ?TW9 ?kW9 ?_; (case NW9 => k_asm); (case TW9 => k_memK); (case kW9 => omega); k_whole; intro hm'W9))))
  k_with "my call ref" => ((k_here; (with_reducible show wpAny _ _ (call (Value.ref 770) [Value.str (TreeAt.lab _ _) _]) _ _ _); k_dflt ((refine' pure_use (qt_lab _ _ ?OW9 _ ?kW9 _) ?BW9 ?FW9 ?XW9 ?NW9 ?TW9 ?kkW9 ?hdW9 ?huW9 ?_; (case OW9 => assumption); (case kW9 => omega); (case BW9 => k_asm); (case FW9 => k_asm); (case XW9 => k_asm); (case NW9 => k_asm); (case TW9 => k_asm); (case kkW9 => first | exact rfl | assumption); (case hdW9 => k_room); (case huW9 => k_units); k_whole; intro r'W9 h'W9 tk'W9 F'W9 N'W9 ht'W9; obtain ⟨t'W9, e'W9⟩ := ht'W9; subst e'W9; (try k_sweep)))))
  k_with "my call ref" => ((k_here; (with_reducible show wpAny _ _ (call (Value.ref 61) [Value.str (Str.mk (List.toArray _)) _]) _ _ _); k_dflt ((refine' pure_use (qd_mk _ _ _ ?xW9) ?BW9 ?FW9 ?XW9 ?NW9 ?TW9 ?kkW9 ?hdW9 ?huW9 ?_; (case xW9 => first | omega | exact size_out (by assumption) (by omega)); (case BW9 => k_asm); (case FW9 => k_asm); (case XW9 => k_asm); (case NW9 => k_asm); (case TW9 => k_asm); (case kkW9 => first | exact rfl | assumption); (case hdW9 => k_room); (case huW9 => k_units); k_whole; intro r'W9 h'W9 tk'W9 F'W9 N'W9 ht'W9; obtain ⟨t'W9, e'W9⟩ := ht'W9; subst e'W9; (try k_sweep)))))
  k_with "my kt_len" => (first | exact len_out (by assumption) (by omega) | exact len_quoted (by assumption) (by omega) | exact TreeAt.Ok.eol (by assumption) _ (by omega) | exact TreeAt.part_len (by assumption) (by omega) (by omega) | ((with_reducible refine' len_qd ?qqW9); (case qqW9 => kt_len)))
  k_with "my call builtin:len" => ((k_here; (with_reducible show wpAny _ _ (call (Value.builtin "len") [Value.ref (TreeAt.t _)]) _ _ _); k_dflt ((refine' tree_len ?NW9 ?TW9 ?_; (case NW9 => k_asm); (case TW9 => k_memK); k_whole; intro t'W9 k'W9))))
  k_with "my call ref" => ((k_here; (with_reducible show wpAny _ _ (call (Value.ref 782) [Value.ref _, Value.int (Nat.cast _) _]) _ _ _); (with_reducible rename ∀ k, _ < k → k < 5 → Outline _ _ k => ihOW9); k_dflt ((refine' reads_use (ihOW9 _ ?aW9 ?bW9 _) ?BW9 ?FW9 ?XW9 ?NW9 ?TW9 ?kkW9 ?hdW9 ?huW9 ?hnW9 ?_; (case aW9 => omega); (case bW9 => omega); (case BW9 => k_asm); (case FW9 => k_asm); (case XW9 => k_asm); (case NW9 => k_asm); (case TW9 => k_asm); (case kkW9 => first | exact rfl | assumption); (case hdW9 => k_room); (case huW9 => k_units); (case hnW9 => k_memK); k_whole; intro r'W9 h'W9 tk'W9 F'W9 N'W9 ht'W9; obtain ⟨t'W9, e'W9⟩ := ht'W9; subst e'W9; (try k_sweep)))))
  k_with "my inplaceOp Add str str" => ((k_here; (with_reducible show wpAny _ _ (inplaceOp Operator.Add (Value.str _ _) (Value.str _ _)) _ _ _); (refine' iaddK ?kxaaW9 ?kxabW9 ?kxacW9 ?_; (case kxaaW9 => kt_len); (case kxabW9 => kt_len); (case kxacW9 => exact Nat.le_of_ble_eq_true rfl)); intro _ _ _))
  k_with "my k_enter" => ((kp_kind "both"; (fail_if_success k_inElt); (refine' kp_both ?k1W9 ?k2W9 ?k3W9 ?k4W9 ?k5W9 ?kAW9 ?kFW9 ?kKW9 ?k6W9 ?k7W9 ?k8W9 ?kVW9 ?kXW9 ?kQW9 ?kMW9 ?kNW9 ?kDW9 ?kRW9 ?kPW9 ?kSW9 ?kTW9 ?kBW9 ?_ ?c2W9 ?c3W9 ?c4W9 ?c5W9; (case kAW9 => exact rfl); (case kFW9 => exact rfl); (case kKW9 => first | exact rfl | assumption); (case k1W9 => k_asm); (case k2W9 => k_asm); (case k3W9 => k_asm); (case k4W9 => k_asm); (case k5W9 => k_asm); (case k6W9 => k_is); (case k7W9 => k_is); (case k8W9 => k_room); (case kVW9 => kp_lit); (case kXW9 => kp_lit); (case kQW9 => exact rfl); (case kMW9 => exact rfl); (case kNW9 => exact rfl); (case kDW9 => kp_flats); (case kRW9 => exact rfl); (case kPW9 => exact rfl); (case kSW9 => exact fun _ => rfl); (case kTW9 => exact fun _ _ => rfl); (case kBW9 => exact fun _ _ => locs rfl); (case c5W9 => decide); (case c2W9 => exact rfl); (case c3W9 => exact rfl); (case c4W9 => exact rfl); k_whole; intro C'W9 D'W9 o'W9 g'W9 L'W9 h'W9 tk'W9 l1W9 l2W9 lo'W9 hs'W9 fs'W9 FG'W9 F'W9 N'W9 B'W9 X'W9 T'W9; (try k_lt l1W9); (try k_lt2 l2W9); (try dsimp only); (try k_lift B'W9); (try k_fold))))
  k_with "my call builtin:object.__new__" => ((k_here; k_dflt ((refine' new623_K ?FW9 ?XW9 ?NW9 ?_; (case FW9 => k_asm); (case XW9 => k_asm); (case NW9 => k_asm); k_whole; intro x'W9 d'W9 h'W9 F'W9 N'W9 l1W9 l2W9; (try k_lt l1W9); (try k_lt2 l2W9); (try k_sweep)))))
  k_with "my k_all" => (first | exact allNe (by assumption) | exact allNe' (by assumption) | exact allNeT (by assumption) (by first | assumption | omega))
  k_with "my k_enter" => ((refine' code_defC ?k1W9 ?k2W9 ?k3W9 ?k4W9 ?k5W9 ?kAW9 ?kFW9 ?kKW9 ?k6W9 ?k7W9 ?k8W9 ?k9W9 ?kBW9 ?kDW9 ?_ ?c2W9 ?c3W9 ?c4W9; (case kAW9 => exact rfl); (case kFW9 => exact rfl); (case kKW9 => first | exact rfl | assumption); (case k1W9 => k_asm); (case k2W9 => k_asm); (case k3W9 => k_asm); (case k4W9 => k_asm); (case k5W9 => k_asm); (case k6W9 => k_is); (case k7W9 => k_is); (case k8W9 => k_room); (case k9W9 => first | exact BindsTo.of_eq rfl | exact binds_K (by k_in) rfl (by k_is) rfl rfl rfl | fail "k_enter: no rule for these arguments"); (case kBW9 => exact rfl); (case kDW9 => decide +kernel); (case c2W9 => exact rfl); (case c3W9 => exact rfl); (case c4W9 => exact rfl); k_whole; intro g'W9 L'W9 h'W9 tk'W9 cells'W9 FG'W9 F'W9 N'W9 Y'W9 B'W9 X'W9 T'W9 l1W9; (try k_lt l1W9); k_cells Y'W9; (try simp only [List.cons_append, List.nil_append] at N'W9); (try dsimp only); (try k_lift B'W9); (try k_fold)))
  k_with "my k_all" => (with_reducible assumption)
  trivial

theorem ledger_in {w : World} {ℓ : LexA} {buf : List Nat} {c : LexC} {rest base : List (Addr × Obj)} (h : ∀ q ∈ base, q ∈ rest) : ∀ q ∈ base, q ∈ lexObjs w ℓ buf c ++ rest := fun q hq => List.mem_append_right _ (h q hq)
/-- a step of the reader -/
noncomputable def StepC (w : World) (ℓ : LexA) (buf : List Nat) (c : LexC) (tok : List Nat) (rows : List Row) (d : Nat) (S : List (Nat × Nat)) (rows' : List Row) (d' : Nat) (S' : List (Nat × Nat)) : Prop :=
  ∀ tl, AtAny w 460 4600 fun A h₀ L m news s => ∀ (v : Value) (base rest : List (Addr × Obj)), news = lexObjs w ℓ buf c ++ rest → (∀ q ∈ base, q ∈ rest) → DatIn base v (readD rows d S) → ∀ Q E : Value → Shared → Prop,
    (∀ v' own h' tk', Fr h₀ L h' m → News h₀ L h' (own ++ (lexObjs w ℓ buf c ++ rest)) → OwnOff own (adrs (lexObjs w ℓ buf c ++ rest)) → DatIn (own ++ base) v' (readD rows' d' S') → Q v' { s with heap := h', toks := tk' }) →
    wpAny (model PySem.Challenge.rw_oy0315_01.row.prog w) A (call (.ref 799) [.ref ℓ.x, v, .str (mk tok) tl]) Q E s
theorem sz1000' {x : Str} (h : x.length ≤ 1000) : x.length ≤ sizeLine := by rw [sizeLine_eq]; omega
theorem words_Step1_2 : True := by
  k_with "my call builtin:str.strip" => ((k_here; k_dflt ((first
    | (refine' strip_D ?kW9 ?_; (case kW9 => omega); k_whole; intro t'W9 k'W9)
    | (refine' SC.stripChars ?_ ?zW9; (case zW9 => exact sz1000' (by assumption)); k_whole; intro t'W9 k'W9)))))
  trivial

theorem allNeS {l : List (Addr × Obj)} {d : Addr} (h : AllLt d l) : ∀ p ∈ l, p.1 ≠ d + 1 := fun p hp => Nat.ne_of_lt (Nat.lt_succ_of_lt (ktn_ltOf h p hp))
theorem words_Step1_3 : True := by
  k_with "my k_all" => (exact allNeS (by assumption))
  k_with "my assign Tuple" => ((k_here; (with_reducible show wpAny _ _ (assign (Expr.Tuple _ _ _) _ (Value.ref _)) _ _ _); k_dflt ((refine' unpackN_ ?k1W9 ?k2W9 ?k3W9 ?k4W9 ?k5W9 ?k6W9 ?_; (case k1W9 => k_asm); (case k2W9 => k_asm); (case k3W9 => exact News.isTup (by k_asm) (by ((repeat (refine List.mem_cons_of_mem _ ?_)); with_reducible assumption))); (case k4W9 => exact rfl); (case k5W9 => exact rfl); (case k6W9 => exact rfl); k_whole)); intro h'W9 F'W9 N'W9; (try k_sweep)))
  trivial

theorem news_skip1 {g h : Heap} {L : Addr} {a c : Addr × Obj} {l : List (Addr × Obj)} (N : News g L h (a :: c :: l)) : News g L h (a :: l) := fun p hp => by
  rcases List.mem_cons.mp hp with rfl | hp
  · exact N _ (List.mem_cons_self ..)
  · exact N _ (List.mem_cons_of_mem _ (List.mem_cons_of_mem _ hp))
theorem off_new {D : Addr} {o : Obj} {l : List (Addr × Obj)} (h : AllLt D l) : OwnOff [(D, o)] (adrs l) := by
  intro p hp b hb
  rw [List.mem_singleton.mp hp]
  obtain ⟨q, hq, rfl⟩ := List.mem_map.mp hb
  exact Ne.symm (allNe' h q hq)
theorem len_dots {prog : Program} {w : World} {A : Around} {E : Value → Shared → Prop} {s : Shared} {t : Tok} {Q : Value → Shared → Prop} {k : Nat} (hk : k ≤ 1000) (h : ∀ t' k', Q (.int (k : Int) t') { s with toks := k' }) : wpAny (model prog w) A (call (.builtin "len") [.str (mk (List.replicate k 46)) t]) Q E s := by
  have e : (mk (List.replicate k 46)).length = k := by rw [mk_len, List.length_replicate]
  refine len_str (by rw [e]; omega) ?_
  rw [e]
  exact h _ _
theorem words_Step1_4 : True := by
  k_with "my call builtin:len" => ((k_here; (with_reducible show wpAny _ _ (call (Value.builtin "len") [Value.str _ _]) _ _ _); k_dflt ((refine' len_dots ?kW9 ?_; (case kW9 => omega); k_whole; intro t'W9 k'W9))))
  trivial

set_option maxHeartbeats 8000000 in
theorem step_dots (w : World) (ℓ : LexA) (ok : ℓ.Ok) (buf : List Nat) (c : LexC) (k : Nat) (hk9 : k ≤ 100) (rows : List Row) (d : Nat) (S : List (Nat × Nat)) : StepC w ℓ buf c (List.replicate k 46) rows d S rows k S := by
  w_strict (
  unfold StepC AtAny
  k_fill
  intro tl dp un p loose mean mg mb news gd cn cs a ccd cl outer A₀ ba h₀ L m s hdp hun B F X N T hk v base rest en hb hR Q E hret
  subst en
  have ok9 := ok
  obtain ⟨o1, o2, o3, o4, o5, o6⟩ := ok
  obtain ⟨vt, ra, sa, td, n, n1, n2, rvs, svs, rfl, hm0, hm1, hm2, hD1, hD2⟩ := read_open hR
  obtain ⟨sv, tok, tt, line, tl', pos, tp, pn, pushed⟩ := c
  have hm0' := hb _ hm0
  have hm1' := hb _ hm1
  have hm2' := hb _ hm2
  simp only [List.cons_append, List.nil_append] at N
  refine wpAny_call ?_
  (k_dflt k_enter)
  k_steps
  all_goals (
    refine hret _ [_] _ _ (by k_asm) (by (rename News _ _ _ _ => kN9; exact news_skip1 kN9)) (by (rename _ ∧ _ => lA); exact off_new lA.2) ?_
    exact read_in (List.mem_cons_self ..) (List.mem_cons_of_mem _ hm1) (List.mem_cons_of_mem _ hm2) (hD1.mono fun q hq => List.mem_cons_of_mem _ hq) (hD2.mono fun q hq => List.mem_cons_of_mem _ hq))
  )
end OyMine
end
section
open PySem PySem.W PyProof.Rows PySem.Builtin PySem.Builtin.Re
set_option maxRecDepth 100000
set_option genInjectivity false
set_option genSizeOf false
set_option genSizeOfSpec false
namespace OyMine
theorem words_Step2_0 : True := by
  w_top off
  k_with_none
  k_with "my omega" => (first
    | with_reducible assumption
    | with_reducible exact Nat.ne_of_lt (by assumption)
    | with_reducible exact Nat.ne_of_gt (by assumption)
    | decide
    | with_reducible exact Nat.le_refl _
    | with_reducible exact Nat.zero_le _
    | with_reducible exact Nat.le_add_right _ _
    | with_reducible exact Nat.le_add_left _ _
    | with_reducible exact Nat.lt_succ_self _
    | with_reducible exact Nat.le_succ _
    | with_reducible exact Nat.succ_pos _
    | with_reducible exact Nat.zero_add _
    | with_reducible exact q4
    | with_reducible exact q8
    | with_reducible exact Nat.le_of_lt (by assumption)
    | with_reducible exact Nat.le_of_succ_le (by assumption)
    | with_reducible exact Nat.le_of_succ_le_succ (by assumption)
    | with_reducible exact Nat.not_lt.mp (by assumption)
    | with_reducible exact Nat.lt_succ_of_le (by assumption)
    | with_reducible exact Nat.le_succ_of_le (by assumption)
    | with_reducible exact Nat.succ_le_of_lt (by assumption)
    | with_reducible exact q1 (by assumption)
    | with_reducible exact q2 (by assumption)
    | with_reducible exact q3 (by assumption)
    | with_reducible exact q5 (by assumption)
    | with_reducible exact q7 (by assumption)
    | with_reducible exact q6 (by assumption) (by assumption)
    | with_reducible exact absurd (by assumption) (Nat.not_lt.mpr (by assumption))
    | (with_reducible refine room_le (by assumption) ?_; with_unfolding_all rfl)
    | (with_reducible refine room_lt (by assumption) ?_; with_unfolding_all rfl)
    | (with_reducible refine room_le0 (by assumption) ?_; with_unfolding_all rfl)
    | ((fail_if_success (with_reducible show _ ≠ _)); (rename _ ∧ _ => cW9; clear cW9); (repeat (rename _ ∧ _ => cW9; clear cW9)); omega)
    | fail "no")
  k_with "my execs cons" => (k_here; refine wpAny_execs_cons ?_; k_fold)
  k_with "my getAttr ref" => (k_here; (with_reducible show wpAny _ _ (getAttr (Value.ref (LexA.x _)) _ _) _ _ _); k_dflt ((with_reducible first | refine' lex_get_instream ?FW9 ?XW9 ?NW9 ?hxW9 ?hdW9 ?_ | refine' lex_get_posix ?FW9 ?XW9 ?NW9 ?hxW9 ?hdW9 ?_ | refine' lex_get_eof ?FW9 ?XW9 ?NW9 ?hxW9 ?hdW9 ?_ | refine' lex_get_commenters ?FW9 ?XW9 ?NW9 ?hxW9 ?hdW9 ?_ | refine' lex_get_wordchars ?FW9 ?XW9 ?NW9 ?hxW9 ?hdW9 ?_ | refine' lex_get_whitespace ?FW9 ?XW9 ?NW9 ?hxW9 ?hdW9 ?_ | refine' lex_get_whitespace_split ?FW9 ?XW9 ?NW9 ?hxW9 ?hdW9 ?_ | refine' lex_get_quotes ?FW9 ?XW9 ?NW9 ?hxW9 ?hdW9 ?_ | refine' lex_get_escape ?FW9 ?XW9 ?NW9 ?hxW9 ?hdW9 ?_ | refine' lex_get_escapedquotes ?FW9 ?XW9 ?NW9 ?hxW9 ?hdW9 ?_ | refine' lex_get_state ?FW9 ?XW9 ?NW9 ?hxW9 ?hdW9 ?_ | refine' lex_get_pushback ?FW9 ?XW9 ?NW9 ?hxW9 ?hdW9 ?_ | refine' lex_get_lineno ?FW9 ?XW9 ?NW9 ?hxW9 ?hdW9 ?_ | refine' lex_get_debug ?FW9 ?XW9 ?NW9 ?hxW9 ?hdW9 ?_ | refine' lex_get_token ?FW9 ?XW9 ?NW9 ?hxW9 ?hdW9 ?_ | refine' lex_get_filestack ?FW9 ?XW9 ?NW9 ?hxW9 ?hdW9 ?_ | refine' lex_get_source ?FW9 ?XW9 ?NW9 ?hxW9 ?hdW9 ?_ | refine' lex_get_punct ?FW9 ?XW9 ?NW9 ?hxW9 ?hdW9 ?_ | refine' lex_get_pushback_chars ?FW9 ?XW9 ?NW9 ?hxW9 ?hdW9 ?_); (case FW9 => k_asm); (case XW9 => k_asm); (case NW9 => k_asm); (case hxW9 => k_mem); (case hdW9 => k_mem); k_whole))
  k_with "my setAttr ref" => (k_here; (with_reducible show wpAny _ _ (setAttr (Value.ref (LexA.x _)) _ _) _ _ _); k_dflt ((with_reducible first | refine' lex_set_state ?FW9 ?XW9 ?okW9 ?offW9 ?NW9 ?_ | refine' lex_set_token ?FW9 ?XW9 ?okW9 ?offW9 ?NW9 ?_ | refine' lex_set_lineno ?FW9 ?XW9 ?okW9 ?offW9 ?NW9 ?_); (case FW9 => k_asm); (case XW9 => k_asm); (case okW9 => assumption); (case offW9 => assumption); (case NW9 => k_asm); k_whole; intro hW9 FaW9 NaW9; (try k_sweep)))
  trivial
theorem words_Step2_1 : True := by
  k_with "my k_room" => (first | exact Nat.le_of_ble_eq_true rfl | ((try simp only [duk, depth_under_make, depth_under_kw, depth_in1, depth_deeper, depth_caller, recursionLimit]); (try dsimp only [ktrTop]); (try simp only [recursionLimit]); omega))
  k_with "my ktr_room" => (k_room)
  k_with "my k_units" => (first | exact Nat.le_of_ble_eq_true rfl | ((have hcL9W9 := cLine_is); (try simp only [uuk, units_in1, units_deeper, Around.mark_units, units_caller]); (try dsimp only [ktrTop]); omega))
  k_with "my units_room" => (first | exact Nat.le_of_ble_eq_true rfl | ((have hcL9W9 := cLine_is); (try simp only [uuk, units_in1, units_deeper, Around.mark_units, units_caller]); (try dsimp only [ktrTop]); omega))
  k_with "my k_enter" => ((refine' code_def ?k1W9 ?k2W9 ?k3W9 ?k4W9 ?k5W9 ?kAW9 ?kFW9 ?kKW9 ?k6W9 ?k7W9 ?k8W9 ?k9W9 ?kBW9 ?_ ?c2W9 ?c3W9 ?c4W9 ?c5W9; (case kAW9 => exact rfl); (case kFW9 => exact rfl); (case kKW9 => first | exact rfl | assumption); (case k1W9 => k_asm); (case k2W9 => k_asm); (case k3W9 => k_asm); (case k4W9 => k_asm); (case k5W9 => k_asm); (case k6W9 => k_is); (case k7W9 => k_is); (case k8W9 => k_room); (case k9W9 => first | exact BindsTo.of_eq rfl | exact binds_K (by k_in) rfl (by k_is) rfl rfl rfl | fail "k_enter: no rule for these arguments"); (case c5W9 => decide); (case kBW9 => exact locs rfl); (case c2W9 => exact rfl); (case c3W9 => exact rfl); (case c4W9 => exact rfl); k_whole; intro g'W9 L'W9 h'W9 FG'W9 F'W9 N'W9 B'W9 X'W9 T'W9; (try dsimp only); (try k_lift B'W9); (try k_fold)))
  k_with "my getMethod ref" => ((k_here; (with_reducible show wpAny _ _ (getMethod (Value.ref _) (Str.ofString "sub") _) _ _ _); k_dflt (refine' meth_sub ?FW9 ?XW9 ?eW9 ?cW9 ?dW9 ?_; (case FW9 => k_asm); (case XW9 => k_asm); (case eW9 => k_is); (case cW9 => exact rfl); (case dW9 => exact rfl); k_whole)))
  k_with "my call builtin:re.Pattern.sub" => ((k_here; k_dflt (first
    | (refine' sub54_K ?FW9 ?XW9 ?NW9 ?xW9 ?_; (case FW9 => k_asm); (case XW9 => k_asm); (case NW9 => k_asm); (case xW9 => first | exact nl_fits (by assumption) | omega); k_whole; intro t'W9 h'W9 tk'W9 F'W9 N'W9; (try k_sweep))
    | (refine' sub49_K ?FW9 ?XW9 ?NW9 ?xW9 ?_; (case FW9 => k_asm); (case XW9 => k_asm); (case NW9 => k_asm); (case xW9 => first | exact nl_fits (by assumption) | omega); k_whole; intro t'W9 h'W9 tk'W9 F'W9 N'W9; (try k_sweep)))))
  k_with "my call ref" => ((k_here; (with_reducible show wpAny _ _ (call (Value.ref 763) [Value.str _ _]) _ _ _); k_dflt (refine' search_K ?FW9 ?XW9 ?NW9 ?xW9 ?jW9 ?uW9 ?_; (case FW9 => k_asm); (case XW9 => k_asm); (case NW9 => k_asm); (case xW9 => omega); (case jW9 => assumption); (case uW9 => assumption); k_whole; intro a'W9 h'W9 F'W9 N'W9; (try k_sweep))))
  k_with "my kt_len" => (with_reducible assumption)
  k_with "my truthy str" => ((k_here; (with_reducible show wpAny _ _ (PySem.truthy (Value.str _ _)) _ _ _); (refine' KXt.truthy_pos (K := 16777216) ?kxtaW9 ?kxtbW9 (Nat.le_refl _) ?_; (case kxtaW9 => with_reducible assumption); (case kxtbW9 => omega)); intro _))
  k_with "my callWith ref" => ((k_here; (with_reducible show wpAny _ _ (callWith _ (Value.ref 763) _ _ _) _ _ _); k_dflt (refine' callWith_763 ?k1W9 ?_; (case k1W9 => k_asm); k_whole)))
  k_with "my call builtin:str.replace" => ((k_here; (with_reducible show wpAny _ _ (call (Value.builtin "str.replace") [Value.str _ _, Value.str (Str.ofString "'") _, Value.str _ _]) _ _ _); k_dflt ((refine' replaceQ ?aW9 ?bW9 ?cW9 ?dW9 ?_; (case aW9 => k_ne); (case bW9 => k_ne); (case cW9 => k_ne); (case dW9 => first | with_reducible assumption | omega); k_whole; intro t'W9 k'W9 len'W9))))
  k_with "my k_memK" => (first | assumption | (refine need_app ?_; k_memK) | (refine need_cons ?_; k_memK))
  k_with "my subscriptTail" => ((k_here; (with_reducible show wpAny _ _ (subscriptTail _ _ (Value.ref (TreeAt.t _)) (Value.int (Nat.cast _) _)) _ _ _); k_dflt ((refine' tree_item ?NW9 ?TW9 ?kW9 ?_; (case NW9 => k_asm); (case TW9 => k_memK); (case kW9 => omega); k_whole; intro hm'W9))))
  k_with "my call ref" => ((k_here; (with_reducible show wpAny _ _ (call (Value.ref 770) [Value.str (TreeAt.lab _ _) _]) _ _ _); k_dflt ((refine' pure_use (qt_lab _ _ ?OW9 _ ?kW9 _) ?BW9 ?FW9 ?XW9 ?NW9 ?TW9 ?kkW9 ?hdW9 ?huW9 ?_; (case OW9 => assumption); (case kW9 => omega); (case BW9 => k_asm); (case FW9 => k_asm); (case XW9 => k_asm); (case NW9 => k_asm); (case TW9 => k_asm); (case kkW9 => first | exact rfl | assumption); (case hdW9 => k_room); (case huW9 => k_units); k_whole; intro r'W9 h'W9 tk'W9 F'W9 N'W9 ht'W9; obtain ⟨t'W9, e'W9⟩ := ht'W9; subst e'W9; (try k_sweep)))))
  k_with "my call ref" => ((k_here; (with_reducible show wpAny _ _ (call (Value.ref 61) [Value.str (Str.mk (List.toArray _)) _]) _ _ _); k_dflt ((refine' pure_use (qd_mk _ _ _ ?xW9) ?BW9 ?FW9 ?XW9 ?NW9 ?TW9 ?kkW9 ?hdW9 ?huW9 ?_; (case xW9 => first | omega | exact size_out (by assumption) (by omega)); (case BW9 => k_asm); (case FW9 => k_asm); (case XW9 => k_asm); (case NW9 => k_asm); (case TW9 => k_asm); (case kkW9 => first | exact rfl | assumption); (case hdW9 => k_room); (case huW9 => k_units); k_whole; intro r'W9 h'W9 tk'W9 F'W9 N'W9 ht'W9; obtain ⟨t'W9, e'W9⟩ := ht'W9; subst e'W9; (try k_sweep)))))
  k_with "my kt_len" => (first | exact len_out (by assumption) (by omega) | exact len_quoted (by assumption) (by omega) | exact TreeAt.Ok.eol (by assumption) _ (by omega) | exact TreeAt.part_len (by assumption) (by omega) (by omega) | ((with_reducible refine' len_qd ?qqW9); (case qqW9 => kt_len)))
  k_with "my call builtin:len" => ((k_here; (with_reducible show wpAny _ _ (call (Value.builtin "len") [Value.ref (TreeAt.t _)]) _ _ _); k_dflt ((refine' tree_len ?NW9 ?TW9 ?_; (case NW9 => k_asm); (case TW9 => k_memK); k_whole; intro t'W9 k'W9))))
  k_with "my call ref" => ((k_here; (with_reducible show wpAny _ _ (call (Value.ref 782) [Value.ref _, Value.int (Nat.cast _) _]) _ _ _); (with_reducible rename ∀ k, _ < k → k < 5 → Outline _ _ k => ihOW9); k_dflt ((refine' reads_use (ihOW9 _ ?aW9 ?bW9 _) ?BW9 ?FW9 ?XW9 ?NW9 ?TW9 ?kkW9 ?hdW9 ?huW9 ?hnW9 ?_; (case aW9 => omega); (case bW9 => omega); (case BW9 => k_asm); (case FW9 => k_asm); (case XW9 => k_asm); (case NW9 => k_asm); (case TW9 => k_asm); (case kkW9 => first | exact rfl | assumption); (case hdW9 => k_room); (case huW9 => k_units); (case hnW9 => k_memK); k_whole; intro r'W9 h'W9 tk'W9 F'W9 N'W9 ht'W9; obtain ⟨t'W9, e'W9⟩ := ht'W9; subst e'W9; (try k_sweep)))))
  k_with "my inplaceOp Add str str" => ((k_here; (with_reducible show wpAny _ _ (inplaceOp Operator.Add (Value.str _ _) (Value.str _ _)) _ _ _); (refine' iaddK ?kxaaW9 ?kxabW9 ?kxacW9 ?_; (case kxaaW9 => kt_len); (case kxabW9 => kt_len); (case kxacW9 => exact Nat.le_of_ble_eq_true rfl)); intro _ _ _))
  k_with "my k_enter" => ((kp_kind "both"; (fail_if_success k_inElt); (refine' kp_both ?k1W9 ?k2W9 ?k3W9 ?k4W9 ?k5W9 ?kAW9 ?kFW9 ?kKW9 ?k6W9 ?k7W9 ?k8W9 ?kVW9 ?kXW9 ?kQW9 ?kMW9 ?kNW9 ?kDW9 ?kRW9 ?kPW9 ?kSW9 ?kTW9 ?kBW9 ?_ ?c2W9 ?c3W9 ?c4W9 ?c5W9; (case kAW9 => exact rfl); (case kFW9 => exact rfl); (case kKW9 => first | exact rfl | assumption); (case k1W9 => k_asm); (case k2W9 => k_asm); (case k3W9 => k_asm); (case k4W9 => k_asm); (case k5W9 => k_asm); (case k6W9 => k_is); (case k7W9 => k_is); (case k8W9 => k_room); (case kVW9 => kp_lit); (case kXW9 => kp_lit); (case kQW9 => exact rfl); (case kMW9 => exact rfl); (case kNW9 => exact rfl); (case kDW9 => kp_flats); (case kRW9 => exact rfl); (case kPW9 => exact rfl); (case kSW9 => exact fun _ => rfl); (case kTW9 => exact fun _ _ => rfl); (case kBW9 => exact fun _ _ => locs rfl); (case c5W9 => decide); (case c2W9 => exact rfl); (case c3W9 => exact rfl); (case c4W9 => exact rfl); k_whole; intro C'W9 D'W9 o'W9 g'W9 L'W9 h'W9 tk'W9 l1W9 l2W9 lo'W9 hs'W9 fs'W9 FG'W9 F'W9 N'W9 B'W9 X'W9 T'W9; (try k_lt l1W9); (try k_lt2 l2W9); (try dsimp only); (try k_lift B'W9); (try k_fold))))
  k_with "my call builtin:object.__new__" => ((k_here; k_dflt ((refine' new623_K ?FW9 ?XW9 ?NW9 ?_; (case FW9 => k_asm); (case XW9 => k_asm); (case NW9 => k_asm); k_whole; intro x'W9 d'W9 h'W9 F'W9 N'W9 l1W9 l2W9; (try k_lt l1W9); (try k_lt2 l2W9); (try k_sweep)))))
  k_with "my k_all" => (first | exact allNe (by assumption) | exact allNe' (by assumption) | exact allNeT (by assumption) (by first | assumption | omega))
  k_with "my k_enter" => ((refine' code_defC ?k1W9 ?k2W9 ?k3W9 ?k4W9 ?k5W9 ?kAW9 ?kFW9 ?kKW9 ?k6W9 ?k7W9 ?k8W9 ?k9W9 ?kBW9 ?kDW9 ?_ ?c2W9 ?c3W9 ?c4W9; (case kAW9 => exact rfl); (case kFW9 => exact rfl); (case kKW9 => first | exact rfl | assumption); (case k1W9 => k_asm); (case k2W9 => k_asm); (case k3W9 => k_asm); (case k4W9 => k_asm); (case k5W9 => k_asm); (case k6W9 => k_is); (case k7W9 => k_is); (case k8W9 => k_room); (case k9W9 => first | exact BindsTo.of_eq rfl | exact binds_K (by k_in) rfl (by k_is) rfl rfl rfl | fail "k_enter: no rule for these arguments"); (case kBW9 => exact rfl); (case kDW9 => decide +kernel); (case c2W9 => exact rfl); (case c3W9 => exact rfl); (case c4W9 => exact rfl); k_whole; intro g'W9 L'W9 h'W9 tk'W9 cells'W9 FG'W9 F'W9 N'W9 Y'W9 B'W9 X'W9 T'W9 l1W9; (try k_lt l1W9); k_cells Y'W9; (try simp only [List.cons_append, List.nil_append] at N'W9); (try dsimp only); (try k_lift B'W9); (try k_fold)))
  k_with "my k_all" => (with_reducible assumption)
  k_with "my k_all" => (exact allNeS (by assumption))
  k_with "my assign Tuple" => ((k_here; (with_reducible show wpAny _ _ (assign (Expr.Tuple _ _ _) _ (Value.ref _)) _ _ _); k_dflt ((refine' unpackN_ ?k1W9 ?k2W9 ?k3W9 ?k4W9 ?k5W9 ?k6W9 ?_; (case k1W9 => k_asm); (case k2W9 => k_asm); (case k3W9 => exact News.isTup (by k_asm) (by ((repeat (refine List.mem_cons_of_mem _ ?_)); with_reducible assumption))); (case k4W9 => exact rfl); (case k5W9 => exact rfl); (case k6W9 => exact rfl); k_whole)); intro h'W9 F'W9 N'W9; (try k_sweep)))
  k_with "my call builtin:str.strip" => ((k_here; k_dflt ((first
    | (refine' strip_D ?kW9 ?_; (case kW9 => omega); k_whole; intro t'W9 k'W9)
    | (refine' SC.stripChars ?_ ?zW9; (case zW9 => exact sz1000' (by assumption)); k_whole; intro t'W9 k'W9)))))
  trivial


theorem news_drop {g h : Heap} {L : Addr} {c : Addr × Obj} {own l : List (Addr × Obj)} (N : News g L h (own ++ c :: l)) : News g L h (own ++ l) := fun p hp => by
  rcases List.mem_append.mp hp with hp | hp
  · exact N _ (List.mem_append_left _ hp)
  · exact N _ (List.mem_append_right _ (List.mem_cons_of_mem _ hp))
theorem off_above {L' : Addr} {own l : List (Addr × Obj)} (h1 : AllLt L' l) (h2 : ∀ p ∈ own, @LT.lt Nat _ L' p.1) : OwnOff own (adrs l) := by
  intro p hp b hb
  obtain ⟨q, hq, rfl⟩ := List.mem_map.mp hb
  exact Ne.symm (Nat.ne_of_lt (Nat.lt_trans (ktn_ltOf h1 q hq) (h2 p hp)))
theorem ltN9 {a b : Nat} (h : a < b) : @LT.lt Nat _ a b := h
theorem read_new {D1 S1 P1 R1 W1 : Addr} {x1 x2 : Addr × Obj} {base : List (Addr × Obj)} {rvs ys : List Value} {rows : List Row} {S : List (Nat × Nat)} {r : Row} {d k n n2 n3 n4 n5 : Nat} {td t1 t2 u1 u2 u3 u4 : Tok} (hD : DatAll base rvs (told rows)) (hS : DatAll base ys (stillD S)) :
    DatIn ([(D1, readObj R1 S1 0 td n), (S1, listOf (ys.toArray.toList ++ [Value.ref P1]).toArray n2), x1, (P1, pairObj (d, k) n4 t1 t2), (R1, listOf (rvs.toArray.toList ++ [Value.ref W1]).toArray n3), x2, (W1, rowObj r n5 u1 u2 u3 u4)] ++ base) (.ref D1) (readD (rows ++ [r]) 0 (S ++ [(d, k)])) := by
  have hsub : ∀ q ∈ base, q ∈ [(D1, readObj R1 S1 0 td n), (S1, listOf (ys.toArray.toList ++ [Value.ref P1]).toArray n2), x1, (P1, pairObj (d, k) n4 t1 t2), (R1, listOf (rvs.toArray.toList ++ [Value.ref W1]).toArray n3), x2, (W1, rowObj r n5 u1 u2 u3 u4)] ++ base := fun q hq => List.mem_append_right _ hq
  refine read_in (n1 := n3) (n2 := n2) (rvs := rvs ++ [Value.ref W1]) (svs := ys ++ [Value.ref P1]) (n := n) (td := td) (.head _) (.tail _ (.tail _ (.tail _ (.tail _ (.head _))))) (.tail _ (.head _)) ?_ ?_
  · rw [told_app]
    exact (hD.mono hsub).append (.one (row_in (.tail _ (.tail _ (.tail _ (.tail _ (.tail _ (.tail _ (.head _)))))))))
  · rw [still_app]
    exact (hS.mono hsub).append (.one (pair_in (q := (d, k)) (.tail _ (.tail _ (.tail _ (.head _))))))
noncomputable abbrev parOf {news : List (Addr × Obj)} {vs : List Value} {S : List (Nat × Nat)} (_ : DatAll news vs (stillD S)) : Int := lastPar S
theorem parOf_cases {news : List (Addr × Obj)} {vs : List Value} {S : List (Nat × Nat)} (_ : DatAll news vs (stillD S)) : (S = [] ∧ (-1 : Int) = lastPar S) ∨ ∃ q, S.getLast? = some q ∧ (q.2 : Int) = lastPar S := lastPar_cases S
theorem still_size {news : List (Addr × Obj)} {vs : List Value} {S : List (Nat × Nat)} (h : DatAll news vs (stillD S)) (hr : S.length ≤ 100) : vs.toArray.size ≤ sizeLine := by rw [List.size_toArray, h.length, still_length, sizeLine_eq]; omega
theorem add_size {vs : List Value} {v : Value} {k : Nat} (h : vs.length = k) (hr : k ≤ 100) : vs.toArray.toList.length + (#[v] : Array Value).toList.length ≤ sizeLine := by rw [sizeLine_eq]; simp; omega
theorem words_Step2_2 : True := by
  k_with "my compareOp Eq str str" => ((k_here; (refine' eq_is9 false ?eW9 ?_; (case eW9 => with_reducible assumption))))
  k_with "my exec Assign cons ListComp" => ((k_here; k_dflt ((refine' LCt.Assign_ListComp_T ?FW9 ?lW9 ?swW9 ?c1W9 ?c2W9 ?c3W9 ?c4W9 ?c5W9 ?c7W9 ?c8W9 ?_ ?c6W9; (case FW9 => k_asm); (case lW9 => rfl); (case swW9 => with_unfolding_all rfl); (case c1W9 => with_unfolding_all rfl); (case c2W9 => decide); (case c3W9 => rfl); (case c4W9 => decide); (case c5W9 => with_unfolding_all rfl); (case c7W9 => with_unfolding_all rfl); (case c8W9 => with_unfolding_all rfl); (case c6W9 => (intro _; with_unfolding_all rfl))); k_dflt lct_toSrc)))
  k_with "my CompSrcT" => ((refine stop2_of ?_))
  k_with "my call builtin:len" => ((k_here; (with_reducible show wpAny _ _ (call (Value.builtin "len") [Value.ref _]) _ _ _); k_dflt ((refine' told_len ?NW9 ?mW9 ?DW9 ?rW9 ?_; (case NW9 => k_asm); (case mW9 => ((repeat (refine List.mem_cons_of_mem _ ?_)); with_reducible assumption)); (case DW9 => assumption); (case rW9 => omega); k_whole; intro t'W9 k'W9))))
  k_with "my truthy ref" => ((k_here; k_dflt (first
    | ((with_reducible rename _ = ([] : List (Nat × Nat)) => hq9W9); refine' still_nil ?NW9 ?mW9 ?DW9 hq9W9 ?_; (case NW9 => k_asm); (case mW9 => k_mem); (case DW9 => assumption); k_whole; intro k'W9)
    | ((with_reducible rename List.getLast? _ = some _ => hq9W9); refine' still_cons ?NW9 ?mW9 ?DW9 hq9W9 ?lW9 ?_; (case NW9 => k_asm); (case mW9 => k_mem); (case DW9 => assumption); (case lW9 => assumption); k_whole; intro k'W9))))
  k_with "my subscriptTail" => ((k_here; (with_reducible show wpAny _ _ (subscriptTail _ _ (Value.ref _) (Value.int _ _)) _ _ _); (with_reducible rename List.getLast? _ = some _ => hq9W9); k_dflt ((refine' still_item ?NW9 ?mW9 ?DW9 ?sW9 hq9W9 ?lW9 ?_; (case NW9 => k_asm); (case mW9 => k_mem); (case DW9 => assumption); (case sW9 => ((repeat refine need_cons ?_); assumption)); (case lW9 => assumption); k_whole; intro a'W9 n'W9 t1'W9 t2'W9 hm'W9))))
  k_with "my subscriptTail" => ((k_here; (with_reducible show wpAny _ _ (subscriptTail _ _ (Value.ref _) (Value.int 1 _)) _ _ _); k_dflt (refine' pair_item1 ?NW9 ?mW9 ?_; (case NW9 => k_asm); (case mW9 => assumption))))
  k_with "my subscriptTail" => ((k_here; (with_reducible show wpAny _ _ (subscriptTail _ _ (Value.ref _) (Value.int 0 _)) _ _ _); k_dflt (refine' pair_item0 ?NW9 ?mW9 ?_; (case NW9 => k_asm); (case mW9 => assumption))))
  k_with "my eval IfExp" => ((k_here; (with_reducible show wpAny _ _ (PySem.eval (PySem.Expr.IfExp _ _ _ _) _) _ _ _); (fail_if_success (with_reducible show wpAny _ _ _ (IntEnd _ _ _ _ _ _) _ _)); with_reducible rename DatAll _ _ (stillD (List.filter _ _)) => hD9W9; k_dflt ((refine' cut_int (parOf hD9W9) ?FW9 ?NW9 ?_ ?_; (case FW9 => k_asm); (case NW9 => k_asm); rotate_left; (intro t'W9 h'W9 tk'W9 F'W9 N'W9; (try k_sweep)); rotate_left; (rcases parOf_cases hD9W9 with ⟨hn'W9, hl'W9⟩ | ⟨q'W9, hn'W9, hl'W9⟩)))))
  k_with "my IntEnd" => (((refine' IntEnd.intro' ?eW9 ?FW9 ?NW9; (case eW9 => assumption); (case FW9 => k_asm); (case NW9 => k_asm))))
  k_with "my binaryOp Add ref ref" => ((k_here; k_dflt ((refine' kmk_add_lit (zs := _ ++ [_]) ?FW9 ?NW9 ?aW9 ?bW9 ?eW9 ?_ ?zW9; (case FW9 => k_asm); (case NW9 => k_asm); (case aW9 => first | kmk_list | exact News.isList (by k_asm) (by ((repeat (refine List.mem_cons_of_mem _ ?_)); with_reducible assumption))); (case bW9 => kmk_list); (case eW9 => exact rfl); (case zW9 => exact add_size (by assumption) (by assumption)))); intro D'W9 h'W9 F'W9 N'W9 l1W9; (try k_lt l1W9); (try k_sweep)))
  trivial

set_option maxHeartbeats 8000000 in
theorem step_word (w : World) (ℓ : LexA) (ok : ℓ.Ok) (buf : List Nat) (c : LexC) (l : List Nat) (line : Nat) (hline : c.line = (line : Int)) (hl : l.length ≤ 1000) (h32 : 32 ∈ l) (rows : List Row) (d : Nat) (S : List (Nat × Nat)) (hr5 : rows.length ≤ 100) (hS5 : S.length ≤ 100) :
    StepC w ℓ buf c l rows d S (rows ++ [⟨d, lastPar (S.filter fun q => decide (q.1 < d)), l, line⟩]) 0 (S.filter (fun q => decide (q.1 < d)) ++ [(d, rows.length)]) := by
  w_strict (
  unfold StepC AtAny
  k_fill
  intro tl dp un p loose mean mg mb news gd cn cs a ccd cl outer A₀ ba h₀ L m s hdp hun B F X N T hk v base rest en hb hR Q E hret
  subst en
  have ok9 := ok
  obtain ⟨o1, o2, o3, o4, o5, o6⟩ := ok
  obtain ⟨vt, ra, sa, td, n, n1, n2, rvs, svs, rfl, hm0, hm1, hm2, hD1, hD2⟩ := read_open hR
  obtain ⟨sv, tok, tt, li, tl', pos, tp, pn, pushed⟩ := c
  dsimp only at hline
  subst hline
  have hm0' := hb _ hm0
  have hm1' := hb _ hm1
  have hm2' := hb _ hm2
  have hstrip : (Txt.stripChars (mk l) (Str.ofString ".") == Str.ofString "") = false := by rw [dot_str, nil_str]; exact strip_word h32
  have hlen : (mk l).length ≤ 1000 := by rw [mk_len]; exact hl
  have hDD : DatAll base svs (stillD S) ∧ True := ⟨hD2, trivial⟩
  have hS6 : (S.filter fun q => decide (q.1 < d)).length ≤ 100 := Nat.le_trans (List.length_filter_le ..) hS5
  have hr1 : rvs.length = rows.length := by rw [hD1.length, told_length]
  simp only [List.cons_append, List.nil_append] at N
  refine wpAny_call ?_
  (k_dflt k_enter)
  rename _ ∧ _ => lE
  k_steps
  unfold Stop2
  refine' LCt.CompSrcT.ledger ?h ?F ?N ?m ?z ?_
  case h => rfl
  case F => k_asm
  case N => k_asm
  case m => ((repeat (refine List.mem_cons_of_mem _ ?_)); with_reducible assumption)
  case z => exact still_size hDD.1 hS5
  intro g'
  refine' comp_still (L9 := base) ?look hDD.1 ?S d ?sub ?turn ?fin
  case look => exact fun C {Q E s v m₂} hns hm h => ldVarK hns hm h (by rfl) (by rfl) (by decide)
  case S => exact .inr ⟨_, (by ((repeat (refine List.mem_cons_of_mem _ ?_)); with_reducible assumption)), rfl, _, rfl⟩
  case sub => (intro q hq; (repeat (refine List.mem_cons_of_mem _ ?_)); exact hb q hq)
  case turn =>
    intro q a' k' t1' t2' ys' I' oI' C' oC' D' m' h' tk' E' hm' hC' hx' F' N' off' ne'
    k_steps
    all_goals exact TestEnd.intro' (decide_eq_decide.mpr Int.ofNat_lt) (by k_asm) (by k_asm)
  case fin =>
    intro ys' hys'
    have hbase : ∀ q ∈ base, q ∈ rest := hb
    have hys1 : ys'.length = (S.filter fun q => decide (q.1 < d)).length := by rw [hys'.length, still_length]
    have hys2 : DatAll base ys' (stillD (S.filter fun q => decide (q.1 < d))) ∧ True := ⟨hys', trivial⟩
    clear hD2
    k_steps
    rename News _ _ _ _ => kN9
    refine hret _ [_, _, _, _, _, _, _] _ _ (by k_asm) (news_drop (news_drop kN9)) (off_above lE (List.forall_mem_cons.mpr ⟨ltN9 (by omega), List.forall_mem_cons.mpr ⟨ltN9 (by omega), List.forall_mem_cons.mpr ⟨ltN9 (by omega), List.forall_mem_cons.mpr ⟨ltN9 (by omega), List.forall_mem_cons.mpr ⟨ltN9 (by omega), List.forall_mem_cons.mpr ⟨ltN9 (by omega), List.forall_mem_cons.mpr ⟨ltN9 (by omega), List.forall_mem_nil _⟩⟩⟩⟩⟩⟩⟩)) ?_
    exact read_new (r := ⟨d, lastPar (S.filter fun q => decide (q.1 < d)), l, line⟩) hD1 hys2.1
  )
end OyMine
end
section
open PySem PySem.W PyProof.Rows PySem.Calls
set_option maxRecDepth 100000
set_option genInjectivity false
set_option genSizeOf false
set_option genSizeOfSpec false
namespace OyMine
/-- rows that the lexer tells back, behind a row that ends on line p -/
noncomputable def Told : Nat → List Row → Prop
  | _, [] => True
  | p, r :: rs => (1 ≤ r.dots ∧ r.dots ≤ 100) ∧ (32 ∈ r.lab ∧ r.lab.length ≤ 800) ∧ r.line = p + 1 + r.lab.count 10 ∧ r.line ≤ 9000 ∧ Told r.line rs
theorem word_is (l : List Nat) (line : Int) (pos : Nat) (b : Bool) : WordR (Word l line pos b) (mk l) := fun _ _ h => h.1
theorem back_len (st : List Row × List (Nat × Nat)) (r : Row) : (back st r).1.length = st.1.length + 1 ∧ (back st r).2.length ≤ st.2.length + 1 := by
  unfold back
  refine ⟨by simp, ?_⟩
  rw [List.length_append, List.length_singleton]
  have := List.length_filter_le (fun q : Nat × Nat => decide (q.1 < r.dots)) st.2
  omega
section
variable {w : World} {ℓ : LexA} {buf : List Nat}
theorem lex_loop (ok : ℓ.Ok) (hb : (mk buf).length ≤ 1000000) {OR : Nat → Shared → Prop} (Inv : List Row → Nat → List (Nat × Nat) → LexC → Shared → Prop) (final : List Row)
    (turn : ∀ n tok rows d S rows' d' S' c line pos b s, LexCall w ℓ buf 755 450 4500 [.ref ℓ.x] c (Word tok line pos b) → (∀ c', Rest line pos b c' → StepC w ℓ buf c' tok rows d S rows' d' S') → Inv rows d S c s → (∀ c' s', Rest line pos b c' → Inv rows' d' S' c' s' → OR n s') → OR (n + 1) s)
    (fin : ∀ n S c s, LexCall w ℓ buf 719 460 4600 [.ref ℓ.x] c Ended → Inv final 0 S c s → OR (n + 1) s) :
    ∀ (rs : List Row) (rows : List Row) (S : List (Nat × Nat)) (c : LexC) (line pos n : Nat) (s : Shared), Rest (line : Int) pos false c → buf.drop pos = 10 :: flat rs → Told line rs → line ≤ 9000 → rows.length + rs.length ≤ 50 → S.length + rs.length ≤ 50 → (rs.foldl back (rows, S)).1 = final → 2 * rs.length + 1 ≤ n → Inv rows 0 S c s → OR n s
  | [], rows, S, c, line, pos, n, s, hc, hd, ht, h9, hr, hS, hf, hn, hi => by
    obtain ⟨n, rfl⟩ : ∃ k, n = k + 1 := ⟨n - 1, by simp at hn; omega⟩
    have hf' : rows = final := hf
    subst hf'
    exact fin n S c s (tok_end ok hb hc (Int.natCast_nonneg _) (by omega) hd) hi
  | r :: rs, rows, S, c, line, pos, n, s, hc, hd, ht, h9, hr, hS, hf, hn, hi => by
    obtain ⟨⟨d1, d2⟩, ⟨l1, l2⟩, hl, hl9, ht'⟩ := ht
    rw [List.length_cons] at hr hS hn
    obtain ⟨n, rfl⟩ : ∃ k, n = k + 1 + 1 := ⟨n - 2, by omega⟩
    obtain ⟨k, hk⟩ : ∃ k, r.dots = k + 1 := ⟨r.dots - 1, by omega⟩
    have hne : r.lab ≠ [] := fun e => by rw [e] at l1; cases l1
    have hd1 : buf.drop pos = 10 :: (List.replicate (k + 1) 46 ++ 39 :: (esc r.lab ++ 39 :: 13 :: (10 :: flat rs))) := by
      rw [hd]
      show 10 :: (r.written ++ flat rs) = _
      unfold Row.written
      rw [hk]
      simp
    have C1 := next_word w ℓ ok buf c _ _ (tok_dots (d := k) ok hb hc (Int.natCast_nonneg _) (by omega) (by omega) hd1) (word_is _ _ _ _)
    refine turn (n + 1) _ rows 0 S rows (k + 1) S c _ _ _ s C1 (fun c' _ => step_dots w ℓ ok buf c' (k + 1) (by omega) rows 0 S) hi fun c1 s1 hc1 hi1 => ?_
    have hd2 : buf.drop (pos + 1 + (k + 1) + 1) = esc r.lab ++ 39 :: 13 :: (10 :: flat rs) := by
      have e : buf.drop (pos + 1 + (k + 1) + 1) = (buf.drop pos).drop (k + 3) := by rw [List.drop_drop]; congr 1; omega
      rw [e, hd1]
      have := List.drop_append (i := k + 1) (l₁ := List.replicate (k + 1) 46) (l₂ := 39 :: (esc r.lab ++ 39 :: 13 :: (10 :: flat rs)))
      show (List.replicate (k + 1) 46 ++ 39 :: (esc r.lab ++ 39 :: 13 :: (10 :: flat rs))).drop (k + 1 + 1) = _
      rw [← List.drop_drop, List.drop_left' (by simp)]
      rfl
    have hc1' : Rest ((line + 1 : Nat) : Int) (pos + 1 + (k + 1) + 1) true c1 := hc1
    have C2 := next_word w ℓ ok buf c1 _ _ (tok_label ok hb hc1' hne (by omega) (Int.natCast_nonneg _) (by omega) hd2) (word_is _ _ _ _)
    have eb : back (rows, S) r = (rows ++ [⟨k + 1, lastPar (S.filter fun q => decide (q.1 < k + 1)), r.lab, r.line⟩], S.filter (fun q => decide (q.1 < k + 1)) ++ [(k + 1, rows.length)]) := by
      unfold back
      rw [hk]
    have eline : (((line + 1 : Nat) : Int) + (r.lab.count 10 : Int)) = ((r.line : Nat) : Int) := by rw [hl]; omega
    rw [eline] at C2
    refine turn n _ rows (k + 1) S (back (rows, S) r).1 0 (back (rows, S) r).2 c1 _ _ _ s1 C2 (fun c' hc' => ?_) hi1 fun c2 s2 hc2 hi2 => ?_
    · rw [eb]
      obtain ⟨_, _, _, _, _, _, e⟩ := hc'
      exact step_word w ℓ ok buf c' r.lab r.line (by rw [e]) (by omega) l1 rows (k + 1) S (by omega) (by omega)
    · have hb2 := back_len (rows, S) r
      refine lex_loop ok hb Inv final turn fin rs (back (rows, S) r).1 (back (rows, S) r).2 c2 r.line _ n s2 hc2 ?_ ht' hl9 (by rw [hb2.1]; dsimp only; omega) (by have := hb2.2; dsimp only at this; omega) hf (by omega) hi2
      have e : buf.drop (pos + 1 + (k + 1) + 1 + (esc r.lab).length + 2) = (buf.drop (pos + 1 + (k + 1) + 1)).drop ((esc r.lab).length + 2) := by rw [List.drop_drop]; congr 1
      rw [e, hd2, ← List.drop_drop, List.drop_left' rfl]
      rfl
theorem lex_start (ok : ℓ.Ok) (hb : (mk buf).length ≤ 1000000) {OR : Nat → Shared → Prop} (Inv : List Row → Nat → List (Nat × Nat) → LexC → Shared → Prop) (final : List Row)
    (turn : ∀ n tok rows d S rows' d' S' c line pos b s, LexCall w ℓ buf 755 450 4500 [.ref ℓ.x] c (Word tok line pos b) → (∀ c', Rest line pos b c' → StepC w ℓ buf c' tok rows d S rows' d' S') → Inv rows d S c s → (∀ c' s', Rest line pos b c' → Inv rows' d' S' c' s' → OR n s') → OR (n + 1) s)
    (fin : ∀ n S c s, LexCall w ℓ buf 719 460 4600 [.ref ℓ.x] c Ended → Inv final 0 S c s → OR (n + 1) s)
    (r : Row) (rs : List Row) (c : LexC) (s : Shared) (hc : Rest 1 0 false c) (hbuf : buf = flat (r :: rs)) (h0 : r.dots = 0) (hl : 32 ∈ r.lab ∧ r.lab.length ≤ 800) (hline : r.line = 1 + r.lab.count 10) (ht : Told r.line rs) (hn : rs.length ≤ 20) (hf : ((r :: rs).foldl back ([], [])).1 = final) (hi : Inv [] 0 [] c s) : OR 64 s := by
  have hne : r.lab ≠ [] := fun e => by rw [e] at hl; cases hl.1
  have hd : buf.drop 0 = 39 :: (esc r.lab ++ 39 :: 13 :: (10 :: flat rs)) := by
    rw [List.drop_zero, hbuf]
    show r.written ++ flat rs = _
    unfold Row.written
    rw [h0]
    simp
  have hcnt : r.lab.count 10 ≤ r.lab.length := List.count_le_length
  have C := next_word w ℓ ok buf c _ _ (tok_first ok hb hc hne (by omega) (by decide) (by decide) hd) (word_is _ _ _ _)
  have eline : ((1 : Int) + (r.lab.count 10 : Int)) = ((r.line : Nat) : Int) := by rw [hline]; omega
  rw [eline] at C
  have eb : back ([], []) r = ([⟨0, lastPar (([] : List (Nat × Nat)).filter fun q => decide (q.1 < 0)), r.lab, r.line⟩], ([] : List (Nat × Nat)).filter (fun q => decide (q.1 < 0)) ++ [(0, 0)]) := by
    unfold back
    rw [h0]
    rfl
  refine turn 63 _ [] 0 [] (back ([], []) r).1 0 (back ([], []) r).2 c _ _ _ s C (fun c' hc' => ?_) hi fun c2 s2 hc2 hi2 => ?_
  · rw [eb]
    obtain ⟨_, _, _, _, _, _, e⟩ := hc'
    exact step_word w ℓ ok buf c' r.lab r.line (by rw [e]) (by omega) hl.1 [] 0 [] (by simp) (by simp)
  · have hb2 := back_len ([], []) r
    refine lex_loop ok hb Inv final turn fin rs (back ([], []) r).1 (back ([], []) r).2 c2 r.line _ 63 s2 hc2 ?_ ht (by omega) (by rw [hb2.1]; simp; omega) (by have := hb2.2; simp at this; omega) hf (by omega) hi2
    have e : buf.drop (0 + 1 + (esc r.lab).length + 2) = (buf.drop 0).drop (1 + ((esc r.lab).length + 2)) := by rw [List.drop_drop]; congr 1; omega
    rw [e, hd, ← List.drop_drop]
    show (esc r.lab ++ 39 :: 13 :: (10 :: flat rs)).drop ((esc r.lab).length + 2) = _
    rw [← List.drop_drop, List.drop_left' rfl]
    rfl
end
end OyMine
end
section
open PySem PySem.W PyProof.Rows
set_option maxRecDepth 100000
set_option genInjectivity false
set_option genSizeOf false
set_option genSizeOfSpec false
namespace OyMine
theorem ins_count (k : Nat) : ∀ (b : Bool) (l : List Nat), (ins k b l).count 10 = l.count 10
  | _, [] => rfl
  | b, c :: r => by
    by_cases h : b = true ∧ c = 46
    · obtain ⟨rfl, rfl⟩ := h
      rw [ins_dot, List.count_append, List.count_cons_of_ne (by decide), List.count_cons_of_ne (by decide), ins_count k _ r, List.count_replicate, if_neg (by decide)]
      omega
    · rw [ins_other h, List.count_cons, List.count_cons, ins_count k _ r]
theorem ins_mem (k : Nat) {x : Nat} : ∀ (b : Bool) (l : List Nat), x ∈ l → x ∈ ins k b l
  | _, [], h => nomatch h
  | b, c :: r, h => by
    by_cases q : b = true ∧ c = 46
    · obtain ⟨rfl, rfl⟩ := q
      rw [ins_dot]
      refine List.mem_append_right _ ?_
      rcases List.mem_cons.mp h with rfl | h
      · exact List.mem_cons_self ..
      · exact List.mem_cons_of_mem _ (ins_mem k _ r h)
    · rw [ins_other q]
      rcases List.mem_cons.mp h with rfl | h
      · exact List.mem_cons_self ..
      · exact List.mem_cons_of_mem _ (ins_mem k _ r h)
theorem ins_len (k : Nat) : ∀ (b : Bool) (l : List Nat), (ins k b l).length ≤ (k + 1) * l.length
  | _, [] => Nat.le_refl _
  | b, c :: r => by
    by_cases h : b = true ∧ c = 46
    · obtain ⟨rfl, rfl⟩ := h
      have := ins_len k false r
      rw [ins_dot, List.length_append, List.length_replicate, List.length_cons, List.length_cons, Nat.mul_succ]
      omega
    · have := ins_len k (c == 10) r
      rw [ins_other h, List.length_cons, List.length_cons, Nat.mul_succ]
      omega
theorem nl_mem {x : Nat} (h10 : x ≠ 10) (h13 : x ≠ 13) : ∀ l, x ∈ l → x ∈ nl l := by
  have z : ∀ {r : List Nat}, x ∈ 13 :: 10 :: nl r ↔ x ∈ nl r := by
    intro r
    simp [h10, h13]
  refine nl_ind ?_ ?_ ?_ ?_ ?_
  · exact fun h => nomatch h
  · intro r ih h
    rw [nl_13_10, z]
    exact ih (by simpa [h10, h13] using h)
  · intro r ih hr h
    rw [nl_13 hr, z]
    exact ih (by simpa [h13] using h)
  · intro r ih h
    rw [nl_10, z]
    exact ih (by simpa [h10] using h)
  · intro c r h1 h2 ih h
    rw [nl_other h1 h2]
    rcases List.mem_cons.mp h with rfl | h
    · exact List.mem_cons_self ..
    · exact List.mem_cons_of_mem _ (ih h)
theorem told_snoc : ∀ (rs : List Row) (p : Nat) (r : Row), Told p rs → (1 ≤ r.dots ∧ r.dots ≤ 100) → (32 ∈ r.lab ∧ r.lab.length ≤ 800) → r.line = (match rs.getLast? with | some q => q.line | none => p) + 1 + r.lab.count 10 → r.line ≤ 9000 → Told p (rs ++ [r])
  | [], p, r, _, h1, h2, h3, h4 => ⟨h1, h2, h3, h4, trivial⟩
  | q :: rs, p, r, h, h1, h2, h3, h4 => by
    obtain ⟨a, b, c, d, e⟩ := h
    refine ⟨a, b, c, d, told_snoc rs q.line r e h1 h2 ?_ h4⟩
    rw [h3]
    cases rs with
    | nil => rfl
    | cons u v => rw [List.getLast?_cons_cons]; cases hh : (u :: v).getLast? with
      | none => simp at hh
      | some z => rfl
/-- what has been told in good order -/
noncomputable def Good (told : List Row) : Prop := ∃ r0 rs, told = r0 :: rs ∧ r0.dots = 0 ∧ (32 ∈ r0.lab ∧ r0.lab.length ≤ 800) ∧ r0.line = 1 + r0.lab.count 10 ∧ Told r0.line rs ∧ lastLine told ≤ 9 * told.length
theorem last_snoc (rs : List Row) (r : Row) : lastLine (rs ++ [r]) = r.line := by unfold lastLine; rw [List.getLast?_append]; rfl
namespace TreeAt
variable {T : TreeAt}
theorem lab_32 (O : T.Ok) {k : Nat} (h : k < 5) : 32 ∈ T.labL k := by
  have h1 := O.blank k h
  have h2 := O.lab k h
  have h3 : (T.lab k).cps.toList.length = 4 := (Array.length_toList).trans h2
  rw [← getD_list, List.getD_eq_getElem?_getD, List.getElem?_eq_getElem (by omega)] at h1
  have h4 : (T.lab k).cps.toList[3]'(by omega) = 32 := h1
  show 32 ∈ (T.lab k).cps.toList
  rw [← h4]
  exact List.getElem_mem _
theorem rowOf_lab (O : T.Ok) {k : Nat} (h : k < 5) (parent : Int) {d : Nat} (hd : d ≤ 20) (told : List Row) : (32 ∈ (T.rowOf k parent d told).lab ∧ (T.rowOf k parent d told).lab.length ≤ 800) ∧ nrows (T.labL k) = 1 + (T.rowOf k parent d told).lab.count 10 ∧ nrows (T.labL k) ≤ 9 := by
  have h3 : (T.labL k).length = 4 := (Array.length_toList).trans (O.lab k h)
  have h4 := nl_len (T.labL k)
  have h5 := ins_len d false (nl (T.labL k))
  have h6 : (d + 1) * (nl (T.labL k)).length ≤ 21 * 8 := Nat.mul_le_mul (by omega) (by omega)
  have h7 : (nl (T.labL k)).count 10 ≤ (nl (T.labL k)).length := List.count_le_length
  refine ⟨⟨ins_mem _ _ _ (nl_mem (by decide) (by decide) _ (lab_32 O h)), ?_⟩, ?_, ?_⟩
  · show (ins d false (nl (T.labL k))).length ≤ 800
    omega
  · show 1 + _ = 1 + (ins d false (nl (T.labL k))).count 10
    rw [ins_count]
  · show 1 + _ ≤ 9
    omega
theorem good_snoc (O : T.Ok) {k : Nat} (h : k < 5) {parent : Int} (hp : 0 ≤ parent) {d : Nat} (h1 : 1 ≤ d) (hd : d ≤ 20) {told : List Row} (hg : Good told) (hl : told.length ≤ 100) : Good (told ++ [T.rowOf k parent d told]) := by
  obtain ⟨r0, rs, rfl, g1, g2, g3, g4, g5⟩ := hg
  obtain ⟨a, b, c⟩ := rowOf_lab O h parent hd (r0 :: rs)
  have hline : (T.rowOf k parent d (r0 :: rs)).line = lastLine (r0 :: rs) + nrows (T.labL k) := rfl
  refine ⟨r0, rs ++ [T.rowOf k parent d (r0 :: rs)], rfl, g1, g2, g3, told_snoc rs r0.line _ g4 ?_ a ?_ ?_, ?_⟩
  · have : (T.rowOf k parent d (r0 :: rs)).dots = d := if_pos hp
    omega
  · rw [hline, b]
    have : lastLine (r0 :: rs) = (match rs.getLast? with | some q => q.line | none => r0.line) := by
      unfold lastLine
      cases rs with
      | nil => rfl
      | cons u v => rw [List.getLast?_cons_cons]; cases hh : (u :: v).getLast? with
        | none => simp at hh
        | some z => rfl
    rw [this]
    omega
  · rw [hline]
    omega
  · rw [last_snoc, hline, List.length_append, List.length_singleton]
    omega
theorem walked_good (O : T.Ok) : ∀ n node, 5 - node ≤ n → node < 5 →
    (∀ (parent : Int) (d : Nat) (rs : List Row), 0 ≤ parent → 1 ≤ d → d ≤ 10 + node → rs.length + 2 ^ (4 - node) ≤ 16 → Good rs → Good (T.walked node parent d rs)) ∧
    ∀ (here : Int) (d : Nat) (rs0 : List Row), 0 ≤ here → d ≤ 10 + node → rs0.length + 2 ^ (4 - node) ≤ 17 → Good rs0 → ∀ i, node + i < 5 → Good (T.wpart T.walked node here d rs0 i)
  | 0, node, h, h5 => absurd h5 (by omega)
  | n + 1, node, h, h5 => by
    have main : ∀ (here : Int) (d : Nat) (rs0 : List Row), 0 ≤ here → d ≤ 10 + node → rs0.length + 2 ^ (4 - node) ≤ 17 → Good rs0 → ∀ i, node + i < 5 → Good (T.wpart T.walked node here d rs0 i) := by
      intro here d rs0 hh hd hl hg i
      induction i with
      | zero => intro _; exact hg
      | succ i ih =>
        intro hi
        rw [wpart]
        split
        · exact (walked_good O n (node + 1 + i) (by omega) (by omega)).1 here (d + 1) _ hh (by omega) (by omega) (wpart_room h5 hl (by omega)) (ih (by omega))
        · exact ih (by omega)
    refine ⟨fun parent d rs hp h1 hd hl hg => ?_, main⟩
    rw [T.walked_eq h5]
    have h2 := Nat.one_le_two_pow (n := 4 - node)
    exact main _ _ _ (Int.natCast_nonneg _) hd (by rw [List.length_append, List.length_singleton]; omega) (good_snoc O h5 hp h1 (by omega) hg (by omega)) _ (by omega)
theorem root_good (O : T.Ok) {d : Nat} (hd : d ≤ 10) : Good (T.walked 0 (-1) d []) := by
  rw [T.walked_eq (by decide)]
  obtain ⟨a, b, c⟩ := rowOf_lab O (k := 0) (by decide) (-1) (d := d) (by omega) []
  refine (walked_good O 5 0 (by decide) (by decide)).2 _ _ _ (Int.natCast_nonneg _) (by omega) (by simp) ?_ 4 (by decide)
  have hline : (T.rowOf 0 (-1) d []).line = 0 + nrows (T.labL 0) := rfl
  refine ⟨T.rowOf 0 (-1) d [], [], rfl, rfl, a, by rw [hline, b]; omega, trivial, ?_⟩
  show (T.rowOf 0 (-1) d []).line ≤ 9 * 1
  rw [hline]; omega
end TreeAt
end OyMine
end
section
open PySem PySem.W PyProof.Rows
set_option maxRecDepth 100000
set_option genInjectivity false
set_option genSizeOf false
set_option genSizeOfSpec false
namespace OyMine
section
variable {P : Nat → Prop}
theorem nl_sub (h10 : P 10) (h13 : P 13) : ∀ l, (∀ c ∈ l, P c) → ∀ c ∈ nl l, P c := by
  refine nl_ind ?_ ?_ ?_ ?_ ?_
  · exact fun _ c h => nomatch h
  · intro r ih h
    rw [nl_13_10]
    exact List.forall_mem_cons.mpr ⟨h13, List.forall_mem_cons.mpr ⟨h10, ih fun c hc => h c (.tail _ (.tail _ hc))⟩⟩
  · intro r ih hr h
    rw [nl_13 hr]
    exact List.forall_mem_cons.mpr ⟨h13, List.forall_mem_cons.mpr ⟨h10, ih fun c hc => h c (.tail _ hc)⟩⟩
  · intro r ih h
    rw [nl_10]
    exact List.forall_mem_cons.mpr ⟨h13, List.forall_mem_cons.mpr ⟨h10, ih fun c hc => h c (.tail _ hc)⟩⟩
  · intro c r h1 h2 ih h
    rw [nl_other h1 h2]
    exact List.forall_mem_cons.mpr ⟨h c (.head _), ih fun c hc => h c (.tail _ hc)⟩
theorem ins_sub (k : Nat) (h46 : P 46) : ∀ (b : Bool) (l : List Nat), (∀ c ∈ l, P c) → ∀ c ∈ ins k b l, P c
  | _, [], _ => fun c h => nomatch h
  | b, c :: r, h => by
    have ih := fun b' => ins_sub k h46 b' r fun c hc => h c (.tail _ hc)
    by_cases q : b = true ∧ c = 46
    · obtain ⟨rfl, rfl⟩ := q
      rw [ins_dot]
      refine List.forall_mem_append.mpr ⟨fun c hc => ?_, List.forall_mem_cons.mpr ⟨h46, ih _⟩⟩
      rw [List.eq_of_mem_replicate hc]
      exact h46
    · rw [ins_other q]
      exact List.forall_mem_cons.mpr ⟨h c (.head _), ih _⟩
namespace TreeAt
variable {T : TreeAt}
theorem rowOf_sub (h10 : P 10) (h13 : P 13) (h46 : P 46) (hT : ∀ k, k < 5 → ∀ c ∈ T.labL k, P c) {k : Nat} (hk : k < 5) (parent : Int) (d : Nat) (told : List Row) : ∀ c ∈ (T.rowOf k parent d told).lab, P c :=
  ins_sub d h46 false _ (nl_sub h10 h13 _ (hT k hk))
theorem walked_sub (h10 : P 10) (h13 : P 13) (h46 : P 46) (hT : ∀ k, k < 5 → ∀ c ∈ T.labL k, P c) : ∀ n node, 5 - node ≤ n → node < 5 → ∀ (parent : Int) (d : Nat) (rs : List Row), (∀ r ∈ rs, ∀ c ∈ r.lab, P c) → ∀ r ∈ T.walked node parent d rs, ∀ c ∈ r.lab, P c
  | 0, node, h, h5 => absurd h5 (by omega)
  | n + 1, node, h, h5 => by
    intro parent d rs hrs
    have main : ∀ i, node + i < 5 → ∀ r ∈ T.wpart T.walked node (rs.length : Int) d (rs ++ [T.rowOf node parent d rs]) i, ∀ c ∈ r.lab, P c := by
      intro i
      induction i with
      | zero => exact fun _ => List.forall_mem_append.mpr ⟨hrs, List.forall_mem_singleton.mpr (rowOf_sub h10 h13 h46 hT h5 parent d rs)⟩
      | succ i ih =>
        intro hi
        rw [wpart]
        split
        · exact walked_sub h10 h13 h46 hT n (node + 1 + i) (by omega) (by omega) _ _ _ (ih (by omega))
        · exact ih (by omega)
    rw [T.walked_eq h5]
    exact main _ (by omega)
end TreeAt
end
/-- rows that may be compared -/
theorem told_ok {rs : List Row} (h : ∀ r ∈ rs, ∀ c ∈ r.lab, c < 1114112) : ∀ d ∈ told rs, kqdOk 8 d = true := by
  intro d hd
  obtain ⟨r, hr, rfl⟩ := List.mem_map.mp hd
  have hs : PyData.strOk (OyMine.mk r.lab) = true := by
    unfold PyData.strOk
    rw [← Array.all_toList, mk_list]
    exact List.all_eq_true.mpr fun c hc => decide_eq_true (h r hr c hc)
  unfold Row.dat
  simp [kqdOk, hs]
end OyMine
end
section
open PySem PySem.W PyProof.Rows PySem.Calls
set_option maxRecDepth 100000
set_option genInjectivity false
set_option genSizeOf false
set_option genSizeOfSpec false
namespace OyMine
/-- the end of a turn that adds a datum to a list; two cells turn too -/
noncomputable def DatPost (h₀ : Heap) (L td c1 c2 : Addr) (x : Str) (st : List Str) (m₀ : Str → Option Value) (base rest : List (Addr × Obj)) (P : List Dat → Prop) (s : Shared) (f : Flow) (s₂ : Shared) : Prop :=
  (f = .next ∨ f = .cont) ∧ ∃ h' tk' m' vs n own ds o1 o2 v1 v2, s₂ = { s with heap := h', toks := tk' } ∧ Fr h₀ L h' m' ∧ (∀ z, z ≠ x → st.contains z = false → m' z = m₀ z) ∧ News h₀ L h' ((td, listOf (List.toArray vs) n) :: (c1, o1) :: (c2, o2) :: (own ++ rest)) ∧ OwnOff own (td :: c1 :: c2 :: adrs rest) ∧ DatAll (own ++ base) vs ds ∧ P ds ∧ o1.data = .cell v1 ∧ o2.data = .cell v2
section
variable {prog : Program} {w : World} {A : Around} {E : Value → Shared → Prop} {s : Shared} {env : Env} {h₀ : Heap} {x : Str} {body : List Stmt} {Q : Flow → Shared → Prop}
theorem range_dat {n₁ : Nat} {r td c1 c2 : Addr} {a₀ b₀ : Int} {t₀ u₀ v₀ : Tok} {n : Nat} {m₀ : Str → Option Value} {rest : List (Addr × Obj)} {n₀ : Nat} {p1 p2 : Obj} {w1 w2 : Option Value} (st : List Str) (P : Nat → List Dat → Prop) (a : Nat) (ha : a₀ = (a : Int))
    (hh : A.handled = none) (hr : IsRange s.heap r a₀ b₀ 1 t₀ u₀ v₀) (hsmall : Builtin.Range.small a₀ b₀ 1 = true) (hn : Builtin.Range.rangeSize a₀ b₀ 1 = (n : Int)) (F : Fr h₀ env.locals s.heap m₀)
    (N : News h₀ env.locals s.heap ((td, listOf #[] n₀) :: (c1, p1) :: (c2, p2) :: rest)) (hw1 : p1.data = .cell w1) (hw2 : p2.data = .cell w2) (hoff : OwnOff rest [td, c1, c2]) (hP : P 0 [])
    (turn : ∀ (i : Nat) t h tk vs n base' rest' ds (u : Str → Option Value) o1 o2 v1 v2, (a : Int) + i < b₀ → OwnOff rest' [td, c1, c2] → (∀ q ∈ rest, q ∈ rest') → (∀ q ∈ base', q ∈ rest') → DatAll base' vs ds → P i ds → o1.data = .cell v1 → o2.data = .cell v2 → Fr h₀ env.locals h (fun z => if z = x then some (.int ((a + i : Nat) : Int) t) else if st.contains z = true then u z else m₀ z) → News h₀ env.locals h ((td, listOf (List.toArray vs) n) :: (c1, o1) :: (c2, o2) :: rest') →
      wpAny (model prog w) A (execs body env) (DatPost h₀ env.locals td c1 c2 x st m₀ base' rest' (P (i + 1)) { s with heap := h, toks := tk }) E { s with heap := h, toks := tk })
    (done : ∀ vs n own ds (u : Str → Option Value) h tk o1 o2, Fr h₀ env.locals h (fun z => if z = x then u z else if st.contains z = true then u z else m₀ z) → News h₀ env.locals h ((td, listOf (List.toArray vs) n) :: (c1, o1) :: (c2, o2) :: (own ++ rest)) → OwnOff own (td :: c1 :: c2 :: adrs rest) → DatAll own vs ds → P n₁ ds → Q .next { s with heap := h, toks := tk }) (hn₁ : n₁ = n) :
    wpAny (model prog w) A (pyIter (.ref r)) (fun it s₂ => LoopAtV prog w A h₀ env x body Q E it s₂) E s := by
  subst hn₁
  refine tbr_invG (fun i m nx => ∃ vs k own ds o1 o2 v1 v2, nx = (td, listOf (List.toArray vs) k) :: (c1, o1) :: (c2, o2) :: (own ++ rest) ∧ OwnOff own (td :: c1 :: c2 :: adrs rest) ∧ DatAll own vs ds ∧ P i ds ∧ o1.data = .cell v1 ∧ o2.data = .cell v2 ∧ ∀ z, z ≠ x → st.contains z = false → m z = m₀ z) hh hr hsmall hn F N
    ⟨[], n₀, [], [], p1, p2, w1, w2, rfl, fun _ h => (nomatch h), .nil, hP, hw1, hw2, fun _ _ _ => rfl⟩ ?_ ?_
  · rintro i k t m₁ nx h tk ol hk hoff' ⟨vs, n', own, ds, o1, o2, v1, v2, rfl, ho, hd, hp, hv1, hv2, hm⟩ F₁ N₁
    have hi : i < n₁ := by
      have := (List.getElem?_eq_some_iff.mp hk).1
      rwa [rangeKs_length] at this
    have e : k = ((a + i : Nat) : Int) := by
      have := (List.getElem?_eq_some_iff.mp hk).2
      simp only [rangeKs, List.getElem_map, List.getElem_range] at this
      omega
    subst e
    have em : (fun y => if y = x then some (Value.int ((a + i : Nat) : Int) t) else m₁ y) = fun y => if y = x then some (Value.int ((a + i : Nat) : Int) t) else if st.contains y = true then m₁ y else m₀ y := by
      funext y
      by_cases h : y = x
      · rw [if_pos h, if_pos h]
      · rw [if_neg h, if_neg h]
        cases hc : st.contains y with
        | true => rw [if_pos rfl]
        | false => rw [if_neg Bool.false_ne_true, hm y h hc]
    rw [em] at F₁
    have hlt : (a : Int) + i < b₀ := by
      rw [ha] at hn
      unfold Builtin.Range.rangeSize at hn
      simp only [show (1 : Int) > 0 by decide, if_true] at hn
      split at hn <;> omega
    have e2 : (td, listOf (List.toArray vs) n') :: (c1, o1) :: (c2, o2) :: (own ++ rest) ++ ol = (td, listOf (List.toArray vs) n') :: (c1, o1) :: (c2, o2) :: ((own ++ rest) ++ ol) := rfl
    rw [e2] at N₁
    refine wpAny_mono (turn i t h tk vs n' own ((own ++ rest) ++ ol) ds m₁ o1 o2 v1 v2 hlt ?_ (fun q hq => List.mem_append_left _ (List.mem_append_right _ hq)) (fun q hq => List.mem_append_left _ (List.mem_append_left _ hq)) hd hp hv1 hv2 F₁ N₁) (fun f s₂ hp => ?_) fun _ _ z => z
    · intro p hp b hb'
      rcases List.mem_append.mp hp with hp | hp
      · rcases List.mem_append.mp hp with hp | hp
        · refine ho p hp b ?_
          simp only [List.mem_cons, List.not_mem_nil, or_false] at hb' ⊢
          rcases hb' with h | h | h
          · exact .inl h
          · exact .inr (.inl h)
          · exact .inr (.inr (.inl h))
        · exact hoff p hp b hb'
      · simp only [List.mem_cons, List.not_mem_nil, or_false] at hb'
        rcases hb' with rfl | rfl | rfl
        · exact hoff' p hp (_, listOf (List.toArray vs) n') (List.mem_cons_self ..)
        · exact hoff' p hp (_, o1) (List.mem_cons_of_mem _ (List.mem_cons_self ..))
        · exact hoff' p hp (_, o2) (List.mem_cons_of_mem _ (List.mem_cons_of_mem _ (List.mem_cons_self ..)))
    · obtain ⟨hf, h', tk', m', vs', n'', own', ds', q1, q2, x1, x2, rfl, F', hm', N', ho', hd', hp', hx1, hx2⟩ := hp
      have fin : TbEnd h₀ env.locals (fun m nx => ∃ vs k own ds o1 o2 v1 v2, nx = (td, listOf (List.toArray vs) k) :: (c1, o1) :: (c2, o2) :: (own ++ rest) ∧ OwnOff own (td :: c1 :: c2 :: adrs rest) ∧ DatAll own vs ds ∧ P (i + 1) ds ∧ o1.data = .cell v1 ∧ o2.data = .cell v2 ∧ ∀ z, z ≠ x → st.contains z = false → m z = m₀ z) ol { s with heap := h, toks := tk } { s with heap := h', toks := tk' } := by
        refine ⟨h', tk', m', _, (td, listOf (List.toArray vs') n'') :: (c1, q1) :: (c2, q2) :: ((own' ++ own) ++ rest), rfl, F', N', ?_, ?_, ?_, vs', n'', own' ++ own, ds', q1, q2, x1, x2, rfl, ?_, hd', hp', hx1, hx2, hm'⟩
        · intro p hp
          rcases List.mem_cons.mp hp with rfl | hp
          · exact List.mem_cons_self ..
          rcases List.mem_cons.mp hp with rfl | hp
          · exact List.mem_cons_of_mem _ (List.mem_cons_self ..)
          rcases List.mem_cons.mp hp with rfl | hp
          · exact List.mem_cons_of_mem _ (List.mem_cons_of_mem _ (List.mem_cons_self ..))
          refine List.mem_cons_of_mem _ (List.mem_cons_of_mem _ (List.mem_cons_of_mem _ ?_))
          rcases List.mem_append.mp hp with hp | hp
          · rcases List.mem_append.mp hp with hp | hp
            · exact List.mem_append_left _ hp
            · exact List.mem_append_right _ (List.mem_append_left _ (List.mem_append_left _ hp))
          · exact List.mem_append_right _ (List.mem_append_left _ (List.mem_append_right _ hp))
        · intro p hp
          exact List.mem_cons_of_mem _ (List.mem_cons_of_mem _ (List.mem_cons_of_mem _ (List.mem_append_right _ (List.mem_append_right _ hp))))
        · intro p hp q hq
          rcases List.mem_cons.mp hq with rfl | hq
          · exact hoff' p hp (td, listOf (List.toArray vs) n') (List.mem_cons_self ..)
          rcases List.mem_cons.mp hq with rfl | hq
          · exact hoff' p hp (c1, o1) (List.mem_cons_of_mem _ (List.mem_cons_self ..))
          rcases List.mem_cons.mp hq with rfl | hq
          · exact hoff' p hp (c2, o2) (List.mem_cons_of_mem _ (List.mem_cons_of_mem _ (List.mem_cons_self ..)))
          rcases List.mem_append.mp hq with hq | hq
          · rcases List.mem_append.mp hq with hq | hq
            · exact fun e => ho' q hq p.1 (List.mem_cons_of_mem _ (List.mem_cons_of_mem _ (List.mem_cons_of_mem _ (List.mem_map_of_mem (List.mem_append_right _ hp))))) e.symm
            · exact hoff' p hp q (List.mem_cons_of_mem _ (List.mem_cons_of_mem _ (List.mem_cons_of_mem _ (List.mem_append_left _ hq))))
          · exact hoff' p hp q (List.mem_cons_of_mem _ (List.mem_cons_of_mem _ (List.mem_cons_of_mem _ (List.mem_append_right _ hq))))
        · intro p hp b hb'
          rcases List.mem_append.mp hp with hp | hp
          · rcases List.mem_cons.mp hb' with rfl | hb'
            · exact ho' p hp _ (List.mem_cons_self ..)
            rcases List.mem_cons.mp hb' with rfl | hb'
            · exact ho' p hp _ (List.mem_cons_of_mem _ (List.mem_cons_self ..))
            rcases List.mem_cons.mp hb' with rfl | hb'
            · exact ho' p hp _ (List.mem_cons_of_mem _ (List.mem_cons_of_mem _ (List.mem_cons_self ..)))
            obtain ⟨q, hq, rfl⟩ := List.mem_map.mp hb'
            exact ho' p hp _ (List.mem_cons_of_mem _ (List.mem_cons_of_mem _ (List.mem_cons_of_mem _ (List.mem_map_of_mem (List.mem_append_left _ (List.mem_append_right _ hq))))))
          · exact ho p hp b hb'
      rcases hf with rfl | rfl
      · exact fin
      · exact fin
  · rintro m₁ nx h tk ⟨vs, n', own, ds, o1, o2, v1, v2, rfl, ho, hd, hp, _, _, hm⟩ F₁ N₁
    have em : m₁ = fun y => if y = x then m₁ y else if st.contains y = true then m₁ y else m₀ y := by
      funext y
      by_cases h : y = x
      · rw [if_pos h]
      · rw [if_neg h]
        cases hc : st.contains y with
        | true => rw [if_pos rfl]
        | false => rw [if_neg Bool.false_ne_true, hm y h hc]
    rw [em] at F₁
    exact done vs n' own ds m₁ h tk o1 o2 F₁ N₁ ho hd hp
end
/-- a place of a tree as a datum -/
noncomputable def placeD (par : Int) (lab eol : List Nat) : Dat := .tuple [.int par, .str (OyMine.mk lab), .str (OyMine.mk eol)]
noncomputable def PlaceOk (k : Nat) (d : Dat) : Prop := ∃ par lab eol, d = placeD par lab eol ∧ (k = 0 → par = -1) ∧ (1 ≤ k → 0 ≤ par ∧ par < k) ∧ lab.length = 4 ∧ lab.getD 3 0 = 32 ∧ EolOk eol ∧ ∀ c ∈ lab, c < 1114112
noncomputable def PlacesOk (n : Nat) (ds : List Dat) : Prop := ds.length = n ∧ ∀ k d, ds[k]? = some d → PlaceOk k d
theorem places_snoc {n : Nat} {ds : List Dat} {d : Dat} (h : PlacesOk n ds) (hd : PlaceOk n d) : PlacesOk (n + 1) (ds ++ [d]) := by
  obtain ⟨h1, h2⟩ := h
  refine ⟨by rw [List.length_append, h1]; rfl, fun k e hk => ?_⟩
  by_cases q : k < ds.length
  · rw [List.getElem?_append_left q] at hk
    exact h2 k e hk
  · rw [List.getElem?_append_right (by omega)] at hk
    have : k - ds.length = 0 := by
      have := (List.getElem?_eq_some_iff.mp hk).1
      simp at this; omega
    rw [this] at hk
    have : k = n := by omega
    subst this
    have : d = e := by simpa using hk
    subst this
    exact hd
end OyMine
end
section
open PySem PySem.W PyProof.Rows PySem.Calls
set_option maxRecDepth 100000
set_option genInjectivity false
set_option genSizeOf false
set_option genSizeOfSpec false
namespace OyMine
noncomputable abbrev signAt (sg : Str) (lf : Int) (i : Nat) : Nat := (Txt.charAt sg (((lf.fdiv 3).fdiv ((8 : Int) ^ (0 + (i : Int)).toNat)).fmod 8)).getD 0
section
variable {prog : Program} {w : World} {A : Around} {E : Value → Shared → Prop} {s : Shared} {h₀ : Heap} {L : Addr} {m : Str → Option Value} {news : List (Addr × Obj)} {t u : Tok} {Q : Value → Shared → Prop}
theorem pow8 {i : Nat} (hi : i < 3) (h : ∀ t' k, Q (.int ((8 : Int) ^ (0 + (i : Int)).toNat) t') { s with toks := k }) : wpAny (model prog w) A (binaryOp .Pow (.int 8 t) (.int (0 + (i : Int)) u)) Q E s :=
  pow_int_small (by omega) (by omega) (by decide) (h _ _)
theorem pow8_le {i : Nat} (hi : i < 3) : 1 ≤ (8 : Int) ^ (0 + (i : Int)).toNat ∧ (8 : Int) ^ (0 + (i : Int)).toNat ≤ 64 := by
  match i, hi with
  | 0, _ => decide
  | 1, _ => decide
  | 2, _ => decide
theorem fdiv8 {i : Nat} {a : Int} (hi : i < 3) (h : ∀ t' k, Q (.int (a.fdiv ((8 : Int) ^ (0 + (i : Int)).toNat)) t') { s with toks := k }) : wpAny (model prog w) A (binaryOp .FloorDiv (.int a t) (.int ((8 : Int) ^ (0 + (i : Int)).toNat) u)) Q E s := by
  have hp := pow8_le hi
  exact floordiv_int (by omega) (h _ _) (Or.inl (PyProof.noPylong_small (by omega)))
theorem fmod_range (a : Int) {k : Int} (hk : 0 < k) : 0 ≤ a.fmod k ∧ a.fmod k < k := by
  rw [Int.fmod_eq_emod_of_nonneg a (by omega)]
  exact ⟨Int.emod_nonneg _ (by omega), Int.emod_lt_of_pos _ hk⟩
theorem sign_item {sg : Str} {a : Int} {value slice : PySem.Expr} (h8 : sg.length = 8) (h : ∀ t' k, Q (.str (mk [(Txt.charAt sg (a.fmod 8)).getD 0]) t') { s with toks := k })
    (hs : subscripted slice false (.str sg t) (.int (a.fmod 8) u) = operate [.str sg t, .int (a.fmod 8) u] (getItem (.str sg t) (.int (a.fmod 8) u)) := by with_unfolding_all rfl)
    (ht : ∀ r, letTemporaryGo value (.str sg t) r = pure () := by intro _; with_unfolding_all rfl) :
    wpAny (model prog w) A (subscriptTail value slice (.str sg t) (.int (a.fmod 8) u)) Q E s := by
  obtain ⟨h1, h2⟩ := fmod_range a (k := 8) (by decide)
  exact item_str (fitsSsize_of (N := 9223372036854775808) (by omega) (by omega) (Int.le_refl _)) (by rw [h8]; omega) (by rw [h8]; omega) (fun _ => h _ _) hs ht
theorem join3 {D : Addr} {ys : List Value} {k : Nat} {f : Nat → Nat} (N : News h₀ L s.heap news) (hm : (D, listOf ys.toArray k) ∈ news) (hy : StrsAre ys ((List.range 3).map fun i => mk [f i]))
    (h : ∀ t' k, Q (.str (mk [f 0, f 1, f 2]) t') { s with toks := k }) : wpAny (model prog w) A (call (.builtin "str.join") [.str "" t, .ref D]) Q E s := by
  have hl : s.heap.IsList D ys.toArray := N.isList hm
  have e : (List.range 3).map (fun i => mk [f i]) = [mk [f 0], mk [f 1], mk [f 2]] := rfl
  rw [e] at hy
  refine join_listW hl hy (by decide +kernel) (by show (1 + (1 + (1 + 0))) + 3 ≤ 1048576; decide) fun t' k' => ?_
  have e2 : Txt.join (Str.ofString "") [mk [f 0], mk [f 1], mk [f 2]] = mk [f 0, f 1, f 2] := by
    refine (show Txt.join (Str.ofString "") [mk [f 0], mk [f 1], mk [f 2]] = Str.join (Str.ofString "") [mk [f 0], mk [f 1], mk [f 2]] from StrLaws.glued_eq_join _ _).trans ?_
    rw [nil_str]
    exact join_mk [] [f 0] [[f 1], [f 2]]
  rw [e2]
  exact h _ _
theorem eol_item {a : Addr} {x : Int} {t1 t2 t3 : Tok} {n : Nat} {value slice : PySem.Expr} (N : News h₀ L s.heap news) (hm : (a, ({ cls := .type "tuple", data := .seq #[.str "\n" t1, .str "\r" t2, .str "\r\n" t3] n } : Obj)) ∈ news)
    (h : ∀ e t, EolOk e → Q (.str (mk e) t) s)
    (hs : subscripted slice false (.ref a) (.int (x.fmod 3) u) = operate [.ref a, .int (x.fmod 3) u] (getItem (.ref a) (.int (x.fmod 3) u)) := by with_unfolding_all rfl) :
    wpAny (model prog w) A (subscriptTail value slice (.ref a) (.int (x.fmod 3) u)) Q E s := by
  obtain ⟨h1, h2⟩ := fmod_range x (k := 3) (by decide)
  generalize x.fmod 3 = y at *
  have hc : y = 0 ∨ y = 1 ∨ y = 2 := by omega
  have ht := N.isTup hm
  rcases hc with rfl | rfl | rfl
  · exact item_tupleT (l := [.str "\n" t1, .str "\r" t2, .str "\r\n" t3]) (j := 0) ht (by decide) (by decide) (by rfl) rfl (by have := h [10] t1 (.inl rfl); rw [← lf_str] at this; exact this) hs
  · exact item_tupleT (l := [.str "\n" t1, .str "\r" t2, .str "\r\n" t3]) (j := 1) ht (by decide) (by decide) (by rfl) rfl (by have := h [13] t2 (.inr (.inl rfl)); rw [← cr_str] at this; exact this) hs
  · exact item_tupleT (l := [.str "\n" t1, .str "\r" t2, .str "\r\n" t3]) (j := 2) ht (by decide) (by decide) (by rfl) rfl (by have := h [13, 10] t3 (.inr (.inr rfl)); rw [← crlf_str] at this; exact this) hs
end
theorem blank_str : Str.ofString " " = mk [32] := by decide +kernel
theorem label_eq (a b c : Nat) : mk [a, b, c] ++ Str.ofString " " = mk [a, b, c, 32] := by rw [blank_str, mk_append]; rfl
theorem signs_len (n : Nat) : (Str.ofString ".\n'\r." ++ (⟨#[n]⟩ : Str) ++ Str.ofString "\"\\").length = 8 := by
  have e1 : (Str.ofString ".\n'\r.").length = 5 := by decide +kernel
  have e2 : (Str.ofString "\"\\").length = 2 := by decide +kernel
  rw [Str.length_append, Str.length_append, e1, e2]
  rfl
noncomputable abbrev signF {o1 o2 : Obj} {sg : Str} {lf : Int} {t1 t2 : Tok} (_ : o1.data = .cell (some (.str sg t1))) (_ : o2.data = .cell (some (.int lf t2))) : Nat → List Nat := fun i => [signAt sg lf i]
theorem dat_size {news : List (Addr × Obj)} {vs : List Value} {ds : List Dat} {i : Nat} (h : DatAll news vs ds) (hp : PlacesOk i ds) (hi : i ≤ 100) : vs.toArray.size ≤ sizeLine := by rw [List.size_toArray, h.length, hp.1, sizeLine_eq]; omega
theorem place_news {g h : Heap} {L D td : Addr} {po : Obj} {a1 a2 a3 a4 q1 q2 : Addr × Obj} {vs : List Value} {v : Value} {k : Nat} {rest : List (Addr × Obj)}
    (N : News g L h ((D, po) :: a1 :: a2 :: a3 :: a4 :: (td, listOf (vs.toArray.push v) k) :: q1 :: q2 :: rest)) : News g L h ((td, listOf (vs ++ [v]).toArray k) :: q1 :: q2 :: ([(D, po)] ++ rest)) := by
  have e : vs.toArray.push v = (vs ++ [v]).toArray := by simp
  rw [e] at N
  intro p hp
  rcases List.mem_cons.mp hp with rfl | hp
  · exact N _ (by simp)
  rcases List.mem_cons.mp hp with rfl | hp
  · exact N _ (by simp)
  rcases List.mem_cons.mp hp with rfl | hp
  · exact N _ (by simp)
  rcases List.mem_cons.mp hp with rfl | hp
  · exact N _ (by simp)
  · have hp' : p ∈ rest := hp
    exact N _ (by simp [hp'])
theorem place_off {D td c1 c2 : Addr} {po : Obj} {rest : List (Addr × Obj)} (h : @LT.lt Nat _ td D ∧ @LT.lt Nat _ c1 D ∧ @LT.lt Nat _ c2 D ∧ AllLt D rest) : OwnOff [(D, po)] (td :: c1 :: c2 :: adrs rest) := by
  intro p hp b hb
  rw [List.mem_singleton.mp hp]
  rcases List.mem_cons.mp hb with rfl | hb
  · exact Ne.symm (Nat.ne_of_lt h.1)
  rcases List.mem_cons.mp hb with rfl | hb
  · exact Ne.symm (Nat.ne_of_lt h.2.1)
  rcases List.mem_cons.mp hb with rfl | hb
  · exact Ne.symm (Nat.ne_of_lt h.2.2.1)
  obtain ⟨q, hq, rfl⟩ := List.mem_map.mp hb
  exact Ne.symm (allNe' h.2.2.2 q hq)
theorem signs_in {a b c : Nat} (hs : a < 1114112 ∧ b < 1114112 ∧ c < 1114112) : ∀ x ∈ [a, b, c, 32], x < 1114112 := fun x hx => by
  simp only [List.mem_cons, List.not_mem_nil, or_false] at hx
  rcases hx with rfl | rfl | rfl | rfl <;> omega
theorem char_small {sg : Str} {k : Int} (h : ∀ x ∈ sg.cps.toList, x < 1114112) : (Txt.charAt sg k).getD 0 < 1114112 := by
  cases e : Txt.charAt sg k with
  | none => decide
  | some x =>
    show x < 1114112
    unfold Txt.charAt at e
    obtain ⟨i, hi, hx⟩ := Option.bind_eq_some_iff.mp e
    exact h x (by rw [Array.mem_toList_iff]; exact Array.mem_of_getElem? hx)
theorem signs_small {n : Nat} (h : n < 1114112) : ∀ x ∈ (Str.ofString ".\n'\r." ++ (⟨#[n]⟩ : Str) ++ Str.ofString "\"\\").cps.toList, x < 1114112 := by
  have e1 : Str.ofString ".\n'\r." = mk [46, 10, 39, 13, 46] := by decide +kernel
  have e2 : Str.ofString "\"\\" = mk [34, 92] := by decide +kernel
  rw [e1, e2, show (⟨#[n]⟩ : Str) = mk [n] from rfl, mk_append, mk_append, mk_list]
  intro x hx
  simp only [List.mem_cons, List.mem_append, List.cons_append, List.nil_append, List.not_mem_nil, or_false] at hx
  rcases hx with rfl | rfl | rfl | rfl | rfl | rfl | rfl | rfl <;> omega
theorem chr_small (a : Int) : (32 + a.fmod 55000).toNat < 1114112 := by
  have := fmod_range a (k := 55000) (by decide)
  omega
theorem place_end {h₀ h' : Heap} {L D td c1 c2 : Addr} {x : Str} {st : List Str} {m₀ m' : Str → Option Value} {base rest : List (Addr × Obj)} {s : Shared} {tk' : Nat} {a1 a2 a3 a4 : Addr × Obj} {o1 o2 : Obj} {v1 v2 : Option Value} {vs : List Value} {ds : List Dat} {k n i a b c : Nat} {par : Int} {t1 t2 t3 : Tok} {e : List Nat}
    (F : Fr h₀ L h' m') (hm : ∀ z, z ≠ x → st.contains z = false → m' z = m₀ z)
    (N : News h₀ L h' ((D, ({ cls := .type "tuple", data := .seq #[.int par t1, .str (mk [a, b, c] ++ Str.ofString " ") t2, .str (mk e) t3] n } : Obj)) :: a1 :: a2 :: a3 :: a4 :: (td, listOf (vs.toArray.push (.ref D)) k) :: (c1, o1) :: (c2, o2) :: rest))
    (l : @LT.lt Nat _ td D ∧ @LT.lt Nat _ c1 D ∧ @LT.lt Nat _ c2 D ∧ AllLt D rest) (hD : DatAll base vs ds) (hP : PlacesOk i ds) (he : EolOk e) (hpar : (i = 0 → par = -1) ∧ (1 ≤ i → 0 ≤ par ∧ par < i)) (h1 : o1.data = .cell v1) (h2 : o2.data = .cell v2) (hs : a < 1114112 ∧ b < 1114112 ∧ c < 1114112) :
    DatPost h₀ L td c1 c2 x st m₀ base rest (PlacesOk (i + 1)) s .next { s with heap := h', toks := tk' } := by
  refine ⟨.inl rfl, h', tk', m', vs ++ [.ref D], k, [_], ds ++ [.tuple [.int par, .str (mk [a, b, c] ++ Str.ofString " "), .str (mk e)]], o1, o2, v1, v2, rfl, F, hm, place_news N, place_off l, ?_, places_snoc hP ?_, h1, h2⟩
  · exact (hD.mono fun q hq => List.mem_cons_of_mem _ hq).append (.one (.tuple (List.mem_cons_self ..) (.cons (.int _ _) (.cons (.str _ _) (.cons (.str _ _) .nil)))))
  · rw [label_eq]
    exact ⟨par, [a, b, c, 32], e, rfl, hpar.1, hpar.2, rfl, rfl, he, signs_in hs⟩
theorem places_map {z : Str} (h : [Str.ofString "number", Str.ofString "parent", Str.ofString "label"].contains z = false) : z ≠ Str.ofString "number" ∧ z ≠ Str.ofString "parent" ∧ z ≠ Str.ofString "label" := by
  refine ⟨?_, ?_, ?_⟩ <;> (rintro rfl; revert h; decide +kernel)
theorem tree_news {g h : Heap} {L : Addr} {t q1 q2 : Addr × Obj} {own rest : List (Addr × Obj)} (N : News g L h (t :: q1 :: q2 :: (own ++ rest))) : News g L h (t :: (own ++ rest)) := fun p hp => by
  rcases List.mem_cons.mp hp with rfl | hp
  · exact N _ (List.mem_cons_self ..)
  · exact N _ (List.mem_cons_of_mem _ (List.mem_cons_of_mem _ (List.mem_cons_of_mem _ hp)))
theorem tree_off {own news : List (Addr × Obj)} {td c1 c2 : Addr} (h : OwnOff own (td :: c1 :: c2 :: adrs news)) : OwnOff own (td :: adrs news) := fun p hp b hb => h p hp b (by
  rcases List.mem_cons.mp hb with rfl | hb
  · exact List.mem_cons_self ..
  · exact List.mem_cons_of_mem _ (List.mem_cons_of_mem _ (List.mem_cons_of_mem _ hb)))
theorem tree_off0 {news : List (Addr × Obj)} {td L' : Addr} (h : ∀ p ∈ news, @LT.lt Nat _ p.1 L') (h2 : AllLt td news) : OwnOff news [td, L' + 1 + 1, L' + 1] := by
  intro p hp b hb
  have h3 := h p hp
  rcases List.mem_cons.mp hb with rfl | hb
  · exact allNe' h2 p hp
  rcases List.mem_cons.mp hb with rfl | hb
  · exact Nat.ne_of_lt (Nat.lt_succ_of_lt (Nat.lt_succ_of_lt h3))
  rcases List.mem_cons.mp hb with rfl | hb
  · exact Nat.ne_of_lt (Nat.lt_succ_of_lt h3)
  · cases hb
end OyMine
end
section
open PySem PySem.W PyProof.Rows PySem.Builtin PySem.Builtin.Re
set_option maxRecDepth 100000
set_option genInjectivity false
set_option genSizeOf false
set_option genSizeOfSpec false
namespace OyMine
theorem words_MkTree_0 : True := by
  w_top off
  k_with_none
  k_with "my pick" => (with_reducible (first | with_reducible assumption | exact And.left (by with_reducible assumption) | exact And.left (And.right (by with_reducible assumption)) | exact And.left (And.right (And.right (by with_reducible assumption))) | exact And.left (And.right (And.right (And.right (by with_reducible assumption)))) | exact And.left (And.right (And.right (And.right (And.right (by with_reducible assumption))))) | exact And.left (And.right (And.right (And.right (And.right (And.right (by with_reducible assumption)))))) | exact And.left (And.right (And.right (And.right (And.right (And.right (And.right (by with_reducible assumption))))))) | exact And.left (And.right (And.right (And.right (And.right (And.right (And.right (And.right (by with_reducible assumption)))))))) | exact And.left (And.right (And.right (And.right (And.right (And.right (And.right (And.right (And.right (by with_reducible assumption))))))))) | exact And.left (And.right (And.right (And.right (And.right (And.right (And.right (And.right (And.right (And.right (by with_reducible assumption)))))))))) | exact And.left (And.right (And.right (And.right (And.right (And.right (And.right (And.right (And.right (And.right (And.right (by with_reducible assumption))))))))))) | exact And.left (And.right (And.right (And.right (And.right (And.right (And.right (And.right (And.right (And.right (And.right (And.right (by with_reducible assumption)))))))))))) | exact And.left (And.right (And.right (And.right (And.right (And.right (And.right (And.right (And.right (And.right (And.right (And.right (And.right (by with_reducible assumption))))))))))))) | exact And.left (And.right (And.right (And.right (And.right (And.right (And.right (And.right (And.right (And.right (And.right (And.right (And.right (And.right (by with_reducible assumption)))))))))))))) | exact And.left (And.right (And.right (And.right (And.right (And.right (And.right (And.right (And.right (And.right (And.right (And.right (And.right (And.right (And.right (by with_reducible assumption))))))))))))))) | exact And.left (And.right (And.right (And.right (And.right (And.right (And.right (And.right (And.right (And.right (And.right (And.right (And.right (And.right (And.right (And.right (by with_reducible assumption)))))))))))))))) | exact And.left (And.right (And.right (And.right (And.right (And.right (And.right (And.right (And.right (And.right (And.right (And.right (And.right (And.right (And.right (And.right (And.right (by with_reducible assumption))))))))))))))))) | exact And.left (And.right (And.right (And.right (And.right (And.right (And.right (And.right (And.right (And.right (And.right (And.right (And.right (And.right (And.right (And.right (And.right (And.right (by with_reducible assumption)))))))))))))))))) | exact And.left (And.right (And.right (And.right (And.right (And.right (And.right (And.right (And.right (And.right (And.right (And.right (And.right (And.right (And.right (And.right (And.right (And.right (And.right (by with_reducible assumption))))))))))))))))))) | exact And.left (And.right (And.right (And.right (And.right (And.right (And.right (And.right (And.right (And.right (And.right (And.right (And.right (And.right (And.right (And.right (And.right (And.right (And.right (And.right (by with_reducible assumption)))))))))))))))))))) | exact And.left (And.right (And.right (And.right (And.right (And.right (And.right (And.right (And.right (And.right (And.right (And.right (And.right (And.right (And.right (And.right (And.right (And.right (And.right (And.right (And.right (by with_reducible assumption))))))))))))))))))))) | exact And.left (And.right (And.right (And.right (And.right (And.right (And.right (And.right (And.right (And.right (And.right (And.right (And.right (And.right (And.right (And.right (And.right (And.right (And.right (And.right (And.right (And.right (by with_reducible assumption)))))))))))))))))))))) | exact And.left (And.right (And.right (And.right (And.right (And.right (And.right (And.right (And.right (And.right (And.right (And.right (And.right (And.right (And.right (And.right (And.right (And.right (And.right (And.right (And.right (And.right (And.right (by with_reducible assumption))))))))))))))))))))))) | exact And.left (And.right (And.right (And.right (And.right (And.right (And.right (And.right (And.right (And.right (And.right (And.right (And.right (And.right (And.right (And.right (And.right (And.right (And.right (And.right (And.right (And.right (And.right (And.right (by with_reducible assumption)))))))))))))))))))))))) | exact And.left (And.right (And.right (And.right (And.right (And.right (And.right (And.right (And.right (And.right (And.right (And.right (And.right (And.right (And.right (And.right (And.right (And.right (And.right (And.right (And.right (And.right (And.right (And.right (And.right (by with_reducible assumption))))))))))))))))))))))))) | exact And.left (And.right (And.right (And.right (And.right (And.right (And.right (And.right (And.right (And.right (And.right (And.right (And.right (And.right (And.right (And.right (And.right (And.right (And.right (And.right (And.right (And.right (And.right (And.right (And.right (And.right (by with_reducible assumption)))))))))))))))))))))))))) | exact And.right (by with_reducible assumption) | exact And.right (And.right (by with_reducible assumption)) | exact And.right (And.right (And.right (by with_reducible assumption)))))
  k_with "my omega" => (first
    | exact Nat.ne_of_lt (by k_extra "my pick")
    | exact Nat.ne_of_gt (by k_extra "my pick")
    | k_extra "my pick"
    | fail "no")
  k_with "my omega" => (first
    | with_reducible assumption
    | with_reducible exact Nat.ne_of_lt (by assumption)
    | with_reducible exact Nat.ne_of_gt (by assumption)
    | decide
    | with_reducible exact Nat.le_refl _
    | with_reducible exact Nat.zero_le _
    | with_reducible exact Nat.le_add_right _ _
    | with_reducible exact Nat.le_add_left _ _
    | with_reducible exact Nat.lt_succ_self _
    | with_reducible exact Nat.le_succ _
    | with_reducible exact Nat.succ_pos _
    | with_reducible exact Nat.zero_add _
    | with_reducible exact q4
    | with_reducible exact q8
    | with_reducible exact Nat.le_of_lt (by assumption)
    | with_reducible exact Nat.le_of_succ_le (by assumption)
    | with_reducible exact Nat.le_of_succ_le_succ (by assumption)
    | with_reducible exact Nat.not_lt.mp (by assumption)
    | with_reducible exact Nat.lt_succ_of_le (by assumption)
    | with_reducible exact Nat.le_succ_of_le (by assumption)
    | with_reducible exact Nat.succ_le_of_lt (by assumption)
    | with_reducible exact q1 (by assumption)
    | with_reducible exact q2 (by assumption)
    | with_reducible exact q3 (by assumption)
    | with_reducible exact q5 (by assumption)
    | with_reducible exact q7 (by assumption)
    | with_reducible exact q6 (by assumption) (by assumption)
    | with_reducible exact absurd (by assumption) (Nat.not_lt.mpr (by assumption))
    | (with_reducible refine room_le (by assumption) ?_; with_unfolding_all rfl)
    | (with_reducible refine room_lt (by assumption) ?_; with_unfolding_all rfl)
    | (with_reducible refine room_le0 (by assumption) ?_; with_unfolding_all rfl)
    | ((fail_if_success (with_reducible show _ ≠ _)); (rename _ ∧ _ => cW9; clear cW9); (repeat (rename _ ∧ _ => cW9; clear cW9)); omega)
    | fail "no")
  k_with "my execs cons" => ((rename Shared => s); refine' execs_cons_n (g := Shared.gens s) (d := Shared.drawn s) (o := Shared.os s) ?gW9 ?dW9 ?oW9 ?_; (case gW9 => exact rfl); (case dW9 => exact rfl); (case oW9 => exact rfl); intro tkW9; (try k_fold))
  trivial
theorem words_MkTree_1 : True := by
  k_with "my k_room" => (first | exact Nat.le_of_ble_eq_true rfl | ((try simp only [duk, depth_under_make, depth_under_kw, depth_in1, depth_deeper, depth_caller, recursionLimit]); (try dsimp only [ktrTop]); (try simp only [recursionLimit]); omega))
  k_with "my ktr_room" => (k_room)
  k_with "my k_units" => (first | exact Nat.le_of_ble_eq_true rfl | ((have hcL9W9 := cLine_is); (try simp only [uuk, units_in1, units_deeper, Around.mark_units, units_caller]); (try dsimp only [ktrTop]); omega))
  k_with "my units_room" => (first | exact Nat.le_of_ble_eq_true rfl | ((have hcL9W9 := cLine_is); (try simp only [uuk, units_in1, units_deeper, Around.mark_units, units_caller]); (try dsimp only [ktrTop]); omega))
  k_with "my k_enter" => ((refine' code_def ?k1W9 ?k2W9 ?k3W9 ?k4W9 ?k5W9 ?kAW9 ?kFW9 ?kKW9 ?k6W9 ?k7W9 ?k8W9 ?k9W9 ?kBW9 ?_ ?c2W9 ?c3W9 ?c4W9 ?c5W9; (case kAW9 => exact rfl); (case kFW9 => exact rfl); (case kKW9 => first | exact rfl | assumption); (case k1W9 => k_asm); (case k2W9 => k_asm); (case k3W9 => k_asm); (case k4W9 => k_asm); (case k5W9 => k_asm); (case k6W9 => k_is); (case k7W9 => k_is); (case k8W9 => k_room); (case k9W9 => first | exact BindsTo.of_eq rfl | exact binds_K (by k_in) rfl (by k_is) rfl rfl rfl | fail "k_enter: no rule for these arguments"); (case c5W9 => decide); (case kBW9 => exact locs rfl); (case c2W9 => exact rfl); (case c3W9 => exact rfl); (case c4W9 => exact rfl); k_whole; intro g'W9 L'W9 h'W9 FG'W9 F'W9 N'W9 B'W9 X'W9 T'W9; (try dsimp only); (try k_lift B'W9); (try k_fold)))
  k_with "my getMethod ref" => ((k_here; (with_reducible show wpAny _ _ (getMethod (Value.ref _) (Str.ofString "sub") _) _ _ _); k_dflt (refine' meth_sub ?FW9 ?XW9 ?eW9 ?cW9 ?dW9 ?_; (case FW9 => k_asm); (case XW9 => k_asm); (case eW9 => k_is); (case cW9 => exact rfl); (case dW9 => exact rfl); k_whole)))
  k_with "my call builtin:re.Pattern.sub" => ((k_here; k_dflt (first
    | (refine' sub54_K ?FW9 ?XW9 ?NW9 ?xW9 ?_; (case FW9 => k_asm); (case XW9 => k_asm); (case NW9 => k_asm); (case xW9 => first | exact nl_fits (by assumption) | omega); k_whole; intro t'W9 h'W9 tk'W9 F'W9 N'W9; (try k_sweep))
    | (refine' sub49_K ?FW9 ?XW9 ?NW9 ?xW9 ?_; (case FW9 => k_asm); (case XW9 => k_asm); (case NW9 => k_asm); (case xW9 => first | exact nl_fits (by assumption) | omega); k_whole; intro t'W9 h'W9 tk'W9 F'W9 N'W9; (try k_sweep)))))
  k_with "my call ref" => ((k_here; (with_reducible show wpAny _ _ (call (Value.ref 763) [Value.str _ _]) _ _ _); k_dflt (refine' search_K ?FW9 ?XW9 ?NW9 ?xW9 ?jW9 ?uW9 ?_; (case FW9 => k_asm); (case XW9 => k_asm); (case NW9 => k_asm); (case xW9 => omega); (case jW9 => assumption); (case uW9 => assumption); k_whole; intro a'W9 h'W9 F'W9 N'W9; (try k_sweep))))
  k_with "my kt_len" => (with_reducible assumption)
  k_with "my truthy str" => ((k_here; (with_reducible show wpAny _ _ (PySem.truthy (Value.str _ _)) _ _ _); (refine' KXt.truthy_pos (K := 16777216) ?kxtaW9 ?kxtbW9 (Nat.le_refl _) ?_; (case kxtaW9 => with_reducible assumption); (case kxtbW9 => omega)); intro _))
  k_with "my callWith ref" => ((k_here; (with_reducible show wpAny _ _ (callWith _ (Value.ref 763) _ _ _) _ _ _); k_dflt (refine' callWith_763 ?k1W9 ?_; (case k1W9 => k_asm); k_whole)))
  k_with "my call builtin:str.replace" => ((k_here; (with_reducible show wpAny _ _ (call (Value.builtin "str.replace") [Value.str _ _, Value.str (Str.ofString "'") _, Value.str _ _]) _ _ _); k_dflt ((refine' replaceQ ?aW9 ?bW9 ?cW9 ?dW9 ?_; (case aW9 => k_ne); (case bW9 => k_ne); (case cW9 => k_ne); (case dW9 => first | with_reducible assumption | omega); k_whole; intro t'W9 k'W9 len'W9))))
  k_with "my k_memK" => (first | assumption | (refine need_app ?_; k_memK) | (refine need_cons ?_; k_memK))
  k_with "my subscriptTail" => ((k_here; (with_reducible show wpAny _ _ (subscriptTail _ _ (Value.ref (TreeAt.t _)) (Value.int (Nat.cast _) _)) _ _ _); k_dflt ((refine' tree_item ?NW9 ?TW9 ?kW9 ?_; (case NW9 => k_asm); (case TW9 => k_memK); (case kW9 => omega); k_whole; intro hm'W9))))
  k_with "my call ref" => ((k_here; (with_reducible show wpAny _ _ (call (Value.ref 770) [Value.str (TreeAt.lab _ _) _]) _ _ _); k_dflt ((refine' pure_use (qt_lab _ _ ?OW9 _ ?kW9 _) ?BW9 ?FW9 ?XW9 ?NW9 ?TW9 ?kkW9 ?hdW9 ?huW9 ?_; (case OW9 => assumption); (case kW9 => omega); (case BW9 => k_asm); (case FW9 => k_asm); (case XW9 => k_asm); (case NW9 => k_asm); (case TW9 => k_asm); (case kkW9 => first | exact rfl | assumption); (case hdW9 => k_room); (case huW9 => k_units); k_whole; intro r'W9 h'W9 tk'W9 F'W9 N'W9 ht'W9; obtain ⟨t'W9, e'W9⟩ := ht'W9; subst e'W9; (try k_sweep)))))
  k_with "my call ref" => ((k_here; (with_reducible show wpAny _ _ (call (Value.ref 61) [Value.str (Str.mk (List.toArray _)) _]) _ _ _); k_dflt ((refine' pure_use (qd_mk _ _ _ ?xW9) ?BW9 ?FW9 ?XW9 ?NW9 ?TW9 ?kkW9 ?hdW9 ?huW9 ?_; (case xW9 => first | omega | exact size_out (by assumption) (by omega)); (case BW9 => k_asm); (case FW9 => k_asm); (case XW9 => k_asm); (case NW9 => k_asm); (case TW9 => k_asm); (case kkW9 => first | exact rfl | assumption); (case hdW9 => k_room); (case huW9 => k_units); k_whole; intro r'W9 h'W9 tk'W9 F'W9 N'W9 ht'W9; obtain ⟨t'W9, e'W9⟩ := ht'W9; subst e'W9; (try k_sweep)))))
  k_with "my kt_len" => (first | exact len_out (by assumption) (by omega) | exact len_quoted (by assumption) (by omega) | exact TreeAt.Ok.eol (by assumption) _ (by omega) | exact TreeAt.part_len (by assumption) (by omega) (by omega) | ((with_reducible refine' len_qd ?qqW9); (case qqW9 => kt_len)))
  k_with "my call builtin:len" => ((k_here; (with_reducible show wpAny _ _ (call (Value.builtin "len") [Value.ref (TreeAt.t _)]) _ _ _); k_dflt ((refine' tree_len ?NW9 ?TW9 ?_; (case NW9 => k_asm); (case TW9 => k_memK); k_whole; intro t'W9 k'W9))))
  k_with "my call ref" => ((k_here; (with_reducible show wpAny _ _ (call (Value.ref 782) [Value.ref _, Value.int (Nat.cast _) _]) _ _ _); (with_reducible rename ∀ k, _ < k → k < 5 → Outline _ _ k => ihOW9); k_dflt ((refine' reads_use (ihOW9 _ ?aW9 ?bW9 _) ?BW9 ?FW9 ?XW9 ?NW9 ?TW9 ?kkW9 ?hdW9 ?huW9 ?hnW9 ?_; (case aW9 => omega); (case bW9 => omega); (case BW9 => k_asm); (case FW9 => k_asm); (case XW9 => k_asm); (case NW9 => k_asm); (case TW9 => k_asm); (case kkW9 => first | exact rfl | assumption); (case hdW9 => k_room); (case huW9 => k_units); (case hnW9 => k_memK); k_whole; intro r'W9 h'W9 tk'W9 F'W9 N'W9 ht'W9; obtain ⟨t'W9, e'W9⟩ := ht'W9; subst e'W9; (try k_sweep)))))
  k_with "my inplaceOp Add str str" => ((k_here; (with_reducible show wpAny _ _ (inplaceOp Operator.Add (Value.str _ _) (Value.str _ _)) _ _ _); (refine' iaddK ?kxaaW9 ?kxabW9 ?kxacW9 ?_; (case kxaaW9 => kt_len); (case kxabW9 => kt_len); (case kxacW9 => exact Nat.le_of_ble_eq_true rfl)); intro _ _ _))
  k_with "my k_enter" => ((kp_kind "both"; (fail_if_success k_inElt); (refine' kp_both ?k1W9 ?k2W9 ?k3W9 ?k4W9 ?k5W9 ?kAW9 ?kFW9 ?kKW9 ?k6W9 ?k7W9 ?k8W9 ?kVW9 ?kXW9 ?kQW9 ?kMW9 ?kNW9 ?kDW9 ?kRW9 ?kPW9 ?kSW9 ?kTW9 ?kBW9 ?_ ?c2W9 ?c3W9 ?c4W9 ?c5W9; (case kAW9 => exact rfl); (case kFW9 => exact rfl); (case kKW9 => first | exact rfl | assumption); (case k1W9 => k_asm); (case k2W9 => k_asm); (case k3W9 => k_asm); (case k4W9 => k_asm); (case k5W9 => k_asm); (case k6W9 => k_is); (case k7W9 => k_is); (case k8W9 => k_room); (case kVW9 => kp_lit); (case kXW9 => kp_lit); (case kQW9 => exact rfl); (case kMW9 => exact rfl); (case kNW9 => exact rfl); (case kDW9 => kp_flats); (case kRW9 => exact rfl); (case kPW9 => exact rfl); (case kSW9 => exact fun _ => rfl); (case kTW9 => exact fun _ _ => rfl); (case kBW9 => exact fun _ _ => locs rfl); (case c5W9 => decide); (case c2W9 => exact rfl); (case c3W9 => exact rfl); (case c4W9 => exact rfl); k_whole; intro C'W9 D'W9 o'W9 g'W9 L'W9 h'W9 tk'W9 l1W9 l2W9 lo'W9 hs'W9 fs'W9 FG'W9 F'W9 N'W9 B'W9 X'W9 T'W9; (try k_lt l1W9); (try k_lt2 l2W9); (try dsimp only); (try k_lift B'W9); (try k_fold))))
  k_with "my call builtin:object.__new__" => ((k_here; k_dflt ((refine' new623_K ?FW9 ?XW9 ?NW9 ?_; (case FW9 => k_asm); (case XW9 => k_asm); (case NW9 => k_asm); k_whole; intro x'W9 d'W9 h'W9 F'W9 N'W9 l1W9 l2W9; (try k_lt l1W9); (try k_lt2 l2W9); (try k_sweep)))))
  k_with "my k_all" => (first | exact allNe (by assumption) | exact allNe' (by assumption) | exact allNeT (by assumption) (by first | assumption | omega))
  k_with "my k_enter" => ((refine' code_defC ?k1W9 ?k2W9 ?k3W9 ?k4W9 ?k5W9 ?kAW9 ?kFW9 ?kKW9 ?k6W9 ?k7W9 ?k8W9 ?k9W9 ?kBW9 ?kDW9 ?_ ?c2W9 ?c3W9 ?c4W9; (case kAW9 => exact rfl); (case kFW9 => exact rfl); (case kKW9 => first | exact rfl | assumption); (case k1W9 => k_asm); (case k2W9 => k_asm); (case k3W9 => k_asm); (case k4W9 => k_asm); (case k5W9 => k_asm); (case k6W9 => k_is); (case k7W9 => k_is); (case k8W9 => k_room); (case k9W9 => first | exact BindsTo.of_eq rfl | exact binds_K (by k_in) rfl (by k_is) rfl rfl rfl | fail "k_enter: no rule for these arguments"); (case kBW9 => exact rfl); (case kDW9 => decide +kernel); (case c2W9 => exact rfl); (case c3W9 => exact rfl); (case c4W9 => exact rfl); k_whole; intro g'W9 L'W9 h'W9 tk'W9 cells'W9 FG'W9 F'W9 N'W9 Y'W9 B'W9 X'W9 T'W9 l1W9; (try k_lt l1W9); k_cells Y'W9; (try simp only [List.cons_append, List.nil_append] at N'W9); (try dsimp only); (try k_lift B'W9); (try k_fold)))
  trivial

theorem range_mk9 {prog : Program} {w : World} {A : Around} {E : Value → Shared → Prop} {s : Shared} {h₀ : Heap} {L : Addr} {m : Str → Option Value} {Q : Value → Shared → Prop} {b : Int} {u : Tok} {news : List (Addr × Obj)} (F : Fr h₀ L s.heap m) (N : News h₀ L s.heap news)
    (h : ∀ r h' tk t₁ u₁ v₁, IsRange h' r 0 b 1 t₁ u₁ v₁ → Fr h₀ L h' m → News h₀ L h' news → Q (.ref r) { s with heap := h', toks := tk }) :
    wpAny (model prog w) A (call (.type "range") [.int b u]) Q E s := range1_rows F N fun h' tk t₁ u₁ v₁ R F' N' _ => h _ h' tk t₁ u₁ v₁ R F' N'
theorem words_MkTree_2 : True := by
  k_with "my call type:range" => ((k_here; k_dflt ((refine' range_mk9 ?FW9 ?NW9 ?_; (case FW9 => k_asm); (case NW9 => k_asm); k_whole; intro r'W9 h'W9 tk'W9 t1'W9 u1'W9 v1'W9 R'W9 F'W9 N'W9))))
  trivial

section
variable {prog : Program} {w : World} {A : Around} {E : Value → Shared → Prop} {s : Shared} {h₀ : Heap} {L l : Addr} {m : Str → Option Value} {news : List (Addr × Obj)} {value slice : PySem.Expr} {vs : List Value} {ns : List Int} {vl vu vk : Value} {lo hi st : Option Int} {ops : List Value} {Q : Value → Shared → Prop}
theorem slice_ints3 (F : Fr h₀ L s.heap m) (N : News h₀ L s.heap news) (hl : s.heap.IsList l vs.toArray) (hI : IntsAre vs ns) (hlen : ns.length ≤ 63) (pl : IsPart vl lo) (pu : IsPart vu hi) (pk : IsPart vk st) (h0 : st ≠ some 0)
    (h : ∀ D ws ms h', IntsAre ws ms → Fr h₀ L h' m → News h₀ L h' ((D, listOf (List.toArray ws) 0) :: news) → (∀ p ∈ news, p.1 < D) → Q (.ref D) { s with heap := h' })
    (hs : subscripted slice false (.ref l) (.ref s.heap.objs.size) = operate ops (getItem (.ref l) (.ref s.heap.objs.size))) (ht : ∀ r, letTemporaryGo value (.ref l) r = pure ()) :
    wpAny (model prog w) A (subscriptTail value slice (.ref l) (.ref s.heap.objs.size)) Q E { s with heap := s.heap.push { cls := .type "slice", data := .fields #[vl, vu, vk] } } := by
  refine kmk_slice3_lit (zs := (slicePick vs.toArray lo hi st).toList) F N hl pl pu pk h0 rfl (fun D h' F' N' l1 => h D _ _ h' (hI.pick lo hi st) F' N' l1) hs ht ?_
  rw [List.size_toArray, hI.length, sizeLine_eq]; omega
theorem sum_ints (hh : A.handled = none) (F : Fr h₀ L s.heap m) (N : News h₀ L s.heap news) (hl : s.heap.IsList l vs.toArray) (hi : IntsAre vs ns)
    (h : ∀ x h' tk t', Fr h₀ L h' m → News h₀ L h' news → Q (.int x t') { s with heap := h', toks := tk }) :
    wpAny (model prog w) A (call (.builtin "sum") [.ref l]) Q E s := sumK hh F N hl hi fun h' tk t' F' N' => h _ h' tk t' F' N'
end
theorem words_MkTree_3 : True := by
  k_with "my subscriptTail Name Slice ref ref" => ((k_here; k_dflt ((refine' slice_ints3 ?FW9 ?NW9 ?lW9 ?iW9 ?nW9 ?pW9 ?qW9 ?rW9 ?oW9 ?_ ?sW9 ?tW9; (case FW9 => k_asm); (case NW9 => k_asm); (case lW9 => kmk_list); (case iW9 => assumption); (case nW9 => assumption); (case pW9 => kmk_part); (case qW9 => kmk_part); (case rW9 => kmk_part); (case oW9 => decide); (case sW9 => with_unfolding_all rfl); (case tW9 => kmk_pure))); intro D'W9 ws'W9 ms'W9 h'W9 hI'W9 F'W9 N'W9 l1W9; (try k_lt l1W9); (try k_sweep)))
  k_with "my call builtin:sum" => ((k_here; k_dflt ((refine' sum_ints ?hW9 ?FW9 ?NW9 ?lW9 ?iW9 ?_; (case hW9 => with_unfolding_all rfl); (case FW9 => k_asm); (case NW9 => k_asm); (case lW9 => kmk_list); (case iW9 => assumption); k_whole)); intro x'W9 h'W9 tk'W9 t'W9 F'W9 N'W9; (try k_sweep)))
  k_with "my k_all" => (with_reducible assumption)
  k_with "my CompSrc" => ((k_here; (with_reducible rename _ = Data.cell (some (Value.str _ _)) => hsg9W9); (with_reducible rename _ = Data.cell (some (Value.int _ _)) => hlf9W9); k_dflt ((refine' LCg.CompSrc.range (n := 3) ?hW9 ?FW9 ?NW9 ?rW9 ?smW9 ?rsW9 ?zW9 ?_; (case hW9 => rfl); (case FW9 => k_asm); (case NW9 => k_asm); (case rW9 => assumption); (case smW9 => first | decide | rfl); (case rsW9 => first | rfl | decide); (case zW9 => exact Nat.le_of_ble_eq_true rfl); intro g'W9; refine' comp_any ?SW9 (signF hsg9W9 hlf9W9) ?_ ?_; (case SW9 => trivial); rotate_left; (intro ys'W9 hys'W9); rotate_left; (intro i'W9 v'W9 ys'W9 I'W9 oI'W9 C'W9 oC'W9 D'W9 m'W9 h'W9 tk'W9 E'W9 hi'W9 hP'W9 hC'W9 hx'W9 F'W9 N'W9 off'W9 ne'W9; obtain ⟨t'W9, hv'W9⟩ := hP'W9; subst hv'W9)))))
  k_with "my binaryOp Pow int int" => ((k_here; k_dflt ((refine' pow8 ?aW9 ?_; (case aW9 => assumption); k_whole; intro t'W9 k'W9))))
  k_with "my binaryOp FloorDiv int int" => ((k_here; (with_reducible show wpAny _ _ (binaryOp _ _ (Value.int (HPow.hPow _ _) _)) _ _ _); k_dflt ((refine' fdiv8 ?aW9 ?_; (case aW9 => assumption); k_whole; intro t'W9 k'W9))))
  k_with "my subscriptTail Name BinOp str int" => ((k_here; k_dflt ((refine' sign_item ?aW9 ?_; (case aW9 => exact signs_len _); k_whole; intro t'W9 k'W9))))
  k_with "my TextEnd" => (((exact TextEnd.intro (by k_asm) (by k_asm))))
  k_with "my call builtin:str.join" => ((k_here; k_dflt ((refine' join3 ?NW9 ?mW9 ?yW9 ?_; (case NW9 => k_asm); (case mW9 => k_mem); (case yW9 => assumption); k_whole; intro t'W9 k'W9))))
  k_with "my subscriptTail" => ((k_here; (with_reducible show wpAny _ _ (subscriptTail _ _ (Value.ref _) (Value.int (Int.fmod _ 3) _)) _ _ _); k_dflt ((refine' eol_item ?NW9 ?mW9 ?_; (case NW9 => k_asm); (case mW9 => k_mem); k_whole; intro e'W9 t'W9 he'W9))))
  k_with "my call builtin:list.append" => ((k_here; (with_reducible show wpAny _ _ (call (Value.builtin _) [Value.ref _, _]) _ _ _); k_dflt ((refine' append_K ?k1W9 ?k2W9 ?k3W9 ?_ ?zW9; (case k1W9 => k_asm); (case k2W9 => k_asm); (case k3W9 => k_upd); (case zW9 => exact dat_size (by assumption) (by assumption) (by omega)); k_whole)); intro h'W9 F'W9 N'W9; (try k_sweep)))
  trivial

theorem par_range {a : Int} {i : Nat} (h : 1 ≤ i) : 0 ≤ a.fmod ((0 + i : Nat) : Int) ∧ a.fmod ((0 + i : Nat) : Int) < (i : Int) := by
  have := fmod_range a (k := ((0 + i : Nat) : Int)) (by omega)
  exact ⟨this.1, by have := this.2; omega⟩
theorem tree_offT {news : List (Addr × Obj)} {td : Addr} (h2 : AllLt td news) : OwnOff news [td] := fun p hp b hb => by
  rw [List.mem_singleton.mp hb]
  exact allNe' h2 p hp
set_option maxHeartbeats 8000000 in
theorem mk_tree (w : World) (scr : Addr) (svs : List Value) (ns : List Int) (hI : IntsAre svs ns) (hlen : ns.length ≤ 63) : AtAny w 450 4500 fun A h₀ L m news s => h₀.IsList scr svs.toArray → ∀ Q E : Value → Shared → Prop,
    (∀ td vs n own ds h' tk', Fr h₀ L h' m → News h₀ L h' ((td, listOf (List.toArray vs) n) :: (own ++ news)) → OwnOff own (td :: adrs news) → OwnOff news [td] → DatAll own vs ds → PlacesOk 5 ds → Q (.ref td) { s with heap := h', toks := tk' }) →
    wpAny (model PySem.Challenge.rw_oy0315_01.row.prog w) A (call (.ref 775) [.ref scr]) Q E s := by
  w_strict (
  unfold AtAny
  k_fill
  intro dp un p loose mean mg mb news gd cn cs a ccd cl outer A₀ ba h₀ L m s hdp hun B F X N T hk hS Q E hret
  refine wpAny_call ?_
  (k_dflt k_enter)
  rename ∀ p ∈ news, p.1 < _ => lE
  rename Fr h₀ L _ m => fg9
  have hS2 := Fr.lst fg9 hS
  k_with "pyIter ref" => (refine stop2_of ?_)
  k_steps
  unfold Stop2
  rename _ ∧ _ ∧ AllLt _ news => lT
  rename IsRange _ _ _ _ _ _ _ _ => rgX
  rename News _ _ _ _ => lN
  rename Fr _ _ _ _ => lF
  refine range_dat (n₁ := 5) [Str.ofString "number", Str.ofString "parent", Str.ofString "label"] PlacesOk 0 (by rfl) (by rfl) rgX (small_one (by omega) (by omega) (by omega) (by omega)) ((rangeSize_nat _ _).trans (by omega)) lF lN (by assumption) (by assumption) ?off ⟨rfl, fun k d h => by simp at h⟩ ?turn ?done rfl
  case off => exact tree_off0 lE lT.2.2
  case turn =>
    intro i t h tk vs n base' rest' ds u o1 o2 v1 v2 hi off' hsub hb' hD' hP' ho1 ho2 F' N'
    clear lN lF
    have e1 : ∀ p ∈ rest', p.1 ≠ _ := fun p hp => off' p hp _ (List.mem_cons_self ..)
    have e2 : ∀ p ∈ rest', p.1 ≠ _ := fun p hp => off' p hp _ (List.mem_cons_of_mem _ (List.mem_cons_self ..))
    have e3 : ∀ p ∈ rest', p.1 ≠ _ := fun p hp => off' p hp _ (List.mem_cons_of_mem _ (List.mem_cons_of_mem _ (List.mem_cons_self ..)))
    k_steps
    all_goals (
      rename _ ∧ _ => lA
      obtain ⟨_, _, _, _, lA⟩ := lA
      refine place_end (by k_asm) ?hm (by k_asm) lA hD' hP' (by assumption) ?par (by assumption) (by assumption) ?sg
      case sg => exact ⟨char_small (signs_small (chr_small _)), char_small (signs_small (chr_small _)), char_small (signs_small (chr_small _))⟩
      case hm =>
        intro z hz hc
        obtain ⟨z1, z2, z3⟩ := places_map hc
        exact (if_neg z3).trans ((if_neg z2).trans ((if_neg z1).trans ((if_neg hz).trans (if_neg (by rw [hc]; exact Bool.false_ne_true)))))
      case par => first
        | exact ⟨fun _ => rfl, fun _ => absurd (by assumption) (by omega)⟩
        | exact ⟨fun _ => absurd (by assumption) (by omega), fun hi1 => par_range hi1⟩)
  case done =>
    intro vs n own ds u h tk o1 o2 F' N' off' hD' hP'
    clear lN lF
    k_steps
    all_goals exact hret _ vs n own ds _ _ (by k_asm) (tree_news (by k_asm)) (tree_off off') (tree_offT lT.2.2) hD' hP'
  )
end OyMine
end
section
open PySem PySem.W PyProof.Rows PySem.Calls
set_option maxRecDepth 100000
set_option genInjectivity false
set_option genSizeOf false
set_option genSizeOfSpec false
namespace OyMine
structure PlaceAt (own : List (Addr × Obj)) (k : Nat) where
  a : Addr
  par : Int
  lab : Str
  eol : Str
  tp : Tok
  tl : Tok
  te : Tok
  n : Nat
  mem : (a, ({ cls := .type "tuple", data := .seq #[.int par tp, .str lab tl, .str eol te] n } : Obj)) ∈ own
  par0 : k = 0 → par = -1
  par1 : 1 ≤ k → 0 ≤ par ∧ par < k
  len : lab.length = 4
  blank : lab.cps.getD 3 0 = 32
  eolOk : EolOk eol.cps.toList
  small : ∀ c ∈ lab.cps.toList, c < 1114112
theorem place_at {own : List (Addr × Obj)} {k : Nat} {v : Value} {d : Dat} (h : DatIn own v d) (hp : PlaceOk k d) : ∃ p : PlaceAt own k, v = .ref p.a := by
  obtain ⟨par, lab, eol, rfl, p0, p1, l, b, e, sm⟩ := hp
  obtain ⟨a, ws, n, rfl, hm, hd⟩ := inv_tuple h
  obtain ⟨v1, ws, rfl, h1, hd⟩ := inv_cons hd
  obtain ⟨v2, ws, rfl, h2, hd⟩ := inv_cons hd
  obtain ⟨v3, ws, rfl, h3, hd⟩ := inv_cons hd
  obtain rfl := inv_nil hd
  obtain ⟨t1, rfl⟩ := inv_int h1
  obtain ⟨t2, rfl⟩ := inv_str h2
  obtain ⟨t3, rfl⟩ := inv_str h3
  exact ⟨⟨_, par, OyMine.mk lab, OyMine.mk eol, _, _, _, _, hm, p0, p1, (mk_len lab).trans l, getD_at.trans b, by rw [mk_list]; exact e, by rw [mk_list]; exact sm⟩, rfl⟩
noncomputable def five {α : Type} (a b c d e : α) : Nat → α
  | 0 => a
  | 1 => b
  | 2 => c
  | 3 => d
  | _ => e
theorem tree_of {td : Addr} {vs : List Value} {n : Nat} {own : List (Addr × Obj)} {ds : List Dat} (hD : DatAll own vs ds) (hP : PlacesOk 5 ds) :
    ∃ T : TreeAt, T.t = td ∧ (∀ q ∈ T.objs, q ∈ (td, listOf vs.toArray n) :: own) ∧ T.Ok ∧ (∀ k, k < 5 → EolOk (T.eol k).cps.toList) ∧ ∀ k, k < 5 → ∀ c ∈ (T.lab k).cps.toList, c < 1114112 := by
  obtain ⟨hl, hk⟩ := hP
  match ds, hl, hk, hD with
  | [d0, d1, d2, d3, d4], _, hk, hD =>
              obtain ⟨v0, ws, rfl, h0, hD⟩ := inv_cons hD
              obtain ⟨v1, ws, rfl, h1, hD⟩ := inv_cons hD
              obtain ⟨v2, ws, rfl, h2, hD⟩ := inv_cons hD
              obtain ⟨v3, ws, rfl, h3, hD⟩ := inv_cons hD
              obtain ⟨v4, ws, rfl, h4, hD⟩ := inv_cons hD
              obtain rfl := inv_nil hD
              obtain ⟨p0, rfl⟩ := place_at h0 (hk 0 d0 rfl)
              obtain ⟨p1, rfl⟩ := place_at h1 (hk 1 d1 rfl)
              obtain ⟨p2, rfl⟩ := place_at h2 (hk 2 d2 rfl)
              obtain ⟨p3, rfl⟩ := place_at h3 (hk 3 d3 rfl)
              obtain ⟨p4, rfl⟩ := place_at h4 (hk 4 d4 rfl)
              refine ⟨⟨td, n, five p0.a p1.a p2.a p3.a p4.a, five p0.par p1.par p2.par p3.par p4.par, five p0.lab p1.lab p2.lab p3.lab p4.lab, five p0.eol p1.eol p2.eol p3.eol p4.eol, five p0.tp p1.tp p2.tp p3.tp p4.tp, five p0.tl p1.tl p2.tl p3.tl p4.tl, five p0.te p1.te p2.te p3.te p4.te, five p0.n p1.n p2.n p3.n p4.n⟩, rfl, ?_, ?_, ?_, ?_⟩
              · intro q hq
                unfold TreeAt.objs at hq
                simp only [List.mem_cons, List.not_mem_nil, or_false] at hq
                rcases hq with rfl | rfl | rfl | rfl | rfl | rfl
                · exact List.mem_cons_self ..
                · exact List.mem_cons_of_mem _ p0.mem
                · exact List.mem_cons_of_mem _ p1.mem
                · exact List.mem_cons_of_mem _ p2.mem
                · exact List.mem_cons_of_mem _ p3.mem
                · exact List.mem_cons_of_mem _ p4.mem
              · refine ⟨p0.par0 rfl, ?_, ?_, ?_, ?_⟩
                · intro k h1 h5
                  match k, h1, h5 with
                  | 1, _, _ => exact p1.par1 (by decide)
                  | 2, _, _ => exact p2.par1 (by decide)
                  | 3, _, _ => exact p3.par1 (by decide)
                  | 4, _, _ => exact p4.par1 (by decide)
                · intro k h5
                  match k, h5 with
                  | 0, _ => exact p0.len
                  | 1, _ => exact p1.len
                  | 2, _ => exact p2.len
                  | 3, _ => exact p3.len
                  | 4, _ => exact p4.len
                · intro k h5
                  have el : ∀ x : Str, EolOk x.cps.toList → x.length ≤ 2 := by
                    intro x h
                    have e : x.cps.toList.length = x.length := Array.length_toList
                    rcases h with h | h | h <;> (rw [h] at e; simp at e; omega)
                  match k, h5 with
                  | 0, _ => exact el _ p0.eolOk
                  | 1, _ => exact el _ p1.eolOk
                  | 2, _ => exact el _ p2.eolOk
                  | 3, _ => exact el _ p3.eolOk
                  | 4, _ => exact el _ p4.eolOk
                · intro k h5
                  match k, h5 with
                  | 0, _ => exact p0.blank
                  | 1, _ => exact p1.blank
                  | 2, _ => exact p2.blank
                  | 3, _ => exact p3.blank
                  | 4, _ => exact p4.blank
              · intro k h5
                match k, h5 with
                | 0, _ => exact p0.eolOk
                | 1, _ => exact p1.eolOk
                | 2, _ => exact p2.eolOk
                | 3, _ => exact p3.eolOk
                | 4, _ => exact p4.eolOk
              · intro k h5
                match k, h5 with
                | 0, _ => exact p0.small
                | 1, _ => exact p1.small
                | 2, _ => exact p2.small
                | 3, _ => exact p3.small
                | 4, _ => exact p4.small
end OyMine
end
section
open PySem PySem.W PyProof.Rows PySem.Calls
set_option maxRecDepth 100000
set_option genInjectivity false
set_option genSizeOf false
set_option genSizeOfSpec false
namespace OyMine
section
variable {prog : Program} {w : World} {A : Around} {E : Value → Shared → Prop} {s : Shared} {env : Env} {h₀ : Heap} {L r I : Addr} {m : Str → Option Value} {news : List (Addr × Obj)} {x : Str} {body : List Stmt}
theorem iter_call {Q : Value → Shared → Prop} {a b : Int} {t u v : Tok} {n : Nat} (F : Fr h₀ L s.heap m) (N : News h₀ L s.heap news) (hr : IsRange s.heap r a b 1 t u v) (hsmall : Builtin.Range.small a b 1 = true) (hn : Builtin.Range.rangeSize a b 1 = (n : Int))
    (h : ∀ I h', Fr h₀ L h' m → News h₀ L h' ((I, itR a (n : Int)) :: news) → (∀ p ∈ news, p.1 < I) → Q (.ref I) { s with heap := h' }) :
    wpAny (model prog w) A (call (.builtin "iter") [.ref r]) Q E s := by
  refine call_function_entry (by decide +kernel) (by decide +kernel) kdk_entry_iter (kdk_args_iter _) ?_
  unfold Builtin.«iter»
  refine wpAny_bind (m := someArgs "iter" 1 2 _) (wpAny_of_eq (a := [Value.ref r]) (by first | rfl | kernel_rfl!) ?_)
  show wpAny _ _ (pyIter (.ref r) >>= _) _ _ _
  refine wpAny_bind (wpAny_pyIter_range hr hsmall ?_)
  rw [hn]
  exact wpAny_pure ⟨_, rfl, h _ _ (F.push _) (News.push F N _ rfl) (fun q hq => Heap.lt_size (N q hq).1)⟩
noncomputable abbrev rgObj (n : Int) (t1 t t2 : Tok) : Obj := { cls := .type "range", data := .fields #[.int 0 t1, .int n t, .int 1 t2] }
theorem range_led {Q : Value → Shared → Prop} {n : Int} {t : Tok} (F : Fr h₀ L s.heap m) (N : News h₀ L s.heap news)
    (h : ∀ r h' tk t1 t2, Fr h₀ L h' m → News h₀ L h' ((r, rgObj n t1 t t2) :: news) → (∀ p ∈ news, p.1 < r) → Q (.ref r) { s with heap := h', toks := tk }) :
    wpAny (model prog w) A (call (.type "range") [.int n t]) Q E s :=
  call_range_1 (h _ _ _ _ _ (F.push _) (News.push F N _ rfl) fun q hq => Heap.lt_size (N q hq).1)
theorem iter_led {Q : Value → Shared → Prop} {b : Int} {t u v : Tok} {n : Nat} (F : Fr h₀ L s.heap m) (N : News h₀ L s.heap news) (hm : (r, rgObj b t u v) ∈ news) (hsmall : Builtin.Range.small 0 b 1 = true) (hn : Builtin.Range.rangeSize 0 b 1 = (n : Int))
    (h : ∀ I h', Fr h₀ L h' m → News h₀ L h' ((I, itR 0 (n : Int)) :: news) → (∀ p ∈ news, p.1 < I) → Q (.ref I) { s with heap := h' }) :
    wpAny (model prog w) A (call (.builtin "iter") [.ref r]) Q E s := iter_call F N (show IsRange s.heap r 0 b 1 t u v from N.get hm) hsmall hn h
theorem iter_iterUnr {a₀ : Int} {n : Nat} {m₀ : Str → Option Value} {Q : Flow → Shared → Prop}
    (hh : A.handled = none) (F : Fr h₀ env.locals s.heap m₀) (N : News h₀ env.locals s.heap ((I, itR a₀ (n : Int)) :: news)) (hI : ∀ p ∈ news, p.1 ≠ I)
    (rest : RangeRest prog w A E h₀ env x body Q s I a₀ n n 0 m₀ news) :
    wpAny (model prog w) A (pyIter (.ref I)) (fun it s₂ => LoopAtV prog w A h₀ env x body Q E it s₂) E s := by
  have hget := (N _ (List.mem_cons_self ..)).1
  have W : PySem.Walks prog w A I [I] [I] n (fun i v => i < n ∧ ∃ t, v = .int (a₀ + i * 1) t)
      (fun i h => IsRangeIter h I (a₀ + (i : Nat) * 1) ((n : Int) - (i : Nat)) 1) := (PySem.Walks.range hh _ a₀ 1 n).bound
  have hst0 : IsRangeIter s.heap I (a₀ + ((0 : Nat) : Int) * 1) ((n : Int) - ((0 : Nat) : Int)) 1 := by
    have e1 : a₀ + ((0 : Nat) : Int) * 1 = a₀ := by simp
    have e2 : (n : Int) - ((0 : Nat) : Int) = (n : Int) := by simp
    rw [e1, e2]
    exact hget
  refine W.self 0 _ _ _ hst0 ?_
  let J : Nat → (Str → Option Value) → List (Addr × Obj) → Prop := fun i m₁ news₁ => RangeRest prog w A E h₀ env x body Q s I a₀ n (n - i) i m₁ news₁
  refine ⟨_, _, _, n, _, _, m₀, news, J, rfl, W, ?_, ?_, ?_, hst0, F, (fun p hp => N p (List.mem_cons_of_mem _ hp)), rest, ?_, ?_⟩
  · intro hm
    exact (N _ (List.mem_cons_self ..)).2.1 (List.mem_singleton.mp hm).symm
  · intro b hb
    rw [List.mem_singleton.mp hb]
    exact (N _ (List.mem_cons_self ..)).2.2
  · intro p hp hI'
    exact hI p hp (List.mem_singleton.mp hI')
  · rintro i v m₁ news₁ s₁ own ⟨hh', tk', rfl⟩ hin ⟨_, t, rfl⟩ hJ hoff hown hget hall hst F₁ N₁
    have hst' : hh'.get? I = some (itR (a₀ + ((i + 1 : Nat) : Int)) ((n : Int) - ((i + 1 : Nat) : Int))) := by
      have q : IsRangeIter hh' I (a₀ + ((i + 1 : Nat) : Int) * 1) ((n : Int) - ((i + 1 : Nat) : Int)) 1 := hst
      rw [Int.mul_one] at q
      exact q
    have hmem := hall I (List.mem_singleton.mpr rfl) (N _ (List.mem_cons_self ..)).2.2 _ hst'
    have hkk : n - i = (n - (i + 1)) + 1 := by omega
    have hJ' : RangeRest prog w A E h₀ env x body Q s I a₀ n ((n - (i + 1)) + 1) i m₁ news₁ := by rw [← hkk]; exact hJ
    have e1 : a₀ + (i : Int) * 1 = a₀ + (i : Int) := by rw [Int.mul_one]
    rw [e1] at F₁
    have N₂ : News h₀ env.locals hh' ((I, itR (a₀ + ((i + 1 : Nat) : Int)) ((n : Int) - ((i + 1 : Nat) : Int))) :: news₁) := fun p hp => by
      rcases List.mem_cons.mp hp with rfl | hp
      · exact N₁ _ (List.mem_append_left _ hmem)
      · exact N₁ _ (List.mem_append_right _ hp)
    refine wpAny_mono (hJ' t hh' tk' F₁ N₂) (fun f s₂ p => ?_) fun _ _ e => e
    have fin : UnrEnd h₀ env.locals { s with heap := hh', toks := tk' } I (itR (a₀ + ((i + 1 : Nat) : Int)) ((n : Int) - ((i + 1 : Nat) : Int))) (RangeRest prog w A E h₀ env x body Q s I a₀ n (n - (i + 1)) (i + 1)) s₂ →
        LoopStepU h₀ env.locals [I] own (J (i + 1)) { s with heap := hh', toks := tk' } .next s₂ := by
      rintro ⟨h', tk, m', news', e, F', N', ho, r⟩
      refine ⟨rfl, h', tk, m', news', e, F', fun p hp => ?_, fun p hp hI => ho p hp (List.mem_singleton.mp hI), r⟩
      rcases List.mem_append.mp hp with hp | hp
      · have h1 : p.1 = I := List.mem_singleton.mp (hown p hp)
        have h2 : hh'.get? p.1 = some p.2 := hget p hp
        have h3 : p = (I, itR (a₀ + ((i + 1 : Nat) : Int)) ((n : Int) - ((i + 1 : Nat) : Int))) := by
          rw [h1, hst'] at h2
          exact Prod.ext h1 (Option.some.inj h2).symm
        rw [h3]; exact N' _ (List.mem_cons_self ..)
      · exact N' _ (List.mem_cons_of_mem _ hp)
    cases f with
    | ret v => exact .ret p
    | brk => exact .brk p
    | next => exact .next (fin p)
    | cont => exact .cont (fin p)
  · rintro h' tk m' news' F' N' _ hJ
    have hJ' : RangeRest prog w A E h₀ env x body Q s I a₀ n 0 n m' news' := by
      have z : n - n = 0 := Nat.sub_self n
      have q : RangeRest prog w A E h₀ env x body Q s I a₀ n (n - n) n m' news' := hJ
      rw [z] at q; exact q
    exact hJ' h' tk F' N'
/-- the end of a tree that gives a text and lets all stand -/
theorem cut_str {M : Model} {tree : Sem Value} {Q : Value → Shared → Prop} (y : List Nat) (F : Fr h₀ L s.heap m) (N : News h₀ L s.heap news)
    (h1 : wpAny M A tree (TextEnd h₀ L m news y s) E s) (h2 : ∀ t h' tk', Fr h₀ L h' m → News h₀ L h' news → Q (.str (mk y) t) { s with heap := h', toks := tk' }) : wpAny M A tree Q E s :=
  wpAny_mono h1 (fun v s' ⟨t, h', tk', e1, e2, F', N'⟩ => by subst e1; subst e2; exact h2 t h' tk' F' N') fun _ _ z => z
end
end OyMine
end
section
open PySem PySem.W PyProof.Rows PySem.Calls
set_option maxRecDepth 100000
set_option genInjectivity false
set_option genSizeOf false
set_option genSizeOfSpec false
namespace OyMine
theorem told_all : ∀ (rs : List Row) (p : Nat), Told p rs → ∀ r ∈ rs, r.dots ≤ 100 ∧ r.lab.length ≤ 1000
  | [], _, _, r, h => nomatch h
  | q :: rs, p, ht, r, h => by
    obtain ⟨a, b, _, _, e⟩ := ht
    rcases List.mem_cons.mp h with rfl | h
    · exact ⟨a.2, by omega⟩
    · exact told_all rs _ e r h
theorem good_all {rows : List Row} (h : Good rows) : ∀ r ∈ rows, r.dots ≤ 100 ∧ r.lab.length ≤ 1000 := by
  obtain ⟨r0, rs, rfl, h0, hl, _, ht, _⟩ := h
  intro r hr
  rcases List.mem_cons.mp hr with rfl | hr
  · exact ⟨by omega, by omega⟩
  · exact told_all rs _ ht r hr
section
variable {prog : Program} {w : World} {A : Around} {E : Value → Shared → Prop} {s : Shared} {h₀ : Heap} {L : Addr} {m : Str → Option Value} {env : Env} {elt : PySem.Expr} {x : Str} {scope : Scope} {cl : List (Str × Addr)} {news L9 : List (Addr × Obj)}
theorem comp_rows {vs : List Value} {rows : List Row} (hD : DatAll L9 vs (told rows)) (hsub : ∀ q ∈ L9, q ∈ news) {Sx : List (Addr × Obj) → Prop} (hS : Sx news) {Fin : List Value → List (Addr × Obj) → Prop}
    (turn : ∀ (r : Row) (a : Addr) k t1 t2 t3 t4 (ys : List Value) I oI C oC D m₂ h tk (E' : Value → Shared → Prop), r ∈ rows → (a, rowObj r k t1 t2 t3 t4) ∈ (I, oI) :: (C, oC) :: (D, LCg.lst ys) :: news → LCg.NsObj oC m₂ → m₂ x = some (.ref a) → Fr h₀ L h m → News h₀ L h ((I, oI) :: (C, oC) :: (D, LCg.lst ys) :: news) → LCg.Off3 I C D news → ((@Ne Nat I C) ∧ (@Ne Nat I D) ∧ (@Ne Nat C D)) →
      wpAny (model prog w) A (eval elt (compEnvC scope cl C env)) (TextEnd h₀ L m ((I, oI) :: (C, oC) :: (D, LCg.lst ys) :: news) r.written { s with heap := h, toks := tk }) E' { s with heap := h, toks := tk })
    (fin : ∀ ys, StrsAre ys (rows.map fun r => mk r.written) → Fin ys news) :
    LCg.CompRest prog w A h₀ L m env elt x scope cl s Sx (fun i v => vs.toArray[i]? = some v) Fin vs.toArray.size 0 [] news := by
  have el : vs.length = rows.length := by rw [hD.length, told_length]
  refine comp_any hS (fun i => ((rows[i]?).map Row.written).getD []) (fun i v ys I oI C oC D m₂ h tk E' hi hP hC hx F N off ne => ?_) fun ys hy => fin ys ?_
  · have hP' : vs[i]? = some v := by simpa using hP
    have hi' : i < rows.length := by have := (List.getElem?_eq_some_iff.mp hP').1; omega
    have hk : i < (told rows).length := by rw [told_length]; exact hi'
    obtain ⟨v', hv, hV⟩ := hD.get hk
    rw [hP'] at hv
    obtain rfl := Option.some.inj hv
    have ed : (told rows)[i]'hk = (rows[i]'hi').dat := by
      have : (told rows)[i]? = some (rows[i]'hi').dat := by unfold told; rw [List.getElem?_map, List.getElem?_eq_getElem hi']; rfl
      exact (List.getElem?_eq_some_iff.mp this).2
    rw [ed] at hV
    obtain ⟨a, n', t1, t2, t3, t4, rfl, hmem⟩ := row_open hV
    have eg : ((rows[i]?).map Row.written).getD [] = (rows[i]'hi').written := by rw [List.getElem?_eq_getElem hi']; rfl
    rw [eg]
    exact turn _ a n' t1 t2 t3 t4 ys I oI C oC D m₂ h tk E' (List.getElem_mem hi') (.tail _ (.tail _ (.tail _ (hsub _ hmem)))) hC hx F N off ne
  · have : (List.range vs.toArray.size).map (fun i => mk (((rows[i]?).map Row.written).getD [])) = rows.map fun r => mk r.written := by
      rw [List.size_toArray, el]
      apply List.ext_getElem?
      intro i
      rw [List.getElem?_map, List.getElem?_map]
      by_cases h : i < rows.length
      · rw [List.getElem?_range h]
        show some (mk (((rows[i]?).map Row.written).getD [])) = _
        rw [List.getElem?_eq_getElem h]
        rfl
      · rw [List.getElem?_eq_none (by simpa using h), List.getElem?_eq_none (by simpa using h)]
        rfl
    rw [← this]
    exact hy
variable {Q : Value → Shared → Prop} {t u : Tok}
theorem row_item0 {value slice : PySem.Expr} {a : Addr} {r : Row} {k : Nat} {t1 t2 t3 t4 : Tok} (N : News h₀ L s.heap news) (hm : (a, rowObj r k t1 t2 t3 t4) ∈ news) (h : Q (.int (r.dots : Int) t1) s)
    (hs : subscripted slice false (.ref a) (.int 0 u) = operate [.ref a, .int 0 u] (getItem (.ref a) (.int 0 u)) := by with_unfolding_all rfl) :
    wpAny (model prog w) A (subscriptTail value slice (.ref a) (.int 0 u)) Q E s :=
  item_tupleT (l := [.int (r.dots : Int) t1, .int r.par t2, .str (OyMine.mk r.lab) t3, .int (r.line : Int) t4]) (j := 0) (N.isTup hm) (by decide) (by decide) (by rfl) rfl h hs
theorem row_item2 {value slice : PySem.Expr} {a : Addr} {r : Row} {k : Nat} {t1 t2 t3 t4 : Tok} (N : News h₀ L s.heap news) (hm : (a, rowObj r k t1 t2 t3 t4) ∈ news) (h : Q (.str (OyMine.mk r.lab) t3) s)
    (hs : subscripted slice false (.ref a) (.int 2 u) = operate [.ref a, .int 2 u] (getItem (.ref a) (.int 2 u)) := by with_unfolding_all rfl) :
    wpAny (model prog w) A (subscriptTail value slice (.ref a) (.int 2 u)) Q E s :=
  item_tupleT (l := [.int (r.dots : Int) t1, .int r.par t2, .str (OyMine.mk r.lab) t3, .int (r.line : Int) t4]) (j := 2) (N.isTup hm) (by decide) (by decide) (by rfl) rfl h hs
theorem join_flat : ∀ rows : List Row, Str.join (mk []) (rows.map fun r => mk r.written) = mk (flat rows)
  | [] => rfl
  | r :: rs => by
    have h := join_mk [] r.written (rs.map Row.written)
    rw [List.map_cons, List.map_map] at h
    have e : (rs.map fun r => mk r.written) = rs.map (mk ∘ Row.written) := rfl
    rw [List.map_cons, e, h]
    refine congrArg mk ?_
    simp [flat]
    rfl
theorem sum_flat : ∀ rows : List Row, ((rows.map fun r => mk r.written).map (·.length)).sum = (flat rows).length
  | [] => rfl
  | r :: rs => by
    have ih := sum_flat rs
    have e : flat (r :: rs) = r.written ++ flat rs := rfl
    rw [List.map_cons, List.map_cons, List.sum_cons, ih, e, List.length_append, mk_len]
theorem join_mail {D : Addr} {ys : List Value} {k : Nat} {rows : List Row} {y : List Nat} (N : News h₀ L s.heap news) (hm : (D, listOf ys.toArray k) ∈ news) (hy : StrsAre ys (rows.map fun r => mk r.written)) (e : flat rows = y) (hl : y.length ≤ 900000) (hr : rows.length ≤ 100)
    (h : ∀ t' k, Q (.str (mk y) t') { s with toks := k }) : wpAny (model prog w) A (call (.builtin "str.join") [.str "" t, .ref D]) Q E s := by
  have hl' : s.heap.IsList D ys.toArray := N.isList hm
  refine join_listW hl' hy (by decide +kernel) (by rw [sum_flat, e, List.length_map]; omega) fun t' k' => ?_
  have e2 : Txt.join (Str.ofString "") (rows.map fun r => mk r.written) = mk y := by
    refine (show Txt.join (Str.ofString "") (rows.map fun r => mk r.written) = Str.join (Str.ofString "") (rows.map fun r => mk r.written) from StrLaws.glued_eq_join _ _).trans ?_
    rw [nil_str, join_flat, e]
  rw [e2]
  exact h _ _
end
theorem mail_len {T : TreeAt} (O : T.Ok) {d : Nat} (hd : d ≤ 1) : (qdN (d + 1) (T.out 0)).length ≤ 300000 := by
  have h1 := TreeAt.out_len O (node := 0) (by decide)
  have h2 := qd_len (T.out 0)
  have h3 := qd_len (qd (T.out 0))
  have : d = 0 ∨ d = 1 := by omega
  rcases this with rfl | rfl
  · show (qd (T.out 0)).length ≤ _
    omega
  · show (qd (qd (T.out 0))).length ≤ _
    omega
theorem mail_flat {T : TreeAt} (he : ∀ k, k < 5 → EolOk (T.eol k).cps.toList) (d : Nat) : flat (T.walked 0 (-1) (d + 1) []) = qdN (d + 1) (T.out 0) := by
  have := T.walked_flat he 5 0 (by decide) (by decide) (-1) d []
  rw [this]
  rfl
section
variable {prog : Program} {w : World} {A : Around} {E : Value → Shared → Prop} {s : Shared} {Q : Value → Shared → Prop} {r : Addr}
theorem iter_inst (h : wpAny (model prog w) A.in1 (pyIter (.ref r)) Q E s) : wpAny (model prog w) A (call (.builtin "iter") [.ref r]) Q E s := by
  refine call_function_entry (by decide +kernel) (by decide +kernel) kdk_entry_iter (kdk_args_iter _) ?_
  unfold Builtin.«iter»
  refine wpAny_bind (m := someArgs "iter" 1 2 _) (wpAny_of_eq (a := [Value.ref r]) (by first | rfl | kernel_rfl!) ?_)
  show wpAny _ _ (pyIter (.ref r) >>= _) _ _ _
  exact wpAny_bind (wpAny_mono h (fun v s' hq => wpAny_pure ⟨v, rfl, hq⟩) fun _ _ e => e)
end
theorem perm_lex {g h : Heap} {L : Addr} {a1 a2 a3 a4 a5 x1 x2 x3 x4 x5 x6 x7 b1 b2 b3 b4 l t ce q : Addr × Obj} {X : List (Addr × Obj)} (N : News g L h (a1 :: a2 :: a3 :: a4 :: a5 :: x1 :: x2 :: x3 :: x4 :: x5 :: x6 :: x7 :: b1 :: b2 :: b3 :: b4 :: l :: t :: ce :: q :: X)) :
    News g L h (x1 :: x2 :: x3 :: x4 :: x5 :: x6 :: x7 :: a4 :: a5 :: ce :: q :: (a1 :: a2 :: a3 :: l :: X)) := fun p hp => N p ((show ∀ z ∈ x1 :: x2 :: x3 :: x4 :: x5 :: x6 :: x7 :: a4 :: a5 :: ce :: q :: (a1 :: a2 :: a3 :: l :: X), z ∈ a1 :: a2 :: a3 :: a4 :: a5 :: x1 :: x2 :: x3 :: x4 :: x5 :: x6 :: x7 :: b1 :: b2 :: b3 :: b4 :: l :: t :: ce :: q :: X from List.forall_mem_cons.mpr ⟨.tail _ (.tail _ (.tail _ (.tail _ (.tail _ (.head _))))), List.forall_mem_cons.mpr ⟨.tail _ (.tail _ (.tail _ (.tail _ (.tail _ (.tail _ (.head _)))))), List.forall_mem_cons.mpr ⟨.tail _ (.tail _ (.tail _ (.tail _ (.tail _ (.tail _ (.tail _ (.head _))))))), List.forall_mem_cons.mpr ⟨.tail _ (.tail _ (.tail _ (.tail _ (.tail _ (.tail _ (.tail _ (.tail _ (.head _)))))))), List.forall_mem_cons.mpr ⟨.tail _ (.tail _ (.tail _ (.tail _ (.tail _ (.tail _ (.tail _ (.tail _ (.tail _ (.head _))))))))), List.forall_mem_cons.mpr ⟨.tail _ (.tail _ (.tail _ (.tail _ (.tail _ (.tail _ (.tail _ (.tail _ (.tail _ (.tail _ (.head _)))))))))), List.forall_mem_cons.mpr ⟨.tail _ (.tail _ (.tail _ (.tail _ (.tail _ (.tail _ (.tail _ (.tail _ (.tail _ (.tail _ (.tail _ (.head _))))))))))), List.forall_mem_cons.mpr ⟨.tail _ (.tail _ (.tail _ (.head _))), List.forall_mem_cons.mpr ⟨.tail _ (.tail _ (.tail _ (.tail _ (.head _)))), List.forall_mem_cons.mpr ⟨.tail _ (.tail _ (.tail _ (.tail _ (.tail _ (.tail _ (.tail _ (.tail _ (.tail _ (.tail _ (.tail _ (.tail _ (.tail _ (.tail _ (.tail _ (.tail _ (.tail _ (.tail _ (.head _)))))))))))))))))), List.forall_mem_cons.mpr ⟨.tail _ (.tail _ (.tail _ (.tail _ (.tail _ (.tail _ (.tail _ (.tail _ (.tail _ (.tail _ (.tail _ (.tail _ (.tail _ (.tail _ (.tail _ (.tail _ (.tail _ (.tail _ (.tail _ (.head _))))))))))))))))))), List.forall_mem_cons.mpr ⟨.head _, List.forall_mem_cons.mpr ⟨.tail _ (.head _), List.forall_mem_cons.mpr ⟨.tail _ (.tail _ (.head _)), List.forall_mem_cons.mpr ⟨.tail _ (.tail _ (.tail _ (.tail _ (.tail _ (.tail _ (.tail _ (.tail _ (.tail _ (.tail _ (.tail _ (.tail _ (.tail _ (.tail _ (.tail _ (.tail _ (.head _)))))))))))))))), fun q hq => .tail _ (.tail _ (.tail _ (.tail _ (.tail _ (.tail _ (.tail _ (.tail _ (.tail _ (.tail _ (.tail _ (.tail _ (.tail _ (.tail _ (.tail _ (.tail _ (.tail _ (.tail _ (.tail _ (.tail _ (hq))))))))))))))))))))⟩⟩⟩⟩⟩⟩⟩⟩⟩⟩⟩⟩⟩⟩⟩) p hp)
theorem off_consL {ℓ : LexA} {p : Addr × Obj} {l : List (Addr × Obj)} (h : @Ne Nat p.1 ℓ.x ∧ @Ne Nat p.1 ℓ.dx ∧ @Ne Nat p.1 ℓ.st ∧ @Ne Nat p.1 ℓ.ds ∧ @Ne Nat p.1 ℓ.pb ∧ @Ne Nat p.1 ℓ.fs ∧ @Ne Nat p.1 ℓ.pp) (r : OwnOff l ℓ.adr) : OwnOff (p :: l) ℓ.adr := by
  intro q hq b hb
  rcases List.mem_cons.mp hq with rfl | hq
  · simp only [LexA.adr, List.mem_cons, List.not_mem_nil, or_false] at hb
    rcases hb with h' | h' | h' | h' | h' | h' | h' <;> subst h'
    · exact h.1
    · exact h.2.1
    · exact h.2.2.1
    · exact h.2.2.2.1
    · exact h.2.2.2.2.1
    · exact h.2.2.2.2.2.1
    · exact h.2.2.2.2.2.2
  · exact r q hq b hb
theorem off_consG {ℓ : LexA} (ok : ℓ.Ok) {p : Addr × Obj} {l : List (Addr × Obj)} (h : @LT.lt Nat _ ℓ.pp p.1) (r : OwnOff l ℓ.adr) : OwnOff (p :: l) ℓ.adr := by
  have ok9 := ok
  obtain ⟨o1, o2, o3, o4, o5, o6⟩ := ok
  have g5 := Nat.lt_trans o6 h
  have g4 := Nat.lt_trans o5 g5
  have g3 := Nat.lt_trans o4 g4
  have g2 := Nat.lt_trans o3 g3
  have g1 := Nat.lt_trans o2 g2
  have g0 := Nat.lt_trans o1 g1
  exact off_consL ⟨Nat.ne_of_gt g1, Nat.ne_of_gt g0, Nat.ne_of_gt g3, Nat.ne_of_gt g2, Nat.ne_of_gt g4, Nat.ne_of_gt g5, Nat.ne_of_gt h⟩ r
theorem off_consB {ℓ : LexA} (ok : ℓ.Ok) {p : Addr × Obj} {l : List (Addr × Obj)} (h : @LT.lt Nat _ p.1 ℓ.dx) (r : OwnOff l ℓ.adr) : OwnOff (p :: l) ℓ.adr := by
  have ok9 := ok
  obtain ⟨o1, o2, o3, o4, o5, o6⟩ := ok
  have g1 := Nat.lt_trans h o1
  have g2 := Nat.lt_trans g1 o2
  have g3 := Nat.lt_trans g2 o3
  have g4 := Nat.lt_trans g3 o4
  have g5 := Nat.lt_trans g4 o5
  have g6 := Nat.lt_trans g5 o6
  exact off_consL ⟨Nat.ne_of_lt g1, Nat.ne_of_lt h, Nat.ne_of_lt g3, Nat.ne_of_lt g2, Nat.ne_of_lt g4, Nat.ne_of_lt g5, Nat.ne_of_lt g6⟩ r
theorem off_nilL {ℓ : LexA} : OwnOff [] ℓ.adr := fun p hp => nomatch hp
theorem off_allB {ℓ : LexA} (ok : ℓ.Ok) : ∀ {X : List (Addr × Obj)}, AllLt ℓ.dx X → OwnOff X ℓ.adr
  | [], _ => off_nilL
  | _ :: _, h => off_consB ok h.1 (off_allB ok h.2)
end OyMine
end
section
open PySem PySem.W PyProof.Rows PySem.Builtin PySem.Builtin.Re
set_option maxRecDepth 100000
set_option genInjectivity false
set_option genSizeOf false
set_option genSizeOfSpec false
namespace OyMine
theorem words_Red_0 : True := by
  w_top off
  k_with_none
  k_with "my omega" => (first
    | with_reducible assumption
    | with_reducible exact Nat.ne_of_lt (by assumption)
    | with_reducible exact Nat.ne_of_gt (by assumption)
    | decide
    | with_reducible exact Nat.le_refl _
    | with_reducible exact Nat.zero_le _
    | with_reducible exact Nat.le_add_right _ _
    | with_reducible exact Nat.le_add_left _ _
    | with_reducible exact Nat.lt_succ_self _
    | with_reducible exact Nat.le_succ _
    | with_reducible exact Nat.succ_pos _
    | with_reducible exact Nat.zero_add _
    | with_reducible exact q4
    | with_reducible exact q8
    | with_reducible exact Nat.le_of_lt (by assumption)
    | with_reducible exact Nat.le_of_succ_le (by assumption)
    | with_reducible exact Nat.le_of_succ_le_succ (by assumption)
    | with_reducible exact Nat.not_lt.mp (by assumption)
    | with_reducible exact Nat.lt_succ_of_le (by assumption)
    | with_reducible exact Nat.le_succ_of_le (by assumption)
    | with_reducible exact Nat.succ_le_of_lt (by assumption)
    | with_reducible exact q1 (by assumption)
    | with_reducible exact q2 (by assumption)
    | with_reducible exact q3 (by assumption)
    | with_reducible exact q5 (by assumption)
    | with_reducible exact q7 (by assumption)
    | with_reducible exact q6 (by assumption) (by assumption)
    | with_reducible exact absurd (by assumption) (Nat.not_lt.mpr (by assumption))
    | (with_reducible refine room_le (by assumption) ?_; with_unfolding_all rfl)
    | (with_reducible refine room_lt (by assumption) ?_; with_unfolding_all rfl)
    | (with_reducible refine room_le0 (by assumption) ?_; with_unfolding_all rfl)
    | ((fail_if_success (with_reducible show _ ≠ _)); (rename _ ∧ _ => cW9; clear cW9); (repeat (rename _ ∧ _ => cW9; clear cW9)); omega)
    | fail "no")
  k_with "my execs cons" => ((rename Shared => s); refine' execs_cons_n (g := Shared.gens s) (d := Shared.drawn s) (o := Shared.os s) ?gW9 ?dW9 ?oW9 ?_; (case gW9 => exact rfl); (case dW9 => exact rfl); (case oW9 => exact rfl); intro tkW9; (try k_fold))
  trivial
theorem words_Red_1 : True := by
  k_with "my k_room" => (first | exact Nat.le_of_ble_eq_true rfl | ((try simp only [duk, depth_under_make, depth_under_kw, depth_in1, depth_deeper, depth_caller, recursionLimit]); (try dsimp only [ktrTop]); (try simp only [recursionLimit]); omega))
  k_with "my ktr_room" => (k_room)
  k_with "my k_units" => (first | exact Nat.le_of_ble_eq_true rfl | ((have hcL9W9 := cLine_is); (try simp only [uuk, units_in1, units_deeper, Around.mark_units, units_caller]); (try dsimp only [ktrTop]); omega))
  k_with "my units_room" => (first | exact Nat.le_of_ble_eq_true rfl | ((have hcL9W9 := cLine_is); (try simp only [uuk, units_in1, units_deeper, Around.mark_units, units_caller]); (try dsimp only [ktrTop]); omega))
  k_with "my k_enter" => ((refine' code_def ?k1W9 ?k2W9 ?k3W9 ?k4W9 ?k5W9 ?kAW9 ?kFW9 ?kKW9 ?k6W9 ?k7W9 ?k8W9 ?k9W9 ?kBW9 ?_ ?c2W9 ?c3W9 ?c4W9 ?c5W9; (case kAW9 => exact rfl); (case kFW9 => exact rfl); (case kKW9 => first | exact rfl | assumption); (case k1W9 => k_asm); (case k2W9 => k_asm); (case k3W9 => k_asm); (case k4W9 => k_asm); (case k5W9 => k_asm); (case k6W9 => k_is); (case k7W9 => k_is); (case k8W9 => k_room); (case k9W9 => first | exact BindsTo.of_eq rfl | exact binds_K (by k_in) rfl (by k_is) rfl rfl rfl | fail "k_enter: no rule for these arguments"); (case c5W9 => decide); (case kBW9 => exact locs rfl); (case c2W9 => exact rfl); (case c3W9 => exact rfl); (case c4W9 => exact rfl); k_whole; intro g'W9 L'W9 h'W9 FG'W9 F'W9 N'W9 B'W9 X'W9 T'W9; (try dsimp only); (try k_lift B'W9); (try k_fold)))
  k_with "my getMethod ref" => ((k_here; (with_reducible show wpAny _ _ (getMethod (Value.ref _) (Str.ofString "sub") _) _ _ _); k_dflt (refine' meth_sub ?FW9 ?XW9 ?eW9 ?cW9 ?dW9 ?_; (case FW9 => k_asm); (case XW9 => k_asm); (case eW9 => k_is); (case cW9 => exact rfl); (case dW9 => exact rfl); k_whole)))
  k_with "my call builtin:re.Pattern.sub" => ((k_here; k_dflt (first
    | (refine' sub54_K ?FW9 ?XW9 ?NW9 ?xW9 ?_; (case FW9 => k_asm); (case XW9 => k_asm); (case NW9 => k_asm); (case xW9 => first | exact nl_fits (by assumption) | omega); k_whole; intro t'W9 h'W9 tk'W9 F'W9 N'W9; (try k_sweep))
    | (refine' sub49_K ?FW9 ?XW9 ?NW9 ?xW9 ?_; (case FW9 => k_asm); (case XW9 => k_asm); (case NW9 => k_asm); (case xW9 => first | exact nl_fits (by assumption) | omega); k_whole; intro t'W9 h'W9 tk'W9 F'W9 N'W9; (try k_sweep)))))
  k_with "my call ref" => ((k_here; (with_reducible show wpAny _ _ (call (Value.ref 763) [Value.str _ _]) _ _ _); k_dflt (refine' search_K ?FW9 ?XW9 ?NW9 ?xW9 ?jW9 ?uW9 ?_; (case FW9 => k_asm); (case XW9 => k_asm); (case NW9 => k_asm); (case xW9 => omega); (case jW9 => assumption); (case uW9 => assumption); k_whole; intro a'W9 h'W9 F'W9 N'W9; (try k_sweep))))
  k_with "my kt_len" => (with_reducible assumption)
  k_with "my truthy str" => ((k_here; (with_reducible show wpAny _ _ (PySem.truthy (Value.str _ _)) _ _ _); (refine' KXt.truthy_pos (K := 16777216) ?kxtaW9 ?kxtbW9 (Nat.le_refl _) ?_; (case kxtaW9 => with_reducible assumption); (case kxtbW9 => omega)); intro _))
  k_with "my callWith ref" => ((k_here; (with_reducible show wpAny _ _ (callWith _ (Value.ref 763) _ _ _) _ _ _); k_dflt (refine' callWith_763 ?k1W9 ?_; (case k1W9 => k_asm); k_whole)))
  k_with "my call builtin:str.replace" => ((k_here; (with_reducible show wpAny _ _ (call (Value.builtin "str.replace") [Value.str _ _, Value.str (Str.ofString "'") _, Value.str _ _]) _ _ _); k_dflt ((refine' replaceQ ?aW9 ?bW9 ?cW9 ?dW9 ?_; (case aW9 => k_ne); (case bW9 => k_ne); (case cW9 => k_ne); (case dW9 => first | with_reducible assumption | omega); k_whole; intro t'W9 k'W9 len'W9))))
  k_with "my k_memK" => (first | assumption | (refine need_app ?_; k_memK) | (refine need_cons ?_; k_memK))
  k_with "my subscriptTail" => ((k_here; (with_reducible show wpAny _ _ (subscriptTail _ _ (Value.ref (TreeAt.t _)) (Value.int (Nat.cast _) _)) _ _ _); k_dflt ((refine' tree_item ?NW9 ?TW9 ?kW9 ?_; (case NW9 => k_asm); (case TW9 => k_memK); (case kW9 => omega); k_whole; intro hm'W9))))
  k_with "my call ref" => ((k_here; (with_reducible show wpAny _ _ (call (Value.ref 770) [Value.str (TreeAt.lab _ _) _]) _ _ _); k_dflt ((refine' pure_use (qt_lab _ _ ?OW9 _ ?kW9 _) ?BW9 ?FW9 ?XW9 ?NW9 ?TW9 ?kkW9 ?hdW9 ?huW9 ?_; (case OW9 => assumption); (case kW9 => omega); (case BW9 => k_asm); (case FW9 => k_asm); (case XW9 => k_asm); (case NW9 => k_asm); (case TW9 => k_asm); (case kkW9 => first | exact rfl | assumption); (case hdW9 => k_room); (case huW9 => k_units); k_whole; intro r'W9 h'W9 tk'W9 F'W9 N'W9 ht'W9; obtain ⟨t'W9, e'W9⟩ := ht'W9; subst e'W9; (try k_sweep)))))
  k_with "my call ref" => ((k_here; (with_reducible show wpAny _ _ (call (Value.ref 61) [Value.str (Str.mk (List.toArray _)) _]) _ _ _); k_dflt ((refine' pure_use (qd_mk _ _ _ ?xW9) ?BW9 ?FW9 ?XW9 ?NW9 ?TW9 ?kkW9 ?hdW9 ?huW9 ?_; (case xW9 => first | omega | exact size_out (by assumption) (by omega)); (case BW9 => k_asm); (case FW9 => k_asm); (case XW9 => k_asm); (case NW9 => k_asm); (case TW9 => k_asm); (case kkW9 => first | exact rfl | assumption); (case hdW9 => k_room); (case huW9 => k_units); k_whole; intro r'W9 h'W9 tk'W9 F'W9 N'W9 ht'W9; obtain ⟨t'W9, e'W9⟩ := ht'W9; subst e'W9; (try k_sweep)))))
  k_with "my kt_len" => (first | exact len_out (by assumption) (by omega) | exact len_quoted (by assumption) (by omega) | exact TreeAt.Ok.eol (by assumption) _ (by omega) | exact TreeAt.part_len (by assumption) (by omega) (by omega) | ((with_reducible refine' len_qd ?qqW9); (case qqW9 => kt_len)))
  k_with "my call builtin:len" => ((k_here; (with_reducible show wpAny _ _ (call (Value.builtin "len") [Value.ref (TreeAt.t _)]) _ _ _); k_dflt ((refine' tree_len ?NW9 ?TW9 ?_; (case NW9 => k_asm); (case TW9 => k_memK); k_whole; intro t'W9 k'W9))))
  k_with "my call ref" => ((k_here; (with_reducible show wpAny _ _ (call (Value.ref 782) [Value.ref _, Value.int (Nat.cast _) _]) _ _ _); (with_reducible rename ∀ k, _ < k → k < 5 → Outline _ _ k => ihOW9); k_dflt ((refine' reads_use (ihOW9 _ ?aW9 ?bW9 _) ?BW9 ?FW9 ?XW9 ?NW9 ?TW9 ?kkW9 ?hdW9 ?huW9 ?hnW9 ?_; (case aW9 => omega); (case bW9 => omega); (case BW9 => k_asm); (case FW9 => k_asm); (case XW9 => k_asm); (case NW9 => k_asm); (case TW9 => k_asm); (case kkW9 => first | exact rfl | assumption); (case hdW9 => k_room); (case huW9 => k_units); (case hnW9 => k_memK); k_whole; intro r'W9 h'W9 tk'W9 F'W9 N'W9 ht'W9; obtain ⟨t'W9, e'W9⟩ := ht'W9; subst e'W9; (try k_sweep)))))
  k_with "my inplaceOp Add str str" => ((k_here; (with_reducible show wpAny _ _ (inplaceOp Operator.Add (Value.str _ _) (Value.str _ _)) _ _ _); (refine' iaddK ?kxaaW9 ?kxabW9 ?kxacW9 ?_; (case kxaaW9 => kt_len); (case kxabW9 => kt_len); (case kxacW9 => exact Nat.le_of_ble_eq_true rfl)); intro _ _ _))
  k_with "my k_enter" => ((kp_kind "both"; (fail_if_success k_inElt); (refine' kp_both ?k1W9 ?k2W9 ?k3W9 ?k4W9 ?k5W9 ?kAW9 ?kFW9 ?kKW9 ?k6W9 ?k7W9 ?k8W9 ?kVW9 ?kXW9 ?kQW9 ?kMW9 ?kNW9 ?kDW9 ?kRW9 ?kPW9 ?kSW9 ?kTW9 ?kBW9 ?_ ?c2W9 ?c3W9 ?c4W9 ?c5W9; (case kAW9 => exact rfl); (case kFW9 => exact rfl); (case kKW9 => first | exact rfl | assumption); (case k1W9 => k_asm); (case k2W9 => k_asm); (case k3W9 => k_asm); (case k4W9 => k_asm); (case k5W9 => k_asm); (case k6W9 => k_is); (case k7W9 => k_is); (case k8W9 => k_room); (case kVW9 => kp_lit); (case kXW9 => kp_lit); (case kQW9 => exact rfl); (case kMW9 => exact rfl); (case kNW9 => exact rfl); (case kDW9 => kp_flats); (case kRW9 => exact rfl); (case kPW9 => exact rfl); (case kSW9 => exact fun _ => rfl); (case kTW9 => exact fun _ _ => rfl); (case kBW9 => exact fun _ _ => locs rfl); (case c5W9 => decide); (case c2W9 => exact rfl); (case c3W9 => exact rfl); (case c4W9 => exact rfl); k_whole; intro C'W9 D'W9 o'W9 g'W9 L'W9 h'W9 tk'W9 l1W9 l2W9 lo'W9 hs'W9 fs'W9 FG'W9 F'W9 N'W9 B'W9 X'W9 T'W9; (try k_lt l1W9); (try k_lt2 l2W9); (try dsimp only); (try k_lift B'W9); (try k_fold))))
  k_with "my call builtin:object.__new__" => ((k_here; k_dflt ((refine' new623_K ?FW9 ?XW9 ?NW9 ?_; (case FW9 => k_asm); (case XW9 => k_asm); (case NW9 => k_asm); k_whole; intro x'W9 d'W9 h'W9 F'W9 N'W9 l1W9 l2W9; (try k_lt l1W9); (try k_lt2 l2W9); (try k_sweep)))))
  k_with "my k_all" => (first | exact allNe (by assumption) | exact allNe' (by assumption) | exact allNeT (by assumption) (by first | assumption | omega))
  trivial

/-- a step of the reader, by the function handed to reduce -/
noncomputable def StepL (w : World) (ℓ : LexA) (buf : List Nat) (f : Addr) (fo : List (Addr × Obj)) (c : LexC) (tok : List Nat) (rows : List Row) (d : Nat) (S : List (Nat × Nat)) (rows' : List Row) (d' : Nat) (S' : List (Nat × Nat)) : Prop :=
  ∀ tl, AtAny w 430 4300 fun A h₀ L m news s => ∀ (v : Value) (base rest : List (Addr × Obj)), news = lexObjs w ℓ buf c ++ (fo ++ rest) → (∀ q ∈ base, q ∈ rest) → DatIn base v (readD rows d S) → ∀ Q E : Value → Shared → Prop,
    (∀ v' own h' tk', Fr h₀ L h' m → News h₀ L h' (own ++ (lexObjs w ℓ buf c ++ (fo ++ rest))) → OwnOff own (adrs (lexObjs w ℓ buf c ++ (fo ++ rest))) → DatIn (own ++ base) v' (readD rows' d' S') → Q v' { s with heap := h', toks := tk' }) →
    wpAny (model PySem.Challenge.rw_oy0315_01.row.prog w) A (call (.ref f) [v, .str (mk tok) tl]) Q E s
/-- a contract for a call out of a function that nobody in the program has called -/
noncomputable def AtTop (w : World) (D U : Nat) (G : (A : Around) → (h₀ : Heap) → (L : Addr) → (m : Str → Option Value) → (news : List (Addr × Obj)) → (s : Shared) → Prop) : Prop :=
  ∀ (dp un : Nat) (p : Program) (loose : List Str) (mean : ExcName → Option Value) (mg mb : Str → Option Value) (news : List (Addr × Obj)) (gd : Option (List Code)) (cn : Str) (cs : Scope) (a : Addr) (ccd : Value) (cl : List (Str × Addr)) (outer : List Env) (A₀ : Around) (h₀ : Heap) (L : Addr) (m : Str → Option Value) (s : Shared),
    dp ≤ D → un ≤ U → Below A₀ h₀ outer h₀ → Fr h₀ L s.heap m → (hd.heap_1 w.params).In h₀ → News h₀ L s.heap news → Top p loose mean mg mb h₀ → cs.kind = .function →
    G (ktrTop dp un gd cn cs L a ccd cl outer) h₀ L m news s
theorem top_use {w : World} {D U dp un : Nat} {G : (A : Around) → (h₀ : Heap) → (L : Addr) → (m : Str → Option Value) → (news : List (Addr × Obj)) → (s : Shared) → Prop} {p : Program} {loose : List Str} {mean : ExcName → Option Value} {mg mb : Str → Option Value} {news : List (Addr × Obj)} {gd : Option (List Code)} {cn : Str} {cs : Scope} {L a : Addr} {ccd : Value} {cl : List (Str × Addr)} {outer : List Env} {A₀ : Around} {h₀ : Heap} {m : Str → Option Value} {s : Shared}
    (C : AtTop w D U G) (hd : dp ≤ D) (hu : un ≤ U) (B : Below A₀ h₀ outer h₀) (F : Fr h₀ L s.heap m) (X : (OyMine.hd.heap_1 w.params).In h₀) (N : News h₀ L s.heap news) (T : Top p loose mean mg mb h₀) (hk : cs.kind = .function) : G (ktrTop dp un gd cn cs L a ccd cl outer) h₀ L m news s :=
  C _ _ _ _ _ _ _ _ _ _ _ _ _ _ _ _ _ _ _ _ hd hu B F X N T hk
section
variable {prog : Program} {w : World} {A₀ A : Around} {s : Shared} {base h₀ : Heap} {outer : List Env} {L : Addr} {m : Str → Option Value} {env : Env} {news : List (Addr × Obj)}
theorem code_defU {K : Frag} {p : Program} {loose : List Str} {mean : ExcName → Option Value} {mg mb : Str → Option Value} {R : Result → Shared → Prop} {name qual : Str} {params : Arguments} {body : List Stmt} {scope : Scope} {dV kV doc pm cdv ct oc : Value} {an od : Option Addr} {osl : Array (Option Value)} {f : Addr} {args : Args} {binds : List (Str × Value)}
    (B : Below A₀ base outer h₀) (F : Fr h₀ L s.heap m) (X₀ : K.In h₀) (N : News h₀ L s.heap news) (T : Top p loose mean mg mb h₀) (hA : A.frames = some (env :: outer)) (hf : env.frame = some L) (hke : env.scope.kind = .function)
    (ho : K.lookup f = some ⟨oc, od, .func (fnOf name qual params body scope dV kV doc pm an cdv ct), osl⟩) (hcd : codeIn K cdv qual = true) (hroom : A.depth < recursionLimit)
    (hbind : BindsTo s (fnOf name qual params body scope dV kV doc pm an cdv ct) args binds) (hloc : ∀ y ∈ binds, scope.names.lookup y.1 = some .local)
    (h : ∀ g L' h₁, Fr h₀ L g m → Fr g L' h₁ (fun y => binds.reverse.lookup y) → News g L' h₁ news → Below A base (env :: outer) g → K.In g → Top p loose mean mg mb g →
      wpAny (model prog w) (A.deeper (envOf qual scope L' f cdv)) (execs body (envOf qual scope L' f cdv))
        (fun fl s' => R (.ok (.ret (match fl with | .ret v => v | _ => .none))) s')
        (fun e s' => wpAny (model prog w) (A.deeper (envOf qual scope L' f cdv)) (leaving (envOf qual scope L' f cdv) e) (fun _ s'' => R (.error e) s'') (fun e' s'' => R (.error e') s'') s')
        { s with heap := h₁, toks := s.toks + binds.length })
    (hco : scope.isCoroutine = false) (hgen : scope.isGenerator = false) (hk : scope.kind = .function)
    (hcell : ∀ x ∈ scope.names, x.2 ≠ .cell) : codeAny (model prog w) A (.call (.ref f) args) R s := by
  obtain ⟨FG, BG, st, lv⟩ := groundX (R := R) B F N hA hf hke
  refine codeAny_call_def (fd := fnX name qual params body scope [] dV kV doc pm an cdv ct) (body := body) (binds := binds) hroom ((X₀.keeps F.keep) _ _ ho) rfl (T.nolimit.keeps F.keep) (codeRec_of (X₀.keeps F.keep) hcd) rfl hbind hcell hloc (fun h₁ hns hk₁ => ?_) hco hgen hk
  exact wpAny_mono (h _ s.heap.objs.size h₁ FG ⟨hns, fun b o e => hk₁ b o (of_hideAll _ e), Nat.le_of_eq (hideAll_size _ _)⟩
    (fun p hp => ⟨hk₁ _ _ (N p hp).1, Nat.ne_of_lt (Heap.lt_size (N p hp).1), hideAll_none _ (List.mem_map_of_mem hp)⟩) BG (X₀.keeps st) (T.keeps st)) (fun fl s' hl => hl) fun _ _ y => y
end
/-- the frame, seen from the bottom -/
theorem fr_base {h₀ g h : Heap} {L L' : Addr} {m m' : Str → Option Value} (F : Fr h₀ L g m) (F' : Fr g L' h m') : Fr h₀ L' h m' :=
  ⟨F'.ns, fun b o e => F'.keep b o (F.keep b o e), Nat.le_trans F.above (Nat.le_trans (Nat.le_of_lt F.ns.lt) F'.above)⟩
theorem fr_after {h₀ g g' h : Heap} {L L' : Addr} {m m' m'' : Str → Option Value} (F : Fr h₀ L g m) (F' : Fr g L' g' m') (U : g'.UpToSlots h) (F7 : Fr h₀ L' h m'') : Fr h₀ L h m :=
  F.of_stays (fun b o e => F7.keep b o e) ((Heap.UpToSlots.of_keeps F'.keep).trans U)
theorem ne_after {h₀ g h9 : Heap} {L L9 : Addr} {m : Str → Option Value} {n9 : List (Addr × Obj)} (F : Fr h₀ L g m) (N : News g L9 h9 n9) : ∀ q ∈ n9, q.1 ≠ L := fun q hq e => by
  have := (N q hq).2.2
  rw [e] at this
  obtain ⟨o, _, _, ho, _⟩ := F.ns
  rw [ho] at this
  cases this
theorem news_after {h₀ h : Heap} {L L' : Addr} {news : List (Addr × Obj)} (hn : ∀ q ∈ news, q.1 ≠ L) (N7 : News h₀ L' h news) : News h₀ L h news := fun p hp => ⟨(N7 p hp).1, hn p hp, (N7 p hp).2.2⟩
theorem lex_ne {w : World} {ℓ : LexA} {buf : List Nat} {c c' : LexC} {X : List (Addr × Obj)} {L : Addr} (h : ∀ q ∈ lexObjs w ℓ buf c ++ X, q.1 ≠ L) : ∀ q ∈ lexObjs w ℓ buf c' ++ X, q.1 ≠ L := fun q hq => by
  rcases List.mem_append.mp hq with hq | hq
  · have key : ∀ b ∈ adrs (lexObjs w ℓ buf c), b ≠ L := fun b hb => by
      obtain ⟨p, hp, rfl⟩ := List.mem_map.mp hb
      exact h p (List.mem_append_left _ hp)
    refine key q.1 ?_
    have : q.1 ∈ adrs (lexObjs w ℓ buf c') := List.mem_map_of_mem hq
    exact this
  · exact h q (List.mem_append_right _ hq)
/-- the state of the loop that reads the lexer -/
noncomputable def LexInv2 (w : World) (ℓ : LexA) (buf : List Nat) (h₀ : Heap) (L : Addr) (m₀ : Str → Option Value) (fo : List (Addr × Obj)) (Y0 : List (Addr × Obj)) (s0 : Shared) (rows : List Row) (d : Nat) (S : List (Nat × Nat)) (c : LexC) (s : Shared) : Prop :=
  ∃ (v : Value) (base Y : List (Addr × Obj)) (u : Str → Option Value) (h : Heap) (tk : Nat), s = { s0 with heap := h, toks := tk } ∧ Fr h₀ L h (fun z => if z = Str.ofString "element" then u z else if z = Str.ofString "value" then some v else m₀ z) ∧ News h₀ L h (lexObjs w ℓ buf c ++ (fo ++ Y)) ∧ OwnOff (fo ++ Y) ℓ.adr ∧ (∀ x ∈ base, x ∈ Y) ∧ (∀ x ∈ Y0, x ∈ Y) ∧ DatIn base v (readD rows d S)
theorem words_Red_2 : True := by
  k_with "my call builtin:iter" => ((k_here; (with_reducible show wpAny _ _ (call _ [Value.ref (LexA.x _)]) _ _ _); k_dflt ((refine' iter_inst (owit_iter ?FW9 ?XW9 ?IW9 ?hsW9 ?hfW9 ?_); (case FW9 => k_asm); (case XW9 => k_asm); (case IW9 => k_inst); (case hsW9 => k_is); (case hfW9 => k_is); k_whole))))
  k_with "my OwitRest" => ((refine stop2_of ?_))
  trivial

theorem is_refR {M : Model} {A : Around} {Q E : Value → Shared → Prop} {s : Shared} {x y : Addr} {ox oy : Obj} (hx : s.heap.get? x = some ox) (hy : s.heap.get? y = some oy) (hxy : x ≠ y) (hnt : oy.cls ≠ .type "tuple")
    (h : Q (.bool false) s) : wpAny M A (compareOp .Is (.ref x) (.ref y)) Q E s := by
  show wpAny M A (do return .bool (← isSame (.ref x) (.ref y))) Q E s
  exact wpAny_bind (PySem.SeqAt.wpAny_isSame_ref_other' hxy hx hy hnt (wpAny_pure h))
theorem fr_shape0 {h₀ h : Heap} {L : Addr} {m : Str → Option Value} {v : Value} (hv : m (Str.ofString "value") = some v) (F : Fr h₀ L h m) : Fr h₀ L h (fun z => if z = Str.ofString "element" then m z else if z = Str.ofString "value" then some v else m z) := by
  have e : (fun z => if z = Str.ofString "element" then m z else if z = Str.ofString "value" then some v else m z) = m := by
    funext z
    by_cases h1 : z = Str.ofString "element"
    · rw [if_pos h1]
    · rw [if_neg h1]
      by_cases h2 : z = Str.ofString "value"
      · rw [if_pos h2, h2, hv]
      · rw [if_neg h2]
  rw [e]
  exact F
theorem fr_shape {h₀ h : Heap} {L : Addr} {m m₀ : Str → Option Value} {v : Value} (hv : m (Str.ofString "value") = some v) (he : ∀ z, z ≠ Str.ofString "element" → z ≠ Str.ofString "value" → m z = m₀ z) (F : Fr h₀ L h m) : Fr h₀ L h (fun z => if z = Str.ofString "element" then m z else if z = Str.ofString "value" then some v else m₀ z) := by
  have e : (fun z => if z = Str.ofString "element" then m z else if z = Str.ofString "value" then some v else m₀ z) = m := by
    funext z
    by_cases h1 : z = Str.ofString "element"
    · rw [if_pos h1]
    · rw [if_neg h1]
      by_cases h2 : z = Str.ofString "value"
      · rw [if_pos h2, h2, hv]
      · rw [if_neg h2, he z h1 h2]
  rw [e]
  exact F
theorem news_own {g h : Heap} {L : Addr} {A own fo Y : List (Addr × Obj)} (N : News g L h (own ++ (A ++ (fo ++ Y)))) : News g L h (A ++ (fo ++ (own ++ Y))) := fun p hp => N p (by
  simp only [List.mem_append] at hp ⊢
  rcases hp with h | h | h | h <;> simp [h])
theorem off_own {w : World} {ℓ : LexA} {buf : List Nat} {c : LexC} {own fo Y : List (Addr × Obj)} (h1 : OwnOff (fo ++ Y) ℓ.adr) (h2 : OwnOff own (adrs (lexObjs w ℓ buf c ++ (fo ++ Y)))) : OwnOff (fo ++ (own ++ Y)) ℓ.adr := fun p hp b hb => by
  rcases List.mem_append.mp hp with hp | hp
  · exact h1 p (List.mem_append_left _ hp) b hb
  · rcases List.mem_append.mp hp with hp | hp
    · exact h2 p hp b (show b ∈ ℓ.adr ++ adrs (fo ++ Y) from List.mem_append_left _ hb)
    · exact h1 p (List.mem_append_right _ hp) b hb
theorem all_rest {p x1 x2 x3 x4 x5 x6 x7 : Addr × Obj} {fo Y : List (Addr × Obj)} (h : p ∈ Y) : p ∈ x1 :: x2 :: x3 :: x4 :: x5 :: x6 :: x7 :: (fo ++ Y) := by
  repeat refine List.mem_cons_of_mem _ ?_
  exact List.mem_append_right _ h
theorem words_Red_3 : True := by
  k_with "my call ref" => ((k_here; (with_reducible show wpAny _ _ (call (Value.ref _) [_, Value.str (mk _) _]) _ _ _); refine stop2_of ?_))
  k_with "my call ref" => ((k_here; (try with_reducible refine call_nil ?_); (try dsimp only); (with_reducible show wpAny _ _ (call (Value.ref 719) [Value.ref _]) _ _ _); (with_reducible rename LexCall _ _ _ 719 _ _ _ _ _ => hC9W9); (with_reducible rename OwnOff _ _ => hO9W9); k_dflt ((refine' at_use hC9W9 ?hdW9 ?huW9 ?BW9 ?FW9 ?XW9 ?NW9 ?TW9 ?kkW9 _ hO9W9 rfl _ _ ?_; (case BW9 => k_asm); (case FW9 => k_asm); (case XW9 => k_asm); (case NW9 => k_asm); (case TW9 => k_asm); (case kkW9 => first | exact rfl | assumption); (case hdW9 => k_room); (case huW9 => k_units); k_whole; intro r'W9 c'W9 h'W9 tk'W9 F'W9 N'W9 hR'W9; obtain ⟨er'W9, sv'W9, tok'W9, tt'W9, line'W9, tl'W9, pos'W9, tp'W9, pn'W9, ec'W9⟩ := hR'W9; subst er'W9; subst ec'W9; simp only [List.cons_append, List.nil_append] at N'W9; (try k_sweep)))))
  trivial

noncomputable def FnOk (f : Addr) (fo : List (Addr × Obj)) : Prop := ∀ g L h x1 x2 x3 x4 x5 x6 x7 Y, News g L h (x1 :: x2 :: x3 :: x4 :: x5 :: x6 :: x7 :: (fo ++ Y)) → FnAt f h
theorem words_Red_4 : True := by
  k_with "my callWith ref" => ((k_here; (with_reducible rename FnOk _ _ => hfn9W9); k_dflt ((refine' callWith_F ?k1W9 ?_; (case k1W9 => exact hfn9W9 _ _ _ _ _ _ _ _ _ _ _ (by k_asm)); k_whole))))
  k_with "my FnAt" => (((with_reducible rename FnOk _ _ => hfn9W9); k_dflt ((exact hfn9W9 _ _ _ _ _ _ _ _ _ _ _ (by k_asm)))))
  trivial

set_option maxHeartbeats 8000000 in
theorem red_ok (w : World) (ℓ : LexA) (ok : ℓ.Ok) (buf : List Nat) (hb9 : (mk buf).length ≤ 1000000) (c : LexC) (f D' : Addr) (fo : List (Addr × Obj)) (hD9 : D' ≠ (62 : Addr)) (final : List Row) (r : Row) (rs : List Row) (hfn : FnOk f fo)
    (hstep : ∀ c tok rows d S rows' d' S', StepC w ℓ buf c tok rows d S rows' d' S' → StepL w ℓ buf f fo c tok rows d S rows' d' S')
    (hc9 : Rest 1 0 false c) (hbuf : buf = flat (r :: rs)) (hr0 : r.dots = 0) (hl : 32 ∈ r.lab ∧ r.lab.length ≤ 800) (hline : r.line = 1 + r.lab.count 10) (ht : Told r.line rs) (hn : rs.length ≤ 20) (hf : ((r :: rs).foldl back ([], [])).1 = final) :
    AtTop w 420 4200 fun A h₀ L m news s => ∀ (base Y0 : List (Addr × Obj)), news = lexObjs w ℓ buf c ++ (fo ++ Y0) → OwnOff (fo ++ Y0) ℓ.adr → (∀ q ∈ base, q ∈ Y0) → DatIn base (.ref D') (readD [] 0 []) → ∀ Q E : Value → Shared → Prop,
      (∀ v' S c' base' Y h' tk', Fr h₀ L h' m → News h₀ L h' (lexObjs w ℓ buf c' ++ (fo ++ Y)) → (∀ x ∈ base', x ∈ Y) → (∀ x ∈ Y0, x ∈ Y) → DatIn base' v' (readD final 0 S) → Q v' { s with heap := h', toks := tk' }) →
      wpAny (model PySem.Challenge.rw_oy0315_01.row.prog w) A (call (.ref 70) [.ref f, .ref ℓ.x, .ref D']) Q E s := by
  w_strict (
  unfold AtTop
  k_fill
  intro dp un p loose mean mg mb news gd cn cs a ccd cl outer A₀ h₀ L m s hdp hun B F X N T hk base Y0 en off9 hb hR Q E hret
  subst en
  have ok9 := ok
  have ok9 := ok
  obtain ⟨o1, o2, o3, o4, o5, o6⟩ := ok
  obtain ⟨vt, ra, sa, td, n, n1, n2, rvs, svs, eD, hm0, hm1, hm2, hD1, hD2⟩ := read_open hR
  obtain rfl := Value.ref.inj eD
  have hm0' := hb _ hm0
  obtain ⟨sv, tok, tt, line, tl', pos, tp, pn, pushed⟩ := c
  simp only [List.cons_append, List.nil_append] at N
  refine wpAny_call ?_
  k_dflt (refine' code_defU ?k1 ?k2 ?k3 ?k4 ?k5 ?kA ?kF ?kK ?k6 ?k7 ?k8 ?k9 ?kB ?_ ?c2 ?c3 ?c4 ?c5; (case kA => exact rfl); (case kF => exact rfl); (case kK => first | exact rfl | assumption); (case k1 => k_asm); (case k2 => k_asm); (case k3 => k_asm); (case k4 => k_asm); (case k5 => k_asm); (case k6 => k_is); (case k7 => k_is); (case k8 => k_room); (case k9 => first | exact BindsTo.of_eq rfl | exact binds_K (by k_in) rfl (by k_is) rfl rfl rfl); (case c5 => decide); (case kB => exact locs rfl); (case c2 => exact rfl); (case c3 => exact rfl); (case c4 => exact rfl); k_whole; intro g0 L0 h0' FG0 F' N' B' X' T'; (try dsimp only); (try k_lift B'); (try k_fold))
  have FL0 := F'
  have NL0 := N'
  k_steps
  rename News _ _ _ _ => kN9
  rename (hd.heap_1 w.params).In _ => kX9
  rename Fr _ _ _ _ => kF9
  k_here
  k_dflt (refine' is_refR (kto_N kN9 (all_rest hm0')) (kto_K (kX9.keeps kF9.keep) ?l) ?n ?t ?_)
  case l => k_is
  case n => exact hD9
  case t => (intro z; exact absurd (Value.type.inj z) (by decide))
  k_steps
  unfold Stop2
  rename Fr _ _ _ _ => kF8
  rename News _ _ _ _ => kN8
  refine lex_start (w := w) ok9 hb9 (LexInv2 w ℓ buf _ _ _ fo Y0 _) final ?turn ?fin r rs ⟨sv, tok, tt, line, tl', pos, tp, pn, pushed⟩ _ hc9 hbuf hr0 hl hline ht hn hf ⟨.ref D', base, Y0, _, _, _, rfl, fr_shape0 (by rfl) kF8, kN8, off9, hb, fun x h => h, hR⟩
  case turn =>
    clear kF8 kN8 hc9 hR hm0 hm1 hm2 hD1 hD2
    intro n9 tok9 rows9 d9 S9 rows' d' S' c9 line9 pos9 b9 s9 C1 C2 hi hor
    obtain ⟨v9, base9, Y, u9, h9, tk9, rfl, Fi, Ni, offi, hbi, hyi, hRi⟩ := hi
    obtain ⟨sv, tok, tt, line, tl', pos, tp, pn, pushed⟩ := c9
    have Ni2 := Ni
    simp only [List.cons_append, List.nil_append] at Ni
    refine OwitRest.succ ?_
    k_here
    k_dflt (refine' owit_next Fi ?X ?I ?hs ?hf ?_)
    case X => k_asm
    case I => k_inst
    case hs => k_is
    case hf => k_is
    k_whole
    refine' at_use C1 ?hd ?hu ?B ?F ?X ?N ?T ?kk _ offi rfl _ _ ?_
    case B => k_asm
    case F => k_asm
    case X => k_asm
    case N => exact Ni2
    case T => k_asm
    case kk => first | exact rfl | assumption
    case hd => k_room
    case hu => k_units
    intro r8 c8 h8 tk8 F8 N8 hR8
    obtain ⟨⟨t8, er⟩, hrest8⟩ := hR8
    subst er
    k_steps
    unfold Stop2
    refine' at_use (hstep _ _ _ _ _ _ _ _ (C2 c8 hrest8) _) ?hd ?hu ?B ?F ?X ?N ?T ?kk _ base9 Y rfl hbi hRi _ _ ?_
    case B => k_asm
    case F => k_asm
    case X => k_asm
    case N => k_asm
    case T => k_asm
    case kk => first | exact rfl | assumption
    case hd => k_room
    case hu => k_units
    intro v7 own7 h7 tk7 F7 N7 off7 hR7
    have N6 := news_own N7
    have off6 := off_own offi off7
    clear N7 off7
    try clear F8
    try clear N8
    try clear Fi
    try clear Ni
    try clear Ni2
    obtain ⟨sv8, tok8, tt8, line8, tl8, pos8, tp8, pn8, pushed8⟩ := c8
    have N5 := N6
    simp only [List.cons_append, List.nil_append] at N5
    clear N6
    k_steps
    unfold Stop2
    rename Fr _ _ _ _ => kF7
    rename News _ _ _ _ => kN7
    refine hor ⟨sv8, tok8, tt8, line8, tl8, pos8, tp8, pn8, pushed8⟩ _ hrest8 ⟨v7, own7 ++ base9, own7 ++ Y, _, _, _, rfl, fr_shape ?hv ?he kF7, kN7, off6, ?hb, fun x hx => List.mem_append_right _ (hyi x hx), hR7⟩
    case hv => rfl
    case he =>
      intro z h1 h2
      simp only [if_neg h1, if_neg h2]
    case hb =>
      intro x hx
      rcases List.mem_append.mp hx with hx | hx
      · exact List.mem_append_left _ hx
      · exact List.mem_append_right _ (hbi x hx)
  case fin =>
    clear kF8 kN8 hc9 hR hm0 hm1 hm2 hD1 hD2
    intro n9 S9 c9 s9 C1 hi
    obtain ⟨v9, base9, Y, u9, h9, tk9, rfl, Fi, Ni, offi, hbi, hyi, hRi⟩ := hi
    obtain ⟨sv, tok, tt, line, tl', pos, tp, pn, pushed⟩ := c9
    have Ni2 := Ni
    have hne9 := ne_after FG0 Ni2
    simp only [List.cons_append, List.nil_append] at Ni
    refine OwitRest.succ ?_
    k_here
    k_dflt (refine' owit_next Fi ?X ?I ?hs ?hf ?_)
    case X => k_asm
    case I => k_inst
    case hs => k_is
    case hf => k_is
    k_whole
    k_steps
    rename RaisedK _ _ _ _ _ _ _ _ => rkX
    rename Heap.UpToSlots _ _ => uX
    refine' owit_stop rkX uX (fr_base FG0 ?F) ?s ?_
    case F => assumption
    case s => rfl
    intro F7 N7
    dsimp only [OwitTurn]
    k_steps
    k_dflt (refine' hret v9 S9 ⟨_, _, _, _, _, _, _, _, _⟩ base9 Y _ _ (fr_after FG0 ?F9 uX F7) (news_after (lex_ne hne9) N7) hbi hyi hRi)
    case F9 => assumption)
end OyMine
end
section
open PySem PySem.W PyProof.Rows PySem.Builtin PySem.Builtin.Re
set_option maxRecDepth 100000
set_option genInjectivity false
set_option genSizeOf false
set_option genSizeOfSpec false
namespace OyMine
theorem words_Top_0 : True := by
  w_top off
  k_with_none
  k_with "my pick" => (with_reducible (first | with_reducible assumption | exact And.left (by with_reducible assumption) | exact And.left (And.right (by with_reducible assumption)) | exact And.left (And.right (And.right (by with_reducible assumption))) | exact And.left (And.right (And.right (And.right (by with_reducible assumption)))) | exact And.left (And.right (And.right (And.right (And.right (by with_reducible assumption))))) | exact And.left (And.right (And.right (And.right (And.right (And.right (by with_reducible assumption)))))) | exact And.left (And.right (And.right (And.right (And.right (And.right (And.right (by with_reducible assumption))))))) | exact And.left (And.right (And.right (And.right (And.right (And.right (And.right (And.right (by with_reducible assumption)))))))) | exact And.left (And.right (And.right (And.right (And.right (And.right (And.right (And.right (And.right (by with_reducible assumption))))))))) | exact And.left (And.right (And.right (And.right (And.right (And.right (And.right (And.right (And.right (And.right (by with_reducible assumption)))))))))) | exact And.left (And.right (And.right (And.right (And.right (And.right (And.right (And.right (And.right (And.right (And.right (by with_reducible assumption))))))))))) | exact And.left (And.right (And.right (And.right (And.right (And.right (And.right (And.right (And.right (And.right (And.right (And.right (by with_reducible assumption)))))))))))) | exact And.left (And.right (And.right (And.right (And.right (And.right (And.right (And.right (And.right (And.right (And.right (And.right (And.right (by with_reducible assumption))))))))))))) | exact And.left (And.right (And.right (And.right (And.right (And.right (And.right (And.right (And.right (And.right (And.right (And.right (And.right (And.right (by with_reducible assumption)))))))))))))) | exact And.left (And.right (And.right (And.right (And.right (And.right (And.right (And.right (And.right (And.right (And.right (And.right (And.right (And.right (And.right (by with_reducible assumption))))))))))))))) | exact And.left (And.right (And.right (And.right (And.right (And.right (And.right (And.right (And.right (And.right (And.right (And.right (And.right (And.right (And.right (And.right (by with_reducible assumption)))))))))))))))) | exact And.left (And.right (And.right (And.right (And.right (And.right (And.right (And.right (And.right (And.right (And.right (And.right (And.right (And.right (And.right (And.right (And.right (by with_reducible assumption))))))))))))))))) | exact And.left (And.right (And.right (And.right (And.right (And.right (And.right (And.right (And.right (And.right (And.right (And.right (And.right (And.right (And.right (And.right (And.right (And.right (by with_reducible assumption)))))))))))))))))) | exact And.left (And.right (And.right (And.right (And.right (And.right (And.right (And.right (And.right (And.right (And.right (And.right (And.right (And.right (And.right (And.right (And.right (And.right (And.right (by with_reducible assumption))))))))))))))))))) | exact And.left (And.right (And.right (And.right (And.right (And.right (And.right (And.right (And.right (And.right (And.right (And.right (And.right (And.right (And.right (And.right (And.right (And.right (And.right (And.right (by with_reducible assumption)))))))))))))))))))) | exact And.left (And.right (And.right (And.right (And.right (And.right (And.right (And.right (And.right (And.right (And.right (And.right (And.right (And.right (And.right (And.right (And.right (And.right (And.right (And.right (And.right (by with_reducible assumption))))))))))))))))))))) | exact And.left (And.right (And.right (And.right (And.right (And.right (And.right (And.right (And.right (And.right (And.right (And.right (And.right (And.right (And.right (And.right (And.right (And.right (And.right (And.right (And.right (And.right (by with_reducible assumption)))))))))))))))))))))) | exact And.left (And.right (And.right (And.right (And.right (And.right (And.right (And.right (And.right (And.right (And.right (And.right (And.right (And.right (And.right (And.right (And.right (And.right (And.right (And.right (And.right (And.right (And.right (by with_reducible assumption))))))))))))))))))))))) | exact And.left (And.right (And.right (And.right (And.right (And.right (And.right (And.right (And.right (And.right (And.right (And.right (And.right (And.right (And.right (And.right (And.right (And.right (And.right (And.right (And.right (And.right (And.right (And.right (by with_reducible assumption)))))))))))))))))))))))) | exact And.left (And.right (And.right (And.right (And.right (And.right (And.right (And.right (And.right (And.right (And.right (And.right (And.right (And.right (And.right (And.right (And.right (And.right (And.right (And.right (And.right (And.right (And.right (And.right (And.right (by with_reducible assumption))))))))))))))))))))))))) | exact And.left (And.right (And.right (And.right (And.right (And.right (And.right (And.right (And.right (And.right (And.right (And.right (And.right (And.right (And.right (And.right (And.right (And.right (And.right (And.right (And.right (And.right (And.right (And.right (And.right (And.right (by with_reducible assumption)))))))))))))))))))))))))) | exact And.right (by with_reducible assumption) | exact And.right (And.right (by with_reducible assumption)) | exact And.right (And.right (And.right (by with_reducible assumption)))))
  k_with "my omega" => (first
    | exact Nat.ne_of_lt (by k_extra "my pick")
    | exact Nat.ne_of_gt (by k_extra "my pick")
    | k_extra "my pick"
    | fail "no")
  k_with "my omega" => (first
    | with_reducible assumption
    | with_reducible exact Nat.ne_of_lt (by assumption)
    | with_reducible exact Nat.ne_of_gt (by assumption)
    | decide
    | with_reducible exact Nat.le_refl _
    | with_reducible exact Nat.zero_le _
    | with_reducible exact Nat.le_add_right _ _
    | with_reducible exact Nat.le_add_left _ _
    | with_reducible exact Nat.lt_succ_self _
    | with_reducible exact Nat.le_succ _
    | with_reducible exact Nat.succ_pos _
    | with_reducible exact Nat.zero_add _
    | with_reducible exact q4
    | with_reducible exact q8
    | with_reducible exact Nat.le_of_lt (by assumption)
    | with_reducible exact Nat.le_of_succ_le (by assumption)
    | with_reducible exact Nat.le_of_succ_le_succ (by assumption)
    | with_reducible exact Nat.not_lt.mp (by assumption)
    | with_reducible exact Nat.lt_succ_of_le (by assumption)
    | with_reducible exact Nat.le_succ_of_le (by assumption)
    | with_reducible exact Nat.succ_le_of_lt (by assumption)
    | with_reducible exact q1 (by assumption)
    | with_reducible exact q2 (by assumption)
    | with_reducible exact q3 (by assumption)
    | with_reducible exact q5 (by assumption)
    | with_reducible exact q7 (by assumption)
    | with_reducible exact q6 (by assumption) (by assumption)
    | with_reducible exact absurd (by assumption) (Nat.not_lt.mpr (by assumption))
    | (with_reducible refine room_le (by assumption) ?_; with_unfolding_all rfl)
    | (with_reducible refine room_lt (by assumption) ?_; with_unfolding_all rfl)
    | (with_reducible refine room_le0 (by assumption) ?_; with_unfolding_all rfl)
    | ((fail_if_success (with_reducible show _ ≠ _)); (rename _ ∧ _ => cW9; clear cW9); (repeat (rename _ ∧ _ => cW9; clear cW9)); omega)
    | fail "no")
  k_with "my execs cons" => ((rename Shared => s); refine' execs_cons_n (g := Shared.gens s) (d := Shared.drawn s) (o := Shared.os s) ?gW9 ?dW9 ?oW9 ?_; (case gW9 => exact rfl); (case dW9 => exact rfl); (case oW9 => exact rfl); intro tkW9; (try k_fold))
  trivial
theorem words_Top_1 : True := by
  k_with "my k_room" => (first | exact Nat.le_of_ble_eq_true rfl | ((try simp only [duk, depth_under_make, depth_under_kw, depth_in1, depth_deeper, depth_caller, recursionLimit]); (try dsimp only [ktrTop]); (try simp only [recursionLimit]); omega))
  k_with "my ktr_room" => (k_room)
  k_with "my k_units" => (first | exact Nat.le_of_ble_eq_true rfl | ((have hcL9W9 := cLine_is); (try simp only [uuk, units_in1, units_deeper, Around.mark_units, units_caller]); (try dsimp only [ktrTop]); omega))
  k_with "my units_room" => (first | exact Nat.le_of_ble_eq_true rfl | ((have hcL9W9 := cLine_is); (try simp only [uuk, units_in1, units_deeper, Around.mark_units, units_caller]); (try dsimp only [ktrTop]); omega))
  k_with "my k_enter" => ((refine' code_def ?k1W9 ?k2W9 ?k3W9 ?k4W9 ?k5W9 ?kAW9 ?kFW9 ?kKW9 ?k6W9 ?k7W9 ?k8W9 ?k9W9 ?kBW9 ?_ ?c2W9 ?c3W9 ?c4W9 ?c5W9; (case kAW9 => exact rfl); (case kFW9 => exact rfl); (case kKW9 => first | exact rfl | assumption); (case k1W9 => k_asm); (case k2W9 => k_asm); (case k3W9 => k_asm); (case k4W9 => k_asm); (case k5W9 => k_asm); (case k6W9 => k_is); (case k7W9 => k_is); (case k8W9 => k_room); (case k9W9 => first | exact BindsTo.of_eq rfl | exact binds_K (by k_in) rfl (by k_is) rfl rfl rfl | fail "k_enter: no rule for these arguments"); (case c5W9 => decide); (case kBW9 => exact locs rfl); (case c2W9 => exact rfl); (case c3W9 => exact rfl); (case c4W9 => exact rfl); k_whole; intro g'W9 L'W9 h'W9 FG'W9 F'W9 N'W9 B'W9 X'W9 T'W9; (try dsimp only); (try k_lift B'W9); (try k_fold)))
  k_with "my getMethod ref" => ((k_here; (with_reducible show wpAny _ _ (getMethod (Value.ref _) (Str.ofString "sub") _) _ _ _); k_dflt (refine' meth_sub ?FW9 ?XW9 ?eW9 ?cW9 ?dW9 ?_; (case FW9 => k_asm); (case XW9 => k_asm); (case eW9 => k_is); (case cW9 => exact rfl); (case dW9 => exact rfl); k_whole)))
  k_with "my call builtin:re.Pattern.sub" => ((k_here; k_dflt (first
    | (refine' sub54_K ?FW9 ?XW9 ?NW9 ?xW9 ?_; (case FW9 => k_asm); (case XW9 => k_asm); (case NW9 => k_asm); (case xW9 => first | exact nl_fits (by assumption) | omega); k_whole; intro t'W9 h'W9 tk'W9 F'W9 N'W9; (try k_sweep))
    | (refine' sub49_K ?FW9 ?XW9 ?NW9 ?xW9 ?_; (case FW9 => k_asm); (case XW9 => k_asm); (case NW9 => k_asm); (case xW9 => first | exact nl_fits (by assumption) | omega); k_whole; intro t'W9 h'W9 tk'W9 F'W9 N'W9; (try k_sweep)))))
  k_with "my call ref" => ((k_here; (with_reducible show wpAny _ _ (call (Value.ref 763) [Value.str _ _]) _ _ _); k_dflt (refine' search_K ?FW9 ?XW9 ?NW9 ?xW9 ?jW9 ?uW9 ?_; (case FW9 => k_asm); (case XW9 => k_asm); (case NW9 => k_asm); (case xW9 => omega); (case jW9 => assumption); (case uW9 => assumption); k_whole; intro a'W9 h'W9 F'W9 N'W9; (try k_sweep))))
  k_with "my kt_len" => (with_reducible assumption)
  k_with "my truthy str" => ((k_here; (with_reducible show wpAny _ _ (PySem.truthy (Value.str _ _)) _ _ _); (refine' KXt.truthy_pos (K := 16777216) ?kxtaW9 ?kxtbW9 (Nat.le_refl _) ?_; (case kxtaW9 => with_reducible assumption); (case kxtbW9 => omega)); intro _))
  k_with "my callWith ref" => ((k_here; (with_reducible show wpAny _ _ (callWith _ (Value.ref 763) _ _ _) _ _ _); k_dflt (refine' callWith_763 ?k1W9 ?_; (case k1W9 => k_asm); k_whole)))
  k_with "my call builtin:str.replace" => ((k_here; (with_reducible show wpAny _ _ (call (Value.builtin "str.replace") [Value.str _ _, Value.str (Str.ofString "'") _, Value.str _ _]) _ _ _); k_dflt ((refine' replaceQ ?aW9 ?bW9 ?cW9 ?dW9 ?_; (case aW9 => k_ne); (case bW9 => k_ne); (case cW9 => k_ne); (case dW9 => first | with_reducible assumption | omega); k_whole; intro t'W9 k'W9 len'W9))))
  k_with "my k_memK" => (first | assumption | (refine need_app ?_; k_memK) | (refine need_cons ?_; k_memK))
  k_with "my subscriptTail" => ((k_here; (with_reducible show wpAny _ _ (subscriptTail _ _ (Value.ref (TreeAt.t _)) (Value.int (Nat.cast _) _)) _ _ _); k_dflt ((refine' tree_item ?NW9 ?TW9 ?kW9 ?_; (case NW9 => k_asm); (case TW9 => k_memK); (case kW9 => omega); k_whole; intro hm'W9))))
  k_with "my call ref" => ((k_here; (with_reducible show wpAny _ _ (call (Value.ref 770) [Value.str (TreeAt.lab _ _) _]) _ _ _); k_dflt ((refine' pure_use (qt_lab _ _ ?OW9 _ ?kW9 _) ?BW9 ?FW9 ?XW9 ?NW9 ?TW9 ?kkW9 ?hdW9 ?huW9 ?_; (case OW9 => assumption); (case kW9 => omega); (case BW9 => k_asm); (case FW9 => k_asm); (case XW9 => k_asm); (case NW9 => k_asm); (case TW9 => k_asm); (case kkW9 => first | exact rfl | assumption); (case hdW9 => k_room); (case huW9 => k_units); k_whole; intro r'W9 h'W9 tk'W9 F'W9 N'W9 ht'W9; obtain ⟨t'W9, e'W9⟩ := ht'W9; subst e'W9; (try k_sweep)))))
  k_with "my call ref" => ((k_here; (with_reducible show wpAny _ _ (call (Value.ref 61) [Value.str (Str.mk (List.toArray _)) _]) _ _ _); k_dflt ((refine' pure_use (qd_mk _ _ _ ?xW9) ?BW9 ?FW9 ?XW9 ?NW9 ?TW9 ?kkW9 ?hdW9 ?huW9 ?_; (case xW9 => first | omega | exact size_out (by assumption) (by omega)); (case BW9 => k_asm); (case FW9 => k_asm); (case XW9 => k_asm); (case NW9 => k_asm); (case TW9 => k_asm); (case kkW9 => first | exact rfl | assumption); (case hdW9 => k_room); (case huW9 => k_units); k_whole; intro r'W9 h'W9 tk'W9 F'W9 N'W9 ht'W9; obtain ⟨t'W9, e'W9⟩ := ht'W9; subst e'W9; (try k_sweep)))))
  k_with "my kt_len" => (first | exact len_out (by assumption) (by omega) | exact len_quoted (by assumption) (by omega) | exact TreeAt.Ok.eol (by assumption) _ (by omega) | exact TreeAt.part_len (by assumption) (by omega) (by omega) | ((with_reducible refine' len_qd ?qqW9); (case qqW9 => kt_len)))
  k_with "my call builtin:len" => ((k_here; (with_reducible show wpAny _ _ (call (Value.builtin "len") [Value.ref (TreeAt.t _)]) _ _ _); k_dflt ((refine' tree_len ?NW9 ?TW9 ?_; (case NW9 => k_asm); (case TW9 => k_memK); k_whole; intro t'W9 k'W9))))
  k_with "my call ref" => ((k_here; (with_reducible show wpAny _ _ (call (Value.ref 782) [Value.ref _, Value.int (Nat.cast _) _]) _ _ _); (with_reducible rename ∀ k, _ < k → k < 5 → Outline _ _ k => ihOW9); k_dflt ((refine' reads_use (ihOW9 _ ?aW9 ?bW9 _) ?BW9 ?FW9 ?XW9 ?NW9 ?TW9 ?kkW9 ?hdW9 ?huW9 ?hnW9 ?_; (case aW9 => omega); (case bW9 => omega); (case BW9 => k_asm); (case FW9 => k_asm); (case XW9 => k_asm); (case NW9 => k_asm); (case TW9 => k_asm); (case kkW9 => first | exact rfl | assumption); (case hdW9 => k_room); (case huW9 => k_units); (case hnW9 => k_memK); k_whole; intro r'W9 h'W9 tk'W9 F'W9 N'W9 ht'W9; obtain ⟨t'W9, e'W9⟩ := ht'W9; subst e'W9; (try k_sweep)))))
  k_with "my inplaceOp Add str str" => ((k_here; (with_reducible show wpAny _ _ (inplaceOp Operator.Add (Value.str _ _) (Value.str _ _)) _ _ _); (refine' iaddK ?kxaaW9 ?kxabW9 ?kxacW9 ?_; (case kxaaW9 => kt_len); (case kxabW9 => kt_len); (case kxacW9 => exact Nat.le_of_ble_eq_true rfl)); intro _ _ _))
  k_with "my k_enter" => ((kp_kind "both"; (fail_if_success k_inElt); (refine' kp_both ?k1W9 ?k2W9 ?k3W9 ?k4W9 ?k5W9 ?kAW9 ?kFW9 ?kKW9 ?k6W9 ?k7W9 ?k8W9 ?kVW9 ?kXW9 ?kQW9 ?kMW9 ?kNW9 ?kDW9 ?kRW9 ?kPW9 ?kSW9 ?kTW9 ?kBW9 ?_ ?c2W9 ?c3W9 ?c4W9 ?c5W9; (case kAW9 => exact rfl); (case kFW9 => exact rfl); (case kKW9 => first | exact rfl | assumption); (case k1W9 => k_asm); (case k2W9 => k_asm); (case k3W9 => k_asm); (case k4W9 => k_asm); (case k5W9 => k_asm); (case k6W9 => k_is); (case k7W9 => k_is); (case k8W9 => k_room); (case kVW9 => kp_lit); (case kXW9 => kp_lit); (case kQW9 => exact rfl); (case kMW9 => exact rfl); (case kNW9 => exact rfl); (case kDW9 => kp_flats); (case kRW9 => exact rfl); (case kPW9 => exact rfl); (case kSW9 => exact fun _ => rfl); (case kTW9 => exact fun _ _ => rfl); (case kBW9 => exact fun _ _ => locs rfl); (case c5W9 => decide); (case c2W9 => exact rfl); (case c3W9 => exact rfl); (case c4W9 => exact rfl); k_whole; intro C'W9 D'W9 o'W9 g'W9 L'W9 h'W9 tk'W9 l1W9 l2W9 lo'W9 hs'W9 fs'W9 FG'W9 F'W9 N'W9 B'W9 X'W9 T'W9; (try k_lt l1W9); (try k_lt2 l2W9); (try dsimp only); (try k_lift B'W9); (try k_fold))))
  k_with "my call builtin:object.__new__" => ((k_here; k_dflt ((refine' new623_K ?FW9 ?XW9 ?NW9 ?_; (case FW9 => k_asm); (case XW9 => k_asm); (case NW9 => k_asm); k_whole; intro x'W9 d'W9 h'W9 F'W9 N'W9 l1W9 l2W9; (try k_lt l1W9); (try k_lt2 l2W9); (try k_sweep)))))
  k_with "my k_all" => (first | exact allNe (by assumption) | exact allNe' (by assumption) | exact allNeT (by assumption) (by first | assumption | omega))
  trivial

section
variable {prog : Program} {w : World} {A : Around} {E : Value → Shared → Prop} {s : Shared} {h₀ : Heap} {L l : Addr} {m : Str → Option Value} {news : List (Addr × Obj)} {vs : List Value} {ns : List Int} {Q : Value → Shared → Prop}
theorem sum_hops (hh : A.handled = none) (F : Fr h₀ L s.heap m) (N : News h₀ L s.heap news) (hl : s.heap.IsList l vs.toArray) (hi : IntsAre vs ns)
    (h : ∀ x h' tk t', Fr h₀ L h' m → News h₀ L h' news → Q (.int x t') { s with heap := h', toks := tk }) :
    wpAny (model prog w) A (call (.builtin "sum") [.ref l]) Q E s := sumK hh F N hl hi fun h' tk t' F' N' => h _ h' tk t' F' N'
end
theorem words_Top_2 : True := by
  k_with "my call builtin:sum" => ((k_here; k_dflt ((refine' sum_hops ?hW9 ?FW9 ?NW9 ?lW9 ?iW9 ?_; (case hW9 => with_unfolding_all rfl); (case FW9 => k_asm); (case NW9 => k_asm); (case lW9 => kmk_list); (case iW9 => assumption); k_whole)); intro x'W9 h'W9 tk'W9 t'W9 F'W9 N'W9; (try k_sweep)))
  k_with "my call ref" => ((k_here; (with_reducible show wpAny _ _ (call (Value.ref 775) _) _ _ _); refine stop2_of ?_))
  k_with "my call ref" => ((k_here; (with_reducible show wpAny _ _ (call (Value.ref 787) _) _ _ _); refine stop2_of ?_))
  k_with "my call ref" => ((k_here; (with_reducible show wpAny _ _ (call (Value.ref 70) _) _ _ _); refine stop2_of ?_))
  k_with "my call ref" => ((k_here; (with_reducible show wpAny _ _ (call (Value.ref 758) _) _ _ _); refine stop2_of ?_))
  k_with "my call ref" => ((k_here; (with_reducible show wpAny _ _ (call (Value.ref 799) _ _) _ _ _); refine stop2_of ?_))
  trivial

noncomputable def HopsIs (_ : Nat) : Prop := True
noncomputable abbrev hopsN {d : Nat} (_ : HopsIs d) : Nat := d
theorem mod2 {prog : Program} {w : World} {A : Around} {E : Value → Shared → Prop} {s : Shared} {x : Int} {t u : Tok} {Q : Value → Shared → Prop} (h : ∀ (d : Nat) t' k, d ≤ 1 → HopsIs d → Q (.int (d : Int) t') { s with toks := k }) : wpAny (model prog w) A (binaryOp .Mod (.int x t) (.int 2 u)) Q E s := by
  have hr := fmod_range x (k := 2) (by decide)
  refine mod_int' (by decide) ?_
  have := h (x.fmod 2).toNat s.toks (s.toks + 1) (by omega) trivial
  rw [Int.toNat_of_nonneg hr.1] at this
  exact this
theorem words_Top_3 : True := by
  k_with "my k_all" => (with_reducible assumption)
  k_with "my binaryOp Mod int int" => ((k_here; k_dflt ((refine' mod2 ?_; k_whole; intro d'W9 t'W9 k'W9 hd'W9 hh'W9))))
  trivial

theorem objs_in {T : TreeAt} {t : Addr × Obj} {own A B C : List (Addr × Obj)} (h : ∀ q ∈ T.objs, q ∈ t :: own) : ∀ q ∈ T.objs, q ∈ A ++ (B ++ t :: (own ++ C)) := fun q hq => by
  rcases List.mem_cons.mp (h q hq) with rfl | hm
  · exact List.mem_append_right _ (List.mem_append_right _ (List.mem_cons_self ..))
  · exact List.mem_append_right _ (List.mem_append_right _ (List.mem_cons_of_mem _ (List.mem_append_left _ hm)))
theorem objs_in0 {T : TreeAt} {t : Addr × Obj} {own C : List (Addr × Obj)} (h : ∀ q ∈ T.objs, q ∈ t :: own) : ∀ q ∈ T.objs, q ∈ t :: (own ++ C) := fun q hq => by
  rcases List.mem_cons.mp (h q hq) with rfl | hm
  · exact List.mem_cons_self ..
  · exact List.mem_cons_of_mem _ (List.mem_append_left _ hm)
theorem objs_next {g h : Heap} {L : Addr} {T : TreeAt} {t : Addr × Obj} {own rest : List (Addr × Obj)} (_ : News g L h (t :: (own ++ rest))) (h : ∀ q ∈ T.objs, q ∈ rest) : ∀ q ∈ T.objs, q ∈ t :: (own ++ rest) := fun q hq => List.mem_cons_of_mem _ (List.mem_append_right _ (h q hq))
theorem top_ledger {g h : Heap} {L : Addr} {l t c q : Addr × Obj} {own own2 : List (Addr × Obj)} (N : News g L h (l :: (own2 ++ t :: (own ++ [c, q])))) (off1 : OwnOff own (t.1 :: adrs [c, q])) (off2 : OwnOff own2 (l.1 :: adrs (t :: (own ++ [c, q])))) :
    ∃ X, News g L h (l :: t :: c :: q :: X) ∧ (∀ p ∈ X, p.1 ≠ c.1) ∧ (∀ p ∈ X, p.1 ≠ q.1) ∧ (∀ x ∈ own2, x ∈ X) ∧ ∀ x ∈ own, x ∈ X := by
  refine ⟨own2 ++ own, ?_, ?_, ?_, fun x hx => List.mem_append_left _ hx, fun x hx => List.mem_append_right _ hx⟩
  · intro p hp
    refine N p ?_
    simp only [List.mem_cons, List.mem_append, List.not_mem_nil, or_false] at hp ⊢
    rcases hp with h | h | h | h | h | h <;> simp [h]
  · intro p hp
    rcases List.mem_append.mp hp with hp | hp
    · exact off2 p hp c.1 (by simp)
    · exact off1 p hp c.1 (by simp)
  · intro p hp
    rcases List.mem_append.mp hp with hp | hp
    · exact off2 p hp q.1 (by simp)
    · exact off1 p hp q.1 (by simp)
theorem objs_top {g h' : Heap} {L : Addr} {T : TreeAt} {t : Addr × Obj} {own X : List (Addr × Obj)} {a b c : Addr × Obj} (_ : News g L h' (a :: t :: b :: c :: X)) (h : ∀ q ∈ T.objs, q ∈ t :: own) (hX : ∀ x ∈ own, x ∈ X) : ∀ q ∈ T.objs, q ∈ a :: t :: b :: c :: X := fun q hq => by
  rcases List.mem_cons.mp (h q hq) with rfl | hm
  · exact List.mem_cons_of_mem _ (List.mem_cons_self ..)
  · exact List.mem_cons_of_mem _ (List.mem_cons_of_mem _ (List.mem_cons_of_mem _ (List.mem_cons_of_mem _ (hX q hm))))
theorem neN9 {a b : Addr} (h : a ≠ b) : @Ne Nat a b := h
theorem ltN8 {a b : Addr} (h : a < b) : @LT.lt Nat _ a b := h
theorem objs_or {T : TreeAt} {t : Addr × Obj} {own X : List (Addr × Obj)} (h : ∀ q ∈ T.objs, q ∈ t :: own) (hX : ∀ x ∈ own, x ∈ X) : ∀ q ∈ T.objs, q = t ∨ q ∈ X := fun q hq => by
  rcases List.mem_cons.mp (h q hq) with rfl | hm
  · exact .inl rfl
  · exact .inr (hX q hm)
theorem size_q1 {T : TreeAt} (O : T.Ok) : (mk (qd (T.out 0))).cps.size ≤ 100000 := by
  have h1 := TreeAt.out_len O (node := 0) (by decide)
  have h2 := qd_len (T.out 0)
  have h3 := mk_len (qd (T.out 0))
  show (mk (qd (T.out 0))).length ≤ 100000
  omega
theorem allLt_of : ∀ {l : List (Addr × Obj)} {d : Addr}, (∀ p ∈ l, p.1 < d) → AllLt d l
  | [], _, _ => trivial
  | p :: l, d, h => ⟨h p (List.mem_cons_self ..), allLt_of fun q hq => h q (List.mem_cons_of_mem _ hq)⟩
noncomputable def TextCut : Prop := True
noncomputable def ReadNow : Prop := True
theorem read_item0 {prog : Program} {w : World} {A : Around} {E : Value → Shared → Prop} {s : Shared} {h₀ : Heap} {L : Addr} {news : List (Addr × Obj)} {Q : Value → Shared → Prop} {value slice : PySem.Expr} {u : Tok} {a ra sa : Addr} {d n : Nat} {td : Tok} (N : News h₀ L s.heap news) (hm : (a, readObj ra sa d td n) ∈ news) (h : Q (.ref ra) s)
    (hs : subscripted slice false (.ref a) (.int 0 u) = operate [.ref a, .int 0 u] (getItem (.ref a) (.int 0 u)) := by with_unfolding_all rfl) :
    wpAny (model prog w) A (subscriptTail value slice (.ref a) (.int 0 u)) Q E s :=
  item_tupleT (l := [.ref ra, .int (d : Int) td, .ref sa]) (j := 0) (N.isTup hm) (by decide) (by decide) (by rfl) rfl h hs
theorem base3_sub {a b c l : Addr × Obj} {X : List (Addr × Obj)} : ∀ q ∈ [a, b, c], q ∈ a :: b :: c :: l :: X := fun q hq => by
  simp only [List.mem_cons, List.not_mem_nil, or_false] at hq ⊢
  rcases hq with h | h | h <;> simp [h]
theorem off_new1 {D : Addr} {l : List (Addr × Obj)} (h : AllLt D l) : OwnOff l [D] := fun p hp b hb => by
  rw [List.mem_singleton.mp hb]
  exact allNe' h p hp
theorem words_Top_4 : True := by
  k_with "my call ref" => ((k_here; (with_reducible show wpAny _ _ (call (Value.ref 782) [Value.ref (TreeAt.t _), Value.int 0 _]) _ _ _); (with_reducible rename TreeAt.Ok _ => hO9W9); (with_reducible rename ∀ q ∈ TreeAt.objs _, _ => hT9W9); k_dflt ((refine' reads_use (outline_ok _ _ hO9W9 _) ?BW9 ?FW9 ?XW9 ?NW9 ?TW9 ?kkW9 ?hdW9 ?huW9 ?hnW9 ?_; (case BW9 => k_asm); (case FW9 => k_asm); (case XW9 => k_asm); (case NW9 => k_asm); (case TW9 => k_asm); (case kkW9 => first | exact rfl | assumption); (case hdW9 => k_room); (case huW9 => k_units); (case hnW9 => ((repeat refine need_cons ?_); exact hT9W9)); k_whole; intro r'W9 h'W9 tk'W9 F'W9 N'W9 ht'W9; obtain ⟨t'W9, e'W9⟩ := ht'W9; subst e'W9; (try k_sweep)))))
  k_with "my call ref" => ((k_here; (with_reducible show wpAny _ _ (call (Value.ref 782) _) _ _ _); refine stop2_of ?_))
  k_with "my compareOp Is str ref" => ((k_here; refine wpAny_is_other (by rfl) (by intro xW9; cases xW9) ?_))
  trivial

theorem unr_end {h₀ h' : Heap} {L I : Addr} {s₁ : Shared} {it : Obj} {rest : (Str → Option Value) → List (Addr × Obj) → Prop} {m' : Str → Option Value} {news' : List (Addr × Obj)} {tk : Nat} (F : Fr h₀ L h' m') (N : News h₀ L h' ((I, it) :: news')) (o : ∀ p ∈ news', p.1 ≠ I) (r : rest m' news') : UnrEnd h₀ L s₁ I it rest { s₁ with heap := h', toks := tk } := ⟨h', tk, m', news', rfl, F, N, o, r⟩
theorem words_Top_5 : True := by
  k_with "my UnrEnd" => ((k_dflt ((refine' unr_end ?FW9 ?NW9 ?oW9 ?_; (case FW9 => k_asm); (case NW9 => k_asm); (case oW9 => k_all)))))
  k_with "my call type:range" => ((k_here; k_dflt ((refine' range_led ?FW9 ?NW9 ?_; (case FW9 => k_asm); (case NW9 => k_asm); k_whole; intro r'W9 h'W9 tk'W9 t1'W9 t2'W9 F'W9 N'W9 l1W9; (try k_lt l1W9)))))
  k_with "my call builtin:iter" => ((k_here; k_dflt ((first
    | (refine' iter_led (n := 1) ?FW9 ?NW9 ?rW9 ?smW9 ?nW9 ?_; (case FW9 => k_asm); (case NW9 => k_asm); (case rW9 => k_mem); (case smW9 => first | rfl | decide); (case nW9 => first | rfl | decide); k_whole; intro I'W9 h'W9 F'W9 N'W9 l1W9; (try k_lt l1W9); (try k_sweep))
    | (refine' iter_led (n := 2) ?FW9 ?NW9 ?rW9 ?smW9 ?nW9 ?_; (case FW9 => k_asm); (case NW9 => k_asm); (case rW9 => k_mem); (case smW9 => first | rfl | decide); (case nW9 => first | rfl | decide); k_whole; intro I'W9 h'W9 F'W9 N'W9 l1W9; (try k_lt l1W9); (try k_sweep))))))
  k_with "my call builtin:iter" => ((k_here; (with_reducible show wpAny _ _ (call _ [Value.ref (LexA.x _)]) _ _ _); k_dflt ((refine' iter_inst (owit_iter ?FW9 ?XW9 ?IW9 ?hsW9 ?hfW9 ?_); (case FW9 => k_asm); (case XW9 => k_asm); (case IW9 => k_inst); (case hsW9 => k_is); (case hfW9 => k_is); k_whole))))
  k_with "my OwitRest" => ((refine stop2_of ?_))
  k_with "my exec For Name Name cons nil" => ((k_here; (with_reducible rename TextCut => tc9W9); (rename Fr _ _ _ _ => lF'W9); (with_unfolding_all refine' For_invVF lF'W9 ?k1W9 ?k2W9 ?_; (case k1W9 => exact rfl); (case k2W9 => exact rfl); k_whole)))
  k_with "my pyIter ref" => (((with_reducible show wpAny _ _ (pyIter (Value.ref _)) (fun it s₂ => LoopAtV _ _ _ _ _ _ _ _ _ it s₂) _ _); k_here; k_dflt ((refine' iter_iterUnr ?hW9 ?FW9 ?NW9 ?IW9 ?_; (case hW9 => rfl); (case FW9 => k_asm); (case NW9 => k_asm); (case IW9 => k_all)))))
  trivial

theorem src_at9 {h₀ : Heap} {ax : Addr} {its : Array Value} {k : Nat} {news : List (Addr × Obj)} (hm : (ax, listOf its k) ∈ news) : LCg.SrcAt h₀ ax its news := .inr ⟨_, hm, rfl, _, rfl⟩
theorem ne_self {prog : Program} {w : World} {A : Around} {E : Value → Shared → Prop} {s : Shared} {x : Str} {t u : Tok} {Q : Value → Shared → Prop} (h : Q (.bool false) s) : wpAny (model prog w) A (compareOp .NotEq (.str x t) (.str x u)) Q E s := PyProof.Rows.ne_str (by rw [show (x != x) = false from by simp]; exact h)
theorem words_Top_6 : True := by
  k_with "my compareOp NotEq str str" => ((k_here; k_dflt ((refine' ne_self ?_))))
  k_with "my eval ListComp" => ((k_here; (refine' LCg.ListComp_U ?FW9 ?c1W9 ?c2W9 ?c3W9 ?c4W9 ?c5W9 ?_ ?c6W9); (case FW9 => k_asm); (case c1W9 => with_unfolding_all rfl); (case c2W9 => decide); (case c3W9 => rfl); (case c4W9 => decide); (case c5W9 => with_unfolding_all rfl); (case c6W9 => (intro _; with_unfolding_all rfl)); (k_dflt lcg_toSrc)))
  k_with "my CompSrc" => ((refine stop2_of ?_))
  k_with "my subscriptTail" => ((k_here; (with_reducible show wpAny _ _ (subscriptTail _ _ (Value.ref _) (Value.int 0 _)) _ _ _); k_dflt (refine' row_item0 ?NW9 ?mW9 ?_; (case NW9 => k_asm); (case mW9 => assumption))))
  k_with "my subscriptTail" => ((k_here; (with_reducible show wpAny _ _ (subscriptTail _ _ (Value.ref _) (Value.int 2 _)) _ _ _); k_dflt (refine' row_item2 ?NW9 ?mW9 ?_; (case NW9 => k_asm); (case mW9 => assumption))))
  k_with "my call ref" => ((k_here; (with_reducible show wpAny _ _ (call (Value.ref 794) _) _ _ _); k_dflt ((refine' pure_use (written_ok _ _ _ _ ?h1W9 ?h2W9) ?BW9 ?FW9 ?XW9 ?NW9 ?TW9 ?kkW9 ?hdW9 ?huW9 ?_; (case h1W9 => assumption); (case h2W9 => assumption); (case BW9 => k_asm); (case FW9 => k_asm); (case XW9 => k_asm); (case NW9 => k_asm); (case TW9 => k_asm); (case kkW9 => first | exact rfl | assumption); (case hdW9 => k_room); (case huW9 => k_units); k_whole; intro r'W9 h'W9 tk'W9 F'W9 N'W9 ht'W9; obtain ⟨t'W9, e'W9⟩ := ht'W9; subst e'W9; (try k_sweep)))))
  k_with "my TextEnd" => (((exact TextEnd.intro (by k_asm) (by k_asm))))
  k_with "my call builtin:str.join" => ((k_here; k_dflt ((refine' join_mail ?NW9 ?mW9 ?yW9 ?eW9 ?lW9 ?rW9 ?_; (case NW9 => k_asm); (case mW9 => k_mem); (case yW9 => assumption); (case eW9 => assumption); (case lW9 => assumption); (case rW9 => assumption); k_whole; intro t'W9 k'W9))))
  k_with "my call ref" => ((k_here; (with_reducible show wpAny _ _ (call (Value.ref 758) _ _) _ _ _); refine stop2_of ?_))
  k_with "my subscriptTail" => ((k_here; (with_reducible rename ReadNow => rn9W9); refine stop2_of ?_))
  k_with "my compareOp Eq ref ref" => ((k_here; (with_reducible rename ReadNow => rn9W9); refine stop2_of ?_))
  trivial

set_option maxHeartbeats 8000000 in
theorem main : PySem.Challenge.rw_oy0315_01.Holds := OyMine.hd (by
  w_strict (
  k_go0
  all_goals try k_fold
  k_steps
  unfold Stop2
  rename IntsAre _ _ => hI
  rename ¬ _ < _ => hc63
  refine' at_use (mk_tree _ _ _ _ hI ?len) ?hd ?hu ?B ?F ?X ?N ?T ?kk ?isl _ _ ?_
  case len => omega
  case isl => assumption
  case B => k_asm
  case F => k_asm
  case X => k_asm
  case N => k_asm
  case T => k_asm
  case kk => rfl
  case hd => k_room
  case hu => k_units
  intro td vs n own ds h' tk' F' N' off' offn' hD' hP'
  obtain ⟨T, hTt, hTo, hTok, hTe, hTs⟩ := tree_of (td := td) (n := n) hD' hP'
  subst hTt
  k_steps
  unfold Stop2
  rename HopsIs _ => hh9
  rename _ ≤ 1 => hd9
  rename _ ∧ AllLt _ _ => l9
  refine' walk_use (walk_ok _ T hTok) (d := hopsN hh9 + 1) (vs := []) (base := []) (rs := []) ?v ?dd ?l ?hd ?hu ?B ?F ?X ?N ?T ?kk ?off ?hT ?hb .nil ?_
  case v => (dsimp only [hopsN]; omega)
  case dd => (dsimp only [hopsN]; omega)
  case l => decide
  case B => k_asm
  case F => k_asm
  case X => k_asm
  case N => k_asm
  case T => k_asm
  case kk => rfl
  case hd => k_room
  case hu => k_units
  case off => exact off_new1 l9
  case hT => exact objs_in0 hTo
  case hb => exact fun q hq => nomatch hq
  intro vs2 n2 own2 h2 tk2 F2 N2 off2 hD2
  obtain ⟨X, N3, eC, eQ, x2, x1⟩ := top_ledger N2 off' off2
  have hTo3 := objs_or hTo x1
  rw [List.append_nil] at hD2
  have hD3 := hD2.mono x2
  dsimp only at eC eQ
  have n1 := neN9 (offn' _ (List.mem_cons_of_mem _ (List.mem_cons_self ..)) _ (List.mem_cons_self ..))
  have n2 := neN9 (offn' _ (List.mem_cons_self ..) _ (List.mem_cons_self ..))
  have n3 := ltN8 (ktn_ltOf l9.2 _ (List.mem_append_right _ (List.mem_cons_of_mem _ (List.mem_cons_self ..))))
  have n4 := ltN8 (ktn_ltOf l9.2 _ (List.mem_append_right _ (List.mem_cons_self ..)))
  dsimp only at n1 n2 n3 n4
  clear hTo N2 hD2 x2 x1 off' off2 offn'
  k_steps
  unfold Stop2
  refine' reads_use (outline_ok _ T hTok _) ?B ?F ?X ?N ?T ?kk ?hd ?hu ?hn ?_
  case B => k_asm
  case F => k_asm
  case X => k_asm
  case N => k_asm
  case T => k_asm
  case kk => rfl
  case hd => k_room
  case hu => k_units
  case hn => (intro q hq; rcases hTo3 q hq with h | h <;> simp [h])
  intro r9 h9 tk9 F9 N9 ht9
  obtain ⟨t9, e9⟩ := ht9
  subst e9
  k_steps
  unfold Stop2
  have hq1 : (mk (qd (T.out 0))).cps.size ≤ 100000 := size_q1 hTok
  refine' cut_str (qdN (hopsN hh9 + 1) (T.out 0)) ?F ?N ?_ ?_
  case F => k_asm
  case N => k_asm
  · have htc : TextCut := trivial
    have hc : hopsN hh9 = 0 ∨ hopsN hh9 = 1 := by dsimp only [hopsN]; omega
    rcases hc with h0 | h0
    · dsimp only [hopsN] at h0
      subst h0
      refine wpAny_call ?_
      (k_dflt k_enter)
      k_steps
      all_goals (rename News _ _ _ _ => kN9; rename Fr _ _ _ _ => kF9; first | exact TextEnd.intro (x := qd (T.out 0)) kF9 kN9 | exact TextEnd.intro (x := qd (T.out 0)) kF9 (fun p hp => kN9 p (List.mem_cons_of_mem _ hp)))
    · dsimp only [hopsN] at h0
      subst h0
      refine wpAny_call ?_
      (k_dflt k_enter)
      k_steps
      all_goals (rename News _ _ _ _ => kN9; rename Fr _ _ _ _ => kF9; first | exact TextEnd.intro (x := qd (qd (T.out 0))) kF9 kN9 | exact TextEnd.intro (x := qd (qd (T.out 0))) kF9 (fun p hp => kN9 p (List.mem_cons_of_mem _ hp)))
  intro t5 h5 tk5 F5 N5
  have hflat := mail_flat (T := T) hTe (hopsN hh9)
  have hgood : Good (T.walked 0 (-1) (hopsN hh9 + 1) []) := TreeAt.root_good hTok (by dsimp only [hopsN]; omega)
  have hmlen := mail_len hTok (d := hopsN hh9) hd9
  have hmlen9 : (qdN (hopsN hh9 + 1) (T.out 0)).length ≤ 900000 := by omega
  have hall := good_all hgood
  have hrl : (T.walked 0 (-1) (hopsN hh9 + 1) []).length ≤ 100 := by
    have := (walked_len T 5 0 (by decide) (by decide) (-1) (hopsN hh9 + 1) []).1
    simp at this
    omega
  clear N9
  k_steps
  unfold Stop2
  refine' LCg.CompSrc.ledger ?h ?F ?N ?m ?z ?_
  case h => rfl
  case F => k_asm
  case N => k_asm
  case m => k_mem
  case z => exact told_size hD3 hrl
  intro g'
  refine' comp_rows hD3 ?sub ?S ?turn ?fin
  case sub => (intro q hq; simp [hq])
  case S => exact src_at9 (by k_mem)
  case turn =>
    intro r a k t1 t2 t3 t4 ys I oI C oC D m₂ h tk E' hr hmr hC hx F N off ne
    obtain ⟨ha1, ha2⟩ := hall r hr
    k_steps
  case fin =>
    intro ys hys
    k_steps
    unfold Stop2
    refine' at_use (mk_lexer _ (qdN (hopsN hh9 + 1) (T.out 0)) _ _ (by rw [mk_len]; omega)) ?hd ?hu ?B ?F ?X ?N ?T ?kk _ _ ?_
    case B => k_asm
    case F => k_asm
    case X => k_asm
    case N => k_asm
    case T => k_asm
    case kk => rfl
    case hd => k_room
    case hu => k_units
    intro ℓ ts tt tl tp h6 tk6 hok hlt F6 N6
    have hok9 := hok
    obtain ⟨o1, o2, o3, o4, o5, o6⟩ := hok
    simp only [List.cons_append, List.nil_append] at N6
    have hA9 := hlt
    k_lt hA9
    clear hlt
    k_steps
    unfold Stop2
    rename News _ _ _ _ => lN
    have lN2 := perm_lex lN
    have hA8 := hA9
    obtain ⟨_, _, _, _, _, _, z1, z2, zX⟩ := hA8
    clear lN
    have hgood9 := hgood
    obtain ⟨r0, rs0, e0, g0, gl0, gline0, gt0, gn0⟩ := hgood9
    refine' top_use (red_ok _ ℓ hok9 _ ?hb9 ⟨.str " " ts, "", tt, 1, tl, 0, tp, 0, []⟩ _ _ [_, _, _, _] ?hD9 (T.walked 0 (-1) (hopsN hh9 + 1) []) r0 rs0 ?hfn ?hstep ?hc9 ?hbuf g0 gl0 gline0 gt0 ?hn ?hf) ?hd ?hu ?B ?F ?X ?N ?T ?kk [_, _, _] _ rfl ?off ?sub ?D _ _ ?_
    case B => k_asm
    case F => k_asm
    case X => k_asm
    case N => k_asm
    case T => k_asm
    case kk => rfl
    case hd => k_room
    case hu => k_units
    case hb9 => rw [mk_len]; omega
    case hc9 => exact ⟨ts, tt, tl, tp, 0, 0, rfl⟩
    case hbuf => rw [← e0]; exact hflat.symm
    case hn =>
      have hw := (walked_len T 5 0 (by decide) (by decide) (-1) (hopsN hh9 + 1) []).1
      rw [e0] at hw
      simp at hw
      omega
    case hf => rw [← e0]; exact T.told_back _
    case sub => exact base3_sub
    case hfn => exact fun _ _ _ _ _ _ _ _ _ _ _ N => FnAt.of N (by k_mem)
    case off => exact off_consG hok9 (by omega) (off_consG hok9 (by omega) (off_consB hok9 (by omega) (off_consB hok9 (by omega) (off_consG hok9 (by omega) (off_consG hok9 (by omega) (off_consG hok9 (by omega) (off_consB hok9 (by omega) (off_allB hok9 zX))))))))
    case hD9 => (refine' kto_neNK lN2 ?m ?X ?l; (case m => k_mem); (case X => k_in); (case l => k_is))
    case D => exact read_in (List.mem_cons_self ..) (List.mem_cons_of_mem _ (List.mem_cons_of_mem _ (List.mem_cons_self ..))) (List.mem_cons_of_mem _ (List.mem_cons_self ..)) .nil .nil
    case hstep =>
      intro c1 tok1 rows1 d1 S1 rows1' d1' S1' C1
      unfold StepL AtAny
      intro tl1 dp1 un1 p1 loose1 mean1 mg1 mb1 news1 gd1 cn1 cs1 a1 ccd1 cl1 outer1 A1 ba1 h1 L1 m1 s1 hdp1 hun1 B1 F1 X1 N1 T1 hk1 v1 base1 rest1 en1 hb1 hR1 Q1 E1 hret1
      subst en1
      obtain ⟨sv1, tokk1, tt1, line1, tl1', pos1, tp1, pn1, pushed1⟩ := c1
      simp only [List.cons_append, List.nil_append] at N1
      refine wpAny_call ?_
      k_dflt (refine' kla_code ?k1 ?k2 ?k3 ?k4 ?k5 ?kA ?kF ?kK ?k6 ?k7 ?k8 ?k9 ?kB ?_ ?c2 ?c3 ?c4 ?c5; (case kA => exact rfl); (case kF => exact rfl); (case kK => first | exact rfl | assumption); (case k1 => k_asm); (case k2 => k_asm); (case k3 => k_asm); (case k4 => k_asm); (case k5 => k_asm); (case k6 => k_mem); (case k7 => exact codeRec_news (by k_asm) (by k_mem) (by assumption) (by assumption)); (case k8 => k_room); (case k9 => exact rfl); (case c5 => decide); (case kB => exact locs rfl); (case c2 => exact rfl); (case c3 => exact rfl); (case c4 => exact rfl); k_whole; intro g' L' h' FG' F' N' B' X' T'; (try dsimp only); (try k_lift B'); (try k_fold))
      k_steps
      unfold Stop2
      refine' at_use (C1 _) ?hd ?hu ?B ?F ?X ?N ?T ?kk v1 base1 (_ :: _ :: _ :: _ :: rest1) rfl ?hb hR1 _ _ ?_
      case B => k_asm
      case F => k_asm
      case X => k_asm
      case N => k_asm
      case T => k_asm
      case kk => first | exact rfl | assumption
      case hd => k_room
      case hu => k_units
      case hb => exact fun q hq => List.mem_cons_of_mem _ (List.mem_cons_of_mem _ (List.mem_cons_of_mem _ (List.mem_cons_of_mem _ (hb1 q hq))))
      intro v2 own2' h2' tk2' F2' N2' off2' hR2'
      k_steps
      rename News _ _ _ _ => kN9
      rename Fr _ _ _ _ => kF9
      exact hret1 v2 own2' _ _ kF9 kN9 off2' hR2'
    intro v9 S9 c9 base9 Y9 h7 tk7 F7 N7 hb9 hy9 hDD9
    obtain ⟨vt, ra, sa, td9, n9, n91, n92, rvs, svs, rfl, hm0, hm1, hm2, hD91, hD92⟩ := read_open hDD9
    obtain ⟨sv9, tok9, tt9, line9, tl9, pos9, tp9, pn9, pushed9⟩ := c9
    have hm0' := hb9 _ hm0
    have hm1' := hb9 _ hm1
    have hl9 := hy9 _ (List.mem_cons_of_mem _ (List.mem_cons_of_mem _ (List.mem_cons_of_mem _ (List.mem_cons_self ..))))
    have hX9 : ∀ q ∈ X, q ∈ Y9 := fun q hq => hy9 q (List.mem_cons_of_mem _ (List.mem_cons_of_mem _ (List.mem_cons_of_mem _ (List.mem_cons_of_mem _ hq))))
    have hrd9 : ReadNow := trivial
    clear lN2
    simp only [List.cons_append, List.nil_append] at N7
    k_steps
    unfold Stop2
    refine' read_item0 ?N ?m ?_
    case N => k_asm
    case m => (repeat refine List.mem_cons_of_mem _ ?_); exact hm0'
    k_steps
    unfold Stop2
    have hok1 := told_ok (TreeAt.walked_sub (T := T) (P := fun c => c < 1114112) (by decide) (by decide) (by decide) hTs 5 0 (by decide) (by decide) (-1) (hopsN hh9 + 1) [] fun r h => nomatch h)
    refine' kqd_eq (n₁ := base9) (n₂ := X) ?N ?ma ?ca ?da hD91 ?sa ?mb ?cb ?db hD3 ?sb hok1 hok1 ?hu ?_
    case N => k_asm
    case ma => (repeat refine List.mem_cons_of_mem _ ?_); exact hm1'
    case mb => (repeat refine List.mem_cons_of_mem _ ?_); exact hl9
    case ca => rfl
    case da => rfl
    case cb => rfl
    case db => rfl
    case sa => exact fun q hq => (by (repeat refine List.mem_cons_of_mem _ ?_); exact hb9 q hq)
    case sb => exact fun q hq => (by (repeat refine List.mem_cons_of_mem _ ?_); exact hX9 q hq)
    case hu => ke_room
    simp only [eq_self, decide_true]
    k_steps))
end OyMine
end
theorem PySem.Challenge.cw_oy0315_01_holds : PySem.Challenge.rw_oy0315_01.Holds := by
  exact OyMine.main
