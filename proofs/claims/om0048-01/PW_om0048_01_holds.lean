import PyProof.Rows.All
import Wide.All
import OpenK.AllK
import Wide.FinOn
import PySem.Challenge.RW_om0048_01
set_option Elab.async false
section
open PySem PySem.W PyProof.Rows
set_option maxRecDepth 100000
set_option maxHeartbeats 8000000
namespace Mine
open_top hd for PySem.Challenge.rw_om0048_01
end Mine
end
section
open PySem PySem.W PyProof.Rows
set_option maxRecDepth 100000
namespace Mine
noncomputable abbrev LooseM : List Str := looseW Mine.hd.view_39 [] ++ List.map (fun x => x.name) (recsOf Mine.hd.view_39) ++ List.map (fun x => x.fst) (litsOf Mine.hd.view_39) ++ List.map (fun x => x.name) (clssOf Mine.hd.view_39 (looseW Mine.hd.view_39 []))
/-- where the walk is to stop -/
structure Stp (P : Prop) : Prop where
  mk :: (out : P)
/-- the walk of _siftdown from position pos, with the item x -/
def sd (ns : List Int) (pos : Nat) (x : Int) : List Int :=
  if _h : 0 < pos then
    if x < ns.getD ((pos - 1) / 2) 0 then sd (ns.set pos (ns.getD ((pos - 1) / 2) 0)) ((pos - 1) / 2) x
    else ns.set pos x
  else ns.set pos x
termination_by pos
decreasing_by omega
theorem sd_turn {hp R : List Int} {pos q x : Int} (hI : sd hp pos.toNat x = R) (hc : 0 < pos) (h1 : 2 * q ≤ pos - 1) (h2 : pos - 1 < 2 * q + 2) (hx : x < hp.getD q.toNat 0) :
    sd (hp.set pos.toNat (hp.getD q.toNat 0)) q.toNat x = R := by
  have e : q.toNat = (pos.toNat - 1) / 2 := by omega
  have hp0 : 0 < pos.toNat := by omega
  rw [← hI, sd.eq_def hp, dif_pos hp0, ← e, if_pos hx]
theorem sd_brk {hp R : List Int} {pos q x : Int} (hI : sd hp pos.toNat x = R) (hc : 0 < pos) (h1 : 2 * q ≤ pos - 1) (h2 : pos - 1 < 2 * q + 2) (hx : ¬ x < hp.getD q.toNat 0) :
    R = hp.set pos.toNat x := by
  have e : q.toNat = (pos.toNat - 1) / 2 := by omega
  have hp0 : 0 < pos.toNat := by omega
  rw [← hI, sd.eq_def hp, dif_pos hp0, ← e, if_neg hx]
theorem sd_end {hp R : List Int} {pos x : Int} (hI : sd hp pos.toNat x = R) (hc : ¬ 0 < pos) :
    R = hp.set pos.toNat x := by
  have hp0 : ¬ 0 < pos.toNat := by omega
  rw [← hI, sd.eq_def hp, dif_neg hp0]
theorem sd_endI {vs : List Value} {hp R : List Int} {pos x : Int} (hi : IntsAre vs (hp.set pos.toNat x)) (hI : sd hp pos.toNat x = R) (hc : ¬ 0 < pos) : IntsAre vs R := sd_end hI hc ▸ hi
theorem sd_brkI {vs : List Value} {hp R : List Int} {pos q x : Int} (hi : IntsAre vs (hp.set pos.toNat x)) (hI : sd hp pos.toNat x = R) (hc : 0 < pos) (h1 : 2 * q ≤ pos - 1) (h2 : pos - 1 < 2 * q + 2) (hx : ¬ x < hp.getD q.toNat 0) : IntsAre vs R := sd_brk hI hc h1 h2 hx ▸ hi
/-- the child that _siftup takes -/
def chd (ns : List Int) (pos : Nat) : Nat := if 2 * pos + 2 < ns.length ∧ ¬ ns.getD (2 * pos + 1) 0 < ns.getD (2 * pos + 2) 0 then 2 * pos + 2 else 2 * pos + 1
theorem chd_gt (ns : List Int) (pos : Nat) : pos < chd ns pos := by unfold chd; split <;> omega
theorem chd_lt {ns : List Int} {pos : Nat} (h : 2 * pos + 1 < ns.length) : chd ns pos < ns.length := by unfold chd; split <;> omega
theorem chd_r {hp : List Int} {pos c : Int} (h0 : 0 ≤ pos) (hc : c = 2 * pos + 1) (h1 : c + 1 < (hp.length : Int)) (h2 : ¬ hp.getD c.toNat 0 < hp.getD (c + 1).toNat 0) : (c + 1).toNat = chd hp pos.toNat := by
  subst hc
  have e1 : (2 * pos + 1).toNat = 2 * pos.toNat + 1 := by omega
  have e2 : (2 * pos + 1 + 1).toNat = 2 * pos.toNat + 2 := by omega
  rw [e1, e2] at h2
  rw [e2, chd, if_pos ⟨by omega, h2⟩]
theorem chd_l {hp : List Int} {pos c : Int} (h0 : 0 ≤ pos) (hc : c = 2 * pos + 1) (h1 : ¬ c + 1 < (hp.length : Int)) : c.toNat = chd hp pos.toNat := by
  subst hc
  have e1 : (2 * pos + 1).toNat = 2 * pos.toNat + 1 := by omega
  rw [e1, chd, if_neg (fun h => by omega)]
theorem chd_l2 {hp : List Int} {pos c : Int} (h0 : 0 ≤ pos) (hc : c = 2 * pos + 1) (h2 : hp.getD c.toNat 0 < hp.getD (c + 1).toNat 0) : c.toNat = chd hp pos.toNat := by
  subst hc
  have e1 : (2 * pos + 1).toNat = 2 * pos.toNat + 1 := by omega
  have e2 : (2 * pos + 1 + 1).toNat = 2 * pos.toNat + 2 := by omega
  rw [e1, e2] at h2
  rw [e1, chd, if_neg (fun h => h.2 h2)]
/-- the walk of _siftup from position pos, with the item x -/
def su (ns : List Int) (pos : Nat) (x : Int) : List Int :=
  if _h : 2 * pos + 1 < ns.length then su (ns.set pos (ns.getD (chd ns pos) 0)) (chd ns pos) x
  else sd (ns.set pos x) pos x
termination_by ns.length - pos
decreasing_by
  have := chd_gt ns pos
  have := chd_lt _h
  simp only [List.length_set]
  omega
theorem su_turn {hp R : List Int} {pos c x : Int} (hI : su hp pos.toNat x = R) (h0 : 0 ≤ pos) (hc : 2 * pos + 1 < (hp.length : Int)) (hcv : c.toNat = chd hp pos.toNat) :
    su (hp.set pos.toNat (hp.getD c.toNat 0)) c.toNat x = R := by
  have h1 : 2 * pos.toNat + 1 < hp.length := by omega
  rw [← hI, su.eq_def hp, dif_pos h1, hcv]
theorem su_end {hp R : List Int} {pos x : Int} (hI : su hp pos.toNat x = R) (h0 : 0 ≤ pos) (hl : pos < (hp.length : Int)) (hc : ¬ 2 * pos + 1 < (hp.length : Int)) :
    sd (hp.set pos.toNat x) pos.toNat ((hp.set pos.toNat x).getD pos.toNat 0) = R := by
  have h1 : ¬ 2 * pos.toNat + 1 < hp.length := by omega
  have h2 : pos.toNat < hp.length := by omega
  rw [← hI, su.eq_def hp, dif_neg h1]
  simp [List.getD_eq_getElem?_getD, h2]
theorem su_endI {vs : List Value} {hp R : List Int} {pos x : Int} (hi : IntsAre vs (sd (hp.set pos.toNat x) pos.toNat ((hp.set pos.toNat x).getD pos.toNat 0))) (hI : su hp pos.toNat x = R) (h0 : 0 ≤ pos) (hl : pos < (hp.length : Int)) (hc : ¬ 2 * pos + 1 < (hp.length : Int)) : IntsAre vs R := su_end hI h0 hl hc ▸ hi
theorem shr_one {prog : Program} {w : World} {A : Around} {E : Value → Shared → Prop} {s : Shared} {a : Int} {t u : Tok} {Q : Value → Shared → Prop}
    (h : ∀ q : Int, 2 * q ≤ a → a < 2 * q + 2 → Q (.int q s.toks) { s with toks := s.toks + 1 }) : wpAny (model prog w) A (binaryOp .RShift (.int a t) (.int 1 u)) Q E s := by
  have e : a.fdiv (2 ^ Int.toNat 1) = a / 2 := by
    rw [Int.fdiv_eq_ediv_of_nonneg] <;> simp
  exact rshift_int (by decide) (h _ (by rw [e]; omega) (by rw [e]; omega))
section
variable {prog : Program} {w : World} {A : Around} {E : Value → Shared → Prop} {s : Shared} {h₀ : Heap} {L D : Addr} {m : Str → Option Value} {news news' : List (Addr × Obj)} {vs : List Value} {ns : List Int} {n : Nat} {x : Int} {u : Tok}
theorem append_ints {Q : Value → Shared → Prop} (F : Fr h₀ L s.heap m) (N : News h₀ L s.heap news) (U : Upd D (listOf vs.toArray n) (listOf (vs ++ [Value.int x u]).toArray (n + 1)) news news') (hi : IntsAre vs ns) (hz : ns.length ≤ 1000)
    (h : ∀ h', Fr h₀ L h' m → News h₀ L h' news' → IntsAre (vs ++ [Value.int x u]) (ns ++ [x]) → (ns ++ [x]).length = ns.length + 1 → Q .none { s with heap := h' }) : wpAny (model prog w) A (call (.builtin "list.append") [.ref D, .int x u]) Q E s := by
  refine append_K (its := vs.toArray) (n := n) F N (by simpa using U) (fun h' F' N' => h h' F' N' (IntsAre.append hi (.cons x u .nil)) (by simp)) ?_
  have := hi.length
  rw [List.size_toArray, PySem.sizeLine_eq]
  omega
theorem truthy_ints {Q : Bool → Shared → Prop} (N : News h₀ L s.heap news) (hm : (D, listOf vs.toArray n) ∈ news) (hi : IntsAre vs ns) (hz : ns.length ≤ 1000)
    (h : Q (decide (0 < ns.length)) { s with toks := s.toks + 1 + 1 }) : wpAny (model prog w) A (truthy (.ref D)) Q E s := by
  have hl := hi.length
  refine kgr_truthy N hm rfl rfl (by omega) ?_
  have e : (!vs.isEmpty) = decide (0 < ns.length) := by
    rw [← hl]
    cases vs <;> simp
  rw [e]
  exact h
theorem len_ints {Q : Value → Shared → Prop} (N : News h₀ L s.heap news) (hm : (D, listOf vs.toArray n) ∈ news) (hi : IntsAre vs ns) (hz : ns.length ≤ 1000)
    (h : Q (.int (ns.length : Int) (s.toks + 1)) { s with toks := s.toks + 1 + 1 }) : wpAny (model prog w) A (call (.builtin "len") [.ref D]) Q E s := by
  have hl := hi.length
  have hL : s.heap.IsList D vs.toArray := News.isList N hm
  refine Calls.call_len_list hL ?_ ?_
  · rw [List.size_toArray]; omega
  · rw [List.size_toArray, hl]; exact h
end
end Mine
end
section
open PySem PySem.W PyProof.Rows
set_option maxRecDepth 100000
namespace Mine
theorem ne_of_newsLt {l : List (Addr × Obj)} {d e : Nat} (h : ∀ p ∈ l, p.1 < e) (hd : e ≤ d) : ∀ p ∈ l, p.1 ≠ d := fun p hp q => by
  have := h p hp
  rw [q] at this
  exact absurd (Nat.lt_of_lt_of_le this hd) (Nat.lt_irrefl _)
theorem leN {a b : Nat} (h : a ≤ b) : a ≤ b := h
theorem ap_of {pre tab : List (Addr × Obj)} {e : Nat} (ht : ∀ p ∈ tab, p.1 < e) (hp : ∀ q ∈ pre, @LE.le Nat _ e q.1) : ∀ q ∈ pre, ∀ p ∈ tab, q.1 ≠ p.1 := fun q hq p h r =>
  absurd (Nat.lt_of_lt_of_le (ht p h) (hp q hq)) (r ▸ Nat.lt_irrefl _)
/-- the number of digits -/
def nd (x n : Int) : Int := (((Builtin.Int.intBits x : Nat) : Int) + n - 1).fdiv n
theorem small_cases {P : Int → Prop} {a b : Int} (h : ∀ k : Nat, k < (b - a + 1).toNat → P (a + k)) {x : Int} (h0 : a ≤ x) (h1 : x ≤ b) : P x := by
  have := h (x - a).toNat (by omega)
  have e : a + ((x - a).toNat : Int) = x := by omega
  rwa [e] at this
theorem nd_bounds : ∀ x n : Int, 0 ≤ x → x ≤ 14 → 1 ≤ n → n ≤ 3 → 0 ≤ nd x n ∧ nd x n ≤ 4 ∧ (x = 0 ∨ 0 < nd x n) := by
  have key : ∀ i : Nat, i < 15 → ∀ j : Nat, j < 3 → 0 ≤ nd (0 + i) (1 + j) ∧ nd (0 + i) (1 + j) ≤ 4 ∧ ((0 + (i : Int)) = 0 ∨ 0 < nd (0 + i) (1 + j)) := by decide +kernel
  intro x n h0 h1 h2 h3
  exact small_cases (a := 0) (b := 14) (P := fun x => 0 ≤ nd x n ∧ nd x n ≤ 4 ∧ (x = 0 ∨ 0 < nd x n)) (fun i hi => small_cases (a := 1) (b := 3) (P := fun n => 0 ≤ nd (0 + i) n ∧ nd (0 + i) n ≤ 4 ∧ ((0 + (i : Int)) = 0 ∨ 0 < nd (0 + i) n)) (fun j hj => key i hi j hj) h2 h3) h0 h1
section
variable {prog : Program} {w : World} {A : Around} {E : Value → Shared → Prop} {s : Shared} {x n : Int} {t u : Tok} {Q : Value → Shared → Prop}
theorem fdiv_nd (h0 : 0 ≤ x) (h1 : x ≤ 14) (h2 : 1 ≤ n) (h3 : n ≤ 3) (h : 0 ≤ nd x n → nd x n ≤ 4 → (x = 0 ∨ 0 < nd x n) → Q (.int (nd x n) s.toks) { s with toks := s.toks + 1 }) :
    wpAny (model prog w) A (binaryOp .FloorDiv (.int (((Builtin.Int.intBits x : Nat) : Int) + n - 1) t) (.int n u)) Q E s := by
  obtain ⟨a, b, c⟩ := nd_bounds x n h0 h1 h2 h3
  exact floordiv_int (by omega) (h a b c) (Or.inl (PyProof.noPylong_small (by omega)))
end

/-- the table of a def that makes an inner def: not yet made, or made once -/
inductive TabSt (P : Addr) (ln co : Int) (qual : Str) : List (Addr × Obj) → Prop
  | empty : TabSt P ln co qual [(P, tabObj #[])]
  | full {c : Addr} {oc : Obj} {vs : Array Value} {t : Tok} : oc.data = .fields vs → vs[1]? = some (.str qual t) → TabSt P ln co qual [(P, tabObj #[rawInt ln, rawInt co, .ref c]), (c, oc)]
theorem TabSt.lt {P : Addr} {ln co : Int} {qual : Str} {tab : List (Addr × Obj)} {e : Nat} (h : TabSt P ln co qual tab) (ht : ∀ p ∈ tab, p.1 < e) : @LT.lt Nat _ P e := by
  cases h with
  | empty => exact ht _ (.head _)
  | full => exact ht _ (.head _)
theorem TabSt.apart {P c : Addr} {ln co : Int} {qual : Str} {tab news : List (Addr × Obj)} {o o' : Obj} {e : Nat} (h : TabSt P ln co qual tab) (ha : ∀ q ∈ news, ∀ p ∈ tab, q.1 ≠ p.1) (hc : ∀ q ∈ news, (@Ne Nat q.1 c) ∧ (@LT.lt Nat _ q.1 e)) : ∀ q ∈ news, ∀ p ∈ [(P, o), (c, o')], q.1 ≠ p.1 := by
  intro q hq p hp
  simp only [List.mem_cons, List.not_mem_nil, or_false] at hp
  rcases hp with rfl | rfl
  · cases h with
    | empty => exact ha q hq (P, tabObj #[]) (.head _)
    | @full c' => exact ha q hq (P, tabObj #[rawInt ln, rawInt co, .ref c']) (.head _)
  · exact (hc q hq).1
theorem newsLt_trans {l : List (Addr × Obj)} {d e : Nat} (h : ∀ p ∈ l, p.1 < e) (hd : e ≤ d) : ∀ p ∈ l, p.1 < d := fun p hp => Nat.lt_of_lt_of_le (h p hp) hd
theorem TabSt.ne {P l : Addr} {ln co : Int} {qual : Str} {tab : List (Addr × Obj)} (h : TabSt P ln co qual tab) (ha : ∀ p ∈ tab, l ≠ p.1) : l ≠ P := by
  cases h with
  | empty => exact ha (P, tabObj #[]) (.head _)
  | @full c' => exact ha (P, tabObj #[rawInt ln, rawInt co, .ref c']) (.head _)
theorem updF_mid {d : Addr} {o : Obj} {post : List (Addr × Obj)} (hq : ∀ p ∈ post, p.1 ≠ d) : ∀ {pre : List (Addr × Obj)}, (∀ p ∈ pre, p.1 ≠ d) → UpdF d o (pre ++ (d, o) :: post) (fun o' => pre ++ (d, o') :: post)
  | [], _ => .head hq
  | p :: _, h => .tail (h p (.head _)) (updF_mid hq fun q hq' => h q (.tail _ hq'))
section
variable {M : Model} {A : Around} {E : Value → Shared → Prop} {s : Shared} {h₀ : Heap} {L a c P : Addr} {m mg mb : Str → Option Value} {cn : Str} {cs : Scope} {ccd : Value} {cl : List (Str × Addr)} {pre tab rest : List (Addr × Obj)}
  {p : Program} {loose : List Str} {mean : ExcName → Option Value} {name qual : Str} {params : Arguments} {body : List Stmt} {scope : Scope} {pos : Pos} {firstLine : Nat} {clos : List (Str × Addr)}
theorem nest_any {Q : Value → Shared → Prop} (F : Fr h₀ L s.heap m) (N : News h₀ L s.heap (pre ++ (tab ++ rest))) (T : Top p loose mean mg mb h₀) (C : CodeHd h₀ c P) (hcd : ccd = .ref c) (hst : TabSt P pos.line pos.col qual tab)
    (hap : ∀ q ∈ pre, ∀ p ∈ tab, q.1 ≠ p.1) (har : ∀ q ∈ rest, ∀ p ∈ tab, q.1 ≠ p.1) (hcl : closureFor scope (envX cn cs L a ccd cl) = pure clos)
    (h : ∀ f c' oc vs t ctv doc h' tk, Fr h₀ L h' m →
      News h₀ L h' ((f, fnMade name qual params body scope clos doc ((mg "__name__").getD .none) c' ctv) :: (c', oc) :: (pre ++ ((P, tabObj #[rawInt pos.line, rawInt pos.col, .ref c']) :: rest))) →
      oc.data = .fields vs → vs[1]? = some (.str qual t) → (∀ q ∈ pre, (@Ne Nat q.1 c') ∧ (@LT.lt Nat _ q.1 f)) → (∀ q ∈ rest, (@Ne Nat q.1 c') ∧ (@LT.lt Nat _ q.1 f)) → (@LT.lt Nat _ c' f) → (@Ne Nat P c') → Q (.ref f) { s with heap := h', toks := tk }) :
    wpAny M A (makeFunction name qual params (.stmts body) scope (envX cn cs L a ccd cl) [] [] [] pos firstLine) Q E s := by
  cases hst with
  | empty =>
    refine nest_K F N T C hcd (updF_mid (fun q hq => har q hq _ (.head _)) (fun q hq => hap q hq _ (.head _))) True.intro rfl hcl ?_
    intro f c' oc vs t ctv doc h' tk F' N' d1 d2 l1 l2
    have e : (#[] ++ #[rawInt pos.line, rawInt pos.col, .ref c'] : Array Value) = #[rawInt pos.line, rawInt pos.col, .ref c'] := by simp
    rw [e] at N'
    have l3 : ∀ q ∈ pre ++ rest, q.1 < c' := fun q hq => l1 q (by
      rcases List.mem_append.mp hq with hq | hq
      · exact List.mem_append_left _ hq
      · exact List.mem_append_right _ (.tail _ hq))
    exact h f c' oc vs t ctv doc h' tk F' N' d1 d2 (fun q hq => ⟨Nat.ne_of_lt (l3 q (List.mem_append_left _ hq)), Nat.lt_trans (l3 q (List.mem_append_left _ hq)) l2⟩)
      (fun q hq => ⟨Nat.ne_of_lt (l3 q (List.mem_append_right _ hq)), Nat.lt_trans (l3 q (List.mem_append_right _ hq)) l2⟩) l2 (Nat.ne_of_lt (l1 _ (List.mem_append_right _ (.head _))))
  | @full c' oc vs t d1 d2 =>
    have hPc : P ≠ c' := fun e => by
      have a1 := (N (P, tabObj #[rawInt pos.line, rawInt pos.col, .ref c']) (List.mem_append_right _ (.head _))).1
      have a2 := (N (c', oc) (List.mem_append_right _ (.tail _ (.head _)))).1
      simp only at a1 a2
      rw [e, a2] at a1
      cases a1
      have d3 : #[rawInt pos.line, rawInt pos.col, .ref c'] = vs := by cases d1; rfl
      rw [← d3] at d2
      simp [rawInt] at d2
    refine nestHit_K (c' := c') F N T C hcd (List.mem_append_right _ (.head _)) (by simp [TriplesOk, rawInt]) (by simp [codeAmong, rawInt]) hcl ?_
    intro f ctv doc h' tk F' N' l1
    refine h f c' oc vs t ctv doc h' tk F' ?_ d1 d2 (fun q hq => ⟨hap q hq _ (.tail _ (.head _)), l1 q (List.mem_append_left _ hq)⟩)
      (fun q hq => ⟨har q hq _ (.tail _ (.head _)), l1 q (List.mem_append_right _ (.tail _ (.tail _ hq)))⟩) (l1 _ (List.mem_append_right _ (.tail _ (.head _)))) hPc
    refine kst_newsOf N' fun q hq => ?_
    simp only [List.mem_cons, List.mem_append, List.not_mem_nil, or_false] at hq ⊢
    rcases hq with hq | hq | hq | hq | hq <;> simp [hq]
end
/-- the low part, as the text reckons it -/
def lowr (x sh : Int) : Int := Builtin.bitXor x (x.fdiv (2 ^ sh.toNat) * 2 ^ sh.toNat)
theorem part_bounds : ∀ x sh : Int, 0 ≤ x → x ≤ 14 → 0 ≤ sh → sh ≤ 12 → (0 ≤ lowr x sh ∧ lowr x sh ≤ 14) ∧ 0 ≤ x.fdiv (2 ^ sh.toNat) ∧ x.fdiv (2 ^ sh.toNat) ≤ 14 := by
  have key : ∀ i : Nat, i < 15 → ∀ j : Nat, j < 13 → (0 ≤ lowr (0 + i) (0 + j) ∧ lowr (0 + i) (0 + j) ≤ 14) ∧ 0 ≤ (0 + (i : Int)).fdiv (2 ^ (0 + (j : Int)).toNat) ∧ (0 + (i : Int)).fdiv (2 ^ (0 + (j : Int)).toNat) ≤ 14 := by decide +kernel
  intro x n h0 h1 h2 h3
  exact small_cases (a := 0) (b := 14) (P := fun x => (0 ≤ lowr x n ∧ lowr x n ≤ 14) ∧ 0 ≤ x.fdiv (2 ^ n.toNat) ∧ x.fdiv (2 ^ n.toNat) ≤ 14) (fun i hi => small_cases (a := 0) (b := 12) (P := fun n => (0 ≤ lowr (0 + i) n ∧ lowr (0 + i) n ≤ 14) ∧ 0 ≤ (0 + (i : Int)).fdiv (2 ^ n.toNat) ∧ (0 + (i : Int)).fdiv (2 ^ n.toNat) ≤ 14) (fun j hj => key i hi j hj) h2 h3) h0 h1
/-- the digits of x laid into ns from lo up to hi, as inner lays them -/
def dgF : Nat → Int → List Int → Int → Int → Int → List Int
  | 0, _, ns, _, _, _ => ns
  | k + 1, n, ns, x, lo, hi => if lo + 1 = hi then ns.set lo.toNat x else
      dgF k n (dgF k n ns (lowr x (((lo + hi).fdiv 2 - lo) * n)) lo ((lo + hi).fdiv 2)) (x.fdiv (2 ^ (((lo + hi).fdiv 2 - lo) * n).toNat)) ((lo + hi).fdiv 2) hi
/-- the digits' list, as _int2digits gives it -/
def dgs (x n : Int) : List Int := if x = 0 then (List.replicate (nd x n).toNat [0]).flatten else dgF 4 n (List.replicate (nd x n).toNat [0]).flatten x 0 ((List.replicate (nd x n).toNat [(0 : Int)]).flatten.length : Int)
theorem dgs_nz {vs : List Value} {x n : Int} (h : x ≠ 0) (hi : IntsAre vs (dgF 4 n (List.replicate (nd x n).toNat [0]).flatten x 0 ((List.replicate (nd x n).toNat [(0 : Int)]).flatten.length : Int))) : IntsAre vs (dgs x n) := by
  unfold dgs
  rw [if_neg h]
  exact hi
theorem dgs_z {vs : List Value} {x n : Int} (h : x = 0) (hi : IntsAre vs (List.replicate (nd x n).toNat [0]).flatten) : IntsAre vs (dgs x n) := by
  unfold dgs
  rw [if_pos h]
  exact hi
theorem dgF_length : ∀ (k : Nat) (n : Int) (ns : List Int) (x lo hi : Int), (dgF k n ns x lo hi).length = ns.length
  | 0, _, _, _, _, _ => rfl
  | k + 1, n, ns, x, lo, hi => by
    unfold dgF
    split
    · simp
    · rw [dgF_length k, dgF_length k]
theorem dg_leaf {vs : List Value} {k : Nat} {n : Int} {ns : List Int} {x lo hi : Int} (e : lo + 1 = hi) (h : IntsAre vs (ns.set lo.toNat x)) : IntsAre vs (dgF (k + 1) n ns x lo hi) := by
  unfold dgF
  rw [if_pos e]
  exact h
theorem dg_node {vs : List Value} {k : Nat} {n : Int} {ns : List Int} {x lo hi q sh y v : Int} (e : ¬ lo + 1 = hi) (h1 : 2 * q ≤ lo + hi) (h2 : lo + hi < 2 * q + 2) (hs : sh = (q - lo) * n) (hy : y = x.fdiv (2 ^ sh.toNat)) (hv : v = lowr x sh)
    (h : IntsAre vs (dgF k n (dgF k n ns v lo q) y q hi)) : IntsAre vs (dgF (k + 1) n ns x lo hi) := by
  have eq : (lo + hi).fdiv 2 = q := by
    rw [Int.fdiv_eq_ediv_of_nonneg _ (by decide)]
    omega
  unfold dgF
  rw [if_neg e, eq, ← hs, ← hy, ← hv]
  exact h
section
variable {prog : Program} {w : World} {A : Around} {E : Value → Shared → Prop} {s : Shared} {x n y z sh b : Int} {t u : Tok} {Q : Value → Shared → Prop}
theorem mul_sh (h0 : 0 ≤ x) (h1 : x ≤ 4) (h2 : 1 ≤ n) (h3 : n ≤ 3) (h : ∀ c : Int, c = x * n → 0 ≤ c → c ≤ 12 → Q (.int c s.toks) { s with toks := s.toks + 1 }) :
    wpAny (model prog w) A (binaryOp .Mult (.int x t) (.int n u)) Q E s := by
  have a : 0 ≤ x * n := Int.mul_nonneg h0 (by omega)
  have b : x * n ≤ 4 * 3 := Int.mul_le_mul h1 h3 (by omega) (by omega)
  exact mul_int (h _ rfl a (by omega)) (by mul_fits)
theorem shr_sh (h0 : 0 ≤ x) (h1 : x ≤ 14) (h2 : 0 ≤ sh) (h3 : sh ≤ 12) (h : ∀ y : Int, y = x.fdiv (2 ^ sh.toNat) → 0 ≤ y → y ≤ 14 → Q (.int y s.toks) { s with toks := s.toks + 1 }) :
    wpAny (model prog w) A (binaryOp .RShift (.int x t) (.int sh u)) Q E s := by
  obtain ⟨_, a, b⟩ := part_bounds x sh h0 h1 h2 h3
  exact rshift_int h2 (h _ rfl a b)
theorem shl_sh (h0 : 0 ≤ y) (h1 : y ≤ 14) (h2 : 0 ≤ sh) (h3 : sh ≤ 12) (h : ∀ z : Int, z = y * 2 ^ sh.toNat → Q (.int z s.toks) { s with toks := s.toks + 1 }) :
    wpAny (model prog w) A (binaryOp .LShift (.int y t) (.int sh u)) Q E s :=
  lshift_int_small h2 (by omega) (by omega) (h _ rfl)
theorem shl_dv (h0 : 0 ≤ y) (h1 : y ≤ 14) (h2 : 0 ≤ sh) (h3 : sh ≤ 12) (h : Q (.int (y * 2 ^ sh.toNat) s.toks) { s with toks := s.toks + 1 }) :
    wpAny (model prog w) A (binaryOp .LShift (.int y t) (.int sh u)) Q E s :=
  lshift_int_small h2 (by omega) (by omega) h
theorem xor_low (hy : y = x.fdiv (2 ^ sh.toNat)) (hz : z = y * 2 ^ sh.toNat) (h0 : 0 ≤ x) (h1 : x ≤ 14) (h2 : 0 ≤ sh) (h3 : sh ≤ 12) (h : ∀ v : Int, v = lowr x sh → 0 ≤ v → v ≤ 14 → Q (.int v s.toks) { s with toks := s.toks + 1 }) :
    wpAny (model prog w) A (binaryOp .BitXor (.int x t) (.int z u)) Q E s := by
  obtain ⟨⟨a, b⟩, _⟩ := part_bounds x sh h0 h1 h2 h3
  subst hy hz
  exact xor_int (h _ rfl a b)
end

/-- the number of digits ns from lo up to hi, as inner puts it together -/
def dvF : Nat → Int → List Int → Int → Int → Int
  | 0, _, _, _, _ => 0
  | k + 1, n, ns, lo, hi => if lo + 1 = hi then ns.getD lo.toNat 0 else
      dvF k n ns ((lo + hi).fdiv 2) hi * 2 ^ (((lo + hi).fdiv 2 - lo) * n).toNat + dvF k n ns lo ((lo + hi).fdiv 2)
def dvs (ns : List Int) (n : Int) : Int := if 0 < ns.length then dvF 4 n ns 0 (ns.length : Int) else 0
theorem dvF_nonneg {ns : List Int} (h : ∀ i, 0 ≤ ns.getD i 0) : ∀ (k : Nat) (n lo hi : Int), 0 ≤ dvF k n ns lo hi
  | 0, _, _, _ => Int.le_refl 0
  | k + 1, n, lo, hi => by
    unfold dvF
    split
    · exact h _
    · exact Int.add_nonneg (Int.mul_nonneg (dvF_nonneg h k n _ _) (Int.pow_nonneg (by decide))) (dvF_nonneg h k n _ _)
theorem dv_leaf {k : Nat} {n : Int} {ns : List Int} {lo hi : Int} (e : lo + 1 = hi) : ns.getD lo.toNat 0 = dvF (k + 1) n ns lo hi := by
  unfold dvF
  rw [if_pos e]
theorem dv_node {k : Nat} {n : Int} {ns : List Int} {lo hi q sh : Int} (e : ¬ lo + 1 = hi) (h1 : 2 * q ≤ lo + hi) (h2 : lo + hi < 2 * q + 2) (hs : sh = (q - lo) * n) :
    dvF (k + 1) n ns lo hi = dvF k n ns q hi * 2 ^ sh.toNat + dvF k n ns lo q := by
  have eq : (lo + hi).fdiv 2 = q := by
    rw [Int.fdiv_eq_ediv_of_nonneg _ (by decide)]
    omega
  rw [dvF, if_neg e, eq, ← hs]
theorem dv_both {k : Nat} {n : Int} {ns : List Int} {lo hi q sh : Int} (h : ∀ i, 0 ≤ ns.getD i 0) (hv : dvF (k + 1) n ns lo hi ≤ 14) (e : ¬ lo + 1 = hi) (h1 : 2 * q ≤ lo + hi) (h2 : lo + hi < 2 * q + 2) (hs : sh = (q - lo) * n) :
    dvF k n ns q hi ≤ 14 ∧ dvF k n ns lo q ≤ 14 := by
  rw [dv_node e h1 h2 hs] at hv
  have a := dvF_nonneg h k n q hi
  have b := dvF_nonneg h k n lo q
  have p : (1 : Int) ≤ 2 ^ sh.toNat := by
    have : (0 : Int) < 2 ^ sh.toNat := Int.pow_pos (by decide)
    omega
  have m : dvF k n ns q hi * 1 ≤ dvF k n ns q hi * 2 ^ sh.toNat := Int.mul_le_mul_of_nonneg_left p a
  omega
theorem ap_one {tab : List (Addr × Obj)} {e d : Nat} (ht : ∀ p ∈ tab, p.1 < e) (h : e ≤ d) : ∀ p ∈ tab, d ≠ p.1 := fun p hp r =>
  absurd (Nat.lt_of_lt_of_le (ht p hp) h) (r ▸ Nat.lt_irrefl _)
end Mine
end
section
open PySem PySem.W PyProof.Rows PySem.Calls PyProof.V PySem.Spec
set_option maxRecDepth 100000
namespace Mine
/-- a turn's end where the ledger may have grown -/
def GrEnd {σ : Type} (h₀ : Heap) (L : Addr) (s₁ : Shared) (I : Addr) (it : Obj) (Led : σ → List (Addr × Obj)) (ps : σ → List (Str × Value)) (stored : List Str) (x : Str) (m₀ : Str → Option Value) (P : σ → Prop) (s₂ : Shared) : Prop :=
  ∃ (c' : σ) (h' : Heap) (tk : Nat) (m' : Str → Option Value) (news' : List (Addr × Obj)), s₂ = { s₁ with heap := h', toks := tk } ∧ Fr h₀ L h' m' ∧ News h₀ L h' news' ∧ (I, it) ∈ news' ∧ (∀ p ∈ Led c', p ∈ news') ∧ (∀ p ∈ Led c', p.1 ≠ I) ∧ (∀ p ∈ ps c', m' p.1 = some p.2) ∧ (∀ z, z ≠ x → (∀ p ∈ ps c', z ≠ p.1) → stored.contains z = false → m' z = m₀ z) ∧ P c'
def GrPost {σ : Type} (h₀ : Heap) (L : Addr) (s₁ : Shared) (I : Addr) (it : Obj) (Led : σ → List (Addr × Obj)) (ps : σ → List (Str × Value)) (stored : List Str) (x : Str) (m₀ : Str → Option Value) (P : σ → Prop) (Q : Flow → Shared → Prop) (f : Flow) (s₂ : Shared) : Prop :=
  match f with
  | .ret v => Q (.ret v) s₂
  | .brk => Q .next s₂
  | _ => GrEnd h₀ L s₁ I it Led ps stored x m₀ P s₂
theorem GrEnd.intro {σ : Type} {h₀ : Heap} {L : Addr} {s₁ : Shared} {I : Addr} {it : Obj} {Led : σ → List (Addr × Obj)} {ps : σ → List (Str × Value)} {stored : List Str} {x : Str} {m₀ : Str → Option Value} {P : σ → Prop} {h' : Heap} {tk : Nat} {m' : Str → Option Value} {news' : List (Addr × Obj)} (c' : σ)
    (F : Fr h₀ L h' m') (N : News h₀ L h' news') (hI : (I, it) ∈ news') (hs : ∀ p ∈ Led c', p ∈ news') (ho : ∀ p ∈ Led c', p.1 ≠ I) (hk : ∀ p ∈ ps c', m' p.1 = some p.2) (hr : ∀ z, z ≠ x → (∀ p ∈ ps c', z ≠ p.1) → stored.contains z = false → m' z = m₀ z) (hp : P c') :
    GrEnd h₀ L s₁ I it Led ps stored x m₀ P { s₁ with heap := h', toks := tk } := ⟨c', h', tk, m', news', rfl, F, N, hI, hs, ho, hk, hr, hp⟩
section
variable {prog : Program} {w : World} {A : Around} {E : Value → Shared → Prop} {s : Shared} {env : Env} {h₀ : Heap} {x : Str} {body : List Stmt} {Q : Flow → Shared → Prop}
theorem ints_rev : ∀ {vs : List Value} {ns : List Int}, IntsAre vs ns → IntsAre vs.reverse ns.reverse := by
  intro vs ns hi
  induction hi with
  | nil => exact .nil
  | cons i t h ih => rw [List.reverse_cons, List.reverse_cons]; exact IntsAre.append ih (.cons i t .nil)
/-- a loop over a range, the ledger may grow -/
theorem gr_range {σ : Type} {r : Addr} {a₀ b₀ : Int} {t₀ u₀ v₀ : Tok} {n : Nat} {m₀ : Str → Option Value} (Led : σ → List (Addr × Obj)) (ps : σ → List (Str × Value)) (stored : List Str) (P : Nat → σ → Prop) (c₀ : σ)
    (hh : A.handled = none) (hr : IsRange s.heap r a₀ b₀ 1 t₀ u₀ v₀) (hsmall : Builtin.Range.small a₀ b₀ 1 = true) (hn : Builtin.Range.rangeSize a₀ b₀ 1 = (n : Int)) (F : Fr h₀ env.locals s.heap m₀) (N : News h₀ env.locals s.heap (Led c₀)) (hk : ∀ p ∈ ps c₀, m₀ p.1 = some p.2) (hp : P 0 c₀)
    (turn : ∀ (I : Addr) (it : Obj) (c : σ) (i : Nat) t (u : Str → Option Value) h tk, i < n → P i c → (∀ p ∈ Led c₀, p.1 < I) → (∀ p ∈ Led c, p.1 ≠ I) → Fr h₀ env.locals h (fun y => if y = x then some (.int (a₀ + (i : Int)) t) else kstB (fun z => if stored.contains z then u z else m₀ z) (ps c) y) → News h₀ env.locals h ((I, it) :: Led c) →
      wpAny (model prog w) A (execs body env) (GrPost h₀ env.locals { s with heap := h, toks := tk } I it Led ps stored x m₀ (P (i + 1)) Q) E { s with heap := h, toks := tk })
    (done : ∀ (c : σ) (u : Str → Option Value) h tk, P n c → Fr h₀ env.locals h (fun y => if y = x then u y else kstB (fun z => if stored.contains z then u z else m₀ z) (ps c) y) → News h₀ env.locals h (Led c) → Q .next { s with heap := h, toks := tk }) :
    wpAny (model prog w) A (pyIter (.ref r)) (fun it s₂ => LoopAtV prog w A h₀ env x body Q E it s₂) E s := by
  refine iter_rangeUnr hh hr hsmall hn F N ?_
  intro I hI
  have key : ∀ (k i : Nat) (m : Str → Option Value) (news : List (Addr × Obj)), i + k = n → (∃ c : σ, news = Led c ∧ (∀ p ∈ Led c, p.1 ≠ I) ∧ (∀ p ∈ ps c, m p.1 = some p.2) ∧ (∀ z, z ≠ x → (∀ p ∈ ps c, z ≠ p.1) → stored.contains z = false → m z = m₀ z) ∧ P i c) →
      RangeRest prog w A E h₀ env x body Q s I a₀ n k i m news := by
    intro k
    induction k with
    | zero =>
      rintro i m news hi ⟨c, rfl, ho, h1, h2, hp⟩
      refine RangeRest.zero fun h tk F' N' => ?_
      have e : i = n := by omega
      subst e
      exact done c m h tk hp (kst_frOut h1 h2 F') N'
    | succ k ih =>
      rintro i m news hi ⟨c, rfl, ho, h1, h2, hp⟩
      refine RangeRest.succ fun t h tk F' N' => ?_
      refine wpAny_mono (turn I _ c i t m h tk (by omega) hp hI ho (kst_fr h1 h2 F') N') (fun f s₂ p => ?_) fun _ _ e => e
      have up : GrEnd h₀ env.locals { s with heap := h, toks := tk } I (itR (a₀ + ((i + 1 : Nat) : Int)) ((n : Int) - ((i + 1 : Nat) : Int))) Led ps stored x m₀ (P (i + 1)) s₂ →
          UnrEnd h₀ env.locals { s with heap := h, toks := tk } I (itR (a₀ + ((i + 1 : Nat) : Int)) ((n : Int) - ((i + 1 : Nat) : Int))) (RangeRest prog w A E h₀ env x body Q s I a₀ n k (i + 1)) s₂ := by
        rintro ⟨c', h', tk', m', news', rfl, F₂, N₂, hI₂, hs₂, ho₂, hk₂, hr₂, hp₂⟩
        refine UnrEnd.intro F₂ N₂ (Led c') (fun p hp => ?_) ho₂ (ih (i + 1) m' _ (by omega) ⟨c', rfl, ho₂, hk₂, hr₂, hp₂⟩)
        rcases List.mem_cons.mp hp with rfl | hp
        · exact hI₂
        · exact hs₂ p hp
      cases f with
      | ret v => exact p
      | brk => exact p
      | next => exact up p
      | cont => exact up p
  exact key n 0 m₀ (Led c₀) (by omega) ⟨c₀, rfl, fun p hp => Nat.ne_of_lt (hI p hp), hk, fun _ _ _ _ => rfl, hp⟩
/-- a loop over the reverse of a list of ints of the ledger -/
theorem gr_rev {σ : Type} {l I : Addr} {vs : List Value} {ns : List Int} {nn : Nat} {m₀ : Str → Option Value} (Led : σ → List (Addr × Obj)) (ps : σ → List (Str × Value)) (stored : List Str) (P : List Int → σ → Prop) (c₀ : σ)
    (hh : A.handled = none) (F : Fr h₀ env.locals s.heap m₀) (N : News h₀ env.locals s.heap ((I, revObj l ((vs.length : Int) - 1)) :: Led c₀)) (hof : ∀ p ∈ Led c₀, p.1 ≠ I) (hm : ∀ c, (l, listOf vs.toArray nn) ∈ Led c) (hi : IntsAre vs ns) (hk : ∀ p ∈ ps c₀, m₀ p.1 = some p.2) (hp : P ns.reverse c₀)
    (turn : ∀ (it : Obj) (c : σ) (d : Int) (post : List Int) t (u : Str → Option Value) h tk, d ∈ ns → P (d :: post) c → (∀ p ∈ Led c, p.1 ≠ I) → Fr h₀ env.locals h (fun y => if y = x then some (.int d t) else kstB (fun z => if stored.contains z then u z else m₀ z) (ps c) y) → News h₀ env.locals h ((I, it) :: Led c) →
      wpAny (model prog w) A (execs body env) (GrPost h₀ env.locals { s with heap := h, toks := tk } I it Led ps stored x m₀ (P post) Q) E { s with heap := h, toks := tk })
    (done : ∀ (c : σ) (u : Str → Option Value) h tk, P [] c → Fr h₀ env.locals h (fun y => if y = x then u y else kstB (fun z => if stored.contains z then u z else m₀ z) (ps c) y) → News h₀ env.locals h (Led c) → Q .next { s with heap := h, toks := tk }) :
    wpAny (model prog w) A (pyIter (.ref I)) (fun it s₂ => LoopAtV prog w A h₀ env x body Q E it s₂) E s := by
  have offI : ∀ {l' : List (Addr × Obj)}, (∀ p ∈ l', p.1 ≠ I) → OffI I (revObj l ((vs.length : Int) - 1)) l' := by
    intro l'
    induction l' with
    | nil => intro _; trivial
    | cons p r ih => exact fun h => ⟨.inl (h p (.head _)), ih fun q hq => h q (.tail _ hq)⟩
  refine iter_revUnr hh F N (offI hof) (hm c₀) rfl rfl ?_
  have key : ∀ (us : List Value) (ds : List Int) (m : Str → Option Value) (news : List (Addr × Obj)), IntsAre us ds → (∀ d ∈ ds, d ∈ ns) → (∃ c : σ, news = Led c ∧ (∀ p ∈ Led c, p.1 ≠ I) ∧ (∀ p ∈ ps c, m p.1 = some p.2) ∧ (∀ z, z ≠ x → (∀ p ∈ ps c, z ≠ p.1) → stored.contains z = false → m z = m₀ z) ∧ P ds c) →
      RevRest prog w A E h₀ env x body Q s I (l, listOf vs.toArray nn) us m news := by
    intro us ds m news hds
    induction hds generalizing m news with
    | nil =>
      rintro _ ⟨c, rfl, ho, h1, h2, hp⟩
      exact RevRest.zero fun h tk F' N' => done c m h tk hp (kst_frOut h1 h2 F') N'
    | cons d t hr ih =>
      rename_i us ds
      rintro hmem ⟨c, rfl, ho, h1, h2, hp⟩
      refine RevRest.succ fun it h tk _ F' N' => ?_
      refine wpAny_mono (turn it c d ds t m h tk (hmem d (.head _)) hp ho (kst_fr h1 h2 F') N') (fun f s₂ p => ?_) fun _ _ e => e
      have up : GrEnd h₀ env.locals { s with heap := h, toks := tk } I it Led ps stored x m₀ (P ds) s₂ →
          UnrEnd h₀ env.locals { s with heap := h, toks := tk } I it (fun m' n' => (l, listOf vs.toArray nn) ∈ n' ∧ RevRest prog w A E h₀ env x body Q s I (l, listOf vs.toArray nn) us m' n') s₂ := by
        rintro ⟨c', h', tk', m', news', rfl, F₂, N₂, hI₂, hs₂, ho₂, hk₂, hr₂, hp₂⟩
        refine UnrEnd.intro F₂ N₂ (Led c') (fun p hp => ?_) ho₂ ⟨hm c', ih m' _ (fun q hq => hmem q (.tail _ hq)) ⟨c', rfl, ho₂, hk₂, hr₂, hp₂⟩⟩
        rcases List.mem_cons.mp hp with rfl | hp
        · exact hI₂
        · exact hs₂ p hp
      cases f with
      | ret v => exact p
      | brk => exact p
      | next => exact up p
      | cont => exact up p
  exact key _ _ m₀ (Led c₀) (ints_rev hi) (fun d hd => List.mem_reverse.mp hd) ⟨c₀, rfl, hof, hk, fun _ _ _ _ => rfl, hp⟩
end
end Mine
end
section
open PySem PySem.W PyProof.Rows PySem.Calls PyProof.V PySem.Spec
set_option maxRecDepth 100000
namespace Mine
abbrev tupO (its : Array Value) (k : Nat) : Obj := { cls := .type "tuple", data := .seq its k }
/-- the source of a comprehension is a tuple of the ledger -/
def TupSrc (prog : Program) (w : World) (A : Around) (h₀ : Heap) (L : Addr) (m : Str → Option Value) (env : Env) (ct elt : Expr) (x : Str) (scope : Scope) (cl : List (Str × Addr)) (Q : Value → Shared → Prop) (xv : Value) (s₁ : Shared) : Prop :=
  ∃ ax its k news, xv = .ref ax ∧ Fr h₀ L s₁.heap m ∧ News h₀ L s₁.heap news ∧ (ax, tupO its k) ∈ news ∧ its.size ≤ 1000 ∧
    ∀ g : Heap, LCt.CompRestT prog w A h₀ L m env ct elt x scope cl { s₁ with heap := g } (fun nw => (ax, tupO its k) ∈ nw) (fun i v => its[i]? = some v) (LCg.FinE h₀ L m { s₁ with heap := g } Q) its.size 0 [] news
section
variable {prog : Program} {w : World} {A : Around} {E : Value → Shared → Prop} {s : Shared} {h₀ : Heap} {L : Addr} {m : Str → Option Value} {env : Env}
theorem comp_tup {ct elt iter : Expr} {x : Str} {px : Pos} {scope : Scope} {cl : List (Str × Addr)} {pos : Pos} {Q : Value → Shared → Prop} (_F₀ : Fr h₀ L s.heap m) (hh : A.handled = none)
    (hclos : closureFor scope env = pure cl) (hcell : ∀ y ∈ scope.names, y.2 ≠ .cell) (hkind : scope.kind = .function)
    (hnames : ∀ y ∈ scope.names, y.2 = .local → scope.names.lookup y.1 = some .local) (hx : scope.names.lookup x = some .local)
    (h : wpAny (model prog w) A (eval iter env) (TupSrc prog w A h₀ L m env ct elt x scope cl Q) E s)
    (hs : ∀ x, foldedSetIterable iter env x = pure x := by intro _; rfl) :
    wpAny (model prog w) A (eval (.ListComp elt [⟨.Name x px, iter, [ct], 0⟩] scope pos) env) Q E s := by
  rw [eval_ListComp]
  refine wpAny_comprehension_free (use := none) rfl hs hclos hkind hnames (wpAny_mono h (fun xv s₁ h₁ => ?_) fun _ _ e => e)
  obtain ⟨ax, its, k, news, rfl, F, N, hm, hsz, R⟩ := h₁
  have hg : s₁.heap.get? ax = some (tupO its k) := (N _ hm).1
  have ht : s₁.heap.IsTuple ax its := ⟨_, hg, rfl, k, rfl⟩
  have hlt : ax < s₁.heap.objs.size := Heap.lt_size hg
  have push : ∀ (o : Obj) b o', s₁.heap.get? b = some o' → (s₁.heap.push o).get? b = some o' := fun o b o' e => Heap.get?_push_of_some _ e
  refine wpAny_pyIter_tuple ht ?_
  refine LCt.block_T (S := fun nw => (ax, tupO its k) ∈ nw) (Walks.tuple hh s₁.heap.objs.size ax (Nat.ne_of_lt hlt) its) (by rw [PySem.sizeLine_eq]; omega) ?_ ?_ hcell hkind hx ?_ ?_ (F.keeps (push _)) (N.grown (push _)) (Nat.ne_of_lt F.ns.lt) (next_is_new F)
    (fun p hp => Nat.ne_of_lt (Heap.lt_size (N p hp).1)) hm (R _) ?_
  · rintro i h ⟨⟨o, e, _⟩, _⟩
    exact ⟨o, e⟩
  · rintro i h h' o nw ⟨⟨o', q, r⟩, _⟩ e e' kk N' hS
    rw [e] at q
    cases q
    exact ⟨⟨o, e', r⟩, ⟨_, (N' _ hS).1, rfl, k, rfl⟩⟩
  · exact ⟨⟨_, Heap.get?_push_size _ rfl, rfl, rfl⟩, ⟨_, push _ _ _ hg, rfl, k, rfl⟩⟩
  · intro b hb
    show b < (s₁.heap.push _).objs.size
    rw [Heap.size_push]
    rcases List.mem_cons.mp hb with rfl | hb
    · exact Nat.lt_succ_self _
    · rw [List.mem_singleton.mp hb]
      exact Nat.lt_succ_of_lt hlt
  · intro D C h tk m' ys news' F' N' o1 hn hC₀ hD₀ hCL hDL hCD offC fin
    refine ⟨m', hn, fun h'' hs'' => fin D h'' tk (F'.change hs'' hCL hC₀) (fun p hp => ⟨hs''.extBut _ _ ?_ (N' p hp).1, (N' p hp).2⟩) o1⟩
    rcases List.mem_cons.mp hp with rfl | hp
    · exact Ne.symm hCD
    · exact offC p hp
end
end Mine
end
section
open PySem PySem.W PyProof.Rows PySem.Calls PyProof.V PySem.Spec
set_option maxRecDepth 100000
namespace Mine
section
variable {prog : Program} {w : World} {A : Around} {E : Value → Shared → Prop} {s : Shared} {env : Env} {h₀ : Heap} {x : Str} {body : List Stmt} {Q : Flow → Shared → Prop}
/-- a loop over a list of ints of the ledger -/
theorem gr_list {σ : Type} {l : Addr} {vs : List Value} {ns : List Int} {nn : Nat} {m₀ : Str → Option Value} (Led : σ → List (Addr × Obj)) (ps : σ → List (Str × Value)) (stored : List Str) (P : List Int → σ → Prop) (c₀ : σ)
    (hh : A.handled = none) (F : Fr h₀ env.locals s.heap m₀) (N : News h₀ env.locals s.heap (Led c₀)) (hm : ∀ c, (l, listOf vs.toArray nn) ∈ Led c) (hi : IntsAre vs ns) (hk : ∀ p ∈ ps c₀, m₀ p.1 = some p.2) (hp : P [] c₀)
    (turn : ∀ (I : Addr) (it : Obj) (c : σ) (pre : List Int) (d : Int) (post : List Int) t (u : Str → Option Value) h tk, ns = pre ++ d :: post → P pre c → (∀ p ∈ Led c₀, p.1 < I) → (∀ p ∈ Led c, p.1 ≠ I) → Fr h₀ env.locals h (fun y => if y = x then some (.int d t) else kstB (fun z => if stored.contains z then u z else m₀ z) (ps c) y) → News h₀ env.locals h ((I, it) :: Led c) →
      wpAny (model prog w) A (execs body env) (GrPost h₀ env.locals { s with heap := h, toks := tk } I it Led ps stored x m₀ (P (pre ++ [d])) Q) E { s with heap := h, toks := tk })
    (done : ∀ (c : σ) (u : Str → Option Value) h tk, P ns c → Fr h₀ env.locals h (fun y => if y = x then u y else kstB (fun z => if stored.contains z then u z else m₀ z) (ps c) y) → News h₀ env.locals h (Led c) → Q .next { s with heap := h, toks := tk }) :
    wpAny (model prog w) A (pyIter (.ref l)) (fun it s₂ => LoopAtV prog w A h₀ env x body Q E it s₂) E s := by
  refine iter_listUnr hh F N (hm c₀) rfl rfl ?_
  intro I hI
  have key : ∀ (us : List Value) (ds pre : List Int) (m : Str → Option Value) (news : List (Addr × Obj)), IntsAre us ds → ns = pre ++ ds → (∃ c : σ, news = Led c ∧ (∀ p ∈ Led c, p.1 ≠ I) ∧ (∀ p ∈ ps c, m p.1 = some p.2) ∧ (∀ z, z ≠ x → (∀ p ∈ ps c, z ≠ p.1) → stored.contains z = false → m z = m₀ z) ∧ P pre c) →
      ListRest prog w A E h₀ env x body Q s I (l, listOf vs.toArray nn) us m news := by
    intro us ds pre m news hds
    induction hds generalizing m news pre with
    | nil =>
      rintro e ⟨c, rfl, ho, h1, h2, hp⟩
      rw [List.append_nil] at e
      subst e
      exact ListRest.zero fun h tk F' N' => done c m h tk hp (kst_frOut h1 h2 F') N'
    | cons d t hr ih =>
      rename_i us ds
      rintro e ⟨c, rfl, ho, h1, h2, hp⟩
      refine ListRest.succ fun it h tk _ F' N' => ?_
      refine wpAny_mono (turn I it c pre d ds t m h tk e hp hI ho (kst_fr h1 h2 F') N') (fun f s₂ p => ?_) fun _ _ e => e
      have up : GrEnd h₀ env.locals { s with heap := h, toks := tk } I it Led ps stored x m₀ (P (pre ++ [d])) s₂ →
          UnrEnd h₀ env.locals { s with heap := h, toks := tk } I it (fun m' n' => (l, listOf vs.toArray nn) ∈ n' ∧ ListRest prog w A E h₀ env x body Q s I (l, listOf vs.toArray nn) us m' n') s₂ := by
        rintro ⟨c', h', tk', m', news', rfl, F₂, N₂, hI₂, hs₂, ho₂, hk₂, hr₂, hp₂⟩
        refine UnrEnd.intro F₂ N₂ (Led c') (fun p hp => ?_) ho₂ ⟨hm c', ih (pre ++ [d]) m' _ (by rw [e]; simp) ⟨c', rfl, ho₂, hk₂, hr₂, hp₂⟩⟩
        rcases List.mem_cons.mp hp with rfl | hp
        · exact hI₂
        · exact hs₂ p hp
      cases f with
      | ret v => exact p
      | brk => exact p
      | next => exact up p
      | cont => exact up p
  exact key _ _ [] m₀ (Led c₀) hi rfl ⟨c₀, rfl, fun p hp => Nat.ne_of_lt (hI p hp), hk, fun _ _ _ _ => rfl, hp⟩
end
end Mine
end
section
open PySem PySem.W PyProof.Rows PySem.Calls PyProof.V PySem.Spec
set_option maxRecDepth 100000
namespace Mine
section
variable {prog : Program} {w : World} {A : Around} {E : Value → Shared → Prop} {s : Shared} {env : Env} {h₀ : Heap} {target : Expr} {body : List Stmt} {Q : Flow → Shared → Prop}
/-- a loop over a list of the ledger, whatever it holds; the ledger may grow -/
theorem gr_items {σ : Type} {ax : Addr} {lo : Obj} {vs : List Value} {n : Nat} {m₀ : Str → Option Value} (x : Str) (Led : σ → List (Addr × Obj)) (ps : σ → List (Str × Value)) (stored : List Str) (P : List Value → σ → Prop) (c₀ : σ) (hx : stored.contains x = true)
    (hh : A.handled = none) (F : Fr h₀ env.locals s.heap m₀) (N : News h₀ env.locals s.heap (Led c₀)) (hm : ∀ c, (ax, lo) ∈ Led c) (hc : lo.cls = .type "list") (hd : lo.data = .seq vs.toArray n) (hk : ∀ p ∈ ps c₀, m₀ p.1 = some p.2) (hp : P vs c₀)
    (turn : ∀ (I : Addr) (it : Obj) (c : σ) (v : Value) (post : List Value) (u : Str → Option Value) h tk, P (v :: post) c → (∀ p ∈ Led c₀, p.1 < I) → (∀ p ∈ Led c, p.1 ≠ I) → Fr h₀ env.locals h (kstB (fun z => if stored.contains z then u z else m₀ z) (ps c)) → News h₀ env.locals h ((I, it) :: Led c) →
      wpAny (model prog w) A (assign target env v) (fun _ s₂ => wpAny (model prog w) A (execs body env) (GrPost h₀ env.locals { s with heap := h, toks := tk } I it Led ps stored x m₀ (P post) Q) E s₂) E { s with heap := h, toks := tk })
    (done : ∀ (c : σ) (u : Str → Option Value) h tk, P [] c → Fr h₀ env.locals h (kstB (fun z => if stored.contains z then u z else m₀ z) (ps c)) → News h₀ env.locals h (Led c) → Q .next { s with heap := h, toks := tk }) :
    wpAny (model prog w) A (pyIter (.ref ax)) (fun it s₂ => TurnsAt prog w A h₀ env target body Q E it s₂) E s := by
  refine iter_listTurns hh F N (hm c₀) hc hd ?_
  intro I hI
  have key : ∀ (us : List Value) (m : Str → Option Value) (news : List (Addr × Obj)), (∃ c : σ, news = Led c ∧ (∀ p ∈ Led c, p.1 ≠ I) ∧ (∀ p ∈ ps c, m p.1 = some p.2) ∧ (∀ z, z ≠ x → (∀ p ∈ ps c, z ≠ p.1) → stored.contains z = false → m z = m₀ z) ∧ P us c) →
      ItemsRest prog w A E h₀ env target body Q s [(I, "list_iterator")] [(ax, lo)] (us.map .val) m news := by
    intro us
    induction us with
    | nil =>
      rintro m news ⟨c, rfl, ho, h1, h2, hp⟩
      have h2' : ∀ z, (∀ p ∈ ps c, z ≠ p.1) → stored.contains z = false → m z = m₀ z := fun z a b => h2 z (fun e => by rw [e, hx] at b; cases b) a b
      exact ItemsRest.zero fun h tk F' N' => done c m h tk hp (ksw_fr h1 h2' F') N'
    | cons v us ih =>
      rintro m news ⟨c, rfl, ho, h1, h2, hp⟩
      have h2' : ∀ z, (∀ p ∈ ps c, z ≠ p.1) → stored.contains z = false → m z = m₀ z := fun z a b => h2 z (fun e => by rw [e, hx] at b; cases b) a b
      refine ItemsRest.val fun h tk F' => ?_
      intro it _ N'
      refine wpAny_mono (turn I it c v us m h tk hp hI ho (ksw_fr h1 h2' F') N') (fun _ s₂ q => wpAny_mono q (fun f s₃ p => ?_) fun _ _ e => e) fun _ _ e => e
      have up : GrEnd h₀ env.locals { s with heap := h, toks := tk } I it Led ps stored x m₀ (P us) s₃ →
          UnrEndW h₀ env.locals { s with heap := h, toks := tk } [(I, it)] (fun m' n' => SubL [(ax, lo)] n' ∧ ItemsRest prog w A E h₀ env target body Q s [(I, "list_iterator")] [(ax, lo)] (us.map .val) m' n') s₃ := by
        rintro ⟨c', h', tk', m', news', rfl, F₂, N₂, hI₂, hs₂, ho₂, hk₂, hr₂, hp₂⟩
        refine ⟨h', tk', m', Led c', rfl, F₂, fun p hp => ?_, fun p hp q hq => ?_, ⟨hm c', trivial⟩, ih m' _ ⟨c', rfl, ho₂, hk₂, hr₂, hp₂⟩⟩
        · rcases List.mem_cons.mp hp with rfl | hp
          · exact N₂ _ hI₂
          · exact N₂ p (hs₂ p hp)
        · rw [List.mem_singleton.mp hq]
          exact ho₂ p hp
      cases f with
      | ret v => exact p
      | brk => exact p
      | next => exact up p
      | cont => exact up p
  exact key _ m₀ (Led c₀) ⟨c₀, rfl, fun p hp => Nat.ne_of_lt (hI p hp), hk, fun _ _ _ _ => rfl, hp⟩
end
end Mine
end
section
open PySem PySem.W PyProof.Rows
set_option maxRecDepth 100000
set_option maxHeartbeats 8000000
namespace Mine
section
local macro_rules | `(tactic| walk_at "binaryOp RShift int int") => `(tactic| ((with_reducible refine shr_one ?_); intro q hq1 hq2))
local macro_rules | `(tactic| k_all) => `(tactic| assumption)
theorem siftdown {w : World} {mean : ExcName → Option Value} {mg mb : Str → Option Value} {dp un : Nat} {gd : Option (List Code)} {cn : Str} {cs : Scope} {a : Addr} {ccd : Value} {cl : List (Str × Addr)} {outer : List Env} {A₀ : Around} {base h₀ : Heap} {L : Addr} {m : Str → Option Value} {s : Shared} {Q E : Value → Shared → Prop}
  {l : Addr} {vs : List Value} {ns : List Int} {nn : Nat} {p : Int} {t0 t1 : Tok} {news : List (Addr × Obj)}
  (B : Below A₀ base outer h₀) (F : Fr h₀ L s.heap m) (X : (Mine.hd.heap_39 w.params).In h₀) (N : News h₀ L s.heap ((l, listOf vs.toArray nn) :: news)) (T : Top topProg LooseM mean mg mb h₀) (hk : cs.kind = .function)
  (hne : ∀ p ∈ news, p.1 ≠ l) (hi : IntsAre vs ns) (hp0 : 0 ≤ p) (hp : p < (ns.length : Int)) (hlen : ns.length ≤ 100) (hd : dp + 1 < recursionLimit) (hu : un + 8 < cLine)
  (ret : ∀ vs' nn' h' tk', IntsAre vs' (sd ns p.toNat (ns.getD p.toNat 0)) → Fr h₀ L h' m → News h₀ L h' ((l, listOf vs'.toArray nn') :: news) → Q .none { s with heap := h', toks := tk' }) :
  wpAny (model PySem.Challenge.rw_om0048_01.row.prog w) (ktrTop dp un gd cn cs L a ccd cl outer) (call (.ref 35) [.ref l, .int 0 t0, .int p t1]) Q E s := by
  w_on
  revert X; k_fill; intro X
  (k_with "exec While Compare cons nil" => k_while (fun _ pos heap => 0 ≤ pos ∧ pos < (heap.length : Int) ∧ heap.length = ns.length ∧ sd heap pos.toNat (ns.getD p.toNat 0) = sd ns p.toNat (ns.getD p.toNat 0)) (fun _ pos heap => pos.toNat) "pos" "heap")
  (k_with "state" => exact ⟨by omega, by simp only [List.length_set]; omega, by simp only [List.length_set]; omega, sd_turn (by assumption) (by assumption) (by assumption) (by assumption) (by assumption)⟩)
  refine wpAny_call ?_
  k_dflt cell_enter
  k_steps
  all_goals (refine ret _ _ _ _ ?_ (by k_asm) (by k_asm); first | exact sd_endI (by assumption) (by assumption) (by assumption) | exact sd_brkI (by assumption) (by assumption) (by assumption) (by assumption) (by assumption) (by assumption))
end
end Mine
end
section
open PySem PySem.W PyProof.Rows
set_option maxRecDepth 100000
set_option maxHeartbeats 8000000
set_option linter.unusedVariables false
namespace Mine
section
local macro_rules | `(tactic| k_all) => `(tactic| assumption)
local macro_rules | `(tactic| walk_at "call ref") => `(tactic| (k_here; refine (Stp.out ?_)))
theorem siftup {w : World} {mean : ExcName → Option Value} {mg mb : Str → Option Value} {dp un : Nat} {gd : Option (List Code)} {cn : Str} {cs : Scope} {a : Addr} {ccd : Value} {cl : List (Str × Addr)} {outer : List Env} {A₀ : Around} {base h₀ : Heap} {L : Addr} {m : Str → Option Value} {s : Shared} {Q E : Value → Shared → Prop}
  {l : Addr} {vs : List Value} {ns : List Int} {nn : Nat} {t0 : Tok} {news : List (Addr × Obj)}
  (B : Below A₀ base outer h₀) (F : Fr h₀ L s.heap m) (X : (Mine.hd.heap_39 w.params).In h₀) (N : News h₀ L s.heap ((l, listOf vs.toArray nn) :: news)) (T : Top topProg LooseM mean mg mb h₀) (hk : cs.kind = .function)
  (hne : ∀ p ∈ news, p.1 ≠ l) (hi : IntsAre vs ns) (hp : 0 < (ns.length : Int)) (hlen : ns.length ≤ 100) (hd : dp + 2 < recursionLimit) (hu : un + 16 < cLine)
  (ret : ∀ vs' nn' h' tk', IntsAre vs' (su ns 0 (ns.getD 0 0)) → Fr h₀ L h' m → News h₀ L h' ((l, listOf vs'.toArray nn') :: news) → Q .none { s with heap := h', toks := tk' }) :
  wpAny (model PySem.Challenge.rw_om0048_01.row.prog w) (ktrTop dp un gd cn cs L a ccd cl outer) (call (.ref 42) [.ref l, .int 0 t0]) Q E s := by
  w_on
  revert X; k_fill; intro X
  (k_with "exec While Compare cons nil" => k_while (fun _ pos childpos heap => 0 ≤ pos ∧ pos < (heap.length : Int) ∧ childpos = 2 * pos + 1 ∧ heap.length = ns.length ∧ su heap pos.toNat (ns.getD 0 0) = su ns 0 (ns.getD 0 0)) (fun _ pos childpos heap => heap.length - pos.toNat) "pos" "childpos" "heap")
  (k_with "state" => first
    | exact ⟨by omega, by omega, by omega, by omega, rfl⟩
    | exact ⟨by omega, by simp only [List.length_set]; omega, by omega, by simp only [List.length_set]; omega, su_turn (by assumption) (by assumption) (by omega) (by first | exact chd_r (by assumption) (by assumption) (by omega) (by assumption) | exact chd_l (by assumption) (by assumption) (by omega) | exact chd_l2 (by assumption) (by assumption) (by assumption))⟩)
  refine wpAny_call ?_
  k_dflt cell_enter
  (k_steps; repeat' (refine Stp.mk ?_; (first | (k_dflt (refine siftdown (by k_asm) (by k_asm) (by k_asm) (by k_asm) (by k_asm) (by first | exact rfl | assumption) (by assumption) (by assumption) (by omega) (by first | assumption | omega) (by omega) (by ktr_room) (by ktr_units) ?_); intro vs5 nn5 h5 tk5 hi5 F5 N5; (try dsimp only); (try k_fold)) | fail "no call"); k_steps))
  all_goals (refine ret _ _ _ _ ?_ (by k_asm) (by k_asm); (exact su_endI (by assumption) (by assumption) (by assumption) (by omega) (by omega)))
end
end Mine
end
section
open PySem PySem.W PyProof.Rows
local macro_rules | `(tactic| k_all) => `(tactic| assumption)
local macro_rules | `(tactic| walk_at "call builtin:list.append") => `(tactic| (k_here; (show wpAny _ _ (call (Value.builtin _) [Value.ref _, Value.int _ _]) _ _ _); k_dflt (refine Mine.append_ints (by k_asm) (by k_asm) (by k_upd) (by assumption) (by omega) ?_; k_whole); intro h' F' N' hi' hl'; (try k_sweep)))
local macro_rules | `(tactic| walk_at "truthy ref") => `(tactic| (k_here; (with_reducible show wpAny _ _ (truthy (Value.ref _)) _ _ _); k_dflt (refine Mine.truthy_ints (by k_asm) (by k_mem) (by assumption) (by first | omega | (simp only [List.length_dropLast, List.length_set, List.length_append, List.length_cons, List.length_nil]; omega)) ?_; k_whole)))
local macro_rules | `(tactic| walk_at "call builtin:len") => `(tactic| (k_here; (with_reducible show wpAny _ _ (call (Value.builtin _) [Value.ref _]) _ _ _); k_dflt (refine Mine.len_ints (by k_asm) (by k_mem) (by assumption) (by first | omega | (simp only [List.length_dropLast, List.length_set, List.length_append, List.length_cons, List.length_nil]; omega)) ?_; k_whole)))
local macro_rules | `(tactic| walk_at "call ref") => `(tactic| (k_here; refine (Mine.Stp.out ?_)))
section
open PySem PySem.W PyProof.Rows
set_option maxRecDepth 100000
set_option maxHeartbeats 8000000
set_option linter.unusedVariables false
namespace Mine
def pushF (ns : List Int) (x : Int) : List Int := sd (ns ++ [x]) ns.length x
def popL (ns : List Int) : List Int := if 0 < ns.dropLast.length then su (ns.dropLast.set 0 (ns.getLastD 0)) 0 ((ns.dropLast.set 0 (ns.getLastD 0)).getD 0 0) else []
def popV (ns : List Int) : Int := if 0 < ns.dropLast.length then ns.dropLast.getD 0 0 else ns.getLastD 0
theorem push_end {vs : List Value} {ns : List Int} {x p : Int} (hi : IntsAre vs (sd (ns ++ [x]) p.toNat ((ns ++ [x]).getD p.toNat 0))) (e : p = (ns.length : Int)) : IntsAre vs (pushF ns x) := by
  subst e
  simpa [pushF] using hi
theorem pop_end1 {vs : List Value} {ns : List Int} {t : Tok} {s : Shared} {Q : Value → Shared → Prop} (hi : IntsAre vs (su (ns.dropLast.set (Int.toNat 0) (ns.getLastD 0)) 0 ((ns.dropLast.set (Int.toNat 0) (ns.getLastD 0)).getD 0 0))) (h0 : 0 < ns.dropLast.length)
    (ret : IntsAre vs (popL ns) → Q (.int (popV ns) t) s) : Q (.int (ns.dropLast.getD (Int.toNat 0) 0) t) s := by
  have e1 : popV ns = ns.dropLast.getD 0 0 := if_pos h0
  have e2 : popL ns = su (ns.dropLast.set 0 (ns.getLastD 0)) 0 ((ns.dropLast.set 0 (ns.getLastD 0)).getD 0 0) := if_pos h0
  rw [e1, e2] at ret
  exact ret hi
theorem pop_end2 {vs : List Value} {ns : List Int} {t : Tok} {s : Shared} {Q : Value → Shared → Prop} (hi : IntsAre vs ns.dropLast) (h0 : ¬ 0 < ns.dropLast.length)
    (ret : IntsAre vs (popL ns) → Q (.int (popV ns) t) s) : Q (.int (ns.getLastD 0) t) s := by
  have e1 : popV ns = ns.getLastD 0 := if_neg h0
  have e2 : popL ns = [] := if_neg h0
  have e3 : ns.dropLast = [] := List.length_eq_zero_iff.mp (by omega)
  rw [e1, e2] at ret
  rw [e3] at hi
  exact ret hi
section
theorem heappush {w : World} {mean : ExcName → Option Value} {mg mb : Str → Option Value} {dp un : Nat} {gd : Option (List Code)} {cn : Str} {cs : Scope} {a : Addr} {ccd : Value} {cl : List (Str × Addr)} {outer : List Env} {A₀ : Around} {base h₀ : Heap} {L : Addr} {m : Str → Option Value} {s : Shared} {Q E : Value → Shared → Prop}
  {l : Addr} {vs : List Value} {ns : List Int} {nn : Nat} {x : Int} {t0 : Tok} {news : List (Addr × Obj)}
  (B : Below A₀ base outer h₀) (F : Fr h₀ L s.heap m) (X : (Mine.hd.heap_39 w.params).In h₀) (N : News h₀ L s.heap ((l, listOf vs.toArray nn) :: news)) (T : Top topProg LooseM mean mg mb h₀) (hk : cs.kind = .function)
  (hne : ∀ p ∈ news, p.1 ≠ l) (hi : IntsAre vs ns) (hlen : ns.length < 100) (hd : dp + 2 < recursionLimit) (hu : un + 16 < cLine)
  (ret : ∀ vs' nn' h' tk', IntsAre vs' (pushF ns x) → Fr h₀ L h' m → News h₀ L h' ((l, listOf vs'.toArray nn') :: news) → Q .none { s with heap := h', toks := tk' }) :
  wpAny (model PySem.Challenge.rw_om0048_01.row.prog w) (ktrTop dp un gd cn cs L a ccd cl outer) (call (.ref 21) [.ref l, .int x t0]) Q E s := by
  w_on
  revert X; k_fill; intro X
  have hvl := IntsAre.length hi
  refine wpAny_call ?_
  k_dflt cell_enter
  (k_steps; repeat' (refine Stp.mk ?_; (first | (k_dflt (refine siftup (by k_asm) (by k_asm) (by k_asm) (by k_asm) (by k_asm) (by first | exact rfl | assumption) (by assumption) (by assumption) (by (simp only [List.length_set] at *; omega)) (by (simp only [List.length_set, List.length_dropLast]; omega)) (by ktr_room) (by ktr_units) ?_); intro vs5 nn5 h5 tk5 hi5 F5 N5; (try dsimp only); (try k_fold)) | (k_dflt (refine siftdown (by k_asm) (by k_asm) (by k_asm) (by k_asm) (by k_asm) (by first | exact rfl | assumption) (by assumption) (by l_ints) (by (simp only [List.length_append, List.length_cons, List.length_nil]; omega)) (by (simp only [List.length_append, List.length_cons, List.length_nil]; omega)) (by (simp only [List.length_append, List.length_cons, List.length_nil]; omega)) (by ktr_room) (by ktr_units) ?_); intro vs5 nn5 h5 tk5 hi5 F5 N5; (try dsimp only); (try k_fold)) | fail "no call"); k_steps))
  all_goals (refine ret _ _ _ _ ?_ (by k_asm) (by k_asm); exact push_end (by assumption) (by omega))
theorem heappop {w : World} {mean : ExcName → Option Value} {mg mb : Str → Option Value} {dp un : Nat} {gd : Option (List Code)} {cn : Str} {cs : Scope} {a : Addr} {ccd : Value} {cl : List (Str × Addr)} {outer : List Env} {A₀ : Around} {base h₀ : Heap} {L : Addr} {m : Str → Option Value} {s : Shared} {Q E : Value → Shared → Prop}
  {l : Addr} {vs : List Value} {ns : List Int} {nn : Nat} {news : List (Addr × Obj)}
  (B : Below A₀ base outer h₀) (F : Fr h₀ L s.heap m) (X : (Mine.hd.heap_39 w.params).In h₀) (N : News h₀ L s.heap ((l, listOf vs.toArray nn) :: news)) (T : Top topProg LooseM mean mg mb h₀) (hk : cs.kind = .function)
  (hne : ∀ p ∈ news, p.1 ≠ l) (hi : IntsAre vs ns) (hpos : 0 < ns.length) (hlen : ns.length ≤ 100) (hd : dp + 3 < recursionLimit) (hu : un + 24 < cLine)
  (ret : ∀ t vs' nn' h' tk', IntsAre vs' (popL ns) → Fr h₀ L h' m → News h₀ L h' ((l, listOf vs'.toArray nn') :: news) → Q (.int (popV ns) t) { s with heap := h', toks := tk' }) :
  wpAny (model PySem.Challenge.rw_om0048_01.row.prog w) (ktrTop dp un gd cn cs L a ccd cl outer) (call (.ref 28) [.ref l]) Q E s := by
  w_on
  revert X; k_fill; intro X
  have hvl := IntsAre.length hi
  refine wpAny_call ?_
  k_dflt cell_enter
  (k_steps; repeat' (refine Stp.mk ?_; (first | (k_dflt (refine siftup (by k_asm) (by k_asm) (by k_asm) (by k_asm) (by k_asm) (by first | exact rfl | assumption) (by assumption) (by assumption) (by (simp only [List.length_set] at *; omega)) (by (simp only [List.length_set, List.length_dropLast]; omega)) (by ktr_room) (by ktr_units) ?_); intro vs5 nn5 h5 tk5 hi5 F5 N5; (try dsimp only); (try k_fold)) | (k_dflt (refine siftdown (by k_asm) (by k_asm) (by k_asm) (by k_asm) (by k_asm) (by first | exact rfl | assumption) (by assumption) (by l_ints) (by (simp only [List.length_append, List.length_cons, List.length_nil]; omega)) (by (simp only [List.length_append, List.length_cons, List.length_nil]; omega)) (by (simp only [List.length_append, List.length_cons, List.length_nil]; omega)) (by ktr_room) (by ktr_units) ?_); intro vs5 nn5 h5 tk5 hi5 F5 N5; (try dsimp only); (try k_fold)) | fail "no call"); k_steps))
  · exact pop_end1 (by assumption) (by assumption) fun h => ret _ _ _ _ _ h (by k_asm) (by k_asm)
  · exact pop_end2 (by assumption) (by assumption) fun h => ret _ _ _ _ _ h (by k_asm) (by k_asm)
end
end Mine
end
section
open PySem PySem.W PyProof.Rows
set_option maxRecDepth 100000
set_option maxHeartbeats 8000000
set_option linter.unusedVariables false
namespace Mine

/-- the heap's order -/
def Stands (ns : List Int) : Prop := ∀ k : Nat, 1 ≤ k → k < ns.length → ns.getD ((k - 1) / 2) 0 ≤ ns.getD k 0
theorem stands_no {ns : List Int} {k : Int} (h : Stands ns) (h1 : 1 ≤ k) (h2 : k < 1 + (((ns.length : Int) - 1).toNat : Int)) (hx : ns.getD k.toNat 0 < ns.getD ((k - 1).fdiv 2).toNat 0) : False := by
  have e : ((k - 1).fdiv 2).toNat = (k.toNat - 1) / 2 := by
    rw [Int.fdiv_eq_ediv_of_nonneg _ (by decide)]
    omega
  rw [e] at hx
  have := h k.toNat (by omega) (by omega)
  omega
theorem fold_const (ks : List Int) (l : List Int) : List.foldl (fun a (_ : Int) => a) l ks = l := by
  induction ks with
  | nil => rfl
  | cons k r ih => exact ih
section
theorem stands {w : World} {mean : ExcName → Option Value} {mg mb : Str → Option Value} {dp un : Nat} {gd : Option (List Code)} {cn : Str} {cs : Scope} {a : Addr} {ccd : Value} {cl : List (Str × Addr)} {outer : List Env} {A₀ : Around} {base h₀ : Heap} {L : Addr} {m : Str → Option Value} {s : Shared} {Q E : Value → Shared → Prop}
  {l : Addr} {vs : List Value} {ns : List Int} {nn : Nat} {news : List (Addr × Obj)}
  (B : Below A₀ base outer h₀) (F : Fr h₀ L s.heap m) (X : (Mine.hd.heap_39 w.params).In h₀) (N : News h₀ L s.heap ((l, listOf vs.toArray nn) :: news)) (T : Top topProg LooseM mean mg mb h₀) (hk : cs.kind = .function)
  (hne : ∀ p ∈ news, p.1 ≠ l) (hi : IntsAre vs ns) (hlen : ns.length ≤ 100) (hst : Stands ns) (hd : dp + 2 < recursionLimit) (hu : un + 100 < cLine)
  (ret : ∀ h' tk', Fr h₀ L h' m → News h₀ L h' ((l, listOf vs.toArray nn) :: news) → Q (.bool true) { s with heap := h', toks := tk' }) :
  wpAny (model PySem.Challenge.rw_om0048_01.row.prog w) (ktrTop dp un gd cn cs L a ccd cl outer) (call (.ref 89) [.ref l]) Q E s := by
  w_on
  revert X; k_fill; intro X
  have hvl := IntsAre.length hi
  refine wpAny_call ?_
  k_dflt (refine' code_defC ?k1 ?k2 ?k3 ?k4 ?k5 ?kA ?kF ?kK ?k6 ?k7 ?k8 ?k9 ?kB ?kD ?_ ?c2 ?c3 ?c4; (case kA => exact rfl); (case kF => exact rfl); (case kK => assumption); (case k1 => k_asm); (case k2 => k_asm); (case k3 => k_asm); (case k4 => k_asm); (case k5 => k_asm); (case k6 => k_is); (case k7 => k_is); (case k8 => ktr_room); (case k9 => exact BindsTo.of_eq rfl); (case kB => exact rfl); (case kD => decide +kernel); (case c2 => exact rfl); (case c3 => exact rfl); (case c4 => exact rfl); k_whole; intro g' L' h' tk' cells' FG' F' N' Y' B' X' T' l1; (try k_lt l1); k_cells Y'; (try simp only [List.cons_append, List.nil_append] at N'); (try dsimp only); (try k_lift B'); (try k_fold))
  k_steps
  · exfalso; exact stands_no hst (by assumption) (by assumption) (by assumption)
  · exact LCg.CompEnd.intro (by k_asm) (by k_asm) _ (fun _ h => h) (by assumption) trivial (kci_no rfl rfl)
  · simp only [fold_const]
    exact ret _ _ (by k_asm) (kst_newsOf (by k_asm) (fun p h => by first | exact h | (simp only [List.mem_cons] at h ⊢; simp only [h, true_or, or_true])))
end
end Mine
end
section
namespace Mine
theorem gset_eq {l : List Int} {i : Nat} (b : Int) (h : i < l.length) : (l.set i b).getD i 0 = b := by
  simp [List.getD_eq_getElem?_getD, h]
theorem gset_ne {l : List Int} {i j : Nat} (b : Int) (h : i ≠ j) : (l.set i b).getD j 0 = l.getD j 0 := by
  simp [List.getD_eq_getElem?_getD, h]
theorem cnt_set (a b : Int) : ∀ (l : List Int) (i : Nat), i < l.length → (l.set i b).count a + (if l.getD i 0 = a then 1 else 0) = l.count a + (if b = a then 1 else 0)
  | [], _, h => absurd h (Nat.not_lt_zero _)
  | c :: r, 0, _ => by
    simp only [List.set_cons_zero, List.count_cons, List.getD_cons_zero, beq_iff_eq]
    omega
  | c :: r, i + 1, h => by
    have := cnt_set a b r i (by simpa using h)
    simp only [List.set_cons_succ, List.count_cons, List.getD_cons_succ, beq_iff_eq]
    omega
theorem cnt_swap (a x : Int) (l : List Int) (i j : Nat) (hi : i < l.length) (hj : j < l.length) (hne : i ≠ j) : ((l.set i (l.getD j 0)).set j x).count a = (l.set i x).count a := by
  have h1 := cnt_set a x (l.set i (l.getD j 0)) j (by simpa using hj)
  have h2 := cnt_set a (l.getD j 0) l i hi
  have h3 := cnt_set a x l i hi
  rw [gset_ne _ hne] at h1
  omega
theorem sd_length (ns : List Int) (pos : Nat) (x : Int) : (sd ns pos x).length = ns.length := by
  fun_induction sd ns pos x with
  | case1 ns pos h hx ih => rw [ih]; simp
  | case2 => simp
  | case3 => simp
theorem sd_cnt (a : Int) (ns : List Int) (pos : Nat) (x : Int) (h : pos < ns.length) : (sd ns pos x).count a = (ns.set pos x).count a := by
  fun_induction sd ns pos x with
  | case1 ns pos h0 hx ih =>
    rw [ih (by simp; omega)]
    exact cnt_swap a x ns pos ((pos - 1) / 2) h (by omega) (by omega)
  | case2 => rfl
  | case3 => rfl
/-- all stands but at the hole pos, where x is to come -/
def Hole (ns : List Int) (pos : Nat) (x : Int) : Prop := ∀ k, 1 ≤ k → k < ns.length → k ≠ pos → ((k - 1) / 2 ≠ pos → ns.getD ((k - 1) / 2) 0 ≤ ns.getD k 0) ∧ ((k - 1) / 2 = pos → x ≤ ns.getD k 0 ∧ (1 ≤ pos → ns.getD ((pos - 1) / 2) 0 ≤ ns.getD k 0))
theorem hole_fill {ns : List Int} {pos : Nat} {x : Int} (h : pos < ns.length) (H : Hole ns pos x) (hx : 1 ≤ pos → ns.getD ((pos - 1) / 2) 0 ≤ x) : Stands (ns.set pos x) := by
  intro k h1 h2
  rw [List.length_set] at h2
  by_cases hk : k = pos
  · subst hk
    rw [gset_eq _ h, gset_ne _ (by omega)]
    exact hx h1
  · rw [gset_ne (j := k) _ (fun e => hk e.symm)]
    have Hk := H k h1 h2 hk
    by_cases hp : (k - 1) / 2 = pos
    · rw [hp, gset_eq _ h]; exact (Hk.2 hp).1
    · rw [gset_ne _ (fun e => hp e.symm)]; exact Hk.1 hp
theorem sd_stands (ns : List Int) (pos : Nat) (x : Int) (h : pos < ns.length) (H : Hole ns pos x) : Stands (sd ns pos x) := by
  fun_induction sd ns pos x with
  | case1 ns pos h0 hx ih =>
    refine ih (by simp; omega) ?_
    intro k h1 h2 h3
    rw [List.length_set] at h2
    have Hk := H k h1 h2
    have Hp : 1 ≤ (pos - 1) / 2 → ns.getD (((pos - 1) / 2 - 1) / 2) 0 ≤ ns.getD ((pos - 1) / 2) 0 := fun hh => (H ((pos - 1) / 2) hh (by omega) (by omega)).1 (by omega)
    by_cases hk : k = pos
    · subst hk
      refine ⟨fun e => absurd rfl e, fun _ => ⟨?_, fun hh => ?_⟩⟩
      · rw [gset_eq _ h]; omega
      · rw [gset_eq _ h, gset_ne _ (by omega)]
        exact Hp hh
    · have Hk' := Hk hk
      rw [gset_ne (j := k) _ (fun e => hk e.symm)]
      by_cases hp : (k - 1) / 2 = pos
      · refine ⟨fun _ => ?_, fun e => by omega⟩
        rw [hp, gset_eq _ h]
        exact (Hk'.2 hp).2 (by omega)
      · have Hk2 := Hk'.1 hp
        refine ⟨fun _ => ?_, fun e => ⟨?_, fun hh => ?_⟩⟩
        · rw [gset_ne _ (fun e => hp e.symm)]; exact Hk2
        · rw [e] at Hk2; omega
        · rw [gset_ne _ (by omega)]
          have := Hp hh
          rw [e] at Hk2; omega
  | case2 ns pos h0 hx => exact hole_fill h H (fun _ => by omega)
  | case3 ns pos h0 => exact hole_fill h H (fun _ => by omega)
theorem chd_or (ns : List Int) (pos : Nat) : chd ns pos = 2 * pos + 1 ∨ chd ns pos = 2 * pos + 2 := by
  unfold chd; split
  · exact .inr rfl
  · exact .inl rfl
theorem chd_le {ns : List Int} {pos k : Nat} (hk : (k - 1) / 2 = pos) (h1 : 1 ≤ k) (h2 : k < ns.length) : ns.getD (chd ns pos) 0 ≤ ns.getD k 0 := by
  have e : k = 2 * pos + 1 ∨ k = 2 * pos + 2 := by omega
  unfold chd
  split
  · rename_i c
    rcases e with rfl | rfl <;> omega
  · rename_i c
    rcases e with rfl | rfl
    · exact Int.le_refl _
    · have := Classical.not_and_iff_not_or_not.mp c
      rcases this with h | h
      · omega
      · have := Classical.not_not.mp h; omega
theorem su_length (ns : List Int) (pos : Nat) (x : Int) : (su ns pos x).length = ns.length := by
  fun_induction su ns pos x with
  | case1 ns pos h ih => rw [ih]; simp
  | case2 => rw [sd_length]; simp
theorem su_cnt (a : Int) (ns : List Int) (pos : Nat) (x : Int) (h : pos < ns.length) : (su ns pos x).count a = (ns.set pos x).count a := by
  fun_induction su ns pos x with
  | case1 ns pos hc ih =>
    have h1 := chd_lt hc
    have h2 := chd_gt ns pos
    rw [ih (by simpa using h1)]
    exact cnt_swap a x ns pos (chd ns pos) h h1 (by omega)
  | case2 ns pos hc =>
    rw [sd_cnt a _ _ _ (by simpa using h)]
    simp
/-- all stands but at the hole pos, on the way down -/
def Down (ns : List Int) (pos : Nat) : Prop := ∀ k, 1 ≤ k → k < ns.length → k ≠ pos → ((k - 1) / 2 ≠ pos → ns.getD ((k - 1) / 2) 0 ≤ ns.getD k 0) ∧ ((k - 1) / 2 = pos → 1 ≤ pos → ns.getD ((pos - 1) / 2) 0 ≤ ns.getD k 0)
theorem su_stands (ns : List Int) (pos : Nat) (x : Int) (h : pos < ns.length) (H : Down ns pos) : Stands (su ns pos x) := by
  fun_induction su ns pos x with
  | case1 ns pos hc ih =>
    have c1 := chd_lt hc
    have c2 := chd_gt ns pos
    have c3 := chd_or ns pos
    refine ih (by simpa using c1) ?_
    intro k h1 h2 h3
    rw [List.length_set] at h2
    by_cases hk : k = pos
    · subst hk
      refine ⟨fun _ => ?_, fun e => by omega⟩
      rw [gset_eq _ h, gset_ne _ (by omega)]
      exact (H (chd ns k) (by omega) c1 (by omega)).2 (by omega) h1
    · have Hk := H k h1 h2 hk
      rw [gset_ne (j := k) _ (fun e => hk e.symm)]
      by_cases hp : (k - 1) / 2 = pos
      · refine ⟨fun _ => ?_, fun e => by omega⟩
        rw [hp, gset_eq _ h]
        exact chd_le hp h1 h2
      · refine ⟨fun _ => ?_, fun e _ => ?_⟩
        · rw [gset_ne _ (fun e => hp e.symm)]; exact Hk.1 hp
        · have e2 : (chd ns pos - 1) / 2 = pos := by omega
          rw [e2, gset_eq _ h, ← e]
          exact Hk.1 hp
  | case2 ns pos hc =>
    refine sd_stands _ _ _ (by simpa using h) ?_
    intro k h1 h2 h3
    rw [List.length_set] at h2
    have Hk := H k h1 h2 h3
    refine ⟨fun hp => ?_, fun hp => by omega⟩
    rw [gset_ne _ (fun e => h3 e.symm), gset_ne _ (fun e => hp e.symm)]
    exact Hk.1 hp
end Mine
end
section
namespace Mine
theorem push_stands {ns : List Int} {x : Int} (h : Stands ns) : Stands (pushF ns x) := by
  refine sd_stands _ _ _ (by simp) ?_
  intro k h1 h2 h3
  simp only [List.length_append, List.length_cons, List.length_nil] at h2
  have hk : k < ns.length := by omega
  refine ⟨fun _ => ?_, fun e => by omega⟩
  have := h k h1 hk
  simp only [List.getD_eq_getElem?_getD] at this ⊢
  rw [List.getElem?_append_left hk, List.getElem?_append_left (by omega)]
  exact this
theorem push_cnt (a : Int) (ns : List Int) (x : Int) : (pushF ns x).count a = ns.count a + (if x = a then 1 else 0) := by
  unfold pushF
  rw [sd_cnt a _ _ _ (by simp)]
  have h := cnt_set a x (ns ++ [x]) ns.length (by simp)
  have e : (ns ++ [x]).getD ns.length 0 = x := by simp [List.getD_eq_getElem?_getD]
  rw [e] at h
  have e2 : (ns ++ [x]).count a = ns.count a + (if x = a then 1 else 0) := by
    simp [List.count_append, List.count_singleton]
  omega
theorem push_length (ns : List Int) (x : Int) : (pushF ns x).length = ns.length + 1 := by
  unfold pushF
  rw [sd_length]; simp
theorem stands_least {ns : List Int} (h : Stands ns) : ∀ k, k < ns.length → ns.getD 0 0 ≤ ns.getD k 0 := by
  intro k
  induction k using Nat.strongRecOn with
  | ind k ih =>
    intro hk
    by_cases h0 : k = 0
    · subst h0; exact Int.le_refl _
    · exact Int.le_trans (ih ((k - 1) / 2) (by omega) (by omega)) (h k (by omega) hk)
theorem drop_getD {ns : List Int} {k : Nat} (h : k < ns.dropLast.length) : ns.dropLast.getD k 0 = ns.getD k 0 := by
  have h2 : k < ns.length := by rw [List.length_dropLast] at h; omega
  simp only [List.getD_eq_getElem?_getD]
  rw [List.getElem?_eq_getElem h, List.getElem?_eq_getElem h2, List.getElem_dropLast]
theorem split_last {ns : List Int} (h : 0 < ns.length) : ns = ns.dropLast ++ [ns.getLastD 0] := by
  have hne : ns ≠ [] := fun e => by simp [e] at h
  have e : ns.getLastD 0 = ns.getLast hne := by
    rw [List.getLastD_eq_getLast?, List.getLast?_eq_some_getLast hne]; rfl
  rw [e]; exact (List.dropLast_concat_getLast hne).symm
theorem popV_eq {ns : List Int} (h : 0 < ns.length) : popV ns = ns.getD 0 0 := by
  unfold popV
  split
  · rename_i h1; exact drop_getD h1
  · rename_i h1
    have hl : ns.length = 1 := by rw [List.length_dropLast] at h1; omega
    match ns, hl with
    | [x], _ => rfl
theorem pop_cnt (a : Int) {ns : List Int} (h : 0 < ns.length) : ns.count a = (popL ns).count a + (if popV ns = a then 1 else 0) := by
  have hs := split_last h
  have hc : ns.count a = ns.dropLast.count a + (if ns.getLastD 0 = a then 1 else 0) := by
    conv => lhs; rw [hs]
    simp [List.count_append, List.count_singleton]
  unfold popL popV
  split
  · rename_i h1
    rw [su_cnt a _ _ _ (by simpa using h1), gset_eq _ h1]
    have := cnt_set a (ns.getLastD 0) ns.dropLast 0 h1
    simp only [List.set_set]
    omega
  · rename_i h1
    have e : ns.dropLast = [] := List.length_eq_zero_iff.mp (by omega)
    rw [e] at hc
    simpa using hc
theorem pop_length {ns : List Int} (h : 0 < ns.length) : (popL ns).length + 1 = ns.length := by
  unfold popL
  split
  · rw [su_length]; simp only [List.length_set, List.length_dropLast]; omega
  · rename_i h1; rw [List.length_dropLast] at h1; simp; omega
theorem pop_stands {ns : List Int} (h : Stands ns) : Stands (popL ns) := by
  unfold popL
  split
  · rename_i h1
    refine su_stands _ _ _ (by simpa using h1) ?_
    intro k k1 k2 k3
    rw [List.length_set] at k2
    refine ⟨fun hp => ?_, fun _ e => by omega⟩
    rw [gset_ne _ (by omega), gset_ne _ (by omega), drop_getD k2, drop_getD (by omega)]
    rw [List.length_dropLast] at k2
    exact h k k1 (by omega)
  · intro k k1 k2; simp at k2
theorem mem_getD {l : List Int} {a : Int} (h : a ∈ l) : ∃ k, k < l.length ∧ l.getD k 0 = a := by
  obtain ⟨k, hk, e⟩ := List.getElem_of_mem h
  exact ⟨k, hk, by simp [List.getD_eq_getElem?_getD, hk, e]⟩
theorem pop_least {ns : List Int} (h : Stands ns) (h0 : 0 < ns.length) {a : Int} (ha : a ∈ ns) : popV ns ≤ a := by
  obtain ⟨k, hk, e⟩ := mem_getD ha
  rw [popV_eq h0, ← e]
  exact stands_least h k hk
theorem pop_mem {ns : List Int} (h : 0 < ns.length) : popV ns ∈ ns := by
  have := pop_cnt (popV ns) h
  rw [if_pos rfl] at this
  exact List.count_pos_iff.mp (by omega)
theorem pop_sub {ns : List Int} (h : 0 < ns.length) {a : Int} (ha : a ∈ popL ns) : a ∈ ns := by
  have := pop_cnt a h
  have := List.count_pos_iff.mpr ha
  exact List.count_pos_iff.mp (by omega)
end Mine
end
section
open PySem PySem.W PyProof.Rows
set_option maxRecDepth 100000
set_option maxHeartbeats 8000000
set_option linter.unusedVariables false
namespace Mine
def InnerC (w : World) (mean : ExcName → Option Value) (mg mb : Str → Option Value) (fo oc oI oA oN : Obj) (f c l cI cA cN : Addr) (n : Int) (k : Nat) : Prop := ∀ (rest : List (Addr × Obj)) (dp un : Nat) (gd : Option (List Code)) (cn : Str) (cs : Scope) (a : Addr) (ccd : Value) (cl : List (Str × Addr)) (outer : List Env) (A₀ : Around) (base h₀ : Heap) (L : Addr) (m : Str → Option Value) (s : Shared) (Q E : Value → Shared → Prop) (vs : List Value) (ns : List Int) (nn : Nat) (x lo hi : Int) (t1 t2 t3 : Tok),
    Below A₀ base outer h₀ → Fr h₀ L s.heap m → (Mine.hd.heap_39 w.params).In h₀ → News h₀ L s.heap ((f, fo) :: (c, oc) :: (l, listOf vs.toArray nn) :: (cI, oI) :: (cA, oA) :: (cN, oN) :: rest) → Top topProg LooseM mean mg mb h₀ → cs.kind = .function → CodeHd base 62 58 → (∀ p ∈ rest, p.1 ≠ l) → IntsAre vs ns → 0 ≤ lo → lo < hi → hi ≤ (ns.length : Int) → ns.length ≤ 4 → hi - lo ≤ (k : Int) → 0 ≤ x → x ≤ 14 → dp + k < recursionLimit → un + 8 * k + 8 < cLine →
    (∀ vs' nn' h' tk', IntsAre vs' (dgF k n ns x lo hi) → Fr h₀ L h' m → News h₀ L h' ((f, fo) :: (c, oc) :: (l, listOf vs'.toArray nn') :: (cI, oI) :: (cA, oA) :: (cN, oN) :: rest) → Q .none { s with heap := h', toks := tk' }) →
    wpAny (model PySem.Challenge.rw_om0048_01.row.prog w) (ktrTop dp un gd cn cs L a ccd cl outer) (call (.ref f) [.int x t1, .int lo t2, .int hi t3]) Q E s
theorem inner_use {w : World} {mean : ExcName → Option Value} {mg mb : Str → Option Value} {fo oc oI oA oN : Obj} {f c l cI cA cN : Addr} {n : Int} {k : Nat} {rest : List (Addr × Obj)} {dp un : Nat} {gd : Option (List Code)} {cn : Str} {cs : Scope} {a : Addr} {ccd : Value} {cl : List (Str × Addr)} {outer : List Env} {A₀ : Around} {base h₀ : Heap} {L : Addr} {m : Str → Option Value} {s : Shared} {Q E : Value → Shared → Prop} {vs : List Value} {ns : List Int} {nn : Nat} {x lo hi : Int} {t1 t2 t3 : Tok}
    (hC : InnerC w mean mg mb fo oc oI oA oN f c l cI cA cN n k) : Below A₀ base outer h₀ → Fr h₀ L s.heap m → (Mine.hd.heap_39 w.params).In h₀ → News h₀ L s.heap ((f, fo) :: (c, oc) :: (l, listOf vs.toArray nn) :: (cI, oI) :: (cA, oA) :: (cN, oN) :: rest) → Top topProg LooseM mean mg mb h₀ → cs.kind = .function → CodeHd base 62 58 → (∀ p ∈ rest, p.1 ≠ l) → IntsAre vs ns → 0 ≤ lo → lo < hi → hi ≤ (ns.length : Int) → ns.length ≤ 4 → hi - lo ≤ (k : Int) → 0 ≤ x → x ≤ 14 → dp + k < recursionLimit → un + 8 * k + 8 < cLine →
    (∀ vs' nn' h' tk', IntsAre vs' (dgF k n ns x lo hi) → Fr h₀ L h' m → News h₀ L h' ((f, fo) :: (c, oc) :: (l, listOf vs'.toArray nn') :: (cI, oI) :: (cA, oA) :: (cN, oN) :: rest) → Q .none { s with heap := h', toks := tk' }) →
    wpAny (model PySem.Challenge.rw_om0048_01.row.prog w) (ktrTop dp un gd cn cs L a ccd cl outer) (call (.ref f) [.int x t1, .int lo t2, .int hi t3]) Q E s := hC rest dp un gd cn cs a ccd cl outer A₀ base h₀ L m s Q E vs ns nn x lo hi t1 t2 t3
theorem inner_use4 {w : World} {mean : ExcName → Option Value} {mg mb : Str → Option Value} {fo oc oI oA oN : Obj} {f c l cI cA cN : Addr} {n : Int} {rest : List (Addr × Obj)} {dp un : Nat} {gd : Option (List Code)} {cn : Str} {cs : Scope} {a : Addr} {ccd : Value} {cl : List (Str × Addr)} {outer : List Env} {A₀ : Around} {base h₀ : Heap} {L : Addr} {m : Str → Option Value} {s : Shared} {Q E : Value → Shared → Prop} {vs : List Value} {ns : List Int} {nn : Nat} {x lo hi : Int} {t1 t2 t3 : Tok}
    (hC : ∀ k, InnerC w mean mg mb fo oc oI oA oN f c l cI cA cN n k) : Below A₀ base outer h₀ → Fr h₀ L s.heap m → (Mine.hd.heap_39 w.params).In h₀ → News h₀ L s.heap ((f, fo) :: (c, oc) :: (l, listOf vs.toArray nn) :: (cI, oI) :: (cA, oA) :: (cN, oN) :: rest) → Top topProg LooseM mean mg mb h₀ → cs.kind = .function → CodeHd base 62 58 → (∀ p ∈ rest, p.1 ≠ l) → IntsAre vs ns → 0 ≤ lo → lo < hi → hi ≤ (ns.length : Int) → ns.length ≤ 4 → hi - lo ≤ 4 → 0 ≤ x → x ≤ 14 → dp + 4 < recursionLimit → un + 8 * 4 + 8 < cLine →
    (∀ vs' nn' h' tk', IntsAre vs' (dgF 4 n ns x lo hi) → Fr h₀ L h' m → News h₀ L h' ((f, fo) :: (c, oc) :: (l, listOf vs'.toArray nn') :: (cI, oI) :: (cA, oA) :: (cN, oN) :: rest) → Q .none { s with heap := h', toks := tk' }) →
    wpAny (model PySem.Challenge.rw_om0048_01.row.prog w) (ktrTop dp un gd cn cs L a ccd cl outer) (call (.ref f) [.int x t1, .int lo t2, .int hi t3]) Q E s := hC 4 rest dp un gd cn cs a ccd cl outer A₀ base h₀ L m s Q E vs ns nn x lo hi t1 t2 t3
theorem led_swap {h₀ h : Heap} {L : Addr} {a1 a2 a3 a4 a5 a6 a7 a8 : Addr × Obj} {r : List (Addr × Obj)} (N : News h₀ L h (a1 :: a2 :: a3 :: a4 :: a5 :: a6 :: a7 :: a8 :: r)) : News h₀ L h (a1 :: a2 :: a3 :: a5 :: a6 :: a7 :: a4 :: a8 :: r) :=
  kst_newsOf N fun q hq => by
    simp only [List.mem_cons] at hq ⊢
    rcases hq with h | h | h | h | h | h | h | h | h <;> simp [h]
section
local macro_rules | `(tactic| k_all) => `(tactic| exact ne_of_newsLt (by assumption) (by omega))
local macro_rules | `(tactic| walk_at "binaryOp FloorDiv int int") => `(tactic| ((with_reducible refine fdiv_nd (by assumption) (by assumption) (by assumption) (by assumption) ?_); intro hk0 hk1 hk2))
local macro_rules | `(tactic| walk_at "binaryOp Mult int int") => `(tactic| ((with_reducible refine mul_sh (by omega) (by omega) (by assumption) (by assumption) ?_); intro c hc hc0 hc1))
local macro_rules | `(tactic| walk_at "binaryOp RShift int int") => `(tactic| ((with_reducible refine shr_sh (by assumption) (by assumption) (by assumption) (by assumption) ?_); intro y hy hy0 hy1))
local macro_rules | `(tactic| walk_at "binaryOp RShift int int") => `(tactic| ((with_reducible refine shr_one ?_); intro q hq1 hq2))
local macro_rules | `(tactic| walk_at "binaryOp LShift int int") => `(tactic| ((with_reducible refine shl_sh (by assumption) (by assumption) (by assumption) (by assumption) ?_); intro z hz))
local macro_rules | `(tactic| walk_at "binaryOp BitXor int int") => `(tactic| ((with_reducible refine xor_low (by assumption) (by assumption) (by assumption) (by assumption) (by assumption) (by assumption) ?_); intro v hv hv0 hv1))
local macro_rules | `(tactic| walk_at "exec FunctionDef") => `(tactic| (k_here; refine (Stp.out ?_)))
theorem int2digits {w : World} {mean : ExcName → Option Value} {mg mb : Str → Option Value} {dp un : Nat} {gd : Option (List Code)} {cn : Str} {cs : Scope} {a : Addr} {ccd : Value} {cl : List (Str × Addr)} {outer : List Env} {A₀ : Around} {base h₀ : Heap} {L : Addr} {m : Str → Option Value} {s : Shared} {Q E : Value → Shared → Prop}
  {x n : Int} {t0 t1 : Tok} {tab news : List (Addr × Obj)}
  (B : Below A₀ base outer h₀) (F : Fr h₀ L s.heap m) (X : (Mine.hd.heap_39 w.params).In h₀) (N : News h₀ L s.heap (tab ++ news)) (T : Top topProg LooseM mean mg mb h₀) (hk : cs.kind = .function)
  (hst : TabSt 58 69 4 (Str.ofString "_int2digits.<locals>.inner") tab) (hap : ∀ q ∈ news, ∀ p ∈ tab, q.1 ≠ p.1) (hcd : CodeHd base 62 58) (hx0 : 0 ≤ x) (hx1 : x ≤ 14) (hn0 : 1 ≤ n) (hn1 : n ≤ 3) (hd : dp + 10 < recursionLimit) (hu : un + 100 < cLine) 
  (ret : ∀ r vs' nn' tab' h' tk', IntsAre vs' (dgs x n) → TabSt 58 69 4 (Str.ofString "_int2digits.<locals>.inner") tab' → (∀ q ∈ news, ∀ p ∈ tab', q.1 ≠ p.1) → Fr h₀ L h' m → News h₀ L h' ((r, listOf vs'.toArray nn') :: (tab' ++ news)) → (∀ p ∈ tab', p.1 ≠ r) → (∀ p ∈ news, p.1 < r) → Q (.ref r) { s with heap := h', toks := tk' }) :
  wpAny (model PySem.Challenge.rw_om0048_01.row.prog w) (ktrTop dp un gd cn cs L a ccd cl outer) (call (.ref 63) [.int x t0, .int n t1]) Q E s := by
  w_on
  revert X; k_fill; intro X
  refine wpAny_call ?_
  k_dflt (refine' code_defC ?k1 ?k2 ?k3 ?k4 ?k5 ?kA ?kF ?kK ?k6 ?k7 ?k8 ?k9 ?kB ?kD ?_ ?c2 ?c3 ?c4; (case kA => exact rfl); (case kF => exact rfl); (case kK => assumption); (case k1 => k_asm); (case k2 => k_asm); (case k3 => k_asm); (case k4 => k_asm); (case k5 => k_asm); (case k6 => k_is); (case k7 => k_is); (case k8 => ktr_room); (case k9 => exact BindsTo.of_eq rfl); (case kB => exact rfl); (case kD => decide +kernel); (case c2 => exact rfl); (case c3 => exact rfl); (case c4 => exact rfl); k_whole; intro g' L' h' tk' cells' FG' F' N' Y' B' X' T' l1; (have hNl : ∀ p ∈ tab ++ news, p.1 < L' := l1); (have hNt : ∀ p ∈ tab, p.1 < L' := fun p hp => l1 p (List.mem_append_left _ hp)); (have hNn : ∀ p ∈ news, p.1 < L' := fun p hp => l1 p (List.mem_append_right _ hp)); (have h58 := TabSt.lt hst hNt); clear l1; k_cells Y'; (try simp only [List.cons_append, List.nil_append] at N'); (try dsimp only); (try k_lift B'); (try k_fold))
  (k_steps; repeat' (refine Stp.mk ?_; (first | ((rename InnerC _ _ _ _ _ _ _ _ _ _ _ _ _ _ _ _ _ => IH5); k_dflt (refine inner_use IH5 (by k_asm) (by k_asm) (by k_asm) (by k_asm) (by k_asm) (by first | exact rfl | assumption) (by assumption) (by assumption) (by assumption) (by omega) (by omega) (by (try simp only [dgF_length]); omega) (by (try simp only [dgF_length]); omega) (by omega) (by assumption) (by assumption) (by ktr_room) (by ktr_units) ?_); intro vs5 nn5 h5 tk5 hi5 F5 N5; (try dsimp only); (try k_fold)) | (kn_here; k_dflt (refine' nestDef_K ?d0 ?k0 ?a0 ?_; (case d0 => exact rfl); (case k0 => exact rfl); (case a0 => exact rfl)); k_dflt (refine' nest_any (pre := [_, _, _, _, _]) ?F ?N ?T ?C ?cd ?st ?ap ?ar ?cl ?_; (case F => k_asm); (case N => k_asm); (case T => k_asm); (case cd => exact rfl); (case C => kn_code); (case st => assumption); (case ar => assumption); (case cl => exact rfl); (case ap => (refine ap_of (by assumption) ?_; repeat' (first | exact List.forall_mem_nil _ | (refine List.forall_mem_cons.mpr ⟨?_, ?_⟩) | (refine leN ?_; dsimp only; omega)))); k_whole); intro f' c' oc' vs' t' ct' dc' h' tk' F' N' d1' d2' l1 l2 l3 l4; (try simp only [List.nil_append, List.cons_append] at N'); (simp only [List.mem_cons, List.not_mem_nil, or_false, forall_eq_or_imp, forall_eq] at l1)) | fail "no call"); k_steps))
  · refine Stp.mk ?_
    (rename News _ _ _ ((_, fnMade _ _ _ _ _ _ _ _ _ _) :: _) => N8)
    have N9 := led_swap N8
    refine inner_use4 (n := n) ?key (by k_asm) (by k_asm) (by k_asm) N9 (by k_asm) rfl (by assumption) ?ne (by assumption) (by omega) ?pos (by omega) ?len ?len2 (by assumption) (by assumption) (by ktr_room) (by ktr_units) ?ret
    case key =>
      intro k
      induction k with
      | zero => 
        unfold InnerC
        intros
        exfalso; omega
      | succ k IH =>
        unfold InnerC
        intro rest dp un gd cn cs a ccd cl outer A₀ base h₀ L m s Q E vs ns nn x9 lo hi t1 t2 t3 B9 F9 X9 N9 T9 hk9 hcd9 hne9 hi9 hlo9 hlh9 hhi9 hl49 hk99 hx09 hx19 hd9 hu9 ret9
        refine wpAny_call ?_
        k_dflt (refine' code_nest ?k1 ?k2 ?k3 ?k4 ?k5 ?kA ?kF ?kK ?k6 ?k7 ?k8 ?k9 ?kB ?_ ?c2 ?c3 ?c4 ?c5; (case kA => exact rfl); (case kF => exact rfl); (case kK => assumption); (case k1 => k_asm); (case k2 => k_asm); (case k3 => k_asm); (case k4 => k_asm); (case k5 => k_asm); (case k6 => k_mem); (case k7 => exact codeRec_news (by k_asm) (by k_mem) (by assumption) (by assumption)); (case k8 => ktr_room); (case k9 => exact BindsTo.of_eq rfl); (case c5 => decide); (case kB => exact locs rfl); (case c2 => exact rfl); (case c3 => exact rfl); (case c4 => exact rfl); k_whole; intro g' L' h' FG' F' N' B' X' T'; (try dsimp only); (try k_lift B'); (try k_fold))
        (k_steps; repeat' (refine Stp.mk ?_; (first | ((rename InnerC _ _ _ _ _ _ _ _ _ _ _ _ _ _ _ _ _ => IH5); k_dflt (refine inner_use IH5 (by k_asm) (by k_asm) (by k_asm) (by k_asm) (by k_asm) (by first | exact rfl | assumption) (by assumption) (by assumption) (by assumption) (by omega) (by omega) (by (try simp only [dgF_length]); omega) (by (try simp only [dgF_length]); omega) (by omega) (by assumption) (by assumption) (by ktr_room) (by ktr_units) ?_); intro vs5 nn5 h5 tk5 hi5 F5 N5; (try dsimp only); (try k_fold)) | (kn_here; k_dflt (refine' nestDef_K ?d0 ?k0 ?a0 ?_; (case d0 => exact rfl); (case k0 => exact rfl); (case a0 => exact rfl)); k_dflt (refine' nest_any (pre := [_, _, _, _, _]) ?F ?N ?T ?C ?cd ?st ?ap ?ar ?cl ?_; (case F => k_asm); (case N => k_asm); (case T => k_asm); (case cd => exact rfl); (case C => kn_code); (case st => assumption); (case ar => assumption); (case cl => exact rfl); (case ap => (refine ap_of (by assumption) ?_; repeat' (first | exact List.forall_mem_nil _ | (refine List.forall_mem_cons.mpr ⟨?_, ?_⟩) | (refine leN ?_; dsimp only; omega)))); k_whole); intro f' c' oc' vs' t' ct' dc' h' tk' F' N' d1' d2' l1 l2 l3 l4; (try simp only [List.nil_append, List.cons_append] at N'); (simp only [List.mem_cons, List.not_mem_nil, or_false, forall_eq_or_imp, forall_eq] at l1)) | fail "no call"); k_steps))
        · exact ret9 _ _ _ _ (dg_leaf (by assumption) (by assumption)) (by k_asm) (by k_asm)
        · exact ret9 _ _ _ _ (dg_node (by assumption) (by assumption) (by assumption) (by assumption) (by assumption) (by assumption) (by assumption)) (by k_asm) (by k_asm)
    case ne => repeat' (first | exact ne_of_newsLt (by assumption) (by omega) | (refine List.forall_mem_cons.mpr ⟨?_, ?_⟩) | (refine neN ?_; dsimp only; omega))
    case pos => omega
    case len => omega
    case len2 => omega
    case ret =>
      intro vs9 nn9 h9 tk9 hi9 F9 N9
      (try dsimp only); (try k_fold)
      (k_steps; repeat' (refine Stp.mk ?_; (first | ((rename InnerC _ _ _ _ _ _ _ _ _ _ _ _ _ _ _ _ _ => IH5); k_dflt (refine inner_use IH5 (by k_asm) (by k_asm) (by k_asm) (by k_asm) (by k_asm) (by first | exact rfl | assumption) (by assumption) (by assumption) (by assumption) (by omega) (by omega) (by (try simp only [dgF_length]); omega) (by (try simp only [dgF_length]); omega) (by omega) (by assumption) (by assumption) (by ktr_room) (by ktr_units) ?_); intro vs5 nn5 h5 tk5 hi5 F5 N5; (try dsimp only); (try k_fold)) | (kn_here; k_dflt (refine' nestDef_K ?d0 ?k0 ?a0 ?_; (case d0 => exact rfl); (case k0 => exact rfl); (case a0 => exact rfl)); k_dflt (refine' nest_any (pre := [_, _, _, _, _]) ?F ?N ?T ?C ?cd ?st ?ap ?ar ?cl ?_; (case F => k_asm); (case N => k_asm); (case T => k_asm); (case cd => exact rfl); (case C => kn_code); (case st => assumption); (case ar => assumption); (case cl => exact rfl); (case ap => (refine ap_of (by assumption) ?_; repeat' (first | exact List.forall_mem_nil _ | (refine List.forall_mem_cons.mpr ⟨?_, ?_⟩) | (refine leN ?_; dsimp only; omega)))); k_whole); intro f' c' oc' vs' t' ct' dc' h' tk' F' N' d1' d2' l1 l2 l3 l4; (try simp only [List.nil_append, List.cons_append] at N'); (simp only [List.mem_cons, List.not_mem_nil, or_false, forall_eq_or_imp, forall_eq] at l1)) | fail "no call"); k_steps))
      refine ret _ _ _ [(58, _), (_, _)] _ _ (dgs_nz (by first | assumption | omega) (by assumption)) (TabSt.full (by assumption) (by assumption)) (TabSt.apart hst hap (by assumption)) (by k_asm) (kst_newsOf (by k_asm) (List.forall_mem_cons.mpr ⟨by k_mem, List.forall_mem_cons.mpr ⟨by k_mem, List.forall_mem_cons.mpr ⟨by k_mem, fun q hq => by repeat (first | exact hq | refine List.Mem.tail _ ?_)⟩⟩⟩)) ?_ (newsLt_trans (by assumption) (by omega))
      repeat' (first | exact List.forall_mem_nil _ | (refine List.forall_mem_cons.mpr ⟨?_, ?_⟩) | (refine neN ?_; dsimp only; omega))
  · refine ret _ _ _ [(58, _), (_, _)] _ _ (dgs_z (by first | assumption | omega) (by assumption)) (TabSt.full (by assumption) (by assumption)) (TabSt.apart hst hap (by assumption)) (by k_asm) (kst_newsOf (by k_asm) (List.forall_mem_cons.mpr ⟨by k_mem, List.forall_mem_cons.mpr ⟨by k_mem, List.forall_mem_cons.mpr ⟨by k_mem, fun q hq => by repeat (first | exact hq | refine List.Mem.tail _ ?_)⟩⟩⟩)) ?_ (newsLt_trans (by assumption) (by omega))
    repeat' (first | exact List.forall_mem_nil _ | (refine List.forall_mem_cons.mpr ⟨?_, ?_⟩) | (refine neN ?_; dsimp only; omega))
end
end Mine
end
section
open PySem PySem.W PyProof.Rows
set_option maxRecDepth 100000
set_option maxHeartbeats 8000000
set_option linter.unusedVariables false
namespace Mine
def InnerD (w : World) (mean : ExcName → Option Value) (mg mb : Str → Option Value) (fo oc oI oN oD : Obj) (f c l cI cN cD : Addr) (vs : List Value) (ns : List Int) (nn : Nat) (n : Int) (k : Nat) : Prop := ∀ (rest : List (Addr × Obj)) (dp un : Nat) (gd : Option (List Code)) (cn : Str) (cs : Scope) (a : Addr) (ccd : Value) (cl : List (Str × Addr)) (outer : List Env) (A₀ : Around) (base h₀ : Heap) (L : Addr) (m : Str → Option Value) (s : Shared) (Q E : Value → Shared → Prop) (lo hi : Int) (t2 t3 : Tok),
    Below A₀ base outer h₀ → Fr h₀ L s.heap m → (Mine.hd.heap_39 w.params).In h₀ → News h₀ L s.heap ((f, fo) :: (c, oc) :: (cI, oI) :: (cN, oN) :: (cD, oD) :: (l, listOf vs.toArray nn) :: rest) → Top topProg LooseM mean mg mb h₀ → cs.kind = .function → CodeHd base 69 65 → 0 ≤ lo → lo < hi → hi ≤ (ns.length : Int) → hi - lo ≤ (k : Int) → dvF k n ns lo hi ≤ 14 → dp + k < recursionLimit → un + 8 * k + 8 < cLine →
    (∀ t h' tk', Fr h₀ L h' m → News h₀ L h' ((f, fo) :: (c, oc) :: (cI, oI) :: (cN, oN) :: (cD, oD) :: (l, listOf vs.toArray nn) :: rest) → Q (.int (dvF k n ns lo hi) t) { s with heap := h', toks := tk' }) →
    wpAny (model PySem.Challenge.rw_om0048_01.row.prog w) (ktrTop dp un gd cn cs L a ccd cl outer) (call (.ref f) [.int lo t2, .int hi t3]) Q E s
theorem innerD_use {w : World} {mean : ExcName → Option Value} {mg mb : Str → Option Value} {fo oc oI oN oD : Obj} {f c l cI cN cD : Addr} {vs : List Value} {ns : List Int} {nn : Nat} {n : Int} {rest : List (Addr × Obj)} {dp un : Nat} {gd : Option (List Code)} {cn : Str} {cs : Scope} {a : Addr} {ccd : Value} {cl : List (Str × Addr)} {outer : List Env} {A₀ : Around} {base h₀ : Heap} {L : Addr} {m : Str → Option Value} {s : Shared} {Q E : Value → Shared → Prop} {lo hi : Int} {t2 t3 : Tok} {k : Nat}
    (hC : InnerD w mean mg mb fo oc oI oN oD f c l cI cN cD vs ns nn n k) : Below A₀ base outer h₀ → Fr h₀ L s.heap m → (Mine.hd.heap_39 w.params).In h₀ → News h₀ L s.heap ((f, fo) :: (c, oc) :: (cI, oI) :: (cN, oN) :: (cD, oD) :: (l, listOf vs.toArray nn) :: rest) → Top topProg LooseM mean mg mb h₀ → cs.kind = .function → CodeHd base 69 65 → 0 ≤ lo → lo < hi → hi ≤ (ns.length : Int) → hi - lo ≤ (k : Int) → dvF k n ns lo hi ≤ 14 → dp + k < recursionLimit → un + 8 * k + 8 < cLine →
    (∀ t h' tk', Fr h₀ L h' m → News h₀ L h' ((f, fo) :: (c, oc) :: (cI, oI) :: (cN, oN) :: (cD, oD) :: (l, listOf vs.toArray nn) :: rest) → Q (.int (dvF k n ns lo hi) t) { s with heap := h', toks := tk' }) →
    wpAny (model PySem.Challenge.rw_om0048_01.row.prog w) (ktrTop dp un gd cn cs L a ccd cl outer) (call (.ref f) [.int lo t2, .int hi t3]) Q E s := hC rest dp un gd cn cs a ccd cl outer A₀ base h₀ L m s Q E lo hi t2 t3
theorem innerD_use4 {w : World} {mean : ExcName → Option Value} {mg mb : Str → Option Value} {fo oc oI oN oD : Obj} {f c l cI cN cD : Addr} {vs : List Value} {ns : List Int} {nn : Nat} {n : Int} {rest : List (Addr × Obj)} {dp un : Nat} {gd : Option (List Code)} {cn : Str} {cs : Scope} {a : Addr} {ccd : Value} {cl : List (Str × Addr)} {outer : List Env} {A₀ : Around} {base h₀ : Heap} {L : Addr} {m : Str → Option Value} {s : Shared} {Q E : Value → Shared → Prop} {lo hi : Int} {t2 t3 : Tok}
    (hC : ∀ k, InnerD w mean mg mb fo oc oI oN oD f c l cI cN cD vs ns nn n k) : Below A₀ base outer h₀ → Fr h₀ L s.heap m → (Mine.hd.heap_39 w.params).In h₀ → News h₀ L s.heap ((f, fo) :: (c, oc) :: (cI, oI) :: (cN, oN) :: (cD, oD) :: (l, listOf vs.toArray nn) :: rest) → Top topProg LooseM mean mg mb h₀ → cs.kind = .function → CodeHd base 69 65 → 0 ≤ lo → lo < hi → hi ≤ (ns.length : Int) → hi - lo ≤ 4 → dvF 4 n ns lo hi ≤ 14 → dp + 4 < recursionLimit → un + 8 * 4 + 8 < cLine →
    (∀ t h' tk', Fr h₀ L h' m → News h₀ L h' ((f, fo) :: (c, oc) :: (cI, oI) :: (cN, oN) :: (cD, oD) :: (l, listOf vs.toArray nn) :: rest) → Q (.int (dvF 4 n ns lo hi) t) { s with heap := h', toks := tk' }) →
    wpAny (model PySem.Challenge.rw_om0048_01.row.prog w) (ktrTop dp un gd cn cs L a ccd cl outer) (call (.ref f) [.int lo t2, .int hi t3]) Q E s := hC 4 rest dp un gd cn cs a ccd cl outer A₀ base h₀ L m s Q E lo hi t2 t3

section
local macro_rules | `(tactic| k_all) => `(tactic| exact ne_of_newsLt (by assumption) (by omega))
local macro_rules | `(tactic| walk_at "binaryOp Mult int int") => `(tactic| ((with_reducible refine mul_sh (by omega) (by omega) (by assumption) (by assumption) ?_); intro c hc hc0 hc1))
local macro_rules | `(tactic| walk_at "binaryOp RShift int int") => `(tactic| ((with_reducible refine shr_one ?_); intro q hq1 hq2))
local macro_rules | `(tactic| walk_at "binaryOp LShift int int") => `(tactic| ((with_reducible refine shl_dv (by exact dvF_nonneg (by assumption) _ _ _ _) (by exact (dv_both (by assumption) (by assumption) (by assumption) (by assumption) (by assumption) (by assumption)).1) (by assumption) (by assumption) ?_)))
local macro_rules | `(tactic| walk_at "exec FunctionDef") => `(tactic| (k_here; refine (Stp.out ?_)))
theorem digits2int {w : World} {mean : ExcName → Option Value} {mg mb : Str → Option Value} {dp un : Nat} {gd : Option (List Code)} {cn : Str} {cs : Scope} {a : Addr} {ccd : Value} {cl : List (Str × Addr)} {outer : List Env} {A₀ : Around} {base h₀ : Heap} {L : Addr} {m : Str → Option Value} {s : Shared} {Q E : Value → Shared → Prop}
  {l : Addr} {vs : List Value} {ns : List Int} {nn : Nat} {n : Int} {t1 : Tok} {tab news : List (Addr × Obj)}
  (B : Below A₀ base outer h₀) (F : Fr h₀ L s.heap m) (X : (Mine.hd.heap_39 w.params).In h₀) (N : News h₀ L s.heap ((l, listOf vs.toArray nn) :: (tab ++ news))) (T : Top topProg LooseM mean mg mb h₀) (hk : cs.kind = .function)
  (hst : TabSt 65 84 4 (Str.ofString "_digits2int.<locals>.inner") tab) (hap : ∀ q ∈ news, ∀ p ∈ tab, q.1 ≠ p.1) (hlt : ∀ p ∈ tab, l ≠ p.1) (hcd : CodeHd base 69 65) (hi : IntsAre vs ns) (hl4 : ns.length ≤ 4) (hdig : ∀ i, 0 ≤ ns.getD i 0) (hv14 : dvs ns n ≤ 14) (hn0 : 1 ≤ n) (hn1 : n ≤ 3) (hd : dp + 10 < recursionLimit) (hu : un + 100 < cLine) 
  (ret : ∀ t tab' h' tk', TabSt 65 84 4 (Str.ofString "_digits2int.<locals>.inner") tab' → (∀ q ∈ news, ∀ p ∈ tab', q.1 ≠ p.1) → Fr h₀ L h' m → News h₀ L h' ((l, listOf vs.toArray nn) :: (tab' ++ news)) → (∀ p ∈ tab', l ≠ p.1) → Q (.int (dvs ns n) t) { s with heap := h', toks := tk' }) :
  wpAny (model PySem.Challenge.rw_om0048_01.row.prog w) (ktrTop dp un gd cn cs L a ccd cl outer) (call (.ref 70) [.ref l, .int n t1]) Q E s := by
  w_on
  revert X; k_fill; intro X
  refine wpAny_call ?_
  k_dflt (refine' code_defC ?k1 ?k2 ?k3 ?k4 ?k5 ?kA ?kF ?kK ?k6 ?k7 ?k8 ?k9 ?kB ?kD ?_ ?c2 ?c3 ?c4; (case kA => exact rfl); (case kF => exact rfl); (case kK => assumption); (case k1 => k_asm); (case k2 => k_asm); (case k3 => k_asm); (case k4 => k_asm); (case k5 => k_asm); (case k6 => k_is); (case k7 => k_is); (case k8 => ktr_room); (case k9 => exact BindsTo.of_eq rfl); (case kB => exact rfl); (case kD => decide +kernel); (case c2 => exact rfl); (case c3 => exact rfl); (case c4 => exact rfl); k_whole; intro g' L' h' tk' cells' FG' F' N' Y' B' X' T' l1; (have hNt : ∀ p ∈ tab, p.1 < L' := fun p hp => l1 p (.tail _ (List.mem_append_left _ hp))); (have hNn : ∀ p ∈ news, p.1 < L' := fun p hp => l1 p (.tail _ (List.mem_append_right _ hp))); (have hNl := ltN (l1 _ (.head _))); (dsimp only at hNl); (have h58 := TabSt.lt hst hNt); clear l1; k_cells Y'; (try simp only [List.cons_append, List.nil_append] at N'); (try dsimp only); (try k_lift B'); (try k_fold))
  (k_steps; repeat' (refine Stp.mk ?_; (first | ((rename InnerD _ _ _ _ _ _ _ _ _ _ _ _ _ _ _ _ _ _ _ _ => IH5); k_dflt (refine innerD_use IH5 (by k_asm) (by k_asm) (by k_asm) (by k_asm) (by k_asm) (by first | exact rfl | assumption) (by assumption) (by omega) (by omega) (by omega) (by omega) (by first | exact (dv_both (by assumption) (by assumption) (by assumption) (by assumption) (by assumption) (by assumption)).1 | exact (dv_both (by assumption) (by assumption) (by assumption) (by assumption) (by assumption) (by assumption)).2) (by ktr_room) (by ktr_units) ?_); intro t5 h5 tk5 F5 N5; (try dsimp only); (try k_fold)) | (kn_here; k_dflt (refine' nestDef_K ?d0 ?k0 ?a0 ?_; (case d0 => exact rfl); (case k0 => exact rfl); (case a0 => exact rfl)); k_dflt (refine' nest_any (pre := [_, _, _, _]) ?F ?N ?T ?C ?cd ?st ?ap ?ar ?cl ?_; (case F => k_asm); (case N => k_asm); (case T => k_asm); (case cd => exact rfl); (case C => kn_code); (case st => assumption); (case ar => assumption); (case cl => exact rfl); (case ap => repeat' (first | exact List.forall_mem_nil _ | (refine List.forall_mem_cons.mpr ⟨?_, ?_⟩) | exact ap_one (by assumption) (by omega) | assumption)); k_whole); intro f' c' oc' vs' t' ct' dc' h' tk' F' N' d1' d2' l1 l2 l3 l4; (try simp only [List.nil_append, List.cons_append] at N'); (simp only [List.mem_cons, List.not_mem_nil, or_false, forall_eq_or_imp, forall_eq] at l1)) | fail "no call"); k_steps))
  · refine Stp.mk ?_
    (rename News _ _ _ ((_, fnMade _ _ _ _ _ _ _ _ _ _) :: _) => N8)
    have hvE : dvs ns n = dvF 4 n ns 0 (ns.length : Int) := if_pos (by assumption)
    rw [hvE] at hv14 ret
    refine innerD_use4 (n := n) (ns := ns) ?key (by k_asm) (by k_asm) (by k_asm) N8 (by k_asm) rfl (by assumption) (by omega) (by omega) (by omega) (by omega) (by assumption) (by ktr_room) (by ktr_units) ?ret
    case key =>
      intro k
      induction k with
      | zero => 
        unfold InnerD
        intros
        exfalso; omega
      | succ k IH =>
        unfold InnerD
        intro rest dp un gd cn cs a ccd cl outer A₀ base h₀ L m s Q E lo hi' t2 t3 B9 F9 X9 N9 T9 hk9 hcd9 hlo9 hlh9 hhi9 hk99 hv9 hd9 hu9 ret9
        refine wpAny_call ?_
        k_dflt (refine' code_nest ?k1 ?k2 ?k3 ?k4 ?k5 ?kA ?kF ?kK ?k6 ?k7 ?k8 ?k9 ?kB ?_ ?c2 ?c3 ?c4 ?c5; (case kA => exact rfl); (case kF => exact rfl); (case kK => assumption); (case k1 => k_asm); (case k2 => k_asm); (case k3 => k_asm); (case k4 => k_asm); (case k5 => k_asm); (case k6 => k_mem); (case k7 => exact codeRec_news (by k_asm) (by k_mem) (by assumption) (by assumption)); (case k8 => ktr_room); (case k9 => exact BindsTo.of_eq rfl); (case c5 => decide); (case kB => exact locs rfl); (case c2 => exact rfl); (case c3 => exact rfl); (case c4 => exact rfl); k_whole; intro g' L' h' FG' F' N' B' X' T'; (try dsimp only); (try k_lift B'); (try k_fold))
        (k_steps; repeat' (refine Stp.mk ?_; (first | ((rename InnerD _ _ _ _ _ _ _ _ _ _ _ _ _ _ _ _ _ _ _ _ => IH5); k_dflt (refine innerD_use IH5 (by k_asm) (by k_asm) (by k_asm) (by k_asm) (by k_asm) (by first | exact rfl | assumption) (by assumption) (by omega) (by omega) (by omega) (by omega) (by first | exact (dv_both (by assumption) (by assumption) (by assumption) (by assumption) (by assumption) (by assumption)).1 | exact (dv_both (by assumption) (by assumption) (by assumption) (by assumption) (by assumption) (by assumption)).2) (by ktr_room) (by ktr_units) ?_); intro t5 h5 tk5 F5 N5; (try dsimp only); (try k_fold)) | (kn_here; k_dflt (refine' nestDef_K ?d0 ?k0 ?a0 ?_; (case d0 => exact rfl); (case k0 => exact rfl); (case a0 => exact rfl)); k_dflt (refine' nest_any (pre := [_, _, _, _]) ?F ?N ?T ?C ?cd ?st ?ap ?ar ?cl ?_; (case F => k_asm); (case N => k_asm); (case T => k_asm); (case cd => exact rfl); (case C => kn_code); (case st => assumption); (case ar => assumption); (case cl => exact rfl); (case ap => repeat' (first | exact List.forall_mem_nil _ | (refine List.forall_mem_cons.mpr ⟨?_, ?_⟩) | exact ap_one (by assumption) (by omega) | assumption)); k_whole); intro f' c' oc' vs' t' ct' dc' h' tk' F' N' d1' d2' l1 l2 l3 l4; (try simp only [List.nil_append, List.cons_append] at N'); (simp only [List.mem_cons, List.not_mem_nil, or_false, forall_eq_or_imp, forall_eq] at l1)) | fail "no call"); k_steps))
        · rw [dv_leaf (by assumption)]
          exact ret9 _ _ _ (by k_asm) (by k_asm)
        · rw [← dv_node (by assumption) (by assumption) (by assumption) (by assumption)]
          exact ret9 _ _ _ (by k_asm) (by k_asm)
    case ret =>
      intro t9 h9 tk9 F9 N9
      (try dsimp only); (try k_fold)
      (k_steps; repeat' (refine Stp.mk ?_; (first | ((rename InnerD _ _ _ _ _ _ _ _ _ _ _ _ _ _ _ _ _ _ _ _ => IH5); k_dflt (refine innerD_use IH5 (by k_asm) (by k_asm) (by k_asm) (by k_asm) (by k_asm) (by first | exact rfl | assumption) (by assumption) (by omega) (by omega) (by omega) (by omega) (by first | exact (dv_both (by assumption) (by assumption) (by assumption) (by assumption) (by assumption) (by assumption)).1 | exact (dv_both (by assumption) (by assumption) (by assumption) (by assumption) (by assumption) (by assumption)).2) (by ktr_room) (by ktr_units) ?_); intro t5 h5 tk5 F5 N5; (try dsimp only); (try k_fold)) | (kn_here; k_dflt (refine' nestDef_K ?d0 ?k0 ?a0 ?_; (case d0 => exact rfl); (case k0 => exact rfl); (case a0 => exact rfl)); k_dflt (refine' nest_any (pre := [_, _, _, _]) ?F ?N ?T ?C ?cd ?st ?ap ?ar ?cl ?_; (case F => k_asm); (case N => k_asm); (case T => k_asm); (case cd => exact rfl); (case C => kn_code); (case st => assumption); (case ar => assumption); (case cl => exact rfl); (case ap => repeat' (first | exact List.forall_mem_nil _ | (refine List.forall_mem_cons.mpr ⟨?_, ?_⟩) | exact ap_one (by assumption) (by omega) | assumption)); k_whole); intro f' c' oc' vs' t' ct' dc' h' tk' F' N' d1' d2' l1 l2 l3 l4; (try simp only [List.nil_append, List.cons_append] at N'); (simp only [List.mem_cons, List.not_mem_nil, or_false, forall_eq_or_imp, forall_eq] at l1)) | fail "no call"); k_steps))
      refine ret _ [(65, _), (_, _)] _ _ (TabSt.full (by assumption) (by assumption)) (TabSt.apart hst hap (by assumption)) (by k_asm) (kst_newsOf (by k_asm) (List.forall_mem_cons.mpr ⟨by k_mem, List.forall_mem_cons.mpr ⟨by k_mem, List.forall_mem_cons.mpr ⟨by k_mem, fun q hq => by repeat (first | exact hq | refine List.Mem.tail _ ?_)⟩⟩⟩)) ?_
      repeat' (first | exact List.forall_mem_nil _ | (refine List.forall_mem_cons.mpr ⟨?_, ?_⟩) | exact TabSt.ne hst hlt | (refine neN ?_; dsimp only; omega))
  · have hvE : dvs ns n = 0 := if_neg (by assumption)
    rw [hvE] at ret
    refine ret _ [(65, _), (_, _)] _ _ (TabSt.full (by assumption) (by assumption)) (TabSt.apart hst hap (by assumption)) (by k_asm) (kst_newsOf (by k_asm) (List.forall_mem_cons.mpr ⟨by k_mem, List.forall_mem_cons.mpr ⟨by k_mem, List.forall_mem_cons.mpr ⟨by k_mem, fun q hq => by repeat (first | exact hq | refine List.Mem.tail _ ?_)⟩⟩⟩)) ?_
    repeat' (first | exact List.forall_mem_nil _ | (refine List.forall_mem_cons.mpr ⟨?_, ?_⟩) | exact TabSt.ne hst hlt | (refine neN ?_; dsimp only; omega))
end
end Mine
end
section
open PySem PySem.W PyProof.Rows
set_option maxRecDepth 100000
set_option maxHeartbeats 8000000
set_option linter.unusedVariables false
namespace Mine

abbrev tup2 (a : Int) (t : Tok) (b : Int) (u : Tok) : Obj := { cls := .type "tuple", data := .seq #[.int a t, .int b u] }
theorem bits_bound {a : Int} (h0 : 0 ≤ a) (h1 : a ≤ 100) : ((Builtin.Int.intBits a : Nat) : Int) ≤ 7 := by
  have key : ∀ i : Nat, i < 101 → ((Builtin.Int.intBits (0 + (i : Int)) : Nat) : Int) ≤ 7 := by decide +kernel
  exact small_cases (a := 0) (b := 100) (P := fun a => ((Builtin.Int.intBits a : Nat) : Int) ≤ 7) (fun i hi => key i hi) h0 h1
theorem divmod_D {prog : Program} {w : World} {A : Around} {E : Value → Shared → Prop} {s : Shared} {a b : Int} {t u : Tok} {Q : Value → Shared → Prop} {h₀ : Heap} {L : Addr} {m : Str → Option Value} {news : List (Addr × Obj)}
    (F : Fr h₀ L s.heap m) (N : News h₀ L s.heap news) (hb : 1 ≤ b) (hb2 : b ≤ 4)
    (h : ∀ D t1 t2 h' tk', Fr h₀ L h' m → News h₀ L h' ((D, tup2 (a.fdiv b) t1 (a.fmod b) t2) :: news) → (∀ p ∈ news, p.1 < D) → Q (.ref D) { s with heap := h', toks := tk' }) :
    wpAny (model prog w) A (call (.builtin "divmod") [.int a t, .int b u]) Q E s :=
  divmod_N F N (by omega) (fun h' F' N' => h _ _ _ h' _ F' N' fun p hp => Heap.lt_size (N p hp).1) (Or.inl (PyProof.noPylong_small (by omega)))
section
local macro_rules | `(tactic| walk_at "call builtin:divmod") => `(tactic| (k_here; (with_reducible show wpAny _ _ (call (Value.builtin _) [Value.int _ _, Value.int _ _]) _ _ _); k_dflt (refine divmod_D (by k_asm) (by k_asm) (by assumption) (by assumption) ?_); intro D' t1' t2' h' tk' F' N' l1))
theorem div2n1n {w : World} {mean : ExcName → Option Value} {mg mb : Str → Option Value} {dp un : Nat} {gd : Option (List Code)} {cn : Str} {cs : Scope} {a : Addr} {ccd : Value} {cl : List (Str × Addr)} {outer : List Env} {A₀ : Around} {base h₀ : Heap} {L : Addr} {m : Str → Option Value} {s : Shared} {Q E : Value → Shared → Prop}
  {x b n : Int} {t0 t1 t2 : Tok} {news : List (Addr × Obj)}
  (B : Below A₀ base outer h₀) (F : Fr h₀ L s.heap m) (X : (Mine.hd.heap_39 w.params).In h₀) (N : News h₀ L s.heap (news)) (T : Top topProg LooseM mean mg mb h₀) (hk : cs.kind = .function)
  (hx0 : 0 ≤ x) (hx1 : x ≤ 100) (hb0 : 1 ≤ b) (hb1 : b ≤ 4) (hn0 : 1 ≤ n) (hd : dp + 1 < recursionLimit) (hu : un + 100 < cLine) 
  (ret : ∀ D t1 t2 h' tk', Fr h₀ L h' m → News h₀ L h' ((D, tup2 (x.fdiv b) t1 (x.fmod b) t2) :: news) → (∀ p ∈ news, p.1 < D) → Q (.ref D) { s with heap := h', toks := tk' }) :
  wpAny (model PySem.Challenge.rw_om0048_01.row.prog w) (ktrTop dp un gd cn cs L a ccd cl outer) (call (.ref 49) [.int x t0, .int b t1, .int n t2]) Q E s := by
  w_on
  revert X; k_fill; intro X
  have hbits := bits_bound hx0 hx1
  refine wpAny_call ?_
  k_dflt cell_enter
  k_steps
  exact ret _ _ _ _ _ (by k_asm) (by k_asm) (by assumption)
end
end Mine
end
section
open PySem PySem.W PyProof.Rows
set_option maxRecDepth 100000
set_option maxHeartbeats 8000000
set_option linter.unusedVariables false
namespace Mine

/-- one turn of the long division -/
def stp (n b : Int) (p : Int × List Int) (d : Int) : Int × List Int := ((p.1 * 2 ^ n.toNat + d).fmod b, p.2 ++ [(p.1 * 2 ^ n.toNat + d).fdiv b])
def nb (b : Int) : Int := ((Builtin.Int.intBits b : Nat) : Int)
def qrF (a b : Int) : Int × List Int := (dgs a (nb b)).reverse.foldl (stp (nb b) b) (0, [])
theorem qr_facts : ∀ a b : Int, 0 ≤ a → a ≤ 14 → 1 ≤ b → b ≤ 4 → (1 ≤ nb b ∧ nb b ≤ 3) ∧ (∀ d ∈ dgs a (nb b), 0 ≤ d ∧ d ≤ 7) ∧ (dgs a (nb b)).length ≤ 4 ∧ (qrF a b).1 = a.fmod b ∧ dvs (qrF a b).2.reverse (nb b) = a.fdiv b ∧ a.fdiv b ≤ 14 ∧ (∀ d ∈ (qrF a b).2.reverse, 0 ≤ d) := by
  have key : ∀ i : Nat, i < 15 → ∀ j : Nat, j < 4 → (1 ≤ nb (1 + (j : Int)) ∧ nb (1 + (j : Int)) ≤ 3) ∧ (∀ d ∈ dgs (0 + (i : Int)) (nb (1 + (j : Int))), 0 ≤ d ∧ d ≤ 7) ∧ (dgs (0 + (i : Int)) (nb (1 + (j : Int)))).length ≤ 4 ∧ (qrF (0 + (i : Int)) (1 + (j : Int))).1 = (0 + (i : Int)).fmod (1 + (j : Int)) ∧ dvs (qrF (0 + (i : Int)) (1 + (j : Int))).2.reverse (nb (1 + (j : Int))) = (0 + (i : Int)).fdiv (1 + (j : Int)) ∧ (0 + (i : Int)).fdiv (1 + (j : Int)) ≤ 14 ∧ (∀ d ∈ (qrF (0 + (i : Int)) (1 + (j : Int))).2.reverse, 0 ≤ d) := by decide +kernel
  intro a b h0 h1 h2 h3
  have e1 : (0 : Int) + (a.toNat : Int) = a := by omega
  have e2 : (1 : Int) + ((b - 1).toNat : Int) = b := by omega
  have := key a.toNat (by omega) (b - 1).toNat (by omega)
  rwa [e1, e2] at this
theorem getD_nonneg {l : List Int} (h : ∀ d ∈ l, 0 ≤ d) (i : Nat) : 0 ≤ l.getD i 0 := by
  rw [List.getD_eq_getElem?_getD]
  cases e : l[i]? with
  | none => simp
  | some d => exact h d (List.mem_of_getElem? e)
abbrev QA : Str := Str.ofString "_int2digits.<locals>.inner"
abbrev QB : Str := Str.ofString "_digits2int.<locals>.inner"
theorem shl_r {prog : Program} {w : World} {A : Around} {E : Value → Shared → Prop} {s : Shared} {r sh : Int} {t u : Tok} {Q : Value → Shared → Prop} (h0 : 0 ≤ r) (h1 : r ≤ 3) (h2 : 1 ≤ sh) (h3 : sh ≤ 3) (h : 0 ≤ r * 2 ^ sh.toNat → r * 2 ^ sh.toNat ≤ 24 → Q (.int (r * 2 ^ sh.toNat) s.toks) { s with toks := s.toks + 1 }) :
    wpAny (model prog w) A (binaryOp .LShift (.int r t) (.int sh u)) Q E s := by
  have key : ∀ i : Nat, i < 4 → ∀ j : Nat, j < 3 → 0 ≤ (0 + (i : Int)) * 2 ^ (1 + (j : Int)).toNat ∧ (0 + (i : Int)) * 2 ^ (1 + (j : Int)).toNat ≤ 24 := by decide +kernel
  have e1 : (0 : Int) + (r.toNat : Int) = r := by omega
  have e2 : (1 : Int) + ((sh - 1).toNat : Int) = sh := by omega
  have := key r.toNat (by omega) (sh - 1).toNat (by omega)
  rw [e1, e2] at this
  exact lshift_int_small (by omega) (by omega) (by omega) (h this.1 this.2)
abbrev QS := Int × Tok × List Value × List Int × Nat
theorem rev_q {prog : Program} {w : World} {A : Around} {E : Value → Shared → Prop} {s : Shared} {env : Env} {h₀ : Heap} {x : Str} {body : List Stmt} {Q : Flow → Shared → Prop}
    {l I D : Addr} {vs : List Value} {ns : List Int} {nn : Nat} {m₀ : Str → Option Value} {rest : List (Addr × Obj)} {n b : Int} {t₀ : Tok}
    (hh : A.handled = none) (F : Fr h₀ env.locals s.heap m₀) (N : News h₀ env.locals s.heap ((I, revObj l ((vs.length : Int) - 1)) :: (D, listOf #[] 0) :: (l, listOf vs.toArray nn) :: rest)) (hof : ∀ p ∈ (D, listOf #[] 0) :: (l, listOf vs.toArray nn) :: rest, p.1 ≠ I) (hi : IntsAre vs ns) (hlen : ns.length ≤ 4) (hb : 1 ≤ b) (hr : m₀ (Str.ofString "r") = some (.int 0 t₀))
    (turn : ∀ (it : Obj) (r : Int) (tr : Tok) (ws : List Value) (qs : List Int) (nq : Nat) (d : Int) (post : List Int) t (u : Str → Option Value) h tk, d ∈ ns → IntsAre ws qs → 0 ≤ r → r < b → (d :: post).foldl (stp n b) (r, qs) = ns.reverse.foldl (stp n b) (0, []) → qs.length + (post.length + 1) ≤ 4 →
      (∀ p ∈ (D, listOf ws.toArray nq) :: (l, listOf vs.toArray nn) :: rest, p.1 ≠ I) → Fr h₀ env.locals h (fun y => if y = x then some (.int d t) else kstB (fun z => if [Str.ofString "q_digit"].contains z then u z else m₀ z) [(Str.ofString "r", .int r tr)] y) → News h₀ env.locals h ((I, it) :: (D, listOf ws.toArray nq) :: (l, listOf vs.toArray nn) :: rest) →
      wpAny (model prog w) A (execs body env) (GrPost (σ := QS) h₀ env.locals { s with heap := h, toks := tk } I it (fun c => (D, listOf c.2.2.1.toArray c.2.2.2.2) :: (l, listOf vs.toArray nn) :: rest) (fun c => [(Str.ofString "r", .int c.1 c.2.1)]) [Str.ofString "q_digit"] x m₀
        (fun c => IntsAre c.2.2.1 c.2.2.2.1 ∧ 0 ≤ c.1 ∧ c.1 < b ∧ post.foldl (stp n b) (c.1, c.2.2.2.1) = ns.reverse.foldl (stp n b) (0, []) ∧ c.2.2.2.1.length + post.length ≤ 4) Q) E { s with heap := h, toks := tk })
    (done : ∀ (r : Int) (tr : Tok) (ws : List Value) (qs : List Int) (nq : Nat) (u : Str → Option Value) h tk, IntsAre ws qs → (r, qs) = ns.reverse.foldl (stp n b) (0, []) → qs.length ≤ 4 → Fr h₀ env.locals h (fun y => if y = x then u y else kstB (fun z => if [Str.ofString "q_digit"].contains z then u z else m₀ z) [(Str.ofString "r", .int r tr)] y) → News h₀ env.locals h ((D, listOf ws.toArray nq) :: (l, listOf vs.toArray nn) :: rest) → Q .next { s with heap := h, toks := tk }) :
    wpAny (model prog w) A (pyIter (.ref I)) (fun it s₂ => LoopAtV prog w A h₀ env x body Q E it s₂) E s := by
  refine gr_rev (σ := QS) (nn := nn) (fun c => (D, listOf c.2.2.1.toArray c.2.2.2.2) :: (l, listOf vs.toArray nn) :: rest) (fun c => [(Str.ofString "r", .int c.1 c.2.1)]) [Str.ofString "q_digit"]
    (fun ds c => IntsAre c.2.2.1 c.2.2.2.1 ∧ 0 ≤ c.1 ∧ c.1 < b ∧ ds.foldl (stp n b) (c.1, c.2.2.2.1) = ns.reverse.foldl (stp n b) (0, []) ∧ c.2.2.2.1.length + ds.length ≤ 4) (0, t₀, [], [], 0) hh F N hof (fun c => .tail _ (.head _)) hi ?_ ?_ ?_ ?_
  · exact List.forall_mem_cons.mpr ⟨hr, List.forall_mem_nil _⟩
  · exact ⟨.nil, Int.le_refl _, by show (0 : Int) < b; omega, rfl, by simpa using hlen⟩
  · rintro it ⟨r, tr, ws, qs, nq⟩ d post t u h tk hd ⟨h1, h2, h3, h4, h5⟩ ho F' N'
    exact turn it r tr ws qs nq d post t u h tk hd h1 h2 h3 h4 h5 ho F' N'
  · rintro ⟨r, tr, ws, qs, nq⟩ u h tk ⟨h1, h2, h3, h4, h5⟩ F' N'
    exact done r tr ws qs nq u h tk h1 h4 h5 F' N'
theorem reverse_ints {prog : Program} {w : World} {A : Around} {E : Value → Shared → Prop} {s : Shared} {h₀ : Heap} {L D : Addr} {m : Str → Option Value} {news news' : List (Addr × Obj)} {vs : List Value} {ns : List Int} {n : Nat} {Q : Value → Shared → Prop} (F : Fr h₀ L s.heap m) (N : News h₀ L s.heap news) (U : Upd D (listOf vs.toArray n) (listOf vs.reverse.toArray n) news news') (hi : IntsAre vs ns) (hz : ns.length ≤ 1000)
    (h : ∀ h', Fr h₀ L h' m → News h₀ L h' news' → IntsAre vs.reverse ns.reverse → ns.reverse.length = ns.length → Q .none { s with heap := h' }) : wpAny (model prog w) A (call (.builtin "list.reverse") [.ref D]) Q E s := by
  have := hi.length
  exact kl_reverse (its := vs.toArray) (n := n) F N rfl (by simpa using U) (by rw [PySem.sizeLine_eq]; simp; omega) fun h' F' N' => h h' F' N' (ints_rev hi) (by simp)
theorem tB_ne {t u r : List (Addr × Obj)} {D : Nat} (h : ∀ p ∈ t ++ (u ++ r), p.1 < D) : ∀ p ∈ u, D ≠ p.1 := fun p hp e =>
  absurd (h p (List.mem_append_right _ (List.mem_append_left _ hp))) (e ▸ Nat.lt_irrefl _)
theorem ap_join {t u r : List (Addr × Obj)} {l : Addr} {o : Obj} (hl : ∀ p ∈ u ++ r, p.1 < l) (ha : ∀ q ∈ u ++ r, ∀ p ∈ t, q.1 ≠ p.1) (hb : ∀ q ∈ r, ∀ p ∈ u, q.1 ≠ p.1) : ∀ q ∈ (l, o) :: (t ++ r), ∀ p ∈ u, q.1 ≠ p.1 := by
  intro q hq p hp
  rcases List.mem_cons.mp hq with rfl | hq
  · exact fun e => absurd (hl p (List.mem_append_left _ hp)) (e ▸ Nat.lt_irrefl _)
  · rcases List.mem_append.mp hq with hq | hq
    · exact (ha p (List.mem_append_left _ hp) q hq).symm
    · exact hb q hq p hp
theorem ap_fin1 {t u v r : List (Addr × Obj)} {l : Addr × Obj} (h1 : ∀ q ∈ l :: (t ++ r), ∀ p ∈ u, q.1 ≠ p.1) (h2 : ∀ q ∈ v ++ r, ∀ p ∈ t, q.1 ≠ p.1) : ∀ q ∈ u ++ r, ∀ p ∈ t, q.1 ≠ p.1 := by
  intro q hq p hp
  rcases List.mem_append.mp hq with hq | hq
  · exact (h1 p (.tail _ (List.mem_append_left _ hp)) q hq).symm
  · exact h2 q (List.mem_append_right _ hq) p hp
theorem ap_fin2 {t u r : List (Addr × Obj)} {l : Addr × Obj} (h1 : ∀ q ∈ l :: (t ++ r), ∀ p ∈ u, q.1 ≠ p.1) : ∀ q ∈ r, ∀ p ∈ u, q.1 ≠ p.1 := fun q hq => h1 q (.tail _ (List.mem_append_right _ hq))
theorem led_fin {h₀ h : Heap} {L : Addr} {a1 a2 a3 : Addr × Obj} {t u r : List (Addr × Obj)} (N : News h₀ L h (a1 :: a2 :: (u ++ (a3 :: (t ++ r))))) : News h₀ L h (a1 :: (t ++ (u ++ r))) :=
  kst_newsOf N fun q hq => by
    simp only [List.mem_cons, List.mem_append] at hq ⊢
    rcases hq with h | h | h | h <;> simp [h]
theorem led_sw2 {h₀ h : Heap} {L : Addr} {a1 a2 : Addr × Obj} {t u r : List (Addr × Obj)} (N : News h₀ L h (a1 :: a2 :: (t ++ (u ++ r)))) : News h₀ L h (a1 :: (u ++ (a2 :: (t ++ r)))) :=
  kst_newsOf N fun q hq => by
    simp only [List.mem_cons, List.mem_append] at hq ⊢
    rcases hq with h | h | h | h | h <;> simp [h]
section
local macro_rules | `(tactic| k_all) => `(tactic| exact ne_of_newsLt (by assumption) (by omega))
local macro_rules | `(tactic| walk_at "call builtin:list.reverse") => `(tactic| (k_here; (show wpAny _ _ (call (Value.builtin _) [Value.ref _]) _ _ _); k_dflt (refine reverse_ints (by k_asm) (by k_asm) (by k_upd) (by assumption) (by omega) ?_; k_whole); intro h' F' N' hi' hl'; (try k_sweep)))
local macro_rules | `(tactic| walk_at "binaryOp LShift int int") => `(tactic| ((with_reducible refine shl_r (by assumption) (by omega) (by assumption) (by assumption) ?_); intro hs0 hs1))
theorem divmod_pos {w : World} {mean : ExcName → Option Value} {mg mb : Str → Option Value} {dp un : Nat} {gd : Option (List Code)} {cn : Str} {cs : Scope} {a : Addr} {ccd : Value} {cl : List (Str × Addr)} {outer : List Env} {A₀ : Around} {base h₀ : Heap} {L : Addr} {m : Str → Option Value} {s : Shared} {Q E : Value → Shared → Prop}
  {x b : Int} {t0 t1 : Tok} {tA tB news : List (Addr × Obj)}
  (B : Below A₀ base outer h₀) (F : Fr h₀ L s.heap m) (X : (Mine.hd.heap_39 w.params).In h₀) (N : News h₀ L s.heap (tA ++ (tB ++ news))) (T : Top topProg LooseM mean mg mb h₀) (hk : cs.kind = .function)
  (hA : TabSt 58 69 4 QA tA) (hB : TabSt 65 84 4 QB tB) (haA : ∀ q ∈ tB ++ news, ∀ p ∈ tA, q.1 ≠ p.1) (haB : ∀ q ∈ news, ∀ p ∈ tB, q.1 ≠ p.1) (hcA : CodeHd base 62 58) (hcB : CodeHd base 69 65) (hx0 : 0 ≤ x) (hx1 : x ≤ 14) (hb0 : 1 ≤ b) (hb1 : b ≤ 4) (hd : dp + 20 < recursionLimit) (hu : un + 200 < cLine) 
  (ret : ∀ D t1 t2 tA' tB' h' tk', TabSt 58 69 4 QA tA' → TabSt 65 84 4 QB tB' → (∀ q ∈ tB' ++ news, ∀ p ∈ tA', q.1 ≠ p.1) → (∀ q ∈ news, ∀ p ∈ tB', q.1 ≠ p.1) → Fr h₀ L h' m → News h₀ L h' ((D, tup2 (x.fdiv b) t1 (x.fmod b) t2) :: (tA' ++ (tB' ++ news))) → (∀ p ∈ news, p.1 < D) → Q (.ref D) { s with heap := h', toks := tk' }) :
  wpAny (model PySem.Challenge.rw_om0048_01.row.prog w) (ktrTop dp un gd cn cs L a ccd cl outer) (call (.ref 77) [.int x t0, .int b t1]) Q E s := by
  w_on
  revert X; k_fill; intro X
  obtain ⟨⟨hnb0, hnb1⟩, hdg, hdl, hq1, hq2, hq3, hq4⟩ := qr_facts x b hx0 hx1 hb0 hb1
  have hnb0' : 1 ≤ ((Builtin.Int.intBits b : Nat) : Int) := hnb0
  have hnb1' : ((Builtin.Int.intBits b : Nat) : Int) ≤ 3 := hnb1
  refine wpAny_call ?_
  k_dflt cell_enter
  (k_steps; repeat' (refine Stp.mk ?_; (first | (k_dflt (refine div2n1n (by k_asm) (by k_asm) (by k_asm) (by k_asm) (by k_asm) (by first | exact rfl | assumption) (by omega) (by omega) (by assumption) (by assumption) (by assumption) (by ktr_room) (by ktr_units) ?_); intro D5 t5 u5 h5 tk5 F5 N5 l5; k_lt l5; (try dsimp only); (try k_fold)) | (k_dflt (refine int2digits (by k_asm) (by k_asm) (by k_asm) (by k_asm) (by k_asm) (by first | exact rfl | assumption) (by assumption) (by assumption) (by assumption) (by assumption) (by assumption) (by assumption) (by assumption) (by ktr_room) (by ktr_units) ?_); intro r5 vs5 nn5 tab5 h5 tk5 hi5 hst5 hap5 F5 N5 hr5 hl5; (have hlen5 := IntsAre.length hi5); (try dsimp only); (try k_fold)) | (k_dflt (refine digits2int (by k_asm) (by k_asm) (by k_asm) (by exact led_sw2 (by k_asm)) (by k_asm) (by first | exact rfl | assumption) (by assumption) (by exact ap_join (by assumption) (by assumption) (by assumption)) (by exact tB_ne (by assumption)) (by assumption) (by assumption) (by omega) (by assumption) (by assumption) (by assumption) (by assumption) (by ktr_room) (by ktr_units) ?_); intro t5 tab5 h5 tk5 hst5 hap5 F5 N5 hr5; (try dsimp only); (try k_fold)) | fail "no call"); k_steps))
  (rename News _ _ _ ((_, revObj _ _) :: _) => N8)
  (rename Fr _ _ _ _ => F8)
  (rename IntsAre _ (dgs _ _) => hi8)
  k_dflt (refine rev_q (n := nb b) (b := b) rfl F8 N8 ?ho hi8 hdl hb0 rfl ?turn ?done)
  case ho =>
    (rename (_ ∧ _ ∧ AllLt _ _) => l8)
    exact List.forall_mem_cons.mpr ⟨Nat.ne_of_lt l8.1, List.forall_mem_cons.mpr ⟨Nat.ne_of_lt l8.2.1, fun p hp => Nat.ne_of_lt (kst_ltOf l8.2.2 p hp)⟩⟩
  case turn =>
    (rename (_ ∧ AllLt _ (_ ++ _)) => l7)
    have hDl := kst_ltOf l7.2
    intro it9 r9 tr9 ws9 qs9 nq9 d9 post9 t9 u9 h9 tk9 hd9 hi9 hr90 hr91 hf9 hl9 ho9 F9 N9
    have hdb := hdg d9 hd9
    (try dsimp only [kstB] at F9)
    (try dsimp only); (try k_fold)
    (k_steps; repeat' (refine Stp.mk ?_; (first | (k_dflt (refine div2n1n (by k_asm) (by k_asm) (by k_asm) (by k_asm) (by k_asm) (by first | exact rfl | assumption) (by omega) (by omega) (by assumption) (by assumption) (by assumption) (by ktr_room) (by ktr_units) ?_); intro D5 t5 u5 h5 tk5 F5 N5 l5; k_lt l5; (try dsimp only); (try k_fold)) | (k_dflt (refine int2digits (by k_asm) (by k_asm) (by k_asm) (by k_asm) (by k_asm) (by first | exact rfl | assumption) (by assumption) (by assumption) (by assumption) (by assumption) (by assumption) (by assumption) (by assumption) (by ktr_room) (by ktr_units) ?_); intro r5 vs5 nn5 tab5 h5 tk5 hi5 hst5 hap5 F5 N5 hr5 hl5; (have hlen5 := IntsAre.length hi5); (try dsimp only); (try k_fold)) | (k_dflt (refine digits2int (by k_asm) (by k_asm) (by k_asm) (by exact led_sw2 (by k_asm)) (by k_asm) (by first | exact rfl | assumption) (by assumption) (by exact ap_join (by assumption) (by assumption) (by assumption)) (by exact tB_ne (by assumption)) (by assumption) (by assumption) (by omega) (by assumption) (by assumption) (by assumption) (by assumption) (by ktr_room) (by ktr_units) ?_); intro t5 tab5 h5 tk5 hst5 hap5 F5 N5 hr5; (try dsimp only); (try k_fold)) | fail "no call"); k_steps))
    dsimp only [GrPost]
    refine' GrEnd.intro (⟨_, _, _, _, _⟩ : QS) (by k_asm) (by k_asm) ?gm ?gs ?go ?gk ?gr ?gp
    case gm => k_mem
    case gs => exact List.forall_mem_cons.mpr ⟨by k_mem, List.forall_mem_cons.mpr ⟨by k_mem, fun q hq => by repeat (first | exact hq | refine List.Mem.tail _ ?_)⟩⟩
    case gk => kst_all
    case go => exact List.forall_mem_cons.mpr ⟨(List.forall_mem_cons.mp ho9).1, (List.forall_mem_cons.mp ho9).2⟩
    case gr => kst_same
    case gp =>
      refine' ⟨?q1, ?q2, ?q3, ?q4, ?q5⟩
      case q1 => assumption
      case q2 => exact Int.fmod_nonneg_of_pos _ (by omega)
      case q3 => exact Int.fmod_lt_of_pos _ (by omega)
      case q4 => exact hf9
      case q5 => (simp only [List.length_append, List.length_cons, List.length_nil]; omega)
  case done =>
    (rename (_ ∧ AllLt _ (_ ++ _)) => l7)
    have hDl := kst_ltOf l7.2
    intro r9 tr9 ws9 qs9 nq9 u9 h9 tk9 hi9 hf9 hl9 F9 N9
    have hqr : (r9, qs9) = qrF x b := hf9
    have hqs : qs9 = (qrF x b).2 := congrArg Prod.snd hqr
    have hr9 : r9 = x.fmod b := (congrArg Prod.fst hqr).trans hq1
    rw [← hqs] at hq2 hq4
    have hdig9 : ∀ i, 0 ≤ qs9.reverse.getD i 0 := getD_nonneg hq4
    have hE9 : dvs qs9.reverse ((Builtin.Int.intBits b : Nat) : Int) = x.fdiv b := hq2
    have hdv9 : dvs qs9.reverse ((Builtin.Int.intBits b : Nat) : Int) ≤ 14 := by rw [hE9]; exact hq3
    subst hr9
    (try dsimp only [kstB] at F9)
    (try dsimp only); (try k_fold)
    (k_steps; repeat' (refine Stp.mk ?_; (first | (k_dflt (refine div2n1n (by k_asm) (by k_asm) (by k_asm) (by k_asm) (by k_asm) (by first | exact rfl | assumption) (by omega) (by omega) (by assumption) (by assumption) (by assumption) (by ktr_room) (by ktr_units) ?_); intro D5 t5 u5 h5 tk5 F5 N5 l5; k_lt l5; (try dsimp only); (try k_fold)) | (k_dflt (refine int2digits (by k_asm) (by k_asm) (by k_asm) (by k_asm) (by k_asm) (by first | exact rfl | assumption) (by assumption) (by assumption) (by assumption) (by assumption) (by assumption) (by assumption) (by assumption) (by ktr_room) (by ktr_units) ?_); intro r5 vs5 nn5 tab5 h5 tk5 hi5 hst5 hap5 F5 N5 hr5 hl5; (have hlen5 := IntsAre.length hi5); (try dsimp only); (try k_fold)) | (k_dflt (refine digits2int (by k_asm) (by k_asm) (by k_asm) (by exact led_sw2 (by k_asm)) (by k_asm) (by first | exact rfl | assumption) (by assumption) (by exact ap_join (by assumption) (by assumption) (by assumption)) (by exact tB_ne (by assumption)) (by assumption) (by assumption) (by omega) (by assumption) (by assumption) (by assumption) (by assumption) (by ktr_room) (by ktr_units) ?_); intro t5 tab5 h5 tk5 hst5 hap5 F5 N5 hr5; (try dsimp only); (try k_fold)) | fail "no call"); k_steps))
    (rename News _ _ _ (_ :: _ :: (_ ++ (_ :: _))) => N6)
    (rename (_ ∧ AllLt _ (_ ++ (_ :: _))) => l6)
    rw [hE9] at N6
    exact ret _ _ _ _ _ _ _ (by assumption) (by assumption) (ap_fin1 (by assumption) (by assumption)) (ap_fin2 (by assumption)) (by k_asm) (led_fin N6) (fun p hp => kst_ltOf l6.2 p (List.mem_append_right _ (.tail _ (List.mem_append_right _ hp))))
end
end Mine
end
section
open PySem PySem.W PyProof.Rows
set_option maxRecDepth 100000
set_option maxHeartbeats 8000000
set_option linter.unusedVariables false
namespace Mine

theorem neg_facts : ∀ x b : Int, -6 ≤ x → x < 0 → 1 ≤ b → b ≤ 4 → -(-x - 1).fdiv b - 1 = x.fdiv b ∧ b + (-(-x - 1).fmod b - 1) = x.fmod b := by
  have key : ∀ i : Nat, i < 6 → ∀ j : Nat, j < 4 → -(-(-6 + (i : Int)) - 1).fdiv (1 + (j : Int)) - 1 = (-6 + (i : Int)).fdiv (1 + (j : Int)) ∧ (1 + (j : Int)) + (-(-(-6 + (i : Int)) - 1).fmod (1 + (j : Int)) - 1) = (-6 + (i : Int)).fmod (1 + (j : Int)) := by decide +kernel
  intro x b h0 h1 h2 h3
  have e1 : (-6 : Int) + ((x + 6).toNat : Int) = x := by omega
  have e2 : (1 : Int) + ((b - 1).toNat : Int) = b := by omega
  have := key (x + 6).toNat (by omega) (b - 1).toNat (by omega)
  rwa [e1, e2] at this
theorem inv_neg {prog : Program} {w : World} {A : Around} {E : Value → Shared → Prop} {s : Shared} {a : Int} {t : Tok} {Q : Value → Shared → Prop} (h : Q (.int (-a - 1) s.toks) { s with toks := s.toks + 1 }) : wpAny (model prog w) A (unaryOp .Invert (.int a t)) Q E s := by
  refine invert_int ?_
  have e : Builtin.bitNot a = -a - 1 := by
    unfold Builtin.bitNot
    omega
  rw [e]
  exact h
section
local macro_rules | `(tactic| walk_at "unaryOp Invert int") => `(tactic| (with_reducible refine inv_neg ?_))
theorem int_divmod_nn {w : World} {mean : ExcName → Option Value} {mg mb : Str → Option Value} {dp un : Nat} {gd : Option (List Code)} {cn : Str} {cs : Scope} {a : Addr} {ccd : Value} {cl : List (Str × Addr)} {outer : List Env} {A₀ : Around} {base h₀ : Heap} {L : Addr} {m : Str → Option Value} {s : Shared} {Q E : Value → Shared → Prop}
  {x b : Int} {t0 t1 : Tok} {tA tB news : List (Addr × Obj)}
  (B : Below A₀ base outer h₀) (F : Fr h₀ L s.heap m) (X : (Mine.hd.heap_39 w.params).In h₀) (N : News h₀ L s.heap (tA ++ (tB ++ news))) (T : Top topProg LooseM mean mg mb h₀) (hk : cs.kind = .function)
  (hA : TabSt 58 69 4 QA tA) (hB : TabSt 65 84 4 QB tB) (haA : ∀ q ∈ tB ++ news, ∀ p ∈ tA, q.1 ≠ p.1) (haB : ∀ q ∈ news, ∀ p ∈ tB, q.1 ≠ p.1) (hcA : CodeHd base 62 58) (hcB : CodeHd base 69 65) (hx0 : 0 ≤ x) (hx1 : x ≤ 14) (hb0 : 1 ≤ b) (hb1 : b ≤ 4) (hd : dp + 25 < recursionLimit) (hu : un + 250 < cLine) 
  (ret : ∀ D t1 t2 tA' tB' h' tk', TabSt 58 69 4 QA tA' → TabSt 65 84 4 QB tB' → (∀ q ∈ tB' ++ news, ∀ p ∈ tA', q.1 ≠ p.1) → (∀ q ∈ news, ∀ p ∈ tB', q.1 ≠ p.1) → Fr h₀ L h' m → News h₀ L h' ((D, tup2 (x.fdiv b) t1 (x.fmod b) t2) :: (tA' ++ (tB' ++ news))) → (∀ p ∈ news, p.1 < D) → Q (.ref D) { s with heap := h', toks := tk' }) :
  wpAny (model PySem.Challenge.rw_om0048_01.row.prog w) (ktrTop dp un gd cn cs L a ccd cl outer) (call (.ref 84) [.int x t0, .int b t1]) Q E s := by
  w_on
  revert X; k_fill; intro X
  refine wpAny_call ?_
  k_dflt cell_enter
  (k_steps; repeat' (refine Stp.mk ?_; (first | (k_dflt (refine divmod_pos (by k_asm) (by k_asm) (by k_asm) (by k_asm) (by k_asm) (by first | exact rfl | assumption) (by assumption) (by assumption) (by assumption) (by assumption) (by assumption) (by assumption) (by omega) (by omega) (by omega) (by omega) (by ktr_room) (by ktr_units) ?_); intro D5 t5 u5 tA5 tB5 h5 tk5 hA5 hB5 haA5 haB5 F5 N5 l5; (try dsimp only); (try k_fold)) | fail "no call"); k_steps))
  · exfalso; omega
  · exact ret _ _ _ _ _ _ _ (by assumption) (by assumption) (by assumption) (by assumption) (by k_asm) (by k_asm) (by assumption)
theorem int_divmod {w : World} {mean : ExcName → Option Value} {mg mb : Str → Option Value} {dp un : Nat} {gd : Option (List Code)} {cn : Str} {cs : Scope} {a : Addr} {ccd : Value} {cl : List (Str × Addr)} {outer : List Env} {A₀ : Around} {base h₀ : Heap} {L : Addr} {m : Str → Option Value} {s : Shared} {Q E : Value → Shared → Prop}
  {x b : Int} {t0 t1 : Tok} {tA tB news : List (Addr × Obj)}
  (B : Below A₀ base outer h₀) (F : Fr h₀ L s.heap m) (X : (Mine.hd.heap_39 w.params).In h₀) (N : News h₀ L s.heap (tA ++ (tB ++ news))) (T : Top topProg LooseM mean mg mb h₀) (hk : cs.kind = .function)
  (hA : TabSt 58 69 4 QA tA) (hB : TabSt 65 84 4 QB tB) (haA : ∀ q ∈ tB ++ news, ∀ p ∈ tA, q.1 ≠ p.1) (haB : ∀ q ∈ news, ∀ p ∈ tB, q.1 ≠ p.1) (hcA : CodeHd base 62 58) (hcB : CodeHd base 69 65) (hx0 : -6 ≤ x) (hx1 : x ≤ 14) (hb0 : 1 ≤ b) (hb1 : b ≤ 4) (hd : dp + 30 < recursionLimit) (hu : un + 300 < cLine) 
  (ret : ∀ D t1 t2 tA' tB' h' tk', TabSt 58 69 4 QA tA' → TabSt 65 84 4 QB tB' → (∀ q ∈ tB' ++ news, ∀ p ∈ tA', q.1 ≠ p.1) → (∀ q ∈ news, ∀ p ∈ tB', q.1 ≠ p.1) → Fr h₀ L h' m → News h₀ L h' ((D, tup2 (x.fdiv b) t1 (x.fmod b) t2) :: (tA' ++ (tB' ++ news))) → (∀ p ∈ news, p.1 < D) → Q (.ref D) { s with heap := h', toks := tk' }) :
  wpAny (model PySem.Challenge.rw_om0048_01.row.prog w) (ktrTop dp un gd cn cs L a ccd cl outer) (call (.ref 84) [.int x t0, .int b t1]) Q E s := by
  w_on
  revert X; k_fill; intro X
  refine wpAny_call ?_
  k_dflt cell_enter
  (k_steps; repeat' (refine Stp.mk ?_; (first | (k_dflt (refine int_divmod_nn (by k_asm) (by k_asm) (by k_asm) (by k_asm) (by k_asm) (by first | exact rfl | assumption) (by assumption) (by assumption) (by assumption) (by assumption) (by assumption) (by assumption) (by omega) (by omega) (by omega) (by omega) (by ktr_room) (by ktr_units) ?_); intro D5 t5 u5 tA5 tB5 h5 tk5 hA5 hB5 haA5 haB5 F5 N5 l5; (try dsimp only); (try k_fold)) | (k_dflt (refine divmod_pos (by k_asm) (by k_asm) (by k_asm) (by k_asm) (by k_asm) (by first | exact rfl | assumption) (by assumption) (by assumption) (by assumption) (by assumption) (by assumption) (by assumption) (by omega) (by omega) (by omega) (by omega) (by ktr_room) (by ktr_units) ?_); intro D5 t5 u5 tA5 tB5 h5 tk5 hA5 hB5 haA5 haB5 F5 N5 l5; (try dsimp only); (try k_fold)) | fail "no call"); k_steps))
  · exfalso; omega
  · obtain ⟨e1, e2⟩ := neg_facts x b hx0 (by assumption) hb0 hb1
    (rename News _ _ _ (_ :: _ :: (_ ++ (_ ++ _))) => N6)
    (rename (_ ∧ AllLt _ (_ ++ _)) => l6)
    rw [e1, e2] at N6
    exact ret _ _ _ _ _ _ _ (by assumption) (by assumption) (by assumption) (by assumption) (by k_asm) (kst_newsOf N6 (fun q hq => (List.mem_cons.mp hq).elim (fun h => h ▸ .head _) (fun h => .tail _ (.tail _ h)))) (fun p hp => kst_ltOf l6.2 p (List.mem_append_right _ (List.mem_append_right _ hp)))
  · exact ret _ _ _ _ _ _ _ (by assumption) (by assumption) (by assumption) (by assumption) (by k_asm) (by k_asm) (by assumption)
end
end Mine
end
section
open PySem PySem.W PyProof.Rows
set_option maxRecDepth 100000
set_option maxHeartbeats 8000000
set_option linter.unusedVariables false
namespace Mine

section
local macro_rules | `(tactic| walk_at "eval ListComp") => `(tactic| (k_here; k_dflt (refine comp_tup (by k_asm) rfl (by with_unfolding_all rfl) (by decide) (by rfl) (by decide) (by rfl) ?_)))
theorem parted {w : World} {mean : ExcName → Option Value} {mg mb : Str → Option Value} {dp un : Nat} {gd : Option (List Code)} {cn : Str} {cs : Scope} {a : Addr} {ccd : Value} {cl : List (Str × Addr)} {outer : List Env} {A₀ : Around} {base h₀ : Heap} {L : Addr} {m : Str → Option Value} {s : Shared} {Q E : Value → Shared → Prop}
  {D : Addr} {q r x b : Int} {t0 t1 t2 t3 : Tok} {news : List (Addr × Obj)}
  (B : Below A₀ base outer h₀) (F : Fr h₀ L s.heap m) (X : (Mine.hd.heap_39 w.params).In h₀) (N : News h₀ L s.heap ((D, tup2 q t0 r t1) :: news)) (T : Top topProg LooseM mean mg mb h₀) (hk : cs.kind = .function)
  (hne : ∀ p ∈ news, p.1 ≠ D) (hr0 : 0 ≤ r) (hr1 : r < b) (hq : q * b + r = x) (hq0 : -14 ≤ q) (hq1 : q ≤ 14) (hb0 : 1 ≤ b) (hb1 : b ≤ 4) (hd : dp + 5 < recursionLimit) (hu : un + 100 < cLine) 
  (ret : ∀ h' tk', Fr h₀ L h' m → News h₀ L h' ((D, tup2 q t0 r t1) :: news) → Q (.bool true) { s with heap := h', toks := tk' }) :
  wpAny (model PySem.Challenge.rw_om0048_01.row.prog w) (ktrTop dp un gd cn cs L a ccd cl outer) (call (.ref 106) [.ref D, .int x t2, .int b t3]) Q E s := by
  w_on
  revert X; k_fill; intro X
  refine wpAny_call ?_
  k_dflt cell_enter
  k_steps
  (rename Fr _ _ _ _ => F8)
  (rename News _ _ _ _ => N8)
  refine ⟨D, #[.int q t0, .int r t1], 0, _, rfl, F8, N8, .head _, (by show 2 ≤ 1000; decide), ?_⟩
  intro g9
  k_dflt (refine LCt.CompRestT.succ (k := 1) ?_)
  intro v9 I9 oI9 C9 oC9 D9 m9 h9 tk9 E9 hv9 hC9 hx9 F9 N9 off9 ne9
  have e9 : v9 = .int q t0 := (Option.some.inj hv9).symm
  subst e9
  k_steps
  refine LCg.CompEnd.intro (by k_asm) (by k_asm) _ (fun _ h => h) off9 (.head _) ?_
  k_dflt (refine LCt.CompRestT.succ (k := 0) ?_)
  intro v8 I8 oI8 C8 oC8 D8 m8 h8 tk8 E8 hv8 hC8 hx8 F8 N8 off8 ne8
  have e8 : v8 = .int r t1 := (Option.some.inj hv8).symm
  subst e8
  k_steps
  refine LCg.CompEnd.intro (by k_asm) (by k_asm) _ (fun _ h => h) off8 (.head _) ?_
  refine LCt.CompRestT.zero ?_
  intro D7 h7 tk7 F7 N7 o7
  (try dsimp only); (try k_fold)
  k_steps
  have e7 : (q * b + r == x) = true := by rw [hq]; simp
  rw [e7]
  exact ret _ _ (by k_asm) (kst_newsOf (by k_asm) (List.forall_mem_cons.mpr ⟨by k_mem, fun q hq => by repeat (first | exact hq | refine List.Mem.tail _ ?_)⟩))
end
end Mine
end
section
open PySem PySem.W PyProof.Rows
set_option maxRecDepth 100000
set_option maxHeartbeats 8000000
set_option linter.unusedVariables false
namespace Mine

def madeF (least : Int) (rs : List (Int × Int)) : List Int := (rs.map fun p => p.1 * least + p.2).filter fun x => decide (x ≤ 15)
theorem off1_mem {D : Addr} : ∀ {l : List (Addr × Obj)}, LCg.Off1 D l → ∀ p ∈ l, p.1 ≠ D
  | [], _, _, h => nomatch h
  | _ :: _, x, p, h => by
    rcases List.mem_cons.mp h with rfl | h
    · exact x.1
    · exact off1_mem x.2 p h
section
local macro_rules | `(tactic| walk_at "nought, so that the count of the lines is another one than before") => `(tactic| skip)
local macro_rules | `(tactic| walk_at "CompEnd") => `(tactic| (k_dflt (refine LCg.CompEnd.intro (by k_asm) (by k_asm) _ (fun _ h => h) (by assumption) (by lcg_src) ?_)))
theorem made1 {w : World} {mean : ExcName → Option Value} {mg mb : Str → Option Value} {dp un : Nat} {gd : Option (List Code)} {cn : Str} {cs : Scope} {a : Addr} {ccd : Value} {cl : List (Str × Addr)} {outer : List Env} {A₀ : Around} {base h₀ : Heap} {L : Addr} {m : Str → Option Value} {s : Shared} {Q E : Value → Shared → Prop}
  {r a1 : Addr} {nr : Nat} {f1 m1 x : Int} {t1 u1 t0 : Tok} {news : List (Addr × Obj)}
  (B : Below A₀ base outer h₀) (F : Fr h₀ L s.heap m) (X : (Mine.hd.heap_39 w.params).In h₀) (N : News h₀ L s.heap ((r, listOf #[.ref a1] nr) :: (a1, tup2 f1 t1 m1 u1) :: news)) (T : Top topProg LooseM mean mg mb h₀) (hk : cs.kind = .function)
  (hf1 : 1 ≤ f1 ∧ f1 ≤ 4) (hm1 : 1 ≤ m1 ∧ m1 ≤ 6) (hx0 : 0 ≤ x) (hx1 : x ≤ 15) (hd : dp + 5 < recursionLimit) (hu : un + 100 < cLine) 
  (ret : ∀ D vs nn h' tk', IntsAre vs (madeF x [(f1, m1)]) → Fr h₀ L h' m → News h₀ L h' ((D, listOf vs.toArray nn) :: (r, listOf #[.ref a1] nr) :: (a1, tup2 f1 t1 m1 u1) :: news) → D ≠ r ∧ D ≠ a1 → (∀ p ∈ news, p.1 ≠ D) → Q (.ref D) { s with heap := h', toks := tk' }) :
  wpAny (model PySem.Challenge.rw_om0048_01.row.prog w) (ktrTop dp un gd cn cs L a ccd cl outer) (call (.ref 94) [.int x t0, .ref r]) Q E s := by
  w_on
  revert X; k_fill; intro X
  have hmade : madeF x [(f1, m1)] = madeF x [(f1, m1)] := rfl
  refine wpAny_call ?_
  k_dflt (refine' code_defC ?k1 ?k2 ?k3 ?k4 ?k5 ?kA ?kF ?kK ?k6 ?k7 ?k8 ?k9 ?kB ?kD ?_ ?c2 ?c3 ?c4; (case kA => exact rfl); (case kF => exact rfl); (case kK => assumption); (case k1 => k_asm); (case k2 => k_asm); (case k3 => k_asm); (case k4 => k_asm); (case k5 => k_asm); (case k6 => k_is); (case k7 => k_is); (case k8 => ktr_room); (case k9 => exact BindsTo.of_eq rfl); (case kB => exact rfl); (case kD => decide +kernel); (case c2 => exact rfl); (case c3 => exact rfl); (case c4 => exact rfl); k_whole; intro g' L' h' tk' cells' FG' F' N' Y' B' X' T' l1; (have hNn : ∀ p ∈ news, p.1 < L' := fun p hp => l1 p (by simp [hp])); (try k_lt l1); k_cells Y'; (try simp only [List.cons_append, List.nil_append] at N'); (try dsimp only); (try k_lift B'); (try k_fold))
  k_steps
  all_goals (
    (rename (_ ∧ _) => o8)
    refine ret _ _ _ _ _ ?_ (by k_asm) (kst_newsOf (by k_asm) (List.forall_mem_cons.mpr ⟨by k_mem, List.forall_mem_cons.mpr ⟨by k_mem, List.forall_mem_cons.mpr ⟨by k_mem,  fun q hq => by repeat (first | exact hq | refine List.Mem.tail _ ?_)⟩⟩⟩)) (by refine ⟨?_, ?_⟩ <;> (refine neN ?_; omega)) (off1_mem o8.2.2.2.2)
    simp only [madeF, List.map_cons, List.map_nil, List.filter_cons, List.filter_nil]
    repeat (first | rw [if_pos (decide_eq_true (by assumption))] | rw [if_neg (fun h => absurd (of_decide_eq_true h) (by assumption))])
    repeat' (first | exact IntsAre.nil | refine IntsAre.cons _ _ ?_))
theorem made2 {w : World} {mean : ExcName → Option Value} {mg mb : Str → Option Value} {dp un : Nat} {gd : Option (List Code)} {cn : Str} {cs : Scope} {a : Addr} {ccd : Value} {cl : List (Str × Addr)} {outer : List Env} {A₀ : Around} {base h₀ : Heap} {L : Addr} {m : Str → Option Value} {s : Shared} {Q E : Value → Shared → Prop}
  {r a1 a2 : Addr} {nr : Nat} {f1 m1 f2 m2 x : Int} {t1 u1 t2 u2 t0 : Tok} {news : List (Addr × Obj)}
  (B : Below A₀ base outer h₀) (F : Fr h₀ L s.heap m) (X : (Mine.hd.heap_39 w.params).In h₀) (N : News h₀ L s.heap ((r, listOf #[.ref a1, .ref a2] nr) :: (a1, tup2 f1 t1 m1 u1) :: (a2, tup2 f2 t2 m2 u2) :: news)) (T : Top topProg LooseM mean mg mb h₀) (hk : cs.kind = .function)
  (hf1 : 1 ≤ f1 ∧ f1 ≤ 4) (hm1 : 1 ≤ m1 ∧ m1 ≤ 6) (hf2 : 1 ≤ f2 ∧ f2 ≤ 4) (hm2 : 1 ≤ m2 ∧ m2 ≤ 6) (hx0 : 0 ≤ x) (hx1 : x ≤ 15) (hd : dp + 5 < recursionLimit) (hu : un + 100 < cLine) 
  (ret : ∀ D vs nn h' tk', IntsAre vs (madeF x [(f1, m1), (f2, m2)]) → Fr h₀ L h' m → News h₀ L h' ((D, listOf vs.toArray nn) :: (r, listOf #[.ref a1, .ref a2] nr) :: (a1, tup2 f1 t1 m1 u1) :: (a2, tup2 f2 t2 m2 u2) :: news) → D ≠ r ∧ D ≠ a1 ∧ D ≠ a2 → (∀ p ∈ news, p.1 ≠ D) → Q (.ref D) { s with heap := h', toks := tk' }) :
  wpAny (model PySem.Challenge.rw_om0048_01.row.prog w) (ktrTop dp un gd cn cs L a ccd cl outer) (call (.ref 94) [.int x t0, .ref r]) Q E s := by
  w_on
  revert X; k_fill; intro X
  have hmade : madeF x [(f1, m1), (f2, m2)] = madeF x [(f1, m1), (f2, m2)] := rfl
  refine wpAny_call ?_
  k_dflt (refine' code_defC ?k1 ?k2 ?k3 ?k4 ?k5 ?kA ?kF ?kK ?k6 ?k7 ?k8 ?k9 ?kB ?kD ?_ ?c2 ?c3 ?c4; (case kA => exact rfl); (case kF => exact rfl); (case kK => assumption); (case k1 => k_asm); (case k2 => k_asm); (case k3 => k_asm); (case k4 => k_asm); (case k5 => k_asm); (case k6 => k_is); (case k7 => k_is); (case k8 => ktr_room); (case k9 => exact BindsTo.of_eq rfl); (case kB => exact rfl); (case kD => decide +kernel); (case c2 => exact rfl); (case c3 => exact rfl); (case c4 => exact rfl); k_whole; intro g' L' h' tk' cells' FG' F' N' Y' B' X' T' l1; (have hNn : ∀ p ∈ news, p.1 < L' := fun p hp => l1 p (by simp [hp])); (try k_lt l1); k_cells Y'; (try simp only [List.cons_append, List.nil_append] at N'); (try dsimp only); (try k_lift B'); (try k_fold))
  k_steps
  all_goals (
    (rename (_ ∧ _) => o8)
    refine ret _ _ _ _ _ ?_ (by k_asm) (kst_newsOf (by k_asm) (List.forall_mem_cons.mpr ⟨by k_mem, List.forall_mem_cons.mpr ⟨by k_mem, List.forall_mem_cons.mpr ⟨by k_mem, List.forall_mem_cons.mpr ⟨by k_mem,  fun q hq => by repeat (first | exact hq | refine List.Mem.tail _ ?_)⟩⟩⟩⟩)) (by refine ⟨?_, ?_, ?_⟩ <;> (refine neN ?_; omega)) (off1_mem o8.2.2.2.2.2)
    simp only [madeF, List.map_cons, List.map_nil, List.filter_cons, List.filter_nil]
    repeat (first | rw [if_pos (decide_eq_true (by assumption))] | rw [if_neg (fun h => absurd (of_decide_eq_true h) (by assumption))])
    repeat' (first | exact IntsAre.nil | refine IntsAre.cons _ _ ?_))
theorem made3 {w : World} {mean : ExcName → Option Value} {mg mb : Str → Option Value} {dp un : Nat} {gd : Option (List Code)} {cn : Str} {cs : Scope} {a : Addr} {ccd : Value} {cl : List (Str × Addr)} {outer : List Env} {A₀ : Around} {base h₀ : Heap} {L : Addr} {m : Str → Option Value} {s : Shared} {Q E : Value → Shared → Prop}
  {r a1 a2 a3 : Addr} {nr : Nat} {f1 m1 f2 m2 f3 m3 x : Int} {t1 u1 t2 u2 t3 u3 t0 : Tok} {news : List (Addr × Obj)}
  (B : Below A₀ base outer h₀) (F : Fr h₀ L s.heap m) (X : (Mine.hd.heap_39 w.params).In h₀) (N : News h₀ L s.heap ((r, listOf #[.ref a1, .ref a2, .ref a3] nr) :: (a1, tup2 f1 t1 m1 u1) :: (a2, tup2 f2 t2 m2 u2) :: (a3, tup2 f3 t3 m3 u3) :: news)) (T : Top topProg LooseM mean mg mb h₀) (hk : cs.kind = .function)
  (hf1 : 1 ≤ f1 ∧ f1 ≤ 4) (hm1 : 1 ≤ m1 ∧ m1 ≤ 6) (hf2 : 1 ≤ f2 ∧ f2 ≤ 4) (hm2 : 1 ≤ m2 ∧ m2 ≤ 6) (hf3 : 1 ≤ f3 ∧ f3 ≤ 4) (hm3 : 1 ≤ m3 ∧ m3 ≤ 6) (hx0 : 0 ≤ x) (hx1 : x ≤ 15) (hd : dp + 5 < recursionLimit) (hu : un + 100 < cLine) 
  (ret : ∀ D vs nn h' tk', IntsAre vs (madeF x [(f1, m1), (f2, m2), (f3, m3)]) → Fr h₀ L h' m → News h₀ L h' ((D, listOf vs.toArray nn) :: (r, listOf #[.ref a1, .ref a2, .ref a3] nr) :: (a1, tup2 f1 t1 m1 u1) :: (a2, tup2 f2 t2 m2 u2) :: (a3, tup2 f3 t3 m3 u3) :: news) → D ≠ r ∧ D ≠ a1 ∧ D ≠ a2 ∧ D ≠ a3 → (∀ p ∈ news, p.1 ≠ D) → Q (.ref D) { s with heap := h', toks := tk' }) :
  wpAny (model PySem.Challenge.rw_om0048_01.row.prog w) (ktrTop dp un gd cn cs L a ccd cl outer) (call (.ref 94) [.int x t0, .ref r]) Q E s := by
  w_on
  revert X; k_fill; intro X
  have hmade : madeF x [(f1, m1), (f2, m2), (f3, m3)] = madeF x [(f1, m1), (f2, m2), (f3, m3)] := rfl
  refine wpAny_call ?_
  k_dflt (refine' code_defC ?k1 ?k2 ?k3 ?k4 ?k5 ?kA ?kF ?kK ?k6 ?k7 ?k8 ?k9 ?kB ?kD ?_ ?c2 ?c3 ?c4; (case kA => exact rfl); (case kF => exact rfl); (case kK => assumption); (case k1 => k_asm); (case k2 => k_asm); (case k3 => k_asm); (case k4 => k_asm); (case k5 => k_asm); (case k6 => k_is); (case k7 => k_is); (case k8 => ktr_room); (case k9 => exact BindsTo.of_eq rfl); (case kB => exact rfl); (case kD => decide +kernel); (case c2 => exact rfl); (case c3 => exact rfl); (case c4 => exact rfl); k_whole; intro g' L' h' tk' cells' FG' F' N' Y' B' X' T' l1; (have hNn : ∀ p ∈ news, p.1 < L' := fun p hp => l1 p (by simp [hp])); (try k_lt l1); k_cells Y'; (try simp only [List.cons_append, List.nil_append] at N'); (try dsimp only); (try k_lift B'); (try k_fold))
  k_steps
  all_goals (
    (rename (_ ∧ _) => o8)
    refine ret _ _ _ _ _ ?_ (by k_asm) (kst_newsOf (by k_asm) (List.forall_mem_cons.mpr ⟨by k_mem, List.forall_mem_cons.mpr ⟨by k_mem, List.forall_mem_cons.mpr ⟨by k_mem, List.forall_mem_cons.mpr ⟨by k_mem, List.forall_mem_cons.mpr ⟨by k_mem,  fun q hq => by repeat (first | exact hq | refine List.Mem.tail _ ?_)⟩⟩⟩⟩⟩)) (by refine ⟨?_, ?_, ?_, ?_⟩ <;> (refine neN ?_; omega)) (off1_mem o8.2.2.2.2.2.2)
    simp only [madeF, List.map_cons, List.map_nil, List.filter_cons, List.filter_nil]
    repeat (first | rw [if_pos (decide_eq_true (by assumption))] | rw [if_neg (fun h => absurd (of_decide_eq_true h) (by assumption))])
    repeat' (first | exact IntsAre.nil | refine IntsAre.cons _ _ ?_))
end
end Mine
end
section
set_option linter.unusedVariables false
namespace Mine
/-- the sum of g below n -/
def sm (g : Nat → Nat) : Nat → Nat
  | 0 => 0
  | k + 1 => sm g k + g k
theorem sm_congr {g h : Nat → Nat} : ∀ {n : Nat}, (∀ k, k < n → g k = h k) → sm g n = sm h n
  | 0, _ => rfl
  | n + 1, e => by rw [sm, sm, sm_congr (fun k hk => e k (by omega)), e n (by omega)]
theorem sm_add (g h : Nat → Nat) : ∀ n, sm (fun k => g k + h k) n = sm g n + sm h n
  | 0 => rfl
  | n + 1 => by rw [sm, sm, sm, sm_add g h n]; omega
theorem sm_zero {g : Nat → Nat} : ∀ {n : Nat}, (∀ k, k < n → g k = 0) → sm g n = 0
  | 0, _ => rfl
  | n + 1, e => by rw [sm, sm_zero (fun k hk => e k (by omega)), e n (by omega)]
theorem sm_one {g : Nat → Nat} {j : Nat} : ∀ {n : Nat}, j < n → (∀ k, k < n → k ≠ j → g k = 0) → sm g n = g j
  | 0, h, _ => absurd h (Nat.not_lt_zero _)
  | n + 1, h, e => by
    rw [sm]
    by_cases hj : j = n
    · subst hj
      rw [sm_zero (fun k hk => e k (by omega) (by omega))]; omega
    · rw [sm_one (by omega) (fun k hk => e k (by omega)), e n (by omega) (fun q => hj q.symm)]; omega
theorem sm_le {g : Nat → Nat} {b : Nat} : ∀ {n : Nat}, (∀ k, k < n → g k ≤ b) → sm g n ≤ b * n
  | 0, _ => by simp [sm]
  | n + 1, e => by
    have := sm_le (n := n) (fun k hk => e k (by omega))
    have := e n (by omega)
    rw [sm, Nat.mul_succ]; omega
/-- the rules are as the law makes them -/
def RulesOk (rs : List (Int × Int)) : Prop := rs.length ≤ 3 ∧ ∀ p ∈ rs, 1 ≤ p.1 ∧ p.1 ≤ 4 ∧ 1 ≤ p.2 ∧ p.2 ≤ 6
theorem made_len (x : Int) (rs : List (Int × Int)) : (madeF x rs).length ≤ rs.length := by
  unfold madeF
  exact Nat.le_trans (List.length_filter_le ..) (by simp)
theorem made_mem {x a : Int} {rs : List (Int × Int)} (h : RulesOk rs) (h0 : 0 ≤ x) (ha : a ∈ madeF x rs) : x < a ∧ a ≤ 15 := by
  unfold madeF at ha
  obtain ⟨h1, h2⟩ := List.mem_filter.mp ha
  obtain ⟨p, hp, rfl⟩ := List.mem_map.mp h1
  obtain ⟨p1, p2, p3, p4⟩ := h.2 p hp
  have : x * 1 ≤ x * p.1 := Int.mul_le_mul_of_nonneg_left p1 h0
  have e : p.1 * x = x * p.1 := Int.mul_comm _ _
  have := of_decide_eq_true h2
  omega
section
variable (start shift : Int) (rs : List (Int × Int))
/-- what the numbers that came have made, counted at a -/
def mS (cs : List Int) (a : Int) : Nat := sm (fun k => if (k : Int) + shift ∈ cs then (madeF k rs).count (a - shift) else 0) 16
def mL (cs : List Int) : Nat := sm (fun k => if (k : Int) + shift ∈ cs then (madeF k rs).length else 0) 16
/-- between the turns of _law_out -/
structure OutInv (i : Nat) (ns cs : List Int) : Prop where
  st : Stands ns
  srt : cs.Pairwise (· ≤ ·)
  le : ∀ c ∈ cs, ∀ a ∈ ns, c ≤ a
  nsB : ∀ a ∈ ns, 0 ≤ a - shift ∧ a - shift ≤ 15
  csB : ∀ a ∈ cs, 0 ≤ a - shift ∧ a - shift ≤ 15
  cnt : ∀ a, ns.count a + cs.count a = (if start + shift = a then 1 else 0) + mS shift rs cs a
  len : ns.length + cs.length = 1 + mL shift rs cs
  num : cs.length = i
/-- within a turn, pre is pushed -/
structure InInv (ns : List Int) (v : Int) (pre : List Int) (hp : List Int) : Prop where
  st : Stands hp
  cnt : ∀ a, hp.count a = (popL ns).count a + pre.count (a - shift)
  len : hp.length + 1 = ns.length + pre.length
end
variable {start shift : Int} {rs : List (Int × Int)}
theorem mL_le (h : RulesOk rs) (cs : List Int) : mL shift rs cs ≤ 48 := by
  refine sm_le (b := 3) (n := 16) fun k _ => ?_
  split
  · exact Nat.le_trans (made_len _ _) h.1
  · omega
theorem out_start (h0 : 0 ≤ start) (h1 : start ≤ 4) : OutInv start shift rs 0 [start + shift] [] where
  st := fun k k1 k2 => by simp at k2; omega
  srt := .nil
  le := fun _ h => nomatch h
  nsB := fun a ha => by
    rw [List.mem_singleton.mp ha]; omega
  csB := fun _ h => nomatch h
  cnt := fun a => by
    have : mS shift rs [] a = 0 := sm_zero fun k _ => by simp
    rw [this]
    simp [List.count_singleton]
  len := by
    have : mL shift rs [] = 0 := sm_zero fun k _ => by simp
    rw [this]; simp
  num := rfl
theorem OutInv.small (h : RulesOk rs) {i : Nat} {ns cs : List Int} (I : OutInv start shift rs i ns cs) : ns.length + cs.length ≤ 49 := by
  have := I.len
  have := mL_le (shift := shift) h cs
  omega
theorem OutInv.not50 (h : RulesOk rs) {ns cs : List Int} (I : OutInv start shift rs 50 ns cs) : False := by
  have := I.small h
  have := I.num
  omega
theorem OutInv.vB {i : Nat} {ns cs : List Int} (I : OutInv start shift rs i ns cs) (h0 : 0 < ns.length) : 0 ≤ popV ns - shift ∧ popV ns - shift ≤ 15 := I.nsB _ (pop_mem h0)
theorem OutInv.again {i : Nat} {ns cs : List Int} (I : OutInv start shift rs i ns cs) (h0 : 0 < ns.length) (hv : popV ns ∈ cs) : OutInv start shift rs (i + 1) (popL ns) (cs ++ [popV ns]) := by
  have same : ∀ a, a ∈ cs ++ [popV ns] ↔ a ∈ cs := fun a => by
    simp only [List.mem_append, List.mem_singleton]
    exact ⟨fun h => h.elim id fun e => e ▸ hv, .inl⟩
  exact {
    st := pop_stands I.st
    srt := List.pairwise_append.mpr ⟨I.srt, List.pairwise_singleton _ _, fun c hc b hb => by rw [List.mem_singleton.mp hb]; exact I.le c hc _ (pop_mem h0)⟩
    le := fun c hc a ha => I.le c ((same c).mp hc) a (pop_sub h0 ha)
    nsB := fun a ha => I.nsB a (pop_sub h0 ha)
    csB := fun a ha => I.csB a ((same a).mp ha)
    cnt := fun a => by
      have e : mS shift rs (cs ++ [popV ns]) a = mS shift rs cs a := sm_congr fun k _ => by simp only [same]
      rw [e, ← I.cnt a, List.count_append, List.count_singleton, pop_cnt a h0]
      simp only [beq_iff_eq]
      omega
    len := by
      have e : mL shift rs (cs ++ [popV ns]) = mL shift rs cs := sm_congr fun k _ => by simp only [same]
      rw [e, ← I.len]
      have := pop_length h0
      simp; omega
    num := by simp [I.num] }
theorem in_start {i : Nat} {ns cs : List Int} (I : OutInv start shift rs i ns cs) (h0 : 0 < ns.length) : InInv shift ns (popV ns) [] (popL ns) where
  st := pop_stands I.st
  cnt := fun a => by simp
  len := by have := pop_length h0; simp; omega
theorem InInv.more {ns hp pre : List Int} {v x : Int} (I : InInv shift ns v pre hp) : InInv shift ns v (pre ++ [x]) (pushF hp (x + shift)) where
  st := push_stands I.st
  cnt := fun a => by
    rw [push_cnt, I.cnt a, List.count_append, List.count_singleton]
    have e : (x + shift = a) ↔ (x = a - shift) := by omega
    simp only [beq_iff_eq, e]
    omega
  len := by rw [push_length]; have := I.len; simp; omega
end Mine
end
section
set_option linter.unusedVariables false
namespace Mine
variable {start shift : Int} {rs : List (Int × Int)}
theorem sm_new {cs : List Int} {v : Int} {f : Int → Nat} (h0 : 0 ≤ v - shift) (h1 : v - shift ≤ 15) (hv : v ∉ cs) :
    sm (fun k => if (k : Int) + shift ∈ cs ++ [v] then f k else 0) 16 = sm (fun k => if (k : Int) + shift ∈ cs then f k else 0) 16 + f (v - shift) := by
  have e : sm (fun k => if (k : Int) + shift ∈ cs ++ [v] then f k else 0) 16 = sm (fun k => (if (k : Int) + shift ∈ cs then f k else 0) + (if (k : Int) + shift = v then f k else 0)) 16 := by
    refine sm_congr fun k _ => ?_
    by_cases hk : (k : Int) + shift = v
    · rw [if_pos (by simp [hk]), if_neg (by rw [hk]; exact hv), if_pos hk]; omega
    · have : (k : Int) + shift ∈ cs ++ [v] ↔ (k : Int) + shift ∈ cs := by simp [hk]
      simp only [this, if_neg hk, Nat.add_zero]
  rw [e, sm_add]
  have hj : (v - shift).toNat < 16 := by omega
  rw [sm_one (g := fun k => if (k : Int) + shift = v then f k else 0) hj (fun k _ hne => if_neg (by omega))]
  have e2 : ((v - shift).toNat : Int) = v - shift := by omega
  simp only [e2]
  rw [if_pos (by omega)]
theorem OutInv.fresh (hr : RulesOk rs) {i : Nat} {ns cs hp : List Int} (I : OutInv start shift rs i ns cs) (h0 : 0 < ns.length) (hv : popV ns ∉ cs) (J : InInv shift ns (popV ns) (madeF (popV ns - shift) rs) hp) :
    OutInv start shift rs (i + 1) hp (cs ++ [popV ns]) := by
  obtain ⟨v0, v1⟩ := I.vB h0
  have mem : ∀ a, a ∈ hp → a ∈ popL ns ∨ a - shift ∈ madeF (popV ns - shift) rs := fun a ha => by
    have h1 := List.count_pos_iff.mpr ha
    rw [J.cnt a] at h1
    by_cases h2 : 0 < (popL ns).count a
    · exact .inl (List.count_pos_iff.mp h2)
    · exact .inr (List.count_pos_iff.mp (by omega))
  have lv : ∀ c ∈ cs ++ [popV ns], c ≤ popV ns := fun c hc => by
    rcases List.mem_append.mp hc with h | h
    · exact I.le c h _ (pop_mem h0)
    · rw [List.mem_singleton.mp h]; exact Int.le_refl _
  exact {
    st := J.st
    srt := List.pairwise_append.mpr ⟨I.srt, List.pairwise_singleton _ _, fun c hc b hb => by rw [List.mem_singleton.mp hb]; exact I.le c hc _ (pop_mem h0)⟩
    le := fun c hc a ha => by
      refine Int.le_trans (lv c hc) ?_
      rcases mem a ha with h | h
      · exact pop_least I.st h0 (pop_sub h0 h)
      · have := made_mem hr v0 h; omega
    nsB := fun a ha => by
      rcases mem a ha with h | h
      · exact I.nsB a (pop_sub h0 h)
      · have := made_mem hr v0 h; omega
    csB := fun a ha => by
      rcases List.mem_append.mp ha with h | h
      · exact I.csB a h
      · rw [List.mem_singleton.mp h]; exact ⟨v0, v1⟩
    cnt := fun a => by
      have e : mS shift rs (cs ++ [popV ns]) a = mS shift rs cs a + (madeF (popV ns - shift) rs).count (a - shift) := sm_new (f := fun k => (madeF k rs).count (a - shift)) v0 v1 hv
      have h1 := I.cnt a
      have h2 := pop_cnt a h0
      have h3 := J.cnt a
      rw [e, List.count_append, List.count_singleton]
      simp only [beq_iff_eq]
      omega
    len := by
      have e : mL shift rs (cs ++ [popV ns]) = mL shift rs cs + (madeF (popV ns - shift) rs).length := sm_new (f := fun k => (madeF k rs).length) v0 v1 hv
      have h1 := I.len
      have h3 := J.len
      rw [e]
      simp only [List.length_append, List.length_cons, List.length_nil]
      omega
    num := by simp [I.num] }
/-- how often a rule leads n back into told -/
def leads (told : List Int) (n shift : Int) (p : Int × Int) : Nat := if (n - p.2).fmod p.1 = 0 ∧ (n - p.2).fdiv p.1 + shift ∈ told then 1 else 0
def ways (told : List Int) (start n shift : Int) (rs : List (Int × Int)) : Nat := (if n = start then 1 else 0) + (rs.map (leads told n shift)).sum
def toldF (start shift : Int) (rs : List (Int × Int)) : Nat → List Int
  | 0 => []
  | n + 1 => toldF start shift rs n ++ List.replicate (ways (toldF start shift rs n) start n shift rs) ((n : Int) + shift)
end Mine
end
section
set_option linter.unusedVariables false
namespace Mine
theorem fm_of {a f : Int} (h : a.fmod f = 0) : f * a.fdiv f = a := by
  have := Int.mul_fdiv_add_fmod a f
  omega
theorem fd_of {k f : Int} (hf : 1 ≤ f) : (f * k).fmod f = 0 ∧ (f * k).fdiv f = k := by
  have h1 : (f * k).fmod f = 0 := by
    rw [Int.fmod_eq_emod_of_nonneg _ (by omega)]
    exact Int.mul_emod_right f k
  refine ⟨h1, ?_⟩
  have := fm_of h1
  exact Int.eq_of_mul_eq_mul_left (by omega) this
theorem made_cons {k n : Int} {p : Int × Int} {rs : List (Int × Int)} (hn : n ≤ 15) : (madeF k (p :: rs)).count n = (if p.1 * k + p.2 = n then 1 else 0) + (madeF k rs).count n := by
  unfold madeF
  rw [List.map_cons, List.filter_cons]
  by_cases h : p.1 * k + p.2 ≤ 15
  · rw [if_pos (decide_eq_true h), List.count_cons]
    simp only [beq_iff_eq]
    omega
  · rw [if_neg (fun e => h (of_decide_eq_true e)), if_neg (by omega)]
    omega
theorem one_lead {cs : List Int} {shift n : Int} {p : Int × Int} (hp : 1 ≤ p.1) (hB : ∀ a ∈ cs, 0 ≤ a - shift ∧ a - shift ≤ 15) :
    sm (fun k => if (k : Int) + shift ∈ cs then (if p.1 * (k : Int) + p.2 = n then 1 else 0) else 0) 16 = leads cs n shift p := by
  unfold leads
  by_cases h : (n - p.2).fmod p.1 = 0 ∧ (n - p.2).fdiv p.1 + shift ∈ cs
  · rw [if_pos h]
    have e := fm_of h.1
    have b := hB _ h.2
    have e2 : (((n - p.2).fdiv p.1).toNat : Int) = (n - p.2).fdiv p.1 := by omega
    rw [sm_one (j := ((n - p.2).fdiv p.1).toNat) (by omega)]
    · simp only [e2]
      rw [if_pos h.2, if_pos (by omega)]
    · intro k hk hne
      by_cases hc : (k : Int) + shift ∈ cs
      · rw [if_pos hc, if_neg]
        intro hk2
        apply hne
        have : p.1 * (k : Int) = p.1 * (n - p.2).fdiv p.1 := by omega
        have := Int.eq_of_mul_eq_mul_left (by omega) this
        omega
      · rw [if_neg hc]
  · rw [if_neg h]
    refine sm_zero fun k hk => ?_
    by_cases hc : (k : Int) + shift ∈ cs
    · rw [if_pos hc, if_neg]
      intro hk2
      apply h
      have e : n - p.2 = p.1 * (k : Int) := by omega
      obtain ⟨f1, f2⟩ := fd_of (k := (k : Int)) hp
      rw [e, f2]
      exact ⟨f1, hc⟩
    · rw [if_neg hc]
theorem sum_leads {cs : List Int} {shift n : Int} (hn : n ≤ 15) (hB : ∀ a ∈ cs, 0 ≤ a - shift ∧ a - shift ≤ 15) : ∀ {rs : List (Int × Int)}, (∀ p ∈ rs, 1 ≤ p.1) →
    sm (fun k => if (k : Int) + shift ∈ cs then (madeF k rs).count n else 0) 16 = (rs.map (leads cs n shift)).sum
  | [], _ => by
    rw [sm_zero (fun k _ => by simp [madeF])]; rfl
  | p :: rs, h => by
    have ih := sum_leads hn hB (rs := rs) (fun q hq => h q (.tail _ hq))
    have e : sm (fun k => if (k : Int) + shift ∈ cs then (madeF k (p :: rs)).count n else 0) 16 =
        sm (fun k => (if (k : Int) + shift ∈ cs then (if p.1 * (k : Int) + p.2 = n then 1 else 0) else 0) + (if (k : Int) + shift ∈ cs then (madeF k rs).count n else 0)) 16 := by
      refine sm_congr fun k _ => ?_
      by_cases hc : (k : Int) + shift ∈ cs
      · rw [if_pos hc, if_pos hc, if_pos hc, made_cons hn]
      · rw [if_neg hc, if_neg hc, if_neg hc]
    rw [e, sm_add, ih, one_lead (h p (.head _)) hB]
    rfl
theorem filter_next {shift n : Int} : ∀ {cs : List Int}, cs.Pairwise (· ≤ ·) →
    cs.filter (fun a => decide (a - shift < n + 1)) = cs.filter (fun a => decide (a - shift < n)) ++ List.replicate (cs.count (n + shift)) (n + shift)
  | [], _ => rfl
  | c :: r, h => by
    obtain ⟨h1, h2⟩ := List.pairwise_cons.mp h
    have ih := filter_next (shift := shift) (n := n) h2
    rw [List.filter_cons, List.filter_cons, List.count_cons]
    by_cases a1 : c - shift < n
    · rw [if_pos (decide_eq_true (by omega)), if_pos (decide_eq_true a1), ih]
      have : ¬ (c == n + shift) = true := by simp; omega
      rw [if_neg this]
      rfl
    · have nil : r.filter (fun a => decide (a - shift < n)) = [] := List.filter_eq_nil_iff.mpr fun a ha e => by
        have := h1 a ha
        have := of_decide_eq_true e
        omega
      rw [if_neg (fun e => a1 (of_decide_eq_true e)), nil]
      rw [nil] at ih
      by_cases a2 : c = n + shift
      · rw [if_pos (decide_eq_true (by omega)), if_pos (by simp [a2]), ih, a2]
        rfl
      · rw [if_neg (fun e => by have := of_decide_eq_true e; omega), if_neg (by simpa using a2), ih]
        rfl
theorem out_told {start shift : Int} {rs : List (Int × Int)} {i : Nat} {cs : List Int} (hr : RulesOk rs) (I : OutInv start shift rs i [] cs) : ∀ n : Nat, n ≤ 16 → toldF start shift rs n = cs.filter (fun a => decide (a - shift < (n : Int)))
  | 0, _ => by
    refine (List.filter_eq_nil_iff.mpr fun a ha e => ?_).symm
    have := I.csB a ha
    have := of_decide_eq_true e
    omega
  | n + 1, h => by
    have ih := out_told hr I n (by omega)
    have e1 : ((n + 1 : Nat) : Int) = (n : Int) + 1 := by omega
    rw [e1, filter_next I.srt, toldF, ← ih]
    congr 1
    have hc := I.cnt ((n : Int) + shift)
    have hm : mS shift rs cs ((n : Int) + shift) = (rs.map (leads cs n shift)).sum := by
      unfold mS
      rw [← sum_leads (by omega) I.csB (fun p hp => (hr.2 p hp).1)]
      refine sm_congr fun k _ => ?_
      have : (n : Int) + shift - shift = n := by omega
      rw [this]
    have hl : rs.map (leads (toldF start shift rs n) n shift) = rs.map (leads cs n shift) := by
      refine List.map_congr_left fun p hp => ?_
      obtain ⟨p1, p2, p3, p4⟩ := hr.2 p hp
      unfold leads
      have : ((n : Int) - p.2).fmod p.1 = 0 ∧ ((n : Int) - p.2).fdiv p.1 + shift ∈ toldF start shift rs n ↔ ((n : Int) - p.2).fmod p.1 = 0 ∧ ((n : Int) - p.2).fdiv p.1 + shift ∈ cs := by
        refine and_congr_right fun hf => ?_
        rw [ih, List.mem_filter]
        refine ⟨fun h => h.1, fun h => ⟨h, decide_eq_true ?_⟩⟩
        have e := fm_of hf
        have b := I.csB _ h
        have : ((n : Int) - p.2).fdiv p.1 * 1 ≤ ((n : Int) - p.2).fdiv p.1 * p.1 := Int.mul_le_mul_of_nonneg_left p1 (by omega)
        have := Int.mul_comm (((n : Int) - p.2).fdiv p.1) p.1
        omega
      simp only [this]
    unfold ways
    rw [hl, ← hm]
    have : ((n : Int) = start) ↔ (start + shift = (n : Int) + shift) := by omega
    simp only [this]
    simp only [List.count_nil, Nat.zero_add] at hc
    rw [hc]
/-- the plain law -/
theorem out_is_told {start shift : Int} {rs : List (Int × Int)} {i : Nat} {cs : List Int} (hr : RulesOk rs) (I : OutInv start shift rs i [] cs) : cs = toldF start shift rs 16 := by
  rw [out_told hr I 16 (Nat.le_refl _)]
  refine (List.filter_eq_self.mpr fun a ha => decide_eq_true ?_).symm
  have := I.csB a ha
  show a - shift < 16
  omega
end Mine
end
section
open PySem PySem.W PyProof.Rows
set_option maxRecDepth 100000
set_option maxHeartbeats 8000000
set_option linter.unusedVariables false
namespace Mine

/-- what a call of _law_made gives, whatever lies about -/
def MadeC (w : World) (mean : ExcName → Option Value) (mg mb : Str → Option Value) (rl : List (Addr × Obj)) (r : Addr) (rs : List (Int × Int)) : Prop := ∀ (dp un : Nat) (gd : Option (List Code)) (cn : Str) (cs : Scope) (a : Addr) (ccd : Value) (cl : List (Str × Addr)) (outer : List Env) (A₀ : Around) (base h₀ : Heap) (L : Addr) (m : Str → Option Value) (s : Shared) (Q E : Value → Shared → Prop) (x : Int) (t0 : Tok) (news : List (Addr × Obj)),
    Below A₀ base outer h₀ → Fr h₀ L s.heap m → (Mine.hd.heap_39 w.params).In h₀ → News h₀ L s.heap (rl ++ news) → Top topProg LooseM mean mg mb h₀ → cs.kind = .function → 0 ≤ x → x ≤ 15 → dp + 5 < recursionLimit → un + 100 < cLine →
    (∀ D vs nn h' tk', IntsAre vs (madeF x rs) → Fr h₀ L h' m → News h₀ L h' ((D, listOf vs.toArray nn) :: (rl ++ news)) → (∀ p ∈ rl ++ news, p.1 ≠ D) → Q (.ref D) { s with heap := h', toks := tk' }) →
    wpAny (model PySem.Challenge.rw_om0048_01.row.prog w) (ktrTop dp un gd cn cs L a ccd cl outer) (call (.ref 94) [.int x t0, .ref r]) Q E s
theorem made_use {w : World} {mean : ExcName → Option Value} {mg mb : Str → Option Value} {rl : List (Addr × Obj)} {r : Addr} {rs : List (Int × Int)} {dp un : Nat} {gd : Option (List Code)} {cn : Str} {cs : Scope} {a : Addr} {ccd : Value} {cl : List (Str × Addr)} {outer : List Env} {A₀ : Around} {base h₀ : Heap} {L : Addr} {m : Str → Option Value} {s : Shared} {Q E : Value → Shared → Prop} {x : Int} {t0 : Tok} {news : List (Addr × Obj)}
    (hM : MadeC w mean mg mb rl r rs) : Below A₀ base outer h₀ → Fr h₀ L s.heap m → (Mine.hd.heap_39 w.params).In h₀ → News h₀ L s.heap (rl ++ news) → Top topProg LooseM mean mg mb h₀ → cs.kind = .function → 0 ≤ x → x ≤ 15 → dp + 5 < recursionLimit → un + 100 < cLine →
    (∀ D vs nn h' tk', IntsAre vs (madeF x rs) → Fr h₀ L h' m → News h₀ L h' ((D, listOf vs.toArray nn) :: (rl ++ news)) → (∀ p ∈ rl ++ news, p.1 ≠ D) → Q (.ref D) { s with heap := h', toks := tk' }) →
    wpAny (model PySem.Challenge.rw_om0048_01.row.prog w) (ktrTop dp un gd cn cs L a ccd cl outer) (call (.ref 94) [.int x t0, .ref r]) Q E s := hM dp un gd cn cs a ccd cl outer A₀ base h₀ L m s Q E x t0 news
abbrev OS := (List Value × List Int × Nat) × List Value × List Int × Nat
abbrev oLed (H C : Addr) (rest : List (Addr × Obj)) (c : OS) : List (Addr × Obj) := (H, listOf c.1.1.toArray c.1.2.2) :: (C, listOf c.2.1.toArray c.2.2.2) :: rest
abbrev oP (start shift : Int) (rs : List (Int × Int)) (i : Nat) (c : OS) : Prop := IntsAre c.1.1 c.1.2.1 ∧ IntsAre c.2.1 c.2.2.1 ∧ OutInv start shift rs i c.1.2.1 c.2.2.1
theorem led_12 {h₀ h : Heap} {L : Addr} {a b : Addr × Obj} {r : List (Addr × Obj)} (N : News h₀ L h (a :: b :: r)) : News h₀ L h (b :: a :: r) :=
  kst_newsOf N fun q hq => by
    simp only [List.mem_cons] at hq ⊢
    rcases hq with h | h | h <;> simp [h]
theorem led_m1 {h₀ h : Heap} {L : Addr} {a b c : Addr × Obj} {r n : List (Addr × Obj)} (N : News h₀ L h (a :: b :: c :: (r ++ n))) : News h₀ L h (r ++ (a :: b :: c :: n)) :=
  kst_newsOf N fun q hq => by
    simp only [List.mem_cons, List.mem_append] at hq ⊢
    rcases hq with h | h | h | h | h <;> simp [h]
theorem led_m2 {h₀ h : Heap} {L : Addr} {a b c d : Addr × Obj} {r n : List (Addr × Obj)} (N : News h₀ L h (d :: (r ++ (a :: b :: c :: n)))) : News h₀ L h (a :: d :: b :: c :: (r ++ n)) :=
  kst_newsOf N fun q hq => by
    simp only [List.mem_cons, List.mem_append] at hq ⊢
    rcases hq with h | h | h | h | h | h <;> simp [h]
theorem made_apart {D : Addr} {a b c : Addr × Obj} {r n : List (Addr × Obj)} (h : ∀ p ∈ r ++ (a :: b :: c :: n), p.1 ≠ D) : (@Ne Nat a.1 D) ∧ (@Ne Nat b.1 D) ∧ (@Ne Nat c.1 D) :=
  ⟨h a (List.mem_append_right _ (.head _)), h b (List.mem_append_right _ (.tail _ (.head _))), h c (List.mem_append_right _ (.tail _ (.tail _ (.head _))))⟩
theorem any_mem {cs : List Int} {v : Int} (h : (cs.any fun x => x == v) = true) : v ∈ cs := by
  obtain ⟨x, hx, e⟩ := List.any_eq_true.mp h
  exact eq_of_beq e ▸ hx
theorem any_not {cs : List Int} {v : Int} (h : ¬ (cs.any fun x => x == v) = true) : v ∉ cs := fun hm => h (List.any_eq_true.mpr ⟨v, hm, by simp⟩)
theorem any_not2 {cs : List Int} {v : Int} (h : (cs.any fun x => x == v) = false) : v ∉ cs := any_not (by simp [h])
theorem pop_none {prog : Program} {w : World} {A : Around} {E : Value → Shared → Prop} {s : Shared} {h₀ : Heap} {L D : Addr} {news : List (Addr × Obj)} {n : Nat} {Q : Value → Shared → Prop} (hA : A.handled = none) (N : News h₀ L s.heap news) (hm : (D, listOf #[] n) ∈ news)
    (h : ∀ h' tk e, Heap.NewExc s.heap h' e "IndexError" → E (.ref e) { s with heap := h', toks := tk }) : wpAny (model prog w) A (call (.builtin "list.pop") [.ref D]) Q E s :=
  call_meets PySem.F.slot_list_pop ⟨_, (N _ hm).1, rfl⟩ PySem.F.entry_list_pop (PySem.F.args_list_pop_1 _) (PySem.AutoSeq1.list_pop_list_0 D #[] n rfl) ⟨(N _ hm).1, hA, h⟩
theorem range_o {prog : Program} {w : World} {A : Around} {E : Value → Shared → Prop} {s : Shared} {env : Env} {h₀ : Heap} {x : Str} {body : List Stmt} {Q : Flow → Shared → Prop}
    {R H C T : Addr} {to : Obj} {t t₀ u₀ v₀ : Tok} {m₀ : Str → Option Value} {rest : List (Addr × Obj)} {start shift : Int} {rs : List (Int × Int)}
    (hh : A.handled = none) (hR : IsRange s.heap R 0 50 1 t₀ u₀ v₀) (F : Fr h₀ env.locals s.heap m₀) (N : News h₀ env.locals s.heap ((T, to) :: (C, listOf #[] 0) :: (H, listOf #[.int (start + shift) t] 0) :: rest)) (hr : RulesOk rs) (hs0 : 0 ≤ start) (hs1 : start ≤ 4)
    (turn : ∀ (I : Addr) (it : Obj) (vs : List Value) (ns : List Int) (nn : Nat) (us : List Value) (cs : List Int) (nc : Nat) (i : Nat) t (u : Str → Option Value) h tk, i < 50 → IntsAre vs ns → IntsAre us cs → OutInv start shift rs i ns cs → (@LT.lt Nat _ H I) → (@LT.lt Nat _ C I) →
      Fr h₀ env.locals h (fun y => if y = x then some (.int (0 + (i : Int)) t) else kstB (fun z => if [Str.ofString "least", Str.ofString "number"].contains z then u z else m₀ z) [] y) → News h₀ env.locals h ((H, listOf vs.toArray nn) :: (I, it) :: (C, listOf us.toArray nc) :: rest) → (∀ p ∈ rest, p.1 ≠ I) →
      wpAny (model prog w) A (execs body env) (GrPost (σ := OS) h₀ env.locals { s with heap := h, toks := tk } I it (oLed H C rest) (fun _ => []) [Str.ofString "least", Str.ofString "number"] x m₀ (oP start shift rs (i + 1)) Q) E { s with heap := h, toks := tk }) :
    wpAny (model prog w) A (pyIter (.ref R)) (fun it s₂ => LoopAtV prog w A h₀ env x body Q E it s₂) E s := by
  refine gr_range (σ := OS) (n := 50) (oLed H C rest) (fun _ => []) [Str.ofString "least", Str.ofString "number"] (oP start shift rs) (([.int (start + shift) t], [start + shift], 0), [], [], 0) hh hR (by decide) (by decide) F (kst_newsOf N ?_) (List.forall_mem_nil _) ?_ ?_ ?_
  · intro q hq
    simp only [oLed, List.mem_cons] at hq ⊢
    rcases hq with h | h | h <;> simp [h]
  · exact ⟨.cons _ _ .nil, .nil, out_start hs0 hs1⟩
  · rintro I it ⟨⟨vs, ns, nn⟩, us, cs, nc⟩ i t u h tk hi ⟨h1, h2, h3⟩ hI ho F' N'
    exact turn I it vs ns nn us cs nc i t u h tk hi h1 h2 h3 (hI _ (.head _)) (hI _ (.tail _ (.head _))) F' (led_12 N') (fun p hp => ho p (.tail _ (.tail _ hp)))
  · rintro ⟨⟨vs, ns, nn⟩, us, cs, nc⟩ u h tk ⟨h1, h2, h3⟩ F' N'
    exact absurd h3 fun x => x.not50 hr
abbrev IS := List Value × List Int × Nat
theorem list_o {prog : Program} {w : World} {A : Around} {E : Value → Shared → Prop} {s : Shared} {env : Env} {h₀ : Heap} {x : Str} {body : List Stmt} {Q : Flow → Shared → Prop}
    {D H : Addr} {ws vs : List Value} {ms ns ns0 : List Int} {nd nn : Nat} {v shift : Int} {m₀ : Str → Option Value} {rest : List (Addr × Obj)}
    (hh : A.handled = none) (F : Fr h₀ env.locals s.heap m₀) (N : News h₀ env.locals s.heap ((H, listOf vs.toArray nn) :: (D, listOf ws.toArray nd) :: rest)) (hw : IntsAre ws ms) (hv : IntsAre vs ns) (J : InInv shift ns0 v [] ns)
    (turn : ∀ (I : Addr) (it : Obj) (vs : List Value) (ns : List Int) (nn : Nat) (pre : List Int) (d : Int) (post : List Int) t (u : Str → Option Value) h tk, ms = pre ++ d :: post → IntsAre vs ns → InInv shift ns0 v pre ns → (@LT.lt Nat _ H I) → (@LT.lt Nat _ D I) → (∀ p ∈ (D, listOf ws.toArray nd) :: rest, p.1 ≠ I) →
      Fr h₀ env.locals h (fun y => if y = x then some (.int d t) else kstB (fun z => if ([] : List Str).contains z then u z else m₀ z) [] y) → News h₀ env.locals h ((H, listOf vs.toArray nn) :: (I, it) :: (D, listOf ws.toArray nd) :: rest) →
      wpAny (model prog w) A (execs body env) (GrPost (σ := IS) h₀ env.locals { s with heap := h, toks := tk } I it (fun c => (H, listOf c.1.toArray c.2.2) :: (D, listOf ws.toArray nd) :: rest) (fun _ => []) [] x m₀ (fun c => IntsAre c.1 c.2.1 ∧ InInv shift ns0 v (pre ++ [d]) c.2.1) Q) E { s with heap := h, toks := tk })
    (done : ∀ (vs : List Value) (ns : List Int) (nn : Nat) (u : Str → Option Value) h tk, IntsAre vs ns → InInv shift ns0 v ms ns → Fr h₀ env.locals h (fun y => if y = x then u y else kstB (fun z => if ([] : List Str).contains z then u z else m₀ z) [] y) → News h₀ env.locals h ((H, listOf vs.toArray nn) :: (D, listOf ws.toArray nd) :: rest) → Q .next { s with heap := h, toks := tk }) :
    wpAny (model prog w) A (pyIter (.ref D)) (fun it s₂ => LoopAtV prog w A h₀ env x body Q E it s₂) E s := by
  refine gr_list (σ := IS) (nn := nd) (fun c => (H, listOf c.1.toArray c.2.2) :: (D, listOf ws.toArray nd) :: rest) (fun _ => []) [] (fun pre c => IntsAre c.1 c.2.1 ∧ InInv shift ns0 v pre c.2.1) (vs, ns, nn) hh F N (fun _ => .tail _ (.head _)) hw (List.forall_mem_nil _) ⟨hv, J⟩ ?_ ?_
  · rintro I it ⟨vs, ns, nn⟩ pre d post t u h tk e ⟨h1, h2⟩ hI ho F' N'
    exact turn I it vs ns nn pre d post t u h tk e h1 h2 (hI _ (.head _)) (hI _ (.tail _ (.head _))) (fun p hp => ho p (.tail _ hp)) F' (led_12 N')
  · rintro ⟨vs, ns, nn⟩ u h tk ⟨h1, h2⟩ F' N'
    exact done vs ns nn u h tk h1 h2 F' N'
section
local macro_rules | `(tactic| k_all) => `(tactic| exact ne_of_newsLt (by assumption) (by omega))
local macro_rules | `(tactic| walk_at "pyIter ref") => `(tactic| (k_here; (rename News _ _ _ _ => N7); (rename Fr _ _ _ _ => F7); k_dflt (refine list_o rfl F7 N7 (by assumption) (by assumption) (by assumption) (Stp.out ?_) (Stp.out ?_))))
local macro_rules | `(tactic| walk_at "pyIter ref") => `(tactic| (k_here; (rename News _ _ _ _ => N7); (rename Fr _ _ _ _ => F7); k_dflt (refine range_o rfl (by assumption) F7 N7 (by assumption) (by assumption) (by assumption) (Stp.out ?_))))
theorem law_out {w : World} {mean : ExcName → Option Value} {mg mb : Str → Option Value} {dp un : Nat} {gd : Option (List Code)} {cn : Str} {cs : Scope} {a : Addr} {ccd : Value} {cl : List (Str × Addr)} {outer : List Env} {A₀ : Around} {base h₀ : Heap} {L : Addr} {m : Str → Option Value} {s : Shared} {Q E : Value → Shared → Prop}
  {r : Addr} {start shift : Int} {t0 t1 : Tok} {rs : List (Int × Int)} {rl news : List (Addr × Obj)}
  (B : Below A₀ base [] h₀) (F : Fr h₀ L s.heap m) (X : (Mine.hd.heap_39 w.params).In h₀) (N : News h₀ L s.heap (rl ++ news)) (T : Top topProg LooseM mean mg mb h₀) (hk : cs.kind = .function)
  (XB : (Mine.hd.heap_39 w.params).In base) (TB : Top topProg LooseM mean mg mb base) (hM : MadeC w mean mg mb rl r rs) (hr : RulesOk rs) (hs0 : 0 ≤ start) (hs1 : start ≤ 4) (hd : dp + 20 < recursionLimit) (hu : un + 400 < cLine) 
  (ret : ∀ D vs nn h' tk', IntsAre vs (toldF start shift rs 16) → Fr h₀ L h' m → News h₀ L h' ((D, listOf vs.toArray nn) :: (rl ++ news)) → (∀ p ∈ rl ++ news, p.1 ≠ D) → Q (.ref D) { s with heap := h', toks := tk' }) :
  wpAny (model PySem.Challenge.rw_om0048_01.row.prog w) (ktrTop dp un gd cn cs L a ccd [] []) (call (.ref 101) [.int start t0, .ref r, .int shift t1]) Q E s := by
  w_on
  revert X; k_fill; intro X
  refine wpAny_call ?_
  k_dflt (refine' code_defS0 (cn := cn) (cs := cs) (a := a) (ccd := ccd) ?k1 ?k2 ?k3 ?k4 ?k5 ?kA ?k6 ?k7 ?k8 ?k9 ?kB ?_ ?kK ?c2 ?c3 ?c4 ?c5; (case kA => exact rfl); (case kK => assumption); (case k1 => k_asm); (case k2 => k_asm); (case k3 => k_asm); (case k4 => k_asm); (case k5 => k_asm); (case k6 => k_is); (case k7 => k_is); (case k8 => ktr_room); (case k9 => exact BindsTo.of_eq rfl); (case c5 => decide); (case kB => exact locs rfl); (case c2 => exact rfl); (case c3 => exact rfl); (case c4 => exact rfl); k_whole; intro g' L' h' FG' F' N' B' X' T' kD'; (try dsimp only); (try k_lift B'); (try k_fold))
  (k_steps; repeat' (refine Stp.mk ?_; (first | (k_dflt (refine heappush (by k_asm) (by k_asm) (by k_asm) (by k_asm) (by k_asm) (by first | exact rfl | assumption) (by repeat' (first | exact ne_of_newsLt (by assumption) (by omega) | (refine List.forall_mem_cons.mpr ⟨?_, ?_⟩) | (refine neN ?_; dsimp only; omega))) (by assumption) (by omega) (by ktr_room) (by ktr_units) ?_); intro vs5 nn5 h5 tk5 hi5 F5 N5; (try dsimp only); (try k_fold)) | (k_dflt (refine made_use (by assumption) (by k_asm) (by k_asm) (by k_asm) (by exact led_m1 (by k_asm)) (by k_asm) (by first | exact rfl | assumption) (by omega) (by omega) (by ktr_room) (by ktr_units) ?_); intro D5 vs5 nn5 h5 tk5 hi5 F5 N5 hD5; (replace N5 := led_m2 N5); (have hA5 := made_apart hD5); (dsimp only at hA5); (try dsimp only); (try k_fold)) | (k_dflt (refine stands (by k_asm) (by k_asm) (by k_asm) (by k_asm) (by k_asm) (by first | exact rfl | assumption) (by repeat' (first | exact ne_of_newsLt (by assumption) (by omega) | (refine List.forall_mem_cons.mpr ⟨?_, ?_⟩) | (refine neN ?_; dsimp only; omega))) (by assumption) (by omega) (by assumption) (by ktr_room) (by ktr_units) ?_); intro h5 tk5 F5 N5; (try dsimp only); (try k_fold)) | (k_dflt (refine heappop (by k_asm) (by k_asm) (by k_asm) (by k_asm) (by k_asm) (by first | exact rfl | assumption) (by repeat' (first | exact ne_of_newsLt (by assumption) (by omega) | (refine List.forall_mem_cons.mpr ⟨?_, ?_⟩) | (refine neN ?_; dsimp only; omega))) (by assumption) (by assumption) (by omega) (by ktr_room) (by ktr_units) ?_); intro t5 vs5 nn5 h5 tk5 hi5 F5 N5; (try dsimp only); (try k_fold)) | fail "no call"); k_steps))
  refine Stp.mk ?_
  intro I9 it9 vs9 ns9 nn9 us9 cs9 nc9 i9 t9 u9 h9 tk9 hi9 hv9 hc9 O9 hHI hCI F9 N9 hrI
  (try dsimp only [kstB] at F9)
  (try dsimp only); (try k_fold)
  have hsm := O9.small hr
  have hvl := IntsAre.length hv9
  have hcl := IntsAre.length hc9
  by_cases he : 0 < ns9.length
  · have hvB := O9.vB he
    have hpl := pop_length he
    have hst1 : Stands (popL ns9) := pop_stands O9.st
    have hJ0 := in_start O9 he
    (k_steps; repeat' (refine Stp.mk ?_; (first | (k_dflt (refine heappush (by k_asm) (by k_asm) (by k_asm) (by k_asm) (by k_asm) (by first | exact rfl | assumption) (by repeat' (first | exact ne_of_newsLt (by assumption) (by omega) | (refine List.forall_mem_cons.mpr ⟨?_, ?_⟩) | (refine neN ?_; dsimp only; omega))) (by assumption) (by omega) (by ktr_room) (by ktr_units) ?_); intro vs5 nn5 h5 tk5 hi5 F5 N5; (try dsimp only); (try k_fold)) | (k_dflt (refine made_use (by assumption) (by k_asm) (by k_asm) (by k_asm) (by exact led_m1 (by k_asm)) (by k_asm) (by first | exact rfl | assumption) (by omega) (by omega) (by ktr_room) (by ktr_units) ?_); intro D5 vs5 nn5 h5 tk5 hi5 F5 N5 hD5; (replace N5 := led_m2 N5); (have hA5 := made_apart hD5); (dsimp only at hA5); (try dsimp only); (try k_fold)) | (k_dflt (refine stands (by k_asm) (by k_asm) (by k_asm) (by k_asm) (by k_asm) (by first | exact rfl | assumption) (by repeat' (first | exact ne_of_newsLt (by assumption) (by omega) | (refine List.forall_mem_cons.mpr ⟨?_, ?_⟩) | (refine neN ?_; dsimp only; omega))) (by assumption) (by omega) (by assumption) (by ktr_room) (by ktr_units) ?_); intro h5 tk5 F5 N5; (try dsimp only); (try k_fold)) | (k_dflt (refine heappop (by k_asm) (by k_asm) (by k_asm) (by k_asm) (by k_asm) (by first | exact rfl | assumption) (by repeat' (first | exact ne_of_newsLt (by assumption) (by omega) | (refine List.forall_mem_cons.mpr ⟨?_, ?_⟩) | (refine neN ?_; dsimp only; omega))) (by assumption) (by assumption) (by omega) (by ktr_room) (by ktr_units) ?_); intro t5 vs5 nn5 h5 tk5 hi5 F5 N5; (try dsimp only); (try k_fold)) | fail "no call"); k_steps))
    · dsimp only [GrPost]
      refine' GrEnd.intro (⟨⟨_, _, _⟩, _, _, _⟩ : OS) (by k_asm) (by k_asm) ?gm ?gs ?go ?gk ?gr ?gp
      case gm => k_mem
      case gs => exact List.forall_mem_cons.mpr ⟨by k_mem, List.forall_mem_cons.mpr ⟨by k_mem, fun q hq => by repeat (first | exact hq | refine List.Mem.tail _ ?_)⟩⟩
      case go => exact List.forall_mem_cons.mpr ⟨Nat.ne_of_lt hHI, List.forall_mem_cons.mpr ⟨Nat.ne_of_lt hCI, hrI⟩⟩
      case gk => exact List.forall_mem_nil _
      case gr => kst_same
      case gp =>
        refine' ⟨?q1, ?q2, ?q3⟩
        case q1 => assumption
        case q2 => assumption
        case q3 => exact O9.again he (any_mem (by assumption))
    · refine Stp.mk ?_
      intro I8 it8 vs8 ns8 nn8 pre8 d8 post8 t8 u8 h8 tk8 e8 hv8 J8 hHI8 hDI8 ho8 F8 N8
      (try dsimp only [kstB] at F8)
      (try dsimp only); (try k_fold)
      have hst2 := (J8.more (x := d8)).st
      have hlen8 := J8.len
      have hpl8 := push_length ns8 (d8 + shift)
      have hme8 := made_len (popV ns9 - shift) rs
      have hml8 := congrArg List.length e8
      have hr3 := hr.1
      simp only [List.length_append, List.length_cons] at hml8
      (k_steps; repeat' (refine Stp.mk ?_; (first | (k_dflt (refine heappush (by k_asm) (by k_asm) (by k_asm) (by k_asm) (by k_asm) (by first | exact rfl | assumption) (by repeat' (first | exact ne_of_newsLt (by assumption) (by omega) | (refine List.forall_mem_cons.mpr ⟨?_, ?_⟩) | (refine neN ?_; dsimp only; omega))) (by assumption) (by omega) (by ktr_room) (by ktr_units) ?_); intro vs5 nn5 h5 tk5 hi5 F5 N5; (try dsimp only); (try k_fold)) | (k_dflt (refine made_use (by assumption) (by k_asm) (by k_asm) (by k_asm) (by exact led_m1 (by k_asm)) (by k_asm) (by first | exact rfl | assumption) (by omega) (by omega) (by ktr_room) (by ktr_units) ?_); intro D5 vs5 nn5 h5 tk5 hi5 F5 N5 hD5; (replace N5 := led_m2 N5); (have hA5 := made_apart hD5); (dsimp only at hA5); (try dsimp only); (try k_fold)) | (k_dflt (refine stands (by k_asm) (by k_asm) (by k_asm) (by k_asm) (by k_asm) (by first | exact rfl | assumption) (by repeat' (first | exact ne_of_newsLt (by assumption) (by omega) | (refine List.forall_mem_cons.mpr ⟨?_, ?_⟩) | (refine neN ?_; dsimp only; omega))) (by assumption) (by omega) (by assumption) (by ktr_room) (by ktr_units) ?_); intro h5 tk5 F5 N5; (try dsimp only); (try k_fold)) | (k_dflt (refine heappop (by k_asm) (by k_asm) (by k_asm) (by k_asm) (by k_asm) (by first | exact rfl | assumption) (by repeat' (first | exact ne_of_newsLt (by assumption) (by omega) | (refine List.forall_mem_cons.mpr ⟨?_, ?_⟩) | (refine neN ?_; dsimp only; omega))) (by assumption) (by assumption) (by omega) (by ktr_room) (by ktr_units) ?_); intro t5 vs5 nn5 h5 tk5 hi5 F5 N5; (try dsimp only); (try k_fold)) | fail "no call"); k_steps))
      dsimp only [GrPost]
      refine' GrEnd.intro (⟨_, _, _⟩ : IS) (by k_asm) (by k_asm) ?hm ?hs ?ho ?hk ?hr ?hp
      case hm => k_mem
      case hs => exact List.forall_mem_cons.mpr ⟨by k_mem, List.forall_mem_cons.mpr ⟨by k_mem, fun q hq => by repeat (first | exact hq | refine List.Mem.tail _ ?_)⟩⟩
      case ho => exact List.forall_mem_cons.mpr ⟨Nat.ne_of_lt hHI8, ho8⟩
      case hk => exact List.forall_mem_nil _
      case hr => kst_same
      case hp =>
        refine' ⟨?q1, ?q2⟩
        case q1 => assumption
        case q2 => exact J8.more
    · refine Stp.mk ?_
      intro vs8 ns8 nn8 u8 h8 tk8 hv8 J8 F8 N8
      (try dsimp only [kstB] at F8)
      (try dsimp only); (try k_fold)
      (k_steps; repeat' (refine Stp.mk ?_; (first | (k_dflt (refine heappush (by k_asm) (by k_asm) (by k_asm) (by k_asm) (by k_asm) (by first | exact rfl | assumption) (by repeat' (first | exact ne_of_newsLt (by assumption) (by omega) | (refine List.forall_mem_cons.mpr ⟨?_, ?_⟩) | (refine neN ?_; dsimp only; omega))) (by assumption) (by omega) (by ktr_room) (by ktr_units) ?_); intro vs5 nn5 h5 tk5 hi5 F5 N5; (try dsimp only); (try k_fold)) | (k_dflt (refine made_use (by assumption) (by k_asm) (by k_asm) (by k_asm) (by exact led_m1 (by k_asm)) (by k_asm) (by first | exact rfl | assumption) (by omega) (by omega) (by ktr_room) (by ktr_units) ?_); intro D5 vs5 nn5 h5 tk5 hi5 F5 N5 hD5; (replace N5 := led_m2 N5); (have hA5 := made_apart hD5); (dsimp only at hA5); (try dsimp only); (try k_fold)) | (k_dflt (refine stands (by k_asm) (by k_asm) (by k_asm) (by k_asm) (by k_asm) (by first | exact rfl | assumption) (by repeat' (first | exact ne_of_newsLt (by assumption) (by omega) | (refine List.forall_mem_cons.mpr ⟨?_, ?_⟩) | (refine neN ?_; dsimp only; omega))) (by assumption) (by omega) (by assumption) (by ktr_room) (by ktr_units) ?_); intro h5 tk5 F5 N5; (try dsimp only); (try k_fold)) | (k_dflt (refine heappop (by k_asm) (by k_asm) (by k_asm) (by k_asm) (by k_asm) (by first | exact rfl | assumption) (by repeat' (first | exact ne_of_newsLt (by assumption) (by omega) | (refine List.forall_mem_cons.mpr ⟨?_, ?_⟩) | (refine neN ?_; dsimp only; omega))) (by assumption) (by assumption) (by omega) (by ktr_room) (by ktr_units) ?_); intro t5 vs5 nn5 h5 tk5 hi5 F5 N5; (try dsimp only); (try k_fold)) | fail "no call"); k_steps))
      dsimp only [GrPost]
      refine' GrEnd.intro (⟨⟨_, _, _⟩, _, _, _⟩ : OS) (by k_asm) (by k_asm) ?gm ?gs ?go ?gk ?gr ?gp
      case gm => k_mem
      case gs => exact List.forall_mem_cons.mpr ⟨by k_mem, List.forall_mem_cons.mpr ⟨by k_mem, fun q hq => by repeat (first | exact hq | refine List.Mem.tail _ ?_)⟩⟩
      case go => exact List.forall_mem_cons.mpr ⟨Nat.ne_of_lt hHI, List.forall_mem_cons.mpr ⟨Nat.ne_of_lt hCI, hrI⟩⟩
      case gk => exact List.forall_mem_nil _
      case gr => kst_same
      case gp =>
        refine' ⟨?q1, ?q2, ?q3⟩
        case q1 => assumption
        case q2 => assumption
        case q3 => exact O9.fresh hr he (by first | exact any_not (by assumption) | exact any_not2 (by assumption)) J8
  · have hnil : ns9 = [] := List.length_eq_zero_iff.mp (by omega)
    subst hnil
    cases hv9
    (k_steps; repeat' (refine Stp.mk ?_; (first | (k_dflt (refine heappush (by k_asm) (by k_asm) (by k_asm) (by k_asm) (by k_asm) (by first | exact rfl | assumption) (by repeat' (first | exact ne_of_newsLt (by assumption) (by omega) | (refine List.forall_mem_cons.mpr ⟨?_, ?_⟩) | (refine neN ?_; dsimp only; omega))) (by assumption) (by omega) (by ktr_room) (by ktr_units) ?_); intro vs5 nn5 h5 tk5 hi5 F5 N5; (try dsimp only); (try k_fold)) | (k_dflt (refine made_use (by assumption) (by k_asm) (by k_asm) (by k_asm) (by exact led_m1 (by k_asm)) (by k_asm) (by first | exact rfl | assumption) (by omega) (by omega) (by ktr_room) (by ktr_units) ?_); intro D5 vs5 nn5 h5 tk5 hi5 F5 N5 hD5; (replace N5 := led_m2 N5); (have hA5 := made_apart hD5); (dsimp only at hA5); (try dsimp only); (try k_fold)) | (k_dflt (refine stands (by k_asm) (by k_asm) (by k_asm) (by k_asm) (by k_asm) (by first | exact rfl | assumption) (by repeat' (first | exact ne_of_newsLt (by assumption) (by omega) | (refine List.forall_mem_cons.mpr ⟨?_, ?_⟩) | (refine neN ?_; dsimp only; omega))) (by assumption) (by omega) (by assumption) (by ktr_room) (by ktr_units) ?_); intro h5 tk5 F5 N5; (try dsimp only); (try k_fold)) | (k_dflt (refine heappop (by k_asm) (by k_asm) (by k_asm) (by k_asm) (by k_asm) (by first | exact rfl | assumption) (by repeat' (first | exact ne_of_newsLt (by assumption) (by omega) | (refine List.forall_mem_cons.mpr ⟨?_, ?_⟩) | (refine neN ?_; dsimp only; omega))) (by assumption) (by assumption) (by omega) (by ktr_room) (by ktr_units) ?_); intro t5 vs5 nn5 h5 tk5 hi5 F5 N5; (try dsimp only); (try k_fold)) | fail "no call"); k_steps))
    refine Stp.mk ?_
    refine wpAny_call ?_
    k_dflt (refine' code_def ?k1 ?k2 ?k3 ?k4 ?k5 ?kA ?kF ?kK ?k6 ?k7 ?k8 ?k9 ?kB ?_ ?c2 ?c3 ?c4 ?c5; (case kA => exact rfl); (case kF => exact rfl); (case kK => exact rfl); (case k1 => k_asm); (case k2 => k_asm); (case k3 => k_asm); (case k4 => k_asm); (case k5 => k_asm); (case k6 => k_is); (case k7 => k_is); (case k8 => ktr_room); (case k9 => exact BindsTo.of_eq rfl); (case c5 => decide); (case kB => exact locs rfl); (case c2 => exact rfl); (case c3 => exact rfl); (case c4 => exact rfl); k_whole; intro g' L' h' FG' F' N' B' X' T'; (try dsimp only); (try k_lift B'); (try k_fold))
    (k_steps; repeat' (refine Stp.mk ?_; (first | (k_dflt (refine heappush (by k_asm) (by k_asm) (by k_asm) (by k_asm) (by k_asm) (by first | exact rfl | assumption) (by repeat' (first | exact ne_of_newsLt (by assumption) (by omega) | (refine List.forall_mem_cons.mpr ⟨?_, ?_⟩) | (refine neN ?_; dsimp only; omega))) (by assumption) (by omega) (by ktr_room) (by ktr_units) ?_); intro vs5 nn5 h5 tk5 hi5 F5 N5; (try dsimp only); (try k_fold)) | (k_dflt (refine made_use (by assumption) (by k_asm) (by k_asm) (by k_asm) (by exact led_m1 (by k_asm)) (by k_asm) (by first | exact rfl | assumption) (by omega) (by omega) (by ktr_room) (by ktr_units) ?_); intro D5 vs5 nn5 h5 tk5 hi5 F5 N5 hD5; (replace N5 := led_m2 N5); (have hA5 := made_apart hD5); (dsimp only at hA5); (try dsimp only); (try k_fold)) | (k_dflt (refine stands (by k_asm) (by k_asm) (by k_asm) (by k_asm) (by k_asm) (by first | exact rfl | assumption) (by repeat' (first | exact ne_of_newsLt (by assumption) (by omega) | (refine List.forall_mem_cons.mpr ⟨?_, ?_⟩) | (refine neN ?_; dsimp only; omega))) (by assumption) (by omega) (by assumption) (by ktr_room) (by ktr_units) ?_); intro h5 tk5 F5 N5; (try dsimp only); (try k_fold)) | (k_dflt (refine heappop (by k_asm) (by k_asm) (by k_asm) (by k_asm) (by k_asm) (by first | exact rfl | assumption) (by repeat' (first | exact ne_of_newsLt (by assumption) (by omega) | (refine List.forall_mem_cons.mpr ⟨?_, ?_⟩) | (refine neN ?_; dsimp only; omega))) (by assumption) (by assumption) (by omega) (by ktr_room) (by ktr_units) ?_); intro t5 vs5 nn5 h5 tk5 hi5 F5 N5; (try dsimp only); (try k_fold)) | fail "no call"); k_steps))
    k_dflt (refine' pop_none ?p1 ?p2 ?p3 ?_; (case p1 => rfl); (case p2 => k_asm); (case p3 => k_mem))
    intro h6 tk6 e6 x6
    (k_steps; repeat' (refine Stp.mk ?_; (first | (k_dflt (refine heappush (by k_asm) (by k_asm) (by k_asm) (by k_asm) (by k_asm) (by first | exact rfl | assumption) (by repeat' (first | exact ne_of_newsLt (by assumption) (by omega) | (refine List.forall_mem_cons.mpr ⟨?_, ?_⟩) | (refine neN ?_; dsimp only; omega))) (by assumption) (by omega) (by ktr_room) (by ktr_units) ?_); intro vs5 nn5 h5 tk5 hi5 F5 N5; (try dsimp only); (try k_fold)) | (k_dflt (refine made_use (by assumption) (by k_asm) (by k_asm) (by k_asm) (by exact led_m1 (by k_asm)) (by k_asm) (by first | exact rfl | assumption) (by omega) (by omega) (by ktr_room) (by ktr_units) ?_); intro D5 vs5 nn5 h5 tk5 hi5 F5 N5 hD5; (replace N5 := led_m2 N5); (have hA5 := made_apart hD5); (dsimp only at hA5); (try dsimp only); (try k_fold)) | (k_dflt (refine stands (by k_asm) (by k_asm) (by k_asm) (by k_asm) (by k_asm) (by first | exact rfl | assumption) (by repeat' (first | exact ne_of_newsLt (by assumption) (by omega) | (refine List.forall_mem_cons.mpr ⟨?_, ?_⟩) | (refine neN ?_; dsimp only; omega))) (by assumption) (by omega) (by assumption) (by ktr_room) (by ktr_units) ?_); intro h5 tk5 F5 N5; (try dsimp only); (try k_fold)) | (k_dflt (refine heappop (by k_asm) (by k_asm) (by k_asm) (by k_asm) (by k_asm) (by first | exact rfl | assumption) (by repeat' (first | exact ne_of_newsLt (by assumption) (by omega) | (refine List.forall_mem_cons.mpr ⟨?_, ?_⟩) | (refine neN ?_; dsimp only; omega))) (by assumption) (by assumption) (by omega) (by ktr_room) (by ktr_units) ?_); intro t5 vs5 nn5 h5 tk5 hi5 F5 N5; (try dsimp only); (try k_fold)) | fail "no call"); k_steps))
    dsimp only [GrPost]
    (k_steps; repeat' (refine Stp.mk ?_; (first | (k_dflt (refine heappush (by k_asm) (by k_asm) (by k_asm) (by k_asm) (by k_asm) (by first | exact rfl | assumption) (by repeat' (first | exact ne_of_newsLt (by assumption) (by omega) | (refine List.forall_mem_cons.mpr ⟨?_, ?_⟩) | (refine neN ?_; dsimp only; omega))) (by assumption) (by omega) (by ktr_room) (by ktr_units) ?_); intro vs5 nn5 h5 tk5 hi5 F5 N5; (try dsimp only); (try k_fold)) | (k_dflt (refine made_use (by assumption) (by k_asm) (by k_asm) (by k_asm) (by exact led_m1 (by k_asm)) (by k_asm) (by first | exact rfl | assumption) (by omega) (by omega) (by ktr_room) (by ktr_units) ?_); intro D5 vs5 nn5 h5 tk5 hi5 F5 N5 hD5; (replace N5 := led_m2 N5); (have hA5 := made_apart hD5); (dsimp only at hA5); (try dsimp only); (try k_fold)) | (k_dflt (refine stands (by k_asm) (by k_asm) (by k_asm) (by k_asm) (by k_asm) (by first | exact rfl | assumption) (by repeat' (first | exact ne_of_newsLt (by assumption) (by omega) | (refine List.forall_mem_cons.mpr ⟨?_, ?_⟩) | (refine neN ?_; dsimp only; omega))) (by assumption) (by omega) (by assumption) (by ktr_room) (by ktr_units) ?_); intro h5 tk5 F5 N5; (try dsimp only); (try k_fold)) | (k_dflt (refine heappop (by k_asm) (by k_asm) (by k_asm) (by k_asm) (by k_asm) (by first | exact rfl | assumption) (by repeat' (first | exact ne_of_newsLt (by assumption) (by omega) | (refine List.forall_mem_cons.mpr ⟨?_, ?_⟩) | (refine neN ?_; dsimp only; omega))) (by assumption) (by assumption) (by omega) (by ktr_room) (by ktr_units) ?_); intro t5 vs5 nn5 h5 tk5 hi5 F5 N5; (try dsimp only); (try k_fold)) | fail "no call"); k_steps))
    refine ret _ us9 nc9 _ _ (out_is_told hr O9 ▸ hc9) (by k_asm) (kst_newsOf (by k_asm) (List.forall_mem_cons.mpr ⟨by k_mem, fun q hq => by repeat (first | exact hq | refine List.Mem.tail _ ?_)⟩)) ?_
    exact ne_of_newsLt (by assumption) (by omega)
end
end Mine
end
section
open PySem PySem.W PyProof.Rows PySem.Calls
set_option maxRecDepth 100000
namespace Mine
theorem div_facts : ∀ x b : Int, -6 ≤ x → x ≤ 14 → 1 ≤ b → b ≤ 4 → 0 ≤ x.fmod b ∧ x.fmod b < b ∧ x.fdiv b * b + x.fmod b = x ∧ -14 ≤ x.fdiv b ∧ x.fdiv b ≤ 14 := by
  have key : ∀ i : Nat, i < 21 → ∀ j : Nat, j < 4 → 0 ≤ (-6 + (i : Int)).fmod (1 + (j : Int)) ∧ (-6 + (i : Int)).fmod (1 + (j : Int)) < (1 + (j : Int)) ∧ (-6 + (i : Int)).fdiv (1 + (j : Int)) * (1 + (j : Int)) + (-6 + (i : Int)).fmod (1 + (j : Int)) = (-6 + (i : Int)) ∧ -14 ≤ (-6 + (i : Int)).fdiv (1 + (j : Int)) ∧ (-6 + (i : Int)).fdiv (1 + (j : Int)) ≤ 14 := by decide +kernel
  intro x b h0 h1 h2 h3
  have e1 : (-6 : Int) + ((x + 6).toNat : Int) = x := by omega
  have e2 : (1 : Int) + ((b - 1).toNat : Int) = b := by omega
  have := key (x + 6).toNat (by omega) (b - 1).toNat (by omega)
  rwa [e1, e2] at this
/-- a table is no tuple -/
theorem TabSt.tup {P D : Addr} {ln co q r : Int} {t u : Tok} {qual : Str} {tab news : List (Addr × Obj)} {h₀ h : Heap} {L : Addr} (S : TabSt P ln co qual tab) (N : News h₀ L h news) (hD : (D, tup2 q t r u) ∈ news) (ht : ∀ p ∈ tab, p ∈ news) : ∀ p ∈ tab, p.1 ≠ D := by
  intro p hp e
  have a1 := (N _ (ht p hp)).1
  have a2 := (N _ hD).1
  rw [e, a2] at a1
  have a3 := Option.some.inj a1
  cases S with
  | empty =>
    rw [List.mem_singleton.mp hp] at a3
    have := congrArg Obj.data a3
    cases this
  | full d1 d2 =>
    rcases List.mem_cons.mp hp with rfl | hp
    · have := congrArg Obj.data a3
      cases this
    · rw [List.mem_singleton.mp hp] at a3
      have := congrArg Obj.data a3
      rw [d1] at this
      cases this
/-- the ledger behind int_divmod, in the order that the walk reads -/
theorem led_p {h₀ h : Heap} {L : Addr} {d a b c : Addr × Obj} {t u r : List (Addr × Obj)} (N : News h₀ L h (d :: (t ++ (u ++ (a :: b :: c :: r))))) : News h₀ L h (d :: a :: b :: c :: (t ++ (u ++ r))) :=
  kst_newsOf N fun q hq => by
    simp only [List.mem_cons, List.mem_append] at hq ⊢
    rcases hq with h | h | h | h | h | h | h <;> simp [h]
theorem apart_p {P P' D : Addr} {ln co ln' co' q₁ q₂ : Int} {t₁ t₂ : Tok} {qual qual' : Str} {h₀ h : Heap} {L : Addr} {a b c : Addr × Obj} {t u r : List (Addr × Obj)} (N : News h₀ L h ((D, tup2 q₁ t₁ q₂ t₂) :: (t ++ (u ++ (a :: b :: c :: r))))) (hA : TabSt P ln co qual t) (hB : TabSt P' ln' co' qual' u)
    (hl : ∀ p ∈ a :: b :: c :: r, p.1 < D) : ∀ p ∈ a :: b :: c :: (t ++ (u ++ r)), p.1 ≠ D := by
  intro p hp
  have h1 := hA.tup N (.head _) (fun p hp => .tail _ (List.mem_append_left _ hp))
  have h2 := hB.tup N (.head _) (fun p hp => .tail _ (List.mem_append_right _ (List.mem_append_left _ hp)))
  have h3 : ∀ p ∈ a :: b :: c :: r, p.1 ≠ D := fun p hp => Nat.ne_of_lt (hl p hp)
  simp only [List.mem_cons, List.mem_append] at hp
  rcases hp with h | h | h | h | h | h
  · exact h3 p (h ▸ .head _)
  · exact h3 p (h ▸ .tail _ (.head _))
  · exact h3 p (h ▸ .tail _ (.tail _ (.head _)))
  · exact h1 p h
  · exact h2 p h
  · exact h3 p (.tail _ (.tail _ (.tail _ h)))
theorem leads_le (told : List Int) (n shift : Int) : ∀ rs : List (Int × Int), (rs.map (leads told n shift)).sum ≤ rs.length
  | [] => Nat.le_refl _
  | p :: rs => by
    have := leads_le told n shift rs
    have h1 : leads told n shift p ≤ 1 := by unfold leads; split <;> omega
    simp only [List.map_cons, List.sum_cons, List.length_cons]
    omega
theorem ways_le {told : List Int} {start n shift : Int} {rs : List (Int × Int)} (h : RulesOk rs) : ways told start n shift rs ≤ 4 := by
  have h1 := leads_le told n shift rs
  have h2 := h.1
  unfold ways
  split <;> omega
theorem told_len {start shift : Int} {rs : List (Int × Int)} (h : RulesOk rs) : ∀ n, (toldF start shift rs n).length ≤ 4 * n
  | 0 => Nat.le_refl _
  | n + 1 => by
    have h1 := told_len (start := start) (shift := shift) h n
    have h2 := ways_le (told := toldF start shift rs n) (start := start) (n := n) (shift := shift) h
    rw [toldF, List.length_append, List.length_replicate]
    omega
theorem upd_mid {d : Addr} {o o' : Obj} {post : List (Addr × Obj)} (hq : ∀ p ∈ post, p.1 ≠ d) : ∀ {pre : List (Addr × Obj)}, (∀ p ∈ pre, p.1 ≠ d) → Upd d o o' (pre ++ (d, o) :: post) (pre ++ (d, o') :: post)
  | [], _ => .head hq
  | p :: _, h => .tail (h p (.head _)) (upd_mid hq fun q hq' => h q (.tail _ hq'))
/-- extend by a list of ints of the ledger -/
theorem extend_ints {prog : Program} {w : World} {A : Around} {E : Value → Shared → Prop} {s : Shared} {h₀ : Heap} {L T D : Addr} {m : Str → Option Value} {pre post : List (Addr × Obj)} {vs us : List Value} {ns ms : List Int} {n nd : Nat} {Q : Value → Shared → Prop} (F : Fr h₀ L s.heap m) (N : News h₀ L s.heap (pre ++ (T, listOf vs.toArray n) :: post)) (hb : (D, listOf us.toArray nd) ∈ pre ++ (T, listOf vs.toArray n) :: post)
    (h1 : ∀ p ∈ pre, p.1 ≠ T) (h2 : ∀ p ∈ post, p.1 ≠ T) (hv : IntsAre vs ns) (hu : IntsAre us ms) (hz : ns.length ≤ 1000) (hy : ms.length ≤ 1000)
    (h : ∀ h' n', Fr h₀ L h' m → News h₀ L h' (pre ++ (T, listOf (vs ++ us).toArray n') :: post) → IntsAre (vs ++ us) (ns ++ ms) → Q .none { s with heap := h' }) : wpAny (model prog w) A (call (.builtin "list.extend") [.ref T, .ref D]) Q E s := by
  have U : ∀ o', Upd T (listOf vs.toArray n) o' (pre ++ (T, listOf vs.toArray n) :: post) (pre ++ (T, o') :: post) := fun o' => upd_mid h2 h1
  have e1 := hv.length
  have e2 := hu.length
  have z1 : vs.toArray.toList.length ≤ sizeLine := by rw [PySem.sizeLine_eq]; simp; omega
  have z0 : vs.toArray.size + us.toArray.size ≤ sizeLine := by rw [PySem.sizeLine_eq]; simp; omega
  have z2 : vs.toArray.size + us.toArray.size ≤ sizeLine + 1 := by omega
  have z3 := extend_door z0
  by_cases hn : us = []
  · subst hn
    exact kxn_extend F N hb rfl (U _) z3 z1 z2 (fun h' F' N' => h h' n F' (by simpa using N') (IntsAre.append hv hu))
  · refine kl_extend F N hb rfl ?_ (U _) z3 z1 z2 (fun h' F' N' => h h' (n + 1) F' (by simpa using N') (IntsAre.append hv hu))
    simpa using hn
end Mine
end
section
open PySem PySem.W PyProof.Rows
set_option maxRecDepth 100000
set_option maxHeartbeats 8000000
set_option linter.unusedVariables false
namespace Mine

/-- vs are references to pairs of the ledger rl, with the rules rs -/
inductive RAt (rl : List (Addr × Obj)) : List Value → List (Int × Int) → Prop
  | nil : RAt rl [] []
  | cons {a : Addr} {f m : Int} {t u : Tok} {vs : List Value} {rs : List (Int × Int)} : (a, tup2 f t m u) ∈ rl → RAt rl vs rs → RAt rl (.ref a :: vs) ((f, m) :: rs)
structure Mk3 (start shift : Int) (rs : List (Int × Int)) : Prop where
structure TS where
  vs : List Value
  ns : List Int
  nn : Nat
  tA : List (Addr × Obj)
  tB : List (Addr × Obj)
abbrev tLed (T : Addr) (rest : List (Addr × Obj)) (c : TS) : List (Addr × Obj) := (T, listOf c.vs.toArray c.nn) :: (c.tA ++ (c.tB ++ rest))
structure TP (start shift : Int) (rs : List (Int × Int)) (T : Addr) (rest : List (Addr × Obj)) (i : Nat) (c : TS) : Prop where
  iv : IntsAre c.vs c.ns
  told : c.ns = toldF start shift rs i
  hA : TabSt 58 69 4 QA c.tA
  hB : TabSt 65 84 4 QB c.tB
  aA : ∀ q ∈ c.tB ++ rest, ∀ p ∈ c.tA, q.1 ≠ p.1
  aB : ∀ q ∈ rest, ∀ p ∈ c.tB, q.1 ≠ p.1
  tT : ∀ p ∈ c.tA ++ (c.tB ++ rest), p.1 ≠ T
theorem range_t {prog : Program} {w : World} {A : Around} {E : Value → Shared → Prop} {s : Shared} {env : Env} {h₀ : Heap} {x : Str} {body : List Stmt} {Q : Flow → Shared → Prop}
    {R T : Addr} {t₀ u₀ v₀ : Tok} {m₀ : Str → Option Value} {tA tB rest : List (Addr × Obj)} {start shift : Int} {rs : List (Int × Int)}
    (hMk : Mk3 start shift rs) (hh : A.handled = none) (hR : IsRange s.heap R 0 16 1 t₀ u₀ v₀) (F : Fr h₀ env.locals s.heap m₀) (N : News h₀ env.locals s.heap ((T, listOf #[] 0) :: (tA ++ (tB ++ rest)))) (h0 : TP start shift rs T rest 0 ⟨[], [], 0, tA, tB⟩)
    (turn : ∀ (I : Addr) (it : Obj) (c : TS) (i : Nat) t (u : Str → Option Value) h tk, i < 16 → TP start shift rs T rest i c → (∀ p ∈ (T, listOf #[] 0) :: rest, p.1 < I) → (∀ p ∈ tLed T rest c, p.1 ≠ I) →
      Fr h₀ env.locals h (fun y => if y = x then some (.int (0 + (i : Int)) t) else kstB (fun z => if [Str.ofString "ways", Str.ofString "fold", Str.ofString "more", Str.ofString "pair"].contains z then u z else m₀ z) [] y) → News h₀ env.locals h ((I, it) :: tLed T rest c) →
      wpAny (model prog w) A (execs body env) (GrPost (σ := TS) h₀ env.locals { s with heap := h, toks := tk } I it (tLed T rest) (fun _ => []) [Str.ofString "ways", Str.ofString "fold", Str.ofString "more", Str.ofString "pair"] x m₀ (TP start shift rs T rest (i + 1)) Q) E { s with heap := h, toks := tk })
    (done : ∀ (c : TS) (u : Str → Option Value) h tk, TP start shift rs T rest 16 c → Fr h₀ env.locals h (fun y => if y = x then u y else kstB (fun z => if [Str.ofString "ways", Str.ofString "fold", Str.ofString "more", Str.ofString "pair"].contains z then u z else m₀ z) [] y) → News h₀ env.locals h (tLed T rest c) → Q .next { s with heap := h, toks := tk }) :
    wpAny (model prog w) A (pyIter (.ref R)) (fun it s₂ => LoopAtV prog w A h₀ env x body Q E it s₂) E s := by
  refine gr_range (σ := TS) (n := 16) (tLed T rest) (fun _ => []) [Str.ofString "ways", Str.ofString "fold", Str.ofString "more", Str.ofString "pair"] (TP start shift rs T rest) ⟨[], [], 0, tA, tB⟩ hh hR (by decide) (by decide) F N (List.forall_mem_nil _) h0 ?_ done
  intro I it c i t u h tk hi hP hI ho F' N'
  exact turn I it c i t u h tk hi hP (fun p hp => hI p (by
    rcases List.mem_cons.mp hp with rfl | hp
    · exact .head _
    · exact .tail _ (List.mem_append_right _ (List.mem_append_right _ hp)))) ho F' N'
/-- the state of the inner loop -/
structure WS where
  wy : Int
  tw : Tok
  tA : List (Addr × Obj)
  tB : List (Addr × Obj)
abbrev wLed (X : List (Addr × Obj)) (c : WS) : List (Addr × Obj) := c.tA ++ (c.tB ++ X)
structure WP (told : List Int) (n shift : Int) (rs : List (Int × Int)) (W : Int) (rl X : List (Addr × Obj)) (post : List Value) (c : WS) : Prop where
  rst : ∃ rp, RAt rl post rp ∧ (∀ p ∈ rp, p ∈ rs) ∧ c.wy + (((rp.map (leads told n shift)).sum : Nat) : Int) = W
  hA : TabSt 58 69 4 QA c.tA
  hB : TabSt 65 84 4 QB c.tB
  aA : ∀ q ∈ c.tB ++ X, ∀ p ∈ c.tA, q.1 ≠ p.1
  aB : ∀ q ∈ X, ∀ p ∈ c.tB, q.1 ≠ p.1
theorem TP.ln {start shift : Int} {rs : List (Int × Int)} {T : Addr} {rest : List (Addr × Obj)} {i : Nat} {c : TS} (P : TP start shift rs T rest i c) (hr : RulesOk rs) : c.ns.length ≤ 4 * i := by
  rw [P.told]
  exact told_len hr i
theorem wp_aA {told : List Int} {n shift W : Int} {rs : List (Int × Int)} {rl X : List (Addr × Obj)} {post : List Value} {c : WS} {I : Addr} {it : Obj} (P : WP told n shift rs W rl X post c) (ho : ∀ p ∈ wLed X c, p.1 ≠ I) : ∀ q ∈ c.tB ++ ((I, it) :: X), ∀ p ∈ c.tA, q.1 ≠ p.1 := fun q hq p hp => by
  rcases List.mem_append.mp hq with h | h
  · exact P.aA q (List.mem_append_left _ h) p hp
  · rcases List.mem_cons.mp h with rfl | h
    · exact (ho p (List.mem_append_left _ hp)).symm
    · exact P.aA q (List.mem_append_right _ h) p hp
theorem wp_aB {told : List Int} {n shift W : Int} {rs : List (Int × Int)} {rl X : List (Addr × Obj)} {post : List Value} {c : WS} {I : Addr} {it : Obj} (P : WP told n shift rs W rl X post c) (ho : ∀ p ∈ wLed X c, p.1 ≠ I) : ∀ q ∈ ((I, it) :: X), ∀ p ∈ c.tB, q.1 ≠ p.1 := fun q hq p hp => by
  rcases List.mem_cons.mp hq with rfl | h
  · exact (ho p (List.mem_append_right _ (List.mem_append_left _ hp))).symm
  · exact P.aB q h p hp
theorem wp_end {h₀ h' : Heap} {L : Addr} {s₁ : Shared} {tk : Nat} {m' m₀ : Str → Option Value} {told : List Int} {n shift W f mo : Int} {rs rp : List (Int × Int)} {rl r : List (Addr × Obj)} {a b d : Addr × Obj} {post : List Value} {c : WS} {I : Addr} {it : Obj} {tA tB : List (Addr × Obj)} {wy : Int} {tw : Tok} {stored : List Str} {x : Str}
    (F : Fr h₀ L h' m') (N : News h₀ L h' (d :: (I, it) :: a :: b :: (tA ++ (tB ++ r)))) (hA : TabSt 58 69 4 QA tA) (hB : TabSt 65 84 4 QB tB) (haA : ∀ q ∈ tB ++ ((I, it) :: a :: b :: r), ∀ p ∈ tA, q.1 ≠ p.1) (haB : ∀ q ∈ (I, it) :: a :: b :: r, ∀ p ∈ tB, q.1 ≠ p.1)
    (hI : ∀ p ∈ a :: b :: r, p.1 < I) (hk : m' (Str.ofString "ways") = some (.int wy tw)) (hr : ∀ z, z ≠ x → (∀ p ∈ [(Str.ofString "ways", Value.int wy tw)], z ≠ p.1) → stored.contains z = false → m' z = m₀ z)
    (hRA : RAt rl post rp) (hin : ∀ p ∈ (f, mo) :: rp, p ∈ rs) (hsum : c.wy + (((((f, mo) :: rp).map (leads told n shift)).sum : Nat) : Int) = W) (hw : wy = c.wy + ((leads told n shift (f, mo) : Nat) : Int)) :
    GrEnd (σ := WS) h₀ L s₁ I it (wLed (a :: b :: r)) (fun c => [(Str.ofString "ways", .int c.wy c.tw)]) stored x m₀ (WP told n shift rs W rl (a :: b :: r) post) { s₁ with heap := h', toks := tk } := by
  refine GrEnd.intro (⟨wy, tw, tA, tB⟩ : WS) F N (.tail _ (.head _)) ?_ ?_ ?_ hr ?_
  · intro p hp
    simp only [wLed, List.mem_cons, List.mem_append] at hp ⊢
    rcases hp with h | h | h | h | h <;> simp [h]
  · intro p hp
    rcases List.mem_append.mp hp with h | h
    · exact (haA (I, it) (List.mem_append_right _ (.head _)) p h).symm
    · rcases List.mem_append.mp h with h | h
      · exact (haB (I, it) (.head _) p h).symm
      · exact Nat.ne_of_lt (hI p h)
  · exact List.forall_mem_cons.mpr ⟨hk, List.forall_mem_nil _⟩
  · refine ⟨⟨rp, hRA, fun p hp => hin p (.tail _ hp), ?_⟩, hA, hB, fun q hq p hp => ?_, fun q hq p hp => haB q (.tail _ hq) p hp⟩
    · rw [List.map_cons, List.sum_cons] at hsum
      show wy + _ = W
      omega
    · rcases List.mem_append.mp hq with h | h
      · exact haA q (List.mem_append_left _ h) p hp
      · exact haA q (List.mem_append_right _ (.tail _ h)) p hp
theorem leads_1 {told : List Int} {n shift f mo : Int} (h0 : (n - mo).fmod f = 0) (h1 : (told.any fun x => x == (n - mo).fdiv f + shift) = true) : leads told n shift (f, mo) = 1 := by
  unfold leads
  exact if_pos ⟨h0, any_mem h1⟩
theorem leads_0 {told : List Int} {n shift f mo : Int} (h1 : (told.any fun x => x == (n - mo).fdiv f + shift) = false) : leads told n shift (f, mo) = 0 := by
  unfold leads
  exact if_neg fun h => any_not2 h1 h.2
theorem leads_00 {told : List Int} {n shift f mo : Int} (h0 : (n - mo).fmod f ≠ 0) : leads told n shift (f, mo) = 0 := by
  unfold leads
  exact if_neg fun h => h0 h.1
theorem wp_done {told : List Int} {n shift W : Int} {rs : List (Int × Int)} {rl X : List (Addr × Obj)} {c : WS} (P : WP told n shift rs W rl X [] c) : c.wy = W := by
  obtain ⟨rp, h, _, e⟩ := P.rst
  cases h
  simpa using e
theorem wp_T {told : List Int} {n shift W : Int} {rs : List (Int × Int)} {rl r : List (Addr × Obj)} {a : Addr × Obj} {T : Addr} {to : Obj} {post : List Value} {c : WS} (P : WP told n shift rs W rl (a :: (T, to) :: r) post c) (h : ∀ p ∈ r, p.1 ≠ T) : ∀ p ∈ c.tA ++ (c.tB ++ r), p.1 ≠ T := fun p hp => by
  rcases List.mem_append.mp hp with hp | hp
  · exact (P.aA (T, to) (List.mem_append_right _ (.tail _ (.head _))) p hp).symm
  · rcases List.mem_append.mp hp with hp | hp
    · exact (P.aB (T, to) (.tail _ (.head _)) p hp).symm
    · exact h p hp
theorem rep_flat (k : Nat) (x : Int) : (List.replicate k [x]).flatten = List.replicate k x := by
  induction k with
  | zero => rfl
  | succ k ih => rw [List.replicate_succ, List.flatten_cons, ih, List.replicate_succ]; rfl
theorem tp_end {h₀ h' : Heap} {L : Addr} {s₁ : Shared} {tk : Nat} {m' m₀ : Str → Option Value} {start shift : Int} {rs : List (Int × Int)} {T : Addr} {rl rest : List (Addr × Obj)} {i : Nat} {c : TS} {c7 : WS} {vs' : List Value} {n' : Nat} {I : Addr} {it to : Obj} {d e : Addr × Obj} {stored : List Str} {x : Str}
    (F : Fr h₀ L h' m') (N : News h₀ L h' (d :: e :: (I, it) :: (T, listOf vs'.toArray n') :: (c7.tA ++ (c7.tB ++ rest)))) (P9 : TP start shift rs T rest i c) (P7 : WP c.ns (0 + (i : Int)) shift rs ((ways c.ns start (i : Int) shift rs : Nat) : Int) rl ((I, it) :: (T, to) :: rest) [] c7)
    (hi : IntsAre vs' (c.ns ++ (List.replicate c7.wy.toNat [0 + (i : Int) + shift]).flatten)) (hI : ∀ p ∈ (T, listOf #[] 0) :: rest, p.1 < I) (hr : ∀ z, z ≠ x → (∀ p ∈ ([] : List (Str × Value)), z ≠ p.1) → stored.contains z = false → m' z = m₀ z) :
    GrEnd (σ := TS) h₀ L s₁ I it (tLed T rest) (fun _ => []) stored x m₀ (TP start shift rs T rest (i + 1)) { s₁ with heap := h', toks := tk } := by
  have hT := wp_T P7 (fun p hp => P9.tT p (List.mem_append_right _ (List.mem_append_right _ hp)))
  refine GrEnd.intro (⟨vs', toldF start shift rs (i + 1), n', c7.tA, c7.tB⟩ : TS) F N (.tail _ (.tail _ (.head _))) (fun p hp => .tail _ (.tail _ (.tail _ hp))) ?_ (List.forall_mem_nil _) hr ?_
  · intro p hp
    rcases List.mem_cons.mp hp with rfl | hp
    · exact Nat.ne_of_lt (hI (T, listOf #[] 0) (.head _))
    · rcases List.mem_append.mp hp with h | h
      · exact (P7.aA (I, it) (List.mem_append_right _ (.head _)) p h).symm
      · rcases List.mem_append.mp h with h | h
        · exact (P7.aB (I, it) (.head _) p h).symm
        · exact Nat.ne_of_lt (hI p (.tail _ h))
  · refine ⟨?_, rfl, P7.hA, P7.hB, fun q hq p hp => ?_, fun q hq p hp => P7.aB q (.tail _ (.tail _ hq)) p hp, hT⟩
    · have e1 := wp_done P7
      have e2 : c7.wy.toNat = ways (toldF start shift rs i) start (i : Int) shift rs := by rw [e1, P9.told]; rfl
      have e3 : 0 + (i : Int) + shift = (i : Int) + shift := by omega
      rw [rep_flat, e2, e3, P9.told] at hi
      exact hi
    · rcases List.mem_append.mp hq with h | h
      · exact P7.aA q (List.mem_append_left _ h) p hp
      · exact P7.aA q (List.mem_append_right _ (.tail _ (.tail _ h))) p hp
theorem led_d {h₀ h : Heap} {L : Addr} {a b : Addr × Obj} {t u r : List (Addr × Obj)} (N : News h₀ L h (t ++ (u ++ (a :: b :: r)))) : News h₀ L h (a :: b :: (t ++ (u ++ r))) :=
  kst_newsOf N fun q hq => by
    simp only [List.mem_cons, List.mem_append] at hq ⊢
    rcases hq with h | h | h | h | h <;> simp [h]
theorem led_w {h₀ h : Heap} {L : Addr} {a : Addr × Obj} {t u r : List (Addr × Obj)} (N : News h₀ L h (a :: (t ++ (u ++ r)))) : News h₀ L h (t ++ (u ++ (a :: r))) :=
  kst_newsOf N fun q hq => by
    simp only [List.mem_cons, List.mem_append] at hq ⊢
    rcases hq with h | h | h | h <;> simp [h]
theorem led_w2 {h₀ h : Heap} {L : Addr} {a b : Addr × Obj} {t u r : List (Addr × Obj)} (N : News h₀ L h (a :: b :: (t ++ (u ++ r)))) : News h₀ L h (t ++ (u ++ (a :: b :: r))) :=
  kst_newsOf N fun q hq => by
    simp only [List.mem_cons, List.mem_append] at hq ⊢
    rcases hq with h | h | h | h | h <;> simp [h]
/-- the inner loop's start -/
theorem wp_start {start shift : Int} {rs : List (Int × Int)} {T I : Addr} {it to : Obj} {rl news : List (Addr × Obj)} {i : Nat} {c : TS} {rvs : List Value} {w₀ : Int} {tw : Tok} (P : TP start shift rs T (rl ++ news) i c) (hR : RAt rl rvs rs)
    (hI : ∀ p ∈ tLed T (rl ++ news) c, p.1 ≠ I) (hw : w₀ = if (i : Int) = start then 1 else 0) :
    WP c.ns (0 + (i : Int)) shift rs ((ways c.ns start (i : Int) shift rs : Nat) : Int) rl ((I, it) :: (T, to) :: (rl ++ news)) rvs ⟨w₀, tw, c.tA, c.tB⟩ where
  rst := ⟨rs, hR, fun _ h => h, by
    have e : (0 : Int) + (i : Int) = i := by omega
    rw [e, hw]
    unfold ways
    split <;> simp⟩
  hA := P.hA
  hB := P.hB
  aA := fun q hq p hp => by
    rcases List.mem_append.mp hq with h | h
    · exact P.aA q (List.mem_append_left _ h) p hp
    · rcases List.mem_cons.mp h with rfl | h
      · exact (hI p (.tail _ (List.mem_append_left _ hp))).symm
      · rcases List.mem_cons.mp h with rfl | h
        · exact (P.tT p (List.mem_append_left _ hp)).symm
        · exact P.aA q (List.mem_append_right _ h) p hp
  aB := fun q hq p hp => by
    rcases List.mem_cons.mp hq with rfl | h
    · exact (hI p (.tail _ (List.mem_append_right _ (List.mem_append_left _ hp)))).symm
    · rcases List.mem_cons.mp h with rfl | h
      · exact (P.tT p (List.mem_append_right _ (List.mem_append_left _ hp))).symm
      · exact P.aB q h p hp
theorem items_t {prog : Program} {w : World} {A : Around} {E : Value → Shared → Prop} {s : Shared} {env : Env} {h₀ : Heap} {target : Expr} {body : List Stmt} {Q : Flow → Shared → Prop}
    {r : Addr} {rvs : List Value} {nr : Nat} {m₀ : Str → Option Value} {told : List Int} {n shift W w₀ : Int} {rs : List (Int × Int)} {rl X : List (Addr × Obj)} {tA tB : List (Addr × Obj)} {tw : Tok}
    (hh : A.handled = none) (F : Fr h₀ env.locals s.heap m₀) (N : News h₀ env.locals s.heap (tA ++ (tB ++ X))) (hr : (r, listOf rvs.toArray nr) ∈ X) (hw : m₀ (Str.ofString "ways") = some (.int w₀ tw)) (h0 : WP told n shift rs W rl X rvs ⟨w₀, tw, tA, tB⟩)
    (turn : ∀ (I : Addr) (it : Obj) (c : WS) (v : Value) (post : List Value) (u : Str → Option Value) h tk, WP told n shift rs W rl X (v :: post) c → (∀ p ∈ X, p.1 < I) → (∀ p ∈ wLed X c, p.1 ≠ I) →
      Fr h₀ env.locals h (kstB (fun z => if [Str.ofString "fold", Str.ofString "more", Str.ofString "pair"].contains z then u z else m₀ z) [(Str.ofString "ways", .int c.wy c.tw)]) → News h₀ env.locals h (c.tA ++ (c.tB ++ ((I, it) :: X))) →
      wpAny (model prog w) A (assign target env v) (fun _ s₂ => wpAny (model prog w) A (execs body env) (GrPost (σ := WS) h₀ env.locals { s with heap := h, toks := tk } I it (wLed X) (fun c => [(Str.ofString "ways", .int c.wy c.tw)]) [Str.ofString "fold", Str.ofString "more", Str.ofString "pair"] (Str.ofString "fold") m₀ (WP told n shift rs W rl X post) Q) E s₂) E { s with heap := h, toks := tk })
    (done : ∀ (c : WS) (u : Str → Option Value) h tk, WP told n shift rs W rl X [] c → Fr h₀ env.locals h (kstB (fun z => if [Str.ofString "fold", Str.ofString "more", Str.ofString "pair"].contains z then u z else m₀ z) [(Str.ofString "ways", .int c.wy c.tw)]) → News h₀ env.locals h (wLed X c) → Q .next { s with heap := h, toks := tk }) :
    wpAny (model prog w) A (pyIter (.ref r)) (fun it s₂ => TurnsAt prog w A h₀ env target body Q E it s₂) E s := by
  refine gr_items (σ := WS) (n := nr) (vs := rvs) (lo := listOf rvs.toArray nr) (Str.ofString "fold") (wLed X) (fun c => [(Str.ofString "ways", .int c.wy c.tw)]) [Str.ofString "fold", Str.ofString "more", Str.ofString "pair"] (WP told n shift rs W rl X) ⟨w₀, tw, tA, tB⟩ (by decide) hh F N (fun c => List.mem_append_right _ (List.mem_append_right _ hr)) rfl rfl ?_ h0 ?_ done
  · exact List.forall_mem_cons.mpr ⟨hw, List.forall_mem_nil _⟩
  · intro I it c v post u h tk hP hI ho F' N'
    exact turn I it c v post u h tk hP (fun p hp => hI p (List.mem_append_right _ (List.mem_append_right _ hp))) ho F' (led_w N')
section
local macro_rules | `(tactic| k_all) => `(tactic| exact ne_of_newsLt (by assumption) (by omega))
local macro_rules | `(tactic| walk_at "exec For Tuple Name cons nil") => `(tactic| (k_here; (rename Fr _ _ _ _ => lF'); (with_unfolding_all refine' For_turns lF' ?_; k_whole)))
local macro_rules | `(tactic| walk_at "pyIter ref") => `(tactic| (k_here; (with_reducible show wpAny _ _ (pyIter (Value.ref _)) (fun it s₂ => TurnsAt _ _ _ _ _ _ _ _ _ it s₂) _ _); refine (Stp.out ?_)))
local macro_rules | `(tactic| walk_at "pyIter ref") => `(tactic| (k_here; (rename News _ _ _ _ => N7); (rename Fr _ _ _ _ => F7); k_dflt (refine range_t (by assumption) rfl (by assumption) F7 N7 (by exact ⟨.nil, rfl, by assumption, by assumption, by assumption, by assumption, fun p hp => Nat.ne_of_lt ((show ∀ p ∈ _, p.1 < _ by assumption) p hp)⟩) (Stp.out ?_) (Stp.out ?_))))
theorem led_back {w : World} {mean : ExcName → Option Value} {mg mb : Str → Option Value} {dp un : Nat} {gd : Option (List Code)} {cn : Str} {cs : Scope} {a : Addr} {ccd : Value} {cl : List (Str × Addr)} {outer : List Env} {A₀ : Around} {base h₀ : Heap} {L : Addr} {m : Str → Option Value} {s : Shared} {Q E : Value → Shared → Prop}
  {r : Addr} {start shift : Int} {t0 t1 : Tok} {rvs : List Value} {nr : Nat} {rs : List (Int × Int)} {tA tB rl news : List (Addr × Obj)}
  (B : Below A₀ base outer h₀) (F : Fr h₀ L s.heap m) (X : (Mine.hd.heap_39 w.params).In h₀) (N : News h₀ L s.heap (tA ++ (tB ++ (rl ++ news)))) (T : Top topProg LooseM mean mg mb h₀) (hk : cs.kind = .function)
  (hRl : (r, listOf rvs.toArray nr) ∈ rl) (hRA : RAt rl rvs rs) (hr : RulesOk rs) (hA : TabSt 58 69 4 QA tA) (hB : TabSt 65 84 4 QB tB) (haA : ∀ q ∈ tB ++ (rl ++ news), ∀ p ∈ tA, q.1 ≠ p.1) (haB : ∀ q ∈ rl ++ news, ∀ p ∈ tB, q.1 ≠ p.1) (hcA : CodeHd base 62 58) (hcB : CodeHd base 69 65) (hs0 : 0 ≤ start) (hs1 : start ≤ 4) (hd : dp + 50 < recursionLimit) (hu : un + 600 < cLine) 
  (ret : ∀ D vs nn tA' tB' h' tk', IntsAre vs (toldF start shift rs 16) → TabSt 58 69 4 QA tA' → TabSt 65 84 4 QB tB' → Fr h₀ L h' m → News h₀ L h' ((D, listOf vs.toArray nn) :: (tA' ++ (tB' ++ (rl ++ news)))) → (∀ p ∈ rl ++ news, p.1 ≠ D) → Q (.ref D) { s with heap := h', toks := tk' }) :
  wpAny (model PySem.Challenge.rw_om0048_01.row.prog w) (ktrTop dp un gd cn cs L a ccd cl outer) (call (.ref 113) [.int start t0, .ref r, .int shift t1]) Q E s := by
  w_on
  revert X; k_fill; intro X
  have hMk : Mk3 start shift rs := Mk3.mk
  refine wpAny_call ?_
  k_dflt cell_enter
  (k_steps; repeat' (refine Stp.mk ?_; (first | (k_dflt (refine parted (by k_asm) (by k_asm) (by k_asm) (by k_asm) (by k_asm) (by first | exact rfl | assumption) (by assumption) (by assumption) (by assumption) (by assumption) (by assumption) (by assumption) (by assumption) (by assumption) (by ktr_room) (by ktr_units) ?_); intro h5 tk5 F5 N5; (try dsimp only); (try k_fold)) | (k_dflt (refine int_divmod (by k_asm) (by k_asm) (by k_asm) (by assumption) (by k_asm) (by first | exact rfl | assumption) (by assumption) (by assumption) (by assumption) (by assumption) (by assumption) (by assumption) (by omega) (by omega) (by omega) (by omega) (by ktr_room) (by ktr_units) ?_); intro D5 t5 u5 tA5 tB5 h5 tk5 hA5 hB5 haA5 haB5 F5 N5 l5; (have hne5 := apart_p N5 hA5 hB5 l5); (replace N5 := led_p N5); (try dsimp only); (try k_fold)) | fail "no call"); k_steps))
  · refine Stp.mk ?_
    intro I9 it9 c9 i9 t9 u9 h9 tk9 hi9 P9 hI9 ho9 F9 N9
    (try dsimp only [kstB] at F9)
    (try dsimp only); (try k_fold)
    (k_steps; repeat' (refine Stp.mk ?_; (first | (k_dflt (refine parted (by k_asm) (by k_asm) (by k_asm) (by k_asm) (by k_asm) (by first | exact rfl | assumption) (by assumption) (by assumption) (by assumption) (by assumption) (by assumption) (by assumption) (by assumption) (by assumption) (by ktr_room) (by ktr_units) ?_); intro h5 tk5 F5 N5; (try dsimp only); (try k_fold)) | (k_dflt (refine int_divmod (by k_asm) (by k_asm) (by k_asm) (by assumption) (by k_asm) (by first | exact rfl | assumption) (by assumption) (by assumption) (by assumption) (by assumption) (by assumption) (by assumption) (by omega) (by omega) (by omega) (by omega) (by ktr_room) (by ktr_units) ?_); intro D5 t5 u5 tA5 tB5 h5 tk5 hA5 hB5 haA5 haB5 F5 N5 l5; (have hne5 := apart_p N5 hA5 hB5 l5); (replace N5 := led_p N5); (try dsimp only); (try k_fold)) | fail "no call"); k_steps))
    all_goals (
      refine Stp.mk ?_
      (rename News _ _ _ (_ :: _ :: (_ ++ (_ ++ _))) => N7)
      (rename Fr _ _ _ _ => F7)
      refine items_t (told := c9.ns) (n := 0 + (i9 : Int)) (shift := shift) (W := ((ways c9.ns start (i9 : Int) shift rs : Nat) : Int)) (rs := rs) (rl := rl) rfl F7 (led_w2 N7) (.tail _ (.tail _ (List.mem_append_left _ hRl))) rfl (wp_start P9 hRA ho9 (by first | exact (if_pos (by omega)).symm | exact (if_neg (by omega)).symm)) ?_ ?_
      · intro I8 it8 c8 v8 post8 u8 h8 tk8 P8 hI8 ho8 F8 N8
        (try dsimp only [kstB] at F8)
        obtain ⟨rp8, hRA8, hin8, hsum8⟩ := P8.rst
        cases hRA8
        rename_i a8 f8 m8 t8 u7 rp8 hmem8 hRA8
        obtain ⟨hf1, hf2, hm1, hm2⟩ := hr.2 (f8, m8) (hin8 _ (.head _))
        dsimp only at hf1 hf2 hm1 hm2
        have hT8 := News.isTup N8 (List.mem_append_right _ (List.mem_append_right _ (.tail _ (.tail _ (.tail _ (List.mem_append_left _ hmem8))))))
        have hA8 := P8.hA
        have hB8 := P8.hB
        have haA8 := wp_aA P8 ho8 (it := it8)
        have haB8 := wp_aB P8 ho8 (it := it8)
        have hiv8 := P9.iv
        have hln8 := P9.ln hr
        obtain ⟨hd1, hd2, hd3, hd4, hd5⟩ := div_facts (0 + (i9 : Int) - m8) f8 (by omega) (by omega) hf1 hf2
        (try dsimp only); (try k_fold)
        (k_steps; repeat' (refine Stp.mk ?_; (first | (k_dflt (refine parted (by k_asm) (by k_asm) (by k_asm) (by k_asm) (by k_asm) (by first | exact rfl | assumption) (by assumption) (by assumption) (by assumption) (by assumption) (by assumption) (by assumption) (by assumption) (by assumption) (by ktr_room) (by ktr_units) ?_); intro h5 tk5 F5 N5; (try dsimp only); (try k_fold)) | (k_dflt (refine int_divmod (by k_asm) (by k_asm) (by k_asm) (by assumption) (by k_asm) (by first | exact rfl | assumption) (by assumption) (by assumption) (by assumption) (by assumption) (by assumption) (by assumption) (by omega) (by omega) (by omega) (by omega) (by ktr_room) (by ktr_units) ?_); intro D5 t5 u5 tA5 tB5 h5 tk5 hA5 hB5 haA5 haB5 F5 N5 l5; (have hne5 := apart_p N5 hA5 hB5 l5); (replace N5 := led_p N5); (try dsimp only); (try k_fold)) | fail "no call"); k_steps))
        all_goals (
          dsimp only [GrPost]
          refine' wp_end (c := c8) ?gF ?gN ?gA ?gB ?gaA ?gaB hI8 ?gk ?gr hRA8 hin8 hsum8 ?gw
          case gF => k_asm
          case gN => k_asm
          case gA => assumption
          case gB => assumption
          case gaA => assumption
          case gaB => assumption
          case gk => exact rfl
          case gr => kst_same
          case gw => first
            | (rw [leads_1 (by assumption) (by assumption)]; rfl)
            | (rw [leads_0 (by assumption)]; omega)
            | (rw [leads_00 (by assumption)]; omega))
      · intro c7 u7 h7 tk7 P7 F7 N7
        (try dsimp only [kstB] at F7)
        replace N7 := led_d N7
        have hT7 := wp_T P7 (fun p hp => P9.tT p (List.mem_append_right _ (List.mem_append_right _ hp)))
        have hw7 := wp_done P7
        have hw4 := ways_le (told := c9.ns) (start := start) (n := (i9 : Int)) (shift := shift) hr
        have hiv7 := P9.iv
        have hln7 := P9.ln hr
        have hTI7 := hI9 _ (.head _)
        dsimp only at hTI7
        (try dsimp only); (try k_fold)
        (k_steps; repeat' (refine Stp.mk ?_; (first | (k_dflt (refine parted (by k_asm) (by k_asm) (by k_asm) (by k_asm) (by k_asm) (by first | exact rfl | assumption) (by assumption) (by assumption) (by assumption) (by assumption) (by assumption) (by assumption) (by assumption) (by assumption) (by ktr_room) (by ktr_units) ?_); intro h5 tk5 F5 N5; (try dsimp only); (try k_fold)) | (k_dflt (refine int_divmod (by k_asm) (by k_asm) (by k_asm) (by assumption) (by k_asm) (by first | exact rfl | assumption) (by assumption) (by assumption) (by assumption) (by assumption) (by assumption) (by assumption) (by omega) (by omega) (by omega) (by omega) (by ktr_room) (by ktr_units) ?_); intro D5 t5 u5 tA5 tB5 h5 tk5 hA5 hB5 haA5 haB5 F5 N5 l5; (have hne5 := apart_p N5 hA5 hB5 l5); (replace N5 := led_p N5); (try dsimp only); (try k_fold)) | fail "no call"); k_steps))
        (show wpAny _ _ (call (Value.builtin _) [Value.ref _, Value.ref _]) _ _ _)
        k_dflt (refine' extend_ints (pre := [_, _, _]) ?xF ?xN ?xb ?xh1 ?xh2 ?xhv ?xhu ?xhz ?xhy ?_)
        case xF => k_asm
        case xN => k_asm
        case xb => exact List.Mem.head _
        case xh1 => repeat' (first | exact (Nat.ne_of_lt (hI9 _ (.head _))).symm | exact List.forall_mem_nil _ | (refine List.forall_mem_cons.mpr ⟨?_, ?_⟩) | (refine neN ?_; dsimp only; omega))
        case xh2 => assumption
        case xhv => assumption
        case xhu => assumption
        case xhz => omega
        case xhy => omega
        intro h' n' F' N' hi'
        (try dsimp only); (try k_fold)
        (k_steps; repeat' (refine Stp.mk ?_; (first | (k_dflt (refine parted (by k_asm) (by k_asm) (by k_asm) (by k_asm) (by k_asm) (by first | exact rfl | assumption) (by assumption) (by assumption) (by assumption) (by assumption) (by assumption) (by assumption) (by assumption) (by assumption) (by ktr_room) (by ktr_units) ?_); intro h5 tk5 F5 N5; (try dsimp only); (try k_fold)) | (k_dflt (refine int_divmod (by k_asm) (by k_asm) (by k_asm) (by assumption) (by k_asm) (by first | exact rfl | assumption) (by assumption) (by assumption) (by assumption) (by assumption) (by assumption) (by assumption) (by omega) (by omega) (by omega) (by omega) (by ktr_room) (by ktr_units) ?_); intro D5 t5 u5 tA5 tB5 h5 tk5 hA5 hB5 haA5 haB5 F5 N5 l5; (have hne5 := apart_p N5 hA5 hB5 l5); (replace N5 := led_p N5); (try dsimp only); (try k_fold)) | fail "no call"); k_steps))
        dsimp only [GrPost]
        refine' tp_end (c7 := c7) ?jF ?jN P9 P7 ?ji hI9 ?jr
        case jF => k_asm
        case jN => assumption
        case ji => assumption
        case jr => kst_same)
  · refine Stp.mk ?_
    intro c9 u9 h9 tk9 P9 F9 N9
    (try dsimp only [kstB] at F9)
    (try dsimp only); (try k_fold)
    (k_steps; repeat' (refine Stp.mk ?_; (first | (k_dflt (refine parted (by k_asm) (by k_asm) (by k_asm) (by k_asm) (by k_asm) (by first | exact rfl | assumption) (by assumption) (by assumption) (by assumption) (by assumption) (by assumption) (by assumption) (by assumption) (by assumption) (by ktr_room) (by ktr_units) ?_); intro h5 tk5 F5 N5; (try dsimp only); (try k_fold)) | (k_dflt (refine int_divmod (by k_asm) (by k_asm) (by k_asm) (by assumption) (by k_asm) (by first | exact rfl | assumption) (by assumption) (by assumption) (by assumption) (by assumption) (by assumption) (by assumption) (by omega) (by omega) (by omega) (by omega) (by ktr_room) (by ktr_units) ?_); intro D5 t5 u5 tA5 tB5 h5 tk5 hA5 hB5 haA5 haB5 F5 N5 l5; (have hne5 := apart_p N5 hA5 hB5 l5); (replace N5 := led_p N5); (try dsimp only); (try k_fold)) | fail "no call"); k_steps))
    exact ret _ c9.vs c9.nn c9.tA c9.tB _ _ (P9.told ▸ P9.iv) P9.hA P9.hB (by k_asm) (by k_asm) (fun p hp => P9.tT p (List.mem_append_right _ (List.mem_append_right _ hp)))
end
end Mine
end
end
section
open PySem PySem.W PyProof.Rows
set_option maxRecDepth 100000
set_option maxHeartbeats 8000000
set_option linter.unusedVariables false
namespace Mine
theorem ints_le3 {vs : List Value} {ns : List Int} (h : IntsAre vs ns) (hl : ns.length ≤ 3) : vs = [] ∨ (∃ a t, vs = [.int a t]) ∨ (∃ a t b u, vs = [.int a t, .int b u]) ∨ ∃ a t b u c v, vs = [.int a t, .int b u, .int c v] := by
  rcases h with _ | ⟨a, t, h⟩
  · exact .inl rfl
  rcases h with _ | ⟨b, u, h⟩
  · exact .inr (.inl ⟨a, t, rfl⟩)
  rcases h with _ | ⟨c, v, h⟩
  · exact .inr (.inr (.inl ⟨a, t, b, u, rfl⟩))
  rcases h with _ | ⟨d, w, h⟩
  · exact .inr (.inr (.inr ⟨a, t, b, u, c, v, rfl⟩))
  · simp at hl
theorem fm_b (a : Int) {b : Int} (h : 0 < b) : 0 ≤ a.fmod b ∧ a.fmod b < b := ⟨Int.fmod_nonneg_of_pos a h, Int.fmod_lt_of_pos a h⟩
theorem fold_b (x : Int) : 1 ≤ (x + 1).fmod 4 + 1 ∧ (x + 1).fmod 4 + 1 ≤ 4 := by
  have := fm_b (x + 1) (b := 4) (by decide)
  omega
theorem more_b (x : Int) : 1 ≤ (x.fdiv 4).fmod 6 + 1 ∧ (x.fdiv 4).fmod 6 + 1 ≤ 6 := by
  have := fm_b (x.fdiv 4) (b := 6) (by decide)
  omega
theorem start_b (a : Int) : 0 ≤ (1 + a).fmod 5 ∧ (1 + a).fmod 5 ≤ 4 := by
  have := fm_b (1 + a) (b := 5) (by decide)
  omega
section
variable {w : World} {mean : ExcName → Option Value} {mg mb : Str → Option Value} {r a1 a2 a3 : Addr} {nr : Nat} {f1 m1 f2 m2 f3 m3 : Int} {t1 u1 t2 u2 t3 u3 : Tok}
theorem madeC1 (hf1 : 1 ≤ f1 ∧ f1 ≤ 4) (hm1 : 1 ≤ m1 ∧ m1 ≤ 6) : MadeC w mean mg mb [(r, listOf #[.ref a1] nr), (a1, tup2 f1 t1 m1 u1)] r [(f1, m1)] := by
  intro dp un gd cn cs a ccd cl outer A₀ base h₀ L m s Q E x t0 news B F X N T hk hx0 hx1 hd hu ret
  refine made1 B F X N T hk hf1 hm1 hx0 hx1 hd hu (fun D vs nn h' tk' hi F' N' h1 h2 => ret D vs nn h' tk' hi F' N' ?_)
  exact List.forall_mem_cons.mpr ⟨h1.1.symm, List.forall_mem_cons.mpr ⟨h1.2.symm, h2⟩⟩
theorem madeC2 (hf1 : 1 ≤ f1 ∧ f1 ≤ 4) (hm1 : 1 ≤ m1 ∧ m1 ≤ 6) (hf2 : 1 ≤ f2 ∧ f2 ≤ 4) (hm2 : 1 ≤ m2 ∧ m2 ≤ 6) : MadeC w mean mg mb [(r, listOf #[.ref a1, .ref a2] nr), (a1, tup2 f1 t1 m1 u1), (a2, tup2 f2 t2 m2 u2)] r [(f1, m1), (f2, m2)] := by
  intro dp un gd cn cs a ccd cl outer A₀ base h₀ L m s Q E x t0 news B F X N T hk hx0 hx1 hd hu ret
  refine made2 B F X N T hk hf1 hm1 hf2 hm2 hx0 hx1 hd hu (fun D vs nn h' tk' hi F' N' h1 h2 => ret D vs nn h' tk' hi F' N' ?_)
  exact List.forall_mem_cons.mpr ⟨h1.1.symm, List.forall_mem_cons.mpr ⟨h1.2.1.symm, List.forall_mem_cons.mpr ⟨h1.2.2.symm, h2⟩⟩⟩
theorem madeC3 (hf1 : 1 ≤ f1 ∧ f1 ≤ 4) (hm1 : 1 ≤ m1 ∧ m1 ≤ 6) (hf2 : 1 ≤ f2 ∧ f2 ≤ 4) (hm2 : 1 ≤ m2 ∧ m2 ≤ 6) (hf3 : 1 ≤ f3 ∧ f3 ≤ 4) (hm3 : 1 ≤ m3 ∧ m3 ≤ 6) : MadeC w mean mg mb [(r, listOf #[.ref a1, .ref a2, .ref a3] nr), (a1, tup2 f1 t1 m1 u1), (a2, tup2 f2 t2 m2 u2), (a3, tup2 f3 t3 m3 u3)] r [(f1, m1), (f2, m2), (f3, m3)] := by
  intro dp un gd cn cs a ccd cl outer A₀ base h₀ L m s Q E x t0 news B F X N T hk hx0 hx1 hd hu ret
  refine made3 B F X N T hk hf1 hm1 hf2 hm2 hf3 hm3 hx0 hx1 hd hu (fun D vs nn h' tk' hi F' N' h1 h2 => ret D vs nn h' tk' hi F' N' ?_)
  exact List.forall_mem_cons.mpr ⟨h1.1.symm, List.forall_mem_cons.mpr ⟨h1.2.1.symm, List.forall_mem_cons.mpr ⟨h1.2.2.1.symm, List.forall_mem_cons.mpr ⟨h1.2.2.2.symm, h2⟩⟩⟩⟩
end
theorem rules1 {f1 m1 : Int} (hf1 : 1 ≤ f1 ∧ f1 ≤ 4) (hm1 : 1 ≤ m1 ∧ m1 ≤ 6) : RulesOk [(f1, m1)] :=
  ⟨by show 1 ≤ 3; decide, List.forall_mem_cons.mpr ⟨⟨hf1.1, hf1.2, hm1.1, hm1.2⟩, List.forall_mem_nil _⟩⟩
theorem rules2 {f1 m1 f2 m2 : Int} (hf1 : 1 ≤ f1 ∧ f1 ≤ 4) (hm1 : 1 ≤ m1 ∧ m1 ≤ 6) (hf2 : 1 ≤ f2 ∧ f2 ≤ 4) (hm2 : 1 ≤ m2 ∧ m2 ≤ 6) : RulesOk [(f1, m1), (f2, m2)] :=
  ⟨by show 2 ≤ 3; decide, List.forall_mem_cons.mpr ⟨⟨hf1.1, hf1.2, hm1.1, hm1.2⟩, List.forall_mem_cons.mpr ⟨⟨hf2.1, hf2.2, hm2.1, hm2.2⟩, List.forall_mem_nil _⟩⟩⟩
theorem rules3 {f1 m1 f2 m2 f3 m3 : Int} (hf1 : 1 ≤ f1 ∧ f1 ≤ 4) (hm1 : 1 ≤ m1 ∧ m1 ≤ 6) (hf2 : 1 ≤ f2 ∧ f2 ≤ 4) (hm2 : 1 ≤ m2 ∧ m2 ≤ 6) (hf3 : 1 ≤ f3 ∧ f3 ≤ 4) (hm3 : 1 ≤ m3 ∧ m3 ≤ 6) : RulesOk [(f1, m1), (f2, m2), (f3, m3)] :=
  ⟨by show 3 ≤ 3; decide, List.forall_mem_cons.mpr ⟨⟨hf1.1, hf1.2, hm1.1, hm1.2⟩, List.forall_mem_cons.mpr ⟨⟨hf2.1, hf2.2, hm2.1, hm2.2⟩, List.forall_mem_cons.mpr ⟨⟨hf3.1, hf3.2, hm3.1, hm3.2⟩, List.forall_mem_nil _⟩⟩⟩⟩
theorem led_l {h₀ h : Heap} {L : Addr} {d ta tb : Addr × Obj} {rl bs : List (Addr × Obj)} (N : News h₀ L h (d :: (rl ++ (bs ++ [tb, ta])))) : News h₀ L h ([ta] ++ ([tb] ++ (rl ++ (d :: bs)))) :=
  kst_newsOf N fun q hq => by
    simp only [List.mem_cons, List.mem_append, List.not_mem_nil, or_false] at hq ⊢
    rcases hq with h | h | h | h | h <;> simp [h]
theorem ap_l {d : Addr} {do_ oa ob : Obj} {rl bs : List (Addr × Obj)} (hb : ∀ q ∈ rl ++ bs, (@Ne Nat q.1 65) ∧ (@Ne Nat q.1 58)) (hd : ∀ p ∈ rl ++ (bs ++ [(65, ob), (58, oa)]), p.1 ≠ d) :
    (∀ q ∈ [(65, ob)] ++ (rl ++ ((d, do_) :: bs)), ∀ p ∈ [((58 : Addr), oa)], q.1 ≠ p.1) ∧ (∀ q ∈ rl ++ ((d, do_) :: bs), ∀ p ∈ [((65 : Addr), ob)], q.1 ≠ p.1) := by
  have h1 := hd (65, ob) (List.mem_append_right _ (List.mem_append_right _ (.head _)))
  have h2 := hd (58, oa) (List.mem_append_right _ (List.mem_append_right _ (.tail _ (.head _))))
  have key : ∀ q ∈ rl ++ ((d, do_) :: bs), (@Ne Nat q.1 65) ∧ (@Ne Nat q.1 58) := fun q hq => by
    rcases List.mem_append.mp hq with h | h
    · exact hb q (List.mem_append_left _ h)
    · rcases List.mem_cons.mp h with rfl | h
      · exact ⟨h1.symm, h2.symm⟩
      · exact hb q (List.mem_append_right _ h)
  refine ⟨fun q hq p hp => ?_, fun q hq p hp => ?_⟩
  · rw [List.mem_singleton.mp hp]
    rcases List.mem_append.mp hq with h | h
    · rw [List.mem_singleton.mp h]
      show (65 : Nat) ≠ 58
      decide
    · exact (key q h).2
  · rw [List.mem_singleton.mp hp]
    exact (key q hq).1
theorem TabSt.grown {P : Addr} {ln co : Int} {qual : Str} {tab news : List (Addr × Obj)} {h₀ h : Heap} {L : Addr} (S : TabSt P ln co qual tab) (N : News h₀ L h news) (ht : ∀ p ∈ tab, p ∈ news) : GrownAt P h := by
  cases S with
  | empty => exact .of N (ht _ (.head _))
  | full _ _ => exact .of N (ht _ (.head _))
end Mine
end
section
open PySem PySem.W PyProof.Rows
set_option maxRecDepth 100000
set_option maxHeartbeats 8000000
set_option linter.unusedVariables false
namespace Mine
theorem led_r1 {h₀ h : Heap} {L : Addr} {r a : Addr × Obj} {l : List (Addr × Obj)} (N : News h₀ L h (r :: a :: l)) : News h₀ L h (r :: a :: l) := N
theorem led_r2 {h₀ h : Heap} {L : Addr} {r a b : Addr × Obj} {l : List (Addr × Obj)} (N : News h₀ L h (r :: b :: a :: l)) : News h₀ L h (r :: a :: b :: l) :=
  kst_newsOf N fun q hq => by
    simp only [List.mem_cons] at hq ⊢
    rcases hq with h | h | h | h <;> simp [h]
theorem led_r3 {h₀ h : Heap} {L : Addr} {r a b c : Addr × Obj} {l : List (Addr × Obj)} (N : News h₀ L h (r :: c :: b :: a :: l)) : News h₀ L h (r :: a :: b :: c :: l) :=
  kst_newsOf N fun q hq => by
    simp only [List.mem_cons] at hq ⊢
    rcases hq with h | h | h | h | h <;> simp [h]
theorem led_k {h₀ h : Heap} {L : Addr} {d a b c tb ta : Addr × Obj} (N : News h₀ L h [d, a, b, c, tb, ta]) : News h₀ L h [d, tb, ta] :=
  kst_newsOf N fun q hq => by
    simp only [List.mem_cons, List.not_mem_nil, or_false] at hq ⊢
    rcases hq with h | h | h <;> simp [h]
theorem lt_k {a b c d e f : Nat} (h : a < f ∧ b < f ∧ c < f ∧ d < f ∧ e < f) : d < f ∧ e < f := ⟨h.2.2.2.1, h.2.2.2.2⟩
theorem comp_end_t {h₀ : Heap} {L I C D a : Addr} {m : Str → Option Value} {s₁ : Shared} {o oI oC oD : Obj} {S : List (Addr × Obj) → Prop} {rest : Value → List (Addr × Obj) → Prop} {y : Value} {h' : Heap} {tk : Nat} {news : List (Addr × Obj)} {Z : Prop}
    (F : Fr h₀ L h' m) (N : News h₀ L h' ((a, o) :: (I, oI) :: (C, oC) :: (D, oD) :: news)) (l : (@LT.lt Nat _ I a) ∧ (@LT.lt Nat _ C a) ∧ (@LT.lt Nat _ D a) ∧ Z) (off : LCg.Off3 I C D news) (hS : S ((a, o) :: news)) (r : rest y ((a, o) :: news)) :
    LCg.CompEnd h₀ L m s₁ I oI C oC D oD S rest y { s₁ with heap := h', toks := tk } :=
  LCg.CompEnd.intro F N ((a, o) :: news) (fun p hp => by
    simp only [List.mem_cons] at hp ⊢
    rcases hp with h | h | h | h | h <;> simp [h]) ⟨⟨(Nat.ne_of_lt l.1).symm, (Nat.ne_of_lt l.2.1).symm, (Nat.ne_of_lt l.2.2.1).symm⟩, off⟩ hS r
theorem isL_of {h₀ h : Heap} {L D : Addr} {news : List (Addr × Obj)} {vs : List Value} {n : Nat} (N : News h₀ L h news) (hm : (D, listOf vs.toArray n) ∈ news) : h.IsList D vs.toArray := News.isList N hm
section
local macro_rules | `(tactic| walk_at "exec Assign cons ListComp") => `(tactic| (k_here; k_dflt (refine LCg.Assign_ListComp_U (F₀ := by k_asm) (by rfl) (by with_unfolding_all rfl) (by rfl) (by decide) (by rfl) (by decide) (by rfl) (by rfl) (by rfl) ?_)))
local macro_rules | `(tactic| walk_at "truthy ref") => `(tactic| (k_here; (with_reducible show wpAny _ _ (truthy (Value.ref _)) _ _ _); (rename IntsAre _ (List.take _ (List.drop _ _)) => hI9); refine (Stp.out ?_)))
local macro_rules | `(tactic| walk_at "nought, so that the count of the lines is another one than before") => `(tactic| skip)
local macro_rules | `(tactic| walk_at "call ref") => `(tactic| (k_here; refine (Stp.out ?_)))
local macro_rules | `(tactic| walk_at "CompRest") => `(tactic| (with_unfolding_all first | (refine LCg.CompRest.succ ?_; intro v' I' oI' C' oC' D' m' h' tk' E' hv' hC' hx' F' N' off' ne'; lcg_open hv') | refine LCg.CompRest.zero ?_))
local macro_rules | `(tactic| walk_at "CompEnd") => `(tactic| k_dflt (refine comp_end_t (by k_asm) (by k_asm) (by assumption) (by assumption) (by lcg_src) ?_))
local macro_rules | `(tactic| walk_at "compareOp Eq ref ref") => `(tactic| (k_here; (with_reducible show wpAny _ _ (compareOp CmpOp.Eq (Value.ref _) (Value.ref _)) _ _ _); refine (Stp.out ?_)))
theorem holds : PySem.Challenge.rw_om0048_01.Holds := by
  refine Mine.hd ?_
  w_on
  (k_go0; (all_goals try k_fold))
  k_steps
  refine Stp.mk ?_
  (rename IntsAre _ (List.take _ (List.drop _ _)) => hI9)
  have hc := ints_le3 hI9 (by simp only [List.length_take, List.length_drop]; omega)
  clear hI9
  (rename (_ ∧ _ ∧ _ ∧ _ ∧ _) => l9); (replace l9 := lt_k l9)
  (rename News _ _ _ _ => N9); (replace N9 := led_k N9)
  (rename (_ ∧ _ ∧ _ ∧ _) => q9); clear q9
  (rename (_ ∧ _ ∧ _) => q9); clear q9
  (rename (List.length _ = min _ _) => q9); clear q9
  (rename (List.length _ = min _ _) => q9); clear q9
  (rename (List.length _ = min _ _) => q9); clear q9
  (rename (List.length _ ≤ List.length _) => q9); clear q9
  (rename (List.length _ ≤ List.length _) => q9); clear q9
  (rename (List.length _ ≤ List.length _) => q9); clear q9
  rcases hc with rfl | ⟨x1, t1, rfl⟩ | ⟨x1, t1, x2, t2, rfl⟩ | ⟨x1, t1, x2, t2, x3, t3, rfl⟩
  · k_steps
    refine Stp.mk ?_
    (rename News _ _ _ _ => N7)
    k_dflt (refine' law_out (cl := []) (outer := []) (rl := [_, _, _]) ?oaB ?oaF ?oaX ?oaN ?oaT ?oahk ?oaXB ?oaTB (madeC2 (fold_b 5) (more_b 5) (fold_b 0) (more_b 0)) (rules2 (fold_b 5) (more_b 5) (fold_b 0) (more_b 0)) (start_b _).1 (start_b _).2 ?oahd ?oahu ?_)
    case oaB => k_asm
    case oaF => k_asm
    case oaX => k_asm
    case oaN => exact led_r2 N7
    case oaT => k_asm
    case oahk => exact rfl
    case oaXB => k_asm
    case oaTB => k_asm
    case oahd => ktr_room
    case oahu => ktr_units
    intro D9 vs9 nn9 h9 tk9 hi9 F9 N9 hD9
    (try dsimp only); (try k_fold)
    k_steps
    refine Stp.mk ?_
    have hap := ap_l (d := D9) (do_ := listOf vs9.toArray nn9) (oa := tabObj #[]) (ob := tabObj #[]) (rl := [_, _, _]) (bs := [_, _]) ?hba hD9
    case hba => repeat' (first | exact List.forall_mem_nil _ | (refine List.forall_mem_cons.mpr ⟨?_, ?_⟩) | (refine And.intro ?_ ?_) | (refine neN ?_; dsimp only; omega))
    k_dflt (refine' led_back (tA := [_]) (tB := [_]) (rl := [_, _, _]) ?laB ?laF ?laX ?laN ?laT ?lahk ?lahRl ?lahRA (rules2 (fold_b 5) (more_b 5) (fold_b 0) (more_b 0)) .empty .empty hap.1 hap.2 ?lahcA ?lahcB (start_b _).1 (start_b _).2 ?lahd ?lahu ?_)
    case laB => k_asm
    case laF => k_asm
    case laX => k_asm
    case laN => exact led_l (bs := [_, _]) N9
    case laT => k_asm
    case lahk => exact rfl
    case lahRl => exact .head _
    case lahRA => exact (.cons (.tail _ (.head _)) (.cons (.tail _ (.tail _ (.head _))) .nil))
    case lahcA => assumption
    case lahcB => assumption
    case lahd => ktr_room
    case lahu => ktr_units
    intro D8 vs8 nn8 tA8 tB8 h8 tk8 hi8 hA8 hB8 F8 N8 hD8
    (try dsimp only); (try k_fold)
    k_steps
    refine Stp.mk ?_
    refine eq_intsK (isL_of (n := nn9) N8 (by refine .tail _ (List.mem_append_right _ (List.mem_append_right _ ?_)); k_mem)) hi9 (News.isList N8 (.head _)) hi8 (by units_room) ?_
    rw [decide_eq_true rfl]
    refine And.intro ?_ ⟨hB8.grown N8 (fun p hp => .tail _ (List.mem_append_right _ (List.mem_append_left _ hp))), hA8.grown N8 (fun p hp => .tail _ (List.mem_append_left _ hp)), trivial⟩
    k_steps
  · k_steps
    refine Stp.mk ?_
    (rename News _ _ _ _ => N7)
    k_dflt (refine' law_out (cl := []) (outer := []) (rl := [_, _]) ?obB ?obF ?obX ?obN ?obT ?obhk ?obXB ?obTB (madeC1 (fold_b x1) (more_b x1)) (rules1 (fold_b x1) (more_b x1)) (start_b _).1 (start_b _).2 ?obhd ?obhu ?_)
    case obB => k_asm
    case obF => k_asm
    case obX => k_asm
    case obN => exact led_r1 N7
    case obT => k_asm
    case obhk => exact rfl
    case obXB => k_asm
    case obTB => k_asm
    case obhd => ktr_room
    case obhu => ktr_units
    intro D9 vs9 nn9 h9 tk9 hi9 F9 N9 hD9
    (try dsimp only); (try k_fold)
    k_steps
    refine Stp.mk ?_
    have hap := ap_l (d := D9) (do_ := listOf vs9.toArray nn9) (oa := tabObj #[]) (ob := tabObj #[]) (rl := [_, _]) (bs := [_]) ?hbb hD9
    case hbb => repeat' (first | exact List.forall_mem_nil _ | (refine List.forall_mem_cons.mpr ⟨?_, ?_⟩) | (refine And.intro ?_ ?_) | (refine neN ?_; dsimp only; omega))
    k_dflt (refine' led_back (tA := [_]) (tB := [_]) (rl := [_, _]) ?lbB ?lbF ?lbX ?lbN ?lbT ?lbhk ?lbhRl ?lbhRA (rules1 (fold_b x1) (more_b x1)) .empty .empty hap.1 hap.2 ?lbhcA ?lbhcB (start_b _).1 (start_b _).2 ?lbhd ?lbhu ?_)
    case lbB => k_asm
    case lbF => k_asm
    case lbX => k_asm
    case lbN => exact led_l (bs := [_]) N9
    case lbT => k_asm
    case lbhk => exact rfl
    case lbhRl => exact .head _
    case lbhRA => exact (.cons (.tail _ (.head _)) .nil)
    case lbhcA => assumption
    case lbhcB => assumption
    case lbhd => ktr_room
    case lbhu => ktr_units
    intro D8 vs8 nn8 tA8 tB8 h8 tk8 hi8 hA8 hB8 F8 N8 hD8
    (try dsimp only); (try k_fold)
    k_steps
    refine Stp.mk ?_
    refine eq_intsK (isL_of (n := nn9) N8 (by refine .tail _ (List.mem_append_right _ (List.mem_append_right _ ?_)); k_mem)) hi9 (News.isList N8 (.head _)) hi8 (by units_room) ?_
    rw [decide_eq_true rfl]
    refine And.intro ?_ ⟨hB8.grown N8 (fun p hp => .tail _ (List.mem_append_right _ (List.mem_append_left _ hp))), hA8.grown N8 (fun p hp => .tail _ (List.mem_append_left _ hp)), trivial⟩
    k_steps
  · k_steps
    refine Stp.mk ?_
    (rename News _ _ _ _ => N7)
    k_dflt (refine' law_out (cl := []) (outer := []) (rl := [_, _, _]) ?ocB ?ocF ?ocX ?ocN ?ocT ?ochk ?ocXB ?ocTB (madeC2 (fold_b x1) (more_b x1) (fold_b x2) (more_b x2)) (rules2 (fold_b x1) (more_b x1) (fold_b x2) (more_b x2)) (start_b _).1 (start_b _).2 ?ochd ?ochu ?_)
    case ocB => k_asm
    case ocF => k_asm
    case ocX => k_asm
    case ocN => exact led_r2 N7
    case ocT => k_asm
    case ochk => exact rfl
    case ocXB => k_asm
    case ocTB => k_asm
    case ochd => ktr_room
    case ochu => ktr_units
    intro D9 vs9 nn9 h9 tk9 hi9 F9 N9 hD9
    (try dsimp only); (try k_fold)
    k_steps
    refine Stp.mk ?_
    have hap := ap_l (d := D9) (do_ := listOf vs9.toArray nn9) (oa := tabObj #[]) (ob := tabObj #[]) (rl := [_, _, _]) (bs := [_]) ?hbc hD9
    case hbc => repeat' (first | exact List.forall_mem_nil _ | (refine List.forall_mem_cons.mpr ⟨?_, ?_⟩) | (refine And.intro ?_ ?_) | (refine neN ?_; dsimp only; omega))
    k_dflt (refine' led_back (tA := [_]) (tB := [_]) (rl := [_, _, _]) ?lcB ?lcF ?lcX ?lcN ?lcT ?lchk ?lchRl ?lchRA (rules2 (fold_b x1) (more_b x1) (fold_b x2) (more_b x2)) .empty .empty hap.1 hap.2 ?lchcA ?lchcB (start_b _).1 (start_b _).2 ?lchd ?lchu ?_)
    case lcB => k_asm
    case lcF => k_asm
    case lcX => k_asm
    case lcN => exact led_l (bs := [_]) N9
    case lcT => k_asm
    case lchk => exact rfl
    case lchRl => exact .head _
    case lchRA => exact (.cons (.tail _ (.head _)) (.cons (.tail _ (.tail _ (.head _))) .nil))
    case lchcA => assumption
    case lchcB => assumption
    case lchd => ktr_room
    case lchu => ktr_units
    intro D8 vs8 nn8 tA8 tB8 h8 tk8 hi8 hA8 hB8 F8 N8 hD8
    (try dsimp only); (try k_fold)
    k_steps
    refine Stp.mk ?_
    refine eq_intsK (isL_of (n := nn9) N8 (by refine .tail _ (List.mem_append_right _ (List.mem_append_right _ ?_)); k_mem)) hi9 (News.isList N8 (.head _)) hi8 (by units_room) ?_
    rw [decide_eq_true rfl]
    refine And.intro ?_ ⟨hB8.grown N8 (fun p hp => .tail _ (List.mem_append_right _ (List.mem_append_left _ hp))), hA8.grown N8 (fun p hp => .tail _ (List.mem_append_left _ hp)), trivial⟩
    k_steps
  · k_steps
    refine Stp.mk ?_
    (rename News _ _ _ _ => N7)
    k_dflt (refine' law_out (cl := []) (outer := []) (rl := [_, _, _, _]) ?odB ?odF ?odX ?odN ?odT ?odhk ?odXB ?odTB (madeC3 (fold_b x1) (more_b x1) (fold_b x2) (more_b x2) (fold_b x3) (more_b x3)) (rules3 (fold_b x1) (more_b x1) (fold_b x2) (more_b x2) (fold_b x3) (more_b x3)) (start_b _).1 (start_b _).2 ?odhd ?odhu ?_)
    case odB => k_asm
    case odF => k_asm
    case odX => k_asm
    case odN => exact led_r3 N7
    case odT => k_asm
    case odhk => exact rfl
    case odXB => k_asm
    case odTB => k_asm
    case odhd => ktr_room
    case odhu => ktr_units
    intro D9 vs9 nn9 h9 tk9 hi9 F9 N9 hD9
    (try dsimp only); (try k_fold)
    k_steps
    refine Stp.mk ?_
    have hap := ap_l (d := D9) (do_ := listOf vs9.toArray nn9) (oa := tabObj #[]) (ob := tabObj #[]) (rl := [_, _, _, _]) (bs := [_]) ?hbd hD9
    case hbd => repeat' (first | exact List.forall_mem_nil _ | (refine List.forall_mem_cons.mpr ⟨?_, ?_⟩) | (refine And.intro ?_ ?_) | (refine neN ?_; dsimp only; omega))
    k_dflt (refine' led_back (tA := [_]) (tB := [_]) (rl := [_, _, _, _]) ?ldB ?ldF ?ldX ?ldN ?ldT ?ldhk ?ldhRl ?ldhRA (rules3 (fold_b x1) (more_b x1) (fold_b x2) (more_b x2) (fold_b x3) (more_b x3)) .empty .empty hap.1 hap.2 ?ldhcA ?ldhcB (start_b _).1 (start_b _).2 ?ldhd ?ldhu ?_)
    case ldB => k_asm
    case ldF => k_asm
    case ldX => k_asm
    case ldN => exact led_l (bs := [_]) N9
    case ldT => k_asm
    case ldhk => exact rfl
    case ldhRl => exact .head _
    case ldhRA => exact (.cons (.tail _ (.head _)) (.cons (.tail _ (.tail _ (.head _))) (.cons (.tail _ (.tail _ (.tail _ (.head _)))) .nil)))
    case ldhcA => assumption
    case ldhcB => assumption
    case ldhd => ktr_room
    case ldhu => ktr_units
    intro D8 vs8 nn8 tA8 tB8 h8 tk8 hi8 hA8 hB8 F8 N8 hD8
    (try dsimp only); (try k_fold)
    k_steps
    refine Stp.mk ?_
    refine eq_intsK (isL_of (n := nn9) N8 (by refine .tail _ (List.mem_append_right _ (List.mem_append_right _ ?_)); k_mem)) hi9 (News.isList N8 (.head _)) hi8 (by units_room) ?_
    rw [decide_eq_true rfl]
    refine And.intro ?_ ⟨hB8.grown N8 (fun p hp => .tail _ (List.mem_append_right _ (List.mem_append_left _ hp))), hA8.grown N8 (fun p hp => .tail _ (List.mem_append_left _ hp)), trivial⟩
    k_steps
end
end Mine
end
theorem PySem.Challenge.cw_om0048_01_holds : PySem.Challenge.rw_om0048_01.Holds :=
  Mine.holds
