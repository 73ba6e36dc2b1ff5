import PyProof.Rows.All
import Wide.All
import OpenK.AllK
import Wide.FinOn
import PySem.Challenge.RW_mr0396_01
open PySem PySem.W PyProof.Rows PySem.Calls
set_option Elab.async false
set_option maxRecDepth 100000
namespace Mine
set_option maxRecDepth 100000 in
set_option maxHeartbeats 8000000 in
open_top hd for PySem.Challenge.rw_mr0396_01
section PartP396
def codes : List Nat := [48, 49, 50, 51, 52, 53, 54, 55, 56, 57, 97, 98, 99, 100, 101, 102, 103, 104, 105, 106, 107, 108, 109, 110, 111, 112, 113, 114, 115, 116, 117, 118, 119, 120, 121, 122, 65, 66, 67, 68, 69, 70, 71, 72, 73, 74, 75, 76, 77, 78, 79, 80, 81, 82, 83, 84, 85, 86, 87, 88, 89, 90, 33, 34, 35, 36, 37, 38, 39, 40, 41, 42, 43, 44, 45, 46, 47, 58, 59, 60, 61, 62, 63, 64, 91, 92, 93, 94, 95, 96, 123, 124, 125, 126, 32, 9, 10, 13, 11, 12]
def code (p : Int) : Nat := codes.getD p.toNat 0
def place (n m : Int) : Int :=
  if Int.fmod n 7 = 0 then 10 else if Int.fmod n 7 = 1 then 52 else if Int.fmod n 7 = 2 then 94 else if Int.fmod n 7 = 3 then m else Int.fmod (Int.fdiv n 7) 100
def sign (p : Int) : Str := Str.mk #[code p]
theorem sign_eq (p : Int) : sign p = Str.mk #[codes.getD p.toNat 0] := by unfold sign code; rfl
/-- a written table's sign at a place, told by the place in printable -/
theorem tab {x : Str} {lo n : Nat} (c : Int) (h : ∀ j, j < n → Txt.item x (((lo + j : Nat) : Int) - c) = Str.mk #[codes.getD (lo + j) 0]) {p : Int} (h0 : (lo : Int) ≤ p) (h1 : p < ((lo + n : Nat) : Int)) : Txt.item x (p - c) = sign p := by
  have := h (p - lo).toNat (by omega)
  rw [show ((lo + (p - lo).toNat : Nat) : Int) = p by omega, show lo + (p - lo).toNat = p.toNat by omega] at this
  rw [this, sign_eq]
theorem tab0 {x : Str} {lo n : Nat} (h : ∀ j, j < n → Txt.item x (((lo + j : Nat) : Int) - 0) = Str.mk #[codes.getD (lo + j) 0]) {p : Int} (h0 : (lo : Int) ≤ p) (h1 : p < ((lo + n : Nat) : Int)) : Txt.item x p = sign p := by
  have := tab 0 h h0 h1
  rwa [Int.sub_zero] at this
theorem s_oct {p : Int} (h0 : 0 ≤ p) (h1 : p < 8) : Txt.item (Str.ofString "01234567") p = sign p := tab0 (lo := 0) (n := 8) (by decide +kernel) h0 h1
theorem s_dig {p : Int} (h0 : 8 ≤ p) (h1 : p < 10) : Txt.item (Str.ofString "0123456789") p = sign p := tab0 (lo := 8) (n := 2) (by decide +kernel) h0 h1
theorem s_hex {p : Int} (h0 : 10 ≤ p) (h1 : p < 16) : Txt.item (Str.ofString "0123456789abcdefABCDEF") p = sign p := tab0 (lo := 10) (n := 6) (by decide +kernel) h0 h1
theorem s_low {p : Int} (h0 : 16 ≤ p) (h1 : p < 36) : Txt.item (Str.ofString "abcdefghijklmnopqrstuvwxyz") (p - 10) = sign p := tab 10 (lo := 16) (n := 20) (by decide +kernel) h0 h1
theorem s_hex2 {p : Int} (h0 : 36 ≤ p) (h1 : p < 42) : Txt.item (Str.ofString "0123456789abcdefABCDEF") (p - 20) = sign p := tab 20 (lo := 36) (n := 6) (by decide +kernel) h0 h1
theorem s_upp {p : Int} (h0 : 42 ≤ p) (h1 : p < 62) : Txt.item (Str.ofString "ABCDEFGHIJKLMNOPQRSTUVWXYZ") (p - 36) = sign p := tab 36 (lo := 42) (n := 20) (by decide +kernel) h0 h1
theorem s_pun {p : Int} (h0 : 62 ≤ p) (h1 : p < 94) : Txt.item (Str.ofString "!\"#$%&'()*+,-./:;<=>?@\x5b\\]^_`{|}~") (p - 62) = sign p := tab 62 (lo := 62) (n := 32) (by decide +kernel) h0 h1
theorem s_wsp {p : Int} (h0 : 94 ≤ p) (h1 : p < 100) : Txt.item (Str.ofString " \t\n\r\x0b\x0c") (p - 94) = sign p := tab 94 (lo := 94) (n := 6) (by decide +kernel) h0 h1
theorem s_prt {p : Int} (h0 : 0 ≤ p) (h1 : p < 100) : Txt.item (Str.ofString "0123456789abcdefghijklmnopqrstuvwxyzABCDEFGHIJKLMNOPQRSTUVWXYZ!\"#$%&'()*+,-./:;<=>?@\x5b\\]^_`{|}~ \t\n\r\x0b\x0c") p = sign p := tab0 (lo := 0) (n := 100) (by decide +kernel) h0 h1
theorem sign_len (p : Int) : (sign p).length = 1 := by rw [sign_eq]; rfl
def first (p : Int) : Int := if 10 ≤ p ∧ p < 36 then p + 26 else p
def further (p : Int) : Int := if 36 ≤ p ∧ p < 62 then p - 26 else p
theorem first_in {p : Int} (h0 : 0 ≤ p) (h1 : p < 100) : 0 ≤ first p ∧ first p < 100 := by unfold first; split <;> omega
theorem further_in {p : Int} (h0 : 0 ≤ p) (h1 : p < 100) : 0 ≤ further p ∧ further p < 100 := by unfold further; split <;> omega
/-- one turn of the plain reading: what is told so far, and whether a word has begun -/
def pstep (s : List Int × Bool) (p : Int) : List Int × Bool :=
  if 94 ≤ p then (s.1, false) else if s.2 then (s.1 ++ [further p], true) else (s.1 ++ (if s.1 = [] then [first p] else [94, first p]), true)
/-- one turn of the reading by a mark -/
def mstep (m : Int) (s : List Int × Bool) (p : Int) : List Int × Bool :=
  (s.1 ++ [if p = m then p else if s.2 then further p else first p], p != m)
theorem pstep_len (s : List Int × Bool) (n : Int) : (pstep s n).1.length ≤ s.1.length + 2 := by
  unfold pstep
  repeat' split
  all_goals simp
theorem p_blank {told : List Int} {b : Bool} {n : Int} (h : 94 ≤ n) : (told, false) = pstep (told, b) n := by unfold pstep; rw [if_pos h]
theorem p_more {told : List Int} {b : Bool} {n : Int} (h : ¬ 94 ≤ n) (hb : b = true) : (told ++ [further n], b) = pstep (told, b) n := by unfold pstep; rw [if_neg h, hb]; rfl
theorem p_next {told : List Int} {b : Bool} {n : Int} (h : ¬ 94 ≤ n) (hb : b = false) (hl : 0 < told.length) : (told ++ [94, first n], true) = pstep (told, b) n := by
  unfold pstep
  rw [if_neg h, hb, if_neg (by simp), if_neg (fun e => by simp only at e; rw [e] at hl; simp at hl)]
theorem p_front {told : List Int} {b : Bool} {n : Int} (h : ¬ 94 ≤ n) (hb : b = false) (hl : ¬ 0 < told.length) : (told ++ [first n], true) = pstep (told, b) n := by
  unfold pstep
  have e : told = [] := List.eq_nil_of_length_eq_zero (by omega)
  rw [if_neg h, hb, if_neg (by simp), if_pos e]
theorem m_mark {told : List Int} {b : Bool} {m n : Int} (h : n = m) : (told ++ [n], n != m) = mstep m (told, b) n := by unfold mstep; rw [if_pos h]
theorem m_more {told : List Int} {b : Bool} {m n : Int} (h : ¬ n = m) (hb : b = true) : (told ++ [further n], n != m) = mstep m (told, b) n := by unfold mstep; rw [if_neg h, hb]; rfl
theorem m_first {told : List Int} {b : Bool} {m n : Int} (h : ¬ n = m) (hb : b = false) : (told ++ [first n], n != m) = mstep m (told, b) n := by unfold mstep; rw [if_neg h, hb]; rfl
theorem mstep_len (m : Int) (s : List Int × Bool) (n : Int) : (mstep m s n).1.length ≤ s.1.length + 2 := by
  unfold mstep
  simp
theorem pfold_in : ∀ (ps T : List Int) (b : Bool), (∀ k ∈ ps, 0 ≤ k ∧ k < 100) → (∀ k ∈ T, 0 ≤ k ∧ k < 100) → ∀ k ∈ (ps.foldl pstep (T, b)).1, 0 ≤ k ∧ k < 100
  | [], T, b, _, hT => hT
  | p :: r, T, b, hp, hT => by
    rw [List.foldl_cons]
    have h0 := hp p (by simp)
    have hr : ∀ k ∈ r, 0 ≤ k ∧ k < 100 := fun k hk => hp k (List.mem_cons_of_mem _ hk)
    refine pfold_in r (pstep (T, b) p).1 (pstep (T, b) p).2 hr ?_
    have h1 := first_in h0.1 h0.2
    have h2 := further_in h0.1 h0.2
    unfold pstep
    repeat' split
    all_goals
      intro k hk
      simp only [List.mem_append, List.mem_cons, List.not_mem_nil, or_false] at hk
      first
        | exact hT k hk
        | (rcases hk with h | h; · exact hT k h
           · subst h; assumption)
        | (rcases hk with h | h | h; · exact hT k h
           · omega
           · subst h; assumption)
theorem mfold_in (m : Int) : ∀ (ps T : List Int) (b : Bool), (∀ k ∈ ps, 0 ≤ k ∧ k < 100) → (∀ k ∈ T, 0 ≤ k ∧ k < 100) → ∀ k ∈ (ps.foldl (mstep m) (T, b)).1, 0 ≤ k ∧ k < 100
  | [], T, b, _, hT => hT
  | p :: r, T, b, hp, hT => by
    rw [List.foldl_cons]
    have h0 := hp p (by simp)
    have hr : ∀ k ∈ r, 0 ≤ k ∧ k < 100 := fun k hk => hp k (List.mem_cons_of_mem _ hk)
    refine mfold_in m r (mstep m (T, b) p).1 (mstep m (T, b) p).2 hr ?_
    have h1 := first_in h0.1 h0.2
    have h2 := further_in h0.1 h0.2
    unfold mstep
    intro k hk
    simp only [List.mem_append, List.mem_singleton] at hk
    rcases hk with h | h
    · exact hT k h
    · subst h
      repeat' split
      all_goals assumption
theorem fold_len {f : List Int × Bool → Int → List Int × Bool} (hf : ∀ s n, (f s n).1.length ≤ s.1.length + 2) : ∀ (l : List Int) (s : List Int × Bool), (l.foldl f s).1.length ≤ s.1.length + 2 * l.length := by
  intro l
  induction l with
  | nil => intro s; simp
  | cons a r ih => intro s; rw [List.foldl_cons, List.length_cons]; have := ih (f s a); have := hf s a; omega
/-- the text of a row of places -/
def spell (ps : List Int) : Str := Txt.join (Str.ofString "") (ps.map sign)
theorem place_tab {n m : Int} (h0 : 0 ≤ n.fmod 7) (h1 : n.fmod 7 < 7) : [10, 52, 94, m, (n.fdiv 7).fmod 100, (n.fdiv 7).fmod 100, (n.fdiv 7).fmod 100].getD (n.fmod 7).toNat 0 = place n m := by
  unfold place
  generalize (n.fdiv 7).fmod 100 = x
  generalize n.fmod 7 = k at h0 h1 ⊢
  have : k = 0 ∨ k = 1 ∨ k = 2 ∨ k = 3 ∨ k = 4 ∨ k = 5 ∨ k = 6 := by omega
  rcases this with rfl | rfl | rfl | rfl | rfl | rfl | rfl <;> rfl
theorem place_in {n m : Int} (h0 : 0 ≤ m) (h1 : m < 100) : 0 ≤ place n m ∧ place n m < 100 := by
  have a := fmod_lo (n := 100) (Int.fdiv n 7) (by decide)
  have b := fmod_hi (n := 100) (Int.fdiv n 7) (by decide)
  unfold place
  repeat' split
  all_goals omega
/-- the row of places, forgotten how it was built -/
theorem places_are {vs : List Value} {x : Int} {l : List Int} (h : IntsAre vs ([11] ++ l.map (fun k => place k (x.fmod 100)) ++ [95, 36, 35, 61])) (hl : l.length ≤ 9) :
    ∃ ps, IntsAre vs ps ∧ (∀ k ∈ ps, 0 ≤ k ∧ k < 100) ∧ ps.length ≤ 14 := by
  refine ⟨_, h, ?_, ?_⟩
  · intro k hk
    simp only [List.mem_append, List.mem_cons, List.mem_map, List.not_mem_nil, or_false] at hk
    rcases hk with (rfl | ⟨a, _, rfl⟩) | rfl | rfl | rfl | rfl
    · omega
    · exact place_in (fmod_lo _ (by decide)) (fmod_hi _ (by decide))
    all_goals omega
  · simp; omega
theorem cut_len (w : List Int) (f : Int → Int) : (List.drop 1 ((w.take 9).map f)).length ≤ 9 := by simp; omega
end PartP396
section PartF396
/-- what a call of the text's own def asks, and what it gives: k frames of room -/
abbrev Asks (w : World) (k : Nat) (f : Addr) (news : List (Addr × Obj)) (vs : List Value) (R : (Value → List (Addr × Obj) → Prop) → Prop) : Prop :=
  ∀ (pp : Program) (loose : List Str) (mean : ExcName → Option Value) (mg mb : Str → Option Value) (dp un : Nat) (gd : Option (List Code)) (cn : Str) (cs : Scope) (a : Addr) (ccd : Value) (cl : List (Str × Addr)) (outer : List Env) (A₀ : Around) (base h₀ : Heap) (L : Addr) (m : Str → Option Value) (s : Shared) (Q E : Value → Shared → Prop),
    Below A₀ base outer h₀ → Fr h₀ L s.heap m → (hd.heap_39 w.params).In h₀ → News h₀ L s.heap news → Top pp loose mean mg mb h₀ → cs.kind = .function → dp + k < recursionLimit → un + 8 * k < cLine →
    R (fun v nw => ∀ (h' : Heap) (tk' : Nat), Fr h₀ L h' m → News h₀ L h' nw → Q v { s with heap := h', toks := tk' }) →
      wpAny (model Challenge.rw_mr0396_01.row.prog w) (ktrTop dp un gd cn cs L a ccd cl outer) (call (.ref f) vs) Q E s
theorem kmem_tail {α : Type} {p a : α} {l : List α} (h : p ∈ l) : p ∈ a :: l := List.Mem.tail _ h
local macro_rules | `(tactic| k_mem) => `(tactic| assumption)
local macro_rules | `(tactic| walk_at "eval ListComp") => `(tactic| (k_here; k_dflt (refine LCg.ListComp_U (F₀ := by k_asm) (by with_unfolding_all rfl) (by decide) (by rfl) (by decide) (by rfl) ?_)))
theorem len_line {vs : List Value} {ns : List Int} (hi : IntsAre vs ns) (hn : ns.length ≤ 100) : vs.toArray.size ≤ sizeLine := by
  rw [sizeLine_eq, List.size_toArray, hi.length]; omega
local macro_rules | `(tactic| walk_at "subscriptTail Name Name str int") => `(tactic| (k_here; (with_reducible show wpAny _ _ (subscriptTail _ _ (Value.str _ _) (Value.int _ _)) _ _ _); (refine KXi.item (by kxi_len) (by kxi_fact) (by kxi_fact) (by decide) ?_); intro kxiE))
set_option maxRecDepth 100000 in
set_option maxHeartbeats 8000000 in
theorem sign_claim (w : World) (news : List (Addr × Obj)) (p : Int) (t : Tok) (hp : 0 ≤ p ∧ p < 100) :
    Asks w 1 36 news [.int p t] (fun Q => ∀ t, Q (.str (sign p) t) news) := by
  k_with_none
  w_top off
  unfold Asks
  k_fill
  intros
  rename_i hret
  dsimp only at hret
  refine wpAny_call ?_
  first | k_dflt cell_enter | fail "enter"
  k_steps
  all_goals
    refine cb_retS hret ?_ (by k_asm) (by k_asm)
    with_reducible first
      | exact s_oct (by omega) (by omega)
      | exact s_dig (by omega) (by omega)
      | exact s_hex (by omega) (by omega)
      | exact s_low (by omega) (by omega)
      | exact s_hex2 (by omega) (by omega)
      | exact s_upp (by omega) (by omega)
      | exact s_pun (by omega) (by omega)
      | exact s_wsp (by omega) (by omega)
set_option maxRecDepth 100000 in
set_option maxHeartbeats 8000000 in
theorem place_claim (w : World) (news : List (Addr × Obj)) (n m : Int) (t u : Tok) :
    Asks w 1 29 news [.int n t, .int m u] (fun Q => ∀ t, Q (.int (place n m) t) news) := by
  k_with_none
  w_top off
  unfold Asks
  k_fill
  intros
  rename_i hret
  dsimp only at hret
  refine wpAny_call ?_
  first | k_dflt cell_enter | fail "enter"
  k_steps
  refine cb_retI hret (place_tab (by omega) (by omega)) (by k_asm) (cb_drop (by k_asm) fun p hp => List.mem_cons_of_mem _ (List.mem_cons_of_mem _ hp))
set_option maxRecDepth 100000 in
set_option maxHeartbeats 8000000 in
theorem first_claim (w : World) (news : List (Addr × Obj)) (n : Int) (t : Tok) :
    Asks w 1 43 news [.int n t] (fun Q => ∀ t, Q (.int (first n) t) news) := by
  k_with_none
  w_top off
  unfold Asks
  k_fill
  intros
  rename_i hret
  dsimp only at hret
  refine wpAny_call ?_
  first | k_dflt cell_enter | fail "enter"
  k_steps
  all_goals
    refine cb_retI hret ?_ (by k_asm) (by k_asm)
    unfold first
    first | omega | (repeat' split) <;> omega
set_option maxRecDepth 100000 in
set_option maxHeartbeats 8000000 in
theorem further_claim (w : World) (news : List (Addr × Obj)) (n : Int) (t : Tok) :
    Asks w 1 50 news [.int n t] (fun Q => ∀ t, Q (.int (further n) t) news) := by
  k_with_none
  w_top off
  unfold Asks
  k_fill
  intros
  rename_i hret
  dsimp only at hret
  refine wpAny_call ?_
  first | k_dflt cell_enter | fail "enter"
  k_steps
  all_goals
    refine cb_retI hret ?_ (by k_asm) (by k_asm)
    unfold further
    first | omega | (repeat' split) <;> omega
set_option maxRecDepth 100000 in
set_option maxHeartbeats 8000000 in
theorem spelled_claim (w : World) (news : List (Addr × Obj)) (l : Addr) (vs : List Value) (ns : List Int) (nn : Nat) (hm : (l, listOf vs.toArray nn) ∈ news) (hi : IntsAre vs ns) (hb : ∀ k ∈ ns, 0 ≤ k ∧ k < 100) (hn : ns.length ≤ 100) :
    Asks w 2 69 news [.ref l] (fun Q => ∀ t, Q (.str (spell ns) t) news) := by
  k_with_none
  w_top off
  k_with "CompSrc" => (refine LCg.CompSrc.ledger (by rfl) (by k_asm) (by k_asm) hm (len_line hi hn) ?_; intro g'; (refine' kct_list sign hi (fun k' t' I' oI' C' oC' D' m' ys' h' tk' E' hk' hC' hx' F' N' off' ne' hMark' => ?_) ?_); (all_goals try (have hbk := hb k' hk')); kcf_last)
  k_with "CompEnd" => refine LCg.CompEnd.intro (by assumption) (by assumption) news (fun p hp => hp) (by assumption) (Or.inr ⟨_, hm, rfl, _, rfl⟩) ?_
  k_with "KCtEl" => exact kct_el (s_prt (by omega) (by omega)).symm rfl rfl
  unfold Asks
  k_fill
  intros
  rename_i hret
  dsimp only at hret
  refine wpAny_call ?_
  first | k_dflt cell_enter | fail "enter"
  k_steps
  refine cb_retS hret ?_ (by k_asm) (cb_drop (by k_asm) fun p hp => List.mem_cons_of_mem _ hp)
  unfold spell
  rfl
end PartF396
section PartL396
section
variable {prog : Program} {w : World} {A : Around} {E : Value → Shared → Prop} {s : Shared} {env : Env} {h₀ : Heap} {x : Str} {body : List Stmt} {Q : Flow → Shared → Prop}
/-- between two turns of a loop that keeps a list of ints and a bool -/
def TwoJ (st : List Int × Bool) (ts bs : Str) (D T : Addr) (oT : Obj) (news : List (Addr × Obj)) (x : Str) (m₀ m : Str → Option Value) (nx : List (Addr × Obj)) : Prop :=
  ∃ ys c, nx = (T, oT) :: (D, listOf ys.toArray c) :: news ∧ IntsAre ys st.1 ∧ m ts = some (.ref D) ∧ m bs = some (.bool st.2) ∧ ∀ z, z ≠ x → z ≠ ts → z ≠ bs → m z = m₀ z
theorem two_loop (f : List Int × Bool → Int → List Int × Bool) (ts bs : Str) {l D T : Addr} {oT : Obj} {vs : List Value} {ns : List Int} {nn : Nat} {m₀ : Str → Option Value} {news : List (Addr × Obj)}
    (hh : A.handled = none) (hm : (l, listOf vs.toArray nn) ∈ news) (hi : IntsAre vs ns) (F : Fr h₀ env.locals s.heap m₀) (N : News h₀ env.locals s.heap ((T, oT) :: (D, listOf #[] 0) :: news)) (hTD : T ≠ D) (hD : ∀ p ∈ news, p.1 ≠ D)
    (h1 : m₀ ts = some (.ref D)) (h2 : m₀ bs = some (.bool false)) (hlen : ∀ s n, (f s n).1.length ≤ s.1.length + 2)
    (turn : ∀ ys c (told : List Int) (begun : Bool) n t h tk own, n ∈ ns → IntsAre ys told → told.length ≤ 2 * ns.length → (@Ne Nat T D) → (∀ p ∈ news ++ own, p.1 ≠ D) →
      Fr h₀ env.locals h (fun y => if y = x then some (.int n t) else if y = ts then some (.ref D) else if y = bs then some (.bool begun) else m₀ y) → News h₀ env.locals h ((T, oT) :: (D, listOf ys.toArray c) :: (news ++ own)) →
      wpAny (model prog w) A (execs body env) (InvPostN h₀ env.locals (TwoJ (f (told, begun) n) ts bs D T oT news x m₀) own (T :: D :: news.map (·.1)) { s with heap := h, toks := tk } Q) E { s with heap := h, toks := tk })
    (done : ∀ ys c (u : Str → Option Value) h tk, IntsAre ys (ns.foldl f ([], false)).1 → Fr h₀ env.locals h (fun y => if y = x then u y else if y = ts then some (.ref D) else if y = bs then some (.bool (ns.foldl f ([], false)).2) else m₀ y) →
      News h₀ env.locals h ((T, oT) :: (D, listOf ys.toArray c) :: news) → Q .next { s with heap := h, toks := tk }) :
    wpAny (model prog w) A (pyIter (.ref l)) (fun it s₂ => LoopAtV prog w A h₀ env x body Q E it s₂) E s := by
  have len : ∀ i, ((ns.take i).foldl f ([], false)).1.length ≤ 2 * ns.length := by
    have : ∀ (l : List Int) (s : List Int × Bool), (l.foldl f s).1.length ≤ s.1.length + 2 * l.length := by
      intro l
      induction l with
      | nil => intro s; simp
      | cons a r ih => intro s; rw [List.foldl_cons, List.length_cons]; have := ih (f s a); have := hlen s a; omega
    intro i
    have := this (ns.take i) ([], false)
    have h3 : (ns.take i).length ≤ ns.length := by rw [List.length_take]; omega
    simp only [List.length_nil] at this
    omega
  have eqm : ∀ (v : Option Value) (b : Bool) (m₁ : Str → Option Value), m₁ ts = some (.ref D) → m₁ bs = some (.bool b) → (∀ z, z ≠ x → z ≠ ts → z ≠ bs → m₁ z = m₀ z) →
      (fun y => if y = x then v else m₁ y) = fun y => if y = x then v else if y = ts then some (.ref D) else if y = bs then some (.bool b) else m₀ y := by
    intro v b m₁ e1 e2 e3
    funext y
    by_cases a : y = x
    · simp [a]
    · simp only [if_neg a]
      by_cases b1 : y = ts
      · subst b1; simp [e1]
      · simp only [if_neg b1]
        by_cases b2 : y = bs
        · subst b2; simp [e2]
        · simp only [if_neg b2]; exact e3 y a b1 b2
  refine iter_invNL (fun i m nx => TwoJ ((ns.take i).foldl f ([], false)) ts bs D T oT news x m₀ m nx) hh (List.mem_cons_of_mem _ (List.mem_cons_of_mem _ hm)) hi F N ⟨[], 0, rfl, .nil, h1, h2, fun _ _ _ _ => rfl⟩ ?_ ?_
  · rintro i n t m₁ nx h tk own hn _ hoff _ ⟨ys, c, rfl, hys, e1, e2, e3⟩ F₁ N₁
    have hs : (ns.take (i + 1)).foldl f ([], false) = f ((ns.take i).foldl f ([], false)) n := by
      rw [List.take_add_one, hn]; simp
    rw [hs]
    rw [eqm _ _ m₁ e1 e2 e3] at F₁
    have hofD : ∀ p ∈ news ++ own, p.1 ≠ D := by
      intro p hp
      rcases List.mem_append.mp hp with h | h
      · exact hD p h
      · exact hoff p h D (by simp)
    refine wpAny_mono (turn ys c _ _ n t h tk own (List.mem_of_getElem? hn) hys (len i) hTD hofD F₁ N₁) (fun fl s₂ p => ?_) fun _ _ e => e
    have up : InvEndN h₀ env.locals (TwoJ (f ((ns.take i).foldl f ([], false)) n) ts bs D T oT news x m₀) own (T :: D :: news.map (·.1)) { s with heap := h, toks := tk } s₂ →
        InvEndN h₀ env.locals (fun m' nx => (l, listOf vs.toArray nn) ∈ nx ∧ TwoJ (f ((ns.take i).foldl f ([], false)) n) ts bs D T oT news x m₀ m' nx) own (((T, oT) :: (D, listOf #[] 0) :: news).map (·.1)) { s with heap := h, toks := tk } s₂ := by
      rintro ⟨h', tk', m', news', nx', e', F', N', hn', ho', ha, hS⟩
      refine ⟨h', tk', m', news', nx', e', F', N', hn', ho', ha, ?_, hS⟩
      obtain ⟨ys', c', rfl, _⟩ := hS
      exact List.mem_cons_of_mem _ (List.mem_cons_of_mem _ hm)
    cases fl with
    | ret v => exact p
    | brk => exact p
    | next => exact up p
    | cont => exact up p
  · rintro m₁ nx h tk _ ⟨ys, c, rfl, hys, e1, e2, e3⟩ F₁ N₁
    rw [List.take_length] at hys e2
    refine done ys c m₁ h tk hys ?_ N₁
    have := eqm
    have em : (fun y => if y = x then m₁ y else if y = ts then some (.ref D) else if y = bs then some (.bool (ns.foldl f ([], false)).2) else m₀ y) = m₁ := by
      funext y
      by_cases a : y = x
      · simp [a]
      · simp only [if_neg a]
        by_cases b1 : y = ts
        · subst b1; simp [e1]
        · simp only [if_neg b1]
          by_cases b2 : y = bs
          · subst b2; simp [e2]
          · simp only [if_neg b2]; exact (e3 y a b1 b2).symm
    rw [em]; exact F₁
theorem two_end {st : List Int × Bool} {ts bs : Str} {D T : Addr} {oT : Obj} {news own all : List (Addr × Obj)} {m₀ m' : Str → Option Value} {s₁ : Shared} {h' : Heap} {tk : Nat} {L : Addr} {ys : List Value} {c : Nat} {told : List Int} {b : Bool}
    (F : Fr h₀ L h' m') (N : News h₀ L h' all) (hys : IntsAre ys told) (e : (told, b) = st) (h1 : m' ts = some (.ref D)) (h2 : m' bs = some (.bool b)) (h3 : ∀ z, z ≠ x → z ≠ ts → z ≠ bs → m' z = m₀ z)
    (hT : (T, oT) ∈ all) (hD : (D, listOf ys.toArray c) ∈ all) (hn : ∀ p ∈ news ++ own, p ∈ all) :
    InvEndN h₀ L (TwoJ st ts bs D T oT news x m₀) own (T :: D :: news.map (·.1)) s₁ { s₁ with heap := h', toks := tk } := by
  subst e
  refine InvEndN.intro F N (nx := (T, oT) :: (D, listOf ys.toArray c) :: news) ⟨ys, c, rfl, hys, h1, h2, h3⟩ rfl ?_ fun p hp => hn p (List.mem_append.mpr (.inr hp))
  intro p hp
  rcases List.mem_cons.mp hp with rfl | hp
  · exact hT
  · rcases List.mem_cons.mp hp with rfl | hp
    · exact hD
    · exact hn p (List.mem_append.mpr (.inl hp))
end
section
variable {prog : Program} {w : World} {A : Around} {E : Value → Shared → Prop} {s : Shared} {h₀ : Heap} {L D b : Addr} {m : Str → Option Value} {news news' : List (Addr × Obj)} {its its2 : List Value} {n n2 : Nat}
theorem mem_push {all : List (Addr × Obj)} {ys : List Value} {v : Value} {c : Nat} (h : (D, listOf (ys.toArray.push v) c) ∈ all) : (D, listOf (ys ++ [v]).toArray c) ∈ all := by
  rw [List.push_toArray] at h; exact h
/-- «+=» of two lists runs list.__iadd__ -/
theorem inplace_list {M : Model} {Q : Value → Shared → Prop} {u v : Value} (ha : s.TypeIs u "list") (hb : s.TypeIs v "list") (hc : wpAny M A (call (.builtin "list.__iadd__") [u, v]) Q E s) : wpAny M A (inplaceOp .Add u v) Q E s := by
  unfold inplaceOp
  refine wpAny_holding ?_
  have hq : isSeqSlot (some (.builtin "list.__iadd__")) = true := by decide +kernel
  have hfi : fillsInplaceSlot (.type "list") "add" (Operator.Add == .Add) = pure false := by
    unfold fillsInplaceSlot
    show (typeLookup (.type "list") (dunderI "add") >>= fun fi => pure (fi.isSome && !isSeqSlot fi)) = pure false
    rw [PySem.F.slot_list_iadd.lookup]
    show (pure ((some (Value.builtin "list.__iadd__")).isSome && !isSeqSlot (some (.builtin "list.__iadd__"))) : Sem Bool) = pure false
    rw [hq]; rfl
  have hsi : seqSlot? (.type "list") (dunderI "add") = pure (some (.builtin "list.__iadd__")) := by
    unfold seqSlot?
    rw [PySem.F.slot_list_iadd.lookup]
    simp only [pure_bind, hq, Bool.not_true, Bool.false_eq_true, if_false]
  refine wpAny_bind (wpAny_typeOf ha (wpAny_bind (wpAny_of_eq hfi ?_)))
  show wpAny M A (if false = true then _ else _) Q E s
  rw [if_neg Bool.false_ne_true]
  refine wpAny_bind (wpAny_binaryOp1_none (nm := "add") ha hb noFill_list_add ?_)
  refine wpAny_bind (wpAny_of_eq hsi ?_)
  exact wpAny_bind (wpAny_rule hc)
theorem iadd_list {Q : Value → Shared → Prop} (F : Fr h₀ L s.heap m) (N : News h₀ L s.heap news) (hb : (b, listOf its2.toArray n2) ∈ news) (hne : its2.length ≠ 0)
    (U : Upd D (listOf its.toArray n) (listOf (its ++ its2).toArray (n + 1)) news news') (hz : its.length + its2.length ≤ 1000)
    (h : ∀ h', Fr h₀ L h' m → News h₀ L h' news' → Q (.ref D) { s with heap := h' }) : wpAny (model prog w) A (inplaceOp .Add (.ref D) (.ref b)) Q E s := by
  obtain ⟨pre, post, rfl, rfl, a, c⟩ := U.split
  have z := N (D, listOf its.toArray n) (List.mem_append.mpr (.inr (.head _)))
  have zb := (N _ hb).1
  refine inplace_list ⟨_, z.1, rfl⟩ ⟨_, zb, rfl⟩ ?_
  have hsz : sizeLine = 16777216 := sizeLine_eq
  refine call_meets PySem.F.slot_list_iadd ⟨_, z.1, rfl⟩ PySem.F.entry_list_iadd (PySem.F.args_list_iadd_2 _ _) (PySem.AutoSeq1.list___iadd___list_list_0 D its.toArray n b its2.toArray n2 ?_ ?_ ?_) ⟨z.1, zb, h _ (F.change (Heap.SameBut.update ..) z.2.1 z.2.2) (kl_turn _ N a c ?_ ?_)⟩
  · have e : Builtin.List.listTooLong (its.toArray.size + its2.toArray.size) = false := by
      simp only [Builtin.List.listTooLong, List.size_toArray, decide_eq_false_iff_not]; omega
    rw [e]; simp
  · rw [List.size_toArray]; omega
  · rw [List.size_toArray, List.size_toArray]; omega
  · simp
  · simp only [List.size_toArray, List.length_append]; omega
end
end PartL396
section PartG396
local macro_rules | `(tactic| walk_at "none such 0") => `(tactic| fail)
theorem ne_of_all {news : List (Addr × Obj)} {D : Addr} (h : ∀ p ∈ news, p.1 < D) : ∀ p ∈ news, p.1 ≠ D := fun p hp => Nat.ne_of_lt (h p hp)
local macro_rules | `(tactic| k_mem) => `(tactic| assumption)
local macro_rules | `(tactic| k_all) => `(tactic| assumption)
local macro_rules | `(tactic| k_memK) => `(tactic| assumption)
local macro_rules | `(tactic| walk_at "call ref cons nil") => `(tactic| (k_here; k_dflt (first
  | (refine' further_claim _ _ _ _ _ _ _ _ _ _ _ _ _ _ _ _ _ _ _ _ _ _ _ _ _ _ ?k1 ?k2 ?k3 ?k4 ?k5 ?kK ?kd ?ku ?_; (case k1 => k_asm); (case k2 => k_asm); (case k3 => k_asm); (case k4 => k_asm); (case k5 => k_asm); (case kK => exact rfl); (case kd => ktr_room); (case ku => ktr_units); intro t9 h9 tk9 F9 N9; (try dsimp only); (try k_fold); (try k_sweep))
  | (refine' first_claim _ _ _ _ _ _ _ _ _ _ _ _ _ _ _ _ _ _ _ _ _ _ _ _ _ _ ?k1 ?k2 ?k3 ?k4 ?k5 ?kK ?kd ?ku ?_; (case k1 => k_asm); (case k2 => k_asm); (case k3 => k_asm); (case k4 => k_asm); (case k5 => k_asm); (case kK => exact rfl); (case kd => ktr_room); (case ku => ktr_units); intro t9 h9 tk9 F9 N9; (try dsimp only); (try k_fold); (try k_sweep)))))
local macro_rules | `(tactic| walk_at "inplaceOp Add ref ref") => `(tactic| (k_here; k_dflt ((refine' iadd_list ?F ?N ?b ?e ?U ?z ?_; (case F => k_asm); (case N => k_asm); (case b => k_mem); (case e => exact Nat.succ_ne_zero _); (case U => k_upd); (case z => ((have q9 := IntsAre.length (by assumption)); (simp only [List.length_cons, List.length_nil]); omega)); k_whole)); intro h' F' N'; (try dsimp only at N'); (try k_sweep)))
set_option maxRecDepth 100000 in
set_option maxHeartbeats 8000000 in
theorem plain_claim (w : World) (news : List (Addr × Obj)) (l : Addr) (vs : List Value) (ns : List Int) (nn : Nat) (hm : (l, listOf vs.toArray nn) ∈ news) (hi : IntsAre vs ns) (hb : ∀ k ∈ ns, 0 ≤ k ∧ k < 100) (hn : ns.length ≤ 40) :
    Asks w 2 57 news [.ref l] (fun Q => ∀ D ys c, IntsAre ys (ns.foldl pstep ([], false)).1 → (∀ p ∈ news, p.1 < D) → Q (.ref D) ((D, listOf ys.toArray c) :: news)) := by
  k_with_none
  w_top off
  k_with "pyIter ref" => k_dflt (refine' two_loop pstep (Str.ofString "told") (Str.ofString "begun") (by rfl) hm hi ?kF ?kN ?kTD ?kD ?k1 ?k2 pstep_len ?_ ?_; (case kF => k_asm); (case kN => k_asm); (case kTD => k_ne); (case kD => exact ne_of_all (by assumption)); (case k1 => rfl); (case k2 => rfl); (all_goals first | (intro ys c told begun n t h tk own hmem hys hlen hTD hoff F2 N2; (try dsimp only); (try k_fold)) | (intro ys c u h tk hys F2 N2; (try dsimp only))))
  unfold Asks
  k_fill
  intros
  rename_i hret
  dsimp only at hret
  refine wpAny_call ?_
  first | k_dflt cell_enter | fail "enter"
  k_steps
  all_goals first
    | exact hret _ _ _ (by assumption) (by assumption) _ _ (by k_asm) (cb_drop (by k_asm) fun p hp => List.mem_cons_of_mem _ hp)
    | refine two_end (by k_asm) (by k_asm) hys (p_blank (by assumption)) rfl rfl (by intro z h1 h2 h3; simp only [if_neg h1, if_neg h2, if_neg h3]) (.head _) (.tail _ (.head _)) (fun p hp => .tail _ (.tail _ hp))
    | refine two_end (by k_asm) (by k_asm) (IntsAre.append hys (.cons _ _ .nil)) (p_more (by assumption) (by assumption)) rfl rfl (by intro z h1 h2 h3; simp only [if_neg h1, if_neg h2, if_neg h3]) (.head _) (mem_push (.tail _ (.head _))) (fun p hp => .tail _ (.tail _ hp))
    | refine two_end (by k_asm) (by k_asm) (IntsAre.append hys (.cons _ _ (.cons _ _ .nil))) (p_next (by assumption) (by assumption) (by assumption)) rfl rfl (by intro z h1 h2 h3; simp only [if_neg h1, if_neg h2, if_neg h3]) (.tail _ (.head _)) (.tail _ (.tail _ (.head _))) (fun p hp => .tail _ (.tail _ (.tail _ hp)))
    | refine two_end (by k_asm) (by k_asm) (IntsAre.append hys (.cons _ _ .nil)) (p_front (by assumption) (by assumption) (by assumption)) rfl rfl (by intro z h1 h2 h3; simp only [if_neg h1, if_neg h2, if_neg h3]) (.tail _ (.head _)) (.tail _ (.tail _ (.head _))) (fun p hp => .tail _ (.tail _ (.tail _ hp)))
    | fail "END"
set_option maxRecDepth 100000 in
set_option maxHeartbeats 8000000 in
theorem marked_claim (w : World) (news : List (Addr × Obj)) (l : Addr) (vs : List Value) (ns : List Int) (nn : Nat) (hm : (l, listOf vs.toArray nn) ∈ news) (hi : IntsAre vs ns) (hn : ns.length ≤ 40) (mk : Int) (u : Tok) :
    Asks w 2 64 news [.ref l, .int mk u] (fun Q => ∀ D ys c, IntsAre ys (ns.foldl (mstep mk) ([], false)).1 → (∀ p ∈ news, p.1 < D) → Q (.ref D) ((D, listOf ys.toArray c) :: news)) := by
  k_with_none
  w_top off
  k_with "pyIter ref" => k_dflt (refine' two_loop (mstep mk) (Str.ofString "told") (Str.ofString "begun") (by rfl) hm hi ?kF ?kN ?kTD ?kD ?k1 ?k2 (mstep_len mk) ?_ ?_; (case kF => k_asm); (case kN => k_asm); (case kTD => k_ne); (case kD => exact ne_of_all (by assumption)); (case k1 => rfl); (case k2 => rfl); (all_goals first | (intro ys c told begun n t h tk own hmem hys hlen hTD hoff F2 N2; (try dsimp only); (try k_fold)) | (intro ys c u h tk hys F2 N2; (try dsimp only))))
  unfold Asks
  k_fill
  intros
  rename_i hret
  dsimp only at hret
  refine wpAny_call ?_
  first | k_dflt cell_enter | fail "enter"
  k_steps
  all_goals first
    | exact hret _ _ _ (by assumption) (by assumption) _ _ (by k_asm) (cb_drop (by k_asm) fun p hp => List.mem_cons_of_mem _ hp)
    | refine two_end (by k_asm) (by k_asm) (IntsAre.append hys (.cons _ _ .nil)) (m_mark (by assumption)) rfl rfl (by intro z h1 h2 h3; simp only [if_neg h1, if_neg h2, if_neg h3]) (.head _) (mem_push (.tail _ (.head _))) (fun p hp => .tail _ (.tail _ hp))
    | refine two_end (by k_asm) (by k_asm) (IntsAre.append hys (.cons _ _ .nil)) (m_more (by assumption) (by assumption)) rfl rfl (by intro z h1 h2 h3; simp only [if_neg h1, if_neg h2, if_neg h3]) (.head _) (mem_push (.tail _ (.head _))) (fun p hp => .tail _ (.tail _ hp))
    | refine two_end (by k_asm) (by k_asm) (IntsAre.append hys (.cons _ _ .nil)) (m_first (by assumption) (by assumption)) rfl rfl (by intro z h1 h2 h3; simp only [if_neg h1, if_neg h2, if_neg h3]) (.head _) (mem_push (.tail _ (.head _))) (fun p hp => .tail _ (.tail _ hp))
    | fail "END"
end PartG396
section PartM396
namespace MF
theorem slot_map_init : Slot "map" "__init__" "object.__init__" :=
  .of (owner := "object") (n := "__init__") (by rw [typeLookup_type, builtinLookup_eq_fast]; kernel_rfl) (by decide +kernel) (by decide +kernel) (by decide +kernel)
    (by first | exact .inl (by decide +kernel) | exact .inr (by decide +kernel)) (by rw [isSubtype_type]; kernel_rfl)
theorem slot_map_iter : Slot "map" "__iter__" "map.__iter__" :=
  .of (owner := "map") (n := "__iter__") (by rw [typeLookup_type, builtinLookup_eq_fast]; kernel_rfl) (by decide +kernel) (by decide +kernel) (by decide +kernel)
    (by first | exact .inl (by decide +kernel) | exact .inr (by decide +kernel)) (by rw [isSubtype_type]; kernel_rfl)
theorem slot_map_next : Slot "map" "__next__" "map.__next__" :=
  .of (owner := "map") (n := "__next__") (by rw [typeLookup_type, builtinLookup_eq_fast]; kernel_rfl) (by decide +kernel) (by decide +kernel) (by decide +kernel)
    (by first | exact .inl (by decide +kernel) | exact .inr (by decide +kernel)) (by rw [isSubtype_type]; kernel_rfl)
theorem entry_map_iter : entryFor table "map.__iter__" = some Builtin.«dict_keyiterator.__iter__» :=
  entryFor_alias (id' := "dict_keyiterator.__iter__") (by rw [fastTable_eq_tree]; kernel_rfl) (by decide +kernel) (by decide +kernel) (by rw [fastTable_eq_tree]; kernel_rfl)
theorem entry_map_next : entryFor table "map.__next__" = some Builtin.«map.__next__» := entryFor_of_tree (by kernel_rfl)
theorem entry_map_new : entryFor table "map.__new__" = some Builtin.«map.__new__» := entryFor_of_tree (by kernel_rfl)
theorem owner_map : Manifest.owners.lookup (String.ofList ['p', 'a', 'm'].reverse) = some Manifest.sig_map := by kernel_rfl
theorem args_map_next (a : Value) : argsOk "map.__next__" ⟨[a], []⟩ := by
  unfold argsOk; rw [signature?_of (id := "map.__next__") (n := ['_', '_', 't', 'x', 'e', 'n', '_', '_']) (o := ['p', 'a', 'm']) (by kernel_rfl) owner_map]; kernel_rfl
theorem args_map_iter (a : Value) : argsOk "map.__iter__" ⟨[a], []⟩ := by
  unfold argsOk; rw [signature?_of (id := "map.__iter__") (n := ['_', '_', 'r', 'e', 't', 'i', '_', '_']) (o := ['p', 'a', 'm']) (by kernel_rfl) owner_map]; kernel_rfl
theorem mro_map : mroOf (.type "map") = pure [.type "map", .type "object"] := by rw [mroOf_type]; kernel_rfl
theorem lookup_map_new : typeLookup (.type "map") "__new__" = pure (some (.builtin "map.__new__")) := by rw [typeLookup_type, builtinLookup_eq_fast]; kernel_rfl
theorem called_map : TypeCalled "map" "map.__new__" "object.__init__" :=
  ⟨by decide +kernel, by decide +kernel, ⟨_, _, mro_map⟩, madeBy_type mro_map lookup_map_new (by decide +kernel), by decide +kernel, by rw [isSubtype_type]; kernel_rfl, slot_map_init⟩
theorem typeCall_map (a b : Value) : checkTypeCall "map" ⟨[a, b], []⟩ = pure () := by kernel_rfl
theorem newCall_map (a b : Value) : checkBuiltinCall "map.__new__" ⟨[.type "map", a, b], []⟩ = pure () := by
  unfold checkBuiltinCall
  rw [signature?_of (id := "map.__new__") (n := ['_', '_', 'w', 'e', 'n', '_', '_']) (o := ['p', 'a', 'm']) (by kernel_rfl) owner_map]
  kernel_rfl
theorem sub_map : isSubtype (.type "map") (.type "map") = pure true := by rw [isSubtype_type]; kernel_rfl
theorem map_no_len : typeLookup (.type "map") "__len__" = pure none := by rw [typeLookup_type, builtinLookup_eq_fast]; kernel_rfl
theorem map_no_hint : typeLookup (.type "map") "__length_hint__" = pure none := by rw [typeLookup_type, builtinLookup_eq_fast]; kernel_rfl
end MF
end PartM396
section PartM2
/-- a map object of str.capitalize over one iterator -/
abbrev IsMap (h : Heap) (z TI : Addr) : Prop := h.get? z = some { cls := .type "map", dict := none, data := .fields #[.ref TI, .builtin "str.capitalize"], slots := #[] }
abbrev IsOne (h : Heap) (T : Addr) (a : Value) : Prop := h.get? T = some { cls := .type "tuple", data := .seq #[a] }
section
variable {prog : Program} {w : World} {A : Around} {E : Value → Shared → Prop} {s : Shared}
theorem map_next_item {z TI it l : Addr} {i : Nat} {items : Array Value} {x : Str} {t : Tok} {Q : Value → Shared → Prop} (hz : IsMap s.heap z TI) (hTI : IsOne s.heap TI (.ref it)) (hit : s.heap.IsListIter it l i) (hl : s.heap.IsList l items)
    (hx : items[i]? = some (.str x t)) (hf : x.length ≤ 5592405) (hzi : z ≠ it)
    (hQ : ∀ h' t' k, h'.IsListIter it l (i + 1) → Heap.SameBut it s.heap h' → Q (.str (Txt.capitalize x) t') { s with heap := h', toks := k }) :
    wpAny (model prog w) A (Builtin.«map.__next__» ⟨[.ref z], []⟩) (fun fin s' => ∃ v, fin = .done (.ret v) ∧ Q v s') E s := by
  show wpAny _ _ (field (.ref z) 0 >>= _) _ _ _
  refine wpAny_bind (wpAny_field hz rfl (x := .ref TI) rfl ?_)
  refine wpAny_bind (wpAny_seqItems hTI rfl ?_)
  dsimp only
  refine wpAny_bind ?_
  rw [← Array.forIn_toList]
  simp only [List.forIn_cons, List.forIn_nil]
  refine wpAny_bind (wpAny_bind (wpAny_holding (wpAny_nextOf_list_item hit hl hx fun h₁ hit₁ hs₁ => wpAny_pure ?_)))
  refine wpAny_pure ?_
  have hz₁ : IsMap h₁ z TI := (hs₁.2 z hzi).trans hz
  refine wpAny_bind (wpAny_field hz₁ rfl (x := .builtin "str.capitalize") rfl ?_)
  refine wpAny_bind (wpAny_holding (SCL.capitalize hf fun t' k _ => ?_))
  exact wpAny_bind (wpAny_letGo (wpAny_pure ⟨_, rfl, hQ h₁ t' k hit₁ hs₁⟩))
theorem map_next_end {z TI it l : Addr} {i : Nat} {items : Array Value} {Q : Fin → Shared → Prop} (hh : A.handled = none) (hz : IsMap s.heap z TI) (hTI : IsOne s.heap TI (.ref it)) (hit : s.heap.IsListIter it l i) (hl : s.heap.IsList l items)
    (hx : items[i]? = none) (hE : ∀ h' e, Heap.ExtBut it s.heap h' → (∃ o, h'.get? e = some o ∧ o.cls = .type "StopIteration") → E (.ref e) { s with heap := h' }) :
    wpAny (model prog w) A (Builtin.«map.__next__» ⟨[.ref z], []⟩) Q E s := by
  show wpAny _ _ (field (.ref z) 0 >>= _) _ _ _
  refine wpAny_bind (wpAny_field hz rfl (x := .ref TI) rfl ?_)
  refine wpAny_bind (wpAny_seqItems hTI rfl ?_)
  dsimp only
  refine wpAny_bind ?_
  rw [← Array.forIn_toList]
  simp only [List.forIn_cons, List.forIn_nil]
  exact wpAny_bind (wpAny_bind (wpAny_holding (wpAny_nextOf_list_end hh hit hl hx hE)))
theorem pyNext_map_item {z TI it l : Addr} {i : Nat} {items : Array Value} {x : Str} {t : Tok} {Q : Option Value → Shared → Prop} (hz : IsMap s.heap z TI) (hTI : IsOne s.heap TI (.ref it)) (hit : s.heap.IsListIter it l i) (hl : s.heap.IsList l items)
    (hx : items[i]? = some (.str x t)) (hf : x.length ≤ 5592405) (hzi : z ≠ it)
    (hQ : ∀ h' t' k, h'.IsListIter it l (i + 1) → Heap.SameBut it s.heap h' → Q (some (.str (Txt.capitalize x) t')) { s with heap := h', toks := k }) :
    wpAny (model prog w) A (pyNext (.ref z)) Q E s := by
  have hT : s.TypeIs (.ref z) "map" := ⟨_, hz, rfl⟩
  unfold pyNext
  exact wpAny_bind (wpAny_attempt (wpAny_callSpecial?_slot (name := Str.ofString "__next__") hT MF.slot_map_next
    (wpAny_call_entry MF.slot_map_next hT MF.entry_map_next
      (map_next_item hz hTI hit hl hx hf hzi fun h' t' k a b => wpAny_pure (hQ h' t' k a b)) (MF.args_map_next _))))
theorem pyNext_map_end {z TI it l : Addr} {i : Nat} {items : Array Value} {Q : Option Value → Shared → Prop} (hh : A.handled = none) (hz : IsMap s.heap z TI) (hTI : IsOne s.heap TI (.ref it)) (hit : s.heap.IsListIter it l i) (hl : s.heap.IsList l items)
    (hx : items[i]? = none) (hQ : ∀ h', Heap.ExtBut it s.heap h' → Q none { s with heap := h' }) : wpAny (model prog w) A (pyNext (.ref z)) Q E s := by
  have hT : s.TypeIs (.ref z) "map" := ⟨_, hz, rfl⟩
  unfold pyNext
  refine wpAny_bind (wpAny_attempt (wpAny_callSpecial?_slot (name := Str.ofString "__next__") hT MF.slot_map_next
    (wpAny_call_entry MF.slot_map_next hT MF.entry_map_next ?_ (MF.args_map_next _))))
  refine map_next_end hh hz hTI hit hl hx fun h' x he' hx' => ?_
  obtain ⟨o, ho, hc⟩ := hx'
  refine wpAny_bind (wpAny_isInstance (T := "StopIteration") (b := true) ⟨o, ho, hc⟩ isSubtype_stop ?_)
  exact wpAny_pure (hQ _ he')
theorem pyIter_map {z TI : Addr} {Q : Value → Shared → Prop} (hz : IsMap s.heap z TI) (h : Q (.ref z) s) : wpAny (model prog w) A (pyIter (.ref z)) Q E s := by
  have hT : s.TypeIs (.ref z) "map" := ⟨_, hz, rfl⟩
  refine wpAny_pyIter_slot hT MF.slot_map_iter (wpAny_call_entry MF.slot_map_iter hT MF.entry_map_iter ?_ (MF.args_map_iter _))
  show wpAny _ _ (ret (.ref z)) _ _ s
  exact wpAny_pure ⟨_, rfl, "map", _, hT, MF.slot_map_next.lookup, h⟩
end
/-- walking a map of str.capitalize over a list of texts -/
theorem walks_map {prog : Program} {w : World} {A : Around} (hh : A.handled = none) (z TI it ax : Addr) (h1 : z ≠ it) (h2 : TI ≠ it) (h3 : ax ≠ it) (items : Array Value) (xs : List Str)
    (hs : ∀ i, i < items.size → ∃ x t, items[i]? = some (.str x t) ∧ xs[i]? = some x ∧ x.length ≤ 5592405) :
    Walks prog w A z [z, TI, it, ax] [it] items.size (fun i v => ∃ x t, xs[i]? = some x ∧ v = .str (Txt.capitalize x) t) (fun i h => IsMap h z TI ∧ IsOne h TI (.ref it) ∧ h.IsListIter it ax i ∧ h.IsList ax items) where
  sub := fun b hb => by simp at hb; simp [hb]
  frame := fun _ _ _ st hk => ⟨hk z (by simp) _ st.1, hk TI (by simp) _ st.2.1, st.2.2.1.at fun o e => hk it (by simp) o e, st.2.2.2.at fun o e => hk ax (by simp) o e⟩
  item := fun i s Q E hi st hQ => by
    obtain ⟨x, t, hx, hxs, hf⟩ := hs i hi
    refine pyNext_map_item st.1 st.2.1 st.2.2.1 st.2.2.2 hx hf h1 fun h' t' k hit' hs' => ?_
    exact hQ _ h' k ⟨x, t', hxs, rfl⟩ ⟨hs'.extBut _ _ h1 st.1, hs'.extBut _ _ h2 st.2.1, hit', st.2.2.2.extBut hs'.extBut h3⟩ fun b o hb e => hs'.extBut b o (fun h => hb (by simp [h])) e
  done := fun s Q E st hQ => pyNext_map_end hh st.1 st.2.1 st.2.2.1 st.2.2.2 (by simp) fun h' he' => hQ h' s.toks fun b o hb e => he' b o (fun h => hb (by simp [h])) e
  self := fun _ _ _ _ st hQ => pyIter_map st.1 hQ
end PartM2
section PartM3
section
variable {prog : Program} {w : World} {A : Around} {E : Value → Shared → Prop} {s : Shared} {I : Addr} {fp wr : List Addr} {G : Array GenState → Array GenState → Prop} {n : Nat} {P : Nat → Value → Prop} {St : Nat → Shared → Prop}
theorem collect_map {Q : List Value → Shared → Prop} (W : WalksS prog w A.in1 I fp wr G n P St) (hT : ∀ i s, St i s → s.TypeIs (.ref I) "map") (hst : St 0 s) (hfp : ∀ b ∈ fp, b < s.heap.objs.size) (hI : I ∈ fp)
    (hQ : ∀ s' acc, Moved wr G s s' → ItemsOf P acc n → Q acc.toList s') (hn : n ≤ sizeLine) : wpAny (model prog w) A (collect (.ref I)) Q E s := by
  have hSf : s.heap.objs.size ∉ fp := fun hm => Nat.lt_irrefl _ (hfp _ hm)
  have hSI : s.heap.objs.size ≠ I := fun e => hSf (e ▸ hI)
  unfold collect
  refine wpAny_bind (wpAny_runValue (codeAny_builtin F.entry_proto_collect ?_))
  rw [Around.under_plainId F.plain_proto_collect _]
  show wpAny _ A.in1 (newList [] >>= fun l => again (.builtin "list.__iadd__" ⟨[l, .ref I], []⟩)) _ _ s
  refine wpAny_bind (wpAny_newObj_type ?_)
  refine wpAny_pure ⟨plainId_quiet F.plain_list_iadd _, codeAny_builtin F.entry_list_iadd ?_⟩
  rw [Around.under_plainId F.plain_list_iadd _]
  have hst₁ := W.frame 0 s (s.heap.push { cls := .type "list", data := .seq ([] : List Value).toArray }) s.toks hst (Nat.le_refl _) fun b _ o e => Heap.get?_push_of_some _ e
  have hS₁ : (s.heap.push { cls := .type "list", data := .seq ([] : List Value).toArray }).get? s.heap.objs.size = some { cls := .type "list", data := .seq ([] : List Value).toArray } := Heap.get?_push_size _ rfl
  have h1 : Builtin.List.listSameRef (.ref s.heap.objs.size) (.ref I) = false := by simp [Builtin.List.listSameRef, hSI]
  show wpAny _ A.in1 (Builtin.List.listExtendWith (.ref s.heap.objs.size) (.ref I) (.ref s.heap.objs.size)) _ _ _
  unfold Builtin.List.listExtendWith
  refine wpAny_bind (wpAny_typeOf (hT 0 _ hst₁) ?_)
  rw [if_neg (by rw [h1]; decide)]
  refine wpAny_bind (W.self 0 _ _ _ hst₁ ?_)
  refine wpAny_bind (wpAny_holding ?_)
  unfold Builtin.List.listLengthHint
  refine wpAny_bind (wpAny_specialOf (hT 0 _ hst₁) MF.map_no_len ?_)
  show wpAny _ A.in1 (specialOf (Value.ref I) (Str.ofString "__length_hint__") >>= _) _ _ _
  refine wpAny_bind (wpAny_specialOf (hT 0 _ hst₁) MF.map_no_hint ?_)
  refine wpAny_pure ?_
  show wpAny _ A.in1 (rule "list.extend.makes-room" >>= fun _ => Builtin.List.listTouch (.ref s.heap.objs.size) >>= fun _ =>
    again (.builtin "list.extend.loop" ⟨[.ref s.heap.objs.size, .ref I, .ref s.heap.objs.size], []⟩)) _ _ _
  refine wpAny_bind (wpAny_rule ?_)
  refine wpAny_bind ?_
  show wpAny _ A.in1 (updateSeq s.heap.objs.size (·.push .none) >>= fun _ => updateSeq s.heap.objs.size (·.pop)) _ _ _
  refine wpAny_bind (wpAny_updateSeq hS₁ rfl ?_)
  have hS₂ := Heap.get?_update_self (Obj.mapSeq (·.push Value.none)) hS₁ rfl
  refine wpAny_updateSeq hS₂ rfl ?_
  have hS₃ := Heap.get?_update_self (Obj.mapSeq (·.pop)) hS₂ rfl
  have oth : ∀ b o, b ≠ s.heap.objs.size → (s.heap.push { cls := .type "list", data := .seq ([] : List Value).toArray }).get? b = some o →
      (((s.heap.push { cls := .type "list", data := .seq ([] : List Value).toArray }).update s.heap.objs.size (Obj.mapSeq (·.push Value.none))).update s.heap.objs.size (Obj.mapSeq (·.pop))).get? b = some o :=
    fun b o hb e => (Heap.get?_update_other _ _ (Ne.symm hb)).trans ((Heap.get?_update_other _ _ (Ne.symm hb)).trans e)
  refine wpAny_pure ⟨plainId_quiet F.plain_extend_loop _, codeAny_extend_loopS W hn _ hSf _ n 0 _ _ _ rfl (Nat.zero_le _)
    (W.frame 0 ({ s with heap := s.heap.push { cls := .type "list", data := .seq ([] : List Value).toArray } } : Shared) _ s.toks hst₁ (Nat.le_refl _) fun b hb o e => oth b o (fun h => hSf (h ▸ hb)) e) hS₃ (ItemsOf.nil P) fun s' acc' c' hm hS' hacc => ?_⟩
  show wpAny _ A (load s.heap.objs.size >>= _) _ _ s'
  refine wpAny_bind (wpAny_load hS' ?_)
  refine wpAny_pure (hQ s' acc' (Moved.drop_new (o := { cls := .type "list", data := .seq ([] : List Value).toArray }) (tk := s.toks) (Moved.trans W.gtrans ((Moved.refl W.grefl).then_heap (Nat.le_refl _) fun b o hb e => ?_) hm) (Nat.le_refl _)) hacc)
  exact oth b o (fun h => hb (h ▸ List.mem_cons_self)) e
theorem join_map {x : Str} {t : Tok} {Q : Value → Shared → Prop} (W : WalksS prog w A.in1.in1 I fp wr G n P St) (hT : ∀ i s, St i s → s.TypeIs (.ref I) "map") (hst : St 0 s) (hfp : ∀ b ∈ fp, b < s.heap.objs.size) (hI : I ∈ fp)
    (hstr : ∀ i v, P i v → ∃ y u, v = Value.str y u)
    (hq : ∀ s' (l : List (Str × Tok)), Moved wr G s s' → ItemsOf P (strValues l).toArray n → JoinOk x (l.map (·.1)) = true ∧ ∀ t' k, Q (.str (Txt.join x (l.map (·.1))) t') { s' with toks := k })
    (hsz : n ≤ sizeLine) :
    wpAny (model prog w) A (call (.builtin "str.join") [.str x t, .ref I]) Q E s := by
  refine wpAny_call (codeAny_call_builtin F.slot_str_join.plain F.entry_str_join (F.slot_str_join.check _ _ _ _ _ _ _ _ (typeIs_str _ _ _) (F.args_str_join_2 _ _) ?_))
  rw [join_tree_other]
  refine wpAny_bind (wpAny_typeOf (hT 0 s hst) ?_)
  show wpAny _ A.in1 ((pyIter (.ref I)).tryCatch _ >>= fun it => collect it >>= fun items => joinTail x items) _ _ s
  refine wpAny_bind (wpAny_tryCatch (W.of_in1.self 0 s _ _ hst ?_))
  refine wpAny_bind (collect_map W hT hst hfp hI (fun s' acc hm hacc => ?_) hsz)
  obtain ⟨l, hl⟩ := exists_strValues acc.toList fun v hv => by
    obtain ⟨j, hj, rfl⟩ := Array.mem_iff_getElem.mp (Array.mem_toList_iff.mp hv)
    exact hstr j _ (hacc.2 j _ (Array.getElem?_eq_getElem hj))
  rw [← hl]
  have hacc' : ItemsOf P (strValues l).toArray n := by rw [hl]; simpa using hacc
  obtain ⟨hok, hpost⟩ := hq s' l hm hacc'
  unfold JoinOk at hok
  rw [Bool.not_eq_true'] at hok
  have g : Gives (joinTail x (strValues l)) (joinMade x l) := by
    have g0 := gives_joinTail x l hok
    cases l with
    | nil => exact g0
    | cons p r => cases r with
      | nil => exact g0
      | cons q r' => exact g0
  exact g prog w A (wants Q E) s' (post_join l ⟨joinFit_length hok, hpost⟩)
end
end PartM3
section PartM4
open PySem.AutoSeq1 (wpAny_loadPart')
abbrev oIter (l : Addr) : Obj := { cls := .type "list_iterator", data := .fields #[.ref l, .int 0 0] }
abbrev oOne (a : Addr) : Obj := { cls := .type "tuple", data := .seq #[.ref a] }
abbrev oMap (a : Addr) : Obj := { cls := .type "map", data := .fields #[.ref a, .builtin "str.capitalize"] }
abbrev mapHeap (h : Heap) (l : Addr) : Heap := ((h.push (oIter l)).push (oOne h.objs.size)).push (oMap (h.push (oIter l)).objs.size)
theorem meets_map_new (l : Addr) (items : Array Value) (n : Nat) (dct : Option Addr) (sl : Array (Option Value)) :
    Meets (Builtin.«map.__new__» ⟨[.type "map", .builtin "str.capitalize", .ref l], []⟩) (fun _ R s => s.heap.get? l = some { cls := .type "list", dict := dct, data := .seq items n, slots := sl } ∧
      R (.ok (.ret (.ref ((s.heap.push (oIter l)).push (oOne s.heap.objs.size)).objs.size))) { s with heap := mapHeap s.heap l }) :=
  .of_wp fun prog w A R s h => by
    obtain ⟨hp, g, d, tk, os⟩ := s; obtain ⟨hl, h⟩ := h
    have hsub := MF.sub_map
    have hL : Heap.IsList (Shared.heap ⟨hp, g, d, tk, os⟩) l items := ⟨_, hl, rfl, n, rfl⟩
    wp_walk using wpAny_loadPart' hl, wpAny_pyIter_list hL
    exact ⟨_, rfl, h⟩
section
variable {prog : Program} {w : World} {A : Around} {E : Value → Shared → Prop} {s : Shared} {h₀ : Heap} {L : Addr} {m : Str → Option Value} {news : List (Addr × Obj)}
theorem call_map {l : Addr} {items : Array Value} {Q : Value → Shared → Prop} (hL : s.heap.IsList l items) (h : Q (.ref (s.heap.objs.size + 2)) { s with heap := mapHeap s.heap l }) :
    wpAny (model prog w) A (call (.type "map") [.builtin "str.capitalize", .ref l]) Q E s := by
  obtain ⟨⟨c, dct, dt, sl⟩, hl, hc, n, hd⟩ := hL
  replace hc : c = .type "list" := hc
  replace hd : dt = .seq items n := hd
  subst hc hd
  refine callType_new MF.called_map (by decide) (MF.typeCall_map _ _) (MF.newCall_map _ _) (fun obj => F.args_object_init_3 obj _ _) MF.entry_map_new (meets_map_new l items n dct sl) ⟨hl, ?_⟩
  have hz : ((s.heap.push (oIter l)).push (oOne s.heap.objs.size)).objs.size = s.heap.objs.size + 2 := by rw [Heap.size_push, Heap.size_push]
  show _ ∧ _
  rw [hz]
  refine ⟨⟨oMap (s.heap.push (oIter l)).objs.size, ?_, rfl⟩, h⟩
  have := Heap.get?_push_size ((s.heap.push (oIter l)).push (oOne s.heap.objs.size)) (o := oMap (s.heap.push (oIter l)).objs.size) rfl
  rw [hz] at this; exact this
/-- map(str.capitalize, a list): three new objects on the ledger -/
theorem map_K {l : Addr} {items : Array Value} {n : Nat} {Q : Value → Shared → Prop} (Fm : Fr h₀ L s.heap m) (N : News h₀ L s.heap news) (hl : (l, listOf items n) ∈ news)
    (h : ∀ it h', Fr h₀ L h' m → News h₀ L h' ((it + 2, oMap (it + 1)) :: (it + 1, oOne it) :: (it, oIter l) :: news) → (∀ p ∈ news, p.1 < it) → Q (.ref (it + 2)) { s with heap := h' }) :
    wpAny (model prog w) A (call (.type "map") [.builtin "str.capitalize", .ref l]) Q E s := by
  have hL : s.heap.IsList l items := ⟨_, (N _ hl).1, rfl, n, rfl⟩
  refine call_map hL (h s.heap.objs.size _ ?_ ?_ fun p hp => Heap.lt_size (N p hp).1)
  · exact ((Fm.push _).push _).push _
  · have hz1 : (s.heap.push (oIter l)).objs.size = s.heap.objs.size + 1 := Heap.size_push ..
    have hz2 : ((s.heap.push (oIter l)).push (oOne s.heap.objs.size)).objs.size = s.heap.objs.size + 2 := by rw [Heap.size_push, Heap.size_push]
    have hLt : L < s.heap.objs.size := Fm.ns.lt
    have fresh : ∀ a, s.heap.objs.size ≤ a → h₀.get? a = none := fun a ha => Heap.get?_none_of_le (Nat.le_trans (Nat.le_trans Fm.above (Nat.le_of_lt hLt)) ha)
    intro p hp
    rcases List.mem_cons.mp hp with rfl | hp
    · refine ⟨?_, Nat.ne_of_gt (Nat.lt_of_lt_of_le hLt (Nat.le_add_right _ 2)), fresh _ (Nat.le_add_right _ 2)⟩
      have := Heap.get?_push_size ((s.heap.push (oIter l)).push (oOne s.heap.objs.size)) (o := oMap (s.heap.push (oIter l)).objs.size) rfl
      rw [hz2] at this
      show (mapHeap s.heap l).get? _ = some (oMap (s.heap.objs.size + 1))
      rw [← hz1]; exact this
    · rcases List.mem_cons.mp hp with rfl | hp
      · refine ⟨?_, Nat.ne_of_gt (Nat.lt_of_lt_of_le hLt (Nat.le_add_right _ 1)), fresh _ (Nat.le_add_right _ 1)⟩
        have := Heap.get?_push_size (s.heap.push (oIter l)) (o := oOne s.heap.objs.size) rfl
        rw [hz1] at this
        exact Heap.get?_push_of_some _ this
      · rcases List.mem_cons.mp hp with rfl | hp
        · exact ⟨Heap.get?_push_of_some _ (Heap.get?_push_of_some _ (Heap.get?_push_size _ rfl)), Nat.ne_of_gt hLt, fresh _ (Nat.le_refl _)⟩
        · exact ⟨Heap.get?_push_of_some _ (Heap.get?_push_of_some _ (Heap.get?_push_of_some _ (N p hp).1)), (N p hp).2⟩
end
end PartM4
section PartM5
theorem strValues_get : ∀ (ps : List (Str × Tok)) (i : Nat), (strValues ps)[i]? = (ps[i]?).map fun p => Value.str p.1 p.2
  | [], i => by simp [strValues]
  | p :: r, 0 => by simp [strValues]
  | p :: r, i + 1 => by simp [strValues]
theorem strValues_len (ps : List (Str × Tok)) : (strValues ps).length = ps.length := by simp [strValues]
section
variable {prog : Program} {w : World} {A : Around} {E : Value → Shared → Prop} {s : Shared} {h₀ : Heap} {L : Addr} {m : Str → Option Value} {news : List (Addr × Obj)}
theorem join_K {sep : Str} {t : Tok} {it l : Addr} {n : Nat} {ps : List (Str × Tok)} {xs : List Str} {Q : Value → Shared → Prop} (hh : A.handled = none) (Fm : Fr h₀ L s.heap m)
    (N : News h₀ L s.heap ((it + 2, oMap (it + 1)) :: (it + 1, oOne it) :: (it, oIter l) :: news)) (hl : (l, listOf (strValues ps).toArray n) ∈ news) (hlt : ∀ p ∈ news, p.1 < it) (hps : ps.map (·.1) = xs)
    (hx : ∀ x ∈ xs, x.length ≤ 1000) (hn : xs.length ≤ 1000) (hs : sep.length ≤ 10)
    (h : ∀ t' h' k, Fr h₀ L h' m → News h₀ L h' news → Q (.str (Txt.join sep (xs.map Txt.capitalize)) t') { s with heap := h', toks := k }) :
    wpAny (model prog w) A (call (.builtin "str.join") [.str sep t, .ref (it + 2)]) Q E s := by
  have z0 := N _ (.head _)
  have z1 := N _ (.tail _ (.head _))
  have z2 := N _ (.tail _ (.tail _ (.head _)))
  have zl := N _ (.tail _ (.tail _ (.tail _ hl)))
  have hlen : ps.length = xs.length := by rw [← hps, List.length_map]
  have hsz : (strValues ps).toArray.size = xs.length := by rw [List.size_toArray, strValues_len, hlen]
  have key : ∀ i, i < (strValues ps).toArray.size → ∃ x t, (strValues ps).toArray[i]? = some (.str x t) ∧ xs[i]? = some x ∧ x.length ≤ 5592405 := by
    intro i hi
    have hi' : i < ps.length := by rw [hsz, ← hlen] at hi; exact hi
    refine ⟨ps[i].1, ps[i].2, ?_, ?_, ?_⟩
    · rw [List.getElem?_toArray, strValues_get, List.getElem?_eq_getElem hi']; rfl
    · rw [← hps, List.getElem?_map, List.getElem?_eq_getElem hi']; rfl
    · refine Nat.le_trans (hx _ ?_) (by decide)
      rw [← hps]; exact List.mem_map_of_mem (List.getElem_mem hi')
  have W := walks_map (prog := prog) (w := w) (A := A.in1.in1) hh (it + 2) (it + 1) it l (Nat.ne_of_gt (Nat.lt_add_of_pos_right (by decide))) (Nat.ne_of_gt (Nat.lt_succ_self _)) (Nat.ne_of_lt (hlt _ hl)) (strValues ps).toArray xs key
  refine join_map W.toS (fun i u st => ⟨_, st.1, rfl⟩) ⟨z0.1, z1.1, ⟨_, z2.1, rfl, rfl⟩, ⟨_, zl.1, rfl, n, rfl⟩⟩ ?_ (.head _) (fun i v hP => ?_) (fun s' ps' hm hI => ?_) ?_
  · intro b hb
    rcases List.mem_cons.mp hb with rfl | hb
    · exact Heap.lt_size z0.1
    · rcases List.mem_cons.mp hb with rfl | hb
      · exact Heap.lt_size z1.1
      · rcases List.mem_cons.mp hb with rfl | hb
        · exact Heap.lt_size z2.1
        · rw [List.mem_singleton.mp hb]; exact Heap.lt_size zl.1
  · obtain ⟨x, t, _, e⟩ := hP; exact ⟨_, _, e⟩
  · have e : ps'.map (·.1) = xs.map Txt.capitalize := by
      have hl' : ps'.length = xs.length := by
        have := hI.1
        rw [List.size_toArray, strValues_len, hsz] at this; exact this
      apply List.ext_getElem?
      intro i
      rw [List.getElem?_map, List.getElem?_map]
      rcases Nat.lt_or_ge i ps'.length with hi | hi
      · obtain ⟨x, t, hx', e'⟩ := hI.2 i (.str ps'[i].1 ps'[i].2) (by rw [List.getElem?_toArray, strValues_get, List.getElem?_eq_getElem hi]; rfl)
        rw [List.getElem?_eq_getElem hi, hx']
        injection e' with e1 e2
        show some ps'[i].1 = some (Txt.capitalize x)
        rw [e1]
      · rw [List.getElem?_eq_none hi, List.getElem?_eq_none (by omega)]; rfl
    rw [e]
    refine ⟨?_, ?_⟩
    · unfold JoinOk
      rw [Bool.not_eq_true']
      refine StrLaws.joinFits (B := 3000) (fun y hy => ?_) ?_
      · obtain ⟨x, hx', rfl⟩ := List.mem_map.mp hy
        have a := hx x hx'
        have b := len_capitalize x
        omega
      · rw [List.length_map]
        have : xs.length * sep.length ≤ 1000 * 10 := Nat.mul_le_mul hn hs
        have : xs.length * 3000 ≤ 1000 * 3000 := Nat.mul_le_mul hn (Nat.le_refl _)
        omega
    · obtain ⟨h', g', d', t', o'⟩ := s'
      obtain ⟨m1, m2, m3, m4, _⟩ := hm
      have m2 : g' = s.gens := m2
      have m3 : d' = s.drawn := m3
      have m4 : o' = s.os := m4
      subst m2 m3 m4
      intro t'' k
      refine h t'' h' k ?_ ?_
      · exact LCg.fr_but Fm m1 (Ne.symm z2.2.1) z2.2.2
      · refine LCg.news_but (fun p hp => N p (.tail _ (.tail _ (.tail _ hp)))) m1 fun p hp => Nat.ne_of_lt (hlt p hp)
  · rw [hsz, sizeLine_eq]; omega
end
end PartM5
section PartM6
section
variable {prog : Program} {w : World} {A : Around} {E : Value → Shared → Prop} {s : Shared} {K : Frag} {h₀ : Heap} {L : Addr} {m : Str → Option Value}
/-- str.capitalize, read off the type -/
theorem str_attr {expr : Bool} {Q : Value → Shared → Prop} (F : Fr h₀ L s.heap m) (X₀ : K.In h₀)
    (e : findCls K (.type "str") (.type "type") "capitalize" = some (.val (.builtin "str.capitalize")))
    (h : ∀ u, Q (.builtin "str.capitalize") { s with toks := u }) : wpAny (model prog w) A (getAttr (.type "str") "capitalize" expr) Q E s := by
  have X := X₀.keeps F.keep
  have ht : kitMeta "str" = true := by decide +kernel
  have hs : Manifest.isStub "str" = false := by decide +kernel
  have hstub : opaqueClassAbove (.type "str") = pure none := by unfold opaqueClassAbove; dsimp only; rw [hs]; rfl
  have L0 : Looks (model prog w) s.heap (typeOf (.type "str")) (.type "type") := Looks.of_pure (kitMeta_of ht)
  have LO : Looks (model prog w) s.heap (opaqueClassAbove (.type "str")) none := Looks.of_pure hstub
  have hg : findIn K (.type "type") "__getattribute__" = some (some (.builtin "type.__getattribute__")) := type_tga
  refine cls_open X LO L0 hg (looks_hook X (r := none) (by rfl)) (by show subIn K _ _ = _; rfl) e ?_
  show wpAny _ _ (ret (Value.builtin "str.capitalize")) _ _ _
  exact wpAny_pure (handed_on rfl (h _))
end
end PartM6
section PartC396
local macro_rules | `(tactic| walk_at "none such 0") => `(tactic| fail)
local macro_rules | `(tactic| walk_at "none such 1") => `(tactic| fail)
theorem size_of {x : Str} (h : x.length ≤ 100) : x.length + 2 ≤ sizeLine := by rw [sizeLine_eq]; omega
theorem one_ne {y : Str} (h : y.length = 1) : (y.length == 0) = false := by rw [h]; rfl
theorem words_len {x : Str} (h : x.length ≤ 100) : (Txt.words x).length ≤ 1000 := by have := StrLaws.words_weight x; omega
theorem words_in {x : Str} (h : x.length ≤ 100) : ∀ a ∈ Txt.words x, a.length ≤ 1000 := fun a ha => by have := word_short ha; omega
theorem split_len {x y : Str} (h : x.length ≤ 100) : (Txt.split x y).length ≤ 1000 := by
  unfold Txt.split
  split
  · simp
  · split
    · simp
    · rw [length_partsBetween]; have := StrLaws.occ_length_le x y 0 x.length (x.length + 1); omega
theorem split_in {x y : Str} (h : x.length ≤ 100) : ∀ a ∈ Txt.split x y, a.length ≤ 1000 := fun a ha => by have := part_short ha; omega
local macro_rules | `(tactic| k_mem) => `(tactic| assumption)
local macro_rules | `(tactic| cell_enter) => `(tactic| (refine' code_def ?k1 ?k2 ?k3 ?k4 ?k5 ?kA ?kF ?kK ?k6 ?k7 ?k8 ?k9 ?kB ?_ ?c2 ?c3 ?c4 ?c5; (case kA => exact rfl); (case kF => exact rfl); (case kK => assumption); (case k1 => k_asm); (case k2 => k_asm); (case k3 => k_asm); (case k4 => k_asm); (case k5 => k_asm); (case k6 => k_is); (case k7 => k_is); (case k8 => ktr_room); (case k9 => exact binds_K (by k_in) rfl (by k_is) rfl rfl rfl); (case c5 => decide); (case kB => exact locs rfl); (case c2 => exact rfl); (case c3 => exact rfl); (case c4 => exact rfl); k_whole; intro g' L' h' FG' F' N' B' X' T'; (try dsimp only); (try k_lift B'); (try k_fold)))
local macro_rules | `(tactic| walk_at "getAttr type:str true") => `(tactic| (k_here; k_dflt (refine' str_attr ?F ?X ?e ?_; (case F => k_asm); (case X => k_asm); (case e => k_is); intro u9)))
local macro_rules | `(tactic| walk_at "call type:map") => `(tactic| (k_here; k_dflt (refine' map_K ?F ?N ?l ?_; (case F => k_asm); (case N => k_asm); (case l => k_mem); intro it9 h9 F9 N9 l9)))
set_option maxRecDepth 100000 in
set_option maxHeartbeats 8000000 in
theorem cap_claim0 (w : World) (news : List (Addr × Obj)) (x : Str) (t : Tok) (hx : x.length ≤ 100) :
    Asks w 2 22 news [.str x t] (fun Q => ∀ t, Q (.str (Txt.join (Str.ofString " ") ((Txt.words x).map Txt.capitalize)) t) news) := by
  k_with_none
  w_top off
  k_with "call builtin:str.split" => k_dflt (refine' splitN0None (hsz := size_of hx) ?F ?N ?_; (case F => k_asm); (case N => k_asm); intro l9 h9 k9 e9 s9 a9 i9 F9 N9)
  k_with "call builtin:str.join" => k_dflt (refine' join_K (xs := Txt.words x) ?hh ?F ?N ?l ?t ?e (words_in hx) (words_len hx) ?s ?_; (case hh => rfl); (case F => k_asm); (case N => k_asm); (case l => k_mem); (case t => assumption); (case e => assumption); (case s => first | decide | omega); intro t9 h9 k9 F9 N9)
  unfold Asks
  k_fill
  intros
  rename_i hret
  dsimp only at hret
  refine wpAny_call ?_
  first | (k_dflt cell_enter) | fail "enter"
  k_steps
  all_goals first
    | exact hret _ _ _ (by k_asm) (cb_drop (by k_asm) fun p hp => List.mem_cons_of_mem _ hp)
    | omega
    | (trace_state; fail "END")
set_option maxRecDepth 100000 in
set_option maxHeartbeats 8000000 in
theorem cap_claim1 (w : World) (news : List (Addr × Obj)) (x : Str) (t : Tok) (hx : x.length ≤ 100) :
    Asks w 2 22 news [.str x t, .none] (fun Q => ∀ t, Q (.str (Txt.join (Str.ofString " ") ((Txt.words x).map Txt.capitalize)) t) news) := by
  k_with_none
  w_top off
  k_with "call builtin:str.split" => k_dflt (refine' splitN0None (hsz := size_of hx) ?F ?N ?_; (case F => k_asm); (case N => k_asm); intro l9 h9 k9 e9 s9 a9 i9 F9 N9)
  k_with "call builtin:str.join" => k_dflt (refine' join_K (xs := Txt.words x) ?hh ?F ?N ?l ?t ?e (words_in hx) (words_len hx) ?s ?_; (case hh => rfl); (case F => k_asm); (case N => k_asm); (case l => k_mem); (case t => assumption); (case e => assumption); (case s => first | decide | omega); intro t9 h9 k9 F9 N9)
  unfold Asks
  k_fill
  intros
  rename_i hret
  dsimp only at hret
  refine wpAny_call ?_
  first | (k_dflt cell_enter) | fail "enter"
  k_steps
  all_goals first
    | exact hret _ _ _ (by k_asm) (cb_drop (by k_asm) fun p hp => List.mem_cons_of_mem _ hp)
    | omega
    | (trace_state; fail "END")
set_option maxRecDepth 100000 in
set_option maxHeartbeats 8000000 in
theorem cap_claim2 (w : World) (news : List (Addr × Obj)) (x y : Str) (t u : Tok) (hx : x.length ≤ 100) (hy : y.length = 1) :
    Asks w 2 22 news [.str x t, .str y u] (fun Q => ∀ t, Q (.str (Txt.join y ((Txt.split x y).map Txt.capitalize)) t) news) := by
  k_with_none
  w_top off
  k_with "call builtin:str.split" => k_dflt (refine' splitN1A (hsz := size_of hx) ?F ?N (one_ne hy) ?_; (case F => k_asm); (case N => k_asm); intro l9 h9 k9 e9 s9 a9 i9 F9 N9)
  k_with "call builtin:str.join" => k_dflt (refine' join_K (xs := Txt.split x y) ?hh ?F ?N ?l ?t ?e (split_in hx) (split_len hx) ?s ?_; (case hh => rfl); (case F => k_asm); (case N => k_asm); (case l => k_mem); (case t => assumption); (case e => assumption); (case s => first | decide | omega); intro t9 h9 k9 F9 N9)
  unfold Asks
  k_fill
  intros
  rename_i hret
  dsimp only at hret
  refine wpAny_call ?_
  first | (k_dflt cell_enter) | fail "enter"
  k_steps
  all_goals first
    | exact hret _ _ _ (by k_asm) (cb_drop (by k_asm) fun p hp => List.mem_cons_of_mem _ hp)
    | omega
    | (trace_state; fail "END")
end PartC396
section PartQ396
/-- parts with a row between two of them -/
def joinL {α : Type} (sep : List α) : List (List α) → List α
  | [] => []
  | [x] => x
  | x :: y :: r => x ++ sep ++ joinL sep (y :: r)
theorem joinL_cons {α : Type} {sep x : List α} {r : List (List α)} (h : r ≠ []) : joinL sep (x :: r) = x ++ sep ++ joinL sep r := by
  cases r with
  | nil => exact absurd rfl h
  | cons y r => rfl
/-- a word's own way: the first moved on, the further ones back -/
def capI : List Int → List Int
  | [] => []
  | p :: r => first p :: r.map further
theorem capI_snoc {w : List Int} (h : w ≠ []) (p : Int) : capI (w ++ [p]) = capI w ++ [further p] := by
  cases w with
  | nil => exact absurd rfl h
  | cons a r => simp [capI]
theorem capI_ne {w : List Int} (h : w ≠ []) : capI w ≠ [] := by
  cases w with
  | nil => exact absurd rfl h
  | cons a r => simp [capI]
/-- the words between blanks; cur: what has been read of the word at hand -/
def wordsL {α : Type} (sp : α → Bool) : Option (List α) → List α → List (List α)
  | none, [] => []
  | some w, [] => [w]
  | none, c :: r => if sp c then wordsL sp none r else wordsL sp (some [c]) r
  | some w, c :: r => if sp c then w :: wordsL sp none r else wordsL sp (some (w ++ [c])) r
theorem wordsL_ne {α : Type} (sp : α → Bool) : ∀ (l : List α) (w : List α), wordsL sp (some w) l ≠ []
  | [], w => by simp [wordsL]
  | c :: r, w => by
    unfold wordsL
    split
    · simp
    · exact wordsL_ne sp r _
def blank (p : Int) : Bool := decide (94 ≤ p)
theorem plain_law : ∀ (ps : List Int),
    (∀ T : List Int, (ps.foldl pstep (T, false)).1 = T ++ (if wordsL blank none ps = [] then [] else (if T = [] then [] else [94]) ++ joinL [94] ((wordsL blank none ps).map capI))) ∧
    (∀ (T w : List Int), w ≠ [] → (ps.foldl pstep (T ++ capI w, true)).1 = T ++ joinL [94] ((wordsL blank (some w) ps).map capI)) := by
  intro ps
  induction ps with
  | nil => exact ⟨fun T => by simp [wordsL], fun T w _ => by simp [wordsL, joinL]⟩
  | cons p r ih =>
    obtain ⟨ih1, ih2⟩ := ih
    by_cases hp : 94 ≤ p
    · have hb : blank p = true := decide_eq_true hp
      refine ⟨fun T => ?_, fun T w hw => ?_⟩
      · rw [List.foldl_cons, ← p_blank hp, ih1 T]
        simp only [wordsL, hb, if_true]
      · rw [List.foldl_cons, ← p_blank hp, ih1]
        simp only [wordsL, hb, if_true, List.map_cons]
        have hne : T ++ capI w ≠ [] := fun e => capI_ne hw (List.append_eq_nil_iff.mp e).2
        rw [if_neg hne]
        by_cases hr : wordsL blank none r = []
        · rw [if_pos hr, hr]; simp [joinL]
        · rw [if_neg hr, joinL_cons (by simpa using hr)]; simp
    · have hb : blank p = false := decide_eq_false hp
      refine ⟨fun T => ?_, fun T w hw => ?_⟩
      · rw [List.foldl_cons]
        simp only [wordsL, hb, Bool.false_eq_true, if_false]
        rw [if_neg (wordsL_ne blank r [p])]
        by_cases hT : T = []
        · subst hT
          rw [← p_front hp rfl (by simp), if_pos rfl]
          have := ih2 [] [p] (by simp)
          simpa [capI] using this
        · rw [← p_next hp rfl (by cases T with | nil => exact absurd rfl hT | cons a t => simp), if_neg hT]
          have := ih2 (T ++ [94]) [p] (by simp)
          simpa [capI] using this
      · rw [List.foldl_cons, ← p_more hp rfl]
        simp only [wordsL, hb, Bool.false_eq_true, if_false]
        have := ih2 T (w ++ [p]) (by simp)
        rw [capI_snoc hw, ← List.append_assoc] at this
        exact this
theorem plain_eq (ps : List Int) : (ps.foldl pstep ([], false)).1 = joinL [94] ((wordsL blank none ps).map capI) := by
  rw [(plain_law ps).1 []]
  by_cases h : wordsL blank none ps = []
  · rw [if_pos h, h]; rfl
  · rw [if_neg h]; simp
/-- the parts between marks -/
def splitL {α : Type} (mk : α → Bool) : List α → List α → List (List α)
  | w, [] => [w]
  | w, c :: r => if mk c then w :: splitL mk [] r else splitL mk (w ++ [c]) r
theorem splitL_ne {α : Type} (mk : α → Bool) : ∀ (l w : List α), splitL mk w l ≠ []
  | [], w => by simp [splitL]
  | c :: r, w => by
    unfold splitL
    split
    · simp
    · exact splitL_ne mk r _
theorem marked_law (m : Int) : ∀ (ps T w : List Int), (ps.foldl (mstep m) (T ++ capI w, !w.isEmpty)).1 = T ++ joinL [m] ((splitL (fun p => decide (p = m)) w ps).map capI) := by
  intro ps
  induction ps with
  | nil => intro T w; simp [splitL, joinL]
  | cons p r ih =>
    intro T w
    rw [List.foldl_cons]
    by_cases hp : p = m
    · rw [← m_mark hp]
      simp only [splitL, hp, decide_true, if_true, List.map_cons]
      rw [joinL_cons (by simpa using splitL_ne _ r [])]
      have := ih (T ++ capI w ++ [m]) []
      simpa [capI] using this
    · have hn : decide (p = m) = false := decide_eq_false hp
      simp only [splitL, hn, Bool.false_eq_true, if_false]
      have h3 : (p != m) = true := by simpa using hp
      cases w with
      | nil =>
        rw [← m_first (b := !([] : List Int).isEmpty) hp rfl, h3]
        have := ih T [p]
        simpa [capI] using this
      | cons a t =>
        rw [← m_more (b := !(a :: t).isEmpty) hp rfl, h3]
        have := ih T (a :: t ++ [p])
        rw [capI_snoc (by simp), ← List.append_assoc] at this
        simpa using this
theorem marked_eq (m : Int) (ps : List Int) : (ps.foldl (mstep m) ([], false)).1 = joinL [m] ((splitL (fun p => decide (p = m)) [] ps).map capI) := by
  have := marked_law m ps [] []
  simpa [capI] using this
/-- the parts are told by what they join to -/
theorem splitL_free {α : Type} (mk : α → Bool) : ∀ (v w r : List α), (∀ c ∈ v, mk c = false) → splitL mk w (v ++ r) = splitL mk (w ++ v) r
  | [], w, r, _ => by simp
  | c :: v, w, r, h => by
    have hc := h c (by simp)
    rw [List.cons_append, splitL, hc]
    simp only [Bool.false_eq_true, if_false]
    rw [splitL_free mk v (w ++ [c]) r fun d hd => h d (List.mem_cons_of_mem _ hd)]
    simp
theorem splitL_join {α : Type} (mk : α → Bool) (c : α) (hc : mk c = true) : ∀ (parts : List (List α)), parts ≠ [] → (∀ p ∈ parts, ∀ d ∈ p, mk d = false) → splitL mk [] (joinL [c] parts) = parts
  | [], h, _ => absurd rfl h
  | [x], _, h => by
    have := splitL_free mk x [] [] (h x (by simp))
    simpa [joinL, splitL] using this
  | x :: y :: r, _, h => by
    show splitL mk [] (x ++ [c] ++ joinL [c] (y :: r)) = _
    rw [List.append_assoc, splitL_free mk x [] _ (h x (by simp))]
    simp only [List.nil_append, List.cons_append, splitL, hc, if_true]
    rw [splitL_join mk c hc (y :: r) (by simp) fun p hp => h p (List.mem_cons_of_mem _ hp)]
end PartQ396
section PartR396
theorem str_ext {x y : Str} (h : x.cps.toList = y.cps.toList) : x = y := by
  cases x; cases y; exact congrArg Str.mk (Array.toList_inj.mp h)
theorem join_toList (sep : Str) (xs : List Str) : (Txt.join sep xs).cps.toList = joinL sep.cps.toList (xs.map (·.cps.toList)) := by
  show (Builtin.Str.glued sep xs).cps.toList = _
  rw [StrLaws.glued_eq_join]
  induction xs with
  | nil => rfl
  | cons x r ih =>
    cases r with
    | nil => rfl
    | cons y r =>
      show (x ++ sep ++ Str.join sep (y :: r)).cps.toList = _
      rw [Str.cps_append, Str.cps_append, Array.toList_append, Array.toList_append, ih]
      rfl
theorem joinL_map {α β : Type} (f : α → β) (sep : List α) : ∀ xs : List (List α), joinL (sep.map f) (xs.map (List.map f)) = (joinL sep xs).map f
  | [] => rfl
  | [x] => rfl
  | x :: y :: r => by
    show x.map f ++ sep.map f ++ joinL (sep.map f) ((y :: r).map (List.map f)) = _
    rw [joinL_map f sep (y :: r)]
    simp [joinL]
theorem sign_toList (p : Int) : (sign p).cps.toList = [code p] := by unfold sign; rfl
theorem joinL_nil_ones {α : Type} : ∀ l : List α, joinL [] (l.map fun a => [a]) = l
  | [] => rfl
  | [a] => rfl
  | a :: b :: r => by
    show [a] ++ [] ++ joinL [] ((b :: r).map fun a => [a]) = _
    rw [joinL_nil_ones (b :: r)]; rfl
theorem spell_toList (ps : List Int) : (spell ps).cps.toList = ps.map code := by
  unfold spell
  rw [join_toList, List.map_map]
  have e : (fun x : Str => x.cps.toList) ∘ sign = (fun a => [a]) ∘ code := by funext p; exact sign_toList p
  rw [e, ← List.map_map]
  exact joinL_nil_ones _
theorem spell_len (ps : List Int) : (spell ps).length = ps.length := by
  show (spell ps).cps.size = _
  rw [← Array.length_toList, spell_toList, List.length_map]
-- words
theorem drop_take_one {α : Type} (l : List α) (i j : Nat) (hij : i ≤ j) (hj : j < l.length) : (l.drop i).take (j - i) ++ [l[j]] = (l.drop i).take (j + 1 - i) := by
  have h1 : j + 1 - i = (j - i) + 1 := by omega
  rw [h1, List.take_add_one, List.getElem?_drop, show i + (j - i) = j by omega, List.getElem?_eq_getElem hj]
  rfl
open StrLaws in
theorem sw_words (s : Str) : ∀ (m cur : Nat) (ws : Array (Nat × Nat)) (start : Option Nat), cur + m = s.length → ws.size ≤ cur → (∀ b, start = some b → b ≤ cur ∧ ws.size < cur) →
    (swEnd s (forIn (List.range' cur m) ((none, ws, start) : SwSt) (swBody s (s.length + 1))).run).map (fun p => (Builtin.Str.strSub s p.1 p.2).cps.toList) =
      ws.toList.map (fun p => (Builtin.Str.strSub s p.1 p.2).cps.toList) ++ wordsL Unicode.isSpace (start.map fun b => (s.cps.toList.drop b).take (cur - b)) (s.cps.toList.drop cur)
  | 0, cur, ws, start, hm, _, _ => by
    have hl : s.cps.toList.length = s.length := Array.length_toList
    have hd : s.cps.toList.drop cur = [] := List.drop_eq_nil_of_le (by omega)
    rw [hd]
    have hc : cur = s.length := by omega
    subst hc
    cases start with
    | none => simp [swEnd, wordsL]
    | some b => simp [swEnd, wordsL, StrLaws.strSub_toList]
  | m + 1, cur, ws, start, hm, hws, hst => by
    have hl : s.cps.toList.length = s.length := Array.length_toList
    have hlt : cur < s.cps.toList.length := by omega
    have hlt' : cur < s.cps.size := by have : s.cps.size = s.length := rfl; omega
    have hdrop : s.cps.toList.drop cur = s.cps.toList[cur] :: s.cps.toList.drop (cur + 1) := List.drop_eq_getElem_cons hlt
    have hget : s.cps.getD cur 0 = s.cps.toList[cur] := by simp [Array.getD, hlt']
    have hsz : ¬ ((ws.size == s.length + 1) = true) := by simp only [beq_iff_eq]; omega
    rw [List.range'_succ, List.forIn_cons, hdrop]
    have go : ∀ (ws' : Array (Nat × Nat)) (start' : Option Nat), ws'.size ≤ cur + 1 → (∀ b, start' = some b → b ≤ cur + 1 ∧ ws'.size < cur + 1) →
        (swEnd s (forIn (List.range' (cur + 1) m) ((none, ws', start') : SwSt) (swBody s (s.length + 1))).run).map (fun p => (Builtin.Str.strSub s p.1 p.2).cps.toList) =
          ws'.toList.map (fun p => (Builtin.Str.strSub s p.1 p.2).cps.toList) ++ wordsL Unicode.isSpace (start'.map fun b => (s.cps.toList.drop b).take (cur + 1 - b)) (s.cps.toList.drop (cur + 1)) :=
      fun ws' start' h1 h2 => sw_words s m (cur + 1) ws' start' (by omega) h1 h2
    cases hsp : Unicode.isSpace (s.cps.getD cur 0) with
    | true =>
      cases start with
      | none =>
        have e : swBody s (s.length + 1) cur (none, ws, none) = pure (ForInStep.yield (none, ws, none)) := by
          simp only [swBody, hsp]; rw [if_neg hsz]
        rw [e]
        show (swEnd s (forIn (List.range' (cur + 1) m) ((none, ws, none) : SwSt) (swBody s (s.length + 1))).run).map _ = _
        rw [go ws none (by omega) (fun b hb => by cases hb)]
        rw [hget] at hsp
        simp only [Option.map_none, wordsL, hsp, if_true]
      | some b =>
        have hb := hst b rfl
        have e : swBody s (s.length + 1) cur (none, ws, some b) = pure (ForInStep.yield (none, ws.push (b, cur), none)) := by
          simp only [swBody, hsp]; rw [if_neg hsz]
        rw [e]
        show (swEnd s (forIn (List.range' (cur + 1) m) ((none, ws.push (b, cur), none) : SwSt) (swBody s (s.length + 1))).run).map _ = _
        rw [go (ws.push (b, cur)) none (by rw [Array.size_push]; omega) (fun b hb => by cases hb)]
        rw [hget] at hsp
        simp only [Option.map_none, Option.map_some, wordsL, hsp, if_true, Array.toList_push, List.map_append, List.map_cons, List.map_nil, List.append_assoc, List.singleton_append, StrLaws.strSub_toList]
    | false =>
      cases start with
      | none =>
        have e : swBody s (s.length + 1) cur (none, ws, none) = pure (ForInStep.yield (none, ws, some cur)) := by
          simp only [swBody, hsp]; rw [if_neg hsz]
        rw [e]
        show (swEnd s (forIn (List.range' (cur + 1) m) ((none, ws, some cur) : SwSt) (swBody s (s.length + 1))).run).map _ = _
        rw [go ws (some cur) (by omega) (fun b hb => by cases hb; omega)]
        rw [hget] at hsp
        have h1 : cur + 1 - cur = 1 := by omega
        simp only [Option.map_none, Option.map_some, wordsL, hsp, Bool.false_eq_true, if_false, h1, hdrop, List.take_succ_cons, List.take_zero]
      | some b =>
        have hb := hst b rfl
        have e : swBody s (s.length + 1) cur (none, ws, some b) = pure (ForInStep.yield (none, ws, some b)) := by
          simp only [swBody, hsp]; rw [if_neg hsz]
        rw [e]
        show (swEnd s (forIn (List.range' (cur + 1) m) ((none, ws, some b) : SwSt) (swBody s (s.length + 1))).run).map _ = _
        rw [go ws (some b) (by omega) (fun c hc => by cases hc; omega)]
        rw [hget] at hsp
        simp only [Option.map_some, wordsL, hsp, Bool.false_eq_true, if_false]
        rw [drop_take_one s.cps.toList b cur hb.1 hlt]
theorem words_toList (x : Str) : (Txt.words x).map (·.cps.toList) = wordsL Unicode.isSpace none x.cps.toList := by
  have h := sw_words x x.length 0 #[] none (by omega) (by simp) (fun b hb => by cases hb)
  rw [← StrLaws.sw_eq] at h
  have h2 : PySem.wordsOf x = (Builtin.Str.spaceWords x (x.length + 1)).map fun p => Builtin.Str.strSub x p.1 p.2 := rfl
  have key : (PySem.wordsOf x).map (·.cps.toList) = wordsL Unicode.isSpace none x.cps.toList := by
    rw [h2, List.map_map]
    have h3 := h
    simp only [List.map_nil, List.nil_append, Option.map_none, List.drop_zero] at h3
    exact h3
  unfold Txt.words
  split
  · rename_i e
    have e' := beq_iff_eq.mp e
    rw [h2, e'] at key
    simp only [List.map_cons, List.map_nil, StrLaws.sub_whole] at key
    simpa using key
  · exact key
-- parts
theorem split_ne (x y : Str) : Txt.split x y ≠ [] := by
  unfold Txt.split
  split
  · simp
  · split
    · simp
    · rw [StrLaws.partsBetween_eq]
      obtain ⟨p, r, e⟩ := StrLaws.partsFrom_ne x y.length 0 (Builtin.Str.occurrences x y 0 x.length (x.length + 1))
      rw [e]; simp
theorem split_toList (x : Str) (c : Nat) : (Txt.split x ⟨#[c]⟩).map (·.cps.toList) = splitL (fun d => d == c) [] x.cps.toList := by
  have h1 := StrLaws.join_split x ⟨#[c]⟩
  have h2 : joinL [c] ((Txt.split x ⟨#[c]⟩).map (·.cps.toList)) = x.cps.toList := by
    have e := join_toList ⟨#[c]⟩ (Txt.split x ⟨#[c]⟩)
    rw [show Txt.join ⟨#[c]⟩ (Txt.split x ⟨#[c]⟩) = x from (StrLaws.glued_eq_join _ _).trans h1] at e
    exact e.symm
  rw [← h2]
  refine (splitL_join _ c (by simp) _ (by simpa using split_ne x ⟨#[c]⟩) ?_).symm
  intro p hp d hd
  obtain ⟨q, hq, rfl⟩ := List.mem_map.mp hp
  have := StrLaws.split_free x c q hq
  simp only [beq_eq_false_iff_ne]
  rintro rfl
  exact this hd
-- signs
theorem table_ok : ∀ j, j < 100 → Unicode.isSpace (codes.getD j 0) = decide (94 ≤ j) ∧ codes.idxOf (codes.getD j 0) = j ∧ (codes.getD j 0 == 0x3A3) = false ∧
    Unicode.titleOf (codes.getD j 0) = [codes.getD (if 10 ≤ j ∧ j < 36 then j + 26 else j) 0] ∧ Unicode.lowerOf (codes.getD j 0) = [codes.getD (if 36 ≤ j ∧ j < 62 then j - 26 else j) 0] := by decide +kernel
theorem code_eq (p : Int) : code p = codes.getD p.toNat 0 := by unfold code; rfl
theorem code_space {p : Int} (h : 0 ≤ p ∧ p < 100) : Unicode.isSpace (code p) = blank p := by
  rw [code_eq, (table_ok p.toNat (by omega)).1]
  unfold blank
  exact decide_eq_decide.mpr (by omega)
theorem code_inj {p q : Int} (hp : 0 ≤ p ∧ p < 100) (hq : 0 ≤ q ∧ q < 100) (h : code p = code q) : p = q := by
  have a := (table_ok p.toNat (by omega)).2.1
  have b := (table_ok q.toNat (by omega)).2.1
  rw [code_eq, code_eq] at h
  rw [h, b] at a
  omega
theorem code_title {p : Int} (h : 0 ≤ p ∧ p < 100) : Unicode.titleOf (code p) = [code (first p)] := by
  rw [code_eq, (table_ok p.toNat (by omega)).2.2.2.1, code_eq]
  congr 2
  unfold first
  split <;> split <;> omega
theorem code_lower {p : Int} (h : 0 ≤ p ∧ p < 100) : Unicode.lowerOf (code p) = [code (further p)] := by
  rw [code_eq, (table_ok p.toNat (by omega)).2.2.2.2, code_eq]
  congr 2
  unfold further
  split <;> split <;> omega
theorem code_sigma {p : Int} (h : 0 ≤ p ∧ p < 100) : (code p == 0x3A3) = false := by rw [code_eq]; exact (table_ok p.toNat (by omega)).2.2.1
-- a word with its first sign great and the further ones small
theorem mapIdx_ones {α β : Type} (F : Nat → α → List β) (g : Nat → α → β) : ∀ (l : List α), (∀ i (h : i < l.length), F i l[i] = [g i l[i]]) → (l.mapIdx F).flatten = l.mapIdx g := by
  intro l h
  have e : l.mapIdx F = l.mapIdx fun i a => [g i a] := by
    apply List.ext_getElem
    · simp
    · intro i h1 h2
      simp only [List.getElem_mapIdx]
      exact h i (by simpa using h1)
  rw [e]
  clear e h
  induction l generalizing g with
  | nil => rfl
  | cons a r ih =>
    rw [List.mapIdx_cons, List.mapIdx_cons, List.flatten_cons]
    have := ih (fun i a => g (i + 1) a)
    rw [this]
    rfl
theorem placed_toList (x : Str) (f : Nat → Nat → List Nat) : (placed x f).toList = (x.cps.toList.mapIdx f).flatten := by
  unfold placed
  rw [Array.toList_flatten]
  congr 1
  rw [Array.toList_mapIdx]
  apply List.ext_getElem
  · simp
  · intro i h1 h2
    simp only [List.getElem_map, List.getElem_mapIdx]
theorem cap_toList {x : Str} {ps : List Int} (hb : ∀ p ∈ ps, 0 ≤ p ∧ p < 100) (hx : x.cps.toList = ps.map code) : (Txt.capitalize x).cps.toList = (capI ps).map code := by
  have hl : x.length = ps.length := by
    show x.cps.size = _
    rw [← Array.length_toList, hx, List.length_map]
  unfold Txt.capitalize
  cases ps with
  | nil =>
    rw [if_pos (by rw [hl]; rfl), hx]; rfl
  | cons p r =>
    rw [if_neg (by rw [hl]; simp)]
    unfold Txt.capitalized
    show (placed x _).toList = _
    rw [placed_toList, hx]
    rw [mapIdx_ones _ (fun i c => if i = 0 then code (first p) else code (further ((p :: r).getD i 0)))]
    · apply List.ext_getElem
      · simp [capI]
      · intro i h1 h2
        simp only [List.getElem_mapIdx]
        cases i with
        | zero => simp [capI]
        | succ j =>
          have hj : j < r.length := by simpa [capI] using h2
          simp [capI, List.getD, List.getElem?_eq_getElem hj]
    · intro i hi
      have hi' : i < (p :: r).length := by simpa using hi
      have hpi := hb (p :: r)[i] (List.getElem_mem hi')
      have hget : ((p :: r).map code)[i] = code (p :: r)[i] := List.getElem_map ..
      rw [hget]
      cases i with
      | zero => simpa using code_title hpi
      | succ j =>
        have hx? : x.cps[j + 1]? = some (code (p :: r)[j + 1]) := by
          rw [← Array.getElem?_toList, hx, List.getElem?_map, List.getElem?_eq_getElem hi']; rfl
        have e0 : ((j + 1 == 0) = true) = False := by simp
        simp only [e0, if_false]
        unfold Unicode.lowerAt
        rw [hx?]
        show (if (code (p :: r)[j + 1] == 0x3A3 && _) = true then _ else _) = _
        rw [code_sigma hpi, Bool.false_and, if_neg (by simp), code_lower hpi]
        have hd : (p :: r).getD (j + 1) 0 = (p :: r)[j + 1] := by
          rw [List.getD_eq_getElem?_getD, List.getElem?_eq_getElem hi']; rfl
        rw [hd]
        simp
-- the two readings meet
theorem wordsL_code : ∀ (ps : List Int) (cur : Option (List Int)), (∀ p ∈ ps, 0 ≤ p ∧ p < 100) → wordsL Unicode.isSpace (cur.map (List.map code)) (ps.map code) = (wordsL blank cur ps).map (List.map code)
  | [], none, _ => rfl
  | [], some w, _ => rfl
  | p :: r, none, h => by
    have hp := code_space (h p (by simp))
    have hr : ∀ q ∈ r, 0 ≤ q ∧ q < 100 := fun q hq => h q (List.mem_cons_of_mem _ hq)
    simp only [List.map_cons, Option.map_none, wordsL, hp]
    split
    · exact wordsL_code r none hr
    · exact wordsL_code r (some [p]) hr
  | p :: r, some w, h => by
    have hp := code_space (h p (by simp))
    have hr : ∀ q ∈ r, 0 ≤ q ∧ q < 100 := fun q hq => h q (List.mem_cons_of_mem _ hq)
    simp only [List.map_cons, Option.map_some, wordsL, hp]
    split
    · rw [List.map_cons, ← wordsL_code r none hr]; rfl
    · have := wordsL_code r (some (w ++ [p])) hr
      simpa using this
theorem splitL_code (m : Int) (hm : 0 ≤ m ∧ m < 100) : ∀ (ps w : List Int), (∀ p ∈ ps, 0 ≤ p ∧ p < 100) → splitL (fun d => d == code m) (w.map code) (ps.map code) = (splitL (fun p => decide (p = m)) w ps).map (List.map code)
  | [], w, _ => rfl
  | p :: r, w, h => by
    have hr : ∀ q ∈ r, 0 ≤ q ∧ q < 100 := fun q hq => h q (List.mem_cons_of_mem _ hq)
    have e : (code p == code m) = decide (p = m) := by
      by_cases hpm : p = m
      · subst hpm; simp
      · rw [decide_eq_false hpm, beq_eq_false_iff_ne]
        exact fun c => hpm (code_inj (h p (by simp)) hm c)
    simp only [List.map_cons, splitL, e]
    split
    · rw [List.map_cons, ← splitL_code m hm r [] hr]; rfl
    · have := splitL_code m hm r (w ++ [p]) hr
      simpa using this
theorem wordsL_mem {α : Type} {sp : α → Bool} {Pr : α → Prop} : ∀ (l : List α) (cur : Option (List α)), (∀ a ∈ l, Pr a) → (∀ w, cur = some w → ∀ a ∈ w, Pr a) → ∀ v ∈ wordsL sp cur l, ∀ a ∈ v, Pr a
  | [], none, _, _, v, hv => by simp [wordsL] at hv
  | [], some w, _, hw, v, hv => by simp only [wordsL, List.mem_singleton] at hv; subst hv; exact hw _ rfl
  | c :: r, none, hl, _, v, hv => by
    unfold wordsL at hv
    split at hv
    · exact wordsL_mem r none (fun a ha => hl a (List.mem_cons_of_mem _ ha)) (fun w e => by cases e) v hv
    · exact wordsL_mem r (some [c]) (fun a ha => hl a (List.mem_cons_of_mem _ ha)) (fun w e => by cases e; intro a ha; simp at ha; subst ha; exact hl _ (by simp)) v hv
  | c :: r, some w, hl, hw, v, hv => by
    unfold wordsL at hv
    split at hv
    · rcases List.mem_cons.mp hv with rfl | hv
      · exact hw _ rfl
      · exact wordsL_mem r none (fun a ha => hl a (List.mem_cons_of_mem _ ha)) (fun w e => by cases e) v hv
    · refine wordsL_mem r (some (w ++ [c])) (fun a ha => hl a (List.mem_cons_of_mem _ ha)) (fun u e => ?_) v hv
      cases e
      intro a ha
      rcases List.mem_append.mp ha with h | h
      · exact hw _ rfl a h
      · simp at h; subst h; exact hl _ (by simp)
theorem splitL_mem {α : Type} {mk : α → Bool} {Pr : α → Prop} : ∀ (l w : List α), (∀ a ∈ l, Pr a) → (∀ a ∈ w, Pr a) → ∀ v ∈ splitL mk w l, ∀ a ∈ v, Pr a
  | [], w, _, hw, v, hv => by simp only [splitL, List.mem_singleton] at hv; subst hv; exact hw
  | c :: r, w, hl, hw, v, hv => by
    have hr : ∀ a ∈ r, Pr a := fun a ha => hl a (List.mem_cons_of_mem _ ha)
    unfold splitL at hv
    split at hv
    · rcases List.mem_cons.mp hv with rfl | hv
      · exact hw
      · exact splitL_mem r [] hr (fun a ha => by cases ha) v hv
    · refine splitL_mem r (w ++ [c]) hr (fun a ha => ?_) v hv
      rcases List.mem_append.mp ha with h | h
      · exact hw a h
      · simp at h; subst h; exact hl _ (by simp)
/-- texts that are spelled by rows of places: capitalized, they are spelled by the rows' own way -/
theorem caps_map : ∀ (xs : List Str) (ws : List (List Int)), xs.map (·.cps.toList) = ws.map (List.map code) → (∀ w ∈ ws, ∀ p ∈ w, 0 ≤ p ∧ p < 100) →
    (xs.map Txt.capitalize).map (·.cps.toList) = (ws.map capI).map (List.map code)
  | [], [], _, _ => rfl
  | [], w :: ws, e, _ => by simp at e
  | x :: xs, [], e, _ => by simp at e
  | x :: xs, w :: ws, e, h => by
    simp only [List.map_cons, List.cons.injEq] at e
    simp only [List.map_cons]
    rw [cap_toList (h w (by simp)) e.1, caps_map xs ws e.2 fun v hv => h v (List.mem_cons_of_mem _ hv)]
theorem blank_toList : (Str.ofString " ").cps.toList = [94].map code := by
  have : code 94 = 32 := by rw [code_eq]; rfl
  simp only [List.map_cons, List.map_nil, this]
  decide +kernel
/-- capwords without a mark -/
theorem cap_plain {ps : List Int} (hb : ∀ p ∈ ps, 0 ≤ p ∧ p < 100) : Txt.join (Str.ofString " ") ((Txt.words (spell ps)).map Txt.capitalize) = spell (ps.foldl pstep ([], false)).1 := by
  apply str_ext
  rw [join_toList, spell_toList, plain_eq, blank_toList]
  have e : (Txt.words (spell ps)).map (·.cps.toList) = (wordsL blank none ps).map (List.map code) := by
    rw [words_toList, spell_toList]; exact wordsL_code ps none hb
  rw [caps_map _ _ e (wordsL_mem ps none hb (fun w e => by cases e)), joinL_map]
/-- capwords by a mark -/
theorem cap_marked {ps : List Int} {m : Int} (hm : 0 ≤ m ∧ m < 100) (hb : ∀ p ∈ ps, 0 ≤ p ∧ p < 100) : Txt.join (sign m) ((Txt.split (spell ps) (sign m)).map Txt.capitalize) = spell (ps.foldl (mstep m) ([], false)).1 := by
  apply str_ext
  rw [join_toList, spell_toList, marked_eq]
  have es : sign m = ⟨#[code m]⟩ := by unfold sign; rfl
  have e : (Txt.split (spell ps) (sign m)).map (·.cps.toList) = (splitL (fun p => decide (p = m)) [] ps).map (List.map code) := by
    rw [es, split_toList, spell_toList]; exact splitL_code m hm ps [] hb
  rw [caps_map _ _ e (splitL_mem ps [] hb (fun a ha => by cases ha)), sign_toList, show [code m] = [m].map code from rfl, joinL_map]
end PartR396
section PartT396
theorem pfold_ok {ps : List Int} (hb : ∀ k ∈ ps, 0 ≤ k ∧ k < 100) : ∀ k ∈ (ps.foldl pstep ([], false)).1, 0 ≤ k ∧ k < 100 := pfold_in ps [] false hb (fun k hk => by cases hk)
theorem mfold_ok {ps : List Int} {m : Int} (hb : ∀ k ∈ ps, 0 ≤ k ∧ k < 100) : ∀ k ∈ (ps.foldl (mstep m) ([], false)).1, 0 ≤ k ∧ k < 100 := mfold_in m ps [] false hb (fun k hk => by cases hk)
theorem pfold_short {ps : List Int} (hn : ps.length ≤ 14) : (ps.foldl pstep ([], false)).1.length ≤ 100 := by have := fold_len pstep_len ps ([], false); simp only [List.length_nil] at this; omega
theorem mfold_short {ps : List Int} {m : Int} (hn : ps.length ≤ 14) : (ps.foldl (mstep m) ([], false)).1.length ≤ 100 := by have := fold_len (mstep_len m) ps ([], false); simp only [List.length_nil] at this; omega
theorem short40 {ps : List Int} (hn : ps.length ≤ 14) : ps.length ≤ 40 := by omega
theorem short100 {ps : List Int} (hn : ps.length ≤ 14) : ps.length ≤ 100 := by omega
theorem capS0 (w : World) (news : List (Addr × Obj)) (ps : List Int) (t : Tok) (hb : ∀ k ∈ ps, 0 ≤ k ∧ k < 100) (hn : ps.length ≤ 14) :
    Asks w 2 22 news [.str (spell ps) t] (fun Q => ∀ t, Q (.str (spell (ps.foldl pstep ([], false)).1) t) news) := by
  have := cap_claim0 w news (spell ps) t (by rw [spell_len]; omega)
  rw [cap_plain hb] at this
  exact this
theorem capS1 (w : World) (news : List (Addr × Obj)) (ps : List Int) (t : Tok) (hb : ∀ k ∈ ps, 0 ≤ k ∧ k < 100) (hn : ps.length ≤ 14) :
    Asks w 2 22 news [.str (spell ps) t, .none] (fun Q => ∀ t, Q (.str (spell (ps.foldl pstep ([], false)).1) t) news) := by
  have := cap_claim1 w news (spell ps) t (by rw [spell_len]; omega)
  rw [cap_plain hb] at this
  exact this
theorem capS2 (w : World) (news : List (Addr × Obj)) (ps : List Int) (m : Int) (t u : Tok) (hb : ∀ k ∈ ps, 0 ≤ k ∧ k < 100) (hn : ps.length ≤ 14) (hm : 0 ≤ m ∧ m < 100) :
    Asks w 2 22 news [.str (spell ps) t, .str (sign m) u] (fun Q => ∀ t, Q (.str (spell (ps.foldl (mstep m) ([], false)).1) t) news) := by
  have := cap_claim2 w news (spell ps) (sign m) t u (by rw [spell_len]; omega) (sign_len m)
  rw [cap_marked hm hb] at this
  exact this
theorem join_spell {prog : Program} {w : World} {A : Around} {E : Value → Shared → Prop} {s : Shared} {t : Tok} {Q : Value → Shared → Prop} {D : Addr} {ys : List Value} {n : Nat} {h₀ : Heap} {L : Addr} {news : List (Addr × Obj)} {ps : List Int}
    (N : News h₀ L s.heap news) (hl : (D, listOf ys.toArray n) ∈ news) (hc : CarriedAll ys (ps.map fun a => PyData.str (sign a))) (hn : ps.length ≤ 14)
    (h : ∀ t' k, Q (.str (spell ps) t') { s with toks := k }) : wpAny (model prog w) A (call (.builtin "str.join") [.str (Str.ofString "") t, .ref D]) Q E s := by
  refine KT.join_1 (News.isList N hl) hc (fun a _ => sign_len a) (by omega) fun t' k _ => ?_
  have := h t' k
  unfold spell at this
  exact this
local macro_rules | `(tactic| walk_at "eval ListComp") => `(tactic| (k_here; k_dflt (refine LCg.ListComp_U (F₀ := by k_asm) (by with_unfolding_all rfl) (by decide) (by rfl) (by decide) (by rfl) ?_)))
local macro_rules | `(tactic| walk_at "CompSrc Call nil ref") => `(tactic| (k_here; (rename IntsAre _ (_ ++ [95, 36, 35, 61]) => hOld9); (obtain ⟨ps9, hi9, hb9, hn9⟩ := places_are hOld9 (cut_len _ _)); (clear hOld9); k_dflt (refine' LCg.CompSrc.ledger ?h0 ?h1 ?h2 ?h3 ?h4 ?_; (case h0 => rfl); (case h1 => k_asm); (case h2 => k_asm); (case h3 => k_mem); (case h4 => exact len_line hi9 (short100 hn9)); intro g'; (refine' kct_list sign hi9 (fun k' t' I' oI' C' oC' D' m' ys' h' tk' E' hk' hC' hx' F' N' off' ne' hMark' => ?_) ?_); (all_goals try (have hbk := hb9 k' hk')); kcf_last)))
local macro_rules | `(tactic| walk_at "CompEnd str") => `(tactic| (k_dflt (refine' LCg.CompEnd.intro ?F ?N _ (fun p hp => hp) ?o ?s ?_; (case F => k_asm); (case N => k_asm); (case o => assumption); (case s => lcg_src))))
local macro_rules | `(tactic| walk_at "KCtEl") => `(tactic| exact kct_el rfl rfl rfl)
local macro_rules | `(tactic| walk_at "call builtin:str.join") => `(tactic| (k_here; k_dflt (refine' join_spell ?N ?l ?c ?n ?_; (case N => k_asm); (case l => k_mem); (case c => assumption); (case n => assumption); intro t9 k9)))
local macro_rules | `(tactic| walk_at "call ref cons nil") => `(tactic| (k_here; k_dflt (first
  | (refine' sign_claim _ _ _ _ ?hp _ _ _ _ _ _ _ _ _ _ _ _ _ _ _ _ _ _ _ _ _ _ ?k1 ?k2 ?k3 ?k4 ?k5 ?kK ?kd ?ku ?_; (case k4 => k_asm); (case k1 => k_asm); (case k2 => k_asm); (case k3 => k_asm); (case k5 => k_asm); (case kK => exact rfl); (case kd => ktr_room); (case ku => ktr_units); (case hp => first | assumption | exact ⟨fmod_lo _ (by decide), fmod_hi _ (by decide)⟩); intro t9 h9 tk9 F9 N9; (try dsimp only); (try k_fold); (try k_sweep))
  | (refine' place_claim _ _ _ _ _ _  _ _ _ _ _ _ _ _ _ _ _ _ _ _ _ _ _ _ _ _ _ _ ?k1 ?k2 ?k3 ?k4 ?k5 ?kK ?kd ?ku ?_; (case k4 => k_asm); (case k1 => k_asm); (case k2 => k_asm); (case k3 => k_asm); (case k5 => k_asm); (case kK => exact rfl); (case kd => ktr_room); (case ku => ktr_units); intro t9 h9 tk9 F9 N9; (try dsimp only); (try k_fold); (try k_sweep))
  | (refine' spelled_claim _ _ _ _ _ _ ?hm ?hi ?hb ?hn _ _ _ _ _ _ _ _ _ _ _ _ _ _ _ _ _ _ _ _ _ _ ?k1 ?k2 ?k3 ?k4 ?k5 ?kK ?kd ?ku ?_; (case k4 => k_asm); (case k1 => k_asm); (case k2 => k_asm); (case k3 => k_asm); (case k5 => k_asm); (case kK => exact rfl); (case kd => ktr_room); (case ku => ktr_units); (case hm => k_mem); (case hi => assumption); (case hb => first | assumption | exact pfold_ok (by assumption) | exact mfold_ok (by assumption)); (case hn => first | exact short100 (by assumption) | exact pfold_short (by assumption) | exact mfold_short (by assumption)); intro t9 h9 tk9 F9 N9; (try dsimp only); (try k_fold); (try k_sweep))
  | (refine' plain_claim _ _ _ _ _ _ ?hm ?hi ?hb ?hn  _ _ _ _ _ _ _ _ _ _ _ _ _ _ _ _ _ _ _ _ _ _ ?k1 ?k2 ?k3 ?k4 ?k5 ?kK ?kd ?ku ?_; (case k4 => k_asm); (case k1 => k_asm); (case k2 => k_asm); (case k3 => k_asm); (case k5 => k_asm); (case kK => exact rfl); (case kd => ktr_room); (case ku => ktr_units); (case hm => k_mem); (case hi => assumption); (case hb => assumption); (case hn => exact short40 (by assumption)); intro D9 ys9 c9 hy9 l9 h9 tk9 F9 N9; (try k_lt l9); (try dsimp only); (try k_fold); (try k_sweep))
  | (refine' marked_claim _ _ _ _ _ _ ?hm ?hi ?hn _ _ _ _ _ _ _ _ _ _ _ _ _ _ _ _ _ _ _ _ _ _ _ _ ?k1 ?k2 ?k3 ?k4 ?k5 ?kK ?kd ?ku ?_; (case k4 => k_asm); (case k1 => k_asm); (case k2 => k_asm); (case k3 => k_asm); (case k5 => k_asm); (case kK => exact rfl); (case kd => ktr_room); (case ku => ktr_units); (case hm => k_mem); (case hi => assumption); (case hn => exact short40 (by assumption)); intro D9 ys9 c9 hy9 l9 h9 tk9 F9 N9; (try k_lt l9); (try dsimp only); (try k_fold); (try k_sweep))
  | (refine' capS0 _ _ _ _ ?hb ?hn _ _ _ _ _ _ _ _ _ _ _ _ _ _ _ _ _ _ _ _ _ _ ?k1 ?k2 ?k3 ?k4 ?k5 ?kK ?kd ?ku ?_; (case k4 => k_asm); (case k1 => k_asm); (case k2 => k_asm); (case k3 => k_asm); (case k5 => k_asm); (case kK => exact rfl); (case kd => ktr_room); (case ku => ktr_units); (case hb => assumption); (case hn => assumption); intro t9 h9 tk9 F9 N9; (try dsimp only); (try k_fold); (try k_sweep))
  | (refine' capS1 _ _ _ _ ?hb ?hn _ _ _ _ _ _ _ _ _ _ _ _ _ _ _ _ _ _ _ _ _ _ ?k1 ?k2 ?k3 ?k4 ?k5 ?kK ?kd ?ku ?_; (case k4 => k_asm); (case k1 => k_asm); (case k2 => k_asm); (case k3 => k_asm); (case k5 => k_asm); (case kK => exact rfl); (case kd => ktr_room); (case ku => ktr_units); (case hb => assumption); (case hn => assumption); intro t9 h9 tk9 F9 N9; (try dsimp only); (try k_fold); (try k_sweep))
  | (refine' capS2 _ _ _ _ _ _ ?hb ?hn ?hp _ _ _ _ _ _ _ _ _ _ _ _ _ _ _ _ _ _ _ _ _ _ ?k1 ?k2 ?k3 ?k4 ?k5 ?kK ?kd ?ku ?_; (case k4 => k_asm); (case k1 => k_asm); (case k2 => k_asm); (case k3 => k_asm); (case k5 => k_asm); (case kK => exact rfl); (case kd => ktr_room); (case ku => ktr_units); (case hb => assumption); (case hn => assumption); (case hp => first | assumption | exact ⟨fmod_lo _ (by decide), fmod_hi _ (by decide)⟩); intro t9 h9 tk9 F9 N9; (try dsimp only); (try k_fold); (try k_sweep)))))
set_option maxRecDepth 100000 in
set_option maxHeartbeats 8000000 in
theorem t : PySem.Challenge.rw_mr0396_01.Holds := by
  k_with_none
  exact hd (by k_go)
end PartT396
end Mine
theorem PySem.Challenge.cw_mr0396_01_holds : PySem.Challenge.rw_mr0396_01.Holds :=
  Mine.t
