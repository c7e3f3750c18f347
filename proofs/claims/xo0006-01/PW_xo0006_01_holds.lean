import PyProof.Rows.All
import Wide.All
import OpenK.AllK
import Wide.FinOn
import PySem.Challenge.RW_xo0006_01
set_option Elab.async false
open PySem PySem.W PyProof.Rows PySem.Calls PySem.Spec
namespace Mine
section
set_option maxRecDepth 100000
set_option maxHeartbeats 8000000
open_top hd for PySem.Challenge.rw_xo0006_01
end
def Stop (P : Prop) : Prop := P
theorem Stop.out {P : Prop} (h : Stop P) : P := h
theorem sub_nil {α : Type} {t : List α} : ∀ p ∈ ([] : List α), p ∈ t := fun _ h => by cases h
theorem sub_refl {α : Type} {t : List α} : ∀ p ∈ t, p ∈ t := fun _ h => h
theorem sub_cons {α : Type} {a : α} {l t : List α} (h : a ∈ t) (r : ∀ p ∈ l, p ∈ t) : ∀ p ∈ a :: l, p ∈ t := fun _ hp => by
  rcases List.mem_cons.mp hp with rfl | hp
  · exact h
  · exact r _ hp
theorem sub_app {α : Type} {l k t : List α} (h : ∀ p ∈ l, p ∈ t) (r : ∀ p ∈ k, p ∈ t) : ∀ p ∈ l ++ k, p ∈ t := fun _ hp => by
  rcases List.mem_append.mp hp with hp | hp
  · exact h _ hp
  · exact r _ hp
theorem sub_tail {α : Type} {a : α} {l t : List α} (h : ∀ p ∈ l, p ∈ t) : ∀ p ∈ l, p ∈ a :: t := fun _ hp => .tail _ (h _ hp)
theorem sub_inl {α : Type} {l t k : List α} (h : ∀ p ∈ l, p ∈ t) : ∀ p ∈ l, p ∈ t ++ k := fun _ hp => List.mem_append_left _ (h _ hp)
theorem sub_inr {α : Type} {l t k : List α} (h : ∀ p ∈ l, p ∈ k) : ∀ p ∈ l, p ∈ t ++ k := fun _ hp => List.mem_append_right _ (h _ hp)
local macro_rules | `(tactic| walk_at "mine.mem") => `(tactic| with_reducible first | exact List.mem_cons_self | (refine List.mem_cons_of_mem _ ?_; walk_at "mine.mem") | (refine List.mem_append_left _ ?_; walk_at "mine.mem") | (refine List.mem_append_right _ ?_; walk_at "mine.mem"))
local macro_rules | `(tactic| walk_at "mine.subr") => `(tactic| with_reducible first | exact sub_refl | (refine sub_tail ?_; walk_at "mine.subr") | (refine sub_inl ?_; walk_at "mine.subr") | (refine sub_inr ?_; walk_at "mine.subr"))
local macro_rules | `(tactic| walk_at "mine.sub") => `(tactic| with_reducible first | exact sub_nil | (refine sub_cons ?_ ?_; (focus walk_at "mine.mem"); walk_at "mine.sub") | (refine sub_app ?_ ?_; (focus walk_at "mine.sub"); walk_at "mine.sub") | walk_at "mine.subr")
local macro_rules | `(tactic| walk_at "mine.stop") => `(tactic| (k_here; refine Stop.out ?_))
section
set_option maxRecDepth 100000
theorem fresh_Com : True := by (w_top off; trivial)
noncomputable abbrev PRG : Program := PySem.Challenge.rw_xo0006_01.row.prog
noncomputable abbrev VW : Program := hd.view_39
noncomputable abbrev KH (w : World) : Frag := hd.heap_39 w.params
noncomputable abbrev LS : List Str := looseW hd.view_39 [Str.ofString "_quoted", Str.ofString "_paren_depth"]
/-- the top as it stands, in a heap -/
def Gd (w : World) (h : Heap) : Prop := (hd.heap_39 w.params).In h ∧ ∃ mean mg mb, Top hd.view_39 (looseW hd.view_39 [Str.ofString "_quoted", Str.ofString "_paren_depth"]) mean mg mb h
/-- all that stood stands -/
abbrev Kp (h h' : Heap) : Prop := ∀ b o, h.get? b = some o → h'.get? b = some o
theorem Gd.kp {w : World} {h h' : Heap} (G : Gd w h) (k : Kp h h') : Gd w h' :=
  ⟨G.1.keeps k, let ⟨a, b, c, T⟩ := G.2; ⟨a, b, c, T.keeps k⟩⟩
abbrev AR (dp : Nat) (fr : Option (List Env)) (gd : Option (List Code)) (un : Nat) : Around := { handled := none, depth := dp, frames := fr, guards := gd, units := un }

section
variable {prog : Program} {w : World} {A : Around} {s : Shared} {K : Frag}
theorem codeF {R : Result → Shared → Prop} {name qual : Str} {params : Arguments} {body : List Stmt} {scope : Scope} {dV kV doc pm cdv ct oc : Value} {an od : Option Addr} {osl : Array (Option Value)} {f : Addr} {args : Args} {binds : List (Str × Value)}
    {p : Program} {loose : List Str} {mean : ExcName → Option Value} {mg mb : Str → Option Value}
    (X : K.In s.heap) (T : Top p loose mean mg mb s.heap)
    (ho : K.lookup f = some ⟨oc, od, .func (fnOf name qual params body scope dV kV doc pm an cdv ct), osl⟩) (hcd : codeIn K cdv qual = true) (hroom : A.depth < recursionLimit)
    (hbind : BindsTo s (fnOf name qual params body scope dV kV doc pm an cdv ct) args binds) (hloc : ∀ y ∈ binds, scope.names.lookup y.1 = some .local)
    (hcell : ∀ x ∈ scope.names, x.2 ≠ .cell) (hco : scope.isCoroutine = false) (hgen : scope.isGenerator = false) (hk : scope.kind = .function)
    (h : ∀ L h₁, Fr s.heap L h₁ (fun y => binds.reverse.lookup y) → News s.heap L h₁ [] →
      wpAny (model prog w) (A.deeper (envOf qual scope L f cdv)) (execs body (envOf qual scope L f cdv))
        (fun fl s' => R (.ok (.ret (match fl with | .ret v => v | _ => .none))) s') (fun _ _ => False)
        { s with heap := h₁, toks := s.toks + binds.length }) : codeAny (model prog w) A (.call (.ref f) args) R s := by
  refine codeAny_call_def (fd := fnOf name qual params body scope dV kV doc pm an cdv ct) (body := body) (binds := binds) hroom (X _ _ ho) rfl T.nolimit (codeRec_of X hcd) rfl hbind hcell hloc (fun h₁ hns hk₁ => ?_) hco hgen hk
  exact wpAny_mono (h _ h₁ ⟨hns, hk₁, Nat.le_refl _⟩ News.nil) (fun _ _ x => x) fun _ _ x => x.elim
theorem codeFC {R : Result → Shared → Prop} {name qual : Str} {params : Arguments} {body : List Stmt} {scope : Scope} {dV kV doc pm cdv ct oc : Value} {an od : Option Addr} {osl : Array (Option Value)} {f : Addr} {args : Args} {binds : List (Str × Value)}
    {p : Program} {loose : List Str} {mean : ExcName → Option Value} {mg mb : Str → Option Value}
    (X : K.In s.heap) (T : Top p loose mean mg mb s.heap)
    (ho : K.lookup f = some ⟨oc, od, .func (fnOf name qual params body scope dV kV doc pm an cdv ct), osl⟩) (hcd : codeIn K cdv qual = true) (hroom : A.depth < recursionLimit)
    (hbind : BindsTo s (fnOf name qual params body scope dV kV doc pm an cdv ct) args binds) (hkind : (binds.all fun y => scope.names.lookup y.1 == some .local || scope.names.lookup y.1 == some .cell) = true)
    (hnd : ((cellsFrom 0 scope.names []).map (·.1)).Nodup) (hco : scope.isCoroutine = false) (hgen : scope.isGenerator = false) (hk : scope.kind = .function)
    (h : ∀ L h₁ tk cells, Fr s.heap L h₁ (bindL (envOfC qual scope L f cdv).kindOf binds fun _ => none) → News s.heap L h₁ (cells ++ []) →
      CellsAre (bindC (envOfC qual scope L f cdv).kindOf binds fun _ => none) (cellsFrom (L + 1) scope.names []) cells →
      wpAny (model prog w) (A.deeper (envOfC qual scope L f cdv)) (execs body (envOfC qual scope L f cdv))
        (fun fl s' => R (.ok (.ret (match fl with | .ret v => v | _ => .none))) s') (fun _ _ => False)
        { s with heap := h₁, toks := tk }) : codeAny (model prog w) A (.call (.ref f) args) R s := by
  refine codeAny_call_function hroom (X _ _ ho) rfl hco hgen rfl (codeRec_of X hcd) (hbind _ _ _ _ ?_)
  refine wpAny_newFunctionEnv_cells hk (kindsX hkind _) fun env' he s' x => ?_
  subst he
  refine ⟨T.nolimit.keeps x.toInCall.keep, codeAny_func ?_⟩
  obtain ⟨h₁, tk, rfl, _⟩ := x.done
  have hk₁ := x.toInCall.keep
  obtain ⟨cells, NC, Y⟩ := Cl.news (h₀ := s.heap) (Nat.le_refl _) fun n c hm => ⟨x.cell n c (lookup_of_mem_nodup (cellsFrom_names scope.names 0 (s.heap.objs.size + 1) [] [] rfl ▸ hnd) hm), x.above n c hm⟩
  refine wpAny_mono (h s.heap.objs.size h₁ tk cells ⟨x.toInCall.ns, hk₁, Nat.le_refl _⟩ (fun p hp => ?_) Y) (fun _ _ y => y) fun _ _ y => y.elim
  rw [List.append_nil] at hp
  exact NC p hp
end
end
section
set_option maxRecDepth 100000
theorem fresh_Srt : True := by (w_top off; trivial)
/-- the sort's tree, answered by lt -/
def kRun {α : Type} (lt : Nat → Nat → Bool) : KasT α → α
  | .ret a => a
  | .ask i j k => kRun lt (k (lt i j))
/-- the questions on the way are of two places below n that differ -/
def kOk {α : Type} (n : Nat) (lt : Nat → Nat → Bool) : KasT α → Bool
  | .ret _ => true
  | .ask i j k => Nat.blt i n && Nat.blt j n && !(Nat.beq i j) && kOk n lt (k (lt i j))
theorem kRun_wp {α : Type} {cmp : Nat → Nat → (Bool → Shared → Prop) → Shared → Prop} {n : Nat} {lt : Nat → Nat → Bool} {I : Shared → Prop} {Q : α → Shared → Prop}
    (hc : ∀ i j C s, i < n → j < n → i ≠ j → I s → (∀ s', I s' → C (lt i j) s') → cmp i j C s) :
    ∀ (t : KasT α) (s : Shared), kOk n lt t = true → I s → (∀ s', I s' → Q (kRun lt t) s') → t.kasWp cmp Q s
  | .ret _, s, _, hI, hQ => hQ s hI
  | .ask i j k, s, ho, hI, hQ => by
    simp only [kOk, Bool.and_eq_true, Bool.not_eq_true'] at ho
    obtain ⟨⟨⟨h1, h2⟩, h3⟩, h4⟩ := ho
    exact hc i j _ s (Nat.le_of_ble_eq_true h1) (Nat.le_of_ble_eq_true h2) (Nat.ne_of_beq_eq_false h3) hI fun s' hs' => kRun_wp hc (k (lt i j)) s' h4 hs' hQ
theorem kRun_agree {α : Type} {n : Nat} {lt lt' : Nat → Nat → Bool} (h : ∀ i j, i < n → j < n → lt i j = lt' i j) : ∀ t : KasT α, kOk n lt' t = true → kRun lt t = kRun lt' t ∧ kOk n lt t = true
  | .ret _, _ => ⟨rfl, rfl⟩
  | .ask i j k, ho => by
    simp only [kOk, Bool.and_eq_true, Bool.not_eq_true'] at ho
    obtain ⟨⟨⟨h1, h2⟩, h3⟩, h4⟩ := ho
    have e := h i j (Nat.le_of_ble_eq_true h1) (Nat.le_of_ble_eq_true h2)
    obtain ⟨a, b⟩ := kRun_agree h (k (lt' i j)) h4
    refine ⟨by show kRun lt (k (lt i j)) = kRun lt' (k (lt' i j)); rw [e]; exact a, ?_⟩
    simp only [kOk, Bool.and_eq_true, Bool.not_eq_true']
    exact ⟨⟨⟨h1, h2⟩, h3⟩, by rw [e]; exact b⟩
def gtL (l : List Nat) (i : Nat) : Nat := l.getD i 0
def ltL (l : List Nat) (i j : Nat) : Bool := Nat.blt (gtL l i) (gtL l j)
def sortTest (n : Nat) (l : List Nat) : Bool :=
  kOk n (ltL l) (kas_sort n) && (((kRun (ltL l) (kas_sort n)).toList.map (gtL l) == List.range n) && (kRun (ltL l) (kas_sort n)).toList.all (Nat.blt · n))
def eachSeq (n : Nat) (test : List Nat → Bool) : Nat → List Nat → Bool
  | 0, l => test l
  | k + 1, l => (List.range n).all fun x => l.contains x || eachSeq n test k (x :: l)
theorem eachSeq_spec {n : Nat} {test : List Nat → Bool} : ∀ (k : Nat) (l : List Nat), eachSeq n test k l = true → ∀ m : List Nat, m.length = k → (m ++ l).Nodup → (∀ x ∈ m, x < n) → test (m ++ l) = true
  | 0, l, h, m, hm, _, _ => by
    rw [List.eq_nil_of_length_eq_zero hm]; exact h
  | k + 1, l, h, m, hm, hn, hx => by
    have hne : m ≠ [] := by intro e; rw [e] at hm; cases hm
    have e := List.dropLast_concat_getLast hne
    have hl : m.dropLast.length = k := by rw [List.length_dropLast, hm]; rfl
    have e2 : m ++ l = m.dropLast ++ (m.getLast hne :: l) := by
      conv => lhs; rw [← e]
      rw [List.append_assoc]; rfl
    rw [e2] at hn ⊢
    have hlast : m.getLast hne < n := hx _ (List.getLast_mem hne)
    have h1 := List.all_eq_true.mp h (m.getLast hne) (List.mem_range.mpr hlast)
    have hc : l.contains (m.getLast hne) = false := by
      have hd := (List.nodup_append.mp hn).2.1
      have := (List.nodup_cons.mp hd).1
      simpa using this
    rw [hc, Bool.false_or] at h1
    exact eachSeq_spec k _ h1 m.dropLast hl hn fun x hxm => hx x ((List.dropLast_subset m) hxm)
theorem tests2 : eachSeq 2 (sortTest 2) 2 [] = true := by decide +kernel
theorem tests3 : eachSeq 3 (sortTest 3) 3 [] = true := by decide +kernel
theorem tests4 : eachSeq 4 (sortTest 4) 4 [] = true := by decide +kernel
theorem tests5 : eachSeq 5 (sortTest 5) 5 [] = true := by decide +kernel
theorem tests6 : eachSeq 6 (sortTest 6) 6 [] = true := by decide +kernel
theorem tests {n : Nat} (h2 : 2 ≤ n) (h6 : n ≤ 6) : eachSeq n (sortTest n) n [] = true := by
  have : n = 2 ∨ n = 3 ∨ n = 4 ∨ n = 5 ∨ n = 6 := by omega
  rcases this with rfl | rfl | rfl | rfl | rfl
  · exact tests2
  · exact tests3
  · exact tests4
  · exact tests5
  · exact tests6

/-- the place of a key among the first n -/
def rankOf (n : Nat) (key : Nat → Nat) (i : Nat) : Nat := ((List.range n).filter fun j => decide (key j < key i)).length
theorem filter_le {α : Type} {p q : α → Bool} : ∀ {l : List α}, (∀ x ∈ l, p x = true → q x = true) → (l.filter p).length ≤ (l.filter q).length
  | [], _ => Nat.le_refl _
  | x :: l, h => by
    have ih := filter_le (l := l) fun y hy => h y (.tail _ hy)
    simp only [List.filter_cons]
    cases hp : p x with
    | false => simp only [Bool.false_eq_true, if_false]; split <;> simp <;> omega
    | true => rw [h x (.head _) hp]; simp; exact ih
theorem filter_lt {α : Type} {p q : α → Bool} {a : α} : ∀ {l : List α}, (∀ x ∈ l, p x = true → q x = true) → a ∈ l → p a = false → q a = true → (l.filter p).length < (l.filter q).length
  | [], _, h, _, _ => nomatch h
  | x :: l, h, hm, hp, hq => by
    rcases List.mem_cons.mp hm with rfl | hm
    · have := filter_le (l := l) fun y hy => h y (.tail _ hy)
      simp only [List.filter_cons, hp, hq]; simp; omega
    · have ih := filter_lt (l := l) (fun y hy => h y (.tail _ hy)) hm hp hq
      simp only [List.filter_cons]
      cases hp' : p x with
      | false => simp only [Bool.false_eq_true, if_false]; split <;> simp <;> omega
      | true => rw [h x (.head _) hp']; simp; exact ih
theorem rank_lt {n : Nat} {key : Nat → Nat} {i j : Nat} (hi : i < n) (h : key i < key j) : rankOf n key i < rankOf n key j :=
  filter_lt (a := i) (fun x _ hx => by simp only [decide_eq_true_eq] at hx ⊢; omega) (List.mem_range.mpr hi) (by simp) (by simpa using h)
theorem rank_le {n : Nat} {key : Nat → Nat} {i j : Nat} (h : key i ≤ key j) : rankOf n key i ≤ rankOf n key j :=
  filter_le (fun x _ hx => by simp only [decide_eq_true_eq] at hx ⊢; omega)
theorem rank_iff {n : Nat} {key : Nat → Nat} {i j : Nat} (hi : i < n) : rankOf n key i < rankOf n key j ↔ key i < key j := by
  constructor
  · intro h
    rcases Nat.lt_or_ge (key i) (key j) with h' | h'
    · exact h'
    · exact absurd (rank_le (n := n) h') (Nat.not_le.mpr h)
  · exact rank_lt hi
theorem rank_bound {n : Nat} {key : Nat → Nat} {i : Nat} (hi : i < n) : rankOf n key i < n := by
  have := filter_lt (l := List.range n) (p := fun j => decide (key j < key i)) (q := fun _ => true) (a := i) (fun _ _ _ => rfl) (List.mem_range.mpr hi) (by simp) rfl
  have e : (List.range n).filter (fun _ => true) = List.range n := List.filter_eq_self.mpr fun _ _ => rfl
  rw [e, List.length_range] at this
  exact this
theorem getL_map {n : Nat} {f : Nat → Nat} {i : Nat} (hi : i < n) : gtL ((List.range n).map f) i = f i := by
  simp [gtL, hi]
theorem nodup_map {n : Nat} {f : Nat → Nat} (h : ∀ i j, i < n → j < n → f i = f j → i = j) : ((List.range n).map f).Nodup := by
  have key : ∀ l : List Nat, (∀ x ∈ l, x < n) → l.Nodup → (l.map f).Nodup := by
    intro l
    induction l with
    | nil => intro _ _; exact List.nodup_nil
    | cons x l ih =>
      intro hb hn
      have hn' := List.nodup_cons.mp hn
      rw [List.map_cons, List.nodup_cons]
      refine ⟨fun hm => ?_, ih (fun y hy => hb y (.tail _ hy)) hn'.2⟩
      obtain ⟨y, hy, e⟩ := List.mem_map.mp hm
      exact hn'.1 (h y x (hb y (.tail _ hy)) (hb x (.head _)) e ▸ hy)
  exact key _ (fun x hx => List.mem_range.mp hx) List.nodup_range
theorem sort_spec {n : Nat} (h2 : 2 ≤ n) (h6 : n ≤ 6) {lt : Nat → Nat → Bool} {key : Nat → Nat} (hlt : ∀ i j, i < n → j < n → lt i j = decide (key i < key j))
    (hinj : ∀ i j, i < n → j < n → key i = key j → i = j) :
    kOk n lt (kas_sort n) = true ∧ ((kRun lt (kas_sort n)).toList.map key).Pairwise (· < ·) ∧ (∀ x, x ∈ (kRun lt (kas_sort n)).toList ↔ x < n) := by
  have hr : ∀ i j, i < n → j < n → rankOf n key i = rankOf n key j → i = j := fun i j hi hj e => by
    refine hinj i j hi hj ?_
    rcases Nat.lt_trichotomy (key i) (key j) with h | h | h
    · have := rank_lt hi h; omega
    · exact h
    · have := rank_lt hj h; omega
  have t := eachSeq_spec n [] (tests h2 h6) ((List.range n).map (rankOf n key)) (by simp) (by rw [List.append_nil]; exact nodup_map hr) (fun x hx => by
    obtain ⟨i, hi, rfl⟩ := List.mem_map.mp hx
    exact rank_bound (List.mem_range.mp hi))
  rw [List.append_nil] at t
  simp only [sortTest, Bool.and_eq_true, beq_iff_eq] at t
  obtain ⟨ok, e, al⟩ := t
  obtain ⟨e1, ok1⟩ := kRun_agree (lt := lt) (lt' := ltL ((List.range n).map (rankOf n key))) (fun i j hi hj => by
    rw [hlt i j hi hj]
    unfold ltL
    rw [getL_map hi, getL_map hj]
    by_cases h : key i < key j
    · rw [decide_eq_true h]; exact (Nat.ble_eq_true_of_le (rank_lt hi h)).symm
    · rw [decide_eq_false h]
      cases q : Nat.blt (rankOf n key i) (rankOf n key j) with
      | false => rfl
      | true => exact absurd ((rank_iff hi).mp (Nat.le_of_ble_eq_true q)) h) (kas_sort n) ok
  rw [← e1] at e al
  have hall : ∀ x ∈ (kRun lt (kas_sort n)).toList, x < n := fun x hx => Nat.le_of_ble_eq_true (List.all_eq_true.mp al x hx)
  have em : (kRun lt (kas_sort n)).toList.map (rankOf n key) = List.range n := by
    rw [← e]
    exact List.map_congr_left fun x hx => (getL_map (hall x hx)).symm
  refine ⟨ok1, ?_, fun x => ⟨hall x, fun hx => ?_⟩⟩
  · have hp : ((kRun lt (kas_sort n)).toList.map (rankOf n key)).Pairwise (· < ·) := by rw [em]; exact List.pairwise_lt_range
    rw [List.pairwise_map] at hp ⊢
    refine List.Pairwise.imp_of_mem (fun {a b} ha _ h => ?_) hp
    exact (rank_iff (hall a ha)).mp h
  · have : rankOf n key x ∈ (kRun lt (kas_sort n)).toList.map (rankOf n key) := by rw [em]; exact List.mem_range.mpr (rank_bound hx)
    obtain ⟨y, hy, e⟩ := List.mem_map.mp this
    exact hr y x (hall y hy) hx e ▸ hy
end
section
set_option maxRecDepth 100000
theorem fresh_Dat : True := by (w_top off; trivial)
/-- a value that is no object -/
inductive Cell where
  | s (x : Str)
  | i (k : Int)
inductive CellV : Value → Cell → Prop where
  | s (x : Str) (t : Tok) : CellV (.str x t) (.s x)
  | i (k : Int) (t : Tok) : CellV (.int k t) (.i k)
theorem CellV.str {v : Value} {x : Str} (h : CellV v (.s x)) : ∃ t, v = .str x t := by cases h; exact ⟨_, rfl⟩
theorem CellV.int {v : Value} {k : Int} (h : CellV v (.i k)) : ∃ t, v = .int k t := by cases h; exact ⟨_, rfl⟩
inductive All2 {α β : Type} (R : α → β → Prop) : List α → List β → Prop where
  | nil : All2 R [] []
  | cons {a b l m} : R a b → All2 R l m → All2 R (a :: l) (b :: m)
namespace All2
variable {α β γ : Type} {R S : α → β → Prop}
theorem length {l : List α} {m : List β} (h : All2 R l m) : l.length = m.length := by
  induction h with
  | nil => rfl
  | cons _ _ ih => simp [ih]
theorem get {l : List α} {m : List β} (h : All2 R l m) : ∀ {i : Nat} {b : β}, m[i]? = some b → ∃ a, l[i]? = some a ∧ R a b := by
  induction h with
  | nil => intro i b e; simp at e
  | cons h' _ ih =>
    intro i b e
    cases i with
    | zero => simp at e; subst e; exact ⟨_, rfl, h'⟩
    | succ i => exact ih (by simpa using e)
theorem getL {l : List α} {m : List β} (h : All2 R l m) : ∀ {i : Nat} {a : α}, l[i]? = some a → ∃ b, m[i]? = some b ∧ R a b := by
  induction h with
  | nil => intro i b e; simp at e
  | cons h' _ ih =>
    intro i b e
    cases i with
    | zero => simp at e; subst e; exact ⟨_, rfl, h'⟩
    | succ i => exact ih (by simpa using e)
theorem mono {l : List α} {m : List β} (h : All2 R l m) (f : ∀ a b, R a b → S a b) : All2 S l m := by
  induction h with
  | nil => exact .nil
  | cons h' _ ih => exact .cons (f _ _ h') ih
theorem app {l l' : List α} {m m' : List β} (h : All2 R l m) (h' : All2 R l' m') : All2 R (l ++ l') (m ++ m') := by
  induction h with
  | nil => exact h'
  | cons x _ ih => exact .cons x ih
theorem snoc {l : List α} {m : List β} {a : α} {b : β} (h : All2 R l m) (h' : R a b) : All2 R (l ++ [a]) (m ++ [b]) := h.app (.cons h' .nil)
theorem ofGet {l : List α} {m : List β} (hl : l.length = m.length) (h : ∀ (i : Nat) (a : α) (b : β), l[i]? = some a → m[i]? = some b → R a b) : All2 R l m := by
  induction l generalizing m with
  | nil => cases m with
    | nil => exact .nil
    | cons _ _ => cases hl
  | cons a l ih => cases m with
    | nil => cases hl
    | cons b m => exact .cons (h 0 a b rfl rfl) (ih (by simpa using hl) fun i a b ha hb => h (i + 1) a b (by simpa using ha) (by simpa using hb))
theorem maps {γ : Type} {f : γ → α} {g : γ → β} : ∀ {l : List γ}, (∀ i ∈ l, R (f i) (g i)) → All2 R (l.map f) (l.map g)
  | [], _ => .nil
  | _ :: _, h => .cons (h _ (.head _)) (maps fun i hi => h i (.tail _ hi))
end All2
abbrev tupO (vs : List Value) (n : Nat) : Obj := { cls := .type "tuple", data := .seq vs.toArray n }
abbrev lstO (vs : List Value) (n : Nat) : Obj := { cls := .type "list", data := .seq vs.toArray n }
def TupAt (tl : List (Addr × Obj)) (v : Value) (r : List Cell) : Prop := ∃ a vs n, v = .ref a ∧ (a, tupO vs n) ∈ tl ∧ All2 CellV vs r
theorem TupAt.sub {tl tl' : List (Addr × Obj)} {v : Value} {r : List Cell} (h : TupAt tl v r) (k : ∀ p ∈ tl, p ∈ tl') : TupAt tl' v r := by
  obtain ⟨a, vs, n, e, m, c⟩ := h
  exact ⟨a, vs, n, e, k _ m, c⟩
theorem All2.two {vs : List Value} {a b : Cell} (h : All2 CellV vs [a, b]) : ∃ v0 v1, vs = [v0, v1] ∧ CellV v0 a ∧ CellV v1 b := by
  cases h with
  | cons h1 h2 => cases h2 with
    | cons h2 h3 => cases h3; exact ⟨_, _, rfl, h1, h2⟩
theorem All2.three {vs : List Value} {a b c : Cell} (h : All2 CellV vs [a, b, c]) : ∃ v0 v1 v2, vs = [v0, v1, v2] ∧ CellV v0 a ∧ CellV v1 b ∧ CellV v2 c := by
  cases h with
  | cons h1 h2 => obtain ⟨v1, v2, rfl, a, b⟩ := h2.two; exact ⟨_, _, _, rfl, h1, a, b⟩
abbrev Rows (tl : List (Addr × Obj)) (vs : List Value) (rs : List (List Cell)) : Prop := All2 (TupAt tl) vs rs
theorem Rows.sub {tl tl' : List (Addr × Obj)} {vs : List Value} {rs : List (List Cell)} (h : Rows tl vs rs) (k : ∀ p ∈ tl, p ∈ tl') : Rows tl' vs rs := h.mono fun _ _ x => x.sub k
/-- made since h, standing in h' -/
def New (h h' : Heap) (tl : List (Addr × Obj)) : Prop := ∀ p ∈ tl, h'.get? p.1 = some p.2 ∧ h.get? p.1 = none
theorem New.of {h h' : Heap} {L : Addr} {tl : List (Addr × Obj)} (N : News h L h' tl) : New h h' tl := fun p hp => ⟨(N p hp).1, (N p hp).2.2⟩
theorem New.sub {h h' : Heap} {tl tl' : List (Addr × Obj)} (N : New h h' tl) (k : ∀ p ∈ tl', p ∈ tl) : New h h' tl' := fun p hp => N p (k p hp)
theorem News.sub {h h' : Heap} {L : Addr} {tl tl' : List (Addr × Obj)} (N : News h L h' tl) (k : ∀ p ∈ tl', p ∈ tl) : News h L h' tl' := fun p hp => N p (k p hp)
section
variable {h₀ h h' : Heap} {L : Addr} {m : Str → Option Value} {news tl : List (Addr × Obj)}
theorem fr_kp (F : Fr h₀ L h m) (k : Kp h h') : Fr h₀ L h' m := ⟨F.ns.keeps k, fun b o e => k b o (F.keep b o e), F.above⟩
theorem news_kp (N : News h₀ L h news) (k : Kp h h') : News h₀ L h' news := fun p hp => ⟨k _ _ (N p hp).1, (N p hp).2⟩
theorem news_new (F : Fr h₀ L h m) (N : News h₀ L h news) (k : Kp h h') (n : New h h' tl) : News h₀ L h' (news ++ tl) := fun p hp => by
  rcases List.mem_append.mp hp with hp | hp
  · exact news_kp N k p hp
  · refine ⟨(n p hp).1, fun e => ?_, ?_⟩
    · obtain ⟨o, _, _, ho, _⟩ := F.ns
      have := (n p hp).2
      rw [e, ho] at this
      cases this
    · cases q : h₀.get? p.1 with
      | none => rfl
      | some o => have := F.keep _ _ q; rw [(n p hp).2] at this; cases this
theorem new_off (N : News h₀ L h news) (n : New h h' tl) : ∀ p ∈ tl, ∀ q ∈ news, p.1 ≠ q.1 := fun p hp q hq e => by
  have := (n p hp).2
  rw [e, (N q hq).1] at this
  cases this
end
section
variable {prog : Program} {w : World} {A : Around} {E : Value → Shared → Prop} {s : Shared} {h₀ : Heap} {L : Addr} {m : Str → Option Value}
theorem item_at {value slice : Expr} {l : Addr} {vs : List Value} {i : Nat} {u : Tok} {v : Value} {Q : Value → Shared → Prop} (hl : s.heap.IsList l vs.toArray) (hx : vs[i]? = some v) (hi : i < 2 ^ 62) (h : Q v s)
    (hs : subscripted slice false (.ref l) (.int (i : Int) u) = operate [.ref l, .int (i : Int) u] (getItem (.ref l) (.int (i : Int) u)) := by with_unfolding_all rfl) :
    wpAny (model prog w) A (subscriptTail value slice (.ref l) (.int (i : Int) u)) Q E s :=
  tail_any hl.typeIs slot_list_getitem.lookup (wpAny_getItem_list hl (by omega) (by omega) (by simpa using hx) h) hs
theorem item_h {value slice : Expr} {l : Addr} {vs : List Value} {i : Nat} {u : Tok} {v : Value} {Q : Value → Shared → Prop} (F : Fr h₀ L s.heap m) (hl : h₀.IsList l vs.toArray) (hx : vs[i]? = some v) (hi : i < 2 ^ 62) (h : Q v s)
    (hs : subscripted slice false (.ref l) (.int (i : Int) u) = operate [.ref l, .int (i : Int) u] (getItem (.ref l) (.int (i : Int) u)) := by with_unfolding_all rfl) :
    wpAny (model prog w) A (subscriptTail value slice (.ref l) (.int (i : Int) u)) Q E s := item_at (hl.at fun o e => F.keep l o e) hx hi h hs
end
open LCg LCt in
theorem compT_ind {prog : Program} {w : World} {A : Around} {h₀ : Heap} {L : Addr} {m : Str → Option Value} {env : Env} {ct elt : Expr} {x : Str} {scope : Scope} {cl : List (Str × Addr)} {s : Shared} {S : List (Addr × Obj) → Prop} {P : Nat → Value → Prop}
    {Fin : List Value → List (Addr × Obj) → Prop} (J : Nat → List Value → List (Addr × Obj) → Prop) (n : Nat)
    (step : ∀ i ys news, i < n → J i ys news → ∀ v I oI C oC D m₂ h tk (E' : Value → Shared → Prop), P i v → NsObj oC m₂ → m₂ x = some v → Fr h₀ L h m → News h₀ L h ((I, oI) :: (C, oC) :: (D, lst ys) :: news) → Off3 I C D news → ((@Ne Nat I C) ∧ (@Ne Nat I D) ∧ (@Ne Nat C D)) →
      wpAny (model prog w) A (isTrue ct (compEnvC scope cl C env) (eval ct (compEnvC scope cl C env))) (fun ok s' => if ok = true then
        wpAny (model prog w) A (eval elt (compEnvC scope cl C env)) (CompEnd h₀ L m { s with heap := h, toks := tk } I oI C oC D (lst ys) S (fun y news' => J (i + 1) (ys ++ [y]) news')) E' s'
        else CompEnd h₀ L m { s with heap := h, toks := tk } I oI C oC D (lst ys) S (fun _ news' => J (i + 1) ys news') Value.none s') E' { s with heap := h, toks := tk })
    (fin : ∀ ys news, J n ys news → Fin ys news) : ∀ k i ys news, i + k = n → J i ys news → CompRestT prog w A h₀ L m env ct elt x scope cl s S P Fin k i ys news := by
  intro k
  induction k with
  | zero => intro i ys news e hJ; exact fin ys news (by have : i = n := by omega
                                                        exact this ▸ hJ)
  | succ k ih =>
    intro i ys news e hJ
    refine CompRestT.succ fun v I oI C oC D m₂ h tk E' h1 h2 h3 h4 h5 h6 h7 => wpAny_mono (step i ys news (by omega) hJ v I oI C oC D m₂ h tk E' h1 h2 h3 h4 h5 h6 h7) (fun ok s' hk => ?_) fun _ _ e => e
    cases ok with
    | true =>
      simp only [if_true] at hk ⊢
      refine wpAny_mono hk (fun y s'' hy => ?_) fun _ _ e => e
      obtain ⟨a1, a2, a3, a4, a5, a6, a7, a8, a9⟩ := hy
      exact ⟨a1, a2, a3, a4, a5, a6, a7, a8, ih (i + 1) _ _ (by omega) a9⟩
    | false =>
      simp only [Bool.false_eq_true, if_false] at hk ⊢
      obtain ⟨a1, a2, a3, a4, a5, a6, a7, a8, a9⟩ := hk
      exact ⟨a1, a2, a3, a4, a5, a6, a7, a8, ih (i + 1) _ _ (by omega) a9⟩
end
section
set_option maxRecDepth 100000
theorem fresh_Tre : True := by (w_top off; trivial)
def ug (us : List Int) (k : Nat) : Int := us.getD k 0
def cg (cs : List Nat) (k : Nat) : Nat := cs.getD k 0
/-- the tree: us tells whom a node hangs below, cs the sign's number -/
structure TreeOk (us : List Int) (cs : List Nat) : Prop where
  lu : us.length = 7
  lc : cs.length = 7
  up : ∀ k : Nat, 0 < k → k < 7 → 0 ≤ ug us k ∧ ug us k < k
  root : ug us 0 < 0
  inj : ∀ i j : Nat, i < 7 → j < 7 → cg cs i = cg cs j → i = j
  sign : ∀ c ∈ cs, c = 34 ∨ c = 40 ∨ c = 41 ∨ c = 91 ∨ c = 92 ∨ c = 123 ∨ c = 126 ∨ c = 233 ∨ c = 937
abbrev sg (c : Nat) : Str := Str.mk #[c]
def cand (us : List Int) (nd : Int) (n : Nat) : List Nat := (List.range n).filter fun c => decide (ug us c = nd)
def insK (cs : List Nat) (c : Nat) : List Nat → List Nat
  | [] => [c]
  | d :: r => if cg cs c < cg cs d then c :: d :: r else d :: insK cs c r
def kids (us : List Int) (cs : List Nat) (nd : Int) : List Nat := (cand us nd 7).foldr (insK cs) []
def rowB (cs : List Nat) (c : Nat) : List Cell := [.s (sg (cg cs c)), .i (c : Int)]
theorem mem_insK {cs : List Nat} {c x : Nat} : ∀ {l : List Nat}, x ∈ insK cs c l ↔ x = c ∨ x ∈ l
  | [] => by simp [insK]
  | d :: r => by
    unfold insK
    split
    · simp
    · simp only [List.mem_cons, mem_insK (l := r)]
      constructor
      · rintro (h | h | h) <;> simp [h]
      · rintro (h | h | h) <;> simp [h]
theorem insK_sorted {cs : List Nat} {c : Nat} : ∀ {l : List Nat}, l.Pairwise (fun a b => cg cs a < cg cs b) → (∀ d ∈ l, cg cs c ≠ cg cs d) → (insK cs c l).Pairwise fun a b => cg cs a < cg cs b
  | [], _, _ => by simp [insK]
  | d :: r, h, hn => by
    have h1 := List.pairwise_cons.mp h
    unfold insK
    split
    · rename_i hlt
      refine List.pairwise_cons.mpr ⟨fun x hx => ?_, h⟩
      rcases List.mem_cons.mp hx with rfl | hx
      · exact hlt
      · exact Nat.lt_trans hlt (h1.1 x hx)
    · rename_i hlt
      refine List.pairwise_cons.mpr ⟨fun x hx => ?_, insK_sorted h1.2 fun y hy => hn y (.tail _ hy)⟩
      rcases mem_insK.mp hx with rfl | hx
      · have := hn d (.head _); omega
      · exact h1.1 x hx
theorem mem_cand {us : List Int} {nd : Int} {n x : Nat} : x ∈ cand us nd n ↔ x < n ∧ ug us x = nd := by
  simp [cand]
theorem cand_succ (us : List Int) (nd : Int) (n : Nat) : cand us nd (n + 1) = cand us nd n ++ (if ug us n = nd then [n] else []) := by
  unfold cand
  rw [List.range_succ, List.filter_append]
  congr 1
  rw [List.filter_cons, List.filter_nil]
  by_cases h : ug us n = nd
  · rw [if_pos h, if_pos (by simpa using h)]
  · rw [if_neg h, if_neg (by simpa using h)]
theorem cand_nodup {us : List Int} {nd : Int} {n : Nat} : (cand us nd n).Nodup := List.Nodup.sublist List.filter_sublist List.nodup_range
theorem foldr_insK {cs : List Nat} : ∀ {l : List Nat}, l.Nodup → (∀ i ∈ l, ∀ j ∈ l, cg cs i = cg cs j → i = j) →
    (l.foldr (insK cs) []).Pairwise (fun a b => cg cs a < cg cs b) ∧ ∀ x, x ∈ l.foldr (insK cs) [] ↔ x ∈ l
  | [], _, _ => ⟨List.Pairwise.nil, fun _ => Iff.rfl⟩
  | c :: l, hn, hi => by
    have hn' := List.nodup_cons.mp hn
    obtain ⟨a, b⟩ := foldr_insK hn'.2 fun i hi' j hj => hi i (.tail _ hi') j (.tail _ hj)
    refine ⟨insK_sorted a fun d hd e => ?_, fun x => ?_⟩
    · have hd' := (b d).mp hd
      exact hn'.1 (hi c (.head _) d (.tail _ hd') e ▸ hd')
    · show x ∈ insK cs c _ ↔ _
      rw [mem_insK, b, List.mem_cons]
theorem sorted_uniq {cs : List Nat} : ∀ {l m : List Nat}, l.Pairwise (fun a b => cg cs a < cg cs b) → m.Pairwise (fun a b => cg cs a < cg cs b) → (∀ x, x ∈ l ↔ x ∈ m) → l = m
  | [], [], _, _, _ => rfl
  | [], b :: m, _, _, h => nomatch (h b).mpr (.head _)
  | a :: l, [], _, _, h => nomatch (h a).mp (.head _)
  | a :: l, b :: m, hl, hm, h => by
    have hl' := List.pairwise_cons.mp hl
    have hm' := List.pairwise_cons.mp hm
    have e : a = b := by
      rcases List.mem_cons.mp ((h a).mp (.head _)) with e | e
      · exact e
      · rcases List.mem_cons.mp ((h b).mpr (.head _)) with e' | e'
        · exact e'.symm
        · have := hm'.1 a e; have := hl'.1 b e'; omega
    subst e
    rw [sorted_uniq hl'.2 hm'.2 fun x => ?_]
    constructor
    · intro hx
      rcases List.mem_cons.mp ((h x).mp (.tail _ hx)) with e | e
      · subst e; exact absurd (hl'.1 x hx) (Nat.lt_irrefl _)
      · exact e
    · intro hx
      rcases List.mem_cons.mp ((h x).mpr (.tail _ hx)) with e | e
      · subst e; exact absurd (hm'.1 x hx) (Nat.lt_irrefl _)
      · exact e
section
variable {us : List Int} {cs : List Nat} (T : TreeOk us cs)
include T
theorem kids_sorted (nd : Int) : (kids us cs nd).Pairwise fun a b => cg cs a < cg cs b :=
  (foldr_insK cand_nodup fun i hi j hj e => T.inj i j (mem_cand.mp hi).1 (mem_cand.mp hj).1 e).1
theorem mem_kids {nd : Int} {x : Nat} : x ∈ kids us cs nd ↔ x < 7 ∧ ug us x = nd := by
  rw [← mem_cand]
  exact (foldr_insK cand_nodup fun i hi j hj e => T.inj i j (mem_cand.mp hi).1 (mem_cand.mp hj).1 e).2 x
theorem kids_eq {nd : Int} {l : List Nat} (h : l.Pairwise fun a b => cg cs a < cg cs b) (hm : ∀ x, x ∈ l ↔ x < 7 ∧ ug us x = nd) : l = kids us cs nd :=
  sorted_uniq h (kids_sorted T nd) fun x => by rw [hm, mem_kids T]
theorem cand_len {nd : Int} (h : 0 ≤ nd) : (cand us nd 7).length ≤ 6 := by
  have h0 : ug us 0 ≠ nd := by have := T.root; omega
  have e : cand us nd 7 = ((List.range 6).map (· + 1)).filter fun c => decide (ug us c = nd) := by
    show (List.filter _ (0 :: (List.range 6).map (· + 1))) = _
    rw [List.filter_cons_of_neg (by simpa using h0)]
  rw [e]
  exact Nat.le_trans (List.length_filter_le _ _) (by simp)
end
end
section
set_option maxRecDepth 100000
set_option maxHeartbeats 4000000
theorem fresh_SrR : True := by (w_top off; trivial)
theorem few_map (vs : List Value) : (arrOf (SortSt.mk' general' (vs.toArray.zip vs.toArray) #[] 7 none)).map (·.2) = vs.toArray := by
  show (vs.toArray.zip vs.toArray).map (·.2) = vs.toArray
  apply Array.toList_inj.mp
  simp [List.map_snd_zip]
section
variable {prog : Program} {w : World} {A : Around} {E : Value → Shared → Prop} {s : Shared} {h₀ : Heap} {L a : Addr} {m : Str → Option Value} {news : List (Addr × Obj)} {vs : List Value}
theorem list_sort_few {n : Nat} {P : PySem.Fin → Shared → Prop} (F : Fr h₀ L s.heap m) (N : News h₀ L s.heap news) (ho : s.heap.get? a = some (seqObj "list" vs.toArray n)) (haL : a ≠ L) (ha0 : h₀.get? a = none) (hna : ∀ p ∈ news, p.1 ≠ a)
    (h2 : vs.length < 2) (h : ∀ c h', Fr h₀ L h' m → News h₀ L h' ((a, lstO vs c) :: news) → P (.done (.ret .none)) { s with heap := h' }) :
    wpAny (model prog w) A (Builtin.«list.sort» ⟨[.ref a], []⟩) P E s := by
  have ha : a < s.heap.objs.size := Heap.lt_size ho
  have s1 := Heap.SameBut.update s.heap a (Obj.mapSeq fun _ => (#[] : Array Value))
  obtain ⟨e1, ho1⟩ : ∃ e1, (s.heap.update a (Obj.mapSeq fun _ => (#[] : Array Value))).get? a = some (seqObj "list" #[] e1) := ⟨_, get?_update_seq ho fun _ => #[]⟩
  have F3 : Fr h₀ L (((s.heap.update a (Obj.mapSeq fun _ => (#[] : Array Value))).push (seqObj "tuple" vs.toArray 0)).push (seqObj "list" #[] 0)) m := ((kas_fr F s1 haL ha0).push _).push _
  have N2 : News h₀ L (((s.heap.update a (Obj.mapSeq fun _ => (#[] : Array Value))).push (seqObj "tuple" vs.toArray 0)).push (seqObj "list" #[] 0)) news :=
    (kas_news N s1 hna).grown fun b x e => Heap.get?_push_of_some _ (Heap.get?_push_of_some _ e)
  have ho3 : (((s.heap.update a (Obj.mapSeq fun _ => (#[] : Array Value))).push (seqObj "tuple" vs.toArray 0)).push (seqObj "list" #[] 0)).get? a = some (seqObj "list" #[] e1) := Heap.get?_push_of_some _ (Heap.get?_push_of_some _ ho1)
  rw [list_sort_plain]
  refine wpAny_bind (listItems_at ho rfl ?_)
  refine wpAny_bind (listUpdate_at ho rfl ?_ (by rw [List.size_toArray, sizeLine_eq]; omega) (Nat.zero_le _))
  refine wpAny_bind (seqEpoch_at ho1 rfl ?_)
  refine wpAny_bind (wpAny_newTuple ?_ (by show vs.length ≤ _; rw [sizeLine_eq]; omega))
  refine wpAny_bind (wpAny_newList ?_ (Nat.zero_le _))
  refine wpAny_holding ?_
  show wpAny (model prog w) A _ P E { s with heap := ((s.heap.update a (Obj.mapSeq fun _ => (#[] : Array Value))).push (seqObj "tuple" vs.toArray 0)).push (seqObj "list" #[] 0) }
  dsimp only
  have hn2 : vs.toArray.size < 2 := by rw [List.size_toArray]; omega
  rw [if_pos hn2, if_pos hn2]
  refine wpAny_bind (wpAny_pure ?_)
  refine wpAny_bind (wpAny_pure ?_)
  dsimp only
  have hout : (arrOf (SortSt.mk' general' (vs.toArray.zip vs.toArray) #[] 7 none)).map (·.2) = vs.toArray := by
    exact few_map vs
  rw [hout]
  have s2 := Heap.SameBut.update (((s.heap.update a (Obj.mapSeq fun _ => (#[] : Array Value))).push (seqObj "tuple" vs.toArray 0)).push (seqObj "list" #[] 0)) a (Obj.mapSeq fun _ => vs.toArray)
  obtain ⟨c2, hc2⟩ : ∃ c2, ((((s.heap.update a (Obj.mapSeq fun _ => (#[] : Array Value))).push (seqObj "tuple" vs.toArray 0)).push (seqObj "list" #[] 0)).update a (Obj.mapSeq fun _ => vs.toArray)).get? a = some (seqObj "list" vs.toArray c2) := ⟨_, get?_update_seq ho3 fun _ => vs.toArray⟩
  refine wpAny_bind (seqEpoch_at ho3 rfl ?_)
  refine wpAny_bind (listUpdate_at ho3 rfl ?_ (Nat.zero_le _) (by rw [List.size_toArray, sizeLine_eq]; omega))
  simp only [bne_self_eq_false, Bool.false_eq_true, if_false]
  refine wpAny_pure (h c2 _ (kas_fr F3 s2 haL ha0) fun p hp => ?_)
  rcases List.mem_cons.mp hp with rfl | hp
  · exact ⟨hc2, haL, ha0⟩
  · exact kas_news N2 s2 hna p hp
theorem sorted_few {l : Addr} {Q : Value → Shared → Prop} (F : Fr h₀ L s.heap m) (N : News h₀ L s.heap news) (hl : s.heap.IsList l vs.toArray) (h2 : vs.length < 2)
    (h : ∀ D c h', Fr h₀ L h' m → News h₀ L h' ((D, lstO vs c) :: news) → (∀ q ∈ news, q.1 < D) → Q (.ref D) { s with heap := h' }) :
    wpAny (model prog w) A (call (.builtin "sorted") [.ref l]) Q E s := by
  refine Calls.call_function_entry kind_sorted plain_sorted entry_sorted (args_sorted1 _) ?_
  unfold Builtin.«sorted»
  refine wpAny_bind (m := checkCount "sorted" 1 1 _) (wpAny_pure ?_)
  refine wpAny_bind (collect_list hl ?_ (by rw [sizeLine_eq]; omega))
  refine wpAny_bind (wpAny_newList ?_ (by rw [sizeLine_eq]; omega))
  have hsz : ((s.heap.push (seqObj "list" #[] 0)).update s.heap.objs.size (Obj.mapSeq (· ++ vs.toArray))).objs.size = s.heap.objs.size + 1 := by
    rw [Heap.size_update, size_push']
  have hoL : (((s.heap.push (seqObj "list" #[] 0)).update s.heap.objs.size (Obj.mapSeq (· ++ vs.toArray))).push (seqObj "list" vs.toArray 0)).get? (s.heap.objs.size + 1) = some (seqObj "list" vs.toArray 0) := by
    rw [← hsz]; exact Heap.get?_push_size _ rfl
  have keep : ∀ b o, s.heap.get? b = some o → (((s.heap.push (seqObj "list" #[] 0)).update s.heap.objs.size (Obj.mapSeq (· ++ vs.toArray))).push (seqObj "list" vs.toArray 0)).get? b = some o := fun b o q => by
    have hlt : b < s.heap.objs.size := Heap.lt_size q
    rw [Heap.get?_push_ne _ _ _ (by rw [hsz]; exact Nat.ne_of_lt (Nat.lt_succ_of_lt hlt)), Heap.get?_update_ne _ _ _ _ (Nat.ne_of_lt hlt), Heap.get?_push_ne _ _ _ (Nat.ne_of_lt hlt)]
    exact q
  have hL : L < s.heap.objs.size := F.ns.lt
  show wpAny _ _ _ _ _ { s with heap := ((s.heap.push (seqObj "list" #[] 0)).update s.heap.objs.size (Obj.mapSeq (· ++ vs.toArray))).push (seqObj "list" vs.toArray 0) }
  rw [hsz]
  refine wpAny_bind (wpAny_holding (wpAny_call_entry slot_list_sort ⟨_, hoL, rfl⟩ entry_list_sort ?body (args_list_sort _)))
  case body =>
    refine list_sort_few (s := { s with heap := ((s.heap.push (seqObj "list" #[] 0)).update s.heap.objs.size (Obj.mapSeq (· ++ vs.toArray))).push (seqObj "list" vs.toArray 0) })
      (F.kept keep) (N.grown keep) hoL (Nat.ne_of_gt (Nat.lt_succ_of_lt hL)) (Heap.get?_none_of_le (Nat.le_trans F.above (Nat.le_succ_of_le (Nat.le_of_lt hL))))
      (fun p hp => Nat.ne_of_lt (Nat.lt_succ_of_lt (Heap.lt_size (N p hp).1))) h2 fun c h' F' N' => ?_
    exact ⟨_, rfl, wpAny_pure ⟨_, rfl, h _ c h' F' N' fun q hq => Nat.lt_succ_of_lt (Heap.lt_size (N q hq).1)⟩⟩

theorem sg_eq {a b : Nat} : sg a = sg b ↔ a = b := ⟨fun h => by injection h with h; simpa using h, fun h => h ▸ rfl⟩
theorem sg_lt {a b : Nat} : (sg a).cps.toList < (sg b).cps.toList ↔ a < b := by
  show [a] < [b] ↔ a < b
  constructor
  · intro h
    cases h with
    | cons h' => cases h'
    | rel h' => exact h'
  · intro h; exact .rel h
/-- a row of below: a sign, a number -/
theorem row_lt {ta tb : Addr} {x y : Nat} {cs : List Nat} {Q : Bool → Shared → Prop} (N : News h₀ L s.heap news) (hx : TupAt news (.ref ta) (rowB cs x)) (hy : TupAt news (.ref tb) (rowB cs y)) (hne : cg cs x ≠ cg cs y)
    (h : Q (decide (cg cs x < cg cs y)) s) : wpAny (model prog w) A (keyLt' (tuples' true) (.ref ta) (.ref tb)) Q E s := by
  obtain ⟨a, va, na, e, ma, ca⟩ := hx
  cases e
  obtain ⟨a', vb, nb, e, mb, cb⟩ := hy
  cases e
  cases ca with
  | cons c1 ca =>
    cases c1
    cases ca with
    | cons c2 ca =>
      cases c2
      cases ca
      cases cb with
      | cons c1' cb =>
        cases c1'
        cases cb with
        | cons c2' cb =>
          cases c2'
          cases cb
          refine kat_lt (N.get ma) rfl (N.get mb) rfl (kat_cons ?_)
          refine wpAny_eqBool_str ?_
          rw [decide_eq_false (fun e => hne (sg_eq.mp e))]
          refine kat_no ?_
          refine oneLt_str ?_
          have e : decide ((sg (cg cs x)).cps.toList < (sg (cg cs y)).cps.toList) = decide (cg cs x < cg cs y) := by
            by_cases q : cg cs x < cg cs y
            · rw [decide_eq_true q, decide_eq_true (sg_lt.mpr q)]
            · rw [decide_eq_false q, decide_eq_false (fun z => q (sg_lt.mp z))]
          rw [e]
          exact h
theorem rows_tups {us : List Int} {cs : List Nat} {nd : Int} : ∀ {vs : List Value} {ks : List Nat}, News h₀ L s.heap news → Rows news vs (ks.map (rowB cs)) → ∃ fs, KatTups s.heap vs fs ∧ fs.length = vs.length ∧ ∀ v ∈ fs, ∃ x t, v = .str x t
  | [], [], _, _ => ⟨[], KatTups.nil, rfl, fun _ h => nomatch h⟩
  | _ :: _, [], _, h => nomatch h
  | [], _ :: _, _, h => nomatch h
  | v :: vs, k :: ks, N, h => by
    cases h with
    | cons h1 h2 =>
      obtain ⟨fs, a, b, c⟩ := rows_tups (us := us) (nd := nd) N h2
      obtain ⟨ta, va, na, e, ma, ca⟩ := h1
      subst e
      cases ca with
      | cons c1 ca =>
        generalize hx : Cell.s (sg (cg cs k)) = cc at c1
        cases c1 with
        | i _ _ => cases hx
        | s x t =>
          refine ⟨.str x t :: fs, KatTups.cons (N.get ma) rfl rfl rfl a, by simp [b], fun v hv => ?_⟩
          rcases List.mem_cons.mp hv with rfl | hv
          · exact ⟨_, _, rfl⟩
          · exact c v hv
theorem sorted_rows {us : List Int} {cs : List Nat} {nd : Int} (T : TreeOk us cs) (hn : 0 ≤ nd) {l : Addr} {n : Nat} {Q : Value → Shared → Prop} (F : Fr h₀ L s.heap m) (N : News h₀ L s.heap ((l, lstO vs n) :: news)) (hR : Rows news vs ((cand us nd 7).map (rowB cs)))
    (h : ∀ D vs' c h', Fr h₀ L h' m → News h₀ L h' ((D, lstO vs' c) :: news) → Rows news vs' ((kids us cs nd).map (rowB cs)) → Q (.ref D) { s with heap := h' }) :
    wpAny (model prog w) A (call (.builtin "sorted") [.ref l]) Q E s := by
  have hl : s.heap.IsList l vs.toArray := ⟨_, (N _ (.head _)).1, rfl, n, rfl⟩
  have N1 : News h₀ L s.heap news := News.sub N fun p hp => .tail _ hp
  have hlen : vs.length = (cand us nd 7).length := by rw [hR.length, List.length_map]
  have h6 : vs.length ≤ 6 := hlen ▸ cand_len T hn
  by_cases h2 : vs.length < 2
  · refine sorted_few F N1 hl h2 fun D c h' F' N' _ => h D vs c h' F' N' ?_
    have e : kids us cs nd = cand us nd 7 := by
      unfold kids
      match cand us nd 7, hlen ▸ h2 with
      | [], _ => rfl
      | [_], _ => rfl
    rw [e]; exact hR
  · refine kat_sorted F N1 hl (by omega) (by omega) fun D e1 h' F' N' hlt => ?_
    have N2 : News h₀ L h' news := News.sub N' fun p hp => .tail _ hp
    obtain ⟨fs, kt, fl, fa⟩ := rows_tups (us := us) (nd := nd) (s := { s with heap := h' }) N2 hR
    refine kat_kind (s := { s with heap := h' }) (T := .type "str") kt (by omega) (fun v hv => by obtain ⟨x, t, rfl⟩ := fa v hv; exact Looks.of_pure rfl) rfl ?_
    have hk : ∀ i, i < vs.length → (cand us nd 7).getD i 0 ∈ cand us nd 7 := fun i hi => by
      have : (cand us nd 7).getD i 0 = (cand us nd 7)[i]'(by omega) := by simp [show i < (cand us nd 7).length by omega]
      rw [this]; exact List.getElem_mem _
    have hrow : ∀ i, i < vs.length → TupAt news (vs.getD i Value.none) (rowB cs ((cand us nd 7).getD i 0)) := fun i hi => by
      have e1 : ((cand us nd 7).map (rowB cs))[i]? = some (rowB cs ((cand us nd 7).getD i 0)) := by
        rw [List.getElem?_map, List.getElem?_eq_getElem (by omega)]
        simp [show i < (cand us nd 7).length by omega]
      obtain ⟨v, ev, hv⟩ := hR.get e1
      have : vs.getD i Value.none = v := by simp [List.getD_eq_getElem?_getD, ev]
      rw [this]; exact hv
    have hnd : ∀ i j, i < vs.length → j < vs.length → cg cs ((cand us nd 7).getD i 0) = cg cs ((cand us nd 7).getD j 0) → i = j := fun i j hi hj e => by
      have e2 := T.inj _ _ (mem_cand.mp (hk i hi)).1 (mem_cand.mp (hk j hj)).1 e
      have q1 : (cand us nd 7).getD i 0 = (cand us nd 7)[i]'(by omega) := by simp [show i < (cand us nd 7).length by omega]
      have q2 : (cand us nd 7).getD j 0 = (cand us nd 7)[j]'(by omega) := by simp [show j < (cand us nd 7).length by omega]
      rw [q1, q2] at e2
      exact (List.getElem_inj cand_nodup).mp e2
    obtain ⟨ok, asc, mem⟩ := sort_spec (n := vs.length) (by omega) h6 (lt := fun i j => decide (cg cs ((cand us nd 7).getD i 0) < cg cs ((cand us nd 7).getD j 0))) (key := fun i => cg cs ((cand us nd 7).getD i 0)) (fun _ _ _ _ => rfl) hnd
    refine kRun_wp (I := fun s' => ∃ h'', s' = { s with heap := h'' } ∧ Fr h₀ L h'' m ∧ News h₀ L h'' ((D, seqObj "list" #[] e1) :: news)) (fun i j C s' hi hj hij hI hC => ?_) _ _ ok ⟨h', rfl, F', N'⟩ ?_
    · obtain ⟨h'', rfl, F3, N3⟩ := id hI
      unfold kas_ask
      have r1 := hrow i hi
      have r2 := hrow j hj
      obtain ⟨a, _, _, ea, _⟩ := id r1
      obtain ⟨b, _, _, eb, _⟩ := id r2
      rw [ea, eb]
      rw [ea] at r1
      rw [eb] at r2
      exact row_lt (News.sub N3 fun p hp => .tail _ hp) r1 r2 (fun e => hij (hnd i j hi hj e)) (hC _ hI)
    · rintro s' ⟨h'', rfl, F3, N3⟩
      refine KasFin.intro F3 N3 (UpdF.head fun p hp => Nat.ne_of_lt (hlt p hp)) fun h3 c F4 N4 => h D _ c h3 F4 N4 ?_
      have e : kids us cs nd = (kRun (fun i j => decide (cg cs ((cand us nd 7).getD i 0) < cg cs ((cand us nd 7).getD j 0))) (kas_sort vs.length)).toList.map fun i => (cand us nd 7).getD i 0 := by
        refine (kids_eq T (List.pairwise_map.mpr (List.pairwise_map.mp asc)) fun x => ?_).symm
        rw [← mem_cand]
        constructor
        · intro hx
          obtain ⟨i, hi, rfl⟩ := List.mem_map.mp hx
          exact hk i ((mem i).mp hi)
        · intro hx
          obtain ⟨i, hi, rfl⟩ := List.getElem_of_mem hx
          exact List.mem_map.mpr ⟨i, (mem i).mpr (by omega), by simp [hi]⟩
      rw [e, List.map_map]
      exact All2.maps fun i hi => hrow i ((mem i).mp hi)
end
end
section
set_option maxRecDepth 100000
set_option maxHeartbeats 8000000
theorem fresh_Bel : True := by (w_top off; trivial)
local macro_rules | `(tactic| walk_at "subscriptTail") => `(tactic| (k_here; (with_reducible show wpAny _ _ (subscriptTail _ _ (Value.ref _) (Value.int _ _)) _ _ _); k_dflt (refine' item_h ?F ?l ?x ?i ?_; (case F => k_asm); (case l => k_asm); (case x => k_asm); (case i => omega); k_whole)))
local macro_rules | `(tactic| walk_at "eval ListComp") => `(tactic| (k_here; k_dflt (refine LCt.ListComp_T (F₀ := by k_asm) (by with_unfolding_all rfl) (by decide) (by rfl) (by decide) (by rfl) ?_)))
local macro_rules | `(tactic| walk_at "CompSrcT") => `(tactic| (k_here; k_dflt (refine LCt.CompSrcT.range (n := 7) (by rfl) (by k_asm) (by k_asm) (by assumption) (by first | decide | rfl) (by first | rfl | decide) (by first | size_fits | exact Nat.le_of_ble_eq_true rfl) ?_; refine Stop.out ?_)))
set_option hygiene false in
local macro_rules | `(tactic| walk_at "call builtin:sorted") => `(tactic| fail "mine")
theorem below_spec (w : World) (dp un : Nat) (fr : Option (List Env)) (gd : Option (List Code)) (s : Shared) (ups names : Addr) (uv nv : List Value) (us : List Int) (cs : List Nat) (nd : Int) (t : Tok)
   (Q E : Value → Shared → Prop) (T : TreeOk us cs)
   (hdp : dp < 600) (hun : un < 9000) (G : Gd w s.heap) (hU : s.heap.IsList ups uv.toArray) (hUI : All2 CellV uv (us.map Cell.i)) (hN : s.heap.IsList names nv.toArray) (hNS : All2 CellV nv (cs.map fun c => Cell.s (sg c)))
   (hn : 0 ≤ nd) (hQ : ∀ D vs n tl h' tk', Kp s.heap h' → New s.heap h' tl → (D, lstO vs n) ∈ tl → Rows tl vs ((kids us cs nd).map (rowB cs)) → Q (.ref D) { s with heap := h', toks := tk' }) :
   wpAny (model PySem.Challenge.rw_xo0006_01.row.prog w) (AR dp fr gd un) (call (.ref 141) [.ref ups, .ref names, .int nd t]) Q E s := by
  ((have hX0 : (hd.heap_39 w.params).In s.heap := G.1); revert hX0; k_fill; intro hX0; obtain ⟨mean, mg, mb, T0⟩ := G.2)
  refine wpAny_call ?_
  refine' codeFC (binds := [(Str.ofString "ups", .ref ups), (Str.ofString "names", .ref names), (Str.ofString "node", .int nd t)]) hX0 T0 ?k6 ?k7 ?k8 ?k9 ?kB ?kD ?c3 ?c4 ?c5 ?_
  ((case k6 => k_is); (case k7 => k_is); (case k8 => (simp only [recursionLimit]; omega)); (case k9 => exact BindsTo.of_eq rfl); (case kB => exact rfl); (case kD => decide +kernel); (case c3 => exact rfl); (case c4 => exact rfl); (case c5 => exact rfl); k_whole)
  intro L' h' tk' cells' F' N' Y'
  obtain ⟨o1, o2, o3, he, d1, d2, d3⟩ := CellsAre.three Y'
  subst he
  clear Y'
  simp only [List.cons_append, List.nil_append] at N'
  dsimp only
  k_fold
  k_steps
  · show ∀ g, _
    intro g
    refine compT_ind (J := fun i ys news => ∃ tl, news = _ :: _ :: _ :: tl ∧ Rows tl ys ((cand us nd i).map (rowB cs))) 7 ?step ?fin 7 0 [] _ rfl ⟨[], rfl, .nil⟩
    case step =>
      rintro i ys news hi ⟨tl, rfl, hR⟩ v I oI C oC D m₂ h tk E' ⟨tv, rfl⟩ hC hx F N off ne
      rw [Int.zero_add] at hx
      obtain ⟨v1, hv1, c1⟩ := hUI.get (i := i) (b := Cell.i (ug us i)) (by rw [List.getElem?_map, List.getElem?_eq_getElem (by rw [T.lu]; exact hi)]; simp [ug, T.lu, hi])
      obtain ⟨v2, hv2, c2⟩ := hNS.get (i := i) (b := Cell.s (sg (cg cs i))) (by rw [List.getElem?_map, List.getElem?_eq_getElem (by rw [T.lc]; exact hi)]; simp [cg, T.lc, hi])
      obtain ⟨t1, rfl⟩ := c1.int
      obtain ⟨t2, rfl⟩ := c2.str
      have off' := off
      simp only [LCg.Off3] at off'
      k_steps
      · rename_i hq D' h' F' N' hlt
        obtain ⟨l1, l2, l3, l4, l5, l6, l7⟩ := hlt
        refine LCg.CompEnd.intro F' N' ((L' + 1 + 1 + 1, o1) :: (L' + 1 + 1, o2) :: (L' + 1, o3) :: (D', tupO [Value.str (sg (cg cs i)) t2, Value.int (i : Int) tv] 0) :: tl) ?_ ⟨off'.1, off'.2.1, off'.2.2.1, ⟨Nat.ne_of_gt l1, Nat.ne_of_gt l2, Nat.ne_of_gt l3⟩, off'.2.2.2⟩ trivial ?_
        · intro p hp
          (revert hp; revert p; walk_at "mine.sub")
        · refine ⟨_, rfl, ?_⟩
          rw [cand_succ, if_pos hq, List.map_append]
          exact (hR.sub fun p hp => .tail _ hp).app (.cons ⟨D', _, _, rfl, .head _, .cons (.s _ _) (.cons (.i _ _) .nil)⟩ .nil)
      · rename_i hq
        refine LCg.CompEnd.intro F N ((L' + 1 + 1 + 1, o1) :: (L' + 1 + 1, o2) :: (L' + 1, o3) :: tl) (fun p hp => hp) off' trivial ⟨tl, rfl, ?_⟩
        rw [cand_succ, if_neg hq, List.append_nil]
        exact hR
    case fin =>
      rintro ys news ⟨tl, rfl, hR⟩
      unfold LCg.FinE
      intro D h tk F N off
      k_steps
      refine sorted_rows T hn F N (hR.sub fun p hp => .tail _ (.tail _ (.tail _ hp))) fun D' vs' c h' F' N' hR' => ?_
      exact hQ D' vs' c ((D', lstO vs' c) :: (L' + 1 + 1 + 1, o1) :: (L' + 1 + 1, o2) :: (L' + 1, o3) :: tl) h' _ F'.keep (New.of N') (.head _) (hR'.sub fun p hp => .tail _ hp)
  all_goals exact default
end
section
set_option maxRecDepth 100000
set_option maxHeartbeats 4000000
theorem fresh_Loo : True := by (w_top off; trivial)
/-- the end of a turn: the iterator stands, the word holds of the names and of the ledger less the iterator -/
def LEnd (h₀ : Heap) (L : Addr) (I : Addr) (it : Obj) (s₁ : Shared) (J : (Str → Option Value) → List (Addr × Obj) → Prop) (s₂ : Shared) : Prop :=
  ∃ h' tk m' news', s₂ = { s₁ with heap := h', toks := tk } ∧ Fr h₀ L h' m' ∧ News h₀ L h' ((I, it) :: news') ∧ (∀ p ∈ news', p.1 ≠ I) ∧ J m' news'
def LPost (h₀ : Heap) (L : Addr) (I : Addr) (it : Obj) (s₁ : Shared) (J : (Str → Option Value) → List (Addr × Obj) → Prop) (Q : Flow → Shared → Prop) (f : Flow) (s₂ : Shared) : Prop :=
  match f with
  | .ret v => Q (.ret v) s₂
  | .brk => Q .next s₂
  | _ => LEnd h₀ L I it s₁ J s₂
theorem LEnd.intro {h₀ : Heap} {L I : Addr} {it : Obj} {s₁ : Shared} {J : (Str → Option Value) → List (Addr × Obj) → Prop} {h' : Heap} {tk : Nat} {m' : Str → Option Value} {all : List (Addr × Obj)} (F : Fr h₀ L h' m') (N : News h₀ L h' all) (news' : List (Addr × Obj))
    (sub : ∀ p ∈ (I, it) :: news', p ∈ all) (off : ∀ p ∈ news', p.1 ≠ I) (j : J m' news') : LEnd h₀ L I it s₁ J { s₁ with heap := h', toks := tk } := ⟨h', tk, m', news', rfl, F, fun p hp => N p (sub p hp), off, j⟩
/-- a tuple, of the ledger or of what stood -/
def TupIn (h₀ : Heap) (news : List (Addr × Obj)) (T : Addr) (vs : List Value) : Prop := IsTup h₀ T vs.toArray ∨ ∃ n, (T, tupO vs n) ∈ news
theorem TupIn.at {h₀ h : Heap} {L T : Addr} {news : List (Addr × Obj)} {vs : List Value} (x : TupIn h₀ news T vs) (k : ∀ b o, h₀.get? b = some o → h.get? b = some o) (N : News h₀ L h news) : IsTup h T vs.toArray := by
  rcases x with ⟨o, e, r⟩ | ⟨n, hm⟩
  · exact ⟨o, k _ _ e, r⟩
  · exact ⟨_, N.get hm, rfl, n, rfl⟩
abbrev itO (o : Obj) (ax : Addr) (i : Nat) : Prop := o.cls = .type "list_iterator" ∧ o.data = .fields #[.ref ax, .int i 0]
section
variable {prog : Program} {w : World} {A : Around} {E : Value → Shared → Prop} {s : Shared} {env : Env} {h₀ : Heap} {m : Str → Option Value} {news : List (Addr × Obj)} {body : List Stmt} {Q : Flow → Shared → Prop}
/-- a for over a list, whatever the target: asg says what the target makes of an item -/
theorem for_list {target : Expr} {ax : Addr} {its : Array Value} (J : Nat → (Str → Option Value) → List (Addr × Obj) → Prop) (B : Nat → List (Addr × Obj) → (Str → Option Value) → (Str → Option Value) → Prop)
    (hh : A.handled = none) (F : Fr h₀ env.locals s.heap m) (N : News h₀ env.locals s.heap news) (h0 : J 0 m news)
    (src : ∀ i m₁ news₁, J i m₁ news₁ → LCg.SrcAt h₀ ax its news₁)
    (asg : ∀ i v m₁ news₁ (I : Addr) (s₁ : Shared) (Q' : Unit → Shared → Prop) (E' : Value → Shared → Prop), its[i]? = some v → J i m₁ news₁ → s₁.heap.IsListIter I ax (i + 1) → Fr h₀ env.locals s₁.heap m₁ → News h₀ env.locals s₁.heap news₁ →
      (∀ m₂ h' tk, B i news₁ m₁ m₂ → h'.Ns env.locals m₂ → Heap.SameBut env.locals s₁.heap h' ∨ (∀ b o, b ≠ env.locals → s₁.heap.get? b = some o → h'.get? b = some o) → Q' () { s₁ with heap := h', toks := tk }) →
      wpAny (model prog w) A (letOwnedTupleGo target (.ref I) v) (fun _ s' => wpAny (model prog w) A (assign target env v) Q' E' s') E' s₁)
    (turn : ∀ i v m₁ m₂ news₁ (I : Addr) oI h tk, i < its.size → its[i]? = some v → itO oI ax (i + 1) → J i m₁ news₁ → B i news₁ m₁ m₂ → (∀ p ∈ news₁, p.1 ≠ I) → Fr h₀ env.locals h m₂ → News h₀ env.locals h ((I, oI) :: news₁) →
      wpAny (model prog w) A (execs body env) (LPost h₀ env.locals I oI { s with heap := h, toks := tk } (J (i + 1)) Q) E { s with heap := h, toks := tk })
    (done : ∀ m₁ news₁ h tk, J its.size m₁ news₁ → Fr h₀ env.locals h m₁ → News h₀ env.locals h news₁ → Q .next { s with heap := h, toks := tk })
    (hE : PassesOwn (model prog w) A env E) :
    wpAny (model prog w) A (pyIter (.ref ax)) (fun it s₂ => codeAny (model prog w) A (.forLoop target it body [] env) (fun r s' => match r with | .ok f => Q f s' | .error e => cameBackBy (model prog w) A env E e s') s₂) E s := by
  have hl := (src 0 m news h0).list F.keep N
  refine wpAny_pyIter_list hl ?_
  have hlt : ax < s.heap.objs.size := by obtain ⟨_, e, _⟩ := hl; exact Heap.lt_size e
  have hL : env.locals < s.heap.objs.size := F.ns.lt
  have hIL : env.locals ≠ s.heap.objs.size := Nat.ne_of_lt hL
  have hI₀ : h₀.get? s.heap.objs.size = none := next_is_new F
  have up : ∀ b o, s.heap.get? b = some o → (s.heap.push { cls := .type "list_iterator", data := .fields #[.ref ax, .int 0 0] }).get? b = some o := fun b o e => Heap.get?_push_of_some _ e
  refine codeAny_forLoop_any
    (fun k s' => ∃ h' tk m' news' i, s' = { s with heap := h', toks := tk } ∧ h'.IsListIter s.heap.objs.size ax i ∧ Fr h₀ env.locals h' m' ∧ News h₀ env.locals h' news' ∧ (∀ p ∈ news', p.1 ≠ s.heap.objs.size) ∧ J i m' news' ∧ i ≤ its.size ∧ k = its.size + 1 - i) ?_ (its.size + 1)
    ⟨_, s.toks, m, news, 0, rfl, ⟨_, Heap.get?_push_size _ rfl, rfl, rfl⟩, F.push _, N.grown up, fun p hp => Nat.ne_of_lt (Heap.lt_size (N p hp).1), h0, Nat.zero_le _, rfl⟩
  rintro k s' ⟨H, tk, m', news', i, rfl, hit, F', N', off', hJ, hi, rfl⟩
  have hl' := (src i m' news' hJ).list F'.keep N'
  by_cases hlt' : i < its.size
  · have hx : its[i]? = some its[i] := by simp [hlt']
    refine wpAny_pyNext_list_item hit hl' hx fun h₁ hit₁ hs₁ => ?_
    have F₁ : Fr h₀ env.locals h₁ m' := F'.change hs₁ (Ne.symm hIL) hI₀
    have N₁ : News h₀ env.locals h₁ news' := fun p hp => ⟨hs₁.extBut _ _ (off' p hp) (N' p hp).1, (N' p hp).2⟩
    refine asg i its[i] m' news' s.heap.objs.size _ _ _ hx hJ hit₁ F₁ N₁ fun m₂ h₂ tk₂ hB hn₂ hs₂ => ?_
    have hk₂ : ∀ b o, b ≠ env.locals → h₁.get? b = some o → h₂.get? b = some o := fun b o hb e => by
      rcases hs₂ with hs₂ | hs₂
      · exact hs₂.extBut b o hb e
      · exact hs₂ b o hb e
    have hL₀ : h₀.get? env.locals = none := Heap.get?_none_of_le F₁.above
    have F₂ : Fr h₀ env.locals h₂ m₂ := ⟨hn₂, fun b o e => hk₂ b o (fun q => by rw [q, hL₀] at e; cases e) (F₁.keep b o e), F₁.above⟩
    obtain ⟨oI, hoI, hcI, hdI⟩ := hit₁
    have N₂ : News h₀ env.locals h₂ ((s.heap.objs.size, oI) :: news') := fun p hp => by
      rcases List.mem_cons.mp hp with rfl | hp
      · exact ⟨hk₂ _ _ (Ne.symm hIL) hoI, Ne.symm hIL, hI₀⟩
      · exact ⟨hk₂ _ _ (N₁ p hp).2.1 (N₁ p hp).1, (N₁ p hp).2⟩
    refine wpAny_mono (wpAny_passesOwn hE (turn i its[i] m' m₂ news' s.heap.objs.size oI h₂ tk₂ hlt' hx ⟨hcI, hdI⟩ hJ hB off' F₂ N₂)) (fun f s₃ h₃ => ?_) fun _ _ e => e
    have fin : LEnd h₀ env.locals s.heap.objs.size oI { s with heap := h₂, toks := tk₂ } (J (i + 1)) s₃ → ∃ k, k < its.size + 1 - i ∧ ∃ h' tk m' news' i, s₃ = { s with heap := h', toks := tk } ∧ h'.IsListIter s.heap.objs.size ax i ∧ Fr h₀ env.locals h' m' ∧ News h₀ env.locals h' news' ∧ (∀ p ∈ news', p.1 ≠ s.heap.objs.size) ∧ J i m' news' ∧ i ≤ its.size ∧ k = its.size + 1 - i := by
      rintro ⟨h', tk, m'', news'', rfl, F₃, N₃, off₃, hJ₃⟩
      exact ⟨its.size + 1 - (i + 1), by omega, h', tk, m'', news'', i + 1, rfl, ⟨oI, (N₃ _ (.head _)).1, hcI, hdI⟩, F₃, fun p hp => N₃ p (.tail _ hp), off₃, hJ₃, hlt', rfl⟩
    cases f with
    | ret v => exact h₃
    | brk => exact h₃
    | next => exact fin h₃
    | cont => exact fin h₃
  · have e : i = its.size := by omega
    subst e
    refine wpAny_pyNext_list_end hh hit hl' (by simp) fun h₁ hs₁ => wpAny_execs_nil ?_
    have F₁ : Fr h₀ env.locals h₁ m' := LCg.fr_but (I := s.heap.objs.size) F' (fun b o hb e => hs₁ b o (by simpa using hb) e) hIL hI₀
    have N₁ : News h₀ env.locals h₁ news' := LCg.news_but (I := s.heap.objs.size) N' (fun b o hb e => hs₁ b o (by simpa using hb) e) off'
    exact done m' news' h₁ tk hJ F₁ N₁

def ForAt (prog : Program) (w : World) (A : Around) (target : Expr) (body : List Stmt) (env : Env) (Q : Flow → Shared → Prop) (E : Value → Shared → Prop) (xv : Value) (s₁ : Shared) : Prop :=
  wpAny (model prog w) A (pyIter xv) (fun it s₂ => codeAny (model prog w) A (.forLoop target it body [] env) (fun r s' => match r with | .ok f => Q f s' | .error e => cameBackBy (model prog w) A env E e s') s₂) E s₁
theorem For_at {target iter : Expr} {pos : Pos} (h : wpAny (model prog w) A (eval iter env) (ForAt prog w A target body env Q E) E s)
    (hs : ∀ x, foldedSetIterable iter env x = pure x := by intro _; rfl) :
    wpAny (model prog w) A (exec (.For target iter body [] pos) env) Q E s := wpAny_For h hs
theorem for_name {x : Str} {px : Pos} {ax : Addr} {its : Array Value} (J : Nat → (Str → Option Value) → List (Addr × Obj) → Prop)
    (hx : env.kindOf x = some .local) (hp : (env.scope.kind == .class || (env.scope.kind == .module && env.locals != env.globals)) = false)
    (hh : A.handled = none) (F : Fr h₀ env.locals s.heap m) (N : News h₀ env.locals s.heap news) (h0 : J 0 m news)
    (src : ∀ i m₁ news₁, J i m₁ news₁ → LCg.SrcAt h₀ ax its news₁)
    (turn : ∀ i v m₁ news₁ (I : Addr) oI h tk, i < its.size → its[i]? = some v → itO oI ax (i + 1) → J i m₁ news₁ → (∀ p ∈ news₁, p.1 ≠ I) → Fr h₀ env.locals h (fun y => if y = x then some v else m₁ y) → News h₀ env.locals h ((I, oI) :: news₁) →
      wpAny (model prog w) A (execs body env) (LPost h₀ env.locals I oI { s with heap := h, toks := tk } (J (i + 1)) Q) E { s with heap := h, toks := tk })
    (done : ∀ m₁ news₁ h tk, J its.size m₁ news₁ → Fr h₀ env.locals h m₁ → News h₀ env.locals h news₁ → Q .next { s with heap := h, toks := tk })
    (hE : PassesOwn (model prog w) A env E := by passes_own) :
    ForAt prog w A (.Name x px) body env Q E (.ref ax) s := by
  refine for_list J (fun i _ m₁ m₂ => ∃ v, its[i]? = some v ∧ m₂ = fun y => if y = x then some v else m₁ y) hh F N h0 src ?_ ?_ done hE
  · intro i v m₁ news₁ I s₁ Q' E' hv hJ hit F₁ N₁ k
    refine wpAny_of_eq (show letOwnedTupleGo (.Name x px) (.ref I) v = pure () from rfl) ?_
    exact wpAny_assign_Name (wpAny_storeName_local hx F₁.ns (fun h' hn hs => k _ h' _ ⟨v, hv, rfl⟩ hn (.inl hs)) hp)
  · rintro i v m₁ m₂ news₁ I oI h tk hi hv ho hJ ⟨v', hv', rfl⟩ off F₁ N₁
    rw [hv] at hv'
    cases hv'
    exact turn i v m₁ news₁ I oI h tk hi hv ho hJ off F₁ N₁
theorem for_pair {x₁ x₂ : Str} {p₁ p₂ pt : Pos} {x1 : Nat} {ax : Addr} {its : Array Value} (J : Nat → (Str → Option Value) → List (Addr × Obj) → Prop) (P : Nat → Value → Value → Prop)
    (hx₁ : env.kindOf x₁ = some .local) (hx₂ : env.kindOf x₂ = some .local) (hp : (env.scope.kind == .class || (env.scope.kind == .module && env.locals != env.globals)) = false)
    (hh : A.handled = none) (F : Fr h₀ env.locals s.heap m) (N : News h₀ env.locals s.heap news) (h0 : J 0 m news)
    (src : ∀ i m₁ news₁, J i m₁ news₁ → LCg.SrcAt h₀ ax its news₁)
    (pair : ∀ i m₁ news₁ v, J i m₁ news₁ → its[i]? = some v → ∃ T v0 v1, v = .ref T ∧ TupIn h₀ news₁ T [v0, v1] ∧ P i v0 v1)
    (turn : ∀ i T v0 v1 m₁ news₁ (I : Addr) oI h tk, i < its.size → its[i]? = some (.ref T) → P i v0 v1 → itO oI ax (i + 1) → J i m₁ news₁ → (∀ p ∈ news₁, p.1 ≠ I) →
      Fr h₀ env.locals h (fun y => if y = x₂ then some v1 else if y = x₁ then some v0 else m₁ y) → News h₀ env.locals h ((I, oI) :: news₁) →
      wpAny (model prog w) A (execs body env) (LPost h₀ env.locals I oI { s with heap := h, toks := tk } (J (i + 1)) Q) E { s with heap := h, toks := tk })
    (done : ∀ m₁ news₁ h tk, J its.size m₁ news₁ → Fr h₀ env.locals h m₁ → News h₀ env.locals h news₁ → Q .next { s with heap := h, toks := tk })
    (hE : PassesOwn (model prog w) A env E := by passes_own) :
    ForAt prog w A (.Tuple [.Name x₁ p₁, .Name x₂ p₂] x1 pt) body env Q E (.ref ax) s := by
  refine for_list J (fun i news₁ m₁ m₂ => ∃ T v0 v1, its[i]? = some (.ref T) ∧ P i v0 v1 ∧ m₂ = fun y => if y = x₂ then some v1 else if y = x₁ then some v0 else m₁ y) hh F N h0 src ?_ ?_ done hE
  · intro i v m₁ news₁ I s₁ Q' E' hv hJ hit F₁ N₁ k
    obtain ⟨T, v0, v1, rfl, hT, hP⟩ := pair i m₁ news₁ v hJ hv
    refine wpAny_letOwnedTupleGo_listiter hit ?_
    have ht := hT.at F₁.keep N₁
    refine assign_Tuple_tuple hh ht rfl rfl fun h₂ he => ?_
    have he' : ∀ b o, s₁.heap.get? b = some o → h₂.get? b = some o := fun b o e => he b o (Nat.ne_of_lt (Heap.lt_size e)) e
    refine assignInOrder_cons (wpAny_assign_Name (wpAny_storeName_local hx₁ (F₁.ns.at' fun o e => he' _ o e) (fun h₃ hn₃ hs₃ => ?_) hp))
    refine assignInOrder_cons (wpAny_assign_Name (wpAny_storeName_local hx₂ hn₃ (fun h₄ hn₄ hs₄ => ?_) hp))
    refine assignInOrder_nil ?_
    exact k _ h₄ _ ⟨T, v0, v1, hv, hP, rfl⟩ hn₄ (.inr fun b o hb e => hs₄.extBut b o hb (hs₃.extBut b o hb (he' b o e)))
  · rintro i v m₁ m₂ news₁ I oI h tk hi hv ho hJ ⟨T, v0, v1, hv', hT, rfl⟩ off F₁ N₁
    exact turn i T v0 v1 m₁ news₁ I oI h tk hi hv' hT ho hJ off F₁ N₁
end
end
section
set_option maxRecDepth 100000
set_option maxHeartbeats 4000000
theorem fresh_Ops : True := by (w_top off; trivial)
theorem Stop.mk' {P : Prop} (h : P) : P := h
section
variable {prog : Program} {w : World} {A : Around} {E : Value → Shared → Prop} {s : Shared} {h₀ : Heap} {L l r : Addr} {m : Str → Option Value} {news : List (Addr × Obj)} {vs us : List Value} {n k : Nat} {v : Value}
theorem append_top {Q : Value → Shared → Prop} (F : Fr h₀ L s.heap m) (N : News h₀ L s.heap ((l, lstO vs n) :: news)) (off : ∀ p ∈ news, p.1 ≠ l) (hz : vs.length ≤ sizeLine)
    (h : ∀ n' h', Fr h₀ L h' m → News h₀ L h' ((l, lstO (vs ++ [v]) n') :: news) → Q .none { s with heap := h' }) : wpAny (model prog w) A (call (.builtin "list.append") [.ref l, v]) Q E s := by
  have z := N _ (.head _)
  refine append_at (hsz := by rw [List.size_toArray]; exact hz) z.1 fun h₅ hs₅ hD₅ => h (n + 1) h₅ (F.change hs₅ z.2.1 z.2.2) fun p hp => ?_
  rcases List.mem_cons.mp hp with rfl | hp
  · refine ⟨hD₅.trans ?_, z.2⟩
    show some ({ cls := .type "list", data := .seq (vs.toArray.push v) (n + 1) } : Obj) = some (lstO (vs ++ [v]) (n + 1))
    rw [List.push_toArray]
  · exact ⟨hs₅.extBut _ _ (off p hp) (N p (.tail _ hp)).1, (N p (.tail _ hp)).2⟩
theorem extend_top {Q : Value → Shared → Prop} (F : Fr h₀ L s.heap m) (N : News h₀ L s.heap ((l, lstO vs n) :: news)) (off : ∀ p ∈ news, p.1 ≠ l) (hr : (r, lstO us k) ∈ news) (hz : vs.length + us.length ≤ sizeLine)
    (h : ∀ n' h', Fr h₀ L h' m → News h₀ L h' ((l, lstO (vs ++ us) n') :: news) → Q .none { s with heap := h' }) : wpAny (model prog w) A (call (.builtin "list.extend") [.ref l, .ref r]) Q E s := by
  have z := N _ (.head _)
  have e1 : vs.toArray.size = vs.length := List.size_toArray ..
  have e2 : us.toArray.size = us.length := List.size_toArray ..
  have hd : ¬(!vs.toArray.isEmpty && Builtin.List.listTooLong (vs.toArray.size + us.toArray.size)) = true := by
    intro q
    have q2 := (Bool.and_eq_true_iff.mp q).2
    simp only [Builtin.List.listTooLong, decide_eq_true_eq] at q2
    omega
  refine call_meets PySem.F.slot_list_extend ⟨_, z.1, rfl⟩ PySem.F.entry_list_extend (PySem.F.args_list_extend_2 _ _) (PySem.AutoSeq1.list_extend_list_list_0 l vs.toArray n r us.toArray k hd (by omega) (by omega)) ⟨z.1, (N _ (.tail _ hr)).1, ?_⟩
  have s1 := Heap.SameBut.update s.heap l (Obj.mapSeq fun x => x ++ us.toArray)
  have q := PySem.IsL.update z.1 (fun x => x ++ us.toArray)
  generalize (if ((vs.toArray ++ us.toArray).size == vs.toArray.size) = true then n else n + 1) = n' at q
  refine h n' _ (F.change s1 z.2.1 z.2.2) fun p hp => ?_
  rcases List.mem_cons.mp hp with rfl | hp
  · refine ⟨Eq.trans (show _ = some ({ cls := .type "list", data := .seq (vs.toArray ++ us.toArray) n' } : Obj) from q) ?_, z.2⟩
    rw [List.append_toArray]
  · exact ⟨s1.extBut _ _ (off p hp) (N p (.tail _ hp)).1, (N p (.tail _ hp)).2⟩
theorem extend_snd {q : Addr × Obj} {Q : Value → Shared → Prop} (F : Fr h₀ L s.heap m) (N : News h₀ L s.heap (q :: (l, lstO vs n) :: news)) (off : ∀ p ∈ q :: news, p.1 ≠ l) (hr : (r, lstO us k) ∈ news) (hz : vs.length + us.length ≤ sizeLine)
    (h : ∀ n' h', Fr h₀ L h' m → News h₀ L h' (q :: (l, lstO (vs ++ us) n') :: news) → Q .none { s with heap := h' }) : wpAny (model prog w) A (call (.builtin "list.extend") [.ref l, .ref r]) Q E s := by
  refine extend_top (n := n) (news := q :: news) F (News.sub N fun p hp => ?_) off (.tail _ hr) hz fun n' h' F' N' => h n' h' F' (News.sub N' fun p hp => ?_)
  · (revert hp; revert p; walk_at "mine.sub")
  · (revert hp; revert p; walk_at "mine.sub")
theorem three_a {x₁ x₂ x₃ : Str} {a b c v0 v1 : Option Value} {m0 : Str → Option Value} : (fun y => if y = x₂ then v1 else if y = x₁ then v0 else if y = x₃ then c else if y = x₂ then a else if y = x₁ then b else m0 y) = fun y => if y = x₂ then v1 else if y = x₁ then v0 else if y = x₃ then c else m0 y := by
  funext y
  by_cases h2 : y = x₂
  · simp [h2]
  · by_cases h1 : y = x₁
    · simp [h1]
    · simp [h1, h2]
theorem three_b {x₁ x₂ x₃ : Str} {c d v0 v1 : Option Value} {m0 : Str → Option Value} : (fun y => if y = x₃ then d else if y = x₂ then v1 else if y = x₁ then v0 else if y = x₃ then c else m0 y) = fun y => if y = x₃ then d else if y = x₂ then v1 else if y = x₁ then v0 else m0 y := by
  funext y
  by_cases h3 : y = x₃
  · simp [h3]
  · simp [h3]
theorem three_start {x₁ x₂ x₃ : Str} {m0 : Str → Option Value} : m0 = fun y => if y = x₃ then m0 x₃ else if y = x₂ then m0 x₂ else if y = x₁ then m0 x₁ else m0 y := by
  funext y
  by_cases h3 : y = x₃
  · rw [if_pos h3, h3]
  · rw [if_neg h3]
    by_cases h2 : y = x₂
    · rw [if_pos h2, h2]
    · rw [if_neg h2]
      by_cases h1 : y = x₁
      · rw [if_pos h1, h1]
      · rw [if_neg h1]
theorem two_names {x₁ x₂ : Str} {a b v0 v1 : Option Value} {m0 : Str → Option Value} : (fun y => if y = x₂ then v1 else if y = x₁ then v0 else if y = x₂ then a else if y = x₁ then b else m0 y) = fun y => if y = x₂ then v1 else if y = x₁ then v0 else m0 y := by
  funext y
  by_cases h2 : y = x₂
  · simp [h2]
  · by_cases h1 : y = x₁
    · simp [h1]
    · simp [h1, h2]
theorem two_start {x₁ x₂ : Str} {m0 : Str → Option Value} : m0 = fun y => if y = x₂ then m0 x₂ else if y = x₁ then m0 x₁ else m0 y := by
  funext y
  by_cases h2 : y = x₂
  · simp [h2]
  · by_cases h1 : y = x₁
    · by_cases h3 : x₁ = x₂ <;> simp [h1, h3]
    · simp [h1, h2]
theorem one_name {x₁ : Str} {a v0 : Option Value} {m0 : Str → Option Value} : (fun y => if y = x₁ then v0 else if y = x₁ then a else m0 y) = fun y => if y = x₁ then v0 else m0 y := by
  funext y
  by_cases h1 : y = x₁ <;> simp [h1]
theorem one_start {x₁ : Str} {m0 : Str → Option Value} : m0 = fun y => if y = x₁ then m0 x₁ else m0 y := by
  funext y
  by_cases h1 : y = x₁ <;> simp [h1]
theorem flat_len {α β : Type} {g : α → List β} {B : Nat} : ∀ {l : List α}, (∀ x ∈ l, (g x).length ≤ B) → (l.flatMap g).length ≤ l.length * B
  | [], _ => by simp
  | x :: l, h => by
    have ih := flat_len (l := l) fun y hy => h y (.tail _ hy)
    have h1 := h x (.head _)
    rw [List.flatMap_cons, List.length_append, List.length_cons, Nat.succ_mul]
    omega
theorem flat_boundG {α β : Type} {g : α → List β} {B : Nat} {p : α → Bool} {ks : List α} (i : Nat) (h6 : ks.length ≤ 6) (h : ∀ c ∈ ks, (g c).length ≤ B) : (((ks.take i).filter p).flatMap g).length ≤ 6 * B := by
  refine Nat.le_trans (flat_len (B := B) fun x hx => h x (List.mem_of_mem_take (List.mem_filter.mp hx).1)) (Nat.mul_le_mul_right B ?_)
  exact Nat.le_trans (List.length_filter_le _ _) (Nat.le_trans (by rw [List.length_take]; exact Nat.min_le_right _ _) h6)
theorem flat_splitG {α β : Type} {g : α → List β} {p : α → Bool} : ∀ {l : List α}, ((l.filter p).flatMap g).length + ((l.filter fun c => !p c).flatMap g).length = (l.flatMap g).length
  | [] => rfl
  | x :: l => by
    have ih := flat_splitG (g := g) (p := p) (l := l)
    simp only [List.filter_cons]
    cases h : p x <;> simp only [Bool.not_true, Bool.not_false, Bool.false_eq_true, if_true, if_false, List.flatMap_cons, List.length_append] <;> omega
theorem flat_nextG {α β : Type} {g : α → List β} {p : α → Bool} {ks : List α} {i : Nat} {c : α} (hc : ks[i]? = some c) :
    ((ks.take (i + 1)).filter p).flatMap g = ((ks.take i).filter p).flatMap g ++ if p c = true then g c else [] := by
  rw [List.take_add_one, hc, List.filter_append, List.flatMap_append]
  congr 1
  show ((List.filter p [c]).flatMap g) = _
  cases h : p c <;> simp [h]
theorem News.isLst (N : News h₀ L s.heap news) (hm : (l, lstO vs n) ∈ news) : s.heap.IsList l vs.toArray := ⟨_, N.get hm, rfl, n, rfl⟩
theorem add_two {b : Addr} {Q : Value → Shared → Prop} (F : Fr h₀ L s.heap m) (N : News h₀ L s.heap news) (hl : (l, lstO vs n) ∈ news) (hb : (b, lstO us k) ∈ news) (hz : vs.length + us.length ≤ sizeLine)
    (h : ∀ R h', Fr h₀ L h' m → News h₀ L h' ((R, lstO (vs ++ us) 0) :: news) → Q (.ref R) { s with heap := h' }) : wpAny (model prog w) A (binaryOp .Add (.ref l) (.ref b)) Q E s :=
  add_lists (hsz := hz) F N (News.isLst N hl) (News.isLst N hb) fun h' F' N' => h _ h' F' N'
end
open LCg LCp in
theorem compP_ind {prog : Program} {w : World} {A : Around} {h₀ : Heap} {L : Addr} {m : Str → Option Value} {env : Env} {elt : Expr} {x x₂ : Str} {scope : Scope} {cl : List (Str × Addr)} {s : Shared} {S : List (Addr × Obj) → Prop} {P : Nat → Value → Prop}
    {Fin : List Value → List (Addr × Obj) → Prop} (J : Nat → List Value → List (Addr × Obj) → Prop) (n : Nat)
    (step : ∀ i ys news, i < n → J i ys news → ∀ v, P i v → ∃ (t : Addr) (ot : Obj) (v₁ v₂ : Value) (nt : Nat), v = .ref t ∧ (t, ot) ∈ news ∧ ot.cls = .type "tuple" ∧ ot.data = .seq #[v₁, v₂] nt ∧
      ∀ I oI C oC D m₂ h tk (E' : Value → Shared → Prop), NsObj oC m₂ → m₂ x = some v₁ → m₂ x₂ = some v₂ → Fr h₀ L h m → News h₀ L h ((I, oI) :: (C, oC) :: (D, lst ys) :: news) → Off3 I C D news → ((@Ne Nat I C) ∧ (@Ne Nat I D) ∧ (@Ne Nat C D)) →
      wpAny (model prog w) A (eval elt (compEnvC scope cl C env)) (CompEnd h₀ L m { s with heap := h, toks := tk } I oI C oC D (lst ys) S (fun y news' => J (i + 1) (ys ++ [y]) news')) E' { s with heap := h, toks := tk })
    (fin : ∀ ys news, J n ys news → Fin ys news) : ∀ k i ys news, i + k = n → J i ys news → CompRestP prog w A h₀ L m env elt x x₂ scope cl s S P Fin k i ys news := by
  intro k
  induction k with
  | zero => intro i ys news e hJ; exact fin ys news (by have : i = n := by omega
                                                        exact this ▸ hJ)
  | succ k ih =>
    intro i ys news e hJ
    refine CompRestP.succ fun v hv => ?_
    obtain ⟨t, ot, v₁, v₂, nt, e1, e2, e3, e4, hs⟩ := step i ys news (by omega) hJ v hv
    refine ⟨t, ot, v₁, v₂, nt, e1, e2, e3, e4, fun I oI C oC D m₂ h tk E' h2 h3 h3' h4 h5 h6 h7 => wpAny_mono (hs I oI C oC D m₂ h tk E' h2 h3 h3' h4 h5 h6 h7) (fun y s'' hy => ?_) fun _ _ e => e⟩
    obtain ⟨a1, a2, a3, a4, a5, a6, a7, a8, a9⟩ := hy
    exact ⟨a1, a2, a3, a4, a5, a6, a7, a8, ih (i + 1) _ _ (by omega) a9⟩
end
section
set_option maxRecDepth 100000
set_option maxHeartbeats 8000000
theorem fresh_Wri : True := by (w_top off; trivial)
/-- a node's opening piece -/
def openP (c : Nat) : Str := if c = 34 ∨ c = 92 then Str.mk #[40, 34, 92, c, 34] else Str.mk #[40, 34, c, 34]
def lessK (cs : List Nat) (c : Nat) : Bool := decide (cg cs c < 125)
def wrT (us : List Int) (cs : List Nat) : Nat → Nat → List Str
  | 0, _ => []
  | f + 1, k => openP (cg cs k) :: (((kids us cs (k : Int)).filter (lessK cs)).flatMap (wrT us cs f) ++ Str.ofString " " :: (((kids us cs (k : Int)).filter fun c => !lessK cs c).flatMap (wrT us cs f) ++ [Str.ofString ")"]))
theorem cg_mem {us : List Int} {cs : List Nat} (T : TreeOk us cs) {k : Nat} (hk : k < 7) : cg cs k ∈ cs := by
  have : cg cs k = cs[k]'(by rw [T.lc]; exact hk) := by simp [cg, T.lc, hk]
  rw [this]; exact List.getElem_mem _
theorem openP_no {c : Nat} (hc : c = 34 ∨ c = 40 ∨ c = 41 ∨ c = 91 ∨ c = 92 ∨ c = 123 ∨ c = 126 ∨ c = 233 ∨ c = 937) (h : (Builtin.Str.occurrences (Str.ofString "\"\\") (sg c) 0 (Str.ofString "\"\\").length 1).isEmpty = true) :
    Str.ofString "(\"" ++ sg c ++ Str.ofString "\"" = openP c := by
  rcases hc with rfl | rfl | rfl | rfl | rfl | rfl | rfl | rfl | rfl <;> revert h <;> decide +kernel
theorem openP_yes {c : Nat} (hc : c = 34 ∨ c = 40 ∨ c = 41 ∨ c = 91 ∨ c = 92 ∨ c = 123 ∨ c = 126 ∨ c = 233 ∨ c = 937) (h : (Builtin.Str.occurrences (Str.ofString "\"\\") (sg c) 0 (Str.ofString "\"\\").length 1).isEmpty = false) :
    Str.ofString "(\"" ++ (Str.ofString "\\" ++ sg c) ++ Str.ofString "\"" = openP c := by
  rcases hc with rfl | rfl | rfl | rfl | rfl | rfl | rfl | rfl | rfl <;> revert h <;> decide +kernel
def JW (us : List Int) (cs : List Nat) (f : Nat) (m0 : Str → Option Value) (l' : Addr) (tl : List (Addr × Obj)) (p : Nat → Bool) (base : List Str) (ks : List Nat) (i : Nat) (m₁ : Str → Option Value) (news₁ : List (Addr × Obj)) : Prop :=
  (∃ a b, m₁ = fun y => if y = Str.ofString "child" then a else if y = Str.ofString "sign" then b else m0 y) ∧ ∃ ps n, news₁ = (l', lstO ps n) :: tl ∧ All2 CellV ps ((base ++ ((ks.take i).filter p).flatMap (wrT us cs f)).map Cell.s)
theorem rows_pair {cs ks : List Nat} {vs : List Value} {tl : List (Addr × Obj)} (h : Rows tl vs (ks.map (rowB cs))) {i : Nat} {v : Value} (hv : vs.toArray[i]? = some v) :
    ∃ T v0 v1, v = .ref T ∧ (∃ n, (T, tupO [v0, v1] n) ∈ tl) ∧ ∃ c, ks[i]? = some c ∧ (∃ t, v0 = .str (sg (cg cs c)) t) ∧ ∃ t, v1 = .int (c : Int) t := by
  obtain ⟨r, hr, ha⟩ := h.getL (i := i) (a := v) (by simpa using hv)
  rw [List.getElem?_map] at hr
  cases hc : ks[i]? with
  | none => rw [hc] at hr; cases hr
  | some c =>
    rw [hc] at hr
    cases hr
    obtain ⟨T, ws, n, e, hm, hw⟩ := ha
    obtain ⟨v0, v1, rfl, h1, h2⟩ := hw.two
    exact ⟨T, v0, v1, e, ⟨n, hm⟩, c, rfl, h1.str, h2.int⟩
theorem kids_len {us : List Int} {cs : List Nat} (T : TreeOk us cs) {nd : Int} (h : 0 ≤ nd) : (kids us cs nd).length ≤ 6 := by
  have e : ∀ l : List Nat, (l.foldr (insK cs) []).length = l.length := by
    have e1 : ∀ (c : Nat) (l : List Nat), (insK cs c l).length = l.length + 1 := by
      intro c l
      induction l with
      | nil => rfl
      | cons d r ih => unfold insK; split <;> simp [ih]
    intro l
    induction l with
    | nil => rfl
    | cons c l ih => rw [List.foldr_cons, e1, ih, List.length_cons]
  unfold kids
  rw [e]
  exact cand_len T h
theorem flat_bound {us : List Int} {cs : List Nat} {f B : Nat} {p : Nat → Bool} {ks : List Nat} (i : Nat) (h6 : ks.length ≤ 6) (h : ∀ c ∈ ks, (wrT us cs f c).length ≤ B) : (((ks.take i).filter p).flatMap (wrT us cs f)).length ≤ 6 * B := by
  refine Nat.le_trans (flat_len (B := B) fun x hx => h x (List.mem_of_mem_take (List.mem_filter.mp hx).1)) (Nat.mul_le_mul_right B ?_)
  exact Nat.le_trans (List.length_filter_le _ _) (Nat.le_trans (by rw [List.length_take]; exact Nat.min_le_right _ _) h6)
theorem flat_split {α β : Type} {g : α → List β} {p : α → Bool} : ∀ {l : List α}, ((l.filter p).flatMap g).length + ((l.filter fun c => !p c).flatMap g).length = (l.flatMap g).length
  | [] => rfl
  | x :: l => by
    have ih := flat_split (g := g) (p := p) (l := l)
    simp only [List.filter_cons]
    cases h : p x <;> simp only [Bool.not_true, Bool.not_false, Bool.false_eq_true, if_true, if_false, List.flatMap_cons, List.length_append] <;> omega
theorem wrT_len {us : List Int} {cs : List Nat} (T : TreeOk us cs) : ∀ (f k : Nat), (wrT us cs f k).length ≤ 4 * 7 ^ f - 4
  | 0, _ => Nat.zero_le _
  | f + 1, k => by
    have h6 := kids_len T (nd := (k : Int)) (by omega)
    have b1 := flat_split (g := wrT us cs f) (p := lessK cs) (l := kids us cs (k : Int))
    have b2 : ((kids us cs (k : Int)).flatMap (wrT us cs f)).length ≤ 6 * (4 * 7 ^ f - 4) := Nat.le_trans (flat_len fun c _ => wrT_len T f c) (Nat.mul_le_mul_right _ h6)
    have e : (7 : Nat) ^ (f + 1) = 7 ^ f * 7 := Nat.pow_succ ..
    have e0 : 0 < (7 : Nat) ^ f := Nat.pow_pos (by decide)
    simp only [wrT, List.length_cons, List.length_append, List.length_nil]
    omega
theorem wrT_small {us : List Int} {cs : List Nat} (T : TreeOk us cs) {f k : Nat} (h : f ≤ 6) : (wrT us cs f k).length ≤ 500000 := by
  have := wrT_len T f k
  have e : (7 : Nat) ^ f ≤ 7 ^ 6 := Nat.pow_le_pow_right (by decide) h
  omega
theorem flat_next {us : List Int} {cs : List Nat} {f : Nat} {p : Nat → Bool} {ks : List Nat} {i c : Nat} (hc : ks[i]? = some c) :
    ((ks.take (i + 1)).filter p).flatMap (wrT us cs f) = ((ks.take i).filter p).flatMap (wrT us cs f) ++ if p c = true then wrT us cs f c else [] := by
  rw [List.take_add_one, hc, List.filter_append, List.flatMap_append]
  congr 1
  show ((List.filter p [c]).flatMap (wrT us cs f)) = _
  cases h : p c <;> simp [h]
theorem kid_facts {us : List Int} {cs : List Nat} (T : TreeOk us cs) {k i c : Nat} (hc : (kids us cs (k : Int))[i]? = some c) : c < 7 ∧ k < c := by
  have hm := (mem_kids T).mp (List.mem_of_getElem? hc)
  refine ⟨hm.1, ?_⟩
  by_cases h0 : c = 0
  · subst h0; have := T.root; omega
  · have := T.up c (by omega) hm.1; omega
theorem brace : Str.ofString "}" = sg 125 := by decide +kernel
theorem not_brace {us : List Int} {cs : List Nat} (T : TreeOk us cs) {c : Nat} (hc : c < 7) : cg cs c ≠ 125 := by
  have := T.sign _ (cg_mem T hc); omega
section
local macro_rules | `(tactic| walk_at "subscriptTail") => `(tactic| (k_here; (with_reducible show wpAny _ _ (subscriptTail _ _ (Value.ref _) (Value.int _ _)) _ _ _); k_dflt (refine' item_h ?F ?l ?x ?i ?_; (case F => k_asm); (case l => k_asm); (case x => k_asm); (case i => omega); k_whole)))
local macro_rules | `(tactic| walk_at "call builtin:list.append") => `(tactic| (k_here; (with_reducible show wpAny _ _ (call (Value.builtin _) [Value.ref _, _]) _ _ _); k_dflt (refine' append_top ?F ?N ?o ?z ?_; (case F => k_asm); (case N => k_asm); (case o => k_asm); (case z => k_asm); k_whole); intro n' h' F' N'))
local macro_rules | `(tactic| walk_at "call builtin:list.extend") => `(tactic| (k_here; (with_reducible show wpAny _ _ (call (Value.builtin _) [Value.ref _, _]) _ _ _); k_dflt (refine' extend_top ?F ?N ?o ?r ?z ?_; (case F => k_asm); (case N => k_asm); (case o => k_asm); (case r => k_asm); (case z => k_asm); k_whole); intro n' h' F' N'))
local macro_rules | `(tactic| walk_at "exec For") => `(tactic| (k_here; k_dflt (refine For_at ?_)))
local macro_rules | `(tactic| walk_at "call ref") => `(tactic| (k_here; (with_reducible show wpAny _ _ (call (Value.ref 141) _) _ _ _); refine Stop.out ?_))
theorem written_spec (w : World) (us : List Int) (cs : List Nat) (T : TreeOk us cs) : ∀ (f : Nat) (dp un : Nat) (fr : Option (List Env)) (gd : Option (List Code)) (s : Shared) (ups names : Addr) (uv nv : List Value) (k : Nat) (t : Tok)
   (Q E : Value → Shared → Prop), k < 7 → 7 ≤ k + f → 
   f ≤ 7 → dp + f < 500 → un + 8 * f < 8000 → Gd w s.heap → s.heap.IsList ups uv.toArray → All2 CellV uv (us.map Cell.i) → s.heap.IsList names nv.toArray → All2 CellV nv (cs.map fun c => Cell.s (sg c)) →
   (∀ D vs n tl h' tk', Kp s.heap h' → New s.heap h' tl → (D, lstO vs n) ∈ tl → All2 CellV vs ((wrT us cs f k).map Cell.s) → Q (.ref D) { s with heap := h', toks := tk' }) →
   wpAny (model PySem.Challenge.rw_xo0006_01.row.prog w) (AR dp fr gd un) (call (.ref 148) [.ref ups, .ref names, .int (k : Int) t]) Q E s := by
  intro f
  induction f with
  | zero => intros; omega
  | succ f ih =>
  intro dp un fr gd s ups names uv nv k t Q E hk hf hf7 hdp hun G hU hUI hN hNS hQ
  ((have hX0 : (hd.heap_39 w.params).In s.heap := G.1); revert hX0; k_fill; intro hX0; obtain ⟨mean, mg, mb, T0⟩ := G.2)
  refine wpAny_call ?_
  refine' codeF (binds := [(Str.ofString "ups", .ref ups), (Str.ofString "names", .ref names), (Str.ofString "node", .int (k : Int) t)]) hX0 T0 ?k6 ?k7 ?k8 ?k9 ?kB ?c2 ?c3 ?c4 ?c5 ?_
  ((case k6 => k_is); (case k7 => k_is); (case k8 => (simp only [recursionLimit]; omega)); (case k9 => exact BindsTo.of_eq rfl); (case kB => exact locs rfl); (case c2 => decide); (case c3 => exact rfl); (case c4 => exact rfl); (case c5 => exact rfl); k_whole)
  intro L' h' F' N'
  dsimp only
  k_fold
  obtain ⟨v2, hv2, c2⟩ := hNS.get (i := k) (b := Cell.s (sg (cg cs k))) (by rw [List.getElem?_map, List.getElem?_eq_getElem (by rw [T.lc]; exact hk)]; simp [cg, T.lc, hk])
  obtain ⟨t2, rfl⟩ := c2.str
  k_steps
  all_goals
    rename_i l' _ l1 h2 F2 N2
    obtain ⟨tx, N2⟩ : ∃ tx, News s.heap L' h2 [(l', lstO [Value.str (openP (cg cs k)) tx] 0)] := ⟨_, by
      first
      | (rw [← openP_no (T.sign _ (cg_mem T hk)) (by assumption)]; exact N2)
      | (rw [← openP_yes (T.sign _ (cg_mem T hk)) (by assumption)]; exact N2)⟩
    refine below_spec w _ _ _ _ _ ups names uv nv us cs (k : Int) t _ _ T (show dp + 1 < 600 by omega) (show un + 3 < 9000 by omega) (G.kp F2.keep) (hU.at fun o e => F2.keep _ o e) hUI (hN.at fun o e => F2.keep _ o e) hNS (by omega) fun D vs n tl h3 tk3 kp3 nw3 hm3 hR3 => ?_
    have F3 := fr_kp F2 kp3
    have N3 := news_new F2 N2 kp3 nw3
    have off3 := new_off N2 nw3
    clear F2 N2
    k_steps
    rename_i h4 F4 N4
    refine for_pair (its := vs.toArray) (J := JW us cs f _ l' tl (lessK cs) ([openP (cg cs k)]) (kids us cs (k : Int))) (P := fun i v0 v1 => ∃ c, (kids us cs (k : Int))[i]? = some c ∧ (∃ t, v0 = .str (sg (cg cs c)) t) ∧ ∃ t, v1 = .int (c : Int) t) (by rfl) (by rfl) (by rfl) (by rfl) F4 N4 ⟨⟨_, _, two_start⟩, _, _, rfl, .cons (.s _ _) .nil⟩ ?src ?pair ?turn ?done
    case src => rintro i m₁ _ ⟨_, ps, n', rfl, _⟩; exact .inr ⟨_, .tail _ hm3, rfl, _, rfl⟩
    case pair =>
      rintro i m₁ _ v ⟨_, ps, n', rfl, _⟩ hv
      obtain ⟨T, v0, v1, e, ⟨n2, hm⟩, hc⟩ := rows_pair hR3 hv
      exact ⟨T, v0, v1, e, .inr ⟨n2, .tail _ hm⟩, hc⟩
    case turn =>
      rintro i T0' v0 v1 m₁ _ I oI h tk hi hv ⟨c, hc, ⟨t0, rfl⟩, t1, rfl⟩ ho ⟨⟨a, b, rfl⟩, ps, n', rfl, hps⟩ off F5 N5
      rw [two_names] at F5
      obtain ⟨hc7, hkc⟩ := kid_facts T hc
      have hcond : (sg (cg cs c)).cps.toList < (Str.ofString "}").cps.toList ↔ lessK cs c = true := by
        rw [brace, sg_lt]
        simp only [lessK, decide_eq_true_eq]
      k_steps
      · rename_i hq
        rw [hcond] at hq
        refine ih _ _ _ _ _ ups names uv nv c t1 _ _ hc7 (by omega) (by omega) (show dp + 1 + f < 500 by omega) (show un + 3 + 8 * f < 8000 by omega) (G.kp F5.keep) (hU.at fun o e => F5.keep _ o e) hUI (hN.at fun o e => F5.keep _ o e) hNS fun D2 vs2 n2 tl2 h5 tk5 kp5 nw5 hm5 hR5 => ?_
        have F6 := fr_kp F5 kp5
        have N6 : News s.heap L' h5 ((l', lstO ps n') :: ((I, oI) :: (tl ++ tl2))) := News.sub (news_new F5 N5 kp5 nw5) fun p hp => by
          (revert hp; revert p; walk_at "mine.sub")
        have o6 := new_off N5 nw5
        have o7 : ∀ p ∈ (I, oI) :: (tl ++ tl2), p.1 ≠ l' := fun p hp => by
          rcases List.mem_cons.mp hp with rfl | hp
          · exact fun e => off _ (.head _) e.symm
          · rcases List.mem_append.mp hp with hp | hp
            · exact off3 p hp _ (.head _)
            · exact o6 p hp _ (.tail _ (.head _))
        have r7 : (D2, lstO vs2 n2) ∈ (I, oI) :: (tl ++ tl2) := .tail _ (List.mem_append_right _ hm5)
        have z7 : ps.length + vs2.length ≤ sizeLine := by
          have e1 := hps.length
          have e2 := hR5.length
          rw [List.length_map] at e1 e2
          have b1 := wrT_small T (f := f) (k := c) (by omega)
          have b2 := flat_bound (us := us) (cs := cs) (f := f) (p := lessK cs) i (kids_len T (nd := (k : Int)) (by omega)) fun c _ => wrT_small T (k := c) (show f ≤ 6 by omega)
          have b3 := flat_bound (us := us) (cs := cs) (f := f) (p := lessK cs) 7 (kids_len T (nd := (k : Int)) (by omega)) fun c _ => wrT_small T (k := c) (show f ≤ 6 by omega)
          rw [List.take_of_length_le (Nat.le_trans (kids_len T (by omega)) (by omega))] at b3
          rw [sizeLine_eq]
          simp only [List.length_append, List.length_cons, List.length_nil] at e1
          omega
        clear N5 F5
        k_steps
        rename_i n8 h8 F8 N8
        refine LEnd.intro F8 N8 ((l', lstO (ps ++ vs2) n8) :: tl) (fun p hp => ?_) (fun p hp => by
          rcases List.mem_cons.mp hp with rfl | hp
          · exact off (l', lstO ps n') (.head _)
          · exact off p (.tail _ hp)) ⟨⟨_, _, rfl⟩, _, _, rfl, ?_⟩
        · (revert hp; revert p; walk_at "mine.sub")
        · rw [flat_next hc, if_pos hq, ← List.append_assoc, List.map_append]
          exact hps.app hR5
      · rename_i hq
        rw [hcond] at hq
        refine LEnd.intro F5 N5 ((l', lstO ps n') :: tl) (fun p hp => hp) off ⟨⟨_, _, rfl⟩, _, _, rfl, ?_⟩
        rw [flat_next hc, if_neg hq, List.append_nil]
        exact hps
    case done =>
      rintro m₁ _ h tk ⟨⟨a, b, rfl⟩, ps, n', rfl, hps⟩ F5 N5
      rw [List.take_of_length_le (by rw [← List.length_map (f := rowB cs), ← hR3.length]; exact Nat.le_of_eq (List.size_toArray ..).symm)] at hps
      have o9 : ∀ p ∈ tl, p.1 ≠ l' := fun p hp => off3 p hp _ (.head _)
      have z9 : ps.length ≤ sizeLine := by
        have e1 := hps.length
        rw [List.length_map] at e1
        have b3 := flat_bound (us := us) (cs := cs) (f := f) (p := lessK cs) 7 (kids_len T (nd := (k : Int)) (by omega)) fun c _ => wrT_small T (k := c) (show f ≤ 6 by omega)
        rw [List.take_of_length_le (Nat.le_trans (kids_len T (by omega)) (by omega))] at b3
        rw [sizeLine_eq]
        simp only [List.length_append, List.length_cons, List.length_nil] at e1
        omega
      clear F4 N4
      k_steps
      rename_i n4 h4 F4 N4
      have hb2 := fun t => hps.snoc (CellV.s (Str.ofString " ") t)
      refine for_pair (its := vs.toArray) (J := JW us cs f _ l' tl (fun c => !lessK cs c) (openP (cg cs k) :: (((kids us cs (k : Int)).filter (lessK cs)).flatMap (wrT us cs f) ++ [Str.ofString " "])) (kids us cs (k : Int))) (P := fun i v0 v1 => ∃ c, (kids us cs (k : Int))[i]? = some c ∧ (∃ t, v0 = .str (sg (cg cs c)) t) ∧ ∃ t, v1 = .int (c : Int) t) (by rfl) (by rfl) (by rfl) (by rfl) F4 N4 ⟨⟨_, _, two_start⟩, _, _, rfl, by
        simpa using hb2 _⟩ ?src ?pair ?turn ?done
      case src => rintro i m₁ _ ⟨_, ps, n', rfl, _⟩; exact .inr ⟨_, .tail _ hm3, rfl, _, rfl⟩
      case pair =>
        rintro i m₁ _ v ⟨_, ps, n', rfl, _⟩ hv
        obtain ⟨T, v0, v1, e, ⟨n2, hm⟩, hc⟩ := rows_pair hR3 hv
        exact ⟨T, v0, v1, e, .inr ⟨n2, .tail _ hm⟩, hc⟩
      case turn =>
        rintro i T0' v0 v1 m₁ _ I oI h tk hi hv ⟨c, hc, ⟨t0, rfl⟩, t1, rfl⟩ ho ⟨⟨a, b, rfl⟩, ps, n', rfl, hps⟩ off F5 N5
        rw [two_names] at F5
        obtain ⟨hc7, hkc⟩ := kid_facts T hc
        have hcond : (Str.ofString "}").cps.toList < (sg (cg cs c)).cps.toList ↔ (!lessK cs c) = true := by
          rw [brace, sg_lt]
          have := not_brace T hc7
          simp only [lessK, Bool.not_eq_true', decide_eq_false_iff_not]
          omega
        k_steps
        · rename_i hq
          rw [hcond] at hq
          refine ih _ _ _ _ _ ups names uv nv c t1 _ _ hc7 (by omega) (by omega) (show dp + 1 + f < 500 by omega) (show un + 3 + 8 * f < 8000 by omega) (G.kp F5.keep) (hU.at fun o e => F5.keep _ o e) hUI (hN.at fun o e => F5.keep _ o e) hNS fun D2 vs2 n2 tl2 h5 tk5 kp5 nw5 hm5 hR5 => ?_
          have F6 := fr_kp F5 kp5
          have N6 : News s.heap L' h5 ((l', lstO ps n') :: ((I, oI) :: (tl ++ tl2))) := News.sub (news_new F5 N5 kp5 nw5) fun p hp => by
            (revert hp; revert p; walk_at "mine.sub")
          have o6 := new_off N5 nw5
          have o7 : ∀ p ∈ (I, oI) :: (tl ++ tl2), p.1 ≠ l' := fun p hp => by
            rcases List.mem_cons.mp hp with rfl | hp
            · exact fun e => off _ (.head _) e.symm
            · rcases List.mem_append.mp hp with hp | hp
              · exact off3 p hp _ (.head _)
              · exact o6 p hp _ (.tail _ (.head _))
          have r7 : (D2, lstO vs2 n2) ∈ (I, oI) :: (tl ++ tl2) := .tail _ (List.mem_append_right _ hm5)
          have z7 : ps.length + vs2.length ≤ sizeLine := by
            have e1 := hps.length
            have e2 := hR5.length
            rw [List.length_map] at e1 e2
            have b1 := wrT_small T (f := f) (k := c) (by omega)
            have b2 := flat_bound (us := us) (cs := cs) (f := f) (p := fun c => !lessK cs c) i (kids_len T (nd := (k : Int)) (by omega)) fun c _ => wrT_small T (k := c) (show f ≤ 6 by omega)
            have b3 := flat_bound (us := us) (cs := cs) (f := f) (p := lessK cs) 7 (kids_len T (nd := (k : Int)) (by omega)) fun c _ => wrT_small T (k := c) (show f ≤ 6 by omega)
            rw [List.take_of_length_le (Nat.le_trans (kids_len T (by omega)) (by omega))] at b3
            rw [sizeLine_eq]
            simp only [List.length_append, List.length_cons, List.length_nil] at e1
            omega
          clear N5 F5
          k_steps
          rename_i n8 h8 F8 N8
          refine LEnd.intro F8 N8 ((l', lstO (ps ++ vs2) n8) :: tl) (fun p hp => ?_) (fun p hp => by
          rcases List.mem_cons.mp hp with rfl | hp
          · exact off (l', lstO ps n') (.head _)
          · exact off p (.tail _ hp)) ⟨⟨_, _, rfl⟩, _, _, rfl, ?_⟩
          · (revert hp; revert p; walk_at "mine.sub")
          · rw [flat_next hc, if_pos hq, ← List.append_assoc, List.map_append]
            exact hps.app hR5
        · rename_i hq
          rw [hcond] at hq
          refine LEnd.intro F5 N5 ((l', lstO ps n') :: tl) (fun p hp => hp) off ⟨⟨_, _, rfl⟩, _, _, rfl, ?_⟩
          rw [flat_next hc, if_neg hq, List.append_nil]
          exact hps
      case done =>
        rintro m₁ _ h tk ⟨⟨a, b, rfl⟩, ps, n', rfl, hps⟩ F5 N5
        rw [List.take_of_length_le (by rw [← List.length_map (f := rowB cs), ← hR3.length]; exact Nat.le_of_eq (List.size_toArray ..).symm)] at hps
        have o9 : ∀ p ∈ tl, p.1 ≠ l' := fun p hp => off3 p hp _ (.head _)
        have z9 : ps.length ≤ sizeLine := by
          have e1 := hps.length
          rw [List.length_map] at e1
          have b1 := wrT_small T (f := f) (k := k) (by omega)
          have b2 := flat_bound (us := us) (cs := cs) (f := f) (p := fun c => !lessK cs c) 7 (kids_len T (nd := (k : Int)) (by omega)) fun c _ => wrT_small T (k := c) (show f ≤ 6 by omega)
          have b3 := flat_bound (us := us) (cs := cs) (f := f) (p := lessK cs) 7 (kids_len T (nd := (k : Int)) (by omega)) fun c _ => wrT_small T (k := c) (show f ≤ 6 by omega)
          rw [List.take_of_length_le (Nat.le_trans (kids_len T (by omega)) (by omega))] at b2 b3
          rw [sizeLine_eq]
          simp only [List.length_append, List.length_cons, List.length_nil] at e1
          omega
        k_steps
        rename_i n8 h8 F8 N8
        refine hQ l' _ n8 _ h8 _ F8.keep (New.of N8) (.head _) ?_
        have h9 := fun t => hps.snoc (CellV.s (Str.ofString ")") t)
        simpa [wrT] using h9 _
end
end
section
set_option maxRecDepth 100000
set_option maxHeartbeats 8000000
theorem fresh_Wlk : True := by (w_top off; trivial)
/-- a way: its signs -/
abbrev wy (w : List Nat) : Str := Str.mk w.toArray
def rowW (cs : List Nat) (w : List Nat) (c : Nat) : List Cell := [.s (wy w), .s (sg (cg cs c)), .i (c : Int)]
def wkT (us : List Int) (cs : List Nat) : Nat → List Nat → Nat → List (List Cell)
  | 0, _, _ => []
  | f + 1, ab, k => ((kids us cs (k : Int)).filter (lessK cs)).flatMap (wkT us cs f (ab ++ [cg cs k])) ++ (kids us cs (k : Int)).map (rowW cs (ab ++ [cg cs k])) ++ ((kids us cs (k : Int)).filter fun c => !lessK cs c).flatMap (wkT us cs f (ab ++ [cg cs k]))
theorem wy_snoc (w : List Nat) (c : Nat) : wy w ++ sg c = wy (w ++ [c]) := by
  show Str.mk (w.toArray ++ #[c]) = Str.mk (w ++ [c]).toArray
  simp
theorem wkT_len {us : List Int} {cs : List Nat} (T : TreeOk us cs) : ∀ (f : Nat) (w : List Nat) (k : Nat), (wkT us cs f w k).length ≤ 4 * 7 ^ f - 4
  | 0, _, _ => Nat.zero_le _
  | f + 1, w, k => by
    have h6 := kids_len T (nd := (k : Int)) (by omega)
    have b1 := flat_splitG (g := wkT us cs f (w ++ [cg cs k])) (p := lessK cs) (l := kids us cs (k : Int))
    have b2 : ((kids us cs (k : Int)).flatMap (wkT us cs f (w ++ [cg cs k]))).length ≤ 6 * (4 * 7 ^ f - 4) := Nat.le_trans (flat_len fun c _ => wkT_len T f _ c) (Nat.mul_le_mul_right _ h6)
    have e : (7 : Nat) ^ (f + 1) = 7 ^ f * 7 := Nat.pow_succ ..
    have e0 : 0 < (7 : Nat) ^ f := Nat.pow_pos (by decide)
    simp only [wkT, List.length_append, List.length_map]
    omega
theorem wkT_small {us : List Int} {cs : List Nat} (T : TreeOk us cs) {f k : Nat} {w : List Nat} (h : f ≤ 6) : (wkT us cs f w k).length ≤ 500000 := by
  have := wkT_len T f w k
  have e : (7 : Nat) ^ f ≤ 7 ^ 6 := Nat.pow_le_pow_right (by decide) h
  omega
def JK (us : List Int) (cs : List Nat) (f : Nat) (m0 : Str → Option Value) (le gr : Addr) (e0 : Addr × Obj) (tl : List (Addr × Obj)) (w : List Nat) (ks : List Nat) (i : Nat) (m₁ : Str → Option Value) (news₁ : List (Addr × Obj)) : Prop :=
  (∃ a b c, m₁ = fun y => if y = Str.ofString "branch" then c else if y = Str.ofString "child" then a else if y = Str.ofString "sign" then b else m0 y) ∧ ∃ ps n qs n' rt, news₁ = (le, lstO ps n) :: (gr, lstO qs n') :: e0 :: (tl ++ rt) ∧
    Rows rt ps (((ks.take i).filter (lessK cs)).flatMap (wkT us cs f w)) ∧ Rows rt qs (((ks.take i).filter fun c => !lessK cs c).flatMap (wkT us cs f w)) ∧ ∀ p ∈ rt, p.1 ≠ le ∧ p.1 ≠ gr
section
local macro_rules | `(tactic| walk_at "subscriptTail") => `(tactic| (k_here; (with_reducible show wpAny _ _ (subscriptTail _ _ (Value.ref _) (Value.int _ _)) _ _ _); k_dflt (refine' item_h ?F ?l ?x ?i ?_; (case F => k_asm); (case l => k_asm); (case x => k_asm); (case i => omega); k_whole)))
local macro_rules | `(tactic| walk_at "call builtin:list.extend") => `(tactic| (k_here; (with_reducible show wpAny _ _ (call (Value.builtin _) [Value.ref _, _]) _ _ _); first
  | (k_dflt (refine' extend_top ?F ?N ?o ?r ?z ?_; (case F => k_asm); (case N => k_asm); (case o => k_asm); (case r => k_asm); (case z => k_asm); k_whole); intro n' h' F' N')
  | (k_dflt (refine' extend_snd ?F ?N ?o ?r ?z ?_; (case F => k_asm); (case N => k_asm); (case o => k_asm); (case r => k_asm); (case z => k_asm); k_whole); intro n' h' F' N')))
local macro_rules | `(tactic| walk_at "binaryOp Add ref ref") => `(tactic| (k_here; (with_reducible show wpAny _ _ (binaryOp _ (Value.ref _) (Value.ref _)) _ _ _); k_dflt (refine' add_two ?F ?N ?a ?b ?z ?_; (case F => k_asm); (case N => k_asm); (case a => k_mem); (case b => k_mem); (case z => k_asm); k_whole); intro R' h' F' N'))
local macro_rules | `(tactic| walk_at "exec For") => `(tactic| (k_here; k_dflt (refine For_at ?_)))
local macro_rules | `(tactic| walk_at "eval ListComp") => `(tactic| (k_here; k_dflt (refine LCp.ListComp_P (F₀ := by k_asm) (by with_unfolding_all rfl) (by decide) (by rfl) (by decide) (by rfl) (by rfl) (by decide) ?_)))
local macro_rules | `(tactic| walk_at "SrcLP") => `(tactic| (refine Stop.out ?_))
local macro_rules | `(tactic| walk_at "call ref") => `(tactic| (k_here; (with_reducible show wpAny _ _ (call (Value.ref _) _) _ _ _); refine Stop.out ?_))
theorem walked_spec (w : World) (us : List Int) (cs : List Nat) (T : TreeOk us cs) : ∀ (f : Nat) (dp un : Nat) (fr : Option (List Env)) (gd : Option (List Code)) (s : Shared) (ups names : Addr) (uv nv : List Value) (k : Nat) (t : Tok) (ab : List Nat) (t' : Tok)
   (Q E : Value → Shared → Prop), k < 7 → 7 ≤ k + f → f ≤ 7 → ab.length ≤ 20 - f →
   dp + f < 500 → un + 8 * f < 8000 → Gd w s.heap → s.heap.IsList ups uv.toArray → All2 CellV uv (us.map Cell.i) → s.heap.IsList names nv.toArray → All2 CellV nv (cs.map fun c => Cell.s (sg c)) →
   (∀ D vs n tl h' tk', Kp s.heap h' → New s.heap h' tl → (D, lstO vs n) ∈ tl → Rows tl vs (wkT us cs f ab k) → Q (.ref D) { s with heap := h', toks := tk' }) →
   wpAny (model PySem.Challenge.rw_xo0006_01.row.prog w) (AR dp fr gd un) (call (.ref 153) [.ref ups, .ref names, .int (k : Int) t, .str (wy ab) t']) Q E s := by
  intro f
  induction f with
  | zero => intros; omega
  | succ f ih =>
  intro dp un fr gd s ups names uv nv k t ab t' Q E hk hf hf7 hab hdp hun G hU hUI hN hNS hQ
  ((have hX0 : (hd.heap_39 w.params).In s.heap := G.1); revert hX0; k_fill; intro hX0; obtain ⟨mean, mg, mb, T0⟩ := G.2)
  refine wpAny_call ?_
  refine' codeFC (binds := [(Str.ofString "ups", .ref ups), (Str.ofString "names", .ref names), (Str.ofString "node", .int (k : Int) t), (Str.ofString "above", .str (wy ab) t')]) hX0 T0 ?k6 ?k7 ?k8 ?k9 ?kB ?kD ?c3 ?c4 ?c5 ?_
  ((case k6 => k_is); (case k7 => k_is); (case k8 => (simp only [recursionLimit]; omega)); (case k9 => exact BindsTo.of_eq rfl); (case kB => exact rfl); (case kD => decide +kernel); (case c3 => exact rfl); (case c4 => exact rfl); (case c5 => exact rfl); k_whole)
  intro L' h' tk' cells' F' N' Y'
  obtain ⟨o1, he, d1⟩ := CellsAre.one Y'
  subst he
  clear Y'
  simp only [List.cons_append, List.nil_append] at N'
  dsimp only
  k_fold
  obtain ⟨v2, hv2, c2⟩ := hNS.get (i := k) (b := Cell.s (sg (cg cs k))) (by rw [List.getElem?_map, List.getElem?_eq_getElem (by rw [T.lc]; exact hk)]; simp [cg, T.lc, hk])
  obtain ⟨t2, rfl⟩ := c2.str
  have hlen : (wy ab).length ≤ 100 := by show ab.toArray.size ≤ 100; rw [List.size_toArray]; omega
  k_steps
  rename_i tw _ _ h2 o2 F2 N2 d2
  rw [wy_snoc] at d2
  refine below_spec w _ _ _ _ _ ups names uv nv us cs (k : Int) t _ _ T (show dp + 1 < 600 by omega) (show un + 3 < 9000 by omega) (G.kp F2.keep) (hU.at fun o e => F2.keep _ o e) hUI (hN.at fun o e => F2.keep _ o e) hNS (by omega) fun D vs n tl h3 tk3 kp3 nw3 hm3 hR3 => ?_
  have F3 := fr_kp F2 kp3
  have N3 := news_new F2 N2 kp3 nw3
  have off3 := new_off N2 nw3
  clear F2 N2
  k_steps
  rename_i le _ hle gr _ hgr _ _ _ _ _ h4 F4 N4
  have hle2 := hle
  have hgr2 := ktn_ltOf hgr.2
  have N5 : News s.heap L' h4 ((le, lstO [] 0) :: (gr, lstO [] 0) :: (L' + 1, o2) :: (tl ++ [])) := News.sub N4 fun p hp => by
    (revert hp; revert p; walk_at "mine.sub")
  clear N4
  refine for_pair (its := vs.toArray) (J := JK us cs f _ le gr (L' + 1, o2) tl (ab ++ [cg cs k]) (kids us cs (k : Int))) (P := fun i v0 v1 => ∃ c, (kids us cs (k : Int))[i]? = some c ∧ (∃ t, v0 = .str (sg (cg cs c)) t) ∧ ∃ t, v1 = .int (c : Int) t) (by rfl) (by rfl) (by rfl) (by rfl) F4 N5 ⟨⟨_, _, _, three_start⟩, _, _, _, _, [], rfl, .nil, .nil, fun _ h => nomatch h⟩ ?src ?pair ?turn ?done
  case src => rintro i m₁ _ ⟨_, ps, n1, qs, n2, rt, rfl, _⟩; exact .inr ⟨_, .tail _ (.tail _ (.tail _ (List.mem_append_left _ hm3))), rfl, _, rfl⟩
  case pair =>
    rintro i m₁ _ v ⟨_, ps, n1, qs, n2, rt, rfl, _⟩ hv
    obtain ⟨T, v0, v1, e, ⟨n2, hm⟩, hc⟩ := rows_pair hR3 hv
    exact ⟨T, v0, v1, e, .inr ⟨n2, .tail _ (.tail _ (.tail _ (List.mem_append_left _ hm)))⟩, hc⟩
  case turn =>
    rintro i T0' v0 v1 m₁ _ I oI h tk hi hv ⟨c, hc, ⟨t0, rfl⟩, t1, rfl⟩ ho ⟨⟨a, b, c', rfl⟩, ps, n1, qs, n2, rt, rfl, hps, hqs, hrt⟩ off F5 N5
    rw [three_a] at F5
    obtain ⟨hc7, hkc⟩ := kid_facts T hc
    have hcond : (sg (cg cs c)).cps.toList < (Str.ofString "}").cps.toList ↔ lessK cs c = true := by
      rw [brace, sg_lt]
      simp only [lessK, decide_eq_true_eq]
    k_steps
    refine ih _ _ _ _ _ ups names uv nv c t1 (ab ++ [cg cs k]) _ _ _ hc7 (by omega) (by omega) (by rw [List.length_append, List.length_singleton]; omega) (show dp + 1 + f < 500 by omega) (show un + 3 + 8 * f < 8000 by omega) (G.kp F5.keep) (hU.at fun o e => F5.keep _ o e) hUI (hN.at fun o e => F5.keep _ o e) hNS fun D2 vs2 n3 tl2 h5 tk5 kp5 nw5 hm5 hR5 => ?_
    have F6 := fr_kp F5 kp5
    have N6 : News s.heap L' h5 ((le, lstO ps n1) :: (gr, lstO qs n2) :: (I, oI) :: (L' + 1, o2) :: (tl ++ (rt ++ tl2))) := News.sub (news_new F5 N5 kp5 nw5) fun p hp => by
      (revert hp; revert p; walk_at "mine.sub")
    have o6 := new_off N5 nw5
    have lg : le < gr := hgr.1
    have o7 : ∀ p ∈ (I, oI) :: (L' + 1, o2) :: (tl ++ (rt ++ tl2)), p.1 ≠ le ∧ p.1 ≠ gr := fun p hp => by
      simp only [List.mem_cons, List.mem_append] at hp
      rcases hp with rfl | rfl | hp | hp | hp
      · exact ⟨fun e => off _ (.head _) e.symm, fun e => off _ (.tail _ (.head _)) e.symm⟩
      · exact ⟨Nat.ne_of_lt (hle2 _ (.head _)), Nat.ne_of_lt (hgr2 _ (.head _))⟩
      · exact ⟨Nat.ne_of_lt (hle2 _ (.tail _ hp)), Nat.ne_of_lt (hgr2 _ (.tail _ hp))⟩
      · exact hrt p hp
      · exact ⟨o6 p hp _ (.tail _ (.head _)), o6 p hp _ (.tail _ (.tail _ (.head _)))⟩
    have o8 : ∀ p ∈ (gr, lstO qs n2) :: (I, oI) :: (L' + 1, o2) :: (tl ++ (rt ++ tl2)), p.1 ≠ le := fun p hp => by
      rcases List.mem_cons.mp hp with rfl | hp
      · exact Nat.ne_of_gt lg
      · exact (o7 p hp).1
    have o9 : ∀ p ∈ (le, lstO ps n1) :: (I, oI) :: (L' + 1, o2) :: (tl ++ (rt ++ tl2)), p.1 ≠ gr := fun p hp => by
      rcases List.mem_cons.mp hp with rfl | hp
      · exact Nat.ne_of_lt lg
      · exact (o7 p hp).2
    have r7 : (D2, lstO vs2 n3) ∈ (I, oI) :: (L' + 1, o2) :: (tl ++ (rt ++ tl2)) := .tail _ (.tail _ (List.mem_append_right _ (List.mem_append_right _ hm5)))
    have r8 : (D2, lstO vs2 n3) ∈ (gr, lstO qs n2) :: (I, oI) :: (L' + 1, o2) :: (tl ++ (rt ++ tl2)) := .tail _ r7
    have e0 := hR5.length
    have b0 := wkT_small T (f := f) (k := c) (w := ab ++ [cg cs k]) (by omega)
    have z7 : ps.length + vs2.length ≤ sizeLine := by
      have e1 := hps.length
      have b2 := flat_boundG (g := wkT us cs f (ab ++ [cg cs k])) (p := lessK cs) i (kids_len T (nd := (k : Int)) (by omega)) fun c _ => wkT_small T (k := c) (show f ≤ 6 by omega)
      rw [sizeLine_eq]
      omega
    have z8 : qs.length + vs2.length ≤ sizeLine := by
      have e1 := hqs.length
      have b2 := flat_boundG (g := wkT us cs f (ab ++ [cg cs k])) (p := fun c => !lessK cs c) i (kids_len T (nd := (k : Int)) (by omega)) fun c _ => wkT_small T (k := c) (show f ≤ 6 by omega)
      rw [sizeLine_eq]
      omega
    have offI : ∀ (xs ys : List Value) (n n' : Nat), ∀ p ∈ (le, lstO xs n) :: (gr, lstO ys n') :: (L' + 1, o2) :: (tl ++ (rt ++ tl2)), p.1 ≠ I := fun xs ys n n' p hp => by
      simp only [List.mem_cons, List.mem_append] at hp
      rcases hp with rfl | rfl | rfl | hp | hp | hp
      · exact off (le, lstO ps n1) (.head _)
      · exact off (gr, lstO qs n2) (.tail _ (.head _))
      · exact off _ (.tail _ (.tail _ (.head _)))
      · exact off _ (.tail _ (.tail _ (.tail _ (List.mem_append_left _ hp))))
      · exact off _ (.tail _ (.tail _ (.tail _ (List.mem_append_right _ hp))))
      · exact o6 p hp _ (.head _)
    have hrt2 : ∀ p ∈ rt ++ tl2, p.1 ≠ le ∧ p.1 ≠ gr := fun p hp => o7 p (.tail _ (.tail _ (List.mem_append_right _ hp)))
    clear N5 F5
    k_steps
    · rename_i hq _ n8 h8 F8 N8
      rw [hcond] at hq
      refine LEnd.intro F8 N8 ((le, lstO (ps ++ vs2) n8) :: (gr, lstO qs n2) :: (L' + 1, o2) :: (tl ++ (rt ++ tl2))) (fun p hp => ?_) (offI _ _ _ _) ⟨⟨_, _, _, three_b⟩, _, _, _, _, rt ++ tl2, rfl, ?_, ?_, hrt2⟩
      · (revert hp; revert p; walk_at "mine.sub")
      · rw [flat_nextG hc, if_pos hq]
        exact (hps.sub fun p hp => List.mem_append_left _ hp).app (hR5.sub fun p hp => List.mem_append_right _ hp)
      · rw [flat_nextG hc, if_neg (by rw [hq]; decide), List.append_nil]
        exact hqs.sub fun p hp => List.mem_append_left _ hp
    · rename_i hq _ n8 h8 F8 N8
      rw [hcond] at hq
      have hq' : (!lessK cs c) = true := by cases h : lessK cs c <;> simp_all
      refine LEnd.intro F8 N8 ((le, lstO ps n1) :: (gr, lstO (qs ++ vs2) n8) :: (L' + 1, o2) :: (tl ++ (rt ++ tl2))) (fun p hp => ?_) (offI _ _ _ _) ⟨⟨_, _, _, three_b⟩, _, _, _, _, rt ++ tl2, rfl, ?_, ?_, hrt2⟩
      · (revert hp; revert p; walk_at "mine.sub")
      · rw [flat_nextG hc, if_neg hq, List.append_nil]
        exact hps.sub fun p hp => List.mem_append_left _ hp
      · rw [flat_nextG hc, if_pos hq']
        exact (hqs.sub fun p hp => List.mem_append_left _ hp).app (hR5.sub fun p hp => List.mem_append_right _ hp)
  case done =>
    rintro m₁ _ h tk ⟨⟨a, b, c', rfl⟩, ps, n1, qs, n2, rt, rfl, hps, hqs, hrt⟩ F5 N5
    have hsz : vs.toArray.size = (kids us cs (k : Int)).length := by rw [List.size_toArray, hR3.length, List.length_map]
    rw [List.take_of_length_le (Nat.le_of_eq hsz.symm)] at hps hqs
    have h6 := kids_len T (cs := cs) (nd := (k : Int)) (by omega)
    k_steps
    refine Stop.mk' ?_
    refine LCp.SrcLP.ledger (its := vs.toArray) (by rfl) F5 N5 (.tail _ (.tail _ (.tail _ (List.mem_append_left _ hm3)))) (by rw [hsz, sizeLine_eq]; omega) fun g => ?_
    refine compP_ind (J := fun i ys news => ∃ wt, news = (le, lstO ps n1) :: (gr, lstO qs n2) :: (L' + 1, o2) :: (tl ++ (rt ++ wt)) ∧ Rows wt ys (((kids us cs (k : Int)).take i).map (rowW cs (ab ++ [cg cs k])))) vs.toArray.size ?cstep ?cfin vs.toArray.size 0 [] _ (Nat.zero_add _) ⟨[], by rw [List.append_nil], .nil⟩
    case cstep =>
      rintro i ys _ hi ⟨wt, rfl, hR⟩ v hv
      obtain ⟨T1, v0, v1, e, ⟨n3, hm⟩, c, hc, ⟨t0, rfl⟩, t1, rfl⟩ := rows_pair hR3 hv
      refine ⟨T1, _, _, _, n3, e, .tail _ (.tail _ (.tail _ (List.mem_append_left _ hm))), rfl, rfl, ?_⟩
      intro I oI C oC D4 m₂ h tk E' hC hx hx2 F N off ne
      have off' := off
      simp only [LCg.Off3] at off'
      k_steps
      rename_i D5 h5 F5 N5 hlt
      obtain ⟨l1, l2, l3, -⟩ := hlt
      refine LCg.CompEnd.intro F5 N5 ((le, lstO ps n1) :: (gr, lstO qs n2) :: (L' + 1, o2) :: (tl ++ (rt ++ (wt ++ [(D5, tupO [Value.str (wy (ab ++ [cg cs k])) tw, Value.str (sg (cg cs c)) t0, Value.int (c : Int) t1] 0)])))) (fun p hp => ?_) ?_
        (.inr ⟨_, .tail _ (.tail _ (.tail _ (List.mem_append_left _ hm3))), rfl, _, rfl⟩) ⟨wt ++ [(D5, tupO [Value.str (wy (ab ++ [cg cs k])) tw, Value.str (sg (cg cs c)) t0, Value.int (c : Int) t1] 0)], rfl, ?_⟩
      · (revert hp; revert p; walk_at "mine.sub")
      · refine LCg.Off3.of fun p hp => ?_
        simp only [List.mem_cons, List.mem_append, List.not_mem_nil, or_false] at hp
        rcases hp with h | h | h | h | h | h | h
        · exact off.mem p (by simp only [List.mem_cons, List.mem_append, h, true_or, or_true])
        · exact off.mem p (by simp only [List.mem_cons, List.mem_append, h, true_or, or_true])
        · exact off.mem p (by simp only [List.mem_cons, List.mem_append, h, true_or, or_true])
        · exact off.mem p (by simp only [List.mem_cons, List.mem_append, h, true_or, or_true])
        · exact off.mem p (by simp only [List.mem_cons, List.mem_append, h, true_or, or_true])
        · exact off.mem p (by simp only [List.mem_cons, List.mem_append, h, true_or, or_true])
        · rw [h]; exact ⟨Nat.ne_of_gt l1, Nat.ne_of_gt l2, Nat.ne_of_gt l3⟩
      · rw [List.take_add_one, hc, List.map_append]
        exact (hR.sub fun p hp => List.mem_append_left _ hp).app (.cons ⟨D5, _, _, rfl, List.mem_append_right _ (.head _), .cons (.s _ _) (.cons (.s _ _) (.cons (.i _ _) .nil))⟩ .nil)
    case cfin =>
      rintro ys _ ⟨wt, rfl, hR⟩
      rw [List.take_of_length_le (Nat.le_of_eq hsz.symm)] at hR
      unfold LCg.FinE
      intro D3 h tk F N off
      have e1 := hps.length
      have e2 := hqs.length
      have e3 := hR.length
      rw [List.length_map] at e3
      have b1 := flat_boundG (g := wkT us cs f (ab ++ [cg cs k])) (p := lessK cs) 7 h6 fun c _ => wkT_small T (k := c) (show f ≤ 6 by omega)
      have b2 := flat_boundG (g := wkT us cs f (ab ++ [cg cs k])) (p := fun c => !lessK cs c) 7 h6 fun c _ => wkT_small T (k := c) (show f ≤ 6 by omega)
      rw [List.take_of_length_le (by omega)] at b1 b2
      have z1 : ps.length + ys.length ≤ sizeLine := by rw [sizeLine_eq]; omega
      have z2 : (ps ++ ys).length + qs.length ≤ sizeLine := by rw [sizeLine_eq, List.length_append]; omega
      k_steps
      rename_i R5 h5 F5 N5
      refine hQ R5 _ 0 _ h5 _ F5.keep (New.of N5) (.head _) ?_
      have sub1 : ∀ {p : Addr × Obj} {q1 q2 q3 q4 q5 q6 : Addr × Obj}, p ∈ rt → p ∈ q1 :: q2 :: q3 :: q4 :: q5 :: q6 :: (tl ++ (rt ++ wt)) := fun h => by simp only [List.mem_cons, List.mem_append, h, true_or, or_true]
      have sub2 : ∀ {p : Addr × Obj} {q1 q2 q3 q4 q5 q6 : Addr × Obj}, p ∈ wt → p ∈ q1 :: q2 :: q3 :: q4 :: q5 :: q6 :: (tl ++ (rt ++ wt)) := fun h => by simp only [List.mem_cons, List.mem_append, h, true_or, or_true]
      exact ((hps.sub fun p hp => sub1 hp).app (hR.sub fun p hp => sub2 hp)).app (hqs.sub fun p hp => sub1 hp)
end
end
section
set_option maxRecDepth 100000
theorem fresh_Reg : True := by (w_top off; trivial)
namespace Re
open PySem.Sre
def qc : Array Nat := #[14, 8, 1, 2, 4294967295, 1, 1, 34, 0, 16, 34, 28, 22, 0, 4294967295, 7, 11, 13, 7, 21, 16, 34, 16, 92, 0, 15, 8, 6, 16, 92, 2, 15, 2, 0, 1, 16, 34, 1]
/-- a try at s -/
def TS (x : Array Nat) (lim s : Nat) (o : Bool) (seen : Sre.Seen) : M :=
  { code := qc, text := x, lim, start := s, lastStart := lim, pc := 9, pos := s, handed := s, outermost := o, marks := #[], frames := [{ wait := .nextStart, pc := 9, pos := s, outermost := o }], weight := 1, seen }
def k0 : Sre.Kept := { lastmark := -1, lastindex := -1, whole := true, marks := #[] }
/-- within the possessive repeat, n items taken, at p, at word pc -/
def PS (x : Array Nat) (lim s p : Nat) (o : Bool) (n : Int) (pc : Nat) (seen : Sre.Seen) : M :=
  { code := qc, text := x, lim, start := s, lastStart := lim, pc, pos := p, handed := p, outermost := false, marks := #[],
    frames := [{ wait := .possMore, pc := 11, pos := p, outermost := o, count := n, kept := k0, loop := 0 }, { wait := .nextStart, pc := 9, pos := s, outermost := o }], weight := 2, seen,
    loops := #[{ pc := 0, outer := none }], inner := some 0 }
def sn : Nat → M → M
  | 0, m => m
  | n + 1, m => sn n m.step
theorem sn_add (a b : Nat) (m : M) : sn (a + b) m = sn b (sn a m) := by
  induction a generalizing m with
  | zero => rw [Nat.zero_add]; rfl
  | succ a ih => rw [Nat.succ_add]; exact ih _
theorem step_done {m : M} (h : m.outcome.isSome = true) : m.step = m := by unfold M.step; rw [if_pos h]
theorem sn_done {m : M} (h : m.outcome.isSome = true) (n : Nat) : sn n m = m := by
  induction n with
  | zero => rfl
  | succ n ih => show sn n m.step = m; rw [step_done h]; exact ih
theorem runFor_sn (n : Nat) (m : M) : m.runFor n = sn n m := by
  induction n generalizing m with
  | zero => rfl
  | succ n ih =>
    show (if m.outcome.isSome = true then m else M.runFor n m.step) = sn n m.step
    by_cases h : m.outcome.isSome = true
    · rw [if_pos h, step_done h, sn_done h]
    · rw [if_neg h]; exact ih _
/-- m goes to m' in at most k steps -/
def Go (k : Nat) (m m' : M) : Prop := ∃ n, n ≤ k ∧ sn n m = m'
theorem Go.refl (m : M) : Go 0 m m := ⟨0, Nat.le_refl _, rfl⟩
theorem Go.trans {a b : Nat} {m m' m'' : M} (h : Go a m m') (g : Go b m' m'') : Go (a + b) m m'' := by
  obtain ⟨i, hi, e⟩ := h; obtain ⟨j, hj, e'⟩ := g
  exact ⟨i + j, by omega, by rw [sn_add, e, e']⟩
theorem Go.mono {a b : Nat} {m m' : M} (h : Go a m m') (hab : a ≤ b) : Go b m m' := by obtain ⟨i, hi, e⟩ := h; exact ⟨i, by omega, e⟩
theorem Go.of (n : Nat) {m m' : M} (h : sn n m = m') : Go n m m' := ⟨n, Nat.le_refl _, h⟩
theorem Go.one {m m' : M} (h : m.step = m') : Go 1 m m' := ⟨1, Nat.le_refl _, h⟩

theorem acc9 (c : Nat) (seen : Sre.Seen) : accepts qc 9 c seen = .ok (c == 34, seen) := rfl
theorem acc28 (c : Nat) (seen : Sre.Seen) : accepts qc 28 c seen = .ok (c == 92, seen) := rfl
theorem acc35 (c : Nat) (seen : Sre.Seen) : accepts qc 35 c seen = .ok (c == 34, seen) := rfl
theorem acc30 (c : Nat) (seen : Sre.Seen) : accepts qc 30 c seen = .ok (c != 10, seen) := rfl
theorem acc17 (c : Nat) (seen : Sre.Seen) : ∃ seen', accepts qc 17 c seen = .ok (!(c == 34 || c == 92), seen') := by
  by_cases h : c = 34
  · subst h; exact ⟨_, rfl⟩
  by_cases h' : c = 92
  · subst h'; exact ⟨_, rfl⟩
  have e1 : (c == 34) = false := by simpa using h
  have e2 : (c == 92) = false := by simpa using h'
  refine ⟨((((seen.add 21).add 16).add 16).add 0), ?_⟩
  show (if (c == 34) = true then _ else (if (c == 92) = true then _ else _)) = _
  rw [e1, e2]
  rfl

theorem ts_skip {x : Array Nat} {lim s : Nat} {o : Bool} {seen : Sre.Seen} (h : s < lim) (hc : (x.getD s 0 == 34) = false) :
    ∃ seen', Go 2 (TS x lim s o seen) (TS x lim (s + 1) false seen') := by
  refine ⟨seen.add 16, Go.trans (a := 1) (b := 1) (m' := { TS x lim s o (seen.add 16) with answer := some false }) (Go.one ?_) (Go.one ?_)⟩
  · show (if s ≥ lim then _ else match accepts qc 9 (x.getD s 0) (seen.add 16) with | .error why => _ | .ok (false, seen) => _ | .ok (true, seen) => _) = _
    rw [if_neg (Nat.not_le.mpr h), acc9, hc]
    rfl
  · show (if s < lim then _ else _) = _
    rw [if_pos h]
    rfl
theorem ts_end {x : Array Nat} {lim s : Nat} {o : Bool} {seen : Sre.Seen} (h : lim ≤ s) :
    ∃ m', Go 3 (TS x lim s o seen) m' ∧ m'.outcome = some .failed := by
  refine ⟨_, Go.trans (a := 1) (b := 2) (m' := { TS x lim s o (seen.add 16) with answer := some false }) (Go.one ?_) (Go.trans (a := 1) (b := 1) (m' := { TS x lim s o (seen.add 16) with frames := [], weight := 0, answer := some false }) (Go.one ?_) (Go.one rfl)), rfl⟩
  · show (if s ≥ lim then _ else match accepts qc 9 (x.getD s 0) (seen.add 16) with | .error why => _ | .ok (false, seen) => _ | .ok (true, seen) => _) = _
    rw [if_pos h]
    rfl
  · show (if s < lim then _ else _) = _
    rw [if_neg (Nat.not_lt.mpr h)]
    rfl
theorem ts_open {x : Array Nat} {lim s : Nat} {o : Bool} {seen : Sre.Seen} (h : s < lim) (hc : (x.getD s 0 == 34) = true) :
    ∃ seen', Go 2 (TS x lim s o seen) (PS x lim s (s + 1) o 0 15 seen') := by
  refine ⟨(seen.add 16).add 28, Go.trans (a := 1) (b := 1) (m' := { TS x lim s o (seen.add 16) with pc := 11, pos := s + 1 }) (Go.one ?_) (Go.one ?_)⟩
  · show (if s ≥ lim then _ else match accepts qc 9 (x.getD s 0) (seen.add 16) with | .error why => _ | .ok (false, seen) => _ | .ok (true, seen) => _) = _
    rw [if_neg (Nat.not_le.mpr h), acc9, hc]
    rfl
  · rfl
/-- within an alternative of the repeat's branch -/
def AS (x : Array Nat) (lim s p : Nat) (o : Bool) (n : Int) (fpc pc pos : Nat) (ans : Option Bool) (handed : Nat) (seen : Sre.Seen) : M :=
  { PS x lim s p o n pc seen with
    pos := pos, handed := handed, answer := ans, weight := 3, frames := { wait := .nextBranch, pc := fpc, pos := p, outermost := false, kept := k0 } :: (PS x lim s p o n pc seen).frames }
theorem ps_branch {x : Array Nat} {lim s p : Nat} {o : Bool} {n : Int} {seen : Sre.Seen} :
    Go 1 (PS x lim s p o n 15 seen) (AS x lim s p o n 16 17 p none p (seen.add 7)) := Go.one rfl
theorem poss_more {m : M} {i : Nat} {count : Int} {began : Option Nat} (h2 : m.word 2 = 0) (h3 : m.word 3 = 4294967295) (hc : 0 ≤ count) (hb : (began != some m.handed) = true) :
    m.possessive i count began = m.attempt { m.frame .possMore with pos := m.handed, loop := i, count, kept := m.keep true } (m.pc + 4) m.handed false := by
  unfold M.possessive
  simp only [h2, h3, hb]
  rw [if_neg (by omega), if_pos (by simp [maxRepeat])]
theorem poss_end {m : M} {i : Nat} {count : Int} {began : Option Nat} (h2 : m.word 2 = 0) (h3 : m.word 3 = 4294967295) (hc : 0 ≤ count) (hb : (began != some m.handed) = false) :
    m.possessive i count began = { m with inner := (m.loopAt i).outer, loops := m.loops.pop, pc := m.pc + 2 + m.word 1, pos := m.handed } := by
  unfold M.possessive
  simp only [h2, h3, hb]
  rw [if_neg (by omega), if_neg (by simp)]
/-- an alternative that came through ends in the next turn of the repeat -/
theorem as_done {x : Array Nat} {lim s p q : Nat} {o : Bool} {n : Int} {fpc : Nat} {seen : Sre.Seen} (hn : 0 ≤ n) (hq : (some p != some q) = true) :
    ∃ seen', Go 3 (AS x lim s p o n fpc 34 q none p seen) (PS x lim s q o (n + 1) 15 seen') := by
  refine ⟨seen.add 1, Go.trans (a := 1) (b := 2) (m' := AS x lim s p o n fpc 34 q (some true) q (seen.add 1)) (Go.one rfl) (Go.trans (a := 1) (b := 1) (m' := { PS x lim s p o n fpc (seen.add 1) with handed := q, answer := some true }) (Go.one rfl) (Go.one ?_))⟩
  show (M.possessive _ 0 (n + 1) (some p)) = _
  rw [poss_more rfl rfl (by omega) hq]
  rfl
theorem ps_plain {x : Array Nat} {lim s p : Nat} {o : Bool} {n : Int} {seen : Sre.Seen} (hn : 0 ≤ n) (h : p < lim) (hc : (x.getD p 0 == 34 || x.getD p 0 == 92) = false) :
    ∃ seen', Go 6 (PS x lim s p o n 15 seen) (PS x lim s (p + 1) o (n + 1) 15 seen') := by
  obtain ⟨seen1, e1⟩ := acc17 (x.getD p 0) ((seen.add 7).add 13)
  obtain ⟨seen2, g2⟩ := as_done (x := x) (lim := lim) (s := s) (p := p) (q := p + 1) (o := o) (n := n) (fpc := 16) (seen := seen1.add 15) hn (by simp)
  refine ⟨seen2, Go.trans (a := 1) (b := 5) ps_branch (Go.trans (a := 1) (b := 4) (m' := AS x lim s p o n 16 25 (p + 1) none p seen1) (Go.one ?_) (Go.trans (a := 1) (b := 3) (Go.one rfl) g2))⟩
  show (if p ≥ lim then _ else match accepts qc 17 (x.getD p 0) ((seen.add 7).add 13) with | .error why => _ | .ok (false, seen) => _ | .ok (true, seen) => _) = _
  rw [if_neg (Nat.not_le.mpr h), e1, hc]
  rfl
/-- the first alternative fails at a mark or a backslash, the second one begins -/
theorem ps_second {x : Array Nat} {lim s p : Nat} {o : Bool} {n : Int} {seen : Sre.Seen} (h : p < lim) (hc : (x.getD p 0 == 34 || x.getD p 0 == 92) = true) :
    ∃ seen', Go 3 (PS x lim s p o n 15 seen) (AS x lim s p o n 27 28 p none p seen') := by
  obtain ⟨seen1, e1⟩ := acc17 (x.getD p 0) ((seen.add 7).add 13)
  refine ⟨seen1, Go.trans (a := 1) (b := 2) ps_branch (Go.trans (a := 1) (b := 1) (m' := AS x lim s p o n 16 17 p (some false) p seen1) (Go.one ?_) (Go.one rfl))⟩
  show (if p ≥ lim then _ else match accepts qc 17 (x.getD p 0) ((seen.add 7).add 13) with | .error why => _ | .ok (false, seen) => _ | .ok (true, seen) => _) = _
  rw [if_neg (Nat.not_le.mpr h), e1, hc]
  rfl
theorem ps_hidden {x : Array Nat} {lim s p : Nat} {o : Bool} {n : Int} {seen : Sre.Seen} (hn : 0 ≤ n) (h : p + 1 < lim) (hc : (x.getD p 0 == 92) = true) (hd : (x.getD (p + 1) 0 != 10) = true) :
    ∃ seen', Go 9 (PS x lim s p o n 15 seen) (PS x lim s (p + 2) o (n + 1) 15 seen') := by
  obtain ⟨seen1, g1⟩ := ps_second (x := x) (lim := lim) (s := s) (p := p) (o := o) (n := n) (seen := seen) (by omega) (by rw [hc, Bool.or_true])
  obtain ⟨seen2, g2⟩ := as_done (x := x) (lim := lim) (s := s) (p := p) (q := p + 2) (o := o) (n := n) (fpc := 27) (seen := ((seen1.add 16).add 2).add 15) hn (by simp)
  refine ⟨seen2, Go.trans (a := 3) (b := 6) g1 (Go.trans (a := 1) (b := 5) (m' := AS x lim s p o n 27 30 (p + 1) none p (seen1.add 16)) (Go.one ?_)
    (Go.trans (a := 1) (b := 4) (m' := AS x lim s p o n 27 31 (p + 2) none p ((seen1.add 16).add 2)) (Go.one ?_) (Go.trans (a := 1) (b := 3) (Go.one rfl) g2)))⟩
  · show (if p ≥ lim then _ else match accepts qc 28 (x.getD p 0) (seen1.add 16) with | .error why => _ | .ok (false, seen) => _ | .ok (true, seen) => _) = _
    rw [if_neg (by omega), acc28, hc]
    rfl
  · show (if p + 1 ≥ lim then _ else match accepts qc 30 (x.getD (p + 1) 0) ((seen1.add 16).add 2) with | .error why => _ | .ok (false, seen) => _ | .ok (true, seen) => _) = _
    rw [if_neg (by omega), acc30, hd]
    rfl
theorem ps_close {x : Array Nat} {lim s p : Nat} {o : Bool} {n : Int} {seen : Sre.Seen} (hn : 0 ≤ n) (h : p < lim) (hc : (x.getD p 0 == 34) = true) :
    ∃ m', Go 10 (PS x lim s p o n 15 seen) m' ∧ m'.outcome = some .matched ∧ m'.start = s ∧ m'.handed = p + 1 := by
  obtain ⟨seen1, g1⟩ := ps_second (x := x) (lim := lim) (s := s) (p := p) (o := o) (n := n) (seen := seen) h (by rw [hc, Bool.true_or])
  have e92 : (x.getD p 0 == 92) = false := by have e : x.getD p 0 = 34 := by simpa using hc
                                              rw [e]; rfl
  refine ⟨{ TS x lim s o ((seen1.add 16).add 16 |>.add 1) with pc := 9, pos := s, handed := p + 1, answer := some true, frames := [], weight := 0, outcome := some .matched },
    Go.trans (a := 3) (b := 7) g1 (Go.trans (a := 1) (b := 6) (m' := AS x lim s p o n 27 28 p (some false) p (seen1.add 16)) (Go.one ?_)
    (Go.trans (a := 1) (b := 5) (m' := { PS x lim s p o n 27 (seen1.add 16) with answer := some false }) (Go.one rfl)
    (Go.trans (a := 1) (b := 4) (m' := { TS x lim s o (seen1.add 16) with pc := 35, pos := p, handed := p }) (Go.one ?_)
    (Go.trans (a := 1) (b := 3) (m' := { TS x lim s o ((seen1.add 16).add 16) with pc := 37, pos := p + 1, handed := p }) (Go.one ?_)
    (Go.trans (a := 1) (b := 2) (m' := { TS x lim s o (((seen1.add 16).add 16).add 1) with pc := 37, pos := p + 1, handed := p + 1, answer := some true }) (Go.one ?_)
    (Go.trans (a := 1) (b := 1) (m' := { TS x lim s o (((seen1.add 16).add 16).add 1) with handed := p + 1, answer := some true, frames := [], weight := 0 }) (Go.one rfl) (Go.one rfl))))))), rfl, rfl, rfl⟩
  · show (if p ≥ lim then _ else match accepts qc 28 (x.getD p 0) (seen1.add 16) with | .error why => _ | .ok (false, seen) => _ | .ok (true, seen) => _) = _
    rw [if_neg (by omega), acc28, e92]
    rfl
  · show (M.possessive _ 0 n (some p)) = _
    rw [poss_end rfl rfl hn (show (some p != some p) = false by simp)]
    rfl
  · show (if p ≥ lim then _ else match accepts qc 35 (x.getD p 0) ((seen1.add 16).add 16) with | .error why => _ | .ok (false, seen) => _ | .ok (true, seen) => _) = _
    rw [if_neg (by omega), acc35, hc]
    rfl
  · cases o <;> rfl
/-- the beginning of a search -/
theorem search_start {x : Array Nat} {s : Nat} (h : s + 2 ≤ x.size) : ∃ seen, forSearch qc x 0 s x.size false = TS x x.size s true seen := by
  refine ⟨({} : Sre.Seen).add 14, ?_⟩
  show (if (decide (s > x.size) || decide (x.size - s < 2)) = true then _ else _) = _
  rw [if_neg (by simp only [Bool.or_eq_true, decide_eq_true_eq]; omega)]
  rfl
theorem search_short {x : Array Nat} {s : Nat} (h : x.size < s + 2) : ∃ m', Go 1 (forSearch qc x 0 s x.size false) m' ∧ m'.outcome = some .failed := by
  refine ⟨_, Go.one rfl, ?_⟩
  show (M.step (if (decide (s > x.size) || decide (x.size - s < 2)) = true then _ else _)).outcome = _
  rw [if_pos (by simp only [Bool.or_eq_true, decide_eq_true_eq]; omega)]
  rfl
end Re
end
section
set_option maxRecDepth 100000
theorem fresh_Tok : True := by (w_top off; trivial)
/-- the nine signs -/
def signs : List Nat := [34, 40, 41, 91, 92, 123, 126, 233, 937]
inductive Tk
  | op (c : Nat)
  | sp
  | cl
/-- a sign's bytes between the marks -/
def byt (c : Nat) : List Nat := if c = 34 ∨ c = 92 then [92, c] else if c = 233 then [195, 169] else if c = 937 then [206, 169] else [c]
def tb : Tk → List Nat
  | .op c => 40 :: 34 :: (byt c ++ [34])
  | .sp => [32]
  | .cl => [41]
def Tk.ok : Tk → Prop
  | .op c => c ∈ signs
  | _ => True
def Tk.isOp : Tk → Bool
  | .op _ => true
  | _ => false
def flat (ts : List Tk) : List Nat := ts.flatMap tb
theorem flat_cons (t : Tk) (ts : List Tk) : flat (t :: ts) = tb t ++ flat ts := by simp [flat]
theorem flat_append (a b : List Tk) : flat (a ++ b) = flat a ++ flat b := by simp [flat]
theorem tb_len (t : Tk) : 1 ≤ (tb t).length ∧ (tb t).length ≤ 5 := by
  cases t with
  | op c => simp only [tb, byt]; split <;> (try split) <;> (try split) <;> simp
  | sp => simp [tb]
  | cl => simp [tb]
theorem flatT_len (ts : List Tk) : (flat ts).length ≤ 5 * ts.length := by
  induction ts with
  | nil => simp [flat]
  | cons t ts ih => rw [flat_cons, List.length_append, List.length_cons]; have := (tb_len t).2; omega
theorem at_mid (pre w post : List Nat) (k : Nat) (hk : k < w.length) : (pre ++ (w ++ post)).toArray.getD (pre.length + k) 0 = w.getD k 0 := by
  simp only [Array.getD_eq_getD_getElem?, List.getElem?_toArray, List.getD_eq_getElem?_getD]
  rw [List.getElem?_append_right (by omega), show pre.length + k - pre.length = k by omega, List.getElem?_append_left hk]
namespace Re
open PySem.Sre
theorem find_quoted (pre post : List Nat) (c : Nat) (hc : c ∈ signs) (o : Bool) (seen : Sre.Seen) :
    ∃ m', Go 40 (TS (pre ++ (tb (.op c) ++ post)).toArray (pre ++ (tb (.op c) ++ post)).length pre.length o seen) m' ∧ m'.outcome = some .matched ∧ m'.start = pre.length + 1 ∧ m'.handed = pre.length + (tb (.op c)).length := by
  have hl : (pre ++ (tb (.op c) ++ post)).length = pre.length + ((tb (.op c)).length + post.length) := by simp only [List.length_append]
  have ha := at_mid pre (tb (.op c)) post
  generalize (pre ++ (tb (.op c) ++ post)).length = lim at *
  generalize (pre ++ (tb (.op c) ++ post)).toArray = x at *
  have l5 : 4 ≤ (tb (.op c)).length := by simp only [tb, byt]; split <;> (try split) <;> (try split) <;> simp
  have a0 : x.getD pre.length 0 = 40 := by have := ha 0 (by omega); rw [Nat.add_zero] at this; rw [this]; rfl
  have a1 : x.getD (pre.length + 1) 0 = 34 := by rw [ha 1 (by omega)]; rfl
  obtain ⟨s1, g1⟩ := ts_skip (x := x) (lim := lim) (s := pre.length) (o := o) (seen := seen) (by omega) (by rw [a0]; rfl)
  obtain ⟨s2, g2⟩ := ts_open (x := x) (lim := lim) (s := pre.length + 1) (o := false) (seen := s1) (by omega) (by rw [a1]; rfl)
  -- one byte between the marks
  have one : ∀ d, tb (.op c) = [40, 34, d, 34] → (d == 34 || d == 92) = false → 
      ∃ m', Go 40 (TS x lim pre.length o seen) m' ∧ m'.outcome = some .matched ∧ m'.start = pre.length + 1 ∧ m'.handed = pre.length + (tb (.op c)).length := by
    intro d hd hn
    rw [hd] at ha hl ⊢
    simp only [List.length_cons, List.length_nil] at ha hl ⊢
    have b2 : x.getD (pre.length + 2) 0 = d := ha 2 (by omega)
    have b3 : x.getD (pre.length + 3) 0 = 34 := ha 3 (by omega)
    obtain ⟨s3, g3⟩ := ps_plain (x := x) (lim := lim) (s := pre.length + 1) (p := pre.length + 1 + 1) (o := false) (n := 0) (seen := s2) (by omega) (by omega) (by rw [show pre.length + 1 + 1 = pre.length + 2 from rfl, b2]; exact hn)
    obtain ⟨m', g4, h1, h2, h3⟩ := ps_close (x := x) (lim := lim) (s := pre.length + 1) (p := pre.length + 1 + 1 + 1) (o := false) (n := 0 + 1) (seen := s3) (by omega) (by omega) (by rw [show pre.length + 1 + 1 + 1 = pre.length + 3 from rfl, b3]; rfl)
    exact ⟨m', (((g1.trans g2).trans g3).trans g4).mono (by omega), h1, h2, by rw [h3]⟩
  have two : ∀ d e, tb (.op c) = [40, 34, d, e, 34] → (d == 34 || d == 92) = false → (e == 34 || e == 92) = false → 
      ∃ m', Go 40 (TS x lim pre.length o seen) m' ∧ m'.outcome = some .matched ∧ m'.start = pre.length + 1 ∧ m'.handed = pre.length + (tb (.op c)).length := by
    intro d e hd hn he
    rw [hd] at ha hl ⊢
    simp only [List.length_cons, List.length_nil] at ha hl ⊢
    have b2 : x.getD (pre.length + 2) 0 = d := ha 2 (by omega)
    have b3 : x.getD (pre.length + 3) 0 = e := ha 3 (by omega)
    have b4 : x.getD (pre.length + 4) 0 = 34 := ha 4 (by omega)
    obtain ⟨s3, g3⟩ := ps_plain (x := x) (lim := lim) (s := pre.length + 1) (p := pre.length + 1 + 1) (o := false) (n := 0) (seen := s2) (by omega) (by omega) (by rw [show pre.length + 1 + 1 = pre.length + 2 from rfl, b2]; exact hn)
    obtain ⟨s4, g4⟩ := ps_plain (x := x) (lim := lim) (s := pre.length + 1) (p := pre.length + 1 + 1 + 1) (o := false) (n := 0 + 1) (seen := s3) (by omega) (by omega) (by rw [show pre.length + 1 + 1 + 1 = pre.length + 3 from rfl, b3]; exact he)
    obtain ⟨m', g5, h1, h2, h3⟩ := ps_close (x := x) (lim := lim) (s := pre.length + 1) (p := pre.length + 1 + 1 + 1 + 1) (o := false) (n := 0 + 1 + 1) (seen := s4) (by omega) (by omega) (by rw [show pre.length + 1 + 1 + 1 + 1 = pre.length + 4 from rfl, b4]; rfl)
    exact ⟨m', ((((g1.trans g2).trans g3).trans g4).trans g5).mono (by omega), h1, h2, by rw [h3]⟩
  have hid : ∀ d, tb (.op c) = [40, 34, 92, d, 34] → (d != 10) = true → 
      ∃ m', Go 40 (TS x lim pre.length o seen) m' ∧ m'.outcome = some .matched ∧ m'.start = pre.length + 1 ∧ m'.handed = pre.length + (tb (.op c)).length := by
    intro d hd hn
    rw [hd] at ha hl ⊢
    simp only [List.length_cons, List.length_nil] at ha hl ⊢
    have b2 : x.getD (pre.length + 2) 0 = 92 := ha 2 (by omega)
    have b3 : x.getD (pre.length + 3) 0 = d := ha 3 (by omega)
    have b4 : x.getD (pre.length + 4) 0 = 34 := ha 4 (by omega)
    obtain ⟨s3, g3⟩ := ps_hidden (x := x) (lim := lim) (s := pre.length + 1) (p := pre.length + 1 + 1) (o := false) (n := 0) (seen := s2) (by omega) (by omega) (by rw [show pre.length + 1 + 1 = pre.length + 2 from rfl, b2]; rfl)
      (by rw [show pre.length + 1 + 1 + 1 = pre.length + 3 from rfl, b3]; exact hn)
    obtain ⟨m', g5, h1, h2, h3⟩ := ps_close (x := x) (lim := lim) (s := pre.length + 1) (p := pre.length + 1 + 1 + 2) (o := false) (n := 0 + 1) (seen := s3) (by omega) (by omega) (by rw [show pre.length + 1 + 1 + 2 = pre.length + 4 from rfl, b4]; rfl)
    exact ⟨m', (((g1.trans g2).trans g3).trans g5).mono (by omega), h1, h2, by rw [h3]⟩
  simp only [signs, List.mem_cons, List.not_mem_nil, or_false] at hc
  rcases hc with rfl | rfl | rfl | rfl | rfl | rfl | rfl | rfl | rfl
  · exact hid 34 rfl rfl
  · exact one 40 rfl rfl
  · exact one 41 rfl rfl
  · exact one 91 rfl rfl
  · exact hid 92 rfl rfl
  · exact one 123 rfl rfl
  · exact one 126 rfl rfl
  · exact two 195 169 rfl rfl rfl
  · exact two 206 169 rfl rfl rfl
/-- from a token's place: no node opens any more, or the first that does is found -/
theorem try_none (ts : List Tk) (hn : ∀ t ∈ ts, t.isOp = false) : ∀ (pre : List Nat) (o : Bool) (seen : Sre.Seen),
    ∃ m', Go (2 * ts.length + 3) (TS (pre ++ flat ts).toArray (pre ++ flat ts).length pre.length o seen) m' ∧ m'.outcome = some .failed := by
  induction ts with
  | nil =>
    intro pre o seen
    exact ts_end (by simp [flat])
  | cons t ts ih =>
    intro pre o seen
    have hone : ∃ d, tb t = [d] ∧ (d == 34) = false := by
      cases t with
      | op c => exact absurd (hn _ (List.mem_cons_self ..)) (by simp [Tk.isOp])
      | sp => exact ⟨32, rfl, rfl⟩
      | cl => exact ⟨41, rfl, rfl⟩
    obtain ⟨d, hd, h34⟩ := hone
    have e : pre ++ flat (t :: ts) = (pre ++ [d]) ++ flat ts := by rw [flat_cons, hd, List.append_assoc]
    have ha := at_mid pre [d] (flat ts) 0 (by simp)
    have hlen : pre.length < (pre ++ flat (t :: ts)).length := by rw [e]; simp only [List.length_append, List.length_cons, List.length_nil]; omega
    obtain ⟨s1, g1⟩ := ts_skip (x := (pre ++ flat (t :: ts)).toArray) (lim := (pre ++ flat (t :: ts)).length) (s := pre.length) (o := o) (seen := seen) hlen (by rw [flat_cons, hd]; rw [Nat.add_zero] at ha; rw [ha]; exact h34)
    obtain ⟨m', g2, h2⟩ := ih (fun t ht => hn t (List.mem_cons_of_mem _ ht)) (pre ++ [d]) false s1
    rw [show (pre ++ [d]).length = pre.length + 1 by simp] at g2
    rw [← e] at g2
    exact ⟨m', (g1.trans g2).mono (by simp only [List.length_cons]; omega), h2⟩
theorem try_some (mid : List Tk) (hn : ∀ t ∈ mid, t.isOp = false) (c : Nat) (hc : c ∈ signs) (rest : List Tk) : ∀ (pre : List Nat) (o : Bool) (seen : Sre.Seen),
    ∃ m', Go (2 * mid.length + 40) (TS (pre ++ flat (mid ++ .op c :: rest)).toArray (pre ++ flat (mid ++ .op c :: rest)).length pre.length o seen) m' ∧ m'.outcome = some .matched
      ∧ m'.start = pre.length + (flat mid).length + 1 ∧ m'.handed = pre.length + (flat mid).length + (tb (.op c)).length := by
  induction mid with
  | nil =>
    intro pre o seen
    rw [List.nil_append, flat_cons]
    obtain ⟨m', g, h1, h2, h3⟩ := find_quoted pre (flat rest) c hc o seen
    exact ⟨m', g.mono (by omega), h1, by rw [h2]; rfl, by rw [h3]; rfl⟩
  | cons t ts ih =>
    intro pre o seen
    have hone : ∃ d, tb t = [d] ∧ (d == 34) = false := by
      cases t with
      | op c => exact absurd (hn _ (List.mem_cons_self ..)) (by simp [Tk.isOp])
      | sp => exact ⟨32, rfl, rfl⟩
      | cl => exact ⟨41, rfl, rfl⟩
    obtain ⟨d, hd, h34⟩ := hone
    have e : pre ++ flat ((t :: ts) ++ .op c :: rest) = (pre ++ [d]) ++ flat (ts ++ .op c :: rest) := by rw [List.cons_append, flat_cons, hd, List.append_assoc]
    have ha := at_mid pre [d] (flat (ts ++ .op c :: rest)) 0 (by simp)
    have hlen : pre.length < (pre ++ flat ((t :: ts) ++ .op c :: rest)).length := by rw [e]; simp only [List.length_append, List.length_cons, List.length_nil]; omega
    obtain ⟨s1, g1⟩ := ts_skip (x := (pre ++ flat ((t :: ts) ++ .op c :: rest)).toArray) (lim := (pre ++ flat ((t :: ts) ++ .op c :: rest)).length) (s := pre.length) (o := o) (seen := seen) hlen
      (by rw [List.cons_append, flat_cons, hd]; rw [Nat.add_zero] at ha; rw [ha]; exact h34)
    obtain ⟨m', g2, h2, h3, h4⟩ := ih (fun t ht => hn t (List.mem_cons_of_mem _ ht)) (pre ++ [d]) false s1
    rw [show (pre ++ [d]).length = pre.length + 1 by simp] at g2 h3 h4
    rw [← e] at g2
    have el : (flat (t :: ts)).length = 1 + (flat ts).length := by rw [flat_cons, hd, List.length_append]; rfl
    exact ⟨m', (g1.trans g2).mono (by simp only [List.length_cons]; omega), h2, by rw [h3, el]; omega, by rw [h4, el]; omega⟩
theorem search_none (pre : List Nat) (ts : List Tk) (hn : ∀ t ∈ ts, t.isOp = false) : 
    ∃ m', Go (2 * ts.length + 3) (forSearch qc (pre ++ flat ts).toArray 0 pre.length (pre ++ flat ts).toArray.size false) m' ∧ m'.outcome = some .failed := by
  by_cases h : pre.length + 2 ≤ (pre ++ flat ts).toArray.size
  · obtain ⟨seen, e⟩ := search_start h
    rw [e, List.size_toArray]
    exact try_none ts hn pre true seen
  · obtain ⟨m', g, h1⟩ := search_short (x := (pre ++ flat ts).toArray) (s := pre.length) (by omega)
    exact ⟨m', g.mono (by omega), h1⟩
theorem search_some (pre : List Nat) (mid : List Tk) (hn : ∀ t ∈ mid, t.isOp = false) (c : Nat) (hc : c ∈ signs) (rest : List Tk) : 
    ∃ m', Go (2 * mid.length + 40) (forSearch qc (pre ++ flat (mid ++ .op c :: rest)).toArray 0 pre.length (pre ++ flat (mid ++ .op c :: rest)).toArray.size false) m' ∧ m'.outcome = some .matched
      ∧ m'.start = pre.length + (flat mid).length + 1 ∧ m'.handed = pre.length + (flat mid).length + (tb (.op c)).length := by
  obtain ⟨seen, e⟩ := search_start (x := (pre ++ flat (mid ++ .op c :: rest)).toArray) (s := pre.length) (by
    rw [List.size_toArray, List.length_append, flat_append, flat_cons]
    simp only [List.length_append, tb, List.length_cons]
    omega)
  rw [e, List.size_toArray]
  exact try_some mid hn c hc rest pre true seen
end Re
/-- a list of tokens, cut at its first opening one -/
theorem cut (ts : List Tk) : (∀ t ∈ ts, t.isOp = false) ∨ ∃ mid c rest, ts = mid ++ .op c :: rest ∧ (∀ t ∈ mid, t.isOp = false) := by
  induction ts with
  | nil => exact .inl (by simp)
  | cons t ts ih =>
    cases t with
    | op c => exact .inr ⟨[], c, ts, rfl, by simp⟩
    | sp =>
      rcases ih with h | ⟨mid, c, rest, e, h⟩
      · exact .inl (by intro t ht; rcases List.mem_cons.mp ht with rfl | h'; rfl; exact h t h')
      · exact .inr ⟨.sp :: mid, c, rest, by rw [e]; rfl, by intro t ht; rcases List.mem_cons.mp ht with rfl | h'; rfl; exact h t h'⟩
    | cl =>
      rcases ih with h | ⟨mid, c, rest, e, h⟩
      · exact .inl (by intro t ht; rcases List.mem_cons.mp ht with rfl | h'; rfl; exact h t h')
      · exact .inr ⟨.cl :: mid, c, rest, by rw [e]; rfl, by intro t ht; rcases List.mem_cons.mp ht with rfl | h'; rfl; exact h t h'⟩
end
section
set_option maxRecDepth 100000
theorem fresh_Byf : True := by (w_top off; trivial)
namespace By
open Builtin
theorem slot_join : Slot "bytes" "join" "bytes.join" :=
  .of (owner := "bytes") (n := "join") (by rw [typeLookup_type, builtinLookup_eq_fast]; kernel_rfl) (by decide +kernel) (by decide +kernel) (by decide +kernel)
    (by first | exact .inl (by decide +kernel) | exact .inr (by decide +kernel)) (by rw [isSubtype_type]; kernel_rfl)
theorem entry_join : entryFor table "bytes.join" = some Builtin.«bytes.join» := entryFor_of_tree (by kernel_rfl)
theorem args_join (a b : Value) : argsOk "bytes.join" ⟨[a, b], []⟩ := by
  unfold argsOk; rw [signature?_of (id := "bytes.join") (n := ['n', 'i', 'o', 'j']) (o := ['s', 'e', 't', 'y', 'b']) (by kernel_rfl) FB.owner_bytes]; kernel_rfl
theorem slot_count : Slot "bytes" "count" "bytes.count" :=
  .of (owner := "bytes") (n := "count") (by rw [typeLookup_type, builtinLookup_eq_fast]; kernel_rfl) (by decide +kernel) (by decide +kernel) (by decide +kernel)
    (by first | exact .inl (by decide +kernel) | exact .inr (by decide +kernel)) (by rw [isSubtype_type]; kernel_rfl)
theorem type_count : typeOf (.builtin "bytes.count") = pure (.type "method_descriptor") := by show builtinType _ = _; rw [builtinType_eq_fast]; kernel_rfl
theorem entry_count : entryFor table "bytes.count" = some Builtin.«bytes.count» := entryFor_of_tree (by kernel_rfl)
theorem args_count (a b : Value) : argsOk "bytes.count" ⟨[a, b], []⟩ := by
  unfold argsOk; rw [signature?_of (id := "bytes.count") (n := ['t', 'n', 'u', 'o', 'c']) (o := ['s', 'e', 't', 'y', 'b']) (by kernel_rfl) FB.owner_bytes]; kernel_rfl
theorem plainAttrs_re : PlainAttrs "re.Pattern" :=
  ⟨⟨"object.__getattribute__", by rw [typeLookup_type, builtinLookup_eq_fast]; kernel_rfl, by decide +kernel⟩, by rw [typeLookup_type, builtinLookup_eq_fast]; kernel_rfl⟩
theorem slot_sub : Slot "re.Pattern" "sub" "re.Pattern.sub" :=
  .of (owner := "re.Pattern") (n := "sub") (by rw [typeLookup_type, builtinLookup_eq_fast]; kernel_rfl) (by decide +kernel) (by decide +kernel) (by decide +kernel)
    (by first | exact .inl (by decide +kernel) | exact .inr (by decide +kernel)) (by rw [isSubtype_type]; kernel_rfl)
theorem type_sub : typeOf (.builtin "re.Pattern.sub") = pure (.type "method_descriptor") := by show builtinType _ = _; rw [builtinType_eq_fast]; kernel_rfl
theorem entry_sub : entryFor table "re.Pattern.sub" = some Builtin.«re.Pattern.sub» := entryFor_of_tree (by kernel_rfl)
theorem entry_loop : entryFor table "re.Pattern.sub.loop" = some Builtin.«re.Pattern.sub.loop» := entryFor_of_tree (by kernel_rfl)
theorem plain_loop : plainId "re.Pattern.sub.loop" = true := by decide +kernel
theorem no_call : typeLookup (.type "bytes") "__call__" = pure none := by rw [typeLookup_type, builtinLookup_eq_fast]; kernel_rfl
section
variable {M : Model} {prog : Program} {w : World} {A : Around} {E : Value → Shared → Prop} {s : Shared} {b c : Array UInt8} {t u : Tok}
theorem buffer_eq' {id : String} {full : Bool} : Bytes.buffer? id (.bytes b t) full = pure (some b) := by
  unfold Bytes.buffer?
  rw [KBy.special_eq KBy.look_buffer, KBy.own_buffer, KBy.own_release]
  kernel_rfl
theorem take_eq {id : String} : Bytes.takeBufferQuiet? id (.bytes b t) 0 = pure (some (b, none)) := by
  unfold Bytes.takeBufferQuiet? Bytes.takeBuffer?
  rw [KBy.special_eq KBy.look_buffer, KBy.own_buffer, buffer_eq']
  kernel_rfl
/-- one byte counted -/
theorem one_step (d : UInt8) : ∀ (l pre : List UInt8) (acc : List Nat × Nat), (∀ x ∈ acc.1, x < pre.length) → acc.2 ≤ pre.length →
    (((List.range' pre.length l.length).foldl (fun (acc : List Nat × Nat) (i : Nat) => if (decide (i ≥ acc.2) && (pre ++ l).toArray.extract i (i + 1) == #[d]) = true then (i :: acc.1, i + 1) else acc) acc).1).length = acc.1.length + l.count d := by
  intro l
  induction l with
  | nil => intro pre acc _ _; simp
  | cons y l ih =>
    intro pre acc h1 h2
    rw [List.length_cons, List.range'_succ, List.foldl_cons]
    have e : (pre ++ y :: l).toArray.extract pre.length (pre.length + 1) = #[y] := by
      simp [List.extract_toArray, List.extract_eq_take_drop, List.drop_append]
    have e2 : pre ++ y :: l = (pre ++ [y]) ++ l := by simp
    rw [e, List.count_cons]
    have hs : (decide (pre.length ≥ acc.2)) = true := by simpa using h2
    rw [hs, Bool.true_and]
    have key := ih (pre ++ [y])
    rw [← e2, List.length_append, show [y].length = 1 from rfl] at key
    by_cases hd : y = d
    · subst hd
      rw [if_pos (by simp)]
      rw [key]
      · simp; omega
      · intro x hx
        rcases List.mem_cons.mp hx with rfl | hx
        · simp
        · have := h1 x hx; simp; omega
      · simp
    · rw [if_neg (by simpa using hd)]
      rw [key]
      · simp [hd]
      · intro x hx; have := h1 x hx; omega
      · omega
theorem count_one (l : List UInt8) (d : UInt8) : (Bytes.occurrences l.toArray #[d] 0 l.length).length = l.count d := by
  have h := one_step d l [] ([], 0) (by simp) (by simp)
  unfold Bytes.occurrences
  rw [List.length_reverse]
  simp only [List.length_nil, Nat.zero_add, List.nil_append] at h
  rw [← h]
  rw [show (List.range (l.length + 1 - (0 + #[d].size))).map (· + 0) = List.range' 0 l.length by
    simp [List.range_eq_range']]
  rfl
theorem gives_count (l : List UInt8) (d : UInt8) : Gives (Builtin.«bytes.count» ⟨[.bytes l.toArray t, .bytes #[d] u], []⟩) (.int ((l.count d : Nat) : Int)) := by
  refine .of_wp fun M A E s Q hq => ?_
  unfold Builtin.«bytes.count» Bytes.countM Bytes.searchArgs
  refine wpAny_bind ?_
  show wpAny M A (Bytes.buffer? _ (.bytes #[d] u) >>= fun r => _) _ E s
  refine wpAny_bind (wpAny_of_eq KBy.buffer_eq ?_)
  refine wpAny_pure ?_
  have c1 : ¬ ((l.length : Int) < 0) := by omega
  simp only [Option.getD_none, List.size_toArray, Int.lt_irrefl, if_false, if_neg c1, Int.min_self, Int.sub_zero]
  cases l with
  | nil => exact wpAny_bind (wpAny_mkInt (wpAny_pure ⟨_, rfl, hq⟩))
  | cons y l =>
    rw [if_neg (by simp only [List.length_cons]; show ¬ (_ < ((1 : Nat) : Int)); omega)]
    show wpAny M A (retInt ((Bytes.occurrences (y :: l).toArray #[d] 0 (y :: l).length).length : Nat)) _ E s
    rw [count_one]
    exact wpAny_bind (wpAny_mkInt (wpAny_pure ⟨_, rfl, hq⟩))
end
end By
end
section
set_option maxRecDepth 100000
theorem fresh_Byj : True := by (w_top off; trivial)
namespace By
open Builtin
section
variable {M : Model} {prog : Program} {w : World} {A : Around} {E : Value → Shared → Prop} {s : Shared} {b c : Array UInt8} {t u : Tok}
/-- the value of a bytes -/
def PB (v : Value) (u : List UInt8) : Prop := ∃ t, v = .bytes u.toArray t
theorem letGo_run {taken : List (Value × Option Value)} (hn : ∀ p ∈ taken, p.2 = none) {keep : List Value} {Q : Unit → Shared → Prop} (hQ : Q () s) : wpAny M A (Bytes.joinLetGo taken keep) Q E s := by
  induction taken with
  | nil => exact wpAny_pure hQ
  | cons p r ih =>
    obtain ⟨x, w⟩ := p
    have e : w = none := hn _ (.head _)
    subst e
    show wpAny M A (letGo [x] _ >>= fun _ => _) Q E s
    exact wpAny_bind (wpAny_letGo (ih fun q hq => hn q (.tail _ hq)))
theorem joined_flat (us : List (List UInt8)) : Bytes.joined #[] (us.map (·.toArray)) = us.flatten.toArray := by
  have h : ∀ (us : List (List UInt8)) (k : Nat) (acc : List UInt8), ((us.map (·.toArray)).zipIdx k).foldl (fun out (p, i) => (if i > 0 then out ++ #[] else out) ++ p) acc.toArray = (acc ++ us.flatten).toArray := by
    intro us
    induction us with
    | nil => intro k acc; simp
    | cons u us ih =>
      intro k acc
      rw [List.map_cons, List.zipIdx_cons, List.foldl_cons]
      have e : ((if k > 0 then acc.toArray ++ #[] else acc.toArray) ++ u.toArray) = (acc ++ u).toArray := by split <;> simp
      show List.foldl _ ((if k > 0 then acc.toArray ++ #[] else acc.toArray) ++ u.toArray) _ = _
      rw [e, ih (k + 1) (acc ++ u)]
      simp
  exact h us 0 []
theorem sizes_flat (us : List (List UInt8)) : ∀ k, (us.map (·.toArray)).foldl (fun (x1 : Nat) (x2 : Array UInt8) => x1 + x2.size) k = k + us.flatten.length := by
  induction us with
  | nil => intro k; simp
  | cons u us ih => intro k; rw [List.map_cons, List.foldl_cons, ih]; simp; omega
theorem join_run {l : Addr} {vs : List Value} {n : Nat} {us : List (List UInt8)} {Q : Fin → Shared → Prop} (ho : s.heap.get? l = some (lstO vs n)) (hv : All2 PB vs us) (hz : us.flatten.length ≤ sizeLine)
    (hQ : ∀ t' k, Q (.done (.ret (.bytes us.flatten.toArray t'))) { s with toks := k }) : wpAny M A (Builtin.«bytes.join» ⟨[.bytes #[] t, .ref l], []⟩) Q E s := by
  have hT : s.TypeIs (.ref l) "list" := ⟨_, ho, rfl⟩
  show wpAny M A (Bytes.joinItems (.ref l) >>= fun seq => _) _ E s
  refine wpAny_bind ?_
  unfold Bytes.joinItems
  refine wpAny_bind (wpAny_typeOf hT ?_)
  refine bm_if_true (by decide +kernel) ?_
  refine wpAny_pure ?_
  refine wpAny_bind (wpAny_seqItems ho rfl ?_)
  refine bm_if_true rfl ?_
  have hlen : vs.length = us.length := hv.length
  rcases vs with _ | ⟨x, _ | ⟨y, rest⟩⟩
  case cons.nil =>
    cases hv with
    | cons h1 h2 =>
      cases h2
      obtain ⟨t1, rfl⟩ := h1
      refine wpAny_bind (wpAny_of_eq (rfl : typeOf (.bytes _ _) = pure (.type "bytes")) ?_)
      refine bm_if_true (by decide +kernel) ?_
      refine wpAny_bind (wpAny_rule ?_)
      have := hQ t1 s.toks
      simp only [List.flatten_cons, List.flatten_nil, List.append_nil] at this
      exact wpAny_pure this
  all_goals
    show wpAny M A (forIn [:_] ((#[] : Array (Array UInt8)), ([] : List (Value × Option Value))) _ >>= _) _ _ _
    rw [Std.Legacy.Range.forIn_eq_forIn_range']
    simp only [Std.Legacy.Range.size, Nat.sub_zero, Nat.add_sub_cancel, Nat.div_one, List.size_toArray]
    refine wpAny_bind (wpAny_forIn_list _ (fun r st s' => s' = s ∧ ∃ k, k ≤ us.length ∧ r = List.range' k (us.length - k) ∧ st.1 = ((us.take k).map (·.toArray)).toArray ∧ (∀ p ∈ st.2, p.2 = none) ∧ (∀ p ∈ st.2, p.1.onHeap = false)) _ ?_ ?_ _ _ ?_)
    · intro i r st s' hI
      obtain ⟨rfl, k, hk, hr, h1, h2, h3⟩ := hI
      have hlt : k < us.length := by
        rcases Nat.lt_or_ge k us.length with h | h
        · exact h
        · rw [show us.length - k = 0 by omega] at hr
          simp at hr
      rw [show us.length - k = (us.length - k - 1) + 1 by omega, List.range'_succ] at hr
      obtain ⟨rfl, rfl⟩ := List.cons.inj hr
      obtain ⟨v, hgv, t1, rfl⟩ := hv.get (List.getElem?_eq_getElem hlt)
      refine wpAny_bind (wpAny_seqItems ho rfl ?_)
      refine bm_if_false ?_ ?_
      · rw [Bool.or_eq_false_iff]
        exact ⟨rfl, List.any_eq_false.mpr fun p hp => by rw [h3 p hp]; exact Bool.false_ne_true⟩
      have eg : ∀ (L : List Value), L[i]? = some (.bytes us[i].toArray t1) → L.toArray.getD i .none = .bytes us[i].toArray t1 := by
        intro L hL
        simp [Array.getD_eq_getD_getElem?, hL]
      rw [eg _ hgv]
      refine wpAny_bind (wpAny_holding (wpAny_of_eq take_eq ?_))
      refine wpAny_bind (wpAny_seqItems ho rfl ?_)
      refine bm_if_false (by simp) ?_
      refine wpAny_pure ⟨rfl, i + 1, hlt, ?_, ?_, ?_, ?_⟩
      · rw [show us.length - (i + 1) = us.length - i - 1 by omega]
      · show st.1.push us[i].toArray = _
        rw [h1, List.take_succ_eq_append_getElem hlt, List.map_append, List.push_toArray]
        rfl
      · intro p hp
        rcases List.mem_append.mp hp with h | h
        · exact h2 p h
        · rw [List.mem_singleton.mp h]
      · intro p hp
        rcases List.mem_append.mp hp with h | h
        · exact h3 p h
        · rw [List.mem_singleton.mp h]; rfl
    · intro st s' hI
      obtain ⟨rfl, k, hk, hr, h1, h2, h3⟩ := hI
      have hk' : k = us.length := by
        rcases Nat.lt_or_ge k us.length with h | h
        · rw [show us.length - k = (us.length - k - 1) + 1 by omega, List.range'_succ] at hr
          cases hr
        · omega
      rw [hk', List.take_length] at h1
      refine wpAny_bind (wpAny_pure (a := (#[] : Array UInt8)) ?_)
      have hs : Array.foldl (fun (x1 : Nat) (x2 : Array UInt8) => x1 + x2.size) ((#[] : Array UInt8).size * (st.1.size - 1)) st.1 = us.flatten.length := by
        rw [h1, List.foldl_toArray]
        have := sizes_flat us 0
        rw [Nat.zero_add] at this
        simpa using this
      refine bm_if_false (by rw [hs]; unfold Bytes.tooLong; exact decide_eq_false (by omega)) ?_
      have hj : Bytes.joined #[] st.1.toList = us.flatten.toArray := by rw [h1]; exact joined_flat us
      rw [hj]
      refine wpAny_bind ?_
      show wpAny M A (mkBytes us.flatten.toArray) _ E _
      refine wpAny_mkBytes ?_ (by simpa using hz)
      refine wpAny_bind (wpAny_holding (wpAny_point ?_))
      refine wpAny_bind (letGo_run h2 ?_)
      exact wpAny_pure (hQ _ _)
    · exact ⟨rfl, 0, Nat.zero_le _, by rw [← hlen]; rfl, rfl, by simp, by simp⟩
theorem join_call {l : Addr} {vs : List Value} {n : Nat} {us : List (List UInt8)} {Q : Value → Shared → Prop} (ho : s.heap.get? l = some (lstO vs n)) (hv : All2 PB vs us) (hz : us.flatten.length ≤ sizeLine)
    (hQ : ∀ t' k, Q (.bytes us.flatten.toArray t') { s with toks := k }) : wpAny (model prog w) A (call (.builtin "bytes.join") [.bytes #[] t, .ref l]) Q E s :=
  wpAny_call (codeAny_call_builtin slot_join.plain entry_join (slot_join.check _ _ _ _ _ _ _ _ (typeIs_bytes _ _ _) (args_join _ _) (join_run ho hv hz fun t' k => hQ t' k)))
theorem count_call {l : List UInt8} {d : UInt8} {Q : Value → Shared → Prop} (hQ : Q (.int ((l.count d : Nat) : Int) s.toks) { s with toks := s.toks + 1 }) :
    wpAny (model prog w) A (call (.builtin "bytes.count") [.bytes l.toArray t, .bytes #[d] u]) Q E s :=
  call_gives slot_count (typeIs_bytes _ _ _) entry_count (args_count _ _) (gives_count l d) hQ
end
end By
end
section
set_option maxRecDepth 100000
set_option maxHeartbeats 4000000
theorem fresh_Sub : True := by (w_top off; trivial)
namespace Re
open PySem.Sre Builtin Builtin.Re
section
variable {prog : Program} {w : World} {A : Around} {E : Value → Shared → Prop} {s : Shared}
theorem drive_run {M : Model} {Q : Sre.M → Shared → Prop} {m' : Sre.M} (ho : m'.outcome.isSome = true) (hQ : Q m' s) : ∀ (T k : Nat) (m : Sre.M), k < 4 * T → sn k m = m' → wpAny M A (reDrive T m) Q E s := by
  intro T
  induction T with
  | zero => intro k m hk; omega
  | succ T ih =>
    intro k m hk e
    show wpAny M A (if (m.runFor 4).outcome.isSome = true then pure (m.runFor 4) else _) Q E s
    rw [runFor_sn]
    by_cases h : (sn 4 m).outcome.isSome = true
    · have e2 : sn 4 m = m' := by
        rcases Nat.le_total k 4 with hk4 | hk4
        · rw [show (4 : Nat) = k + (4 - k) by omega, sn_add, e, sn_done ho]
        · rw [show k = 4 + (k - 4) by omega, sn_add, sn_done h] at e
          exact e
      rw [if_pos h, e2]
      exact wpAny_pure hQ
    · rw [if_neg h]
      refine wpAny_bind (wpAny_rule ?_)
      have hk4 : 4 < k := by
        rcases Nat.lt_or_ge 4 k with hk4 | hk4
        · exact hk4
        · exfalso
          apply h
          rw [show (4 : Nat) = k + (4 - k) by omega, sn_add, e, sn_done ho]
          exact ho
      exact ih (k - 4) _ (by omega) (by rw [runFor_sn, show reTurnSteps = 4 from rfl, ← sn_add, show 4 + (k - 4) = k by omega]; exact e)
theorem run_to_end {M : Model} {Q : Option Sre.M → Shared → Prop} {m m' : Sre.M} {k : Nat} (g : Go k m m') (hk : k < 1000000) (ho : m'.outcome = some .matched ∨ m'.outcome = some .failed)
    (hQ : (m'.outcome = some .matched → Q (some m') s) ∧ (m'.outcome = some .failed → Q none s)) : wpAny M A (reRunToEnd m) Q E s := by
  obtain ⟨n, hn, e⟩ := g
  have his : m'.outcome.isSome = true := by rcases ho with h | h <;> rw [h] <;> rfl
  refine wpAny_bind (drive_run his ?_ _ n m (by omega) e)
  refine wpAny_bind (wpAny_forIn_list _ (fun _ _ s' => s' = s) _ ?_ ?_ _ _ rfl)
  · rintro i _ _ _ rfl
    refine wpAny_ite_split (fun h => ?_) (fun h => ?_)
    · exact wpAny_bind (wpAny_rule (wpAny_pure rfl))
    · exact wpAny_pure rfl
  · rintro _ _ rfl
    rcases ho with h | h
    · rw [h]; exact wpAny_pure (hQ.1 h)
    · rw [h]; exact wpAny_pure (hQ.2 h)
/-- the pattern at P, its code at C -/
def Pat (h : Heap) (P C : Addr) : Prop :=
  ∃ (op : Obj) (fs : Array Value) (oc : Obj) (items : Array Value) (n : Nat), h.get? P = some op ∧ op.cls = .type "re.Pattern" ∧ op.dict = none ∧ op.data = .fields fs ∧ reRawNat (fs.getD 6 .none) = 1 ∧ reRawNat (fs.getD 2 .none) = 0 ∧ fs.getD 5 .none = .ref C
    ∧ h.get? C = some oc ∧ oc.data = .seq items n ∧ (items.map reRawOf).map (·.toNat) = qc
theorem Pat.ext {h h' : Heap} {P C : Addr} (p : Pat h P C) (k : ∀ b o, (b = P ∨ b = C) → h.get? b = some o → h'.get? b = some o) : Pat h' P C := by
  obtain ⟨op, fs, oc, items, n, h1, h2, h2', h3, h4, h5, h6, h7, h8⟩ := p
  exact ⟨op, fs, oc, items, n, k _ _ (.inl rfl) h1, h2, h2', h3, h4, h5, h6, k _ _ (.inr rfl) h7, h8⟩
theorem target_run {M : Model} {Q : ReTarget → Shared → Prop} {P C : Addr} {b : Array UInt8} {t : Tok} (p : Pat s.heap P C)
    (hQ : Q { pattern := .ref P, string := .bytes b t, code := qc, text := b.map (·.toNat), kind := 1, groups := 0, pos := 0, lim := (b.map (·.toNat)).size } s) :
    wpAny M A (reWholeTarget (.ref P) (.bytes b t)) Q E s := by
  obtain ⟨op, fs, oc, items, n, h1, h2, h2', h3, h4, h5, h6, h7, h8, h9⟩ := p
  unfold reWholeTarget
  refine wpAny_bind (wpAny_fieldsOf h1 h3 ?_)
  refine wpAny_bind ?_
  show wpAny M A (Bytes.bufferQuiet? _ (.bytes b t) >>= fun r => _) _ E s
  refine wpAny_bind (wpAny_of_eq KBy.quiet_eq ?_)
  refine wpAny_pure ?_
  dsimp only
  rw [h4, h5, h6]
  refine bm_if_false rfl ?_
  refine bm_if_false rfl ?_
  refine wpAny_bind ?_
  show wpAny M A (isInstance (.bytes b t) (.type "bytes") >>= fun r => _) _ E s
  refine wpAny_bind (wpAny_of_eq KBy.isInstance_eq ?_)
  refine wpAny_pure ?_
  refine wpAny_bind ?_
  refine wpAny_bind (wpAny_seqItems h7 h8 ?_)
  refine wpAny_pure ?_
  rw [show (((some items).getD #[]).map reRawOf).map (·.toNat) = qc from h9]
  exact wpAny_pure hQ
/-- what stays of a token when the quoted parts are gone -/
def bare : Tk → Nat
  | .op _ => 40
  | .sp => 32
  | .cl => 41
def by8 (l : List Nat) : List UInt8 := l.map (·.toUInt8)
theorem by8_app (a b : List Nat) : by8 (a ++ b) = by8 a ++ by8 b := List.map_append
theorem small_mid {mid : List Tk} (hn : ∀ t ∈ mid, t.isOp = false) : flat mid = mid.map bare := by
  induction mid with
  | nil => rfl
  | cons t ts ih =>
    rw [flat_cons, List.map_cons, ih fun t ht => hn t (List.mem_cons_of_mem _ ht)]
    cases t with
    | op c => exact absurd (hn _ (List.mem_cons_self ..)) (by simp [Tk.isOp])
    | sp => rfl
    | cl => rfl
theorem extract_mid (pre m post : List Nat) : (pre ++ (m ++ post)).toArray.extract pre.length (pre.length + m.length) = m.toArray := by
  rw [List.extract_toArray, List.extract_eq_take_drop, List.drop_left, show pre.length + m.length - pre.length = m.length by omega, List.take_left]
theorem join_of {us : List (List UInt8)} {v u : List UInt8} (h : us.flatten = v) : (us ++ [u]).flatten = v ++ u := by rw [List.flatten_append, h]; simp
theorem push_run {M : Model} {l : Addr} {vs : List Value} {m : Nat} {v : Value} {Q : Unit → Shared → Prop} (ho : s.heap.get? l = some (lstO vs m)) (hz : vs.length ≤ sizeLine)
    (hQ : ∀ h' m', (∀ b o, b ≠ l → s.heap.get? b = some o → h'.get? b = some o) → h'.get? l = some (lstO (vs ++ [v]) m') → Q () { s with heap := h' }) : wpAny M A (updateSeq l (·.push v)) Q E s := by
  have e2 : Obj.mapSeq (·.push v) (lstO vs m) = lstO (vs ++ [v]) (if ((vs.toArray.push v).size == vs.toArray.size) = true then m else m + 1) := by
    show Obj.mapSeq (·.push v) (lstO vs m) = { cls := .type "list", data := .seq (vs ++ [v]).toArray _ }
    rw [← List.push_toArray]
    rfl
  exact wpAny_updateSeq ho rfl (hQ _ _ (fun b o hb e => (Heap.get?_update_other _ _ (Ne.symm hb)).trans e) ((Heap.get?_update_self _ ho rfl).trans (congrArg some e2))) (by simpa using hz) (by simp; omega)
theorem slice_run {M : Model} (x : List Nat) (a c : Nat) {Q : Value → Shared → Prop} (hz : c ≤ a + 16777216)
    (hQ : Q (.bytes (by8 ((x.toArray.extract a c).toList)).toArray s.toks) { s with toks := s.toks + 1 }) : wpAny M A (reSlice x.toArray 1 a c) Q E s := by
  show wpAny M A (mkBytes ((x.toArray.extract a c).map (·.toUInt8))) Q E s
  have e : (x.toArray.extract a c).map (·.toUInt8) = (by8 ((x.toArray.extract a c).toList)).toArray := by simp [by8]
  rw [e]
  refine wpAny_mkBytes hQ ?_
  rw [← e, Array.size_map, Array.size_extract, show sizeLine = 16777216 from rfl]
  omega
theorem tail_run {l : Addr} {vs : List Value} {m : Nat} {us : List (List UInt8)} {x : List Nat} {Q : Fin → Shared → Prop} (ho : s.heap.get? l = some (lstO vs m)) (hv : All2 By.PB vs us) (hz : us.flatten.length ≤ sizeLine)
    (hQ : ∀ t' k, Q (.done (.ret (.bytes us.flatten.toArray t'))) { s with toks := k }) :
    wpAny (model prog w) A (do
      let joiner ← reSlice x.toArray 1 0 0
      let r ← seqItems? (.ref l)
      if (r.getD #[]).isEmpty = true then do
        let text ← pure joiner
        ret text
      else do
        let text ← call (.builtin "bytes.join") [joiner, .ref l]
        ret text) Q E s := by
  refine wpAny_bind (slice_run x 0 0 (by omega) ?_)
  have e0 : (by8 ((x.toArray.extract 0 0).toList)).toArray = #[] := by simp [by8]
  rw [e0]
  refine wpAny_bind (wpAny_seqItems ho rfl ?_)
  show wpAny _ _ (if vs.toArray.isEmpty = true then _ else _) _ _ _
  cases vs with
  | nil =>
    cases hv
    exact wpAny_pure (hQ _ _)
  | cons v vs =>
    refine bm_if_false (by simp) ?_
    refine wpAny_bind (By.join_call ho hv hz fun t' k => ?_)
    exact wpAny_pure (hQ _ _)
theorem loop_run {R : Result → Shared → Prop} {P C l : Addr} {tr t : Tok} (b : Array UInt8) (all : List Tk) (hb : b.map (·.toNat) = (flat all).toArray) (hok : ∀ t ∈ all, t.ok) (hall : all.length ≤ 1000) (hPl : P ≠ l) (hCl : C ≠ l) :
    ∀ (k : Nat) (ts : List Tk) (pt : List Tk) (s : Shared) (n : Int) (t1 t2 t3 t4 t5 : Tok) (vs : List Value) (m : Nat) (us : List (List UInt8)), ts.length < k → all = pt ++ ts → Pat s.heap P C → 
      s.heap.get? l = some (lstO vs m) → All2 By.PB vs us → us.flatten = by8 (pt.map bare) → vs.length ≤ 2 * pt.length →
      (∀ h' t' k', (∀ b o, b ≠ l → s.heap.get? b = some o → h'.get? b = some o) → R (.ok (.ret (.bytes (by8 (all.map bare)).toArray t'))) { s with heap := h', toks := k' }) →
      codeAny (model prog w) A (.builtin "re.Pattern.sub.loop" ⟨[.ref P, .bytes b t, .bytes #[] tr, .int 0 t1, .int 0 t2, .int n t3, .int ((flat pt).length : Nat) t4, .int ((flat pt).length : Nat) t5, .bool false, .ref l, .bool false], []⟩) R s := by
  intro k
  induction k with
  | zero => intro ts pt s n t1 t2 t3 t4 t5 vs m us hk; omega
  | succ k ih =>
    intro ts pt s n t1 t2 t3 t4 t5 vs m us hk ha p ho hv hu hlen hR
    have hpt : pt.length + ts.length = all.length := by rw [ha, List.length_append]
    have hfl : (flat pt).length + (flat ts).length = (flat all).length := by rw [ha, flat_append, List.length_append]
    have hbig : (flat all).length ≤ 5000 := by have := flatT_len all; omega
    have hsl : sizeLine = 16777216 := rfl
    refine codeAny_builtin By.entry_loop ?_
    rw [Around.under_plainId By.plain_loop _]
    show wpAny _ A.in1 (reWholeTarget (.ref P) (.bytes b t) >>= fun r => _) _ _ s
    refine wpAny_bind (target_run p ?_)
    refine bm_if_true rfl ?_
    refine wpAny_bind ?_
    show wpAny _ A.in1 (isInstance (.bytes #[] tr) (.type "bytes") >>= fun r => _) _ _ s
    refine wpAny_bind (wpAny_of_eq KBy.isInstance_eq ?_)
    refine wpAny_pure ?_
    refine wpAny_bind (bm_if_false rfl ?_)
    rw [hb, Int.toNat_natCast]
    unfold reNextFound
    dsimp only
    rcases cut ts with hn | ⟨mid, c, rest, ets, hn⟩
    · obtain ⟨m', g, hf⟩ := search_none (flat pt) ts hn
      rw [← flat_append, ← ha] at g
      refine run_to_end g (by omega) (.inr hf) ⟨fun h => (by rw [hf] at h; cases h), fun _ => ?_⟩
      dsimp only
      by_cases hts : ts = []
      · subst hts
        have e : pt = all := by rw [ha, List.append_nil]
        subst e
        rw [if_neg (by simp)]
        refine tail_run ho hv (by rw [hu, by8, List.length_map, List.length_map]; omega) fun t' k' => ?_
        rw [hu]
        exact hR s.heap _ _ fun b o _ e => e
      · have hpos : 0 < (flat ts).length := by
          cases ts with
          | nil => exact absurd rfl hts
          | cons t ts => rw [flat_cons, List.length_append]; have := (tb_len t).1; omega
        rw [if_pos (by simp; omega)]
        refine wpAny_bind (slice_run _ _ _ (by simp; omega) ?_)
        have es : (by8 (((flat all).toArray.extract (flat pt).length (flat all).toArray.size).toList)) = by8 (ts.map bare) := by
          have := extract_mid (flat pt) (flat ts) []
          rw [List.append_nil, ← flat_append, ← ha, hfl] at this
          rw [List.size_toArray, this, small_mid hn]
        rw [es]
        refine wpAny_bind (push_run ho (by omega) fun h' m' hk' hl' => ?_)
        refine tail_run hl' (hv.snoc ⟨_, rfl⟩) ?_ fun t' k' => ?_
        · rw [join_of hu, List.length_append, by8, by8, List.length_map, List.length_map, List.length_map, List.length_map]; omega
        · rw [join_of hu, ← by8_app, ← List.map_append, ← ha]
          exact hR h' _ _ hk'
    · obtain ⟨m', g, hf, h1, h2⟩ := search_some (flat pt) mid hn c (hok (Tk.op c) (by rw [ha, ets]; simp)) rest
      rw [← flat_append, ← ets, ← ha] at g
      have hmid : mid.length + 1 + rest.length = ts.length := by rw [ets]; simp; omega
      refine run_to_end g (by omega) (.inl hf) ⟨fun _ => ?_, fun h => (by rw [hf] at h; cases h)⟩
      dsimp only
      have hm : (flat mid).length ≤ 5 * mid.length := flatT_len mid
      have hle : (flat pt).length + ((flat mid).length + ((tb (.op c)).length + (flat rest).length)) = (flat all).length := by
        rw [← hfl, ets, flat_append, flat_cons]; simp only [List.length_append]
      rw [h1, h2]
      rw [if_pos (by omega)]
      refine wpAny_bind (slice_run _ _ _ (by omega) ?_)
      have es : (by8 (((flat all).toArray.extract (flat pt).length ((flat pt).length + (flat mid).length + 1)).toList)) = by8 ((mid ++ [Tk.op c]).map bare) := by
        have := extract_mid (flat pt) (flat mid ++ [40]) (34 :: (byt c ++ [34]) ++ flat rest)
        have e2 : flat pt ++ (flat mid ++ [40] ++ (34 :: (byt c ++ [34]) ++ flat rest)) = flat all := by
          rw [ha, ets, flat_append, flat_append, flat_cons]; simp [tb]
        rw [e2, List.length_append, List.length_singleton, ← Nat.add_assoc] at this
        rw [this, small_mid hn, List.map_append]
        rfl
      rw [es]
      refine wpAny_bind (push_run ho (by omega) fun h' m2 hk' hl' => ?_)
      refine bm_if_true rfl ?_
      refine wpAny_bind (wpAny_pure ?_)
      refine bm_if_true rfl ?_
      refine wpAny_bind (push_run hl' (by simp; omega) fun h'' m3 hk'' hl'' => ?_)
      have hq : ((flat pt).length + (flat mid).length + (tb (Tk.op c)).length == (flat pt).length + (flat mid).length + 1) = false := by
        have : 3 ≤ (tb (Tk.op c)).length := by simp [tb]
        simp only [beq_eq_false_iff_ne]
        omega
      have hp : (flat pt).length + (flat mid).length + (tb (Tk.op c)).length = (flat (pt ++ (mid ++ [Tk.op c]))).length := by
        rw [flat_append, flat_append, List.length_append, List.length_append, flat_cons]
        simp [flat, Nat.add_assoc]
      rw [hq, hp]
      refine wpAny_pure ⟨plainId_quiet By.plain_loop _, ih rest (pt ++ (mid ++ [Tk.op c])) _ (n + 1) 0 0 0 0 0 _ m3 (us ++ [by8 ((mid ++ [Tk.op c]).map bare)] ++ [[]]) (by omega) (by rw [ha, ets]; simp) ?_ hl'' ((hv.snoc ⟨_, rfl⟩).snoc ⟨tr, rfl⟩) ?_ ?_ fun h3 t' k' hk3 => ?_⟩
      · refine p.ext fun b o hb e => ?_
        have hbl : b ≠ l := by rcases hb with rfl | rfl <;> assumption
        exact hk'' b o hbl (hk' b o hbl e)
      · rw [join_of (join_of hu), List.append_nil, ← by8_app, ← List.map_append]
      · simp only [List.length_append, List.length_cons, List.length_nil]; omega
      · exact hR h3 t' k' fun b o hbl e => hk3 b o hbl (hk'' b o hbl (hk' b o hbl e))
theorem named_eq (x y : Value) : reNamed "re.Pattern.sub" "sub" ["repl", "string", "count"] 2 [x, y] [] = pure [some x, some y, none] := by kernel_rfl
theorem args_sub (a b c : Value) : argsOk "re.Pattern.sub" ⟨[a, b, c], []⟩ := by
  unfold argsOk; kernel_rfl
theorem sub_run {R : Result → Shared → Prop} {P C : Addr} {tr t : Tok} (b : Array UInt8) (all : List Tk) (hb : b.map (·.toNat) = (flat all).toArray) (hok : ∀ t ∈ all, t.ok) (hall : all.length ≤ 1000) (p : Pat s.heap P C) 
    (hR : ∀ h' t' k', Kp s.heap h' → R (.ok (.ret (.bytes (by8 (all.map bare)).toArray t'))) { s with heap := h', toks := k' }) :
    wpAny (model prog w) A.in1 (Builtin.«re.Pattern.sub» ⟨[.ref P, .bytes #[] tr, .bytes b t], []⟩)
      (fun fin s' => match fin with | .done f => R (.ok f) s' | .again c' => c'.quiet = true ∧ codeAny (model prog w) A c' R s') (fun e s' => R (.error e) s') s := by
  show wpAny _ _ (reNamed "re.Pattern.sub" "sub" ["repl", "string", "count"] 2 [.bytes #[] tr, .bytes b t] [] >>= fun r => _) _ _ _
  refine wpAny_bind (wpAny_of_eq (named_eq _ _) ?_)
  refine wpAny_bind (wpAny_pure ?_)
  refine wpAny_bind (wpAny_of_eq (KBy.special_eq By.no_call) ?_)
  show wpAny _ _ (Bytes.bufferQuiet? _ (.bytes #[] tr) >>= fun r => _) _ _ _
  refine wpAny_bind (wpAny_of_eq KBy.quiet_eq ?_)
  refine wpAny_bind (wpAny_pure ?_)
  refine bm_if_false rfl ?_
  refine bm_if_true (by simp) ?_
  refine wpAny_bind (wpAny_pure ?_)
  refine wpAny_bind (wpAny_holding (target_run p ?_))
  refine bm_if_false rfl ?_
  refine wpAny_bind (wpAny_newList ?_)
  have hne : ∀ b o, s.heap.get? b = some o → b ≠ s.heap.objs.size := fun b o e => Nat.ne_of_lt (Heap.lt_size e)
  have hk : ∀ b o, s.heap.get? b = some o → (s.heap.push { cls := .type "list", data := .seq ([] : List Value).toArray }).get? b = some o := fun b o e => Heap.get?_push_of_some _ e
  have pc := p
  obtain ⟨op, fs, oc, items, n, h1, h2, h2', h3, h4, h5, h6, h7, h8⟩ := pc
  refine wpAny_pure ⟨plainId_quiet By.plain_loop _, loop_run (l := s.heap.objs.size) (C := C) b all hb hok hall (hne _ _ h1) (hne _ _ h7) (all.length + 1) all [] _ 0 0 0 0 0 0 [] 0 [] (by omega) rfl (p.ext fun b o _ e => hk b o e) (Heap.get?_push_size _ rfl) .nil rfl (Nat.zero_le _) fun h' t' k' hk' => hR h' t' k' ?_⟩
  exact fun b o e => hk' b o (hne b o e) (hk b o e)
theorem sub_call {Q : Value → Shared → Prop} {P C : Addr} {tr t : Tok} (b : Array UInt8) (all : List Tk) (hb : b.map (·.toNat) = (flat all).toArray) (hok : ∀ t ∈ all, t.ok) (hall : all.length ≤ 1000) (p : Pat s.heap P C)
    (hR : ∀ h' t' k', Kp s.heap h' → Q (.bytes (by8 (all.map bare)).toArray t') { s with heap := h', toks := k' }) :
    wpAny (model prog w) A (call (.builtin "re.Pattern.sub") [.ref P, .bytes #[] tr, .bytes b t]) Q E s := by
  have pc := p
  obtain ⟨op, fs, oc, items, n, h1, h2, h2', h3, h4, h5, h6, h7, h8⟩ := pc
  exact wpAny_call (codeAny_call_builtin By.slot_sub.plain By.entry_sub (By.slot_sub.check _ _ _ _ _ _ _ _ ⟨_, h1, h2⟩ (args_sub _ _ _) (sub_run (C := C) (R := fun r s' => match r with | .ok (.ret v) => Q v s' | .ok _ => False | .error e => E e s') b all hb hok hall p hR)))
theorem sub_method {M : Model} {Q : Value × List Value → Shared → Prop} {P C : Addr} {pl : Sem Bool} (p : Pat s.heap P C) (h : Q (.builtin "re.Pattern.sub", [.ref P]) s) : wpAny M A (getMethod (.ref P) "sub" pl) Q E s := by
  obtain ⟨op, fs, oc, items, n, h1, h2, h2', h3, h4, h5, h6, h7, h8⟩ := p
  exact getMethod_builtin ⟨_, h1, h2⟩ By.plainAttrs_re By.slot_sub By.type_sub (fun a e => by cases e; exact ⟨_, h1, h2'⟩) h
theorem count_method {M : Model} {Q : Value × List Value → Shared → Prop} {b : Array UInt8} {t : Tok} {pl : Sem Bool} (h : Q (.builtin "bytes.count", [.bytes b t]) s) : wpAny M A (getMethod (.bytes b t) "count" pl) Q E s :=
  getMethod_builtin (typeIs_bytes _ _ _) FB.plainAttrs_bytes By.slot_count By.type_count (fun a e => by cases e) h
end
end Re
end
section
set_option maxRecDepth 100000
set_option maxHeartbeats 8000000
theorem fresh_Par : True := by (w_top off; trivial)
theorem pat_of {K : Frag} {h : Heap} (X : K.In h) {P C : Addr} {op oc : Obj} {fs items : Array Value} {n : Nat} (k1 : K.lookup P = some op) (k2 : K.lookup C = some oc) (e1 : op.cls = .type "re.Pattern") (e2 : op.dict = none)
    (e3 : op.data = .fields fs) (e4 : Builtin.Re.reRawNat (fs.getD 6 .none) = 1) (e5 : Builtin.Re.reRawNat (fs.getD 2 .none) = 0) (e6 : fs.getD 5 .none = .ref C) (e7 : oc.data = .seq items n)
    (e8 : (items.map Builtin.Re.reRawOf).map (·.toNat) = Re.qc) : Re.Pat h P C := ⟨op, fs, oc, items, n, X _ _ k1, e1, e2, e3, e4, e5, e6, X _ _ k2, e7, e8⟩
theorem qc_of : (#[Value.int 14 0, Value.int 8 0, Value.int 1 0, Value.int 2 0, Value.int 4294967295 0, Value.int 1 0,
          Value.int 1 0, Value.int 34 0, Value.int 0 0, Value.int 16 0, Value.int 34 0, Value.int 28 0, Value.int 22 0,
          Value.int 0 0, Value.int 4294967295 0, Value.int 7 0, Value.int 11 0, Value.int 13 0, Value.int 7 0,
          Value.int 21 0, Value.int 16 0, Value.int 34 0, Value.int 16 0, Value.int 92 0, Value.int 0 0, Value.int 15 0,
          Value.int 8 0, Value.int 6 0, Value.int 16 0, Value.int 92 0, Value.int 2 0, Value.int 15 0, Value.int 2 0,
          Value.int 0 0, Value.int 1 0, Value.int 16 0, Value.int 34 0, Value.int 1 0].map Builtin.Re.reRawOf).map (·.toNat) = Re.qc := by
  rw [Array.map_map, List.map_toArray]
  rfl
def net : Tk → Int
  | .op _ => 1
  | .sp => 0
  | .cl => -1
def nets (ts : List Tk) : Int := (ts.map net).sum
theorem nets_cons (t : Tk) (ts : List Tk) : nets (t :: ts) = net t + nets ts := by simp [nets]
theorem nets_count (ts : List Tk) (d : Int) : d + (((Re.by8 (ts.map Re.bare)).count 40 : Nat) : Int) - (((Re.by8 (ts.map Re.bare)).count 41 : Nat) : Int) = d + nets ts := by
  induction ts generalizing d with
  | nil => simp [nets, Re.by8]
  | cons t ts ih =>
    have h := ih d
    rw [nets_cons]
    cases t with
    | op c =>
      have e1 : (Re.by8 ((Tk.op c :: ts).map Re.bare)).count 40 = (Re.by8 (ts.map Re.bare)).count 40 + 1 := by simp [Re.by8, Re.bare]
      have e2 : (Re.by8 ((Tk.op c :: ts).map Re.bare)).count 41 = (Re.by8 (ts.map Re.bare)).count 41 := by simp [Re.by8, Re.bare, List.count_cons]
      rw [e1, e2]; simp only [net]; omega
    | sp =>
      have e1 : (Re.by8 ((Tk.sp :: ts).map Re.bare)).count 40 = (Re.by8 (ts.map Re.bare)).count 40 := by simp [Re.by8, Re.bare, List.count_cons]
      have e2 : (Re.by8 ((Tk.sp :: ts).map Re.bare)).count 41 = (Re.by8 (ts.map Re.bare)).count 41 := by simp [Re.by8, Re.bare, List.count_cons]
      rw [e1, e2]; simp only [net]; omega
    | cl =>
      have e1 : (Re.by8 ((Tk.cl :: ts).map Re.bare)).count 40 = (Re.by8 (ts.map Re.bare)).count 40 := by simp [Re.by8, Re.bare, List.count_cons]
      have e2 : (Re.by8 ((Tk.cl :: ts).map Re.bare)).count 41 = (Re.by8 (ts.map Re.bare)).count 41 + 1 := by simp [Re.by8, Re.bare]
      rw [e1, e2]; simp only [net]; omega
section
set_option hygiene false in
local macro_rules | `(tactic| walk_at "getMethod ref") => `(tactic| (k_here; refine Re.sub_method (Re.Pat.ext p43 fun b o _ e => F'.keep b o e) ?_))
set_option hygiene false in
local macro_rules | `(tactic| walk_at "call builtin:re.Pattern.sub") => `(tactic| (k_here; refine Re.sub_call (C := 42) b all hb hok hall (Re.Pat.ext p43 fun b o _ e => F'.keep b o e) ?_; intro h3 t3 k3 hk3; (have F3 := fr_kp F' hk3); clear F' N'; dsimp only))
local macro_rules | `(tactic| walk_at "getMethod bytes") => `(tactic| (k_here; refine Re.count_method ?_))
local macro_rules | `(tactic| walk_at "call builtin:bytes.count") => `(tactic| (k_here; refine By.count_call ?_))
theorem paren_spec (w : World) (dp un : Nat) (fr : Option (List Env)) (gd : Option (List Code)) (s : Shared) (b : Array UInt8) (t : Tok) (d : Int) (t' : Tok)
   (Q E : Value → Shared → Prop) (hdp : dp < 900) (hun : un < 9000) (G : Gd w s.heap) (all : List Tk) (hb : b.map (·.toNat) = (flat all).toArray) (hok : ∀ t ∈ all, t.ok) (hall : all.length ≤ 1000)
   (hQ : ∀ r h' tk', Kp s.heap h' → Q (.int (d + nets all) r) { s with heap := h', toks := tk' }) :
   wpAny (model PySem.Challenge.rw_xo0006_01.row.prog w) (AR dp fr gd un) (call (.ref 51) [.bytes b t, .int d t']) Q E s := by
  ((have hX0 : (hd.heap_39 w.params).In s.heap := G.1); revert hX0; k_fill; intro hX0; obtain ⟨mean, mg, mb, T0⟩ := G.2)
  have p43 : Re.Pat s.heap 43 42 := by
    refine' pat_of hX0 ?k1 ?k2 ?e1 ?e2 ?e3 ?e4 ?e5 ?e6 ?e7 ?e8
    case k1 => k_is
    case k2 => k_is
    case e1 => exact rfl
    case e2 => exact rfl
    case e3 => exact rfl
    case e7 => exact rfl
    case e4 => exact rfl
    case e5 => exact rfl
    case e6 => exact rfl
    case e8 => exact qc_of
  refine wpAny_call ?_
  refine' codeF (binds := [(Str.ofString "data", .bytes b t), (Str.ofString "depth", .int d t')]) hX0 T0 ?k6 ?k7 ?k8 ?k9 ?kB ?c2 ?c3 ?c4 ?c5 ?_
  ((case k6 => k_is); (case k7 => k_is); (case k8 => (simp only [recursionLimit]; omega)); (case k9 => first | exact BindsTo.of_eq rfl | exact binds_K (by k_in) rfl (by k_is) rfl rfl rfl); (case kB => exact locs rfl); (case c2 => decide); (case c3 => exact rfl); (case c4 => exact rfl); (case c5 => exact rfl); k_whole)
  intro L' h' F' N'
  dsimp only
  k_fold
  k_steps
  rename_i FE
  show Q (.int (d + (((Re.by8 (all.map Re.bare)).count 40 : Nat) : Int) - (((Re.by8 (all.map Re.bare)).count 41 : Nat) : Int)) _) _
  rw [nets_count]
  exact hQ _ _ _ fun b o e => FE.keep b o e
end
end
section
set_option maxRecDepth 100000
set_option maxHeartbeats 4000000
theorem fresh_Nst : True := by (w_top off; trivial)
namespace C2
open LCg
abbrev ce (elt iter1 iter2 : Expr) (x y : Str) (px py : Pos) (scope : Scope) (pos : Pos) : Expr := .ListComp elt [⟨.Name x px, iter1, [], 0⟩, ⟨.Name y py, iter2, [], 0⟩] scope pos
theorem turn1 (elt iter1 iter2 : Expr) (x y : Str) (px py : Pos) (scope : Scope) (pos : Pos) (it acc : Value) (env : Env) :
    compTurn (ce elt iter1 iter2 x y px py scope pos) 1 it acc env = (standAt iter2.pos >>= fun _ => pyNext it >>= fun r => match r with
      | none => pure (.done .next)
      | some v => letOwnedTupleGo (.Name y py) it v >>= fun _ => assign (.Name y py) env v >>= fun _ =>
        (eval elt env >>= fun x => call (.builtin "list.append") [acc, x] >>= fun _ => pure ()) >>= fun _ =>
          again (.compLoop (ce elt iter1 iter2 x y px py scope pos) 1 it acc env)) := by rfl
theorem turn0 (elt iter1 iter2 : Expr) (x y : Str) (px py : Pos) (scope : Scope) (pos : Pos) (it acc : Value) (env : Env) :
    compTurn (ce elt iter1 iter2 x y px py scope pos) 0 it acc env = (standAt iter1.pos >>= fun _ => pyNext it >>= fun r => match r with
      | none => pure (.done .next)
      | some v => letOwnedTupleGo (.Name x px) it v >>= fun _ => assign (.Name x px) env v >>= fun _ =>
        (eval iter2 env >>= fun z => standAt iter2.pos >>= fun _ => foldedSetIterable iter2 env z >>= fun z => holding [z] (pyIter z) >>= fun j =>
          runOwn (.compStart (ce elt iter1 iter2 x y px py scope pos) 1 j acc env) env >>= fun _ => 
          again (.compLoop (ce elt iter1 iter2 x y px py scope pos) 0 it acc env))) := by rfl
theorem news_head {h₀ h h' : Heap} {L a : Addr} {o o' : Obj} {rest : List (Addr × Obj)} (N : News h₀ L h ((a, o) :: rest)) (off : ∀ p ∈ rest, p.1 ≠ a) (k : ∀ b o, b ≠ a → h.get? b = some o → h'.get? b = some o) (e : h'.get? a = some o') :
    News h₀ L h' ((a, o') :: rest) := fun p hp => by
  rcases List.mem_cons.mp hp with rfl | hp
  · exact ⟨e, (N _ (.head _)).2⟩
  · exact ⟨k _ _ (off p hp) (N p (.tail _ hp)).1, (N p (.tail _ hp)).2⟩
section
variable {prog : Program} {w : World} {A : Around} {h₀ : Heap} {L : Addr} {m : Str → Option Value} {env : Env}
/-- what the element does: a new pair of the two names -/
def EltOk (prog : Program) (w : World) (A : Around) (h₀ : Heap) (L : Addr) (m : Str → Option Value) (env : Env) (elt : Expr) (scope : Scope) (cl : List (Str × Addr)) (x y : Str) (nb : List (Addr × Obj)) : Prop :=
  ∀ v u cv cu ys n nw I oI J oJ C oC D m₂ h tk (s : Shared) (E' : Value → Shared → Prop), CellV v cv → CellV u cu → NsObj oC m₂ → m₂ x = some v → m₂ y = some u → (∀ p ∈ nb, p ∈ nw) →
    Fr h₀ L h m → News h₀ L h ((J, oJ) :: (I, oI) :: (C, oC) :: (D, lstO ys n) :: nw) → 
    wpAny (model prog w) A (eval elt (compEnvC scope cl C env)) (fun r s₂ => ∃ h' tk' nw', s₂ = { s with heap := h', toks := tk' } ∧ Fr h₀ L h' m ∧ News h₀ L h' ((J, oJ) :: (I, oI) :: (C, oC) :: (D, lstO ys n) :: (nw ++ nw')) ∧
      (∀ p ∈ nw', J < p.1 ∧ I < p.1 ∧ C < p.1 ∧ D < p.1) ∧ TupAt nw' r [cv, cu]) E' { s with heap := h, toks := tk }
theorem inner_loop {R : Result → Shared → Prop} {elt iter1 iter2 : Expr} {x y : Str} {px py : Pos} {scope : Scope} {pos : Pos} {cl : List (Str × Addr)} {nb : List (Addr × Obj)} (el : EltOk prog w A h₀ L m env elt scope cl x y nb) (hh : A.handled = none)
    (hkind : scope.kind = .function) (hy : scope.names.lookup y = some .local) (hxy : x ≠ y) {v : Value} {b : Cell} (hvb : CellV v b) {r J I C D : Addr} {oI : Obj} {us : List Value} {k0 : Nat} {gs : List Cell} (hg : All2 CellV us gs) {base : List (List Cell)} (hcap : base.length + us.length ≤ sizeLine)
    (hJI : J ≠ I) (hJC : J ≠ C) (hJD : J ≠ D) (hIC : I ≠ C) (hID : I ≠ D) (hCD : C ≠ D) :
    ∀ (N0 : Nat) (s : Shared) (j : Nat) (ys : List Value) (n : Nat) (nw : List (Addr × Obj)) (oJ oC : Obj) (mC : Str → Option Value), N0 = us.length - j → j ≤ us.length → itO oJ r j → NsObj oC mC → mC x = some v → (r, lstO us k0) ∈ nw → (∀ p ∈ nb, p ∈ nw) →
      (∀ p ∈ nw, p.1 ≠ J ∧ p.1 ≠ I ∧ p.1 ≠ C ∧ p.1 ≠ D) → Fr h₀ L s.heap m → News h₀ L s.heap ((J, oJ) :: (I, oI) :: (C, oC) :: (D, lstO ys n) :: nw) → Rows nw ys (base ++ (gs.take j).map fun c => [b, c]) →
      (∀ h' tk' ys' n' nw' oC' mC', Fr h₀ L h' m → News h₀ L h' ((I, oI) :: (C, oC') :: (D, lstO ys' n') :: (nw ++ nw')) → (∀ p ∈ nw', p.1 ≠ I ∧ p.1 ≠ C ∧ p.1 ≠ D) → NsObj oC' mC' → Rows (nw ++ nw') ys' (base ++ gs.map fun c => [b, c]) → R (.ok .next) { s with heap := h', toks := tk' }) →
      codeAny (model prog w) A (.compLoop (ce elt iter1 iter2 x y px py scope pos) 1 (.ref J) (.ref D) (compEnvC scope cl C env)) R s := by
  intro N0
  induction N0 with
  | zero =>
    intro s j ys n nw oJ oC mC hN hj hit hoC hx hr hnb off F N hR hQ
    have ej : j = us.length := by omega
    subst ej
    refine codeAny_of_tree ?_
    show wpAny _ A ((compTurn (ce elt iter1 iter2 x y px py scope pos) 1 (.ref J) (.ref D) (compEnvC scope cl C env)).onRaise (fun x => do noteFrame x (compEnvC scope cl C env); theTreesLotGoes x)) _ _ s
    refine wpAny_noted ?_
    rw [turn1]
    refine wpAny_bind (wpAny_standAt (wpAny_bind ?_))
    have zJ := N _ (.head _)
    have hl : s.heap.IsList r us.toArray := ⟨_, (N _ (.tail _ (.tail _ (.tail _ (.tail _ hr))))).1, rfl, k0, rfl⟩
    refine wpAny_pyNext_list_end hh ⟨oJ, zJ.1, hit.1, hit.2⟩ hl (by simp) fun h₁ hs₁ => ?_
    refine wpAny_pure ?_
    have hk : ∀ b o, b ≠ J → s.heap.get? b = some o → h₁.get? b = some o := fun b o hb e => hs₁ b o hb e
    have hlen : gs.length = us.length := hg.length.symm
    rw [List.take_of_length_le (Nat.le_of_eq hlen)] at hR
    refine hQ h₁ _ ys n [] oC mC (LCg.fr_but (I := J) F (fun b o hb e => hk b o (by simpa using hb) e) (Ne.symm zJ.2.1) zJ.2.2) (fun p hp => ?_) (fun p hp => by cases hp) hoC (by rw [List.append_nil]; exact hR)
    rw [List.append_nil] at hp
    have hp' := N p (.tail _ hp)
    refine ⟨hk _ _ ?_ hp'.1, hp'.2⟩
    rcases List.mem_cons.mp hp with rfl | hp
    · exact Ne.symm hJI
    rcases List.mem_cons.mp hp with rfl | hp
    · exact Ne.symm hJC
    rcases List.mem_cons.mp hp with rfl | hp
    · exact Ne.symm hJD
    · exact (off p hp).1
  | succ N0 ih =>
    intro s j ys n nw oJ oC mC hN hj hit hoC hx hr hnb off F N hR hQ
    have hlt : j < us.length := by omega
    refine codeAny_of_tree ?_
    show wpAny _ A ((compTurn (ce elt iter1 iter2 x y px py scope pos) 1 (.ref J) (.ref D) (compEnvC scope cl C env)).onRaise (fun x => do noteFrame x (compEnvC scope cl C env); theTreesLotGoes x)) _ _ s
    refine wpAny_noted ?_
    rw [turn1]
    refine wpAny_bind (wpAny_standAt (wpAny_bind ?_))
    have zJ := N _ (.head _)
    have zC := N _ (.tail _ (.tail _ (.head _)))
    have hl : s.heap.IsList r us.toArray := ⟨_, (N _ (.tail _ (.tail _ (.tail _ (.tail _ hr))))).1, rfl, k0, rfl⟩
    refine wpAny_pyNext_list_item ⟨oJ, zJ.1, hit.1, hit.2⟩ hl (x := us[j]) (by simp [hlt]) fun h₁ hit₁ hs₁ => ?_
    obtain ⟨oJ1, hoJ1, hcJ1, hdJ1⟩ := hit₁
    have offJ : ∀ p ∈ (I, oI) :: (C, oC) :: (D, lstO ys n) :: nw, p.1 ≠ J := fun p hp => by
      rcases List.mem_cons.mp hp with rfl | hp
      · exact Ne.symm hJI
      rcases List.mem_cons.mp hp with rfl | hp
      · exact Ne.symm hJC
      rcases List.mem_cons.mp hp with rfl | hp
      · exact Ne.symm hJD
      · exact (off p hp).1
    have N1 := news_head N offJ (fun b o hb e => hs₁.extBut b o hb e) hoJ1
    have F1 : Fr h₀ L h₁ m := F.change hs₁ zJ.2.1 zJ.2.2
    refine wpAny_bind (wpAny_of_eq (show letOwnedTupleGo (.Name y py) (.ref J) us[j] = pure () from rfl) ?_)
    have hCns : h₁.Ns C mC := hoC.ns (N1 _ (.tail _ (.tail _ (.head _)))).1
    refine wpAny_bind (wpAny_assign_Name (wpAny_storeName_local (lookup_relabel_local hy) hCns (fun h₂ hn₂ hs₂ => ?_) (by simp [compEnvC, relabel, hkind])))
    obtain ⟨oC2, heC2, hoC2⟩ := ns_obj hn₂
    have F2 : Fr h₀ L h₂ m := F1.change hs₂ zC.2.1 zC.2.2
    have N1' : News h₀ L h₁ ((C, oC) :: (J, oJ1) :: (I, oI) :: (D, lstO ys n) :: nw) := News.sub N1 fun p hp => by
      (revert hp; revert p; walk_at "mine.sub")
    have offC : ∀ p ∈ (J, oJ1) :: (I, oI) :: (D, lstO ys n) :: nw, p.1 ≠ C := fun p hp => by
      rcases List.mem_cons.mp hp with rfl | hp
      · exact hJC
      rcases List.mem_cons.mp hp with rfl | hp
      · exact hIC
      rcases List.mem_cons.mp hp with rfl | hp
      · exact Ne.symm hCD
      · exact (off p hp).2.2.1
    have N2' := news_head N1' offC (fun b o hb e => hs₂.extBut b o hb e) heC2
    have N2 : News h₀ L h₂ ((J, oJ1) :: (I, oI) :: (C, oC2) :: (D, lstO ys n) :: nw) := News.sub N2' fun p hp => by
      (revert hp; revert p; walk_at "mine.sub")
    obtain ⟨c, hgc, hcu⟩ := hg.getL (List.getElem?_eq_getElem hlt)
    refine wpAny_bind (wpAny_bind (wpAny_mono (el v us[j] b c ys n nw I oI J oJ1 C oC2 D _ h₂ _ s _ hvb hcu hoC2 (by simp [hxy, hx]) (by simp) hnb F2 N2) (fun r5 s5 h5 => ?_) fun _ _ e => e))
    obtain ⟨h', tk', nw', rfl, F5, N5, off5, hT⟩ := h5
    have N6 : News h₀ L h' ((D, lstO ys n) :: ((J, oJ1) :: (I, oI) :: (C, oC2) :: (nw ++ nw'))) := News.sub N5 fun p hp => by
      (revert hp; revert p; walk_at "mine.sub")
    have off6 : ∀ p ∈ nw ++ nw', p.1 ≠ J ∧ p.1 ≠ I ∧ p.1 ≠ C ∧ p.1 ≠ D := fun p hp => by
      rcases List.mem_append.mp hp with hp | hp
      · exact off p hp
      · have := off5 p hp
        exact ⟨Nat.ne_of_gt this.1, Nat.ne_of_gt this.2.1, Nat.ne_of_gt this.2.2.1, Nat.ne_of_gt this.2.2.2⟩
    have hlen : ys.length ≤ base.length + j := by
      rw [hR.length, List.length_append, List.length_map, List.length_take]
      omega
    refine wpAny_bind (append_top F5 N6 (fun p hp => ?_) (by omega) fun n' h7 F7 N7 => ?_)
    · rcases List.mem_cons.mp hp with rfl | hp
      · exact hJD
      rcases List.mem_cons.mp hp with rfl | hp
      · exact hID
      rcases List.mem_cons.mp hp with rfl | hp
      · exact hCD
      · exact (off6 p hp).2.2.2
    refine wpAny_pure (wpAny_pure ⟨rfl, ?_⟩)
    refine ih { s with heap := h7, toks := tk' } (j + 1) (ys ++ [r5]) n' (nw ++ nw') oJ1 oC2 _ (by omega) hlt ⟨hcJ1, hdJ1⟩ hoC2 (by simp [hxy, hx]) (List.mem_append_left _ hr) (fun p hp => List.mem_append_left _ (hnb p hp)) off6 F7 (News.sub N7 fun p hp => ?_) ?_ ?_
    · (revert hp; revert p; walk_at "mine.sub")
    · rw [List.take_add_one, hgc, List.map_append, ← List.append_assoc]
      exact (hR.sub fun p hp => List.mem_append_left _ hp).snoc (hT.sub fun p hp => List.mem_append_right _ hp)
    · intro h8 tk8 ys8 n8 nw8 oC8 mC8 F8 N8 off8 hn8 hR8
      rw [List.append_assoc] at N8 hR8
      refine hQ h8 tk8 ys8 n8 (nw' ++ nw8) oC8 mC8 F8 N8 (fun p hp => ?_) hn8 hR8
      rcases List.mem_append.mp hp with hp | hp
      · exact (off6 p (List.mem_append_right _ hp)).2
      · exact off8 p hp
theorem start1 {R : Result → Shared → Prop} {s : Shared} {elt iter1 iter2 : Expr} {x y : Str} {px py : Pos} {scope : Scope} {pos : Pos} {J r : Addr} {i : Nat} {acc : Value} {cenv : Env} (hit : s.heap.IsListIter J r i)
    (h : codeAny (model prog w) A (.compLoop (ce elt iter1 iter2 x y px py scope pos) 1 (.ref J) acc cenv) R s) : codeAny (model prog w) A (.compStart (ce elt iter1 iter2 x y px py scope pos) 1 (.ref J) acc cenv) R s := by
  refine codeAny_of_tree ?_
  show wpAny _ _ ((compStart (ce elt iter1 iter2 x y px py scope pos) 1 (.ref J) acc cenv).onRaise (fun x => do noteFrame x cenv; standAt theWindowsPlace)) _ _ s
  refine wpAny_notedAt ?_
  unfold compStart
  show wpAny _ _ (ask >>= _) _ _ s
  refine wpAny_bind (wpAny_askSetting (wpAny_ite ?_))
  split
  · first
      | exact wpAny_bind (wpAny_pure (wpAny_pure (And.intro rfl h)))
      | exact wpAny_pure (And.intro rfl h)
  · refine wpAny_bind (wpAny_rule ?_)
    show wpAny _ _ (standAt iter2.pos >>= _) _ _ s
    exact wpAny_bind (wpAny_standAt (wpAny_bind (wpAny_pyIter_listiter hit (wpAny_pure (And.intro rfl h)))))
def IterOk (prog : Program) (w : World) (A : Around) (h₀ : Heap) (L : Addr) (m : Str → Option Value) (env : Env) (iter2 : Expr) (scope : Scope) (cl : List (Str × Addr)) (x : Str) (nb : List (Addr × Obj)) (gc : Cell → List Cell) (bc : List Cell) : Prop :=
  ∀ v cv ys n nw I oI C oC D m₂ h tk (s : Shared) (E' : Value → Shared → Prop), cv ∈ bc → CellV v cv → NsObj oC m₂ → m₂ x = some v → (∀ p ∈ nb, p ∈ nw) →
    Fr h₀ L h m → News h₀ L h ((I, oI) :: (C, oC) :: (D, lstO ys n) :: nw) → 
    wpAny (model prog w) A (eval iter2 (compEnvC scope cl C env)) (fun z s₂ => ∃ h' tk' nw' ar us k, z = .ref ar ∧ s₂ = { s with heap := h', toks := tk' } ∧ Fr h₀ L h' m ∧ News h₀ L h' ((I, oI) :: (C, oC) :: (D, lstO ys n) :: (nw ++ nw')) ∧
      (∀ p ∈ nw', I < p.1 ∧ C < p.1 ∧ D < p.1) ∧ (ar, lstO us k) ∈ nw ++ nw' ∧ All2 CellV us (gc cv)) E' { s with heap := h, toks := tk }
def prs (gc : Cell → List Cell) (b : Cell) : List (List Cell) := (gc b).map fun c => [b, c]
theorem outer_loop {R : Result → Shared → Prop} {elt iter1 iter2 : Expr} {x y : Str} {px py : Pos} {scope : Scope} {pos : Pos} {cl : List (Str × Addr)} {nb : List (Addr × Obj)} {gc : Cell → List Cell} {bc : List Cell} (el : EltOk prog w A h₀ L m env elt scope cl x y nb)
    (itk : IterOk prog w A h₀ L m env iter2 scope cl x nb gc bc) (hh : A.handled = none) (hfs : ∀ z env, foldedSetIterable iter2 env z = pure z)
    (hkind : scope.kind = .function) (hx : scope.names.lookup x = some .local) (hy : scope.names.lookup y = some .local) (hxy : x ≠ y) {B I C D : Addr} {bvs : List Value} {bn : Nat} (hB : (B, lstO bvs bn) ∈ nb) (hbc : All2 CellV bvs bc) 
    (hcap : (bc.flatMap (prs gc)).length ≤ sizeLine) (hIC : I ≠ C) (hID : I ≠ D) (hCD : C ≠ D) :
    ∀ (N0 : Nat) (s : Shared) (i : Nat) (ys : List Value) (n : Nat) (nw : List (Addr × Obj)) (oI oC : Obj) (mC : Str → Option Value), N0 = bvs.length - i → i ≤ bvs.length → itO oI B i → NsObj oC mC → (∀ p ∈ nb, p ∈ nw) →
      (∀ p ∈ nw, p.1 ≠ I ∧ p.1 ≠ C ∧ p.1 ≠ D) → Fr h₀ L s.heap m → News h₀ L s.heap ((I, oI) :: (C, oC) :: (D, lstO ys n) :: nw) → Rows nw ys ((bc.take i).flatMap (prs gc)) →
      (∀ h' tk' ys' n' nw' oC' mC', Fr h₀ L h' m → News h₀ L h' ((C, oC') :: (D, lstO ys' n') :: (nw ++ nw')) → (∀ p ∈ nw ++ nw', p.1 ≠ C ∧ p.1 ≠ D) → NsObj oC' mC' → Rows (nw ++ nw') ys' (bc.flatMap (prs gc)) → R (.ok .next) { s with heap := h', toks := tk' }) →
      codeAny (model prog w) A (.compLoop (ce elt iter1 iter2 x y px py scope pos) 0 (.ref I) (.ref D) (compEnvC scope cl C env)) R s := by
  intro N0
  induction N0 with
  | zero =>
    intro s i ys n nw oI oC mC hN hi hit hoC hnb off F N hR hQ
    have ei : i = bvs.length := by omega
    subst ei
    refine codeAny_of_tree ?_
    show wpAny _ A ((compTurn (ce elt iter1 iter2 x y px py scope pos) 0 (.ref I) (.ref D) (compEnvC scope cl C env)).onRaise (fun x => do noteFrame x (compEnvC scope cl C env); theTreesLotGoes x)) _ _ s
    refine wpAny_noted ?_
    rw [turn0]
    refine wpAny_bind (wpAny_standAt (wpAny_bind ?_))
    have zI := N _ (.head _)
    have hl : s.heap.IsList B bvs.toArray := ⟨_, (N _ (.tail _ (.tail _ (.tail _ (hnb _ hB))))).1, rfl, bn, rfl⟩
    refine wpAny_pyNext_list_end hh ⟨oI, zI.1, hit.1, hit.2⟩ hl (by simp) fun h₁ hs₁ => ?_
    refine wpAny_pure ?_
    have hk : ∀ b o, b ≠ I → s.heap.get? b = some o → h₁.get? b = some o := fun b o hb e => hs₁ b o hb e
    have hlen : bc.length = bvs.length := hbc.length.symm
    rw [List.take_of_length_le (Nat.le_of_eq hlen)] at hR
    refine hQ h₁ _ ys n [] oC mC (LCg.fr_but (I := I) F (fun b o hb e => hk b o (by simpa using hb) e) (Ne.symm zI.2.1) zI.2.2) (fun p hp => ?_) (fun p hp => ?_) hoC (by rw [List.append_nil]; exact hR)
    · rw [List.append_nil] at hp
      have hp' := N p (.tail _ hp)
      refine ⟨hk _ _ ?_ hp'.1, hp'.2⟩
      rcases List.mem_cons.mp hp with rfl | hp
      · exact Ne.symm hIC
      rcases List.mem_cons.mp hp with rfl | hp
      · exact Ne.symm hID
      · exact (off p hp).1
    · rw [List.append_nil] at hp
      exact (off p hp).2
  | succ N0 ih =>
    intro s i ys n nw oI oC mC hN hi hit hoC hnb off F N hR hQ
    have hlt : i < bvs.length := by omega
    refine codeAny_of_tree ?_
    show wpAny _ A ((compTurn (ce elt iter1 iter2 x y px py scope pos) 0 (.ref I) (.ref D) (compEnvC scope cl C env)).onRaise (fun x => do noteFrame x (compEnvC scope cl C env); theTreesLotGoes x)) _ _ s
    refine wpAny_noted ?_
    rw [turn0]
    refine wpAny_bind (wpAny_standAt (wpAny_bind ?_))
    have zI := N _ (.head _)
    have zC := N _ (.tail _ (.head _))
    have hl : s.heap.IsList B bvs.toArray := ⟨_, (N _ (.tail _ (.tail _ (.tail _ (hnb _ hB))))).1, rfl, bn, rfl⟩
    refine wpAny_pyNext_list_item ⟨oI, zI.1, hit.1, hit.2⟩ hl (x := bvs[i]) (by simp [hlt]) fun h₁ hit₁ hs₁ => ?_
    obtain ⟨oI1, hoI1, hcI1, hdI1⟩ := hit₁
    have offI : ∀ p ∈ (C, oC) :: (D, lstO ys n) :: nw, p.1 ≠ I := fun p hp => by
      rcases List.mem_cons.mp hp with rfl | hp
      · exact Ne.symm hIC
      rcases List.mem_cons.mp hp with rfl | hp
      · exact Ne.symm hID
      · exact (off p hp).1
    have N1 := news_head N offI (fun b o hb e => hs₁.extBut b o hb e) hoI1
    have F1 : Fr h₀ L h₁ m := F.change hs₁ zI.2.1 zI.2.2
    refine wpAny_bind (wpAny_of_eq (show letOwnedTupleGo (.Name x px) (.ref I) bvs[i] = pure () from rfl) ?_)
    have hCns : h₁.Ns C mC := hoC.ns (N1 _ (.tail _ (.head _))).1
    refine wpAny_bind (wpAny_assign_Name (wpAny_storeName_local (lookup_relabel_local hx) hCns (fun h₂ hn₂ hs₂ => ?_) (by simp [compEnvC, relabel, hkind])))
    obtain ⟨oC2, heC2, hoC2⟩ := ns_obj hn₂
    have F2 : Fr h₀ L h₂ m := F1.change hs₂ zC.2.1 zC.2.2
    have N1' : News h₀ L h₁ ((C, oC) :: (I, oI1) :: (D, lstO ys n) :: nw) := News.sub N1 fun p hp => by
      (revert hp; revert p; walk_at "mine.sub")
    have offC : ∀ p ∈ (I, oI1) :: (D, lstO ys n) :: nw, p.1 ≠ C := fun p hp => by
      rcases List.mem_cons.mp hp with rfl | hp
      · exact hIC
      rcases List.mem_cons.mp hp with rfl | hp
      · exact Ne.symm hCD
      · exact (off p hp).2.1
    have N2' := news_head N1' offC (fun b o hb e => hs₂.extBut b o hb e) heC2
    have N2 : News h₀ L h₂ ((I, oI1) :: (C, oC2) :: (D, lstO ys n) :: nw) := News.sub N2' fun p hp => by
      (revert hp; revert p; walk_at "mine.sub")
    obtain ⟨b, hgb, hvb⟩ := hbc.getL (List.getElem?_eq_getElem hlt)
    refine wpAny_bind (wpAny_mono (itk bvs[i] b ys n nw I oI1 C oC2 D _ h₂ _ s _ (List.mem_of_getElem? hgb) hvb hoC2 (by simp) hnb F2 N2) (fun z s5 h5 => ?_) fun _ _ e => e)
    obtain ⟨h', tk', nw', r, us, k0, rfl, rfl, F5, N5, off5, hr, hus⟩ := h5
    have off6 : ∀ p ∈ nw ++ nw', p.1 ≠ I ∧ p.1 ≠ C ∧ p.1 ≠ D := fun p hp => by
      rcases List.mem_append.mp hp with hp | hp
      · exact off p hp
      · have := off5 p hp
        exact ⟨Nat.ne_of_gt this.1, Nat.ne_of_gt this.2.1, Nat.ne_of_gt this.2.2⟩
    refine wpAny_bind (wpAny_standAt (wpAny_bind (wpAny_of_eq (hfs _ _) (wpAny_bind (wpAny_holding ?_)))))
    have hlr : h'.IsList r us.toArray := ⟨_, (N5 _ (.tail _ (.tail _ (.tail _ hr)))).1, rfl, k0, rfl⟩
    refine wpAny_pyIter_list hlr ?_
    refine wpAny_bind (wpAny_runOwn ?_)
    have up : ∀ b o, h'.get? b = some o → (h'.push { cls := .type "list_iterator", data := .fields #[.ref r, .int 0 0] }).get? b = some o := fun b o e => Heap.get?_push_of_some _ e
    have hJ₀ : h₀.get? h'.objs.size = none := next_is_new F5
    have hJL : h'.objs.size ≠ L := Ne.symm (Nat.ne_of_lt F5.ns.lt)
    have hne : ∀ p ∈ (I, oI1) :: (C, oC2) :: (D, lstO ys n) :: (nw ++ nw'), p.1 ≠ h'.objs.size := fun p hp => Nat.ne_of_lt (Heap.lt_size (N5 p hp).1)
    refine start1 (i := 0) (r := r) ⟨_, Heap.get?_push_size _ rfl, rfl, rfl⟩ ?_
    have htk : (bc.take (i + 1)).flatMap (prs gc) = (bc.take i).flatMap (prs gc) ++ prs gc b := by rw [List.take_add_one, hgb, List.flatMap_append]; simp
    have hle : ((bc.take (i + 1)).flatMap (prs gc)).length ≤ (bc.flatMap (prs gc)).length := by
      conv => rhs; rw [← List.take_append_drop (i + 1) bc, List.flatMap_append, List.length_append]
      omega
    rw [htk, List.length_append] at hle
    have hgl : (prs gc b).length = us.length := by rw [prs, List.length_map, hus.length]
    refine inner_loop (r := r) (I := I) (C := C) (D := D) (J := h'.objs.size) (oI := oI1) (us := us) (k0 := k0) (gs := gc b) el hh hkind hy hxy hvb hus (base := (bc.take i).flatMap (prs gc)) (by omega)
      (Ne.symm (hne _ (.head _))) (Ne.symm (hne _ (.tail _ (.head _)))) (Ne.symm (hne _ (.tail _ (.tail _ (.head _))))) hIC hID hCD us.length _ 0 ys n (nw ++ nw') { cls := .type "list_iterator", data := .fields #[.ref r, .int 0 0] } oC2 _ rfl (Nat.zero_le _) ⟨rfl, rfl⟩ hoC2 (by simp) hr (fun p hp => List.mem_append_left _ (hnb p hp)) 
      (fun p hp => ⟨hne p (.tail _ (.tail _ (.tail _ hp))), off6 p hp⟩) (F5.keeps up) (fun p hp => ?_) ?_ ?_
    · rcases List.mem_cons.mp hp with rfl | hp
      · exact ⟨Heap.get?_push_size _ rfl, hJL, hJ₀⟩
      · exact ⟨up _ _ (N5 p hp).1, (N5 p hp).2⟩
    · rw [List.take_zero, List.map_nil, List.append_nil]
      exact hR.sub fun p hp => List.mem_append_left _ hp
    · intro h8 tk8 ys8 n8 nw8 oC8 mC8 F8 N8 off8 hn8 hR8
      refine wpAny_pure ⟨rfl, ?_⟩
      refine ih { s with heap := h8, toks := tk8 } (i + 1) ys8 n8 (nw ++ nw' ++ nw8) oI1 oC8 mC8 (by omega) hlt ⟨hcI1, hdI1⟩ hn8 (fun p hp => List.mem_append_left _ (List.mem_append_left _ (hnb p hp))) (fun p hp => ?_) F8 N8 ?_ ?_
      · rcases List.mem_append.mp hp with hp | hp
        · exact off6 p hp
        · exact off8 p hp
      · rw [htk]; exact hR8
      · intro h9 tk9 ys9 n9 nw9 oC9 mC9 F9 N9 off9 hn9 hR9
        have e9 : nw ++ nw' ++ nw8 ++ nw9 = nw ++ (nw' ++ nw8 ++ nw9) := by simp only [List.append_assoc]
        rw [e9] at N9 off9 hR9
        exact hQ h9 tk9 ys9 n9 _ oC9 mC9 F9 N9 off9 hn9 hR9
def Src2 (prog : Program) (w : World) (A : Around) (h₀ : Heap) (L : Addr) (m : Str → Option Value) (env : Env) (elt iter2 : Expr) (scope : Scope) (cl : List (Str × Addr)) (x y : Str) (Q : Value → Shared → Prop) (xv : Value) (s₁ : Shared) : Prop :=
  ∃ B bvs bn bc gc news, xv = .ref B ∧ Fr h₀ L s₁.heap m ∧ News h₀ L s₁.heap news ∧ (B, lstO bvs bn) ∈ news ∧ All2 CellV bvs bc ∧ (bc.flatMap (prs gc)).length ≤ sizeLine ∧ EltOk prog w A h₀ L m env elt scope cl x y news ∧
    IterOk prog w A h₀ L m env iter2 scope cl x news gc bc ∧ (∀ D ys n news' h tk, Fr h₀ L h m → News h₀ L h ((D, lstO ys n) :: (news ++ news')) → (∀ p ∈ news ++ news', p.1 ≠ D) → Rows (news ++ news') ys (bc.flatMap (prs gc)) → Q (.ref D) { s₁ with heap := h, toks := tk })
theorem ListComp_2 {Q E : Value → Shared → Prop} {s : Shared} {elt iter1 iter2 : Expr} {x y : Str} {px py : Pos} {scope : Scope} {cl : List (Str × Addr)} {pos : Pos} (_F₀ : Fr h₀ L s.heap m) (hh : A.handled = none)
    (hclos : closureFor scope env = pure cl) (hcell : ∀ y ∈ scope.names, y.2 ≠ .cell) (hkind : scope.kind = .function)
    (hnames : ∀ y ∈ scope.names, y.2 = .local → scope.names.lookup y.1 = some .local) (hx : scope.names.lookup x = some .local) (hy : scope.names.lookup y = some .local) (hxy : x ≠ y)
    (hs : ∀ x, foldedSetIterable iter1 env x = pure x) (hs2 : ∀ x env, foldedSetIterable iter2 env x = pure x)
    (h : wpAny (model prog w) A (eval iter1 env) (Src2 prog w A h₀ L m env elt iter2 scope cl x y Q) E s) :
    wpAny (model prog w) A (eval (ce elt iter1 iter2 x y px py scope pos) env) Q E s := by
  rw [eval_ListComp]
  refine wpAny_comprehension_free (use := none) rfl hs hclos hkind hnames (wpAny_mono h (fun xv s₁ h₁ => ?_) fun _ _ e => e)
  obtain ⟨B, bvs, bn, bc, gc, news, rfl, F, N, hB, hbc, hcap, el, itk, fin⟩ := h₁
  have hl : s₁.heap.IsList B bvs.toArray := ⟨_, (N _ hB).1, rfl, bn, rfl⟩
  refine wpAny_pyIter_list hl ?_
  refine wpAny_newObj_type (wpAny_newFunctionEnv hcell (by intro y hy; simp at hy) (fun h₁ hns₁ hsb₁ => ?_) hkind)
  dsimp only at hns₁ hsb₁ ⊢
  have hI : s₁.heap.objs.size < (s₁.heap.push { cls := .type "list_iterator", data := .fields #[.ref B, .int 0 0] }).objs.size := by rw [Heap.size_push]; exact Nat.lt_succ_self _
  have upI : ∀ b o, s₁.heap.get? b = some o → (s₁.heap.push { cls := .type "list_iterator", data := .fields #[.ref B, .int 0 0] }).get? b = some o := fun b o e => Heap.get?_push_of_some _ e
  have hIo : (s₁.heap.push { cls := .type "list_iterator", data := .fields #[.ref B, .int 0 0] }).get? s₁.heap.objs.size = some { cls := .type "list_iterator", data := .fields #[.ref B, .int 0 0] } := Heap.get?_push_size _ rfl
  have FI := F.keeps upI
  have NI := N.grown upI
  have hI₀ : h₀.get? s₁.heap.objs.size = none := next_is_new F
  have hIL : s₁.heap.objs.size ≠ L := Ne.symm (Nat.ne_of_lt F.ns.lt)
  generalize s₁.heap.push { cls := .type "list_iterator", data := .fields #[.ref B, .int 0 0] } = H1 at *
  have hD : H1.objs.size < (H1.push { cls := .type "list", dict := none, data := .seq ([] : List Value).toArray }).objs.size := by rw [Heap.size_push]; exact Nat.lt_succ_self _
  have upD : ∀ b o, H1.get? b = some o → (H1.push { cls := .type "list", dict := none, data := .seq ([] : List Value).toArray }).get? b = some o := fun b o e => Heap.get?_push_of_some _ e
  have hDo : (H1.push { cls := .type "list", dict := none, data := .seq ([] : List Value).toArray }).get? H1.objs.size = some (lstO [] 0) := Heap.get?_push_size _ rfl
  have FD := FI.keeps upD
  have ND := NI.grown upD
  have hD₀ : h₀.get? H1.objs.size = none := next_is_new FI
  have hDL : H1.objs.size ≠ L := Ne.symm (Nat.ne_of_lt FI.ns.lt)
  generalize H1.push { cls := .type "list", dict := none, data := .seq ([] : List Value).toArray } = H2 at *
  have hC₀ : h₀.get? H2.objs.size = none := next_is_new FD
  have hCL : H2.objs.size ≠ L := Ne.symm (Nat.ne_of_lt FD.ns.lt)
  have lt2 : ∀ b o, H2.get? b = some o → b ≠ H2.objs.size := fun b o e => Nat.ne_of_lt (Heap.lt_size e)
  have old : ∀ b o, H2.get? b = some o → h₁.get? b = some o := fun b o e => hsb₁.extBut b o (lt2 b o e) (Heap.get?_push_of_some _ e)
  have hIC : s₁.heap.objs.size ≠ H2.objs.size := Nat.ne_of_lt (Nat.lt_trans hI hD)
  have hID : s₁.heap.objs.size ≠ H1.objs.size := Nat.ne_of_lt hI
  have hCD : H2.objs.size ≠ H1.objs.size := Nat.ne_of_gt hD
  obtain ⟨oC, heC, hoC⟩ := ns_obj hns₁
  have N4 : News h₀ L h₁ ((s₁.heap.objs.size, { cls := .type "list_iterator", data := .fields #[.ref B, .int 0 0] }) :: (H2.objs.size, oC) :: (H1.objs.size, lstO [] 0) :: news) := fun p hp => by
    rcases List.mem_cons.mp hp with rfl | hp
    · exact ⟨old _ _ (upD _ _ hIo), hIL, hI₀⟩
    rcases List.mem_cons.mp hp with rfl | hp
    · exact ⟨heC, hCL, hC₀⟩
    rcases List.mem_cons.mp hp with rfl | hp
    · exact ⟨old _ _ hDo, hDL, hD₀⟩
    · exact ⟨old _ _ (ND p hp).1, (ND p hp).2⟩
  have off4 : ∀ p ∈ news, p.1 ≠ s₁.heap.objs.size ∧ p.1 ≠ H2.objs.size ∧ p.1 ≠ H1.objs.size := fun p hp =>
    ⟨Nat.ne_of_lt (Heap.lt_size (N p hp).1), lt2 _ _ (ND p hp).1, Nat.ne_of_lt (Heap.lt_size (NI p hp).1)⟩
  have loop : ∀ s₃ : Shared, s₃.heap = h₁ → (∃ tk, s₃ = { s₁ with heap := h₁, toks := tk }) → codeAny (model prog w) A (.compLoop (ce elt iter1 iter2 x y px py scope pos) 0 (.ref s₁.heap.objs.size) (.ref H1.objs.size) (compEnvC scope cl H2.objs.size env))
      (compPost (model prog w) A E none Q (.ref H1.objs.size) H2.objs.size) s₃ := by
    rintro s₃ - ⟨tk3, rfl⟩
    refine outer_loop (gc := gc) (bc := bc) el itk hh hs2 hkind hx hy hxy hB hbc hcap hIC hID hCD bvs.length _ 0 [] 0 news { cls := .type "list_iterator", data := .fields #[.ref B, .int 0 0] } oC _ rfl (Nat.zero_le _) ⟨rfl, rfl⟩ hoC (fun p hp => hp) off4 (FD.keeps old) N4 ?_ ?_
    · exact .nil
    · intro h' tk' ys' n' nw' oC' mC' F' N' off' hn' hR'
      have zC := N' _ (.head _)
      refine ⟨mC', hn'.ns zC.1, fun h'' hs'' => ?_⟩
      refine fin H1.objs.size ys' n' nw' h'' tk' (F'.change hs'' zC.2.1 zC.2.2) (fun p hp => ?_) (fun p hp => (off' p hp).2) hR'
      have zp := N' p (.tail _ hp)
      refine ⟨hs''.extBut _ _ ?_ zp.1, zp.2⟩
      rcases List.mem_cons.mp hp with rfl | hp
      · exact Ne.symm hCD
      · exact (off' p hp).1
  refine codeAny_compStart_list (loop _ rfl ⟨_, rfl⟩) (wpAny_pyIter_listiter (l := B) (i := 0) ⟨_, (N4 _ (.head _)).1, rfl, rfl⟩ (loop _ rfl ⟨_, rfl⟩))
end
end C2
end
section
set_option maxRecDepth 100000
set_option maxHeartbeats 4000000
theorem fresh_Dct : True := by (w_top off; trivial)
abbrev Lst4 := List (Str × Addr × List Value × Nat)
abbrev DLs (lists : Lst4) : List (Addr × Obj) := lists.map fun x => (x.2.1, lstO x.2.2.1 x.2.2.2)
abbrev kvsOf (lists : Lst4) : List (Str × Value) := lists.map fun x => (x.1, Value.ref x.2.1)
abbrev LR (lists : Lst4) (bel : List (List Nat × List Nat)) : Prop := All2 (fun x y => x.1 = wy y.1 ∧ All2 CellV x.2.2.1 (y.2.map fun c => Cell.s (sg c))) lists bel
def addB : List (List Nat × List Nat) → List Nat → Nat → List (List Nat × List Nat)
  | [], k, c => [(k, [c])]
  | p :: r, k, c => if p.1 = k then (p.1, p.2 ++ [c]) :: r else p :: addB r k c
def lookB : List (List Nat × List Nat) → List Nat → List Nat
  | [], _ => []
  | p :: r, k => if p.1 = k then p.2 else lookB r k
theorem wy_inj {a b : List Nat} (h : wy a = wy b) : a = b := by
  have h2 : a.toArray = b.toArray := Str.mk.inj h
  exact congrArg Array.toList h2
theorem valueAt_cons {x : Str} {v : Value} {r : List (Str × Value)} {k : Str} : valueAt ((x, v) :: r) k = if x = k then some v else valueAt r k := by
  unfold valueAt
  rw [List.find?_cons]
  by_cases h : x = k
  · simp [h]
  · simp [h]
theorem kvs_cons (x : Str × Addr × List Value × Nat) (lists : Lst4) : kvsOf (x :: lists) = (x.1, Value.ref x.2.1) :: kvsOf lists := rfl
theorem look_LR {lists : Lst4} {bel : List (List Nat × List Nat)} (h : LR lists bel) (key : List Nat) :
    (∃ l vs n, valueAt (kvsOf lists) (wy key) = some (.ref l) ∧ (l, lstO vs n) ∈ DLs lists ∧ All2 CellV vs ((lookB bel key).map fun c => Cell.s (sg c))) ∨ (valueAt (kvsOf lists) (wy key) = none ∧ lookB bel key = []) := by
  induction h with
  | nil => exact .inr ⟨rfl, rfl⟩
  | @cons x y lists bel hxy _ ih =>
    by_cases hk : y.1 = key
    · refine .inl ⟨x.2.1, x.2.2.1, x.2.2.2, ?_, .head _, ?_⟩
      · rw [kvs_cons, valueAt_cons, if_pos (by rw [hxy.1, hk])]
      · rw [lookB, if_pos hk]; exact hxy.2
    · have hne : ¬ x.1 = wy key := fun e => hk (wy_inj (hxy.1.symm.trans e))
      rw [kvs_cons, valueAt_cons, if_neg hne, lookB, if_neg hk]
      rcases ih with ⟨l, vs, n, h1, h2, h3⟩ | ⟨h1, h2⟩
      · exact .inl ⟨l, vs, n, h1, .tail _ h2, h3⟩
      · exact .inr ⟨h1, h2⟩
theorem split_LR {lists : Lst4} {bel : List (List Nat × List Nat)} (h : LR lists bel) (key : List Nat) :
    (∃ pre l vs n post, lists = pre ++ (wy key, l, vs, n) :: post ∧ valueAt (kvsOf lists) (wy key) = some (.ref l) ∧ ∀ v c n' t, v = .str (sg c) t → LR (pre ++ (wy key, l, vs ++ [v], n') :: post) (addB bel key c)) ∨
    (valueAt (kvsOf lists) (wy key) = none ∧ (∀ e v c n' t, v = .str (sg c) t → LR (lists ++ [(wy key, e, [v], n')]) (addB bel key c)) ∧ ∀ v, stored (kvsOf lists) (wy key) v = kvsOf lists ++ [(wy key, v)]) := by
  induction h with
  | nil => exact .inr ⟨rfl, fun e v c n' t hv => .cons ⟨rfl, .cons (hv ▸ .s _ _) .nil⟩ .nil, fun v => rfl⟩
  | @cons x y lists bel hxy hr ih =>
    by_cases hk : y.1 = key
    · refine .inl ⟨[], x.2.1, x.2.2.1, x.2.2.2, lists, ?_, ?_, ?_⟩
      · rw [List.nil_append, ← hk, ← hxy.1]
      · rw [kvs_cons, valueAt_cons, if_pos (by rw [hxy.1, hk])]
      · intro v c n' t hv
        rw [List.nil_append, addB, if_pos hk]
        refine .cons ⟨by rw [hk], ?_⟩ hr
        show All2 CellV (x.2.2.1 ++ [v]) ((y.2 ++ [c]).map fun c => Cell.s (sg c))
        rw [List.map_append]
        exact hxy.2.snoc (hv ▸ .s _ _)
    · have hne : ¬ x.1 = wy key := fun e => hk (wy_inj (hxy.1.symm.trans e))
      rw [kvs_cons, valueAt_cons, if_neg hne]
      rcases ih with ⟨pre, l, vs, n, post, h1, h2, h3⟩ | ⟨h1, h2, h3⟩
      · refine .inl ⟨x :: pre, l, vs, n, post, by rw [h1]; rfl, h2, fun v c n' t hv => ?_⟩
        rw [addB, if_neg hk]
        exact .cons hxy (h3 v c n' t hv)
      · refine .inr ⟨h1, fun e v c n' t hv => ?_, fun v => ?_⟩
        · rw [addB, if_neg hk]
          exact .cons hxy (h2 e v c n' t hv)
        · have h4 := h3 v
          unfold stored at h4 ⊢
          have hf : ((x.1, Value.ref x.2.1) :: kvsOf lists).any (fun kv => decide (kv.1 = wy key)) = (kvsOf lists).any (fun kv => decide (kv.1 = wy key)) := by
            rw [List.any_cons]; simp [hne]
          rw [hf]
          by_cases hb : (kvsOf lists).any (fun kv => decide (kv.1 = wy key)) = true
          · exfalso
            rw [List.any_eq_true] at hb
            obtain ⟨q, hq, hq2⟩ := hb
            unfold valueAt at h1
            rw [Option.map_eq_none_iff, List.find?_eq_none] at h1
            exact h1 q hq hq2
          · rw [if_neg hb]
section
variable {prog : Program} {w : World} {A : Around} {E : Value → Shared → Prop} {s : Shared} {h₀ : Heap} {L dd e : Addr} {m : Str → Option Value} {od : Obj} {X : List (Addr × Obj)}
theorem new_list_top {M : Model} {news : List (Addr × Obj)} {Q : Value → Shared → Prop} (F : Fr h₀ L s.heap m) (N : News h₀ L s.heap news)
    (h : ∀ e h', Fr h₀ L h' m → News h₀ L h' ((e, lstO [] 0) :: news) → (∀ p ∈ news, p.1 ≠ e) → Q (.ref e) { s with heap := h' }) : wpAny M A (newList []) Q E s := by
  refine wpAny_newList ?_
  have up : ∀ b o, s.heap.get? b = some o → (s.heap.push { cls := .type "list", data := .seq ([] : List Value).toArray }).get? b = some o := fun b o e => Heap.get?_push_of_some _ e
  refine h _ _ (F.keeps up) (fun p hp => ?_) fun p hp => Nat.ne_of_lt (Heap.lt_size (N p hp).1)
  rcases List.mem_cons.mp hp with rfl | hp
  · exact ⟨Heap.get?_push_size _ rfl, Ne.symm (Nat.ne_of_lt F.ns.lt), next_is_new F⟩
  · exact ⟨up _ _ (N p hp).1, (N p hp).2⟩
abbrev Nd (news : List (Addr × Obj)) : Prop := (news.map (·.1)).Nodup
theorem setdef_any {Q : Value → Shared → Prop} {lists : Lst4} {bel : List (List Nat × List Nat)} {key : List Nat} {tk : Tok} (F : Fr h₀ L s.heap m) (N : News h₀ L s.heap ((e, lstO [] 0) :: (dd, od) :: (X ++ DLs lists)))
    (hd : od.IsDictOf (PySem.strKind prog w) (kvsOf lists)) (hl : LR lists bel) (nd : Nd ((e, lstO [] 0) :: (dd, od) :: (X ++ DLs lists))) (lo : (dd == sysModules) = false) (hsz : lists.length ≤ 1000)
    (h : ∀ h' od' l vs n pre post, Fr h₀ L h' m → News h₀ L h' ((l, lstO vs n) :: (dd, od') :: (X ++ DLs (pre ++ post))) → od'.IsDictOf (PySem.strKind prog w) (kvsOf (pre ++ (wy key, l, vs, n) :: post)) → Nd ((l, lstO vs n) :: (dd, od') :: (X ++ DLs (pre ++ post))) → vs.length ≤ (bel.flatMap (·.2)).length →
      (∀ v c n' t, v = .str (sg c) t → LR (pre ++ (wy key, l, vs ++ [v], n') :: post) (addB bel key c)) → Q (.ref l) { s with heap := h', toks := s.toks + 1 }) :
    wpAny (model prog w) A (call (.builtin "dict.setdefault") [.ref dd, .str (wy key) tk, .ref e]) Q E s := by
  have hcap : (kvsOf lists).length ≤ sizeLine := by rw [List.length_map, sizeLine_eq]; omega
  rcases split_LR hl key with ⟨pre, l, vs, n, post, h1, h2, h3⟩ | ⟨h1, h2, h3⟩
  · refine kob_setdef_there (knd := PySem.strKind prog w) N (.tail _ (.head _)) hd lo (strKind_is _ _ _ _) (PySem.F.args_dict_setdefault_3 _ _ _) h2 hcap ?_
    subst h1
    have hperm : ∀ p ∈ (l, lstO vs n) :: (dd, od) :: (X ++ DLs (pre ++ post)), p ∈ (e, lstO [] 0) :: (dd, od) :: (X ++ DLs (pre ++ (wy key, l, vs, n) :: post)) := fun p hp => by
      simp only [DLs, List.map_append, List.map_cons, List.mem_cons, List.mem_append] at hp ⊢
      rcases hp with h | h | h | h | h <;> simp only [h, true_or, or_true]
    refine h s.heap od l vs n pre post F (News.sub N hperm) hd ?_ ?_ h3
    · have nd2 := (List.nodup_cons.mp nd).2
      simp only [Nd, DLs, List.map_append, List.map_cons] at nd2 ⊢
      have hp2 : List.Perm (dd :: (X.map (·.1) ++ ((pre.map fun x => (x.2.1, lstO x.2.2.1 x.2.2.2)).map (·.1) ++ l :: (post.map fun x => (x.2.1, lstO x.2.2.1 x.2.2.2)).map (·.1)))) (l :: dd :: (X.map (·.1) ++ ((pre.map fun x => (x.2.1, lstO x.2.2.1 x.2.2.2)).map (·.1) ++ (post.map fun x => (x.2.1, lstO x.2.2.1 x.2.2.2)).map (·.1)))) := by
        refine List.Perm.trans ?_ (List.Perm.swap l dd _)
        refine List.Perm.cons _ ?_
        rw [← List.append_assoc, ← List.append_assoc]
        exact List.perm_middle
      exact hp2.nodup_iff.mp nd2
    · have hm : ∀ (lists : Lst4) (bel : List (List Nat × List Nat)), LR lists bel → ∀ x ∈ lists, x.2.2.1.length ≤ (bel.flatMap (·.2)).length := by
        intro lists bel hh
        induction hh with
        | nil => intro x hx; cases hx
        | @cons a b lists bel hab _ ih =>
          intro x hx
          rw [List.flatMap_cons, List.length_append]
          rcases List.mem_cons.mp hx with rfl | hx
          · have := hab.2.length; rw [List.length_map] at this; omega
          · have := ih x hx; omega
      exact hm _ _ hl (wy key, l, vs, n) (List.mem_append_right _ (.head _))
  · have ndh := List.nodup_cons.mp nd
    have ndh2 := List.nodup_cons.mp ndh.2
    have U : UpdF dd od ((e, lstO [] 0) :: (dd, od) :: (X ++ DLs lists)) (fun o' => (e, lstO [] 0) :: (dd, o') :: (X ++ DLs lists)) := by
      refine .tail (fun e2 => ndh.1 ?_) (.head fun p hp e2 => ndh2.1 ?_)
      · rw [show e = dd from e2]; exact .head _
      · exact List.mem_map.mpr ⟨p, hp, e2⟩
    refine kob_setdef_new (knd := PySem.strKind prog w) F N U hd lo (strKind_is _ _ _ _) (PySem.F.args_dict_setdefault_3 _ _ _) h1 hcap fun h' o' F' N' hd' => ?_
    rw [h3] at hd'
    refine h h' o' e [] 0 lists [] F' ?_ ?_ ?_ (Nat.zero_le _) fun v c n' t hv => h2 e v c n' t hv
    · rw [List.append_nil]; exact N'
    · rw [kvsOf, List.map_append]; exact hd'
    · rw [List.append_nil]; exact nd
end
end
section
set_option maxRecDepth 100000
set_option maxHeartbeats 4000000
theorem fresh_Enc : True := by (w_top off; trivial)
open Builtin Builtin._codecs
def u8 (x : Str) : Array UInt8 := x.cps.foldl (fun acc y => acc ++ (Str.utf8Of y).toArray) #[]
section
variable {M : Model} {prog : Program} {w : World} {A : Around} {E : Value → Shared → Prop} {s : Shared}
theorem narrow_run {id : String} {self : Value} {x : Str} {Q : Array UInt8 → Shared → Prop} (hb : ∀ c ∈ x.cps, Str.isSurrogate c = false) (hz : (u8 x).size ≤ sizeLine) (hQ : Q (u8 x) s) : wpAny M A (encodeNarrow id utf8Codec none self x) Q E s := by
  unfold encodeNarrow
  dsimp only
  refine wpAny_bind ?_
  rw [Std.Legacy.Range.forIn_eq_forIn_range']
  simp only [Std.Legacy.Range.size, Nat.sub_zero, Nat.add_sub_cancel, Nat.div_one]
  refine wpAny_forIn_list _ (fun r st s' => s' = s ∧ ((r.length = x.length ∧ st.1 = 0 ∧ st.2.1 = #[]) ∨ (st.1 = x.cps.size ∧ st.2.1 = u8 x))) _ ?_ ?_ _ _ ?_
  · rintro i r ⟨k, out, st⟩ s' ⟨rfl, h⟩
    have hnf : ∀ a : Array Nat, (∀ c ∈ a, Str.isSurrogate c = false) → a.findIdx? utf8Codec.bad = none := by
      intro a ha
      rw [Array.findIdx?_eq_none_iff]
      intro c hc
      exact ha c hc
    rcases h with ⟨h1, h2, h3⟩ | ⟨h2, h3⟩
    · simp only at h2 h3
      subst h2 h3
      have hpos : 0 < x.cps.size := by
        have : (i :: r).length = x.cps.size := h1
        rw [← this]; exact Nat.succ_pos _
      dsimp only
      rw [if_neg (show ¬ ((#[] : Array UInt8).size > sizeLine) from Nat.not_lt.mpr (Nat.zero_le _)), show x.cps[0]? = some x.cps[0] by simp [hpos]]
      dsimp only
      refine bm_if_true ?_ ?_
      · show (!Str.isSurrogate x.cps[0]) = true
        rw [hb _ (Array.getElem_mem _)]; rfl
      have e0 : x.cps.extract 0 = x.cps := by simp
      rw [e0, hnf _ hb]
      refine wpAny_pure ⟨rfl, .inr ⟨?_, ?_⟩⟩
      · show 0 + (none.getD x.cps.size) = x.cps.size
        simp
      · show ((x.cps.extract 0 (none.getD x.cps.size)).foldl (fun acc y => acc ++ (Str.utf8Of y).toArray) #[]) = u8 x
        simp [u8]
    · simp only at h2 h3
      subst h2 h3
      dsimp only
      rw [if_neg (show ¬ ((u8 x).size > sizeLine) from Nat.not_lt.mpr hz), show x.cps[x.cps.size]? = none by simp]
      exact wpAny_pure (wpAny_pure hQ)
  · rintro ⟨k, out, st⟩ s' ⟨rfl, h⟩
    have e : out = u8 x := by
      rcases h with ⟨h1, _, h3⟩ | ⟨_, h3⟩
      · have h4 : x.cps.size = 0 := h1.symm
        have h5 : x.cps = #[] := Array.eq_empty_of_size_eq_zero h4
        rw [show out = #[] from h3, u8, h5]; rfl
      · exact h3
    subst e
    exact wpAny_pure hQ
  · refine ⟨rfl, .inl ⟨?_, rfl, rfl⟩⟩
    simp
theorem encode_call {x : Str} {t : PySem.Tok} {Q : Value → Shared → Prop} (hb : ∀ c ∈ x.cps, Str.isSurrogate c = false) (hz : (u8 x).size ≤ sizeLine) (hQ : Q (.bytes (u8 x) s.toks) { s with toks := s.toks + 1 }) :
    wpAny (model prog w) A (call (.builtin "str.encode") [.str x t]) Q E s := by
  refine wpAny_call (codeAny_call_builtin PySem.F.slot_str_encode.plain PySem.F.entry_str_encode (PySem.F.slot_str_encode.check _ _ _ _ _ _ _ _ (typeIs_str _ _ _) (PySem.F.args_str_encode_1 _) ?_))
  rw [encode_tree, encodeRoad_utf8]
  exact wpAny_bind (wpAny_bind (narrow_run hb hz (wpAny_mkBytes (wpAny_pure hQ) hz)))
theorem encode_method {x : Str} {t : PySem.Tok} {Q : Value × List Value → Shared → Prop} {pl : Sem Bool} (h : Q (.builtin "str.encode", [.str x t]) s) : wpAny M A (getMethod (.str x t) "encode" pl) Q E s :=
  getMethod_builtin (typeIs_str _ _ _) PySem.F.plainAttrs_str PySem.F.slot_str_encode PySem.F.type_str_encode (fun a e => by cases e) h
end
def pstr : Tk → Str
  | .op c => openP c
  | .sp => Str.ofString " "
  | .cl => Str.ofString ")"
theorem u8_list (x : Str) : (u8 x).toList = x.cps.toList.flatMap Str.utf8Of := by
  have h : ∀ (l : List Nat) (acc : Array UInt8), (l.foldl (fun acc y => acc ++ (Str.utf8Of y).toArray) acc).toList = acc.toList ++ l.flatMap Str.utf8Of := by
    intro l
    induction l with
    | nil => intro acc; simp
    | cons c l ih => intro acc; rw [List.foldl_cons, ih]; simp
  unfold u8
  rw [← Array.foldl_toList, h]
  simp
theorem pstr_bytes {t : Tk} (h : t.ok) : ((pstr t).cps.toList.flatMap Str.utf8Of).map (·.toNat) = tb t := by
  cases t with
  | op c =>
    simp only [Tk.ok, signs, List.mem_cons, List.not_mem_nil, or_false] at h
    rcases h with rfl | rfl | rfl | rfl | rfl | rfl | rfl | rfl | rfl <;> decide +kernel
  | sp => decide +kernel
  | cl => decide +kernel
theorem pstr_sur {t : Tk} (h : t.ok) : ∀ c ∈ (pstr t).cps.toList, Str.isSurrogate c = false := by
  cases t with
  | op c =>
    simp only [Tk.ok, signs, List.mem_cons, List.not_mem_nil, or_false] at h
    rcases h with rfl | rfl | rfl | rfl | rfl | rfl | rfl | rfl | rfl <;> decide +kernel
  | sp => decide +kernel
  | cl => decide +kernel
theorem text_bytes {ts : List Tk} (h : ∀ t ∈ ts, t.ok) {x : Str} (hx : x.cps.toList = ts.flatMap fun t => (pstr t).cps.toList) : (u8 x).map (·.toNat) = (flat ts).toArray := by
  have e : (u8 x).toList.map (·.toNat) = flat ts := by
    rw [u8_list, hx]
    clear hx
    induction ts with
    | nil => rfl
    | cons t ts ih =>
      rw [List.flatMap_cons, List.flatMap_append, List.map_append, pstr_bytes (h t (.head _)), ih fun t ht => h t (.tail _ ht), flat_cons]
  rw [← e, ← Array.toList_map]
theorem text_sur {ts : List Tk} (h : ∀ t ∈ ts, t.ok) {x : Str} (hx : x.cps.toList = ts.flatMap fun t => (pstr t).cps.toList) : ∀ c ∈ x.cps, Str.isSurrogate c = false := by
  intro c hc
  have hc2 : c ∈ x.cps.toList := Array.mem_toList_iff.mpr hc
  rw [hx, List.mem_flatMap] at hc2
  obtain ⟨t, ht, hc3⟩ := hc2
  exact pstr_sur (h t ht) c hc3
theorem text_size {ts : List Tk} (h : ∀ t ∈ ts, t.ok) {x : Str} (hx : x.cps.toList = ts.flatMap fun t => (pstr t).cps.toList) : (u8 x).size ≤ 5 * ts.length := by
  have e := text_bytes h hx
  have e2 : (u8 x).size = (flat ts).length := by have := congrArg Array.size e; simpa using this
  rw [e2]
  exact flatT_len ts
end
section
set_option maxRecDepth 100000
set_option maxHeartbeats 4000000
theorem fresh_Slc : True := by (w_top off; trivial)
open Builtin Builtin.Str in
theorem slice_take (l : List Nat) (k : Nat) : Txt.slice (wy l) none (some (k : Int)) = wy (l.take k) := by
  have hlen : (wy l).length = l.length := by show l.toArray.size = _; simp
  have e1 : strSliceIndices none (some (k : Int)) 1 (wy l).length = (List.range (min k l.length - 0)).map (0 + ·) := by
    rw [hlen, ← sliceRange_one 0 (min k l.length)]
    unfold strSliceIndices
    dsimp only
    rw [if_pos (by decide), if_pos (by decide), if_neg (by omega)]
    congr 1
    omega
  unfold Txt.slice
  rw [e1]
  split
  · rename_i h
    simp only [beq_self_eq_true, Bool.true_and, List.length_map, List.length_range, beq_iff_eq] at h
    rw [hlen] at h
    have : l.length ≤ k := by omega
    rw [List.take_of_length_le this]
  · rw [pick_run]
    show Str.mk _ = Str.mk _
    congr 1
    congr 1
    simp only [Nat.sub_zero, List.drop_zero]
    rw [List.take_eq_take_iff]
    omega
theorem slice_sign {c : Nat} (h : (Tk.op c).ok) : Txt.slice (openP c) (some (-2)) (some (-1)) = sg c := by
  simp only [Tk.ok, signs, List.mem_cons, List.not_mem_nil, or_false] at h
  rcases h with rfl | rfl | rfl | rfl | rfl | rfl | rfl | rfl | rfl <;> decide +kernel
end
section
set_option maxRecDepth 100000
set_option maxHeartbeats 8000000
theorem fresh_Red : True := by (w_top off; trivial)
structure RS where
  d : Nat
  way : List Nat
  bl : List (List Nat)
  bel : List (List Nat × List Nat)
def step (st : RS) : Tk → RS
  | .op c => { d := st.d + 1, way := st.way.take st.d ++ [c], bl := st.bl, bel := addB st.bel (st.way.take st.d) c }
  | .sp => { d := st.d, way := st.way.take st.d, bl := st.bl ++ [st.way.take st.d], bel := st.bel }
  | .cl => { d := st.d - 1, way := st.way.take st.d, bl := st.bl, bel := st.bel }
def rd (ts : List Tk) : RS := ts.foldl step { d := 0, way := [], bl := [], bel := [] }
theorem rd_step {ts : List Tk} {i : Nat} {t : Tk} (h : ts[i]? = some t) : rd (ts.take (i + 1)) = step (rd (ts.take i)) t := by
  unfold rd
  rw [List.take_add_one, h, Option.toList_some, List.foldl_append]
  rfl
theorem addB_len (c : Nat) (k : List Nat) : ∀ b : List (List Nat × List Nat), (addB b k c).length ≤ b.length + 1 ∧ ((addB b k c).flatMap (·.2)).length = (b.flatMap (·.2)).length + 1
  | [] => ⟨Nat.le_refl _, rfl⟩
  | p :: r => by
    have ih := addB_len c k r
    unfold addB
    split
    · refine ⟨by simp, ?_⟩
      simp only [List.flatMap_cons, List.length_append, List.length_cons, List.length_nil]; omega
    · simp only [List.flatMap_cons, List.length_append, List.length_cons]; omega
theorem pstr_len {t : Tk} (h : t.ok) : (pstr t).length ≤ 5 := by
  cases t with
  | op c =>
    simp only [Tk.ok, signs, List.mem_cons, List.not_mem_nil, or_false] at h
    rcases h with rfl | rfl | rfl | rfl | rfl | rfl | rfl | rfl | rfl <;> decide +kernel
  | sp => decide +kernel
  | cl => decide +kernel
theorem read_names {x1 x2 x3 x4 : Str} {a b c d a' b' c' d' : Option Value} {m0 : Str → Option Value} : (fun y => if y = x1 then a else if y = x2 then b else if y = x3 then c else if y = x4 then d else (fun y => if y = x1 then a' else if y = x2 then b' else if y = x3 then c' else if y = x4 then d' else m0 y) y) = fun y => if y = x1 then a else if y = x2 then b else if y = x3 then c else if y = x4 then d else m0 y := by
  funext y
  by_cases h1 : y = x1 <;> by_cases h2 : y = x2 <;> by_cases h3 : y = x3 <;> by_cases h4 : y = x4 <;> simp [h1, h2, h3, h4]
theorem nd_ne {a : Addr × Obj} {rest : List (Addr × Obj)} (h : Nd (a :: rest)) : ∀ p ∈ rest, p.1 ≠ a.1 := fun p hp e => (List.nodup_cons.mp h).1 (List.mem_map.mpr ⟨p, hp, e⟩)
theorem nd_cons {a : Addr × Obj} {rest : List (Addr × Obj)} (h : ∀ p ∈ rest, p.1 ≠ a.1) (n : Nd rest) : Nd (a :: rest) := List.nodup_cons.mpr ⟨fun q => by obtain ⟨p, hp, e⟩ := List.mem_map.mp q; exact h p hp e, n⟩
theorem nd_perm {a b : List (Addr × Obj)} (h : List.Perm a b) (n : Nd a) : Nd b := (h.map _).nodup_iff.mp n
theorem read_names2 {x1 x2 x3 x4 : Str} {a b b2 c d a' b' c' d' : Option Value} {m0 : Str → Option Value} : (fun y => if y = x1 then a else if y = x2 then b else if y = x2 then b2 else if y = x3 then c else if y = x4 then d else (fun y => if y = x1 then a' else if y = x2 then b' else if y = x3 then c' else if y = x4 then d' else m0 y) y) = fun y => if y = x1 then a else if y = x2 then b else if y = x3 then c else if y = x4 then d else m0 y := by
  funext y
  by_cases h1 : y = x1
  · rw [if_pos h1, if_pos h1]
  rw [if_neg h1, if_neg h1]
  by_cases h2 : y = x2
  · rw [if_pos h2, if_pos h2]
  rw [if_neg h2, if_neg h2, if_neg h2]
  by_cases h3 : y = x3
  · rw [if_pos h3, if_pos h3]
  rw [if_neg h3, if_neg h3]
  by_cases h4 : y = x4
  · rw [if_pos h4, if_pos h4]
  rw [if_neg h4, if_neg h4]
  show (if y = x1 then a' else if y = x2 then b' else if y = x3 then c' else if y = x4 then d' else m0 y) = _
  rw [if_neg h1, if_neg h2, if_neg h3, if_neg h4]
def gcR (bel : List (List Nat × List Nat)) : Cell → List Cell
  | .s x => (lookB bel x.cps.toList).map fun c => Cell.s (sg c)
  | .i _ => []
theorem wp_stop {α : Type} {M : Model} {A : Around} {m : Sem α} {Q : α → Shared → Prop} {E : Value → Shared → Prop} {s : Shared} (h : wpAny M A m (fun a s' => Stop (Q a s')) E s) : wpAny M A m Q E s := h
theorem lookB_len (k : List Nat) : ∀ b : List (List Nat × List Nat), (lookB b k).length ≤ (b.flatMap (·.2)).length
  | [] => Nat.le_refl _
  | p :: r => by
    have ih := lookB_len k r
    rw [lookB, List.flatMap_cons, List.length_append]
    split <;> omega
def rowsR (r : RS) : List (List Cell) := r.bl.flatMap fun b => (lookB r.bel b).map fun c => [Cell.s (wy b), Cell.s (sg c)]
theorem rows_read (r : RS) : (r.bl.map fun b => Cell.s (wy b)).flatMap (C2.prs (gcR r.bel)) = rowsR r := by
  rw [List.flatMap_map]
  unfold rowsR C2.prs gcR
  simp only [List.map_map]
  rfl
/-- the loop's word -/
def JR {w : World} (toks : List Tk) (st : Int) (L' dd l1 : Addr) (oc : Obj) (m0 : Str → Option Value) (i : Nat) (m₁ : Str → Option Value) (news₁ : List (Addr × Obj)) : Prop :=
  ∃ (od : Obj) (lists : Lst4) (bvs : List Value) (bn : Nat) (t1 t2 : Tok) (a p : Option Value), (m₁ = fun y => if y = Str.ofString "depth" then some (Value.int (st + ((rd (toks.take i)).d : Nat)) t1) else if y = Str.ofString "way" then some (Value.str (wy (rd (toks.take i)).way) t2)
      else if y = Str.ofString "after" then a else if y = Str.ofString "piece" then p else m0 y) ∧ news₁ = (dd, od) :: (l1, lstO bvs bn) :: (L' + 1, oc) :: DLs lists ∧
    od.IsDictOf (PySem.strKind PySem.Challenge.rw_xo0006_01.row.prog w) (kvsOf lists) ∧ LR lists (rd (toks.take i)).bel ∧ All2 CellV bvs ((rd (toks.take i)).bl.map fun b => Cell.s (wy b)) ∧ Nd news₁ ∧ (rd (toks.take i)).way.length ≤ i ∧ (rd (toks.take i)).bl.length ≤ i ∧ (rd (toks.take i)).bel.length ≤ i ∧ ((rd (toks.take i)).bel.flatMap (·.2)).length ≤ i
section
set_option hygiene false in
local macro_rules | `(tactic| walk_at "getMethod str") => `(tactic| (k_here; refine encode_method ?_))
set_option hygiene false in
local macro_rules | `(tactic| walk_at "call builtin:str.encode") => `(tactic| (k_here; refine encode_call hsur hsz8 ?_))
set_option hygiene false in
local macro_rules | `(tactic| walk_at "subscriptTail") => `(tactic| (k_here; (with_reducible rename Fr _ _ _ _ => F'); (with_reducible rename News _ _ _ _ => N'); first
  | ((with_reducible show wpAny _ _ (subscriptTail _ (Expr.Slice none (some _) none _) (Value.str _ _) (Value.ref _)) _ _ _); refine slice_strN_ns (hsz := hwsz) (s := ⟨_, _, _, _, _⟩) F' N' ?_)
  | ((with_reducible show wpAny _ _ (subscriptTail _ (Expr.Slice (some _) (some _) none _) (Value.str _ _) (Value.ref _)) _ _ _); refine slice_strN_ss (hsz := hpsz) (s := ⟨_, _, _, _, _⟩) F' N' ?_); intro _ _ _ _ _))
local macro_rules | `(tactic| walk_at "eval ListComp") => `(tactic| walk_at "mine.stop")
set_option hygiene false in
local macro_rules | `(tactic| walk_at "newList") => `(tactic| (k_here; (have hturn2 := hturn); clear hturn2; refine Stop.out ?_))
local macro_rules | `(tactic| walk_at "call builtin:dict.get") => `(tactic| walk_at "mine.stop")
local macro_rules | `(tactic| walk_at "call builtin:dict.setdefault") => `(tactic| walk_at "mine.stop")
local macro_rules | `(tactic| walk_at "call builtin:list.append") => `(tactic| walk_at "mine.stop")
local macro_rules | `(tactic| walk_at "exec For") => `(tactic| (k_here; refine For_at ?_))
local macro_rules | `(tactic| walk_at "call ref") => `(tactic| walk_at "mine.stop")
theorem read_spec (w : World) (dp un : Nat) (fr : Option (List Env)) (gd : Option (List Code)) (s : Shared) (ps : Addr) (pv : List Value) (toks : List Tk) (st : Int) (t : Tok)
   (Q E : Value → Shared → Prop) (hdp : dp < 800) (hun : un < 8000) (G : Gd w s.heap) (hP : s.heap.IsList ps pv.toArray) (hPS : All2 CellV pv (toks.map fun t => Cell.s (pstr t))) (hok : ∀ t ∈ toks, t.ok) (hlen : toks.length ≤ 100)
   (hd1 : ∀ i, toks[i]? = some .cl → 1 ≤ (rd (toks.take i)).d)
   (hQ : ∀ T n1 D ys n t1 tl h' tk', Kp s.heap h' → New s.heap h' tl → (T, tupO [.int (st + ((rd toks).d : Nat)) t1, .ref D] n1) ∈ tl → (D, lstO ys n) ∈ tl → Rows tl ys (rowsR (rd toks)) → Q (.ref T) { s with heap := h', toks := tk' }) :
   wpAny (model PySem.Challenge.rw_xo0006_01.row.prog w) (AR dp fr gd un) (call (.ref 158) [.ref ps, .int st t]) Q E s := by
  ((have hX0 : (hd.heap_39 w.params).In s.heap := G.1); revert hX0; k_fill; intro hX0; obtain ⟨mean, mg, mb, T0⟩ := G.2)
  refine wpAny_call ?_
  refine' codeFC (binds := [(Str.ofString "pieces", .ref ps), (Str.ofString "start", .int st t)]) hX0 T0 ?k6 ?k7 ?k8 ?k9 ?kB ?kD ?c3 ?c4 ?c5 ?_
  ((case k6 => k_is); (case k7 => k_is); (case k8 => (simp only [recursionLimit]; omega)); (case k9 => exact BindsTo.of_eq rfl); (case kB => exact rfl); (case kD => decide +kernel); (case c3 => exact rfl); (case c4 => exact rfl); (case c5 => exact rfl); k_whole)
  intro L' h' tk' cells F' N' Y'
  obtain ⟨o1, he, d1⟩ := CellsAre.one Y'
  subst he
  clear Y'
  simp only [List.cons_append, List.nil_append] at N'
  dsimp only
  k_fold
  k_steps
  rename_i l1 h1 lt1 dd h2 od lo hdd fs0 hi fi lt2 D3 h3 lt3 h4 h5 h6 h7 h8 oc F2 N2 d2
  clear fs0 hi fi
  clear d1
  obtain ⟨m0, F3, hm0⟩ : ∃ m0, Fr s.heap L' h8 m0 ∧ m0 = _ := ⟨_, F2, rfl⟩
  have N3 : News s.heap L' h8 [(dd, od), (l1, lstO [] 0), (L' + 1, oc)] := News.sub N2 fun p hp => .tail _ hp
  clear F2 N2
  refine for_name (its := pv.toArray) (J := JR (w := w) toks st L' dd l1 oc m0) rfl rfl rfl F3 N3 ?h0 ?src ?turn ?done
  all_goals subst hm0
  case h0 =>
    refine ⟨od, [], [], 0, t, tk', none, none, ?_, rfl, hdd, .nil, .nil, ?_, Nat.zero_le _, Nat.zero_le _, Nat.zero_le _, Nat.zero_le _⟩
    · funext y
      by_cases h1 : y = Str.ofString "depth"
      · subst h1
        show some (Value.int st t) = some (Value.int (st + ((0 : Nat) : Int)) t)
        rw [show st + ((0 : Nat) : Int) = st by omega]
      by_cases h2 : y = Str.ofString "way"
      · subst h2; rfl
      by_cases h3 : y = Str.ofString "after"
      · subst h3; rfl
      by_cases h4 : y = Str.ofString "piece"
      · subst h4; rfl
      simp only [if_neg h1, if_neg h2, if_neg h3, if_neg h4]
    · refine nd_cons (fun p hp => ?_) (nd_cons (fun p hp => ?_) (nd_cons (fun p hp => by cases hp) List.nodup_nil))
      · simp only [List.mem_cons, List.map_nil, List.not_mem_nil, or_false] at hp
        rcases hp with h | h <;> rw [h]
        · exact Nat.ne_of_lt lt2.1
        · exact Nat.ne_of_lt lt2.2
      · simp only [List.mem_cons, List.map_nil, List.not_mem_nil, or_false] at hp
        rw [hp]; exact Nat.ne_of_lt lt1
  case src => exact fun i _ _ _ => .inl hP
  case turn =>
    rintro i v m₁ _ I oI h5 tk5 hi hv ho ⟨od5, lists, bvs, bn, t1, t2, a, p, rfl, rfl, hd5, hl5, hb5, nd5, sz1, sz2, sz3, sz4⟩ off5 F5 N5
    obtain ⟨c1, hc1, hv1⟩ := hPS.getL (i := i) (a := v) (by simpa using hv)
    rw [List.getElem?_map] at hc1
    cases htok : toks[i]? with
    | none => rw [htok] at hc1; cases hc1
    | some tok =>
    rw [htok] at hc1
    cases hc1
    obtain ⟨tv, rfl⟩ := hv1.str
    have N6 : News s.heap L' h5 ((I, oI) :: (L' + 1, oc) :: (dd, od5) :: (l1, lstO bvs bn) :: DLs lists) := News.sub N5 fun p hp => by
      (revert hp; revert p; walk_at "mine.sub")
    clear N5
    have htok1 : tok.ok := hok tok (List.mem_of_getElem? htok)
    have hone : ∀ t ∈ [tok], t.ok := by intro t ht; rw [List.mem_singleton.mp ht]; exact htok1
    have htx : (pstr tok).cps.toList = [tok].flatMap fun t => (pstr t).cps.toList := by simp
    have hsur := text_sur hone htx
    have hsz8 : (u8 (pstr tok)).size ≤ sizeLine := Nat.le_trans (text_size hone htx) (by rw [sizeLine_eq]; simp)
    have hturn : True := trivial
    have hwsz : (wy (rd (toks.take i)).way).length ≤ sizeLine := by
      show (rd (toks.take i)).way.toArray.size ≤ _
      have : i ≤ 100 := Nat.le_trans (Nat.le_of_lt hi) (by rw [List.size_toArray, hPS.length, List.length_map]; exact hlen)
      rw [List.size_toArray, sizeLine_eq]; omega
    have hpsz : (pstr tok).length ≤ sizeLine := Nat.le_trans (pstr_len htok1) (by rw [sizeLine_eq]; omega)
    k_steps
    refine Stop.mk' ?_
    refine paren_spec w _ _ _ _ _ _ _ _ _ _ _ (show dp + 1 < 900 by omega) (show un + 3 < 9000 by omega) (G.kp F5.keep) [tok] (text_bytes hone htx) hone (by simp) fun tr hk9 tk9 kp9 => ?_
    dsimp only
    have F9 := fr_kp F5 kp9
    have N9 := news_kp N6 kp9
    clear F5 N6
    have hi100 : i < 100 := Nat.lt_of_lt_of_le hi (by rw [List.size_toArray, hPS.length, List.length_map]; exact hlen)
    have hstep := rd_step htok
    have hsl : Txt.slice (wy (rd (toks.take i)).way) none (some (st + ((rd (toks.take i)).d : Nat) - st)) = wy ((rd (toks.take i)).way.take (rd (toks.take i)).d) := by
      rw [show st + ((rd (toks.take i)).d : Nat) - st = (((rd (toks.take i)).d : Nat) : Int) by omega]; exact slice_take _ _
    have htl : ((rd (toks.take i)).way.take (rd (toks.take i)).d).length ≤ i := Nat.le_trans (by rw [List.length_take]; exact Nat.min_le_right _ _) sz1
    cases tok with
    | op c =>
      rw [show nets [Tk.op c] = 1 by simp [nets, net]]
      k_steps
      any_goals (exfalso; omega)
      rename_i ha tka hb tw ka hlw hc F6 N6 hcond
      rw [hsl] at F6 ⊢
      refine Stop.mk' ?_
      refine new_list_top F6 N6 fun e h7 F7 N7 off7 => ?_
      k_steps
      refine Stop.mk' ?_
      have N8 : News s.heap L' h7 ((e, lstO [] 0) :: (dd, od5) :: ([(I, oI), (L' + 1, oc), (l1, lstO bvs bn)] ++ DLs lists)) := News.sub N7 fun p hp => by
        simp only [List.mem_cons, List.mem_append, List.not_mem_nil, or_false] at hp ⊢
        rcases hp with h | h | (h | h | h) | h <;> simp only [h, true_or, or_true]
      have ndI : Nd ((dd, od5) :: ([(I, oI), (L' + 1, oc), (l1, lstO bvs bn)] ++ DLs lists)) := by
        refine nd_perm ?_ (nd_cons (a := (I, oI)) off5 nd5)
        exact (List.Perm.swap ..).trans (List.Perm.cons _ (List.Perm.cons _ (List.Perm.swap ..)))
      have ndE : Nd ((e, lstO [] 0) :: (dd, od5) :: ([(I, oI), (L' + 1, oc), (l1, lstO bvs bn)] ++ DLs lists)) := nd_cons (fun p hp => off7 p (by
        simp only [List.mem_cons, List.mem_append, List.not_mem_nil, or_false] at hp ⊢
        rcases hp with h | (h | h | h) | h <;> simp only [h, true_or, or_true])) ndI
      have hll : lists.length ≤ 1000 := by rw [hl5.length]; omega
      clear N7 off7
      refine setdef_any (X := [(I, oI), (L' + 1, oc), (l1, lstO bvs bn)]) F7 N8 hd5 hl5 ndE lo hll fun h8 od8 l vs n pre post F8 N9 hd8 nd8 hvs hLR => ?_
      clear F7 N8 N6 F6
      simp only [List.cons_append, List.nil_append] at N9 nd8
      k_steps
      rename_i hs8 ts8 ks8 F9 N10 ls8
      rw [show (pstr (Tk.op c)) = openP c from rfl, slice_sign htok1]
      refine Stop.mk' ?_
      refine append_top F9 N10 (nd_ne nd8) (by rw [sizeLine_eq]; omega) fun n9 h9 F10 N11 => ?_
      clear F9 N10
      have hlen2 : (wy ((rd (toks.take i)).way.take (rd (toks.take i)).d)).length ≤ 100 := by
        show (((rd (toks.take i)).way.take (rd (toks.take i)).d)).toArray.size ≤ 100
        rw [List.size_toArray]; omega
      k_steps
      rename_i hs9 ts9 ks9 F11 N12 ls9
      rw [show (pstr (Tk.op c)) = openP c from rfl, slice_sign htok1]
      k_steps
      rename_i tz kz xa xb xc FZ NZ
      rw [show st + ((rd (toks.take i)).d : Nat) + 1 = st + ((rd (toks.take (i + 1))).d : Nat) by rw [hstep]; simp only [step]; omega, wy_snoc] at FZ
      have hLR2 := hLR (.str (sg c) ts8) c n9 ts8 rfl
      generalize hkey : (rd (toks.take i)).way.take (rd (toks.take i)).d = key at *
      have ndA : Nd ((I, oI) :: (l, lstO (vs ++ [Value.str (sg c) ts8]) n9) :: (dd, od8) :: (L' + 1, oc) :: (l1, lstO bvs bn) :: DLs (pre ++ post)) :=
        nd_perm ((List.Perm.cons _ (List.Perm.swap ..)).trans (List.Perm.swap ..)) (show Nd ((l, lstO (vs ++ [Value.str (sg c) ts8]) n9) :: (dd, od8) :: (I, oI) :: (L' + 1, oc) :: (l1, lstO bvs bn) :: DLs (pre ++ post)) from nd8)
      have p1 : (DLs (pre ++ (wy key, l, vs ++ [Value.str (sg c) ts8], n9) :: post)).Perm ((l, lstO (vs ++ [Value.str (sg c) ts8]) n9) :: DLs (pre ++ post)) := by
        simp only [DLs, List.map_append, List.map_cons]; exact List.perm_middle
      have ndB : Nd ((dd, od8) :: (l1, lstO bvs bn) :: (L' + 1, oc) :: DLs (pre ++ (wy key, l, vs ++ [Value.str (sg c) ts8], n9) :: post)) := by
        refine nd_perm ?_ (List.nodup_cons.mp ndA).2
        refine (List.Perm.swap ..).trans (List.Perm.cons _ ?_)
        refine (List.Perm.swap ..).trans ?_
        refine (List.Perm.cons _ (List.Perm.swap ..)).trans ?_
        refine (List.Perm.swap ..).trans ?_
        exact List.Perm.cons _ (List.Perm.cons _ p1.symm)
      have hsub : ∀ p ∈ (dd, od8) :: (l1, lstO bvs bn) :: (L' + 1, oc) :: DLs (pre ++ (wy key, l, vs ++ [Value.str (sg c) ts8], n9) :: post), p ∈ (l, lstO (vs ++ [Value.str (sg c) ts8]) n9) :: (dd, od8) :: (L' + 1, oc) :: (l1, lstO bvs bn) :: DLs (pre ++ post) := fun p hp => by
        rcases List.mem_cons.mp hp with h | hp
        · exact .tail _ (h ▸ .head _)
        rcases List.mem_cons.mp hp with h | hp
        · exact .tail _ (.tail _ (.tail _ (h ▸ .head _)))
        rcases List.mem_cons.mp hp with h | hp
        · exact .tail _ (.tail _ (h ▸ .head _))
        rcases List.mem_cons.mp (p1.mem_iff.mp hp) with h | hp
        · exact h ▸ .head _
        · exact .tail _ (.tail _ (.tail _ (.tail _ hp)))
      refine LEnd.intro FZ NZ ((dd, od8) :: (l1, lstO bvs bn) :: (L' + 1, oc) :: DLs (pre ++ (wy key, l, vs ++ [Value.str (sg c) ts8], n9) :: post)) (fun p hp => ?_) (fun p hp => nd_ne ndA p (hsub p hp))
        ⟨od8, pre ++ (wy key, l, vs ++ [Value.str (sg c) ts8], n9) :: post, bvs, bn, tr, tz, some (Value.int (st + ((rd (toks.take (i + 1))).d : Nat)) tr), some (.str (pstr (Tk.op c)) tv), ?_, rfl, ?_, ?_, ?_, ndB, ?_, ?_, ?_, ?_⟩
      · rcases List.mem_cons.mp hp with h | hp
        · rw [h]; exact .tail _ (.tail _ (.head _))
        · have := hsub p hp
          simp only [List.mem_cons] at this ⊢
          rcases this with h | h | h | h | h <;> simp only [h, true_or, or_true]
      · rw [hstep]; simp only [step, hkey]; exact read_names2
      · have e : kvsOf (pre ++ (wy key, l, vs, n) :: post) = kvsOf (pre ++ (wy key, l, vs ++ [Value.str (sg c) ts8], n9) :: post) := by simp only [kvsOf, List.map_append, List.map_cons]
        rw [← e]; exact hd8
      · rw [hstep]; simp only [step, hkey]; exact hLR2
      · rw [hstep]; exact hb5
      · rw [hstep]; simp only [step, hkey]; rw [List.length_append, List.length_singleton]; omega
      · rw [hstep]; simp only [step]; omega
      · rw [hstep]; simp only [step]; have := (addB_len c ((rd (toks.take i)).way.take (rd (toks.take i)).d) (rd (toks.take i)).bel).1; omega
      · rw [hstep]; simp only [step]; have := (addB_len c ((rd (toks.take i)).way.take (rd (toks.take i)).d) (rd (toks.take i)).bel).2; omega
    | sp =>
      rw [show nets [Tk.sp] = 0 by simp [nets, net]]
      k_steps
      any_goals (exfalso; omega)
      rename_i ha tka hb tw ka hlw hc F6 N6 hc1 hc2
      rw [hsl] at F6 ⊢
      refine Stop.mk' ?_
      have ndI : Nd ((l1, lstO bvs bn) :: (I, oI) :: (L' + 1, oc) :: (dd, od5) :: DLs lists) := by
        refine nd_perm ?_ (nd_cons (a := (I, oI)) off5 nd5)
        exact ((List.Perm.cons _ ((List.Perm.swap ..).trans (List.Perm.cons _ (List.Perm.swap ..)))).trans (List.Perm.swap ..))
      refine append_top (vs := bvs) (n := bn) (news := (I, oI) :: (L' + 1, oc) :: (dd, od5) :: DLs lists) F6 (News.sub N6 fun p hp => ?_) (nd_ne ndI) ?_ fun n' h7 F7 N7 => ?_
      · (revert hp; revert p; walk_at "mine.sub")
      · rw [hb5.length, List.length_map, sizeLine_eq]; omega
      k_steps
      rename_i h8 F8 N8
      rw [show st + ((rd (toks.take i)).d : Nat) + 0 = st + ((rd (toks.take (i + 1))).d : Nat) by rw [hstep]; simp only [step]; omega] at F8
      refine LEnd.intro F8 N8 ((dd, od5) :: (l1, lstO (bvs ++ [Value.str (wy ((rd (toks.take i)).way.take (rd (toks.take i)).d)) tw]) n') :: (L' + 1, oc) :: DLs lists) (fun p hp => ?_) (fun p hp => ?_) ⟨od5, lists, bvs ++ [Value.str (wy ((rd (toks.take i)).way.take (rd (toks.take i)).d)) tw], n', tr, tw, some (Value.int (st + ((rd (toks.take (i + 1))).d : Nat)) tr), some (.str (pstr Tk.sp) tv), ?_, rfl, hd5, ?_, ?_, nd5, ?_, ?_, ?_, ?_⟩
      · (revert hp; revert p; walk_at "mine.sub")
      · rcases List.mem_cons.mp hp with h | hp
        · rw [h]; exact off5 (dd, od5) (.head _)
        rcases List.mem_cons.mp hp with h | hp
        · rw [h]; exact off5 (l1, lstO bvs bn) (.tail _ (.head _))
        · exact off5 p (.tail _ (.tail _ hp))
      · rw [hstep]; exact read_names
      all_goals (rw [hstep]; simp only [step])
      · exact hl5
      · rw [List.map_append]; exact hb5.snoc (.s _ _)
      · omega
      · rw [List.length_append, List.length_singleton]; omega
      all_goals omega
    | cl =>
      have hd1' := hd1 i htok
      rw [show nets [Tk.cl] = -1 by simp [nets, net]]
      k_steps
      any_goals (exfalso; omega)
      rename_i ha tka hb tw ka hlw hc hc1 hc2 hd F6 N6
      rw [hsl, show st + ((rd (toks.take i)).d : Nat) + -1 = st + ((rd (toks.take (i + 1))).d : Nat) by rw [hstep]; simp only [step]; omega] at F6
      refine LEnd.intro F6 N6 ((dd, od5) :: (l1, lstO bvs bn) :: (L' + 1, oc) :: DLs lists) (fun p hp => ?_) off5 ⟨od5, lists, bvs, bn, tr, tw, some (Value.int (st + ((rd (toks.take (i + 1))).d : Nat)) tr), some (.str (pstr Tk.cl) tv), ?_, rfl, hd5, ?_, ?_, nd5, ?_, ?_, ?_, ?_⟩
      · (revert hp; revert p; walk_at "mine.sub")
      · rw [hstep]; exact read_names
      all_goals (rw [hstep]; simp only [step])
      · exact hl5
      · exact hb5
      all_goals omega
  case done =>
    rintro m₁ _ h tk ⟨od5, lists, bvs, bn, t1, t2, a, p, rfl, rfl, hd5, hl5, hb5, nd5, sz1, sz2, sz3, sz4⟩ F5 N5
    have hsz : pv.toArray.size = toks.length := by rw [List.size_toArray, hPS.length, List.length_map]
    have hts : toks.take pv.toArray.size = toks := by rw [hsz, List.take_of_length_le (Nat.le_refl _)]
    rw [hts] at hl5 hb5 F5 sz1 sz2 sz3 sz4
    rw [hsz] at sz1 sz2 sz3 sz4
    clear hts
    dsimp only
    k_steps
    refine Stop.mk' ?_
    refine C2.ListComp_2 (h₀ := s.heap) (L := L') F5 rfl (by with_unfolding_all rfl) (by decide) (by rfl) (by decide) (by rfl) (by rfl) (by decide) (by intro _; rfl) (by intro _ _; rfl) ?_
    k_steps
    refine ⟨l1, bvs, bn, (rd toks).bl.map fun b => Cell.s (wy b), gcR (rd toks).bel, _, rfl, F5, N5, .tail _ (.head _), hb5, ?_, ?_, ?_, ?_⟩
    · refine Nat.le_trans (flat_len (B := 100) fun x hx => ?_) (by rw [List.length_map, sizeLine_eq]; omega)
      obtain ⟨b, hb, rfl⟩ := List.mem_map.mp hx
      rw [C2.prs, List.length_map, gcR, List.length_map]
      exact Nat.le_trans (lookB_len _ _) (by omega)
    · intro v u cv cu ys n nw I oI J oJ C oC D m₂ h3 tk3 s3 E3 hcv hcu hoC hx hy hnb F7 N7
      refine wp_stop ?_
      k_steps
      refine Stop.mk' ?_
      rename_i D8 h8 F8 N8 lt8
      obtain ⟨q1, q2, q3, q4, -⟩ := lt8
      refine ⟨h8, _, [(D8, tupO [v, u] 0)], rfl, F8, News.sub N8 fun p hp => ?_, fun p hp => ?_, D8, [v, u], 0, rfl, .head _, .cons hcv (.cons hcu .nil)⟩
      · (revert hp; revert p; walk_at "mine.sub")
      · rw [List.mem_singleton.mp hp]
        exact ⟨q1, q2, q3, q4⟩
    · intro v cv ys n nw I oI C oC D m₂ h3 tk3 s3 E3 hmv hcv hoC hx hnb F7 N7
      have N8 : News s.heap L' h3 ((I, oI) :: (C, oC) :: (D, lstO ys n) :: (dd, od5) :: (L' + 1, oc) :: (DLs lists ++ nw)) := News.sub N7 fun p hp => by
        simp only [List.mem_cons, List.mem_append] at hp ⊢
        rcases hp with h | h | h | h | h | h | h
        · simp only [h, true_or]
        · simp only [h, true_or, or_true]
        · simp only [h, true_or, or_true]
        · exact .inr (.inr (.inr (hnb p (h ▸ .head _))))
        · exact .inr (.inr (.inr (hnb p (h ▸ .tail _ (.tail _ (.head _))))))
        · exact .inr (.inr (.inr (hnb p (.tail _ (.tail _ (.tail _ h))))))
        · simp only [h, or_true]
      clear N7
      obtain ⟨b, hb, rfl⟩ := List.mem_map.mp hmv
      obtain ⟨tb, rfl⟩ := hcv.str
      refine wp_stop ?_
      k_steps
      refine Stop.mk' ?_
      rename_i e8 h8 F8 N8 lt8
      obtain ⟨q1, q2, q3, -⟩ := lt8
      refine kdg_get2 (knd := PySem.strKind _ _) N8 (.tail _ (.tail _ (.tail _ (.tail _ (.head _))))) hd5 (by assumption) (strKind_is _ _ _ _) _ rfl ?_
      refine Stop.mk' ?_
      have N9 : News s.heap L' h8 ((I, oI) :: (C, oC) :: (D, lstO ys n) :: (nw ++ [(e8, lstO [] 0)])) := News.sub N8 fun p hp => by
        (revert hp; revert p; walk_at "mine.sub")
      have hlt9 : ∀ p ∈ [(e8, lstO [] 0)], I < p.1 ∧ C < p.1 ∧ D < p.1 := fun p hp => by rw [List.mem_singleton.mp hp]; exact ⟨q1, q2, q3⟩
      rcases look_LR hl5 b with ⟨l, vs, n8, e1, e2, e3⟩ | ⟨e1, e2⟩
      · rw [e1]
        exact ⟨h8, _, [(e8, lstO [] 0)], l, vs, n8, rfl, rfl, F8, N9, hlt9, List.mem_append_left _ (hnb _ (.tail _ (.tail _ (.tail _ e2)))), e3⟩
      · rw [e1]
        refine ⟨h8, _, [(e8, lstO [] 0)], e8, [], 0, rfl, rfl, F8, N9, hlt9, List.mem_append_right _ (.head _), ?_⟩
        show All2 CellV [] ((lookB (rd toks).bel b).map fun c => Cell.s (sg c))
        rw [e2]; exact .nil
    · intro D ys n news' h3 tk3 F7 N7 off7 hR7
      k_steps
      rename_i D8 h8 F8 N8 lt8
      show Q (.ref D8) _
      refine hQ D8 0 D ys n t1 _ h8 _ (fun b o e => F8.keep b o e) (New.of N8) (.head _) (.tail _ (.head _)) ?_
      refine All2.mono ?_ fun _ _ x => TupAt.sub x fun p hp => .tail _ (.tail _ hp)
      rw [← rows_read]
      exact hR7
end
end
section
set_option maxRecDepth 100000
set_option maxHeartbeats 4000000
theorem fresh_Enu : True := by (w_top off; trivial)
def LEnd2 (h₀ : Heap) (L : Addr) (I K : Addr) (oI oK : Obj) (s₁ : Shared) (J : (Str → Option Value) → List (Addr × Obj) → Prop) (s₂ : Shared) : Prop :=
  ∃ h' tk m' news', s₂ = { s₁ with heap := h', toks := tk } ∧ Fr h₀ L h' m' ∧ News h₀ L h' ((I, oI) :: (K, oK) :: news') ∧ (∀ p ∈ news', p.1 ≠ I ∧ p.1 ≠ K) ∧ J m' news'
def LPost2 (h₀ : Heap) (L : Addr) (I K : Addr) (oI oK : Obj) (s₁ : Shared) (J : (Str → Option Value) → List (Addr × Obj) → Prop) (Q : Flow → Shared → Prop) (f : Flow) (s₂ : Shared) : Prop :=
  match f with
  | .ret v => Q (.ret v) s₂
  | .brk => Q .next s₂
  | _ => LEnd2 h₀ L I K oI oK s₁ J s₂
theorem LEnd2.intro {h₀ : Heap} {L I K : Addr} {oI oK : Obj} {s₁ : Shared} {J : (Str → Option Value) → List (Addr × Obj) → Prop} {h' : Heap} {tk : Nat} {m' : Str → Option Value} {all : List (Addr × Obj)} (F : Fr h₀ L h' m') (N : News h₀ L h' all) (news' : List (Addr × Obj))
    (sub : ∀ p ∈ (I, oI) :: (K, oK) :: news', p ∈ all) (off : ∀ p ∈ news', p.1 ≠ I ∧ p.1 ≠ K) (j : J m' news') : LEnd2 h₀ L I K oI oK s₁ J { s₁ with heap := h', toks := tk } := ⟨h', tk, m', news', rfl, F, fun p hp => N p (sub p hp), off, j⟩
abbrev enO (it : Addr) (i : Int) (old : Value) : Obj := { cls := .type "enumerate", dict := none, data := .fields #[.none, .bool false, .ref it, rawInt i, .none, old], slots := #[] }
section
variable {prog : Program} {w : World} {A : Around} {E : Value → Shared → Prop} {s : Shared} {env : Env} {h₀ : Heap} {m : Str → Option Value} {news : List (Addr × Obj)} {body : List Stmt} {Q : Flow → Shared → Prop}
theorem for_enum {xi xv : Str} {pi pv pt : Pos} {x1 : Nat} {ax : Addr} {vs : List Value} {n : Nat} (J : Nat → (Str → Option Value) → List (Addr × Obj) → Prop)
    (hxi : env.kindOf xi = some .local) (hxv : env.kindOf xv = some .local) (hp : (env.scope.kind == .class || (env.scope.kind == .module && env.locals != env.globals)) = false)
    (hh : A.handled = none) (F : Fr h₀ env.locals s.heap m) (N : News h₀ env.locals s.heap news) (h0 : J 0 m news)
    (src : ∀ i m₁ news₁, J i m₁ news₁ → (ax, lstO vs n) ∈ news₁)
    (turn : ∀ i v tk m₁ news₁ (I K : Addr) oI oK h tk', i < vs.length → vs[i]? = some v → J i m₁ news₁ → (∀ p ∈ news₁, p.1 ≠ I ∧ p.1 ≠ K) → I ≠ K → Fr h₀ env.locals h (fun y => if y = xv then some v else if y = xi then some (.int (i : Int) tk) else m₁ y) → News h₀ env.locals h ((I, oI) :: (K, oK) :: news₁) →
      wpAny (model prog w) A (execs body env) (LPost2 h₀ env.locals I K oI oK { s with heap := h, toks := tk' } (J (i + 1)) Q) E { s with heap := h, toks := tk' })
    (done : ∀ m₁ news₁ h tk, J vs.length m₁ news₁ → Fr h₀ env.locals h m₁ → News h₀ env.locals h news₁ → Q .next { s with heap := h, toks := tk })
    (hE : PassesOwn (model prog w) A env E := by passes_own) :
    wpAny (model prog w) A (call (.type "enumerate") [.ref ax]) (ForAt prog w A (.Tuple [.Name xi pi, .Name xv pv] x1 pt) body env Q E) E s := by
  have hax := (N _ (src 0 m news h0)).1
  refine call_enumerate_1 hax fun h1 he hit hz hk => ?_
  have hlt : ∀ b o, s.heap.get? b = some o → b ≠ s.heap.objs.size ∧ b ≠ s.heap.objs.size + 1 := fun b o e => ⟨Nat.ne_of_lt (Heap.lt_size e), Nat.ne_of_lt (Nat.lt_succ_of_lt (Heap.lt_size e))⟩
  have hLs : env.locals < s.heap.objs.size := F.ns.lt
  have hKL : s.heap.objs.size ≠ env.locals := Ne.symm (Nat.ne_of_lt hLs)
  have hIL : s.heap.objs.size + 1 ≠ env.locals := Ne.symm (Nat.ne_of_lt (Nat.lt_succ_of_lt hLs))
  have hK₀ : h₀.get? s.heap.objs.size = none := next_is_new F
  have hI₀ : h₀.get? (s.heap.objs.size + 1) = none := by
    cases e : h₀.get? (s.heap.objs.size + 1) with
    | none => rfl
    | some o => exact absurd (Heap.lt_size (F.keep _ o e)) (Nat.not_lt.mpr (Nat.le_succ _))
  have offs : ∀ p ∈ news, p.1 ≠ s.heap.objs.size + 1 ∧ p.1 ≠ s.heap.objs.size := fun p hp => ⟨(hlt _ _ (N p hp).1).2, (hlt _ _ (N p hp).1).1⟩
  have hIK : s.heap.objs.size + 1 ≠ s.heap.objs.size := Nat.succ_ne_self _
  have F1 := F.keeps hk
  have N1 := N.grown hk
  clear hlt hz
  generalize s.heap.objs.size + 1 = I at *
  generalize s.heap.objs.size = K at *
  refine wpAny_pyIter_enum he ?_
  refine codeAny_forLoop_any
    (fun k s' => ∃ h' tk m' news' i old, s' = { s with heap := h', toks := tk } ∧ IsEnum h' I K ((i : Nat) : Int) old ∧ h'.IsListIter K ax i ∧ Fr h₀ env.locals h' m' ∧ News h₀ env.locals h' news' ∧ (∀ p ∈ news', p.1 ≠ I ∧ p.1 ≠ K) ∧ J i m' news' ∧ i ≤ vs.length ∧ k = vs.length + 1 - i) ?_ (vs.length + 1)
    ⟨_, s.toks, m, news, 0, .none, rfl, he, hit, F1, N1, offs, h0, Nat.zero_le _, rfl⟩
  rintro k s' ⟨H, tk, m', news', i, old, rfl, he', hit', F', N', off', hJ, hi, rfl⟩
  have hm' := src i m' news' hJ
  have hl' : H.IsList ax vs.toArray := ⟨_, (N' _ hm').1, rfl, n, rfl⟩
  have hae := off' _ hm'
  by_cases hlt' : i < vs.length
  · have hv : vs[i]? = some vs[i] := List.getElem?_eq_getElem hlt'
    refine wpAny_pyNext_enum_item he' hit' hl' (x := vs[i]) (by simp [hlt']) hIK fun h₁ heo hit₁ ht₁ hz₁ hk₁ => ?_
    refine wpAny_letOwnedTupleGo_enum heo fun h₂ he₂ hs₂ => ?_
    replace hs₂ : Heap.SameBut I h₁ h₂ := hs₂
    have hIH : I < H.objs.size := Heap.lt_size he'
    have ht₂ : h₂.IsTuple H.objs.size #[.int i tk, vs[i]] := ⟨_, (hs₂.2 _ (Nat.ne_of_gt hIH)).trans ht₁, rfl, _, rfl⟩
    have k2 : ∀ b o, b ≠ I → b ≠ K → H.get? b = some o → h₂.get? b = some o := fun b o h1 h2 e => hs₂.extBut b o h1 (hk₁ b o h1 h2 e)
    have hz₂ : h₂.objs.size = H.objs.size + 1 := hs₂.1.trans hz₁
    refine wpAny_assign_Tuple hh ht₂ rfl rfl fun h₃ hx₃ => ?_
    replace hx₃ : Heap.ExtBut h₂.objs.size h₂ h₃ := hx₃
    have k3 : ∀ b o, h₂.get? b = some o → h₃.get? b = some o := fun b o e => hx₃ b o (Nat.ne_of_lt (Heap.lt_size e)) e
    have hn₃ : h₃.Ns env.locals m' := F'.ns.at' fun o e => k3 _ o (k2 _ o (Ne.symm hIL) (Ne.symm hKL) e)
    show wpAny _ A (do holding [vs[i]] (assign (.Name xi pi) env (.int i tk)); do holding [] (assign (.Name xv pv) env vs[i]); pure ()) _ _ _
    refine wpAny_bind (wpAny_holding (wpAny_assign_Name (wpAny_storeName_local hxi hn₃ (fun h₄ hn₄ hs₄ => ?_) hp)))
    replace hs₄ : Heap.SameBut env.locals h₃ h₄ := hs₄
    refine wpAny_bind (wpAny_holding (wpAny_assign_Name (wpAny_storeName_local hxv hn₄ (fun h₅ hn₅ hs₅ => wpAny_pure ?_) hp)))
    replace hs₅ : Heap.SameBut env.locals h₄ h₅ := hs₅
    have k5 : ∀ b o, b ≠ env.locals → h₂.get? b = some o → h₅.get? b = some o := fun b o hb e => hs₅.extBut b o hb (hs₄.extBut b o hb (k3 b o e))
    have hL₀ : h₀.get? env.locals = none := Heap.get?_none_of_le F'.above
    have neL : ∀ b o, h₀.get? b = some o → b ≠ env.locals ∧ b ≠ I ∧ b ≠ K := fun b o e => ⟨fun q => (by rw [q, hL₀] at e; cases e), fun q => (by rw [q, hI₀] at e; cases e), fun q => (by rw [q, hK₀] at e; cases e)⟩
    have F₅ : Fr h₀ env.locals h₅ (fun y => if y = xv then some vs[i] else if y = xi then some (.int (i : Int) tk) else m' y) := ⟨hn₅, fun b o e => k5 b o (neL b o e).1 (k2 b o (neL b o e).2.1 (neL b o e).2.2 (F'.keep b o e)), F'.above⟩
    have hit₂ : h₂.IsListIter K ax (i + 1) := hit₁.extBut hs₂.extBut (Ne.symm hIK)
    obtain ⟨oK, hoK, hcK, hdK⟩ := hit₂
    have N₅ : News h₀ env.locals h₅ ((I, enO K ((i : Int) + 1) vs[i]) :: (K, oK) :: news') := fun p hp => by
      rcases List.mem_cons.mp hp with rfl | hp
      · exact ⟨k5 _ _ hIL he₂, hIL, hI₀⟩
      rcases List.mem_cons.mp hp with rfl | hp
      · exact ⟨k5 _ _ hKL hoK, hKL, hK₀⟩
      · exact ⟨k5 _ _ (N' p hp).2.1 (k2 _ _ (off' p hp).1 (off' p hp).2 (N' p hp).1), (N' p hp).2⟩
    refine wpAny_mono (wpAny_passesOwn hE (turn i vs[i] tk m' news' I K _ oK h₅ _ hlt' hv hJ off' hIK F₅ N₅)) (fun f s₃ h₃ => ?_) fun _ _ e => e
    have fin : LEnd2 h₀ env.locals I K (enO K ((i : Int) + 1) vs[i]) oK { s with heap := h₅, toks := tk + 1 + 1 + 1 } (J (i + 1)) s₃ → ∃ k, k < vs.length + 1 - i ∧ ∃ h' tk m' news' i old, s₃ = { s with heap := h', toks := tk } ∧ IsEnum h' I K ((i : Nat) : Int) old ∧ h'.IsListIter K ax i ∧ Fr h₀ env.locals h' m' ∧ News h₀ env.locals h' news' ∧ (∀ p ∈ news', p.1 ≠ I ∧ p.1 ≠ K) ∧ J i m' news' ∧ i ≤ vs.length ∧ k = vs.length + 1 - i := by
      rintro ⟨h', tk, m'', news'', rfl, F₃, N₃, off₃, hJ₃⟩
      exact ⟨vs.length + 1 - (i + 1), by omega, h', tk, m'', news'', i + 1, vs[i], rfl, (N₃ _ (.head _)).1, ⟨oK, (N₃ _ (.tail _ (.head _))).1, hcK, hdK⟩, F₃, fun p hp => N₃ p (.tail _ (.tail _ hp)), off₃, hJ₃, hlt', rfl⟩
    cases f with
    | ret v => exact h₃
    | brk => exact h₃
    | next => exact fin h₃
    | cont => exact fin h₃
  · have e : i = vs.length := by omega
    subst e
    refine wpAny_pyNext_enum_end hh he' hit' hl' (by simp) fun h₁ hs₁ => wpAny_execs_nil ?_
    have F₁ : Fr h₀ env.locals h₁ m' := LCg.fr_but (I := K) F' (fun b o hb e => hs₁ b o (by simpa using hb) e) (Ne.symm hKL) hK₀
    have N₁ : News h₀ env.locals h₁ news' := LCg.news_but (I := K) N' (fun b o hb e => hs₁ b o (by simpa using hb) e) fun p hp => (off' p hp).2
    exact done m' news' h₁ tk hJ F₁ N₁
theorem for_range {x : Str} {px : Pos} {r : Addr} {n : Nat} {t u v : Tok} (J : Nat → (Str → Option Value) → List (Addr × Obj) → Prop)
    (hx : env.kindOf x = some .local) (hp : (env.scope.kind == .class || (env.scope.kind == .module && env.locals != env.globals)) = false)
    (hh : A.handled = none) (F : Fr h₀ env.locals s.heap m) (N : News h₀ env.locals s.heap news) (h0 : J 0 m news) (hr : IsRange s.heap r 0 n 1 t u v) (hsm : Builtin.Range.small 0 n 1 = true) (hsz : Builtin.Range.rangeSize 0 n 1 = n)
    (turn : ∀ (i : Nat) tk m₁ news₁ (I : Addr) oI h tk', i < n → J i m₁ news₁ → (∀ p ∈ news₁, p.1 ≠ I) → Fr h₀ env.locals h (fun y => if y = x then some (.int (i : Int) tk) else m₁ y) → News h₀ env.locals h ((I, oI) :: news₁) →
      wpAny (model prog w) A (execs body env) (LPost h₀ env.locals I oI { s with heap := h, toks := tk' } (J (i + 1)) Q) E { s with heap := h, toks := tk' })
    (done : ∀ m₁ news₁ h tk, J n m₁ news₁ → Fr h₀ env.locals h m₁ → News h₀ env.locals h news₁ → Q .next { s with heap := h, toks := tk })
    (hE : PassesOwn (model prog w) A env E := by passes_own) :
    ForAt prog w A (.Name x px) body env Q E (.ref r) s := by
  refine wpAny_pyIter_range hr hsm ?_
  have hL : env.locals < s.heap.objs.size := F.ns.lt
  have hIL : env.locals ≠ s.heap.objs.size := Nat.ne_of_lt hL
  have hI₀ : h₀.get? s.heap.objs.size = none := next_is_new F
  have up : ∀ b o, s.heap.get? b = some o → (s.heap.push { cls := .type "range_iterator", data := .fields #[rawInt 0, rawInt (Builtin.Range.rangeSize 0 n 1), rawInt 1] }).get? b = some o := fun b o e => Heap.get?_push_of_some _ e
  have W := LCg.range_walks (prog := prog) (w := w) (A := A) (I := s.heap.objs.size) hh 0 n
  have hst : IsRangeIter (s.heap.push { cls := .type "range_iterator", data := .fields #[rawInt 0, rawInt (Builtin.Range.rangeSize 0 n 1), rawInt 1] }) s.heap.objs.size (0 + ((0 : Nat) : Int) * 1) ((n : Int) - ((0 : Nat) : Int)) 1 := by
    rw [hsz]; simpa using Heap.get?_push_size _ rfl
  refine codeAny_forLoop_any
    (fun k s' => ∃ h' tk m' news' i, s' = { s with heap := h', toks := tk } ∧ IsRangeIter h' s.heap.objs.size (0 + ((i : Nat) : Int) * 1) ((n : Int) - ((i : Nat) : Int)) 1 ∧ Fr h₀ env.locals h' m' ∧ News h₀ env.locals h' news' ∧ (∀ p ∈ news', p.1 ≠ s.heap.objs.size) ∧ J i m' news' ∧ i ≤ n ∧ k = n + 1 - i) ?_ (n + 1)
    ⟨_, s.toks, m, news, 0, rfl, hst, F.keeps up, N.grown up, fun p hp => Nat.ne_of_lt (Heap.lt_size (N p hp).1), h0, Nat.zero_le _, rfl⟩
  rintro k s' ⟨H, tk, m', news', i, rfl, hit, F', N', off', hJ, hi, rfl⟩
  by_cases hlt' : i < n
  · refine W.item i _ _ _ hlt' hit fun v' h₁ tk₁ hPv hst₁ hk₁ => ?_
    obtain ⟨tv, rfl⟩ := hPv
    rw [Int.zero_add]
    refine wpAny_of_eq (show letOwnedTupleGo (.Name x px) (.ref s.heap.objs.size) (.int (i : Int) tv) = pure () from rfl) ?_
    have hk₁' : ∀ b o, b ≠ s.heap.objs.size → H.get? b = some o → h₁.get? b = some o := fun b o hb e => hk₁ b o (by simpa using hb) e
    have F₁ : Fr h₀ env.locals h₁ m' := LCg.fr_but (I := s.heap.objs.size) F' (fun b o hb e => hk₁' b o (by simpa using hb) e) hIL hI₀
    have N₁ : News h₀ env.locals h₁ news' := LCg.news_but (I := s.heap.objs.size) N' (fun b o hb e => hk₁' b o (by simpa using hb) e) off'
    refine wpAny_assign_Name (wpAny_storeName_local hx F₁.ns (fun h₂ hn₂ hs₂ => ?_) hp)
    have hL₀ : h₀.get? env.locals = none := Heap.get?_none_of_le F₁.above
    have F₂ : Fr h₀ env.locals h₂ (fun y => if y = x then some (.int (i : Int) tv) else m' y) := ⟨hn₂, fun b o e => hs₂.extBut b o (fun q => by rw [q, hL₀] at e; cases e) (F₁.keep b o e), F₁.above⟩
    have N₂ : News h₀ env.locals h₂ ((s.heap.objs.size, { cls := .type "range_iterator", dict := none, data := .fields #[rawInt (0 + (((i + 1 : Nat)) : Int) * 1), rawInt ((n : Int) - ((i + 1 : Nat) : Int)), rawInt 1], slots := #[] }) :: news') := fun p hp => by
      rcases List.mem_cons.mp hp with rfl | hp
      · exact ⟨hs₂.extBut _ _ (Ne.symm hIL) hst₁, Ne.symm hIL, hI₀⟩
      · exact ⟨hs₂.extBut _ _ (N₁ p hp).2.1 (N₁ p hp).1, (N₁ p hp).2⟩
    refine wpAny_mono (wpAny_passesOwn hE (turn i tv m' news' s.heap.objs.size _ h₂ _ hlt' hJ off' F₂ N₂)) (fun f s₃ h₃ => ?_) fun _ _ e => e
    have fin : LEnd h₀ env.locals s.heap.objs.size { cls := .type "range_iterator", dict := none, data := .fields #[rawInt (0 + (((i + 1 : Nat)) : Int) * 1), rawInt ((n : Int) - ((i + 1 : Nat) : Int)), rawInt 1], slots := #[] } { s with heap := h₂, toks := tk₁ + 1 } (J (i + 1)) s₃ → ∃ k, k < n + 1 - i ∧ ∃ h' tk m' news' i, s₃ = { s with heap := h', toks := tk } ∧ IsRangeIter h' s.heap.objs.size (0 + ((i : Nat) : Int) * 1) ((n : Int) - ((i : Nat) : Int)) 1 ∧ Fr h₀ env.locals h' m' ∧ News h₀ env.locals h' news' ∧ (∀ p ∈ news', p.1 ≠ s.heap.objs.size) ∧ J i m' news' ∧ i ≤ n ∧ k = n + 1 - i := by
      rintro ⟨h', tk, m'', news'', rfl, F₃, N₃, off₃, hJ₃⟩
      exact ⟨n + 1 - (i + 1), by omega, h', tk, m'', news'', i + 1, rfl, (N₃ _ (.head _)).1, F₃, fun p hp => N₃ p (.tail _ hp), off₃, hJ₃, hlt', rfl⟩
    cases f with
    | ret v => exact h₃
    | brk => exact h₃
    | next => exact fin h₃
    | cont => exact fin h₃
  · have e : i = n := by omega
    subst e
    refine W.done _ _ _ hit fun h₁ tk₁ hk₁ => wpAny_execs_nil ?_
    have hk₁' : ∀ b o, b ≠ s.heap.objs.size → H.get? b = some o → h₁.get? b = some o := fun b o hb e => hk₁ b o (by simpa using hb) e
    have F₁ : Fr h₀ env.locals h₁ m' := LCg.fr_but (I := s.heap.objs.size) F' (fun b o hb e => hk₁' b o (by simpa using hb) e) hIL hI₀
    have N₁ : News h₀ env.locals h₁ news' := LCg.news_but (I := s.heap.objs.size) N' (fun b o hb e => hk₁' b o (by simpa using hb) e) off'
    exact done m' news' h₁ tk₁ hJ F₁ N₁
theorem pop_top {L l : Addr} {vs : List Value} {n : Nat} {i : Int} {u : Tok} {Q : Value → Shared → Prop} (F : Fr h₀ L s.heap m) (N : News h₀ L s.heap ((l, lstO vs n) :: news)) (off : ∀ p ∈ news, p.1 ≠ l) (hi0 : 0 ≤ i) (hi1 : i < vs.length) (hz : vs.length ≤ 1000)
    (h : ∀ y n' h', vs[i.toNat]? = some y → Fr h₀ L h' m → News h₀ L h' ((l, lstO (vs.eraseIdx i.toNat) n') :: news) → Q y { s with heap := h' }) : wpAny (model prog w) A (call (.builtin "list.pop") [.ref l, .int i u]) Q E s := by
  have z := N _ (.head _)
  have hlt : i.toNat < vs.length := by omega
  have hy : vs.toArray[i.toNat]? = some vs[i.toNat] := by simp [hlt]
  have hf : Builtin.List.listFitsIndex i = true := by
    unfold Builtin.List.listFitsIndex
    simp only [Bool.and_eq_true, decide_eq_true_eq]
    omega
  have hk : seqIndex? i vs.toArray.size = some i.toNat := by
    unfold seqIndex?
    simp only [List.size_toArray, if_neg (show ¬ i < 0 by omega)]
    rw [if_pos (by simp only [Bool.and_eq_true, decide_eq_true_eq]; omega)]
  refine call_meets PySem.F.slot_list_pop ⟨_, z.1, rfl⟩ PySem.F.entry_list_pop (PySem.F.args_list_pop_2 _ _) (PySem.MeetsSeq.list_pop_at l _ n i u _ _ hf hk hy (by rw [List.size_toArray, sizeLine_eq]; omega)) ⟨z.1, ?_⟩
  have e1 : vs.toArray.eraseIdxIfInBounds i.toNat = (vs.eraseIdx i.toNat).toArray := by
    unfold Array.eraseIdxIfInBounds
    rw [dif_pos (by simpa using hlt)]
    apply Array.toList_inj.mp
    rw [Array.toList_eraseIdx]
  have q := PySem.IsL.update z.1 (fun x => x.eraseIdxIfInBounds i.toNat)
  rw [e1] at q
  have hs := Heap.SameBut.update s.heap l (Obj.mapSeq fun x => x.eraseIdxIfInBounds i.toNat)
  generalize (if ((vs.eraseIdx i.toNat).toArray.size == vs.toArray.size) = true then n else n + 1) = n' at q
  refine h vs[i.toNat] n' _ (List.getElem?_eq_getElem hlt) (F.change hs z.2.1 z.2.2) fun p hp => ?_
  rcases List.mem_cons.mp hp with rfl | hp
  · exact ⟨q, z.2⟩
  · exact ⟨hs.extBut _ _ (off p hp) (N p (.tail _ hp)).1, (N p (.tail _ hp)).2⟩
end
end
section
set_option maxRecDepth 100000
set_option maxHeartbeats 8000000
theorem fresh_Trs : True := by (w_top off; trivial)
structure TP (i : Nat) (us : List Int) (cs ss : List Nat) : Prop where
  lu : us.length = i
  lc : cs.length = i
  ls : ss.length = 9 - i
  nd : (ss ++ cs).Nodup
  sub : ∀ c ∈ ss ++ cs, c ∈ signs
  root : 0 < i → ug us 0 = -1
  up : ∀ k : Nat, 0 < k → k < i → 0 ≤ ug us k ∧ ug us k < k
theorem TP.start : TP 0 [] [] signs := ⟨rfl, rfl, rfl, by decide, fun c h => by simpa using h, fun h => absurd h (Nat.lt_irrefl _), fun k _ h => absurd h (Nat.not_lt_zero _)⟩
theorem TP.step {i : Nat} {us : List Int} {cs ss : List Nat} (t : TP i us cs ss) (hi : i < 7) {j c : Nat} {u : Int} (hc : ss[j]? = some c) (h0 : i = 0 → u = -1) (h1 : 0 < i → 0 ≤ u ∧ u < i) : TP (i + 1) (us ++ [u]) (cs ++ [c]) (ss.eraseIdx j) := by
  have hj : j < ss.length := by
    rcases Nat.lt_or_ge j ss.length with h | h
    · exact h
    · rw [List.getElem?_eq_none h] at hc; cases hc
  have hcj : ss[j] = c := by rw [List.getElem?_eq_getElem hj] at hc; exact Option.some.inj hc
  have p : (ss ++ cs).Perm (ss.eraseIdx j ++ (cs ++ [c])) := by
    have p1 : ss.Perm (c :: ss.eraseIdx j) := by
      rw [List.eraseIdx_eq_take_drop_succ]
      have e : ss = ss.take j ++ ss[j] :: ss.drop (j + 1) := by rw [← List.drop_eq_getElem_cons hj, List.take_append_drop]
      conv => lhs; rw [e, hcj]
      exact List.perm_middle
    refine (p1.append_right cs).trans ?_
    rw [List.cons_append]
    refine (List.perm_append_singleton c (ss.eraseIdx j ++ cs)).symm.trans ?_
    rw [List.append_assoc]
  have gu : ∀ k : Nat, k < i → ug (us ++ [u]) k = ug us k := fun k hk => by
    unfold ug
    rw [List.getD_eq_getElem?_getD, List.getD_eq_getElem?_getD, List.getElem?_append_left (by rw [t.lu]; exact hk)]
  have gi : ug (us ++ [u]) i = u := by
    unfold ug
    rw [List.getD_eq_getElem?_getD, List.getElem?_append_right (by rw [t.lu]; exact Nat.le_refl _), t.lu, Nat.sub_self]
    rfl
  refine ⟨by simp [t.lu], by simp [t.lc], ?_, p.nodup_iff.mp t.nd, fun d hd => t.sub d (p.mem_iff.mpr hd), fun _ => ?_, fun k hk hk' => ?_⟩
  · rw [List.length_eraseIdx_of_lt hj, t.ls]; omega
  · rcases Nat.eq_zero_or_pos i with h | h
    · subst h; rw [gi]; exact h0 rfl
    · rw [gu 0 h]; exact t.root h
  · rcases Nat.lt_or_ge k i with h | h
    · rw [gu k h]; exact t.up k hk h
    · have e : k = i := by omega
      subst e
      rw [gi]; exact h1 hk
theorem TP.tree {us : List Int} {cs ss : List Nat} (t : TP 7 us cs ss) : TreeOk us cs := by
  refine ⟨t.lu, t.lc, fun k h0 h1 => t.up k h0 h1, by rw [t.root (by decide)]; decide, fun i j hi hj e => ?_, fun c hc => ?_⟩
  · have nd := (List.nodup_append.mp t.nd).2.1
    have hi' : i < cs.length := by rw [t.lc]; exact hi
    have hj' : j < cs.length := by rw [t.lc]; exact hj
    have ei : cg cs i = cs[i] := by simp [cg, hi']
    have ej : cg cs j = cs[j] := by simp [cg, hj']
    rw [ei, ej] at e
    rcases Nat.lt_trichotomy i j with h | h | h
    · exact absurd e (List.pairwise_iff_getElem.mp nd i j hi' hj' h)
    · exact h
    · exact absurd e.symm (List.pairwise_iff_getElem.mp nd j i hj' hi' h)
  · have := t.sub c (List.mem_append_right _ hc)
    simpa [signs] using this
theorem All2.erase {f : Nat → Cell} : ∀ {sv : List Value} {ss : List Nat}, All2 CellV sv (ss.map f) → ∀ j : Nat, All2 CellV (sv.eraseIdx j) ((ss.eraseIdx j).map f)
  | _, [], .nil, _ => .nil
  | _, _ :: _, .cons _ h, 0 => h
  | _, _ :: _, .cons a h, j + 1 => .cons a (All2.erase h j)
theorem three_names' {x₁ x₂ x₃ : Str} {a b c v0 v1 v2 : Option Value} {m0 : Str → Option Value} : (fun y => if y = x₁ then v0 else if y = x₂ then v1 else if y = x₃ then v2 else (fun y => if y = x₁ then a else if y = x₂ then b else if y = x₃ then c else m0 y) y) = fun y => if y = x₁ then v0 else if y = x₂ then v1 else if y = x₃ then v2 else m0 y := by
  funext y
  by_cases h1 : y = x₁
  · rw [if_pos h1, if_pos h1]
  rw [if_neg h1, if_neg h1]
  by_cases h2 : y = x₂
  · rw [if_pos h2, if_pos h2]
  rw [if_neg h2, if_neg h2]
  by_cases h3 : y = x₃
  · rw [if_pos h3, if_pos h3]
  rw [if_neg h3, if_neg h3]
  show (if y = x₁ then a else if y = x₂ then b else if y = x₃ then c else m0 y) = _
  rw [if_neg h1, if_neg h2, if_neg h3]
theorem two_names' {x₁ x₂ : Str} {a b v0 v1 : Option Value} {m0 : Str → Option Value} : (fun y => if y = x₂ then v1 else if y = x₁ then v0 else (fun y => if y = x₂ then a else if y = x₁ then b else m0 y) y) = fun y => if y = x₂ then v1 else if y = x₁ then v0 else m0 y := by
  funext y
  by_cases h1 : y = x₂
  · rw [if_pos h1, if_pos h1]
  rw [if_neg h1, if_neg h1]
  by_cases h2 : y = x₁
  · rw [if_pos h2, if_pos h2]
  rw [if_neg h2, if_neg h2]
  show (if y = x₂ then a else if y = x₁ then b else m0 y) = _
  rw [if_neg h1, if_neg h2]
section
local macro_rules | `(tactic| walk_at "exec For") => `(tactic| (k_here; refine For_at ?_))
local macro_rules | `(tactic| walk_at "exec For Name Call") => `(tactic| (k_here; refine For_at ?_ (by with_unfolding_all (intro _; rfl))))
local macro_rules | `(tactic| walk_at "exec For Name Call cons nil") => `(tactic| (k_here; refine For_at ?_ (by with_unfolding_all (intro _; rfl))))
local macro_rules | `(tactic| walk_at "setItem ref int") => `(tactic| walk_at "mine.stop")
local macro_rules | `(tactic| walk_at "call builtin:list.pop") => `(tactic| walk_at "mine.stop")
local macro_rules | `(tactic| walk_at "call builtin:list.append") => `(tactic| walk_at "mine.stop")
local macro_rules | `(tactic| walk_at "exec For Tuple Call") => `(tactic| (k_here; refine For_at ?_ (by with_unfolding_all (intro _; rfl))))
local macro_rules | `(tactic| walk_at "call type:enumerate") => `(tactic| walk_at "mine.stop")
theorem tree_spec (w : World) (dp un : Nat) (fr : Option (List Env)) (gd : Option (List Code)) (s : Shared) (sc : Addr) (vs : List Value) (ns : List Int)
   (Q E : Value → Shared → Prop) (hdp : dp < 800) (hun : un < 8000) (G : Gd w s.heap) (hL : s.heap.IsList sc vs.toArray) (hI : IntsAre vs ns) (hlen : ¬ 63 < ns.length)
   (hQ : ∀ T n0 up uv n1 nm nv n2 tot tt us cs tl h' tk', Kp s.heap h' → New s.heap h' tl → (T, tupO [.ref up, .ref nm, .int tot tt] n0) ∈ tl → (up, lstO uv n1) ∈ tl → (nm, lstO nv n2) ∈ tl → All2 CellV uv (us.map Cell.i) → All2 CellV nv (cs.map fun c => Cell.s (sg c)) → TreeOk us cs → Q (.ref T) { s with heap := h', toks := tk' }) :
   wpAny (model PySem.Challenge.rw_xo0006_01.row.prog w) (AR dp fr gd un) (call (.ref 136) [.ref sc]) Q E s := by
  ((have hX0 : (hd.heap_39 w.params).In s.heap := G.1); revert hX0; k_fill; intro hX0; obtain ⟨mean, mg, mb, T0⟩ := G.2)
  refine wpAny_call ?_
  refine' codeF (binds := [(Str.ofString "script", .ref sc)]) hX0 T0 ?k6 ?k7 ?k8 ?k9 ?kB ?c2 ?c3 ?c4 ?c5 ?_
  ((case k6 => k_is); (case k7 => k_is); (case k8 => (simp only [recursionLimit]; omega)); (case k9 => first | exact BindsTo.of_eq rfl | exact binds_K (by k_in) rfl (by k_is) rfl rfl rfl); (case kB => exact locs rfl); (case c2 => decide); (case c3 => exact rfl); (case c4 => exact rfl); (case c5 => exact rfl); k_whole)
  intro L' h' F' N'
  dsimp only
  k_fold
  k_steps
  rename_i tk1 l1 h1 ht h2 D2 ws h3 F3 N3 hI3 hC3 hL3 lt3
  refine Stop.mk' ?_
  obtain ⟨m0, F4, hm0⟩ : ∃ m0, Fr s.heap L' h3 m0 ∧ m0 = _ := ⟨_, F3, rfl⟩
  have N4 : News s.heap L' h3 [(l1, lstO [Value.int 1 tk1, Value.int 5 (tk1 + 1), Value.int 4 (tk1 + 1 + 1), Value.int 1 (tk1 + 1 + 1 + 1), Value.int 2 (tk1 + 1 + 1 + 1 + 1), Value.int 11 (tk1 + 1 + 1 + 1 + 1 + 1), Value.int 18 (tk1 + 1 + 1 + 1 + 1 + 1 + 1)] 0), (D2, lstO ws 0)] := News.sub N3 fun p hp => by
    (revert hp; revert p; walk_at "mine.sub")
  clear F3 N3
  refine for_enum (vs := ws) (n := 0) (J := fun i m₁ news₁ => ∃ a b cvs cs n, (m₁ = fun y => if y = Str.ofString "x" then a else if y = Str.ofString "place" then b else m0 y) ∧ news₁ = [(l1, lstO cvs n), (D2, lstO ws 0)] ∧ IntsAre cvs cs ∧ cs.length = 7) rfl rfl rfl rfl F4 N4 ?h0 ?src ?turn ?done ?hE
  case hE => passes_own
  all_goals subst hm0
  case h0 =>
    refine ⟨none, none, _, [1, 5, 4, 1, 2, 11, 18], 0, ?_, rfl, ?_, rfl⟩
    · funext y
      by_cases h1 : y = Str.ofString "x"
      · subst h1; rfl
      by_cases h2 : y = Str.ofString "place"
      · subst h2; rfl
      rw [if_neg h1, if_neg h2]
    · repeat constructor
  case src => rintro i m₁ news₁ ⟨a, b, cvs, cs, n, rfl, rfl, h1, h2⟩; exact .tail _ (.head _)
  case turn =>
    rintro i v tk m₁ news₁ I K oI oK h tk' hi hv ⟨a, b, cvs, cs, n, rfl, rfl, hcv, hcs⟩ off hIK F5 N5
    obtain ⟨x, tx, rfl, hx⟩ := IntsAre.at hI3 i v hv
    k_steps
    refine Stop.mk' ?_
    have o1 := off _ (.head _)
    have U : ∀ tt, Upd l1 (W.listOf cvs.toArray n) (W.listOf (cvs.set ((i : Int).fmod 7).toNat (.int (cs.getD ((i : Int).fmod 7).toNat 0 + x) tt)).toArray n) ((I, oI) :: (K, oK) :: [(l1, lstO cvs n), (D2, lstO ws 0)]) ((I, oI) :: (K, oK) :: [(l1, lstO (cvs.set ((i : Int).fmod 7).toNat (.int (cs.getD ((i : Int).fmod 7).toNat 0 + x) tt)) n), (D2, lstO ws 0)]) := by
      intro tt
      refine .tail (Ne.symm o1.1) (.tail (Ne.symm o1.2) (.head fun p hp => ?_))
      rw [List.mem_singleton.mp hp]; exact Nat.ne_of_gt lt3
    refine ksa_set F5 N5 (U _) hcv (fmod_lo _ (by decide)) (by rw [hcs]; exact fmod_hi _ (by decide)) (Int.lt_of_lt_of_le (fmod_hi _ (by decide)) (by decide)) fun h6 F6 N6 hcv6 hcs6 _ => ?_
    k_steps
    refine LEnd2.intro F6 N6 _ (fun p hp => hp) (fun p hp => ?_) ⟨some (.int x tx), some (.int (i : Int) tk), _, _, n, two_names', rfl, hcv6, hcs6.trans hcs⟩
    · rcases List.mem_cons.mp hp with rfl | hp
      · exact o1
      · exact off p (.tail _ hp)
  case done =>
    rintro m₁ news₁ h tk ⟨a, b, cvs, cs, n, rfl, rfl, hcv, hcs⟩ F5 N5
    dsimp only
    k_steps
    rename_i sl hs Fs Ns e1 e2 t0 up e5 e6 nm e8 e9 e10 e11 e12 e13 e14 e15 e16 e17 e18 e19 e20 e21 e22 e23 hrg F6 N6 hk6
    obtain ⟨m0, F7, hm0⟩ : ∃ m0, Fr s.heap L' e19 m0 ∧ m0 = _ := ⟨_, F6, rfl⟩
    obtain ⟨sv0, z0, hsv0⟩ : ∃ sv0, (e19.get? sl = some (lstO sv0 0) ∧ sl ≠ L' ∧ s.heap.get? sl = none) ∧ All2 CellV sv0 (signs.map fun c => Cell.s (sg c)) :=
      ⟨_, N6 _ (.tail _ (.tail _ (.tail _ (.head _)))), .cons (.s _ _) (.cons (.s _ _) (.cons (.s _ _) (.cons (.s _ _) (.cons (.s _ _) (.cons (.s _ _) (.cons (.s _ _) (.cons (.s _ _) (.cons (.s _ _) .nil))))))))⟩
    have N7 : News s.heap L' e19 [(sl, lstO sv0 0), (up, lstO [] 0), (nm, lstO [] 0), (l1, lstO cvs n)] := fun p hp => by
      simp only [List.mem_cons, List.not_mem_nil, or_false] at hp
      rcases hp with rfl | rfl | rfl | rfl
      · exact z0
      · exact N6 _ (.tail _ (.tail _ (.head _)))
      · exact N6 _ (.tail _ (.head _))
      · exact N6 _ (.tail _ (.tail _ (.tail _ (.tail _ (.head _)))))
    clear F6 N6 Fs Ns
    refine for_range (n := 7) (J := fun i m₁ news₁ => ∃ c0 c1 tot tt sv n1 uv n2 nv n3 us cs' ss, (m₁ = fun y => if y = Str.ofString "total" then some (Value.int tot tt) else if y = Str.ofString "cell" then c0 else if y = Str.ofString "node" then c1 else m0 y) ∧
      news₁ = [(sl, lstO sv n1), (up, lstO uv n2), (nm, lstO nv n3), (l1, lstO cvs n)] ∧ All2 CellV sv (ss.map fun c => Cell.s (sg c)) ∧ All2 CellV uv (us.map Cell.i) ∧ All2 CellV nv (cs'.map fun c => Cell.s (sg c)) ∧ TP i us cs' ss) rfl rfl rfl F7 N7 ?h0 hrg (by decide) (by decide) ?turn ?done ?hE
    case hE => passes_own
    all_goals subst hm0
    case h0 =>
      refine ⟨none, none, 0, t0, _, _, _, _, _, _, [], [], signs, ?_, rfl, hsv0, .nil, .nil, TP.start⟩
      funext y
      by_cases h1 : y = Str.ofString "total"
      · subst h1; rfl
      by_cases h2 : y = Str.ofString "cell"
      · subst h2; rfl
      by_cases h3 : y = Str.ofString "node"
      · subst h3; rfl
      simp only [if_neg h1, if_neg h2, if_neg h3]
    case turn =>
      rintro i tk m₁ news₁ I oI h6 tk6 hi ⟨c0, c1, tot, tt, sv, n1, uv, n2, nv, n3, us, cs', ss, rfl, rfl, hsv, huv, hnv, tp⟩ off F8 N8
      have N9 : News s.heap L' h6 [(I, oI), (sl, lstO sv n1), (up, lstO uv n2), (nm, lstO nv n3), (l1, W.listOf cvs.toArray n)] := N8
      clear N8
      have d1 : sl ≠ up := Nat.ne_of_lt e6.1
      have d2 : sl ≠ nm := Nat.ne_of_lt e9.2.1
      have d3 : up ≠ nm := Nat.ne_of_lt e9.1
      have d4 : l1 ≠ sl := Nat.ne_of_lt e1.1
      have d5 : l1 ≠ up := Nat.ne_of_lt e6.2.1
      have d6 : l1 ≠ nm := Nat.ne_of_lt e9.2.2.1
      have i1 := off _ (.head _)
      have i2 := off _ (.tail _ (.head _))
      have i3 := off _ (.tail _ (.tail _ (.head _)))
      have i4 := off _ (.tail _ (.tail _ (.tail _ (.head _))))
      have hul : uv.length = i := by rw [huv.length, List.length_map]; exact tp.lu
      have hnl : nv.length = i := by rw [hnv.length, List.length_map]; exact tp.lc
      have hsl : sv.length = 9 - i := by rw [hsv.length, List.length_map]; exact tp.ls
      k_steps
      all_goals
        refine Stop.mk' ?_
        rename Fr _ _ _ _ => FA
        rename News _ _ _ _ => NA
        refine append_top (vs := uv) (n := n2) (news := [(I, oI), (sl, lstO sv n1), (nm, lstO nv n3), (l1, W.listOf cvs.toArray n)]) FA (News.sub NA fun p hp => ?_) (fun p hp => ?_) (by rw [sizeLine_eq]; omega) fun n4 h7 FB NB => ?_
        · (revert hp; revert p; walk_at "mine.sub")
        · simp only [List.mem_cons, List.not_mem_nil, or_false] at hp
          rcases hp with h | h | h | h <;> rw [h]
          · exact Ne.symm i2
          · exact d1
          · exact Ne.symm d3
          · exact d5
        obtain ⟨uv2, NB2, v2, u2, tu2, huv2, hv2, hu0, hu1⟩ : ∃ uv2, News s.heap L' h7 ((up, lstO uv2 n4) :: [(I, oI), (sl, lstO sv n1), (nm, lstO nv n3), (l1, W.listOf cvs.toArray n)]) ∧ ∃ (v : Value) (u : Int) (t : PySem.Tok), uv2 = uv ++ [v] ∧ v = .int u t ∧ (i = 0 → u = -1) ∧ (0 < i → 0 ≤ u ∧ u < i) := by
          refine ⟨_, NB, _, _, _, rfl, rfl, ?_, ?_⟩
          · intro hi0
            first | rfl | (exfalso; omega)
          · intro hi1
            first | (exfalso; omega) | exact ⟨fmod_lo _ (by omega), fmod_hi _ (by omega)⟩
        have hUU : All2 CellV uv2 ((us ++ [u2]).map Cell.i) := by
          rw [huv2, hv2, List.map_append]; exact huv.snoc (.i _ _)
        clear huv2 hv2 NB FA NA
        k_steps
        rename Fr _ _ _ _ => FC
        rename News _ _ _ _ => NC
        refine kun_lenL (k := 9 - (i : Int)) ⟨_, (NC _ (.tail _ (.tail _ (.head _)))).1, rfl, n1, rfl⟩ (by rw [List.size_toArray]; omega) (by omega) ?_
        have h9 : (0 : Int) < 9 - (i : Int) := by omega
        k_steps
        refine Stop.mk' ?_
        refine pop_top (vs := sv) (n := n1) (news := [(up, lstO uv2 n4), (I, oI), (nm, lstO nv n3), (l1, W.listOf cvs.toArray n)]) FC (News.sub NC fun p hp => ?_) (fun p hp => ?_) (fmod_lo _ h9) (by rw [hsl, show ((9 - i : Nat) : Int) = 9 - (i : Int) by omega]; exact fmod_hi _ h9) (by omega) fun y n5 h8 hy FD ND => ?_
        · simp only [List.mem_cons, List.not_mem_nil, or_false] at hp ⊢
          rcases hp with h | h | h | h | h
          · exact .inr (.inr (.inl h))
          · exact .inl h
          · exact .inr (.inl h)
          · exact .inr (.inr (.inr (.inl h)))
          · exact .inr (.inr (.inr (.inr h)))
        · simp only [List.mem_cons, List.not_mem_nil, or_false] at hp
          rcases hp with h | h | h | h <;> rw [h]
          · exact Ne.symm d1
          · exact Ne.symm i1
          · exact Ne.symm d2
          · exact d4
        clear FC NC
        k_steps
        refine Stop.mk' ?_
        generalize hj : (((((cs.getD (i : Int).toNat 0).fmod (10 ^ Int.toNat 6)).fdiv (if (i : Int) > 1 then (i : Int) else 1)).fmod (9 - (i : Int))).toNat) = j at hy ND
        obtain ⟨c1', hc1, hyc⟩ := hsv.getL hy
        rw [List.getElem?_map] at hc1
        obtain ⟨c, hcj, rfl⟩ := Option.map_eq_some_iff.mp hc1
        refine append_top (vs := nv) (n := n3) (news := [(sl, lstO (sv.eraseIdx j) n5), (up, lstO uv2 n4), (I, oI), (l1, W.listOf cvs.toArray n)]) FD (News.sub ND fun p hp => ?_) (fun p hp => ?_) (by rw [sizeLine_eq]; omega) fun n6 h9 FE NE => ?_
        · simp only [List.mem_cons, List.not_mem_nil, or_false] at hp ⊢
          rcases hp with h | h | h | h | h
          · exact .inr (.inr (.inr (.inl h)))
          · exact .inl h
          · exact .inr (.inl h)
          · exact .inr (.inr (.inl h))
          · exact .inr (.inr (.inr (.inr h)))
        · simp only [List.mem_cons, List.not_mem_nil, or_false] at hp
          rcases hp with h | h | h | h <;> rw [h]
          · exact d2
          · exact d3
          · exact Ne.symm i3
          · exact d6
        clear FD ND
        k_steps
        refine LEnd.intro FE NE [(sl, lstO (sv.eraseIdx j) n5), (up, lstO uv2 n4), (nm, lstO (nv ++ [y]) n6), (l1, lstO cvs n)] (fun p hp => ?_) (fun p hp => ?_)
          ⟨_, _, _, _, sv.eraseIdx j, n5, uv2, n4, nv ++ [y], n6, us ++ [u2], cs' ++ [c], ss.eraseIdx j, three_names', rfl, All2.erase hsv j, hUU, ?_, tp.step hi hcj hu0 hu1⟩
        · simp only [List.mem_cons, List.not_mem_nil, or_false] at hp ⊢
          rcases hp with h | h | h | h | h
          · exact .inr (.inr (.inr (.inl h)))
          · exact .inr (.inl h)
          · exact .inr (.inr (.inl h))
          · exact .inl h
          · exact .inr (.inr (.inr (.inr h)))
        · simp only [List.mem_cons, List.not_mem_nil, or_false] at hp
          rcases hp with h | h | h | h <;> rw [h]
          · exact i1
          · exact i2
          · exact i3
          · exact i4
        · rw [List.map_append]; exact hnv.snoc hyc
    case done =>
      rintro m₁ news₁ h6 tk6 ⟨c0, c1, tot, tt, sv, n1, uv, n2, nv, n3, us, cs', ss, rfl, rfl, hsv, huv, hnv, tp⟩ F8 N8
      dsimp only
      k_steps
      rename_i T hT FT NT ltT
      show Q (.ref T) _
      exact hQ T 0 up uv n2 nm nv n3 tot tt us cs' _ hT _ (fun b o e => FT.keep b o e) (New.of NT) (.head _) (.tail _ (.tail _ (.head _))) (.tail _ (.tail _ (.tail _ (.head _)))) huv hnv tp.tree
end
end
section
set_option maxRecDepth 100000
set_option maxHeartbeats 8000000
theorem fresh_Ppv : True := by (w_top off; trivial)
theorem one_name' {x₁ : Str} {a v0 : Option Value} {m0 : Str → Option Value} : (fun y => if y = x₁ then v0 else (fun y => if y = x₁ then a else m0 y) y) = fun y => if y = x₁ then v0 else m0 y := by
  funext y
  by_cases h1 : y = x₁
  · rw [if_pos h1, if_pos h1]
  · rw [if_neg h1, if_neg h1]
    show (if y = x₁ then a else m0 y) = _
    rw [if_neg h1]
theorem one_name2 {x₁ : Str} {a v0 v1 : Option Value} {m0 : Str → Option Value} : (fun y => if y = x₁ then v0 else if y = x₁ then v1 else (fun y => if y = x₁ then a else m0 y) y) = fun y => if y = x₁ then v0 else m0 y := by
  funext y
  by_cases h1 : y = x₁
  · rw [if_pos h1, if_pos h1]
  · rw [if_neg h1, if_neg h1, if_neg h1]
    show (if y = x₁ then a else m0 y) = _
    rw [if_neg h1]
section
local macro_rules | `(tactic| walk_at "exec For") => `(tactic| (k_here; refine For_at ?_ (by with_unfolding_all (intro _; rfl))))
set_option hygiene false in
local macro_rules | `(tactic| walk_at "subscriptTail") => `(tactic| (k_here; (have hturn2 := hturn); clear hturn2; refine Stop.out ?_))
local macro_rules | `(tactic| walk_at "call builtin:list.append") => `(tactic| walk_at "mine.stop")
theorem ppv_spec (w : World) (dp un : Nat) (fr : Option (List Env)) (gd : Option (List Code)) (s : Shared) (sl : Addr) (vs : List Value) (bs : List (List Nat))
   (Q E : Value → Shared → Prop) (hdp : dp < 800) (hun : un < 8000) (G : Gd w s.heap) (hL : s.heap.IsList sl vs.toArray) (hlen : vs.length ≤ 1000)
   (hbl : ∀ b ∈ bs, b.length ≤ 100)
   (hT : ∀ (i : Nat) (v : Value), vs[i]? = some v → ∃ T v0 b tb, v = Value.ref T ∧ bs[i]? = some b ∧ IsTup s.heap T #[v0, .str (wy b) tb])
   (hQ : ∀ D ys n tl h' tk', Kp s.heap h' → New s.heap h' tl → (D, lstO ys n) ∈ tl → ys.length = vs.length → (∀ (k : Nat) (v : Value) (b : List Nat), vs[k]? = some v → bs[k]? = some b → ∃ y, ys[k]? = some y ∧ (if 91 ∈ b then TupAt tl y [.s Str.empty, .s Str.empty] else y = v)) → Q (.ref D) { s with heap := h', toks := tk' }) :
   wpAny (model PySem.Challenge.rw_xo0006_01.row.prog w) (AR dp fr gd un) (call (.ref 38) [.ref sl]) Q E s := by
  ((have hX0 : (hd.heap_39 w.params).In s.heap := G.1); revert hX0; k_fill; intro hX0; obtain ⟨mean, mg, mb, T0⟩ := G.2)
  refine wpAny_call ?_
  refine' codeF (binds := [(Str.ofString "parsed_email_header_tuples", .ref sl)]) hX0 T0 ?k6 ?k7 ?k8 ?k9 ?kB ?c2 ?c3 ?c4 ?c5 ?_
  ((case k6 => k_is); (case k7 => k_is); (case k8 => (simp only [recursionLimit]; omega)); (case k9 => first | exact BindsTo.of_eq rfl | exact binds_K (by k_in) rfl (by k_is) rfl rfl rfl); (case kB => exact locs rfl); (case c2 => decide); (case c3 => exact rfl); (case c4 => exact rfl); (case c5 => exact rfl); k_whole)
  intro L' h' F' N'
  dsimp only
  k_fold
  k_steps
  rename Fr _ _ _ _ => F1
  rename News _ _ _ _ => N1
  rename_i acc h1 ht h2
  have N2 : News s.heap L' h2 [(acc, lstO [] 0)] := N1
  obtain ⟨m0, F2, hm0⟩ : ∃ m0, Fr s.heap L' h2 m0 ∧ m0 = _ := ⟨_, F1, rfl⟩
  clear F1 N1
  refine for_name (its := vs.toArray) (J := fun i m₁ news₁ => ∃ a ys n tl, (m₁ = fun y => if y = Str.ofString "v" then a else m0 y) ∧ news₁ = (acc, lstO ys n) :: tl ∧ (∀ p ∈ tl, p.1 ≠ acc) ∧ ys.length = i ∧ ∀ (k : Nat) (v : Value) (b : List Nat), k < i → vs[k]? = some v → bs[k]? = some b → ∃ y, ys[k]? = some y ∧ (if 91 ∈ b then TupAt tl y [.s Str.empty, .s Str.empty] else y = v)) rfl rfl rfl F2 N2 ?h0 ?src ?turn ?done ?hE
  case hE => passes_own
  all_goals subst hm0
  case h0 =>
    refine ⟨none, [], 0, [], ?_, rfl, (fun p hp => by cases hp), rfl, fun k v b hk => absurd hk (Nat.not_lt_zero _)⟩
    funext y
    by_cases h1 : y = Str.ofString "v"
    · subst h1; rfl
    · simp only [if_neg h1]
  case src => exact fun i _ _ _ => .inl hL
  case turn =>
    rintro i v m₁ _ I oI h5 tk5 hi hv ho ⟨a, ys, n, tl, rfl, rfl, htl, hys, hall⟩ off5 F5 N5
    have hturn : True := trivial
    have off5' : ∀ (y : Value) (n' : Nat), ∀ p ∈ (acc, lstO (ys ++ [y]) n') :: tl, p.1 ≠ I := fun y n' p hp => by
      rcases List.mem_cons.mp hp with h | h
      · rw [h]; exact off5 (acc, lstO ys n) (.head _)
      · exact off5 p (.tail _ h)
    obtain ⟨T, v0, b, tb, rfl, hb, hTu⟩ := hT i v (by simpa using hv)
    k_steps
    refine Stop.mk' ?_
    refine item_tuple (j := 1) (x := .str (wy b) tb) (IsTup.keeps hTu F5.keep) (by decide) (by decide) rfl rfl ?_
    have hblen : (wy b).length ≤ 1000 := by
      show b.toArray.size ≤ 1000
      rw [List.size_toArray]
      exact Nat.le_trans (hbl b (List.mem_of_getElem? hb)) (by decide)
    have hocc : (!(Builtin.Str.occurrences (wy b) (Str.ofString "[") 0 (wy b).length 1).isEmpty) = decide (91 ∈ b) := StrLaws.found_one (wy b) 91
    have hi' : i < vs.length := by simpa using hi
    have hvi : vs[i]? = some (.ref T) := by simpa using hv
    k_steps
    · rename_i hq
      have h91 : 91 ∉ b := by
        intro h; rw [hq] at hocc; simp [h] at hocc
      refine Stop.mk' ?_
      refine append_top (vs := ys) (n := n) (news := (I, oI) :: tl) F5 (News.sub N5 fun p hp => ?_) (fun p hp => ?_) (by rw [sizeLine_eq]; omega) fun n' h7 F7 N7 => ?_
      · (revert hp; revert p; walk_at "mine.sub")
      · rcases List.mem_cons.mp hp with h | h
        · rw [h]; exact Ne.symm (off5 _ (.head _))
        · exact htl p h
      k_steps
      refine LEnd.intro F7 N7 ((acc, lstO (ys ++ [.ref T]) n') :: tl) (fun p hp => ?_) (off5' _ _) ⟨_, ys ++ [.ref T], n', tl, one_name', rfl, htl, by simp [hys], ?_⟩
      · (revert hp; revert p; walk_at "mine.sub")
      · intro k v2 b2 hk hv2 hb2
        rcases Nat.lt_or_ge k i with h | h
        · obtain ⟨y, hy, hy2⟩ := hall k v2 b2 h hv2 hb2
          refine ⟨y, ?_, hy2⟩
          rw [List.getElem?_append_left (by omega)]; exact hy
        · have e : k = i := by omega
          subst e
          rw [hb] at hb2; cases hb2
          rw [hvi] at hv2; cases hv2
          refine ⟨.ref T, ?_, ?_⟩
          · rw [List.getElem?_append_right (by omega), hys, Nat.sub_self]; rfl
          · rw [if_neg h91]
    · rename_i hq tke T2 hT2 FQ NQ lt2 hR F6 N6
      have h91 : 91 ∈ b := by
        rw [hq] at hocc
        exact of_decide_eq_true hocc.symm
      refine Stop.mk' ?_
      refine append_top (vs := ys) (n := n) (news := (I, oI) :: (T2, tupO [.str Str.empty tke, .str Str.empty (tke + 1)] 0) :: tl) F6 (News.sub N6 fun p hp => ?_) (fun p hp => ?_) (by rw [sizeLine_eq]; omega) fun n' h7 F7 N7 => ?_
      · simp only [List.mem_cons] at hp ⊢
        rcases hp with h | h | h | h
        · exact .inr (.inr (.inl h))
        · exact .inr (.inl h)
        · exact .inl h
        · exact .inr (.inr (.inr h))
      · rcases List.mem_cons.mp hp with h | hp
        · rw [h]; exact Ne.symm (off5 _ (.head _))
        rcases List.mem_cons.mp hp with h | h
        · rw [h]; exact Nat.ne_of_gt lt2.2.1
        · exact htl p h
      k_steps
      refine LEnd.intro F7 N7 ((acc, lstO (ys ++ [.ref T2]) n') :: (T2, tupO [.str Str.empty tke, .str Str.empty (tke + 1)] 0) :: tl) (fun p hp => ?_) (fun p hp => ?_) ⟨_, ys ++ [.ref T2], n', _, one_name2, rfl, (fun p hp => ?_), by simp [hys], ?_⟩
      · (revert hp; revert p; walk_at "mine.sub")
      · rcases List.mem_cons.mp hp with h | hp
        · rw [h]; exact off5 (acc, lstO ys n) (.head _)
        rcases List.mem_cons.mp hp with h | h
        · rw [h]; exact Nat.ne_of_gt lt2.1
        · exact off5 p (.tail _ h)
      · rcases List.mem_cons.mp hp with h | h
        · rw [h]; exact Nat.ne_of_gt lt2.2.1
        · exact htl p h
      · intro k v2 b2 hk hv2 hb2
        rcases Nat.lt_or_ge k i with h | h
        · obtain ⟨y, hy, hy2⟩ := hall k v2 b2 h hv2 hb2
          refine ⟨y, ?_, ?_⟩
          · rw [List.getElem?_append_left (by omega)]; exact hy
          · by_cases h3 : 91 ∈ b2
            · rw [if_pos h3] at hy2 ⊢; exact hy2.sub fun p hp => .tail _ hp
            · rw [if_neg h3] at hy2 ⊢; exact hy2
        · have e : k = i := by omega
          subst e
          rw [hb] at hb2; cases hb2
          rw [hvi] at hv2; cases hv2
          refine ⟨.ref T2, ?_, ?_⟩
          · rw [List.getElem?_append_right (by omega), hys, Nat.sub_self]; rfl
          · rw [if_pos h91]
            exact ⟨T2, _, 0, rfl, .head _, .cons (.s _ _) (.cons (.s _ _) .nil)⟩
  case done =>
    rintro m₁ _ h tk ⟨a, ys, n, tl, rfl, rfl, htl, hys, hall⟩ F5 N5
    dsimp only
    k_steps
    show Q (.ref acc) _
    have hsz : vs.toArray.size = vs.length := List.size_toArray ..
    exact hQ acc ys n _ h _ (fun b o e => F5.keep b o e) (New.of N5) (.head _) (hys.trans hsz) fun k v b hv hb => by
      obtain ⟨y, hy, hy2⟩ := hall k v b (by rw [hsz]; exact (List.getElem?_eq_some_iff.mp hv).1) hv hb
      refine ⟨y, hy, ?_⟩
      by_cases h3 : 91 ∈ b
      · rw [if_pos h3] at hy2 ⊢; exact hy2.sub fun p hp => .tail _ hp
      · rw [if_neg h3] at hy2 ⊢; exact hy2
end
end
section
set_option maxRecDepth 100000
set_option maxHeartbeats 8000000
theorem fresh_Qnm : True := by (w_top off; trivial)
section
variable {prog : Program} {w : World} {A : Around} {s : Shared} {K : Frag}
theorem codeFb {hb : Heap} {news : List (Addr × Obj)} {R : Result → Shared → Prop} {name qual : Str} {params : Arguments} {body : List Stmt} {scope : Scope} {dV kV doc pm cdv ct oc : Value} {an od : Option Addr} {osl : Array (Option Value)} {f : Addr} {args : Args} {binds : List (Str × Value)}
    {p : Program} {loose : List Str} {mean : ExcName → Option Value} {mg mb : Str → Option Value}
    (kb : Kp hb s.heap) (sz : hb.objs.size ≤ s.heap.objs.size) (Nb : ∀ q ∈ news, s.heap.get? q.1 = some q.2 ∧ hb.get? q.1 = none)
    (X : K.In s.heap) (T : Top p loose mean mg mb s.heap)
    (ho : K.lookup f = some ⟨oc, od, .func (fnOf name qual params body scope dV kV doc pm an cdv ct), osl⟩) (hcd : codeIn K cdv qual = true) (hroom : A.depth < recursionLimit)
    (hbind : BindsTo s (fnOf name qual params body scope dV kV doc pm an cdv ct) args binds) (hloc : ∀ y ∈ binds, scope.names.lookup y.1 = some .local)
    (hcell : ∀ x ∈ scope.names, x.2 ≠ .cell) (hco : scope.isCoroutine = false) (hgen : scope.isGenerator = false) (hk : scope.kind = .function)
    (h : ∀ L h₁, Fr hb L h₁ (fun y => binds.reverse.lookup y) → News hb L h₁ news → Kp s.heap h₁ →
      wpAny (model prog w) (A.deeper (envOf qual scope L f cdv)) (execs body (envOf qual scope L f cdv))
        (fun fl s' => R (.ok (.ret (match fl with | .ret v => v | _ => .none))) s') (fun _ _ => False)
        { s with heap := h₁, toks := s.toks + binds.length }) : codeAny (model prog w) A (.call (.ref f) args) R s := by
  refine codeAny_call_def (fd := fnOf name qual params body scope dV kV doc pm an cdv ct) (body := body) (binds := binds) hroom (X _ _ ho) rfl T.nolimit (codeRec_of X hcd) rfl hbind hcell hloc (fun h₁ hns hk₁ => ?_) hco hgen hk
  refine wpAny_mono (h _ h₁ ⟨hns, fun b o e => hk₁ b o (kb b o e), sz⟩ (fun q hq => ⟨hk₁ _ _ (Nb q hq).1, Nat.ne_of_lt (Heap.lt_size (Nb q hq).1), (Nb q hq).2⟩) hk₁) (fun _ _ x => x) fun _ _ x => x.elim
end
/-- the dict of a QName of that text -/
def TextIs (od : Obj) (x : Str) : Prop := ∃ (h : Int) (k t : PySem.Tok), od = dictOf [⟨h, .str (Str.ofString "text") k, .str x t⟩] 1
section
local macro_rules | `(tactic| walk_at "setAttr ref") => `(tactic| walk_at "mine.stop")
theorem set_text {A : Around} (w : World) (s : Shared) (z : Str) (tt : PySem.Tok) (h₀ : Heap) (L o dx : Addr) (m : Str → Option Value) (news : List (Addr × Obj)) (F : Fr h₀ L s.heap m) (N : News h₀ L s.heap ((o, instObj 125 dx) :: (dx, emptyDict) :: news))
   (Q : Unit → Shared → Prop) (E : Value → Shared → Prop) (G : Gd w h₀) (ne : dx < o) (nd : ∀ p ∈ news, p.1 ≠ dx)
   (hQ : ∀ od h', TextIs od z → Fr h₀ L h' m → News h₀ L h' ((o, instObj 125 dx) :: (dx, od) :: news) → Q () { s with heap := h', toks := s.toks + 2 }) :
   wpAny (model PySem.Challenge.rw_xo0006_01.row.prog w) A (setAttr (.ref o) "text" (.str z tt)) Q E s := by
  have hX1 : (hd.heap_39 w.params).In h₀ := G.1
  revert hX1
  k_fill
  intro hX1
  have U : ∀ (es : List DictEntry) (n : Nat), Upd dx (dictOf [] 0) (dictOf es n) ((o, instObj 125 dx) :: (dx, dictOf [] 0) :: news) ((o, instObj 125 dx) :: (dx, dictOf es n) :: news) := fun es n => .tail (Nat.ne_of_gt ne) (.head nd)
  refine' set_dict (es' := [⟨PyData.keyHash w.params (Str.ofString "text"), .str (Str.ofString "text") (s.toks + 1), .str z tt⟩]) (n' := 1) ?k1 ?k2 ?k3 ?k4 ?k5 ?k6 ?k7 ?k8 ?k9 ?k10 ?k11 (U _ _) ?k13 ?_
  case k1 => exact F
  case k2 => exact hX1
  case k3 => exact N
  case k4 => k_inst
  case k5 => exact rfl
  case k6 => k_is
  case k7 => k_is
  case k8 => k_is
  case k9 => k_is
  case k10 => k_get
  case k11 => exact rfl
  case k13 => exact Nat.le_of_ble_eq_true rfl
  exact fun h' F' N' => hQ _ h' ⟨_, _, _, rfl⟩ F' N'
theorem qn_make2 (w : World) (dp un : Nat) (fr : Option (List Env)) (gd : Option (List Code)) (s : Shared) (x y : Str) (t t' : PySem.Tok) (h₀ : Heap) (L : Addr) (m : Str → Option Value) (news : List (Addr × Obj)) (F : Fr h₀ L s.heap m) (N : News h₀ L s.heap news)
   (hx : x.length ≤ 100) (hy : y.length ≤ 100) (hy0 : 0 < y.length)
   (Q E : Value → Shared → Prop) (hdp : dp < 700) (hun : un < 8000) (G : Gd w h₀) 
   (hQ : ∀ o dx od h' tk', Fr h₀ L h' m → News h₀ L h' ((o, instObj 125 dx) :: (dx, od) :: news) → (∀ p ∈ news, p.1 < dx) → dx < o → TextIs od (Str.ofString "{" ++ x ++ Str.ofString "}" ++ y) → Q (.ref o) { s with heap := h', toks := tk' }) :
   wpAny (model PySem.Challenge.rw_xo0006_01.row.prog w) (AR dp fr gd un) (call (.ref 125) [.str x t, .str y t']) Q E s := by
  have hX1 : (hd.heap_39 w.params).In h₀ := G.1
  revert hX1
  k_fill
  intro hX1
  obtain ⟨mean, mg, mb, T1⟩ := G.2
  refine wpAny_call ?_
  refine' make_K (C := 125) F N (hX1.keeps F.keep) ?m1 ?m2 ?m3 ?_
  case m1 => k_is
  case m2 => k_is
  case m3 => k_is
  k_whole
  intro o dx h1 F1 N1 hlt hlt2
  obtain ⟨oL, esL, epL, hL1, hL2⟩ := id F1.ns
  have hL0 : h₀.get? L = none := Heap.get?_none_of_le F1.above
  have N2 : ∀ q ∈ (o, instObj 125 dx) :: (dx, emptyDict) :: (L, oL) :: news, h1.get? q.1 = some q.2 ∧ h₀.get? q.1 = none := fun q hq => by
    rcases List.mem_cons.mp hq with h | hq
    · exact ⟨(N1 q (h ▸ .head _)).1, (N1 q (h ▸ .head _)).2.2⟩
    rcases List.mem_cons.mp hq with h | hq
    · exact ⟨(N1 q (h ▸ .tail _ (.head _))).1, (N1 q (h ▸ .tail _ (.head _))).2.2⟩
    rcases List.mem_cons.mp hq with h | hq
    · rw [h]; exact ⟨hL1, hL0⟩
    · exact ⟨(N1 q (.tail _ (.tail _ hq))).1, (N1 q (.tail _ (.tail _ hq))).2.2⟩
  refine' codeFb (hb := h₀) (news := (o, instObj 125 dx) :: (dx, emptyDict) :: (L, oL) :: news) (binds := [(Str.ofString "self", .ref o), (Str.ofString "text_or_uri", .str x t), (Str.ofString "tag", .str y t')]) F1.keep (Nat.le_trans F1.above (Nat.le_of_lt F1.ns.lt)) N2 (hX1.keeps F1.keep) (T1.keeps F1.keep) ?k6 ?k7 ?k8 ?k9 ?kB ?c2 ?c3 ?c4 ?c5 ?_
  ((case k6 => k_is); (case k7 => k_is); (case k8 => first | (simp only [recursionLimit]; omega) | (simp only [depth_under_make, recursionLimit]; omega) | exact Nat.lt_trans (show _ < 700 from by assumption) (by decide)); (case k9 => first | exact BindsTo.of_eq rfl | exact binds_K (by k_in) rfl (by k_is) rfl rfl rfl); (case kB => exact locs rfl); (case c2 => decide); (case c3 => exact rfl); (case c4 => exact rfl); (case c5 => exact rfl); k_whole)
  intro L2 h2 F2 N3 K2
  clear K2
  dsimp only
  k_fold
  k_steps
  all_goals try (exfalso; omega)
  refine Stop.mk' ?_
  rename Fr _ _ _ _ => FA
  rename News _ _ _ _ => NA
  have ndx : ∀ p ∈ (L, oL) :: news, p.1 ≠ dx := fun p hp => by
    rcases List.mem_cons.mp hp with h | h
    · rw [h]; exact Ne.symm (N1 _ (.tail _ (.head _))).2.1
    · exact Nat.ne_of_lt (hlt p h)
  refine set_text w _ _ _ h₀ L2 o dx _ ((L, oL) :: news) FA NA _ _ G hlt2 ndx fun od h5 hod FB NB => ?_
  clear FA NA
  k_steps
  refine ⟨rfl, ?_⟩
  show Q (.ref o) _
  refine hQ o dx od h5 _ ⟨⟨oL, esL, epL, (NB _ (.tail _ (.tail _ (.head _)))).1, hL2⟩, FB.keep, F1.above⟩ (fun p hp => ?_) hlt hlt2 hod
  rcases List.mem_cons.mp hp with h | hp
  · rw [h]; exact ⟨(NB _ (.head _)).1, (N1 _ (.head _)).2⟩
  rcases List.mem_cons.mp hp with h | hp
  · rw [h]; exact ⟨(NB _ (.tail _ (.head _))).1, (N1 _ (.tail _ (.head _))).2⟩
  · exact ⟨(NB _ (.tail _ (.tail _ (.tail _ hp)))).1, (N1 _ (.tail _ (.tail _ hp))).2⟩
theorem qn_make1 (w : World) (dp un : Nat) (fr : Option (List Env)) (gd : Option (List Code)) (s : Shared) (x : Str) (t : PySem.Tok) (h₀ : Heap) (L : Addr) (m : Str → Option Value) (news : List (Addr × Obj)) (F : Fr h₀ L s.heap m) (N : News h₀ L s.heap news)
   (hx : x.length ≤ 200)
   (Q E : Value → Shared → Prop) (hdp : dp < 700) (hun : un < 8000) (G : Gd w h₀) 
   (hQ : ∀ o dx od h' tk', Fr h₀ L h' m → News h₀ L h' ((o, instObj 125 dx) :: (dx, od) :: news) → (∀ p ∈ news, p.1 < dx) → dx < o → TextIs od x → Q (.ref o) { s with heap := h', toks := tk' }) :
   wpAny (model PySem.Challenge.rw_xo0006_01.row.prog w) (AR dp fr gd un) (call (.ref 125) [.str x t]) Q E s := by
  have hX1 : (hd.heap_39 w.params).In h₀ := G.1
  revert hX1
  k_fill
  intro hX1
  obtain ⟨mean, mg, mb, T1⟩ := G.2
  refine wpAny_call ?_
  refine' make_K (C := 125) F N (hX1.keeps F.keep) ?m1 ?m2 ?m3 ?_
  case m1 => k_is
  case m2 => k_is
  case m3 => k_is
  k_whole
  intro o dx h1 F1 N1 hlt hlt2
  obtain ⟨oL, esL, epL, hL1, hL2⟩ := id F1.ns
  have hL0 : h₀.get? L = none := Heap.get?_none_of_le F1.above
  have N2 : ∀ q ∈ (o, instObj 125 dx) :: (dx, emptyDict) :: (L, oL) :: news, h1.get? q.1 = some q.2 ∧ h₀.get? q.1 = none := fun q hq => by
    rcases List.mem_cons.mp hq with h | hq
    · exact ⟨(N1 q (h ▸ .head _)).1, (N1 q (h ▸ .head _)).2.2⟩
    rcases List.mem_cons.mp hq with h | hq
    · exact ⟨(N1 q (h ▸ .tail _ (.head _))).1, (N1 q (h ▸ .tail _ (.head _))).2.2⟩
    rcases List.mem_cons.mp hq with h | hq
    · rw [h]; exact ⟨hL1, hL0⟩
    · exact ⟨(N1 q (.tail _ (.tail _ hq))).1, (N1 q (.tail _ (.tail _ hq))).2.2⟩
  refine' codeFb (hb := h₀) (news := (o, instObj 125 dx) :: (dx, emptyDict) :: (L, oL) :: news) (binds := [(Str.ofString "self", .ref o), (Str.ofString "text_or_uri", .str x t), (Str.ofString "tag", .none)]) F1.keep (Nat.le_trans F1.above (Nat.le_of_lt F1.ns.lt)) N2 (hX1.keeps F1.keep) (T1.keeps F1.keep) ?k6 ?k7 ?k8 ?k9 ?kB ?c2 ?c3 ?c4 ?c5 ?_
  ((case k6 => k_is); (case k7 => k_is); (case k8 => first | (simp only [recursionLimit]; omega) | (simp only [depth_under_make, recursionLimit]; omega) | exact Nat.lt_trans (show _ < 700 from by assumption) (by decide)); (case k9 => first | exact BindsTo.of_eq rfl | exact binds_K (by k_in) rfl (by k_is) rfl rfl rfl); (case kB => exact locs rfl); (case c2 => decide); (case c3 => exact rfl); (case c4 => exact rfl); (case c5 => exact rfl); k_whole)
  intro L2 h2 F2 N3 K2
  clear K2
  dsimp only
  k_fold
  k_steps
  all_goals try (exfalso; omega)
  refine Stop.mk' ?_
  rename Fr _ _ _ _ => FA
  rename News _ _ _ _ => NA
  have ndx : ∀ p ∈ (L, oL) :: news, p.1 ≠ dx := fun p hp => by
    rcases List.mem_cons.mp hp with h | h
    · rw [h]; exact Ne.symm (N1 _ (.tail _ (.head _))).2.1
    · exact Nat.ne_of_lt (hlt p h)
  refine set_text w _ _ _ h₀ L2 o dx _ ((L, oL) :: news) FA NA _ _ G hlt2 ndx fun od h5 hod FB NB => ?_
  clear FA NA
  k_steps
  refine ⟨rfl, ?_⟩
  show Q (.ref o) _
  refine hQ o dx od h5 _ ⟨⟨oL, esL, epL, (NB _ (.tail _ (.tail _ (.head _)))).1, hL2⟩, FB.keep, F1.above⟩ (fun p hp => ?_) hlt hlt2 hod
  rcases List.mem_cons.mp hp with h | hp
  · rw [h]; exact ⟨(NB _ (.head _)).1, (N1 _ (.head _)).2⟩
  rcases List.mem_cons.mp hp with h | hp
  · rw [h]; exact ⟨(NB _ (.tail _ (.head _))).1, (N1 _ (.tail _ (.head _))).2⟩
  · exact ⟨(NB _ (.tail _ (.tail _ (.tail _ hp)))).1, (N1 _ (.tail _ (.tail _ hp))).2⟩
end
end
section
set_option maxRecDepth 100000
set_option maxHeartbeats 8000000
theorem fresh_Qnc : True := by (w_top off; trivial)
section
theorem qn_ltc (w : World) (dp un : Nat) (fr : Option (List Env)) (gd : Option (List Code)) (s : Shared) (x y : Str) (a da b db : Addr) (oda odb : Obj) (h₀ : Heap) (L : Addr) (m : Str → Option Value) (news : List (Addr × Obj)) (F : Fr h₀ L s.heap m) (N : News h₀ L s.heap news)
   (ma : (a, instObj 125 da) ∈ news) (mda : (da, oda) ∈ news) (mb : (b, instObj 125 db) ∈ news) (mdb : (db, odb) ∈ news) (ta : TextIs oda x) (tb : TextIs odb y)
   (Q E : Value → Shared → Prop) (hdp : dp < 700) (hun : un < 8000) (G : Gd w h₀) 
   (hQ : ∀ h' tk', Kp s.heap h' → Q (.bool (decide (x.cps.toList < y.cps.toList))) { s with heap := h', toks := tk' }) :
   wpAny (model PySem.Challenge.rw_xo0006_01.row.prog w) (AR dp fr gd un) (call (.ref 101) [.ref a, .ref b]) Q E s := by
  have hX1 : (hd.heap_39 w.params).In h₀ := G.1
  revert hX1
  k_fill
  intro hX1
  obtain ⟨mean, mg, mb', T1⟩ := G.2
  obtain ⟨ha, ka, taa, rfl⟩ := ta
  obtain ⟨hb, kb, tbb, rfl⟩ := tb
  have N2 : News h₀ L s.heap [(a, instObj 125 da), (da, dictOf [⟨ha, .str (Str.ofString "text") ka, .str x taa⟩] 1), (b, instObj 125 db), (db, dictOf [⟨hb, .str (Str.ofString "text") kb, .str y tbb⟩] 1)] := fun p hp => by
    simp only [List.mem_cons, List.not_mem_nil, or_false] at hp
    rcases hp with rfl | rfl | rfl | rfl
    · exact N _ ma
    · exact N _ mda
    · exact N _ mb
    · exact N _ mdb
  clear N
  refine wpAny_call ?_
  refine' codeFb (hb := h₀) (news := [(a, instObj 125 da), (da, dictOf [⟨ha, .str (Str.ofString "text") ka, .str x taa⟩] 1), (b, instObj 125 db), (db, dictOf [⟨hb, .str (Str.ofString "text") kb, .str y tbb⟩] 1)]) (binds := [(Str.ofString "self", .ref a), (Str.ofString "other", .ref b)]) F.keep (Nat.le_trans F.above (Nat.le_of_lt F.ns.lt)) (fun q hq => ⟨(N2 q hq).1, (N2 q hq).2.2⟩) (hX1.keeps F.keep) (T1.keeps F.keep) ?k6 ?k7 ?k8 ?k9 ?kB ?c2 ?c3 ?c4 ?c5 ?_
  ((case k6 => k_is); (case k7 => k_is); (case k8 => first | (simp only [recursionLimit]; omega) | (simp only [depth_under_make, recursionLimit]; omega) | exact Nat.lt_trans (show _ < 700 from by assumption) (by decide)); (case k9 => first | exact BindsTo.of_eq rfl | exact binds_K (by k_in) rfl (by k_is) rfl rfl rfl); (case kB => exact locs rfl); (case c2 => decide); (case c3 => exact rfl); (case c4 => exact rfl); (case c5 => exact rfl); k_whole)
  intro L2 h2 F2 N3 K2
  dsimp only
  k_fold
  k_steps
  show Q (.bool (decide (x.cps.toList < y.cps.toList))) _
  exact hQ _ _ fun b o e => K2 b o e
theorem qn_lt (w : World) (dp un : Nat) (fr : Option (List Env)) (gd : Option (List Code)) (s : Shared) (x y : Str) (a da b db : Addr) (oda odb : Obj) (h₀ : Heap) (L : Addr) (m : Str → Option Value) (news : List (Addr × Obj)) (F : Fr h₀ L s.heap m) (N : News h₀ L s.heap news)
   (ma : (a, instObj 125 da) ∈ news) (mda : (da, oda) ∈ news) (mb : (b, instObj 125 db) ∈ news) (mdb : (db, odb) ∈ news) (ta : TextIs oda x) (tb : TextIs odb y)
   (Q E : Value → Shared → Prop) (hdp : dp < 700) (hun : un < 8000) (G : Gd w h₀) 
   (hQ : ∀ h' tk', Kp s.heap h' → Q (.bool (decide (x.cps.toList < y.cps.toList))) { s with heap := h', toks := tk' }) :
   wpAny (model PySem.Challenge.rw_xo0006_01.row.prog w) (AR dp fr gd un) (compareOp .Lt (.ref a) (.ref b)) Q E s := by
  have hX1 : (hd.heap_39 w.params).In h₀ := G.1
  revert hX1
  k_fill
  intro hX1
  obtain ⟨mean, mg, mb', T1⟩ := G.2
  obtain ⟨ha, ka, taa, rfl⟩ := ta
  obtain ⟨hb, kb, tbb, rfl⟩ := tb
  have N2 : News h₀ L s.heap [(a, instObj 125 da), (da, dictOf [⟨ha, .str (Str.ofString "text") ka, .str x taa⟩] 1), (b, instObj 125 db), (db, dictOf [⟨hb, .str (Str.ofString "text") kb, .str y tbb⟩] 1)] := fun p hp => by
    simp only [List.mem_cons, List.not_mem_nil, or_false] at hp
    rcases hp with rfl | rfl | rfl | rfl
    · exact N _ ma
    · exact N _ mda
    · exact N _ mb
    · exact N _ mdb
  clear N
  refine cmp_ofLt ?_
  refine' cmp_K (C := 125) (h₀ := h₀) (L := L) (m := m) ?k1 F hX1 ?k4 ?k5 ?k6 ?k7 ?k8 ?_
  case k1 => exact Nat.lt_of_lt_of_le hun (Nat.le_of_ble_eq_true rfl)
  case k4 => k_inst
  case k5 => k_typeOf
  case k6 => k_is
  case k7 => k_is
  case k8 => k_is
  k_whole
  refine wpAny_call ?_
  refine' codeFb (hb := h₀) (news := [(a, instObj 125 da), (da, dictOf [⟨ha, .str (Str.ofString "text") ka, .str x taa⟩] 1), (b, instObj 125 db), (db, dictOf [⟨hb, .str (Str.ofString "text") kb, .str y tbb⟩] 1)]) (binds := [(Str.ofString "self", .ref a), (Str.ofString "other", .ref b)]) F.keep (Nat.le_trans F.above (Nat.le_of_lt F.ns.lt)) (fun q hq => ⟨(N2 q hq).1, (N2 q hq).2.2⟩) (hX1.keeps F.keep) (T1.keeps F.keep) ?k6 ?k7 ?k8 ?k9 ?kB ?c2 ?c3 ?c4 ?c5 ?_
  ((case k6 => k_is); (case k7 => k_is); (case k8 => first | (simp only [recursionLimit]; omega) | (simp only [depth_under_make, recursionLimit]; omega) | exact Nat.lt_trans (show _ < 700 from by assumption) (by decide)); (case k9 => first | exact BindsTo.of_eq rfl | exact binds_K (by k_in) rfl (by k_is) rfl rfl rfl); (case kB => exact locs rfl); (case c2 => decide); (case c3 => exact rfl); (case c4 => exact rfl); (case c5 => exact rfl); k_whole)
  intro L2 h2 F2 N3 K2
  dsimp only
  k_fold
  k_steps
  show Q (.bool (decide (x.cps.toList < y.cps.toList))) _
  exact hQ _ _ fun b o e => K2 b o e
theorem qn_le (w : World) (dp un : Nat) (fr : Option (List Env)) (gd : Option (List Code)) (s : Shared) (x y : Str) (a da b db : Addr) (oda odb : Obj) (h₀ : Heap) (L : Addr) (m : Str → Option Value) (news : List (Addr × Obj)) (F : Fr h₀ L s.heap m) (N : News h₀ L s.heap news)
   (ma : (a, instObj 125 da) ∈ news) (mda : (da, oda) ∈ news) (mb : (b, instObj 125 db) ∈ news) (mdb : (db, odb) ∈ news) (ta : TextIs oda x) (tb : TextIs odb y)
   (Q E : Value → Shared → Prop) (hdp : dp < 700) (hun : un < 8000) (G : Gd w h₀) 
   (hQ : ∀ h' tk', Kp s.heap h' → Q (.bool (!decide (y.cps.toList < x.cps.toList))) { s with heap := h', toks := tk' }) :
   wpAny (model PySem.Challenge.rw_xo0006_01.row.prog w) (AR dp fr gd un) (compareOp .LtE (.ref a) (.ref b)) Q E s := by
  have hX1 : (hd.heap_39 w.params).In h₀ := G.1
  revert hX1
  k_fill
  intro hX1
  obtain ⟨mean, mg, mb', T1⟩ := G.2
  obtain ⟨ha, ka, taa, rfl⟩ := ta
  obtain ⟨hb, kb, tbb, rfl⟩ := tb
  have N2 : News h₀ L s.heap [(a, instObj 125 da), (da, dictOf [⟨ha, .str (Str.ofString "text") ka, .str x taa⟩] 1), (b, instObj 125 db), (db, dictOf [⟨hb, .str (Str.ofString "text") kb, .str y tbb⟩] 1)] := fun p hp => by
    simp only [List.mem_cons, List.not_mem_nil, or_false] at hp
    rcases hp with rfl | rfl | rfl | rfl
    · exact N _ ma
    · exact N _ mda
    · exact N _ mb
    · exact N _ mdb
  clear N
  refine cmp_ofLtE ?_
  refine' cmp_K (C := 125) (h₀ := h₀) (L := L) (m := m) ?k1 F hX1 ?k4 ?k5 ?k6 ?k7 ?k8 ?_
  case k1 => exact Nat.lt_of_lt_of_le hun (Nat.le_of_ble_eq_true rfl)
  case k4 => k_inst
  case k5 => k_typeOf
  case k6 => k_is
  case k7 => k_is
  case k8 => k_is
  k_whole
  refine wpAny_call ?_
  refine' codeFb (hb := h₀) (news := [(a, instObj 125 da), (da, dictOf [⟨ha, .str (Str.ofString "text") ka, .str x taa⟩] 1), (b, instObj 125 db), (db, dictOf [⟨hb, .str (Str.ofString "text") kb, .str y tbb⟩] 1)]) (binds := [(Str.ofString "self", .ref a), (Str.ofString "other", .ref b)]) F.keep (Nat.le_trans F.above (Nat.le_of_lt F.ns.lt)) (fun q hq => ⟨(N2 q hq).1, (N2 q hq).2.2⟩) (hX1.keeps F.keep) (T1.keeps F.keep) ?k6 ?k7 ?k8 ?k9 ?kB ?c2 ?c3 ?c4 ?c5 ?_
  ((case k6 => k_is); (case k7 => k_is); (case k8 => first | (simp only [recursionLimit]; omega) | (simp only [depth_under_make, recursionLimit]; omega) | exact Nat.lt_trans (show _ < 700 from by assumption) (by decide)); (case k9 => first | exact BindsTo.of_eq rfl | exact binds_K (by k_in) rfl (by k_is) rfl rfl rfl); (case kB => exact locs rfl); (case c2 => decide); (case c3 => exact rfl); (case c4 => exact rfl); (case c5 => exact rfl); k_whole)
  intro L2 h2 F2 N3 K2
  dsimp only
  k_fold
  k_steps
  show Q (.bool (!decide (y.cps.toList < x.cps.toList))) _
  exact hQ _ _ fun b o e => K2 b o e
theorem qn_eq (w : World) (dp un : Nat) (fr : Option (List Env)) (gd : Option (List Code)) (s : Shared) (x y : Str) (a da b db : Addr) (oda odb : Obj) (h₀ : Heap) (L : Addr) (m : Str → Option Value) (news : List (Addr × Obj)) (F : Fr h₀ L s.heap m) (N : News h₀ L s.heap news)
   (ma : (a, instObj 125 da) ∈ news) (mda : (da, oda) ∈ news) (mb : (b, instObj 125 db) ∈ news) (mdb : (db, odb) ∈ news) (ta : TextIs oda x) (tb : TextIs odb y)
   (Q E : Value → Shared → Prop) (hdp : dp < 700) (hun : un < 8000) (G : Gd w h₀) 
   (hQ : ∀ h' tk', Kp s.heap h' → Q (.bool (x == y)) { s with heap := h', toks := tk' }) :
   wpAny (model PySem.Challenge.rw_xo0006_01.row.prog w) (AR dp fr gd un) (compareOp .Eq (.ref a) (.ref b)) Q E s := by
  have hX1 : (hd.heap_39 w.params).In h₀ := G.1
  revert hX1
  k_fill
  intro hX1
  obtain ⟨mean, mg, mb', T1⟩ := G.2
  obtain ⟨ha, ka, taa, rfl⟩ := ta
  obtain ⟨hb, kb, tbb, rfl⟩ := tb
  have N2 : News h₀ L s.heap [(a, instObj 125 da), (da, dictOf [⟨ha, .str (Str.ofString "text") ka, .str x taa⟩] 1), (b, instObj 125 db), (db, dictOf [⟨hb, .str (Str.ofString "text") kb, .str y tbb⟩] 1)] := fun p hp => by
    simp only [List.mem_cons, List.not_mem_nil, or_false] at hp
    rcases hp with rfl | rfl | rfl | rfl
    · exact N _ ma
    · exact N _ mda
    · exact N _ mb
    · exact N _ mdb
  clear N
  refine cmp_ofEq ?_
  refine' cmp_K (C := 125) (h₀ := h₀) (L := L) (m := m) ?k1 F hX1 ?k4 ?k5 ?k6 ?k7 ?k8 ?_
  case k1 => exact Nat.lt_of_lt_of_le hun (Nat.le_of_ble_eq_true rfl)
  case k4 => k_inst
  case k5 => k_typeOf
  case k6 => k_is
  case k7 => k_is
  case k8 => k_is
  k_whole
  refine wpAny_call ?_
  refine' codeFb (hb := h₀) (news := [(a, instObj 125 da), (da, dictOf [⟨ha, .str (Str.ofString "text") ka, .str x taa⟩] 1), (b, instObj 125 db), (db, dictOf [⟨hb, .str (Str.ofString "text") kb, .str y tbb⟩] 1)]) (binds := [(Str.ofString "self", .ref a), (Str.ofString "other", .ref b)]) F.keep (Nat.le_trans F.above (Nat.le_of_lt F.ns.lt)) (fun q hq => ⟨(N2 q hq).1, (N2 q hq).2.2⟩) (hX1.keeps F.keep) (T1.keeps F.keep) ?k6 ?k7 ?k8 ?k9 ?kB ?c2 ?c3 ?c4 ?c5 ?_
  ((case k6 => k_is); (case k7 => k_is); (case k8 => first | (simp only [recursionLimit]; omega) | (simp only [depth_under_make, recursionLimit]; omega) | exact Nat.lt_trans (show _ < 700 from by assumption) (by decide)); (case k9 => first | exact BindsTo.of_eq rfl | exact binds_K (by k_in) rfl (by k_is) rfl rfl rfl); (case kB => exact locs rfl); (case c2 => decide); (case c3 => exact rfl); (case c4 => exact rfl); (case c5 => exact rfl); k_whole)
  intro L2 h2 F2 N3 K2
  dsimp only
  k_fold
  k_steps
  show Q (.bool (x == y)) _
  exact hQ _ _ fun b o e => K2 b o e
theorem qn_ge (w : World) (dp un : Nat) (fr : Option (List Env)) (gd : Option (List Code)) (s : Shared) (x y : Str) (a da b db : Addr) (oda odb : Obj) (h₀ : Heap) (L : Addr) (m : Str → Option Value) (news : List (Addr × Obj)) (F : Fr h₀ L s.heap m) (N : News h₀ L s.heap news)
   (ma : (a, instObj 125 da) ∈ news) (mda : (da, oda) ∈ news) (mb : (b, instObj 125 db) ∈ news) (mdb : (db, odb) ∈ news) (ta : TextIs oda x) (tb : TextIs odb y)
   (Q E : Value → Shared → Prop) (hdp : dp < 700) (hun : un < 8000) (G : Gd w h₀) 
   (hQ : ∀ h' tk', Kp s.heap h' → Q (.bool (!decide (x.cps.toList < y.cps.toList))) { s with heap := h', toks := tk' }) :
   wpAny (model PySem.Challenge.rw_xo0006_01.row.prog w) (AR dp fr gd un) (compareOp .GtE (.ref a) (.ref b)) Q E s := by
  have hX1 : (hd.heap_39 w.params).In h₀ := G.1
  revert hX1
  k_fill
  intro hX1
  obtain ⟨mean, mg, mb', T1⟩ := G.2
  obtain ⟨ha, ka, taa, rfl⟩ := ta
  obtain ⟨hb, kb, tbb, rfl⟩ := tb
  have N2 : News h₀ L s.heap [(a, instObj 125 da), (da, dictOf [⟨ha, .str (Str.ofString "text") ka, .str x taa⟩] 1), (b, instObj 125 db), (db, dictOf [⟨hb, .str (Str.ofString "text") kb, .str y tbb⟩] 1)] := fun p hp => by
    simp only [List.mem_cons, List.not_mem_nil, or_false] at hp
    rcases hp with rfl | rfl | rfl | rfl
    · exact N _ ma
    · exact N _ mda
    · exact N _ mb
    · exact N _ mdb
  clear N
  refine cmp_ofGtE ?_
  refine' cmp_K (C := 125) (h₀ := h₀) (L := L) (m := m) ?k1 F hX1 ?k4 ?k5 ?k6 ?k7 ?k8 ?_
  case k1 => exact Nat.lt_of_lt_of_le hun (Nat.le_of_ble_eq_true rfl)
  case k4 => k_inst
  case k5 => k_typeOf
  case k6 => k_is
  case k7 => k_is
  case k8 => k_is
  k_whole
  refine wpAny_call ?_
  refine' codeFb (hb := h₀) (news := [(a, instObj 125 da), (da, dictOf [⟨ha, .str (Str.ofString "text") ka, .str x taa⟩] 1), (b, instObj 125 db), (db, dictOf [⟨hb, .str (Str.ofString "text") kb, .str y tbb⟩] 1)]) (binds := [(Str.ofString "self", .ref a), (Str.ofString "other", .ref b)]) F.keep (Nat.le_trans F.above (Nat.le_of_lt F.ns.lt)) (fun q hq => ⟨(N2 q hq).1, (N2 q hq).2.2⟩) (hX1.keeps F.keep) (T1.keeps F.keep) ?k6 ?k7 ?k8 ?k9 ?kB ?c2 ?c3 ?c4 ?c5 ?_
  ((case k6 => k_is); (case k7 => k_is); (case k8 => first | (simp only [recursionLimit]; omega) | (simp only [depth_under_make, recursionLimit]; omega) | exact Nat.lt_trans (show _ < 700 from by assumption) (by decide)); (case k9 => first | exact BindsTo.of_eq rfl | exact binds_K (by k_in) rfl (by k_is) rfl rfl rfl); (case kB => exact locs rfl); (case c2 => decide); (case c3 => exact rfl); (case c4 => exact rfl); (case c5 => exact rfl); k_whole)
  intro L2 h2 F2 N3 K2
  dsimp only
  k_fold
  k_steps
  show Q (.bool (!decide (x.cps.toList < y.cps.toList))) _
  exact hQ _ _ fun b o e => K2 b o e
theorem qn_gt (w : World) (dp un : Nat) (fr : Option (List Env)) (gd : Option (List Code)) (s : Shared) (x y : Str) (a da b db : Addr) (oda odb : Obj) (h₀ : Heap) (L : Addr) (m : Str → Option Value) (news : List (Addr × Obj)) (F : Fr h₀ L s.heap m) (N : News h₀ L s.heap news)
   (ma : (a, instObj 125 da) ∈ news) (mda : (da, oda) ∈ news) (mb : (b, instObj 125 db) ∈ news) (mdb : (db, odb) ∈ news) (ta : TextIs oda x) (tb : TextIs odb y)
   (Q E : Value → Shared → Prop) (hdp : dp < 700) (hun : un < 8000) (G : Gd w h₀) 
   (hQ : ∀ h' tk', Kp s.heap h' → Q (.bool (decide (y.cps.toList < x.cps.toList))) { s with heap := h', toks := tk' }) :
   wpAny (model PySem.Challenge.rw_xo0006_01.row.prog w) (AR dp fr gd un) (compareOp .Gt (.ref a) (.ref b)) Q E s := by
  have hX1 : (hd.heap_39 w.params).In h₀ := G.1
  revert hX1
  k_fill
  intro hX1
  obtain ⟨mean, mg, mb', T1⟩ := G.2
  obtain ⟨ha, ka, taa, rfl⟩ := ta
  obtain ⟨hb, kb, tbb, rfl⟩ := tb
  have N2 : News h₀ L s.heap [(a, instObj 125 da), (da, dictOf [⟨ha, .str (Str.ofString "text") ka, .str x taa⟩] 1), (b, instObj 125 db), (db, dictOf [⟨hb, .str (Str.ofString "text") kb, .str y tbb⟩] 1)] := fun p hp => by
    simp only [List.mem_cons, List.not_mem_nil, or_false] at hp
    rcases hp with rfl | rfl | rfl | rfl
    · exact N _ ma
    · exact N _ mda
    · exact N _ mb
    · exact N _ mdb
  clear N
  refine cmp_ofGt ?_
  refine' cmp_K (C := 125) (h₀ := h₀) (L := L) (m := m) ?k1 F hX1 ?k4 ?k5 ?k6 ?k7 ?k8 ?_
  case k1 => exact Nat.lt_of_lt_of_le hun (Nat.le_of_ble_eq_true rfl)
  case k4 => k_inst
  case k5 => k_typeOf
  case k6 => k_is
  case k7 => k_is
  case k8 => k_is
  k_whole
  refine wpAny_call ?_
  refine' codeFb (hb := h₀) (news := [(a, instObj 125 da), (da, dictOf [⟨ha, .str (Str.ofString "text") ka, .str x taa⟩] 1), (b, instObj 125 db), (db, dictOf [⟨hb, .str (Str.ofString "text") kb, .str y tbb⟩] 1)]) (binds := [(Str.ofString "self", .ref a), (Str.ofString "other", .ref b)]) F.keep (Nat.le_trans F.above (Nat.le_of_lt F.ns.lt)) (fun q hq => ⟨(N2 q hq).1, (N2 q hq).2.2⟩) (hX1.keeps F.keep) (T1.keeps F.keep) ?k6 ?k7 ?k8 ?k9 ?kB ?c2 ?c3 ?c4 ?c5 ?_
  ((case k6 => k_is); (case k7 => k_is); (case k8 => first | (simp only [recursionLimit]; omega) | (simp only [depth_under_make, recursionLimit]; omega) | exact Nat.lt_trans (show _ < 700 from by assumption) (by decide)); (case k9 => first | exact BindsTo.of_eq rfl | exact binds_K (by k_in) rfl (by k_is) rfl rfl rfl); (case kB => exact locs rfl); (case c2 => decide); (case c3 => exact rfl); (case c4 => exact rfl); (case c5 => exact rfl); k_whole)
  intro L2 h2 F2 N3 K2
  dsimp only
  k_fold
  k_steps
  show Q (.bool (decide (y.cps.toList < x.cps.toList))) _
  exact hQ _ _ fun b o e => K2 b o e
end
end
section
set_option maxRecDepth 100000
set_option maxHeartbeats 8000000
theorem fresh_Qns : True := by (w_top off; trivial)
theorem sort6 : kOk 6 (fun i j => decide (j < i)) (kas_sort 6) = true ∧ (kRun (fun i j => decide (j < i)) (kas_sort 6)).toList = [5, 4, 3, 2, 1, 0] := by decide +kernel
/-- a QName of the ledger -/
def QnAt (news : List (Addr × Obj)) (v : Value) (x : Str) : Prop := ∃ a da oda, v = .ref a ∧ (a, instObj 125 da) ∈ news ∧ (da, oda) ∈ news ∧ TextIs oda x
theorem QnAt.sub {tl tl' : List (Addr × Obj)} {v : Value} {x : Str} (h : QnAt tl v x) (k : ∀ p ∈ tl, p ∈ tl') : QnAt tl' v x := by
  obtain ⟨a, da, oda, e, h1, h2, h3⟩ := h
  exact ⟨a, da, oda, e, k _ h1, k _ h2, h3⟩
theorem six_rev (vs : List Value) (h : vs.length = 6) : ([5, 4, 3, 2, 1, 0].map fun i => vs.getD i Value.none) = vs.reverse := by
  obtain ⟨a, l, rfl⟩ := List.exists_cons_of_length_eq_add_one h
  obtain ⟨b, l, rfl⟩ := List.exists_cons_of_length_eq_add_one (Nat.succ.inj h)
  obtain ⟨c, l, rfl⟩ := List.exists_cons_of_length_eq_add_one (Nat.succ.inj (Nat.succ.inj h))
  obtain ⟨d, l, rfl⟩ := List.exists_cons_of_length_eq_add_one (Nat.succ.inj (Nat.succ.inj (Nat.succ.inj h)))
  obtain ⟨e, l, rfl⟩ := List.exists_cons_of_length_eq_add_one (Nat.succ.inj (Nat.succ.inj (Nat.succ.inj (Nat.succ.inj h))))
  obtain ⟨f, l, rfl⟩ := List.exists_cons_of_length_eq_add_one (Nat.succ.inj (Nat.succ.inj (Nat.succ.inj (Nat.succ.inj (Nat.succ.inj h)))))
  have hl := List.length_eq_zero_iff.mp (Nat.succ.inj (Nat.succ.inj (Nat.succ.inj (Nat.succ.inj (Nat.succ.inj (Nat.succ.inj h))))))
  subst hl
  rfl
section
theorem sorted_qn (w : World) (dp un : Nat) (fr : Option (List Env)) (gd : Option (List Code)) (s : Shared) (h₀ : Heap) (L l : Addr) (m : Str → Option Value) (news : List (Addr × Obj)) (vs : List Value) (F : Fr h₀ L s.heap m) (N : News h₀ L s.heap news)
   (hl : s.heap.IsList l vs.toArray) (h6 : vs.length = 6) (xs : Nat → Str) (hx : ∀ i j, i < j → j < 6 → (xs i).cps.toList < (xs j).cps.toList) (hq : ∀ i, i < 6 → QnAt news (vs.getD i .none) (xs (5 - i)))
   (Q E : Value → Shared → Prop) (hdp : dp < 600) (hun : un < 7000) (G : Gd w h₀) 
   (hQ : ∀ D c h' tk', Fr h₀ L h' m → News h₀ L h' ((D, lstO vs.reverse c) :: news) → (∀ q ∈ news, q.1 < D) → Q (.ref D) { s with heap := h', toks := tk' }) :
   wpAny (model PySem.Challenge.rw_xo0006_01.row.prog w) (AR dp fr gd un) (call (.builtin "sorted") [.ref l]) Q E s := by
  have hX1 : (hd.heap_39 w.params).In h₀ := G.1
  revert hX1
  k_fill
  intro hX1
  refine kas_sorted (T := .ref 125) F N hl (by omega) (by omega) (fun h Fh Nh v hv => ?_) rfl fun D e1 h1 F1 N1 hlt => ?_
  · obtain ⟨i, hi, rfl⟩ := List.getElem_of_mem hv
    obtain ⟨a, da, oda, e, h1, h2, h3⟩ := hq i (by omega)
    rw [List.getD_eq_getElem?_getD, List.getElem?_eq_getElem hi] at e
    rw [show vs[i] = .ref a from e]
    exact (InstAt.of_news Nh h1 h2).type
  · rw [h6]
    have nl : ∀ i j : Nat, i < 6 → j < 6 → decide ((xs (5 - i)).cps.toList < (xs (5 - j)).cps.toList) = decide (j < i) := fun i j hi hj => by
      by_cases h : j < i
      · rw [decide_eq_true h, decide_eq_true (hx _ _ (by omega) (by omega))]
      · rw [decide_eq_false h]
        apply decide_eq_false
        intro q
        rcases Nat.lt_or_ge i j with h2 | h2
        · exact List.lt_asymm q (hx _ _ (by omega) (by omega))
        · have e : i = j := by omega
          subst e
          exact List.lt_irrefl _ q
    refine kRun_wp (lt := fun i j => decide (j < i)) (I := fun s' => ∃ h'' tk, s' = { s with heap := h'', toks := tk } ∧ Fr h₀ L h'' m ∧ News h₀ L h'' ((D, seqObj "list" #[] e1) :: news)) (fun i j C s' hi hj hij hI hC => ?_) _ _ sort6.1 ⟨h1, _, rfl, F1, N1⟩ ?_
    · obtain ⟨h'', tk, rfl, F3, N3⟩ := id hI
      unfold kas_ask
      obtain ⟨a, da, oda, ea, ma, mda, ta⟩ := hq i hi
      obtain ⟨b, db, odb, eb, mb, mdb, tb⟩ := hq j hj
      rw [ea, eb]
      have N4 : News h₀ L h'' news := News.sub N3 fun p hp => .tail _ hp
      refine' kas_lt_inst (C := 125) ?k1 F3 hX1 (InstAt.of_news N4 ma mda) ?k7 ?k8 ?_
      case k1 => exact Nat.lt_of_lt_of_le (show un + 2 < 9000 by omega) (Nat.le_of_ble_eq_true rfl)
      case k7 => k_is
      case k8 => k_is
      k_whole
      refine qn_ltc w dp (un + 2) fr gd { s with heap := h'', toks := tk } (xs (5 - i)) (xs (5 - j)) a da b db oda odb h₀ L m news F3 N4 ma mda mb mdb ta tb _ _ (by omega) (by omega) G fun h5 tk5 kp => ?_
      show C _ _
      rw [nl i j hi hj]
      exact hC _ ⟨h5, tk5, rfl, fr_kp F3 kp, news_kp N3 kp⟩
    · rintro s' ⟨h'', tk, rfl, F3, N3⟩
      refine KasFin.intro F3 N3 (UpdF.head fun p hp => Nat.ne_of_lt (hlt p hp)) fun h3 c F4 N4 => ?_
      have e : ((kRun (fun i j => decide (j < i)) (kas_sort 6)).toList.map fun i => vs.getD i Value.none) = vs.reverse := by
        rw [sort6.2]
        exact six_rev vs h6
      rw [e] at N4
      exact hQ D c h3 _ F4 N4 hlt
end
end
section
set_option maxRecDepth 100000
theorem fresh_Pur : True := by (w_top off; trivial)
section
variable (us : List Int) (cs : List Nat)
abbrev lo (k : Nat) : List Nat := (kids us cs (k : Int)).filter (lessK cs)
abbrev hi (k : Nat) : List Nat := (kids us cs (k : Int)).filter fun c => !lessK cs c
def wrK : Nat → Nat → List Tk
  | 0, _ => []
  | f + 1, k => .op (cg cs k) :: ((lo us cs k).flatMap (wrK f) ++ .sp :: ((hi us cs k).flatMap (wrK f) ++ [.cl]))
def blK : Nat → List Nat → Nat → List (List Nat)
  | 0, _, _ => []
  | f + 1, p, k => (lo us cs k).flatMap (blK f (p ++ [cg cs k])) ++ (p ++ [cg cs k]) :: (hi us cs k).flatMap (blK f (p ++ [cg cs k]))
def opK : Nat → List Nat → Nat → List (List Nat × Nat)
  | 0, _, _ => []
  | f + 1, p, k => (p, cg cs k) :: ((lo us cs k).flatMap (opK f (p ++ [cg cs k])) ++ (hi us cs k).flatMap (opK f (p ++ [cg cs k])))
end
def lookE (ev : List (List Nat × Nat)) (b : List Nat) : List Nat := (ev.filter fun e => decide (e.1 = b)).map (·.2)
theorem lookE_app (a b : List (List Nat × Nat)) (k : List Nat) : lookE (a ++ b) k = lookE a k ++ lookE b k := by simp [lookE]
theorem lookE_cons (e : List Nat × Nat) (r : List (List Nat × Nat)) (k : List Nat) : lookE (e :: r) k = (if e.1 = k then [e.2] else []) ++ lookE r k := by
  unfold lookE
  rw [List.filter_cons]
  by_cases h : e.1 = k <;> simp [h]
theorem lookB_addB (c : Nat) (k k' : List Nat) : ∀ b : List (List Nat × List Nat), lookB (addB b k c) k' = lookB b k' ++ (if k = k' then [c] else [])
  | [] => by
    rw [addB, lookB, lookB]
    by_cases h : k = k' <;> simp [h, lookB]
  | p :: r => by
    have ih := lookB_addB c k k' r
    rw [addB]
    by_cases h1 : p.1 = k
    · rw [if_pos h1, lookB, lookB]
      by_cases h2 : p.1 = k'
      · rw [if_pos h2, if_pos h2, if_pos (h1 ▸ h2)]
      · rw [if_neg h2, if_neg h2, if_neg (fun e => h2 (h1.trans e)), List.append_nil]
    · rw [if_neg h1, lookB, lookB]
      by_cases h2 : p.1 = k'
      · rw [if_pos h2, if_pos h2, if_neg (fun e => h1 (h2.trans e.symm)), List.append_nil]
      · rw [if_neg h2, if_neg h2, ih]
def okF : RS → List Tk → Prop
  | _, [] => True
  | st, t :: ts => (t = .cl → 1 ≤ st.d) ∧ okF (step st t) ts
theorem okF_app : ∀ (a b : List Tk) (st : RS), okF st (a ++ b) ↔ okF st a ∧ okF (a.foldl step st) b
  | [], b, st => by simp [okF]
  | t :: a, b, st => by
    have ih := okF_app a b (step st t)
    simp only [List.cons_append, okF, List.foldl_cons, ih, and_assoc]
theorem okF_at : ∀ (ts : List Tk) (st : RS), okF st ts → ∀ i, ts[i]? = some .cl → 1 ≤ ((ts.take i).foldl step st).d
  | [], _, _, i, h => by simp at h
  | t :: ts, st, h, 0, e => by
    simp only [List.getElem?_cons_zero, Option.some.injEq] at e
    exact h.1 e
  | t :: ts, st, h, i + 1, e => okF_at ts (step st t) h.2 i (by simpa using e)
section
variable {us : List Int} {cs : List Nat}
theorem wrT_eq : ∀ (f k : Nat), wrT us cs f k = (wrK us cs f k).map pstr
  | 0, _ => rfl
  | f + 1, k => by
    have e : wrT us cs f = fun c => (wrK us cs f c).map pstr := funext fun c => wrT_eq f c
    rw [wrT, wrK, e]
    simp only [List.map_cons, List.map_append, List.map_flatMap, List.map_nil]
    rfl
def Single (us : List Int) (cs : List Nat) (f : Nat) : Prop := ∀ k p q bl bel, q.take p.length = p →
  ∃ q' bel', (wrK us cs f k).foldl step ⟨p.length, q, bl, bel⟩ = ⟨p.length, q', bl ++ blK us cs f p k, bel'⟩ ∧ q'.take p.length = p ∧ (∀ b, lookB bel' b = lookB bel b ++ lookE (opK us cs f p k) b) ∧ okF ⟨p.length, q, bl, bel⟩ (wrK us cs f k)
theorem fold_list {f : Nat} (h : Single us cs f) : ∀ (ks : List Nat) p q bl bel, q.take p.length = p →
  ∃ q' bel', (ks.flatMap (wrK us cs f)).foldl step ⟨p.length, q, bl, bel⟩ = ⟨p.length, q', bl ++ ks.flatMap (blK us cs f p), bel'⟩ ∧ q'.take p.length = p ∧ (∀ b, lookB bel' b = lookB bel b ++ lookE (ks.flatMap (opK us cs f p)) b) ∧ okF ⟨p.length, q, bl, bel⟩ (ks.flatMap (wrK us cs f))
  | [], p, q, bl, bel, hq => ⟨q, bel, by simp, hq, fun b => by simp [lookE], trivial⟩
  | k :: ks, p, q, bl, bel, hq => by
    obtain ⟨q1, bel1, e1, h1, l1, o1⟩ := h k p q bl bel hq
    obtain ⟨q2, bel2, e2, h2, l2, o2⟩ := fold_list h ks p q1 (bl ++ blK us cs f p k) bel1 h1
    refine ⟨q2, bel2, ?_, h2, fun b => ?_, ?_⟩
    · rw [List.flatMap_cons, List.foldl_append, e1, e2, List.flatMap_cons, List.append_assoc]
    · rw [l2, l1, List.flatMap_cons, lookE_app, List.append_assoc]
    · rw [List.flatMap_cons, okF_app, e1]
      exact ⟨o1, o2⟩
theorem fold_wr : ∀ f, Single us cs f
  | 0 => fun k p q bl bel hq => ⟨q, bel, by simp [wrK, blK], hq, fun b => by simp [opK, lookE], trivial⟩
  | f + 1 => fun k p q bl bel hq => by
    have ih := fold_wr f
    have hP : (p ++ [cg cs k]).take (p ++ [cg cs k]).length = p ++ [cg cs k] := List.take_of_length_le (Nat.le_refl _)
    have hPp : (p ++ [cg cs k]).length = p.length + 1 := by simp
    obtain ⟨q1, bel1, e1, h1, l1, o1⟩ := fold_list ih (lo us cs k) (p ++ [cg cs k]) (p ++ [cg cs k]) bl (addB bel p (cg cs k)) hP
    obtain ⟨q2, bel2, e2, h2, l2, o2⟩ := fold_list ih (hi us cs k) (p ++ [cg cs k]) (p ++ [cg cs k]) ((bl ++ (lo us cs k).flatMap (blK us cs f (p ++ [cg cs k]))) ++ [p ++ [cg cs k]]) bel1 hP
    have s0 : step ⟨p.length, q, bl, bel⟩ (.op (cg cs k)) = ⟨(p ++ [cg cs k]).length, p ++ [cg cs k], bl, addB bel p (cg cs k)⟩ := by
      simp only [step, hq, hPp]
    have s1 : step ⟨(p ++ [cg cs k]).length, q1, bl ++ (lo us cs k).flatMap (blK us cs f (p ++ [cg cs k])), bel1⟩ .sp = ⟨(p ++ [cg cs k]).length, p ++ [cg cs k], (bl ++ (lo us cs k).flatMap (blK us cs f (p ++ [cg cs k]))) ++ [p ++ [cg cs k]], bel1⟩ := by
      simp only [step, h1]
    have s2 : ∀ B, step ⟨(p ++ [cg cs k]).length, q2, B, bel2⟩ .cl = ⟨p.length, p ++ [cg cs k], B, bel2⟩ := fun B => by
      have h2' := h2
      rw [hPp] at h2'
      simp only [step, hPp, Nat.add_sub_cancel, h2']
    refine ⟨p ++ [cg cs k], bel2, ?_, by simp, fun b => ?_, ?_⟩
    · rw [wrK, List.foldl_cons, s0, List.foldl_append, e1, List.foldl_cons, s1, List.foldl_append, e2, List.foldl_cons, s2, List.foldl_nil, blK]
      congr 1
      simp only [List.append_assoc, List.cons_append, List.nil_append]
    · rw [l2, l1, lookB_addB, opK, lookE_cons, lookE_app]
      simp only [List.append_assoc]
    · rw [wrK]
      refine ⟨(by intro e; cases e), ?_⟩
      rw [s0, okF_app, e1]
      refine ⟨o1, (by intro e; cases e), ?_⟩
      rw [s1, okF_app, e2]
      exact ⟨o2, fun _ => by simp, trivial⟩
theorem rd_wr (k : Nat) : ∃ q' bel', rd (wrK us cs 7 k) = ⟨0, q', blK us cs 7 [] k, bel'⟩ ∧ (∀ b, lookB bel' b = lookE (opK us cs 7 [] k) b) ∧ ∀ i, (wrK us cs 7 k)[i]? = some .cl → 1 ≤ (rd ((wrK us cs 7 k).take i)).d := by
  obtain ⟨q', bel', e, _, l, o⟩ := fold_wr (us := us) (cs := cs) 7 k [] [] [] [] rfl
  refine ⟨q', bel', ?_, fun b => ?_, okF_at _ _ o⟩
  · unfold rd; rw [show (0 : Nat) = ([] : List Nat).length from rfl, e]; simp
  · rw [l]; rfl
end
end
section
set_option maxRecDepth 100000
theorem fresh_Pu2 : True := by (w_top off; trivial)
section
variable (us : List Int) (cs : List Nat)
def wkP : Nat → List Nat → Nat → List (List Nat × Nat)
  | 0, _, _ => []
  | f + 1, p, k => (lo us cs k).flatMap (wkP f (p ++ [cg cs k])) ++ (kids us cs (k : Int)).map (fun c => (p ++ [cg cs k], c)) ++ (hi us cs k).flatMap (wkP f (p ++ [cg cs k]))
end
section
variable {us : List Int} {cs : List Nat}
theorem wkT_eq : ∀ (f : Nat) (p : List Nat) (k : Nat), wkT us cs f p k = (wkP us cs f p k).map fun e => rowW cs e.1 e.2
  | 0, _, _ => rfl
  | f + 1, p, k => by
    have e : ∀ p, wkT us cs f p = fun c => (wkP us cs f p c).map fun e => rowW cs e.1 e.2 := fun p => funext fun c => wkT_eq f p c
    rw [wkT, wkP, e]
    simp only [List.map_append, List.map_flatMap, List.map_map]
    rfl
theorem split_sorted {p : Nat → Bool} : ∀ {l : List Nat}, l.Pairwise (fun a b => cg cs a < cg cs b) → (∀ a b, cg cs a < cg cs b → p b = true → p a = true) → l = l.filter p ++ l.filter fun c => !p c
  | [], _, _ => rfl
  | a :: l, h, hp => by
    have h1 := List.pairwise_cons.mp h
    have ih := split_sorted (p := p) h1.2 hp
    by_cases ha : p a = true
    · rw [List.filter_cons_of_pos ha, List.filter_cons_of_neg (by rw [ha]; decide), List.cons_append, ← ih]
    · have hall : ∀ b ∈ l, ¬ p b = true := fun b hb hpb => ha (hp a b (h1.1 b hb) hpb)
      rw [List.filter_cons_of_neg ha, List.filter_cons_of_pos (by simpa using ha), List.filter_eq_nil_iff.mpr hall, List.nil_append]
      congr 1
      exact (List.filter_eq_self.mpr fun b hb => by simpa using hall b hb).symm
theorem kids_split (T : TreeOk us cs) (k : Nat) : kids us cs (k : Int) = lo us cs k ++ hi us cs k := by
  refine split_sorted (kids_sorted T (k : Int)) fun a b h hb => ?_
  unfold lessK at *
  simp only [decide_eq_true_eq] at *
  omega
theorem kid_lt (T : TreeOk us cs) {k c : Nat} (hc : c ∈ kids us cs (k : Int)) : c < 7 ∧ k < c := by
  obtain ⟨i, hi, e⟩ := List.getElem_of_mem hc
  exact kid_facts T (k := k) (i := i) (by rw [List.getElem?_eq_getElem hi, e])
theorem mem_lo {k c : Nat} (h : c ∈ lo us cs k) : c ∈ kids us cs (k : Int) := (List.mem_filter.mp h).1
theorem mem_hi {k c : Nat} (h : c ∈ hi us cs k) : c ∈ kids us cs (k : Int) := (List.mem_filter.mp h).1
theorem fm_congr {α β : Type} {f g : α → List β} : ∀ {l : List α}, (∀ a ∈ l, f a = g a) → l.flatMap f = l.flatMap g
  | [], _ => rfl
  | a :: l, h => by rw [List.flatMap_cons, List.flatMap_cons, h a (.head _), fm_congr fun b hb => h b (.tail _ hb)]
theorem fm_single {α β : Type} {f : α → β} : ∀ {l : List α}, l.flatMap (fun a => [f a]) = l.map f
  | [] => rfl
  | a :: l => by rw [List.flatMap_cons, List.map_cons, fm_single]; rfl
theorem op_keys : ∀ (f : Nat) (p : List Nat) (k : Nat), ∀ e ∈ opK us cs f p k, e.1 = p ∨ (p ++ [cg cs k]) <+: e.1
  | 0, _, _, e, h => by simp [opK] at h
  | f + 1, p, k, e, h => by
    rw [opK] at h
    rcases List.mem_cons.mp h with rfl | h
    · exact .inl rfl
    · refine .inr ?_
      rcases List.mem_append.mp h with h | h <;> (obtain ⟨j, _, hj⟩ := List.mem_flatMap.mp h; rcases op_keys f (p ++ [cg cs k]) j e hj with h1 | h1)
      · rw [h1]; exact List.prefix_refl _
      · exact (List.prefix_append _ _).trans h1
      · rw [h1]; exact List.prefix_refl _
      · exact (List.prefix_append _ _).trans h1
theorem bl_keys : ∀ (f : Nat) (p : List Nat) (k : Nat), ∀ b ∈ blK us cs f p k, (p ++ [cg cs k]) <+: b
  | 0, _, _, b, h => by simp [blK] at h
  | f + 1, p, k, b, h => by
    rw [blK] at h
    rcases List.mem_append.mp h with h | h
    · obtain ⟨j, _, hj⟩ := List.mem_flatMap.mp h
      exact (List.prefix_append _ _).trans (bl_keys f (p ++ [cg cs k]) j b hj)
    rcases List.mem_cons.mp h with rfl | h
    · exact List.prefix_refl _
    · obtain ⟨j, _, hj⟩ := List.mem_flatMap.mp h
      exact (List.prefix_append _ _).trans (bl_keys f (p ++ [cg cs k]) j b hj)
theorem lookE_nil {ev : List (List Nat × Nat)} {b : List Nat} (h : ∀ e ∈ ev, e.1 ≠ b) : lookE ev b = [] := by
  unfold lookE
  rw [List.filter_eq_nil_iff.mpr fun e he => by simpa using h e he]
  rfl
theorem lookE_flat {g : Nat → List (List Nat × Nat)} {b : List Nat} (ks : List Nat) : lookE (ks.flatMap g) b = ks.flatMap fun k => lookE (g k) b := by
  induction ks with
  | nil => rfl
  | cons k ks ih => rw [List.flatMap_cons, lookE_app, ih, List.flatMap_cons]
theorem flat_one {β : Type} {g : Nat → List β} {j : Nat} : ∀ {ks : List Nat}, ks.Nodup → j ∈ ks → (∀ i ∈ ks, i ≠ j → g i = []) → ks.flatMap g = g j
  | [], _, h, _ => by cases h
  | k :: ks, hn, hj, h => by
    have hn' := List.nodup_cons.mp hn
    rw [List.flatMap_cons]
    rcases List.mem_cons.mp hj with e | hj'
    · subst e
      have : ks.flatMap g = [] := List.flatMap_eq_nil_iff.mpr fun i hi => h i (.tail _ hi) fun q => hn'.1 (q ▸ hi)
      rw [this, List.append_nil]
    · rw [h k (.head _) (fun q => hn'.1 (q ▸ hj')), List.nil_append]
      exact flat_one hn'.2 hj' fun i hi => h i (.tail _ hi)
theorem prefix_one {p b : List Nat} {x y : Nat} (h1 : (p ++ [x]) <+: b) (h2 : (p ++ [y]) <+: b) : x = y := by
  obtain ⟨r1, e1⟩ := h1
  obtain ⟨r2, e2⟩ := h2
  rw [List.append_assoc] at e1 e2
  have := e1.trans e2.symm
  have := List.append_cancel_left this
  exact (List.cons.inj this).1
theorem prefix_long {p b : List Nat} {x : Nat} (h : (p ++ [x]) <+: b) : p ≠ b := by
  rintro rfl
  have := h.length_le
  rw [List.length_append, List.length_singleton] at this
  omega
theorem look_first (f : Nat) (p : List Nat) (k : Nat) : lookE (opK us cs (f + 1) p k) p = [cg cs k] := by
  rw [opK, lookE_cons, if_pos rfl, lookE_nil]
  · rfl
  intro e he
  rcases List.mem_append.mp he with h | h <;> (obtain ⟨j, _, hj⟩ := List.mem_flatMap.mp h; rcases op_keys f (p ++ [cg cs k]) j e hj with h1 | h1)
  · rw [h1]; exact fun q => prefix_long (List.prefix_refl (p ++ [cg cs k])) q.symm
  · exact fun q => prefix_long ((List.prefix_append (p ++ [cg cs k]) [cg cs j]).trans h1) q.symm
  · rw [h1]; exact fun q => prefix_long (List.prefix_refl (p ++ [cg cs k])) q.symm
  · exact fun q => prefix_long ((List.prefix_append (p ++ [cg cs k]) [cg cs j]).trans h1) q.symm
theorem look_other (T : TreeOk us cs) {f : Nat} {P b : List Nat} {i j : Nat} (hi : i < 7) (hj : j < 7) (hij : i ≠ j) (hb : (P ++ [cg cs j]) <+: b) : lookE (opK us cs f P i) b = [] := by
  refine lookE_nil fun e he => ?_
  rcases op_keys f P i e he with h | h
  · rw [h]; exact prefix_long hb
  · rintro rfl
    exact hij (T.inj i j hi hj (prefix_one h hb))
theorem kids_nodup (T : TreeOk us cs) (k : Nat) : (kids us cs (k : Int)).Nodup := (kids_sorted T (k : Int)).imp fun h e => by rw [e] at h; exact Nat.lt_irrefl _ h
theorem read_walk (T : TreeOk us cs) : ∀ (f : Nat) (p : List Nat) (k : Nat), k < 7 → 7 ≤ k + f → (blK us cs f p k).flatMap (fun b => (lookE (opK us cs f p k) b).map fun c => (b, c)) = (wkP us cs f p k).map fun e => (e.1, cg cs e.2)
  | 0, _, _, h1, h2 => by omega
  | f + 1, p, k, h1, h2 => by
    have hP : p ≠ p ++ [cg cs k] := fun e => prefix_long (List.prefix_refl (p ++ [cg cs k])) e
    -- a blank within the branch of a kid
    have inner : ∀ j ∈ kids us cs (k : Int), (blK us cs f (p ++ [cg cs k]) j).flatMap (fun b => (lookE (opK us cs (f + 1) p k) b).map fun c => (b, c)) = (wkP us cs f (p ++ [cg cs k]) j).map fun e => (e.1, cg cs e.2) := by
      intro j hj
      have hj' := kid_lt T hj
      rw [← read_walk T f (p ++ [cg cs k]) j hj'.1 (by omega)]
      refine fm_congr fun b hb => ?_
      have hbp := bl_keys f (p ++ [cg cs k]) j b hb
      congr 1
      rw [opK, lookE_cons, if_neg (fun e => prefix_long ((List.prefix_append (p ++ [cg cs k]) [cg cs j]).trans hbp) e), List.nil_append, lookE_app, lookE_flat, lookE_flat]
      have oth : ∀ i ∈ kids us cs (k : Int), i ≠ j → lookE (opK us cs f (p ++ [cg cs k]) i) b = [] := fun i hi hij => look_other T (kid_lt T hi).1 hj'.1 hij hbp
      rw [← List.flatMap_append, ← kids_split T k]
      exact flat_one (kids_nodup T k) hj oth
    have own : lookE (opK us cs (f + 1) p k) (p ++ [cg cs k]) = (kids us cs (k : Int)).map (cg cs) := by
      rw [opK, lookE_cons, if_neg hP, List.nil_append, lookE_app, lookE_flat, lookE_flat, ← List.flatMap_append, ← kids_split T k]
      have : ∀ j ∈ kids us cs (k : Int), lookE (opK us cs f (p ++ [cg cs k]) j) (p ++ [cg cs k]) = [cg cs j] := fun j hj => by
        have hj' := kid_lt T hj
        obtain ⟨g, rfl⟩ : ∃ g, f = g + 1 := ⟨f - 1, by omega⟩
        exact look_first g _ j
      rw [fm_congr this, fm_single]
    rw [blK, wkP, List.flatMap_append, List.flatMap_cons, List.flatMap_assoc, List.flatMap_assoc, own]
    rw [fm_congr fun j hj => inner j (mem_lo hj), fm_congr fun j hj => inner j (mem_hi hj)]
    simp only [List.map_append, List.map_flatMap, List.map_map, List.append_assoc]
    rfl
end
end
section
set_option maxRecDepth 100000
theorem fresh_Pu3 : True := by (w_top off; trivial)
section
variable {us : List Int} {cs : List Nat}
theorem wk_keys : ∀ (f : Nat) (p : List Nat) (k : Nat), ∀ e ∈ wkP us cs f p k, (p ++ [cg cs k]) <+: e.1
  | 0, _, _, b, h => by simp [wkP] at h
  | f + 1, p, k, b, h => by
    rw [wkP] at h
    rcases List.mem_append.mp h with h | h
    · rcases List.mem_append.mp h with h | h
      · obtain ⟨j, _, hj⟩ := List.mem_flatMap.mp h
        exact (List.prefix_append _ _).trans (wk_keys f (p ++ [cg cs k]) j b hj)
      · obtain ⟨c, _, rfl⟩ := List.mem_map.mp h
        exact List.prefix_refl _
    · obtain ⟨j, _, hj⟩ := List.mem_flatMap.mp h
      exact (List.prefix_append _ _).trans (wk_keys f (p ++ [cg cs k]) j b hj)
def txt (cs : List Nat) (e : List Nat × Nat) : List Nat := 123 :: (e.1 ++ [125, cg cs e.2])
theorem lt_split {x y : Nat} (h : x < y) : ∀ (q r r' : List Nat), q ++ x :: r < q ++ y :: r'
  | [], _, _ => .rel h
  | _ :: q, r, r' => .cons (lt_split h q r r')
theorem txt_branch {P : List Nat} {j : Nat} {e : List Nat × Nat} (h : (P ++ [cg cs j]) <+: e.1) : ∃ r, txt cs e = (123 :: P) ++ cg cs j :: r := by
  obtain ⟨s, hs⟩ := h
  refine ⟨s ++ [125, cg cs e.2], ?_⟩
  unfold txt
  rw [← hs]
  simp
theorem txt_own (P : List Nat) (c : Nat) : txt cs (P, c) = (123 :: P) ++ 125 :: [cg cs c] := by simp [txt]
theorem lo_lt {k c : Nat} (h : c ∈ lo us cs k) : cg cs c < 125 := by
  have := (List.mem_filter.mp h).2
  simpa [lessK] using this
theorem hi_gt (T : TreeOk us cs) {k c : Nat} (h : c ∈ hi us cs k) : 125 < cg cs c := by
  have h1 := (List.mem_filter.mp h).2
  have h2 : ¬ cg cs c < 125 := by simpa [lessK] using h1
  have h3 := T.sign _ (cg_mem T (kid_lt T (mem_hi h)).1)
  omega
theorem asc (T : TreeOk us cs) : ∀ (f : Nat) (p : List Nat) (k : Nat), (wkP us cs f p k).Pairwise fun a b => txt cs a < txt cs b
  | 0, _, _ => .nil
  | f + 1, p, k => by
    rw [wkP]
    have ks := kids_sorted T (k : Int)
    have branch : ∀ l : List Nat, l.Pairwise (fun a b => cg cs a < cg cs b) → (l.flatMap (wkP us cs f (p ++ [cg cs k]))).Pairwise fun a b => txt cs a < txt cs b := by
      intro l hl
      rw [List.pairwise_flatMap]
      refine ⟨fun j _ => asc T f _ j, hl.imp fun {i j} hij a ha b hb => ?_⟩
      obtain ⟨r, e1⟩ := txt_branch (wk_keys f (p ++ [cg cs k]) i a ha)
      obtain ⟨r', e2⟩ := txt_branch (wk_keys f (p ++ [cg cs k]) j b hb)
      rw [e1, e2]
      exact lt_split hij _ _ _
    refine List.pairwise_append.mpr ⟨List.pairwise_append.mpr ⟨branch _ (ks.filter _), ?_, ?_⟩, branch _ (ks.filter _), ?_⟩
    · rw [List.pairwise_map]
      refine ks.imp fun {a b} h => ?_
      show txt cs (p ++ [cg cs k], a) < txt cs (p ++ [cg cs k], b)
      have e : ∀ c, txt cs (p ++ [cg cs k], c) = (123 :: (p ++ [cg cs k]) ++ [125]) ++ cg cs c :: [] := fun c => by simp [txt]
      rw [e, e]
      exact lt_split h _ _ _
    · intro a ha b hb
      obtain ⟨j, hj, ha⟩ := List.mem_flatMap.mp ha
      obtain ⟨c, _, rfl⟩ := List.mem_map.mp hb
      obtain ⟨r, e1⟩ := txt_branch (wk_keys f (p ++ [cg cs k]) j a ha)
      rw [e1, txt_own]
      exact lt_split (lo_lt hj) _ _ _
    · intro a ha b hb
      obtain ⟨j, hj, hb⟩ := List.mem_flatMap.mp hb
      obtain ⟨r, e2⟩ := txt_branch (wk_keys f (p ++ [cg cs k]) j b hb)
      rw [e2]
      rcases List.mem_append.mp ha with ha | ha
      · obtain ⟨i, hi, ha⟩ := List.mem_flatMap.mp ha
        obtain ⟨r', e1⟩ := txt_branch (wk_keys f (p ++ [cg cs k]) i a ha)
        rw [e1]
        exact lt_split (Nat.lt_trans (lo_lt hi) (hi_gt T hj)) _ _ _
      · obtain ⟨c, _, rfl⟩ := List.mem_map.mp ha
        rw [txt_own]
        exact lt_split (hi_gt T hj) _ _ _
-- under
def par (us : List Int) (k : Nat) : Nat := (ug us k).toNat
def unL (us : List Int) (cs : List Nat) : Nat → List Bool
  | 0 => []
  | n + 1 => unL us cs n ++ [if n = 0 then false else (cg cs (par us n) == 91) || (unL us cs n).getD (par us n) false]
theorem unL_len : ∀ n, (unL us cs n).length = n
  | 0 => rfl
  | n + 1 => by rw [unL, List.length_append, unL_len n]; rfl
theorem unL_get {n k : Nat} (hk : k < n) : (unL us cs n).getD k false = (unL us cs (k + 1)).getD k false := by
  induction n with
  | zero => omega
  | succ n ih =>
    rcases Nat.lt_or_ge k n with h | h
    · rw [← ih h, unL, List.getD_eq_getElem?_getD, List.getElem?_append_left (by rw [unL_len]; exact h), ← List.getD_eq_getElem?_getD]
    · have e : k = n := by omega
      rw [e]
def un (us : List Int) (cs : List Nat) (k : Nat) : Bool := (unL us cs 7).getD k false
theorem un_zero : un us cs 0 = false := by
  unfold un
  rw [unL_get (by decide)]
  rfl
theorem un_step (T : TreeOk us cs) {k : Nat} (h0 : 0 < k) (h7 : k < 7) : un us cs k = ((cg cs (par us k) == 91) || un us cs (par us k)) := by
  have hp : par us k < k := by have := T.up k h0 h7; unfold par; omega
  unfold un
  rw [unL_get h7, unL_get (k := par us k) (by omega)]
  have e : (unL us cs (k + 1)).getD k false = (if k = 0 then false else (cg cs (par us k) == 91) || (unL us cs k).getD (par us k) false) := by
    rw [unL, List.getD_eq_getElem?_getD, List.getElem?_append_right (by rw [unL_len]; exact Nat.le_refl _), unL_len, Nat.sub_self]
    rfl
  rw [e, if_neg (by omega), unL_get hp]
theorem un_rows (T : TreeOk us cs) : ∀ (f : Nat) (p : List Nat) (k : Nat), k < 7 → (91 ∈ p ↔ un us cs k = true) → ∀ e ∈ wkP us cs f p k, (91 ∈ e.1 ↔ un us cs e.2 = true)
  | 0, _, _, _, _, e, h => by simp [wkP] at h
  | f + 1, p, k, hk, hp, e, h => by
    have kid : ∀ c ∈ kids us cs (k : Int), (91 ∈ p ++ [cg cs k] ↔ un us cs c = true) := fun c hc => by
      have hc' := kid_lt T hc
      have hpar : par us c = k := by
        have := ((mem_kids T).mp hc).2
        unfold par; rw [this]; rfl
      rw [un_step T (by omega) hc'.1, hpar, List.mem_append, List.mem_singleton, hp]
      simp only [Bool.or_eq_true, beq_iff_eq]
      constructor
      · rintro (h | h)
        · exact .inr h
        · exact .inl h.symm
      · rintro (h | h)
        · exact .inr h.symm
        · exact .inl h
    rw [wkP] at h
    rcases List.mem_append.mp h with h | h
    · rcases List.mem_append.mp h with h | h
      · obtain ⟨j, hj, hje⟩ := List.mem_flatMap.mp h
        exact un_rows T f _ j (kid_lt T (mem_lo hj)).1 (kid j (mem_lo hj)) e hje
      · obtain ⟨c, hc, rfl⟩ := List.mem_map.mp h
        exact kid c hc
    · obtain ⟨j, hj, hje⟩ := List.mem_flatMap.mp h
      exact un_rows T f _ j (kid_lt T (mem_hi hj)).1 (kid j (mem_hi hj)) e hje
-- six rows
def cnt (us : List Int) : Nat → Nat → Nat
  | 0, _ => 0
  | f + 1, k => (cand us (k : Int) 7).length + ((cand us (k : Int) 7).map (cnt us f)).sum
theorem insK_perm (c : Nat) : ∀ l : List Nat, (insK cs c l).Perm (c :: l)
  | [] => List.Perm.refl _
  | d :: r => by
    unfold insK
    split
    · exact List.Perm.refl _
    · exact (List.Perm.cons d (insK_perm c r)).trans (List.Perm.swap ..)
theorem foldr_perm : ∀ l : List Nat, (l.foldr (insK cs) []).Perm l
  | [] => List.Perm.refl _
  | c :: l => (insK_perm c _).trans (List.Perm.cons c (foldr_perm l))
theorem sum_perm {l l' : List Nat} (h : l.Perm l') : l.sum = l'.sum := by
  induction h with
  | nil => rfl
  | cons a _ ih => simp [ih]
  | swap a b l => simp; omega
  | trans _ _ h1 h2 => exact h1.trans h2
theorem cnt_eq (T : TreeOk us cs) : ∀ (f : Nat) (p : List Nat) (k : Nat), (wkP us cs f p k).length = cnt us f k
  | 0, _, _ => rfl
  | f + 1, p, k => by
    have hp : (kids us cs (k : Int)).Perm (cand us (k : Int) 7) := foldr_perm _
    have e : ∀ l : List Nat, (l.flatMap (wkP us cs f (p ++ [cg cs k]))).length = (l.map (cnt us f)).sum := by
      intro l
      induction l with
      | nil => rfl
      | cons j l ih => rw [List.flatMap_cons, List.length_append, ih, List.map_cons, List.sum_cons, cnt_eq T f]
    rw [wkP, cnt, List.length_append, List.length_append, List.length_map, e, e, ← hp.length_eq, ← sum_perm (hp.map (cnt us f))]
    conv => rhs; rw [kids_split T k]
    simp only [List.map_append, List.sum_append, List.length_append]
    rw [kids_split T k, List.length_append]
    omega
def candN (ps : List Nat) (k : Nat) : List Nat := ((List.range 6).filter fun c => ps.getD c 0 == k).map (· + 1)
def cntN (ps : List Nat) : Nat → Nat → Nat
  | 0, _ => 0
  | f + 1, k => (candN ps k).length + ((candN ps k).map (cntN ps f)).sum
theorem all6 : ((List.range 1).all fun a => (List.range 2).all fun b => (List.range 3).all fun c => (List.range 4).all fun d => (List.range 5).all fun e => (List.range 6).all fun g => cntN [a, b, c, d, e, g] 7 0 == 6) = true := by decide +kernel
end
end
section
set_option maxRecDepth 100000
theorem fresh_Pu4 : True := by (w_top off; trivial)
section
variable {us : List Int} {cs : List Nat}
def psOf (us : List Int) : List Nat := [par us 1, par us 2, par us 3, par us 4, par us 5, par us 6]
theorem cand_eq (T : TreeOk us cs) (k : Nat) : cand us (k : Int) 7 = candN (psOf us) k := by
  have h0 : decide (ug us 0 = (k : Int)) = false := by have := T.root; apply decide_eq_false; omega
  have hc : ∀ c : Nat, 0 < c → c < 7 → decide (ug us c = (k : Int)) = (par us c == k) := by
    intro c a b
    have := T.up c a b
    unfold par
    by_cases h : ug us c = (k : Int)
    · rw [h]; simp
    · have h2 : (ug us c).toNat ≠ k := by omega
      simp [h, h2]
  have e7 : List.range 7 = 0 :: (List.range 6).map (· + 1) := by decide
  unfold cand candN
  rw [e7, List.filter_cons_of_neg (by rw [h0]; decide), List.filter_map]
  congr 1
  apply List.filter_congr
  intro c hc6
  have hc6 := List.mem_range.mp hc6
  show decide (ug us (c + 1) = (k : Int)) = _
  rw [hc (c + 1) (by omega) (by omega)]
  have : c = 0 ∨ c = 1 ∨ c = 2 ∨ c = 3 ∨ c = 4 ∨ c = 5 := by omega
  rcases this with rfl | rfl | rfl | rfl | rfl | rfl <;> rfl
theorem cnt_N (T : TreeOk us cs) : ∀ (f k : Nat), cnt us f k = cntN (psOf us) f k
  | 0, _ => rfl
  | f + 1, k => by
    have e : cnt us f = cntN (psOf us) f := funext fun c => cnt_N T f c
    rw [cnt, cntN, cand_eq T, e]
theorem cnt6 (T : TreeOk us cs) : cnt us 7 0 = 6 := by
  rw [cnt_N T]
  have hp : ∀ c : Nat, 0 < c → c < 7 → par us c ∈ List.range c := fun c a b => by
    have := T.up c a b; rw [List.mem_range]; unfold par; omega
  have h := List.all_eq_true.mp all6 _ (hp 1 (by decide) (by decide))
  have h := List.all_eq_true.mp h _ (hp 2 (by decide) (by decide))
  have h := List.all_eq_true.mp h _ (hp 3 (by decide) (by decide))
  have h := List.all_eq_true.mp h _ (hp 4 (by decide) (by decide))
  have h := List.all_eq_true.mp h _ (hp 5 (by decide) (by decide))
  have h := List.all_eq_true.mp h _ (hp 6 (by decide) (by decide))
  exact beq_iff_eq.mp h
theorem six (T : TreeOk us cs) : (wkP us cs 7 [] 0).length = 6 := by rw [cnt_eq T, cnt6 T]
theorem wr_len (T : TreeOk us cs) : ∀ (f k : Nat), (wrK us cs f k).length ≤ 3 * (1 + cnt us f k)
  | 0, _ => by simp [wrK]
  | f + 1, k => by
    have hp : (kids us cs (k : Int)).Perm (cand us (k : Int) 7) := foldr_perm _
    have e : ∀ l : List Nat, (l.flatMap (wrK us cs f)).length ≤ 3 * (l.length + (l.map (cnt us f)).sum) := by
      intro l
      induction l with
      | nil => exact Nat.zero_le _
      | cons j l ih =>
        have := wr_len T f j
        rw [List.flatMap_cons, List.length_append, List.map_cons, List.sum_cons, List.length_cons]
        omega
    have h1 := e (lo us cs k)
    have h2 := e (hi us cs k)
    have h3 : (cand us (k : Int) 7).length = (lo us cs k).length + (hi us cs k).length := by
      rw [← hp.length_eq, kids_split T k, List.length_append]
    have h4 : ((cand us (k : Int) 7).map (cnt us f)).sum = ((lo us cs k).map (cnt us f)).sum + ((hi us cs k).map (cnt us f)).sum := by
      rw [← sum_perm (hp.map (cnt us f)), kids_split T k, List.map_append, List.sum_append]
    rw [wrK, cnt, h3, h4]
    simp only [List.length_cons, List.length_append, List.length_nil]
    omega
theorem wr_21 (T : TreeOk us cs) : (wrK us cs 7 0).length ≤ 21 := by
  have := wr_len T 7 0
  rw [cnt6 T] at this
  exact this
theorem wr_ok (T : TreeOk us cs) : ∀ (f k : Nat), k < 7 → ∀ t ∈ wrK us cs f k, t.ok
  | 0, _, _, t, h => by simp [wrK] at h
  | f + 1, k, hk, t, h => by
    rw [wrK] at h
    simp only [List.mem_cons, List.mem_append, List.mem_flatMap, List.not_mem_nil, or_false] at h
    rcases h with rfl | ⟨j, hj, h⟩ | rfl | ⟨j, hj, h⟩ | rfl
    · have := T.sign _ (cg_mem T hk)
      simpa [Tk.ok, signs] using this
    · exact wr_ok T f j (kid_lt T (mem_lo hj)).1 t h
    · trivial
    · exact wr_ok T f j (kid_lt T (mem_hi hj)).1 t h
    · trivial
theorem nets_app (a b : List Tk) : nets (a ++ b) = nets a + nets b := by simp [nets]
theorem wr_nets : ∀ (f k : Nat), nets (wrK us cs f k) = 0
  | 0, _ => rfl
  | f + 1, k => by
    have e : ∀ l : List Nat, nets (l.flatMap (wrK us cs f)) = 0 := by
      intro l
      induction l with
      | nil => rfl
      | cons j l ih => rw [List.flatMap_cons, nets_app, ih, wr_nets f]; rfl
    rw [wrK, nets_cons, nets_app, e, nets_cons, nets_app, e]
    rfl
theorem rd_rows (T : TreeOk us cs) : (rd (wrK us cs 7 0)).d = 0 ∧ rowsR (rd (wrK us cs 7 0)) = (wkP us cs 7 [] 0).map fun e => [Cell.s (wy e.1), Cell.s (sg (cg cs e.2))] := by
  obtain ⟨q', bel', e, hb, _⟩ := rd_wr (us := us) (cs := cs) 0
  refine ⟨by rw [e], ?_⟩
  have h := read_walk T 7 [] 0 (by decide) (by decide)
  rw [e]
  unfold rowsR
  simp only [hb]
  have h2 := congrArg (List.map fun q : List Nat × Nat => [Cell.s (wy q.1), Cell.s (sg q.2)]) h
  rw [List.map_flatMap, List.map_map] at h2
  simp only [List.map_map] at h2
  exact h2
theorem wk_len : ∀ (f : Nat) (p : List Nat) (k : Nat), ∀ e ∈ wkP us cs f p k, e.1.length ≤ p.length + f
  | 0, _, _, e, h => by simp [wkP] at h
  | f + 1, p, k, e, h => by
    rw [wkP] at h
    rcases List.mem_append.mp h with h | h
    · rcases List.mem_append.mp h with h | h
      · obtain ⟨j, hj, hje⟩ := List.mem_flatMap.mp h
        have := wk_len f _ j e hje
        rw [List.length_append] at this
        simp only [List.length_cons, List.length_nil] at this
        omega
      · obtain ⟨c, hc, rfl⟩ := List.mem_map.mp h
        simp only [List.length_append, List.length_cons, List.length_nil]
        omega
    · obtain ⟨j, hj, hje⟩ := List.mem_flatMap.mp h
      have := wk_len f _ j e hje
      rw [List.length_append] at this
      simp only [List.length_cons, List.length_nil] at this
      omega
theorem wk_node (T : TreeOk us cs) : ∀ (f : Nat) (p : List Nat) (k : Nat), ∀ e ∈ wkP us cs f p k, e.2 < 7 ∧ 0 < e.2
  | 0, _, _, e, h => by simp [wkP] at h
  | f + 1, p, k, e, h => by
    rw [wkP] at h
    rcases List.mem_append.mp h with h | h
    · rcases List.mem_append.mp h with h | h
      · obtain ⟨j, hj, hje⟩ := List.mem_flatMap.mp h
        exact wk_node T f _ j e hje
      · obtain ⟨c, hc, rfl⟩ := List.mem_map.mp h
        have := kid_lt T hc
        exact ⟨this.1, by have := this.2; show 0 < c; omega⟩
    · obtain ⟨j, hj, hje⟩ := List.mem_flatMap.mp h
      exact wk_node T f _ j e hje
end
end
section
set_option maxRecDepth 100000
set_option maxHeartbeats 4000000
theorem fresh_Cm1 : True := by (w_top off; trivial)
namespace C1
open LCg
abbrev ce (elt tgt iter : Expr) (scope : Scope) (pos : Pos) : Expr := .ListComp elt [⟨tgt, iter, [], 0⟩] scope pos
section
variable {prog : Program} {w : World} {A : Around} {h₀ : Heap} {L : Addr} {m : Str → Option Value} {env : Env}
/-- what the target does with the value: the names are set, nothing else is changed -/
def TgtOk (prog : Program) (w : World) (A : Around) (env : Env) (scope : Scope) (cl : List (Str × Addr)) (tgt : Expr) (xs : List Str) (Shp : Heap → Value → List Value → Prop) : Prop :=
  ∀ (C I B : Addr) (i : Nat) (h : Heap) (tk : Nat) (s : Shared) (mC : Str → Option Value) (v : Value) (vals : List Value) (Q : Unit → Shared → Prop) (E : Value → Shared → Prop), h.IsListIter I B i → Shp h v vals → h.Ns C mC →
    (∀ h' tk' mC', (∀ b o, b ≠ C → h.get? b = some o → h'.get? b = some o) → h'.Ns C mC' → (∀ (k : Nat) (x : Str) (u : Value), xs[k]? = some x → vals[k]? = some u → mC' x = some u) → Q () { s with heap := h', toks := tk' }) →
    wpAny (model prog w) A (letOwnedTupleGo tgt (.ref I) v) (fun _ s₁ => wpAny (model prog w) A (assign tgt (compEnvC scope cl C env) v) Q E s₁) E { s with heap := h, toks := tk }
def ShpN (_ : Heap) (v : Value) (vals : List Value) : Prop := vals = [v]
def ShpT (n : Nat) (h : Heap) (v : Value) (vals : List Value) : Prop := vals.length = n ∧ ∃ t, v = .ref t ∧ IsTup h t vals.toArray
theorem tgt_name {scope : Scope} {cl : List (Str × Addr)} {x : Str} {px : Pos} (hkind : scope.kind = .function) (hx : scope.names.lookup x = some .local) : TgtOk prog w A env scope cl (.Name x px) [x] ShpN := by
  intro C I B i h tk0 s mC v vals Q E hit hs hn hQ
  cases hs
  refine wpAny_of_eq (show letOwnedTupleGo (.Name x px) (.ref I) v = pure () from rfl) ?_
  refine wpAny_assign_Name (wpAny_storeName_local (lookup_relabel_local hx) hn (fun h₂ hn₂ hs₂ => ?_) (by simp [compEnvC, relabel, hkind]))
  refine hQ h₂ _ _ (fun b o hb e => hs₂.extBut b o hb e) hn₂ fun k y u hy hu => ?_
  cases k with
  | zero => simp at hy hu; subst hy; subst hu; simp
  | succ k => simp at hy
theorem assign_names {scope : Scope} {cl : List (Str × Addr)} (hkind : scope.kind = .function) {C : Addr} {s : Shared} {Q : Unit → Shared → Prop} {E : Value → Shared → Prop} :
    ∀ (xs : List (Str × Pos)) (vals : List Value) (h : Heap) (tk0 : Nat) (mC : Str → Option Value), xs.length = vals.length → (∀ x ∈ xs, scope.names.lookup x.1 = some .local) → (xs.map (·.1)).Nodup → h.Ns C mC →
    (∀ h' tk' mC', (∀ b o, b ≠ C → h.get? b = some o → h'.get? b = some o) → h'.Ns C mC' → (∀ (k : Nat) (x : Str) (u : Value), (xs.map (·.1))[k]? = some x → vals[k]? = some u → mC' x = some u) → (∀ y, y ∉ xs.map (·.1) → mC' y = mC y) → Q () { s with heap := h', toks := tk' }) →
    wpAny (model prog w) A (assignInOrder (xs.map fun x => assign (.Name x.1 x.2) (compEnvC scope cl C env)) vals) Q E { s with heap := h, toks := tk0 } := by
  intro xs
  induction xs with
  | nil =>
    intro vals h tk0 mC hl _ _ hn hQ
    cases vals with
    | nil => exact assignInOrder_nil (hQ h tk0 mC (fun _ _ _ e => e) hn (fun k x u hx => by simp at hx) (fun _ _ => rfl))
    | cons _ _ => cases hl
  | cons x xs ih =>
    intro vals h tk0 mC hl hx nd hn hQ
    cases vals with
    | nil => cases hl
    | cons v vals =>
      refine assignInOrder_cons (wpAny_assign_Name (wpAny_storeName_local (lookup_relabel_local (hx x (.head _))) hn (fun h₂ hn₂ hs₂ => ?_) (by simp [compEnvC, relabel, hkind])))
      have nd' := List.nodup_cons.mp nd
      refine ih vals h₂ _ _ (by simpa using hl) (fun y hy => hx y (.tail _ hy)) nd'.2 hn₂ fun h3 tk3 mC3 hk3 hn3 hv3 ho3 => ?_
      refine hQ h3 tk3 mC3 (fun b o hb e => hk3 b o hb (hs₂.extBut b o hb e)) hn3 (fun k y u hy hu => ?_) fun y hy => ?_
      · cases k with
        | zero =>
          simp at hy hu
          subst hy; subst hu
          rw [ho3 _ nd'.1]; simp
        | succ k => exact hv3 k y u (by simpa using hy) (by simpa using hu)
      · simp only [List.map_cons, List.mem_cons, not_or] at hy
        rw [ho3 _ hy.2]
        simp [hy.1]
theorem each_names (xs : List (Str × Pos)) (env' : Env) : assignEach (xs.map fun x => Expr.Name x.1 x.2) env' = xs.map fun x => (false, assign (.Name x.1 x.2) env') := by
  induction xs with
  | nil => rfl
  | cons x xs ih => rw [List.map_cons, List.map_cons, ← ih]; rfl
theorem tgt_tuple {scope : Scope} {cl : List (Str × Addr)} {xs : List (Str × Pos)} {tk} {tp : Pos} (hh : A.handled = none) (hkind : scope.kind = .function) (hx : ∀ x ∈ xs, scope.names.lookup x.1 = some .local) (nd : (xs.map (·.1)).Nodup) :
    TgtOk prog w A env scope cl (.Tuple (xs.map fun x => .Name x.1 x.2) tk tp) (xs.map (·.1)) (ShpT xs.length) := by
  intro C I B i h tk0 s mC v vals Q E hit hs hn hQ
  obtain ⟨hl, t, rfl, ht⟩ := hs
  have e := fun env' => each_names xs env'
  refine wpAny_letOwnedTupleGo_listiter hit ?_
  refine assign_Tuple_tuple hh ht (by rw [e, List.length_map]; simp [hl]) (by rw [e]; simp) fun h5 he => ?_
  have he' : ∀ b o, h.get? b = some o → h5.get? b = some o := fun b o e => he b o (Nat.ne_of_lt (Heap.lt_size e)) e
  rw [e, List.map_map]
  refine assign_names (s := s) hkind xs vals h5 _ mC (by rw [hl]) hx nd (hn.at' fun o e => he' _ o e) fun h' tk' mC' hk hn' hv _ => hQ h' tk' mC' (fun b o hb e => hk b o hb (he' b o e)) hn' hv
/-- what the element does -/
def EltOk (prog : Program) (w : World) (A : Around) (h₀ : Heap) (L : Addr) (m : Str → Option Value) (env : Env) (elt : Expr) (scope : Scope) (cl : List (Str × Addr)) (xs : List Str) (nb : List (Addr × Obj)) (its : List Value) (vals : Nat → List Value) (R : Nat → Value → List (Addr × Obj) → Prop) : Prop :=
  ∀ i ys n nw I oI C oC D m₂ h tk (s : Shared) (E' : Value → Shared → Prop), i < its.length → NsObj oC m₂ → (∀ (k : Nat) (x : Str) (u : Value), xs[k]? = some x → (vals i)[k]? = some u → m₂ x = some u) → (∀ p ∈ nb, p ∈ nw) →
    Fr h₀ L h m → News h₀ L h ((I, oI) :: (C, oC) :: (D, lstO ys n) :: nw) → 
    wpAny (model prog w) A (eval elt (compEnvC scope cl C env)) (fun r s₂ => ∃ h' tk' nw', s₂ = { s with heap := h', toks := tk' } ∧ Fr h₀ L h' m ∧ News h₀ L h' ((I, oI) :: (C, oC) :: (D, lstO ys n) :: (nw ++ nw')) ∧
      (∀ p ∈ nw', I < p.1 ∧ C < p.1 ∧ D < p.1) ∧ R i r nw') E' { s with heap := h, toks := tk }
theorem the_loop {RR : Result → Shared → Prop} {elt tgt iter : Expr} {xs : List Str} {Shp : Heap → Value → List Value → Prop} {scope : Scope} {pos : Pos} {cl : List (Str × Addr)} {nb : List (Addr × Obj)} {its : List Value} {vals : Nat → List Value} {R : Nat → Value → List (Addr × Obj) → Prop}
    (tg : TgtOk prog w A env scope cl tgt xs Shp) (hShp : ∀ (h : Heap) (i : Nat) (v : Value), its[i]? = some v → (∀ p ∈ nb, h.get? p.1 = some p.2) → Shp h v (vals i)) (hRm : ∀ i r nw nw', R i r nw → (∀ p ∈ nw, p ∈ nw') → R i r nw')
    (el : EltOk prog w A h₀ L m env elt scope cl xs nb its vals R) (hh : A.handled = none) {B I C D : Addr} {bn : Nat} (hB : (B, lstO its bn) ∈ nb) (hcap : its.length ≤ sizeLine) (hIC : I ≠ C) (hID : I ≠ D) (hCD : C ≠ D) :
    ∀ (N0 : Nat) (s : Shared) (i : Nat) (ys : List Value) (n : Nat) (nw : List (Addr × Obj)) (oI oC : Obj) (mC : Str → Option Value), N0 = its.length - i → i ≤ its.length → itO oI B i → NsObj oC mC → (∀ p ∈ nb, p ∈ nw) →
      (∀ p ∈ nw, p.1 ≠ I ∧ p.1 ≠ C ∧ p.1 ≠ D) → Fr h₀ L s.heap m → News h₀ L s.heap ((I, oI) :: (C, oC) :: (D, lstO ys n) :: nw) → ys.length = i → (∀ k, k < i → ∃ y, ys[k]? = some y ∧ R k y nw) →
      (∀ h' tk' ys' n' nw' oC' mC', Fr h₀ L h' m → News h₀ L h' ((C, oC') :: (D, lstO ys' n') :: (nw ++ nw')) → (∀ p ∈ nw ++ nw', p.1 ≠ C ∧ p.1 ≠ D) → NsObj oC' mC' → ys'.length = its.length → (∀ k, k < its.length → ∃ y, ys'[k]? = some y ∧ R k y (nw ++ nw')) → RR (.ok .next) { s with heap := h', toks := tk' }) →
      codeAny (model prog w) A (.compLoop (ce elt tgt iter scope pos) 0 (.ref I) (.ref D) (compEnvC scope cl C env)) RR s := by
  intro N0
  induction N0 with
  | zero =>
    intro s i ys n nw oI oC mC hN hi hit hoC hnb off F N hys hR hQ
    have ei : i = its.length := by omega
    subst ei
    refine codeAny_of_tree ?_
    show wpAny _ A ((compTurn (ce elt tgt iter scope pos) 0 (.ref I) (.ref D) (compEnvC scope cl C env)).onRaise (fun x => do noteFrame x (compEnvC scope cl C env); theTreesLotGoes x)) _ _ s
    refine wpAny_noted ?_
    rw [compTurn_list1]
    refine wpAny_bind (wpAny_standAt (wpAny_bind ?_))
    have zI := N _ (.head _)
    have hl : s.heap.IsList B its.toArray := ⟨_, (N _ (.tail _ (.tail _ (.tail _ (hnb _ hB))))).1, rfl, bn, rfl⟩
    refine wpAny_pyNext_list_end hh ⟨oI, zI.1, hit.1, hit.2⟩ hl (by simp) fun h₁ hs₁ => ?_
    refine wpAny_pure ?_
    have hk : ∀ b o, b ≠ I → s.heap.get? b = some o → h₁.get? b = some o := fun b o hb e => hs₁ b o hb e
    refine hQ h₁ _ ys n [] oC mC (LCg.fr_but (I := I) F (fun b o hb e => hk b o (by simpa using hb) e) (Ne.symm zI.2.1) zI.2.2) (fun p hp => ?_) (fun p hp => ?_) hoC hys (by rw [List.append_nil]; exact hR)
    · rw [List.append_nil] at hp
      have hp' := N p (.tail _ hp)
      refine ⟨hk _ _ ?_ hp'.1, hp'.2⟩
      rcases List.mem_cons.mp hp with rfl | hp
      · exact Ne.symm hIC
      rcases List.mem_cons.mp hp with rfl | hp
      · exact Ne.symm hID
      · exact (off p hp).1
    · rw [List.append_nil] at hp
      exact (off p hp).2
  | succ N0 ih =>
    intro s i ys n nw oI oC mC hN hi hit hoC hnb off F N hys hR hQ
    have hlt : i < its.length := by omega
    refine codeAny_of_tree ?_
    show wpAny _ A ((compTurn (ce elt tgt iter scope pos) 0 (.ref I) (.ref D) (compEnvC scope cl C env)).onRaise (fun x => do noteFrame x (compEnvC scope cl C env); theTreesLotGoes x)) _ _ s
    refine wpAny_noted ?_
    rw [compTurn_list1]
    refine wpAny_bind (wpAny_standAt (wpAny_bind ?_))
    have zI := N _ (.head _)
    have zC := N _ (.tail _ (.head _))
    have hl : s.heap.IsList B its.toArray := ⟨_, (N _ (.tail _ (.tail _ (.tail _ (hnb _ hB))))).1, rfl, bn, rfl⟩
    refine wpAny_pyNext_list_item ⟨oI, zI.1, hit.1, hit.2⟩ hl (x := its[i]) (by simp [hlt]) fun h₁ hit₁ hs₁ => ?_
    have hitI := hit₁
    obtain ⟨oI1, hoI1, hcI1, hdI1⟩ := hit₁
    have offI : ∀ p ∈ (C, oC) :: (D, lstO ys n) :: nw, p.1 ≠ I := fun p hp => by
      rcases List.mem_cons.mp hp with rfl | hp
      · exact Ne.symm hIC
      rcases List.mem_cons.mp hp with rfl | hp
      · exact Ne.symm hID
      · exact (off p hp).1
    have N1 := C2.news_head N offI (fun b o hb e => hs₁.extBut b o hb e) hoI1
    have F1 : Fr h₀ L h₁ m := F.change hs₁ zI.2.1 zI.2.2
    have hCns : h₁.Ns C mC := hoC.ns (N1 _ (.tail _ (.head _))).1
    have hsh : Shp h₁ its[i] (vals i) := hShp h₁ i _ (by simp [hlt]) fun p hp => (N1 p (.tail _ (.tail _ (.tail _ (hnb p hp))))).1
    refine wpAny_bind (wpAny_mono (tg C I B (i + 1) h₁ _ s mC its[i] (vals i) _ _ hitI hsh hCns fun h₂ tk2 mC2 hk2 hn2 hv2 => ?_) (fun _ _ hq => wpAny_bind hq) fun _ _ e => e)
    obtain ⟨oC2, heC2, hoC2⟩ := ns_obj hn2
    have F2 : Fr h₀ L h₂ m := LCg.fr_but (I := C) F1 (fun b o hb e => hk2 b o (by simpa using hb) e) (Ne.symm zC.2.1) zC.2.2
    have N1' : News h₀ L h₁ ((C, oC) :: (I, oI1) :: (D, lstO ys n) :: nw) := News.sub N1 fun p hp => by
      (revert hp; revert p; walk_at "mine.sub")
    have offC : ∀ p ∈ (I, oI1) :: (D, lstO ys n) :: nw, p.1 ≠ C := fun p hp => by
      rcases List.mem_cons.mp hp with rfl | hp
      · exact hIC
      rcases List.mem_cons.mp hp with rfl | hp
      · exact Ne.symm hCD
      · exact (off p hp).2.1
    have N2' := C2.news_head N1' offC hk2 heC2
    have N2 : News h₀ L h₂ ((I, oI1) :: (C, oC2) :: (D, lstO ys n) :: nw) := News.sub N2' fun p hp => by
      (revert hp; revert p; walk_at "mine.sub")
    refine wpAny_bind (wpAny_bind (wpAny_mono (el i ys n nw I oI1 C oC2 D _ h₂ _ s _ hlt hoC2 hv2 hnb F2 N2) (fun r5 s5 h5 => ?_) fun _ _ e => e))
    obtain ⟨h', tk', nw', rfl, F5, N5, off5, hT⟩ := h5
    have N6 : News h₀ L h' ((D, lstO ys n) :: ((I, oI1) :: (C, oC2) :: (nw ++ nw'))) := News.sub N5 fun p hp => by
      (revert hp; revert p; walk_at "mine.sub")
    have off6 : ∀ p ∈ nw ++ nw', p.1 ≠ I ∧ p.1 ≠ C ∧ p.1 ≠ D := fun p hp => by
      rcases List.mem_append.mp hp with hp | hp
      · exact off p hp
      · have := off5 p hp
        exact ⟨Nat.ne_of_gt this.1, Nat.ne_of_gt this.2.1, Nat.ne_of_gt this.2.2⟩
    refine wpAny_bind (append_top F5 N6 (fun p hp => ?_) (by omega) fun n' h7 F7 N7 => ?_)
    · rcases List.mem_cons.mp hp with rfl | hp
      · exact hID
      rcases List.mem_cons.mp hp with rfl | hp
      · exact hCD
      · exact (off6 p hp).2.2
    refine wpAny_pure (wpAny_pure ⟨rfl, ?_⟩)
    refine ih { s with heap := h7, toks := tk' } (i + 1) (ys ++ [r5]) n' (nw ++ nw') oI1 oC2 _ (by omega) hlt ⟨hcI1, hdI1⟩ hoC2 (fun p hp => List.mem_append_left _ (hnb p hp)) off6 F7 (News.sub N7 fun p hp => ?_) (by simp [hys]) ?_ ?_
    · (revert hp; revert p; walk_at "mine.sub")
    · intro k hk
      rcases Nat.lt_or_ge k i with h | h
      · obtain ⟨y, hy, hr⟩ := hR k h
        exact ⟨y, by rw [List.getElem?_append_left (by omega)]; exact hy, hRm _ _ _ _ hr fun p hp => List.mem_append_left _ hp⟩
      · have e : k = i := by omega
        subst e
        exact ⟨r5, by rw [List.getElem?_append_right (by omega), hys, Nat.sub_self]; rfl, hRm _ _ _ _ hT fun p hp => List.mem_append_right _ hp⟩
    · intro h8 tk8 ys8 n8 nw8 oC8 mC8 F8 N8 off8 hn8 hl8 hR8
      rw [List.append_assoc] at N8 off8 hR8
      exact hQ h8 tk8 ys8 n8 (nw' ++ nw8) oC8 mC8 F8 N8 off8 hn8 hl8 hR8
def Src (prog : Program) (w : World) (A : Around) (h₀ : Heap) (L : Addr) (m : Str → Option Value) (env : Env) (elt : Expr) (scope : Scope) (cl : List (Str × Addr)) (xs : List Str) (Shp : Heap → Value → List Value → Prop) (Q : Value → Shared → Prop) (xv : Value) (s₁ : Shared) : Prop :=
  ∃ B its bn vals R news, xv = .ref B ∧ Fr h₀ L s₁.heap m ∧ News h₀ L s₁.heap news ∧ (B, lstO its bn) ∈ news ∧ its.length ≤ sizeLine ∧ (∀ (h : Heap) (i : Nat) (v : Value), its[i]? = some v → (∀ p ∈ news, h.get? p.1 = some p.2) → Shp h v (vals i)) ∧ (∀ i r nw nw', R i r nw → (∀ p ∈ nw, p ∈ nw') → R i r nw') ∧
    EltOk prog w A h₀ L m env elt scope cl xs news its vals R ∧ (∀ D ys n news' h tk, Fr h₀ L h m → News h₀ L h ((D, lstO ys n) :: (news ++ news')) → (∀ p ∈ news ++ news', p.1 ≠ D) → ys.length = its.length → (∀ k, k < its.length → ∃ y, ys[k]? = some y ∧ R k y (news ++ news')) → Q (.ref D) { s₁ with heap := h, toks := tk })
theorem ListComp_1 {Q E : Value → Shared → Prop} {s : Shared} {elt tgt iter : Expr} {xs : List Str} {Shp : Heap → Value → List Value → Prop} {scope : Scope} {cl : List (Str × Addr)} {pos : Pos} (_F₀ : Fr h₀ L s.heap m) (hh : A.handled = none)
    (hclos : closureFor scope env = pure cl) (hcell : ∀ y ∈ scope.names, y.2 ≠ .cell) (hkind : scope.kind = .function)
    (hnames : ∀ y ∈ scope.names, y.2 = .local → scope.names.lookup y.1 = some .local) (tg : TgtOk prog w A env scope cl tgt xs Shp)
    (hs : ∀ x, foldedSetIterable iter env x = pure x)
    (h : wpAny (model prog w) A (eval iter env) (Src prog w A h₀ L m env elt scope cl xs Shp Q) E s) :
    wpAny (model prog w) A (eval (ce elt tgt iter scope pos) env) Q E s := by
  rw [eval_ListComp]
  refine wpAny_comprehension_free (use := none) rfl hs hclos hkind hnames (wpAny_mono h (fun xv s₁ h₁ => ?_) fun _ _ e => e)
  obtain ⟨B, its, bn, vals, R, news, rfl, F, N, hB, hcap, hShp, hRm, el, fin⟩ := h₁
  have hl : s₁.heap.IsList B its.toArray := ⟨_, (N _ hB).1, rfl, bn, rfl⟩
  refine wpAny_pyIter_list hl ?_
  refine wpAny_newObj_type (wpAny_newFunctionEnv hcell (by intro y hy; simp at hy) (fun h₁ hns₁ hsb₁ => ?_) hkind)
  dsimp only at hns₁ hsb₁ ⊢
  have hI : s₁.heap.objs.size < (s₁.heap.push { cls := .type "list_iterator", data := .fields #[.ref B, .int 0 0] }).objs.size := by rw [Heap.size_push]; exact Nat.lt_succ_self _
  have upI : ∀ b o, s₁.heap.get? b = some o → (s₁.heap.push { cls := .type "list_iterator", data := .fields #[.ref B, .int 0 0] }).get? b = some o := fun b o e => Heap.get?_push_of_some _ e
  have hIo : (s₁.heap.push { cls := .type "list_iterator", data := .fields #[.ref B, .int 0 0] }).get? s₁.heap.objs.size = some { cls := .type "list_iterator", data := .fields #[.ref B, .int 0 0] } := Heap.get?_push_size _ rfl
  have FI := F.keeps upI
  have NI := N.grown upI
  have hI₀ : h₀.get? s₁.heap.objs.size = none := next_is_new F
  have hIL : s₁.heap.objs.size ≠ L := Ne.symm (Nat.ne_of_lt F.ns.lt)
  generalize s₁.heap.push { cls := .type "list_iterator", data := .fields #[.ref B, .int 0 0] } = H1 at *
  have hD : H1.objs.size < (H1.push { cls := .type "list", dict := none, data := .seq ([] : List Value).toArray }).objs.size := by rw [Heap.size_push]; exact Nat.lt_succ_self _
  have upD : ∀ b o, H1.get? b = some o → (H1.push { cls := .type "list", dict := none, data := .seq ([] : List Value).toArray }).get? b = some o := fun b o e => Heap.get?_push_of_some _ e
  have hDo : (H1.push { cls := .type "list", dict := none, data := .seq ([] : List Value).toArray }).get? H1.objs.size = some (lstO [] 0) := Heap.get?_push_size _ rfl
  have FD := FI.keeps upD
  have ND := NI.grown upD
  have hD₀ : h₀.get? H1.objs.size = none := next_is_new FI
  have hDL : H1.objs.size ≠ L := Ne.symm (Nat.ne_of_lt FI.ns.lt)
  generalize H1.push { cls := .type "list", dict := none, data := .seq ([] : List Value).toArray } = H2 at *
  have hC₀ : h₀.get? H2.objs.size = none := next_is_new FD
  have hCL : H2.objs.size ≠ L := Ne.symm (Nat.ne_of_lt FD.ns.lt)
  have lt2 : ∀ b o, H2.get? b = some o → b ≠ H2.objs.size := fun b o e => Nat.ne_of_lt (Heap.lt_size e)
  have old : ∀ b o, H2.get? b = some o → h₁.get? b = some o := fun b o e => hsb₁.extBut b o (lt2 b o e) (Heap.get?_push_of_some _ e)
  have hIC : s₁.heap.objs.size ≠ H2.objs.size := Nat.ne_of_lt (Nat.lt_trans hI hD)
  have hID : s₁.heap.objs.size ≠ H1.objs.size := Nat.ne_of_lt hI
  have hCD : H2.objs.size ≠ H1.objs.size := Nat.ne_of_gt hD
  obtain ⟨oC, heC, hoC⟩ := ns_obj hns₁
  have N4 : News h₀ L h₁ ((s₁.heap.objs.size, { cls := .type "list_iterator", data := .fields #[.ref B, .int 0 0] }) :: (H2.objs.size, oC) :: (H1.objs.size, lstO [] 0) :: news) := fun p hp => by
    rcases List.mem_cons.mp hp with rfl | hp
    · exact ⟨old _ _ (upD _ _ hIo), hIL, hI₀⟩
    rcases List.mem_cons.mp hp with rfl | hp
    · exact ⟨heC, hCL, hC₀⟩
    rcases List.mem_cons.mp hp with rfl | hp
    · exact ⟨old _ _ hDo, hDL, hD₀⟩
    · exact ⟨old _ _ (ND p hp).1, (ND p hp).2⟩
  have off4 : ∀ p ∈ news, p.1 ≠ s₁.heap.objs.size ∧ p.1 ≠ H2.objs.size ∧ p.1 ≠ H1.objs.size := fun p hp =>
    ⟨Nat.ne_of_lt (Heap.lt_size (N p hp).1), lt2 _ _ (ND p hp).1, Nat.ne_of_lt (Heap.lt_size (NI p hp).1)⟩
  have loop : ∀ s₃ : Shared, s₃.heap = h₁ → (∃ tk, s₃ = { s₁ with heap := h₁, toks := tk }) → codeAny (model prog w) A (.compLoop (ce elt tgt iter scope pos) 0 (.ref s₁.heap.objs.size) (.ref H1.objs.size) (compEnvC scope cl H2.objs.size env))
      (compPost (model prog w) A E none Q (.ref H1.objs.size) H2.objs.size) s₃ := by
    rintro s₃ - ⟨tk3, rfl⟩
    refine the_loop tg hShp hRm el hh hB hcap hIC hID hCD its.length _ 0 [] 0 news { cls := .type "list_iterator", data := .fields #[.ref B, .int 0 0] } oC _ rfl (Nat.zero_le _) ⟨rfl, rfl⟩ hoC (fun p hp => hp) off4 (FD.keeps old) N4 rfl (fun k hk => absurd hk (Nat.not_lt_zero _)) ?_
    intro h' tk' ys' n' nw' oC' mC' F' N' off' hn' hl' hR'
    have zC := N' _ (.head _)
    refine ⟨mC', hn'.ns zC.1, fun h'' hs'' => ?_⟩
    refine fin H1.objs.size ys' n' nw' h'' tk' (F'.change hs'' zC.2.1 zC.2.2) (fun p hp => ?_) (fun p hp => (off' p hp).2) hl' hR'
    have zp := N' p (.tail _ hp)
    refine ⟨hs''.extBut _ _ ?_ zp.1, zp.2⟩
    rcases List.mem_cons.mp hp with rfl | hp
    · exact Ne.symm hCD
    · exact (off' p hp).1
  refine codeAny_compStart_list (loop _ rfl ⟨_, rfl⟩) (wpAny_pyIter_listiter (l := B) (i := 0) ⟨_, (N4 _ (.head _)).1, rfl, rfl⟩ (loop _ rfl ⟨_, rfl⟩))
end
end C1
end
section
set_option maxRecDepth 100000
theorem fresh_Cmq : True := by (w_top off; trivial)
def Cell.dat : Cell → Dat
  | .s x => .str x
  | .i k => .int k
theorem datIn {tl : List (Addr × Obj)} {v : Value} {c : Cell} (h : CellV v c) : DatIn tl v c.dat := by
  cases h with
  | s x t => exact .str x t
  | i i t => exact .int i t
theorem datAll {tl : List (Addr × Obj)} : ∀ {vs : List Value} {cs : List Cell}, All2 CellV vs cs → DatAll tl vs (cs.map Cell.dat)
  | _, _, .nil => .nil
  | _, _, .cons a r => .cons (datIn a) (datAll r)
theorem datRows {tl : List (Addr × Obj)} : ∀ {vs : List Value} {rs : List (List Cell)}, Rows tl vs rs → DatAll tl vs (rs.map fun r => Dat.tuple (r.map Cell.dat))
  | _, _, .nil => .nil
  | _, _, .cons a r => by
    obtain ⟨t, vs, n, rfl, hm, hc⟩ := a
    exact .cons (.tuple hm (datAll hc)) (datRows r)
def Cell.fine : Cell → Prop
  | .s x => PyData.strOk x = true
  | .i _ => True
theorem fine_ok {c : Cell} (h : c.fine) (n : Nat) : kqdOk n c.dat = true := by
  cases c with
  | s x => cases n <;> exact h
  | i i => cases n <;> rfl
section
variable {prog : Program} {w : World} {A : Around} {E : Value → Shared → Prop} {s : Shared} {h₀ : Heap} {L a b : Addr} {news : List (Addr × Obj)} {xs ys : List Value} {ka kb : Nat} {Q : Value → Shared → Prop}
theorem rows_ok {rs : List (List Cell)} (h : ∀ r ∈ rs, ∀ c ∈ r, c.fine) : ∀ d ∈ rs.map (fun r => Dat.tuple (r.map Cell.dat)), kqdOk 8 d = true := by
  intro d hd
  obtain ⟨r, hr, rfl⟩ := List.mem_map.mp hd
  simp only [kqdOk, List.all_eq_true]
  intro d hd
  obtain ⟨c, hc, rfl⟩ := List.mem_map.mp hd
  exact fine_ok (h r hr c hc) 7
theorem cells_ok {cs : List Cell} (h : ∀ c ∈ cs, c.fine) : ∀ d ∈ cs.map Cell.dat, kqdOk 8 d = true := by
  intro d hd
  obtain ⟨c, hc, rfl⟩ := List.mem_map.mp hd
  exact fine_ok (h c hc) 8
theorem rows_ne {rs : List (List Cell)} (N : News h₀ L s.heap news) (ma : (a, lstO xs ka) ∈ news) (ra : Rows news xs rs) (mb : (b, lstO ys kb) ∈ news) (rb : Rows news ys rs) (h : ∀ r ∈ rs, ∀ c ∈ r, c.fine) (hu : A.units + 64 < cLine) (hQ : Q (.bool false) s) :
    wpAny (model prog w) A (compareOp .NotEq (.ref a) (.ref b)) Q E s := by
  refine kqd_ne N ma rfl rfl (datRows ra) (fun _ h => h) mb rfl rfl (datRows rb) (fun _ h => h) (rows_ok h) (rows_ok h) hu ?_
  simpa using hQ
theorem rows_eq {rs : List (List Cell)} (N : News h₀ L s.heap news) (ma : (a, lstO xs ka) ∈ news) (ra : Rows news xs rs) (mb : (b, lstO ys kb) ∈ news) (rb : Rows news ys rs) (h : ∀ r ∈ rs, ∀ c ∈ r, c.fine) (hu : A.units + 64 < cLine) (hQ : Q (.bool true) s) :
    wpAny (model prog w) A (compareOp .Eq (.ref a) (.ref b)) Q E s := by
  refine kqd_eq N ma rfl rfl (datRows ra) (fun _ h => h) mb rfl rfl (datRows rb) (fun _ h => h) (rows_ok h) (rows_ok h) hu ?_
  simpa using hQ
theorem cells_ne {cs : List Cell} (N : News h₀ L s.heap news) (ma : (a, lstO xs ka) ∈ news) (ra : All2 CellV xs cs) (mb : (b, lstO ys kb) ∈ news) (rb : All2 CellV ys cs) (h : ∀ c ∈ cs, c.fine) (hu : A.units + 64 < cLine) (hQ : Q (.bool false) s) :
    wpAny (model prog w) A (compareOp .NotEq (.ref a) (.ref b)) Q E s := by
  refine kqd_ne N ma rfl rfl (datAll (tl := news) ra) (fun _ h => h) mb rfl rfl (datAll (tl := news) rb) (fun _ h => h) (cells_ok h) (cells_ok h) hu ?_
  simpa using hQ
end
end
section
set_option maxRecDepth 100000
theorem fresh_Cmr : True := by (w_top off; trivial)
namespace C1
open LCg
section
variable {prog : Program} {w : World} {A : Around} {h₀ : Heap} {L : Addr} {m : Str → Option Value} {env : Env}
theorem vals_of {news : List (Addr × Obj)} {its : List Value} {rs : List (List Cell)} (hr : Rows news its rs) : ∃ vals : Nat → List Value, ∀ (i : Nat) (v : Value), its[i]? = some v → ∃ t k r, v = .ref t ∧ (t, tupO (vals i) k) ∈ news ∧ rs[i]? = some r ∧ All2 CellV (vals i) r := by
  have h : ∀ i : Nat, ∃ vs : List Value, ∀ v : Value, its[i]? = some v → ∃ t k r, v = .ref t ∧ (t, tupO vs k) ∈ news ∧ rs[i]? = some r ∧ All2 CellV vs r := by
    intro i
    cases e : its[i]? with
    | none => exact ⟨[], fun v hv => by cases hv⟩
    | some v =>
      obtain ⟨r, hr2, t, vs, k, e1, e2, e3⟩ := hr.getL e
      exact ⟨vs, fun v' hv => by cases hv; exact ⟨t, k, r, e1, e2, hr2, e3⟩⟩
  exact ⟨fun i => Classical.choose (h i), fun i => Classical.choose_spec (h i)⟩
/-- an element at a row -/
def EltR (prog : Program) (w : World) (A : Around) (h₀ : Heap) (L : Addr) (m : Str → Option Value) (env : Env) (elt : Expr) (scope : Scope) (cl : List (Str × Addr)) (xs : List Str) (nb : List (Addr × Obj)) (rs : List (List Cell)) (R : List Cell → Value → List (Addr × Obj) → Prop) : Prop :=
  ∀ (i : Nat) r vals ys n nw I oI C oC D m₂ h tk (s : Shared) (E' : Value → Shared → Prop), rs[i]? = some r → All2 CellV vals r → NsObj oC m₂ → (∀ (k : Nat) (x : Str) (u : Value), xs[k]? = some x → vals[k]? = some u → m₂ x = some u) → (∀ p ∈ nb, p ∈ nw) →
    Fr h₀ L h m → News h₀ L h ((I, oI) :: (C, oC) :: (D, lstO ys n) :: nw) → 
    wpAny (model prog w) A (eval elt (compEnvC scope cl C env)) (fun v s₂ => ∃ h' tk' nw', s₂ = { s with heap := h', toks := tk' } ∧ Fr h₀ L h' m ∧ News h₀ L h' ((I, oI) :: (C, oC) :: (D, lstO ys n) :: (nw ++ nw')) ∧
      (∀ p ∈ nw', I < p.1 ∧ C < p.1 ∧ D < p.1) ∧ R r v nw') E' { s with heap := h, toks := tk }
theorem src_rows {Q : Value → Shared → Prop} {s₁ : Shared} {elt : Expr} {scope : Scope} {cl : List (Str × Addr)} {xs : List Str} {n : Nat} {B : Addr} {its : List Value} {bn : Nat} {news : List (Addr × Obj)} {rs : List (List Cell)} (R : List Cell → Value → List (Addr × Obj) → Prop)
    (F : Fr h₀ L s₁.heap m) (N : News h₀ L s₁.heap news) (hB : (B, lstO its bn) ∈ news) (hr : Rows news its rs) (hcol : ∀ r ∈ rs, r.length = n) (hcap : rs.length ≤ 1000) (hRm : ∀ r v nw nw', R r v nw → (∀ p ∈ nw, p ∈ nw') → R r v nw')
    (el : EltR prog w A h₀ L m env elt scope cl xs news rs R)
    (fin : ∀ D ys n news' h tk, Fr h₀ L h m → News h₀ L h ((D, lstO ys n) :: (news ++ news')) → (∀ p ∈ news ++ news', p.1 ≠ D) → All2 (fun y r => R r y (news ++ news')) ys rs → Q (.ref D) { s₁ with heap := h, toks := tk }) :
    Src prog w A h₀ L m env elt scope cl xs (ShpT n) Q (.ref B) s₁ := by
  obtain ⟨vals, hv⟩ := vals_of hr
  refine ⟨B, its, bn, vals, fun i v nw => ∀ r, rs[i]? = some r → R r v nw, news, rfl, F, N, hB, by rw [hr.length, sizeLine_eq]; omega, fun h i v hi hn => ?_, fun i r nw nw' hR hs r' hr' => hRm _ _ _ _ (hR r' hr') hs, ?_, ?_⟩
  · obtain ⟨t, k, r, rfl, hm, hri, hc⟩ := hv i v hi
    exact ⟨by rw [hc.length, hcol r (List.mem_of_getElem? hri)], t, rfl, _, hn _ hm, rfl, k, rfl⟩
  · intro i ys n nw I oI C oC D m₂ h tk s E' hi hoC hx hnb F' N'
    obtain ⟨t, k, r, e1, hm, hri, hc⟩ := hv i its[i] (List.getElem?_eq_getElem hi)
    refine wpAny_mono (el i r (vals i) ys n nw I oI C oC D m₂ h tk s E' hri hc hoC hx hnb F' N') (fun v s₂ h2 => ?_) fun _ _ e => e
    obtain ⟨h', tk', nw', a, b, c, d, e⟩ := h2
    exact ⟨h', tk', nw', a, b, c, d, fun r' hr' => by rw [hri] at hr'; cases hr'; exact e⟩
  · intro D ys n' news' h tk F' N' off hl hR
    refine fin D ys n' news' h tk F' N' off (All2.ofGet (by rw [hl, hr.length]) fun i y r hy hri => ?_)
    have hi : i < its.length := by
      rw [← hl]
      rcases Nat.lt_or_ge i ys.length with h | h
      · exact h
      · rw [List.getElem?_eq_none h] at hy; cases hy
    obtain ⟨y', hy', hR'⟩ := hR i hi
    rw [hy] at hy'; cases hy'
    exact hR' r hri
theorem src_cells {Q : Value → Shared → Prop} {s₁ : Shared} {elt : Expr} {scope : Scope} {cl : List (Str × Addr)} {x : Str} {B : Addr} {its : List Value} {bn : Nat} {news : List (Addr × Obj)} (R : Nat → Value → List (Addr × Obj) → Prop)
    (F : Fr h₀ L s₁.heap m) (N : News h₀ L s₁.heap news) (hB : (B, lstO its bn) ∈ news) (hcap : its.length ≤ 1000) (hRm : ∀ r v nw nw', R r v nw → (∀ p ∈ nw, p ∈ nw') → R r v nw')
    (el : ∀ (i : Nat) v ys n nw I oI C oC D m₂ h tk (s : Shared) (E' : Value → Shared → Prop), its[i]? = some v → NsObj oC m₂ → m₂ x = some v → (∀ p ∈ news, p ∈ nw) →
    Fr h₀ L h m → News h₀ L h ((I, oI) :: (C, oC) :: (D, lstO ys n) :: nw) → 
    wpAny (model prog w) A (eval elt (compEnvC scope cl C env)) (fun v s₂ => ∃ h' tk' nw', s₂ = { s with heap := h', toks := tk' } ∧ Fr h₀ L h' m ∧ News h₀ L h' ((I, oI) :: (C, oC) :: (D, lstO ys n) :: (nw ++ nw')) ∧
      (∀ p ∈ nw', I < p.1 ∧ C < p.1 ∧ D < p.1) ∧ R i v nw') E' { s with heap := h, toks := tk })
    (fin : ∀ D ys n news' h tk, Fr h₀ L h m → News h₀ L h ((D, lstO ys n) :: (news ++ news')) → (∀ p ∈ news ++ news', p.1 ≠ D) → ys.length = its.length → (∀ k, k < its.length → ∃ y, ys[k]? = some y ∧ R k y (news ++ news')) → Q (.ref D) { s₁ with heap := h, toks := tk }) :
    Src prog w A h₀ L m env elt scope cl [x] ShpN Q (.ref B) s₁ := by
  refine ⟨B, its, bn, fun i => [its.getD i .none], R, news, rfl, F, N, hB, by rw [sizeLine_eq]; omega, fun h i v hi hn => ?_, hRm, ?_, fin⟩
  · show [its.getD i .none] = [v]
    rw [List.getD_eq_getElem?_getD, hi]; rfl
  · intro i ys n nw I oI C oC D m₂ h tk s E' hi hoC hx hnb F' N'
    refine el i its[i] ys n nw I oI C oC D m₂ h tk s E' (List.getElem?_eq_getElem hi) hoC (hx 0 x _ rfl ?_) hnb F' N'
    rw [List.getElem?_cons_zero, List.getD_eq_getElem?_getD, List.getElem?_eq_getElem hi]; rfl
end
end C1
end
section
set_option maxRecDepth 100000
set_option maxHeartbeats 4000000
theorem fresh_Cma : True := by (w_top off; trivial)
namespace C1
open LCg
section
variable {prog : Program} {w : World} {A : Around} {h₀ : Heap} {L : Addr} {m : Str → Option Value} {env : Env}
def SrcA (yn : Str) (prog : Program) (w : World) (A : Around) (h₀ : Heap) (L : Addr) (m : Str → Option Value) (env : Env) (elt : Expr) (scope : Scope) (cl : List (Str × Addr)) (xs : List Str) (Shp : Heap → Value → List Value → Prop) (Q : Flow → Shared → Prop) (xv : Value) (s₁ : Shared) : Prop :=
  ∃ B its bn vals R news, xv = .ref B ∧ Fr h₀ L s₁.heap m ∧ News h₀ L s₁.heap news ∧ (B, lstO its bn) ∈ news ∧ its.length ≤ sizeLine ∧ (∀ (h : Heap) (i : Nat) (v : Value), its[i]? = some v → (∀ p ∈ news, h.get? p.1 = some p.2) → Shp h v (vals i)) ∧ (∀ i r nw nw', R i r nw → (∀ p ∈ nw, p ∈ nw') → R i r nw') ∧
    EltOk prog w A h₀ L m env elt scope cl xs news its vals R ∧ (∀ D ys n news' h tk, Fr h₀ L h (fun z => if z = yn then some (.ref D) else m z) → News h₀ L h ((D, lstO ys n) :: (news ++ news')) → (∀ p ∈ news ++ news', p.1 ≠ D) → ys.length = its.length → (∀ k, k < its.length → ∃ y, ys[k]? = some y ∧ R k y (news ++ news')) → Q .next { s₁ with heap := h, toks := tk })
theorem Assign_1 {yn : Str} {py spos : Pos} {Q : Flow → Shared → Prop} {E : Value → Shared → Prop} {s : Shared} {elt tgt iter : Expr} {xs : List Str} {Shp : Heap → Value → List Value → Prop} {scope : Scope} {cl : List (Str × Addr)} {pos : Pos} (_F₀ : Fr h₀ L s.heap m) (hh : A.handled = none)
    (hsw : swapsWith (ce elt tgt iter scope pos) (some (.Name yn py)) spos.line env = pure true) (hL : env.locals = L) (hy : env.kindOf yn = some .local) (hp : (env.scope.kind == .class || (env.scope.kind == .module && env.locals != env.globals)) = false)
    (hclos : closureFor scope env = pure cl) (hcell : ∀ y ∈ scope.names, y.2 ≠ .cell) (hkind : scope.kind = .function)
    (hnames : ∀ y ∈ scope.names, y.2 = .local → scope.names.lookup y.1 = some .local) (tg : TgtOk prog w A env scope cl tgt xs Shp)
    (hs : ∀ x, foldedSetIterable iter env x = pure x)
    (h : wpAny (model prog w) A (eval iter env) (SrcA yn prog w A h₀ L m env elt scope cl xs Shp Q) E s) :
    wpAny (model prog w) A (exec (.Assign [.Name yn py] (ce elt tgt iter scope pos) spos) env) Q E s := by
  rw [exec_Assign_Name_used _ _ _ _ hsw]
  refine wpAny_bind (wpAny_standAt (wpAny_bind ?_))
  show wpAny _ A (do let _ ← comprehension (ce elt tgt iter scope pos) scope env _ (newList []) false (eval iter env) (some (assign (.Name yn py) env))) _ _ s
  refine wpAny_bind (wpAny_mono (wpAny_comprehension_free (use := some (assign (.Name yn py) env)) (Q := fun _ s' => Q .next s') rfl hs hclos hkind hnames
    (wpAny_mono h (fun xv s₁ h₁ => ?_) fun _ _ e => e)) (fun _ s' hq => wpAny_pure (wpAny_pure hq)) fun _ _ e => e)
  obtain ⟨B, its, bn, vals, R, news, rfl, F, N, hB, hcap, hShp, hRm, el, fin⟩ := h₁
  have hl : s₁.heap.IsList B its.toArray := ⟨_, (N _ hB).1, rfl, bn, rfl⟩
  refine wpAny_pyIter_list hl ?_
  refine wpAny_newObj_type (wpAny_newFunctionEnv hcell (by intro y hy; simp at hy) (fun h₁ hns₁ hsb₁ => ?_) hkind)
  dsimp only at hns₁ hsb₁ ⊢
  have hI : s₁.heap.objs.size < (s₁.heap.push { cls := .type "list_iterator", data := .fields #[.ref B, .int 0 0] }).objs.size := by rw [Heap.size_push]; exact Nat.lt_succ_self _
  have upI : ∀ b o, s₁.heap.get? b = some o → (s₁.heap.push { cls := .type "list_iterator", data := .fields #[.ref B, .int 0 0] }).get? b = some o := fun b o e => Heap.get?_push_of_some _ e
  have hIo : (s₁.heap.push { cls := .type "list_iterator", data := .fields #[.ref B, .int 0 0] }).get? s₁.heap.objs.size = some { cls := .type "list_iterator", data := .fields #[.ref B, .int 0 0] } := Heap.get?_push_size _ rfl
  have FI := F.keeps upI
  have NI := N.grown upI
  have hI₀ : h₀.get? s₁.heap.objs.size = none := next_is_new F
  have hIL : s₁.heap.objs.size ≠ L := Ne.symm (Nat.ne_of_lt F.ns.lt)
  generalize s₁.heap.push { cls := .type "list_iterator", data := .fields #[.ref B, .int 0 0] } = H1 at *
  have hD : H1.objs.size < (H1.push { cls := .type "list", dict := none, data := .seq ([] : List Value).toArray }).objs.size := by rw [Heap.size_push]; exact Nat.lt_succ_self _
  have upD : ∀ b o, H1.get? b = some o → (H1.push { cls := .type "list", dict := none, data := .seq ([] : List Value).toArray }).get? b = some o := fun b o e => Heap.get?_push_of_some _ e
  have hDo : (H1.push { cls := .type "list", dict := none, data := .seq ([] : List Value).toArray }).get? H1.objs.size = some (lstO [] 0) := Heap.get?_push_size _ rfl
  have FD := FI.keeps upD
  have ND := NI.grown upD
  have hD₀ : h₀.get? H1.objs.size = none := next_is_new FI
  have hDL : H1.objs.size ≠ L := Ne.symm (Nat.ne_of_lt FI.ns.lt)
  generalize H1.push { cls := .type "list", dict := none, data := .seq ([] : List Value).toArray } = H2 at *
  have hC₀ : h₀.get? H2.objs.size = none := next_is_new FD
  have hCL : H2.objs.size ≠ L := Ne.symm (Nat.ne_of_lt FD.ns.lt)
  have lt2 : ∀ b o, H2.get? b = some o → b ≠ H2.objs.size := fun b o e => Nat.ne_of_lt (Heap.lt_size e)
  have old : ∀ b o, H2.get? b = some o → h₁.get? b = some o := fun b o e => hsb₁.extBut b o (lt2 b o e) (Heap.get?_push_of_some _ e)
  have hIC : s₁.heap.objs.size ≠ H2.objs.size := Nat.ne_of_lt (Nat.lt_trans hI hD)
  have hID : s₁.heap.objs.size ≠ H1.objs.size := Nat.ne_of_lt hI
  have hCD : H2.objs.size ≠ H1.objs.size := Nat.ne_of_gt hD
  obtain ⟨oC, heC, hoC⟩ := ns_obj hns₁
  have N4 : News h₀ L h₁ ((s₁.heap.objs.size, { cls := .type "list_iterator", data := .fields #[.ref B, .int 0 0] }) :: (H2.objs.size, oC) :: (H1.objs.size, lstO [] 0) :: news) := fun p hp => by
    rcases List.mem_cons.mp hp with rfl | hp
    · exact ⟨old _ _ (upD _ _ hIo), hIL, hI₀⟩
    rcases List.mem_cons.mp hp with rfl | hp
    · exact ⟨heC, hCL, hC₀⟩
    rcases List.mem_cons.mp hp with rfl | hp
    · exact ⟨old _ _ hDo, hDL, hD₀⟩
    · exact ⟨old _ _ (ND p hp).1, (ND p hp).2⟩
  have off4 : ∀ p ∈ news, p.1 ≠ s₁.heap.objs.size ∧ p.1 ≠ H2.objs.size ∧ p.1 ≠ H1.objs.size := fun p hp =>
    ⟨Nat.ne_of_lt (Heap.lt_size (N p hp).1), lt2 _ _ (ND p hp).1, Nat.ne_of_lt (Heap.lt_size (NI p hp).1)⟩
  have loop : ∀ s₃ : Shared, s₃.heap = h₁ → (∃ tk, s₃ = { s₁ with heap := h₁, toks := tk }) → codeAny (model prog w) A (.compLoop (ce elt tgt iter scope pos) 0 (.ref s₁.heap.objs.size) (.ref H1.objs.size) (compEnvC scope cl H2.objs.size env))
      (compPost (model prog w) A E (some (assign (.Name yn py) env)) (fun _ s' => Q .next s') (.ref H1.objs.size) H2.objs.size) s₃ := by
    rintro s₃ - ⟨tk3, rfl⟩
    refine the_loop tg hShp hRm el hh hB hcap hIC hID hCD its.length _ 0 [] 0 news { cls := .type "list_iterator", data := .fields #[.ref B, .int 0 0] } oC _ rfl (Nat.zero_le _) ⟨rfl, rfl⟩ hoC (fun p hp => hp) off4 (FD.keeps old) N4 rfl (fun k hk => absurd hk (Nat.not_lt_zero _)) ?_
    intro h' tk' ys' n' nw' oC' mC' F' N' off' hn' hl' hR'
    have zC := N' _ (.head _)
    have hLC : H2.objs.size ≠ L := hCL
    show wpAny _ A (assign (.Name yn py) env (.ref H1.objs.size)) _ _ _
    refine wpAny_assign_Name (wpAny_storeName_local hy (hL ▸ F'.ns) (fun h₂ hn₂ hs₂ => ?_) hp)
    rw [hL] at hn₂ hs₂
    have F2 := F'.set hn₂ hs₂
    have N2 := N'.set hs₂
    refine ⟨mC', (hn'.ns zC.1).sameBut hs₂ hLC, fun h'' hs'' => ?_⟩
    refine fin H1.objs.size ys' n' nw' h'' _ (F2.change hs'' zC.2.1 zC.2.2) (fun p hp => ?_) (fun p hp => (off' p hp).2) hl' hR'
    have zp := N2 p (.tail _ hp)
    refine ⟨hs''.extBut _ _ ?_ zp.1, zp.2⟩
    rcases List.mem_cons.mp hp with rfl | hp
    · exact Ne.symm hCD
    · exact (off' p hp).1
  refine codeAny_compStart_list (loop _ rfl ⟨_, rfl⟩) (wpAny_pyIter_listiter (l := B) (i := 0) ⟨_, (N4 _ (.head _)).1, rfl, rfl⟩ (loop _ rfl ⟨_, rfl⟩))
theorem src_rowsA {yn : Str} {Q : Flow → Shared → Prop} {s₁ : Shared} {elt : Expr} {scope : Scope} {cl : List (Str × Addr)} {xs : List Str} {n : Nat} {B : Addr} {its : List Value} {bn : Nat} {news : List (Addr × Obj)} {rs : List (List Cell)} (R : List Cell → Value → List (Addr × Obj) → Prop)
    (F : Fr h₀ L s₁.heap m) (N : News h₀ L s₁.heap news) (hB : (B, lstO its bn) ∈ news) (hr : Rows news its rs) (hcol : ∀ r ∈ rs, r.length = n) (hcap : rs.length ≤ 1000) (hRm : ∀ r v nw nw', R r v nw → (∀ p ∈ nw, p ∈ nw') → R r v nw')
    (el : EltR prog w A h₀ L m env elt scope cl xs news rs R)
    (fin : ∀ D ys n news' h tk, Fr h₀ L h (fun z => if z = yn then some (.ref D) else m z) → News h₀ L h ((D, lstO ys n) :: (news ++ news')) → (∀ p ∈ news ++ news', p.1 ≠ D) → All2 (fun y r => R r y (news ++ news')) ys rs → Q .next { s₁ with heap := h, toks := tk }) :
    SrcA yn prog w A h₀ L m env elt scope cl xs (ShpT n) Q (.ref B) s₁ := by
  obtain ⟨vals, hv⟩ := vals_of hr
  refine ⟨B, its, bn, vals, fun i v nw => ∀ r, rs[i]? = some r → R r v nw, news, rfl, F, N, hB, by rw [hr.length, sizeLine_eq]; omega, fun h i v hi hn => ?_, fun i r nw nw' hR hs r' hr' => hRm _ _ _ _ (hR r' hr') hs, ?_, ?_⟩
  · obtain ⟨t, k, r, rfl, hm, hri, hc⟩ := hv i v hi
    exact ⟨by rw [hc.length, hcol r (List.mem_of_getElem? hri)], t, rfl, _, hn _ hm, rfl, k, rfl⟩
  · intro i ys n nw I oI C oC D m₂ h tk s E' hi hoC hx hnb F' N'
    obtain ⟨t, k, r, e1, hm, hri, hc⟩ := hv i its[i] (List.getElem?_eq_getElem hi)
    refine wpAny_mono (el i r (vals i) ys n nw I oI C oC D m₂ h tk s E' hri hc hoC hx hnb F' N') (fun v s₂ h2 => ?_) fun _ _ e => e
    obtain ⟨h', tk', nw', a, b, c, d, e⟩ := h2
    exact ⟨h', tk', nw', a, b, c, d, fun r' hr' => by rw [hri] at hr'; cases hr'; exact e⟩
  · intro D ys n' news' h tk F' N' off hl hR
    refine fin D ys n' news' h tk F' N' off (All2.ofGet (by rw [hl, hr.length]) fun i y r hy hri => ?_)
    have hi : i < its.length := by
      rw [← hl]
      rcases Nat.lt_or_ge i ys.length with h | h
      · exact h
      · rw [List.getElem?_eq_none h] at hy; cases hy
    obtain ⟨y', hy', hR'⟩ := hR i hi
    rw [hy] at hy'; cases hy'
    exact hR' r hri
theorem src_cellsA {yn : Str} {Q : Flow → Shared → Prop} {s₁ : Shared} {elt : Expr} {scope : Scope} {cl : List (Str × Addr)} {x : Str} {B : Addr} {its : List Value} {bn : Nat} {news : List (Addr × Obj)} (R : Nat → Value → List (Addr × Obj) → Prop)
    (F : Fr h₀ L s₁.heap m) (N : News h₀ L s₁.heap news) (hB : (B, lstO its bn) ∈ news) (hcap : its.length ≤ 1000) (hRm : ∀ r v nw nw', R r v nw → (∀ p ∈ nw, p ∈ nw') → R r v nw')
    (el : ∀ (i : Nat) v ys n nw I oI C oC D m₂ h tk (s : Shared) (E' : Value → Shared → Prop), its[i]? = some v → NsObj oC m₂ → m₂ x = some v → (∀ p ∈ news, p ∈ nw) →
    Fr h₀ L h m → News h₀ L h ((I, oI) :: (C, oC) :: (D, lstO ys n) :: nw) → 
    wpAny (model prog w) A (eval elt (compEnvC scope cl C env)) (fun v s₂ => ∃ h' tk' nw', s₂ = { s with heap := h', toks := tk' } ∧ Fr h₀ L h' m ∧ News h₀ L h' ((I, oI) :: (C, oC) :: (D, lstO ys n) :: (nw ++ nw')) ∧
      (∀ p ∈ nw', I < p.1 ∧ C < p.1 ∧ D < p.1) ∧ R i v nw') E' { s with heap := h, toks := tk })
    (fin : ∀ D ys n news' h tk, Fr h₀ L h (fun z => if z = yn then some (.ref D) else m z) → News h₀ L h ((D, lstO ys n) :: (news ++ news')) → (∀ p ∈ news ++ news', p.1 ≠ D) → ys.length = its.length → (∀ k, k < its.length → ∃ y, ys[k]? = some y ∧ R k y (news ++ news')) → Q .next { s₁ with heap := h, toks := tk }) :
    SrcA yn prog w A h₀ L m env elt scope cl [x] ShpN Q (.ref B) s₁ := by
  refine ⟨B, its, bn, fun i => [its.getD i .none], R, news, rfl, F, N, hB, by rw [sizeLine_eq]; omega, fun h i v hi hn => ?_, hRm, ?_, fin⟩
  · show [its.getD i .none] = [v]
    rw [List.getD_eq_getElem?_getD, hi]; rfl
  · intro i ys n nw I oI C oC D m₂ h tk s E' hi hoC hx hnb F' N'
    refine el i its[i] ys n nw I oI C oC D m₂ h tk s E' (List.getElem?_eq_getElem hi) hoC (hx 0 x _ rfl ?_) hnb F' N'
    rw [List.getElem?_cons_zero, List.getD_eq_getElem?_getD, List.getElem?_eq_getElem hi]; rfl
end
end C1
end
section
set_option maxRecDepth 100000
theorem fresh_Lwa : True := by (w_top off; trivial)
theorem look_eq {K : List (Addr × Obj)} {n : Addr} {P : Prop} {oc oc' : Value} {od od' : Option Addr} {name name' qual qual' : Str} {params params' : Arguments} {body body' : List Stmt} {scope scope' : Scope} {dV kV doc pm cdv ct dV' kV' doc' pm' cdv' ct' : Value} {an an' : Option Addr} {osl osl' : Array (Option Value)}
   (h : K.lookup n = some ⟨oc, od, .func (fnOf name qual params body scope dV kV doc pm an cdv ct), osl⟩) (h' : K.lookup n = some ⟨oc', od', .func (fnOf name' qual' params' body' scope' dV' kV' doc' pm' an' cdv' ct'), osl'⟩)
   (k : (qual, body, scope) = (qual', body', scope') → P) : P := by
  rw [h] at h'
  exact k (by cases h'; rfl)
theorem m_set {m : Str → Option Value} {x : Str} {v : Value} (h : m x = some v) : m = fun y => if y = x then some v else m y := by
  funext y
  by_cases e : y = x
  · rw [if_pos e, e]; exact h
  · rw [if_neg e]
/-- what _post_parse_validation is given, and its answer -/
def wayA (e : Str × Str) : List Nat := e.1.cps.toList
def wayB (e : Str × Str) : List Nat := (e.1 ++ e.2).cps.toList
def bsOf (es : List (Str × Str)) : List (List Nat) := es.map wayA ++ es.map wayB
def ansA (e : Str × Str) : List Cell := if 91 ∈ wayA e then [.s Str.empty, .s Str.empty] else [.s e.2, .s e.1]
def ansB (e : Str × Str) : List Cell := if 91 ∈ wayB e then [.s Str.empty, .s Str.empty] else [.s e.2, .s (e.1 ++ e.2)]
def ansR (es : List (Str × Str)) : List (List Cell) := es.map ansA ++ es.map ansB
def rawA (e : Str × Str) : List Cell := [.s e.2, .s e.1]
def rawB (e : Str × Str) : List Cell := [.s e.2, .s (e.1 ++ e.2)]
theorem rows_from {P : List Cell → Value → Prop} {tl : List (Addr × Obj)} {g : Str × Str → List Cell} : ∀ {es : List (Str × Str)} {ys : List Value}, All2 (fun y r => P r y) ys (es.map fun e => [Cell.s e.1, Cell.s e.2]) → (∀ e y, e ∈ es → P [Cell.s e.1, Cell.s e.2] y → TupAt tl y (g e)) → Rows tl ys (es.map g)
  | [], _, .nil, _ => .nil
  | e :: es, _, .cons a r, h => .cons (h e _ (.head _) a) (rows_from r fun e' y he => h e' y (.tail _ he))
theorem tup_str {h₀ h : Heap} {L : Addr} {news : List (Addr × Obj)} (N : News h₀ L h news) {y : Value} {a b : Str} (t : TupAt news y [.s a, .s b]) : ∃ T v0 tb, y = .ref T ∧ IsTup h T #[v0, .str b tb] := by
  obtain ⟨T, vs, n, rfl, hm, hc⟩ := t
  obtain ⟨v0, v1, rfl, c0, c1⟩ := hc.two
  obtain ⟨tb, rfl⟩ := c1.str
  exact ⟨T, v0, tb, rfl, ⟨_, (N _ hm).1, rfl, n, rfl⟩⟩
theorem ppv_args {h₀ h : Heap} {L : Addr} {news : List (Addr × Obj)} (N : News h₀ L h news) {es : List (Str × Str)} {vs : List Value} (R : Rows news vs (es.map rawA ++ es.map rawB)) (i : Nat) (v : Value) (hv : vs[i]? = some v) :
    ∃ T v0 b tb, v = Value.ref T ∧ (bsOf es)[i]? = some b ∧ IsTup h T #[v0, .str (wy b) tb] := by
  obtain ⟨r, hr, t⟩ := R.getL hv
  rw [bsOf]
  rw [List.getElem?_append, List.length_map] at hr ⊢
  split at hr
  · rename_i hi
    rw [if_pos hi]
    rw [List.getElem?_map] at hr ⊢
    cases he : es[i]? with
    | none => rw [he] at hr; cases hr
    | some e =>
      rw [he] at hr; cases hr
      obtain ⟨T, v0, tb, e1, e2⟩ := tup_str N t
      exact ⟨T, v0, _, tb, e1, rfl, e2⟩
  · rename_i hi
    rw [if_neg hi]
    rw [List.getElem?_map] at hr ⊢
    cases he : es[i - es.length]? with
    | none => rw [he] at hr; cases hr
    | some e =>
      rw [he] at hr; cases hr
      obtain ⟨T, v0, tb, e1, e2⟩ := tup_str N t
      exact ⟨T, v0, _, tb, e1, rfl, e2⟩
theorem ppv_ans {news tl : List (Addr × Obj)} {es : List (Str × Str)} {vs ys : List Value} (R : Rows news vs (es.map rawA ++ es.map rawB)) (hl : ys.length = vs.length)
    (h : ∀ (k : Nat) (v : Value) (b : List Nat), vs[k]? = some v → (bsOf es)[k]? = some b → ∃ y, ys[k]? = some y ∧ (if 91 ∈ b then TupAt tl y [.s Str.empty, .s Str.empty] else y = v)) : Rows (news ++ tl) ys (ansR es) := by
  have hl2 : vs.length = (es.map rawA ++ es.map rawB).length := R.length
  refine All2.ofGet (by rw [hl, hl2, ansR]; simp only [List.length_append, List.length_map]) fun i y r hy hr => ?_
  have hi : i < vs.length := by
    rw [← hl]
    rcases Nat.lt_or_ge i ys.length with h | h
    · exact h
    · rw [List.getElem?_eq_none h] at hy; cases hy
  have hv := List.getElem?_eq_getElem hi
  obtain ⟨r0, hr0, t0⟩ := R.getL hv
  rw [ansR] at hr
  have hb : ∀ b, (bsOf es)[i]? = some b → if 91 ∈ b then TupAt tl y [.s Str.empty, .s Str.empty] else TupAt news y r0 := fun b hb => by
    obtain ⟨y', hy', q⟩ := h i _ b hv hb
    rw [hy] at hy'; cases hy'
    split at q
    · rename_i hx; rw [if_pos hx]; exact q
    · rename_i hx; rw [if_neg hx, q]; exact t0
  rw [bsOf] at hb
  rw [List.getElem?_append, List.length_map] at hr hr0
  split at hr
  · rename_i hi2
    rw [if_pos hi2] at hr0
    rw [List.getElem?_map] at hr hr0
    cases he : es[i]? with
    | none => rw [he] at hr; cases hr
    | some e =>
      rw [he] at hr hr0; cases hr; cases hr0
      have hb := hb (wayA e) (by rw [List.getElem?_append, List.length_map, if_pos hi2, List.getElem?_map, he]; rfl)
      unfold ansA
      split at hb
      · rename_i hx; rw [if_pos hx]; exact hb.sub fun p hp => List.mem_append_right _ hp
      · rename_i hx; rw [if_neg hx]; exact hb.sub fun p hp => List.mem_append_left _ hp
  · rename_i hi2
    rw [if_neg hi2] at hr0
    rw [List.getElem?_map] at hr hr0
    cases he : es[i - es.length]? with
    | none => rw [he] at hr; cases hr
    | some e =>
      rw [he] at hr hr0; cases hr; cases hr0
      have hb := hb (wayB e) (by rw [List.getElem?_append, List.length_map, if_neg hi2, List.getElem?_map, he]; rfl)
      unfold ansB
      split at hb
      · rename_i hx; rw [if_pos hx]; exact hb.sub fun p hp => List.mem_append_right _ hp
      · rename_i hx; rw [if_neg hx]; exact hb.sub fun p hp => List.mem_append_left _ hp
theorem bs_len {es : List (Str × Str)} (h : ∀ e ∈ es, e.1.length ≤ 20 ∧ e.2.length = 1) : ∀ b ∈ bsOf es, b.length ≤ 100 := by
  intro b hb
  rcases List.mem_append.mp hb with hb | hb
  · obtain ⟨e, he, rfl⟩ := List.mem_map.mp hb
    have := (h e he).1
    have h2 : (wayA e).length = e.1.length := rfl
    omega
  · obtain ⟨e, he, rfl⟩ := List.mem_map.mp hb
    have := h e he
    have h2 : (wayB e).length = e.1.length + e.2.length := by
      unfold wayB
      show (e.1.cps ++ e.2.cps).toList.length = _
      rw [Array.toList_append, List.length_append]; rfl
    omega
theorem ans_fine {es : List (Str × Str)} (h : ∀ e ∈ es, PyData.strOk e.1 = true ∧ PyData.strOk e.2 = true ∧ PyData.strOk (e.1 ++ e.2) = true) : ∀ r ∈ ansR es, ∀ c ∈ r, c.fine := by
  have hE : (Cell.s Str.empty).fine := by show PyData.strOk Str.empty = true; decide +kernel
  intro r hr c hc
  rcases List.mem_append.mp hr with hr | hr <;> obtain ⟨e, he, rfl⟩ := List.mem_map.mp hr
  · unfold ansA at hc
    split at hc <;> simp only [List.mem_cons, List.not_mem_nil, or_false] at hc <;> rcases hc with rfl | rfl
    · exact hE
    · exact hE
    · exact (h e he).2.1
    · exact (h e he).1
  · unfold ansB at hc
    split at hc <;> simp only [List.mem_cons, List.not_mem_nil, or_false] at hc <;> rcases hc with rfl | rfl
    · exact hE
    · exact hE
    · exact (h e he).2.1
    · exact (h e he).2.2
theorem sgb (c : Nat) : (sg c == Str.ofString "[") = (c == 91) := by
  by_cases h : c = 91
  · subst h; decide
  · rw [beq_eq_false_iff_ne.mpr h]
    refine beq_eq_false_iff_ne.mpr fun e => h ?_
    have e2 : (sg c).cps.toList = (Str.ofString "[").cps.toList := by rw [e]
    have e3 : (Str.ofString "[").cps.toList = [91] := by decide
    rw [e3] at e2
    exact List.cons.inj e2 |>.1
abbrev rawP (cs : List Nat) (e : List Nat × Nat) : List Cell := [.s (wy e.1), .s (sg (cg cs e.2)), .i e.2]
abbrev prP (cs : List Nat) (e : List Nat × Nat) : Str × Str := (wy e.1, sg (cg cs e.2))
theorem memA (cs : List Nat) (e : List Nat × Nat) : 91 ∈ wayA (prP cs e) ↔ 91 ∈ e.1 := Iff.rfl
theorem memB (cs : List Nat) (e : List Nat × Nat) : 91 ∈ wayB (prP cs e) ↔ 91 ∈ e.1 ∨ cg cs e.2 = 91 := by
  have h : wayB (prP cs e) = e.1 ++ [cg cs e.2] := by
    show (wy e.1 ++ sg (cg cs e.2)).cps.toList = _
    rw [wy_snoc]
  rw [h, List.mem_append, List.mem_singleton, eq_comm (a := 91)]
abbrev two (r : Str × Str) : List Cell := [.s r.1, .s r.2]
end
section
set_option maxRecDepth 100000
set_option maxHeartbeats 16000000
theorem fresh_Lw1 : True := by (w_top off; trivial)
section
local macro_rules | `(tactic| walk_at "eval ListComp") => `(tactic| walk_at "mine.stop")
local macro_rules | `(tactic| walk_at "call ref") => `(tactic| walk_at "mine.stop")
local macro_rules | `(tactic| walk_at "compareOp Eq") => `(tactic| walk_at "mine.stop")
theorem seg16 (w : World) (dp un : Nat) (fr : Option (List Env)) (gd : Option (List Code)) (hb : Heap) (s : Shared) (G : Gd w hb) (L fa : Addr) (cv : Value) (m : Str → Option Value) (news : List (Addr × Obj)) (Q : Flow → Shared → Prop) (E) {oc od name qual params body scope dV kV doc pm an cdv ct osl} (hl : (hd.heap_39 w.params).lookup 163 = some ⟨oc, od, .func (fnOf name qual params body scope dV kV doc pm an cdv ct), osl⟩)
  (hdp : dp < 400) (hun : un < 4000) (F0 : Fr hb L s.heap m) (N0 : News hb L s.heap news) (rwA lf : Addr) (m1 : m (Str.ofString "rows") = some (.ref rwA)) (m2 : m (Str.ofString "left") = some (.ref lf))
  (rv lv : List Value) (rn ln : Nat) (rows left : List (List Cell)) (es : List (Str × Str)) (hes : es.length ≤ 100) (hsz : ∀ e ∈ es, e.1.length ≤ 20 ∧ e.2.length = 1) (hok : ∀ e ∈ es, PyData.strOk e.1 = true ∧ PyData.strOk e.2 = true ∧ PyData.strOk (e.1 ++ e.2) = true) (h1 : (rwA, lstO rv rn) ∈ news) (h2 : (lf, lstO lv ln) ∈ news) (r1 : Rows news rv (es.map fun e => [Cell.s e.1, Cell.s e.2])) (r2 : Rows news lv (ansR es))
  (hQ : ∀ h' tk', Kp hb h' → Q (.ret (.bool true)) { s with heap := h', toks := tk' }) :
  wpAny (model PySem.Challenge.rw_xo0006_01.row.prog w) ((AR dp fr gd un).deeper (envOfC qual scope L fa cv)) (execs (body.drop 16) (envOfC qual scope L fa cv)) Q E s := by
  revert hl
  ((have hX0 : (hd.heap_39 w.params).In hb := G.1); revert hX0; k_fill; intro hX0; obtain ⟨mean, mg, mb, T0⟩ := G.2)
  intro hl
  refine' look_eq hl ?h1 ?_
  case h1 => k_is
  intro e
  cases e
  dsimp only [List.drop]
  rw [m_set m1] at F0
  rw [m_set m2] at F0
  clear hl
  k_steps
  refine Stop.mk' ?_
  refine C1.ListComp_1 F0 rfl (by with_unfolding_all rfl) (by decide) (by rfl) (by decide) (C1.tgt_tuple (xs := [(Str.ofString "way", _), (Str.ofString "sign", _)]) rfl rfl (by decide) (by decide)) (by intro _; rfl) ?_
  k_steps
  refine C1.src_rows (fun r y nw => ∃ x0 x1, r = [.s x0, .s x1] ∧ TupAt nw y [.s x1, .s x0]) F0 N0 h1 r1 ?_ (by rw [List.length_map]; omega) (fun r v nw nw' ⟨x0, x1, e, t⟩ k => ⟨x0, x1, e, t.sub k⟩) ?_ ?_
  · intro r hr
    obtain ⟨e, _, rfl⟩ := List.mem_map.mp hr
    rfl
  · intro i r vals ys n nw I oI C oC D m₂ h3 tk3 s3 E3 hri hvals hoC hx hnb F7 N7
    have hr := List.mem_of_getElem? hri
    obtain ⟨⟨x0, x1⟩, _, rfl⟩ := List.mem_map.mp hr
    obtain ⟨v0, v1, rfl, c0, c1⟩ := hvals.two
    obtain ⟨t0, rfl⟩ := c0.str
    obtain ⟨t1, rfl⟩ := c1.str
    have hx0 : m₂ (Str.ofString "way") = some (.str x0 t0) := hx 0 _ _ rfl rfl
    have hx1 : m₂ (Str.ofString "sign") = some (.str x1 t1) := hx 1 _ _ rfl rfl
    refine wp_stop ?_
    k_steps
    refine Stop.mk' ?_
    rename_i D8 h8 F8 N8 lt8
    obtain ⟨q1, q2, q3, -⟩ := lt8
    refine ⟨h8, _, [(D8, tupO [.str x1 t1, .str x0 t0] 0)], rfl, F8, News.sub N8 fun p hp => ?_, fun p hp => ?_, x0, x1, rfl, D8, _, 0, rfl, .head _, .cons (.s _ _) (.cons (.s _ _) .nil)⟩
    · (revert hp; revert p; walk_at "mine.sub")
    · rw [List.mem_singleton.mp hp]
      exact ⟨q1, q2, q3⟩
  intro D1 ys1 n1 nw1 h4 tk4 F4 N4 off4 hR4
  k_steps
  refine Stop.mk' ?_
  refine C1.ListComp_1 F4 rfl (by with_unfolding_all rfl) (by decide) (by rfl) (by decide) (C1.tgt_tuple (xs := [(Str.ofString "way", _), (Str.ofString "sign", _)]) rfl rfl (by decide) (by decide)) (by intro _; rfl) ?_
  k_steps
  refine C1.src_rows (fun r y nw => ∃ x0 x1, r = [.s x0, .s x1] ∧ TupAt nw y [.s x1, .s (x0 ++ x1)]) F4 N4 (.tail _ (List.mem_append_left _ h1)) (r1.sub fun p hp => .tail _ (List.mem_append_left _ hp)) ?_ (by rw [List.length_map]; omega) (fun r v nw nw' ⟨x0, x1, e, t⟩ k => ⟨x0, x1, e, t.sub k⟩) ?_ ?_
  · intro r hr
    obtain ⟨e, _, rfl⟩ := List.mem_map.mp hr
    rfl
  · intro i r vals ys n nw I oI C oC D m₂ h3 tk3 s3 E3 hri hvals hoC hx hnb F7 N7
    have hr := List.mem_of_getElem? hri
    obtain ⟨⟨x0, x1⟩, he, rfl⟩ := List.mem_map.mp hr
    have hs0 : x0.length ≤ 20 := (hsz _ he).1
    have hs1 : x1.length = 1 := (hsz _ he).2
    obtain ⟨v0, v1, rfl, c0, c1⟩ := hvals.two
    obtain ⟨t0, rfl⟩ := c0.str
    obtain ⟨t1, rfl⟩ := c1.str
    have hx0 : m₂ (Str.ofString "way") = some (.str x0 t0) := hx 0 _ _ rfl rfl
    have hx1 : m₂ (Str.ofString "sign") = some (.str x1 t1) := hx 1 _ _ rfl rfl
    refine wp_stop ?_
    k_steps
    refine Stop.mk' ?_
    rename_i tq kq hq D8 h8 F8 N8 lt8
    obtain ⟨q1, q2, q3, -⟩ := lt8
    refine ⟨h8, _, [(D8, tupO [.str x1 t1, .str (x0 ++ x1) tq] 0)], rfl, F8, News.sub N8 fun p hp => ?_, fun p hp => ?_, x0, x1, rfl, D8, _, 0, rfl, .head _, .cons (.s _ _) (.cons (.s _ _) .nil)⟩
    · (revert hp; revert p; walk_at "mine.sub")
    · rw [List.mem_singleton.mp hp]
      exact ⟨q1, q2, q3⟩
  intro D2 ys2 n2 nw2 h5 tk5 F5 N5 off5 hR5
  refine add_two (l := D1) (vs := ys1) (b := D2) (us := ys2) F5 N5 (.tail _ (.head _)) (.head _) (by rw [hR4.length, hR5.length, List.length_map, sizeLine_eq]; omega) fun D3 h6 F6 N6 => ?_
  k_steps
  refine Stop.mk' ?_
  obtain ⟨nw6, hnw⟩ : ∃ x, x = (D3, lstO (ys1 ++ ys2) 0) :: (D2, lstO ys2 n2) :: ((D1, lstO ys1 n1) :: (news ++ nw1) ++ nw2) := ⟨_, rfl⟩
  have hR : Rows nw6 (ys1 ++ ys2) (es.map rawA ++ es.map rawB) := by
    subst hnw
    refine All2.app ?_ ?_
    · refine rows_from hR4 fun e y he ⟨x0, x1, e1, t1⟩ => ?_
      cases e1
      exact t1.sub fun p hp => .tail _ (.tail _ (List.mem_append_left _ (.tail _ hp)))
    · refine rows_from hR5 fun e y he ⟨x0, x1, e1, t1⟩ => ?_
      cases e1
      exact t1.sub fun p hp => .tail _ (.tail _ hp)
  have hin : ∀ p ∈ news, p ∈ nw6 := fun p hp => by
    rw [hnw]
    exact .tail _ (.tail _ (List.mem_append_left _ (.tail _ (List.mem_append_left _ hp))))
  have hD3 : (D3, lstO (ys1 ++ ys2) 0) ∈ nw6 := by rw [hnw]; exact .head _
  rw [← hnw] at N6
  have hlen : (ys1 ++ ys2).length ≤ 1000 := by rw [List.length_append, hR4.length, hR5.length, List.length_map]; omega
  clear hnw hR4 hR5 N4 N5 F4 F5 off4 off5
  refine ppv_spec w _ _ _ _ _ D3 (ys1 ++ ys2) (bsOf es) _ _ (show dp + 1 < 800 by omega) (show un + 3 < 8000 by omega) (G.kp F6.keep) (News.isLst (s := { s with heap := h6 }) N6 hD3) hlen (bs_len hsz) (ppv_args N6 hR) fun D ys n tl h' tk' kp nw hD hl2 hys => ?_
  have F8 := fr_kp F6 kp
  have N8 := news_new F6 N6 kp nw
  have hA := ppv_ans hR hl2 hys
  clear kp nw hys hl2 hR N6 F6
  dsimp only
  walk1
  refine rows_eq N8 (List.mem_append_right _ hD) hA (List.mem_append_left _ (hin _ h2)) (r2.sub fun p hp => List.mem_append_left _ (hin _ hp)) (ans_fine hok) (by show un + 3 + 64 < 9900; omega) ?_
  exact hQ h' _ F8.keep
end
end
section
set_option maxRecDepth 100000
set_option maxHeartbeats 16000000
local macro_rules | `(tactic| walk_at "mine.none") => `(tactic| fail "none")
theorem fresh_Lw2 : True := by (w_top off; trivial)
section
local macro_rules | `(tactic| walk_at "exec For Name Call") => `(tactic| (k_here; refine For_at ?_ (by with_unfolding_all (intro _; rfl))))
local macro_rules | `(tactic| walk_at "exec For Name Call cons nil") => `(tactic| (k_here; refine For_at ?_ (by with_unfolding_all (intro _; rfl))))
local macro_rules | `(tactic| walk_at "call builtin:list.append") => `(tactic| walk_at "mine.stop")
theorem seg12 (w : World) (dp un : Nat) (fr : Option (List Env)) (gd : Option (List Code)) (hb : Heap) (s : Shared) (G : Gd w hb) (L fa : Addr) (cv : Value) (m : Str → Option Value) (news : List (Addr × Obj)) (Q : Flow → Shared → Prop) {oc od name qual params body scope dV kV doc pm an cdv ct osl} (hl : (hd.heap_39 w.params).lookup 163 = some ⟨oc, od, .func (fnOf name qual params body scope dV kV doc pm an cdv ct), osl⟩)
  (hdp : dp < 400) (hun : un < 4000) (co : Obj) (hco : co.data = .cell none) (F0 : Fr hb L s.heap m) (N0 : News hb L s.heap ((L + 1, co) :: news)) (hoff : ∀ p ∈ news, p.1 ≠ L + 1) (up nm : Addr) (m1 : m (Str.ofString "ups") = some (.ref up)) (m2 : m (Str.ofString "names") = some (.ref nm))
  (uv nv : List Value) (n1 n2 : Nat) (us : List Int) (cs : List Nat) (h1 : (up, lstO uv n1) ∈ news) (h2 : (nm, lstO nv n2) ∈ news) (huv : All2 CellV uv (us.map Cell.i)) (hnv : All2 CellV nv (cs.map fun c => Cell.s (sg c))) (T : TreeOk us cs)
  (hQ : ∀ m' ud n h' tk' co', (∀ x, x ≠ Str.ofString "node" → m' x = m x) → Fr hb L h' m' → News hb L h' ((L + 1, co') :: (ud, lstO ((unL us cs 7).map Value.bool) n) :: news) → co'.data = .cell (some (.ref ud)) → ud ≠ L + 1 → (∀ p ∈ news, p.1 ≠ ud) →
    wpAny (model PySem.Challenge.rw_xo0006_01.row.prog w) ((AR dp fr gd un).deeper (envOfC qual scope L fa cv)) (execs (body.drop 14) (envOfC qual scope L fa cv)) Q (fun _ _ => False) { s with heap := h', toks := tk' }) :
  wpAny (model PySem.Challenge.rw_xo0006_01.row.prog w) ((AR dp fr gd un).deeper (envOfC qual scope L fa cv)) (execs (body.drop 12) (envOfC qual scope L fa cv)) Q (fun _ _ => False) s := by
  revert hl
  ((have hX0 : (hd.heap_39 w.params).In hb := G.1); revert hX0; k_fill; intro hX0; obtain ⟨mean, mg, mb, T0⟩ := G.2)
  intro hl
  refine' look_eq hl ?h1 ?_
  case h1 => k_is
  intro e
  cases e
  dsimp only [List.drop] at hQ ⊢
  rw [m_set m1] at F0
  rw [m_set m2] at F0
  clear hl
  k_steps
  rename_i ud h1' F1 N1 lt1
  have hud : ud ≠ L + 1 := Ne.symm (Nat.ne_of_lt lt1.1)
  have hnu : ∀ p ∈ news, p.1 ≠ ud := fun p hp => Nat.ne_of_lt (ktn_ltOf lt1.2 p hp)
  refine storeX_C (c := L + 1) (o := co) (g := fun o' => (ud, lstO [] 0) :: (L + 1, o') :: news) F1 N1 rfl (.tail hud (.head hoff)) hco fun h2' o' F2 N2 hco' => ?_
  clear F1 N1
  have N3 : News hb L h2' ((L + 1, o') :: (ud, lstO [] 0) :: news) := News.sub N2 fun p hp => by
    (revert hp; revert p; walk_at "mine.sub")
  clear N2
  obtain ⟨m0, F3, hm0⟩ : ∃ m0, Fr hb L h2' m0 ∧ m0 = _ := ⟨_, F2, rfl⟩
  clear F2
  dsimp only
  k_steps
  rename_i hrg F4 N4 hk4
  refine for_range (n := 7) (J := fun i m₁ news₁ => ∃ a n, (m₁ = fun y => if y = Str.ofString "node" then a else m0 y) ∧ news₁ = (L + 1, o') :: (ud, lstO ((unL us cs i).map Value.bool) n) :: news) rfl rfl rfl F4 N4 ?h0 hrg (by decide) (by decide) ?turn ?done ?hE
  case hE => passes_own
  all_goals subst hm0
  case h0 =>
    exact ⟨_, 0, one_start, rfl⟩
  case turn =>
    rintro i tk m₁ news₁ I oI h6 tk6 hi ⟨a, n, rfl, rfl⟩ off F8 N8
    have ht := T.up i
    rcases Nat.eq_zero_or_pos i with h0 | h0
    · have hneg : ¬ ((0 : Int) < (i : Int)) := by omega
      k_steps
      have hv : (unL us cs i).map Value.bool ++ [Value.bool (decide ((0 : Int) < (i : Int)))] = (unL us cs (i + 1)).map Value.bool := by subst h0; rfl
      (
  refine Stop.mk' ?_
  rename Fr _ _ _ _ => FB
  rename News _ _ _ _ => NB
  refine append_top (vs := (unL us cs i).map Value.bool) (n := n) (news := (I, oI) :: (L + 1, o') :: news) FB (News.sub NB fun p hp => ?_) (fun p hp => ?_) (by rw [sizeLine_eq, List.length_map, unL_len]; omega) fun n4 h7 FC NC => ?_
  · (revert hp; revert p; walk_at "mine.sub")
  · simp only [List.mem_cons] at hp
    rcases hp with h | h | h
    · rw [h]; exact Ne.symm (off _ (.tail _ (.head _)))
    · rw [h]; exact Ne.symm hud
    · exact hnu p h
  have ND : News hb L h7 ((ud, lstO ((unL us cs (i + 1)).map Value.bool) n4) :: (I, oI) :: (L + 1, o') :: news) := by rw [← hv]; exact NC
  clear NC
  k_steps
  rename Fr _ _ _ _ => FD
  rename News _ _ _ _ => NE
  refine LEnd.intro FD NE ((L + 1, o') :: (ud, lstO ((unL us cs (i + 1)).map Value.bool) n4) :: news) (fun p hp => ?_) (fun p hp => ?_) ⟨_, n4, one_name', rfl⟩
  · (revert hp; revert p; walk_at "mine.sub")
  · simp only [List.mem_cons] at hp
    rcases hp with h | h | h
    · exact off p (by rw [h]; exact .head _)
    · have h9 := off (ud, lstO ((unL us cs i).map Value.bool) n) (.tail _ (.head _))
      rw [h]; exact h9
    · exact off p (.tail _ (.tail _ h)))
    · have hp := ht h0 hi
      obtain ⟨p, hpe⟩ : ∃ p : Nat, ug us i = (p : Int) := ⟨(ug us i).toNat, by omega⟩
      have hpi : p < i := by omega
      obtain ⟨tu, hui⟩ : ∃ tu, uv[i]? = some (.int (p : Int) tu) := by
        have hlt : i < us.length := by rw [T.lu]; exact hi
        obtain ⟨v, hv, hc⟩ := huv.get (i := i) (b := Cell.i (p : Int)) (by rw [List.getElem?_map, List.getElem?_eq_getElem hlt, ← hpe, ug, List.getD_eq_getElem?_getD, List.getElem?_eq_getElem hlt]; rfl)
        obtain ⟨t, rfl⟩ := hc.int
        exact ⟨t, hv⟩
      obtain ⟨tn, hni⟩ : ∃ tn, nv[p]? = some (.str (sg (cg cs p)) tn) := by
        have hlt : p < cs.length := by rw [T.lc]; omega
        obtain ⟨v, hv, hc⟩ := hnv.get (i := p) (b := Cell.s (sg (cg cs p))) (by rw [List.getElem?_map, List.getElem?_eq_getElem hlt, cg, List.getD_eq_getElem?_getD, List.getElem?_eq_getElem hlt]; rfl)
        obtain ⟨t, rfl⟩ := hc.str
        exact ⟨t, hv⟩
      have hpar : par us i = p := by unfold par; omega
      k_steps
      rename Fr _ _ _ _ => FA
      rename News _ _ _ _ => NA
      have hU : ∀ (h : Heap), News hb L h ((I, oI) :: (L + 1, o') :: (ud, lstO ((unL us cs i).map Value.bool) n) :: news) → h.IsList up uv.toArray ∧ h.IsList nm nv.toArray := fun h N => ⟨⟨_, (N _ (.tail _ (.tail _ (.tail _ h1)))).1, rfl, _, rfl⟩, ⟨_, (N _ (.tail _ (.tail _ (.tail _ h2)))).1, rfl, _, rfl⟩⟩
      refine item_at (hU _ NA).1 hui (by omega) ?_
      refine item_at (hU _ NA).2 hni (by omega) ?_
      generalize hsg : sg (cg cs p) = sp
      k_steps
      · rename_i hc
        have hc' : (cg cs p == 91) = true := by rw [← sgb, hsg]; exact hc
        have hv : (unL us cs i).map Value.bool ++ [Value.bool (sp == Str.ofString "[")] = (unL us cs (i + 1)).map Value.bool := by
          rw [unL, if_neg (by omega), List.map_append, hpar, hc', hc]; rfl
        (
  refine Stop.mk' ?_
  rename Fr _ _ _ _ => FB
  rename News _ _ _ _ => NB
  refine append_top (vs := (unL us cs i).map Value.bool) (n := n) (news := (I, oI) :: (L + 1, o') :: news) FB (News.sub NB fun p hp => ?_) (fun p hp => ?_) (by rw [sizeLine_eq, List.length_map, unL_len]; omega) fun n4 h7 FC NC => ?_
  · (revert hp; revert p; walk_at "mine.sub")
  · simp only [List.mem_cons] at hp
    rcases hp with h | h | h
    · rw [h]; exact Ne.symm (off _ (.tail _ (.head _)))
    · rw [h]; exact Ne.symm hud
    · exact hnu p h
  have ND : News hb L h7 ((ud, lstO ((unL us cs (i + 1)).map Value.bool) n4) :: (I, oI) :: (L + 1, o') :: news) := by rw [← hv]; exact NC
  clear NC
  k_steps
  rename Fr _ _ _ _ => FD
  rename News _ _ _ _ => NE
  refine LEnd.intro FD NE ((L + 1, o') :: (ud, lstO ((unL us cs (i + 1)).map Value.bool) n4) :: news) (fun p hp => ?_) (fun p hp => ?_) ⟨_, n4, one_name', rfl⟩
  · (revert hp; revert p; walk_at "mine.sub")
  · simp only [List.mem_cons] at hp
    rcases hp with h | h | h
    · exact off p (by rw [h]; exact .head _)
    · have h9 := off (ud, lstO ((unL us cs i).map Value.bool) n) (.tail _ (.head _))
      rw [h]; exact h9
    · exact off p (.tail _ (.tail _ h)))
      · rename_i hc
        have hc' : (cg cs p == 91) = false := by rw [← sgb, hsg]; simpa using hc
        clear hc
        rename Fr _ _ _ _ => FA
        rename News _ _ _ _ => NA
        refine item_at (hU _ NA).1 hui (by omega) ?_
        refine item_at (vs := (unL us cs i).map Value.bool) (v := .bool ((unL us cs i).getD p false)) ⟨_, (NA _ (.tail _ (.tail _ (.head _)))).1, rfl, _, rfl⟩ (by rw [List.getElem?_map, List.getD_eq_getElem?_getD, List.getElem?_eq_getElem (by rw [unL_len]; exact hpi)]; rfl) (by omega) ?_
        have hv : (unL us cs i).map Value.bool ++ [Value.bool ((unL us cs i).getD p false)] = (unL us cs (i + 1)).map Value.bool := by
          rw [unL, if_neg (by omega), List.map_append, hpar, hc']; rfl
        k_steps
        (
  refine Stop.mk' ?_
  rename Fr _ _ _ _ => FB
  rename News _ _ _ _ => NB
  refine append_top (vs := (unL us cs i).map Value.bool) (n := n) (news := (I, oI) :: (L + 1, o') :: news) FB (News.sub NB fun p hp => ?_) (fun p hp => ?_) (by rw [sizeLine_eq, List.length_map, unL_len]; omega) fun n4 h7 FC NC => ?_
  · (revert hp; revert p; walk_at "mine.sub")
  · simp only [List.mem_cons] at hp
    rcases hp with h | h | h
    · rw [h]; exact Ne.symm (off _ (.tail _ (.head _)))
    · rw [h]; exact Ne.symm hud
    · exact hnu p h
  have ND : News hb L h7 ((ud, lstO ((unL us cs (i + 1)).map Value.bool) n4) :: (I, oI) :: (L + 1, o') :: news) := by rw [← hv]; exact NC
  clear NC
  k_steps
  rename Fr _ _ _ _ => FD
  rename News _ _ _ _ => NE
  refine LEnd.intro FD NE ((L + 1, o') :: (ud, lstO ((unL us cs (i + 1)).map Value.bool) n4) :: news) (fun p hp => ?_) (fun p hp => ?_) ⟨_, n4, one_name', rfl⟩
  · (revert hp; revert p; walk_at "mine.sub")
  · simp only [List.mem_cons] at hp
    rcases hp with h | h | h
    · exact off p (by rw [h]; exact .head _)
    · have h9 := off (ud, lstO ((unL us cs i).map Value.bool) n) (.tail _ (.head _))
      rw [h]; exact h9
    · exact off p (.tail _ (.tail _ h)))
  case done =>
    rintro m₁ news₁ h tk ⟨a, n, rfl, rfl⟩ F5 N5
    dsimp only
    refine hQ _ ud n h tk o' (fun x hx => ?_) F5 N5 hco' hud hnu
    rw [if_neg hx]
    show (if x = Str.ofString "ups" then some (Value.ref up) else if x = Str.ofString "names" then some (Value.ref nm) else m x) = m x
    by_cases e1 : x = Str.ofString "ups"
    · rw [if_pos e1, e1, m1]
    · rw [if_neg e1]
      by_cases e2 : x = Str.ofString "names"
      · rw [if_pos e2, e2, m2]
      · rw [if_neg e2]
end
end
section
set_option maxRecDepth 100000
set_option maxHeartbeats 16000000
theorem fresh_Lw3 : True := by (w_top off; trivial)
theorem rows_off {h₀ h : Heap} {L D : Addr} {ys vs : List Value} {n : Nat} {news : List (Addr × Obj)} {rs : List (List Cell)} (N : News h₀ L h news) (hD : h.get? D = some (lstO ys n)) (r : Rows news vs rs) : Rows (news.filter fun p => decide (p.1 ≠ D)) vs rs := by
  refine r.mono fun y r t => ?_
  obtain ⟨T, vs, k, rfl, hm, hc⟩ := t
  refine ⟨T, vs, k, rfl, List.mem_filter.mpr ⟨hm, decide_eq_true fun e => ?_⟩, hc⟩
  have h1 := (N _ hm).1
  have e : T = D := e
  rw [e, hD] at h1
  have h2 : Value.type "list" = Value.type "tuple" := congrArg Obj.cls (Option.some.inj h1)
  exact absurd (Value.type.inj h2) (by decide)
section
local macro_rules | `(tactic| walk_at "eval ListComp") => `(tactic| walk_at "mine.stop")
local macro_rules | `(tactic| walk_at "exec Assign cons ListComp") => `(tactic| walk_at "mine.stop")
local macro_rules | `(tactic| walk_at "call builtin:list.extend") => `(tactic| walk_at "mine.stop")
theorem seg14 (w : World) (dp un : Nat) (fr : Option (List Env)) (gd : Option (List Code)) (hb : Heap) (s : Shared) (G : Gd w hb) (L fa : Addr) (cv : Value) (m : Str → Option Value) (news : List (Addr × Obj)) (Q : Flow → Shared → Prop) (E) {oc od name qual params body scope dV kV doc pm an cdv ct osl} (hl : (hd.heap_39 w.params).lookup 163 = some ⟨oc, od, .func (fnOf name qual params body scope dV kV doc pm an cdv ct), osl⟩)
  (hdp : dp < 400) (hun : un < 4000) (co : Obj) (ud : Addr) (bu : List Bool) (hco : co.data = .cell (some (.ref ud))) (F0 : Fr hb L s.heap m) (N0 : News hb L s.heap news) (h0 : (L + 1, co) ∈ news) (wk : Addr) (m1 : m (Str.ofString "walked") = some (.ref wk))
  (wv : List Value) (n1 n2 : Nat) (us : List Int) (cs : List Nat) (h1 : (wk, lstO wv n1) ∈ news) (h2 : (ud, lstO (bu.map Value.bool) n2) ∈ news) (hbu : bu.length = 7) (ps : List (List Nat × Nat)) (hps : ps.length ≤ 100) (r1 : Rows news wv (ps.map (rawP cs)))
  (hlen : ∀ e ∈ ps, e.1.length ≤ 20) (hchild : ∀ e ∈ ps, e.2 < 7) (hund : ∀ e ∈ ps, 91 ∈ e.1 ↔ bu.getD e.2 false = true)
  (hQ : ∀ m' lf lv n nw h' tk', (∀ x, x ≠ Str.ofString "left" → m' x = m x) → m' (Str.ofString "left") = some (.ref lf) → Fr hb L h' m' → News hb L h' ((lf, lstO lv n) :: (news ++ nw)) → Rows ((lf, lstO lv n) :: (news ++ nw)) lv (ansR (ps.map (prP cs))) →
    wpAny (model PySem.Challenge.rw_xo0006_01.row.prog w) ((AR dp fr gd un).deeper (envOfC qual scope L fa cv)) (execs (body.drop 16) (envOfC qual scope L fa cv)) Q E { s with heap := h', toks := tk' }) :
  wpAny (model PySem.Challenge.rw_xo0006_01.row.prog w) ((AR dp fr gd un).deeper (envOfC qual scope L fa cv)) (execs (body.drop 14) (envOfC qual scope L fa cv)) Q E s := by
  revert hl
  ((have hX0 : (hd.heap_39 w.params).In hb := G.1); revert hX0; k_fill; intro hX0; obtain ⟨mean, mg, mb, T0⟩ := G.2)
  intro hl
  refine' look_eq hl ?h1 ?_
  case h1 => k_is
  intro e
  cases e
  dsimp only [List.drop] at hQ ⊢
  rw [m_set m1] at F0
  clear hl
  k_steps
  refine Stop.mk' ?_

  refine C1.Assign_1 F0 rfl (by with_unfolding_all rfl) rfl rfl rfl (by with_unfolding_all rfl) (by decide) (by rfl) (by decide) (C1.tgt_tuple (xs := [(Str.ofString "way", _), (Str.ofString "sign", _), (Str.ofString "child", _)]) rfl rfl (by decide) (by decide)) (by intro _; rfl) ?_
  k_steps
  refine C1.src_rowsA (fun r y nw => ∃ x0 x1 k, r = [.s x0, .s x1, .i k] ∧ TupAt nw y (ansA (x0, x1))) F0 N0 h1 r1 ?_ (by rw [List.length_map]; omega) (fun r v nw nw' ⟨x0, x1, k', e, t⟩ k => ⟨x0, x1, k', e, t.sub k⟩) ?_ ?_
  · intro r hr
    obtain ⟨e, _, rfl⟩ := List.mem_map.mp hr
    rfl
  · intro i r vals ys n nw I oI C oC D m₂ h3 tk3 s3 E3 hri hvals hoC hx hnb F7 N7
    have hr := List.mem_of_getElem? hri
    obtain ⟨e, he, rfl⟩ := List.mem_map.mp hr
    have hc7 : e.2 < 7 := hchild e he
    have hu := hund e he
    (
    obtain ⟨v0, v1, v2, rfl, c0, c1, c2⟩ := hvals.three
    obtain ⟨t0, rfl⟩ := c0.str
    obtain ⟨t1, rfl⟩ := c1.str
    obtain ⟨t2, rfl⟩ := c2.int
    have hx0 : m₂ (Str.ofString "way") = some (.str (wy e.1) t0) := hx 0 _ _ rfl rfl
    have hx1 : m₂ (Str.ofString "sign") = some (.str (sg (cg cs e.2)) t1) := hx 1 _ _ rfl rfl
    have hx2 : m₂ (Str.ofString "child") = some (.int (e.2 : Int) t2) := hx 2 _ _ rfl rfl
    refine wp_stop ?_)
    walk1
    walk1
    walk1
    (
    refine wpAny_Name (wpAny_loadName_cell (c := L + 1) rfl rfl rfl ⟨co, N7.get (.tail _ (.tail _ (.tail _ (hnb _ h0)))), hco⟩ ?_) (by decide)
    have hIU : ∀ h, News hb L h ((I, oI) :: (C, oC) :: (D, lstO ys n) :: nw) → h.IsList ud (bu.map Value.bool).toArray := fun h N => ⟨_, (N _ (.tail _ (.tail _ (.tail _ (hnb _ h2))))).1, rfl, _, rfl⟩
    walk1
    refine item_at (v := .bool (bu.getD e.2 false)) (hIU _ N7) (by rw [List.getElem?_map, List.getD_eq_getElem?_getD, List.getElem?_eq_getElem (by rw [hbu]; exact hc7)]; rfl) (by omega) ?_)
    k_steps
    · rename_i hc D8 h8 F8 N8 lt8
      obtain ⟨vs8, N9, hc8⟩ : ∃ vs, News hb L h8 ((D8, tupO vs 0) :: (I, oI) :: (C, oC) :: (D, lstO ys n) :: nw) ∧ All2 CellV vs (ansA (prP cs e)) := by
        unfold ansA
        rw [if_pos ((memA cs e).mpr (hu.mpr hc))]
        exact ⟨[_, _], N8, .cons (.s _ _) (.cons (.s _ _) .nil)⟩
      (
  refine Stop.mk' ?_
  obtain ⟨q1, q2, q3, -⟩ := lt8
  refine ⟨h8, _, [(D8, tupO vs8 0)], rfl, F8, News.sub N9 fun p hp => ?_, fun p hp => ?_, wy e.1, sg (cg cs e.2), e.2, rfl, D8, vs8, 0, rfl, .head _, hc8⟩
  · (revert hp; revert p; walk_at "mine.sub")
  · rw [List.mem_singleton.mp hp]
    exact ⟨q1, q2, q3⟩)
    · rename_i hc D8 h8 F8 N8 lt8
      obtain ⟨vs8, N9, hc8⟩ : ∃ vs, News hb L h8 ((D8, tupO vs 0) :: (I, oI) :: (C, oC) :: (D, lstO ys n) :: nw) ∧ All2 CellV vs (ansA (prP cs e)) := by
        unfold ansA
        rw [if_neg fun h => by rw [hu.mp ((memA cs e).mp h)] at hc; cases hc]
        exact ⟨[_, _], N8, .cons (.s _ _) (.cons (.s _ _) .nil)⟩
      (
  refine Stop.mk' ?_
  obtain ⟨q1, q2, q3, -⟩ := lt8
  refine ⟨h8, _, [(D8, tupO vs8 0)], rfl, F8, News.sub N9 fun p hp => ?_, fun p hp => ?_, wy e.1, sg (cg cs e.2), e.2, rfl, D8, vs8, 0, rfl, .head _, hc8⟩
  · (revert hp; revert p; walk_at "mine.sub")
  · rw [List.mem_singleton.mp hp]
    exact ⟨q1, q2, q3⟩)
  intro D1 ys1 n1' nw1 h4 tk4 F4 N4 off4 hR4
  k_steps
  refine Stop.mk' ?_
  refine C1.ListComp_1 F4 rfl (by with_unfolding_all rfl) (by decide) (by rfl) (by decide) (C1.tgt_tuple (xs := [(Str.ofString "way", _), (Str.ofString "sign", _), (Str.ofString "child", _)]) rfl rfl (by decide) (by decide)) (by intro _; rfl) ?_
  k_steps
  have h0 := h0
  have hsb4 : ∀ p ∈ news, p ∈ (D1, lstO ys1 n1') :: (news ++ nw1) := fun p hp => .tail _ (List.mem_append_left _ hp)
  refine C1.src_rows (fun r y nw => ∃ x0 x1 k, r = [.s x0, .s x1, .i k] ∧ TupAt nw y (ansB (x0, x1))) F4 N4 (hsb4 _ h1) (r1.sub hsb4) ?_ (by rw [List.length_map]; omega) (fun r v nw nw' ⟨x0, x1, k', e, t⟩ k => ⟨x0, x1, k', e, t.sub k⟩) ?_ ?_
  · intro r hr
    obtain ⟨e, _, rfl⟩ := List.mem_map.mp hr
    rfl
  · intro i r vals ys n nw I oI C oC D m₂ h3 tk3 s3 E3 hri hvals hoC hx hnb' F7 N7
    have hnb : ∀ p ∈ news, p ∈ nw := fun p hp => hnb' _ (hsb4 _ hp)
    have hr := List.mem_of_getElem? hri
    obtain ⟨e, he, rfl⟩ := List.mem_map.mp hr
    have hc7 : e.2 < 7 := hchild e he
    have hu := hund e he
    have hl20 : (wy e.1).length ≤ 20 := by show e.1.length ≤ 20; exact hlen e he
    have hl1 : (sg (cg cs e.2)).length = 1 := rfl
    (
    obtain ⟨v0, v1, v2, rfl, c0, c1, c2⟩ := hvals.three
    obtain ⟨t0, rfl⟩ := c0.str
    obtain ⟨t1, rfl⟩ := c1.str
    obtain ⟨t2, rfl⟩ := c2.int
    have hx0 : m₂ (Str.ofString "way") = some (.str (wy e.1) t0) := hx 0 _ _ rfl rfl
    have hx1 : m₂ (Str.ofString "sign") = some (.str (sg (cg cs e.2)) t1) := hx 1 _ _ rfl rfl
    have hx2 : m₂ (Str.ofString "child") = some (.int (e.2 : Int) t2) := hx 2 _ _ rfl rfl
    refine wp_stop ?_)
    walk1
    walk1
    walk1
    walk1
    (
    refine wpAny_Name (wpAny_loadName_cell (c := L + 1) rfl rfl rfl ⟨co, N7.get (.tail _ (.tail _ (.tail _ (hnb _ h0)))), hco⟩ ?_) (by decide)
    have hIU : ∀ h, News hb L h ((I, oI) :: (C, oC) :: (D, lstO ys n) :: nw) → h.IsList ud (bu.map Value.bool).toArray := fun h N => ⟨_, (N _ (.tail _ (.tail _ (.tail _ (hnb _ h2))))).1, rfl, _, rfl⟩
    walk1
    refine item_at (v := .bool (bu.getD e.2 false)) (hIU _ N7) (by rw [List.getElem?_map, List.getD_eq_getElem?_getD, List.getElem?_eq_getElem (by rw [hbu]; exact hc7)]; rfl) (by omega) ?_)
    generalize hsp : sg (cg cs e.2) = sp at *
    generalize hwp : wy e.1 = wp at *
    k_steps
    · rename_i hc D8 h8 F8 N8 lt8
      subst hsp hwp
      obtain ⟨vs8, N9, hc8⟩ : ∃ vs, News hb L h8 ((D8, tupO vs 0) :: (I, oI) :: (C, oC) :: (D, lstO ys n) :: nw) ∧ All2 CellV vs (ansB (prP cs e)) := by
        unfold ansB
        rw [if_pos ((memB cs e).mpr (.inl (hu.mpr hc)))]
        exact ⟨[_, _], N8, .cons (.s _ _) (.cons (.s _ _) .nil)⟩
      (
  refine Stop.mk' ?_
  obtain ⟨q1, q2, q3, -⟩ := lt8
  refine ⟨h8, _, [(D8, tupO vs8 0)], rfl, F8, News.sub N9 fun p hp => ?_, fun p hp => ?_, wy e.1, sg (cg cs e.2), e.2, rfl, D8, vs8, 0, rfl, .head _, hc8⟩
  · (revert hp; revert p; walk_at "mine.sub")
  · rw [List.mem_singleton.mp hp]
    exact ⟨q1, q2, q3⟩)
    · rename_i hc hc2 D8 h8 F8 N8 lt8
      subst hsp hwp
      obtain ⟨vs8, N9, hc8⟩ : ∃ vs, News hb L h8 ((D8, tupO vs 0) :: (I, oI) :: (C, oC) :: (D, lstO ys n) :: nw) ∧ All2 CellV vs (ansB (prP cs e)) := by
        unfold ansB
        rw [if_pos ((memB cs e).mpr (.inr (by rw [sgb] at hc2; simpa using hc2)))]
        exact ⟨[_, _], N8, .cons (.s _ _) (.cons (.s _ _) .nil)⟩
      (
  refine Stop.mk' ?_
  obtain ⟨q1, q2, q3, -⟩ := lt8
  refine ⟨h8, _, [(D8, tupO vs8 0)], rfl, F8, News.sub N9 fun p hp => ?_, fun p hp => ?_, wy e.1, sg (cg cs e.2), e.2, rfl, D8, vs8, 0, rfl, .head _, hc8⟩
  · (revert hp; revert p; walk_at "mine.sub")
  · rw [List.mem_singleton.mp hp]
    exact ⟨q1, q2, q3⟩)
    · rename_i hc hc2 tq kq hq D8 h8 F8 N8 lt8
      subst hsp hwp
      obtain ⟨vs8, N9, hc8⟩ : ∃ vs, News hb L h8 ((D8, tupO vs 0) :: (I, oI) :: (C, oC) :: (D, lstO ys n) :: nw) ∧ All2 CellV vs (ansB (prP cs e)) := by
        unfold ansB
        rw [if_neg fun h => by
          rcases (memB cs e).mp h with h | h
          · rw [hu.mp h] at hc; cases hc
          · rw [sgb, h] at hc2; simp at hc2]
        exact ⟨[_, _], N8, .cons (.s _ _) (.cons (.s _ _) .nil)⟩
      (
  refine Stop.mk' ?_
  obtain ⟨q1, q2, q3, -⟩ := lt8
  refine ⟨h8, _, [(D8, tupO vs8 0)], rfl, F8, News.sub N9 fun p hp => ?_, fun p hp => ?_, wy e.1, sg (cg cs e.2), e.2, rfl, D8, vs8, 0, rfl, .head _, hc8⟩
  · (revert hp; revert p; walk_at "mine.sub")
  · rw [List.mem_singleton.mp hp]
    exact ⟨q1, q2, q3⟩)
  intro D2 ys2 n2' nw2 h5 tk5 F5 N5 off5 hR5
  k_steps
  refine Stop.mk' ?_
  have hps2 : ∀ (f : Str × Str → List Cell) {tl : List (Addr × Obj)} {zs : List Value}, All2 (fun y r => ∃ x0 x1 k, r = [Cell.s x0, Cell.s x1, Cell.i k] ∧ TupAt tl y (f (x0, x1))) zs (ps.map (rawP cs)) → Rows tl zs ((ps.map (prP cs)).map f) := by
    intro f tl zs h
    rw [List.map_map]
    clear hps r1 hlen hchild hund hQ hR4 hR5
    induction ps generalizing zs with
    | nil => cases h; exact .nil
    | cons e ps ih =>
      cases h with
      | cons a r =>
        obtain ⟨x0, x1, k, e1, t1⟩ := a
        cases e1
        exact .cons t1 (ih r)
  have hA := hps2 ansA hR4
  have hB := rows_off (News.sub N5 fun p hp => .tail _ hp) (N5 (D1, lstO ys1 n1') (.tail _ (.head _))).1 (hps2 ansB hR5)
  clear hR4 hR5 hps2
  have N6 : News hb L h5 ((D1, lstO ys1 n1') :: (D2, lstO ys2 n2') :: (news ++ (nw1 ++ nw2.filter fun p => decide (p.1 ≠ D1)))) := News.sub N5 fun p hp => by
    simp only [List.mem_cons, List.mem_append, List.mem_filter] at hp ⊢
    rcases hp with h | h | h | h | h <;> simp only [h, true_or, or_true]
  have off6 : ∀ p ∈ (D2, lstO ys2 n2') :: (news ++ (nw1 ++ nw2.filter fun p => decide (p.1 ≠ D1))), p.1 ≠ D1 := fun p hp => by
    rcases List.mem_cons.mp hp with h | hp
    · rw [h]; exact Ne.symm (off5 (D1, lstO ys1 n1') (.head _))
    rcases List.mem_append.mp hp with h | hp
    · exact off4 p (List.mem_append_left _ h)
    rcases List.mem_append.mp hp with h | hp
    · exact off4 p (List.mem_append_right _ h)
    · exact of_decide_eq_true (List.mem_filter.mp hp).2
  have hl1 : ys1.length = ps.length := by rw [hA.length, List.length_map, List.length_map]
  have hl2 : ys2.length = ps.length := by rw [hB.length, List.length_map, List.length_map]
  refine extend_top F5 N6 off6 (.head _) (by rw [sizeLine_eq]; omega) fun n' h6 F6 N7 => ?_
  dsimp only
  refine hQ _ D1 (ys1 ++ ys2) n' ((D2, lstO ys2 n2') :: (nw1 ++ nw2.filter fun p => decide (p.1 ≠ D1))) h6 _ (fun x hx => ?_) rfl F6 (News.sub N7 fun p hp => ?_) (All2.app (hA.sub fun p hp => ?_) (hB.sub fun p hp => ?_))
  · show (if x = Str.ofString "left" then some (Value.ref D1) else if x = Str.ofString "walked" then some (Value.ref wk) else m x) = m x
    rw [if_neg hx]
    by_cases e1 : x = Str.ofString "walked"
    · rw [if_pos e1, e1, m1]
    · rw [if_neg e1]
  · (revert hp; revert p; walk_at "mine.sub")
  · (revert hp; revert p; walk_at "mine.sub")
  · obtain ⟨hp, hq⟩ := List.mem_filter.mp hp
    have hq := of_decide_eq_true hq
    simp only [List.mem_cons, List.mem_append, List.mem_filter] at hp ⊢
    rcases hp with (h | h | h) | h
    · exact absurd (congrArg Prod.fst h) hq
    · exact .inr (.inl h)
    · exact .inr (.inr (.inr (.inl h)))
    · exact .inr (.inr (.inr (.inr ⟨h, decide_eq_true hq⟩)))
end
end
section
set_option maxRecDepth 100000
set_option maxHeartbeats 16000000
local macro_rules | `(tactic| walk_at "mine.none") => `(tactic| fail "none")
theorem fresh_Lw4 : True := by (w_top off; trivial)
theorem two_of {cs : List Nat} {tl nn : List (Addr × Obj)} (hs : ∀ p ∈ tl, p ∈ nn) : ∀ {ps : List (List Nat × Nat)} {ys : List Value}, All2 (fun y r => ∃ x0 x1 k, r = [Cell.s x0, Cell.s x1, Cell.i k] ∧ TupAt tl y [Cell.s x0, Cell.s x1]) ys (ps.map (rawP cs)) → Rows nn ys (ps.map (two ∘ prP cs))
  | [], _, .nil => .nil
  | e :: ps, _, .cons a r => by
    obtain ⟨x0, x1, k, e1, t1⟩ := a
    cases e1
    exact .cons (t1.sub hs) (two_of hs r)
theorem strs_toks : ∀ {toks : List Tk} {pv : List Value}, All2 CellV pv (toks.map fun t => Cell.s (pstr t)) → StrsAre pv (toks.map pstr)
  | [], _, .nil => .nil
  | t :: r, _, .cons a h => by
    obtain ⟨t', rfl⟩ := a.str
    exact .cons _ _ (strs_toks h)
theorem join_cps : ∀ ys : List Str, (Str.join (Str.ofString "") ys).cps.toList = ys.flatMap fun y => y.cps.toList
  | [] => rfl
  | [x] => by simp [Str.join]
  | x :: y :: r => by
    have e : Str.join (Str.ofString "") (x :: y :: r) = x ++ Str.ofString "" ++ Str.join (Str.ofString "") (y :: r) := rfl
    rw [e, List.flatMap_cons, ← join_cps (y :: r)]
    show (x.cps ++ (Str.ofString "").cps ++ (Str.join (Str.ofString "") (y :: r)).cps).toList = _
    rw [Array.toList_append, Array.toList_append, show (Str.ofString "").cps.toList = [] by decide, List.append_nil]
theorem joined_cps (toks : List Tk) : (Txt.join (Str.ofString "") (toks.map pstr)).cps.toList = toks.flatMap fun t => (pstr t).cps.toList := by
  show (Builtin.Str.glued (Str.ofString "") (toks.map pstr)).cps.toList = _
  rw [StrLaws.glued_eq_join, join_cps, List.flatMap_map]
section
local macro_rules | `(tactic| walk_at "eval ListComp") => `(tactic| walk_at "mine.stop")
local macro_rules | `(tactic| walk_at "call ref") => `(tactic| walk_at "mine.stop")
local macro_rules | `(tactic| walk_at "call builtin:str.encode") => `(tactic| walk_at "mine.stop")
theorem seg5 (w : World) (dp un : Nat) (fr : Option (List Env)) (gd : Option (List Code)) (hb : Heap) (s : Shared) (G : Gd w hb) (L fa : Addr) (cv : Value) (m : Str → Option Value) (news : List (Addr × Obj)) (Q : Flow → Shared → Prop) (E) {oc od name qual params body scope dV kV doc pm an cdv ct osl} (hl : (hd.heap_39 w.params).lookup 163 = some ⟨oc, od, .func (fnOf name qual params body scope dV kV doc pm an cdv ct), osl⟩)
  (hdp : dp < 400) (hun : un < 4000) (F0 : Fr hb L s.heap m) (N0 : News hb L s.heap news) (st : Int) (td ts : Tok) (rwA wk pcA : Addr) (m1 : m (Str.ofString "depth") = some (.int st td)) (m2 : m (Str.ofString "start") = some (.int st ts)) (m3 : m (Str.ofString "rows") = some (.ref rwA)) (m4 : m (Str.ofString "walked") = some (.ref wk)) (m5 : m (Str.ofString "pieces") = some (.ref pcA))
  (rv wv pv : List Value) (n1 n2 n3 : Nat) (cs : List Nat) (h1 : (rwA, lstO rv n1) ∈ news) (h2 : (wk, lstO wv n2) ∈ news) (h3 : (pcA, lstO pv n3) ∈ news) (ps : List (List Nat × Nat)) (hps : ps.length ≤ 100) (r1 : Rows news rv ((ps.map (prP cs)).map two)) (r2 : Rows news wv (ps.map (rawP cs)))
  (toks : List Tk) (hpv : All2 CellV pv (toks.map fun t => Cell.s (pstr t))) (hok : ∀ t ∈ toks, t.ok) (htl : toks.length ≤ 100) (hnets : nets toks = 0) (hfine : ∀ e ∈ ps, PyData.strOk (wy e.1) = true ∧ PyData.strOk (sg (cg cs e.2)) = true)
  (hQ : ∀ h' tk' tl, (∀ p ∈ news, p ∈ tl) → Fr hb L h' m → News hb L h' tl → 
    wpAny (model PySem.Challenge.rw_xo0006_01.row.prog w) ((AR dp fr gd un).deeper (envOfC qual scope L fa cv)) (execs (body.drop 7) (envOfC qual scope L fa cv)) Q E { s with heap := h', toks := tk' }) :
  wpAny (model PySem.Challenge.rw_xo0006_01.row.prog w) ((AR dp fr gd un).deeper (envOfC qual scope L fa cv)) (execs (body.drop 5) (envOfC qual scope L fa cv)) Q E s := by
  revert hl
  ((have hX0 : (hd.heap_39 w.params).In hb := G.1); revert hX0; k_fill; intro hX0; obtain ⟨mean, mg, mb, T0⟩ := G.2)
  intro hl
  refine' look_eq hl ?h1 ?_
  case h1 => k_is
  intro e
  cases e
  dsimp only [List.drop] at hQ ⊢
  clear hl
  obtain ⟨m0, hm0⟩ : ∃ m0, m0 = m := ⟨_, rfl⟩
  have hmm : m = fun y => if y = Str.ofString "depth" then some (.int st td) else if y = Str.ofString "start" then some (.int st ts) else if y = Str.ofString "rows" then some (.ref rwA) else if y = Str.ofString "walked" then some (.ref wk) else if y = Str.ofString "pieces" then some (.ref pcA) else m0 y := by
    rw [hm0]
    funext y
    split
    · rename_i e; rw [e, m1]
    split
    · rename_i e; rw [e, m2]
    split
    · rename_i e; rw [e, m3]
    split
    · rename_i e; rw [e, m4]
    split
    · rename_i e; rw [e, m5]
    rfl
  clear hm0
  rw [hmm] at F0
  k_steps
  · rename_i hc
    exact absurd hc (by simp)
  rename_i hc
  clear hc
  refine Stop.mk' ?_
  refine C1.ListComp_1 F0 rfl (by with_unfolding_all rfl) (by decide) (by rfl) (by decide) (C1.tgt_tuple (xs := [(Str.ofString "way", _), (Str.ofString "sign", _), (Str.ofString "child", _)]) rfl rfl (by decide) (by decide)) (by intro _; rfl) ?_
  k_steps
  refine C1.src_rows (fun r y nw => ∃ x0 x1 k, r = [.s x0, .s x1, .i k] ∧ TupAt nw y [.s x0, .s x1]) F0 N0 h2 r2 ?_ (by rw [List.length_map]; omega) (fun r v nw nw' ⟨x0, x1, k', e, t⟩ k => ⟨x0, x1, k', e, t.sub k⟩) ?_ ?_
  · intro r hr
    obtain ⟨e, _, rfl⟩ := List.mem_map.mp hr
    rfl
  · intro i r vals ys n nw I oI C oC D m₂ h3 tk3 s3 E3 hri hvals hoC hx hnb F7 N7
    have hr := List.mem_of_getElem? hri
    obtain ⟨e, he, rfl⟩ := List.mem_map.mp hr
    obtain ⟨v0, v1, v2, rfl, c0, c1, c2⟩ := hvals.three
    obtain ⟨t0, rfl⟩ := c0.str
    obtain ⟨t1, rfl⟩ := c1.str
    have hx0 : m₂ (Str.ofString "way") = some (.str (wy e.1) t0) := hx 0 _ _ rfl rfl
    have hx1 : m₂ (Str.ofString "sign") = some (.str (sg (cg cs e.2)) t1) := hx 1 _ _ rfl rfl
    refine wp_stop ?_
    k_steps
    rename_i D8 h8 F8 N8 lt8
    refine Stop.mk' ?_
    obtain ⟨q1, q2, q3, -⟩ := lt8
    refine ⟨h8, _, [(D8, tupO [.str (wy e.1) t0, .str (sg (cg cs e.2)) t1] 0)], rfl, F8, News.sub N8 fun p hp => ?_, fun p hp => ?_, wy e.1, sg (cg cs e.2), e.2, rfl, D8, _, 0, rfl, .head _, .cons (.s _ _) (.cons (.s _ _) .nil)⟩
    · (revert hp; revert p; walk_at "mine.sub")
    · rw [List.mem_singleton.mp hp]
      exact ⟨q1, q2, q3⟩
  intro D1 ys1 n1' nw1 h4 tk4 F4 N4 off4 hR4
  have hR5 : Rows ((D1, lstO ys1 n1') :: (news ++ nw1)) ys1 ((ps.map (prP cs)).map two) := by
    rw [List.map_map]
    clear hps r1 r2 hfine hQ N4 off4
    generalize hnn : (D1, lstO ys1 n1') :: (news ++ nw1) = nn
    have hs : ∀ p ∈ news ++ nw1, p ∈ nn := fun p hp => by rw [← hnn]; exact .tail _ hp
    clear hnn
    exact two_of hs hR4
  have hsb4 : ∀ p ∈ news, p ∈ (D1, lstO ys1 n1') :: (news ++ nw1) := fun p hp => .tail _ (List.mem_append_left _ hp)
  refine rows_ne N4 (hsb4 _ h1) (r1.sub hsb4) (.head _) hR5 (fun r hr c hc => ?_) (by show un + 3 + 64 < 9900; omega) ?_
  · rw [List.map_map] at hr
    obtain ⟨e, he, rfl⟩ := List.mem_map.mp hr
    simp only [Function.comp, two, prP, List.mem_cons, List.not_mem_nil, or_false] at hc
    rcases hc with rfl | rfl
    · exact (hfine e he).1
    · exact (hfine e he).2
  k_steps
  have hz : ((toks.map pstr).map (·.length)).sum ≤ 5 * toks.length := by
    have := StrLaws.sumLen_le (B := 5) (toks.map pstr) fun y hy => by
      obtain ⟨t, ht, rfl⟩ := List.mem_map.mp hy
      exact pstr_len (hok t ht)
    rw [List.length_map] at this
    omega
  refine join_list (x := Str.ofString "") (News.isLst (s := { s with heap := h4 }) N4 (hsb4 _ h3)) (strs_toks hpv) (by rw [show (Str.ofString "").length = 0 by decide]; omega) fun t1 k1 => ?_
  have hx := joined_cps toks
  generalize Txt.join (Str.ofString "") (toks.map pstr) = tx at hx
  refine encode_method ?_
  k_steps
  refine Stop.mk' ?_
  dsimp only
  refine encode_call (text_sur hok hx) (by have := text_size hok hx; rw [sizeLine_eq]; omega) ?_
  k_steps
  refine Stop.mk' ?_
  have hX := hX0
  refine paren_spec w _ _ _ _ _ (u8 tx) _ st _ _ _ (show dp + 1 < 900 by omega) (show un + 3 < 9000 by omega) (G.kp F4.keep) toks (text_bytes hok hx) hok (by omega) fun r h6 tk6 kp => ?_
  rw [hnets, Int.add_zero]
  have F6 := fr_kp F4 kp
  have N6 := news_kp N4 kp
  clear kp N4 F4
  dsimp only
  walk1
  walk1
  walk1
  walk1
  · rename_i hc
    exact absurd hc (by simp)
  walk1
  exact hQ h6 _ _ hsb4 (hmm ▸ F6) N6
end
end
section
set_option maxRecDepth 100000
set_option maxHeartbeats 16000000
theorem fresh_Lw5 : True := by (w_top off; trivial)
abbrev qtx (e : Str × Str) : Str := Str.ofString "{" ++ e.1 ++ Str.ofString "}" ++ e.2
theorem qn_of {tl nn : List (Addr × Obj)} (hs : ∀ p ∈ tl, p ∈ nn) : ∀ {es : List (Str × Str)} {ys : List Value}, All2 (fun y r => ∃ e : Str × Str, r = two e ∧ QnAt tl y (qtx e)) ys (es.map two) → All2 (fun y e => QnAt nn y (qtx e)) ys es
  | [], _, .nil => .nil
  | (_, _) :: es, _, .cons a r => by
    obtain ⟨⟨x0, x1⟩, e1, t1⟩ := a
    cases e1
    exact .cons (t1.sub hs) (qn_of hs r)
theorem cell_of : ∀ {es : List (Str × Str)} {ys : List Value}, All2 (fun y r => ∃ e : Str × Str, r = two e ∧ CellV y (Cell.s (qtx e))) ys (es.map two) → All2 CellV ys (es.map fun e => Cell.s (qtx e))
  | [], _, .nil => .nil
  | (_, _) :: es, _, .cons a r => by
    obtain ⟨⟨x0, x1⟩, e1, t1⟩ := a
    cases e1
    exact .cons t1 (cell_of r)
section
local macro_rules | `(tactic| walk_at "eval ListComp") => `(tactic| walk_at "mine.stop")
local macro_rules | `(tactic| walk_at "exec Assign cons ListComp") => `(tactic| walk_at "mine.stop")
local macro_rules | `(tactic| walk_at "call ref") => `(tactic| walk_at "mine.stop")
theorem seg7 (w : World) (dp un : Nat) (fr : Option (List Env)) (gd : Option (List Code)) (hb : Heap) (s : Shared) (G : Gd w hb) (L fa : Addr) (cv : Value) (m : Str → Option Value) (news : List (Addr × Obj)) (Q : Flow → Shared → Prop) (E) {oc od name qual params body scope dV kV doc pm an cdv ct osl} (hl : (hd.heap_39 w.params).lookup 163 = some ⟨oc, od, .func (fnOf name qual params body scope dV kV doc pm an cdv ct), osl⟩)
  (hdp : dp < 400) (hun : un < 4000) (F0 : Fr hb L s.heap m) (N0 : News hb L s.heap news) (rwA : Addr) (m3 : m (Str.ofString "rows") = some (.ref rwA))
  (rv : List Value) (n1 : Nat) (h1 : (rwA, lstO rv n1) ∈ news) (es : List (Str × Str)) (hes : es.length ≤ 100) (hsz : ∀ e ∈ es, e.1.length ≤ 20 ∧ e.2.length = 1) (r1 : Rows news rv (es.map two))
  (hQ : ∀ m' wr wv n2 du dv n3 h' tk' tl, (∀ x, x ≠ Str.ofString "wrapped" → x ≠ Str.ofString "due" → m' x = m x) → m' (Str.ofString "wrapped") = some (.ref wr) → m' (Str.ofString "due") = some (.ref du) → (∀ p ∈ news, p ∈ tl) → Fr hb L h' m' → News hb L h' tl →
    (wr, lstO wv n2) ∈ tl → (du, lstO dv n3) ∈ tl → All2 (fun y e => QnAt tl y (qtx e)) wv es → All2 CellV dv (es.map fun e => Cell.s (qtx e)) →
    wpAny (model PySem.Challenge.rw_xo0006_01.row.prog w) ((AR dp fr gd un).deeper (envOfC qual scope L fa cv)) (execs (body.drop 9) (envOfC qual scope L fa cv)) Q E { s with heap := h', toks := tk' }) :
  wpAny (model PySem.Challenge.rw_xo0006_01.row.prog w) ((AR dp fr gd un).deeper (envOfC qual scope L fa cv)) (execs (body.drop 7) (envOfC qual scope L fa cv)) Q E s := by
  revert hl
  ((have hX0 : (hd.heap_39 w.params).In hb := G.1); revert hX0; k_fill; intro hX0; obtain ⟨mean, mg, mb, T0⟩ := G.2)
  intro hl
  refine' look_eq hl ?h1 ?_
  case h1 => k_is
  intro e
  cases e
  dsimp only [List.drop] at hQ ⊢
  clear hl
  rw [m_set m3] at F0
  k_steps
  refine Stop.mk' ?_
  refine C1.Assign_1 F0 rfl (by with_unfolding_all rfl) rfl rfl rfl (by with_unfolding_all rfl) (by decide) (by rfl) (by decide) (C1.tgt_tuple (xs := [(Str.ofString "way", _), (Str.ofString "sign", _)]) rfl rfl (by decide) (by decide)) (by intro _; rfl) ?_
  k_steps
  refine C1.src_rowsA (fun r y nw => ∃ e : Str × Str, r = two e ∧ QnAt nw y (qtx e)) F0 N0 h1 r1 ?_ (by rw [List.length_map]; omega) (fun r v nw nw' ⟨x0, e, t⟩ k => ⟨x0, e, t.sub k⟩) ?_ ?_
  · intro r hr
    obtain ⟨e, _, rfl⟩ := List.mem_map.mp hr
    rfl
  · intro i r vals ys n nw I oI C oC D m₂ h3 tk3 s3 E3 hri hvals hoC hx hnb F7 N7
    have hr := List.mem_of_getElem? hri
    obtain ⟨e, he, rfl⟩ := List.mem_map.mp hr
    obtain ⟨v0, v1, rfl, c0, c1⟩ := hvals.two
    obtain ⟨t0, rfl⟩ := c0.str
    obtain ⟨t1, rfl⟩ := c1.str
    have hx0 : m₂ (Str.ofString "way") = some (.str e.1 t0) := hx 0 _ _ rfl rfl
    have hx1 : m₂ (Str.ofString "sign") = some (.str e.2 t1) := hx 1 _ _ rfl rfl
    have hs := hsz e he
    refine wp_stop ?_
    k_steps
    refine Stop.mk' ?_
    refine qn_make2 w _ _ _ _ _ e.1 e.2 t0 t1 hb L _ ((I, oI) :: (C, oC) :: (D, lstO ys n) :: nw) F7 N7 (by omega) (by omega) (by omega) qk ek (show dp + 1 < 700 by omega) (show un + 3 < 8000 by omega) G fun o dx od h8 tk8 F8 N8 ho hdx htx => ?_
    dsimp only [qk]
    refine Stop.mk' ?_
    refine ⟨h8, _, [(o, instObj 125 dx), (dx, od)], rfl, F8, News.sub N8 fun p hp => ?_, fun p hp => ?_, e, rfl, o, dx, od, rfl, .head _, .tail _ (.head _), htx⟩
    · (revert hp; revert p; walk_at "mine.sub")
    · have q1 := ho _ (.head _)
      have q2 := ho _ (.tail _ (.head _))
      have q3 := ho _ (.tail _ (.tail _ (.head _)))
      simp only [List.mem_cons, List.not_mem_nil, or_false] at hp
      rcases hp with rfl | rfl
      · exact ⟨Nat.lt_trans q1 hdx, Nat.lt_trans q2 hdx, Nat.lt_trans q3 hdx⟩
      · exact ⟨q1, q2, q3⟩
  intro D1 ys1 n1' nw1 h4 tk4 F4 N4 off4 hR4
  k_steps
  refine Stop.mk' ?_
  have hsb4 : ∀ p ∈ news, p ∈ (D1, lstO ys1 n1') :: (news ++ nw1) := fun p hp => .tail _ (List.mem_append_left _ hp)
  refine C1.Assign_1 F4 rfl (by with_unfolding_all rfl) rfl rfl rfl (by with_unfolding_all rfl) (by decide) (by rfl) (by decide) (C1.tgt_tuple (xs := [(Str.ofString "way", _), (Str.ofString "sign", _)]) rfl rfl (by decide) (by decide)) (by intro _; rfl) ?_
  k_steps
  refine C1.src_rowsA (fun r y nw => ∃ e : Str × Str, r = two e ∧ CellV y (Cell.s (qtx e))) F4 N4 (hsb4 _ h1) (r1.sub hsb4) ?_ (by rw [List.length_map]; omega) (fun r v nw nw' ⟨x0, e, t⟩ k => ⟨x0, e, t⟩) ?_ ?_
  · intro r hr
    obtain ⟨e, _, rfl⟩ := List.mem_map.mp hr
    rfl
  · intro i r vals ys n nw I oI C oC D m₂ h3 tk3 s3 E3 hri hvals hoC hx hnb F7 N7
    have hr := List.mem_of_getElem? hri
    obtain ⟨e, he, rfl⟩ := List.mem_map.mp hr
    obtain ⟨v0, v1, rfl, c0, c1⟩ := hvals.two
    obtain ⟨t0, rfl⟩ := c0.str
    obtain ⟨t1, rfl⟩ := c1.str
    have hx0 : m₂ (Str.ofString "way") = some (.str e.1 t0) := hx 0 _ _ rfl rfl
    have hx1 : m₂ (Str.ofString "sign") = some (.str e.2 t1) := hx 1 _ _ rfl rfl
    have hs := hsz e he
    have hs1 := hs.1
    have hs2 := hs.2
    have hb1 : (Str.ofString "{").length = 1 := by decide
    have hb2 : (Str.ofString "}").length = 1 := by decide
    refine wp_stop ?_
    k_steps
    refine Stop.mk' ?_
    refine ⟨h3, _, [], rfl, F7, by rw [List.append_nil]; exact N7, (fun p hp => by cases hp), e, rfl, .s _ _⟩
  intro D2 ys2 n2' nw2 h5 tk5 F5 N5 off5 hR5
  refine hQ _ D1 ys1 n1' D2 ys2 n2' h5 _ _ (fun x hx1 hx2 => ?_) rfl rfl (fun p hp => .tail _ (List.mem_append_left _ (hsb4 p hp))) F5 N5 (.tail _ (.head _)) (.head _) ?_ ?_
  · show (if x = Str.ofString "due" then some (Value.ref D2) else if x = Str.ofString "wrapped" then some (Value.ref D1) else if x = Str.ofString "rows" then some (Value.ref rwA) else m x) = m x
    rw [if_neg hx2, if_neg hx1]
    by_cases e1 : x = Str.ofString "rows"
    · rw [if_pos e1, e1, m3]
    · rw [if_neg e1]
  · refine qn_of (fun p hp => ?_) hR4
    exact .tail _ (List.mem_append_left _ (.tail _ hp))
  · exact cell_of hR5
end
end
section
set_option maxRecDepth 100000
set_option maxHeartbeats 16000000
theorem fresh_Lw6 : True := by (w_top off; trivial)
section
local macro_rules | `(tactic| walk_at "eval ListComp") => `(tactic| walk_at "mine.stop")
local macro_rules | `(tactic| walk_at "exec Assign cons ListComp") => `(tactic| walk_at "mine.stop")
local macro_rules | `(tactic| walk_at "call ref") => `(tactic| walk_at "mine.stop")
local macro_rules | `(tactic| walk_at "call builtin:sorted") => `(tactic| walk_at "mine.stop")
theorem seg9 (w : World) (dp un : Nat) (fr : Option (List Env)) (gd : Option (List Code)) (hb : Heap) (s : Shared) (G : Gd w hb) (L fa : Addr) (cv : Value) (m : Str → Option Value) (news : List (Addr × Obj)) (Q : Flow → Shared → Prop) (E) {oc od name qual params body scope dV kV doc pm an cdv ct osl} (hl : (hd.heap_39 w.params).lookup 163 = some ⟨oc, od, .func (fnOf name qual params body scope dV kV doc pm an cdv ct), osl⟩)
  (hdp : dp < 400) (hun : un < 4000) (F0 : Fr hb L s.heap m) (N0 : News hb L s.heap news) (wr du : Addr) (m1 : m (Str.ofString "wrapped") = some (.ref wr)) (m2 : m (Str.ofString "due") = some (.ref du))
  (wv dv : List Value) (n1 n2 : Nat) (h1 : (wr, lstO wv n1) ∈ news) (h2 : (du, lstO dv n2) ∈ news) (es : List (Str × Str)) (h6 : es.length = 6) (hsz : ∀ e ∈ es, (qtx e).length ≤ 200) (hfine : ∀ e ∈ es, PyData.strOk (qtx e) = true) (hasc : es.Pairwise fun a b => (qtx a).cps.toList < (qtx b).cps.toList)
  (r1 : All2 (fun y e => QnAt news y (qtx e)) wv es) (r2 : All2 CellV dv (es.map fun e => Cell.s (qtx e)))
  (hQ : ∀ m' tw tv n3 h' tk' tl, (∀ x, x ≠ Str.ofString "twins" → m' x = m x) → m' (Str.ofString "twins") = some (.ref tw) → (∀ p ∈ news, p ∈ tl) → Fr hb L h' m' → News hb L h' tl →
    (tw, lstO tv n3) ∈ tl → All2 (fun y e => QnAt tl y (qtx e)) tv es →
    wpAny (model PySem.Challenge.rw_xo0006_01.row.prog w) ((AR dp fr gd un).deeper (envOfC qual scope L fa cv)) (execs (body.drop 11) (envOfC qual scope L fa cv)) Q E { s with heap := h', toks := tk' }) :
  wpAny (model PySem.Challenge.rw_xo0006_01.row.prog w) ((AR dp fr gd un).deeper (envOfC qual scope L fa cv)) (execs (body.drop 9) (envOfC qual scope L fa cv)) Q E s := by
  revert hl
  ((have hX0 : (hd.heap_39 w.params).In hb := G.1); revert hX0; k_fill; intro hX0; obtain ⟨mean, mg, mb, T0⟩ := G.2)
  intro hl
  refine' look_eq hl ?h1 ?_
  case h1 => k_is
  intro e
  cases e
  dsimp only [List.drop] at hQ ⊢
  clear hl
  rw [m_set m1] at F0
  rw [m_set m2] at F0
  k_steps
  refine Stop.mk' ?_
  refine C1.ListComp_1 F0 rfl (by with_unfolding_all rfl) (by decide) (by rfl) (by decide) (C1.tgt_name (x := Str.ofString "one") rfl rfl) (by intro _; rfl) ?_
  k_steps
  have hwl : wv.length = 6 := r1.length.trans h6
  refine krv_lit (h₀ := hb) (L := L) (l := wr) (its := wv.toArray) (zs := wv.reverse) (news := news) F0 N0 (News.isLst N0 h1) (IsPart.int _ _) rfl (fun D3 h3 F3 N3 lt3 => ?_) (by with_unfolding_all rfl) (by intro _; with_unfolding_all rfl) (by rw [List.size_toArray, hwl, sizeLine_eq]; omega)
  k_steps
  refine Stop.mk' ?_
  have hsb3 : ∀ p ∈ news, p ∈ (D3, listOf wv.reverse.toArray 0) :: news := fun p hp => .tail _ hp
  refine sorted_qn w _ _ _ _ _ hb L D3 _ _ wv.reverse F3 N3 ⟨_, (N3 _ (.head _)).1, rfl, _, rfl⟩ (by rw [List.length_reverse, hwl]) (fun i => qtx (es.getD i (Str.empty, Str.empty))) (fun i j hij hj => ?_) (fun i hi => ?_) _ _ (show dp + 1 < 600 by omega) (show un + 3 < 7000 by omega) G fun D4 c4 h4 tk4 F4 N4 lt4 => ?_
  · have hi' : i < es.length := by omega
    have hj' : j < es.length := by omega
    have := List.pairwise_iff_getElem.mp hasc i j hi' hj' hij
    rw [List.getD_eq_getElem?_getD, List.getElem?_eq_getElem hi', List.getD_eq_getElem?_getD, List.getElem?_eq_getElem hj']
    exact this
  · have hi' : 5 - i < es.length := by omega
    obtain ⟨v, hv, hq⟩ := r1.get (i := 5 - i) (List.getElem?_eq_getElem hi')
    rw [List.getD_eq_getElem?_getD, List.getElem?_reverse (by omega), show wv.length - 1 - i = 5 - i by omega, hv, List.getD_eq_getElem?_getD, List.getElem?_eq_getElem hi']
    exact hq.sub hsb3
  rw [List.reverse_reverse] at N4
  dsimp only
  have hsb4 : ∀ p ∈ news, p ∈ (D4, lstO wv c4) :: (D3, listOf wv.reverse.toArray 0) :: news := fun p hp => .tail _ (.tail _ hp)
  refine C1.src_cells (fun i y nw => ∃ e, es[i]? = some e ∧ CellV y (Cell.s (qtx e))) F4 N4 (.head _) (by omega) (fun r v nw nw' ⟨e, h, t⟩ k => ⟨e, h, t⟩) ?_ ?_
  · intro i v ys n nw I oI C oC D m₂ h5 tk5 s5 E5 hvi hoC hx hnb F7 N7
    obtain ⟨e, hei, a, da, oda, rfl, hma, hmda, ho, k1, t1, rfl⟩ := r1.getL hvi
    refine wp_stop ?_
    k_steps
    rename Fr _ _ _ _ => F7
    rename News _ _ _ _ => N7
    have N8 : News hb L h5 [(a, instObj 125 da), (da, dictOf [⟨ho, .str (Str.ofString "text") k1, .str (qtx e) t1⟩] 1)] := fun p hp => by
      simp only [List.mem_cons, List.not_mem_nil, or_false] at hp
      rcases hp with rfl | rfl
      · exact N7 _ (.tail _ (.tail _ (.tail _ (hnb _ (hsb4 _ hma)))))
      · exact N7 _ (.tail _ (.tail _ (.tail _ (hnb _ (hsb4 _ hmda)))))
    have N9 : True → News hb L h5 ((I, oI) :: (C, oC) :: (D, lstO ys n) :: nw) := fun _ => N7
    clear N7
    k_steps
    refine Stop.mk' ?_
    refine ⟨h5, _, [], rfl, F7, by rw [List.append_nil]; exact N9 trivial, (fun p hp => by cases hp), e, hei, .s _ _⟩
  intro D1 ys1 n1' nw1 h6' tk6 F6 N6 off6 hl6 hR6
  have hd6 : All2 CellV ys1 (es.map fun e => Cell.s (qtx e)) := by
    refine All2.ofGet (by rw [hl6, List.length_map, hwl, h6]) fun i y c hy hc => ?_
    rw [List.getElem?_map] at hc
    obtain ⟨e, he, rfl⟩ := Option.map_eq_some_iff.mp hc
    have hi : i < wv.length := by rw [hwl, ← h6]; exact (List.getElem?_eq_some_iff.mp he).1
    obtain ⟨y', hy', e', he', hc'⟩ := hR6 i hi
    rw [hy] at hy'; cases hy'
    rw [he] at he'; cases he'
    exact hc'
  clear hR6
  have hsb6 : ∀ p ∈ news, p ∈ (D1, lstO ys1 n1') :: ((D4, lstO wv c4) :: (D3, listOf wv.reverse.toArray 0) :: news ++ nw1) := fun p hp => .tail _ (List.mem_append_left _ (hsb4 p hp))
  walk1
  refine cells_ne N6 (.head _) hd6 (hsb6 _ h2) r2 (fun c hc => ?_) (show un + 3 + 64 < 9900 by omega) ?_
  · obtain ⟨e, he, rfl⟩ := List.mem_map.mp hc
    exact hfine e he
  generalize hnn : (D1, lstO ys1 n1') :: ((D4, lstO wv c4) :: (D3, listOf wv.reverse.toArray 0) :: news ++ nw1) = nn at N6 hsb6
  clear hnn N0 N3 N4 F3 F4
  k_steps
  refine Stop.mk' ?_
  refine C1.Assign_1 F6 rfl (by with_unfolding_all rfl) rfl rfl rfl (by with_unfolding_all rfl) (by decide) (by rfl) (by decide) (C1.tgt_name (x := Str.ofString "one") rfl rfl) (by intro _; rfl) ?_
  k_steps
  have hdl : dv.length = 6 := by rw [r2.length, List.length_map, h6]
  refine C1.src_cellsA (fun i y nw => ∃ e, es[i]? = some e ∧ QnAt nw y (qtx e)) F6 N6 (hsb6 _ h2) (by omega) (fun r v nw nw' ⟨e, h, t⟩ k => ⟨e, h, t.sub k⟩) ?_ ?_
  · intro i v ys n nw I oI C oC D m₂ h5 tk5 s5 E5 hvi hoC hx hnb F7 N7
    obtain ⟨c, hci, hvc⟩ := r2.getL hvi
    rw [List.getElem?_map] at hci
    obtain ⟨e, hei, rfl⟩ := Option.map_eq_some_iff.mp hci
    obtain ⟨t0, rfl⟩ := hvc.str
    have hsz2 := hsz e (List.mem_of_getElem? hei)
    refine wp_stop ?_
    k_steps
    refine Stop.mk' ?_
    refine qn_make1 w _ _ _ _ _ (qtx e) t0 hb L _ ((I, oI) :: (C, oC) :: (D, lstO ys n) :: nw) F7 N7 hsz2 qk ek (show dp + 1 < 700 by omega) (show un + 3 < 8000 by omega) G fun o dx od h8 tk8 F8 N8 ho hdx htx => ?_
    dsimp only [qk]
    refine Stop.mk' ?_
    refine ⟨h8, _, [(o, instObj 125 dx), (dx, od)], rfl, F8, News.sub N8 fun p hp => ?_, fun p hp => ?_, e, hei, o, dx, od, rfl, .head _, .tail _ (.head _), htx⟩
    · (revert hp; revert p; walk_at "mine.sub")
    · have q1 := ho _ (.head _)
      have q2 := ho _ (.tail _ (.head _))
      have q3 := ho _ (.tail _ (.tail _ (.head _)))
      simp only [List.mem_cons, List.not_mem_nil, or_false] at hp
      rcases hp with rfl | rfl
      · exact ⟨Nat.lt_trans q1 hdx, Nat.lt_trans q2 hdx, Nat.lt_trans q3 hdx⟩
      · exact ⟨q1, q2, q3⟩
  intro D2 ys2 n2' nw2 h7 tk7 F7 N7 off7 hl7 hR7
  have hd7 : All2 (fun y e => QnAt ((D2, lstO ys2 n2') :: (nn ++ nw2)) y (qtx e)) ys2 es := by
    refine All2.ofGet (by rw [hl7, hdl, h6]) fun i y e hy he => ?_
    have hi : i < dv.length := by rw [hdl, ← h6]; exact (List.getElem?_eq_some_iff.mp he).1
    obtain ⟨y', hy', e', he', hc'⟩ := hR7 i hi
    rw [hy] at hy'; cases hy'
    rw [he] at he'; cases he'
    exact hc'.sub fun p hp => .tail _ hp
  refine hQ _ D2 ys2 n2' h7 _ _ (fun x hx => ?_) rfl (fun p hp => .tail _ (List.mem_append_left _ (hsb6 p hp))) F7 N7 (.head _) hd7
  show (if x = Str.ofString "twins" then some (Value.ref D2) else if x = Str.ofString "wrapped" then some (Value.ref wr) else if x = Str.ofString "due" then some (Value.ref du) else m x) = m x
  rw [if_neg hx]
  by_cases e1 : x = Str.ofString "wrapped"
  · rw [if_pos e1, e1, m1]
  · rw [if_neg e1]
    by_cases e2 : x = Str.ofString "due"
    · rw [if_pos e2, e2, m2]
    · rw [if_neg e2]
end
end
section
set_option maxRecDepth 100000
set_option maxHeartbeats 16000000
theorem fresh_Lw7 : True := by (w_top off; trivial)
theorem llt_irrefl : ∀ l : List Nat, ¬ l < l
  | [], h => by cases h
  | a :: l, h => by
    cases h with
    | rel h => exact Nat.lt_irrefl _ h
    | cons h => exact llt_irrefl l h
theorem llt_asymm : ∀ l k : List Nat, l < k → ¬ k < l
  | _, _, .nil, h => by cases h
  | _, _, .rel h, h' => by
    cases h' with
    | rel h2 => exact Nat.lt_asymm h h2
    | cons h2 => exact Nat.lt_irrefl _ h
  | _, _, .cons h, h' => by
    cases h' with
    | rel h2 => exact Nat.lt_irrefl _ h2
    | cons h2 => exact llt_asymm _ _ h h2
/-- the five answers -/
theorem five {es : List (Str × Str)} (hasc : es.Pairwise fun a b => (qtx a).cps.toList < (qtx b).cps.toList) {i j : Nat} {e e' : Str × Str} (hi : es[i]? = some e) (hj : es[j]? = some e') :
    decide ((qtx e).cps.toList < (qtx e').cps.toList) = decide ((i : Int) < (j : Int)) ∧ (!decide ((qtx e').cps.toList < (qtx e).cps.toList)) = decide ((i : Int) ≤ (j : Int)) ∧ (qtx e == qtx e') = ((i : Int) == (j : Int)) ∧
    (!decide ((qtx e).cps.toList < (qtx e').cps.toList)) = decide ((i : Int) ≥ (j : Int)) ∧ decide ((qtx e').cps.toList < (qtx e).cps.toList) = decide ((i : Int) > (j : Int)) := by
  obtain ⟨hi', rfl⟩ := List.getElem?_eq_some_iff.mp hi
  obtain ⟨hj', rfl⟩ := List.getElem?_eq_some_iff.mp hj
  have hp := List.pairwise_iff_getElem.mp hasc
  rcases Nat.lt_trichotomy i j with h | h | h
  · have a := hp i j hi' hj' h
    have b := llt_asymm _ _ a
    have c : qtx es[i] ≠ qtx es[j] := fun e => by rw [e] at a; exact llt_irrefl _ a
    refine ⟨?_, ?_, ?_, ?_, ?_⟩
    · rw [decide_eq_true a, decide_eq_true (by omega)]
    · rw [decide_eq_false b, decide_eq_true (by omega)]; rfl
    · rw [beq_eq_false_iff_ne.mpr c, beq_eq_false_iff_ne.mpr (by omega)]
    · rw [decide_eq_true a, decide_eq_false (by omega)]; rfl
    · rw [decide_eq_false b, decide_eq_false (by omega)]
  · subst h
    have a := llt_irrefl (qtx es[i]).cps.toList
    refine ⟨?_, ?_, ?_, ?_, ?_⟩
    · rw [decide_eq_false a, decide_eq_false (by omega)]
    · rw [decide_eq_false a, decide_eq_true (by omega)]; rfl
    · rw [beq_self_eq_true, beq_self_eq_true]
    · rw [decide_eq_false a, decide_eq_true (by omega)]; rfl
    · rw [decide_eq_false a, decide_eq_false (by omega)]
  · have a := hp j i hj' hi' h
    have b := llt_asymm _ _ a
    have c : qtx es[i] ≠ qtx es[j] := fun e => by rw [e] at a; exact llt_irrefl _ a
    refine ⟨?_, ?_, ?_, ?_, ?_⟩
    · rw [decide_eq_false b, decide_eq_false (by omega)]
    · rw [decide_eq_true a, decide_eq_false (by omega)]; rfl
    · rw [beq_eq_false_iff_ne.mpr c, beq_eq_false_iff_ne.mpr (by omega)]
    · rw [decide_eq_false b, decide_eq_true (by omega)]; rfl
    · rw [decide_eq_true a, decide_eq_true (by omega)]
section
local macro_rules | `(tactic| walk_at "exec For Tuple Call") => `(tactic| (k_here; refine For_at ?_ (by with_unfolding_all (intro _; rfl))))
local macro_rules | `(tactic| walk_at "call type:enumerate") => `(tactic| walk_at "mine.stop")
local macro_rules | `(tactic| walk_at "compareOp Lt ref") => `(tactic| walk_at "mine.stop")
local macro_rules | `(tactic| walk_at "compareOp LtE ref") => `(tactic| walk_at "mine.stop")
local macro_rules | `(tactic| walk_at "compareOp Eq ref") => `(tactic| walk_at "mine.stop")
local macro_rules | `(tactic| walk_at "compareOp GtE ref") => `(tactic| walk_at "mine.stop")
local macro_rules | `(tactic| walk_at "compareOp Gt ref") => `(tactic| walk_at "mine.stop")
local macro_rules | `(tactic| walk_at "compareOp NotEq ref") => `(tactic| walk_at "mine.stop")
theorem seg11 (w : World) (dp un : Nat) (fr : Option (List Env)) (gd : Option (List Code)) (hb : Heap) (s : Shared) (G : Gd w hb) (L fa : Addr) (cv : Value) (m : Str → Option Value) (news : List (Addr × Obj)) (Q : Flow → Shared → Prop) {oc od name qual params body scope dV kV doc pm an cdv ct osl} (hl : (hd.heap_39 w.params).lookup 163 = some ⟨oc, od, .func (fnOf name qual params body scope dV kV doc pm an cdv ct), osl⟩)
  (hdp : dp < 400) (hun : un < 4000) (F0 : Fr hb L s.heap m) (N0 : News hb L s.heap news) (wr tw : Addr) (m1 : m (Str.ofString "wrapped") = some (.ref wr)) (m2 : m (Str.ofString "twins") = some (.ref tw))
  (wv tv : List Value) (n1 n2 : Nat) (h1 : (wr, lstO wv n1) ∈ news) (h2 : (tw, lstO tv n2) ∈ news) (es : List (Str × Str)) (h6 : es.length = 6) (hasc : es.Pairwise fun a b => (qtx a).cps.toList < (qtx b).cps.toList)
  (r1 : All2 (fun y e => QnAt news y (qtx e)) wv es) (r2 : All2 (fun y e => QnAt news y (qtx e)) tv es)
  (hQ : ∀ m' h' tk', (∀ x, x ≠ Str.ofString "place" → x ≠ Str.ofString "one" → x ≠ Str.ofString "seat" → x ≠ Str.ofString "other" → m' x = m x) → Fr hb L h' m' → News hb L h' news → 
    wpAny (model PySem.Challenge.rw_xo0006_01.row.prog w) ((AR dp fr gd un).deeper (envOfC qual scope L fa cv)) (execs (body.drop 12) (envOfC qual scope L fa cv)) Q (fun _ _ => False) { s with heap := h', toks := tk' }) :
  wpAny (model PySem.Challenge.rw_xo0006_01.row.prog w) ((AR dp fr gd un).deeper (envOfC qual scope L fa cv)) (execs (body.drop 11) (envOfC qual scope L fa cv)) Q (fun _ _ => False) s := by
  revert hl
  ((have hX0 : (hd.heap_39 w.params).In hb := G.1); revert hX0; k_fill; intro hX0; obtain ⟨mean, mg, mb, T0⟩ := G.2)
  intro hl
  refine' look_eq hl ?h1 ?_
  case h1 => k_is
  intro e
  cases e
  dsimp only [List.drop] at hQ ⊢
  clear hl
  rw [m_set m1] at F0
  k_steps
  refine Stop.mk' ?_
  have F1 : Fr hb L s.heap m := by rw [m_set m1]; exact F0
  clear F0
  refine for_enum (vs := wv) (n := n1) (J := fun i m₁ news₁ => (∀ x, x ≠ Str.ofString "place" → x ≠ Str.ofString "one" → x ≠ Str.ofString "seat" → x ≠ Str.ofString "other" → m₁ x = m x) ∧ news₁ = news) rfl rfl rfl rfl F1 N0 ?h0 ?src ?turn ?done ?hE
  case hE => passes_own
  case h0 => exact ⟨fun _ _ _ _ _ => rfl, rfl⟩
  case src => rintro i m₁ news₁ ⟨_, rfl⟩; exact h1
  case done =>
    rintro m₁ news₁ h tk ⟨hm, rfl⟩ F5 N5
    dsimp only
    exact hQ _ h tk hm F5 N5
  case turn =>
    rintro i v tk m₁ news₁ I K oI oK h tk' hi hv ⟨hm, rfl⟩ off hIK F5 N5
    obtain ⟨mi, F6, hmi⟩ : ∃ mi, Fr hb L h mi ∧ mi = _ := ⟨_, F5, rfl⟩
    clear F5
    have i1 : mi (Str.ofString "one") = some v := by rw [hmi]; rfl
    have i2 : mi (Str.ofString "place") = some (.int (i : Int) tk) := by rw [hmi]; rfl
    have i3 : mi (Str.ofString "twins") = some (.ref tw) := by rw [hmi, ← m2, ← hm _ (by decide) (by decide) (by decide) (by decide)]; rfl
    have i4 : ∀ x, x ≠ Str.ofString "place" → x ≠ Str.ofString "one" → x ≠ Str.ofString "seat" → x ≠ Str.ofString "other" → mi x = m x := fun x a b c d => by
      rw [hmi]
      show (if x = Str.ofString "one" then some v else if x = Str.ofString "place" then some (.int (i : Int) tk) else m₁ x) = m x
      rw [if_neg b, if_neg a, hm x a b c d]
    clear hmi hm
    rw [m_set i3] at F6
    k_steps
    refine Stop.mk' ?_
    have F7 : Fr hb L h mi := by rw [m_set i3]; exact F6
    clear F6
    have hbase : ∀ p ∈ news₁, p ∈ (I, oI) :: (K, oK) :: news₁ := fun p hp => .tail _ (.tail _ hp)
    refine for_enum (vs := tv) (n := n2) (J := fun j m₂ news₂ => (∀ x, x ≠ Str.ofString "seat" → x ≠ Str.ofString "other" → m₂ x = mi x) ∧ news₂ = (I, oI) :: (K, oK) :: news₁) rfl rfl rfl rfl F7 N5 ?h0 ?src ?turn ?done ?hE
    case hE => passes_own
    case h0 => exact ⟨fun _ _ _ => rfl, rfl⟩
    case src => rintro j m₁ news₂ ⟨_, rfl⟩; exact hbase _ h2
    case done =>
      rintro m₂ news₂ h8 tk8 ⟨hm2, rfl⟩ F8 N8
      dsimp only
      k_steps
      rename Fr _ _ _ _ => F9
      rename News _ _ _ _ => N9
      exact LEnd2.intro F9 N9 news₁ (fun p hp => hp) off ⟨fun x a b c d => (hm2 x c d).trans (i4 x a b c d), rfl⟩
    case turn =>
      rintro j u tk2 m₂ news₂ I2 K2 oI2 oK2 h8 tk8 hj hu ⟨hm2, rfl⟩ off2 hIK2 F8 N8
      obtain ⟨mj, F9, hmj⟩ : ∃ mj, Fr hb L h8 mj ∧ mj = _ := ⟨_, F8, rfl⟩
      clear F8
      have j1 : mj (Str.ofString "one") = some v := by rw [hmj, ← i1, ← hm2 _ (by decide) (by decide)]; rfl
      have j2 : mj (Str.ofString "place") = some (.int (i : Int) tk) := by rw [hmj, ← i2, ← hm2 _ (by decide) (by decide)]; rfl
      have j3 : mj (Str.ofString "other") = some u := by rw [hmj]; rfl
      have j4 : mj (Str.ofString "seat") = some (.int (j : Int) tk2) := by rw [hmj]; rfl
      have j5 : ∀ x, x ≠ Str.ofString "seat" → x ≠ Str.ofString "other" → mj x = mi x := fun x a b => by
        rw [hmj]
        show (if x = Str.ofString "other" then some u else if x = Str.ofString "seat" then some (.int (j : Int) tk2) else m₂ x) = mi x
        rw [if_neg b, if_neg a, hm2 x a b]
      clear hmj hm2
      obtain ⟨e, hei, a, da, oda, rfl, hma, hmda, hta⟩ := r1.getL hv
      obtain ⟨e', hej, b, db, odb, rfl, hmb, hmdb, htb⟩ := r2.getL hu
      have hmm : mj = fun y => if y = Str.ofString "one" then some (.ref a) else if y = Str.ofString "place" then some (.int (i : Int) tk) else if y = Str.ofString "other" then some (.ref b) else if y = Str.ofString "seat" then some (.int (j : Int) tk2) else mj y := by
        funext y
        split
        · rename_i e; rw [e, j1]
        split
        · rename_i e; rw [e, j2]
        split
        · rename_i e; rw [e, j3]
        split
        · rename_i e; rw [e, j4]
        rfl
      obtain ⟨mk, hmk⟩ : ∃ mk, mk = mj := ⟨_, rfl⟩
      rw [← hmk] at hmm
      have F10 : Fr hb L h8 (fun y => if y = Str.ofString "one" then some (.ref a) else if y = Str.ofString "place" then some (.int (i : Int) tk) else if y = Str.ofString "other" then some (.ref b) else if y = Str.ofString "seat" then some (.int (j : Int) tk2) else mk y) := by
        rw [← hmm, hmk]; exact F9
      clear F9
      have hin : ∀ p ∈ news₁, p ∈ (I2, oI2) :: (K2, oK2) :: (I, oI) :: (K, oK) :: news₁ := fun p hp => .tail _ (.tail _ (hbase p hp))
      obtain ⟨q1, q2, q3, q4, q5⟩ := five hasc hei hej
      have N8 : News hb L h8 ((I2, oI2) :: (K2, oK2) :: (I, oI) :: (K, oK) :: news₁) := N8
      k_steps
      refine Stop.mk' ?_
      refine qn_lt w _ _ _ _ _ (qtx e) (qtx e') a da b db oda odb hb L _ _ F10 N8 (hin _ hma) (hin _ hmda) (hin _ hmb) (hin _ hmdb) hta htb _ _ (show dp + 1 < 700 by omega) (show un + 3 < 8000 by omega) G fun h9 tk9 kp => ?_
      rw [q1]
      (
      have F11 := fr_kp F10 kp
      have N11 := news_kp N8 kp
      clear F10 N8 kp
      have F10 := F11
      have N8 := N11
      clear F11 N11
      dsimp only
      k_steps
      (try refine Stop.mk' ?_))
      refine qn_le w _ _ _ _ _ (qtx e) (qtx e') a da b db oda odb hb L _ _ F10 N8 (hin _ hma) (hin _ hmda) (hin _ hmb) (hin _ hmdb) hta htb _ _ (show dp + 1 < 700 by omega) (show un + 3 < 8000 by omega) G fun h9 tk9 kp => ?_
      rw [q2]
      (
      have F11 := fr_kp F10 kp
      have N11 := news_kp N8 kp
      clear F10 N8 kp
      have F10 := F11
      have N8 := N11
      clear F11 N11
      dsimp only
      k_steps
      (try refine Stop.mk' ?_))
      refine qn_eq w _ _ _ _ _ (qtx e) (qtx e') a da b db oda odb hb L _ _ F10 N8 (hin _ hma) (hin _ hmda) (hin _ hmb) (hin _ hmdb) hta htb _ _ (show dp + 1 < 700 by omega) (show un + 3 < 8000 by omega) G fun h9 tk9 kp => ?_
      rw [q3]
      (
      have F11 := fr_kp F10 kp
      have N11 := news_kp N8 kp
      clear F10 N8 kp
      have F10 := F11
      have N8 := N11
      clear F11 N11
      dsimp only
      k_steps
      (try refine Stop.mk' ?_))
      refine qn_ge w _ _ _ _ _ (qtx e) (qtx e') a da b db oda odb hb L _ _ F10 N8 (hin _ hma) (hin _ hmda) (hin _ hmb) (hin _ hmdb) hta htb _ _ (show dp + 1 < 700 by omega) (show un + 3 < 8000 by omega) G fun h9 tk9 kp => ?_
      rw [q4]
      (
      have F11 := fr_kp F10 kp
      have N11 := news_kp N8 kp
      clear F10 N8 kp
      have F10 := F11
      have N8 := N11
      clear F11 N11
      dsimp only
      k_steps
      (try refine Stop.mk' ?_))
      refine qn_gt w _ _ _ _ _ (qtx e) (qtx e') a da b db oda odb hb L _ _ F10 N8 (hin _ hma) (hin _ hmda) (hin _ hmb) (hin _ hmdb) hta htb _ _ (show dp + 1 < 700 by omega) (show un + 3 < 8000 by omega) G fun h9 tk9 kp => ?_
      rw [q5]
      (
      have F11 := fr_kp F10 kp
      have N11 := news_kp N8 kp
      clear F10 N8 kp
      have F10 := F11
      have N8 := N11
      clear F11 N11
      dsimp only
      k_steps
      (try refine Stop.mk' ?_))
      rename Fr _ _ _ _ => F12
      rename News _ _ _ _ => N12
      refine LEnd2.intro F12 N12 ((I, oI) :: (K, oK) :: news₁) (fun p hp => ?_) off2 ⟨fun x a b => (congrFun (hmm.symm.trans hmk) x).trans (j5 x a b), rfl⟩
      exact .tail _ (.tail _ hp)
end
end
section
set_option maxRecDepth 100000
set_option maxHeartbeats 16000000
theorem fresh_Lw8 : True := by (w_top off; trivial)
section
local macro_rules | `(tactic| walk_at "call ref") => `(tactic| walk_at "mine.stop")
set_option hygiene false in
local macro_rules | `(tactic| walk_at "execs cons") => `(tactic| (k_here; (have hz := hstopHere); clear hz; refine Stop.out ?_))
theorem seg0 (w : World) (dp un : Nat) (fr : Option (List Env)) (gd : Option (List Code)) (hb : Heap) (s : Shared) (G : Gd w hb) (L fa : Addr) (cv : Value) (m : Str → Option Value) (news : List (Addr × Obj)) (Q : Flow → Shared → Prop) (E) {oc od name qual params body scope dV kV doc pm an cdv ct osl} (hl : (hd.heap_39 w.params).lookup 163 = some ⟨oc, od, .func (fnOf name qual params body scope dV kV doc pm an cdv ct), osl⟩)
  (hdp : dp < 400) (hun : un < 4000) (F0 : Fr hb L s.heap m) (N0 : News hb L s.heap news) (sc : Addr) (vs : List Value) (ns : List Int) (m1 : m (Str.ofString "script") = some (.ref sc)) (hL : hb.IsList sc vs.toArray) (hI : IntsAre vs ns) (hlen : ¬ 63 < ns.length)
  (hQ : ∀ m' st td ts up nm wk pcA rwA uv nv wv pv rv n1 n2 n3 n4 n5 us cs h' tk' tl, m' (Str.ofString "depth") = some (.int st td) → m' (Str.ofString "start") = some (.int st ts) → m' (Str.ofString "ups") = some (.ref up) → m' (Str.ofString "names") = some (.ref nm) → m' (Str.ofString "walked") = some (.ref wk) → m' (Str.ofString "pieces") = some (.ref pcA) → m' (Str.ofString "rows") = some (.ref rwA) →
    (∀ p ∈ news, p ∈ tl) → Fr hb L h' m' → News hb L h' tl → (up, lstO uv n1) ∈ tl → (nm, lstO nv n2) ∈ tl → (wk, lstO wv n3) ∈ tl → (pcA, lstO pv n4) ∈ tl → (rwA, lstO rv n5) ∈ tl → TreeOk us cs → All2 CellV uv (us.map Cell.i) → All2 CellV nv (cs.map fun c => Cell.s (sg c)) →
    Rows tl wv ((wkP us cs 7 [] 0).map (rawP cs)) → All2 CellV pv ((wrK us cs 7 0).map fun t => Cell.s (pstr t)) → Rows tl rv (((wkP us cs 7 [] 0).map (prP cs)).map two) →
    wpAny (model PySem.Challenge.rw_xo0006_01.row.prog w) ((AR dp fr gd un).deeper (envOfC qual scope L fa cv)) (execs (body.drop 5) (envOfC qual scope L fa cv)) Q E { s with heap := h', toks := tk' }) :
  wpAny (model PySem.Challenge.rw_xo0006_01.row.prog w) ((AR dp fr gd un).deeper (envOfC qual scope L fa cv)) (execs (body.drop 0) (envOfC qual scope L fa cv)) Q E s := by
  revert hl
  ((have hX0 : (hd.heap_39 w.params).In hb := G.1); revert hX0; k_fill; intro hX0; obtain ⟨mean, mg, mb, T0⟩ := G.2)
  intro hl
  refine' look_eq hl ?h1 ?_
  case h1 => k_is
  intro e
  cases e
  dsimp only [List.drop] at hQ ⊢
  clear hl
  rw [m_set m1] at F0
  k_steps
  refine Stop.mk' ?_
  refine tree_spec w _ _ _ _ _ sc vs ns _ _ (show dp + 1 < 800 by omega) (show un + 3 < 8000 by omega) (G.kp F0.keep) (hL.at fun o e => F0.keep _ o e) hI hlen fun T n0 up uv n1 nm nv n2 tot tt us cs tl1 h1 tk1 kp1 nw1 hT1 hup1 hnm1 huv hnv TO => ?_
  have F1 := fr_kp F0 kp1
  have N1 := news_new F0 N0 kp1 nw1
  clear F0 N0
  have N2 : News hb L h1 ((T, tupO [.ref up, .ref nm, .int tot tt] n0) :: (up, lstO uv n1) :: (nm, lstO nv n2) :: (news ++ tl1)) := fun p hp => by
    simp only [List.mem_cons] at hp
    rcases hp with rfl | rfl | rfl | hp
    · exact N1 _ (List.mem_append_right _ hT1)
    · exact N1 _ (List.mem_append_right _ hup1)
    · exact N1 _ (List.mem_append_right _ hnm1)
    · exact N1 p hp
  clear N1 kp1 nw1
  k_steps
  refine Stop.mk' ?_
  rename Fr _ _ _ _ => F3
  rename News _ _ _ _ => N3
  rename_i tkA hA
  obtain ⟨st, ts, F4⟩ : ∃ st ts, Fr hb L hA (fun y => if y = Str.ofString "start" then some (.int st ts) else if y = Str.ofString "total" then some (.int tot tt) else if y = Str.ofString "names" then some (.ref nm) else if y = Str.ofString "ups" then some (.ref up) else if y = Str.ofString "script" then some (.ref sc) else m y) := ⟨_, _, F3⟩
  clear F3
  have N4 : News hb L hA ((up, lstO uv n1) :: (nm, lstO nv n2) :: (news ++ tl1)) := News.sub N3 fun p hp => by
    (revert hp; revert p; walk_at "mine.sub")
  clear N3
  refine walked_spec w us cs TO 7 _ _ _ _ _ up nm uv nv 0 _ [] _ _ _ (by decide) (by decide) (by decide) (by decide) (show dp + 1 + 7 < 500 by omega) (show un + 3 + 8 * 7 < 8000 by omega) (G.kp F4.keep) (News.isLst (s := { s with heap := hA }) N4 (.head _)) huv (News.isLst (s := { s with heap := hA }) N4 (.tail _ (.head _))) hnv fun D2 wv n3 tl2 h2 tk2 kp2 nw2 hD2 hR2 => ?_
  have F5 := fr_kp F4 kp2
  have N5 : News hb L h2 ((D2, lstO wv n3) :: (up, lstO uv n1) :: (nm, lstO nv n2) :: ((news ++ tl1) ++ tl2)) := fun p hp => by
    have z := news_new F4 N4 kp2 nw2
    simp only [List.mem_cons, List.mem_append] at hp
    rcases hp with h | h | h | (h | h) | h
    · rw [h]; exact z _ (List.mem_append_right _ hD2)
    · exact z _ (by rw [h]; exact .head _)
    · exact z _ (by rw [h]; exact .tail _ (.head _))
    · exact z _ (List.mem_append_left _ (.tail _ (.tail _ (List.mem_append_left _ h))))
    · exact z _ (List.mem_append_left _ (.tail _ (.tail _ (List.mem_append_right _ h))))
    · exact z _ (List.mem_append_right _ h)
  clear N4 F4 kp2 nw2
  k_steps
  refine Stop.mk' ?_
  rename Fr _ _ _ _ => F6
  rename News _ _ _ _ => N6
  rename_i tkB hB
  refine written_spec w us cs TO 7 _ _ _ _ _ up nm uv nv 0 _ _ _ (by decide) (by decide) (by decide) (show dp + 1 + 7 < 500 by omega) (show un + 3 + 8 * 7 < 8000 by omega) (G.kp F6.keep) (News.isLst (s := { s with heap := hB }) N6 (.tail _ (.head _))) huv (News.isLst (s := { s with heap := hB }) N6 (.tail _ (.tail _ (.head _)))) hnv fun D3 pv n4 tl3 h3 tk3 kp3 nw3 hD3 hP3 => ?_
  have F7 := fr_kp F6 kp3
  have N7 : News hb L h3 ((D3, lstO pv n4) :: (D2, lstO wv n3) :: (up, lstO uv n1) :: (nm, lstO nv n2) :: ((news ++ tl1) ++ tl2)) := fun p hp => by
    have z := news_new F6 N6 kp3 nw3
    rcases List.mem_cons.mp hp with h | h
    · rw [h]; exact z _ (List.mem_append_right _ hD3)
    · exact z _ (List.mem_append_left _ h)
  clear N6 F6 kp3 nw3
  rw [wrT_eq, List.map_map] at hP3
  have hP3 : All2 CellV pv ((wrK us cs 7 0).map fun t => Cell.s (pstr t)) := hP3
  k_steps
  refine Stop.mk' ?_
  rename Fr _ _ _ _ => F8
  rename News _ _ _ _ => N8
  rename_i tkC hC
  obtain ⟨q', bel', hrd, hbe, hcl⟩ := rd_wr (us := us) (cs := cs) 0
  obtain ⟨hd0, hrr⟩ := rd_rows TO
  refine read_spec w _ _ _ _ _ D3 pv (wrK us cs 7 0) st ts _ _ (show dp + 1 < 800 by omega) (show un + 3 < 8000 by omega) (G.kp F8.keep) (News.isLst (s := { s with heap := hC }) N8 (.head _)) hP3 (wr_ok TO 7 0 (by decide)) (by have := wr_21 TO; omega) hcl fun T4 n5 D4 rv n6 t4 tl4 h4 tk4 kp4 nw4 hT4 hD4 hR4 => ?_
  rw [hd0, show st + ((0 : Nat) : Int) = st by omega] at hT4
  rw [hrr] at hR4
  have F9 := fr_kp F8 kp4
  have N9 : News hb L h4 ((T4, tupO [.int st t4, .ref D4] n5) :: (D4, lstO rv n6) :: (((D3, lstO pv n4) :: (D2, lstO wv n3) :: (up, lstO uv n1) :: (nm, lstO nv n2) :: ((news ++ tl1) ++ tl2)) ++ tl4)) := fun p hp => by
    have z := news_new F8 N8 kp4 nw4
    rcases List.mem_cons.mp hp with h | hp
    · rw [h]; exact z _ (List.mem_append_right _ hT4)
    rcases List.mem_cons.mp hp with h | h
    · rw [h]; exact z _ (List.mem_append_right _ hD4)
    · exact z _ h
  clear N8 F8 kp4 nw4
  have hstopHere : True := trivial
  k_steps
  refine Stop.mk' ?_
  rename Fr _ _ _ _ => F10
  rename News _ _ _ _ => N10
  have sub1 : ∀ p ∈ (up, lstO uv n1) :: (nm, lstO nv n2) :: ((news ++ tl1) ++ tl2), p ∈ (T4, tupO [.int st t4, .ref D4] n5) :: (D4, lstO rv n6) :: (((D3, lstO pv n4) :: (D2, lstO wv n3) :: (up, lstO uv n1) :: (nm, lstO nv n2) :: ((news ++ tl1) ++ tl2)) ++ tl4) := fun p hp => .tail _ (.tail _ (List.mem_append_left _ (.tail _ (.tail _ hp))))
  refine hQ _ st _ ts up nm D2 D3 D4 uv nv wv pv rv n1 n2 n3 n4 n6 us cs _ _ _ rfl rfl rfl rfl rfl rfl rfl (fun p hp => ?_) F10 N10 (sub1 _ (.head _)) (sub1 _ (.tail _ (.head _))) (.tail _ (.tail _ (List.mem_append_left _ (.tail _ (.head _))))) (.tail _ (.tail _ (List.mem_append_left _ (.head _)))) (.tail _ (.head _)) TO huv hnv ?_ hP3 ?_
  · exact sub1 p (.tail _ (.tail _ (List.mem_append_left _ (List.mem_append_left _ hp))))
  · rw [wkT_eq] at hR2
    exact hR2.sub fun p hp => .tail _ (.tail _ (List.mem_append_left _ (.tail _ (.tail _ (.tail _ (.tail _ (List.mem_append_right _ hp)))))))
  · rw [List.map_map]
    exact hR4.sub fun p hp => .tail _ (.tail _ (List.mem_append_right _ hp))
end
end
section
set_option maxRecDepth 100000
theorem fresh_Lw9 : True := by (w_top off; trivial)
section
variable {us : List Int} {cs : List Nat}
theorem wk_elems (T : TreeOk us cs) : ∀ (f : Nat) (p : List Nat) (k : Nat), k < 7 → ∀ e ∈ wkP us cs f p k, ∀ c ∈ e.1, c ∈ p ∨ c ∈ cs
  | 0, _, _, _, e, h => by simp [wkP] at h
  | f + 1, p, k, hk, e, h => by
    rw [wkP] at h
    have sub : ∀ c, (c ∈ p ++ [cg cs k] ∨ c ∈ cs) → c ∈ p ∨ c ∈ cs := fun c hc => by
      rcases hc with hc | hc
      · rcases List.mem_append.mp hc with hc | hc
        · exact .inl hc
        · rw [List.mem_singleton.mp hc]; exact .inr (cg_mem T hk)
      · exact .inr hc
    intro c hc
    rcases List.mem_append.mp h with h | h
    · rcases List.mem_append.mp h with h | h
      · obtain ⟨j, hj, hje⟩ := List.mem_flatMap.mp h
        exact sub c (wk_elems T f _ j (kid_lt T (mem_lo hj)).1 e hje c hc)
      · obtain ⟨j, hj, rfl⟩ := List.mem_map.mp h
        exact sub c (.inl hc)
    · obtain ⟨j, hj, hje⟩ := List.mem_flatMap.mp h
      exact sub c (wk_elems T f _ j (kid_lt T (mem_hi hj)).1 e hje c hc)
theorem sign_lt (T : TreeOk us cs) {c : Nat} (h : c ∈ cs) : c < 1114112 := by
  have := T.sign c h
  omega
theorem strOk_of {x : Str} (h : ∀ c ∈ x.cps.toList, c < 1114112) : PyData.strOk x = true := by
  unfold PyData.strOk
  rw [Array.all_eq_true]
  intro i hi
  exact decide_eq_true (h _ (Array.mem_toList_iff.mpr (Array.getElem_mem hi)))
theorem qtx_cps (e : List Nat × Nat) : (qtx (prP cs e)).cps.toList = txt cs e := by
  show ((((Str.ofString "{").cps ++ (wy e.1).cps) ++ (Str.ofString "}").cps) ++ (sg (cg cs e.2)).cps).toList = _
  rw [Array.toList_append, Array.toList_append, Array.toList_append, show (Str.ofString "{").cps.toList = [123] by decide, show (Str.ofString "}").cps.toList = [125] by decide]
  show ([123] ++ e.1 ++ [125]) ++ [cg cs e.2] = 123 :: (e.1 ++ [125, cg cs e.2])
  simp
theorem ap_cps (e : List Nat × Nat) : (wy e.1 ++ sg (cg cs e.2)).cps.toList = e.1 ++ [cg cs e.2] := by rw [wy_snoc]
theorem facts (T : TreeOk us cs) : ∀ e ∈ wkP us cs 7 [] 0, e.1.length ≤ 20 ∧ e.2 < 7 ∧ (91 ∈ e.1 ↔ (unL us cs 7).getD e.2 false = true) ∧ PyData.strOk (wy e.1) = true ∧ PyData.strOk (sg (cg cs e.2)) = true ∧ PyData.strOk (wy e.1 ++ sg (cg cs e.2)) = true ∧ PyData.strOk (qtx (prP cs e)) = true ∧ (qtx (prP cs e)).length ≤ 200 := by
  intro e he
  have h1 := wk_len 7 [] 0 e he
  have h2 := wk_node T 7 [] 0 e he
  have hel : ∀ c ∈ e.1, c < 1114112 := fun c hc => by
    rcases wk_elems T 7 [] 0 (by decide) e he c hc with h | h
    · cases h
    · exact sign_lt T h
  have hcg : cg cs e.2 < 1114112 := sign_lt T (cg_mem T h2.1)
  rw [List.length_nil] at h1
  have hl : (qtx (prP cs e)).length = e.1.length + 3 := by
    show (qtx (prP cs e)).cps.size = _
    rw [← Array.length_toList, qtx_cps, txt]
    simp
  refine ⟨by omega, h2.1, un_rows T 7 [] 0 (by decide) ⟨fun h => (by cases h), fun h => (by rw [un_zero] at h; cases h)⟩ e he, strOk_of hel, strOk_of fun c hc => ?_, strOk_of fun c hc => ?_, strOk_of fun c hc => ?_, by omega⟩
  · rw [List.mem_singleton.mp (show c ∈ [cg cs e.2] from hc)]; exact hcg
  · rw [ap_cps] at hc
    rcases List.mem_append.mp hc with h | h
    · exact hel c h
    · rw [List.mem_singleton.mp h]; exact hcg
  · rw [qtx_cps, txt] at hc
    simp only [List.mem_cons, List.mem_append, List.not_mem_nil, or_false] at hc
    rcases hc with h | h | h | h
    · rw [h]; decide
    · exact hel c h
    · rw [h]; decide
    · rw [h]; exact hcg
theorem asc_q (T : TreeOk us cs) : ((wkP us cs 7 [] 0).map (prP cs)).Pairwise fun a b => (qtx a).cps.toList < (qtx b).cps.toList := by
  rw [List.pairwise_map]
  refine (asc T 7 [] 0).imp fun {a b} h => ?_
  rw [qtx_cps, qtx_cps]
  exact h
end
end
section
set_option maxRecDepth 100000
theorem fresh_Lwj : True := by (w_top off; trivial)
theorem seq_off {h₀ h : Heap} {L c a : Addr} {co o : Obj} {u : Option Value} {xs : Array Value} {k : Nat} {news : List (Addr × Obj)} (N : News h₀ L h news) (hc : (c, co) ∈ news) (hco : co.data = .cell u) (hm : (a, o) ∈ news) (hd : o.data = .seq xs k) : (a, o) ∈ news.filter fun p => decide (p.1 ≠ c) := by
  refine List.mem_filter.mpr ⟨hm, decide_eq_true fun e => ?_⟩
  have h1 := (N _ hm).1
  have h2 := (N _ hc).1
  have e : a = c := e
  rw [e] at h1
  rw [h1] at h2
  have e3 : o = co := Option.some.inj h2
  rw [e3, hco] at hd
  cases hd
theorem rows_offc {h₀ h : Heap} {L c : Addr} {co : Obj} {u : Option Value} {news : List (Addr × Obj)} {vs : List Value} {rs : List (List Cell)} (N : News h₀ L h news) (hc : (c, co) ∈ news) (hco : co.data = .cell u) (r : Rows news vs rs) : Rows (news.filter fun p => decide (p.1 ≠ c)) vs rs :=
  r.mono fun _ _ ⟨T, vs, k, e, hm, hcc⟩ => ⟨T, vs, k, e, seq_off N hc hco hm rfl, hcc⟩
theorem law_all (w : World) (dp un : Nat) (fr : Option (List Env)) (gd : Option (List Code)) (hb : Heap) (s : Shared) (G : Gd w hb) (L fa : Addr) (cv : Value) (m : Str → Option Value) (Q : Flow → Shared → Prop) {oc od name qual params body scope dV kV doc pm an cdv ct osl} (hl : (hd.heap_39 w.params).lookup 163 = some ⟨oc, od, .func (fnOf name qual params body scope dV kV doc pm an cdv ct), osl⟩)
  (hdp : dp < 400) (hun : un < 4000) (F0 : Fr hb L s.heap m) (co : Obj) (hco : co.data = .cell none) (N0 : News hb L s.heap [(L + 1, co)]) (sc : Addr) (vs : List Value) (ns : List Int) (m1 : m (Str.ofString "script") = some (.ref sc)) (hL : hb.IsList sc vs.toArray) (hI : IntsAre vs ns) (hlen : ¬ 63 < ns.length)
  (hQ : ∀ h' tk', Kp hb h' → Q (.ret (.bool true)) { s with heap := h', toks := tk' }) :
  wpAny (model PySem.Challenge.rw_xo0006_01.row.prog w) ((AR dp fr gd un).deeper (envOfC qual scope L fa cv)) (execs (body.drop 0) (envOfC qual scope L fa cv)) Q (fun _ _ => False) s := by
  refine seg0 w dp un fr gd hb s G L fa cv m _ Q _ hl hdp hun F0 N0 sc vs ns m1 hL hI hlen ?_
  intro m0 st td ts up nm wk pcA rwA uv nv wv pv rv n1 n2 n3 n4 n5 us cs h1 tk1 tl1 md ms mu mn mw mp mr in1 F1 N1 hup hnm hwk hpc hrw T huv hnv hwr hpv hrr
  obtain ⟨ps, hps⟩ : ∃ ps, ps = wkP us cs 7 [] 0 := ⟨_, rfl⟩
  have hf := facts T
  have h6 := six T
  have hasc := asc_q T
  rw [← hps] at hwr hrr hf h6 hasc
  refine seg5 w dp un fr gd hb _ G L fa cv m0 tl1 Q _ hl hdp hun F1 N1 st td ts rwA wk pcA md ms mr mw mp rv wv pv n5 n3 n4 cs hrw hwk hpc ps (by omega) hrr hwr (wrK us cs 7 0) hpv (wr_ok T 7 0 (by decide)) (by have := wr_21 T; omega) (wr_nets 7 0) (fun e he => ⟨(hf e he).2.2.2.1, (hf e he).2.2.2.2.1⟩) ?_
  intro h2 tk2 tl2 in2 F2 N2
  have hsz : ∀ e ∈ ps.map (prP cs), e.1.length ≤ 20 ∧ e.2.length = 1 := fun e he => by
    obtain ⟨q, hq, rfl⟩ := List.mem_map.mp he
    exact ⟨(hf q hq).1, rfl⟩
  refine seg7 w dp un fr gd hb _ G L fa cv m0 tl2 Q _ hl hdp hun F2 N2 rwA mr rv n5 (in2 _ hrw) (ps.map (prP cs)) (by rw [List.length_map]; omega) hsz (hrr.sub in2) ?_
  intro m3 wrA wrv n6 du dv n7 h3 tk3 tl3 hm3 mwr mdu in3 F3 N3 hwrp hdue hqw hdv
  refine seg9 w dp un fr gd hb _ G L fa cv m3 tl3 Q _ hl hdp hun F3 N3 wrA du mwr mdu wrv dv n6 n7 hwrp hdue (ps.map (prP cs)) (by rw [List.length_map]; exact h6) (fun e he => ?_) (fun e he => ?_) hasc hqw hdv ?_
  · obtain ⟨q, hq, rfl⟩ := List.mem_map.mp he
    exact (hf q hq).2.2.2.2.2.2.2
  · obtain ⟨q, hq, rfl⟩ := List.mem_map.mp he
    exact (hf q hq).2.2.2.2.2.2.1
  intro m4 tw tv n8 h4 tk4 tl4 hm4 mtw in4 F4 N4 htw hqt
  refine seg11 w dp un fr gd hb _ G L fa cv m4 tl4 Q hl hdp hun F4 N4 wrA tw ((hm4 _ (by decide)).trans mwr) mtw wrv tv n6 n8 (in4 _ hwrp) htw (ps.map (prP cs)) (by rw [List.length_map]; exact h6) hasc (hqw.mono fun _ _ q => q.sub in4) hqt ?_
  intro m5 h5 tk5 hm5 F5 N5
  have in14 : ∀ p ∈ tl1, p ∈ tl4 := fun p hp => in4 _ (in3 _ (in2 _ hp))
  have hcell : (L + 1, co) ∈ tl4 := in14 _ (in1 _ (.head _))
  have k5 : ∀ x, x ≠ Str.ofString "place" → x ≠ Str.ofString "one" → x ≠ Str.ofString "seat" → x ≠ Str.ofString "other" → x ≠ Str.ofString "twins" → x ≠ Str.ofString "wrapped" → x ≠ Str.ofString "due" → m5 x = m0 x := fun x a b c d e f g => (hm5 x a b c d).trans ((hm4 x e).trans (hm3 x f g))
  have hoff : ∀ p ∈ tl4.filter fun p => decide (p.1 ≠ L + 1), p.1 ≠ L + 1 := fun p hp => of_decide_eq_true (List.mem_filter.mp hp).2
  refine seg12 w dp un fr gd hb _ G L fa cv m5 (tl4.filter fun p => decide (p.1 ≠ L + 1)) Q hl hdp hun co hco F5 (News.sub N5 fun p hp => ?_) hoff up nm
    ((k5 _ (by decide) (by decide) (by decide) (by decide) (by decide) (by decide) (by decide)).trans mu) ((k5 _ (by decide) (by decide) (by decide) (by decide) (by decide) (by decide) (by decide)).trans mn) uv nv n1 n2 us cs
    (seq_off N5 hcell hco (in14 _ hup) rfl) (seq_off N5 hcell hco (in14 _ hnm) rfl) huv hnv T ?_
  · rcases List.mem_cons.mp hp with h | h
    · rw [h]; exact hcell
    · exact (List.mem_filter.mp h).1
  intro m6 ud n9 h6' tk6 co' hm6 F6 N6 hco' hudL hudo
  have up12 : ∀ p ∈ tl4.filter fun p => decide (p.1 ≠ L + 1), p ∈ (L + 1, co') :: (ud, lstO ((unL us cs 7).map Value.bool) n9) :: tl4.filter fun p => decide (p.1 ≠ L + 1) := fun p hp => .tail _ (.tail _ hp)
  refine seg14 w dp un fr gd hb _ G L fa cv m6 _ Q _ hl hdp hun co' ud (unL us cs 7) hco' F6 N6 (.head _) wk
    ((hm6 _ (by decide)).trans ((k5 _ (by decide) (by decide) (by decide) (by decide) (by decide) (by decide) (by decide)).trans mw)) wv n3 n9 us cs (up12 _ (seq_off N5 hcell hco (in14 _ hwk) rfl)) (.tail _ (.head _)) (unL_len 7) ps (by omega)
    ((rows_offc N5 hcell hco (hwr.sub in14)).sub up12) (fun e he => (hf e he).1) (fun e he => (hf e he).2.1) (fun e he => (hf e he).2.2.1) ?_
  intro m7 lf lv n10 nw7 h7 tk7 hm7 mlf F7 N7 hR7
  refine seg16 w dp un fr gd hb _ G L fa cv m7 _ Q _ hl hdp hun F7 N7 rwA lf
    ((hm7 _ (by decide)).trans ((hm6 _ (by decide)).trans ((k5 _ (by decide) (by decide) (by decide) (by decide) (by decide) (by decide) (by decide)).trans mr))) mlf rv lv n5 n10 [] [] (ps.map (prP cs)) (by rw [List.length_map]; omega) hsz (fun e he => ?_)
    (.tail _ (List.mem_append_left _ (up12 _ (seq_off N5 hcell hco (in14 _ hrw) rfl)))) (.head _) (((rows_offc N5 hcell hco (hrr.sub in14)).sub up12).sub fun p hp => .tail _ (List.mem_append_left _ hp)) hR7 ?_
  · obtain ⟨q, hq, rfl⟩ := List.mem_map.mp he
    exact ⟨(hf q hq).2.2.2.1, (hf q hq).2.2.2.2.1, (hf q hq).2.2.2.2.2.1⟩
  · exact fun h' tk' kp => hQ h' tk' kp
theorem law_top (w : World) (dp un : Nat) (fr : Option (List Env)) (gd : Option (List Code)) (hb : Heap) (s : Shared) (G : Gd w hb) (L fa : Addr) (cv : Value) (m : Str → Option Value) (Q : Flow → Shared → Prop) (E : Value → Shared → Prop) {oc od name qual params body scope dV kV doc pm an cdv ct osl} (hl : (hd.heap_39 w.params).lookup 163 = some ⟨oc, od, .func (fnOf name qual params body scope dV kV doc pm an cdv ct), osl⟩)
  (hdp : dp < 400) (hun : un < 4000) (F0 : Fr hb L s.heap m) (co : Obj) (hco : co.data = .cell none) (N0 : News hb L s.heap [(L + 1, co)]) (sc : Addr) (vs : List Value) (ns : List Int) (m1 : m (Str.ofString "script") = some (.ref sc)) (hL : hb.IsList sc vs.toArray) (hI : IntsAre vs ns) (hlen : ¬ 63 < ns.length)
  (hQ : ∀ h' tk', Kp hb h' → Q (.ret (.bool true)) { s with heap := h', toks := tk' }) :
  wpAny (model PySem.Challenge.rw_xo0006_01.row.prog w) ((AR dp fr gd un).deeper (envOfC qual scope L fa cv)) (execs body (envOfC qual scope L fa cv)) Q E s :=
  wpAny_mono (law_all w dp un fr gd hb s G L fa cv m Q hl hdp hun F0 co hco N0 sc vs ns m1 hL hI hlen hQ) (fun _ _ h => h) fun _ _ h => h.elim
end
end Mine
set_option maxRecDepth 100000 in
set_option maxHeartbeats 16000000 in
theorem PySem.Challenge.cw_xo0006_01_holds : PySem.Challenge.rw_xo0006_01.Holds :=
Mine.hd (by
  k_go0
  dsimp only
  rename Fr _ _ _ _ => FF
  rename News _ _ _ _ => NN
  rename Top _ _ _ _ _ _ => TT
  rename Heap.IsList _ _ _ => LL
  rename IntsAre _ _ => II
  rename Frag.In _ _ => KK
  rename (_ = Data.cell _) => hco
  rename (¬ ((_ : Int) < _)) => hcn
  refine' Mine.law_top _ callerA.depth callerA.units callerA.frames callerA.guards _ _ ⟨KK, _, _, _, TT⟩ _ _ _ _ _ _ ?hl ?hdp ?hun FF _ ?hco NN _ _ _ ?m1 LL II ?hlen ?hQ
  case hl => k_is
  case hdp => decide
  case hun => decide
  case hco => exact hco
  case m1 => rfl
  case hlen => omega
  case hQ =>
    intro h' tk' kp
    dsimp only
    have hgood : ∀ P : Prop, P → P := fun _ h => h
    refine ⟨.inl ⟨.bool true, .bool true, [], rfl, raisesW_false ?hn, ReadsW.bool true, ?hp, fun _ => ⟨.nil, fun a h => by cases h⟩⟩, kp, rfl, by assumption⟩
    case hn => wrow_none_raised
    case hp => wrow_post)
