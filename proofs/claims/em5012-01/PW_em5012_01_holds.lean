import PyProof.Rows.All
import Wide.All
import OpenK.AllK
import Wide.FinOn
import PySem.Challenge.RW_em5012_01
set_option Elab.async false

/- the plain law: the told text, the reader as an automaton, the counts -/
section
/- the plain law: what the text is, what the reader makes of it, how it counts -/
namespace Mine

def esc1 (c : Nat) : List Nat := if c = 92 then [92, 92] else if c = 34 then [92, 34] else [c]
def escB (w : List Nat) : List Nat := w.flatMap esc1
def nullW : List Nat := [78, 85, 76, 76]
/-- does the told word want quotes (v: its escaped signs) -/
def wants (sp : Nat → Bool) (v : List Nat) : Bool :=
  v.isEmpty || v == nullW || v.any sp || v.contains 123 || v.contains 125 || v.contains 44 || v.contains 92
def told (sp : Nat → Bool) (w : List Nat) : List Nat := if wants sp (escB w) then 34 :: (escB w ++ [34]) else escB w
/-- the items beside it, told -/
def tailT (b : Nat) : List Nat := if b = 0 then [] else if b = 1 then 44 :: nullW else 44 :: (nullW ++ [44, 97])
def tailI (b : Nat) : List (Option (List Nat)) := if b = 0 then [] else if b = 1 then [none] else [none, some [97]]
def text (sp : Nat → Bool) (b : Nat) (w : List Nat) : List Nat := 123 :: (told sp w ++ (tailT b ++ [125]))

inductive Mode where
  | str | esc | val | out
  deriving DecidableEq
structure PS where
  mode : Mode
  lvl : Nat
  buf : List Nat
  items : List (Option (List Nat))
def outStep (s : PS) (c : Nat) : Option PS :=
  if s.lvl = 0 then (if c = 123 then some { s with lvl := 1 } else none)
  else if s.lvl = 1 then
    (if c = 123 then none else if c = 125 then some { s with lvl := 2 } else if c = 44 then some s
     else if c = 34 then some { s with buf := [], mode := .str } else some { s with buf := [c], mode := .val })
  else none
def itemOf (b : List Nat) : Option (List Nat) := if b = nullW then none else some b
def step (s : PS) (c : Nat) : Option PS :=
  match s.mode with
  | .out => outStep s c
  | .val => if s.lvl = 1 then (if c = 125 ∨ c = 44 then outStep { s with items := s.items ++ [itemOf s.buf], mode := .out } c else some { s with buf := s.buf ++ [c] }) else none
  | .str => if s.lvl = 1 then (if c = 34 then some { s with items := s.items ++ [some s.buf], mode := .out } else if c = 92 then some { s with mode := .esc } else some { s with buf := s.buf ++ [c] }) else none
  | .esc => if s.lvl = 1 then some { s with buf := s.buf ++ [c], mode := .str } else none
def run : PS → List Nat → Option PS
  | s, [] => some s
  | s, c :: r => (step s c).bind fun s' => run s' r
def start : PS := ⟨.out, 0, [], []⟩

theorem run_append (s : PS) (a b : List Nat) : run s (a ++ b) = (run s a).bind fun s' => run s' b := by
  induction a generalizing s with
  | nil => rfl
  | cons c r ih =>
    show (step s c).bind (fun s' => run s' (r ++ b)) = ((step s c).bind fun s' => run s' r).bind _
    cases step s c with
    | none => rfl
    | some s' => exact ih s'

theorem run_str (w : List Nat) : ∀ (b : List Nat) (it : List (Option (List Nat))) (t : List Nat),
    run ⟨.str, 1, b, it⟩ (escB w ++ 34 :: t) = run ⟨.out, 1, b ++ w, it ++ [some (b ++ w)]⟩ t := by
  induction w with
  | nil => intro b it t; simp [escB, run, step]
  | cons c r ih =>
    intro b it t
    have e : escB (c :: r) ++ 34 :: t = esc1 c ++ (escB r ++ 34 :: t) := by simp [escB]
    rw [e]
    have hb : b ++ c :: r = (b ++ [c]) ++ r := by simp
    rw [hb, ← ih]
    unfold esc1
    by_cases h1 : c = 92
    · subst h1; simp [run, step]
    · by_cases h2 : c = 34
      · subst h2; simp [run, step]
      · simp [h1, h2, run, step]

def plainC (c : Nat) : Bool := c != 123 && c != 125 && c != 44 && c != 34 && c != 92
theorem run_val (v : List Nat) : ∀ (b : List Nat) (it : List (Option (List Nat))) (t : List Nat), (∀ c ∈ v, c ≠ 125 ∧ c ≠ 44) →
    run ⟨.val, 1, b, it⟩ (v ++ t) = run ⟨.val, 1, b ++ v, it⟩ t := by
  induction v with
  | nil => intro b it t _; simp
  | cons c r ih =>
    intro b it t h
    have hc := h c (.head _)
    have hb : b ++ c :: r = (b ++ [c]) ++ r := by simp
    rw [hb, ← ih _ _ _ fun x hx => h x (.tail _ hx)]
    simp [run, step, hc.1, hc.2]

theorem run_tail (b : Nat) (hb : b < 3) (bf : List Nat) (it : List (Option (List Nat))) :
    ∃ bf', run ⟨.out, 1, bf, it⟩ (tailT b ++ [125]) = some ⟨.out, 2, bf', it ++ tailI b⟩ := by
  have h : b = 0 ∨ b = 1 ∨ b = 2 := by omega
  rcases h with rfl | rfl | rfl
  · exact ⟨bf, by simp [tailT, tailI, run, step, outStep]⟩
  · exact ⟨nullW, by simp [tailT, tailI, run, step, outStep, nullW, itemOf]⟩
  · exact ⟨[97], by simp [tailT, tailI, run, step, outStep, nullW, itemOf]⟩
theorem run_tailV (b : Nat) (hb : b < 3) (bf : List Nat) (it : List (Option (List Nat))) :
    ∃ bf', run ⟨.val, 1, bf, it⟩ (tailT b ++ [125]) = some ⟨.out, 2, bf', it ++ itemOf bf :: tailI b⟩ := by
  have h : b = 0 ∨ b = 1 ∨ b = 2 := by omega
  rcases h with rfl | rfl | rfl
  · exact ⟨bf, by simp [tailT, tailI, run, step, outStep]⟩
  · exact ⟨nullW, by simp [tailT, tailI, run, step, outStep, nullW, itemOf]⟩
  · exact ⟨[97], by simp [tailT, tailI, run, step, outStep, nullW, itemOf]⟩

theorem escB_plain (w : List Nat) (h : 92 ∉ escB w) : escB w = w := by
  induction w with
  | nil => rfl
  | cons c r ih =>
    have e : escB (c :: r) = esc1 c ++ escB r := by simp [escB]
    rw [e] at h ⊢
    rw [List.mem_append, not_or] at h
    rw [ih h.2]
    have h1 := h.1
    unfold esc1 at h1 ⊢
    by_cases h1' : c = 92
    · simp [h1'] at h1
    · by_cases h2 : c = 34
      · simp [h2] at h1
      · simp [h1', h2]
theorem not_mem_escB_34 (w : List Nat) (h : 92 ∉ escB w) : 34 ∉ w := by
  induction w with
  | nil => simp
  | cons c r ih =>
    have e : escB (c :: r) = esc1 c ++ escB r := by simp [escB]
    rw [e, List.mem_append, not_or] at h
    intro q
    rcases List.mem_cons.mp q with q | q
    · have h1 := h.1
      rw [← q] at h1
      simp [esc1] at h1
    · exact ih h.2 q

theorem run_text (sp : Nat → Bool) (b : Nat) (hb : b < 3) (w : List Nat) :
    ∃ bf, run start (text sp b w) = some ⟨.out, 2, bf, some w :: tailI b⟩ := by
  have e1 : run start (text sp b w) = run ⟨.out, 1, [], []⟩ (told sp w ++ (tailT b ++ [125])) := by
    simp [text, run, step, outStep, start]
  rw [e1]
  unfold told
  by_cases hw : wants sp (escB w) = true
  · rw [if_pos hw]
    have e2 : run ⟨.out, 1, [], []⟩ ((34 :: (escB w ++ [34])) ++ (tailT b ++ [125])) = run ⟨.str, 1, [], []⟩ (escB w ++ 34 :: (tailT b ++ [125])) := by
      simp [run, step, outStep]
    rw [e2, run_str]
    obtain ⟨bf, h⟩ := run_tail b hb ([] ++ w) ([] ++ [some ([] ++ w)])
    exact ⟨bf, by rw [h]; simp⟩
  · rw [if_neg hw]
    have hw' : wants sp (escB w) = false := by simpa using hw
    simp only [wants, Bool.or_eq_false_iff] at hw'
    obtain ⟨⟨⟨⟨⟨⟨h1, h2⟩, h3⟩, h4⟩, h5⟩, h6⟩, h7⟩ := hw'
    have h7' : 92 ∉ escB w := by simpa using h7
    have h34 := not_mem_escB_34 w h7'
    rw [escB_plain w h7'] at h1 h2 h4 h5 h6 ⊢
    have h4' : 123 ∉ w := by simpa using h4
    have h5' : 125 ∉ w := by simpa using h5
    have h6' : 44 ∉ w := by simpa using h6
    cases w with
    | nil => simp at h1
    | cons c r =>
      have c1 : c ≠ 123 := fun q => h4' (q ▸ .head _)
      have c2 : c ≠ 125 := fun q => h5' (q ▸ .head _)
      have c3 : c ≠ 44 := fun q => h6' (q ▸ .head _)
      have c4 : c ≠ 34 := fun q => h34 (q ▸ .head _)
      have e2 : run ⟨.out, 1, [], []⟩ ((c :: r) ++ (tailT b ++ [125])) = run ⟨.val, 1, [c], []⟩ (r ++ (tailT b ++ [125])) := by
        simp [run, step, outStep, c1, c2, c3, c4]
      rw [e2, run_val r _ _ _ fun x hx => ⟨fun q => h5' (q ▸ .tail _ hx), fun q => h6' (q ▸ .tail _ hx)⟩]
      obtain ⟨bf, h⟩ := run_tailV b hb ([c] ++ r) []
      have hn : c :: r ≠ nullW := by simpa using h2
      exact ⟨bf, by rw [h]; simp [itemOf, hn]⟩

/- counting -/
theorem count34_escB (w : List Nat) : (escB w).count 34 = w.count 34 := by
  induction w with
  | nil => rfl
  | cons c r ih =>
    have e : escB (c :: r) = esc1 c ++ escB r := by simp [escB]
    rw [e, List.count_append, ih, List.count_cons]
    unfold esc1
    by_cases h1 : c = 92
    · subst h1; simp
    · by_cases h2 : c = 34
      · subst h2; simp; omega
      · simp [h1, h2]
theorem count92_escB (w : List Nat) : (escB w).count 92 = 2 * w.count 92 + w.count 34 := by
  induction w with
  | nil => rfl
  | cons c r ih =>
    have e : escB (c :: r) = esc1 c ++ escB r := by simp [escB]
    rw [e, List.count_append, ih, List.count_cons, List.count_cons]
    unfold esc1
    by_cases h1 : c = 92
    · subst h1; simp; omega
    · by_cases h2 : c = 34
      · subst h2; simp; omega
      · simp [h1, h2]
theorem count_tailT (b c : Nat) (hc : c = 34 ∨ c = 92) : (tailT b).count c = 0 := by
  unfold tailT
  rcases hc with rfl | rfl
  · split
    · rfl
    · split <;> decide
  · split
    · rfl
    · split <;> decide
theorem count34_text (sp : Nat → Bool) (b : Nat) (w : List Nat) : (text sp b w).count 34 = w.count 34 + (if wants sp (escB w) then 2 else 0) := by
  unfold text told
  rw [List.count_cons, List.count_append, List.count_append, count_tailT b 34 (.inl rfl)]
  by_cases h : wants sp (escB w) = true
  · simp [h, count34_escB]
  · simp [h, count34_escB]
theorem count92_text (sp : Nat → Bool) (b : Nat) (w : List Nat) : (text sp b w).count 92 = 2 * w.count 92 + w.count 34 := by
  unfold text told
  rw [List.count_cons, List.count_append, List.count_append, count_tailT b 92 (.inr rfl)]
  by_cases h : wants sp (escB w) = true
  · simp [h, count92_escB]
  · simp [h, count92_escB]
theorem mem123_escB (w : List Nat) (h : 123 ∈ w) : 123 ∈ escB w := List.mem_flatMap.mpr ⟨123, h, by decide⟩
theorem wants_text (sp : Nat → Bool) (b : Nat) (w : List Nat) : wants sp (escB (text sp b w)) = true := by
  have h : (escB (text sp b w)).contains 123 = true := by
    simpa using mem123_escB _ (show 123 ∈ text sp b w by simp [text])
  unfold wants; rw [h]; simp only [Bool.or_true, Bool.true_or]
theorem length_escB (w : List Nat) : (escB w).length ≤ 2 * w.length := by
  induction w with
  | nil => simp [escB]
  | cons c r ih =>
    have e : escB (c :: r) = esc1 c ++ escB r := by simp [escB]
    rw [e, List.length_append, List.length_cons]
    have : (esc1 c).length ≤ 2 := by
      unfold esc1
      split
      · simp
      · split <;> simp
    omega
theorem length_tailT (b : Nat) : (tailT b).length ≤ 7 := by
  unfold tailT
  split
  · decide
  · split <;> decide
theorem length_text (sp : Nat → Bool) (b : Nat) (w : List Nat) : (text sp b w).length ≤ 2 * w.length + 11 := by
  have h1 := length_escB w
  have h2 := length_tailT b
  unfold text told
  split <;> simp only [List.length_cons, List.length_append, List.length_nil] <;> omega

/-- the text, told again and again -/
def again (sp : Nat → Bool) (b : Nat) (w : List Nat) : Nat → List Nat
  | 0 => w
  | n + 1 => text sp b (again sp b w n)
theorem length_again (sp : Nat → Bool) (b : Nat) (w : List Nat) (n : Nat) : (again sp b w n).length + 11 ≤ 2 ^ n * (w.length + 11) := by
  induction n with
  | zero => simp [again]
  | succ n ih =>
    have h := length_text sp b (again sp b w n)
    rw [Nat.pow_succ]
    show (text sp b (again sp b w n)).length + 11 ≤ _
    have e : 2 ^ n * 2 * (w.length + 11) = 2 * (2 ^ n * (w.length + 11)) := by rw [Nat.mul_comm (2 ^ n) 2, Nat.mul_assoc]
    omega

/-- n quotings of x quotes and y backslashes -/
theorem counts (sp : Nat → Bool) (b : Nat) (w : List Nat) (q : Bool) (hq : wants sp (escB w) = q) :
    ∀ n, (again sp b w (n + 1)).count 34 = w.count 34 + 2 * (if q then n + 1 else n) ∧
      ((again sp b w (n + 1)).count 92 : Int) = 2 ^ (n + 1) * (w.count 92 : Int) + (2 ^ (n + 1) - 1) * (w.count 34 : Int) + (if q then 2 * (2 ^ (n + 1) - (n + 1 : Int) - 1) else 2 * (2 ^ n - (n : Int) - 1)) := by
  intro n
  induction n with
  | zero =>
    refine ⟨?_, ?_⟩
    · show (text sp b w).count 34 = _
      rw [count34_text, hq]; cases q <;> simp
    · show ((text sp b w).count 92 : Int) = _
      rw [count92_text]
      cases q <;> simp <;> omega
  | succ n ih =>
    obtain ⟨h1, h2⟩ := ih
    refine ⟨?_, ?_⟩
    · show (text sp b (again sp b w (n + 1))).count 34 = _
      rw [count34_text, show wants sp (escB (again sp b w (n + 1))) = true from wants_text sp b _, h1]
      cases q <;> simp <;> omega
    · show ((text sp b (again sp b w (n + 1))).count 92 : Int) = _
      rw [count92_text, h1]
      rw [Int.natCast_add, Int.natCast_mul, h2]
      generalize w.count 92 = x
      generalize w.count 34 = y
      rw [show (2 : Int) ^ (n + 1 + 1) = 2 * 2 ^ (n + 1) from by rw [Int.pow_succ]; omega]
      rw [show (2 : Int) ^ (n + 1) = 2 * 2 ^ n from by rw [Int.pow_succ]; omega]
      generalize (2 : Int) ^ n = p
      have e1 : (2 * (2 * p) : Int) * x = 2 * (2 * p * x) := by rw [Int.mul_assoc]
      have e2 : (2 * (2 * p) - 1 : Int) * y = 2 * ((2 * p - 1) * y) + y := by
        rw [Int.sub_mul, Int.sub_mul, Int.mul_sub, Int.mul_assoc, Int.one_mul]; omega
      rw [e1, e2]
      cases q <;> simp <;> omega

end Mine
end

/- the part of the state that is written out (the head itself is run in Mine.top) -/
section
open PySem PySem.W PyProof.Rows
namespace Mine
set_option maxRecDepth 100000
set_option maxHeartbeats 0
theorem keepH {P : Prop} (_ : Hook) (_ : True) (h : P) : P := h
section
local macro_rules | `(tactic| o_head $H) => `(tactic| (refine keepH $H ?$(Lean.mkIdent `hw) ?_))
local macro_rules | `(tactic| w_witness2) => `(tactic| trivial)
open_top hd for PySem.Challenge.rw_em5012_01
end
end Mine
end

/- the facts that a body is walked over; calls -/
section
open PySem PySem.W PySem.Calls PyProof.Rows
set_option maxRecDepth 100000
namespace Mine

/-- the code tables that grow while the law runs (of array_string_escape, of _array_in) -/
abbrev tabA : Addr := 735
abbrev tabF : Addr := 721

/-- a goal laid aside from the walk -/
def Stop (P : Prop) : Prop := P
theorem Stop.mk {P : Prop} (h : Stop P) : P := h
theorem Stop.out {P : Prop} (h : P) : Stop P := h
/-- what of the top is read -/
def TopL (mg mb : PySem.Str → Option Value) (h : Heap) : Prop := ∃ p l, TopRead p l mg mb h

/-- where the inner def stands in its maker's table -/
abbrev posF : Pos := ⟨430, 4, 431, 42⟩
abbrev qualF : PySem.Str := PySem.Str.ofString "_array_in.<locals>.f"
def TabFOk (h : Heap) (ps : Array Value) : Prop :=
  TriplesOk ps.toList ∧ ∀ cv, codeAmong posF ps.toList = some cv → ∃ c, cv = .ref c ∧ h.CodeRec (.ref c) qualF
theorem TabFOk.keeps {h h' : Heap} {ps : Array Value} (x : TabFOk h ps) (k : ∀ c o, h.get? c = some o → o.data ≠ .freed → (∀ vs t, o.data = .fields vs → vs[1]? = some (.str qualF t) → h'.get? c = some o)) : TabFOk h' ps :=
  ⟨x.1, fun cv e => by
    obtain ⟨c, e1, c', o, vs, t, e2, ho, hd, hv⟩ := x.2 cv e
    cases e2
    exact ⟨c, e1, c, o, vs, t, rfl, k c o ho (by rw [hd]; nofun) vs t hd hv, hd, hv⟩⟩

/-- the facts that a function's body is walked over: g is its base -/
structure Gd (w : World) (mg mb : PySem.Str → Option Value) (g : Heap) : Prop where
  X : (hd.heap_39 w.params).In g
  T : TopL mg mb g
  bm : ∃ bm ob, mg "__builtins__" = some (.ref bm) ∧ bm ≠ builtinsNs ∧ g.get? bm = some ob ∧ ob.cls = .type "module" ∧ ob.dict = some builtinsNs ∧ ob.data = .plain

def HasA (h : Heap) : Prop := ∃ ps, h.get? tabA = some (tabObj ps) ∧ TriplesOk ps.toList
def HasF (h : Heap) : Prop := ∃ ps, h.get? tabF = some (tabObj ps) ∧ TabFOk h ps

theorem notIn_K (P : Params) : ((hd.heap_39 P).all fun p => decide (p.1 ≠ tabA) && decide (p.1 ≠ tabF)) = true := by kernel_rfl
def FewOf (ad : List Addr) : Prop := ∀ a ∈ ad, a = tabA ∨ a = tabF
theorem K_ne {P : Params} {a : Addr} {o : Obj} {ad : List Addr} (h2 : FewOf ad) (e : (hd.heap_39 P).lookup a = some o) : a ∉ ad := by
  have h := List.all_eq_true.mp (notIn_K P) (a, o) (mem_of_lookupK e)
  simp only [Bool.and_eq_true, decide_eq_true_eq] at h
  intro q
  exact (h2 a q).elim h.1 h.2
section
variable {w : World} {mg mb : PySem.Str → Option Value} {h h' : Heap} {ad : List Addr}
theorem K_keep {P : Params} (h2 : FewOf ad) (X : (hd.heap_39 P).In h) (k : ∀ b o, h.get? b = some o → b ∉ ad → h'.get? b = some o) : (hd.heap_39 P).In h' :=
  fun a o e => k a o (X a o e) (K_ne h2 e)
theorem ns_keep {a : Addr} {m : PySem.Str → Option Value} (x : h.Ns a m) (ha : a ∉ ad) (k : ∀ b o, h.get? b = some o → b ∉ ad → h'.get? b = some o) : h'.Ns a m :=
  let ⟨o, es, ep, e, r⟩ := x; ⟨o, es, ep, k _ _ e ha, r⟩
theorem few_ne {a : Addr} (h2 : FewOf ad) (ha : a ≠ tabA) (hf : a ≠ tabF) : a ∉ ad := fun q => (h2 a q).elim ha hf
theorem top_keep {p : Program} {loose : List PySem.Str} (h2 : FewOf ad) (T : TopRead p loose mg mb h) (k : ∀ b o, h.get? b = some o → b ∉ ad → h'.get? b = some o) : TopRead p loose mg mb h' :=
  ⟨ns_keep T.g (few_ne h2 (by decide) (by decide)) k, ns_keep T.b (few_ne h2 (by decide) (by decide)) k, let ⟨mc, a, r⟩ := T.nolimit; ⟨mc, ns_keep a (few_ne h2 (by decide) (by decide)) k, r⟩, T.builtins, T.free⟩
theorem topL_keep (h2 : FewOf ad) (T : TopL mg mb h) (k : ∀ b o, h.get? b = some o → b ∉ ad → h'.get? b = some o) : TopL mg mb h' :=
  let ⟨p, l, T⟩ := T; ⟨p, l, top_keep h2 T k⟩
theorem obj_ne {b : Addr} {o : Obj} (h2 : FewOf ad) (e : h.get? b = some o) (e1 : ∀ ps, h.get? tabA = some (tabObj ps) ∨ tabA ∉ ad ∨ True → True) (hA : tabA ∈ ad → ∃ ps, h.get? tabA = some (tabObj ps)) (hF : tabF ∈ ad → ∃ ps, h.get? tabF = some (tabObj ps)) (hc : o.cls ≠ .none) : b ∉ ad := by
  intro q
  rcases h2 b q with rfl | rfl
  · obtain ⟨ps, e1⟩ := hA q; rw [e1] at e; cases e; exact hc rfl
  · obtain ⟨ps, e1⟩ := hF q; rw [e1] at e; cases e; exact hc rfl
theorem Gd.keep (h2 : FewOf ad) (hA : tabA ∈ ad → ∃ ps, h.get? tabA = some (tabObj ps)) (hF : tabF ∈ ad → ∃ ps, h.get? tabF = some (tabObj ps)) (G : Gd w mg mb h) (k : ∀ b o, h.get? b = some o → b ∉ ad → h'.get? b = some o) : Gd w mg mb h' where
  X := K_keep h2 G.X k
  T := topL_keep h2 G.T k
  bm := by
    obtain ⟨bm, ob, a1, a2, a3, a4, r⟩ := G.bm
    exact ⟨bm, ob, a1, a2, k _ _ a3 (obj_ne h2 a3 (fun _ _ => trivial) hA hF (by rw [a4]; nofun)), a4, r⟩
theorem Gd.fr {g : Heap} {L : Addr} {m : PySem.Str → Option Value} (G : Gd w mg mb g) (F : Fr g L h m) : Gd w mg mb h where
  X := G.X.keeps F.keep
  T := let ⟨p, l, T⟩ := G.T; ⟨p, l, T.keeps F.keep⟩
  bm := let ⟨bm, ob, a1, a2, a3, r⟩ := G.bm; ⟨bm, ob, a1, a2, F.keep _ _ a3, r⟩
theorem Gd.hide (h2 : FewOf ad) (hA : tabA ∈ ad → ∃ ps, h.get? tabA = some (tabObj ps)) (hF : tabF ∈ ad → ∃ ps, h.get? tabF = some (tabObj ps)) (G : Gd w mg mb h) : Gd w mg mb (hideAll h ad) :=
  Gd.keep h2 hA hF G fun _ _ e n => hideAll_get _ e n
end

/-- a later state in which but the first table has grown -/
structure LaterA (s s' : Shared) : Prop where
  keep : ∀ b o, s.heap.get? b = some o → b ≠ tabA → s'.heap.get? b = some o
  t1 : HasA s'.heap
  gens : AllBare s'.gens
  os : s'.os = s.os
/-- a later state in which but the second table has grown -/
structure LaterF (s s' : Shared) : Prop where
  keep : ∀ b o, s.heap.get? b = some o → b ≠ tabF → s'.heap.get? b = some o
  t2 : HasF s'.heap
  gens : s'.gens = s.gens
  os : s'.os = s.os
theorem fewA : FewOf [tabA] := fun _ h => .inl (List.mem_singleton.mp h)
theorem fewF : FewOf [tabF] := fun _ h => .inr (List.mem_singleton.mp h)
theorem fewAF : FewOf [tabA, tabF] := fun _ h => (List.mem_cons.mp h).imp id List.mem_singleton.mp
/-- a frame's end, told as a later state -/
theorem laterA_end {s s' : Shared} {g : Heap} {L : Addr} {m : PySem.Str → Option Value} {p1 : Array Value} {news : List (Addr × Obj)} (hgb : hideAll s.heap [tabA] = g) (F : Fr g L s'.heap m) (N : News g L s'.heap news) (hm : (tabA, tabObj p1) ∈ news)
    (ht : TriplesOk p1.toList) (hg : AllBare s'.gens) (ho : s'.os = s.os) : LaterA s s' :=
  ⟨fun b o e hb => F.keep b o (hgb ▸ hideAll_get _ e fun q => hb (List.mem_singleton.mp q)), ⟨p1, (N _ hm).1, ht⟩, hg, ho⟩
theorem laterA_via {s s₁ s' : Shared} {g : Heap} {L : Addr} {m : PySem.Str → Option Value} (hgb : hideAll s.heap [tabA] = g) (Z : LaterA s₁ s') (F : Fr g L s₁.heap m) (ho : s₁.os = s.os) : LaterA s s' :=
  ⟨fun b o e hb => Z.keep _ _ (F.keep b o (hgb ▸ hideAll_get _ e fun q => hb (List.mem_singleton.mp q))) hb, Z.t1, Z.gens, Z.os.trans ho⟩
theorem LaterA.gd {w : World} {mg mb : PySem.Str → Option Value} {s s' : Shared} (Z : LaterA s s') (G : Gd w mg mb s.heap) (hA : HasA s.heap) : Gd w mg mb s'.heap :=
  Gd.keep fewA (fun _ => let ⟨ps, e, _⟩ := hA; ⟨ps, e⟩) (fun h => absurd (List.mem_singleton.mp h) (by decide)) G fun b o e n => Z.keep b o e fun q => n (List.mem_singleton.mpr q)
theorem LaterF.gd {w : World} {mg mb : PySem.Str → Option Value} {s s' : Shared} (Z : LaterF s s') (G : Gd w mg mb s.heap) (hF : HasF s.heap) : Gd w mg mb s'.heap :=
  Gd.keep fewF (fun h => absurd (List.mem_singleton.mp h) (by decide)) (fun _ => let ⟨ps, e, _⟩ := hF; ⟨ps, e⟩) G fun b o e n => Z.keep b o e fun q => n (List.mem_singleton.mpr q)

section
variable {prog : Program} {w : World} {A : Around} {s : Shared} {K : Frag} {R : Result → Shared → Prop} {name qual : PySem.Str} {params : Arguments} {body : List Stmt} {scope : Scope} {cl : List (PySem.Str × Addr)}
  {dV kV doc pm cdv ct oc : Value} {an od : Option Addr} {osl : Array (Option Value)} {f : Addr} {args : Args} {binds : List (PySem.Str × Value)}
/-- a call of a def, no cells of its own -/
theorem enter_any (ad : List Addr) {fo : Obj} (hlim : s.heap.NoLimit) (ho : s.heap.get? f = some fo) (hfd : fo.data = .func (fnX name qual params body scope cl dV kV doc pm an cdv ct)) (hcd : s.heap.CodeRec cdv qual)
    (hroom : A.depth < recursionLimit) (hbind : BindsTo s (fnX name qual params body scope cl dV kV doc pm an cdv ct) args binds) (hloc : ∀ y ∈ binds, scope.names.lookup y.1 = some .local)
    (h : ∀ h₁, Fr (hideAll s.heap ad) s.heap.objs.size h₁ (fun y => binds.reverse.lookup y) → s.heap.StaysIn h₁ →
      wpAny (model prog w) (A.deeper (envX qual scope s.heap.objs.size f cdv cl)) (execs body (envX qual scope s.heap.objs.size f cdv cl))
        (fun fl s' => R (.ok (.ret (match fl with | .ret v => v | _ => .none))) s') (fun _ _ => False) { s with heap := h₁, toks := s.toks + binds.length })
    (hcell : ∀ x ∈ scope.names, x.2 ≠ .cell) (hco : scope.isCoroutine = false := by rfl) (hgen : scope.isGenerator = false := by rfl) (hk : scope.kind = .function := by rfl) :
    codeAny (model prog w) A (.call (.ref f) args) R s := by
  refine codeAny_call_def (fd := fnX name qual params body scope cl dV kV doc pm an cdv ct) (body := body) (binds := binds) hroom ho hfd hlim hcd rfl hbind hcell hloc (fun h₁ hns hk₁ => ?_) hco hgen hk
  exact wpAny_mono (h h₁ ⟨hns, fun b o e => hk₁ b o (of_hideAll _ e), Nat.le_of_eq (hideAll_size _ _)⟩ hk₁) (fun _ _ x => x) fun _ _ x => x.elim
theorem enter_plain (ad : List Addr) (X : K.In s.heap) (hlim : s.heap.NoLimit) (ho : K.lookup f = some ⟨oc, od, .func (fnX name qual params body scope cl dV kV doc pm an cdv ct), osl⟩) (hcd : codeIn K cdv qual = true)
    (hroom : A.depth < recursionLimit) (hbind : BindsTo s (fnX name qual params body scope cl dV kV doc pm an cdv ct) args binds) (hloc : ∀ y ∈ binds, scope.names.lookup y.1 = some .local)
    (h : ∀ h₁, Fr (hideAll s.heap ad) s.heap.objs.size h₁ (fun y => binds.reverse.lookup y) → s.heap.StaysIn h₁ →
      wpAny (model prog w) (A.deeper (envX qual scope s.heap.objs.size f cdv cl)) (execs body (envX qual scope s.heap.objs.size f cdv cl))
        (fun fl s' => R (.ok (.ret (match fl with | .ret v => v | _ => .none))) s') (fun _ _ => False) { s with heap := h₁, toks := s.toks + binds.length })
    (hcell : ∀ x ∈ scope.names, x.2 ≠ .cell) (hco : scope.isCoroutine = false := by rfl) (hgen : scope.isGenerator = false := by rfl) (hk : scope.kind = .function := by rfl) :
    codeAny (model prog w) A (.call (.ref f) args) R s :=
  enter_any ad hlim (X _ _ ho) rfl (codeRec_of X hcd) hroom hbind hloc h hcell hco hgen hk
/-- a call of a written def with cells -/
theorem enter_cells (ad : List Addr) (X : K.In s.heap) (hlim : s.heap.NoLimit) (ho : K.lookup f = some ⟨oc, od, .func (fnX name qual params body scope [] dV kV doc pm an cdv ct), osl⟩) (hcd : codeIn K cdv qual = true)
    (hroom : A.depth < recursionLimit) (hbind : BindsTo s (fnX name qual params body scope [] dV kV doc pm an cdv ct) args binds)
    (hkind : (binds.all fun y => scope.names.lookup y.1 == some .local || scope.names.lookup y.1 == some .cell) = true) (hnd : ((cellsFrom 0 scope.names []).map (·.1)).Nodup)
    (h : ∀ h₁ tk cells, Fr (hideAll s.heap ad) s.heap.objs.size h₁ (bindL (envOfC qual scope s.heap.objs.size f cdv).kindOf binds fun _ => none) → News (hideAll s.heap ad) s.heap.objs.size h₁ cells →
      CellsAre (bindC (envOfC qual scope s.heap.objs.size f cdv).kindOf binds fun _ => none) (cellsFrom (s.heap.objs.size + 1) scope.names []) cells → s.heap.StaysIn h₁ →
      wpAny (model prog w) (A.deeper (envOfC qual scope s.heap.objs.size f cdv)) (execs body (envOfC qual scope s.heap.objs.size f cdv))
        (fun fl s' => R (.ok (.ret (match fl with | .ret v => v | _ => .none))) s') (fun _ _ => False) { s with heap := h₁, toks := tk })
    (hco : scope.isCoroutine = false := by rfl) (hgen : scope.isGenerator = false := by rfl) (hk : scope.kind = .function := by rfl) :
    codeAny (model prog w) A (.call (.ref f) args) R s := by
  refine codeAny_call_function hroom (X _ _ ho) rfl hco hgen rfl (codeRec_of X hcd) (hbind _ _ _ _ ?_)
  refine wpAny_newFunctionEnv_cells hk (kindsX hkind _) fun env' he s' x => ?_
  subst he
  refine ⟨hlim.keeps x.toInCall.keep, codeAny_func ?_⟩
  obtain ⟨h₁, tk, rfl, _⟩ := x.done
  have hk₁ := x.toInCall.keep
  obtain ⟨cells, NC, Y⟩ := Cl.news (h₀ := s.heap) (Nat.le_refl _) fun n c hm => ⟨x.cell n c (lookup_of_mem_nodup (cellsFrom_names scope.names 0 (s.heap.objs.size + 1) [] [] rfl ▸ hnd) hm), x.above n c hm⟩
  refine wpAny_mono (h h₁ tk cells ⟨x.toInCall.ns, fun b o e => hk₁ b o (of_hideAll _ e), Nat.le_of_eq (hideAll_size _ _)⟩ (fun p hp => ?_) Y hk₁) (fun _ _ x => x) fun _ _ x => x.elim
  refine ⟨(NC p hp).1, (NC p hp).2.1, ?_⟩
  cases q : (hideAll s.heap ad).get? p.1 with
  | none => rfl
  | some o => have := of_hideAll _ q; rw [(NC p hp).2.2] at this; cases this
end

/-- a hidden old object on a new frame's ledger -/
theorem hid_news {s : Shared} {ad : List Addr} {L : Addr} {h₁ : Heap} {m : PySem.Str → Option Value} {cells : List (Addr × Obj)} {a : Addr} {o : Obj} (ha : a ∈ ad) (e : s.heap.get? a = some o) (F : Fr (hideAll s.heap ad) L h₁ m) (hk : s.heap.StaysIn h₁)
    (N : News (hideAll s.heap ad) L h₁ cells) : News (hideAll s.heap ad) L h₁ ((a, o) :: cells) := fun p hp => by
  rcases List.mem_cons.mp hp with rfl | hp
  · exact ⟨hk _ _ e, Nat.ne_of_lt (Nat.lt_of_lt_of_le (Heap.lt_size e) (Nat.le_trans (Nat.le_of_eq (hideAll_size ad s.heap).symm) F.above)), hideAll_none _ ha⟩
  · exact N p hp

/-- a call's end seen from the frame that made it: nothing but one ledger's object has changed -/
theorem back_fr {s s' : Shared} {g : Heap} {L a : Addr} {m : PySem.Str → Option Value} {o o' : Obj} {rest : List (Addr × Obj)} (keep : ∀ b x, s.heap.get? b = some x → b ≠ a → s'.heap.get? b = some x) (e : s'.heap.get? a = some o')
    (F : Fr g L s.heap m) (N : News g L s.heap ((a, o) :: rest)) (hr : ∀ p ∈ rest, p.1 ≠ a) : Fr g L s'.heap m ∧ News g L s'.heap ((a, o') :: rest) := by
  have h1 := N _ (.head _)
  obtain ⟨oL, es, ep, hL, r⟩ := F.ns
  refine ⟨⟨⟨oL, es, ep, keep _ _ hL (Ne.symm h1.2.1), r⟩, fun b x q => keep _ _ (F.keep b x q) fun z => ?_, F.above⟩, fun p hp => ?_⟩
  · rw [z, h1.2.2] at q; cases q
  · rcases List.mem_cons.mp hp with rfl | hp
    · exact ⟨e, h1.2⟩
    · have hN := N p (.tail _ hp)
      exact ⟨keep _ _ hN.1 (hr p hp), hN.2⟩
/-- the same where the object changed is none of the ledger's -/
theorem back_fr' {s s' : Shared} {g : Heap} {L a : Addr} {m : PySem.Str → Option Value} {news : List (Addr × Obj)} (keep : ∀ b x, s.heap.get? b = some x → s'.heap.get? b = some x)
    (F : Fr g L s.heap m) (N : News g L s.heap news) : Fr g L s'.heap m ∧ News g L s'.heap news :=
  ⟨F.keeps keep, fun p hp => ⟨keep _ _ (N p hp).1, (N p hp).2⟩⟩
end Mine
end

/- a loop over a text by an invariant -/
section
open PySem PySem.W PySem.Calls PyProof.Rows
set_option maxRecDepth 100000
namespace Mine

/-- the end of a turn: the new word about map and ledger -/
def TurnEnd (h₀ : Heap) (L : Addr) (J : (PySem.Str → Option Value) → List (Addr × Obj) → Prop) (it : Addr × Obj) (s₁ : Shared) (Q : Flow → Shared → Prop) (f : Flow) (s₂ : Shared) : Prop :=
  match f with
  | .ret v => Q (.ret v) s₂
  | .brk => Q .next s₂
  | _ => ∃ h' tk m' nx, s₂ = { s₁ with heap := h', toks := tk } ∧ Fr h₀ L h' m' ∧ News h₀ L h' (it :: nx) ∧ (∀ p ∈ nx, p.1 ≠ it.1) ∧ J m' nx

section
variable {prog : Program} {w : World} {A : Around} {E : Value → Shared → Prop} {s : Shared} {env : Env} {h₀ : Heap} {x : PySem.Str} {body : List Stmt} {Q : Flow → Shared → Prop}

/-- a for whose iterator is one object, by a word over map and ledger that may change its objects -/
theorem loop_J {I : Addr} {n : Nat} {P : Nat → Value → Prop} {St : Nat → Heap → Prop} {m₀ : PySem.Str → Option Value} {news : List (Addr × Obj)} (J : Nat → (PySem.Str → Option Value) → List (Addr × Obj) → Prop)
    (W : Walks prog w A I [I] [I] n P St) (hal : ∀ i h, St i h → ∃ o, h.get? I = some o) (hst : St 0 s.heap) (hI : h₀.get? I = none) (hL : env.locals ≠ I) (hn : ∀ p ∈ news, p.1 ≠ I) (F : Fr h₀ env.locals s.heap m₀) (N : News h₀ env.locals s.heap news) (hj : J 0 m₀ news)
    (turn : ∀ i v m₁ news₁ h tk io, i < n → P i v → J i m₁ news₁ → (∀ p ∈ news₁, p.1 ≠ I) → Fr h₀ env.locals h (fun y => if y = x then some v else m₁ y) → News h₀ env.locals h ((I, io) :: news₁) →
      wpAny (model prog w) A (execs body env) (TurnEnd h₀ env.locals (J (i + 1)) (I, io) { s with heap := h, toks := tk } Q) E { s with heap := h, toks := tk })
    (done : ∀ m₁ news₁ h tk, J n m₁ news₁ → Fr h₀ env.locals h m₁ → News h₀ env.locals h news₁ → Q .next { s with heap := h, toks := tk }) :
    LoopAtV prog w A h₀ env x body Q E (.ref I) s := by
  refine ⟨I, [I], [I], n, P, St, m₀, news, J, rfl, W, fun q => hL (List.mem_singleton.mp q), fun b hb => by rw [List.mem_singleton.mp hb]; exact hI, fun p hp q => hn p hp (List.mem_singleton.mp q), hst, F, N, hj, ?_, ?_⟩
  · rintro i v m₁ news₁ s₁ own ⟨hh', tk', rfl⟩ hin hP hJ hoff hown hget hall hst' F₁ N₁
    obtain ⟨io, hio⟩ := hal _ _ hst'
    have hmem := hall I (.head _) hI io hio
    have hone : ∀ p ∈ own, p = (I, io) := fun p hp => by
      have h1 := List.mem_singleton.mp (hown p hp)
      have h2 := hget p hp
      obtain ⟨a, b⟩ := p
      cases h1
      rw [h2] at hio
      cases hio
      rfl
    have N₂ : News h₀ env.locals hh' ((I, io) :: news₁) := fun p hp => by
      rcases List.mem_cons.mp hp with rfl | hp
      · exact N₁ _ (List.mem_append_left _ hmem)
      · exact N₁ _ (List.mem_append_right _ hp)
    refine wpAny_mono (turn i v m₁ news₁ hh' tk' io hin hP hJ (fun p hp q => hoff p hp (q ▸ .head _)) F₁ N₂) (fun f s₂ p => ?_) fun _ _ e => e
    have fin : (∃ h' tk m' nx, s₂ = { s with heap := h', toks := tk } ∧ Fr h₀ env.locals h' m' ∧ News h₀ env.locals h' ((I, io) :: nx) ∧ (∀ p ∈ nx, p.1 ≠ I) ∧ J (i + 1) m' nx) →
        LoopStepU h₀ env.locals [I] own (J (i + 1)) { s with heap := hh', toks := tk' } .next s₂ := by
      rintro ⟨h', tk, m', nx, e, F', N', hne, hm⟩
      refine ⟨rfl, h', tk, m', nx, e, F', fun p hp => ?_, fun p hp q => hne p hp (List.mem_singleton.mp q), hm⟩
      rcases List.mem_append.mp hp with hp | hp
      · rw [hone p hp]; exact N' _ (.head _)
      · exact N' _ (.tail _ hp)
    cases f with
    | ret v => exact .ret p
    | brk => exact .brk p
    | next => exact .next (fin p)
    | cont => exact .cont (fin p)
  · intro h' tk m' news' F' N' _ hJ
    exact done m' news' h' tk hJ F' N'

theorem pre_of {l : List Nat} {i c : Nat} (h : l[i]? = some c) : l = l.take i ++ c :: l.drop (i + 1) ∧ l.take (i + 1) = l.take i ++ [c] := by
  have hs : l.take (i + 1) = l.take i ++ [c] := by simp [List.take_add_one, h]
  refine ⟨?_, hs⟩
  have := List.take_append_drop (i + 1) l
  rw [hs, List.append_assoc] at this
  exact this.symm

/-- a for over a text -/
theorem iter_text {xt : PySem.Str} {tx : Tok} {m₀ : PySem.Str → Option Value} {news : List (Addr × Obj)} (J : List Nat → (PySem.Str → Option Value) → List (Addr × Obj) → Prop)
    (hh : A.handled = none) (F : Fr h₀ env.locals s.heap m₀) (N : News h₀ env.locals s.heap news) (hj : J [] m₀ news)
    (turn : ∀ pre c post t m₁ news₁ h tk I io, xt.cps.toList = pre ++ c :: post → J pre m₁ news₁ → (∀ p ∈ news₁, p.1 ≠ I) → Fr h₀ env.locals h (fun y => if y = x then some (.str ⟨#[c]⟩ t) else m₁ y) → News h₀ env.locals h ((I, io) :: news₁) →
      wpAny (model prog w) A (execs body env) (TurnEnd h₀ env.locals (J (pre ++ [c])) (I, io) { s with heap := h, toks := tk } Q) E { s with heap := h, toks := tk })
    (done : ∀ m₁ news₁ h tk, J xt.cps.toList m₁ news₁ → Fr h₀ env.locals h m₁ → News h₀ env.locals h news₁ → Q .next { s with heap := h, toks := tk }) :
    wpAny (model prog w) A (pyIter (.str xt tx)) (fun it s₂ => LoopAtV prog w A h₀ env x body Q E it s₂) E s := by
  have go : ∀ (o : Obj) (St : Nat → Heap → Prop), Walks prog w A s.heap.objs.size [s.heap.objs.size] [s.heap.objs.size] xt.cps.size (SignAt xt) St → (∀ i h, St i h → ∃ o, h.get? s.heap.objs.size = some o) → St 0 (s.heap.push o) →
      LoopAtV prog w A h₀ env x body Q E (.ref s.heap.objs.size) { s with heap := s.heap.push o } := by
    intro o St W hal hst
    refine loop_J (fun i m nx => J (xt.cps.toList.take i) m nx) W hal hst (next_is_new F) (fun q => absurd F.ns.lt (q ▸ Nat.lt_irrefl _)) (fun p hp q => absurd (Heap.lt_size (N p hp).1) (q ▸ Nat.lt_irrefl _)) (F.push _)
      (fun p hp => ⟨Heap.get?_push_of_some _ (N p hp).1, (N p hp).2⟩) (by simpa using hj) ?_ ?_
    · rintro i v m₁ news₁ h tk io hin ⟨c, u, hc, rfl⟩ hJ hne F₁ N₁
      have hc' : xt.cps.toList[i]? = some c := by simpa using hc
      obtain ⟨e1, e2⟩ := pre_of hc'
      simp only [e2]
      exact turn _ c _ u m₁ news₁ h tk _ io e1 hJ hne F₁ N₁
    · intro m₁ news₁ h tk hJ F₁ N₁
      have e : xt.cps.toList.take xt.cps.size = xt.cps.toList := by rw [← Array.length_toList, List.take_length]
      simp only [e] at hJ
      exact done m₁ news₁ h tk hJ F₁ N₁
  cases ha : xt.cps.all (· < 128)
  · exact wpAny_pyIter_wide ha (go _ _ (Walks.strWide hh _ xt tx) (fun i h st => let ⟨o, ho, _⟩ := st; ⟨o, ho⟩) ⟨_, Heap.get?_push_size _ rfl, rfl, rfl⟩)
  · exact wpAny_pyIter_ascii ha (go _ _ (Walks.strAscii hh _ xt tx) (fun i h st => let ⟨o, ho, _⟩ := st; ⟨o, ho⟩) ⟨_, Heap.get?_push_size _ rfl, rfl, rfl⟩)
end
end Mine
end

/- a generator expression whose code may or may not stand in its table -/
section
open PySem PySem.W PySem.Calls PyProof.Rows
set_option maxRecDepth 100000
namespace Mine

section
variable {M : Model} {A : Around} {E : Value → Shared → Prop} {s : Shared}
/-- the code of a generator expression, whether its maker's table has it or not -/
theorem genCode {env : Env} {c P : Addr} {ps : Array Value} {pos : Pos} {qualname : PySem.Str} {scope : Scope} {Q : Value → Shared → Prop} (hc : env.code = .ref c) (C : CodeHd s.heap c P) (hP : s.heap.get? P = some (tabObj ps)) (ht : TriplesOk ps.toList)
    (hQ : ∀ code h' tk ps', (∀ b o, b ≠ P → s.heap.get? b = some o → h'.get? b = some o) → s.heap.objs.size ≤ h'.objs.size → h'.get? P = some (tabObj ps') → TriplesOk ps'.toList → Q code { s with heap := h', toks := tk }) :
    wpAny M A (genexprCode env pos qualname scope) Q E s := by
  cases hf : codeAmong pos ps.toList with
  | some cv => exact wpAny_genexprCode_hit hc (C.code hP ht) hf (hQ cv s.heap s.toks ps (fun _ _ _ e => e) (Nat.le_refl _) hP ht)
  | none =>
    refine wpAny_genexprCodeX hc (C.code hP ht) (C.tab hP) hf fun c' h' tk hx h1 h2 _ _ htab _ => ?_
    refine hQ _ h' tk _ (fun b o hb e => hx b o hb e) (Nat.le_trans h1 (Nat.le_of_lt h2)) htab.2 ?_
    rw [Array.toList_append]
    exact TriplesOk_snoc _ _ _ _ ht
end

section
variable {prog : Program} {w : World} {A : Around} {E : Value → Shared → Prop} {s : Shared} {g : Heap} {L c P : Addr} {m mg : PySem.Str → Option Value}

/-- a generator expression made, its maker's table on the ledger -/
theorem gen_make {env : Env} {elt iter : Expr} {x : PySem.Str} {px : Pos} {scope : Scope} {cl : List (PySem.Str × Addr)} {pos : Pos} {Q : Value → Shared → Prop}
    (hcode : env.code = .ref c) (C : CodeHd g c P) (hgm : g.Ns env.globals mg) (bm : ∃ bm ob, mg "__builtins__" = some (.ref bm) ∧ bm ≠ builtinsNs ∧ g.get? bm = some ob ∧ ob.cls = .type "module" ∧ ob.dict = some builtinsNs ∧ ob.data = .plain) (hlim : g.NoLimit)
    (hh : A.handled = none) (hco : scope.isCoroutine = false) (hclos : closureFor scope env = pure cl) (hcell : ∀ y ∈ scope.names, y.2 ≠ .cell) (h0 : scope.names.lookup (".0" : PySem.Str) = some NameKind.local)
    (hx : scope.names.lookup x = some .local) (hkind : scope.kind = .function) (hroom : A.depth < recursionLimit)
    (h : wpAny (model prog w) A (eval iter env) (fun xv s₁ => wpAny (model prog w) A (pyIter xv) (fun it s₂ => ∃ ps rest, Fr g L s₂.heap m ∧ News g L s₂.heap ((P, tabObj ps) :: rest) ∧ TriplesOk ps.toList ∧ AllBare s₂.gens ∧ (∀ p ∈ rest, p.1 ≠ P) ∧
      ∃ K I fp wr n₀ Pi St₀ pz F, it = .ref I ∧ (∀ A' : Around, A'.handled = none → Walks prog w A' I fp wr n₀ Pi St₀) ∧ St₀ 0 s₂.heap ∧ (∀ b ∈ fp, b < s₂.heap.objs.size) ∧ P ∉ fp ∧ (∀ b ∈ wr, K < b) ∧ K < s₂.heap.objs.size ∧ L ≤ K ∧ P ≤ K ∧ (∀ p ∈ rest, p.1 ≤ K) ∧
        (∀ (code : Value) (h₃ href : Heap), (∀ b o, b ≠ P → s₂.heap.get? b = some o → h₃.get? b = some o) → s₂.heap.objs.size ≤ h₃.objs.size → (∀ b o, h₃.get? b = some o → href.get? b = some o) →
          QuietGen prog w (genEnv scope cl h₃.objs.size code builtinsNs env) x [] elt (List.range h₃.objs.size) wr Pi pz F href) ∧
        (∀ (a : Addr) (s₅ : Shared) ps', Fr g L s₅.heap m → News g L s₅.heap ((P, tabObj ps') :: rest) → TriplesOk ps'.toList → AllBare s₅.gens → s₅.os = s₂.os →
          Gen prog w A K a (passing pz n₀ 0).length (fun j y => ∃ i, (passing pz n₀ 0)[j]? = some i ∧ F i y) s₅ → Q (.ref a) s₅)) E s₁) E s)
    (hs : ∀ x, genFold iter env x = pure x) :
    wpAny (model prog w) A (eval (.GeneratorExp elt [⟨.Name x px, iter, [], 0⟩] scope pos) env) Q E s := by
  refine wpAny_GeneratorExp_walksQ hh hco hclos hcell h0 hx hkind hroom (wpAny_mono h (fun xv s₁ h₁' => wpAny_mono h₁' (fun it s₂ h₂ => ?_) fun _ _ e => e) fun _ _ e => e) hs
  obtain ⟨ps, rest, F₂, N₂, ht, G₂, hrP, K, I, fp, wr, n₀, Pi, St₀, pz, F, rfl, W₀, hst, hfp, hPf, hwr, hK, hLK, hPK, hrK, hq, hQ⟩ := h₂
  have hP₂ := N₂ _ (.head _)
  have lim₂ : s₂.heap.NoLimit := hlim.keeps F₂.keep
  refine ⟨lim₂, genCode hcode (C.keeps F₂.keep) hP₂.1 ht fun code h₃ tk₃ ps' hx₃ hsz htab ht' => ?_⟩
  have gne : ∀ b o, g.get? b = some o → b ≠ P := fun b o e q => by rw [q, hP₂.2.2] at e; cases e
  have F₃ : Fr g L h₃ m := by
    obtain ⟨oL, es, ep, hL, r⟩ := F₂.ns
    exact ⟨⟨oL, es, ep, hx₃ _ _ (Ne.symm hP₂.2.1) hL, r⟩, fun b o e => hx₃ b o (gne b o e) (F₂.keep b o e), F₂.above⟩
  have lim₃ : h₃.NoLimit := hlim.keeps F₃.keep
  obtain ⟨bma, ob, b1, b2, b3, b4, b5, b6⟩ := bm
  have hcw : cStatics ∉ wr := fun hm => by
    have h1 : L < cStatics := Nat.lt_of_le_of_lt hLK (hwr _ hm)
    have hL : L ≤ 1 := Nat.le_of_lt_succ h1
    have hb : bma < 1 := Nat.lt_of_lt_of_le (Heap.lt_size b3) (Nat.le_trans F₂.above hL)
    exact b2 (Nat.lt_one_iff.mp hb)
  refine wpAny_builtinsFor (hgm.keeps F₃.keep) b1 b2 (F₃.keep _ _ b3) b4 b5 b6 ?_
  refine ⟨I, fp, wr, n₀, Pi, St₀, pz, F, rfl, W₀, (W₀ A hh).frame _ _ _ hst (fun b hb o e => hx₃ b o (fun e' => hPf (e' ▸ hb)) e), (fun b hb => Nat.lt_of_lt_of_le (hfp b hb) hsz), lim₃, hcw,
    (fun href hhref => hq _ h₃ href hx₃ hsz hhref), fun a h₅ tk gs hgb hag hsz₅ hk₅ W hat => ?_⟩
  refine hQ a _ ps' (F₃.keeps hk₅) (fun p hp => ?_) ht' (G₂.push hgb) rfl ⟨_, _, _, _, W, hat, (fun i s' st => st.1.typeIs), List.mem_cons_self, ?_, ?_⟩
  · rcases List.mem_cons.mp hp with rfl | hp
    · exact ⟨hk₅ _ _ htab, hP₂.2⟩
    · have hN := N₂ p (.tail _ hp)
      exact ⟨hk₅ _ _ (hx₃ _ _ (hrP p hp) hN.1), hN.2⟩
  · intro b hb
    show b < h₅.objs.size
    rw [hsz₅]
    rcases List.mem_cons.mp hb with rfl | hb
    · exact Nat.lt_succ_self _
    · rcases List.mem_cons.mp hb with rfl | hb
      · exact Nat.lt_succ_of_lt hag
      · exact Nat.lt_succ_of_lt (Nat.lt_trans (List.mem_range.mp hb) hag)
  · intro b hb
    rcases List.mem_cons.mp hb with rfl | hb
    · exact Nat.lt_of_lt_of_le hK hsz
    · exact hwr b hb

/-- any(..) of such a generator -/
theorem gen_any {a K : Addr} {n : Nat} {F : Nat → Value → Prop} {Q : Value → Shared → Prop} {news : List (Addr × Obj)} (Fh : Fr g L s.heap m) (N : News g L s.heap news) (G : AllBare s.gens) (X : Gen prog w A K a n F s) (hLK : L ≤ K) (hnK : ∀ p ∈ news, p.1 ≤ K)
    (tr : Nat → Bool) (htr : ∀ j v, F j v → v = .bool (tr j))
    (hQ : ∀ s', Fr g L s'.heap m → News g L s'.heap news → AllBare s'.gens → s'.os = s.os → Q (.bool ((List.range n).any tr)) s') : wpAny (model prog w) A (call (.builtin "any") [.ref a]) Q E s :=
  any_rowsK Fh G X hLK tr (fun j v s Q E hv hq => by rw [htr j v hv]; exact wpAny_truthy_bool hq) fun s' F' G' hos hk =>
    hQ s' F' (fun p hp => ⟨hk _ _ (hnK p hp) (N p hp).1, (N p hp).2⟩) G' hos
end
end Mine
end

/- the two generator expressions of array_string_escape -/
section
open PySem PySem.W PySem.Calls PyProof.Rows
set_option maxRecDepth 100000
namespace Mine

def Held (P : Prop) : Prop := P
theorem Held.mk {P : Prop} (h : P) : Held P := h
theorem Held.out {P : Prop} (h : Held P) : P := h
theorem range_at {n j i : Nat} (h : (List.range n)[j]? = some i) : i = j := by
  obtain ⟨h1, h2⟩ := List.getElem?_eq_some_iff.mp h
  simpa using h2.symm
theorem passing_all (n : Nat) : passing (fun _ => true) n 0 = List.range n := by simp [passing]
theorem keeps_self (s : Shared) : Keeps s s := ⟨s.heap, s.toks, rfl, fun _ _ e => e⟩
theorem keeps_toks (s : Shared) (k : Nat) : Keeps s { s with toks := k } := ⟨s.heap, k, rfl, fun _ _ e => e⟩

/-- what any(..) is handed: a generator of n truths -/
def AnyGen (prog : Program) (w : World) (A : Around) (L a : Addr) (n : Nat) (tr : Nat → Bool) (news : List (Addr × Obj)) (s : Shared) : Prop :=
  ∃ K, Gen prog w A K a n (fun j v => v = .bool (tr j)) s ∧ L ≤ K ∧ ∀ p ∈ news, p.1 ≤ K

section
variable {prog : Program} {w : World} {A : Around} {E : Value → Shared → Prop} {s : Shared} {g : Heap} {L c P : Addr} {m mg : PySem.Str → Option Value} {ps : Array Value} {rest : List (Addr × Obj)}

theorem any_of {a : Addr} {n : Nat} {tr : Nat → Bool} {Q : Value → Shared → Prop} {news : List (Addr × Obj)} (Fh : Fr g L s.heap m) (N : News g L s.heap news) (G : AllBare s.gens) (X : AnyGen prog w A L a n tr news s)
    (hQ : ∀ s', Fr g L s'.heap m → News g L s'.heap news → AllBare s'.gens → s'.os = s.os → Q (.bool ((List.range n).any tr)) s') : wpAny (model prog w) A (call (.builtin "any") [.ref a]) Q E s :=
  let ⟨_, X, h1, h2⟩ := X; gen_any Fh N G X h1 h2 tr (fun _ _ e => e) hQ

def spaceAt (y : PySem.Str) (j : Nat) : Bool := (y.cps[j]?.map fun c => Txt.isspace ⟨#[c]⟩).getD false

/-- (c.isspace() for c in y) -/
theorem make_space {env : Env} {iter : Expr} {x : PySem.Str} {px p1 ap cp : Pos} {scope : Scope} {pos : Pos} {Q : Value → Shared → Prop} {y : PySem.Str} {t : Tok}
    (hcode : env.code = .ref c) (C : CodeHd g c P) (hgm : g.Ns env.globals mg) (bm : ∃ bm ob, mg "__builtins__" = some (.ref bm) ∧ bm ≠ builtinsNs ∧ g.get? bm = some ob ∧ ob.cls = .type "module" ∧ ob.dict = some builtinsNs ∧ ob.data = .plain) (hlim : g.NoLimit)
    (hh : A.handled = none) (hco : scope.isCoroutine = false) (hclos : closureFor scope env = pure []) (hcell : ∀ y ∈ scope.names, y.2 ≠ .cell) (h0 : scope.names.lookup (".0" : PySem.Str) = some NameKind.local)
    (hx : scope.names.lookup x = some .local) (hkind : scope.kind = .function) (hroom : A.depth < recursionLimit) (hxd : (x == ("__debug__" : PySem.Str)) = false)
    (hbase : ∀ C code, attributeBase (.Name x p1) "isspace" (genEnv scope [] C code builtinsNs env) (eval (.Name x p1) (genEnv scope [] C code builtinsNs env)) = eval (.Name x p1) (genEnv scope [] C code builtinsNs env)) (hline : (ap.endLine == cp.line) = true)
    (F : Fr g L s.heap m) (N : News g L s.heap ((P, tabObj ps) :: rest)) (ht : TriplesOk ps.toList) (G : AllBare s.gens) (hrP : ∀ p ∈ rest, p.1 ≠ P)
    (hit : ∀ Q' : Value → Shared → Prop, Q' (.str y t) s → wpAny (model prog w) A (eval iter env) Q' E s)
    (hQ : ∀ (a : Addr) (s₅ : Shared) ps', Fr g L s₅.heap m → News g L s₅.heap ((P, tabObj ps') :: rest) → TriplesOk ps'.toList → AllBare s₅.gens → s₅.os = s.os → AnyGen prog w A L a y.cps.size (spaceAt y) ((P, tabObj ps') :: rest) s₅ → Q (.ref a) s₅)
    (hs : ∀ x, genFold iter env x = pure x) :
    wpAny (model prog w) A (eval (.GeneratorExp (.Call (.Attribute (.Name x p1) "isspace" ap) [] [] cp) [⟨.Name x px, iter, [], 0⟩] scope pos) env) Q E s := by
  refine gen_make (L := L) (m := m) hcode C hgm bm hlim hh hco hclos hcell h0 hx hkind hroom (hit _ ?_) hs
  have hP := N _ (.head _)
  have hPlt : P < s.heap.objs.size := Heap.lt_size hP.1
  have hLlt : L < s.heap.objs.size := F.ns.lt
  refine wpAny_pyIter_str fun o St hW hst => ?_
  refine ⟨ps, rest, F.push _, (fun p hp => ⟨Heap.get?_push_of_some _ (N p hp).1, (N p hp).2⟩), ht, G, hrP, s.heap.objs.size - 1, s.heap.objs.size, [s.heap.objs.size], [s.heap.objs.size], y.cps.size, SignAt y, St, (fun _ => true), (fun i v => v = .bool (spaceAt y i)),
    rfl, hW, hst, ?_, ?_, ?_, ?_, ?_, ?_, ?_, ?_, ?_⟩
  · intro b hb; rw [List.mem_singleton.mp hb]; show _ < (s.heap.push o).objs.size; rw [Heap.size_push]; exact Nat.lt_succ_self _
  · intro q; exact absurd (List.mem_singleton.mp q) (Nat.ne_of_lt hPlt)
  · intro b hb; rw [List.mem_singleton.mp hb]; exact Nat.sub_lt (Nat.lt_of_le_of_lt (Nat.zero_le _) hLlt) Nat.one_pos
  · show _ < (s.heap.push o).objs.size
    rw [Heap.size_push]; exact Nat.lt_succ_of_le (Nat.sub_le _ _)
  · exact Nat.le_sub_one_of_lt hLlt
  · exact Nat.le_sub_one_of_lt hPlt
  · intro p hp; exact Nat.le_sub_one_of_lt (Heap.lt_size (N p (.tail _ hp)).1)
  · intro code h₃ href hx₃ hsz hhref
    refine ⟨fun A' E' i v s₂ m₂ _ _ _ _ _ => wpAny_pure ⟨rfl, keeps_self _⟩, fun A' E' i v s₂ m₂ hA hP' _ hn hm _ => ?_⟩
    obtain ⟨cc, u, hc, rfl⟩ := hP'
    refine Call_method0 (hbase _ _) hline (wpAny_Name (wpAny_loadName_local hkind hx hn hm ?_) hxd)
    refine SB.isspace ⟨?_, keeps_self _⟩
    simp [spaceAt, hc]
  · intro a s₅ ps' F₅ N₅ ht₅ G₅ hos X
    rw [passing_all] at X
    refine hQ a s₅ ps' F₅ N₅ ht₅ G₅ hos ⟨s.heap.objs.size - 1, ?_, Nat.le_sub_one_of_lt hLlt, fun p hp => ?_⟩
    · rw [List.length_range] at X
      exact X.imp fun j v ⟨i, hi, hv⟩ => by
        rw [range_at hi] at hv; exact hv
    · rcases List.mem_cons.mp hp with rfl | hp
      · exact Nat.le_sub_one_of_lt hPlt
      · exact Nat.le_sub_one_of_lt (Heap.lt_size (N p (.tail _ hp)).1)

def inAt (y : PySem.Str) (its : Array Value) (j : Nat) : Bool := match its[j]? with
  | some (.str z _) => Txt.contains y z
  | _ => false

/-- (c in y for c in (..)): a made tuple of texts, y in a cell -/
theorem make_in {env : Env} {iter : Expr} {x z : PySem.Str} {px p1 p2 cp : Pos} {scope : Scope} {pos : Pos} {Q : Value → Shared → Prop} {y : PySem.Str} {t : Tok} {cl : List (PySem.Str × Addr)} {ca : Addr} {co : Obj}
    (hcode : env.code = .ref c) (C : CodeHd g c P) (hgm : g.Ns env.globals mg) (bm : ∃ bm ob, mg "__builtins__" = some (.ref bm) ∧ bm ≠ builtinsNs ∧ g.get? bm = some ob ∧ ob.cls = .type "module" ∧ ob.dict = some builtinsNs ∧ ob.data = .plain) (hlim : g.NoLimit)
    (hh : A.handled = none) (hco : scope.isCoroutine = false) (hclos : closureFor scope env = pure cl) (hcell : ∀ y ∈ scope.names, y.2 ≠ .cell) (h0 : scope.names.lookup (".0" : PySem.Str) = some NameKind.local)
    (hx : scope.names.lookup x = some .local) (hz : scope.names.lookup z = some .free) (hcl : cl.lookup z = some ca) (hkind : scope.kind = .function) (hroom : A.depth < recursionLimit) (hxd : (x == ("__debug__" : PySem.Str)) = false) (hzd : (z == ("__debug__" : PySem.Str)) = false) (hzc : (z == ("__classdict__" : PySem.Str)) = false)
    (hit : wpAny (model prog w) A (eval iter env) (fun xv s₁ => Held (∃ T its ps rest, xv = .ref T ∧ s₁.heap.IsTuple T its ∧ T ≠ P ∧ (∀ v ∈ its, ∃ z u, v = .str z u) ∧ (ca, co) ∈ rest ∧ co.data = .cell (some (.str y t)) ∧
      Fr g L s₁.heap m ∧ News g L s₁.heap ((P, tabObj ps) :: rest) ∧ TriplesOk ps.toList ∧ AllBare s₁.gens ∧ (∀ p ∈ rest, p.1 ≠ P) ∧
      (∀ (a : Addr) (s₅ : Shared) ps', Fr g L s₅.heap m → News g L s₅.heap ((P, tabObj ps') :: rest) → TriplesOk ps'.toList → AllBare s₅.gens → s₅.os = s₁.os → AnyGen prog w A L a its.size (inAt y its) ((P, tabObj ps') :: rest) s₅ → Q (.ref a) s₅))) E s)
    (hs : ∀ x, genFold iter env x = pure x) :
    wpAny (model prog w) A (eval (.GeneratorExp (.Compare (.Name x p1) [.In] [.Name z p2] cp) [⟨.Name x px, iter, [], 0⟩] scope pos) env) Q E s := by
  refine gen_make (L := L) (m := m) hcode C hgm bm hlim hh hco hclos hcell h0 hx hkind hroom (wpAny_mono hit (fun xv s₁ h₁ => ?_) fun _ _ e => e) hs
  obtain ⟨T, its, ps, rest, rfl, hT, hTP, hstr, hca, hcd, F, N, ht, G, hrP, hQ⟩ := h₁.out
  have hP := N _ (.head _)
  have hPlt : P < s₁.heap.objs.size := Heap.lt_size hP.1
  have hLlt : L < s₁.heap.objs.size := F.ns.lt
  have hTlt : T < s₁.heap.objs.size := let ⟨_, e, _⟩ := hT; Heap.lt_size e
  refine wpAny_pyIter_tuple hT ?_
  refine ⟨ps, rest, F.push _, (fun p hp => ⟨Heap.get?_push_of_some _ (N p hp).1, (N p hp).2⟩), ht, G, hrP, s₁.heap.objs.size - 1, s₁.heap.objs.size, [s₁.heap.objs.size, T], [s₁.heap.objs.size], its.size, _, _, (fun _ => true), (fun i v => v = .bool (inAt y its i)),
    rfl, (fun A' hA => Walks.tuple hA _ _ (Nat.ne_of_lt hTlt) its), ⟨⟨_, Heap.get?_push_size _ rfl, rfl, rfl⟩, hT.at fun o e => Heap.get?_push_of_some _ e⟩, ?_, ?_, ?_, ?_, ?_, ?_, ?_, ?_, ?_⟩
  · intro b hb
    show _ < (s₁.heap.push _).objs.size
    rw [Heap.size_push]
    rcases List.mem_cons.mp hb with rfl | hb
    · exact Nat.lt_succ_self _
    · rw [List.mem_singleton.mp hb]; exact Nat.lt_succ_of_lt hTlt
  · intro q
    rcases List.mem_cons.mp q with q | q
    · exact absurd q (Nat.ne_of_lt hPlt)
    · exact hTP (List.mem_singleton.mp q).symm
  · intro b hb; rw [List.mem_singleton.mp hb]; exact Nat.sub_lt (Nat.lt_of_le_of_lt (Nat.zero_le _) hLlt) Nat.one_pos
  · show _ < (s₁.heap.push _).objs.size
    rw [Heap.size_push]; exact Nat.lt_succ_of_le (Nat.sub_le _ _)
  · exact Nat.le_sub_one_of_lt hLlt
  · exact Nat.le_sub_one_of_lt hPlt
  · intro p hp; exact Nat.le_sub_one_of_lt (Heap.lt_size (N p (.tail _ hp)).1)
  · intro code h₃ href hx₃ hsz hhref
    refine ⟨fun A' E' i v s₂ m₂ _ _ _ _ _ => wpAny_pure ⟨rfl, keeps_self _⟩, fun A' E' i v s₂ m₂ hA hP' _ hn hm hkp => ?_⟩
    obtain ⟨zz, u, rfl⟩ := hstr v (by rw [Array.mem_iff_getElem?]; exact ⟨i, hP'⟩)
    have hcN := N _ (.tail _ hca)
    have hcs : (s₁.heap.push { cls := .type "tuple_iterator", data := .fields #[.ref T, .int 0 0] }).get? ca = some co := Heap.get?_push_of_some _ hcN.1
    have hc₃ := hx₃ _ _ (hrP _ hca) hcs
    have hcell' : s₂.heap.IsCell ca (some (.str y t)) := ⟨co, hkp ca (List.mem_range.mpr (Heap.lt_size hc₃)) (fun q => absurd (List.mem_singleton.mp q) (Nat.ne_of_lt (Heap.lt_size hcN.1))) co (hhref _ _ hc₃), hcd⟩
    refine wpAny_Compare1 (wpAny_Name (wpAny_loadName_local hkind hx hn hm ?_) hxd)
    refine wpAny_Name (wpAny_loadName_free hkind hz hcl hcell' ?_ hzc) hzd
    refine SB.contains ⟨?_, keeps_self _⟩
    simp [inAt, hP']
  · intro a s₅ ps' F₅ N₅ ht₅ G₅ hos X
    rw [passing_all] at X
    refine hQ a s₅ ps' F₅ N₅ ht₅ G₅ hos ⟨s₁.heap.objs.size - 1, ?_, Nat.le_sub_one_of_lt hLlt, fun p hp => ?_⟩
    · rw [List.length_range] at X
      exact X.imp fun j v ⟨i, hi, hv⟩ => by
        rw [range_at hi] at hv; exact hv
    · rcases List.mem_cons.mp hp with rfl | hp
      · exact Nat.le_sub_one_of_lt hPlt
      · exact Nat.le_sub_one_of_lt (Heap.lt_size (N p (.tail _ hp)).1)
end
end Mine
end

/- array_string_escape -/
section
open PySem PySem.W PySem.Calls PyProof.Rows
set_option maxRecDepth 100000
set_option maxHeartbeats 1000000
namespace Mine


theorem string_in_code {w : World} {A : Around} {s : Shared} {v : Value} {R : Result → Shared → Prop} (hl : s.heap.NoLimit) (hr : A.depth < recursionLimit)
    (h : ∀ h' tk, s.heap.StaysIn h' → R (.ok (.ret v)) { s with heap := h', toks := tk }) : (hd.heap_39 w.params).In s.heap → codeAny (model PySem.Challenge.rw_em5012_01.row.prog w) A (.call (.ref 63) ⟨[v], []⟩) R s := by
  k_fill
  intro X
  refine' enter_plain [] (binds := [(PySem.Str.ofString "data", v)]) X hl ?k6 ?k7 hr ?k9 ?kB ?_ ?c5 ?c2 ?c3 ?c4
  case k6 => k_is
  case k7 => k_is
  case k9 => exact BindsTo.of_eq rfl
  case kB => exact locs rfl
  case c5 => decide
  case c2 => exact rfl
  case c3 => exact rfl
  case c4 => exact rfl
  intro h₁ F st
  refine wpAny_execs_cons (wpAny_Return_some (nameX_L F rfl ?_))
  exact h _ _ st

theorem News.isTuple9 {h₀ h : Heap} {L a : Addr} {news : List (Addr × Obj)} {its : Array Value} {n : Nat} (N : News h₀ L h news) (hm : (a, ({ cls := .type "tuple", data := .seq its n } : Obj)) ∈ news) : h.IsTuple a its := ⟨_, N.get hm, rfl, _, rfl⟩
theorem map_at {m : PySem.Str → Option Value} {x : PySem.Str} {v : Value} (h : m x = some v) : ∃ u : PySem.Str → Option Value, m = fun y => if y = x then some v else u y :=
  ⟨m, by funext y; by_cases q : y = x
         · simp [q, h]
         · simp [q]⟩
theorem strs_len : ∀ {vs : List Value} {ws : List PySem.Str}, StrsAre vs ws → vs.length = ws.length
  | _, _, .nil => rfl
  | _, _, .cons _ _ h => by simp [strs_len h]
theorem strs_push {a : Array Value} {ws : List PySem.Str} {y : PySem.Str} {t : Tok} (h : StrsAre a.toList ws) : StrsAre (a.push (.str y t)).toList (ws ++ [y]) := by
  rw [Array.toList_push]; exact h.append' (.cons _ _ .nil)
theorem escB_snoc (pre : List Nat) (c : Nat) : escB (pre ++ [c]) = escB pre ++ esc1 c := by simp [escB]
abbrev mk1 (c : Nat) : PySem.Str := ⟨#[c]⟩
theorem one_eq {c d : Nat} {x : PySem.Str} (h : (PySem.Str.mk #[c] == x) = true) (hx : x = ⟨#[d]⟩) : c = d := by
  rw [hx] at h
  have := eq_of_beq h
  injection this with h1
  simpa using h1
theorem one_ne {c d : Nat} {x : PySem.Str} (h : (PySem.Str.mk #[c] == x) = false) (hx : x = ⟨#[d]⟩) : c ≠ d := by
  rintro rfl
  rw [hx] at h
  simp at h
theorem strs_slash {a : Array Value} {ws : List PySem.Str} {t : Tok} (h : StrsAre a.toList ws) : StrsAre (a.push (.str (PySem.Str.ofString "\\") t)).toList (ws ++ [mk1 92]) := by
  have e : PySem.Str.ofString "\\" = mk1 92 := by decide +kernel
  rw [e]; exact strs_push h
theorem turn_two {a : Array Value} {pre : List Nat} {c : Nat} {t t' : Tok} (h : StrsAre a.toList ((escB pre).map mk1)) (hc : c = 92 ∨ c = 34) :
    StrsAre ((a.push (.str (PySem.Str.ofString "\\") t)).push (.str ⟨#[c]⟩ t')).toList ((escB (pre ++ [c])).map mk1) := by
  have h2 := strs_push (y := mk1 c) (t := t') (strs_slash (t := t) h)
  have e : (escB (pre ++ [c])).map mk1 = (escB pre).map mk1 ++ [mk1 92] ++ [mk1 c] := by
    rw [escB_snoc]
    rcases hc with rfl | rfl <;> simp [esc1]
  rw [e]; exact h2
theorem turn_one {a : Array Value} {pre : List Nat} {c : Nat} {t' : Tok} (h : StrsAre a.toList ((escB pre).map mk1)) (h1 : c ≠ 92) (h2 : c ≠ 34) :
    StrsAre (a.push (.str ⟨#[c]⟩ t')).toList ((escB (pre ++ [c])).map mk1) := by
  have h3 := strs_push (y := mk1 c) (t := t') h
  have e : (escB (pre ++ [c])).map mk1 = (escB pre).map mk1 ++ [mk1 c] := by
    rw [escB_snoc]
    simp [esc1, h1, h2]
  rw [e]; exact h3

def textOf (l : List Nat) : PySem.Str := ⟨l.toArray⟩
theorem glue_ones : ∀ (l : List Nat) (acc : Array Nat), (l.map mk1).foldl (fun acc p => acc ++ (#[] : Array Nat) ++ p.cps) acc = acc ++ l.toArray
  | [], acc => by simp
  | c :: r, acc => by
    rw [List.map_cons, List.foldl_cons, glue_ones r]
    simp
theorem join_ones (l : List Nat) : Txt.join (PySem.Str.ofString "") (l.map mk1) = textOf l := by
  have e0 : PySem.Str.ofString "" = ⟨#[]⟩ := by decide +kernel
  rw [e0]
  cases l with
  | nil => rfl
  | cons c r =>
    show PySem.Str.mk ((r.map mk1).foldl (fun acc p => acc ++ (#[] : Array Nat) ++ p.cps) #[c]) = _
    rw [glue_ones]
    simp [textOf]
theorem ones_fit {l : List Nat} (h : l.length ≤ 2097152) : ((l.map mk1).map (·.length)).sum + (l.map mk1).length * (PySem.Str.ofString "").length ≤ 16777216 := by
  have e0 : (PySem.Str.ofString "").length = 0 := by decide +kernel
  have e1 : ((l.map mk1).map (·.length)).sum = l.length := by
    induction l with
    | nil => rfl
    | cons c r ih =>
      have := ih (by simp at h; omega)
      simp only [List.map_cons, List.sum_cons, this, List.length_cons]
      show 1 + r.length = r.length + 1
      omega
  rw [e0, e1]; omega

def sp (c : Nat) : Bool := Txt.isspace ⟨#[c]⟩
theorem textOf_length (l : List Nat) : (textOf l).length = l.length := by show l.toArray.size = _; simp
theorem any_space_eq (l : List Nat) : ((List.range (textOf l).cps.size).any (spaceAt (textOf l))) = l.any sp := by
  rw [Bool.eq_iff_iff, List.any_eq_true, List.any_eq_true]
  constructor
  · rintro ⟨j, hj, h⟩
    simp only [spaceAt, textOf] at h
    cases e : (l.toArray)[j]? with
    | none => rw [e] at h; cases h
    | some c =>
      rw [e] at h
      exact ⟨c, List.mem_of_getElem? (by simpa using e), h⟩
  · rintro ⟨c, hc, h⟩
    obtain ⟨j, hj, rfl⟩ := List.getElem_of_mem hc
    refine ⟨j, List.mem_range.mpr (by simpa [textOf] using hj), ?_⟩
    simp only [spaceAt, textOf]
    have h' : Txt.isspace ⟨#[l[j]]⟩ = true := h
    simpa [hj] using h'
theorem contains_one (l : List Nat) (d : Nat) : Txt.contains (textOf l) ⟨#[d]⟩ = l.contains d := by
  unfold Txt.contains
  rw [StrLaws.found_one]
  show decide (d ∈ l.toArray.toList) = l.contains d
  simp
theorem any_in_eq (l : List Nat) (t1 t2 t3 t4 : Tok) :
    ((List.range (#[Value.str (PySem.Str.ofString "{") t1, .str (PySem.Str.ofString "}") t2, .str (PySem.Str.ofString ",") t3, .str (PySem.Str.ofString "\\") t4] : Array Value).size).any (inAt (textOf l) #[Value.str (PySem.Str.ofString "{") t1, .str (PySem.Str.ofString "}") t2, .str (PySem.Str.ofString ",") t3, .str (PySem.Str.ofString "\\") t4]))
      = (l.contains 123 || l.contains 125 || l.contains 44 || l.contains 92) := by
  have e1 : PySem.Str.ofString "{" = ⟨#[123]⟩ := by decide +kernel
  have e2 : PySem.Str.ofString "}" = ⟨#[125]⟩ := by decide +kernel
  have e3 : PySem.Str.ofString "," = ⟨#[44]⟩ := by decide +kernel
  have e4 : PySem.Str.ofString "\\" = ⟨#[92]⟩ := by decide +kernel
  have er : List.range 4 = [0, 1, 2, 3] := by decide
  show ((List.range 4).any _) = _
  rw [er, e1, e2, e3, e4]
  simp only [List.any_cons, List.any_nil, Bool.or_false]
  show (Txt.contains (textOf l) ⟨#[123]⟩ || (Txt.contains (textOf l) ⟨#[125]⟩ || (Txt.contains (textOf l) ⟨#[44]⟩ || Txt.contains (textOf l) ⟨#[92]⟩))) = _
  rw [contains_one, contains_one, contains_one, contains_one]
  simp only [Bool.or_assoc]
theorem told_quoted {l : List Nat} (h : wants sp (escB l) = true) : PySem.Str.ofString "\"" ++ textOf (escB l) ++ PySem.Str.ofString "\"" = textOf (told sp l) := by
  have e : PySem.Str.ofString "\"" = ⟨#[34]⟩ := by decide +kernel
  rw [e]
  unfold told
  rw [if_pos h]
  refine PySem.Str.ext' (Array.toList_inj.mp ?_)
  rw [PySem.Str.cps_append, PySem.Str.cps_append, Array.toList_append, Array.toList_append]
  simp [textOf]
theorem told_plain {l : List Nat} (h : wants sp (escB l) = false) : textOf (escB l) = textOf (told sp l) := by
  unfold told
  rw [if_neg (by rw [h]; exact Bool.false_ne_true)]
theorem wants_len {v : List Nat} (h : ((textOf v).length : Int) = 0) : wants sp v = true := by
  have : v.length = 0 := by rw [textOf_length] at h; exact_mod_cast h
  have : v = [] := List.length_eq_zero_iff.mp this
  subst this; rfl
theorem wants_null {v : List Nat} (h : (textOf v == PySem.Str.ofString "NULL") = true) : wants sp v = true := by
  have e : PySem.Str.ofString "NULL" = textOf nullW := by decide +kernel
  rw [e] at h
  have := eq_of_beq h
  injection this with h1
  have : v = nullW := by simpa using h1
  subst this; rfl
theorem wants_space {v : List Nat} (h : v.any sp = true) : wants sp v = true := by unfold wants; rw [h]; simp
theorem wants_in {v : List Nat} (h : (v.contains 123 || v.contains 125 || v.contains 44 || v.contains 92) = true) : wants sp v = true := by
  unfold wants; simp only [Bool.or_eq_true] at h ⊢; rcases h with ((h | h) | h) | h <;> simp only [h, true_or, or_true]
theorem wants_not {v : List Nat} (h1 : ((textOf v).length : Int) ≠ 0) (h2 : (textOf v == PySem.Str.ofString "NULL") = false) (h3 : v.any sp = false) (h4 : (v.contains 123 || v.contains 125 || v.contains 44 || v.contains 92) = false) : wants sp v = false := by
  have e : PySem.Str.ofString "NULL" = textOf nullW := by decide +kernel
  have a1 : v.isEmpty = false := by
    cases v with
    | nil => exact absurd rfl h1
    | cons _ _ => rfl
  have a2 : (v == nullW) = false := by
    rw [e] at h2
    cases q : v == nullW with
    | false => rfl
    | true => rw [eq_of_beq q] at h2; simp at h2
  unfold wants
  rw [Bool.or_assoc, Bool.or_assoc, Bool.or_assoc, a1, a2, h3]
  rw [Bool.or_assoc, Bool.or_assoc] at h4
  simpa using h4

local macro_rules | `(tactic| walk_at "call builtin:list.append") => `(tactic| (k_dflt (refine' append_K ?k1 ?k2 ?k3 ?_ ?z; (case k1 => k_asm); (case k2 => k_asm); (case k3 => k_upd); (case z => (simp only [Array.size_push, PySem.sizeLine_eq]; omega)); k_whole); intro h' F' N'; (try k_sweep)))

theorem esc_code {w : World} {mg mb : PySem.Str → Option Value} {A : Around} {s : Shared} {l : List Nat} {t : Tok} {R : Result → Shared → Prop} (G : Gd w mg mb s.heap) (hA : HasA s.heap) (hg : AllBare s.gens) (hr : A.depth + 1 < recursionLimit) (hh : A.handled = none) (hv : l.length ≤ 1048576)
    (hR : ∀ s' t', LaterA s s' → R (.ok (.ret (.str (textOf (told sp l)) t'))) s') : (hd.heap_39 w.params).In s.heap → codeAny (model PySem.Challenge.rw_em5012_01.row.prog w) A (.call (.ref 740) ⟨[.str (textOf l) t], []⟩) R s := by
  k_fill
  intro X
  obtain ⟨p, lo, T⟩ := G.T
  refine' enter_cells [tabA] (binds := [(PySem.Str.ofString "v", .str (textOf l) t)]) X T.nolimit ?k6 ?k7 (Nat.lt_of_succ_lt hr) ?k9 ?kB ?kD ?_ ?c2 ?c3 ?c4
  case k6 => k_is
  case k7 => k_is
  case k9 => exact BindsTo.of_eq rfl
  case kB => exact rfl
  case kD => decide +kernel
  case c2 => exact rfl
  case c3 => exact rfl
  case c4 => exact rfl
  intro h₁ tk cells F N Y st
  k_cells Y
  obtain ⟨p1, e1, t1⟩ := hA
  have N := hid_news (.head _) e1 F st N
  have G' := Gd.hide fewA (fun _ => ⟨p1, e1⟩) (fun h => absurd (List.mem_singleton.mp h) (by decide)) G
  have fin : ∀ (s' : Shared) (m : PySem.Str → Option Value) (p1' : Array Value) (news : List (Addr × Obj)) (L : Addr), Fr (hideAll s.heap [tabA]) L s'.heap m → News (hideAll s.heap [tabA]) L s'.heap news → (tabA, tabObj p1') ∈ news → TriplesOk p1'.toList → AllBare s'.gens → s'.os = s.os → LaterA s s' :=
    fun s' m p1' news L F N hm ht hg ho => ⟨fun b o e hb => F.keep b o (hideAll_get _ e fun q => hb (List.mem_singleton.mp q)), ⟨p1', (N _ hm).1, ht⟩, hg, ho⟩
  obtain ⟨Xg, ⟨pg, lg, Tg⟩, bmg⟩ := G'
  clear X T G
  generalize hideAll s.heap [tabA] = g at F N Xg Tg bmg fin
  k_steps
  rename_i o' hO lc h2 lk h3 F3 N3
  refine For_invV g rfl rfl (nameX_L F3 rfl ?_)
  refine iter_text (fun pre m nx => ∃ arr n, m (PySem.Str.ofString "cs") = some (.ref lc) ∧ nx = [(lc, PySem.W.listOf arr n), (tabA, tabObj p1), (s.heap.objs.size + 1, o')] ∧ StrsAre arr.toList ((escB pre).map mk1)) hh F3 N3 ⟨#[], 0, rfl, rfl, .nil⟩ ?_ ?_
  · rintro pre c post tc m₁ news₁ h tk5 I io hpre ⟨arr, n, hcs, rfl, hS⟩ hne F5 N5
    have hlen : arr.size ≤ 2097152 := by
      have h1 := strs_len hS
      have h2 := length_escB pre
      have h3 : (textOf l).cps.toList.length = pre.length + (post.length + 1) := by rw [hpre]; simp
      have h4 : (textOf l).cps.toList = l := rfl
      rw [h4] at h3
      simp only [Array.length_toList, List.length_map] at h1
      omega
    obtain ⟨u, rfl⟩ := map_at hcs
    clear F3 N3
    have hI1 : @Ne Nat lc I := hne _ (.head _)
    have hnx : ∀ (a : Array Value) (k : Nat), ∀ p ∈ [(lc, PySem.W.listOf a k), (tabA, tabObj p1), (s.heap.objs.size + 1, o')], p.1 ≠ I := fun a k p hp => by
      rcases List.mem_cons.mp hp with rfl | hp
      · exact hI1
      · exact hne p (.tail _ hp)
    k_steps
    · rename Fr _ _ _ _ => F6
      rename News _ _ _ _ => N6
      exact ⟨_, _, _, _, rfl, F6, N6, hnx _ _, _, _, rfl, rfl, turn_two hS (.inl (one_eq (d := 92) (x := PySem.Str.ofString "\\") (by assumption) (by decide +kernel)))⟩
    · rename Fr _ _ _ _ => F6
      rename News _ _ _ _ => N6
      exact ⟨_, _, _, _, rfl, F6, N6, hnx _ _, _, _, rfl, rfl, turn_two hS (.inr (one_eq (d := 34) (x := PySem.Str.ofString "\"") (by assumption) (by decide +kernel)))⟩
    · rename Fr _ _ _ _ => F6
      rename News _ _ _ _ => N6
      exact ⟨_, _, _, _, rfl, F6, N6, hnx _ _, _, _, rfl, rfl, turn_one hS (one_ne (d := 92) (x := PySem.Str.ofString "\\") (by assumption) (by decide +kernel)) (one_ne (d := 34) (x := PySem.Str.ofString "\"") (by assumption) (by decide +kernel))⟩
  · rintro m₁ news₁ h tk5 ⟨arr, n, hcs, rfl, hS⟩ F5 N5
    obtain ⟨u, rfl⟩ := map_at hcs
    clear F3 N3
    dsimp only
    k_steps
    have hS : StrsAre arr.toList ((escB l).map mk1) := hS
    have hlen : (escB l).length ≤ 2097152 := by
      have h2 := length_escB l
      omega
    refine join_list (News.isList N5 (.head _)) hS ?_ ?_
    · exact ones_fit hlen
    intro t' k
    rw [join_ones]
    have hvl : (textOf (escB l)).length ≤ 2097152 := by rw [textOf_length]; exact hlen
    generalize hval : textOf (escB l) = val at hvl
    k_steps
    all_goals try dsimp only
    · rename Fr _ _ _ _ => F6
      rename News _ _ _ _ => N6
      subst hval
      rw [told_quoted (wants_len (by assumption))]
      exact hR _ _ (fin _ _ _ _ _ F6 N6 (.tail _ (.head _)) t1 hg rfl)
    · rename Fr _ _ _ _ => F6
      rename News _ _ _ _ => N6
      subst hval
      rw [told_quoted (wants_null (by assumption))]
      exact hR _ _ (fin _ _ _ _ _ F6 N6 (.tail _ (.head _)) t1 hg rfl)
    · rename_i h6 o6 F6 N6 hoc hnl hnn
      have C739 : CodeHd g 739 735 := codeHd_of_K Xg (by kernel_rfl)
      have hlt : 735 < s.heap.objs.size := Heap.lt_size e1
      have hN7 : News g s.heap.objs.size _ [(tabA, tabObj p1), (s.heap.objs.size + 1, _)] := fun p hp => N6 p (.tail _ hp)
      refine make_space (y := val) (t := t') (c := 739) (P := 735) rfl C739 Tg.g bmg Tg.nolimit hh rfl rfl (by decide) rfl rfl rfl hr (by decide) (fun _ _ => rfl) rfl F6 hN7 t1 hg ?_ ?_ ?_ ?_
      · intro p hp
        rw [List.mem_singleton.mp hp]; exact Nat.ne_of_gt (Nat.lt_succ_of_lt hlt)
      · intro Q' hq
        exact nameX_C N6 rfl (.tail _ (.tail _ (.head _))) (by assumption) hq
      · intro a s₅ p1' F7 N7 ht7 G7 hos7 X7
        clear F6 N6 hN7
        k_steps
        refine any_of F7 N7 G7 X7 ?_
        intro s₆ F8 N8 G8 hos8
        clear F7 N7 X7
        have hos9 : s₆.os = s.os := hos8.trans hos7
        have hsq : ((List.range val.cps.size).any (spaceAt val)) = (escB l).any sp := by rw [← hval]; exact any_space_eq _
        rw [hsq]
        k_steps
        all_goals try dsimp only
        · rename Fr _ _ _ _ => F9
          rename News _ _ _ _ => N9
          subst hval
          rw [told_quoted (wants_space (by assumption))]
          exact hR _ _ (fin _ _ _ _ _ F9 N9 (.head _) ht7 G8 hos9)
        · refine make_in (y := val) (t := t') (c := 739) (P := 735) (cl := [(PySem.Str.ofString "val", s.heap.objs.size + 1)]) (ca := s.heap.objs.size + 1) (L := s.heap.objs.size) (co := o6) (m := fun y => if y = PySem.Str.ofString "cs" then some (.ref lc) else u y) rfl C739 Tg.g bmg Tg.nolimit hh rfl rfl (by decide) rfl rfl rfl rfl rfl hr (by decide) (by decide) (by decide) ?_ ?_
          · k_steps
            rename_i hsp D9 h9 F9 N9 l9
            refine Held.mk ⟨D9, _, p1', [(s.heap.objs.size + 1, o6)], rfl, News.isTuple9 N9 (.head _), Nat.ne_of_gt l9.1, ?_, .head _, hoc, F9, fun p hp => N9 p (.tail _ hp), ht7, G8, ?_, ?_⟩
            · intro v hv
              simp only [Array.mem_def, List.mem_cons, List.not_mem_nil, or_false] at hv
              rcases hv with rfl | rfl | rfl | rfl <;> exact ⟨_, _, rfl⟩
            · intro p hp
              rw [List.mem_singleton.mp hp]; exact Nat.ne_of_gt (Nat.lt_succ_of_lt hlt)
            intro a s₇ p1'' F10 N10 ht10 G10 hos10 X10
            clear F9 N9
            k_steps
            refine any_of F10 N10 G10 X10 ?_
            intro s₈ F11 N11 G11 hos11
            clear F10 N10 X10
            have hos12 : s₈.os = s.os := hos11.trans (hos10.trans hos9)
            have e12 := any_in_eq (escB l) s₆.toks (s₆.toks + 1) (s₆.toks + 1 + 1) (s₆.toks + 1 + 1 + 1)
            rw [← hval]
            rw [e12]
            k_steps
            all_goals try dsimp only
            · rename Fr _ _ _ _ => F13
              rename News _ _ _ _ => N13
              subst hval
              rw [told_quoted (wants_in (by assumption))]
              exact hR _ _ (fin _ _ _ _ _ F13 N13 (.head _) ht10 G11 hos12)
            · subst hval
              rw [told_plain (wants_not (by assumption) (by assumption) (by assumption) (by assumption))]
              exact hR _ _ (fin _ _ _ _ _ F11 N11 (.head _) ht10 G11 hos12)
          · intro _; rfl
      · intro _; rfl
end Mine
end

/- str.count, str.strip; what the law asks at its end -/
section
open PySem PySem.W PySem.Calls PyProof.Rows
set_option maxRecDepth 100000
set_option maxHeartbeats 4000000
namespace Mine
/- str.count of one sign, str.strip of signs -/
theorem count_go (x : PySem.Str) (c lim : Nat) : ∀ (n i : Nat) (st : Array Nat × Nat), i + n = x.length + 1 → st.snd ≤ i → st.fst.size + n ≤ lim →
    (forIn (List.range' i n) st (StrLaws.occBody x ⟨#[c]⟩ x.length lim)).run.fst.size = st.fst.size + (x.cps.toList.drop i).count c
  | 0, i, st, hi, _, _ => by
    have h : x.cps.toList.drop i = [] := List.drop_eq_nil_of_le (by simp [Str.length] at hi ⊢; omega)
    rw [h]
    rfl
  | n + 1, i, st, hi, hf, hl => by
    rw [List.range'_succ, List.forIn_cons]
    unfold StrLaws.occBody
    have key := StrLaws.subAt_one x c i
    by_cases hc : x.cps.toList[i]? = some c
    · obtain ⟨h1, h2⟩ := key.mpr hc
      rw [if_pos ⟨⟨⟨by omega, hf⟩, h1⟩, h2⟩]
      have ih := count_go x c lim n (i + 1) (st.fst.push i, i + (⟨#[c]⟩ : PySem.Str).length) (by omega) (Nat.le_refl _) (by simp; omega)
      have e : x.cps.toList.drop i = c :: x.cps.toList.drop (i + 1) := by
        obtain ⟨hlt, he⟩ := List.getElem?_eq_some_iff.mp hc
        rw [List.drop_eq_getElem_cons hlt, he]
      rw [e, List.count_cons_self]
      refine Eq.trans ih ?_
      rw [Array.size_push]
      omega
    · have hn : ¬ (((st.fst.size < lim ∧ st.snd ≤ i) ∧ i + (⟨#[c]⟩ : PySem.Str).length ≤ x.length) ∧ Builtin.Str.subAt x ⟨#[c]⟩ i = true) := fun h => hc (key.mp ⟨h.1.2, h.2⟩)
      rw [if_neg hn]
      have ih := count_go x c lim n (i + 1) (st.fst, st.snd) (by omega) (by show st.snd ≤ _; omega) (by show st.fst.size + n ≤ _; omega)
      refine Eq.trans ih ?_
      show st.fst.size + _ = st.fst.size + _
      congr 1
      by_cases hlt : i < x.cps.toList.length
      · rw [List.drop_eq_getElem_cons hlt, List.count_cons_of_ne]
        intro q
        exact hc (by rw [List.getElem?_eq_getElem hlt, q])
      · rw [List.drop_eq_nil_of_le (by omega), List.drop_eq_nil_of_le (by omega)]
theorem count_one (l : List Nat) (c : Nat) : Txt.count (textOf l) ⟨#[c]⟩ = (l.count c : Int) := by
  unfold Txt.count
  rw [StrLaws.occ_eq, Array.length_toList]
  refine congrArg (fun z : Nat => (z : Int)) ?_
  rw [count_go (textOf l) c ((textOf l).length + 1) ((textOf l).length + 1 - 0) 0 (#[], 0) (by omega) (Nat.le_refl _) (by simp)]
  show 0 + (l.toArray.toList.drop 0).count c = l.count c
  simp
theorem strip_nil (l : List Nat) (y : PySem.Str) : (Txt.stripChars (textOf l) y).length = 0 ↔ ∀ c ∈ l, y.cps.contains c = true := by
  unfold Txt.stripChars
  rw [PyProof.Rows.stripBy_eq]
  generalize y.cps.contains = goes
  obtain ⟨a1, a2, a3⟩ := lo_facts goes (textOf l)
  obtain ⟨b0, b1, b2, b3⟩ := hi_facts goes (textOf l) _ a1
  generalize stripLo goes true (textOf l) = lo at *
  generalize stripHi goes true (textOf l) lo = hi at *
  have hlen : (Builtin.Str.strSub (textOf l) lo hi).length = hi - lo := by
    show ((textOf l).cps.extract lo hi).size = _
    have : (textOf l).cps.size = (textOf l).length := rfl
    rw [Array.size_extract, this, Nat.min_eq_left b1]
  rw [hlen]
  have get : ∀ k, (textOf l).cps.getD k 0 = l.getD k 0 := fun k => (getD_list _ _).symm
  have hl : (textOf l).length = l.length := textOf_length l
  simp only [get, hl] at *
  constructor
  · intro h c hc
    obtain ⟨k, hk, rfl⟩ := List.getElem_of_mem hc
    have e : l.getD k 0 = l[k] := by simp [hk]
    by_cases hk2 : k < lo
    · exact e ▸ a2 k hk2
    · exact e ▸ b2 k (by omega) hk
  · intro h
    have hlo : lo = l.length := by
      rcases a3 with q | q
      · exact q
      · by_cases hlt : lo < l.length
        · have e : l.getD lo 0 = l[lo] := by simp [hlt]
          rw [e, h _ (List.getElem_mem hlt)] at q
          cases q
        · omega
    omega
theorem sp_some : sp 97 = false ∧ sp 98 = false ∧ sp 32 = true := by refine ⟨?_, ?_, ?_⟩ <;> decide +kernel
theorem wants_plain (w : List Nat) (hw : ∀ c ∈ w, c ∈ [97, 98, 32, 34, 92, 123, 125, 44]) : wants sp (escB w) = false ↔ w ≠ [] ∧ ∀ c ∈ w, c = 97 ∨ c = 98 := by
  constructor
  · intro h
    simp only [wants, Bool.or_eq_false_iff] at h
    obtain ⟨⟨⟨⟨⟨⟨h1, h2⟩, h3⟩, h4⟩, h5⟩, h6⟩, h7⟩ := h
    have h7' : 92 ∉ escB w := by simpa using h7
    have h34 := not_mem_escB_34 w h7'
    rw [escB_plain w h7'] at h1 h3 h4 h5 h6 h7'
    have h4' : 123 ∉ w := by simpa using h4
    have h5' : 125 ∉ w := by simpa using h5
    have h6' : 44 ∉ w := by simpa using h6
    have h32 : 32 ∉ w := fun q => by
      have := List.any_eq_false.mp h3 32 q
      exact this sp_some.2.2
    refine ⟨fun q => by (rw [q] at h1; simp at h1), fun c hc => ?_⟩
    have := hw c hc
    simp only [List.mem_cons, List.not_mem_nil, or_false] at this
    rcases this with rfl | rfl | rfl | rfl | rfl | rfl | rfl | rfl
    · exact .inl rfl
    · exact .inr rfl
    · exact absurd hc h32
    · exact absurd hc h34
    · exact absurd hc h7'
    · exact absurd hc h4'
    · exact absurd hc h5'
    · exact absurd hc h6'
  · rintro ⟨hne, hab⟩
    have hmem : ∀ d, d ≠ 97 → d ≠ 98 → d ∉ w := fun d h1 h2 hd => (hab d hd).elim h1 h2
    have hesc : escB w = w := by
      have : ∀ v : List Nat, (∀ c ∈ v, c = 97 ∨ c = 98) → escB v = v := by
        intro v
        induction v with
        | nil => intro _; rfl
        | cons c r ih =>
          intro h
          have e : escB (c :: r) = esc1 c ++ escB r := by simp [escB]
          rw [e, ih fun x hx => h x (.tail _ hx)]
          rcases h c (.head _) with rfl | rfl <;> rfl
      exact this w hab
    rw [hesc]
    simp only [wants, Bool.or_eq_false_iff]
    refine ⟨⟨⟨⟨⟨⟨?_, ?_⟩, ?_⟩, ?_⟩, ?_⟩, ?_⟩, ?_⟩
    · simpa using hne
    · refine beq_eq_false_iff_ne.mpr fun q => hmem 78 (by decide) (by decide) (by rw [q]; decide)
    · refine List.any_eq_false.mpr fun c hc => ?_
      rcases hab c hc with rfl | rfl
      · rw [sp_some.1]; decide
      · rw [sp_some.2.1]; decide
    · simpa using hmem 123 (by decide) (by decide)
    · simpa using hmem 125 (by decide) (by decide)
    · simpa using hmem 44 (by decide) (by decide)
    · simpa using hmem 92 (by decide) (by decide)
/-- the law's test of the word -/
theorem strip_ab (w : List Nat) : (Txt.stripChars (textOf w) (PySem.Str.ofString "ab")).length = 0 ↔ ∀ c ∈ w, c = 97 ∨ c = 98 := by
  rw [strip_nil, show PySem.Str.ofString "ab" = ⟨#[97, 98]⟩ from by decide +kernel]
  refine forall_congr' fun c => forall_congr' fun _ => ?_
  simp
theorem count_quote (l : List Nat) : Txt.count (textOf l) (PySem.Str.ofString "\"") = (l.count 34 : Int) := by
  rw [show PySem.Str.ofString "\"" = ⟨#[34]⟩ from by decide +kernel]
  exact count_one l 34
theorem count_slash (l : List Nat) : Txt.count (textOf l) (PySem.Str.ofString "\\") = (l.count 92 : Int) := by
  rw [show PySem.Str.ofString "\\" = ⟨#[92]⟩ from by decide +kernel]
  exact count_one l 92
/-- what the law asks of the last text's counts -/
def Due (sp : Nat → Bool) (b : Nat) (w : List Nat) (d n : Nat) : Prop :=
  ((again sp b w d).count 34 : Int) = (w.count 34 : Int) + 2 * (n : Int) ∧ ((again sp b w d).count 92 : Int) = 2 ^ n * (w.count 92 : Int) + (2 ^ n - 1) * (w.count 34 : Int) + 2 * (2 ^ n - (n : Int) - 1)
theorem empty_text {x : PySem.Str} : x = PySem.Str.ofString "" ↔ x.length = 0 := by
  rw [show PySem.Str.ofString "" = ⟨#[]⟩ from by decide +kernel]
  constructor
  · rintro rfl
    rfl
  · intro h
    exact PySem.Str.ext' (Array.eq_empty_of_size_eq_zero h)
theorem due_all {b : Nat} {w : List Nat} {d : Nat} (hd : 1 ≤ d) (h : wants sp (escB w) = true) : Due sp b w d d := by
  obtain ⟨n, rfl⟩ : ∃ n, d = n + 1 := ⟨d - 1, by omega⟩
  obtain ⟨h1, h2⟩ := counts sp b w true h n
  refine ⟨?_, ?_⟩
  · rw [h1]
    simp
  · rw [h2]
    simp
theorem tail_ways {b : Nat} {w : List Nat} {d : Nat} (hw : ∀ c ∈ w, c ∈ [97, 98, 32, 34, 92, 123, 125, 44]) (hd : 1 ≤ d) :
    (w.length = 0 ∧ Due sp b w d d) ∨
    (w.length ≠ 0 ∧ Txt.stripChars (textOf w) (PySem.Str.ofString "ab") ≠ PySem.Str.ofString "" ∧ Due sp b w d d) ∨
    (w.length ≠ 0 ∧ Txt.stripChars (textOf w) (PySem.Str.ofString "ab") = PySem.Str.ofString "" ∧ ∃ n, d = n + 1 ∧ Due sp b w d n) := by
  have h1 := wants_plain w hw
  have h2 := strip_ab w
  rw [← empty_text] at h2
  by_cases hq : wants sp (escB w) = true
  · by_cases h0 : w.length = 0
    · exact .inl ⟨h0, due_all hd hq⟩
    · refine .inr (.inl ⟨h0, fun q => ?_, due_all hd hq⟩)
      have := h1.mpr ⟨fun z => h0 (by rw [z]; rfl), h2.mp q⟩
      rw [hq] at this
      cases this
  · have hq' : wants sp (escB w) = false := by simpa using hq
    obtain ⟨n1, n2⟩ := h1.mp hq'
    refine .inr (.inr ⟨fun z => n1 (List.length_eq_zero_iff.mp z), h2.mpr n2, ?_⟩)
    obtain ⟨n, rfl⟩ : ∃ n, d = n + 1 := ⟨d - 1, by omega⟩
    obtain ⟨h1, h2⟩ := counts sp b w false hq' n
    have z34 : w.count 34 = 0 := List.count_eq_zero.mpr fun q => by
      rcases n2 _ q with h | h <;> cases h
    have z92 : w.count 92 = 0 := List.count_eq_zero.mpr fun q => by
      rcases n2 _ q with h | h <;> cases h
    refine ⟨n, rfl, ?_, ?_⟩
    · rw [h1]
      simp
    · rw [h2, z34, z92]
      simp
end Mine
end

/- a comprehension whose element calls -/
section
open PySem PySem.W PySem.Calls PyProof.Rows
set_option maxRecDepth 100000
namespace Mine

theorem strs_len9 : ∀ {vs : List Value} {ws : List PySem.Str}, StrsAre vs ws → vs.length = ws.length
  | _, _, .nil => rfl
  | _, _, .cons _ _ h => by simp [strs_len9 h]
theorem LaterA.rfl' {s : Shared} (h : HasA s.heap) (g : AllBare s.gens) : LaterA s s := ⟨fun _ _ e _ => e, h, g, rfl⟩
theorem LaterA.trans {s s' s'' : Shared} (a : LaterA s s') (b : LaterA s' s'') : LaterA s s'' :=
  ⟨fun c o e n => b.keep c o (a.keep c o e n) n, b.t1, b.gens, b.os.trans a.os⟩
/-- a step that keeps all old objects of s but one that is not of s -/
theorem LaterA.step {s s' : Shared} (a : LaterA s s') {h' : Heap} {tk : Nat} {b : Addr} (hb : s.heap.objs.size ≤ b) (hA : b ≠ tabA) (k : ∀ c o, c ≠ b → s'.heap.get? c = some o → h'.get? c = some o) : LaterA s { s' with heap := h', toks := tk } :=
  ⟨fun c o e n => k c o (Nat.ne_of_lt (Nat.lt_of_lt_of_le (Heap.lt_size e) hb)) (a.keep c o e n), let ⟨ps, e, t⟩ := a.t1; ⟨ps, k _ _ (Ne.symm hA) e, t⟩, a.gens, a.os⟩

section
variable {prog : Program} {w : World} {A : Around} {E : Value → Shared → Prop} {s : Shared} {g : Heap} {L ax : Addr} {m : PySem.Str → Option Value} {p1 : Array Value} {rest : List (Addr × Obj)}

/-- ys = [elt for x in vs] where elt calls; each item comes back as a text -/
theorem comp_later {env : Env} {elt iter : Expr} {x y : PySem.Str} {px py : Pos} {scope : Scope} {pos spos : Pos} {Q : Flow → Shared → Prop} {vs : Array Value} {ts : List PySem.Str}
    (hsw : swapsWith (.ListComp elt [⟨.Name x px, iter, [], 0⟩] scope pos) (some (.Name y py)) spos.line env = pure true)
    (hclos : closureFor scope env = pure []) (hcell : ∀ z ∈ scope.names, z.2 ≠ .cell) (hkind : scope.kind = .function)
    (hnames : ∀ z ∈ scope.names, z.2 = .local → scope.names.lookup z.1 = some .local) (hx : scope.names.lookup x = some .local)
    (hy : env.kindOf y = some .local) (hp : (env.scope.kind == .class || (env.scope.kind == .module && env.locals != env.globals)) = false) (hh : A.handled = none) (hL : env.locals = L)
    (hit : ∀ Q' : Value → Shared → Prop, Q' (.ref ax) s → wpAny (model prog w) A (eval iter env) Q' E s)
    (hl : s.heap.IsList ax vs) (hlen : vs.size = ts.length) (hsz : vs.size ≤ 1000)
    (F : Fr g L s.heap m) (N : News g L s.heap ((tabA, tabObj p1) :: rest)) (ht : TriplesOk p1.toList) (hg : AllBare s.gens) (hrest : ∀ p ∈ rest, p.1 ≠ tabA)
    (helt : ∀ (i : Nat) (v : Value) (tx : PySem.Str) (C : Addr) (s₃ : Shared) (m₃ : PySem.Str → Option Value) (E' : Value → Shared → Prop), vs[i]? = some v → ts[i]? = some tx → s₃.heap.Ns C m₃ → m₃ x = some v → LaterA s s₃ →
      wpAny (model prog w) A (eval elt (compEnvC scope [] C env)) (fun r s₄ => (∃ t, r = .str tx t) ∧ LaterA s₃ s₄) E' s₃)
    (hQ : ∀ D ys n p1' s', Fr g L s'.heap (fun z => if z = y then some (.ref D) else m z) → News g L s'.heap ((D, PySem.W.listOf ys n) :: (tabA, tabObj p1') :: rest) → TriplesOk p1'.toList → AllBare s'.gens → s'.os = s.os → StrsAre ys.toList ts → Q .next s')
    (hs : ∀ x, foldedSetIterable iter env x = pure x := by intro _; rfl) :
    wpAny (model prog w) A (exec (.Assign [.Name y py] (.ListComp elt [⟨.Name x px, iter, [], 0⟩] scope pos) spos) env) Q E s := by
  rw [exec_Assign_Name_used _ _ _ _ hsw]
  refine wpAny_bind (wpAny_standAt (wpAny_bind ?_))
  show wpAny _ A (do let _ ← comprehension (.ListComp elt [⟨.Name x px, iter, [], 0⟩] scope pos) scope env _ (newList []) false (eval iter env) (some (assign (.Name y py) env))) _ _ s
  refine wpAny_bind (wpAny_mono (wpAny_comprehension_free (use := some (assign (.Name y py) env)) (Q := fun _ s' => Q .next s') rfl hs hclos hkind hnames (hit _ ?_)) (fun _ s' hq => wpAny_pure (wpAny_pure hq)) fun _ _ e => e)
  have hA0 : HasA s.heap := ⟨p1, (N _ (.head _)).1, ht⟩
  have hAlt : @LT.lt Nat _ tabA s.heap.objs.size := Heap.lt_size (N _ (.head _)).1
  have hLlt : @LT.lt Nat _ L s.heap.objs.size := F.ns.lt
  have haxlt : @LT.lt Nat _ ax s.heap.objs.size := let ⟨_, e, _⟩ := hl; Heap.lt_size e
  refine wpAny_pyIter_list hl ?_
  refine wpAny_newObj_type (wpAny_newFunctionEnv hcell (by intro y hy; simp at hy) (fun h₁ hns₁ hsb₁ => ?_) hkind)
  dsimp only at hns₁ hsb₁ ⊢
  generalize hH1 : s.heap.push { cls := .type "list_iterator", data := .fields #[.ref ax, .int 0 0] } = H1 at hns₁ hsb₁ ⊢
  have z1 : H1.objs.size = s.heap.objs.size + 1 := by rw [← hH1, Heap.size_push]
  generalize hH2 : H1.push { cls := .type "list", dict := none, data := .seq ([] : List Value).toArray } = H2 at hns₁ hsb₁ ⊢
  have z2 : H2.objs.size = s.heap.objs.size + 2 := by rw [← hH2, Heap.size_push, z1]
  have up : ∀ b o, s.heap.get? b = some o → h₁.get? b = some o := fun b o e =>
    hsb₁.extBut b o (by have := ltN (Heap.lt_size e); k_ne) (Heap.get?_push_of_some _ (hH2 ▸ Heap.get?_push_of_some _ (hH1 ▸ Heap.get?_push_of_some _ e)))
  have hI : h₁.IsListIter s.heap.objs.size ax 0 := ⟨_, hsb₁.extBut _ _ (by k_ne) (Heap.get?_push_of_some _ (hH2 ▸ Heap.get?_push_of_some _ (hH1 ▸ Heap.get?_push_size _ rfl))), rfl, rfl⟩
  have hD : h₁.get? H1.objs.size = some (PySem.W.listOf #[] 0) := hsb₁.extBut _ _ (by k_ne) (Heap.get?_push_of_some _ (hH2 ▸ Heap.get?_push_size _ rfl))
  have hC : h₁.Ns H2.objs.size (fun _ => none) := hns₁
  have Z0 : LaterA s { s with heap := h₁, toks := s.toks + ([] : List (PySem.Str × Value)).length } := ⟨fun b o e _ => up b o e, let ⟨ps, e, t⟩ := hA0; ⟨ps, up _ _ e, t⟩, hg, rfl⟩
  -- the block's end
  have finish : ∀ (s' : Shared) (m' : PySem.Str → Option Value) (ys : Array Value) (n : Nat), s'.heap.Ns H2.objs.size m' → s'.heap.get? H1.objs.size = some (PySem.W.listOf ys n) → StrsAre ys.toList ts → LaterA s s' →
      compPost (model prog w) A E (some (assign (.Name y py) env)) (fun _ s' => Q .next s') (.ref H1.objs.size) H2.objs.size (.ok .next) s' := by
    intro s' m' ys n hC' hD' hS Z
    obtain ⟨ps, e1, t1⟩ := Z.t1
    obtain ⟨F', N'⟩ := back_fr Z.keep e1 F N hrest
    show wpAny _ A (assign (.Name y py) env (.ref H1.objs.size)) _ _ _
    refine wpAny_assign_Name (wpAny_storeName_local hy (by rw [hL]; exact F'.ns) (fun h₂ hn₂ hs₂ => ?_) hp)
    rw [hL] at hn₂ hs₂
    refine ⟨m', hC'.sameBut hs₂ (by k_ne), fun h₃ hs₃ => ?_⟩
    have F₂ := F'.set hn₂ hs₂
    have N₂ := N'.set hs₂
    have gC : g.get? H2.objs.size = none := by
      cases q : g.get? H2.objs.size with
      | none => rfl
      | some o => have := ltN (Heap.lt_size (F.keep _ _ q)); exact absurd this (by have := F.above; omega)
    have gD : g.get? H1.objs.size = none := by
      cases q : g.get? H1.objs.size with
      | none => rfl
      | some o => have := ltN (Heap.lt_size (F.keep _ _ q)); exact absurd this (by have := F.above; omega)
    refine hQ H1.objs.size ys n ps _ ⟨F₂.ns.sameBut hs₃ (by k_ne), fun b o e => hs₃.extBut b o (by rintro rfl; rw [gC] at e; cases e) (F₂.keep b o e), F₂.above⟩ (fun p hp => ?_) t1 Z.gens Z.os hS
    rcases List.mem_cons.mp hp with rfl | hp
    · exact ⟨hs₃.extBut _ _ (by k_ne) (hs₂.extBut _ _ (by k_ne) hD'), by k_ne, gD⟩
    · have hlt : @LT.lt Nat _ p.1 s.heap.objs.size := by
        rcases List.mem_cons.mp hp with rfl | hp
        · exact hAlt
        · exact Heap.lt_size (N p (.tail _ hp)).1
      exact ⟨hs₃.extBut _ _ (by k_ne) (N₂ p hp).1, (N₂ p hp).2⟩
  have loop : ∀ s₃ : Shared, s₃ = { s with heap := h₁, toks := s.toks + ([] : List (PySem.Str × Value)).length } →
      codeAny (model prog w) A (.compLoop (.ListComp elt [⟨.Name x px, iter, [], 0⟩] scope pos) 0 (.ref s.heap.objs.size) (.ref H1.objs.size) (compEnvC scope [] H2.objs.size env))
        (compPost (model prog w) A E (some (assign (.Name y py) env)) (fun _ s' => Q .next s') (.ref H1.objs.size) H2.objs.size) s₃ := by
    rintro s₃ rfl
    refine codeAny_compLoop_tests (fun k s' => ∃ m' ys n i, s'.heap.IsListIter s.heap.objs.size ax i ∧ s'.heap.get? H1.objs.size = some (PySem.W.listOf ys n) ∧ s'.heap.Ns H2.objs.size m' ∧ StrsAre ys.toList (ts.take i) ∧ i ≤ vs.size ∧ k = vs.size + 1 - i ∧ LaterA s s') ?_ (vs.size + 1)
      ⟨_, #[], 0, 0, hI, hD, hC, .nil, Nat.zero_le _, rfl, Z0⟩
    rintro k s' ⟨m', ys, n, i, hI', hD', hC', hS, hi, rfl, Z⟩
    have hl' : s'.heap.IsList ax vs := hl.at fun o e => Z.keep _ _ e (by
      rintro rfl
      obtain ⟨o', ho', hc', _⟩ := hl
      rw [(N _ (.head _)).1] at ho'; cases ho'; cases hc')
    by_cases hlt : i < vs.size
    · have hv : vs[i]? = some vs[i] := by simp [hlt]
      have htx : ts[i]? = some (ts[i]'(hlen ▸ hlt)) := by simp [hlen ▸ hlt]
      refine wpAny_pyNext_list_item hI' hl' hv fun h₃ hit₃ hs₃ => ?_
      refine wpAny_assign_Name (wpAny_storeName_local (lookup_relabel_local hx) (hC'.sameBut hs₃ (by k_ne)) (fun h₄ hn₄ hs₄ => ?_) (by show ((relabel scope env).kind == .class || ((relabel scope env).kind == .module && H2.objs.size != env.globals)) = false; simp [relabel, hkind]))
      have Z₄ : LaterA s { s' with heap := h₄, toks := s'.toks + 1 } := by
        have a := Z.step (h' := h₃) (tk := s'.toks) (Nat.le_refl _) (by k_ne) fun c o n e => hs₃.extBut c o n e
        exact a.step (h' := h₄) (tk := s'.toks + 1) (b := H2.objs.size) (by show @LE.le Nat _ s.heap.objs.size H2.objs.size; omega) (by k_ne) fun c o n e => hs₄.extBut c o n e
      refine wpAny_tests_nil ?_
      rw [if_pos rfl]
      refine wpAny_mono (helt i vs[i] _ H2.objs.size _ _ _ hv htx hn₄ (by simp) Z₄) (fun r s₅ ⟨⟨tk, hr⟩, Z₅⟩ => ?_) fun _ _ e => e
      subst hr
      have hD₅ : s₅.heap.get? H1.objs.size = some (PySem.W.listOf ys n) := Z₅.keep _ _ (hs₄.extBut _ _ (by show H1.objs.size ≠ H2.objs.size; k_ne) (hs₃.extBut _ _ (by k_ne) hD')) (by k_ne)
      have hys : ys.size ≤ sizeLine := by
        have e1 := strs_len9 hS
        have e2 : (ts.take i).length ≤ i := by rw [List.length_take]; omega
        rw [sizeLine_eq]
        have e3 : ys.toList.length = ys.size := by simp
        omega
      refine append_at (hsz := hys) hD₅ fun h₆ hs₆ ho₆ => ?_
      refine ⟨vs.size + 1 - (i + 1), by omega, (fun z => if z = x then some vs[i] else m' z), ys.push _, n + 1, i + 1, ?_, ho₆, ?_, ?_, hlt, rfl, ?_⟩
      · have a : s₅.heap.IsListIter s.heap.objs.size ax (i + 1) := by
          obtain ⟨o, ho, r⟩ := hit₃
          exact ⟨o, Z₅.keep _ _ (hs₄.extBut _ _ (by show s.heap.objs.size ≠ H2.objs.size; k_ne) ho) (by k_ne), r⟩
        exact a.extBut hs₆.extBut (by k_ne)
      · have a : s₅.heap.Ns H2.objs.size (fun z => if z = x then some vs[i] else m' z) := by
          obtain ⟨o, es, ep, ho, r⟩ := hn₄
          exact ⟨o, es, ep, Z₅.keep _ _ ho (by k_ne), r⟩
        exact a.sameBut hs₆ (by k_ne)
      · rw [Array.toList_push, List.take_add_one, htx]
        exact hS.append' (.cons _ _ .nil)
      · exact (Z₄.trans Z₅).step (h' := h₆) (tk := s₅.toks) (b := H1.objs.size) (by show @LE.le Nat _ s.heap.objs.size H1.objs.size; omega) (by k_ne) fun c o n e => hs₆.extBut c o n e
    · have hin : i = vs.size := by omega
      subst hin
      refine wpAny_pyNext_list_end hh hI' hl' (by simp) fun h₃ he₃ => ?_
      have hS' : StrsAre ys.toList ts := by rw [hlen, List.take_length] at hS; exact hS
      have a := Z.step (h' := h₃) (tk := s'.toks) (b := s.heap.objs.size) (Nat.le_refl _) (by k_ne) fun c o n e => he₃ c o n e
      exact finish { s' with heap := h₃ } m' ys n (hC'.extBut he₃ (by k_ne)) (he₃ _ _ (by k_ne) hD') hS' a
  refine codeAny_compStart_list (loop _ rfl) (wpAny_pyIter_listiter hI (loop _ rfl))
end
end Mine
end

/- array_out of a text, of None -/
section
open PySem PySem.W PySem.Calls PyProof.Rows
set_option maxRecDepth 100000
set_option maxHeartbeats 1000000
namespace Mine

theorem out_str {w : World} {mg mb : PySem.Str → Option Value} {A : Around} {s : Shared} {l : List Nat} {t : Tok} {R : Result → Shared → Prop} (G : Gd w mg mb s.heap) (hA : HasA s.heap) (hg : AllBare s.gens) (hr : A.depth + 2 < recursionLimit) (hh : A.handled = none) (hv : l.length ≤ 1048576)
    (hR : ∀ s' t', LaterA s s' → R (.ok (.ret (.str (textOf (told sp l)) t'))) s') : (hd.heap_39 w.params).In s.heap → codeAny (model PySem.Challenge.rw_em5012_01.row.prog w) A (.call (.ref 745) ⟨[.str (textOf l) t], []⟩) R s := by
  k_fill
  intro X
  obtain ⟨p, lo, T⟩ := G.T
  refine' enter_plain [tabA] (binds := [(PySem.Str.ofString "val", .str (textOf l) t)]) X T.nolimit ?k6 ?k7 (by omega) ?k9 ?kB ?_ ?c5 ?c2 ?c3 ?c4
  case k6 => k_is
  case k7 => k_is
  case k9 => exact BindsTo.of_eq rfl
  case kB => exact locs rfl
  case c5 => decide
  case c2 => exact rfl
  case c3 => exact rfl
  case c4 => exact rfl
  intro h₁ F st
  obtain ⟨p1, e1, t1⟩ := hA
  have N := hid_news (.head _) e1 F st .nil
  have G' := Gd.hide fewA (fun _ => ⟨p1, e1⟩) (fun h => absurd (List.mem_singleton.mp h) (by decide)) G
  have Xg := G'.X
  obtain ⟨pg, lg, Tg⟩ := G'.T
  clear X T G
  generalize hgb : hideAll s.heap [tabA] = g at F N Xg Tg G'
  k_steps
  rename Fr _ _ _ _ => F9
  rename News _ _ _ _ => N9
  refine wpAny_call (esc_code (G'.fr F9) ⟨p1, (N9 _ (.tail _ (.head _))).1, t1⟩ hg (by show A.depth + 1 + 1 < recursionLimit; omega) hh hv (fun s' t' Z => ?_) (G'.fr F9).X)
  have Z' := laterA_via hgb Z F9 rfl
  k_steps
  exact hR _ _ Z'

theorem out_none {w : World} {mg mb : PySem.Str → Option Value} {A : Around} {s : Shared} {R : Result → Shared → Prop} (G : Gd w mg mb s.heap) (hA : HasA s.heap) (hg : AllBare s.gens) (hr : A.depth + 2 < recursionLimit)
    (hR : ∀ s' t', LaterA s s' → R (.ok (.ret (.str (textOf nullW) t'))) s') : (hd.heap_39 w.params).In s.heap → codeAny (model PySem.Challenge.rw_em5012_01.row.prog w) A (.call (.ref 745) ⟨[.none], []⟩) R s := by
  k_fill
  intro X
  obtain ⟨p, lo, T⟩ := G.T
  refine' enter_plain [tabA] (binds := [(PySem.Str.ofString "val", .none)]) X T.nolimit ?k6 ?k7 (by omega) ?k9 ?kB ?_ ?c5 ?c2 ?c3 ?c4
  case k6 => k_is
  case k7 => k_is
  case k9 => exact BindsTo.of_eq rfl
  case kB => exact locs rfl
  case c5 => decide
  case c2 => exact rfl
  case c3 => exact rfl
  case c4 => exact rfl
  intro h₁ F st
  obtain ⟨p1, e1, t1⟩ := hA
  have N := hid_news (.head _) e1 F st .nil
  have G' := Gd.hide fewA (fun _ => ⟨p1, e1⟩) (fun h => absurd (List.mem_singleton.mp h) (by decide)) G
  have Xg := G'.X
  obtain ⟨pg, lg, Tg⟩ := G'.T
  clear X T G
  generalize hgb : hideAll s.heap [tabA] = g at F N Xg Tg G'
  k_steps
  all_goals try dsimp only
  have e : PySem.Str.ofString "NULL" = textOf nullW := by decide +kernel
  rw [e]
  exact hR _ _ (laterA_end hgb F N (.head _) t1 hg rfl)
end Mine
end

/- array_out of a list -/
section
open PySem PySem.W PySem.Calls PyProof.Rows
set_option maxRecDepth 100000
set_option maxHeartbeats 1000000
namespace Mine

/-- a value that array_out tells as a text -/
def Told1 (v : Value) (tx : PySem.Str) : Prop := (∃ (l : List Nat) (t : Tok), v = .str (textOf l) t ∧ l.length ≤ 1048576 ∧ tx = textOf (told sp l)) ∨ (v = .none ∧ tx = textOf nullW)

theorem out_one {w : World} {mg mb : PySem.Str → Option Value} {A : Around} {s : Shared} {v : Value} {tx : PySem.Str} {R : Result → Shared → Prop} (hT : Told1 v tx) (G : Gd w mg mb s.heap) (hA : HasA s.heap) (hg : AllBare s.gens) (hr : A.depth + 2 < recursionLimit) (hh : A.handled = none)
    (hR : ∀ s' t', LaterA s s' → R (.ok (.ret (.str tx t'))) s') : codeAny (model PySem.Challenge.rw_em5012_01.row.prog w) A (.call (.ref 745) ⟨[v], []⟩) R s := by
  rcases hT with ⟨l, t, rfl, hl, rfl⟩ | ⟨rfl, rfl⟩
  · exact out_str G hA hg hr hh hl hR G.X
  · exact out_none G hA hg hr hR G.X

theorem elt_out {w : World} {mg mb : PySem.Str → Option Value} {A : Around} {E : Value → Shared → Prop} {s : Shared} {env : Env} {v : Value} {tx : PySem.Str} {p1 p2 p3 : Pos} {m : PySem.Str → Option Value} {Q : Value → Shared → Prop} (hT : Told1 v tx) (G : Gd w mg mb s.heap) (hA : HasA s.heap) (hg : AllBare s.gens)
    (hr : A.depth + 2 < recursionLimit) (hh : A.handled = none) (hge : env.globals = mainGlobals) (hk : env.scope.kind = .function) (ho : env.kindOf "array_out" = some .globalImplicit) (hv : env.kindOf "v" = some .local) (hn : s.heap.Ns env.locals m) (hm : m "v" = some v)
    (hQ : ∀ s' t', LaterA s s' → Q (.str tx t') s') :
    wpAny (model PySem.Challenge.rw_em5012_01.row.prog w) A (eval (.Call (.Name "array_out" p1) [.Name "v" p2] [] p3) env) Q E s := by
  obtain ⟨p, l, T⟩ := G.T
  refine Call_name1 rfl (Name_function_global hk ho (loadGlobal_global (env := env) (v := .ref 745) (by rw [hge]; exact T.g) (mg_of G.X T.g (by kernel_rfl)) ?_) (by decide))
  refine callWith_of rfl (keeps_K (K := hd.heap_39 w.params) (f := .ref 745) (by kernel_rfl)) (evalArgs_plain (spliced_cons (wpAny_Name (wpAny_loadName_local hk hv hn hm (spliced_nil ⟨G.X, ?_⟩)) (by decide))))
  exact wpAny_call (out_one hT G hA hg hr hh hQ)

section
local macro_rules | `(tactic| walk_at "exec Assign cons ListComp") => `(tactic| (refine Stop.mk ?_))
theorem out_list {w : World} {mg mb : PySem.Str → Option Value} {A : Around} {s : Shared} {ax : Addr} {vs : Array Value} {ts : List PySem.Str} {R : Result → Shared → Prop} (G : Gd w mg mb s.heap) (hA : HasA s.heap) (hg : AllBare s.gens) (hr : A.depth + 3 < recursionLimit) (hh : A.handled = none)
    (hl : s.heap.IsList ax vs) (hlen : vs.size = ts.length) (hsz : vs.size ≤ 1000) (hT : ∀ (i : Nat) (v : Value) (tx : PySem.Str), vs[i]? = some v → ts[i]? = some tx → Told1 v tx) (hfit : (ts.map (·.length)).sum + ts.length ≤ 4194304)
    (hR : ∀ s' t', LaterA s s' → R (.ok (.ret (.str (PySem.Str.ofString "{" ++ Txt.join (PySem.Str.ofString ",") ts ++ PySem.Str.ofString "}") t'))) s') : (hd.heap_39 w.params).In s.heap → codeAny (model PySem.Challenge.rw_em5012_01.row.prog w) A (.call (.ref 745) ⟨[.ref ax], []⟩) R s := by
  k_fill
  intro X
  obtain ⟨p, lo, T⟩ := G.T
  refine' enter_plain [tabA] (binds := [(PySem.Str.ofString "val", .ref ax)]) X T.nolimit ?k6 ?k7 (by omega) ?k9 ?kB ?_ ?c5 ?c2 ?c3 ?c4
  case k6 => k_is
  case k7 => k_is
  case k9 => exact BindsTo.of_eq rfl
  case kB => exact locs rfl
  case c5 => decide
  case c2 => exact rfl
  case c3 => exact rfl
  case c4 => exact rfl
  intro h₁ F st
  obtain ⟨p1, e1, t1⟩ := hA
  have N := hid_news (.head _) e1 F st .nil
  have G' := Gd.hide fewA (fun _ => ⟨p1, e1⟩) (fun h => absurd (List.mem_singleton.mp h) (by decide)) G
  have Xg := G'.X
  obtain ⟨pg, lg, Tg⟩ := G'.T
  have hl' : h₁.IsList ax vs := hl.at fun o e => st _ _ e
  clear X T G
  generalize hgb : hideAll s.heap [tabA] = g at F N Xg Tg G'
  k_steps
  refine IsiPair.isList_list hl' (fun _ _ e => e) ?_
  k_steps
  refine Stop.out ?_
  refine comp_later (ts := ts) (ax := ax) (vs := vs) (L := s.heap.objs.size) rfl rfl (by decide) rfl (by decide) rfl rfl rfl hh rfl (fun Q' hq => nameX_L F rfl hq) hl' hlen hsz F N t1 hg (fun p hp => nomatch hp) ?_ ?_
  · intro i v tx C s₃ m₃ E' h1 h2 hn hm Z
    have G3 := LaterA.gd Z (G'.fr F) ⟨p1, (N _ (.head _)).1, t1⟩
    refine elt_out (hT i v tx h1 h2) G3 Z.t1 Z.gens (by show A.depth + 1 + 2 < recursionLimit; omega) hh rfl rfl rfl rfl hn hm fun s' t' Z' => ⟨⟨t', rfl⟩, Z'⟩
  · intro D ys n p1' s' F5 N5 t5 g5 o5 hS
    dsimp only
    k_steps
    have e1 : (PySem.Str.ofString ",").length = 1 := by decide +kernel
    refine join_list (News.isList N5 (.head _)) hS (by rw [e1]; omega) ?_
    intro t' k
    have hjl : (Txt.join (PySem.Str.ofString ",") ts).length ≤ 4194304 := by
      have h1 := StrLaws.join_length_le (PySem.Str.ofString ",") ts
      have h2 : Txt.join (PySem.Str.ofString ",") ts = PySem.Str.join (PySem.Str.ofString ",") ts := StrLaws.glued_eq_join _ _
      rw [h2]
      rw [e1] at h1
      omega
    generalize Txt.join (PySem.Str.ofString ",") ts = jt at hjl hR
    k_steps
    dsimp only
    exact hR _ _ (laterA_end hgb F5 N5 (.tail _ (.head _)) t5 g5 o5)
end
end Mine
end

/- == of two members of an enum -/
section
open PySem PySem.W PySem.Calls PyProof.Rows Builtin
set_option maxRecDepth 100000
namespace Mine
section
variable {prog : Program} {w : World} {A : Around} {E : Value → Shared → Prop} {s : Shared} {K : Frag} {x y C : Addr}

theorem special_plain {name : PySem.Str} {id : String} {args : List Value} {Q : Option Value → Shared → Prop} (X : K.In s.heap) (tx : typeIn K (.ref x) = some (.ref C)) (hf : findIn K (.ref C) name = some (some (.builtin id))) (S : Slot "object" name id)
    (hcall : wpAny (model prog w) A (call (.builtin id) (.ref x :: args)) (fun v => Q (some v)) E s) : wpAny (model prog w) A (callSpecialIfBound? (.ref x) name args) Q E s := by
  simp only [callSpecialIfBound?, bindSpecialIfBound?]
  refine wpAny_holding (wpAny_bind (wpAny_bind (wpAny_bind ((looks_typeIn X tx).here ((looks_findIn X hf).here ?_)))))
  simp only [S.bind]
  refine wpAny_bind (wpAny_askSetting (wpAny_ite ?_))
  have fin : wpAny (model prog w) A (call (.builtin id) ([.ref x] ++ args) >>= fun v => pure (some v)) Q E s :=
    wpAny_bind (wpAny_mono hcall (fun v s' h' => wpAny_pure h') fun _ _ h' => h')
  split
  · exact wpAny_bind (wpAny_pure (wpAny_pure fin))
  · exact wpAny_tryCatch (wpAny_bind (wpAny_pure (wpAny_pure fin)))

theorem objEq_same {Q : Value → Shared → Prop} (X : K.In s.heap) (hi : instIn K (.ref x) (.type "object") = some true) (h : Q (.bool true) s) :
    wpAny (model prog w) A (call (.builtin "object.__eq__") [.ref x, .ref x]) Q E s :=
  wpAny_call (codeAny_call_builtin F.cmp_object.eq.plain F.cmpEntry_eq (check_slot F.cmpKind_eq F.cmpSplit_eq (looks_instIn X hi) (F.cmpArgs_eq _ _) (objEq_entry_same h)))
theorem objEq_other {ox oy : Obj} {Q : Value → Shared → Prop} (X : K.In s.heap) (hi : instIn K (.ref x) (.type "object") = some true) (hxy : x ≠ y) (hx : s.heap.get? x = some ox) (hy : s.heap.get? y = some oy) (hnt : ox.cls ≠ .type "tuple") (h : Q .notImplemented s) :
    wpAny (model prog w) A (call (.builtin "object.__eq__") [.ref x, .ref y]) Q E s :=
  wpAny_call (codeAny_call_builtin F.cmp_object.eq.plain F.cmpEntry_eq (check_slot F.cmpKind_eq F.cmpSplit_eq (looks_instIn X hi) (F.cmpArgs_eq _ _) (objEq_entry_other hxy hx hy hnt h)))

/-- == of two instances of a written class that has object's own __eq__ -/
theorem eq_plain {ox oy : Obj} {Q : Value → Shared → Prop} (X : K.In s.heap) (tx : typeIn K (.ref x) = some (.ref C)) (ty : typeIn K (.ref y) = some (.ref C)) (hf : findIn K (.ref C) "__eq__" = some (some (.builtin "object.__eq__")))
    (hix : instIn K (.ref x) (.type "object") = some true) (hiy : instIn K (.ref y) (.type "object") = some true) (hx : K.lookup x = some ox) (hy : K.lookup y = some oy) (hnx : ox.cls ≠ .type "tuple") (hny : oy.cls ≠ .type "tuple") (hu : A.units < cLine)
    (h : Q (.bool (decide (x = y))) s) : wpAny (model prog w) A (compareOp .Eq (.ref x) (.ref y)) Q E s := by
  refine cmp_ofEq ?_
  unfold richCompare
  simp only [oneThing_ref]
  refine wpAny_holding (wpAny_bind (wpAny_cRoomFor hu ?_))
  refine wpAny_bind ((looks_typeIn X tx).here (wpAny_bind ((looks_typeIn X ty).here ?_)))
  rw [if_neg (by simp)]
  refine wpAny_bind (wpAny_pure ?_)
  simp only [Bool.false_eq_true, if_false]
  by_cases hxy : x = y
  · subst hxy
    have one : wpAny (model prog w) A (tryCompare (.ref x) "__eq__" (.ref x)) (fun r s' => r = some (.bool true) ∧ s' = s) E s := by
      unfold tryCompare
      exact wpAny_bind (special_plain X tx hf F.cmp_object.eq (objEq_same X hix (wpAny_pure ⟨rfl, rfl⟩)))
    refine wpAny_bind (wpAny_mono one (fun r s' z => ?_) fun _ _ e => e)
    obtain ⟨rfl, rfl⟩ := z
    simp only [decide_true] at h
    exact wpAny_pure h
  · have one : wpAny (model prog w) A (tryCompare (.ref x) "__eq__" (.ref y)) (fun r s' => r = none ∧ s' = s) E s := by
      unfold tryCompare
      exact wpAny_bind (special_plain X tx hf F.cmp_object.eq (objEq_other X hix hxy (X _ _ hx) (X _ _ hy) hnx (wpAny_pure ⟨rfl, rfl⟩)))
    have two : wpAny (model prog w) A (tryCompare (.ref y) "__eq__" (.ref x)) (fun r s' => r = none ∧ s' = s) E s := by
      unfold tryCompare
      exact wpAny_bind (special_plain X ty hf F.cmp_object.eq (objEq_other X hiy (Ne.symm hxy) (X _ _ hy) (X _ _ hx) hny (wpAny_pure ⟨rfl, rfl⟩)))
    refine wpAny_bind (wpAny_mono one (fun r s' z => ?_) fun _ _ e => e)
    obtain ⟨rfl, rfl⟩ := z
    refine wpAny_bind (wpAny_mono two (fun r s' z => ?_) fun _ _ e => e)
    obtain ⟨rfl, rfl⟩ := z
    refine wpAny_bind (wpAny_rule ?_)
    refine wpAny_bind (wpAny_isSame_ref_other hxy (X _ _ hx) (X _ _ hy) hnx ?_)
    rw [decide_eq_false hxy] at h
    exact wpAny_pure h
theorem eq_plain_same {ox : Obj} {Q : Value → Shared → Prop} (X : K.In s.heap) (tx : typeIn K (.ref x) = some (.ref C)) (hf : findIn K (.ref C) "__eq__" = some (some (.builtin "object.__eq__")))
    (hix : instIn K (.ref x) (.type "object") = some true) (hx : K.lookup x = some ox) (hnx : ox.cls ≠ .type "tuple") (hu : A.units < cLine)
    (h : Q (.bool true) s) : wpAny (model prog w) A (compareOp .Eq (.ref x) (.ref x)) Q E s :=
  eq_plain X tx tx hf hix hix hx hx hnx hnx hu (by rw [decide_eq_true rfl]; exact h)
theorem eq_plain_other {ox oy : Obj} {Q : Value → Shared → Prop} (X : K.In s.heap) (hne : x ≠ y) (tx : typeIn K (.ref x) = some (.ref C)) (ty : typeIn K (.ref y) = some (.ref C)) (hf : findIn K (.ref C) "__eq__" = some (some (.builtin "object.__eq__")))
    (hix : instIn K (.ref x) (.type "object") = some true) (hiy : instIn K (.ref y) (.type "object") = some true) (hx : K.lookup x = some ox) (hy : K.lookup y = some oy) (hnx : ox.cls ≠ .type "tuple") (hny : oy.cls ≠ .type "tuple") (hu : A.units < cLine)
    (h : Q (.bool false) s) : wpAny (model prog w) A (compareOp .Eq (.ref x) (.ref y)) Q E s :=
  eq_plain X tx ty hf hix hiy hx hy hnx hny hu (by rw [decide_eq_false hne]; exact h)
end
end Mine
end

/- _parse_array -/
section
open PySem PySem.W PySem.Calls PyProof.Rows
set_option maxRecDepth 100000
set_option maxHeartbeats 4000000
namespace Mine

def modeA : Mode → Addr
  | .str => 682
  | .esc => 684
  | .val => 686
  | .out => 688

/-- what the reader's items are as values -/
inductive ValsAre : List Value → List (Option (List Nat)) → Prop
  | nil : ValsAre [] []
  | none {vs is} : ValsAre vs is → ValsAre (.none :: vs) (none :: is)
  | str {vs is} (w : List Nat) (t : Tok) : ValsAre vs is → ValsAre (.str (textOf w) t :: vs) (some w :: is)

/-- the ledger of a reader: its buffer, its stack -/
def led (kv ks k0 ka : Addr) (bv : Array Value) (nb : Nat) (iv : Array Value) (ni : Nat) (n0 ns : Nat) : Nat → List (Addr × Obj)
  | 0 => [(kv, PySem.W.listOf bv nb), (ks, PySem.W.listOf #[.ref k0] ns), (k0, PySem.W.listOf #[] n0)]
  | 1 => [(kv, PySem.W.listOf bv nb), (ks, PySem.W.listOf #[.ref k0, .ref ka] ns), (k0, PySem.W.listOf #[.ref ka] n0), (ka, PySem.W.listOf iv ni)]
  | _ => [(kv, PySem.W.listOf bv nb), (ks, PySem.W.listOf #[.ref k0] ns), (k0, PySem.W.listOf #[.ref ka] n0), (ka, PySem.W.listOf iv ni)]

theorem map_at4 {m : PySem.Str → Option Value} {x1 x2 x3 x4 : PySem.Str} {v1 v2 v3 v4 : Value} (h1 : m x1 = some v1) (h2 : m x2 = some v2) (h3 : m x3 = some v3) (h4 : m x4 = some v4) :
    ∃ u : PySem.Str → Option Value, m = fun y => if y = x1 then some v1 else if y = x2 then some v2 else if y = x3 then some v3 else if y = x4 then some v4 else u y :=
  ⟨m, by
    funext y
    by_cases q1 : y = x1
    · rw [if_pos q1, q1, h1]
    rw [if_neg q1]
    by_cases q2 : y = x2
    · rw [if_pos q2, q2, h2]
    rw [if_neg q2]
    by_cases q3 : y = x3
    · rw [if_pos q3, q3, h3]
    rw [if_neg q3]
    by_cases q4 : y = x4
    · rw [if_pos q4, q4, h4]
    rw [if_neg q4]⟩

theorem run_next {st fi : PS} {pre post : List Nat} {c : Nat} (h : run start pre = some st) (h2 : run start (pre ++ c :: post) = some fi) : ∃ st', step st c = some st' := by
  rw [run_append, h] at h2
  change ((step st c).bind fun s' => run s' post) = some fi at h2
  cases e : step st c with
  | none => rw [e] at h2; cases h2
  | some st' => exact ⟨st', rfl⟩
theorem run_snoc {st st' : PS} {pre : List Nat} {c : Nat} (h : run start pre = some st) (h2 : step st c = some st') : run start (pre ++ [c]) = some st' := by
  rw [run_append, h]
  change ((step st c).bind fun s' => run s' []) = some st'
  rw [h2]; rfl
/-- what a turn of the reader leaves -/
def Jm (ks k0 : Addr) (pre : List Nat) (m : PySem.Str → Option Value) (nx : List (Addr × Obj)) : Prop :=
  ∃ (st : PS) (kv ka : Addr) (bv : Array Value) (nb : Nat) (iv : Array Value) (ni n0 ns : Nat), run start pre = some st ∧ (m (PySem.Str.ofString "state") = some (.ref (modeA st.mode)) ∧ m (PySem.Str.ofString "stack") = some (.ref ks) ∧ m (PySem.Str.ofString "val") = some (.ref kv) ∧ m (PySem.Str.ofString "adapter") = some (.ref 63)) ∧
      nx = led kv ks k0 ka bv nb iv ni n0 ns st.lvl ∧ StrsAre bv.toList (st.buf.map mk1) ∧ ValsAre iv.toList st.items ∧ bv.size ≤ pre.length ∧ iv.size ≤ pre.length ∧ (@Ne Nat kv ks ∧ @Ne Nat kv k0 ∧ @Ne Nat ks k0) ∧ (1 ≤ st.lvl → @Ne Nat ka kv ∧ @Ne Nat ka ks ∧ @Ne Nat ka k0) ∧
      (st.mode ≠ .out → st.lvl = 1) ∧ st.lvl ≤ 2 ∧ (st.lvl = 0 → st.items = [] ∧ iv = #[])
theorem led_ne {kv ks k0 ka I : Addr} {o1 o2 o3 o4 : Obj} (h1 : @Ne Nat kv I) (h2 : @Ne Nat ks I) (h3 : @Ne Nat k0 I) (h4 : @Ne Nat ka I) : ∀ p ∈ [(kv, o1), (ks, o2), (k0, o3), (ka, o4)], p.1 ≠ I := fun p hp => by
  simp only [List.mem_cons, List.not_mem_nil, or_false] at hp
  rcases hp with rfl | rfl | rfl | rfl
  · exact h1
  · exact h2
  · exact h3
  · exact h4
section
variable {g : Heap} {L : Addr} {h' : Heap} {m' : PySem.Str → Option Value} {l : List (Addr × Obj)} {ks k0 kv ka I : Addr} {io : Obj} {pre : List Nat} {c : Nat} {s₁ s₂ : Shared} {tk : Nat} {Q : Flow → Shared → Prop} {mode : Mode} {buf : List Nat} {its : List (Option (List Nat))}
  {bv iv : Array Value} {nb ni n0 ns : Nat}
theorem end1 (hrun : run start (pre ++ [c]) = some ⟨mode, 1, buf, its⟩) (F : Fr g L h' m') (N : News g L h' l) (e : s₂ = { s₁ with heap := h', toks := tk })
    (hm : m' (PySem.Str.ofString "state") = some (.ref (modeA mode)) ∧ m' (PySem.Str.ofString "stack") = some (.ref ks) ∧ m' (PySem.Str.ofString "val") = some (.ref kv) ∧ m' (PySem.Str.ofString "adapter") = some (.ref 63))
    (m0 : (I, io) ∈ l) (m1 : (kv, PySem.W.listOf bv nb) ∈ l) (m2 : (ks, PySem.W.listOf #[.ref k0, .ref ka] ns) ∈ l) (m3 : (k0, PySem.W.listOf #[.ref ka] n0) ∈ l) (m4 : (ka, PySem.W.listOf iv ni) ∈ l)
    (hbv : StrsAre bv.toList (buf.map mk1)) (hiv : ValsAre iv.toList its) (sbv : bv.size ≤ pre.length + 1) (siv : iv.size ≤ pre.length + 1) (d1 : @Ne Nat kv ks) (d2 : @Ne Nat kv k0) (d3 : @Ne Nat ks k0) (d4 : @Ne Nat ka kv) (d5 : @Ne Nat ka ks) (d6 : @Ne Nat ka k0)
    (i1 : @Ne Nat kv I) (i2 : @Ne Nat ks I) (i3 : @Ne Nat k0 I) (i4 : @Ne Nat ka I) : TurnEnd g L (Jm ks k0 (pre ++ [c])) (I, io) s₁ Q .next s₂ := by
  have el : (pre ++ [c]).length = pre.length + 1 := by simp
  refine ⟨h', tk, m', [(kv, PySem.W.listOf bv nb), (ks, PySem.W.listOf #[.ref k0, .ref ka] ns), (k0, PySem.W.listOf #[.ref ka] n0), (ka, PySem.W.listOf iv ni)], e, F, fun p hp => N p ?_, led_ne i1 i2 i3 i4, ⟨mode, 1, buf, its⟩, kv, ka, bv, nb, iv, ni, n0, ns, hrun, hm, rfl, hbv, hiv, el ▸ sbv, el ▸ siv, ⟨d1, d2, d3⟩, fun _ => ⟨d4, d5, d6⟩, fun _ => rfl, show 1 ≤ 2 by decide, fun q => absurd (show 1 = 0 from q) (by decide)⟩
  simp only [List.mem_cons, List.not_mem_nil, or_false] at hp
  rcases hp with rfl | rfl | rfl | rfl | rfl <;> assumption
theorem end2 (hrun : run start (pre ++ [c]) = some ⟨.out, 2, buf, its⟩) (F : Fr g L h' m') (N : News g L h' l) (e : s₂ = { s₁ with heap := h', toks := tk })
    (hm : m' (PySem.Str.ofString "state") = some (.ref 688) ∧ m' (PySem.Str.ofString "stack") = some (.ref ks) ∧ m' (PySem.Str.ofString "val") = some (.ref kv) ∧ m' (PySem.Str.ofString "adapter") = some (.ref 63))
    (m0 : (I, io) ∈ l) (m1 : (kv, PySem.W.listOf bv nb) ∈ l) (m2 : (ks, PySem.W.listOf #[.ref k0] ns) ∈ l) (m3 : (k0, PySem.W.listOf #[.ref ka] n0) ∈ l) (m4 : (ka, PySem.W.listOf iv ni) ∈ l)
    (hbv : StrsAre bv.toList (buf.map mk1)) (hiv : ValsAre iv.toList its) (sbv : bv.size ≤ pre.length + 1) (siv : iv.size ≤ pre.length + 1) (d1 : @Ne Nat kv ks) (d2 : @Ne Nat kv k0) (d3 : @Ne Nat ks k0) (d4 : @Ne Nat ka kv) (d5 : @Ne Nat ka ks) (d6 : @Ne Nat ka k0)
    (i1 : @Ne Nat kv I) (i2 : @Ne Nat ks I) (i3 : @Ne Nat k0 I) (i4 : @Ne Nat ka I) : TurnEnd g L (Jm ks k0 (pre ++ [c])) (I, io) s₁ Q .next s₂ := by
  have el : (pre ++ [c]).length = pre.length + 1 := by simp
  refine ⟨h', tk, m', [(kv, PySem.W.listOf bv nb), (ks, PySem.W.listOf #[.ref k0] ns), (k0, PySem.W.listOf #[.ref ka] n0), (ka, PySem.W.listOf iv ni)], e, F, fun p hp => N p ?_, led_ne i1 i2 i3 i4, ⟨.out, 2, buf, its⟩, kv, ka, bv, nb, iv, ni, n0, ns, hrun, hm, rfl, hbv, hiv, el ▸ sbv, el ▸ siv, ⟨d1, d2, d3⟩, fun _ => ⟨d4, d5, d6⟩, fun q => absurd rfl q, show 2 ≤ 2 by decide, fun q => absurd (show 2 = 0 from q) (by decide)⟩
  simp only [List.mem_cons, List.not_mem_nil, or_false] at hp
  rcases hp with rfl | rfl | rfl | rfl | rfl <;> assumption
end
theorem any_two {c : Nat} (h : ([PySem.Str.ofString "}", PySem.Str.ofString ","].any fun x => x == PySem.Str.mk #[c]) = true) : c = 125 ∨ c = 44 := by
  have e1 : PySem.Str.ofString "}" = ⟨#[125]⟩ := by decide +kernel
  have e2 : PySem.Str.ofString "," = ⟨#[44]⟩ := by decide +kernel
  rw [e1, e2, List.any_eq_true] at h
  obtain ⟨x, hx, he⟩ := h
  have he := eq_of_beq he
  simp only [List.mem_cons, List.not_mem_nil, or_false] at hx
  rcases hx with rfl | rfl
  · injection he with q; simp at q; exact .inl q.symm
  · injection he with q; simp at q; exact .inr q.symm
theorem item_none {b : List Nat} (h : (textOf b == PySem.Str.ofString "NULL") = true) : itemOf b = none := by
  have e : PySem.Str.ofString "NULL" = textOf nullW := by decide +kernel
  rw [e] at h
  have := eq_of_beq h
  injection this with h1
  have : b = nullW := by simpa using h1
  unfold itemOf; rw [if_pos this]
theorem item_some {b : List Nat} (h : (textOf b == PySem.Str.ofString "NULL") = false) : itemOf b = some b := by
  have e : PySem.Str.ofString "NULL" = textOf nullW := by decide +kernel
  unfold itemOf
  rw [if_neg]
  rintro rfl
  rw [e] at h
  simp at h
theorem news_stays {g h h' : Heap} {L : Addr} {news : List (Addr × Obj)} (st : h.StaysIn h') (N : News g L h news) : News g L h' news := fun p hp => ⟨st _ _ (N p hp).1, (N p hp).2⟩
theorem vals_str {a : Array Value} {its : List (Option (List Nat))} {b : List Nat} {t : Tok} : ValsAre a.toList its → ValsAre (a.push (.str (textOf b) t)).toList (its ++ [some b]) := by
  rw [Array.toList_push]
  generalize a.toList = l
  intro h
  induction h with
  | nil => exact .str _ _ .nil
  | none _ ih => exact .none ih
  | str w t _ ih => exact .str w t ih
theorem vals_none {a : Array Value} {its : List (Option (List Nat))} : ValsAre a.toList its → ValsAre (a.push .none).toList (its ++ [none]) := by
  rw [Array.toList_push]
  generalize a.toList = l
  intro h
  induction h with
  | nil => exact .none .nil
  | none _ ih => exact .none ih
  | str w t _ ih => exact .str w t ih

section
local macro_rules | `(tactic| walk_at "call builtin:list.append") => `(tactic| (k_dflt (refine' append_K ?k1 ?k2 ?k3 ?_ ?z; (case k1 => k_asm); (case k2 => k_asm); (case k3 => k_upd); (case z => (simp only [Array.size_push, PySem.sizeLine_eq]; omega)); k_whole); intro h' F' N'; (try k_sweep)))
local macro_rules | `(tactic| walk_at "compareOp Eq ref") => `(tactic| (k_dflt (first
  | (refine' eq_plain_same ?X ?tx ?hf ?hix ?hx ?hnx ?hu ?_; (case X => k_in); (case tx => k_is); (case hf => k_is); (case hix => k_is); (case hx => k_is); (case hnx => (intro e; cases e)); (case hu => (simp only [Around.deeper_units, Around.in1_units]; omega)))
  | (refine' eq_plain_other ?X ?hne ?tx ?ty ?hf ?hix ?hiy ?hx ?hy ?hnx ?hny ?hu ?_; (case hne => decide); (case X => k_in); (case tx => k_is); (case ty => k_is); (case hf => k_is); (case hix => k_is); (case hiy => k_is); (case hx => k_is); (case hy => k_is); (case hnx => (intro e; cases e)); (case hny => (intro e; cases e)); (case hu => (simp only [Around.deeper_units, Around.in1_units]; omega))))))
theorem parse_code {w : World} {mg mb : PySem.Str → Option Value} {A : Around} {s : Shared} {d : List Nat} {t : Tok} {bf : List Nat} {items : List (Option (List Nat))} {R : Result → Shared → Prop} (G : Gd w mg mb s.heap) (hr : A.depth + 2 < recursionLimit) (hu : A.units + 100 < cLine) (hh : A.handled = none) (hdl : d.length ≤ 1048576)
    (hrun : run start d = some ⟨.out, 2, bf, items⟩)
    (hR : ∀ h' tk ka iv ni, s.heap.StaysIn h' → s.heap.get? ka = none → h'.get? ka = some (PySem.W.listOf iv ni) → ValsAre iv.toList items → R (.ok (.ret (.ref ka))) { s with heap := h', toks := tk }) : (hd.heap_39 w.params).In s.heap → codeAny (model PySem.Challenge.rw_em5012_01.row.prog w) A (.call (.ref 719) ⟨[.str (textOf d) t, .ref 63], []⟩) R s := by
  k_fill
  intro X
  obtain ⟨p, lo, T⟩ := G.T
  refine' enter_plain [] (binds := [(PySem.Str.ofString "data", .str (textOf d) t), (PySem.Str.ofString "adapter", .ref 63)]) X T.nolimit ?k6 ?k7 (by omega) ?k9 ?kB ?_ ?c5 ?c2 ?c3 ?c4
  case k6 => k_is
  case k7 => k_is
  case k9 => exact BindsTo.of_eq rfl
  case kB => exact locs rfl
  case c5 => decide
  case c2 => exact rfl
  case c3 => exact rfl
  case c4 => exact rfl
  intro h₁ F st
  have N : News (hideAll s.heap []) s.heap.objs.size h₁ [] := .nil
  have Xg : (hd.heap_39 w.params).In (hideAll s.heap []) := X
  have Tg := T
  change TopRead p lo mg mb (hideAll s.heap []) at Tg
  generalize hgb : hideAll s.heap [] = g at F N Xg Tg
  clear X T 
  k_steps
  rename_i k0 hz0 lz0 ks hz1 lz1 hz2 kv0 hz3 lz2 hz4 F3 N3
  refine For_invV g rfl rfl (nameX_L F3 rfl ?_)
  refine iter_text (Jm ks k0) hh F3 N3
    ⟨start, kv0, 0, #[], 0, #[], 0, 0, 0, rfl, ⟨rfl, rfl, rfl, rfl⟩, rfl, .nil, .nil, Nat.le_refl _, Nat.le_refl _, ⟨by omega, by omega, by omega⟩, fun h => absurd h (by decide), fun h => absurd rfl h, by decide, fun _ => ⟨rfl, rfl⟩⟩ ?_ ?_
  · rintro pre c post tc m₁ news₁ h tk5 I io hpre ⟨st, kv, ka, bv, nb, iv, ni, n0, ns, hst, ⟨m1, m2, m3, m4⟩, rfl, hbv, hiv, sbv, siv, ⟨d1, d2, d3⟩, dka, hmode, hlvl, hl0⟩ hne F5 N5
    obtain ⟨u, rfl⟩ := map_at4 m1 m2 m3 m4
    clear F3 N3 m1 m2 m3 m4
    have hpl : pre.length + 1 ≤ 1048576 := by
      have e : (textOf d).cps.toList = d := rfl
      rw [e] at hpre
      rw [hpre] at hdl
      simp at hdl
      omega
    obtain ⟨st', hst'⟩ := run_next hst (show run start (pre ++ c :: post) = some _ by rw [← hpre]; exact hrun)
    have hrun' := run_snoc hst hst'
    obtain ⟨mode, lvl, buf, its⟩ := st
    have hl3 : lvl = 1 ∨ lvl = 0 ∨ lvl = 2 := by have h : lvl ≤ 2 := hlvl; omega
    cases mode with
    | out =>
      rcases hl3 with rfl | rfl | rfl
      ·
        replace F5 : Fr g s.heap.objs.size h (fun y => if y = PySem.Str.ofString "c" then some (.str ⟨#[c]⟩ tc) else if y = PySem.Str.ofString "state" then some (.ref 688) else if y = PySem.Str.ofString "stack" then some (.ref ks) else if y = PySem.Str.ofString "val" then some (.ref kv) else if y = PySem.Str.ofString "adapter" then some (.ref 63) else u y) := F5
        replace N5 : News g s.heap.objs.size h [(I, io), (kv, PySem.W.listOf bv nb), (ks, PySem.W.listOf #[.ref k0, .ref ka] ns), (k0, PySem.W.listOf #[.ref ka] n0), (ka, PySem.W.listOf iv ni)] := N5
        replace hbv : StrsAre bv.toList (buf.map mk1) := hbv
        replace hiv : ValsAre iv.toList its := hiv
        obtain ⟨d4, d5, d6⟩ := dka (Nat.le_refl _)
        have i1 : @Ne Nat kv I := hne _ (.head _)
        have i2 : @Ne Nat ks I := hne _ (.tail _ (.head _))
        have i3 : @Ne Nat k0 I := hne _ (.tail _ (.tail _ (.head _)))
        have i4 : @Ne Nat ka I := hne _ (.tail _ (.tail _ (.tail _ (.head _))))
        clear dka hmode hlvl hl0 hst
        clear hne
        k_steps
        · have hc := one_eq (d := 123) (x := PySem.Str.ofString "{") (by assumption) (by decide +kernel)
          subst hc
          simp [step, outStep] at hst'
        · rename Fr _ _ _ _ => F6
          rename News _ _ _ _ => N6
          have hc := one_eq (d := 125) (x := PySem.Str.ofString "}") (by assumption) (by decide +kernel)
          subst hc
          simp [step, outStep] at hst'
          subst hst'
          exact end2 hrun' F6 N6 rfl ⟨rfl, rfl, rfl, rfl⟩ (.head _) (.tail _ (.head _)) (.tail _ (.tail _ (.head _))) (.tail _ (.tail _ (.tail _ (.head _)))) (.tail _ (.tail _ (.tail _ (.tail _ (.head _))))) hbv hiv (Nat.le_succ_of_le sbv) (Nat.le_succ_of_le siv) d1 d2 d3 d4 d5 d6 i1 i2 i3 i4
        · rename Fr _ _ _ _ => F6
          rename News _ _ _ _ => N6
          have hc := one_eq (d := 44) (x := PySem.Str.ofString ",") (by assumption) (by decide +kernel)
          subst hc
          simp [step, outStep] at hst'
          subst hst'
          exact end1 hrun' F6 N6 rfl ⟨rfl, rfl, rfl, rfl⟩ (.head _) (.tail _ (.head _)) (.tail _ (.tail _ (.head _))) (.tail _ (.tail _ (.tail _ (.head _)))) (.tail _ (.tail _ (.tail _ (.tail _ (.head _))))) hbv hiv (Nat.le_succ_of_le sbv) (Nat.le_succ_of_le siv) d1 d2 d3 d4 d5 d6 i1 i2 i3 i4
        · rename Fr _ _ _ _ => F6
          rename News _ _ _ _ => N6
          rename And _ _ => lz
          have hc := one_eq (d := 34) (x := PySem.Str.ofString "\"") (by assumption) (by decide +kernel)
          subst hc
          simp [step, outStep] at hst'
          subst hst'
          exact end1 hrun' F6 N6 rfl ⟨rfl, rfl, rfl, rfl⟩ (.tail _ (.head _)) (.head _) (.tail _ (.tail _ (.tail _ (.head _)))) (.tail _ (.tail _ (.tail _ (.tail _ (.head _))))) (.tail _ (.tail _ (.tail _ (.tail _ (.tail _ (.head _)))))) .nil hiv (Nat.zero_le _) (Nat.le_succ_of_le siv) (Nat.ne_of_gt lz.2.2.1) (Nat.ne_of_gt lz.2.2.2.1) d3 (Nat.ne_of_lt lz.2.2.2.2) d5 d6 (Nat.ne_of_gt lz.1) i2 i3 i4
        · rename Fr _ _ _ _ => F6
          rename News _ _ _ _ => N6
          rename And _ _ => lz
          have n123 := one_ne (d := 123) (x := PySem.Str.ofString "{") (by assumption) (by decide +kernel)
          have n125 := one_ne (d := 125) (x := PySem.Str.ofString "}") (by assumption) (by decide +kernel)
          have n44 := one_ne (d := 44) (x := PySem.Str.ofString ",") (by assumption) (by decide +kernel)
          have n34 := one_ne (d := 34) (x := PySem.Str.ofString "\"") (by assumption) (by decide +kernel)
          simp [step, outStep, n123, n125, n44, n34] at hst'
          subst hst'
          exact end1 hrun' F6 N6 rfl ⟨rfl, rfl, rfl, rfl⟩ (.tail _ (.head _)) (.head _) (.tail _ (.tail _ (.tail _ (.head _)))) (.tail _ (.tail _ (.tail _ (.tail _ (.head _))))) (.tail _ (.tail _ (.tail _ (.tail _ (.tail _ (.head _)))))) (.cons _ _ .nil) hiv (Nat.succ_le_succ (Nat.zero_le _)) (Nat.le_succ_of_le siv) (Nat.ne_of_gt lz.2.2.1) (Nat.ne_of_gt lz.2.2.2.1) d3 (Nat.ne_of_lt lz.2.2.2.2) d5 d6 (Nat.ne_of_gt lz.1) i2 i3 i4
      ·
        replace F5 : Fr g s.heap.objs.size h (fun y => if y = PySem.Str.ofString "c" then some (.str ⟨#[c]⟩ tc) else if y = PySem.Str.ofString "state" then some (.ref 688) else if y = PySem.Str.ofString "stack" then some (.ref ks) else if y = PySem.Str.ofString "val" then some (.ref kv) else if y = PySem.Str.ofString "adapter" then some (.ref 63) else u y) := F5
        replace N5 : News g s.heap.objs.size h [(I, io), (kv, PySem.W.listOf bv nb), (ks, PySem.W.listOf #[.ref k0] ns), (k0, PySem.W.listOf #[] n0)] := N5
        replace hbv : StrsAre bv.toList (buf.map mk1) := hbv
        replace hiv : ValsAre iv.toList its := hiv
        have i1 : @Ne Nat kv I := hne _ (.head _)
        have i2 : @Ne Nat ks I := hne _ (.tail _ (.head _))
        have i3 : @Ne Nat k0 I := hne _ (.tail _ (.tail _ (.head _)))
        clear hne
        have hc : c = 123 := by
          by_cases h : c = 123
          · exact h
          · simp [step, outStep, h] at hst'
        subst hc
        obtain ⟨hz1, hz2⟩ := hl0 rfl
        dsimp only at hz1
        subst hz1
        subst hz2
        clear dka hmode hlvl hl0 hst
        k_steps
        rename Fr _ _ _ _ => F6
        rename News _ _ _ _ => N6
        rename And _ _ => lz
        simp [step, outStep] at hst'
        subst hst'
        exact end1 hrun' F6 N6 rfl ⟨rfl, rfl, rfl, rfl⟩ (.tail _ (.head _)) (.tail _ (.tail _ (.head _))) (.tail _ (.tail _ (.tail _ (.head _)))) (.tail _ (.tail _ (.tail _ (.tail _ (.head _))))) (.head _) hbv .nil (Nat.le_succ_of_le sbv) (Nat.zero_le _) d1 d2 d3 (Nat.ne_of_gt lz.2.1) (Nat.ne_of_gt lz.2.2.1) (Nat.ne_of_gt lz.2.2.2) i1 i2 i3 (Nat.ne_of_gt lz.1)
      · simp [step, outStep] at hst'
    | str =>
      have hl1 : lvl = 1 := hmode (by intro q; cases q)
      subst hl1
      replace F5 : Fr g s.heap.objs.size h (fun y => if y = PySem.Str.ofString "c" then some (.str ⟨#[c]⟩ tc) else if y = PySem.Str.ofString "state" then some (.ref 682) else if y = PySem.Str.ofString "stack" then some (.ref ks) else if y = PySem.Str.ofString "val" then some (.ref kv) else if y = PySem.Str.ofString "adapter" then some (.ref 63) else u y) := F5
      replace N5 : News g s.heap.objs.size h [(I, io), (kv, PySem.W.listOf bv nb), (ks, PySem.W.listOf #[.ref k0, .ref ka] ns), (k0, PySem.W.listOf #[.ref ka] n0), (ka, PySem.W.listOf iv ni)] := N5
      replace hbv : StrsAre bv.toList (buf.map mk1) := hbv
      replace hiv : ValsAre iv.toList its := hiv
      obtain ⟨d4, d5, d6⟩ := dka (Nat.le_refl _)
      have i1 : @Ne Nat kv I := hne _ (.head _)
      have i2 : @Ne Nat ks I := hne _ (.tail _ (.head _))
      have i3 : @Ne Nat k0 I := hne _ (.tail _ (.tail _ (.head _)))
      have i4 : @Ne Nat ka I := hne _ (.tail _ (.tail _ (.tail _ (.head _))))
      clear dka hmode hlvl hl0 hst
      clear hne
      have hbl : buf.length ≤ 2097152 := by
        have h1 := strs_len hbv
        simp only [Array.length_toList, List.length_map] at h1
        omega
      k_steps
      · refine join_list (News.isList N5 (.tail _ (.head _))) hbv (ones_fit hbl) ?_
        intro tj kj
        rw [join_ones]
        have hjl : (textOf buf).length ≤ 2097152 := by rw [textOf_length]; exact hbl
        generalize hval : textOf buf = val at hjl
        k_steps
        refine wpAny_call (string_in_code (Tg.keeps F5.keep).nolimit (show A.depth + 1 < recursionLimit by omega) (fun h2 tk2 st2 => ?_) (Xg.keeps F5.keep))
        have F7 := F5.keeps st2
        have N7 := news_stays st2 N5
        clear F5 N5
        k_steps
        rename Fr _ _ _ _ => F6
        rename News _ _ _ _ => N6
        subst hval
        have hc := one_eq (d := 34) (x := PySem.Str.ofString "\"") (by assumption) (by decide +kernel)
        subst hc
        simp [step] at hst'
        subst hst'
        exact end1 hrun' F6 N6 rfl ⟨rfl, rfl, rfl, rfl⟩ (.head _) (.tail _ (.head _)) (.tail _ (.tail _ (.head _))) (.tail _ (.tail _ (.tail _ (.head _)))) (.tail _ (.tail _ (.tail _ (.tail _ (.head _))))) hbv (vals_str hiv) (Nat.le_succ_of_le sbv) (by rw [Array.size_push]; omega) d1 d2 d3 d4 d5 d6 i1 i2 i3 i4
      · rename Fr _ _ _ _ => F6
        rename News _ _ _ _ => N6
        have hc := one_eq (d := 92) (x := PySem.Str.ofString "\\") (by assumption) (by decide +kernel)
        subst hc
        simp [step, outStep] at hst'
        subst hst'
        exact end1 hrun' F6 N6 rfl ⟨rfl, rfl, rfl, rfl⟩ (.head _) (.tail _ (.head _)) (.tail _ (.tail _ (.head _))) (.tail _ (.tail _ (.tail _ (.head _)))) (.tail _ (.tail _ (.tail _ (.tail _ (.head _))))) hbv hiv (Nat.le_succ_of_le sbv) (Nat.le_succ_of_le siv) d1 d2 d3 d4 d5 d6 i1 i2 i3 i4
      · rename Fr _ _ _ _ => F6
        rename News _ _ _ _ => N6
        have n34 := one_ne (d := 34) (x := PySem.Str.ofString "\"") (by assumption) (by decide +kernel)
        have n92 := one_ne (d := 92) (x := PySem.Str.ofString "\\") (by assumption) (by decide +kernel)
        simp [step, n34, n92] at hst'
        subst hst'
        exact end1 hrun' F6 N6 rfl ⟨rfl, rfl, rfl, rfl⟩ (.head _) (.tail _ (.head _)) (.tail _ (.tail _ (.head _))) (.tail _ (.tail _ (.tail _ (.head _)))) (.tail _ (.tail _ (.tail _ (.tail _ (.head _))))) (by rw [List.map_append]; exact strs_push hbv) hiv (by rw [Array.size_push]; omega) (Nat.le_succ_of_le siv) d1 d2 d3 d4 d5 d6 i1 i2 i3 i4
    | esc =>
      have hl1 : lvl = 1 := hmode (by intro q; cases q)
      subst hl1
      replace F5 : Fr g s.heap.objs.size h (fun y => if y = PySem.Str.ofString "c" then some (.str ⟨#[c]⟩ tc) else if y = PySem.Str.ofString "state" then some (.ref 684) else if y = PySem.Str.ofString "stack" then some (.ref ks) else if y = PySem.Str.ofString "val" then some (.ref kv) else if y = PySem.Str.ofString "adapter" then some (.ref 63) else u y) := F5
      replace N5 : News g s.heap.objs.size h [(I, io), (kv, PySem.W.listOf bv nb), (ks, PySem.W.listOf #[.ref k0, .ref ka] ns), (k0, PySem.W.listOf #[.ref ka] n0), (ka, PySem.W.listOf iv ni)] := N5
      replace hbv : StrsAre bv.toList (buf.map mk1) := hbv
      replace hiv : ValsAre iv.toList its := hiv
      obtain ⟨d4, d5, d6⟩ := dka (Nat.le_refl _)
      have i1 : @Ne Nat kv I := hne _ (.head _)
      have i2 : @Ne Nat ks I := hne _ (.tail _ (.head _))
      have i3 : @Ne Nat k0 I := hne _ (.tail _ (.tail _ (.head _)))
      have i4 : @Ne Nat ka I := hne _ (.tail _ (.tail _ (.tail _ (.head _))))
      clear dka hmode hlvl hl0 hst
      clear hne
      k_steps
      rename Fr _ _ _ _ => F6
      rename News _ _ _ _ => N6
      simp [step] at hst'
      subst hst'
      exact end1 hrun' F6 N6 rfl ⟨rfl, rfl, rfl, rfl⟩ (.head _) (.tail _ (.head _)) (.tail _ (.tail _ (.head _))) (.tail _ (.tail _ (.tail _ (.head _)))) (.tail _ (.tail _ (.tail _ (.tail _ (.head _))))) (by rw [List.map_append]; exact strs_push hbv) hiv (by rw [Array.size_push]; omega) (Nat.le_succ_of_le siv) d1 d2 d3 d4 d5 d6 i1 i2 i3 i4
    | val =>
      have hl1 : lvl = 1 := hmode (by intro q; cases q)
      subst hl1
      replace F5 : Fr g s.heap.objs.size h (fun y => if y = PySem.Str.ofString "c" then some (.str ⟨#[c]⟩ tc) else if y = PySem.Str.ofString "state" then some (.ref 686) else if y = PySem.Str.ofString "stack" then some (.ref ks) else if y = PySem.Str.ofString "val" then some (.ref kv) else if y = PySem.Str.ofString "adapter" then some (.ref 63) else u y) := F5
      replace N5 : News g s.heap.objs.size h [(I, io), (kv, PySem.W.listOf bv nb), (ks, PySem.W.listOf #[.ref k0, .ref ka] ns), (k0, PySem.W.listOf #[.ref ka] n0), (ka, PySem.W.listOf iv ni)] := N5
      replace hbv : StrsAre bv.toList (buf.map mk1) := hbv
      replace hiv : ValsAre iv.toList its := hiv
      obtain ⟨d4, d5, d6⟩ := dka (Nat.le_refl _)
      have i1 : @Ne Nat kv I := hne _ (.head _)
      have i2 : @Ne Nat ks I := hne _ (.tail _ (.head _))
      have i3 : @Ne Nat k0 I := hne _ (.tail _ (.tail _ (.head _)))
      have i4 : @Ne Nat ka I := hne _ (.tail _ (.tail _ (.tail _ (.head _))))
      clear dka hmode hlvl hl0 hst
      clear hne
      have hbl : buf.length ≤ 2097152 := by
        have h1 := strs_len hbv
        simp only [Array.length_toList, List.length_map] at h1
        omega
      by_cases c1 : c = 125
      · subst c1
        k_steps
        rename Fr _ _ _ _ => F6
        rename News _ _ _ _ => N6
        refine join_list (News.isList N6 (.tail _ (.tail _ (.head _)))) hbv (ones_fit hbl) ?_
        intro tj kj
        rw [join_ones]
        have hjl : (textOf buf).length ≤ 2097152 := by rw [textOf_length]; exact hbl
        generalize hval : textOf buf = val at hjl
        k_steps
        · rename Fr _ _ _ _ => F8
          rename News _ _ _ _ => N8
          subst hval
          have hit := item_none (by assumption)
          simp [step, outStep] at hst'
          subst hst'
          exact end2 hrun' F8 N8 rfl ⟨rfl, rfl, rfl, rfl⟩ (.tail _ (.head _)) (.tail _ (.tail _ (.head _))) (.tail _ (.tail _ (.tail _ (.head _)))) (.tail _ (.tail _ (.tail _ (.tail _ (.head _))))) (.tail _ (.tail _ (.tail _ (.tail _ (.tail _ (.head _)))))) hbv (by rw [hit]; exact vals_none hiv) (Nat.le_succ_of_le sbv) (by rw [Array.size_push]; omega) d1 d2 d3 d4 d5 d6 i1 i2 i3 i4
        · rename Fr _ _ _ _ => F8
          rename News _ _ _ _ => N8
          refine wpAny_call (string_in_code (Tg.keeps F8.keep).nolimit (show A.depth + 1 < recursionLimit by omega) (fun h2 tk2 st2 => ?_) (Xg.keeps F8.keep))
          have F7 := F8.keeps st2
          have N7 := news_stays st2 N8
          clear F8 N8
          k_steps
          rename Fr _ _ _ _ => F9
          rename News _ _ _ _ => N9
          subst hval
          have hit := item_some (by assumption)
          simp [step, outStep] at hst'
          subst hst'
          exact end2 hrun' F9 N9 rfl ⟨rfl, rfl, rfl, rfl⟩ (.tail _ (.head _)) (.tail _ (.tail _ (.head _))) (.tail _ (.tail _ (.tail _ (.head _)))) (.tail _ (.tail _ (.tail _ (.tail _ (.head _))))) (.tail _ (.tail _ (.tail _ (.tail _ (.tail _ (.head _)))))) hbv (by rw [hit]; exact vals_str hiv) (Nat.le_succ_of_le sbv) (by rw [Array.size_push]; omega) d1 d2 d3 d4 d5 d6 i1 i2 i3 i4
      · by_cases c2 : c = 44
        · subst c2
          k_steps
          rename Fr _ _ _ _ => F6
          rename News _ _ _ _ => N6
          refine join_list (News.isList N6 (.tail _ (.tail _ (.head _)))) hbv (ones_fit hbl) ?_
          intro tj kj
          rw [join_ones]
          have hjl : (textOf buf).length ≤ 2097152 := by rw [textOf_length]; exact hbl
          generalize hval : textOf buf = val at hjl
          k_steps
          · rename Fr _ _ _ _ => F8
            rename News _ _ _ _ => N8
            subst hval
            have hit := item_none (by assumption)
            simp [step, outStep] at hst'
            subst hst'
            exact end1 hrun' F8 N8 rfl ⟨rfl, rfl, rfl, rfl⟩ (.tail _ (.head _)) (.tail _ (.tail _ (.head _))) (.tail _ (.tail _ (.tail _ (.head _)))) (.tail _ (.tail _ (.tail _ (.tail _ (.head _))))) (.tail _ (.tail _ (.tail _ (.tail _ (.tail _ (.head _)))))) hbv (by rw [hit]; exact vals_none hiv) (Nat.le_succ_of_le sbv) (by rw [Array.size_push]; omega) d1 d2 d3 d4 d5 d6 i1 i2 i3 i4
          · rename Fr _ _ _ _ => F8
            rename News _ _ _ _ => N8
            refine wpAny_call (string_in_code (Tg.keeps F8.keep).nolimit (show A.depth + 1 < recursionLimit by omega) (fun h2 tk2 st2 => ?_) (Xg.keeps F8.keep))
            have F7 := F8.keeps st2
            have N7 := news_stays st2 N8
            clear F8 N8
            k_steps
            rename Fr _ _ _ _ => F9
            rename News _ _ _ _ => N9
            subst hval
            have hit := item_some (by assumption)
            simp [step, outStep] at hst'
            subst hst'
            exact end1 hrun' F9 N9 rfl ⟨rfl, rfl, rfl, rfl⟩ (.tail _ (.head _)) (.tail _ (.tail _ (.head _))) (.tail _ (.tail _ (.tail _ (.head _)))) (.tail _ (.tail _ (.tail _ (.tail _ (.head _))))) (.tail _ (.tail _ (.tail _ (.tail _ (.tail _ (.head _)))))) hbv (by rw [hit]; exact vals_str hiv) (Nat.le_succ_of_le sbv) (by rw [Array.size_push]; omega) d1 d2 d3 d4 d5 d6 i1 i2 i3 i4
        · k_steps
          · exact absurd (any_two (by assumption)) (by rintro (h | h); exact c1 h; exact c2 h)
          · rename Fr _ _ _ _ => F6
            rename News _ _ _ _ => N6
            simp [step, c1, c2] at hst'
            subst hst'
            exact end1 hrun' F6 N6 rfl ⟨rfl, rfl, rfl, rfl⟩ (.tail _ (.head _)) (.tail _ (.tail _ (.head _))) (.tail _ (.tail _ (.tail _ (.head _)))) (.tail _ (.tail _ (.tail _ (.tail _ (.head _))))) (.tail _ (.tail _ (.tail _ (.tail _ (.tail _ (.head _)))))) (by rw [List.map_append]; exact strs_push hbv) hiv (by rw [Array.size_push]; omega) (Nat.le_succ_of_le siv) d1 d2 d3 d4 d5 d6 i1 i2 i3 i4
  · rintro m₁ news₁ h tk5 ⟨st, kv, ka, bv, nb, iv, ni, n0, ns, hst, ⟨m1, m2, m3, m4⟩, rfl, hbv, hiv, sbv, siv, ⟨d1, d2, d3⟩, dka, hmode, hlvl, hl0⟩ F5 N5
    obtain ⟨u, rfl⟩ := map_at4 m1 m2 m3 m4
    clear F3 N3 m1 m2 m3 m4
    have hst : run start d = some st := hst
    rw [hrun] at hst
    cases hst
    replace N5 : News g s.heap.objs.size h [(kv, PySem.W.listOf bv nb), (ks, PySem.W.listOf #[.ref k0] ns), (k0, PySem.W.listOf #[.ref ka] n0), (ka, PySem.W.listOf iv ni)] := N5
    obtain ⟨d4, d5, d6⟩ := dka (show 1 ≤ 2 by decide)
    dsimp only
    k_steps
    dsimp only
    refine hR _ _ ka iv ni (fun b o e => F5.keep b o (hgb ▸ hideAll_get _ e fun q => nomatch q)) ?_ (N5 _ (.tail _ (.tail _ (.tail _ (.head _))))).1 hiv
    have hfr := (N5 _ (.tail _ (.tail _ (.tail _ (.head _))))).2.2
    rw [← hgb] at hfr
    exact hfr
end
end Mine
end

/- string_array_in -/
section
open PySem PySem.W PySem.Calls PyProof.Rows
set_option maxRecDepth 100000
set_option maxHeartbeats 4000000
namespace Mine

/-- the inner def made, whether its maker's table has its code or not -/
theorem nest_f {M : Model} {A : Around} {E : Value → Shared → Prop} {s : Shared} {g : Heap} {L : Addr} {m mg : PySem.Str → Option Value} {pf : Array Value} {rest : List (Addr × Obj)} {name : PySem.Str} {params : Arguments} {body : List Stmt} {scope : Scope} {env : Env} {clos : List (PySem.Str × Addr)} {fl : Nat} {Q : Value → Shared → Prop}
    (hcl : closureFor scope env = pure clos) (hge0 : env.globals = mainGlobals) (hcode : env.code = .ref 725) (C : CodeHd g 725 721) (hg : g.Ns mainGlobals mg) (bm : ∃ bm ob, mg "__builtins__" = some (.ref bm) ∧ bm ≠ builtinsNs ∧ g.get? bm = some ob ∧ ob.cls = .type "module" ∧ ob.dict = some builtinsNs ∧ ob.data = .plain)
    (F : Fr g L s.heap m) (N : News g L s.heap ((tabF, tabObj pf) :: rest)) (hr : ∀ p ∈ rest, p.1 ≠ tabF) (ht : TabFOk g pf)
    (h : ∀ f cv ctv doc h' tk pf' e oe, Fr g L h' m → News g L h' ((f, ({ cls := .type "function", data := .func (fnX name qualF params body scope clos .none .none doc ((mg "__name__").getD .none) none cv ctv) } : Obj)) :: (e, oe) :: (tabF, tabObj pf') :: rest) →
      (∀ h'', (∀ b o, g.get? b = some o → h''.get? b = some o) → h''.get? e = some oe → h''.CodeRec cv qualF ∧ TabFOk h'' pf') → s.heap.objs.size ≤ f → Q (.ref f) { s with heap := h', toks := tk }) :
    wpAny M A (makeFunction name qualF params (.stmts body) scope env [] [] [] posF fl) Q E s := by
  have hm := N _ (.head _)
  have hgs := hg.keeps F.keep
  obtain ⟨bm, ob, b1, b2, b3, b4, b5, b6⟩ := bm
  have hbP : bm ≠ tabF := fun q => by
    have e := F.keep _ _ b3
    rw [q, hm.1] at e; cases e; cases b4
  have hbG : bm ≠ mainGlobals := fun q => by
    obtain ⟨o, es, ep, e, hd, _⟩ := hg
    rw [q, e] at b3; cases b3; rw [hd] at b6; cases b6
  have hLs : L < s.heap.objs.size := F.ns.lt
  cases hf : codeAmong posF pf.toList with
  | some cv =>
    obtain ⟨c', rfl, hrec⟩ := ht.2 cv hf
    refine makeFunction_hit (mg := mg) hcl hge0 hgs hcode (C.keeps F.keep) hm.1 ht.1 hf ⟨bm, ob, b1, b2, hbG, hbP, F.keep _ _ b3, b4, b5, b6⟩ fun ctv doc h' tk hk hsz => ?_
    have hk2 : ∀ b o, s.heap.get? b = some o → (h'.push { cls := .type "function", data := .func (fnX name qualF params body scope clos .none .none doc ((mg "__name__").getD .none) none (.ref c') ctv) }).get? b = some o := fun b o e => Heap.get?_push_of_some _ (hk b o e)
    have own : ∀ q ∈ [(h'.objs.size, ({ cls := .type "function", data := .func (fnX name qualF params body scope clos .none .none doc ((mg "__name__").getD .none) none (.ref c') ctv) } : Obj))], (h'.push { cls := .type "function", data := .func (fnX name qualF params body scope clos .none .none doc ((mg "__name__").getD .none) none (.ref c') ctv) }).get? q.1 = some q.2 ∧ q.1 ≠ L ∧ g.get? q.1 = none := fun q hq => by
      rw [List.mem_singleton.mp hq]
      exact ⟨Heap.get?_push_size _ rfl, Nat.ne_of_gt (Nat.lt_of_lt_of_le hLs hsz), Heap.get?_none_of_le (Nat.le_trans F.above (Nat.le_of_lt (Nat.lt_of_lt_of_le hLs hsz)))⟩
    refine h h'.objs.size (.ref c') ctv doc _ tk pf h'.objs.size ({ cls := .type "function", data := .func (fnX name qualF params body scope clos .none .none doc ((mg "__name__").getD .none) none (.ref c') ctv) } : Obj) (F.keeps hk2) (fun q hq => ?_) (fun h'' kp _ => ⟨?_, ht.keeps fun c o e _ _ _ _ _ => kp c o e⟩) hsz
    · rcases List.mem_cons.mp hq with rfl | hq
      · exact own _ (.head _)
      · rcases List.mem_cons.mp hq with rfl | hq
        · exact own _ (.head _)
        · exact ⟨hk2 _ _ (N q hq).1, (N q hq).2⟩
    · obtain ⟨c, o, vs, t, e1, e2, e3⟩ := hrec
      exact ⟨c, o, vs, t, e1, kp _ _ e2, e3⟩
  | none =>
    refine makeFunction_K (mg := mg) hcl hge0 hgs hcode (C.keeps F.keep) hm.1 ht.1 hf (by decide) ⟨bm, ob, b1, b2, hbG, hbP, F.keep _ _ b3, b4, b5, b6⟩ fun c' ctv doc h' tk hx hge hlt hrec htb => ?_
    have hf' : s.heap.objs.size ≤ h'.objs.size := Nat.le_trans hge (Nat.le_of_lt hlt)
    have hLc : L < h'.objs.size := Nat.lt_of_lt_of_le hLs hf'
    obtain ⟨c₂, oc, vs, t, q2, hoc, hod, hv⟩ := hrec
    cases q2
    refine h h'.objs.size (.ref c') ctv doc _ tk (pf ++ #[rawInt posF.line, rawInt posF.col, .ref c']) c' oc ⟨(F.ns.extBut hx hm.2.1.symm).push _, fun b o e => Heap.get?_push_of_some _ (hx b o (fun q => by rw [q, hm.2.2] at e; cases e) (F.keep b o e)), F.above⟩ (fun q hq => ?_) (fun h'' kp he => ⟨⟨c', oc, vs, t, rfl, he, hod, hv⟩, ?_, ?_⟩) hf'
    · rcases List.mem_cons.mp hq with rfl | hq
      · exact ⟨Heap.get?_push_size _ rfl, Nat.ne_of_gt hLc, Heap.get?_none_of_le (Nat.le_trans F.above (Nat.le_of_lt hLc))⟩
      · rcases List.mem_cons.mp hq with rfl | hq
        · exact ⟨Heap.get?_push_of_some _ hoc, Nat.ne_of_gt (Nat.lt_of_lt_of_le hLs hge), Heap.get?_none_of_le (Nat.le_trans F.above (Nat.le_of_lt (Nat.lt_of_lt_of_le hLs hge)))⟩
        · rcases List.mem_cons.mp hq with rfl | hq
          · exact ⟨Heap.get?_push_of_some _ htb, hm.2⟩
          · have n := N q (.tail _ hq)
            exact ⟨Heap.get?_push_of_some _ (hx _ _ (hr q hq) n.1), n.2⟩
    · rw [Array.toList_append]
      exact TriplesOk_snoc _ _ _ _ ht.1
    · intro cv e
      rw [Array.toList_append, codeAmong_snoc _ ht.1 hf] at e
      cases e
      exact ⟨c', rfl, c', oc, vs, t, rfl, he, hod, hv⟩

/-- a code object is no code table -/
theorem rec_ne {h : Heap} {P c : Addr} {p : Array Value} {o : Obj} {vs : Array Value} {q : PySem.Str} {t : Tok} (hP : h.get? P = some (tabObj p)) (ht : TriplesOk p.toList) (hc : h.get? c = some o) (hd : o.data = .fields vs) (hv : vs[1]? = some (.str q t)) : c ≠ P := by
  rintro rfl
  rw [hP] at hc
  cases hc
  cases hd
  rw [← Array.getElem?_toList] at hv
  match hl : p.toList with
  | [] => rw [hl] at hv; cases hv
  | [_] => rw [hl] at hv; cases hv
  | x :: y :: r =>
    rw [hl] at hv ht
    simp only [List.getElem?_cons_succ, List.getElem?_cons_zero] at hv
    cases hv
    unfold TriplesOk at ht
    split at ht
    · rename_i heq; cases heq
    · rename_i heq; cases heq
    · exact ht.elim
theorem TabFOk.hide {h : Heap} {ad : List Addr} {ps : Array Value} (x : TabFOk h ps) (hT : ∀ a ∈ ad, ∃ p, h.get? a = some (tabObj p) ∧ TriplesOk p.toList) : TabFOk (hideAll h ad) ps := by
  refine x.keeps fun c o e _ vs t hd hv => hideAll_get _ e fun q => ?_
  obtain ⟨p, e1, e2⟩ := hT c q
  exact rec_ne e1 e2 e hd hv rfl

section
local macro_rules | `(tactic| walk_at "eval Name") => `(tactic| ((with_reducible show wpAny _ _ (eval (Expr.Name (PySem.Str.ofString "adapter") _) _) _ _ _); refine Stop.mk ?_))
theorem sain_code {w : World} {mg mb : PySem.Str → Option Value} {A : Around} {s : Shared} {d : List Nat} {t : Tok} {bf : List Nat} {items : List (Option (List Nat))} {R : Result → Shared → Prop} (G : Gd w mg mb s.heap) (hF : HasF s.heap) (hr : A.depth + 4 < recursionLimit) (hu : A.units + 400 < cLine) (hh : A.handled = none) (hdl : d.length ≤ 1048576)
    (hrun : run start d = some ⟨.out, 2, bf, items⟩)
    (hR : ∀ s' ka iv ni, LaterF s s' → s.heap.get? ka = none → s'.heap.get? ka = some (PySem.W.listOf iv ni) → ValsAre iv.toList items → R (.ok (.ret (.ref ka))) s') : (hd.heap_39 w.params).In s.heap → codeAny (model PySem.Challenge.rw_em5012_01.row.prog w) A (.call (.ref 733) ⟨[.str (textOf d) t], []⟩) R s := by
  k_fill
  intro X
  obtain ⟨p, lo, T⟩ := G.T
  refine' enter_plain [tabF] (binds := [(PySem.Str.ofString "data", .str (textOf d) t)]) X T.nolimit ?k6 ?k7 (by omega) ?k9 ?kB ?_ ?c5 ?c2 ?c3 ?c4
  case k6 => k_is
  case k7 => k_is
  case k9 => exact BindsTo.of_eq rfl
  case kB => exact locs rfl
  case c5 => decide
  case c2 => exact rfl
  case c3 => exact rfl
  case c4 => exact rfl
  intro h₁ F st
  obtain ⟨p1, e1, t1⟩ := hF
  have N := hid_news (.head _) e1 F st .nil
  have G' := Gd.hide fewF (fun h => absurd (List.mem_singleton.mp h) (by decide)) (fun _ => ⟨p1, e1⟩) G
  have Xg := G'.X
  obtain ⟨pg, lg, Tg⟩ := G'.T
  have t1 : TabFOk h₁ p1 := t1.keeps fun c o e _ _ _ _ _ => st c o e
  clear X T G
  generalize hgb : hideAll s.heap [tabF] = g at F N Xg Tg G'
  k_steps
  refine wpAny_call ?_
  have Xh := Xg.keeps F.keep
  have Th := (Tg.keeps F.keep)
  refine' enter_cells [tabF] (binds := [(PySem.Str.ofString "adapter", .ref 63)]) Xh Th.nolimit ?k6 ?k7 ?kr ?k9 ?kB ?kD ?_ ?c2 ?c3 ?c4
  case k6 => k_is
  case k7 => k_is
  case kr => (show A.depth + 1 < recursionLimit); omega
  case k9 => exact BindsTo.of_eq rfl
  case kB => exact rfl
  case kD => decide +kernel
  case c2 => exact rfl
  case c3 => exact rfl
  case c4 => exact rfl
  intro h₂ tk2 cells F2 N2 Y2 st2
  dsimp only at F2 N2 Y2 st2
  k_cells Y2
  rename Obj => co
  rename co.data = _ => hco0
  have hco : co.data = .cell (some (.ref 63)) := hco0
  have e2 : h₁.get? tabF = some (tabObj p1) := (N _ (.head _)).1
  have N2 := hid_news (s := { s with heap := h₁ }) (.head _) e2 F2 st2 N2
  have G2 := Gd.hide fewF (fun h => absurd (List.mem_singleton.mp h) (by decide)) (fun _ => ⟨p1, e2⟩) (G'.fr F)
  have X2 := G2.X
  obtain ⟨pg2, lg2, T2⟩ := G2.T
  have t2 : TabFOk h₂ p1 := t1.keeps fun c o e _ _ _ _ _ => st2 c o e
  have t2g : TabFOk (hideAll h₁ [tabF]) p1 := t1.hide fun a ha => ⟨p1, by rw [List.mem_singleton.mp ha]; exact e2, t1.1⟩
  generalize hgb2 : hideAll h₁ [tabF] = g2 at F2 N2 X2 T2 G2 t2g
  k_steps
  refine nestDef_K rfl rfl rfl ?_
  refine nest_f rfl rfl rfl (codeHd_of_K X2 (by kernel_rfl)) T2.g G2.bm F2 N2 (fun p hp => ?_) t2g ?_
  · rw [List.mem_singleton.mp hp]
    exact Nat.ne_of_gt (Nat.lt_succ_of_lt (Heap.lt_size e2))
  intro f cv ctv doc h3 tk3 pf3 e3 oe3 F3 N3 stab3 hfs
  have F2lt := F2.ns.lt
  clear F2 N2
  k_steps
  rename Fr _ _ _ _ => F4
  rename News _ _ _ _ => N4
  dsimp only
  rename Heap => h4
  obtain ⟨rec4, t4⟩ := stab3 h4 F4.keep (N4 _ (.tail _ (.head _))).1
  have hT4 := (N4 _ (.tail _ (.tail _ (.head _)))).1
  have hf4 := (N4 _ (.head _)).1
  have hc4 := (N4 _ (.tail _ (.tail _ (.tail _ (.head _))))).1
  have k4 : ∀ b o, h₁.get? b = some o → b ≠ tabF → h4.get? b = some o := fun b o e hb => F4.keep b o (hgb2 ▸ hideAll_get _ e fun q => hb (List.mem_singleton.mp q))
  have hfn : ∀ o, g.get? f ≠ some o := fun o e => by
    have := Heap.lt_size (st2 _ _ (F.keep _ _ e))
    exact absurd hfs (Nat.not_le.mpr this)
  have hcn : ∀ o, g.get? (h₁.objs.size + 1) ≠ some o := fun o e => by
    have h1 : h₁.objs.size + 1 < h₁.objs.size := Heap.lt_size (F.keep _ _ e)
    omega
  obtain ⟨F5, N5⟩ := back_fr (s := { s with heap := h₁ }) (s' := { s with heap := h4 }) k4 hT4 F N (fun p hp => nomatch hp)
  dsimp only at F5 N5
  have hfL : f ≠ s.heap.objs.size := fun q => by
    have h1 : s.heap.objs.size < h₁.objs.size := F.ns.lt
    have h2 : h₁.objs.size < h₂.objs.size := F2lt
    have h3 : h₂.objs.size ≤ f := hfs
    rw [q] at h3
    exact absurd (Nat.lt_trans h1 h2) (Nat.not_lt.mpr h3)
  have N6 : News g s.heap.objs.size h4 [(f, _), (tabF, tabObj pf3)] := fun p hp => by
    rcases List.mem_cons.mp hp with rfl | hp
    · refine ⟨hf4, hfL, ?_⟩
      cases q : g.get? f with
      | none => rfl
      | some o => exact absurd q (hfn o)
    · exact N5 p hp
  have X5 := Xg.keeps F5.keep
  clear F4 N4 N5 F N
  refine callWith_F ⟨_, _, _, _, hf4⟩ (spliced_cons (nameX_L F5 rfl (spliced_nil ⟨⟨_, _, _, _, hf4⟩, ?_⟩)))
  refine wpAny_call ?_
  have T5 := Tg.keeps F5.keep
  have hgc : g.get? (h₁.objs.size + 1) = none := by
    cases q : g.get? (h₁.objs.size + 1) with
    | none => rfl
    | some o => exact absurd q (hcn o)
  have G6 : Gd w mg mb (hideAll h4 [h₁.objs.size + 1]) := Gd.keep (ad := []) (fun _ h => nomatch h) (fun h => nomatch h) (fun h => nomatch h) G' fun b o e _ => hideAll_get _ (F5.keep b o e) fun q => by
    rw [List.mem_singleton.mp q, hgc] at e
    cases e
  refine enter_any [h₁.objs.size + 1] (binds := [(PySem.Str.ofString "data", .str (textOf d) t)]) T5.nolimit hf4 rfl rec4 ?kr ?k9 ?kB ?_ ?c5 ?c2 ?c3 ?c4
  case kr => (show A.depth + 1 < recursionLimit); omega
  case k9 => exact BindsTo.of_eq rfl
  case kB => exact locs rfl
  case c5 => decide
  case c2 => exact rfl
  case c3 => exact rfl
  case c4 => exact rfl
  intro h6 F6 st6
  dsimp only at F6 st6 ⊢
  have N7 := hid_news (s := { s with heap := h4 }) (.head _) hc4 F6 st6 .nil
  dsimp only at N7
  have X6 := G6.X
  obtain ⟨pg6, lg6, T6⟩ := G6.T
  generalize hgb6 : hideAll h4 [h₁.objs.size + 1] = g6 at F6 N7 X6 T6 G6
  k_steps
  refine Stop.out (nameX_F N7 rfl (.head _) hco ?_)
  k_steps
  refine wpAny_call (parse_code (G6.fr F6) (show A.depth + 1 + 1 + 2 < recursionLimit by omega) (by simp only [Around.deeper_units, Around.in1_units]; omega) hh hdl hrun (fun h8 tk8 ka iv ni st8 hka hka8 hv => ?_) (G6.fr F6).X)
  dsimp only at st8 hka hka8 ⊢
  k_steps
  have kp : ∀ b o, s.heap.get? b = some o → b ≠ tabF → h6.get? b = some o := fun b o e hb => st6 _ _ (F5.keep b o (hgb ▸ hideAll_get _ e fun q => hb (List.mem_singleton.mp q)))
  refine hR _ ka iv ni ⟨fun b o e hb => st8 _ _ (kp b o e hb), ⟨pf3, st8 _ _ (st6 _ _ hT4), t4.keeps fun c o e _ _ _ _ _ => st8 _ _ (st6 _ _ e)⟩, rfl, rfl⟩ ?_ hka8 hv
  cases q : s.heap.get? ka with
  | none => rfl
  | some o =>
    by_cases hb : ka = tabF
    · have e9 := st6 _ _ hT4
      rw [hb] at hka
      rw [hka] at e9
      cases e9
    · rw [kp ka o q hb] at hka
      cases hka
end
end Mine
end

/- a for over a range whose turns make generators -/
section
open PySem PySem.W PySem.Calls PyProof.Rows
set_option maxRecDepth 100000
set_option maxHeartbeats 4000000
namespace Mine

/-- the end of a turn of a loop whose generators may grow -/
def TurnG (h₀ : Heap) (L : Addr) (J : (PySem.Str → Option Value) → List (Addr × Obj) → Shared → Prop) (it : Addr × Obj) (Q : Flow → Shared → Prop) (f : Flow) (s₂ : Shared) : Prop :=
  match f with
  | .ret v => Q (.ret v) s₂
  | .brk => Q .next s₂
  | _ => ∃ m' nx, Fr h₀ L s₂.heap m' ∧ News h₀ L s₂.heap (it :: nx) ∧ (∀ p ∈ nx, p.1 ≠ it.1) ∧ J m' nx s₂

section
variable {prog : Program} {w : World} {A : Around} {E : Value → Shared → Prop} {env : Env} {h₀ : Heap} {x : PySem.Str} {body : List Stmt} {Q : Flow → Shared → Prop}
/-- what a for over a range asks of its iterable -/
def RangeSrc (prog : Program) (w : World) (A : Around) (E : Value → Shared → Prop) (h₀ : Heap) (env : Env) (x : PySem.Str) (body : List Stmt) (Q : Flow → Shared → Prop) (n : Nat) (J : Nat → (PySem.Str → Option Value) → List (Addr × Obj) → Shared → Prop) (xv : Value) (s₁ : Shared) : Prop :=
  ∃ r t u v m news, xv = .ref r ∧ IsRange s₁.heap r 0 (n : Int) 1 t u v ∧ Builtin.Range.small 0 (n : Int) 1 = true ∧ Builtin.Range.rangeSize 0 (n : Int) 1 = (n : Int) ∧ Fr h₀ env.locals s₁.heap m ∧ News h₀ env.locals s₁.heap news ∧ J 0 m news s₁ ∧
    (∀ i m₁ news₁ (s₂ : Shared) t I io, s₁.heap.objs.size ≤ I → i < n → J i m₁ news₁ s₂ → (∀ p ∈ news₁, p.1 ≠ I) → (∃ a b c, io.data = .fields #[rawInt a, rawInt b, rawInt c]) → Fr h₀ env.locals s₂.heap (fun y => if y = x then some (.int (i : Int) t) else m₁ y) → News h₀ env.locals s₂.heap ((I, io) :: news₁) →
      wpAny (model prog w) A (execs body env) (TurnG h₀ env.locals (J (i + 1)) (I, io) Q) E s₂) ∧
    (∀ m₁ news₁ (s₂ : Shared), J n m₁ news₁ s₂ → Fr h₀ env.locals s₂.heap m₁ → News h₀ env.locals s₂.heap news₁ → Q .next s₂)

theorem For_rangeG {s : Shared} {px pos : Pos} {iter : Expr} {n : Nat} (J : Nat → (PySem.Str → Option Value) → List (Addr × Obj) → Shared → Prop) (hJ : ∀ i m nx (s : Shared) h tk, J i m nx s → J i m nx { s with heap := h, toks := tk })
    (hh : A.handled = none) (hx : env.kindOf x = some .local) (hp : (env.scope.kind == .class || (env.scope.kind == .module && env.locals != env.globals)) = false)
    (h : wpAny (model prog w) A (eval iter env) (RangeSrc prog w A E h₀ env x body Q n J) E s)
    (hs : ∀ x, foldedSetIterable iter env x = pure x := by intro _; rfl) (hE : PassesOwn (model prog w) A env E := by passes_own) :
    wpAny (model prog w) A (exec (.For (.Name x px) iter body [] pos) env) Q E s := by
  refine wpAny_For (wpAny_mono h (fun xv s₁ h₁ => ?_) fun _ _ e => e) hs
  obtain ⟨r, t, u, v, m, news, rfl, hr, hsm, hn, F, N, h0, turn, done⟩ := h₁
  refine wpAny_pyIter_range hr hsm ?_
  have W : Walks prog w A s₁.heap.objs.size [s₁.heap.objs.size] [s₁.heap.objs.size] n (fun i v => ∃ t, v = .int (0 + (i : Int)) t) (fun i h => IsRangeIter h s₁.heap.objs.size (0 + (i : Nat) * 1) ((n : Int) - (i : Nat)) 1) := LCg.range_walks hh 0 n
  have hI₀ : h₀.get? s₁.heap.objs.size = none := next_is_new F
  have hLI : env.locals ≠ s₁.heap.objs.size := fun q => absurd F.ns.lt (q ▸ Nat.lt_irrefl _)
  have hLf : env.locals ∉ [s₁.heap.objs.size] := fun q => hLI (List.mem_singleton.mp q)
  generalize hIs : s₁.heap.objs.size = I at W hI₀ hLI hLf
  have old : ∀ b o, h₀.get? b = some o → b ∉ [I] := fun b o e hb => by rw [List.mem_singleton.mp hb, hI₀] at e; cases e
  refine codeAny_forLoop (R := fun r s' => match r with | .ok f => Q f s' | .error e => cameBackBy (model prog w) A env E e s')
    (fun k s' => ∃ m' news' i, IsRangeIter s'.heap I (0 + (i : Nat) * 1) ((n : Int) - (i : Nat)) 1 ∧ Fr h₀ env.locals s'.heap m' ∧ News h₀ env.locals s'.heap news' ∧ (∀ p ∈ news', p.1 ≠ I) ∧ J i m' news' s' ∧ i ≤ n ∧ k = n + 1 - i) ?_ (n + 1)
    ⟨m, news, 0, by show IsRangeIter _ _ _ _ _; rw [hn, ← hIs]; simpa using Heap.get?_push_size _ rfl, F.push _, fun p hp => ⟨Heap.get?_push_of_some _ (N p hp).1, (N p hp).2⟩, fun p hp q => absurd (Heap.lt_size (N p hp).1) (by rw [q, ← hIs]; exact Nat.lt_irrefl _), hJ _ _ _ _ _ _ h0, Nat.zero_le _, rfl⟩
  rintro k s' ⟨m', news', i, hst', F', N', hnw', hJ', hi, rfl⟩
  have next : ∀ h₁ : Heap, (∀ b o, b ∉ [I] → s'.heap.get? b = some o → h₁.get? b = some o) → Fr h₀ env.locals h₁ m' ∧ News h₀ env.locals h₁ news' := fun h₁ hk₁ =>
    ⟨⟨F'.ns.at' fun o e => hk₁ _ o hLf e, fun b o e => hk₁ b o (old b o e) (F'.keep b o e), F'.above⟩, fun p hp => ⟨hk₁ _ _ (fun q => hnw' p hp (List.mem_singleton.mp q)) (N' p hp).1, (N' p hp).2⟩⟩
  by_cases hlt : i < n
  · refine W.item i _ _ _ hlt hst' fun v h₁ tk₁ hP hst₁ hk₁ => ?_
    obtain ⟨t1, rfl⟩ := hP
    obtain ⟨F₁, N₁⟩ := next h₁ hk₁
    refine wpAny_assign_Name (wpAny_storeName_local hx F₁.ns (fun h₂ hn₂ hs₂ => ?_) hp)
    have F₂ := F₁.set hn₂ hs₂
    have hst₂ : IsRangeIter h₂ I (0 + ((i + 1 : Nat) : Nat) * 1) ((n : Int) - ((i + 1 : Nat) : Nat)) 1 := W.frame _ _ _ hst₁ fun b hb o e => (hs₂.2 b fun q => hLf (q ▸ hb)).trans e
    obtain ⟨io, hio, hiod⟩ : ∃ io, h₂.get? I = some io ∧ ∃ a b c, io.data = .fields #[rawInt a, rawInt b, rawInt c] := ⟨_, hst₂, _, _, _, rfl⟩
    have N₂ : News h₀ env.locals h₂ ((I, io) :: news') := fun p hp => by
      rcases List.mem_cons.mp hp with rfl | hp
      · exact ⟨hio, Ne.symm hLI, hI₀⟩
      · exact (N₁.set hs₂) p hp
    have F₂' : Fr h₀ env.locals h₂ (fun y => if y = x then some (.int (i : Int) t1) else m' y) := by
      have e0 : (0 : Int) + (i : Int) = (i : Int) := Int.zero_add _
      rw [← e0]; exact F₂
    refine wpAny_passesOwn hE (wpAny_mono (turn i m' news' _ t1 I io (Nat.le_of_eq hIs) hlt (hJ _ _ _ s' _ _ hJ') hnw' hiod F₂' N₂) (fun f s₃ h₃ => ?_) fun _ _ e => e)
    have fin : (∃ m' nx, Fr h₀ env.locals s₃.heap m' ∧ News h₀ env.locals s₃.heap ((I, io) :: nx) ∧ (∀ p ∈ nx, p.1 ≠ I) ∧ J (i + 1) m' nx s₃) →
        ∃ k, k < n + 1 - i ∧ ∃ m' news' i, IsRangeIter s₃.heap I (0 + (i : Nat) * 1) ((n : Int) - (i : Nat)) 1 ∧ Fr h₀ env.locals s₃.heap m' ∧ News h₀ env.locals s₃.heap news' ∧ (∀ p ∈ news', p.1 ≠ I) ∧ J i m' news' s₃ ∧ i ≤ n ∧ k = n + 1 - i := by
      rintro ⟨m₂, nx, F₃, N₃, ha₃, hJ₃⟩
      refine ⟨n + 1 - (i + 1), by omega, m₂, nx, i + 1, ?_, F₃, fun p hp => N₃ p (.tail _ hp), ha₃, hJ₃, hlt, rfl⟩
      have e3 := (N₃ _ (.head _)).1
      show s₃.heap.get? I = _
      rw [e3, ← hio]
      exact hst₂
    cases f with
    | ret v => exact h₃
    | brk => exact h₃
    | cont => exact fin h₃
    | next => exact fin h₃
  · have hin : i = n := by omega
    subst hin
    refine W.done _ _ _ hst' fun h₁ tk₁ hk₁ => wpAny_execs_nil ?_
    obtain ⟨F₁, N₁⟩ := next h₁ hk₁
    exact done m' news' _ (hJ _ _ _ s' _ _ hJ') F₁ N₁
end
end Mine
end

/- the items beside, told -/
section
open PySem PySem.W PySem.Calls PyProof.Rows
set_option maxRecDepth 100000
set_option maxHeartbeats 4000000
namespace Mine
/-- the items beside the told word, as values -/
def BesIs (b : Nat) (bv : Array Value) : Prop := (b = 0 ∧ bv = #[]) ∨ (b = 1 ∧ bv = #[.none]) ∨ (b = 2 ∧ ∃ t, bv = #[.none, .str (PySem.Str.ofString "a") t])
def tsOf (b : Nat) (a : List Nat) : List PySem.Str := textOf (told sp a) :: (if b = 0 then [] else if b = 1 then [textOf nullW] else [textOf nullW, textOf [97]])
theorem told_a : told sp [97] = [97] := by decide +kernel
theorem str_a : PySem.Str.ofString "a" = textOf [97] := by decide +kernel
theorem items_told {b : Nat} {bv : Array Value} {a : List Nat} {t : Tok} (hb : BesIs b bv) (ha : a.length ≤ 1048576) :
    (Value.str (textOf a) t :: bv.toList).toArray.size = (tsOf b a).length ∧ (Value.str (textOf a) t :: bv.toList).toArray.size ≤ 1000 ∧
    ∀ (i : Nat) (v : Value) (tx : PySem.Str), (Value.str (textOf a) t :: bv.toList).toArray[i]? = some v → (tsOf b a)[i]? = some tx → Told1 v tx := by
  have h0 : Told1 (Value.str (textOf a) t) (textOf (told sp a)) := .inl ⟨a, t, rfl, ha, rfl⟩
  have h1 : Told1 Value.none (textOf nullW) := .inr ⟨rfl, rfl⟩
  have h2 : ∀ t, Told1 (Value.str (PySem.Str.ofString "a") t) (textOf [97]) := fun t => .inl ⟨[97], t, by rw [str_a], by decide, by rw [told_a]⟩
  rcases hb with ⟨rfl, rfl⟩ | ⟨rfl, rfl⟩ | ⟨rfl, t2, rfl⟩
  · refine ⟨rfl, show 1 ≤ 1000 by decide, fun i v tx e1 e2 => ?_⟩
    match i with
    | 0 => cases e1; cases e2; exact h0
    | i + 1 => simp at e1
  · refine ⟨rfl, show 2 ≤ 1000 by decide, fun i v tx e1 e2 => ?_⟩
    match i with
    | 0 => cases e1; cases e2; exact h0
    | 1 => cases e1; cases e2; exact h1
    | i + 2 => simp at e1
  · refine ⟨rfl, show 3 ≤ 1000 by decide, fun i v tx e1 e2 => ?_⟩
    match i with
    | 0 => cases e1; cases e2; exact h0
    | 1 => cases e1; cases e2; exact h1
    | 2 => cases e1; cases e2; exact h2 t2
    | i + 3 => simp at e1
theorem items_joined {b : Nat} {a : List Nat} (hb : b < 3) : PySem.Str.ofString "{" ++ Txt.join (PySem.Str.ofString ",") (tsOf b a) ++ PySem.Str.ofString "}" = textOf (text sp b a) := by
  have e1 : PySem.Str.ofString "{" = ⟨#[123]⟩ := by decide +kernel
  have e2 : PySem.Str.ofString "}" = ⟨#[125]⟩ := by decide +kernel
  have e3 : PySem.Str.ofString "," = ⟨#[44]⟩ := by decide +kernel
  rw [e1, e2, e3]
  refine PySem.Str.ext' (Array.toList_inj.mp ?_)
  rw [PySem.Str.cps_append, PySem.Str.cps_append, Array.toList_append, Array.toList_append]
  have h : b = 0 ∨ b = 1 ∨ b = 2 := by omega
  rcases h with rfl | rfl | rfl <;> simp [tsOf, Txt.join, Builtin.Str.glued, textOf, text, tailT]
theorem items_fit {b : Nat} {a : List Nat} (ha : a.length ≤ 1048576) : ((tsOf b a).map (·.length)).sum + (tsOf b a).length ≤ 4194304 := by
  have h1 : (told sp a).length ≤ 2 * a.length + 2 := by
    have := length_escB a
    unfold told
    split
    · simp only [List.length_cons, List.length_append, List.length_nil]; omega
    · omega
  have h2 : (textOf (told sp a)).length = (told sp a).length := textOf_length _
  have h3 : (textOf nullW).length = 4 := rfl
  have h4 : (textOf [97]).length = 1 := rfl
  unfold tsOf
  simp only [List.map_cons, List.sum_cons, List.length_cons, h2]
  split
  · simp; omega
  · split
    · simp [h3]; omega
    · simp [h3, h4]; omega
end Mine
end

/- the two lists compared -/
section
open PySem PySem.W PySem.Calls PyProof.Rows
set_option maxRecDepth 100000
set_option maxHeartbeats 4000000
namespace Mine
def dOf : Option (List Nat) → PyData
  | none => .none
  | some l => .str (textOf l)
theorem vals_carried {vs : List Value} {is : List (Option (List Nat))} (h : ValsAre vs is) : CarriedAll vs (is.map dOf) := by
  induction h with
  | nil => exact .nil
  | none _ ih => exact .cons .none ih
  | str w t _ ih => exact .cons (.str _ t) ih
theorem bes_vals {b : Nat} {bv : Array Value} {a : List Nat} {t : Tok} (hb : BesIs b bv) : ValsAre (Value.str (textOf a) t :: bv.toList) (some a :: tailI b) := by
  rcases hb with ⟨rfl, rfl⟩ | ⟨rfl, rfl⟩ | ⟨rfl, t2, rfl⟩
  · exact .str _ _ .nil
  · exact .str _ _ (.none .nil)
  · exact .str _ _ (.none (by rw [str_a]; exact .str _ _ .nil))
theorem ok_text {a : List Nat} (h : ∀ c ∈ a, c < 1114112) : PyData.strOk (textOf a) = true := by
  unfold PyData.strOk textOf
  rw [Array.all_eq_true']
  intro c hc
  exact decide_eq_true (h c (by simpa using hc))
theorem small_text {b : Nat} {a : List Nat} (hb : b < 3) (h : ∀ c ∈ a, c < 1114112) : ∀ c ∈ text sp b a, c < 1114112 := by
  have h1 : ∀ c ∈ escB a, c < 1114112 := fun c hc => by
    obtain ⟨d, hd, hc⟩ := List.mem_flatMap.mp hc
    have := h d hd
    unfold esc1 at hc
    split at hc
    · simp at hc; omega
    · split at hc
      · simp at hc; omega
      · simp at hc; omega
  have h2 : ∀ c ∈ told sp a, c < 1114112 := fun c hc => by
    unfold told at hc
    split at hc
    · simp only [List.mem_cons, List.mem_append, List.not_mem_nil, or_false] at hc
      rcases hc with rfl | hc | rfl
      · decide
      · exact h1 c hc
      · decide
    · exact h1 c hc
  have h3 : ∀ c ∈ tailT b, c < 1114112 := by
    have h : b = 0 ∨ b = 1 ∨ b = 2 := by omega
    rcases h with rfl | rfl | rfl <;> decide
  intro c hc
  simp only [text, List.mem_cons, List.mem_append, List.not_mem_nil, or_false] at hc
  rcases hc with rfl | hc | hc | rfl
  · decide
  · exact h2 c hc
  · exact h3 c hc
  · decide
theorem small_again {b : Nat} {a : List Nat} (hb : b < 3) (h : ∀ c ∈ a, c < 1114112) : ∀ n, ∀ c ∈ again sp b a n, c < 1114112
  | 0 => h
  | n + 1 => small_text hb (small_again hb h n)
theorem shaped_items {b : Nat} {a : List Nat} (hb : b < 3) (hs : ∀ c ∈ a, c < 1114112) : SeqAt.shaped (.list ((some a :: tailI b).map dOf)) = true := by
  have h : b = 0 ∨ b = 1 ∨ b = 2 := by omega
  have h1 := ok_text hs
  have h2 : PyData.strOk (textOf [97]) = true := by decide +kernel
  rcases h with rfl | rfl | rfl <;> simp [SeqAt.shaped, h1, h2, tailI, dOf, PyData.canLay0, PyData.canLayAll0, PyData.depth, PyData.depthAll]
theorem eqv_items {b : Nat} {a : List Nat} (hb : b < 3) : PyData.eqv (.list ((some a :: tailI b).map dOf)) (.list ((some a :: tailI b).map dOf)) = true := by
  have h : b = 0 ∨ b = 1 ∨ b = 2 := by omega
  rcases h with rfl | rfl | rfl <;> simp [tailI, dOf, PyData.eqv, PyData.eqvAll]
theorem ne_items {prog : Program} {w : World} {A : Around} {E : Value → Shared → Prop} {s : Shared} {x y : Addr} {iv zs : Array Value} {b : Nat} {a : List Nat} {Q : Value → Shared → Prop} (hx : s.heap.IsList x iv) (hy : s.heap.IsList y zs) (vx : ValsAre iv.toList (some a :: tailI b)) (vy : ValsAre zs.toList (some a :: tailI b)) (hb : b < 3) (hs : ∀ c ∈ a, c < 1114112)
    (hu : A.units + 64 < cLine) (h : Q (.bool false) s) : wpAny (model prog w) A (compareOp .NotEq (.ref x) (.ref y)) Q E s := by
  have hx' : s.heap.IsList x iv.toList.toArray := by rw [Array.toArray_toList]; exact hx
  have hy' : s.heap.IsList y zs.toList.toArray := by rw [Array.toArray_toList]; exact hy
  refine ne_dataH (reads_newData hx' (vals_carried vx)) (reads_newData hy' (vals_carried vy)) (shaped_items hb hs) (shaped_items hb hs) hu ?_
  rw [eqv_items hb]
  exact h
end Mine
end

/- lemmas of the law's walk -/
section
open PySem PySem.W PySem.Calls PyProof.Rows
set_option maxRecDepth 100000
set_option maxHeartbeats 4000000
namespace Mine
/-- the signs of a word -/
def sgn (k : Int) : Nat := [97, 98, 32, 34, 92, 123, 125, 44].getD (k.fmod 8).toNat 0
def pick (k : Int) : PySem.Str := Txt.item (PySem.Str.ofString "ab \"\\{},") (k.fmod 8)
theorem pick_eq (k : Int) : pick k = mk1 (sgn k) := by
  have h1 : 0 ≤ k.fmod 8 := Int.fmod_nonneg_of_pos k (by decide)
  have h2 : k.fmod 8 < 8 := Int.fmod_lt_of_pos k (by decide)
  unfold pick sgn
  generalize k.fmod 8 = x at h1 h2
  have h3 : x = 0 ∨ x = 1 ∨ x = 2 ∨ x = 3 ∨ x = 4 ∨ x = 5 ∨ x = 6 ∨ x = 7 := by omega
  rcases h3 with rfl | rfl | rfl | rfl | rfl | rfl | rfl | rfl <;> decide +kernel
theorem sgn_mem (k : Int) : sgn k ∈ [97, 98, 32, 34, 92, 123, 125, 44] := by
  have h1 : 0 ≤ k.fmod 8 := Int.fmod_nonneg_of_pos k (by decide)
  have h2 : k.fmod 8 < 8 := Int.fmod_lt_of_pos k (by decide)
  unfold sgn
  generalize k.fmod 8 = x at h1 h2
  have h3 : x = 0 ∨ x = 1 ∨ x = 2 ∨ x = 3 ∨ x = 4 ∨ x = 5 ∨ x = 6 ∨ x = 7 := by omega
  rcases h3 with rfl | rfl | rfl | rfl | rfl | rfl | rfl | rfl <;> decide
theorem pick_map (ns : List Int) : ns.map pick = (ns.map sgn).map mk1 := by
  rw [List.map_map]
  exact List.map_congr_left fun k _ => pick_eq k

theorem pick_bes {g h : Heap} {L : Addr} {x1 x2 x3 : Addr × Obj} {r : List (Addr × Obj)} {a : Addr} {k : Nat} {t : Tok} {z : Int} (N : News g L h (x1 :: x2 :: x3 :: (a, PySem.W.listOf (slicePick #[Value.none, .str (PySem.Str.ofString "a") t] none (some (Int.fmod z 3)) none) k) :: r)) :
    ∃ b bv, b < 3 ∧ BesIs b bv ∧ News g L h ((a, PySem.W.listOf bv k) :: r) := by
  have hm : News g L h ((a, PySem.W.listOf (slicePick #[Value.none, .str (PySem.Str.ofString "a") t] none (some (Int.fmod z 3)) none) k) :: r) := fun p hp => N p (.tail _ (.tail _ (.tail _ hp)))
  clear N
  have h1 : 0 ≤ z.fmod 3 := Int.fmod_nonneg_of_pos z (by decide)
  have h2 : z.fmod 3 < 3 := Int.fmod_lt_of_pos z (by decide)
  generalize z.fmod 3 = x at h1 h2 hm
  have h3 : x = 0 ∨ x = 1 ∨ x = 2 := by omega
  rcases h3 with rfl | rfl | rfl
  · exact ⟨0, #[], by decide, .inl ⟨rfl, rfl⟩, hm⟩
  · exact ⟨1, #[.none], by decide, .inr (.inl ⟨rfl, rfl⟩), hm⟩
  · exact ⟨2, #[.none, .str (PySem.Str.ofString "a") t], by decide, .inr (.inr ⟨rfl, t, rfl⟩), hm⟩
theorem depth_nat (z : Int) : ∃ n : Nat, 1 + z.fmod 5 = (n : Int) ∧ 1 ≤ n ∧ n ≤ 5 := by
  have h1 : 0 ≤ z.fmod 5 := Int.fmod_nonneg_of_pos z (by decide)
  have h2 : z.fmod 5 < 5 := Int.fmod_lt_of_pos z (by decide)
  exact ⟨(1 + z.fmod 5).toNat, by omega, by omega, by omega⟩
/-- a heap that keeps the base and a slot has a sound table -/
def Stable (g : Heap) (e : Addr) (oe : Obj) (pf : Array Value) : Prop := ∀ h : Heap, (∀ b o, g.get? b = some o → h.get? b = some o) → h.get? e = some oe → TabFOk h pf

theorem ledger_for {g h : Heap} {L a c : Addr} {m : PySem.Str → Option Value} {bv : Array Value} {k : Nat} {x1 x2 : Addr × Obj} {oc : Obj} {r : List (Addr × Obj)} (F0 : Fr g L h m) (N : News g L h ((a, PySem.W.listOf bv k) :: x1 :: x2 :: (tabA, tabObj #[]) :: (tabF, tabObj #[]) :: (c, oc) :: r)) (hb : m (PySem.Str.ofString "beside") = some (.ref a)) :
    ∃ bad, m (PySem.Str.ofString "beside") = some (.ref bad) ∧ News g L h [(tabA, tabObj #[]), (tabF, tabObj #[]), (c, oc), (bad, PySem.W.listOf bv k)] :=
  ⟨a, hb, fun p hp => by
    simp only [List.mem_cons, List.not_mem_nil, or_false] at hp
    rcases hp with rfl | rfl | rfl | rfl
    · exact N _ (.tail _ (.tail _ (.tail _ (.head _))))
    · exact N _ (.tail _ (.tail _ (.tail _ (.tail _ (.head _)))))
    · exact N _ (.tail _ (.tail _ (.tail _ (.tail _ (.tail _ (.head _))))))
    · exact N _ (.head _)⟩
/-- what a turn of the law's loop leaves -/
def Jl (g : Heap) (w9 : List Nat) (b : Nat) (bad : Addr) (bv : Array Value) (k : Nat) (dn : Nat) (s₀ : Shared) (i : Nat) (m : PySem.Str → Option Value) (nx : List (Addr × Obj)) (s' : Shared) : Prop :=
  ∃ p1 pf e oe t1 t2 t3, (m (PySem.Str.ofString "told") = some (.str (textOf (again sp b w9 i)) t1) ∧ m (PySem.Str.ofString "beside") = some (.ref bad) ∧ m (PySem.Str.ofString "word") = some (.str (textOf w9) t2) ∧ m (PySem.Str.ofString "depth") = some (.int (dn : Int) t3)) ∧
    nx = [(tabA, tabObj p1), (tabF, tabObj pf), (e, oe), (bad, PySem.W.listOf bv k)] ∧ TriplesOk p1.toList ∧ Stable g e oe pf ∧ @Ne Nat e tabA ∧ @Ne Nat e tabF ∧ AllBare s'.gens ∧ s'.os = s₀.os
theorem Jl.stays {g : Heap} {w9 : List Nat} {b : Nat} {bad : Addr} {bv : Array Value} {k dn : Nat} {s₀ : Shared} : ∀ i m nx (s : Shared) h tk, Jl g w9 b bad bv k dn s₀ i m nx s → Jl g w9 b bad bv k dn s₀ i m nx { s with heap := h, toks := tk } := fun _ _ _ _ _ _ x => x
theorem stable_nil {g : Heap} {e : Addr} {oe : Obj} : Stable g e oe #[] := fun _ _ _ => ⟨True.intro, fun cv e => by cases e⟩

theorem stable_of {g h : Heap} {L : Addr} {m : PySem.Str → Option Value} {ps pA : Array Value} (F : Fr g L h m) (T : TabFOk h ps) {e0 : Addr} {oe0 : Obj} (n0 : h.get? e0 = some oe0 ∧ e0 ≠ L ∧ g.get? e0 = none) (ha0 : @Ne Nat e0 tabA) (hf0 : @Ne Nat e0 tabF)
    (eA : h.get? tabA = some (tabObj pA)) (tA : TriplesOk pA.toList) (eF : h.get? tabF = some (tabObj ps)) {I : Addr} {io : Obj} (eI : h.get? I = some io) (hio : ∃ a b c, io.data = .fields #[rawInt a, rawInt b, rawInt c]) (hI0 : @Ne Nat e0 I) :
    ∃ e oe, (h.get? e = some oe ∧ e ≠ L ∧ g.get? e = none) ∧ Stable g e oe ps ∧ @Ne Nat e tabA ∧ @Ne Nat e tabF ∧ @Ne Nat e I := by
  cases hf : codeAmong posF ps.toList with
  | none => exact ⟨e0, oe0, n0, fun h' _ _ => ⟨T.1, fun cv e => by rw [hf] at e; cases e⟩, ha0, hf0, hI0⟩
  | some cv =>
    obtain ⟨c, rfl, c', o, vs, t, e2, ho, hd, hv⟩ := T.2 cv hf
    cases e2
    cases hg : g.get? c with
    | some o' =>
      have h1 := F.keep _ _ hg
      rw [ho] at h1
      cases h1
      exact ⟨e0, oe0, n0, fun h' kp _ => ⟨T.1, fun cv e => by rw [hf] at e; cases e; exact ⟨c, rfl, c, o, vs, t, rfl, kp _ _ hg, hd, hv⟩⟩, ha0, hf0, hI0⟩
    | none =>
      refine ⟨c, o, ⟨ho, fun q => ?_, hg⟩, fun h' _ he => ⟨T.1, fun cv e => by rw [hf] at e; cases e; exact ⟨c, rfl, c, o, vs, t, rfl, he, hd, hv⟩⟩, rec_ne eA tA ho hd hv, rec_ne eF T.1 ho hd hv, fun q => ?_⟩
      · obtain ⟨oL, es, ep, e, hdl, _⟩ := F.ns
        rw [← q, ho] at e
        cases e
        rw [hd] at hdl
        cases hdl
      · obtain ⟨x1, x2, x3, hx⟩ := hio
        have q' : c = I := q
        rw [← q', ho] at eI
        cases eI
        rw [hd] at hx
        cases hx
        cases hv

section
variable {prog : Program} {w : World} {A : Around} {E : Value → Shared → Prop} {s : Shared} {a b : Int} {t u : Tok} {Q : Value → Shared → Prop}
theorem pow_due (hn : 0 ≤ b) (hn2 : b ≤ 1000000) (h : ∀ t k, Q (.int (2 ^ b.toNat) t) { s with toks := k }) : wpAny (model prog w) A (binaryOp .Pow (.int 2 t) (.int b u)) Q E s := pow_int_small hn hn2 (by decide) (h _ _)
theorem mul_due (h : ∀ t k, Q (.int (a * b) t) { s with toks := k }) (hm : IntMulOk a b := by mul_fits) : wpAny (model prog w) A (binaryOp .Mult (.int a t) (.int b u)) Q E s := PyProof.Rows.mul_int (h _ _) hm
theorem add_due (h : ∀ t k, Q (.int (a + b) t) { s with toks := k }) : wpAny (model prog w) A (binaryOp .Add (.int a t) (.int b u)) Q E s := PyProof.Rows.add_int (h _ _)
theorem sub_due (h : ∀ t k, Q (.int (a - b) t) { s with toks := k }) : wpAny (model prog w) A (binaryOp .Sub (.int a t) (.int b u)) Q E s := PyProof.Rows.sub_int (h _ _)
end
theorem eq_strB {prog : Program} {w : World} {A : Around} {E : Value → Shared → Prop} {s : Shared} {x y : PySem.Str} {t u : Tok} {b : Bool} {Q : Value → Shared → Prop} (e : (x == y) = b) (h : Q (.bool b) s) : wpAny (model prog w) A (compareOp .Eq (.str x t) (.str y u)) Q E s :=
  eq_str (by rw [e]; exact h)
end Mine
end

/- the law's walk -/
section
open PySem PySem.W PySem.Calls PyProof.Rows
set_option maxRecDepth 100000
set_option maxHeartbeats 4000000
namespace Mine
/-- a mark: the walk has come past a stop -/
def Seen (_ : Nat) : Prop := True
theorem Seen.mk {n : Nat} : Seen n := True.intro
section
local macro_rules | `(tactic| walk_at "exec Assign") => `(tactic| ((fail_if_success (rename Seen 1 => zz)); (with_reducible show wpAny _ _ (exec (Stmt.Assign [Expr.Tuple _ _ _] _ _) _) _ _ _); refine Stop.mk ?_))
local macro_rules | `(tactic| walk_at "CompSrc") => `(tactic| ((rename Seen 1 => zz); refine Stop.mk ?_))
local macro_rules | `(tactic| walk_at "CompEnd") => `(tactic| ((rename Seen 1 => zz); refine Stop.mk ?_))
local macro_rules | `(tactic| walk_at "exec For Name Call cons nil") => `(tactic| (refine Stop.mk ?_))
local macro_rules | `(tactic| walk_at "compareOp NotEq ref ref") => `(tactic| (refine Stop.mk ?_))
local macro_rules | `(tactic| walk_at "compareOp Eq str str") => `(tactic| (refine Stop.mk ?_))
local macro_rules | `(tactic| walk_at "binaryOp Pow int int") => `(tactic| ((rename Due _ _ _ _ _ => zz); refine pow_due (by omega) (by omega) ?_; intro _ _; try dsimp only))
local macro_rules | `(tactic| walk_at "binaryOp Mult int int") => `(tactic| ((rename Due _ _ _ _ _ => zz); refine mul_due ?_; intro _ _; try dsimp only))
local macro_rules | `(tactic| walk_at "binaryOp Add int int") => `(tactic| ((rename Due _ _ _ _ _ => zz); refine add_due ?_; intro _ _; try dsimp only))
local macro_rules | `(tactic| walk_at "binaryOp Sub int int") => `(tactic| ((rename Due _ _ _ _ _ => zz); refine sub_due ?_; intro _ _; try dsimp only))
theorem law_walk {w : World} {mg mb : PySem.Str → Option Value} {p : Program} {loose : List PySem.Str} {mean : ExcName → Option Value} {s : Shared} {l : Addr} {vals : List Value} {xs : List Int} {R : Result → Shared → Prop} (G : Gd w mg mb s.heap) (e1 : s.heap.get? tabA = some (tabObj #[])) (ef : s.heap.get? tabF = some (tabObj #[])) (hg : s.gens = #[])
    (T : Top p loose mean mg mb (hideAll s.heap [tabA, tabF])) (hl : s.heap.IsList l vals.toArray) (hI : IntsAre vals xs) (hxs : xs.length ≤ 63)
    (hR : ∀ s' t, (∀ b o, s.heap.get? b = some o → b ≠ tabA → b ≠ tabF → s'.heap.get? b = some o) → (∃ ps, s'.heap.get? tabA = some (tabObj ps)) → (∃ ps, s'.heap.get? tabF = some (tabObj ps)) → s'.os = s.os → AllBare s'.gens → t = true → R (.ok (.ret (.bool t))) s') : (hd.heap_39 w.params).In s.heap → codeAny (model PySem.Challenge.rw_em5012_01.row.prog w) callerA (.call (.ref 764) ⟨[.ref l], []⟩) R s := by
  w_top off
  k_fill
  intro X
  have hnl : s.heap.NoLimit := by
    obtain ⟨p, lo, T⟩ := G.T
    exact T.nolimit
  refine' enter_cells [tabA, tabF] (binds := [(PySem.Str.ofString "script", .ref l)]) X hnl ?k6 ?k7 (by decide) ?k9 ?kB ?kD ?_ ?c2 ?c3 ?c4
  case k6 => k_is
  case k7 => k_is
  case k9 => exact BindsTo.of_eq rfl
  case kB => exact rfl
  case kD => decide +kernel
  case c2 => exact rfl
  case c3 => exact rfl
  case c4 => exact rfl
  intro h₁ tk cells F N Y st
  k_cells Y
  have N := hid_news (.tail _ (.head _)) ef F st N
  have N := hid_news (.head _) e1 F st N
  have G' := Gd.hide fewAF (fun _ => ⟨_, e1⟩) (fun _ => ⟨_, ef⟩) G
  have Xg := G'.X
  have bmg := G'.bm
  have hlg : (hideAll s.heap [tabA, tabF]).IsList l vals.toArray := by
    obtain ⟨o, e, hc, r⟩ := hl
    refine ⟨o, hideAll_get _ e fun q => ?_, hc, r⟩
    rcases List.mem_cons.mp q with rfl | q
    · rw [e1] at e; cases e; cases hc
    · rw [List.mem_singleton.mp q, ef] at e; cases e; cases hc
  clear X G
  generalize hgb : hideAll s.heap [tabA, tabF] = g at F N Xg T bmg hlg G'
  k_steps
  rename IntsAre _ (List.map _ _) => hD
  rename List Value => ys
  obtain ⟨d0, d1, d2, d3, d4, d5, hE⟩ : ∃ d0 d1 d2 d3 d4 d5 : Int, IntsAre ys [d0, d1, d2, d3, d4, d5] := ⟨_, _, _, _, _, _, hD⟩
  clear hD
  try clear hlg
  try (rename IntsAre vals xs => hI5; clear hI5)
  have hseen : Seen 1 := Seen.mk
  refine Stop.out ?_
  k_steps
  rename IntsAre _ (List.take _ _) => hW
  rename List Value => ws
  obtain ⟨ns, hns, hnl⟩ : ∃ ns : List Int, IntsAre ws ns ∧ ns.length ≤ 4 := ⟨_, hW, by
    rw [List.length_take, List.length_drop]
    show min (min _ 6 - 2) (6 - 2) ≤ 4
    omega⟩
  clear hW
  have hwl : ws.length ≤ 4 := by rw [hns.length]; exact hnl
  refine Stop.out ?_
  refine LCg.CompSrc.ledger rfl (by k_asm) (by k_asm) (by k_mem) (by rw [PySem.sizeLine_eq, List.size_toArray]; omega) ?_
  intro g'
  refine kct_list pick hns (fun k' t' I' oI' C' oC' D' m' ys' h' tk' E' hk' hC' hx' F' N' off' ne' => ?_) ?_
  · show KPfMark → _
    intro hMark'
    k_steps
    exact Stop.out ⟨_, _, _, rfl, F', N', off', .inr ⟨_, .head _, rfl, _, rfl⟩, rfl, _, rfl⟩
  · refine id (α := KPfDone _) ?_
    unfold KPfDone
    intro ys2 hC2 hl2
    have hS2 := hC2.strsOf
    rw [pick_map] at hS2
    clear hC2 hl2
    k_steps
    rename Fr _ _ _ _ => F7
    rename News _ _ _ _ => N7
    refine join_list (News.isList N7 (.head _)) hS2 (ones_fit (by rw [List.length_map]; omega)) ?_
    intro tj kj
    rw [join_ones]
    obtain ⟨b, bv, hb3, hbs, hmb⟩ := pick_bes N7
    clear N7
    k_steps
    rename Fr _ _ _ _ => F8
    rename News _ _ _ _ => N8
    obtain ⟨dn, hdn, hd1, hd5⟩ := depth_nat ([d0, d1, d2, d3, d4, d5].getD (Int.toNat 0) 0)
    rw [hdn] at F8
    have hw9 : (ns.map sgn).length ≤ 4 := by rw [List.length_map]; exact hnl
    have hw8 : ∀ c ∈ ns.map sgn, c ∈ [97, 98, 32, 34, 92, 123, 125, 44] := fun c hc => by
      obtain ⟨k, _, rfl⟩ := List.mem_map.mp hc
      exact sgn_mem k
    generalize ns.map sgn = w9 at F8 hw9 hw8
    obtain ⟨bad, mb1, N9⟩ := ledger_for F8 N8 rfl
    clear N8
    refine Stop.out ?_
    have hlt1 : @LT.lt Nat _ tabA s.heap.objs.size := Heap.lt_size e1
    have hlt2 : @LT.lt Nat _ tabF s.heap.objs.size := Heap.lt_size ef
    refine For_rangeG (h₀ := g) (n := dn) (Jl g w9 b bad bv 0 dn s) Jl.stays rfl rfl rfl ?_
    k_steps
    rename IsRange _ _ _ _ _ _ _ _ => hrg
    rename Fr _ _ _ _ => F10
    rename News _ _ _ _ => N10
    have hsm : Builtin.Range.small 0 (dn : Int) 1 = true ∧ Builtin.Range.rangeSize 0 (dn : Int) 1 = (dn : Int) := by
      have h5 : dn = 1 ∨ dn = 2 ∨ dn = 3 ∨ dn = 4 ∨ dn = 5 := by omega
      rcases h5 with rfl | rfl | rfl | rfl | rfl <;> exact ⟨by decide, by decide⟩
    have hg0 : AllBare s.gens := .of_eq hg
    refine ⟨_, _, _, _, _, _, rfl, hrg, hsm.1, hsm.2, F10, N10, ⟨#[], #[], _, _, _, _, _, ⟨rfl, mb1, rfl, rfl⟩, rfl, True.intro, stable_nil, Nat.ne_of_gt (Nat.lt_succ_of_lt hlt1), Nat.ne_of_gt (Nat.lt_succ_of_lt hlt2), hg0, rfl⟩, ?_, ?_⟩
    · clear F10 N10 mb1 hrg
      rintro i m₁ news₁ s₂ t I io hI hi ⟨p1, pf, e, oe, t1, t2, t3, ⟨m1, m2, m3, m4⟩, rfl, ht1, hst, he1, he2, hgb', hos⟩ hne hio F11 N11
      obtain ⟨u, rfl⟩ := map_at4 m1 m2 m3 m4
      clear m1 m2 m3 m4
      k_steps
      rename Fr _ _ _ _ => F12
      rename News _ _ _ _ => N12
      have hbz : bv.toList.length ≤ 2 := by
        rcases hbs with ⟨_, rfl⟩ | ⟨_, rfl⟩ | ⟨_, t, rfl⟩ <;> simp
      refine kmk_add_lit (zs := Value.str (textOf (again sp b w9 i)) t1 :: bv.toList) F12 N12 (News.isList N12 (.head _)) (News.isList N12 (.tail _ (.tail _ (.tail _ (.tail _ (.tail _ (.head _))))))) rfl (fun D13 h13 F13 N13 l13 => ?_) (by rw [PySem.sizeLine_eq]; show 1 + bv.toList.length ≤ _; omega)
      clear F12 N12
      have hai : (again sp b w9 i).length ≤ 1000 := by
        have h1 := length_again sp b w9 i
        have h2 : 2 ^ i ≤ 2 ^ 4 := Nat.pow_le_pow_right (by decide) (by omega)
        have h3 : 2 ^ i * (w9.length + 11) ≤ 2 ^ 4 * 15 := Nat.mul_le_mul h2 (by omega)
        omega
      obtain ⟨it1, it2, it3⟩ := items_told (t := t1) hbs (show (again sp b w9 i).length ≤ 1048576 by omega)
      k_steps
      refine wpAny_call (out_list (G'.fr F13) ⟨p1, (N13 _ (.tail _ (.tail _ (.tail _ (.head _))))).1, ht1⟩ hgb' (show callerA.depth + 1 + 3 < recursionLimit by decide) rfl (News.isList N13 (.head _)) it1 it2 it3 (items_fit (show (again sp b w9 i).length ≤ 1048576 by omega)) (fun s3 t3' Z => ?_) (G'.fr F13).X)
      rw [items_joined hb3]
      obtain ⟨q1, eq1, tq1⟩ := Z.t1
      have N14 : News g s.heap.objs.size h13 [(tabA, tabObj p1), (I, io), (tabF, tabObj pf), (e, oe), (bad, PySem.W.listOf bv 0)] := fun p hp => by
        simp only [List.mem_cons, List.not_mem_nil, or_false] at hp
        rcases hp with rfl | rfl | rfl | rfl | rfl
        · exact N13 _ (.tail _ (.tail _ (.tail _ (.head _))))
        · exact N13 _ (.tail _ (.tail _ (.head _)))
        · exact N13 _ (.tail _ (.tail _ (.tail _ (.tail _ (.head _)))))
        · exact N13 _ (.tail _ (.tail _ (.tail _ (.tail _ (.tail _ (.head _))))))
        · exact N13 _ (.tail _ (.tail _ (.tail _ (.tail _ (.tail _ (.tail _ (.head _)))))))
      have hIA : @Ne Nat I tabA := Ne.symm (hne _ (.head _))
      have hbA : @Ne Nat bad tabA := fun q => by
        have a1 := (N14 _ (.tail _ (.tail _ (.tail _ (.tail _ (.head _)))))).1
        have a2 := (N14 _ (.head _)).1
        have q' : bad = tabA := q
        dsimp only at a1 a2
        rw [q', a2] at a1
        cases a1
      obtain ⟨F15, N15⟩ := back_fr Z.keep eq1 F13 N14 (fun p hp => by
        simp only [List.mem_cons, List.not_mem_nil, or_false] at hp
        rcases hp with rfl | rfl | rfl | rfl
        · exact hIA
        · show tabF ≠ tabA
          decide
        · exact he1
        · exact hbA)
      clear F13 N13 N14
      k_steps
      rename Fr _ _ _ _ => F16
      rename News _ _ _ _ => N16
      rename Heap => h16
      have hw0 : ∀ c ∈ w9, c < 1114112 := fun c hc => by
        have h1 := hw8 c hc
        simp only [List.mem_cons, List.not_mem_nil, or_false] at h1
        omega
      have hsm9 := small_again (b := b) hb3 hw0 i
      obtain ⟨bf, hrun⟩ := run_text sp b hb3 (again sp b w9 i)
      have eF16 := N16 _ (.tail _ (.tail _ (.head _)))
      have eE16 := N16 _ (.tail _ (.tail _ (.tail _ (.head _))))
      have htl : (text sp b (again sp b w9 i)).length ≤ 1048576 := by
        have h1 := length_text sp b (again sp b w9 i)
        omega
      refine wpAny_call (sain_code (G'.fr F16) ⟨pf, eF16.1, hst _ F16.keep eE16.1⟩ (show callerA.depth + 1 + 4 < recursionLimit by decide) (by simp only [Around.deeper_units]; decide) rfl htl hrun (fun s4 ka iv ni Z4 hka hka4 hv4 => ?_) (G'.fr F16).X)
      obtain ⟨pf4, eF4, tF4⟩ := Z4.t2
      have hgka : g.get? ka = none := by
        cases q : g.get? ka with
        | none => rfl
        | some o => rw [F16.keep _ _ q] at hka; cases hka
      have hLka : ka ≠ s.heap.objs.size := fun q => by
        obtain ⟨oL, es, ep, e, _⟩ := F16.ns
        rw [q] at hka
        have e' : h16.get? s.heap.objs.size = some oL := e
        rw [e'] at hka
        cases hka
      have hIF : @Ne Nat I tabF := Ne.symm (hne _ (.tail _ (.head _)))
      have hbF : @Ne Nat bad tabF := fun q => by
        have a1 := (N16 _ (.tail _ (.tail _ (.tail _ (.tail _ (.head _)))))).1
        have a2 := eF16.1
        have q' : bad = tabF := q
        dsimp only at a1 a2
        rw [q', a2] at a1
        cases a1
      have N17 : News g s.heap.objs.size h16 [(tabF, tabObj pf), (tabA, tabObj q1), (I, io), (e, oe), (bad, PySem.W.listOf bv 0)] := fun p hp => by
        simp only [List.mem_cons, List.not_mem_nil, or_false] at hp
        rcases hp with rfl | rfl | rfl | rfl | rfl
        · exact eF16
        · exact N16 _ (.head _)
        · exact N16 _ (.tail _ (.head _))
        · exact eE16
        · exact N16 _ (.tail _ (.tail _ (.tail _ (.tail _ (.head _)))))
      obtain ⟨F18, N18⟩ := back_fr Z4.keep eF4 F16 N17 (fun p hp => by
        simp only [List.mem_cons, List.not_mem_nil, or_false] at hp
        rcases hp with rfl | rfl | rfl | rfl
        · show tabA ≠ tabF
          decide
        · exact hIF
        · exact he2
        · exact hbF)
      obtain ⟨e4, oe4, nE4, hst4, he41, he42, he43⟩ := stable_of F18 tF4 (N18 _ (.tail _ (.tail _ (.tail _ (.head _))))) he1 he2 (N18 _ (.tail _ (.head _))).1 tq1 eF4 (N18 _ (.tail _ (.tail _ (.head _)))).1 hio (hne _ (.tail _ (.tail _ (.head _))))
      have N19 : News g s.heap.objs.size s4.heap [(ka, PySem.W.listOf iv ni), (tabF, tabObj pf4), (tabA, tabObj q1), (I, io), (e4, oe4), (bad, PySem.W.listOf bv 0)] := fun p hp => by
        simp only [List.mem_cons, List.not_mem_nil, or_false] at hp
        rcases hp with rfl | rfl | rfl | rfl | rfl | rfl
        · exact ⟨hka4, hLka, hgka⟩
        · exact N18 _ (.head _)
        · exact N18 _ (.tail _ (.head _))
        · exact N18 _ (.tail _ (.tail _ (.head _)))
        · exact nE4
        · exact N18 _ (.tail _ (.tail _ (.tail _ (.tail _ (.head _)))))
      have hos4 : s4.os = s.os := by
        rw [Z4.os]
        show s3.os = s.os
        rw [Z.os]
        exact hos
      have hgens4 : AllBare s4.gens := by
        rw [Z4.gens]
        exact Z.gens
      clear F16 N16 N17 N18 nE4 hka4 eF16 eE16 hka hst eF4 hgka hLka
      clear Z4
      k_steps
      rename Fr _ _ _ _ => F20
      rename News _ _ _ _ => N20
      refine Stop.out (ne_items (News.isList N20 (.tail _ (.tail _ (.head _)))) (News.isList N20 (.head _)) hv4 (by simpa using bes_vals (t := t1) hbs) hb3 hsm9 (by simp only [Around.deeper_units]; decide) ?_)
      k_steps
      rename Fr _ _ _ _ => F21
      rename News _ _ _ _ => N21
      have N22 : ∀ p ∈ [(I, io), (tabA, tabObj q1), (tabF, tabObj pf4), (e4, oe4), (bad, PySem.W.listOf bv 0)], _ := fun p hp => N21 p (by
        simp only [List.mem_cons, List.not_mem_nil, or_false] at hp
        rcases hp with rfl | rfl | rfl | rfl | rfl
        · exact .tail _ (.tail _ (.tail _ (.tail _ (.tail _ (.head _)))))
        · exact .tail _ (.tail _ (.tail _ (.tail _ (.head _))))
        · exact .tail _ (.tail _ (.tail _ (.head _)))
        · exact .tail _ (.tail _ (.tail _ (.tail _ (.tail _ (.tail _ (.head _))))))
        · exact .tail _ (.tail _ (.tail _ (.tail _ (.tail _ (.tail _ (.tail _ (.head _))))))))
      refine ⟨_, _, F21, N22, fun p hp => ?_, q1, pf4, e4, oe4, _, _, _, ⟨rfl, rfl, rfl, rfl⟩, rfl, tq1, hst4, he41, he42, hgens4, hos4⟩
      simp only [List.mem_cons, List.not_mem_nil, or_false] at hp
      rcases hp with rfl | rfl | rfl | rfl
      · exact Ne.symm hIA
      · exact Ne.symm hIF
      · exact he43
      · exact hne _ (.tail _ (.tail _ (.tail _ (.head _))))
    · rintro m₁ news₁ s₂ ⟨p1, pf, e, oe, t1, t2, t3, ⟨m1, m2, m3, m4⟩, rfl, ht1, hst, he1, he2, hgb', hos⟩ F11 N11
      obtain ⟨u, rfl⟩ := map_at4 m1 m2 m3 m4
      clear m1 m2 m3 m4
      k_steps
      have hwl9 : (textOf w9).length = w9.length := textOf_length _
      have h3 := tail_ways (b := b) hw8 hd1
      have hc34 : Txt.count (textOf w9) (PySem.Str.ofString "\"") = (w9.count 34 : Int) := count_quote _
      have hc92 : Txt.count (textOf w9) (PySem.Str.ofString "\\") = (w9.count 92 : Int) := count_slash _
      have ht34 : Txt.count (textOf (again sp b w9 dn)) (PySem.Str.ofString "\"") = ((again sp b w9 dn).count 34 : Int) := count_quote _
      have ht92 : Txt.count (textOf (again sp b w9 dn)) (PySem.Str.ofString "\\") = ((again sp b w9 dn).count 92 : Int) := count_slash _
      have hl34 : w9.count 34 ≤ 4 := Nat.le_trans List.count_le_length hw9
      have hl92 : w9.count 92 ≤ 4 := Nat.le_trans List.count_le_length hw9
      have fin : ∀ h' (k : Nat) t m nx (n : Nat), Fr g s.heap.objs.size h' m → News g s.heap.objs.size h' nx → (tabA, tabObj p1) ∈ nx → (tabF, tabObj pf) ∈ nx → t = true → R (.ok (.ret (.bool t))) { heap := h', gens := s₂.gens, drawn := s₂.drawn, toks := k, os := s₂.os } := fun h' k t m nx n F N n1 n2 ht =>
        hR _ _ (fun b' o e' h1 h2 => F.keep b' o (hgb ▸ hideAll_get _ e' (fun q => by
          rcases List.mem_cons.mp q with q | q
          · exact h1 q
          · exact h2 (List.mem_singleton.mp q)))) ⟨_, (N _ n1).1⟩ ⟨_, (N _ n2).1⟩ hos hgb' ht
      rcases h3 with ⟨hn0, hc⟩ | ⟨hn0, hs0, hc⟩ | ⟨hn0, hs0, qn, hqn, hc⟩
      · refine KXt.truthy (b := false) (by rw [hwl9, hn0]; rfl) (by omega) fun k' => ?_
        k_steps
        · rename Due _ _ _ _ _ => hc
          rename Fr _ _ _ _ => F30
          rename News _ _ _ _ => N30
          refine fin _ _ _ _ _ 0 F30 N30 (.tail _ (.head _)) (.tail _ (.tail _ (.head _))) (beq_iff_eq.mpr ?_)
          rw [ht92, hc92, hc34, Int.toNat_natCast]
          exact hc.2
        · rename Due _ _ _ _ _ => hc
          rename Txt.count _ _ ≠ _ => hx
          exact absurd (by rw [ht34, hc34]; exact hc.1) hx
      · refine KXt.truthy (b := true) (by rw [hwl9, bne_iff_ne]; omega) (by omega) fun k' => ?_
        k_steps
        refine Stop.out (eq_strB (beq_eq_false_iff_ne.mpr hs0) ?_)
        k_steps
        · rename Due _ _ _ _ _ => hc
          rename Fr _ _ _ _ => F30
          rename News _ _ _ _ => N30
          refine fin _ _ _ _ _ 0 F30 N30 (.tail _ (.head _)) (.tail _ (.tail _ (.head _))) (beq_iff_eq.mpr ?_)
          rw [ht92, hc92, hc34, Int.toNat_natCast]
          exact hc.2
        · rename Due _ _ _ _ _ => hc
          rename Txt.count _ _ ≠ _ => hx
          exact absurd (by rw [ht34, hc34]; exact hc.1) hx
      · have hq1 : (dn : Int) - 1 = (qn : Int) := by omega
        refine KXt.truthy (b := true) (by rw [hwl9, bne_iff_ne]; omega) (by omega) fun k' => ?_
        k_steps
        refine Stop.out (eq_strB (beq_iff_eq.mpr hs0) ?_)
        k_steps
        · rename Due _ _ _ _ _ => hc
          rename Fr _ _ _ _ => F30
          rename News _ _ _ _ => N30
          refine fin _ _ _ _ _ 0 F30 N30 (.tail _ (.head _)) (.tail _ (.tail _ (.head _))) (beq_iff_eq.mpr ?_)
          rw [hq1, ht92, hc92, hc34, Int.toNat_natCast]
          exact hc.2
        · rename Due _ _ _ _ _ => hc
          rename Txt.count _ _ ≠ _ => hx
          exact absurd (by rw [hq1, ht34, hc34]; exact hc.1) hx
end
end Mine
end

/- names held ahead: the head then makes no twin of the objects that the top of the text never reads; without them the compiled file is over 256 MiB -/
section
namespace Mine.top
theorem tw10001883323181062329 : True := trivial
theorem tw10005945817407372193 : True := trivial
theorem tw10006222313960134694 : True := trivial
theorem tw10017263926548143515 : True := trivial
theorem tw10079171474624433434 : True := trivial
theorem tw10090393231696489298 : True := trivial
theorem tw10187724287525710026 : True := trivial
theorem tw10194810499950245846 : True := trivial
theorem tw10195997230039290492 : True := trivial
theorem tw10242591131026960117 : True := trivial
theorem tw10252623693936335467 : True := trivial
theorem tw10276331973627342096 : True := trivial
theorem tw10341860258655708415 : True := trivial
theorem tw10353446712322349686 : True := trivial
theorem tw10361075674979980167 : True := trivial
theorem tw10362775142378211054 : True := trivial
theorem tw10399464001100048223 : True := trivial
theorem tw10404823597219466188 : True := trivial
theorem tw1040915598704419856 : True := trivial
theorem tw10414433010598505635 : True := trivial
theorem tw104434173382791472 : True := trivial
theorem tw10448899703829047738 : True := trivial
theorem tw1047907039808853306 : True := trivial
theorem tw105208000716104510 : True := trivial
theorem tw1054488965285714247 : True := trivial
theorem tw10548783162686979305 : True := trivial
theorem tw10562855833978642645 : True := trivial
theorem tw10567129059001840431 : True := trivial
theorem tw10577272966987657301 : True := trivial
theorem tw10579768621468169598 : True := trivial
theorem tw10617020205504526918 : True := trivial
theorem tw10648311167861321448 : True := trivial
theorem tw10657950659306570408 : True := trivial
theorem tw1068965626710143233 : True := trivial
theorem tw10694878333477680388 : True := trivial
theorem tw10768140376307724812 : True := trivial
theorem tw10773188271377071773 : True := trivial
theorem tw10783980745131425670 : True := trivial
theorem tw10797620697341660853 : True := trivial
theorem tw10836530967397901330 : True := trivial
theorem tw10864713392326063847 : True := trivial
theorem tw10871174231137468428 : True := trivial
theorem tw10936122117785486979 : True := trivial
theorem tw10956490626425055710 : True := trivial
theorem tw10996937224433265937 : True := trivial
theorem tw11045010717311733409 : True := trivial
theorem tw11072019736110318841 : True := trivial
theorem tw1108800333578037850 : True := trivial
theorem tw11116745826364501430 : True := trivial
theorem tw1112988674713690477 : True := trivial
theorem tw11133666699803404755 : True := trivial
theorem tw11141966352661209427 : True := trivial
theorem tw11145643937294416527 : True := trivial
theorem tw11159431927160009238 : True := trivial
theorem tw11173010173815179391 : True := trivial
theorem tw11199532085631943738 : True := trivial
theorem tw11240886729373846589 : True := trivial
theorem tw1124271682379634556 : True := trivial
theorem tw11279390925490393535 : True := trivial
theorem tw11334203419191126389 : True := trivial
theorem tw11334350811105764591 : True := trivial
theorem tw11334415319851112604 : True := trivial
theorem tw11377482038585738817 : True := trivial
theorem tw11383000496634168614 : True := trivial
theorem tw11384800866962632227 : True := trivial
theorem tw1139600151236580504 : True := trivial
theorem tw11423202765487971197 : True := trivial
theorem tw11430207588045935325 : True := trivial
theorem tw11443710868159068359 : True := trivial
theorem tw11457754044182789617 : True := trivial
theorem tw11459358961799972967 : True := trivial
theorem tw11468358511172941013 : True := trivial
theorem tw11470690223818410786 : True := trivial
theorem tw114735475811551136 : True := trivial
theorem tw1147548669246485465 : True := trivial
theorem tw1149218181149386328 : True := trivial
theorem tw11520865232209809239 : True := trivial
theorem tw11542710104232473196 : True := trivial
theorem tw11577829705659331004 : True := trivial
theorem tw11582926029173025856 : True := trivial
theorem tw11592465598724292549 : True := trivial
theorem tw11593399256984752444 : True := trivial
theorem tw11613256710310857696 : True := trivial
theorem tw1169771345039838236 : True := trivial
theorem tw11760055953109336660 : True := trivial
theorem tw11779653239440661071 : True := trivial
theorem tw11858546649754279707 : True := trivial
theorem tw1186331607622873149 : True := trivial
theorem tw11917448952958348678 : True := trivial
theorem tw11922380849998532372 : True := trivial
theorem tw1192657577511650299 : True := trivial
theorem tw1195175773429642966 : True := trivial
theorem tw11960245374511038805 : True := trivial
theorem tw11982747722937265360 : True := trivial
theorem tw12012865196380796599 : True := trivial
theorem tw12033610942823940228 : True := trivial
theorem tw12094960947251128927 : True := trivial
theorem tw1209819496270969543 : True := trivial
theorem tw12105128591322288922 : True := trivial
theorem tw12166907935582030026 : True := trivial
theorem tw12210559395081530917 : True := trivial
theorem tw12218787953657430602 : True := trivial
theorem tw12317137736924338119 : True := trivial
theorem tw12340227926317113386 : True := trivial
theorem tw12342655685612074800 : True := trivial
theorem tw1236304545764765349 : True := trivial
theorem tw12376051458212225564 : True := trivial
theorem tw12379415707883124570 : True := trivial
theorem tw12385144161495827662 : True := trivial
theorem tw12392516345856041104 : True := trivial
theorem tw12415523145999629524 : True := trivial
theorem tw12425085872883035938 : True := trivial
theorem tw12427389293880184781 : True := trivial
theorem tw12443789822770055382 : True := trivial
theorem tw12483720753089274532 : True := trivial
theorem tw12507017104952529904 : True := trivial
theorem tw12535971307161669396 : True := trivial
theorem tw12540527436937284434 : True := trivial
theorem tw12545222027267286695 : True := trivial
theorem tw12559286593441436923 : True := trivial
theorem tw12564220515667953714 : True := trivial
theorem tw12622177474791663080 : True := trivial
theorem tw12638030207367898728 : True := trivial
theorem tw12643491718579748851 : True := trivial
theorem tw12643520174271941249 : True := trivial
theorem tw12734148187753135964 : True := trivial
theorem tw12751139281825843639 : True := trivial
theorem tw1275901062530889299 : True := trivial
theorem tw12777601194060584777 : True := trivial
theorem tw12783364522390391256 : True := trivial
theorem tw12787338502077490372 : True := trivial
theorem tw12819366960792805191 : True := trivial
theorem tw1284575025550258836 : True := trivial
theorem tw12879618353801967718 : True := trivial
theorem tw12904532413392791838 : True := trivial
theorem tw1291508964198565346 : True := trivial
theorem tw1294077662247117797 : True := trivial
theorem tw12958502747184954254 : True := trivial
theorem tw13001836021917841797 : True := trivial
theorem tw13012589842206080548 : True := trivial
theorem tw1304757597395314617 : True := trivial
theorem tw13047834502658803893 : True := trivial
theorem tw13068111086705522682 : True := trivial
theorem tw13090165191389475591 : True := trivial
theorem tw13120753694373217308 : True := trivial
theorem tw13134186033006778460 : True := trivial
theorem tw13160728816969591200 : True := trivial
theorem tw13177472732611162249 : True := trivial
theorem tw1321871150748368714 : True := trivial
theorem tw13261893007816960818 : True := trivial
theorem tw13264354339760550358 : True := trivial
theorem tw13272337422414781067 : True := trivial
theorem tw13290321428070320777 : True := trivial
theorem tw13303987763403120937 : True := trivial
theorem tw13307591127769906961 : True := trivial
theorem tw13326734554550294991 : True := trivial
theorem tw13345470168829271861 : True := trivial
theorem tw13369591340354186047 : True := trivial
theorem tw13370185576492129568 : True := trivial
theorem tw13385244156195431271 : True := trivial
theorem tw13420762306968818387 : True := trivial
theorem tw13432635357386499347 : True := trivial
theorem tw13500427573557490136 : True := trivial
theorem tw13501252493785611398 : True := trivial
theorem tw1353657120722975067 : True := trivial
theorem tw13549259019975226677 : True := trivial
theorem tw13571448547899197161 : True := trivial
theorem tw13706816188851595723 : True := trivial
theorem tw13710211086531791108 : True := trivial
theorem tw13713866747541496747 : True := trivial
theorem tw13759081321499198575 : True := trivial
theorem tw13799840507378627052 : True := trivial
theorem tw13822267516522204269 : True := trivial
theorem tw13830271770371739309 : True := trivial
theorem tw13864677062968915208 : True := trivial
theorem tw13889309363888878346 : True := trivial
theorem tw13896958669275611876 : True := trivial
theorem tw13901205277877782832 : True := trivial
theorem tw13902025155065610156 : True := trivial
theorem tw13915387964903991752 : True := trivial
theorem tw13922054642007902626 : True := trivial
theorem tw1394568958698188020 : True := trivial
theorem tw13975414291046593716 : True := trivial
theorem tw13983857475226248213 : True := trivial
theorem tw13987285891283452908 : True := trivial
theorem tw13990698242589431971 : True := trivial
theorem tw13994475860397038760 : True := trivial
theorem tw14042817526060737062 : True := trivial
theorem tw14065501367340364311 : True := trivial
theorem tw14142502885225118848 : True := trivial
theorem tw14145802354927516647 : True := trivial
theorem tw14214845130331304391 : True := trivial
theorem tw14235281626263879747 : True := trivial
theorem tw14263998999751124003 : True := trivial
theorem tw14317375437502057738 : True := trivial
theorem tw14371913498598963198 : True := trivial
theorem tw14372152842798730730 : True := trivial
theorem tw14399976873020721970 : True := trivial
theorem tw14450715343900746980 : True := trivial
theorem tw14453841093610474573 : True := trivial
theorem tw14459580976405569124 : True := trivial
theorem tw14466935161476858967 : True := trivial
theorem tw14537839394382259888 : True := trivial
theorem tw14597223018079223185 : True := trivial
theorem tw14608685727046917156 : True := trivial
theorem tw14611434983143301774 : True := trivial
theorem tw14615657086365298920 : True := trivial
theorem tw14632489290957082403 : True := trivial
theorem tw14645912567700417926 : True := trivial
theorem tw14657780768301432306 : True := trivial
theorem tw146815374380898660 : True := trivial
theorem tw14697636140705633519 : True := trivial
theorem tw14705559076539443318 : True := trivial
theorem tw14724332232928298890 : True := trivial
theorem tw14747140909534839006 : True := trivial
theorem tw14762295962024373759 : True := trivial
theorem tw14789260269991461300 : True := trivial
theorem tw14823308797102314842 : True := trivial
theorem tw14826035006057030972 : True := trivial
theorem tw1483126911874232274 : True := trivial
theorem tw14851680436948445374 : True := trivial
theorem tw14901070454687303710 : True := trivial
theorem tw14987219478266130788 : True := trivial
theorem tw15008207993883188931 : True := trivial
theorem tw15029563650323070435 : True := trivial
theorem tw15058813355848621054 : True := trivial
theorem tw15073315481182737699 : True := trivial
theorem tw15092371282622821202 : True := trivial
theorem tw15095372191486117680 : True := trivial
theorem tw1516213087968936877 : True := trivial
theorem tw15169761463676818070 : True := trivial
theorem tw15177526630643400193 : True := trivial
theorem tw15212760480394562756 : True := trivial
theorem tw1522322319653140107 : True := trivial
theorem tw15240379268576122478 : True := trivial
theorem tw15254643099363442306 : True := trivial
theorem tw15271675978053873483 : True := trivial
theorem tw15286249088069653756 : True := trivial
theorem tw15299407806266782574 : True := trivial
theorem tw15349318334595610263 : True := trivial
theorem tw15361541807878343388 : True := trivial
theorem tw15362295582089109014 : True := trivial
theorem tw15383718091736126541 : True := trivial
theorem tw15451780782824253742 : True := trivial
theorem tw15503665604740900718 : True := trivial
theorem tw15508944514630427714 : True := trivial
theorem tw1551491737661789689 : True := trivial
theorem tw15542334942015070624 : True := trivial
theorem tw15569959144833144457 : True := trivial
theorem tw1559226430018442191 : True := trivial
theorem tw15646934709686841381 : True := trivial
theorem tw15687709949711836451 : True := trivial
theorem tw15696354942287192291 : True := trivial
theorem tw15735037969156040135 : True := trivial
theorem tw15740088241188596515 : True := trivial
theorem tw15740948416001004644 : True := trivial
theorem tw15744752440731449612 : True := trivial
theorem tw15799541711010589177 : True := trivial
theorem tw1584292188352093569 : True := trivial
theorem tw15860264024139754761 : True := trivial
theorem tw15874363893724204672 : True := trivial
theorem tw15878805988109762761 : True := trivial
theorem tw15911569825323301435 : True := trivial
theorem tw15918733279669447828 : True := trivial
theorem tw15976228082101565994 : True := trivial
theorem tw15985680467844229196 : True := trivial
theorem tw1601500998369573665 : True := trivial
theorem tw16034636559557993077 : True := trivial
theorem tw16044733080236030384 : True := trivial
theorem tw16054190913257422852 : True := trivial
theorem tw16068562728529669930 : True := trivial
theorem tw16085473023203611486 : True := trivial
theorem tw16123964013534891561 : True := trivial
theorem tw16149628235652541579 : True := trivial
theorem tw16155163154822807229 : True := trivial
theorem tw16166457384891526456 : True := trivial
theorem tw1617357707322924660 : True := trivial
theorem tw16174758807025615021 : True := trivial
theorem tw16204670001084760307 : True := trivial
theorem tw16240068400928781132 : True := trivial
theorem tw16258771989139608452 : True := trivial
theorem tw16262243036561855896 : True := trivial
theorem tw16281582537960229878 : True := trivial
theorem tw16342770487823414484 : True := trivial
theorem tw16352630495959832749 : True := trivial
theorem tw1638113669730673903 : True := trivial
theorem tw16415559393655328363 : True := trivial
theorem tw16420938139371093754 : True := trivial
theorem tw16439428074185983240 : True := trivial
theorem tw16453443671601555132 : True := trivial
theorem tw16542083797698202722 : True := trivial
theorem tw1655259298481077034 : True := trivial
theorem tw16597617366809209970 : True := trivial
theorem tw16612331741718818515 : True := trivial
theorem tw16656781636731879198 : True := trivial
theorem tw16659674399394625376 : True := trivial
theorem tw16663787254893796032 : True := trivial
theorem tw16674975167109581930 : True := trivial
theorem tw1670607248958778201 : True := trivial
theorem tw16713831800681072344 : True := trivial
theorem tw16719718919923625709 : True := trivial
theorem tw16734371015571099844 : True := trivial
theorem tw16759092144687519636 : True := trivial
theorem tw16770000883354449096 : True := trivial
theorem tw16782997733028217545 : True := trivial
theorem tw16793365374058956912 : True := trivial
theorem tw16795567611416646642 : True := trivial
theorem tw16800595933775061595 : True := trivial
theorem tw16809779246217341487 : True := trivial
theorem tw16821654228018055803 : True := trivial
theorem tw16836452506482946331 : True := trivial
theorem tw16866024460163772082 : True := trivial
theorem tw16885616592811714743 : True := trivial
theorem tw16896751376397280635 : True := trivial
theorem tw1697544655201012999 : True := trivial
theorem tw16982378080980825192 : True := trivial
theorem tw16994376123345812558 : True := trivial
theorem tw17009415399725018624 : True := trivial
theorem tw17030962893124633753 : True := trivial
theorem tw17046948494117081484 : True := trivial
theorem tw17050326753033342646 : True := trivial
theorem tw17089494485692210459 : True := trivial
theorem tw17103177528636943170 : True := trivial
theorem tw17103585973383926153 : True := trivial
theorem tw17104280840954017025 : True := trivial
theorem tw17135812771915316397 : True := trivial
theorem tw17160434163424456010 : True := trivial
theorem tw17176029603704830031 : True := trivial
theorem tw17177869089781658578 : True := trivial
theorem tw17219337458794519322 : True := trivial
theorem tw17226846203573267761 : True := trivial
theorem tw17315540178315561739 : True := trivial
theorem tw1732150942055357024 : True := trivial
theorem tw17346259052997144950 : True := trivial
theorem tw17355269125676882429 : True := trivial
theorem tw1736530178072539846 : True := trivial
theorem tw17366924284538989914 : True := trivial
theorem tw17428532607074087071 : True := trivial
theorem tw17444329988762607307 : True := trivial
theorem tw17469865338272021226 : True := trivial
theorem tw17470836177267949868 : True := trivial
theorem tw17474498911051797155 : True := trivial
theorem tw17486766287000646611 : True := trivial
theorem tw17492772389151264855 : True := trivial
theorem tw17542608870123051758 : True := trivial
theorem tw17555251805378815213 : True := trivial
theorem tw17565814175750979855 : True := trivial
theorem tw17576949682797635024 : True := trivial
theorem tw17582957951858275007 : True := trivial
theorem tw17594962761535629368 : True := trivial
theorem tw17709558473723601244 : True := trivial
theorem tw17741875731164886585 : True := trivial
theorem tw17774833976778514315 : True := trivial
theorem tw17781115878593249900 : True := trivial
theorem tw17783859843131274014 : True := trivial
theorem tw17785818512168800811 : True := trivial
theorem tw17795014544551873601 : True := trivial
theorem tw17807222030613408314 : True := trivial
theorem tw17810072253543177317 : True := trivial
theorem tw17828378304095215089 : True := trivial
theorem tw17916939684832112104 : True := trivial
theorem tw17953984050398360512 : True := trivial
theorem tw17981982808018919739 : True := trivial
theorem tw18008055252877512497 : True := trivial
theorem tw1803303928475200142 : True := trivial
theorem tw18034075008235765660 : True := trivial
theorem tw18063644159110109576 : True := trivial
theorem tw18085771088847121727 : True := trivial
theorem tw18134043772397237400 : True := trivial
theorem tw1814787853859245837 : True := trivial
theorem tw18164388396756303480 : True := trivial
theorem tw18186074749648716422 : True := trivial
theorem tw18201758440048473509 : True := trivial
theorem tw18289109515434150305 : True := trivial
theorem tw1833847959688406909 : True := trivial
theorem tw18367679650794681301 : True := trivial
theorem tw18374746225686918389 : True := trivial
theorem tw1843344800811705456 : True := trivial
theorem tw1867163669062818997 : True := trivial
theorem tw1869187583165140508 : True := trivial
theorem tw1886144042066472794 : True := trivial
theorem tw1897025099450329940 : True := trivial
theorem tw196536941598035525 : True := trivial
theorem tw1971433849790844608 : True := trivial
theorem tw1974259917200649262 : True := trivial
theorem tw1988063486488863061 : True := trivial
theorem tw2029088862249889922 : True := trivial
theorem tw2063449620868658059 : True := trivial
theorem tw2103985501979894447 : True := trivial
theorem tw2104741419117168686 : True := trivial
theorem tw2105017259488925948 : True := trivial
theorem tw2126296398998916975 : True := trivial
theorem tw2145171640123136144 : True := trivial
theorem tw216529984938456764 : True := trivial
theorem tw2165817408578904141 : True := trivial
theorem tw2218668502564051296 : True := trivial
theorem tw2220570432770164149 : True := trivial
theorem tw2267912224990424062 : True := trivial
theorem tw2287362676942042354 : True := trivial
theorem tw2287823674025257028 : True := trivial
theorem tw2369445192022557226 : True := trivial
theorem tw2377541652452675900 : True := trivial
theorem tw2417791160451022400 : True := trivial
theorem tw2443449257678562572 : True := trivial
theorem tw2446451932059125521 : True := trivial
theorem tw2446586112883488508 : True := trivial
theorem tw2462062305354472974 : True := trivial
theorem tw2464713573024523455 : True := trivial
theorem tw2502181453436431679 : True := trivial
theorem tw2506305409684761478 : True := trivial
theorem tw2514443458684651071 : True := trivial
theorem tw2529601377429677153 : True := trivial
theorem tw2544169868661182894 : True := trivial
theorem tw2555065506035805374 : True := trivial
theorem tw2581206410525282061 : True := trivial
theorem tw2596539476470345881 : True := trivial
theorem tw2601905985415302144 : True := trivial
theorem tw2617719716777270872 : True := trivial
theorem tw2619622883677149074 : True := trivial
theorem tw2675166985342186458 : True := trivial
theorem tw2683898200743741643 : True := trivial
theorem tw2685012915969955173 : True := trivial
theorem tw2685745773621513544 : True := trivial
theorem tw2707679213066786127 : True := trivial
theorem tw2732273902793177162 : True := trivial
theorem tw2758071753971750899 : True := trivial
theorem tw2770239361232196585 : True := trivial
theorem tw2770563814800254177 : True := trivial
theorem tw2782073688633401757 : True := trivial
theorem tw2809488002615124206 : True := trivial
theorem tw2812155379371279736 : True := trivial
theorem tw2822501910515967889 : True := trivial
theorem tw2835187731363253809 : True := trivial
theorem tw2859833716702649255 : True := trivial
theorem tw2867133514656366558 : True := trivial
theorem tw2907113945770861938 : True := trivial
theorem tw2910609919460849807 : True := trivial
theorem tw2924597203103170677 : True := trivial
theorem tw2975709217455756120 : True := trivial
theorem tw297971269722091814 : True := trivial
theorem tw2985252069258134486 : True := trivial
theorem tw2988451766255067171 : True := trivial
theorem tw304654302220672320 : True := trivial
theorem tw3120133295221510679 : True := trivial
theorem tw3140898538269762758 : True := trivial
theorem tw3143785405151724282 : True := trivial
theorem tw3195522803047326042 : True := trivial
theorem tw3195968871104189447 : True := trivial
theorem tw3207569582813703071 : True := trivial
theorem tw3254097082911018636 : True := trivial
theorem tw3261557481417251176 : True := trivial
theorem tw3302753350502126306 : True := trivial
theorem tw3315250197877816394 : True := trivial
theorem tw3337584539547039419 : True := trivial
theorem tw3357215229441099570 : True := trivial
theorem tw3378803678994701225 : True := trivial
theorem tw339143206060000330 : True := trivial
theorem tw3422688185749166683 : True := trivial
theorem tw342308947776675178 : True := trivial
theorem tw3453223234828964814 : True := trivial
theorem tw3473093325804163894 : True := trivial
theorem tw3479634599624807885 : True := trivial
theorem tw3484022092364678248 : True := trivial
theorem tw350670483859837877 : True := trivial
theorem tw3561193834555079511 : True := trivial
theorem tw3570499242123996262 : True := trivial
theorem tw3581848524822189991 : True := trivial
theorem tw3644161924160858147 : True := trivial
theorem tw3664424711883983056 : True := trivial
theorem tw3669314199184481253 : True := trivial
theorem tw370947364307004932 : True := trivial
theorem tw3712731000106771831 : True := trivial
theorem tw3715792687998586317 : True := trivial
theorem tw3730354652608582461 : True := trivial
theorem tw3739144386018749749 : True := trivial
theorem tw3767615275625035234 : True := trivial
theorem tw3776753064480771068 : True := trivial
theorem tw3820434133910038737 : True := trivial
theorem tw3846862658102513837 : True := trivial
theorem tw3855276242980373810 : True := trivial
theorem tw3874152929960365753 : True := trivial
theorem tw3909029901177050473 : True := trivial
theorem tw3969286963782609292 : True := trivial
theorem tw3976154599441133093 : True := trivial
theorem tw3995942328266245912 : True := trivial
theorem tw4002441696211005659 : True := trivial
theorem tw401921906979044612 : True := trivial
theorem tw4047667213573674445 : True := trivial
theorem tw4052878762203253943 : True := trivial
theorem tw405421117753717134 : True := trivial
theorem tw4058662728301269685 : True := trivial
theorem tw4111001743050654279 : True := trivial
theorem tw411662067469150650 : True := trivial
theorem tw4131498621145694574 : True := trivial
theorem tw4159251561096739476 : True := trivial
theorem tw4166218997396506358 : True := trivial
theorem tw4186445540838780016 : True := trivial
theorem tw419386298079150103 : True := trivial
theorem tw4213018616267185653 : True := trivial
theorem tw4232285709927190386 : True := trivial
theorem tw4258143625173308034 : True := trivial
theorem tw427420600052151026 : True := trivial
theorem tw4292522238394942308 : True := trivial
theorem tw4299629679881509495 : True := trivial
theorem tw4321519831107876412 : True := trivial
theorem tw4331257952254489624 : True := trivial
theorem tw4345882819342510227 : True := trivial
theorem tw4468942710605802240 : True := trivial
theorem tw4498253355057717688 : True := trivial
theorem tw4526881389914513428 : True := trivial
theorem tw453181688931711583 : True := trivial
theorem tw4551080515912023512 : True := trivial
theorem tw4555866861457887817 : True := trivial
theorem tw4571971715460732019 : True := trivial
theorem tw4597200072644226624 : True := trivial
theorem tw4626048006780466326 : True := trivial
theorem tw4655869559712951663 : True := trivial
theorem tw4656485037274611717 : True := trivial
theorem tw4671429814451907529 : True := trivial
theorem tw4695670854781333657 : True := trivial
theorem tw47109162367338493 : True := trivial
theorem tw4713442408853163898 : True := trivial
theorem tw4730768163679209282 : True := trivial
theorem tw4758991174889311326 : True := trivial
theorem tw4773702212245658779 : True := trivial
theorem tw4791253341166991637 : True := trivial
theorem tw4796303294375832693 : True := trivial
theorem tw4828031223510198475 : True := trivial
theorem tw4835499133494076262 : True := trivial
theorem tw4840481374290595910 : True := trivial
theorem tw4856909995586565122 : True := trivial
theorem tw4859757453598101857 : True := trivial
theorem tw4916261283513009128 : True := trivial
theorem tw492879137614061493 : True := trivial
theorem tw4940147422707163885 : True := trivial
theorem tw501154541418245514 : True := trivial
theorem tw5058314954733539658 : True := trivial
theorem tw5078243831526850631 : True := trivial
theorem tw516228168201391017 : True := trivial
theorem tw517144808224063464 : True := trivial
theorem tw5176459694589498394 : True := trivial
theorem tw5196900775432865589 : True := trivial
theorem tw5225916559131626549 : True := trivial
theorem tw5240389563564037448 : True := trivial
theorem tw5240762971458559404 : True := trivial
theorem tw5244899138074338376 : True := trivial
theorem tw5245862010334584759 : True := trivial
theorem tw5251713544086459897 : True := trivial
theorem tw5278709424875269971 : True := trivial
theorem tw53344730913325255 : True := trivial
theorem tw5398424786039705171 : True := trivial
theorem tw5472114250418208992 : True := trivial
theorem tw5476889619067714990 : True := trivial
theorem tw5483185372664623402 : True := trivial
theorem tw5507162329139097715 : True := trivial
theorem tw5513142621748847562 : True := trivial
theorem tw5523086135645875356 : True := trivial
theorem tw5552270689369575618 : True := trivial
theorem tw5581607755468803823 : True := trivial
theorem tw5590232498371695878 : True := trivial
theorem tw5596365628329696591 : True := trivial
theorem tw5609151216138764652 : True := trivial
theorem tw5647976800219259906 : True := trivial
theorem tw5667650583090716360 : True := trivial
theorem tw5692499903750754813 : True := trivial
theorem tw5702910450625016506 : True := trivial
theorem tw5738303106652476479 : True := trivial
theorem tw575894324575664597 : True := trivial
theorem tw5839659824258004927 : True := trivial
theorem tw5850499497852442878 : True := trivial
theorem tw5860347150701562758 : True := trivial
theorem tw5868845118606482295 : True := trivial
theorem tw5915399644114372684 : True := trivial
theorem tw5938664839603501006 : True := trivial
theorem tw5969987386201385886 : True := trivial
theorem tw5970215366352900667 : True := trivial
theorem tw5983031951866500094 : True := trivial
theorem tw602653604445443664 : True := trivial
theorem tw6042063481754889096 : True := trivial
theorem tw6075534854705499898 : True := trivial
theorem tw6124053682588569230 : True := trivial
theorem tw6127594578889010139 : True := trivial
theorem tw6143595290313323761 : True := trivial
theorem tw6176384092110617959 : True := trivial
theorem tw6187478851450931391 : True := trivial
theorem tw6189502492464219833 : True := trivial
theorem tw620129878449983639 : True := trivial
theorem tw6203543418390704334 : True := trivial
theorem tw6211089042160764376 : True := trivial
theorem tw6220391956798857122 : True := trivial
theorem tw6265701101103706036 : True := trivial
theorem tw6276886402236213621 : True := trivial
theorem tw6286779285267259847 : True := trivial
theorem tw6292954644110606532 : True := trivial
theorem tw6333448901615975916 : True := trivial
theorem tw6370870915552960936 : True := trivial
theorem tw6430265229019958763 : True := trivial
theorem tw6448850889433096767 : True := trivial
theorem tw6468107147075657394 : True := trivial
theorem tw6480638250107114081 : True := trivial
theorem tw6487610083215253720 : True := trivial
theorem tw6491118196486620199 : True := trivial
theorem tw649594095290182367 : True := trivial
theorem tw6503730183909636620 : True := trivial
theorem tw6520327441239513222 : True := trivial
theorem tw657111498738832265 : True := trivial
theorem tw6594526768476950845 : True := trivial
theorem tw6623532728838073528 : True := trivial
theorem tw6624316729101989866 : True := trivial
theorem tw6662652255960138227 : True := trivial
theorem tw6664487174759623829 : True := trivial
theorem tw6674990990233134667 : True := trivial
theorem tw668136137496459709 : True := trivial
theorem tw6694047246710070196 : True := trivial
theorem tw672699306608606093 : True := trivial
theorem tw6746510453823603384 : True := trivial
theorem tw6756851087969907010 : True := trivial
theorem tw6761616313442571491 : True := trivial
theorem tw6786057226368545225 : True := trivial
theorem tw6812286434817487243 : True := trivial
theorem tw681777741448182936 : True := trivial
theorem tw6859976401760118174 : True := trivial
theorem tw6883741973766446791 : True := trivial
theorem tw6885214360128481674 : True := trivial
theorem tw6893477703608230032 : True := trivial
theorem tw6898770573198911631 : True := trivial
theorem tw6906291655842520137 : True := trivial
theorem tw6908635100366463001 : True := trivial
theorem tw6912233166142098652 : True := trivial
theorem tw6916252892733821390 : True := trivial
theorem tw6919701780365589675 : True := trivial
theorem tw6930518751129746686 : True := trivial
theorem tw6973401727384321114 : True := trivial
theorem tw7033079012710635876 : True := trivial
theorem tw705360758644809490 : True := trivial
theorem tw7079599612431449588 : True := trivial
theorem tw708234853630380328 : True := trivial
theorem tw7108139096449030536 : True := trivial
theorem tw7138430578808182737 : True := trivial
theorem tw7160873610591055699 : True := trivial
theorem tw7191137982244381804 : True := trivial
theorem tw7204493036743257322 : True := trivial
theorem tw7204998973626084599 : True := trivial
theorem tw7213333562754528385 : True := trivial
theorem tw7215319984434753242 : True := trivial
theorem tw72247145696351765 : True := trivial
theorem tw7273676953221729872 : True := trivial
theorem tw728428047077509346 : True := trivial
theorem tw7297446738713254254 : True := trivial
theorem tw7360070258638436176 : True := trivial
theorem tw7414872774492366064 : True := trivial
theorem tw7429413206186439793 : True := trivial
theorem tw7436774141650363327 : True := trivial
theorem tw7438316178485321408 : True := trivial
theorem tw7439886461454727182 : True := trivial
theorem tw7444641836354208208 : True := trivial
theorem tw7458633546980236471 : True := trivial
theorem tw7527032243904285869 : True := trivial
theorem tw7538252964068480738 : True := trivial
theorem tw7600245330811189008 : True := trivial
theorem tw76412952228603488 : True := trivial
theorem tw7657828476027519975 : True := trivial
theorem tw7671549972530922468 : True := trivial
theorem tw7673058066778466091 : True := trivial
theorem tw7681529838311687354 : True := trivial
theorem tw7715697345341360870 : True := trivial
theorem tw7743179893348639699 : True := trivial
theorem tw7744093853086628109 : True := trivial
theorem tw775762912060472103 : True := trivial
theorem tw7761843605638006849 : True := trivial
theorem tw7799483888651840948 : True := trivial
theorem tw7845129631348957993 : True := trivial
theorem tw7847352863974893604 : True := trivial
theorem tw788273225186049534 : True := trivial
theorem tw7913636548009798097 : True := trivial
theorem tw7926136590108786892 : True := trivial
theorem tw795583310449317561 : True := trivial
theorem tw7990429038631628895 : True := trivial
theorem tw8025738503920905074 : True := trivial
theorem tw8043003576528973991 : True := trivial
theorem tw8054331753737935190 : True := trivial
theorem tw8069049012094873728 : True := trivial
theorem tw8107780213005350392 : True := trivial
theorem tw8139039716903228087 : True := trivial
theorem tw814325599930780420 : True := trivial
theorem tw8143265674769528471 : True := trivial
theorem tw8148004212497801138 : True := trivial
theorem tw8170299122808406783 : True := trivial
theorem tw81815255157605957 : True := trivial
theorem tw8184561461823581802 : True := trivial
theorem tw8204474986945543665 : True := trivial
theorem tw8212240652046128837 : True := trivial
theorem tw8237333600419904120 : True := trivial
theorem tw8243169916365450940 : True := trivial
theorem tw8265191368974092141 : True := trivial
theorem tw8265311939077410998 : True := trivial
theorem tw8281120267493503204 : True := trivial
theorem tw8297286125493194097 : True := trivial
theorem tw8311017846404947139 : True := trivial
theorem tw8321918168302905379 : True := trivial
theorem tw8327351992414209593 : True := trivial
theorem tw83393220934416808 : True := trivial
theorem tw8345894832289464959 : True := trivial
theorem tw8363718466572441477 : True := trivial
theorem tw8369368087495890639 : True := trivial
theorem tw8374938949443298174 : True := trivial
theorem tw8393700709775954928 : True := trivial
theorem tw8410488445778877200 : True := trivial
theorem tw8420165910927482534 : True := trivial
theorem tw8435561252592420358 : True := trivial
theorem tw8443935842833279946 : True := trivial
theorem tw8455645898260960030 : True := trivial
theorem tw8472579005086612782 : True := trivial
theorem tw8507776931139520737 : True := trivial
theorem tw8523463495250067690 : True := trivial
theorem tw8538268897159353584 : True := trivial
theorem tw8547604310838440241 : True := trivial
theorem tw8560541052185303311 : True := trivial
theorem tw859137505422859605 : True := trivial
theorem tw8598144960395782539 : True := trivial
theorem tw860223938195835975 : True := trivial
theorem tw8620165645458168473 : True := trivial
theorem tw8628236747792435071 : True := trivial
theorem tw8645369167282567922 : True := trivial
theorem tw8657480035899644758 : True := trivial
theorem tw8679839319945467846 : True := trivial
theorem tw8693662901424576113 : True := trivial
theorem tw8694864300669457046 : True := trivial
theorem tw8729362747519067210 : True := trivial
theorem tw877433047237710547 : True := trivial
theorem tw8810280945414196856 : True := trivial
theorem tw8813761850579938390 : True := trivial
theorem tw8823455108540655025 : True := trivial
theorem tw8874702517807110003 : True := trivial
theorem tw887695700811335699 : True := trivial
theorem tw8892184565913893157 : True := trivial
theorem tw8912170899635468890 : True := trivial
theorem tw8968299171318014206 : True := trivial
theorem tw8975108423156789194 : True := trivial
theorem tw8985709366574770022 : True := trivial
theorem tw8999917154711486175 : True := trivial
theorem tw9016798869158615873 : True := trivial
theorem tw9038659593494541401 : True := trivial
theorem tw9059672392935016618 : True := trivial
theorem tw9059832203979395877 : True := trivial
theorem tw9063741608606530840 : True := trivial
theorem tw908825868028484722 : True := trivial
theorem tw9108098604805947806 : True := trivial
theorem tw9111341701214203307 : True := trivial
theorem tw913810622518204374 : True := trivial
theorem tw9149571693438533347 : True := trivial
theorem tw9152664641465651067 : True := trivial
theorem tw9165953624949470791 : True := trivial
theorem tw9166809390415177425 : True := trivial
theorem tw9178861053002065721 : True := trivial
theorem tw9227057690007400460 : True := trivial
theorem tw9227541089923242437 : True := trivial
theorem tw9229161468869434483 : True := trivial
theorem tw9233335307524088747 : True := trivial
theorem tw9238823003894178615 : True := trivial
theorem tw9259421805112917234 : True := trivial
theorem tw9272544492142499777 : True := trivial
theorem tw93012567124736588 : True := trivial
theorem tw9305691244287143441 : True := trivial
theorem tw9326722878772556681 : True := trivial
theorem tw9332579688445097367 : True := trivial
theorem tw9335426496214029073 : True := trivial
theorem tw9378254376102152143 : True := trivial
theorem tw9382581127745807760 : True := trivial
theorem tw9407396174263392564 : True := trivial
theorem tw9442318146202087700 : True := trivial
theorem tw9456006794991739263 : True := trivial
theorem tw9486757043174368735 : True := trivial
theorem tw9514800995652322822 : True := trivial
theorem tw956942650209027819 : True := trivial
theorem tw9576743257966636567 : True := trivial
theorem tw9589608677651300831 : True := trivial
theorem tw9666326922614434849 : True := trivial
theorem tw9673933992889287130 : True := trivial
theorem tw9685713192446186341 : True := trivial
theorem tw9739860059890490050 : True := trivial
theorem tw9743097575036673082 : True := trivial
theorem tw9759319705405543751 : True := trivial
theorem tw9768079942903668216 : True := trivial
theorem tw9800703332001039478 : True := trivial
theorem tw9822532417609929294 : True := trivial
theorem tw9843447840031818808 : True := trivial
theorem tw9843949296442739443 : True := trivial
theorem tw984902984118615328 : True := trivial
theorem tw9851269098105209369 : True := trivial
theorem tw9854310039474760501 : True := trivial
theorem tw987869383939708018 : True := trivial
theorem tw99440450732166138 : True := trivial
theorem tw9951221954081769418 : True := trivial
theorem tw9953747333497923681 : True := trivial
theorem tw995497684801637723 : True := trivial
theorem tw9961057766049560675 : True := trivial
theorem tw9990226795618131978 : True := trivial
end Mine.top
end

/- the head and the law joined (elaborated apart, so that the head names its own parts under Mine.top) -/
section
open PySem PySem.W PySem.Calls PyProof.Rows
set_option maxRecDepth 100000
set_option maxHeartbeats 0
namespace Mine
theorem old_two {h h' : Heap} {c1 c2 : Addr} (T1 : CodeHd h c1 tabA) (e1 : h.get? tabA = some (tabObj #[])) (T2 : CodeHd h c2 tabF) (e2 : h.get? tabF = some (tabObj #[]))
    (k : ∀ b o, h.get? b = some o → b ≠ tabA → b ≠ tabF → h'.get? b = some o) (g1 : ∃ ps, h'.get? tabA = some (tabObj ps)) (g2 : ∃ ps, h'.get? tabF = some (tabObj ps)) : OldK h h' := by
  have grown : ∀ {P c : Addr} {o : Obj}, CodeHd h c P → h.get? P = some (tabObj #[]) → (∃ ps, h'.get? P = some (tabObj ps)) → h.get? P = some o → asItWas h h' P o := fun {P c o} T e g eo => by
    rw [e] at eo
    cases eo
    obtain ⟨ps, g⟩ := g
    exact .inr (.inl ⟨(T.tab e).isCodeTable, rfl, #[], ps, rfl, by rw [g, Array.empty_append]⟩)
  refine ⟨fun b o e => ?_, fun b o e => ?_⟩
  · by_cases ha : b = tabA
    · subst ha
      exact grown T1 e1 g1 e
    · by_cases hf : b = tabF
      · subst hf
        exact grown T2 e2 g2 e
      · exact .inl (k b o e ha hf)
  · by_cases ha : b = tabA
    · subst ha
      obtain ⟨ps, g⟩ := g1
      exact ⟨_, g⟩
    · by_cases hf : b = tabF
      · subst hf
        obtain ⟨ps, g⟩ := g2
        exact ⟨_, g⟩
      · exact ⟨o, k b o e ha hf⟩
end Mine
set_option Elab.async true in
theorem Mine.top : PySem.Challenge.rw_em5012_01.Holds := by
  (w_on; o_law; k_head; (case hw => w_witness2))
  k_fill
  intro w s₀ s₁ mg mb G Y fa o pm cd doc dV kV ho hd hcd hD hmg hg args vals as hpre hlay hrd hwl hlo
  have KX0 := km_in_of Y
  have KX : (Mine.hd.heap_39 w.params).In s₁.heap := KX0
  km_tabs Y
  have X := (Ground.X G).1
  have V := (Ground.X G).2
  refine Ground.open G ?_
  intro T B D TE TW
  try (refine guard_noD D (by decide +kernel) ?_; clear D)
  have hmg2 := hmg
  km_lay T hmg ho hd cd
  wrow_args hpre hlay hrd hwl hlo
  clear hd hcd hD Y G
  refine enter_call ?_
  have hlaw : mg "law" = some (.ref 764) := mg_of KX T.g (by kernel_rfl)
  have hfa : fa = 764 := by
    have h1 : mg "law" = some (.ref fa) := hmg2
    rw [hlaw] at h1
    cases h1
    rfl
  subst hfa
  obtain ⟨C2, e2⟩ := hT9 (725, 721) (.head _)
  obtain ⟨C1, e1⟩ := tab_of (x := PySem.Str.ofString "array_string_escape") (c := 739) (P := 735) T KX (Option.some_get (by decide +kernel)).symm (by kernel_rfl)
  have hTb : TabsAt [(739, 735), (725, 721)] s₁.heap := List.forall_mem_cons.mpr ⟨⟨C1, e1⟩, hT9⟩
  have Tg := ghost_top hTb T
  rename s₁.heap.IsList _ _ => hL
  rename IntsAre _ _ => hI
  rename ¬ _ < _ => hc
  refine Mine.law_walk (G := ⟨KX, ⟨_, _, topRead_of T⟩, T.bmain⟩) (T := Tg) (e1 := e1) (ef := e2) hg hL hI (by omega) ?_ KX
  intro s' t k g1 g2 ho' hb ht
  subst ht
  refine ⟨.inl ⟨_, _, [], rfl, fun _ => rfl, ReadsW.bool true, ?_, fun _ => ⟨List.nodup_nil, fun _ hm => (nomatch hm)⟩⟩, Mine.old_two C1 e1 C2 e2 k g1 g2, ho', hb⟩
  first | rfl | wrow_post
end

theorem PySem.Challenge.cw_em5012_01_holds : PySem.Challenge.rw_em5012_01.Holds :=
  Mine.top
