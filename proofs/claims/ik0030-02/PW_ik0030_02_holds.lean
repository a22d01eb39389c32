import PyProof.Rows.All
import Wide.All
import OpenK.AllK
import Wide.FinOn
import PySem.Challenge.RW_ik0030_02
open PySem PySem.W PyProof.Rows PySem.Calls PySem.Spec
set_option Elab.async false
set_option maxRecDepth 100000
set_option maxHeartbeats 8000000
namespace Mine
open_top hd for PySem.Challenge.rw_ik0030_02
theorem fill : PySem.Challenge.rw_ik0030_02 = PySem.Challenge.rw_ik0030_02 ∧ hd.heap_39 = hd.heap_39 := by
  k_fill
  w_top off
  exact ⟨rfl, rfl⟩
section P1
/-- a text out of its codes -/
noncomputable def mk (l : List Nat) : Str := ⟨l.toArray⟩
theorem mk_cps (l : List Nat) : (mk l).cps.toList = l := by simp [mk]
theorem mk_len (l : List Nat) : (mk l).length = l.length := by simp [mk, Str.length]
theorem eq_mk {x : Str} {l : List Nat} (h : x.cps.toList = l) : x = mk l := by
  obtain ⟨c⟩ := x; subst h; simp [mk]
theorem mk_inj {a b : List Nat} : mk a = mk b ↔ a = b := by
  constructor
  · intro h; have := congrArg (fun x : Str => x.cps.toList) h; simpa [mk] using this
  · intro h; rw [h]
theorem mk_beq (a b : List Nat) : (mk a == mk b) = decide (a = b) := by
  by_cases h : a = b
  · subst h; simp
  · rw [decide_eq_false h]
    have : mk a ≠ mk b := fun e => h (mk_inj.mp e)
    exact beq_eq_false_iff_ne.mpr this
theorem mk_append (a b : List Nat) : mk a ++ mk b = mk (a ++ b) := by
  show Str.append _ _ = _
  simp [Str.append, mk]
theorem slice_in {x : Str} {l : List Nat} (hx : x.cps.toList = l) {i j : Int} (h : 0 ≤ i ∧ i ≤ j ∧ j ≤ l.length) : Txt.slice x (some i) (some j) = mk ((l.drop i.toNat).take (j - i).toNat) := by
  subst hx
  have := eq_of_beq (slice_closes (x := x) h)
  rw [this]; rfl
theorem slice_to {x : Str} {l : List Nat} (hx : x.cps.toList = l) {j : Int} (h : 0 ≤ j ∧ j ≤ l.length) : Txt.slice x none (some j) = mk (l.take j.toNat) := by
  subst hx
  have := eq_of_beq (slice_closes_to (x := x) h)
  rw [this]; simp [mk]
/-- the text between quotation marks, read -/
noncomputable def unq : List Nat → List Nat
  | [] => []
  | [c] => if c = 34 then [] else [c]
  | c :: d :: r => if c = 34 then (if d = 34 then 34 :: unq r else []) else c :: unq (d :: r)
theorem unq_cons {c : Nat} (h : c ≠ 34) (l : List Nat) : unq (c :: l) = c :: unq l := by
  cases l with
  | nil => simp [unq, h]
  | cons d r => rw [unq]; simp [h]
theorem unq_qq (l : List Nat) : unq (34 :: 34 :: l) = 34 :: unq l := by rw [unq]; simp
theorem unq_end {l : List Nat} (h : l.head? ≠ some 34) : unq (34 :: l) = [] := by
  cases l with
  | nil => simp [unq]
  | cons d r => rw [unq]; simp at h; simp [h]
noncomputable def quotedL (l : List Nat) : List Nat := 34 :: (l.flatMap fun c => if c = 34 then [34,34] else [c]) ++ [34]
theorem ite_T {c : Prop} [Decidable c] {a b : Prop} (h : c) (ha : a) : if c then a else b := by rw [if_pos h]; exact ha
theorem ite_F {c : Prop} [Decidable c] {a b : Prop} (h : ¬ c) (hb : b) : if c then a else b := by rw [if_neg h]; exact hb
noncomputable def Halt (P : Prop) : Prop := P
theorem halt {P : Prop} (h : Halt P) : P := h
theorem unq_le : ∀ (n : Nat) (l : List Nat), l.length ≤ n → (unq l).length ≤ l.length := by
  intro n
  induction n with
  | zero => intro l h; have : l = [] := List.length_eq_zero_iff.mp (by omega); subst this; simp [unq]
  | succ n ih =>
    intro l h
    match l, h with
    | [], _ => simp [unq]
    | [c], _ => rw [unq]; split <;> simp
    | c :: d :: r, h =>
      simp only [List.length_cons] at h
      have a := ih r (by omega)
      have b := ih (d :: r) (by simp only [List.length_cons]; omega)
      simp only [List.length_cons] at b
      rw [unq]
      repeat' split
      all_goals simp only [List.length_cons, List.length_nil]; omega
theorem item_at {x : Str} {l : List Nat} (hx : x.cps.toList = l) {i : Int} {j : Nat} (hi : i = (j : Int)) (c : Nat) (hc : l[j]? = some c) : Txt.item x i = mk [c] := by
  subst hi
  have hlen : x.length = l.length := by rw [← hx]; simp [Str.length]
  have hj : j < l.length := (List.getElem?_eq_some_iff.mp hc).1
  rw [item_meets ⟨by omega, by omega⟩]
  show (⟨#[x.cps.getD (j : Int).toNat 0]⟩ : Str) = _
  have : x.cps.getD (j : Int).toNat 0 = c := by
    simp only [Int.toNat_natCast]
    have h2 : x.cps[j]? = some c := by rw [← Array.getElem?_toList, hx]; exact hc
    rw [Array.getD_eq_getD_getElem?, h2]; rfl
  rw [this]; rfl
theorem mk_beq_str (c d : Nat) (s : Str) (hs : s = mk [d]) : (mk [c] == s) = decide (c = d) := by
  subst hs; rw [mk_beq]; simp
theorem fr_as {h₀ h : Heap} {L : Addr} {m : Str → Option Value} (m' : Str → Option Value) (F : Fr h₀ L h m) (e : m = m') : Fr h₀ L h m' := e ▸ F
theorem glued_empty (ls : List (List Nat)) : Txt.join (Str.ofString "") (ls.map mk) = mk ls.flatten := by
  show Builtin.Str.glued _ _ = _
  rw [StrLaws.glued_eq_join]
  induction ls with
  | nil => rfl
  | cons a r ih =>
    cases r with
    | nil => simp [Str.join]
    | cons b r =>
      simp only [List.map_cons] at ih ⊢
      rw [Str.join, ih]
      · show mk a ++ mk [] ++ _ = _
        rw [mk_append, mk_append]; simp
      · intro h; simp at h
theorem sum_mk_len (ls : List (List Nat)) : ((ls.map mk).map (·.length)).sum = ls.flatten.length := by
  induction ls with
  | nil => rfl
  | cons a r ih => simp only [List.map_cons, List.sum_cons, List.flatten_cons, List.length_append, ih, mk_len]
section
variable {prog : Program} {w : World} {A : Around} {E : Value → Shared → Prop} {s : Shared} {t : Tok} {Q : Value → Shared → Prop}
theorem join_mk {D : Addr} {ys : Array Value} (ls : List (List Nat)) (hl : s.heap.IsList D ys) (hc : CarriedAll ys.toList (ls.map fun l => PyData.str (mk l))) (hb : ls.flatten.length ≤ 1000000)
    (h : ∀ t' k, Q (.str (mk ls.flatten) t') { s with toks := k }) : wpAny (model prog w) A (call (.builtin "str.join") [.str (Str.ofString "") t, .ref D]) Q E s := by
  have hi : StrsAre ys.toList (ls.map mk) := StrsAre.of_carried (by rw [List.map_map]; exact hc)
  refine join_list hl hi ?_ ?_
  · rw [sum_mk_len]
    have : (Str.ofString "").length = 0 := rfl
    rw [this]; omega
  · intro t' k
    rw [glued_empty]; exact h t' k
end
theorem signs_mk (l : List Nat) : signs (mk l) = l.map fun c => mk [c] := by
  simp [signs, mk]
theorem foldl_rep (k : Nat) (a : Array Nat) : ((List.replicate k a).foldl (· ++ ·) #[]).toList = (List.replicate k a.toList).flatten := by
  have : ∀ (k : Nat) (acc : Array Nat), ((List.replicate k a).foldl (· ++ ·) acc).toList = acc.toList ++ (List.replicate k a.toList).flatten := by
    intro k
    induction k with
    | zero => intro acc; simp
    | succ k ih => intro acc; rw [List.replicate_succ, List.foldl_cons, ih]; simp [List.replicate_succ]
  simpa using this k #[]
theorem mul_text (c k : Nat) : Txt.mul (mk [c]) (k : Int) = mk (List.replicate k c) := by
  unfold Txt.mul
  by_cases h1 : (k : Int) < 1
  · rw [if_pos h1]; have : k = 0 := by omega
    subst this; rfl
  · rw [if_neg h1]
    have hl : (mk [c]).length = 1 := rfl
    by_cases h2 : ((k : Int) == 1 || (mk [c]).length == 0) = true
    · rw [if_pos h2]
      have : k = 1 := by
        rw [hl] at h2; simp at h2; omega
      subst this; rfl
    · rw [if_neg h2]
      refine eq_mk ?_
      show ((List.replicate (k : Int).toNat (mk [c]).cps).foldl (· ++ ·) #[]).toList = _
      rw [foldl_rep, mk_cps]; simp
section
variable {prog : Program} {w : World} {A : Around} {E : Value → Shared → Prop} {s : Shared} {t u : Tok} {Q : Value → Shared → Prop}
theorem mul_pow {m : Nat} (hm : m ≤ 10) (h : ∀ t' k z, z = mk (List.replicate (2 ^ m) 92) → z.length ≤ 1024 → Q (.str z t') { s with toks := k }) :
    wpAny (model prog w) A (binaryOp .Mult (.str (Str.ofString "\\") t) (.int ((2 : Int) ^ m) u)) Q E s := by
  have e : ((2 : Int) ^ m) = ((2 ^ m : Nat) : Int) := by simp
  have hle : 2 ^ m ≤ 2 ^ 10 := Nat.pow_le_pow_right (by decide) hm
  rw [e]
  generalize 2 ^ m = k at hle h
  refine SB.mul (mulOk_of 16 1048576 (by decide) (by omega) (by omega) (by decide) (by decide)) ?_
  rw [show Str.ofString "\\" = mk [92] from rfl, mul_text]
  exact fun t' k' => h t' k' _ rfl (by rw [mk_len, List.length_replicate]; omega)
theorem len_strs {D : Addr} {vs : List Value} {ks : List Str} (hl : s.heap.IsList D vs.toArray) (hi : StrsAre vs ks) (hn : ks.length < 1000) (h : ∀ t' k, Q (.int (ks.length : Int) t') { s with toks := k }) :
    wpAny (model prog w) A (call (.builtin "len") [.ref D]) Q E s := by
  have e : vs.toArray.size = ks.length := by simp [hi.len_eq]
  refine len_list hl (by rw [e]; omega) ?_
  rw [e]; exact h _ _
theorem isStr_at (k : Str) : ∀ {vs : List Value} {ns : List Str}, StrsAre vs ns → ∀ (j : Nat) (h1 : j < vs.length) (h2 : j < ns.length), isStrOf k vs[j] = (ns[j] == k)
  | _, _, .cons n t _, 0, _, _ => rfl
  | _, _, .cons n t r, j + 1, h1, h2 => isStr_at k r j (Nat.lt_of_succ_lt_succ h1) (Nat.lt_of_succ_lt_succ h2)
theorem ne_before {k : Str} : ∀ {ns : List Str} {j : Nat}, j < ns.idxOf k → ∀ (h2 : j < ns.length), (ns[j] == k) = false
  | n :: r, 0, h, _ => by
    by_cases e : n = k
    · subst e; simp at h
    · simpa using e
  | n :: r, j + 1, h, h2 => by
    by_cases e : n = k
    · subst e; simp at h
    · have hb : (n == k) = false := by simpa using e
      have h' : j < r.idxOf k := by
        rw [List.idxOf_cons, hb] at h
        exact Nat.lt_of_succ_lt_succ h
      exact ne_before h' (Nat.lt_of_succ_lt_succ h2)
theorem index_strs {l : Addr} {vs : List Value} {ns : List Str} {k : Str} (hl : s.heap.IsList l vs.toArray) (hi : StrsAre vs ns)
    (hn : ns.length < 1000) (hk : ns.any (· == k) = true) (h : ∀ t' tk, Q (.int (ns.idxOf k : Nat) t') { s with toks := tk }) :
    wpAny (model prog w) A (call (.builtin "list.index") [.ref l, .str k t]) Q E s := by
  obtain ⟨⟨cls, dd, data, sl⟩, ho, hc, n, hd⟩ := id hl
  simp only at hc hd
  subst hc hd
  have hlen := hi.len_eq
  have hk' : k ∈ ns := by
    obtain ⟨a, ha, hb⟩ := List.any_eq_true.mp hk
    rw [← eq_of_beq hb]; exact ha
  have hj : ns.idxOf k < ns.length := List.idxOf_lt_length_iff.mpr hk'
  refine call_meets PySem.F.slot_list_index ⟨_, ho, rfl⟩ PySem.F.entry_list_index (PySem.F.args_list_index_2 _ _)
    (SeqAt.list_indexAt l vs.toArray n dd sl (.str k t) (isStrOf k) (ns.idxOf k) (by simpa [hlen] using hj) (by omega) ?_ ?_) ⟨ho, fun y hy => (eq_isStrOf k t hi y (by simpa using hy)).at _ _, h _ _⟩
  · show isStrOf k vs[ns.idxOf k] = true
    rw [isStr_at k hi _ (by omega) hj]
    simpa using List.getElem_idxOf hj
  · intro j hjs hlt
    show isStrOf k vs[j] = false
    rw [isStr_at k hi j (by simpa using hjs) (by omega)]
    exact ne_before hlt _
end
theorem empty_mk (l : List Nat) (x : Str) (hx : x = mk l) (s : Str) (c : Nat) (hs : s = mk [c]) : (Builtin.Str.occurrences x s 0 x.length 1).isEmpty = !decide (c ∈ l) := by
  subst hx hs
  have := empty_one (mk l) c
  rw [mk_cps] at this
  exact this
theorem sing_len (n : Nat) : ({ cps := #[n] } : Str).length = 1 := rfl
theorem lst_of {h₀ h : Heap} {L D : Addr} {nx : List (Addr × Obj)} {vs : List Value} {nn : Nat} (N : News h₀ L h nx) (hm : (D, listOf vs.toArray nn) ∈ nx) : h.IsList D vs.toArray := News.isList N hm
end P1
section P2
open Builtin Builtin.Str
theorem entry_ascii : entryFor table "ascii" = some Builtin.«ascii» := entryFor_of_tree (by kernel_rfl)
theorem kind_ascii : builtinKind "ascii" = none := by decide +kernel
theorem plain_ascii : plainId "ascii" = true := by decide +kernel
theorem args_ascii1 (a : Value) : argsOk "ascii" ⟨[a], []⟩ := by unfold argsOk; kernel_rfl
noncomputable def hexD (n width : Nat) : List Nat :=
  let ds := (Nat.toDigits 16 n).map (·.toNat)
  List.replicate (width - ds.length) 48 ++ ds
noncomputable def ascEsc (c : Nat) : List Nat :=
  if c < 128 then [c]
  else if c < 256 then [92, 120] ++ hexD c 2
  else if c < 65536 then [92, 117] ++ hexD c 4
  else [92, 85] ++ hexD c 8
noncomputable def ascText (x : Str) : Str := ⟨x.cps.flatMap fun c => (ascEsc c).toArray⟩
theorem eq_of_cps {x y : Str} (h : x.cps.toList = y.cps.toList) : x = y := by
  obtain ⟨⟨a⟩⟩ := x; obtain ⟨⟨b⟩⟩ := y; simp at h; subst h; rfl
theorem flat_id (a : Array Nat) (h : ∀ c ∈ a.toList, c < 128) : (a.flatMap fun c => (ascEsc c).toArray).toList = a.toList := by
  rw [Array.toList_flatMap]
  have : ∀ l : List Nat, (∀ c ∈ l, c < 128) → (l.flatMap fun c => (ascEsc c).toArray.toList) = l := by
    intro l
    induction l with
    | nil => intro _; rfl
    | cons c r ih =>
      intro h
      rw [List.flatMap_cons, ih (fun d hd => h d (List.mem_cons_of_mem _ hd))]
      have : ascEsc c = [c] := if_pos (h c (List.mem_cons_self ..))
      rw [this]; rfl
  exact this _ h
section
variable {prog : Program} {w : World} {A : Around} {E : Value → Shared → Prop} {s : Shared}
theorem ascii_of_str {x : Str} {t : Tok} {Q : Value → Shared → Prop} (h : ∀ t' k, Q (.str (ascText (reprText x)) t') { s with toks := k }) (hsz : (reprText x).length ≤ 1000000) (hsz2 : (ascText (reprText x)).length ≤ sizeLine) :
    wpAny (model prog w) A (call (.builtin "ascii") [.str x t]) Q E s := by
  refine Calls.call_function_entry kind_ascii plain_ascii entry_ascii (args_ascii1 _) ?_
  unfold Builtin.«ascii»
  refine wpAny_bind (m := oneArg "ascii" _) (wpAny_pure ?_)
  have hv : ([Value.str x t]).any Value.onHeap = false := rfl
  simp only [cRoomFor, hv, Bool.false_eq_true, if_false, pure_bind]
  refine wpAny_bind (m := callSpecialIfBound? (.str x t) (PySem.Str.ofString "__repr__")) (wpAny_callSpecialIfBound?_slot (name := PySem.Str.ofString "__repr__") (typeIs_str s x t) F.slot_str_repr
    (call_gives F.slot_str_repr (typeIs_str s x t) F.entry_str_repr (F.args_str_repr_1 _) (gives_str_repr x t) ⟨by rw [PySem.sizeLine_eq]; omega, ?_⟩))
  have hy1 : (reprText x).length ≤ 1000000 := hsz
  generalize reprText x = y at h hsz2 hy1
  refine wpAny_bind (m := asStr? _) (wpAny_pure ?_)
  dsimp only
  by_cases ha : (y.cps.all fun c => decide (c < 128)) = true
  · rw [if_pos ha]
    have e : ascText y = y := by
      refine eq_of_cps ?_
      have hall : ∀ c ∈ y.cps.toList, c < 128 := by
        rw [← Array.all_toList, List.all_eq_true] at ha
        exact fun c hc => of_decide_eq_true (ha c hc)
      exact flat_id _ hall
    refine wpAny_bind (wpAny_rule (wpAny_pure ⟨_, rfl, ?_⟩))
    have h' := h s.toks (s.toks + 1)
    rw [e] at h'
    exact h'
  · rw [if_neg ha]
    refine wpAny_bind (wpAny_letGo ?_)
    rw [if_neg (by
      have : ¬ (10 * y.length > sizeLine) := by rw [PySem.sizeLine_eq]; omega
      simp only [this, decide_false, Bool.false_and, Bool.false_eq_true, not_false_eq_true])]
    show wpAny _ _ (mkStr (ascText y) >>= _) _ _ _
    exact wpAny_bind (wpAny_mkStr (wpAny_pure ⟨_, rfl, h _ _⟩) hsz2)
end
theorem reprText_mk (l : List Nat) (q : Nat) (hq : reprQuote (mk l) = q) : reprText (mk l) = mk (q :: l.flatMap (reprChar q) ++ [q]) := by
  subst hq
  refine eq_mk ?_
  unfold reprText
  generalize reprQuote (mk l) = q
  show (((mk l).cps.foldl (fun out c => out ++ (reprChar q c).toArray) #[q]).push q).toList = _
  have : ∀ (l : List Nat) (acc : Array Nat), (l.foldl (fun out c => out ++ (reprChar q c).toArray) acc).toList = acc.toList ++ l.flatMap (reprChar q) := by
    intro l
    induction l with
    | nil => intro acc; simp
    | cons c r ih => intro acc; rw [List.foldl_cons, ih]; simp
  rw [Array.toList_push, ← Array.foldl_toList, this, mk_cps]; simp
theorem reprQuote_mk (l : List Nat) : reprQuote (mk l) = if 39 ∈ l ∧ 34 ∉ l then 34 else 39 := by
  unfold reprQuote mk
  by_cases h1 : 39 ∈ l <;> by_cases h2 : 34 ∈ l <;> simp [h1, h2]
theorem ascText_mk (l : List Nat) : ascText (mk l) = mk (l.flatMap ascEsc) := by
  refine eq_mk ?_
  show ((mk l).cps.flatMap fun c => (ascEsc c).toArray).toList = _
  rw [Array.toList_flatMap, mk_cps]
end P2
section P3
open Builtin Builtin.Str
noncomputable def hexL : List Nat := [48,49,50,51,52,53,54,55,56,57,97,98,99,100,101,102]
noncomputable def nameL (c : Nat) : List Nat := if c = 9 then [116] else if c = 10 then [110] else if c = 13 then [114] else [120, hexL.getD (c / 16) 0, hexL.getD (c % 16) 0]
noncomputable def kinds (bs : List Bool) : List Str := bs.map fun b => if b then PySem.Str.ofString "a" else PySem.Str.ofString "r"
noncomputable def dueC (ks : List Str) (c : Nat) : List Nat :=
  if c = 92 then List.replicate (2 ^ ks.length) 92
  else if c < 32 ∨ c = 127 then List.replicate (2 ^ (ks.length - 1)) 92 ++ nameL c
  else if c > 127 ∧ ks.any (· == PySem.Str.ofString "a") = true then List.replicate (2 ^ (ks.length - 1 - ks.idxOf (PySem.Str.ofString "a"))) 92 ++ nameL c
  else [c]
noncomputable def dueL (ks : List Str) (l : List Nat) : List Nat := if 39 ∈ l ∧ 34 ∉ l then l.flatMap (dueC ks) else []
noncomputable def convL (b : Bool) (l : List Nat) : List Nat :=
  let q := if 39 ∈ l ∧ 34 ∉ l then 34 else 39
  let r := q :: l.flatMap (reprChar q) ++ [q]
  if b then r.flatMap ascEsc else r
noncomputable def readL (b : Bool) (l : List Nat) : List Nat := match convL b l with
  | c :: r => if c = 34 then unq r else []
  | [] => []
noncomputable def step (b : Bool) (c : Nat) : List Nat := if b then (reprChar 34 c).flatMap ascEsc else reprChar 34 c
noncomputable def Alpha (c : Nat) : Prop := c < 128 ∨ c = 233
theorem repr_tab : ∀ c < 128, reprChar 34 c = if c = 34 ∨ c = 92 then [92, c] else if c < 32 ∨ c = 127 then 92 :: nameL c else [c] := by decide +kernel
theorem repr_233 : reprChar 34 233 = [233] := by decide +kernel
theorem asc_233 : ascEsc 233 = 92 :: nameL 233 := by decide +kernel
noncomputable def stepE (b : Bool) (c : Nat) : List Nat :=
  if c = 34 ∨ c = 92 then [92, c] else if c < 32 ∨ c = 127 then 92 :: nameL c else if c = 233 ∧ b = true then 92 :: nameL 233 else [c]
noncomputable def alpha : List Nat := (List.range 34) ++ (List.range' 35 93) ++ [233]
noncomputable def allBs : List (List Bool) := [[true],[false],[true,true],[true,false],[false,true],[false,false],
  [true,true,true],[true,true,false],[true,false,true],[true,false,false],[false,true,true],[false,true,false],[false,false,true],[false,false,false]]
theorem step_tab : ∀ b ∈ [true, false], ∀ c ∈ alpha, step b c = stepE b c := by decide +kernel
theorem due_tab : ∀ bs ∈ allBs, ∀ b ∈ [true, false], ∀ c ∈ alpha, (dueC (kinds bs) c).flatMap (step b) = dueC (kinds (bs ++ [b])) c := by decide +kernel
theorem due_tab1 : ∀ b ∈ [true, false], ∀ c ∈ alpha, step b c = dueC (kinds [b]) c := by decide +kernel
theorem due_no34 : ∀ bs ∈ allBs, ∀ c ∈ alpha, 34 ∉ dueC (kinds bs) c := by decide +kernel
theorem due_small : ∀ bs ∈ allBs, ∀ c ∈ alpha, ∀ d ∈ dueC (kinds bs) c, d ∈ alpha := by decide +kernel
theorem flatMap_congr' {l : List Nat} {f g : Nat → List Nat} (h : ∀ c ∈ l, f c = g c) : l.flatMap f = l.flatMap g := by
  induction l with
  | nil => rfl
  | cons c r ih => rw [List.flatMap_cons, List.flatMap_cons, h c (List.mem_cons_self ..), ih fun d hd => h d (List.mem_cons_of_mem _ hd)]
theorem unq_snoc : ∀ m : List Nat, 34 ∉ m → unq (m ++ [34]) = m
  | [], _ => by simp [unq]
  | c :: r, h => by
    have hc : c ≠ 34 := fun e => h (e ▸ List.mem_cons_self ..)
    rw [List.cons_append, unq_cons hc, unq_snoc r fun hm => h (List.mem_cons_of_mem _ hm)]
theorem unq_quoted : ∀ l : List Nat, unq ((l.flatMap fun c => if c = 34 then [34,34] else [c]) ++ [34]) = l
  | [] => by simp [unq]
  | c :: r => by
    have ih := unq_quoted r
    rw [List.flatMap_cons]
    by_cases h : c = 34
    · rw [if_pos h, h]
      rw [List.append_assoc, List.cons_append, List.cons_append, List.nil_append, unq_qq, ih]
    · rw [if_neg h]
      rw [List.append_assoc, List.cons_append, List.nil_append, unq_cons h, ih]
theorem conv_q {l : List Nat} (h : ¬ (39 ∈ l ∧ 34 ∉ l)) (b : Bool) : readL b l = [] := by
  have a39 : ascEsc 39 = [39] := by decide
  unfold readL convL
  rw [if_neg h]
  cases b with
  | false => simp
  | true => simp [a39]
theorem conv_d {l : List Nat} (h : 39 ∈ l ∧ 34 ∉ l) (b : Bool) (h34 : ∀ c ∈ l, 34 ∉ step b c) : readL b l = l.flatMap (step b) := by
  have a34 : ascEsc 34 = [34] := by decide
  have key : ∀ m, 34 ∉ m → (match 34 :: (m ++ [34]) with | c :: r => if c = 34 then unq r else [] | [] => []) = m := fun m hm => by
    show (if 34 = 34 then unq (m ++ [34]) else []) = m
    rw [if_pos rfl, unq_snoc m hm]
  have hno : 34 ∉ l.flatMap (step b) := fun hm => by
    obtain ⟨c, hc, hd⟩ := List.mem_flatMap.mp hm
    exact h34 c hc hd
  unfold readL convL
  rw [if_pos h]
  cases b with
  | false => exact key _ hno
  | true =>
    have e : (34 :: l.flatMap (reprChar 34) ++ [34]).flatMap ascEsc = 34 :: (l.flatMap (step true) ++ [34]) := by
      rw [List.flatMap_append, List.flatMap_cons, a34]
      simp only [List.flatMap_cons, List.flatMap_nil, a34, List.flatMap_assoc]
      rfl
    simp only [if_true, e]
    exact key _ hno
noncomputable def AlphaL (l : List Nat) : Prop := ∀ c ∈ l, c ∈ alpha ∨ c = 34
theorem read_first (b : Bool) (l : List Nat) (hl : AlphaL l) : readL b l = dueL (kinds [b]) l := by
  have hb : b ∈ [true, false] := by cases b <;> simp
  have hbs : [b] ∈ allBs := by cases b <;> decide
  unfold dueL
  by_cases h : 39 ∈ l ∧ 34 ∉ l
  · rw [if_pos h]
    have ha : ∀ c ∈ l, c ∈ alpha := fun c hc => (hl c hc).resolve_right fun e => h.2 (e ▸ hc)
    rw [conv_d h b fun c hc => by rw [due_tab1 b hb c (ha c hc)]; exact due_no34 _ hbs c (ha c hc)]
    exact flatMap_congr' fun c hc => due_tab1 b hb c (ha c hc)
  · rw [if_neg h, conv_q h]
theorem read_next (bs : List Bool) (hbs : bs ∈ allBs) (b : Bool) (l : List Nat) (hl : AlphaL l) : readL b (dueL (kinds bs) l) = dueL (kinds (bs ++ [b])) l := by
  have hb : b ∈ [true, false] := by cases b <;> simp
  unfold dueL
  by_cases h : 39 ∈ l ∧ 34 ∉ l
  · rw [if_pos h, if_pos h]
    have ha : ∀ c ∈ l, c ∈ alpha := fun c hc => (hl c hc).resolve_right fun e => h.2 (e ▸ hc)
    have h34 : 34 ∉ l.flatMap (dueC (kinds bs)) := fun hm => by
      obtain ⟨c, hc, hd⟩ := List.mem_flatMap.mp hm
      exact due_no34 _ hbs c (ha c hc) hd
    have h39 : 39 ∈ l.flatMap (dueC (kinds bs)) := List.mem_flatMap.mpr ⟨39, h.1, by
      have : dueC (kinds bs) 39 = [39] := by unfold dueC; rw [if_neg (by decide), if_neg (by decide), if_neg (fun h => absurd h.1 (by decide))]
      rw [this]; simp⟩
    have hm : ∀ d ∈ l.flatMap (dueC (kinds bs)), d ∈ alpha := fun d hd => by
      obtain ⟨c, hc, hd⟩ := List.mem_flatMap.mp hd
      exact due_small _ hbs c (ha c hc) d hd
    have hbs1 : [b] ∈ allBs := by cases b <;> decide
    rw [conv_d ⟨h39, h34⟩ b fun c hc => by rw [due_tab1 b hb c (hm c hc)]; exact due_no34 _ hbs1 c (hm c hc)]
    rw [List.flatMap_assoc]
    exact flatMap_congr' fun c hc => due_tab bs hbs b hb c (ha c hc)
  · rw [if_neg h, if_neg h, conv_q (by simp)]
noncomputable def alphaQ : List Nat := 34 :: alpha
theorem repr_alpha : ∀ q ∈ [34, 39], ∀ c ∈ alphaQ, ∀ d ∈ reprChar q c, d ∈ alphaQ := by decide +kernel
theorem repr_len4 : ∀ q ∈ [34, 39], ∀ c ∈ alphaQ, (reprChar q c).length ≤ 4 := by decide +kernel
theorem asc_len4 : ∀ c ∈ alphaQ, (ascEsc c).length ≤ 4 := by decide +kernel
theorem AlphaL.q {l : List Nat} (h : AlphaL l) : ∀ c ∈ l, c ∈ alphaQ := fun c hc => by
  rcases h c hc with h | h
  · exact List.mem_cons_of_mem _ h
  · subst h; exact List.mem_cons_self ..
theorem flat_len4 (f : Nat → List Nat) : ∀ l : List Nat, (∀ c ∈ l, (f c).length ≤ 4) → (l.flatMap f).length ≤ 4 * l.length
  | [], _ => by simp
  | c :: r, h => by
    have ih := flat_len4 f r fun d hd => h d (List.mem_cons_of_mem _ hd)
    have h1 := h c (List.mem_cons_self ..)
    simp only [List.flatMap_cons, List.length_append, List.length_cons]
    omega
noncomputable def quoteOf (l : List Nat) : Nat := if 39 ∈ l ∧ 34 ∉ l then 34 else 39
theorem quoteOf_mem (l : List Nat) : quoteOf l ∈ [34, 39] := by unfold quoteOf; split <;> simp
noncomputable def reprL (l : List Nat) : List Nat := quoteOf l :: l.flatMap (reprChar (quoteOf l)) ++ [quoteOf l]
theorem reprL_is (l : List Nat) : reprText (mk l) = mk (reprL l) := reprText_mk l (quoteOf l) (reprQuote_mk l)
theorem reprL_len {l : List Nat} (h : AlphaL l) : (reprL l).length ≤ 4 * l.length + 2 := by
  have := flat_len4 (reprChar (quoteOf l)) l fun c hc => repr_len4 _ (quoteOf_mem l) c (h.q c hc)
  simp only [reprL, List.length_append, List.length_cons, List.length_nil]; omega
theorem reprL_alpha {l : List Nat} (h : AlphaL l) : ∀ c ∈ reprL l, c ∈ alphaQ := by
  intro c hc
  have hq : quoteOf l ∈ alphaQ := by
    have := quoteOf_mem l
    have key : ∀ q ∈ [34, 39], q ∈ alphaQ := by decide
    exact key _ this
  simp only [reprL, List.cons_append, List.mem_cons, List.mem_append, List.not_mem_nil, or_false] at hc
  rcases hc with rfl | hc | rfl
  · exact hq
  · obtain ⟨d, hd, hc⟩ := List.mem_flatMap.mp hc
    exact repr_alpha _ (quoteOf_mem l) d (h.q d hd) c hc
  · exact hq
theorem asc_len {l : List Nat} (h : AlphaL l) : ((reprL l).flatMap ascEsc).length ≤ 4 * (reprL l).length :=
  flat_len4 ascEsc _ fun c hc => asc_len4 c (reprL_alpha h c hc)
theorem convL_is (b : Bool) (l : List Nat) : convL b l = if b then (reprL l).flatMap ascEsc else reprL l := rfl
theorem asc_head (q : Nat) (hq : q ∈ [34, 39]) : ascEsc q = [q] := by
  have : ∀ q ∈ [34, 39], ascEsc q = [q] := by decide
  exact this q hq
theorem convL_cons (b : Bool) (l : List Nat) : ∃ c r, convL b l = c :: r ∧ readL b l = if c = 34 then unq r else [] := by
  rw [convL_is]
  cases b with
  | false => exact ⟨_, _, rfl, rfl⟩
  | true =>
    have e : (reprL l).flatMap ascEsc = quoteOf l :: ((l.flatMap (reprChar (quoteOf l)) ++ [quoteOf l]).flatMap ascEsc) := by
      rw [reprL, List.cons_append, List.flatMap_cons, asc_head _ (quoteOf_mem l)]; rfl
    refine ⟨_, _, e, ?_⟩
    have : convL true l = quoteOf l :: ((l.flatMap (reprChar (quoteOf l)) ++ [quoteOf l]).flatMap ascEsc) := by rw [convL_is]; exact e
    unfold readL
    rw [this]
end P3
section FL
noncomputable def IsIt (o : Obj) (l : Addr) (i : Nat) : Prop := o.cls = .type "list_iterator" ∧ o.data = .fields #[.ref l, .int i 0]
section
variable {prog : Program} {w : World} {A : Around} {E : Value → Shared → Prop} {s : Shared} {h₀ : Heap} {L D : Addr} {m : Str → Option Value} {news : List (Addr × Obj)} {env : Env} {target : Expr} {body : List Stmt} {Q : Flow → Shared → Prop} {vs : List Value} {nn : Nat}
noncomputable def ForPost (h₀ : Heap) (L : Addr) (s : Shared) (J : (Str → Option Value) → List (Addr × Obj) → Prop) (Q : Flow → Shared → Prop) (I : Addr) (o : Obj) (f : Flow) (s₂ : Shared) : Prop :=
  match f with
  | .ret v => Q (.ret v) s₂
  | .brk => Q .next s₂
  | _ => ∃ h' tk' m' news', s₂ = { s with heap := h', toks := tk' } ∧ Fr h₀ L h' m' ∧ News h₀ L h' ((I, o) :: news') ∧ J m' news'
theorem for_list (J : Nat → (Str → Option Value) → List (Addr × Obj) → Prop) (hh : A.handled = none)
    (F : Fr h₀ L s.heap m) (N : News h₀ L s.heap news) (hJ : J 0 m news) (hD : ∀ i m news, J i m news → (D, listOf vs.toArray nn) ∈ news)
    (hA : ∀ i m m' news', J i m news' → (∀ p ∈ news, p.1 < m') → ∀ p ∈ news', p.1 ≠ m')
    (turn : ∀ i x m₁ news₁ I o h tk, vs[i]? = some x → J i m₁ news₁ → (∀ p ∈ news₁, p.1 ≠ I) → (∀ p ∈ news, p.1 < I) → Fr h₀ L h m₁ → News h₀ L h ((I, o) :: news₁) →
      wpAny (model prog w) A (assign target env x) (fun _ s₂ => wpAny (model prog w) A (execs body env) (ForPost h₀ L s (J (i + 1)) Q I o) E s₂) E { s with heap := h, toks := tk })
    (done : ∀ m₁ news₁ h tk, J vs.length m₁ news₁ → Fr h₀ L h m₁ → News h₀ L h news₁ → Q .next { s with heap := h, toks := tk })
    (hE : PassesOwn (model prog w) A env E) (ht : ∀ it v, letOwnedTupleGo target it v = pure ()) :
    wpAny (model prog w) A (pyIter (.ref D)) (fun it s₂ => codeAny (model prog w) A (.forLoop target it body [] env) (fun r s' => match r with | .ok f => Q f s' | .error e => cameBackBy (model prog w) A env E e s') s₂) E s := by
  have hl : s.heap.IsList D vs.toArray := News.isList N (hD 0 m news hJ)
  refine wpAny_pyIter_list hl ?_
  have hlt : ∀ p ∈ news, p.1 < s.heap.objs.size := fun p hp => Heap.lt_size (N p hp).1
  have hL : s.heap.objs.size ≠ L := fun e => absurd F.ns.lt (e ▸ Nat.lt_irrefl _)
  have hnew : h₀.get? s.heap.objs.size = none := next_is_new F
  generalize hI : s.heap.objs.size = I at hlt hL hnew
  refine codeAny_forLoop (fun n s' => ∃ i h tk m₁ news₁ o, n + i = vs.length ∧ s' = { s with heap := h, toks := tk } ∧ Fr h₀ L h m₁ ∧ News h₀ L h ((I, o) :: news₁) ∧ IsIt o D i ∧ J i m₁ news₁) ?_ vs.length ?_ (ht _)
  · rintro n s' ⟨i, h, tk, m₁, news₁, o, hn, rfl, F₁, N₁, ho, J₁⟩
    have ho1 : h.get? I = some o := (N₁ _ (List.mem_cons_self ..)).1
    have hit : h.IsListIter I D i := ⟨o, ho1, ho.1, ho.2⟩
    have hl₁ : h.IsList D vs.toArray := News.isList N₁ (List.mem_cons_of_mem _ (hD i m₁ news₁ J₁))
    have hoff := hA i m₁ I news₁ J₁ hlt
    cases n with
    | zero =>
      have e : i = vs.length := by omega
      subst e
      refine wpAny_pyNext_list_end hh hit hl₁ (by simp) fun h' hx => ?_
      refine wpAny_execs_nil (done m₁ news₁ h' tk J₁ ?_ ?_)
      · obtain ⟨oL, a1, a2, hLg, a3⟩ := F₁.ns
        exact ⟨⟨oL, a1, a2, hx _ _ (Ne.symm hL) hLg, a3⟩, fun b ob e => hx b ob (fun eb => by rw [eb, hnew] at e; cases e) (F₁.keep b ob e), F₁.above⟩
      · intro p hp
        have := N₁ p (List.mem_cons_of_mem _ hp)
        exact ⟨hx _ _ (hoff p hp) this.1, this.2⟩
    | succ n =>
      have hi : i < vs.length := by omega
      have hx : vs[i]? = some vs[i] := List.getElem?_eq_getElem hi
      refine wpAny_pyNext_list_item hit hl₁ (x := vs[i]) (by simp [hi]) fun h' hit' hs => ?_
      obtain ⟨o', ho', hc', hd'⟩ := hit'
      have F' : Fr h₀ L h' m₁ := by
        obtain ⟨oL, a1, a2, hLg, a3⟩ := F₁.ns
        exact ⟨⟨oL, a1, a2, (hs.2 _ (Ne.symm hL)).trans hLg, a3⟩, fun b ob e => (hs.2 b (fun eb => by rw [eb, hnew] at e; cases e)).trans (F₁.keep b ob e), F₁.above⟩
      have N' : News h₀ L h' ((I, o') :: news₁) := by
        intro p hp
        rcases List.mem_cons.mp hp with rfl | hp
        · exact ⟨ho', hL, hnew⟩
        · have := N₁ p (List.mem_cons_of_mem _ hp)
          exact ⟨(hs.2 _ (hoff p hp)).trans this.1, this.2⟩
      refine wpAny_mono (turn i vs[i] m₁ news₁ I o' h' tk hx J₁ hoff hlt F' N') (fun _ s₂ h₂ => wpAny_mono h₂ (fun f s₃ h₃ => ?_) hE) hE
      have fin : (∃ h' tk' m' news', s₃ = { s with heap := h', toks := tk' } ∧ Fr h₀ L h' m' ∧ News h₀ L h' ((I, o') :: news') ∧ J (i + 1) m' news') →
          ∃ mm, mm < n + 1 ∧ ∃ i h tk m₁ news₁ o, mm + i = vs.length ∧ s₃ = { s with heap := h, toks := tk } ∧ Fr h₀ L h m₁ ∧ News h₀ L h ((I, o) :: news₁) ∧ IsIt o D i ∧ J i m₁ news₁ := by
        rintro ⟨h2, tk2, m2, news2, e, F2, N2, J2⟩
        exact ⟨n, Nat.lt_succ_self _, i + 1, h2, tk2, m2, news2, o', by omega, e, F2, N2, ⟨hc', hd'⟩, J2⟩
      cases f with
      | ret v => exact h₃
      | brk => exact h₃
      | next => exact fin h₃
      | cont => exact fin h₃
  · refine ⟨0, _, s.toks, m, news, { cls := .type "list_iterator", data := .fields #[.ref D, .int 0 0] }, by omega, rfl, F.push _, ?_, ⟨rfl, rfl⟩, hJ⟩
    have := N.push F { cls := .type "list_iterator", data := .fields #[.ref D, .int 0 0] }
    rw [hI] at this
    exact this
noncomputable def CellEnd (h₀ : Heap) (L C : Addr) (s : Shared) (pre post : List (Addr × Obj)) (stored : List Str) (m₀ : Str → Option Value) (I : Addr) (o : Obj) (s₂ : Shared) : Prop :=
  ∃ h' tk' m' oC' v', s₂ = { s with heap := h', toks := tk' } ∧ Fr h₀ L h' m' ∧ News h₀ L h' ((I, o) :: (pre ++ (C, oC') :: post)) ∧ oC'.data = .cell v' ∧ (∀ z, stored.contains z = false → m' z = m₀ z)
noncomputable def CellPost (h₀ : Heap) (L C : Addr) (s : Shared) (pre post : List (Addr × Obj)) (stored : List Str) (m₀ : Str → Option Value) (Q : Flow → Shared → Prop) (I : Addr) (o : Obj) (f : Flow) (s₂ : Shared) : Prop :=
  match f with
  | .ret v => Q (.ret v) s₂
  | .brk => Q .next s₂
  | _ => CellEnd h₀ L C s pre post stored m₀ I o s₂
theorem for_cell {C : Addr} {oC₀ : Obj} {v₀ : Option Value} (pre post : List (Addr × Obj)) (stored : List Str) {m₀ : Str → Option Value} (hh : A.handled = none)
    (F : Fr h₀ L s.heap m₀) (N : News h₀ L s.heap (pre ++ (C, oC₀) :: post)) (hc : oC₀.data = .cell v₀) (hD : (D, listOf vs.toArray nn) ∈ pre)
    (turn : ∀ (i : Nat) (x : Value) (m₁ : Str → Option Value) (oC : Obj) (v : Option Value) (I : Addr) (o : Obj) (h : Heap) (tk : Nat), vs[i]? = some x → oC.data = .cell v → (∀ p ∈ pre ++ (C, oC) :: post, p.1 < I) → Fr h₀ L h (fun z => if stored.contains z then m₁ z else m₀ z) → News h₀ L h ((I, o) :: (pre ++ (C, oC) :: post)) →
      wpAny (model prog w) A (assign target env x) (fun _ s₂ => wpAny (model prog w) A (execs body env) (CellPost h₀ L C { s with heap := h, toks := tk } pre post stored m₀ Q I o) E s₂) E { s with heap := h, toks := tk })
    (done : ∀ (m₁ : Str → Option Value) (oC : Obj) (v : Option Value) (h : Heap) (tk : Nat), oC.data = .cell v → Fr h₀ L h (fun z => if stored.contains z then m₁ z else m₀ z) → News h₀ L h (pre ++ (C, oC) :: post) → Q .next { s with heap := h, toks := tk })
    (hE : PassesOwn (model prog w) A env E) (ht : ∀ it v, letOwnedTupleGo target it v = pure ()) :
    wpAny (model prog w) A (pyIter (.ref D)) (fun it s₂ => codeAny (model prog w) A (.forLoop target it body [] env) (fun r s' => match r with | .ok f => Q f s' | .error e => cameBackBy (model prog w) A env E e s') s₂) E s := by
  have hmm : ∀ m₁ : Str → Option Value, (∀ z, stored.contains z = false → m₁ z = m₀ z) → m₁ = fun z => if stored.contains z then m₁ z else m₀ z := by
    intro m₁ h
    funext z
    cases hz : stored.contains z with
    | true => simp
    | false => simp only [Bool.false_eq_true, if_false]; exact h z hz
  have adr : ∀ (P : Addr → Prop) (oC oC' : Obj), (∀ p ∈ pre ++ (C, oC) :: post, P p.1) → ∀ p ∈ pre ++ (C, oC') :: post, P p.1 := by
    intro P oC oC' h p hp
    rcases List.mem_append.mp hp with hp | hp
    · exact h p (List.mem_append.mpr (.inl hp))
    · rcases List.mem_cons.mp hp with rfl | hp
      · exact h (C, oC) (List.mem_append.mpr (.inr (List.mem_cons_self ..)))
      · exact h p (List.mem_append.mpr (.inr (List.mem_cons_of_mem _ hp)))
  refine for_list (vs := vs) (nn := nn) (fun _ m nw => ∃ oC v, nw = pre ++ (C, oC) :: post ∧ oC.data = .cell v ∧ (∀ z, stored.contains z = false → m z = m₀ z)) hh F N ⟨oC₀, v₀, rfl, hc, fun _ _ => rfl⟩ ?_ ?_ ?_ ?_ hE ht
  · rintro i m nw ⟨oC, v, rfl, _, _⟩
    exact List.mem_append.mpr (.inl hD)
  · rintro i m I nw ⟨oC, v, rfl, _, _⟩ hlt p hp e
    exact absurd (adr (· < I) _ oC hlt p hp) (e ▸ Nat.lt_irrefl _)
  · rintro i x m₁ nw I o h tk hx ⟨oC, v, rfl, hv, hm⟩ hoff hlt F₁ N₁
    rw [hmm m₁ hm] at F₁
    refine wpAny_mono (turn i x m₁ oC v I o h tk hx hv (adr (· < I) _ oC hlt) F₁ N₁) (fun _ s₂ h₂ => wpAny_mono h₂ (fun f s₃ h₃ => ?_) fun _ _ e => e) fun _ _ e => e
    have fin : CellEnd h₀ L C { s with heap := h, toks := tk } pre post stored m₀ I o s₃ → ForPost h₀ L s (fun m nw => ∃ oC v, nw = pre ++ (C, oC) :: post ∧ oC.data = .cell v ∧ (∀ z, stored.contains z = false → m z = m₀ z)) Q I o .next s₃ := by
      rintro ⟨h', tk', m', oC', v', e, F', N', hd', hm'⟩
      exact ⟨h', tk', m', _, e, F', N', oC', v', rfl, hd', hm'⟩
    cases f with
    | ret v => exact h₃
    | brk => exact h₃
    | next => exact fin h₃
    | cont => exact fin h₃
  · rintro m₁ nw h tk ⟨oC, v, rfl, hv, hm⟩ F₁ N₁
    rw [hmm m₁ hm] at F₁
    exact done m₁ oC v h tk hv F₁ N₁
end
end FL
section CT
open LCg
noncomputable def TupAt (h₀ : Heap) (ax : Addr) (its : Array Value) (news : List (Addr × Obj)) : Prop := IsTup h₀ ax its ∨ ∃ o, (ax, o) ∈ news ∧ o.cls = .type "tuple" ∧ ∃ n, o.data = .seq its n
theorem TupAt.tup {h₀ h : Heap} {L ax : Addr} {its : Array Value} {news : List (Addr × Obj)} (x : TupAt h₀ ax its news) (k : ∀ b o, h₀.get? b = some o → h.get? b = some o) (N : News h₀ L h news) : IsTup h ax its := by
  rcases x with ⟨o, e, r⟩ | ⟨o, hm, r⟩
  · exact ⟨o, k _ _ e, r⟩
  · exact ⟨o, (N _ hm).1, r⟩
section
variable {prog : Program} {w : World} {A : Around} {E : Value → Shared → Prop} {s : Shared} {h₀ : Heap} {L : Addr} {m : Str → Option Value} {env : Env}
theorem tup_st {ax I : Addr} {its : Array Value} : ∀ i (h h' : Heap) (o : Obj) (nw : List (Addr × Obj)), (h.IsTupleIter I ax i ∧ h.IsTuple ax its) → h.get? I = some o → h'.get? I = some o → (∀ b o, h₀.get? b = some o → h'.get? b = some o) → News h₀ L h' nw → TupAt h₀ ax its nw → (h'.IsTupleIter I ax i ∧ h'.IsTuple ax its) :=
  fun i h h' o nw st e e' k N S => ⟨by obtain ⟨o', q, r⟩ := st.1; rw [e] at q; cases q; exact ⟨o, e', r⟩, S.tup k N⟩
noncomputable def TupSrc (prog : Program) (w : World) (A : Around) (h₀ : Heap) (L : Addr) (m : Str → Option Value) (env : Env) (elt : Expr) (x : Str) (scope : Scope) (cl : List (Str × Addr)) (Q : Value → Shared → Prop) (xv : Value) (s₁ : Shared) : Prop :=
  ∃ ax its news, xv = .ref ax ∧ A.handled = none ∧ Fr h₀ L s₁.heap m ∧ News h₀ L s₁.heap news ∧ TupAt h₀ ax its news ∧ its.size ≤ sizeLine ∧
      ∀ s₂ : Shared, (∃ h, s₂ = { s₁ with heap := h }) → CompRest prog w A h₀ L m env elt x scope cl s₂ (TupAt h₀ ax its) (fun i v => its[i]? = some v) (FinE h₀ L m s₂ Q) its.size 0 [] news
theorem TupSrc.intro {elt : Expr} {x : Str} {scope : Scope} {cl : List (Str × Addr)} {Q : Value → Shared → Prop} {ax : Addr} {vs : List Value} {k : Nat} {news : List (Addr × Obj)} {s₁ : Shared}
    (hh : A.handled = none) (F : Fr h₀ L s₁.heap m) (N : News h₀ L s₁.heap news) (hm : (ax, ({ cls := .type "tuple", data := .seq vs.toArray k } : Obj)) ∈ news) (hsz : vs.length ≤ 100000)
    (h : ∀ g, CompRest prog w A h₀ L m env elt x scope cl { s₁ with heap := g } (TupAt h₀ ax vs.toArray) (fun i v => vs.toArray[i]? = some v) (FinE h₀ L m { s₁ with heap := g } Q) vs.length 0 [] news) :
    TupSrc prog w A h₀ L m env elt x scope cl Q (.ref ax) s₁ := ⟨ax, vs.toArray, news, rfl, hh, F, N, .inr ⟨_, hm, rfl, _, rfl⟩, by rw [PySem.sizeLine_eq, List.size_toArray]; omega, fun _ ⟨g, e⟩ => e ▸ (by rw [List.size_toArray]; exact h g)⟩
theorem ListComp_T {elt iter : Expr} {x : Str} {px : Pos} {scope : Scope} {cl : List (Str × Addr)} {pos : Pos} {Q : Value → Shared → Prop} (_F₀ : Fr h₀ L s.heap m)
    (hclos : closureFor scope env = pure cl) (hcell : ∀ y ∈ scope.names, y.2 ≠ .cell) (hkind : scope.kind = .function)
    (hnames : ∀ y ∈ scope.names, y.2 = .local → scope.names.lookup y.1 = some .local) (hx : scope.names.lookup x = some .local)
    (h : wpAny (model prog w) A (eval iter env) (TupSrc prog w A h₀ L m env elt x scope cl Q) E s)
    (hs : ∀ x, foldedSetIterable iter env x = pure x := by intro _; rfl) :
    wpAny (model prog w) A (eval (.ListComp elt [⟨.Name x px, iter, [], 0⟩] scope pos) env) Q E s := by
  rw [eval_ListComp]
  refine wpAny_comprehension_free (use := none) rfl hs hclos hkind hnames (wpAny_mono h (fun xv s₁ h₁ => ?_) fun _ _ e => e)
  obtain ⟨ax, its, news, rfl, hh, F, N, S, hsz, R⟩ := h₁
  have hl := S.tup F.keep N
  have hlt : ax < s₁.heap.objs.size := by obtain ⟨_, e, _⟩ := hl; exact Heap.lt_size e
  refine wpAny_pyIter_tuple hl ?_
  have up : ∀ b o, s₁.heap.get? b = some o → (s₁.heap.push { cls := .type "tuple_iterator", data := .fields #[.ref ax, .int 0 0] }).get? b = some o := fun b o e => Heap.get?_push_of_some _ e
  refine block_U (Walks.tuple hh s₁.heap.objs.size ax (Nat.ne_of_lt hlt) its) hsz (fun i h st => by obtain ⟨o, e, _⟩ := st.1; exact ⟨o, e⟩) tup_st hcell hkind hx ⟨⟨_, Heap.get?_push_size _ rfl, rfl, rfl⟩, by obtain ⟨o, e, r⟩ := hl; exact ⟨o, up _ _ e, r⟩⟩ (fun b hb => ?_)
    (F.keeps up) (N.grown up) (Nat.ne_of_lt F.ns.lt) (next_is_new F) (fun p hp => Nat.ne_of_lt (Heap.lt_size (N p hp).1)) S (R _ ⟨_, rfl⟩) ?_
  · show b < (s₁.heap.push _).objs.size
    rw [Heap.size_push]
    rcases List.mem_cons.mp hb with rfl | hb
    · exact Nat.lt_succ_self _
    · rw [List.mem_singleton.mp hb]; exact Nat.lt_succ_of_lt hlt
  · intro D C h tk m' ys news' F' N' o1 hn hC₀ hD₀ hCL hDL hCD offC fin
    refine ⟨m', hn, fun h'' hs'' => fin D h'' tk (F'.change hs'' hCL hC₀) (fun p hp => ?_) o1⟩
    refine ⟨hs''.extBut _ _ ?_ (N' p hp).1, (N' p hp).2⟩
    rcases List.mem_cons.mp hp with rfl | hp
    · exact Ne.symm hCD
    · exact offC p hp
end
end CT
noncomputable abbrev Cl2 (w : World) (mean : ExcName → Option Value) (mg mb : Str → Option Value) (f : Addr) (pre : Prop) (vs : List Value) (R : Tok → Value) : Prop :=
  ∀ news, CbClaim PySem.Challenge.rw_ik0030_02.row.prog w (hd.heap_39 w.params) hd.view_39 (looseW hd.view_39 []) mean mg mb f news [] pre vs R
noncomputable abbrev ClN (k : Nat) (w : World) (mean : ExcName → Option Value) (mg mb : Str → Option Value) (f : Addr) (news : List (Addr × Obj)) (vs : List Value) (R : Tok → Value) : Prop :=
  ∀ (dp un : Nat) (gd : Option (List Code)) (cn : Str) (cs : Scope) (a : Addr) (ccd : Value) (cl : List (Str × Addr)) (outer : List Env) (A₀ : Around) (base h₀ : Heap) (L : Addr) (m : Str → Option Value) (s : Shared) (Q E : Value → Shared → Prop),
    Below A₀ base outer h₀ → Fr h₀ L s.heap m → (hd.heap_39 w.params).In h₀ → News h₀ L s.heap news → Top hd.view_39 (looseW hd.view_39 []) mean mg mb h₀ → cs.kind = .function →
    dp + k < recursionLimit → un + 8 * k < cLine → CbRet h₀ L m news s Q R →
      wpAny (model PySem.Challenge.rw_ik0030_02.row.prog w) (ktrTop dp un gd cn cs L a ccd cl outer) (call (.ref f) vs) Q E s
section S2s
local macro_rules | `(tactic| walk_at "ite") => `(tactic| first | (refine ite_T ?h ?_; (case h => (walk_at "mine dec"))) | (refine ite_F ?h ?_; (case h => (walk_at "mine dec"))))
local macro_rules | `(tactic| walk_at "exec While Compare cons nil") => `(tactic| refine halt ?_)
local macro_rules | `(tactic| walk_at "call builtin:str.join") => `(tactic| refine halt ?_)
local macro_rules | `(tactic| walk_at "mine news") => `(tactic| first | assumption | (refine' cb_drop ?cbN ?cbS; (case cbN => assumption); (case cbS => kcj_all)))
local macro_rules | `(tactic| walk_at "KswEnd") => `(tactic| refine halt ?_)
local macro_rules | `(tactic| walk_at "binaryOp Add str str") => `(tactic| ((with_reducible show wpAny _ _ (binaryOp Operator.Add (Value.str _ _) (Value.str _ _)) _ _ _); (refine add_str ?_ (hsz := ?hsz)); (case hsz => walk_at "mine fits"); intro _ _))
local macro_rules | `(tactic| walk_at "mine fits") => `(tactic| (rw [PySem.sizeLine_eq]; omega))
local macro_rules | `(tactic| walk_at "mine same") => `(tactic| (intro z h2 h3; (simp only [List.forall_mem_cons, List.not_mem_nil, false_implies, implies_true, and_true, ne_eq] at h2); (try (obtain ⟨h4, h5⟩ := h2)); (have h6 := h3); (simp only [List.contains_cons, List.contains_nil, Bool.or_false, Bool.or_eq_false_iff, beq_eq_false_iff_ne, ne_eq] at h6); (simp only [kstB, *, Bool.false_eq_true, if_false])))
local macro_rules | `(tactic| walk_at "mine step") => `(tactic| repeat' (first | (k_unfold; (try dsimp only)) | (k_end; wrow_close) | walk1 | (dsimp only; walk1) | (leave1; try dsimp only) | fail "no step"))
local macro_rules | `(tactic| walk_at "mine dec") => `(tactic| first | (simp only [decide_eq_true_eq]; omega) | assumption | exact ne_true_of_eq_false (by assumption) | (simp only [*]; decide) | (simp only [*]; done))

noncomputable def signOf (x : Int) : Nat := if x.fmod 6 < 5 then [97, 39, 92, 10, 233].getD (x.fmod 6).toNat 0 else ((x.fdiv 6).fmod 128).toNat
theorem sign_spec (w : World) (mean mg mb) (x : Int) (t : Tok) :
   Cl2 w mean mg mb 145 True [.int x t] (fun t => .str (mk [signOf x]) t) := by
  dsimp only [Cl2, CbClaim, CbLists, CbRet]
  intro news dp un gd cn cs a ccd cl outer A₀ base h₀ L m s Q E B F X N T hk _ hd hu hret
  refine wpAny_call ?_
  k_dflt cell_enter
  rename Fr _ _ _ _ => lF
  replace lF := fr_as (fun y => List.lookup y [(Str.ofString "x", Value.int x t)]) lF (by with_unfolding_all rfl)
  walk_at "mine step"
  · refine cb_retS (Q := Q) (s := s) hret ?_ (by assumption) (by walk_at "mine news")
    have h1 := fmod_lo x (n := 6) (by decide)
    have h2 : x.fmod 6 < 5 := by assumption
    unfold signOf
    rw [if_pos h2]
    obtain ⟨k, hk⟩ := Int.eq_ofNat_of_zero_le h1
    rw [hk] at h2 ⊢
    have hk5 : k < 5 := by omega
    have hmem : k = 0 ∨ k = 1 ∨ k = 2 ∨ k = 3 ∨ k = 4 := by omega
    rcases hmem with rfl | rfl | rfl | rfl | rfl <;> rfl
  · refine cb_retS (Q := Q) (s := s) hret ?_ (by assumption) (by walk_at "mine news")
    have h2 : ¬ x.fmod 6 < 5 := by assumption
    unfold signOf
    rw [if_neg h2]; rfl
end S2s
section S2n
local macro_rules | `(tactic| walk_at "pad 0") => `(tactic| skip)
local macro_rules | `(tactic| walk_at "ite") => `(tactic| first | (refine ite_T ?h ?_; (case h => (walk_at "mine dec"))) | (refine ite_F ?h ?_; (case h => (walk_at "mine dec"))))
local macro_rules | `(tactic| walk_at "exec While Compare cons nil") => `(tactic| refine halt ?_)
local macro_rules | `(tactic| walk_at "call builtin:str.join") => `(tactic| refine halt ?_)
local macro_rules | `(tactic| walk_at "mine news") => `(tactic| first | assumption | (refine' cb_drop ?cbN ?cbS; (case cbN => assumption); (case cbS => kcj_all)))
local macro_rules | `(tactic| walk_at "KswEnd") => `(tactic| refine halt ?_)
local macro_rules | `(tactic| walk_at "binaryOp Add str str") => `(tactic| ((with_reducible show wpAny _ _ (binaryOp Operator.Add (Value.str _ _) (Value.str _ _)) _ _ _); (refine add_str ?_ (hsz := ?hsz)); (case hsz => walk_at "mine fits"); intro _ _))
local macro_rules | `(tactic| walk_at "mine fits") => `(tactic| (rw [PySem.sizeLine_eq]; omega))
local macro_rules | `(tactic| walk_at "mine same") => `(tactic| (intro z h2 h3; (simp only [List.forall_mem_cons, List.not_mem_nil, false_implies, implies_true, and_true, ne_eq] at h2); (try (obtain ⟨h4, h5⟩ := h2)); (have h6 := h3); (simp only [List.contains_cons, List.contains_nil, Bool.or_false, Bool.or_eq_false_iff, beq_eq_false_iff_ne, ne_eq] at h6); (simp only [kstB, *, Bool.false_eq_true, if_false])))
local macro_rules | `(tactic| walk_at "mine step") => `(tactic| repeat' (first | (k_unfold; (try dsimp only)) | (k_end; wrow_close) | walk1 | (dsimp only; walk1) | (leave1; try dsimp only) | fail "no step"))
local macro_rules | `(tactic| walk_at "mine dec") => `(tactic| first | (simp only [decide_eq_true_eq]; omega) | assumption | exact ne_true_of_eq_false (by assumption) | (simp only [*]; decide) | (simp only [*]; done))

theorem name_spec (w : World) (mean mg mb) (x : Nat) (hx : x < 256) (t : Tok) :
   Cl2 w mean mg mb 157 True [.int (x : Int) t] (fun t => .str (mk (nameL x)) t) := by
  dsimp only [Cl2, CbClaim, CbLists, CbRet]
  intro news dp un gd cn cs a ccd cl outer A₀ base h₀ L m s Q E B F X N T hk _ hd hu hret
  refine wpAny_call ?_
  k_dflt cell_enter
  rename Fr _ _ _ _ => lF
  replace lF := fr_as (fun y => List.lookup y [(Str.ofString "code", Value.int x t)]) lF (by with_unfolding_all rfl)
  by_cases h : x = 9 ∨ x = 10 ∨ x = 13
  · have h0 : 0 ≤ (x : Int) - 9 := by omega
    have h1 : (x : Int) - 9 < 5 := by omega
    have hq : (([9,10,13] : List Int).any fun k => k == (x:Int)) = true := by
      rcases h with rfl | rfl | rfl <;> decide
    walk_at "mine step"
    refine cb_retS (Q := Q) (s := s) hret ?_ (by assumption) (by walk_at "mine news")
    rcases h with rfl | rfl | rfl <;> rfl
  · have hq : (([9,10,13] : List Int).any fun k => k == (x:Int)) = false := by
      simp only [List.any_cons, List.any_nil, Bool.or_false, Bool.or_eq_false_iff, beq_eq_false_iff_ne, ne_eq]
      omega
    walk_at "mine step"
    refine cb_retS (Q := Q) (s := s) hret ?_ (by assumption) (by walk_at "mine news")
    have e1 : (x : Int).fdiv 16 = ((x / 16 : Nat) : Int) := by rw [Int.fdiv_eq_ediv_of_nonneg _ (by decide)]; rfl
    have e2 : (x : Int).fmod 16 = ((x % 16 : Nat) : Int) := by rw [Int.fmod_eq_emod_of_nonneg _ (by decide)]; rfl
    have hx1 : (Str.ofString "0123456789abcdef").cps.toList = hexL := rfl
    have key : ∀ k : Nat, k < 16 → Txt.item (Str.ofString "0123456789abcdef") (k : Int) = mk [hexL.getD k 0] := fun k hk =>
      item_at hx1 rfl _ (by
        have h16 : k < hexL.length := hk
        rw [List.getD_eq_getElem?_getD, List.getElem?_eq_getElem h16]; rfl)
    rw [e1, e2, key _ (by omega), key _ (by omega)]
    unfold nameL
    rw [if_neg (by omega), if_neg (by omega), if_neg (by omega)]
    show mk [120] ++ mk _ ++ mk _ = _
    rw [mk_append, mk_append]; rfl
end S2n
section S2p
local macro_rules | `(tactic| walk_at "pad 0") => `(tactic| skip)
local macro_rules | `(tactic| walk_at "pad 1") => `(tactic| skip)
local macro_rules | `(tactic| walk_at "pad 2") => `(tactic| skip)
local macro_rules | `(tactic| walk_at "pad 3") => `(tactic| skip)
local macro_rules | `(tactic| walk_at "ite") => `(tactic| first | (refine ite_T ?h ?_; (case h => (walk_at "mine dec"))) | (refine ite_F ?h ?_; (case h => (walk_at "mine dec"))))
local macro_rules | `(tactic| walk_at "exec While Compare cons nil") => `(tactic| refine halt ?_)
local macro_rules | `(tactic| walk_at "KswEnd") => `(tactic| refine halt ?_)
local macro_rules | `(tactic| walk_at "binaryOp Add str str") => `(tactic| ((with_reducible show wpAny _ _ (binaryOp Operator.Add (Value.str _ _) (Value.str _ _)) _ _ _); (refine add_str ?_ (hsz := ?hsz)); (case hsz => walk_at "mine fits"); intro _ _))
local macro_rules | `(tactic| walk_at "mine fits") => `(tactic| (rw [PySem.sizeLine_eq]; omega))
local macro_rules | `(tactic| walk_at "mine same") => `(tactic| (intro z h2 h3; (simp only [List.forall_mem_cons, List.not_mem_nil, false_implies, implies_true, and_true, ne_eq] at h2); (try (obtain ⟨h4, h5⟩ := h2)); (have h6 := h3); (simp only [List.contains_cons, List.contains_nil, Bool.or_false, Bool.or_eq_false_iff, beq_eq_false_iff_ne, ne_eq] at h6); (simp only [kstB, *, Bool.false_eq_true, if_false])))
local macro_rules | `(tactic| walk_at "mine step") => `(tactic| repeat' (first | (k_unfold; (try dsimp only)) | (k_end; wrow_close) | walk1 | (dsimp only; walk1) | (leave1; try dsimp only) | fail "no step"))
section
local macro_rules | `(tactic| walk_at "mine dec") => `(tactic| first | (simp only [decide_eq_true_eq]; omega) | assumption | exact ne_true_of_eq_false (by assumption) | (simp only [*]; decide) | (simp only [*]; done))
theorem parse_spec (w : World) (mean mg mb) (x : Str) (c : Nat) (l : List Nat) (t : Tok) (hx : x.cps.toList = 50::53::55::32::c::l) (hl : l.length ≤ 1000000) :
   Cl2 w mean mg mb 138 True [.str x t] (fun t => .str (mk (if c = 34 then unq l else [])) t) := by
  have h1 : Txt.slice x none (some 3) = Str.ofString "257" := by
    rw [slice_to hx (by simp; omega)]; rfl
  have h2 : Txt.slice x (some 3) (some 5) = mk [32, c] := by
    rw [slice_in hx (by simp; omega)]; rfl
  have hlen : x.length = l.length + 5 := by 
    have := congrArg List.length hx
    simpa [Str.length] using this
  by_cases hc : c = 34
  · subst hc
    dsimp only [Cl2, CbClaim, CbLists, CbRet]
    intro news dp un gd cn cs a ccd cl outer A₀ base h₀ L m s Q E B F X N T hk _ hd hu hret
    refine wpAny_call ?_
    k_dflt cell_enter
    rename Fr _ _ _ _ => lF
    replace lF := fr_as (fun y => List.lookup y [(Str.ofString "resp", Value.str x t)]) lF (by with_unfolding_all rfl)
    walk_at "mine step"
    dsimp only [Halt]
    rename Fr _ _ _ _ => lF
    rename News _ _ _ _ => lN
    with_unfolding_all refine' ksw_while (σ := List Nat × Int × Str × List Nat × Tok × Tok) (fun _ => _) (fun c => [(Str.ofString "i", .int c.2.1 c.2.2.2.2.1), (Str.ofString "dirname", .str c.2.2.1 c.2.2.2.2.2)]) (fun _ => True) [Str.ofString "c"] (fun c => (∃ p, l = p ++ c.1) ∧ c.2.1 = (x.length : Int) - c.1.length ∧ c.2.2.1 = mk c.2.2.2.1 ∧ c.2.2.2.1 ++ unq c.1 = unq l) (fun c => c.1.length) (l, 5, Str.ofString "", [], _, _) lF lN trivial ?k1 ?k2 ?k3
    case k1 => kst_all
    case k2 => exact ⟨⟨[], rfl⟩, by rw [hlen]; simp; omega, rfl, rfl⟩
    clear lF lN
    rintro ⟨r, i, d, dl, t1, t2⟩ u h tk9 - ⟨⟨p, hp⟩, hi, hd, hu⟩ F N
    dsimp only at hp hi hd hu F N ⊢
    have hdl : dl.length ≤ l.length := by
      have h1 := congrArg List.length hu
      have h2 := unq_le _ l (Nat.le_refl _)
      simp only [List.length_append] at h1
      omega
    have hdl2 : d.length ≤ 1000000 := by rw [hd, mk_len]; omega
    rcases r with _ | ⟨c, r⟩
    · simp only [List.length_nil] at hi
      walk_at "mine step"
      refine cb_retS (Q := Q) (s := s) hret ?_ (by assumption) (by assumption)
      rw [hd, if_pos rfl, ← hu]; simp [unq]
    · simp only [List.length_cons] at hi
      have hpl := congrArg List.length hp
      simp only [List.length_append, List.length_cons] at hpl
      have h0 : 0 ≤ i := by omega
      have h1 : i < x.length := by omega
      have hit : Txt.item x i = mk [c] := item_at hx (j := 5 + p.length) (by omega) c (by subst hp; simp [Nat.add_comm 5])
      have hil : (Txt.item x i).length = 1 := by rw [hit]; rfl
      by_cases hc : c = 34
      · subst hc
        have q1 : (Txt.item x i == Str.ofString "\"") = true := by rw [hit]; rfl
        rcases r with _ | ⟨c2, r⟩
        · simp only [List.length_nil] at hi
          walk_at "mine step"
          refine cb_retS (Q := Q) (s := s) hret ?_ (by assumption) (by assumption)
          rw [hd, if_pos rfl, ← hu, unq_end (by simp), List.append_nil]
        · simp only [List.length_cons] at hi hpl
          have hit2 : Txt.item x (i + 1) = mk [c2] := item_at hx (j := 5 + (p.length + 1)) (by omega) c2 (by subst hp; simp [Nat.add_comm 5])
          by_cases hc2 : c2 = 34
          · subst hc2
            have q2 : (Txt.item x (i + 1) != Str.ofString "\"") = false := by rw [hit2]; rfl
            walk_at "mine step"
            dsimp only [Halt]
            refine ksw_end (r, i + 1 + 1, _, dl ++ [34], _, _) (by assumption) (by assumption) (fun _ h => h) trivial (by kst_all) (by walk_at "mine same") ?_ ?_
            · exact ⟨⟨p ++ [34, 34], by rw [hp]; simp⟩, by dsimp only; omega, by dsimp only; rw [hd, hit, mk_append], by dsimp only; rw [← hu, unq_qq]; simp⟩
            · simp only [List.length_cons]; omega
          · have q2 : (Txt.item x (i + 1) != Str.ofString "\"") = true := by rw [hit2, bne, mk_beq_str c2 34 (Str.ofString "\"") rfl]; simp [hc2]
            walk_at "mine step"
            refine cb_retS (Q := Q) (s := s) hret ?_ (by assumption) (by assumption)
            rw [hd, if_pos rfl, ← hu, unq_end (by simp [hc2]), List.append_nil]
      · have q1 : (Txt.item x i == Str.ofString "\"") = false := by rw [hit, mk_beq_str c 34 (Str.ofString "\"") rfl]; simp [hc]
        walk_at "mine step"
        dsimp only [Halt]
        refine ksw_end (r, i + 1, _, dl ++ [c], _, _) (by assumption) (by assumption) (fun _ h => h) trivial (by kst_all) (by walk_at "mine same") ?_ ?_
        · exact ⟨⟨p ++ [c], by rw [hp]; simp⟩, by dsimp only; omega, by dsimp only; rw [hd, hit, mk_append], by dsimp only; rw [← hu, unq_cons hc]; simp⟩
        · simp only [List.length_cons]; omega
  · dsimp only [Cl2, CbClaim, CbLists, CbRet]
    intro news dp un gd cn cs a ccd cl outer A₀ base h₀ L m s Q E B F X N T hk _ hd hu hret
    refine wpAny_call ?_
    k_dflt cell_enter
    rename Fr _ _ _ _ => lF
    replace lF := fr_as (fun y => List.lookup y [(Str.ofString "resp", Value.str x t)]) lF (by with_unfolding_all rfl)
    have q1 : (mk [32, c] != Str.ofString " \"") = true := by
      have : (mk [32, c] == Str.ofString " \"") = false := by
        rw [show Str.ofString " \"" = mk [32, 34] from rfl, mk_beq]; simp [hc]
      rw [bne, this]; rfl
    walk_at "mine step"
    refine cb_retS (Q := Q) (s := s) hret ?_ (by assumption) (by assumption)
    rw [if_neg hc]; rfl
end
end S2p
section S2q
local macro_rules | `(tactic| walk_at "pad 0") => `(tactic| skip)
local macro_rules | `(tactic| walk_at "pad 1") => `(tactic| skip)
local macro_rules | `(tactic| walk_at "pad 2") => `(tactic| skip)
local macro_rules | `(tactic| walk_at "ite") => `(tactic| first | (refine ite_T ?h ?_; (case h => (walk_at "mine dec"))) | (refine ite_F ?h ?_; (case h => (walk_at "mine dec"))))
local macro_rules | `(tactic| walk_at "exec While Compare cons nil") => `(tactic| refine halt ?_)
local macro_rules | `(tactic| walk_at "call builtin:str.join") => `(tactic| refine halt ?_)
local macro_rules | `(tactic| walk_at "mine news") => `(tactic| first | assumption | (refine' cb_drop ?cbN ?cbS; (case cbN => assumption); (case cbS => kcj_all)))
local macro_rules | `(tactic| walk_at "KswEnd") => `(tactic| refine halt ?_)
local macro_rules | `(tactic| walk_at "binaryOp Add str str") => `(tactic| ((with_reducible show wpAny _ _ (binaryOp Operator.Add (Value.str _ _) (Value.str _ _)) _ _ _); (refine add_str ?_ (hsz := ?hsz)); (case hsz => walk_at "mine fits"); intro _ _))
local macro_rules | `(tactic| walk_at "mine fits") => `(tactic| (rw [PySem.sizeLine_eq]; omega))
local macro_rules | `(tactic| walk_at "mine same") => `(tactic| (intro z h2 h3; (simp only [List.forall_mem_cons, List.not_mem_nil, false_implies, implies_true, and_true, ne_eq] at h2); (try (obtain ⟨h4, h5⟩ := h2)); (have h6 := h3); (simp only [List.contains_cons, List.contains_nil, Bool.or_false, Bool.or_eq_false_iff, beq_eq_false_iff_ne, ne_eq] at h6); (simp only [kstB, *, Bool.false_eq_true, if_false])))
local macro_rules | `(tactic| walk_at "mine step") => `(tactic| repeat' (first | (k_unfold; (try dsimp only)) | (k_end; wrow_close) | walk1 | (dsimp only; walk1) | (leave1; try dsimp only) | fail "no step"))
local macro_rules | `(tactic| walk_at "mine dec") => `(tactic| first | (simp only [decide_eq_true_eq]; omega) | assumption | exact ne_true_of_eq_false (by assumption) | (simp only [*]; decide) | (simp only [*]; done))

theorem quotedL_len (l : List Nat) : (quotedL l).length ≤ 2 * l.length + 2 := by
  have : ∀ l : List Nat, (l.flatMap fun c => if c = 34 then [34,34] else [c]).length ≤ 2 * l.length := by
    intro l; induction l with
    | nil => simp
    | cons c r ih => simp only [List.flatMap_cons, List.length_append, List.length_cons]; split <;> simp only [List.length_cons, List.length_nil] <;> omega
  have := this l
  simp only [quotedL, List.length_append, List.length_cons, List.length_nil]; omega
theorem quoted_spec (w : World) (mean mg mb) (x : Str) (l : List Nat) (t : Tok) (hx : x = mk l) (hl : l.length ≤ 100000) :
   Cl2 w mean mg mb 150 True [.str x t] (fun t => .str (mk (quotedL l)) t) := by
  have hxl : x.length ≤ 100000 := by rw [hx, mk_len]; exact hl
  have hql := quotedL_len l
  dsimp only [Cl2, CbClaim, CbLists, CbRet]
  intro news dp un gd cn cs a ccd cl outer A₀ base h₀ L m s Q E B F X N T hk _ hd hu hret
  refine wpAny_call ?_
  k_dflt cell_enter
  rename Fr _ _ _ _ => lF
  replace lF := fr_as (fun y => List.lookup y [(Str.ofString "text", Value.str x t)]) lF (by with_unfolding_all rfl)
  walk_at "mine step"
  dsimp only [Halt]
  rename CarriedAll _ _ => hc
  have hfl : (l.map fun c => if c = 34 then [34, 34] else [c]).flatten = (l.flatMap fun c => if c = 34 then [34,34] else [c]) := by rw [List.flatMap_def]
  have hb : (l.map fun c => if c = 34 then [34, 34] else [c]).flatten.length ≤ 1000000 := by
    rw [hfl]; simp only [quotedL, List.length_append, List.length_cons, List.length_nil] at hql; omega
  refine join_mk (l.map fun c => if c = 34 then [34, 34] else [c]) (by assumption) ?_ hb ?_
  · refine Eq.mp (congrArg _ ?_) hc
    rw [hx, signs_mk, filter_everyA, List.map_map, List.map_map]
    refine List.map_congr_left fun c _ => ?_
    show (if (mk [c] == Str.ofString "\"") = true then PyData.str (Str.ofString "\"\"") else PyData.str (mk [c])) = PyData.str (mk (if c = 34 then [34, 34] else [c]))
    rw [mk_beq_str c 34 (Str.ofString "\"") rfl]
    by_cases h : c = 34
    · rw [if_pos (by simp [h]), if_pos h]; rfl
    · rw [if_neg (by simp [h]), if_neg h]
  rw [hfl] at hb ⊢
  have hml := mk_len (l.flatMap fun c => if c = 34 then [34,34] else [c])
  have h1 : (Str.ofString "\"").length = 1 := rfl
  have h2 : ∀ z : Str, (Str.ofString "\"" ++ z).length = 1 + z.length := fun z => by simp [Str.length_append, h1]
  intro t' k
  walk_at "mine step"
  refine cb_retS (Q := Q) (s := s) hret ?_ (by assumption) (by first | assumption | (refine' cb_drop ?cbN ?cbS; (case cbN => assumption); (case cbS => kcj_all)))
  show mk [34] ++ mk _ ++ mk [34] = _
  rw [mk_append, mk_append]; rfl
end S2q
section S2c
local macro_rules | `(tactic| walk_at "pad 0") => `(tactic| skip)
local macro_rules | `(tactic| walk_at "pad 1") => `(tactic| skip)
local macro_rules | `(tactic| walk_at "pad 2") => `(tactic| skip)
local macro_rules | `(tactic| walk_at "ite") => `(tactic| first | (refine ite_T ?h ?_; (case h => (walk_at "mine dec"))) | (refine ite_F ?h ?_; (case h => (walk_at "mine dec"))))
local macro_rules | `(tactic| walk_at "exec While Compare cons nil") => `(tactic| refine halt ?_)
local macro_rules | `(tactic| walk_at "call builtin:str.join") => `(tactic| refine halt ?_)
local macro_rules | `(tactic| walk_at "mine news") => `(tactic| first | assumption | (refine' cb_drop ?cbN ?cbS; (case cbN => assumption); (case cbS => kcj_all)))
local macro_rules | `(tactic| walk_at "KswEnd") => `(tactic| refine halt ?_)
local macro_rules | `(tactic| walk_at "binaryOp Add str str") => `(tactic| ((with_reducible show wpAny _ _ (binaryOp Operator.Add (Value.str _ _) (Value.str _ _)) _ _ _); (refine add_str ?_ (hsz := ?hsz)); (case hsz => walk_at "mine fits"); intro _ _))
local macro_rules | `(tactic| walk_at "mine fits") => `(tactic| (rw [PySem.sizeLine_eq]; (try simp only [mk_len, sing_len, PySem.Str.length_append]); omega))
local macro_rules | `(tactic| walk_at "mine same") => `(tactic| (intro z h2 h3; (simp only [List.forall_mem_cons, List.not_mem_nil, false_implies, implies_true, and_true, ne_eq] at h2); (try (obtain ⟨h4, h5⟩ := h2)); (have h6 := h3); (simp only [List.contains_cons, List.contains_nil, Bool.or_false, Bool.or_eq_false_iff, beq_eq_false_iff_ne, ne_eq] at h6); (simp only [kstB, *, Bool.false_eq_true, if_false])))
local macro_rules | `(tactic| walk_at "mine step") => `(tactic| repeat' (first | (k_unfold; (try dsimp only)) | (k_end; wrow_close) | walk1 | (dsimp only; walk1) | (leave1; try dsimp only) | fail "no step"))
local macro_rules | `(tactic| walk_at "mine dec") => `(tactic| first | (simp only [decide_eq_true_eq, beq_iff_eq, bne_iff_ne]; omega) | assumption | exact ne_true_of_eq_false (by assumption) | (simp only [*]; decide) | (simp only [*]; done))

theorem conv_none (w : World) (mean mg mb) (x : Str) (t : Tok) (slf : Value) :
   ∀ news, ClN 2 w mean mg mb 85 news [slf, .str x t, .none] (fun t => .str x t) := by
  intro news
  dsimp only [ClN, CbRet]
  intro dp un gd cn cs a ccd cl outer A₀ base h₀ L m s Q E B F X N T hk hd hu hret
  refine wpAny_call ?_
  k_dflt cell_enter
  rename Fr _ _ _ _ => lF
  replace lF := fr_as (fun y => List.lookup y [(Str.ofString "conversion", Value.none), (Str.ofString "value", Value.str x t), (Str.ofString "self", slf)]) lF (by with_unfolding_all rfl)
  walk_at "mine step"
  exact cb_retS (Q := Q) (s := s) hret rfl (by assumption) (by walk_at "mine news")
theorem conv_s (w : World) (mean mg mb) (x : Str) (t u : Tok) (slf : Value) (hx : x.length ≤ 1000000) :
   ∀ news, ClN 2 w mean mg mb 85 news [slf, .str x t, .str (Str.ofString "s") u] (fun t => .str x t) := by
  intro news
  dsimp only [ClN, CbRet]
  intro dp un gd cn cs a ccd cl outer A₀ base h₀ L m s Q E B F X N T hk hd hu hret
  refine wpAny_call ?_
  k_dflt cell_enter
  rename Fr _ _ _ _ => lF
  replace lF := fr_as (fun y => List.lookup y [(Str.ofString "conversion", Value.str (Str.ofString "s") u), (Str.ofString "value", Value.str x t), (Str.ofString "self", slf)]) lF (by with_unfolding_all rfl)
  walk_at "mine step"
  exact cb_retS (Q := Q) (s := s) hret rfl (by assumption) (by walk_at "mine news")
theorem conv_r (w : World) (mean mg mb) (x : Str) (t u : Tok) (slf : Value) (hx : x.length ≤ 100000) (hr : (reprText x).length ≤ 1000000) :
   ∀ news, ClN 2 w mean mg mb 85 news [slf, .str x t, .str (Str.ofString "r") u] (fun t => .str (reprText x) t) := by
  intro news
  dsimp only [ClN, CbRet]
  intro dp un gd cn cs a ccd cl outer A₀ base h₀ L m s Q E B F X N T hk hd hu hret
  refine wpAny_call ?_
  k_dflt cell_enter
  rename Fr _ _ _ _ => lF
  replace lF := fr_as (fun y => List.lookup y [(Str.ofString "conversion", Value.str (Str.ofString "r") u), (Str.ofString "value", Value.str x t), (Str.ofString "self", slf)]) lF (by with_unfolding_all rfl)
  walk_at "mine step"
  exact cb_retS (Q := Q) (s := s) hret rfl (by assumption) (by walk_at "mine news")
local macro_rules | `(tactic| walk_at "call builtin:ascii") => `(tactic| (refine ascii_of_str ?_ (by assumption) (by assumption); intro _ _))
theorem conv_a (w : World) (mean mg mb) (x : Str) (t u : Tok) (slf : Value) (hx : x.length ≤ 100000) (hr : (reprText x).length ≤ 1000000) (hr2 : (ascText (reprText x)).length ≤ sizeLine) :
   ∀ news, ClN 2 w mean mg mb 85 news [slf, .str x t, .str (Str.ofString "a") u] (fun t => .str (ascText (reprText x)) t) := by
  intro news
  dsimp only [ClN, CbRet]
  intro dp un gd cn cs a ccd cl outer A₀ base h₀ L m s Q E B F X N T hk hd hu hret
  refine wpAny_call ?_
  k_dflt cell_enter
  rename Fr _ _ _ _ => lF
  replace lF := fr_as (fun y => List.lookup y [(Str.ofString "conversion", Value.str (Str.ofString "a") u), (Str.ofString "value", Value.str x t), (Str.ofString "self", slf)]) lF (by with_unfolding_all rfl)
  walk_at "mine step"
  exact cb_retS (Q := Q) (s := s) hret rfl (by assumption) (by walk_at "mine news")
end S2c
section S2r
local macro_rules | `(tactic| walk_at "pad 0") => `(tactic| skip)
local macro_rules | `(tactic| walk_at "pad 1") => `(tactic| skip)
local macro_rules | `(tactic| walk_at "ite") => `(tactic| first | (refine ite_T ?h ?_; (case h => (walk_at "mine dec"))) | (refine ite_F ?h ?_; (case h => (walk_at "mine dec"))))
local macro_rules | `(tactic| walk_at "exec While Compare cons nil") => `(tactic| refine halt ?_)
local macro_rules | `(tactic| walk_at "call builtin:str.join") => `(tactic| refine halt ?_)
local macro_rules | `(tactic| walk_at "mine news") => `(tactic| first | assumption | (refine' cb_drop ?cbN ?cbS; (case cbN => assumption); (case cbS => kcj_all)))
local macro_rules | `(tactic| walk_at "KswEnd") => `(tactic| refine halt ?_)
local macro_rules | `(tactic| walk_at "binaryOp Add str str") => `(tactic| ((with_reducible show wpAny _ _ (binaryOp Operator.Add (Value.str _ _) (Value.str _ _)) _ _ _); (refine add_str ?_ (hsz := ?hsz)); (case hsz => walk_at "mine fits"); intro _ _))
local macro_rules | `(tactic| walk_at "mine fits") => `(tactic| (rw [PySem.sizeLine_eq]; (try simp only [mk_len, sing_len, PySem.Str.length_append]); omega))
local macro_rules | `(tactic| walk_at "mine same") => `(tactic| (intro z h2 h3; (simp only [List.forall_mem_cons, List.not_mem_nil, false_implies, implies_true, and_true, ne_eq] at h2); (try (obtain ⟨h4, h5⟩ := h2)); (have h6 := h3); (simp only [List.contains_cons, List.contains_nil, Bool.or_false, Bool.or_eq_false_iff, beq_eq_false_iff_ne, ne_eq] at h6); (simp only [kstB, *, Bool.false_eq_true, if_false])))
local macro_rules | `(tactic| walk_at "mine step") => `(tactic| repeat' (first | (k_unfold; (try dsimp only)) | (k_end; wrow_close) | walk1 | (dsimp only; walk1) | (leave1; try dsimp only) | fail "no step"))
local macro_rules | `(tactic| walk_at "mine dec") => `(tactic| first | (simp only [decide_eq_true_eq, beq_iff_eq, bne_iff_ne]; omega) | assumption | exact ne_true_of_eq_false (by assumption) | (simp only [*]; decide) | (simp only [*]; done))

local macro_rules | `(tactic| walk_at "mine cb") => `(tactic| (
  (case k1 => first | k_asm | fail "k1")
  (case k2 => first | k_asm | fail "k2")
  (case k3 => first | k_asm | fail "k3")
  (case k4 => first | k_asm | fail "k4")
  (case k5 => first | k_asm | fail "k5")
  (case kK => first | exact rfl | assumption | fail "kK")
  (case kd => first | ktr_room | fail "kd")
  (case ku => first | ktr_units | fail "ku")
  intro t9 h9 tk9 F9 N9
  (try dsimp only)
  (try k_fold)))

local macro_rules | `(tactic| walk_at "call ref") => `(tactic| ((with_reducible show wpAny _ _ (call (Value.ref 138) [Value.str _ _]) _ _ _); refine halt ?_))
local macro_rules | `(tactic| walk_at "call ref") => `(tactic| ((with_reducible show wpAny _ _ (call (Value.ref 85) [_, Value.str _ _, _]) _ _ _); refine halt ?_))
theorem read_gen (w : World) (mean mg mb) (x : Str) (t : Tok) (kv : Value) (y : Str) (c : Nat) (l : List Nat) (hy : y = mk (c :: l)) (hl : l.length ≤ 1000000) (hconv : ∀ slf news, ClN 2 w mean mg mb 85 news [slf, .str x t, kv] (fun t => .str y t)) :
   ∀ news, ClN 5 w mean mg mb 171 news [.str x t, kv] (fun t => .str (mk (if c = 34 then unq l else [])) t) := by
  have hyl : y.length ≤ 1000001 := by rw [hy, mk_len, List.length_cons]; omega
  have h257 : (Str.ofString "257 ").length = 4 := rfl
  have hcat : (Str.ofString "257 " ++ y).cps.toList = 50 :: 53 :: 55 :: 32 :: c :: l := by
    subst hy
    show (Str.append (Str.ofString "257 ") (mk (c :: l))).cps.toList = _
    rw [show Str.ofString "257 " = mk [50, 53, 55, 32] from rfl]
    show ((mk [50,53,55,32]).cps ++ (mk (c :: l)).cps).toList = _
    rw [Array.toList_append, mk_cps, mk_cps]; rfl
  intro news
  dsimp only [ClN, CbRet]
  intro dp un gd cn cs a ccd cl outer A₀ base h₀ L m s Q E B F X N T hk hd hu hret
  refine wpAny_call ?_
  k_dflt cell_enter
  rename Fr _ _ _ _ => lF
  replace lF := fr_as (fun y => List.lookup y [(Str.ofString "kind", kv), (Str.ofString "text", Value.str x t)]) lF (by with_unfolding_all rfl)
  walk_at "mine step"
  dsimp only [Halt]
  refine' hconv _ _ _ _ _ _ _ _ _ _ _ _ _ _ _ _ _ _ _ ?k1 ?k2 ?k3 ?k4 ?k5 ?kK ?kd ?ku ?_
  walk_at "mine cb"
  walk_at "mine step"
  dsimp only [Halt]
  refine' parse_spec _ _ _ _ _ _ _ _ hcat hl _ _ _ _ _ _ _ _ _ _ _ _ _ _ _ _ _ _ ?k1 ?k2 ?k3 ?k4 ?k5 ?kK trivial ?kd ?ku ?_
  walk_at "mine cb"
  walk_at "mine step"
  exact cb_retS (Q := Q) (s := s) hret rfl (by assumption) (by walk_at "mine news")


noncomputable def kindV (b : Bool) : Str := if b then Str.ofString "a" else Str.ofString "r"
theorem read_b (w : World) (mean mg mb) (b : Bool) (l : List Nat) (hl : AlphaL l) (hlen : l.length ≤ 1000) (t u : Tok) :
    ∀ news, ClN 5 w mean mg mb 171 news [.str (mk l) t, .str (kindV b) u] (fun t => .str (mk (readL b l)) t) := by
  have h1 := reprL_len hl
  have h2 := asc_len hl
  have e1 := reprL_is l
  have e2 : ascText (reprText (mk l)) = mk ((reprL l).flatMap ascEsc) := by rw [e1, ascText_mk]
  have s1 : (reprText (mk l)).length ≤ 1000000 := by rw [e1, mk_len]; omega
  have s2 : (ascText (reprText (mk l))).length ≤ sizeLine := by rw [e2, mk_len, PySem.sizeLine_eq]; omega
  obtain ⟨c, r, hc, hr⟩ := convL_cons b l
  have hrl : r.length ≤ 1000000 := by
    have h3 := congrArg List.length hc
    rw [convL_is] at h3
    cases b with
    | true => simp only [if_true, List.length_cons] at h3; omega
    | false => simp only [Bool.false_eq_true, if_false, List.length_cons] at h3; omega
  rw [hr]
  cases b with
  | true => exact read_gen w mean mg mb (mk l) t _ (ascText (reprText (mk l))) c r (by rw [e2]; exact congrArg mk hc) hrl fun slf news => conv_a w mean mg mb (mk l) t u slf (by rw [mk_len]; omega) s1 s2 news
  | false => exact read_gen w mean mg mb (mk l) t _ (reprText (mk l)) c r (by rw [e1]; exact congrArg mk hc) hrl fun slf news => conv_r w mean mg mb (mk l) t u slf (by rw [mk_len]; omega) s1 news
theorem read_qn (w : World) (mean mg mb) (l : List Nat) (hlen : l.length ≤ 1000) (t : Tok) :
    ∀ news, ClN 5 w mean mg mb 171 news [.str (mk (quotedL l)) t, .none] (fun t => .str (mk l) t) := by
  have hq := quotedL_len l
  have h := read_gen w mean mg mb (mk (quotedL l)) t .none (mk (quotedL l)) 34 ((l.flatMap fun c => if c = 34 then [34, 34] else [c]) ++ [34]) rfl (by simp only [quotedL, List.cons_append, List.length_cons] at hq ⊢; omega) fun slf news => conv_none w mean mg mb (mk (quotedL l)) t slf news
  rw [if_pos rfl, unq_quoted] at h
  exact h
theorem read_qs (w : World) (mean mg mb) (l : List Nat) (hlen : l.length ≤ 1000) (t u : Tok) :
    ∀ news, ClN 5 w mean mg mb 171 news [.str (mk (quotedL l)) t, .str (Str.ofString "s") u] (fun t => .str (mk l) t) := by
  have hq := quotedL_len l
  have h := read_gen w mean mg mb (mk (quotedL l)) t _ (mk (quotedL l)) 34 ((l.flatMap fun c => if c = 34 then [34, 34] else [c]) ++ [34]) rfl (by simp only [quotedL, List.cons_append, List.length_cons] at hq ⊢; omega) fun slf news => conv_s w mean mg mb (mk (quotedL l)) t u slf (by rw [mk_len]; omega) news
  rw [if_pos rfl, unq_quoted] at h
  exact h
end S2r
section S2d
local macro_rules | `(tactic| walk_at "ite") => `(tactic| first | (refine ite_T ?h ?_; (case h => (walk_at "mine dec"))) | (refine ite_F ?h ?_; (case h => (walk_at "mine dec"))))
local macro_rules | `(tactic| walk_at "exec While Compare cons nil") => `(tactic| refine halt ?_)
local macro_rules | `(tactic| walk_at "call builtin:str.join") => `(tactic| refine halt ?_)
local macro_rules | `(tactic| walk_at "mine news") => `(tactic| first | assumption | (refine' cb_drop ?cbN ?cbS; (case cbN => assumption); (case cbS => kcj_all)))
local macro_rules | `(tactic| walk_at "KswEnd") => `(tactic| refine halt ?_)
local macro_rules | `(tactic| walk_at "binaryOp Add str str") => `(tactic| ((with_reducible show wpAny _ _ (binaryOp Operator.Add (Value.str _ _) (Value.str _ _)) _ _ _); (refine add_str ?_ (hsz := ?hsz)); (case hsz => walk_at "mine fits"); intro _ _))
local macro_rules | `(tactic| walk_at "mine fits") => `(tactic| (rw [PySem.sizeLine_eq]; (try simp only [mk_len, sing_len, PySem.Str.length_append]); omega))
local macro_rules | `(tactic| walk_at "mine same") => `(tactic| (intro z h2 h3; (simp only [List.forall_mem_cons, List.not_mem_nil, false_implies, implies_true, and_true, ne_eq] at h2); (try (obtain ⟨h4, h5⟩ := h2)); (have h6 := h3); (simp only [List.contains_cons, List.contains_nil, Bool.or_false, Bool.or_eq_false_iff, beq_eq_false_iff_ne, ne_eq] at h6); (simp only [kstB, *, Bool.false_eq_true, if_false])))
local macro_rules | `(tactic| walk_at "mine step") => `(tactic| repeat' (first | (k_unfold; (try dsimp only)) | (k_end; wrow_close) | walk1 | (dsimp only; walk1) | (leave1; try dsimp only) | fail "no step"))
local macro_rules | `(tactic| walk_at "mine dec") => `(tactic| first | (simp only [decide_eq_true_eq, beq_iff_eq, bne_iff_ne]; omega) | assumption | exact ne_true_of_eq_false (by assumption) | (simp only [*]; decide) | (simp only [*]; done))

theorem nameL_len (c : Nat) : (nameL c).length ≤ 3 := by
  unfold nameL
  repeat' split
  all_goals simp
theorem dueC_len (ks : List Str) (h4 : ks.length ≤ 4) (c : Nat) : (dueC ks c).length ≤ 20 := by
  have hn := nameL_len c
  have hp : ∀ m, m ≤ 4 → 2 ^ m ≤ 16 := fun m hm => Nat.le_trans (Nat.pow_le_pow_right (by decide) hm) (by decide)
  have h1 := hp ks.length h4
  have h2 := hp (ks.length - 1) (by omega)
  have h3 := hp (ks.length - 1 - ks.idxOf (Str.ofString "a")) (by omega)
  unfold dueC
  repeat' split
  all_goals simp only [List.length_replicate, List.length_append, List.length_cons, List.length_nil]; omega
theorem flatMap_len (f : Nat → List Nat) (B : Nat) (hf : ∀ c, (f c).length ≤ B) : ∀ l : List Nat, (l.flatMap f).length ≤ B * l.length
  | [] => by simp
  | c :: r => by
    have ih := flatMap_len f B hf r
    have h1 := hf c
    simp only [List.flatMap_cons, List.length_append, List.length_cons, Nat.mul_succ]
    omega
theorem str_assoc (a b c : Str) : a ++ b ++ c = a ++ (b ++ c) := by
  show Str.append (Str.append _ _) _ = Str.append _ (Str.append _ _)
  simp [Str.append, Array.append_assoc]
local macro_rules | `(tactic| walk_at "mine sameK") => `(tactic| (intro z h1 h2 h3; (simp only [List.forall_mem_cons, List.not_mem_nil, false_implies, implies_true, and_true, ne_eq] at h2); (try (obtain ⟨h4, h5⟩ := h2)); (have h6 := h3); (simp only [List.contains_cons, List.contains_nil, Bool.or_false, Bool.or_eq_false_iff, beq_eq_false_iff_ne, ne_eq] at h6); (simp only [kstB, *, Bool.false_eq_true, if_false])))
local macro_rules | `(tactic| walk_at "pyIter str") => `(tactic| refine halt ?_)
local macro_rules | `(tactic| walk_at "call builtin:len") => `(tactic| ((with_reducible show wpAny _ _ (call (Value.builtin _) [Value.ref _]) _ _ _); (refine' len_strs ?h1 ?h2 ?h3 ?_; (case h2 => assumption); (case h1 => walk_at "mine lst"); (case h3 => omega)); intro _ _))
local macro_rules | `(tactic| walk_at "exec For Name Name cons nil") => `(tactic| ((rename Fr _ _ _ _ => lF'); (with_unfolding_all refine' For_invVF lF' ?k1 ?k2 ?_; (case k1 => exact rfl); (case k2 => exact rfl))))
local macro_rules | `(tactic| walk_at "InvEndN") => `(tactic| refine halt ?_)
local macro_rules | `(tactic| walk_at "binaryOp Mult str int") => `(tactic| ((with_reducible show wpAny _ _ (binaryOp Operator.Mult (Value.str _ _) (Value.int (2 ^ _) _)) _ _ _); (refine mul_pow (by omega) ?_); intro _ _ z hz hzl))
local macro_rules | `(tactic| walk_at "compareOp In str ref") => `(tactic| ((with_reducible show wpAny _ _ (compareOp CmpOp.In (Value.str _ _) (Value.ref _)) _ _ _); (refine' in_list_strs ?h1 ?h2 ?_; (case h2 => assumption); (case h1 => walk_at "mine lst"))))
local macro_rules | `(tactic| walk_at "call builtin:list.index") => `(tactic| ((with_reducible show wpAny _ _ (call (Value.builtin _) [Value.ref _, Value.str _ _]) _ _ _); (refine' index_strs ?h1 ?h2 ?h3 ?h4 ?_; (case h2 => assumption); (case h1 => walk_at "mine lst"); (case h3 => omega); (case h4 => assumption)); intro _ _))
local macro_rules | `(tactic| walk_at "mine lst") => `(tactic| (refine' lst_of ?n1 ?n2; (case n1 => assumption); (case n2 => walk_at "mine mem")))
local macro_rules | `(tactic| walk_at "mine mem") => `(tactic| first | assumption | (refine List.mem_cons_of_mem _ ?_; walk_at "mine mem") | (refine List.mem_append.mpr (Or.inl ?_); walk_at "mine mem") | (refine List.mem_append.mpr (Or.inr ?_); walk_at "mine mem"))
local macro_rules | `(tactic| walk_at "mine cb") => `(tactic| (
  (case k1 => first | k_asm | fail "k1")
  (case k2 => first | k_asm | fail "k2")
  (case k3 => first | k_asm | fail "k3")
  (case k4 => first | k_asm | fail "k4")
  (case k5 => first | k_asm | fail "k5")
  (case kK => first | exact rfl | assumption | fail "kK")
  (case kd => first | ktr_room | fail "kd")
  (case ku => first | ktr_units | fail "ku")
  intro t9 h9 tk9 F9 N9
  (try dsimp only)
  (try k_fold)))
local macro_rules | `(tactic| walk_at "getMethod ref") => `(tactic| (k_here; (with_reducible show wpAny _ _ (getMethod (Value.ref _) (PySem.Str.ofString "index") _) _ _ _); k_dflt (refine' kf_method ?N ?m PySem.F.slot_list_index PySem.F.type_list_index ?_; (case N => k_asm); (case m => walk_at "mine mem"))))
local macro_rules | `(tactic| walk_at "call ref") => `(tactic| ((with_reducible show wpAny _ _ (call (Value.ref 157) [Value.int _ _]) _ _ _); k_dflt (refine' name_spec _ _ _ _ _ ?kx _ _ _ _ _ _ _ _ _ _ _ _ _ _ _ _ _ _ _ ?k1 ?k2 ?k3 ?k4 ?k5 ?kK trivial ?kd ?ku ?_; (case kx => omega); (walk_at "mine cb"))))
theorem due_spec (w : World) (mean mg mb) (x : Str) (l : List Nat) (t : Tok) (hx : x = mk l) (hl : l.length ≤ 1000) (h256 : ∀ c ∈ l, c < 256) (ks : List Str) (vs : List Value) (hks : StrsAre vs ks) (h0 : 1 ≤ ks.length) (h4 : ks.length ≤ 4) (D : Addr) (nn : Nat) :
   ∀ news, (D, listOf vs.toArray nn) ∈ news → ClN 3 w mean mg mb 164 news [.str x t, .ref D] (fun t => .str (mk (dueL ks l)) t) := by
  have hxl : x.length ≤ 1000 := by rw [hx, mk_len]; exact hl
  have hq1 := empty_mk l x hx (Str.ofString "'") 39 rfl
  have hq2 := empty_mk l x hx (Str.ofString "\"") 34 rfl
  intro news hmem
  dsimp only [ClN, CbRet]
  intro dp un gd cn cs a ccd cl outer A₀ base h₀ L m s Q E B F X N T hk hd hu hret
  refine wpAny_call ?_
  k_dflt cell_enter
  rename Fr _ _ _ _ => lF
  replace lF := fr_as (fun y => List.lookup y [(Str.ofString "kinds", Value.ref D), (Str.ofString "text", Value.str x t)]) lF (by with_unfolding_all rfl)
  by_cases h39 : 39 ∈ l
  · simp only [decide_eq_true h39, Bool.not_true] at hq1
    by_cases h34 : 34 ∈ l
    · simp only [decide_eq_true h34, Bool.not_true] at hq2
      walk_at "mine step"
      refine cb_retS (Q := Q) (s := s) hret ?_ (by assumption) (by walk_at "mine news")
      unfold dueL; rw [if_neg (fun h => h.2 h34)]; rfl
    · simp only [decide_eq_false h34, Bool.not_false] at hq2
      have hdue : dueL ks l = l.flatMap (dueC ks) := by unfold dueL; rw [if_pos ⟨h39, h34⟩]
      walk_at "mine step"
      dsimp only [Halt]
      rename Fr _ _ _ _ => lF'
      rename News _ _ _ _ => lN'
      with_unfolding_all refine' KStt.kst_text (σ := Str × Tok) (fun _ => _) (fun c => [(Str.ofString "due", .str c.1 c.2)]) (fun _ => True) [Str.ofString "code"] (fun pre c => ∃ p : List Nat, pre = p.map (fun (n:Nat) => (n : Int)) ∧ c.1 = mk (p.flatMap (dueC ks))) (Str.ofString "", _) ?kh lF' lN' trivial ?k1 ?k2 ?kt ?kd
      case kh => rfl
      case k1 => kst_all
      case k2 => exact ⟨[], rfl, rfl⟩
      case kd =>
        rintro ⟨d, t1⟩ u h tk9 - ⟨p, hp, hd⟩ F N
        dsimp only at hd F N ⊢
        walk_at "mine step"
        refine cb_retS (Q := Q) (s := s) hret ?_ (by assumption) (by walk_at "mine news")
        rw [hdue, hd]
        rw [hx] at hp
        have : p = l := by
          have h1 : KStt.codes (mk l) = l.map (fun (n : Nat) => (n : Int)) := by simp [KStt.codes, mk]
          rw [h1] at hp
          have h2 := congrArg (List.map Int.toNat) hp
          simpa [List.map_map, Function.comp_def] using h2.symm
        rw [this]
      case kt =>
        rintro ⟨d, t1⟩ pre post n t2 u h tk9 own hcod hoff - ⟨p, hp, hd⟩ F N
        dsimp only at hd hoff F N ⊢
        have hnl : n ∈ l := by
          have h1 : (n : Int) ∈ KStt.codes x := by rw [hcod]; simp
          rw [hx] at h1
          obtain ⟨k, hk1, hk2⟩ := List.mem_map.mp h1
          rw [mk_cps] at hk1
          have : k = n := by omega
          rw [← this]; exact hk1
        have hn := h256 n hnl
        have hpl : p.length ≤ 1000 := by
          have h1 := congrArg List.length hcod
          rw [KStt.codes_length, hp] at h1
          simp only [List.length_append, List.length_map, List.length_cons] at h1
          omega
        have hdl : d.length ≤ 20000 := by
          rw [hd, mk_len]
          have := flatMap_len (dueC ks) 20 (dueC_len ks h4) p
          omega
        have hnl3 := nameL_len n
        clear hcod
        have hs0 : ({ cps := #[n] } : Str) = mk [n] := rfl
        by_cases c1 : n = 92
        · subst c1
          have q1 : (({ cps := #[92] } : Str) == Str.ofString "\\") = true := rfl
          walk_at "mine step"
          dsimp only [Halt]
          refine kst_end (_, _) (by assumption) (by assumption) (fun p hp => List.mem_append.mpr (Or.inl hp)) (fun p hp => List.mem_append.mpr (Or.inr hp)) rfl trivial (by kst_all) (by walk_at "mine sameK") ⟨p ++ [92], by rw [hp]; simp, ?_⟩
          rw [List.flatMap_append, ← mk_append, ← hd]
          dsimp only
          rename (_ = mk (List.replicate _ _)) => hz
          rw [hz]
          simp [dueC]
        · have q1 : (({ cps := #[n] } : Str) == Str.ofString "\\") = false := by rw [hs0, mk_beq_str n 92 (Str.ofString "\\") rfl]; simp [c1]
          by_cases c2 : n < 32 ∨ n = 127
          · rcases c2 with c2 | c2
            · walk_at "mine step"
              dsimp only [Halt]
              refine kst_end (_, _) (by assumption) (by assumption) (fun p hp => List.mem_append.mpr (Or.inl hp)) (fun p hp => List.mem_append.mpr (Or.inr hp)) rfl trivial (by kst_all) (by walk_at "mine sameK") ⟨p ++ [n], by rw [hp]; simp, ?_⟩
              rw [List.flatMap_append, ← mk_append, ← hd]
              dsimp only
              rename (_ = mk (List.replicate _ _)) => hz
              rw [hz, List.flatMap_singleton]
              have e : (((ks.length : Int) - 1)).toNat = ks.length - 1 := by omega
              unfold dueC
              rw [if_neg c1, if_pos (Or.inl c2), e, ← mk_append]
              exact str_assoc _ _ _
            · walk_at "mine step"
              dsimp only [Halt]
              refine kst_end (_, _) (by assumption) (by assumption) (fun p hp => List.mem_append.mpr (Or.inl hp)) (fun p hp => List.mem_append.mpr (Or.inr hp)) rfl trivial (by kst_all) (by walk_at "mine sameK") ⟨p ++ [n], by rw [hp]; simp, ?_⟩
              rw [List.flatMap_append, ← mk_append, ← hd]
              dsimp only
              rename (_ = mk (List.replicate _ _)) => hz
              rw [hz, List.flatMap_singleton]
              have e : (((ks.length : Int) - 1)).toNat = ks.length - 1 := by omega
              unfold dueC
              rw [if_neg c1, if_pos (Or.inr c2), e, ← mk_append]
              exact str_assoc _ _ _
          · by_cases c3 : n > 127
            · by_cases c4 : ks.any (· == Str.ofString "a") = true
              · have hidx : ks.idxOf (Str.ofString "a") < ks.length := by
                  refine List.idxOf_lt_length_iff.mpr ?_
                  obtain ⟨a, ha, hb⟩ := List.any_eq_true.mp c4
                  rw [← eq_of_beq hb]; exact ha
                walk_at "mine step"
                dsimp only [Halt]
                refine kst_end (_, _) (by assumption) (by assumption) (fun p hp => List.mem_append.mpr (Or.inl hp)) (fun p hp => List.mem_append.mpr (Or.inr hp)) rfl trivial (by kst_all) (by walk_at "mine sameK") ⟨p ++ [n], by rw [hp]; simp, ?_⟩
                rw [List.flatMap_append, ← mk_append, ← hd]
                dsimp only
                rename (_ = mk (List.replicate _ _)) => hz
                rw [hz, List.flatMap_singleton]
                have e : (((ks.length : Int) - 1 - (ks.idxOf (Str.ofString "a") : Nat))).toNat = ks.length - 1 - ks.idxOf (Str.ofString "a") := by omega
                unfold dueC
                rw [if_neg c1, if_neg c2, if_pos ⟨c3, c4⟩, e, ← mk_append]
                exact str_assoc _ _ _
              · walk_at "mine step"
                dsimp only [Halt]
                refine kst_end (_, _) (by assumption) (by assumption) (fun p hp => List.mem_append.mpr (Or.inl hp)) (fun p hp => List.mem_append.mpr (Or.inr hp)) rfl trivial (by kst_all) (by walk_at "mine sameK") ⟨p ++ [n], by rw [hp]; simp, ?_⟩
                rw [List.flatMap_append, ← mk_append, ← hd]
                dsimp only
                rw [List.flatMap_singleton]
                unfold dueC
                rw [if_neg c1, if_neg c2, if_neg (fun h => c4 h.2), ← hs0]
            · walk_at "mine step"
              dsimp only [Halt]
              refine kst_end (_, _) (by assumption) (by assumption) (fun p hp => List.mem_append.mpr (Or.inl hp)) (fun p hp => List.mem_append.mpr (Or.inr hp)) rfl trivial (by kst_all) (by walk_at "mine sameK") ⟨p ++ [n], by rw [hp]; simp, ?_⟩
              rw [List.flatMap_append, ← mk_append, ← hd]
              dsimp only
              rw [List.flatMap_singleton]
              unfold dueC
              rw [if_neg c1, if_neg c2, if_neg (fun h => c3 h.1), ← hs0]
  · simp only [decide_eq_false h39, Bool.not_false] at hq1
    walk_at "mine step"
    refine cb_retS (Q := Q) (s := s) hret ?_ (by assumption) (by walk_at "mine news")
    unfold dueL; rw [if_neg (fun h => h39 h.1)]; rfl
end S2d
section S2m
open PyProof.Rows.LCg
local macro_rules | `(tactic| walk_at "ite") => `(tactic| first | (refine ite_T ?h ?_; (case h => (walk_at "mine dec"))) | (refine ite_F ?h ?_; (case h => (walk_at "mine dec"))))
local macro_rules | `(tactic| walk_at "exec While Compare cons nil") => `(tactic| refine halt ?_)
local macro_rules | `(tactic| walk_at "call builtin:str.join") => `(tactic| refine halt ?_)
local macro_rules | `(tactic| walk_at "mine news") => `(tactic| first | assumption | (refine' cb_drop ?cbN ?cbS; (case cbN => assumption); (case cbS => kcj_all)))
local macro_rules | `(tactic| walk_at "KswEnd") => `(tactic| refine halt ?_)
local macro_rules | `(tactic| walk_at "binaryOp Add str str") => `(tactic| ((with_reducible show wpAny _ _ (binaryOp Operator.Add (Value.str _ _) (Value.str _ _)) _ _ _); (refine add_str ?_ (hsz := ?hsz)); (case hsz => walk_at "mine fits"); intro _ _))
local macro_rules | `(tactic| walk_at "mine fits") => `(tactic| (rw [PySem.sizeLine_eq]; (try simp only [mk_len, sing_len, PySem.Str.length_append]); omega))
local macro_rules | `(tactic| walk_at "mine same") => `(tactic| (intro z h2 h3; (simp only [List.forall_mem_cons, List.not_mem_nil, false_implies, implies_true, and_true, ne_eq] at h2); (try (obtain ⟨h4, h5⟩ := h2)); (have h6 := h3); (simp only [List.contains_cons, List.contains_nil, Bool.or_false, Bool.or_eq_false_iff, beq_eq_false_iff_ne, ne_eq] at h6); (simp only [kstB, *, Bool.false_eq_true, if_false])))
local macro_rules | `(tactic| walk_at "mine step") => `(tactic| repeat' (first | (k_unfold; (try dsimp only)) | (k_end; wrow_close) | walk1 | (dsimp only; walk1) | (leave1; try dsimp only) | fail "no step"))
local macro_rules | `(tactic| walk_at "mine dec") => `(tactic| first | (simp only [decide_eq_true_eq, beq_iff_eq, bne_iff_ne]; omega) | assumption | exact ne_true_of_eq_false (by assumption) | (simp only [*]; decide) | (simp only [*]; done))

theorem strOk_mk {T : List Nat} (h : ∀ c ∈ T, c < 256) : PyData.strOk (mk T) = true := by
  unfold PyData.strOk
  rw [← Array.all_toList, mk_cps, List.all_eq_true]
  intro c hc
  have := h c hc
  exact decide_eq_true (by omega)
theorem two_ok {T : List Nat} (h : ∀ c ∈ T, c < 256) : ∀ d ∈ [Dat.str (mk T), Dat.str (mk T)], kqdOk 8 d = true := by
  intro d hd
  have e : d = Dat.str (mk T) := by simpa using hd
  subst e
  unfold kqdOk
  exact strOk_mk h
theorem in1 (a : Bool) : [a] ∈ allBs := by cases a <;> decide
theorem in2 (a b : Bool) : [a, b] ∈ allBs := by cases a <;> cases b <;> decide
theorem in3 (a b c : Bool) : [a, b, c] ∈ allBs := by cases a <;> cases b <;> cases c <;> decide
theorem four_of {a b c d : Str} {ys : List Value} (h : CarriedAll ys [PyData.str a, PyData.str b, PyData.str c, PyData.str d]) :
    ∃ t u v z, ys = [.str a t, .str b u, .str c v, .str d z] := by
  cases h with | cons h1 r => cases h1; cases r with | cons h2 r => cases h2; cases r with | cons h3 r => cases h3; cases r with | cons h4 r => cases h4; cases r; exact ⟨_, _, _, _, rfl⟩
theorem four_kinds (f : Int → Bool) {ys : List Value} (h : CarriedAll ys ((rangeKs 0 4).map fun k => PyData.str (kindV (f k)))) :
    ∃ b0 b1 b2 b3 t u v z, ys = [.str (kindV b0) t, .str (kindV b1) u, .str (kindV b2) v, .str (kindV b3) z] := by
  obtain ⟨t, u, v, z, e⟩ := four_of h
  exact ⟨_, _, _, _, _, _, _, _, e⟩
noncomputable def toldL (bs : List Bool) (T : List Nat) : List Nat := if bs = [] then T else dueL (kinds bs) T
theorem told_step (bs : List Bool) (hbs : bs = [] ∨ bs ∈ allBs) (b : Bool) (T : List Nat) (hT : AlphaL T) : readL b (toldL bs T) = dueL (kinds (bs ++ [b])) T := by
  unfold toldL
  rcases hbs with rfl | hbs
  · exact read_first b T hT
  · have : bs ≠ [] := fun e => by subst e; exact absurd hbs (by decide)
    rw [if_neg this]
    exact read_next bs hbs b T hT
theorem told_alpha (bs : List Bool) (hbs : bs = [] ∨ bs ∈ allBs) (T : List Nat) (hT : AlphaL T) : AlphaL (toldL bs T) := by
  unfold toldL
  rcases hbs with rfl | hbs
  · exact hT
  · have : bs ≠ [] := fun e => by subst e; exact absurd hbs (by decide)
    rw [if_neg this]
    unfold dueL
    split
    · rename_i h
      intro d hd
      obtain ⟨c, hc, hd⟩ := List.mem_flatMap.mp hd
      exact .inl (due_small _ hbs c ((hT c hc).resolve_right fun e => h.2 (e ▸ hc)) d hd)
    · intro d hd; exact absurd hd (by simp)
theorem told_len (bs : List Bool) (hl : bs.length ≤ 4) (T : List Nat) (hT : T.length ≤ 16) : (toldL bs T).length ≤ 1000 := by
  unfold toldL
  split
  · omega
  · unfold dueL
    split
    · have := flatMap_len (dueC (kinds bs)) 20 (dueC_len (kinds bs) (by simpa [kinds] using hl)) T
      omega
    · simp
theorem alpha_256 {T : List Nat} (hT : AlphaL T) : ∀ c ∈ T, c < 256 := fun c hc => by
  have key : ∀ c ∈ alphaQ, c < 256 := by decide
  exact key c (hT.q c hc)
theorem three_of {a b c x : Value} {i : Nat} (h : [a, b, c][i]? = some x) : x = a ∨ x = b ∨ x = c := by
  match i, h with
  | 0, h => exact .inl (Option.some.inj h).symm
  | 1, h => exact .inr (.inl (Option.some.inj h).symm)
  | 2, h => exact .inr (.inr (Option.some.inj h).symm)
theorem three_texts {dl : List Nat} {t5 t6 t7 : Tok} {x : Value} {i : Nat} (hda : AlphaL dl) (hdl : dl.length ≤ 8)
    (hx : [Value.str (mk dl) t5, Value.str (mk dl ++ Str.ofString "it's \\\né") t6, Value.str (Str.ofString "\"it's" ++ mk dl) t7][i]? = some x) :
    ∃ T tT, x = .str (mk T) tT ∧ AlphaL T ∧ T.length ≤ 16 := by
  rcases three_of hx with e | e | e
  · exact ⟨dl, t5, e, hda, by omega⟩
  · have e2 : mk dl ++ Str.ofString "it's \\\né" = mk (dl ++ [105, 116, 39, 115, 32, 92, 10, 233]) := by rw [← mk_append]; rfl
    refine ⟨dl ++ [105, 116, 39, 115, 32, 92, 10, 233], t6, by rw [e, e2], ?_, by simp; omega⟩
    intro c hc
    rcases List.mem_append.mp hc with hc | hc
    · exact hda c hc
    · have : ∀ c ∈ [105, 116, 39, 115, 32, 92, 10, 233], c ∈ alpha ∨ c = 34 := by decide
      exact this c hc
  · have e2 : Str.ofString "\"it's" ++ mk dl = mk ([34, 105, 116, 39, 115] ++ dl) := by rw [← mk_append]; rfl
    refine ⟨[34, 105, 116, 39, 115] ++ dl, t7, by rw [e, e2], ?_, by simp; omega⟩
    intro c hc
    rcases List.mem_append.mp hc with hc | hc
    · have : ∀ c ∈ [34, 105, 116, 39, 115], c ∈ alpha ∨ c = 34 := by decide
      exact this c hc
    · exact hda c hc
theorem sign_alpha (k : Int) : signOf k ∈ alpha ∨ signOf k = 34 := by
  have key : ∀ c < 128, c ∈ alpha ∨ c = 34 := by decide
  unfold signOf
  split
  · rename_i h
    have h1 := fmod_lo k (n := 6) (by decide)
    obtain ⟨j, hj⟩ := Int.eq_ofNat_of_zero_le h1
    rw [hj] at h ⊢
    have hmem : j = 0 ∨ j = 1 ∨ j = 2 ∨ j = 3 ∨ j = 4 := by omega
    rcases hmem with rfl | rfl | rfl | rfl | rfl <;> decide
  · have h1 := fmod_lo (k.fdiv 6) (n := 128) (by decide)
    have h2 := fmod_hi (k.fdiv 6) (n := 128) (by decide)
    exact key _ (by omega)
local macro_rules | `(tactic| walk_at "mine cb") => `(tactic| (
  (case k1 => first | k_asm | fail "k1")
  (case k2 => first | k_asm | fail "k2")
  (case k3 => first | k_asm | fail "k3")
  (case k4 => first | k_asm | fail "k4")
  (case k5 => first | k_asm | fail "k5")
  (case kK => first | exact rfl | assumption | fail "kK")
  (case kd => first | ktr_room | fail "kd")
  (case ku => first | ((simp only [units_in1, units_deeper, Around.mark_units, units_caller, cLine_is]); done) | ((simp only [units_in1, units_deeper, Around.mark_units, units_caller, cLine_is]); decide) | ktr_units | fail "ku")
  intro t9 h9 tk9 F9 N9
  (try dsimp only)
  (try k_fold)))
local macro_rules | `(tactic| walk_at "CompSrc") => `(tactic| refine halt ?_)
local macro_rules | `(tactic| walk_at "KCtEl") => `(tactic| refine halt ?_)
local macro_rules | `(tactic| walk_at "KPfDone") => `(tactic| refine halt ?_)
local macro_rules | `(tactic| walk_at "call ref") => `(tactic| ((with_reducible show wpAny _ _ (call (Value.ref 145) [Value.int _ _]) _ _ _); k_dflt (refine' sign_spec _ _ _ _ _ _ _ _ _ _ _ _ _ _ _ _ _ _ _ _ _ _ _ _ ?k1 ?k2 ?k3 ?k4 ?k5 ?kK trivial ?kd ?ku ?_; (walk_at "mine cb"))))
local macro_rules | `(tactic| walk_at "mine cend") => `(tactic| refine halt ?_)
local macro_rules | `(tactic| walk_at "compareOp NotEq ref ref") => `(tactic| refine halt ?_)
local macro_rules | `(tactic| walk_at "CompEnd") => `(tactic| ((goal_has Mine.TupAt); refine halt ?_))
local macro_rules | `(tactic| walk_at "mine bs") => `(tactic| first | exact Or.inl rfl | (refine Or.inr ?_; walk_at "mine bs2"))
local macro_rules | `(tactic| walk_at "mine bs2") => `(tactic| first | exact in1 _ | exact in2 _ _ | exact in3 _ _ _)
local macro_rules | `(tactic| walk_at "mine sameC") => `(tactic| (intro z h3; (have h6 := h3); (simp only [List.contains_cons, List.contains_nil, Bool.or_false, Bool.or_eq_false_iff, beq_eq_false_iff_ne, ne_eq] at h6); (try (obtain ⟨h7, h8⟩ := h6)); (simp only [kstB, List.contains_nil, *, if_false, if_true, Bool.false_eq_true])))
local macro_rules | `(tactic| walk_at "InvEndN") => `(tactic| refine halt ?_)
local macro_rules | `(tactic| walk_at "call ref") => `(tactic| ((with_reducible show wpAny _ _ (call (Value.ref 171) [Value.str (mk _) _, Value.str (kindV _) _]) _ _ _); k_dflt (refine' read_b _ _ _ _ _ _ ?kx ?ky _ _ _ _ _ _ _ _ _ _ _ _ _ _ _ _ _ _ _ _ ?k1 ?k2 ?k3 ?k4 ?k5 ?kK ?kd ?ku ?_; (case kx => assumption); (case ky => assumption); (walk_at "mine cb"))))
local macro_rules | `(tactic| walk_at "subscriptTail Name Name ref int") => `(tactic| ((with_reducible show wpAny _ _ (subscriptTail _ _ (Value.ref _) (Value.int _ _)) _ _ _); k_dflt (refine' item_listL ?h1 ?h2 ?h3 ?h4 ?_ ?h5 ?h6; (case h1 => (refine' News.isList ?n1 ?n2; (case n1 => k_asm); (case n2 => k_mem))); (case h2 => decide); (case h3 => decide); (case h4 => rfl); (case h5 => with_unfolding_all rfl); (case h6 => (intro _; with_unfolding_all rfl)))))
local macro_rules | `(tactic| walk_at "mine strs") => `(tactic| first | exact StrsAre.cons _ _ StrsAre.nil | exact StrsAre.cons _ _ (StrsAre.cons _ _ StrsAre.nil) | exact StrsAre.cons _ _ (StrsAre.cons _ _ (StrsAre.cons _ _ StrsAre.nil)) | exact StrsAre.cons _ _ (StrsAre.cons _ _ (StrsAre.cons _ _ (StrsAre.cons _ _ StrsAre.nil))))
local macro_rules | `(tactic| walk_at "mine cb2") => `(tactic| (
  (case k1 => first | k_asm | fail "k1")
  (case k3 => first | k_asm | fail "k3")
  (case k5 => first | k_asm | fail "k5")
  (case kK => first | exact rfl | assumption | fail "kK")
  (case kd => first | ktr_room | fail "kd")
  (case ku => first | ((simp only [units_in1, units_deeper, Around.mark_units, units_caller, cLine_is]); done) | ((simp only [units_in1, units_deeper, Around.mark_units, units_caller, cLine_is]); decide) | ktr_units | fail "ku")
  intro t9 h9 tk9 F9 N9
  (try dsimp only)
  (try k_fold)))
local macro_rules | `(tactic| walk_at "call ref") => `(tactic| ((with_reducible show wpAny _ _ (call (Value.ref 164) [Value.str (mk _) _, Value.ref _]) _ _ _); k_dflt (refine' due_spec _ _ _ _ _ _ _ rfl ?kx ?ky _ _ ?kz ?kv ?kw _ _ _ ?km _ _ _ _ _ _ _ _ _ _ _ _ _ _ _ _ _ ?k1 ?k2 ?k3 ?k4 ?k5 ?kK ?kd ?ku ?_; (case kx => omega); (case ky => exact alpha_256 (by assumption)); (case k2 => k_asm); (case k4 => k_asm); (case km => k_mem); (case kz => walk_at "mine strs"); (case kv => exact Nat.le_of_ble_eq_true rfl); (case kw => exact Nat.le_of_ble_eq_true rfl); (walk_at "mine cb2"))))
local macro_rules | `(tactic| walk_at "mine sameK") => `(tactic| (intro z h1 h2 h3; (simp only [List.forall_mem_cons, List.not_mem_nil, false_implies, implies_true, and_true, ne_eq] at h2); (try (obtain ⟨h4, h5⟩ := h2)); (simp only [kstB, *, Bool.false_eq_true, if_false])))
local macro_rules | `(tactic| walk_at "TupSrc") => `(tactic| refine halt ?_)
local macro_rules | `(tactic| walk_at "eval ListComp") => `(tactic| ((with_reducible show wpAny _ _ (eval (Expr.ListComp _ [⟨_, Expr.Tuple _ _ _, _, _⟩] _ _) _) _ _ _); k_dflt (refine ListComp_T (by k_asm) (by with_unfolding_all rfl) (by decide) (by rfl) (by decide) (by rfl) ?_)))
local macro_rules | `(tactic| walk_at "call ref") => `(tactic| ((with_reducible show wpAny _ _ (call (Value.ref 150) [Value.str (mk _) _]) _ _ _); k_dflt (refine' quoted_spec _ _ _ _ _ _ _ rfl ?kx _ _ _ _ _ _ _ _ _ _ _ _ _ _ _ _ _ _ ?k1 ?k2 ?k3 ?k4 ?k5 ?kK trivial ?kd ?ku ?_; (case kx => omega); (walk_at "mine cb"))))
local macro_rules | `(tactic| walk_at "call ref") => `(tactic| ((with_reducible show wpAny _ _ (call (Value.ref 171) [Value.str (mk (quotedL _)) _, Value.none]) _ _ _); k_dflt (refine' read_qn _ _ _ _ _ ?kx _ _ _ _ _ _ _ _ _ _ _ _ _ _ _ _ _ _ _ ?k1 ?k2 ?k3 ?k4 ?k5 ?kK ?kd ?ku ?_; (case kx => omega); (walk_at "mine cb"))))
local macro_rules | `(tactic| walk_at "call ref") => `(tactic| ((with_reducible show wpAny _ _ (call (Value.ref 171) [Value.str (mk (quotedL _)) _, Value.str _ _]) _ _ _); k_dflt (refine' read_qs _ _ _ _ _ ?kx _ _ _ _ _ _ _ _ _ _ _ _ _ _ _ _ _ _ _ _ ?k1 ?k2 ?k3 ?k4 ?k5 ?kK ?kd ?ku ?_; (case kx => omega); (walk_at "mine cb"))))
local macro_rules | `(tactic| walk_at "exec For Name List cons nil") => `(tactic| refine wpAny_For ?_)
local macro_rules | `(tactic| walk_at "pyIter ref") => `(tactic| refine halt ?_)

theorem main : PySem.Challenge.rw_ik0030_02.Holds := hd (by
  w_strict (
    k_go0
    all_goals try k_fold
    rename IntsAre _ _ => hNs
    rename List Int => ns
    walk_at "mine step"
    dsimp only [Halt]
    k_dflt (refine LCg.CompSrc.ledger (by rfl) (by k_asm) (by k_asm) (by k_mem) (by kcf_size) ?_)
    intro g'
    refine' kct_list (fun k => mk [signOf k]) (by assumption) (fun k' t' I' oI' C' oC' D' m' ys' h' tk' E' hk' hC' hx' F' N' off' ne' => ?_) ?_
    · simp only [LCg.Off3, and_true] at off'
      intro hMark'
      all_goals try k_fold
      walk_at "mine step"
      dsimp only [Halt]
      exact kct_el rfl rfl rfl
    · unfold KPfDone
      intro ys hys hlen
      walk_at "mine step"
      dsimp only [Halt]
      have hfl : ((ns.take 8).map fun k => [signOf k]).flatten = (ns.take 8).map signOf := by
        generalize ns.take 8 = l
        induction l with
        | nil => rfl
        | cons c r ih => simp only [List.map_cons, List.flatten_cons, ih]; rfl
      refine join_mk ((ns.take 8).map fun k => [signOf k]) (News.isList (by assumption) (List.Mem.head _)) (by rw [List.map_map]; exact hys) (by rw [hfl]; simp; omega) ?_
      rw [hfl]
      have hdl : ((ns.take 8).map signOf).length ≤ 8 := by simp; omega
      have hda : AlphaL ((ns.take 8).map signOf) := fun c hc => by
        obtain ⟨k, _, e⟩ := List.mem_map.mp hc
        rw [← e]; exact sign_alpha k
      generalize (ns.take 8).map signOf = dl at hdl hda
      clear hfl hys hlen
      intro t5 k5
      walk_at "mine step"
      dsimp only [Halt]
      k_dflt (refine LCg.CompSrc.range (by rfl) (by k_asm) (by k_asm) (by assumption) (by decide) (by rfl) (by first | exact Nat.le_of_ble_eq_true rfl | size_fits) ?_)
      intro g2
      refine' kct_range (fun k => kindV (decide ((ns.sum.fdiv (2 ^ k.toNat)).fmod 2 = 1))) (fun k' t' I' oI' C' oC' D' m' ys' h' tk' E' hlo' hhi' hC' hx' F' N' off' ne' => ?_) ?_
      · simp only [LCg.Off3, and_true] at off'
        intro hMark'
        all_goals try k_fold
        walk_at "mine step"
        dsimp only [Halt]
        refine kct_el ?_ rfl rfl
        have h1 := fmod_lo (ns.sum.fdiv (2 ^ k'.toNat)) (n := 2) (by decide)
        have h2 := fmod_hi (ns.sum.fdiv (2 ^ k'.toNat)) (n := 2) (by decide)
        generalize (ns.sum.fdiv (2 ^ k'.toNat)).fmod 2 = z at h1 h2
        have h3 : z = 0 ∨ z = 1 := by omega
        rcases h3 with rfl | rfl <;> rfl
      · unfold KPfDone
        intro ys hys hlen
        obtain ⟨b0, b1, b2, b3, u0, u1, u2, u3, rfl⟩ := four_kinds _ hys
        clear hys hlen
        have l1 : (Str.ofString "it's \\\né").length = 8 := rfl
        have l2 : (Str.ofString "\"it's").length = 5 := rfl
        walk_at "mine step"
        dsimp only [Halt]
        rename News _ _ _ _ => lN
        rename Fr _ _ _ _ => lF
        refine for_cell [_, _, _, _] [_] [Str.ofString "k", Str.ofString "told"] rfl lF lN (by assumption) (List.Mem.head _) ?turn ?done (by passes_own) (fun _ _ => rfl)
        case done =>
          intro m₁ oC v h tk hv F1 N1
          clear lF lN
          walk_at "mine step"
        case turn =>
          intro i x m₁ oC v I o h tk hx hv hlt F1 N1
          clear lF lN
          dsimp only [List.cons_append, List.nil_append] at N1 hlt
          replace hlt := allLt_of hlt
          simp only [AllLt, and_true] at hlt
          have hx3 := three_texts hda hdl hx
          obtain ⟨T, tT, rfl, hTa, hTl⟩ := hx3
          clear hx
          walk_at "mine step"
          dsimp only [Halt]
          refine TupSrc.intro rfl (by k_asm) (by k_asm) (List.Mem.head _) (by simp) ?_
          intro g3
          refine CompRest.succ ?_
          intro v0 I0 oI0 C0 oC0 D0 m0 h0 tk0 E0 hP0 hC0 hx0 F0 N0 off0 ne0
          have hv0 : v0 = Value.none := (Option.some.inj hP0).symm
          subst hv0
          have off1 := off0
          simp only [LCg.Off3, and_true] at off0
          show wpAny _ _ _ _ _ _
          k_fold
          walk_at "mine step"
          dsimp only [Halt]
          refine LCg.CompEnd.intro (by assumption) (by assumption) _ (fun _ h => h) off1 (Or.inr ⟨_, List.Mem.head _, rfl, _, rfl⟩) ?_
          refine CompRest.succ ?_
          intro v0 I0 oI0 C0 oC0 D0 m0 h0 tk0 E0 hP0 hC0 hx0 F0 N0 off0 ne0
          have hv0 : v0 = Value.str (Str.ofString "s") _ := (Option.some.inj hP0).symm
          subst hv0
          have off1 := off0
          simp only [LCg.Off3, and_true] at off0
          show wpAny _ _ _ _ _ _
          k_fold
          walk_at "mine step"
          dsimp only [Halt]
          refine LCg.CompEnd.intro (by assumption) (by assumption) _ (fun _ h => h) off1 (Or.inr ⟨_, List.Mem.head _, rfl, _, rfl⟩) ?_
          refine CompRest.zero ?_
          walk_at "mine step"
          dsimp only [Halt]
          rename News _ _ _ _ => lN
          refine kqd_ne (n₁ := []) (n₂ := []) (ds := [.str (mk T), .str (mk T)]) (es := [.str (mk T), .str (mk T)]) lN (by k_mem) rfl rfl (.cons (.str _ _) (.cons (.str _ _) .nil)) (fun _ h => nomatch h) (by k_mem) rfl rfl (.cons (.str _ _) (.cons (.str _ _) .nil)) (fun _ h => nomatch h) ?kq1 ?kq2 ?kq3 ?_
          case kq1 => exact two_ok (alpha_256 hTa)
          case kq2 => exact two_ok (alpha_256 hTa)
          case kq3 =>
            simp only [units_in1, units_deeper, Around.mark_units, units_caller, cLine_is]
            decide
          simp only [decide_true, Bool.not_true]
          walk_at "mine step"
          dsimp only [Halt]
          rename News _ _ _ _ => lN
          rename Fr _ _ _ _ => lF
          with_unfolding_all refine' kst_range (σ := Str × Tok) (fun _ => _) (fun c => [(Str.ofString "told", .str c.1 c.2)]) (fun _ => True) [] (fun pre c => c.1 = mk (toldL ([b0, b1, b2, b3].take pre.length) T)) (mk T, _) rfl (by assumption) (by decide) (by rfl) lF lN trivial ?k1 ?k2 ?kt ?kd
          case k1 => kst_all
          case k2 => rfl
          case kd =>
            rintro ⟨d, t1⟩ u h tk9 - hp F N
            dsimp only at hp F N ⊢
            clear lF lN
            walk_at "mine step"
            dsimp only [CellPost, CellEnd]
            refine ⟨_, _, _, _, _, rfl, by assumption, kst_newsOf (by assumption) (by kcj_all), by assumption, by walk_at "mine sameC"⟩
          case kt =>
            rintro ⟨d, t1⟩ pre k t2 u h tk9 own hk hpre hoff - hp F N
            dsimp only at hp hoff F N ⊢
            clear lF lN
            rw [Int.zero_add] at hk
            replace hpre : pre.length < 4 := hpre
            have hcase : (k = 0 ∧ pre.length = 0) ∨ (k = 1 ∧ pre.length = 1) ∨ (k = 2 ∧ pre.length = 2) ∨ (k = 3 ∧ pre.length = 3) := by omega
            rcases hcase with ⟨rfl, hlp⟩ | ⟨rfl, hlp⟩ | ⟨rfl, hlp⟩ | ⟨rfl, hlp⟩
            · rw [hlp] at hp
              replace hp : d = mk (toldL [] T) := hp
              subst hp
              have hX := told_alpha [] (by walk_at "mine bs") T hTa
              have hXl := told_len [] (Nat.le_of_ble_eq_true rfl) T hTl
              have hst : readL b0 (toldL [] T) = toldL [b0] T := told_step [] (by walk_at "mine bs") b0 T hTa
              have hne : (mk (readL b0 (toldL [] T)) != mk (dueL [kindV b0] T)) = false := by
                rw [hst]; exact bne_self_eq_false _
              walk_at "mine step"
              dsimp only [Halt]
              refine kst_end (_, _) (by assumption) (by assumption) ?e1 ?e2 rfl trivial (by kst_all) (by walk_at "mine sameK") ?e3
              case e1 => kcj_all
              case e2 => kcj_all
              case e3 =>
                rw [hst, List.length_append, hlp]; rfl
            · rw [hlp] at hp
              replace hp : d = mk (toldL [b0] T) := hp
              subst hp
              have hX := told_alpha [b0] (by walk_at "mine bs") T hTa
              have hXl := told_len [b0] (Nat.le_of_ble_eq_true rfl) T hTl
              have hst : readL b1 (toldL [b0] T) = toldL [b0, b1] T := told_step [b0] (by walk_at "mine bs") b1 T hTa
              have hne : (mk (readL b1 (toldL [b0] T)) != mk (dueL [kindV b0, kindV b1] T)) = false := by
                rw [hst]; exact bne_self_eq_false _
              walk_at "mine step"
              dsimp only [Halt]
              refine kst_end (_, _) (by assumption) (by assumption) ?e1 ?e2 rfl trivial (by kst_all) (by walk_at "mine sameK") ?e3
              case e1 => kcj_all
              case e2 => kcj_all
              case e3 =>
                rw [hst, List.length_append, hlp]; rfl
            · rw [hlp] at hp
              replace hp : d = mk (toldL [b0, b1] T) := hp
              subst hp
              have hX := told_alpha [b0, b1] (by walk_at "mine bs") T hTa
              have hXl := told_len [b0, b1] (Nat.le_of_ble_eq_true rfl) T hTl
              have hst : readL b2 (toldL [b0, b1] T) = toldL [b0, b1, b2] T := told_step [b0, b1] (by walk_at "mine bs") b2 T hTa
              have hne : (mk (readL b2 (toldL [b0, b1] T)) != mk (dueL [kindV b0, kindV b1, kindV b2] T)) = false := by
                rw [hst]; exact bne_self_eq_false _
              walk_at "mine step"
              dsimp only [Halt]
              refine kst_end (_, _) (by assumption) (by assumption) ?e1 ?e2 rfl trivial (by kst_all) (by walk_at "mine sameK") ?e3
              case e1 => kcj_all
              case e2 => kcj_all
              case e3 =>
                rw [hst, List.length_append, hlp]; rfl
            · rw [hlp] at hp
              replace hp : d = mk (toldL [b0, b1, b2] T) := hp
              subst hp
              have hX := told_alpha [b0, b1, b2] (by walk_at "mine bs") T hTa
              have hXl := told_len [b0, b1, b2] (Nat.le_of_ble_eq_true rfl) T hTl
              have hst : readL b3 (toldL [b0, b1, b2] T) = toldL [b0, b1, b2, b3] T := told_step [b0, b1, b2] (by walk_at "mine bs") b3 T hTa
              have hne : (mk (readL b3 (toldL [b0, b1, b2] T)) != mk (dueL [kindV b0, kindV b1, kindV b2, kindV b3] T)) = false := by
                rw [hst]; exact bne_self_eq_false _
              walk_at "mine step"
              dsimp only [Halt]
              refine kst_end (_, _) (by assumption) (by assumption) ?e1 ?e2 rfl trivial (by kst_all) (by walk_at "mine sameK") ?e3
              case e1 => kcj_all
              case e2 => kcj_all
              case e3 =>
                rw [hst, List.length_append, hlp]; rfl
            ))
end S2m
end Mine
set_option maxRecDepth 100000 in
set_option maxHeartbeats 8000000 in
theorem PySem.Challenge.cw_ik0030_02_holds : PySem.Challenge.rw_ik0030_02.Holds := by
  exact Mine.main
