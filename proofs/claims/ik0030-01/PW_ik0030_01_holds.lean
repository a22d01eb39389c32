import PyProof.Rows.All
import Wide.All
import OpenK.AllK
import Wide.FinOn
import PySem.Challenge.RW_ik0030_01
open PySem PySem.W PyProof.Rows PySem.Calls PySem.Spec
set_option Elab.async false
set_option maxRecDepth 100000
set_option maxHeartbeats 8000000
set_option compiler.extract_closed false
namespace Mine
noncomputable def hd.view_39 : Program := { PySem.Challenge.pw_ik0030_01 with main := { PySem.Challenge.pw_ik0030_01.main with body := ((PySem.Challenge.pw_ik0030_01.main.body.eraseIdx 8).eraseIdx 4).eraseIdx 2 } }
theorem boot_ns (P : Params) : ((boot_heap P).isNs mainGlobals && (#[] : Array GenState).size == 0) = true := by kernel_rfl
theorem left_boot {p q : Program} {loose : List Str} {Xt : Shared → Bool} {α : Type} {Yf : Shared → α} {Ya : World → α} {N : Nat} (e : opening p = plainProg p.main.scope.names) (hN : Nat.ble 600 N = true) (f : ∀ s, fenceModules? p s = some s)
    (h : ∀ (w : World) (os : OsState), (PySem.W.Fast.tw14082659384304107361 PySem.W.Fast.tw14364793385576792824 p w (boot_heap w.params).objs.size ((boot_heap w.params).nsMap mainGlobals "__annotations__") N ⟨boot_heap w.params, #[], boot_drawn, boot_toks, os⟩ (topStub p)).map
      (fun s => (staticsOk (importedModules p.main.body) (boot_heap w.params) s.heap && namesBound p s.heap && gensDone s && laidKept (boot_heap w.params) s.heap, PySem.W.Fast.tw4187177175401517315 q loose (importedModules p.main.body) Xt true s, Yf s)) = some (true, openGood q loose, Ya w)) : LeftO p q loose Xt Yf Ya N := fun w => by
  obtain ⟨⟨h', gs, d, k, os⟩, e1, e2⟩ := Option.map_eq_some_iff.mp (boot_open e hN f w)
  obtain ⟨rfl, rfl, rfl, rfl⟩ : h' = boot_heap w.params ∧ gs = #[] ∧ d = boot_drawn ∧ k = boot_toks := by simpa using e2
  unfold openEnds
  rw [e1]
  obtain ⟨s, e3, e4⟩ := Option.map_eq_some_iff.mp (h w os)
  have c1 := congrArg Prod.fst e4
  have c2 := congrArg (fun x => x.2.1) e4
  have c3 := congrArg (fun x => x.2.2) e4
  dsimp only at c1 c2 c3
  show (topFrom _ _ _ _ _).map _ = _
  unfold topFrom
  rw [PySem.W.Fast.te14082659384304107361, PySem.W.Fast.te14364793385576792824, PySem.W.Fast.te4187177175401517315]
  dsimp only
  rw [boot_ns]
  dsimp only
  rw [e3]
  dsimp only [Option.bind]
  rw [c1]
  dsimp only [Option.map]
  rw [c2, c3]
theorem and2 {a b : Bool} (x : a = true) (y : b = true) : (a && b) = true := by rw [x, y]; rfl
theorem hd_s1 : namesResolve PySem.Challenge.rw_ik0030_01.row.prog = true := by rw [PySem.W.Fast.te8377067652309620493]; kernel_rfl
theorem hd_s2 : looksOpen PySem.Challenge.rw_ik0030_01.row.prog = true := by
  unfold looksOpen
  repeat' (with_reducible refine and2 ?_ ?_)
  all_goals (first | with_reducible exact hd_s1 | (rw [PySem.W.Fast.te8326940854005059898]; kernel_rfl) | (rw [PySem.W.Fast.te17119622794617984870]; kernel_rfl) | kernel_rfl)
theorem hd_s3 : PySem.Challenge.rw_ik0030_01.row.wellSaid = true := by
  unfold OpenRow.wellSaid OpenRow.partSaid
  repeat' (with_reducible refine and2 ?_ ?_)
  all_goals (first | with_reducible exact hd_s2 | kernel_rfl)
theorem hd_said : OpenLaw.wellSaid PySem.Challenge.rw_ik0030_01 = true := by
  unfold OpenLaw.wellSaid
  repeat' (with_reducible refine and2 ?_ ?_)
  all_goals (first | with_reducible exact hd_s3 | (rw [PySem.W.Fast.te8326940854005059898]; kernel_rfl) | (rw [PySem.W.Fast.te17119622794617984870]; kernel_rfl) | kernel_rfl)
theorem hd_open {r : OpenRow} {q : Program} {d : DefRec} {kwd : List (Str × Expr)} (H : Hook) (hl : LeftO r.prog q [] (fun s => xlAt q [] s && recOk (RowW.records (OpenRow.toRowW r)) s) H.obs H.val 2860)
    (hdef : defOf q r.name = some (d, kwd)) (hp : r.prog.theDef r.name = some (d.params, d.body, d.scope)) (hk : kwWritten? d.params.kwonlyargs d.params.kw_defaults = some kwd) (hwr : (!r.writes || r.records.isEmpty) = true)
    (k1 : r.wellSaid = true) (ok : (chainsOk q && opensWell r.prog && (frees r.toRowW && r.within.isEmpty)) = true) (hb : r.prog.bare) (hw : r.toRowW.promised)
    (hc : WalkO q [] (XL q []) H.says r.toRowW d kwd fun f vs => PySem.call f vs) : r.Holds :=
  holds_open hl H.of H.keeps (fun s e => xl_of s (Bool.and_eq_true_iff.mp e).1) XL.keeps hdef hp hk (fun s e => recFacts_of (Bool.and_eq_true_iff.mp e).2) hwr k1 ok hb hw hc
section HD
local macro_rules | `(tactic| o_law) => `(tactic| (refine PySem.W.holds_law hd_said fun said => ?_))
local macro_rules | `(tactic| o_head $H) => `(tactic| (refine hd_open (q := hd.view_39) $H ?hl (by rfl) (by rfl) (by rfl) (by rfl) (by assumption) (by decide +kernel) ⟨rfl, rfl, rfl, rfl, rfl, by decide +kernel⟩ ?hw ?hc; (case hl => (refine left_boot (by kernel_rfl) (by kernel_rfl) (by intro s; kernel_rfl) ?_; intro w os; kernel_rfl))))
open_top hd for PySem.Challenge.rw_ik0030_01
end HD
theorem fill : PySem.Challenge.rw_ik0030_01 = PySem.Challenge.rw_ik0030_01 ∧ hd.heap_1 = hd.heap_1 := by
  k_fill
  w_top off
  exact ⟨rfl, rfl⟩
section X0X
theorem gx0 {P : Prop} (h : ∀ G : Prop, (P → G) → G) : P := h P id
@[elab_as_elim] theorem gx1 {α : Sort _} {P : α → Prop} (x : α) (h : ∀ G : α → Prop, (∀ y, P y → G y) → G x) : P x := h P fun _ p => p
@[elab_as_elim] theorem gx2 {α : Sort _} {β : Sort _} {P : α → β → Prop} (x : α) (z : β) (h : ∀ G : α → β → Prop, (∀ y u, P y u → G y u) → G x z) : P x z := h P fun _ _ p => p
@[elab_as_elim] theorem gx3 {α : Sort _} {β : Sort _} {γ : Sort _} {P : α → β → γ → Prop} (x : α) (z : β) (u : γ) (h : ∀ G : α → β → γ → Prop, (∀ a b c, P a b c → G a b c) → G x z u) : P x z u := h P fun _ _ _ p => p
@[elab_as_elim] theorem gx5 {α : Sort _} {β : Sort _} {γ : Sort _} {δ : Sort _} {ε : Sort _} {P : α → β → γ → δ → ε → Prop} (x1 : α) (x2 : β) (x3 : γ) (x4 : δ) (x5 : ε) (h : ∀ G : α → β → γ → δ → ε → Prop, (∀ a b c d e, P a b c d e → G a b c d e) → G x1 x2 x3 x4 x5) : P x1 x2 x3 x4 x5 := h P fun _ _ _ _ _ p => p
theorem ne1 {a b : Nat} (h : b ≠ a) : a ≠ b := h.symm
theorem ne2 {a b : Nat} (h : a < b) : a ≠ b := Nat.ne_of_lt h
theorem ne3 {a b : Nat} (h : b < a) : a ≠ b := Nat.ne_of_gt h
theorem sub_nil {α : Type _} {l : List α} : ∀ y ∈ ([] : List α), y ∈ l := fun _ h => nomatch h
theorem sub_refl {α : Type _} (l : List α) : ∀ y ∈ l, y ∈ l := fun _ h => h
theorem sub_cons {α : Type _} {a : α} {r l : List α} (h1 : a ∈ l) (h2 : ∀ y ∈ r, y ∈ l) : ∀ y ∈ a :: r, y ∈ l := fun y hy => by
  cases hy with
  | head => exact h1
  | tail _ h => exact h2 y h
theorem sub_tail {α : Type _} {r l : List α} (b : α) (h : ∀ y ∈ r, y ∈ l) : ∀ y ∈ r, y ∈ b :: l := fun y hy => .tail _ (h y hy)
theorem sub_app {α : Type _} {a b l : List α} (h1 : ∀ y ∈ a, y ∈ l) (h2 : ∀ y ∈ b, y ∈ l) : ∀ y ∈ a ++ b, y ∈ l := fun y hy => (List.mem_append.mp hy).elim (h1 y) (h2 y)
theorem sub_appl {α : Type _} {r a : List α} (b : List α) (h : ∀ y ∈ r, y ∈ a) : ∀ y ∈ r, y ∈ a ++ b := fun y hy => List.mem_append_left b (h y hy)
theorem sub_appr {α : Type _} {r b : List α} (a : List α) (h : ∀ y ∈ r, y ∈ b) : ∀ y ∈ r, y ∈ a ++ b := fun y hy => List.mem_append_right a (h y hy)
theorem memt {α : Type _} {a : α} (b : α) {l : List α} (h : a ∈ l) : a ∈ b :: l := .tail _ h
section
variable {M : Model} {A : Around} {E : Value → Shared → Prop} {h₀ h : Heap} {gs : Array GenState} {dr : Drawn} {t : Nat} {os : OsState} {L a : Addr} {m : Str → Option Value} {cn : Str} {cs : Scope} {ccd : Value} {cl : List (Str × Addr)} {env : Env} {x : Str} {pos : Pos} {v : Value} {k : Nat} {i : Int} {Q : Value → Shared → Prop} {news : List (Addr × Obj)}
theorem c_str (hq : ∀ t' k', Q (.str x t') (Shared.mk h gs dr k' os)) : wpAny M A (eval (.Constant (.str x) k pos) env) Q E (Shared.mk h gs dr t os) := Calls.Constant_str (hq _ _)
theorem c_int (hq : ∀ t' k', Q (.int i t') (Shared.mk h gs dr k' os)) : wpAny M A (eval (.Constant (.int i) k pos) env) Q E (Shared.mk h gs dr t os) := wpAny_Constant_int (hq _ _)
theorem st_loc {Q : Unit → Shared → Prop} (F : Fr h₀ L h m) (N : News h₀ L h news)
    (hq : ∀ h' k', Fr h₀ L h' (fun y => if y = x then some v else m y) → News h₀ L h' news → Q () (Shared.mk h' gs dr k' os))
    (hk : cs.kind = .function) (hx : (envX cn cs L a ccd cl).kindOf x = some .local) : wpAny M A (storeName (envX cn cs L a ccd cl) x v) Q E (Shared.mk h gs dr t os) :=
  storeX_L F N (fun h' F N => hq h' _ F N) hk hx
end
theorem tup_inv {news : List (Addr × Obj)} {v : Value} {ds : List Dat} (h : DatIn news v (.tuple ds)) : ∃ (a : Addr) (vs : List Value) (n : Nat), v = .ref a ∧ (a, ({ cls := .type "tuple", data := .seq vs.toArray n } : Obj)) ∈ news ∧ DatAll news vs ds := by
  cases h with
  | tuple hm ha => exact ⟨_, _, _, rfl, hm, ha⟩
theorem cons_inv {news : List (Addr × Obj)} {vs : List Value} {d : Dat} {ds : List Dat} (h : DatAll news vs (d :: ds)) : ∃ v vs', vs = v :: vs' ∧ DatIn news v d ∧ DatAll news vs' ds := by
  cases h with
  | cons a r => exact ⟨_, _, rfl, a, r⟩
theorem nil_inv {news : List (Addr × Obj)} {vs : List Value} (h : DatAll news vs []) : vs = [] := by
  cases h; rfl
theorem str_inv {news : List (Addr × Obj)} {v : Value} {x : Str} (h : DatIn news v (.str x)) : ∃ t, v = .str x t := by
  cases h; exact ⟨_, rfl⟩
theorem none_inv {news : List (Addr × Obj)} {v : Value} (h : DatIn news v .none) : v = .none := by
  cases h; rfl
end X0X
section P1X
noncomputable def mk (l : List Nat) : Str := ⟨l.toArray⟩
theorem mk_cps (l : List Nat) : (mk l).cps.toList = l := by simp [mk]
theorem mk_len (l : List Nat) : (mk l).length = l.length := by simp [mk, Str.length]
theorem eq_mk {x : Str} {l : List Nat} (h : x.cps.toList = l) : x = mk l := by
  obtain ⟨c⟩ := x; subst h; simp [mk]
theorem mk_inj {a b : List Nat} : mk a = mk b ↔ a = b := by
  constructor
  · intro h; have := congrArg (fun x : Str => x.cps.toList) h; simpa [mk] using this
  · intro h; rw [h]
theorem mk_beq (a b : List Nat) : (mk a == mk b) = decide (a = b) := by
  by_cases h : a = b
  · subst h; simp
  · rw [decide_eq_false h]
    have : mk a ≠ mk b := fun e => h (mk_inj.mp e)
    exact beq_eq_false_iff_ne.mpr this
theorem mk_append (a b : List Nat) : mk a ++ mk b = mk (a ++ b) := by
  show Str.append _ _ = _
  simp [Str.append, mk]
theorem slice_in {x : Str} {l : List Nat} (hx : x.cps.toList = l) {i j : Int} (h : 0 ≤ i ∧ i ≤ j ∧ j ≤ l.length) : Txt.slice x (some i) (some j) = mk ((l.drop i.toNat).take (j - i).toNat) := by
  subst hx
  have := eq_of_beq (slice_closes (x := x) h)
  rw [this]; rfl
theorem slice_to {x : Str} {l : List Nat} (hx : x.cps.toList = l) {j : Int} (h : 0 ≤ j ∧ j ≤ l.length) : Txt.slice x none (some j) = mk (l.take j.toNat) := by
  subst hx
  have := eq_of_beq (slice_closes_to (x := x) h)
  rw [this]; simp [mk]
noncomputable def unq : List Nat → List Nat
  | [] => []
  | [c] => if c = 34 then [] else [c]
  | c :: d :: r => if c = 34 then (if d = 34 then 34 :: unq r else []) else c :: unq (d :: r)
theorem unq_cons {c : Nat} (h : c ≠ 34) (l : List Nat) : unq (c :: l) = c :: unq l := by
  cases l with
  | nil => simp [unq, h]
  | cons d r => rw [unq]; simp [h]
theorem unq_qq (l : List Nat) : unq (34 :: 34 :: l) = 34 :: unq l := by rw [unq]; simp
theorem unq_end {l : List Nat} (h : l.head? ≠ some 34) : unq (34 :: l) = [] := by
  cases l with
  | nil => simp [unq]
  | cons d r => rw [unq]; simp at h; simp [h]
noncomputable def quotedL (l : List Nat) : List Nat := 34 :: (l.flatMap fun c => if c = 34 then [34,34] else [c]) ++ [34]
theorem ite_T {c : Prop} [Decidable c] {a b : Prop} (h : c) (ha : a) : if c then a else b := by rw [if_pos h]; exact ha
theorem ite_F {c : Prop} [Decidable c] {a b : Prop} (h : ¬ c) (hb : b) : if c then a else b := by rw [if_neg h]; exact hb
noncomputable def Halt (P : Prop) : Prop := P
theorem halt {P : Prop} (h : Halt P) : P := h
theorem unq_le : ∀ (n : Nat) (l : List Nat), l.length ≤ n → (unq l).length ≤ l.length := by
  intro n
  induction n with
  | zero => intro l h; have : l = [] := List.length_eq_zero_iff.mp (by omega); subst this; simp [unq]
  | succ n ih =>
    intro l h
    match l, h with
    | [], _ => simp [unq]
    | [c], _ => rw [unq]; split <;> simp
    | c :: d :: r, h =>
      simp only [List.length_cons] at h
      have a := ih r (by omega)
      have b := ih (d :: r) (by simp only [List.length_cons]; omega)
      simp only [List.length_cons] at b
      rw [unq]
      repeat' split
      all_goals simp only [List.length_cons, List.length_nil]; omega
theorem item_at {x : Str} {l : List Nat} (hx : x.cps.toList = l) {i : Int} {j : Nat} (hi : i = (j : Int)) (c : Nat) (hc : l[j]? = some c) : Txt.item x i = mk [c] := by
  subst hi
  have hlen : x.length = l.length := by rw [← hx]; simp [Str.length]
  have hj : j < l.length := (List.getElem?_eq_some_iff.mp hc).1
  rw [item_meets ⟨by omega, by omega⟩]
  show (⟨#[x.cps.getD (j : Int).toNat 0]⟩ : Str) = _
  have : x.cps.getD (j : Int).toNat 0 = c := by
    simp only [Int.toNat_natCast]
    have h2 : x.cps[j]? = some c := by rw [← Array.getElem?_toList, hx]; exact hc
    rw [Array.getD_eq_getD_getElem?, h2]; rfl
  rw [this]; rfl
theorem mk_beq_str (c d : Nat) (s : Str) (hs : s = mk [d]) : (mk [c] == s) = decide (c = d) := by
  subst hs; rw [mk_beq]; simp
theorem fr_as {h₀ h : Heap} {L : Addr} {m : Str → Option Value} (m' : Str → Option Value) (F : Fr h₀ L h m) (e : m = m') : Fr h₀ L h m' := e ▸ F
theorem glued_empty (ls : List (List Nat)) : Txt.join (Str.ofString "") (ls.map mk) = mk ls.flatten := by
  show Builtin.Str.glued _ _ = _
  rw [StrLaws.glued_eq_join]
  induction ls with
  | nil => rfl
  | cons a r ih =>
    cases r with
    | nil => simp [Str.join]
    | cons b r =>
      simp only [List.map_cons] at ih ⊢
      rw [Str.join, ih]
      · show mk a ++ mk [] ++ _ = _
        rw [mk_append, mk_append]; simp
      · intro h; simp at h
theorem sum_mk_len (ls : List (List Nat)) : ((ls.map mk).map (·.length)).sum = ls.flatten.length := by
  induction ls with
  | nil => rfl
  | cons a r ih => simp only [List.map_cons, List.sum_cons, List.flatten_cons, List.length_append, ih, mk_len]
section
variable {prog : Program} {w : World} {A : Around} {E : Value → Shared → Prop} {s : Shared} {t : Tok} {Q : Value → Shared → Prop}
theorem join_mk {D : Addr} {ys : Array Value} (ls : List (List Nat)) (hl : s.heap.IsList D ys) (hc : CarriedAll ys.toList (ls.map fun l => PyData.str (mk l))) (hb : ls.flatten.length ≤ 1000000)
    (h : ∀ t' k, Q (.str (mk ls.flatten) t') { s with toks := k }) : wpAny (model prog w) A (call (.builtin "str.join") [.str (Str.ofString "") t, .ref D]) Q E s := by
  have hi : StrsAre ys.toList (ls.map mk) := StrsAre.of_carried (by rw [List.map_map]; exact hc)
  refine join_list hl hi ?_ ?_
  · rw [sum_mk_len]
    have : (Str.ofString "").length = 0 := rfl
    rw [this]; omega
  · intro t' k
    rw [glued_empty]; exact h t' k
end
theorem signs_mk (l : List Nat) : signs (mk l) = l.map fun c => mk [c] := by
  simp [signs, mk]
section
variable {prog : Program} {w : World} {A : Around} {E : Value → Shared → Prop} {s : Shared} {t u : Tok} {Q : Value → Shared → Prop}
end
theorem sing_len (n : Nat) : ({ cps := #[n] } : Str).length = 1 := rfl
end P1X
section P2X
open Builtin Builtin.Str
theorem entry_ascii : entryFor table "ascii" = some Builtin.«ascii» := entryFor_of_tree (by kernel_rfl)
theorem kind_ascii : builtinKind "ascii" = none := by decide +kernel
theorem plain_ascii : plainId "ascii" = true := by decide +kernel
theorem args_ascii1 (a : Value) : argsOk "ascii" ⟨[a], []⟩ := by unfold argsOk; kernel_rfl
noncomputable def hexD (n width : Nat) : List Nat :=
  let ds := (Nat.toDigits 16 n).map (·.toNat)
  List.replicate (width - ds.length) 48 ++ ds
noncomputable def ascEsc (c : Nat) : List Nat :=
  if c < 128 then [c]
  else if c < 256 then [92, 120] ++ hexD c 2
  else if c < 65536 then [92, 117] ++ hexD c 4
  else [92, 85] ++ hexD c 8
noncomputable def ascText (x : Str) : Str := ⟨x.cps.flatMap fun c => (ascEsc c).toArray⟩
theorem eq_of_cps {x y : Str} (h : x.cps.toList = y.cps.toList) : x = y := by
  obtain ⟨⟨a⟩⟩ := x; obtain ⟨⟨b⟩⟩ := y; simp at h; subst h; rfl
theorem flat_id (a : Array Nat) (h : ∀ c ∈ a.toList, c < 128) : (a.flatMap fun c => (ascEsc c).toArray).toList = a.toList := by
  rw [Array.toList_flatMap]
  have : ∀ l : List Nat, (∀ c ∈ l, c < 128) → (l.flatMap fun c => (ascEsc c).toArray.toList) = l := by
    intro l
    induction l with
    | nil => intro _; rfl
    | cons c r ih =>
      intro h
      rw [List.flatMap_cons, ih (fun d hd => h d (List.mem_cons_of_mem _ hd))]
      have : ascEsc c = [c] := if_pos (h c (List.mem_cons_self ..))
      rw [this]; rfl
  exact this _ h
section
variable {prog : Program} {w : World} {A : Around} {E : Value → Shared → Prop} {s : Shared}
theorem ascii_of_str {x : Str} {t : Tok} {Q : Value → Shared → Prop} (h : ∀ t' k, Q (.str (ascText (reprText x)) t') { s with toks := k }) (hsz : (reprText x).length ≤ 1000000) (hsz2 : (ascText (reprText x)).length ≤ sizeLine) :
    wpAny (model prog w) A (call (.builtin "ascii") [.str x t]) Q E s := by
  refine Calls.call_function_entry kind_ascii plain_ascii entry_ascii (args_ascii1 _) ?_
  unfold Builtin.«ascii»
  refine wpAny_bind (m := oneArg "ascii" _) (wpAny_pure ?_)
  have hv : ([Value.str x t]).any Value.onHeap = false := rfl
  simp only [cRoomFor, hv, Bool.false_eq_true, if_false, pure_bind]
  refine wpAny_bind (m := callSpecialIfBound? (.str x t) (PySem.Str.ofString "__repr__")) (wpAny_callSpecialIfBound?_slot (name := PySem.Str.ofString "__repr__") (typeIs_str s x t) F.slot_str_repr
    (call_gives F.slot_str_repr (typeIs_str s x t) F.entry_str_repr (F.args_str_repr_1 _) (gives_str_repr x t) ⟨by rw [PySem.sizeLine_eq]; omega, ?_⟩))
  have hy1 : (reprText x).length ≤ 1000000 := hsz
  generalize reprText x = y at h hsz2 hy1
  refine wpAny_bind (m := asStr? _) (wpAny_pure ?_)
  dsimp only
  by_cases ha : (y.cps.all fun c => decide (c < 128)) = true
  · rw [if_pos ha]
    have e : ascText y = y := by
      refine eq_of_cps ?_
      have hall : ∀ c ∈ y.cps.toList, c < 128 := by
        rw [← Array.all_toList, List.all_eq_true] at ha
        exact fun c hc => of_decide_eq_true (ha c hc)
      exact flat_id _ hall
    refine wpAny_bind (wpAny_rule (wpAny_pure ⟨_, rfl, ?_⟩))
    have h' := h s.toks (s.toks + 1)
    rw [e] at h'
    exact h'
  · rw [if_neg ha]
    refine wpAny_bind (wpAny_letGo ?_)
    rw [if_neg (by
      have : ¬ (10 * y.length > sizeLine) := by rw [PySem.sizeLine_eq]; omega
      simp only [this, decide_false, Bool.false_and, Bool.false_eq_true, not_false_eq_true])]
    show wpAny _ _ (mkStr (ascText y) >>= _) _ _ _
    exact wpAny_bind (wpAny_mkStr (wpAny_pure ⟨_, rfl, h _ _⟩) hsz2)
end
end P2X
section P3X
open Builtin Builtin.Str
noncomputable def step (b : Bool) (c : Nat) : List Nat := if b then (reprChar 34 c).flatMap ascEsc else reprChar 34 c
end P3X
section FLX
noncomputable def IsIt (o : Obj) (l : Addr) (i : Nat) : Prop := o.cls = .type "list_iterator" ∧ o.data = .fields #[.ref l, .int i 0]
section
variable {prog : Program} {w : World} {A : Around} {E : Value → Shared → Prop} {s : Shared} {h₀ : Heap} {L D : Addr} {m : Str → Option Value} {news : List (Addr × Obj)} {env : Env} {target : Expr} {body : List Stmt} {Q : Flow → Shared → Prop} {vs : List Value} {nn : Nat}
noncomputable def ForPost (h₀ : Heap) (L : Addr) (s : Shared) (J : (Str → Option Value) → List (Addr × Obj) → Prop) (Q : Flow → Shared → Prop) (I : Addr) (o : Obj) (f : Flow) (s₂ : Shared) : Prop :=
  match f with
  | .ret v => Q (.ret v) s₂
  | .brk => Q .next s₂
  | _ => ∃ h' tk' m' news', s₂ = { s with heap := h', toks := tk' } ∧ Fr h₀ L h' m' ∧ News h₀ L h' ((I, o) :: news') ∧ J m' news'
end
end FLX
section CTX
open LCg
section
variable {prog : Program} {w : World} {A : Around} {E : Value → Shared → Prop} {s : Shared} {h₀ : Heap} {L : Addr} {m : Str → Option Value} {env : Env}
end
end CTX
section Q1X
inductive P where
  | nil
  | cons (l n c : List Nat) (sp : P) (k : List Nat) (r : P)
inductive Ev where
  | op (l n c : List Nat)
  | cl (k : List Nat)
noncomputable def P.evs : P → List Ev
  | .nil => []
  | .cons l n c sp k r => Ev.op l n c :: (sp.evs ++ Ev.cl k :: r.evs)
noncomputable def P.app : P → P → P
  | .nil, q => q
  | .cons l n c sp k r, q => .cons l n c sp k (r.app q)
theorem P.evs_app : ∀ p q : P, (p.app q).evs = p.evs ++ q.evs
  | .nil, q => rfl
  | .cons l n c sp k r, q => by simp only [P.app, P.evs, P.evs_app r q, List.cons_append, List.append_assoc]
noncomputable def P.hgt : P → Nat
  | .nil => 0
  | .cons _ _ _ sp _ r => max (sp.hgt + 1) r.hgt
noncomputable def P.nf : P → Nat
  | .nil => 0
  | .cons _ _ _ sp _ r => 1 + sp.nf + r.nf
theorem P.hgt_app : ∀ p q : P, (p.app q).hgt = max p.hgt q.hgt
  | .nil, q => by simp [P.app, P.hgt]
  | .cons l n c sp k r, q => by rw [P.app, P.hgt, P.hgt, P.hgt_app r q]; exact (Nat.max_assoc _ _ _).symm
noncomputable def isOp : Ev → Bool
  | .op .. => true
  | .cl _ => false
theorem P.nf_evs : ∀ p : P, (p.evs.filter isOp).length = p.nf
  | .nil => rfl
  | .cons l n c sp k r => by simp only [P.evs, P.nf, List.filter_cons, List.filter_append, isOp, if_true, List.length_cons, List.length_append, P.nf_evs sp, P.nf_evs r, Bool.false_eq_true, if_false]; omega
noncomputable def headL (n c : List Nat) : List Nat := if c = [] then n else n ++ 33 :: c
noncomputable def joinL : List (List Nat) → List Nat
  | [] => []
  | [a] => a
  | a :: b :: r => a ++ 32 :: joinL (b :: r)
noncomputable def clo (k : List Nat) : List (List Nat) := if k = [] then [] else [quotedL k]
noncomputable def fldL (l n c x : List Nat) : List Nat := quotedL l ++ 32 :: (headL n c ++ 32 :: quotedL x)
noncomputable def P.parts : P → List (List Nat)
  | .nil => []
  | .cons l n c sp k r => fldL l n c (joinL (sp.parts ++ clo k)) :: r.parts
noncomputable def P.text (p : P) (k : List Nat) : List Nat := joinL (p.parts ++ clo k)
noncomputable def P.pieces : P → List Nat → List (List Nat × Option (List Nat × List Nat × List Nat))
  | .nil, k => if k = [] then [] else [(k, none)]
  | .cons l n c sp k r, k' => (l, some (n, sp.text k, c)) :: r.pieces k'
inductive Key where
  | int (n : Nat)
  | str (l : List Nat)
  deriving DecidableEq
inductive Err where | K | I | V
inductive R where
  | ok (t : List Nat) (c : Option Nat) (u : List Key)
  | err (e : Err) (u : List Key)
noncomputable def R.bind : R → (List Nat → Option Nat → List Key → R) → R
  | .ok t c u, f => f t c u
  | .err e u, _ => .err e u
noncomputable def rowL : List (List Nat × List Nat) := [([120], [39,120,39]), ([105,116,39,115], [34,105,116,39,115,34]), ([34], [39,34,39]), ([], [39,39]), ([121,32,122], [39,121,32,122,39]), ([92], [39,92,92,39])]
noncomputable def look : Key → Except Err (List Nat × List Nat)
  | .int n => match rowL[n]? with
    | some x => .ok x
    | none => .error .I
  | .str l => if l = [107] then .ok ([75], [39,75,39]) else if l = [110] then .ok ([39], [34,39,34]) else .error .K
noncomputable def resolve (n : List Nat) (cnt : Option Nat) : Option (Key × Option Nat) :=
  if n = [] then cnt.map fun c => (.int c, some (c + 1))
  else if n = [48] ∨ n = [49] then (if cnt.getD 0 > 0 then none else some (.int (n.headD 48 - 48), none))
  else some (.str n, cnt)
noncomputable def valL (c : List Nat) (x : List Nat × List Nat) : List Nat := if c = [114] ∨ c = [97] then x.2 else x.1
noncomputable def P.vf : P → Nat → List Nat → Option Nat → List Key → R
  | .nil, _, k, cnt, u => .ok k cnt u
  | .cons l n c sp k' r, d, k, cnt, u =>
    match resolve n cnt with
    | none => .err .V u
    | some (key, c1) => match look key with
      | .error e => .err e u
      | .ok x => match d with
        | 0 => .err .V (u ++ [key])
        | d' + 1 => (sp.vf d' k' c1 (u ++ [key])).bind fun t c2 u2 => (r.vf (d' + 1) k c2 u2).bind fun t2 c3 u3 => .ok (l ++ (40 :: (valL c x ++ 58 :: (t ++ 41 :: t2)))) c3 u3
noncomputable def dueGo (D : Nat) : List Ev → List Nat → Option Nat → Nat → List Key → R
  | [], t, c, _, u => .ok t c u
  | .cl k :: r, t, c, lv, u => dueGo D r (t ++ k ++ [41]) c (lv - 1) u
  | .op l n cv :: r, t, c, lv, u =>
    match resolve n c with
    | none => .err .V u
    | some (key, c1) => match look key with
      | .error e => .err e u
      | .ok x => if lv + 1 > D then .err .V (u ++ [key]) else dueGo D r (t ++ l ++ 40 :: (valL cv x ++ [58])) c1 (lv + 1) (u ++ [key])
theorem R.bind_bind (x : R) (f g) : (x.bind f).bind g = x.bind fun t c u => (f t c u).bind g := by cases x <;> rfl
theorem P.vf_k : ∀ (p : P) d k c u, p.vf d k c u = (p.vf d [] c u).bind fun t c u => .ok (t ++ k) c u
  | .nil, _, k, c, u => by simp [P.vf, R.bind]
  | .cons l n cv sp k' r, d, k, c, u => by
    rw [P.vf, P.vf]
    split
    · rfl
    · split
      · rfl
      · cases d with
        | zero => rfl
        | succ d =>
          dsimp only
          rw [R.bind_bind]
          congr 1; funext t c2 u2
          rw [P.vf_k r, R.bind_bind, R.bind_bind]
          congr 1; funext t c2 u2
          simp only [R.bind, List.cons_append, List.append_assoc]
theorem P.due : ∀ (p : P) (D lv : Nat) (rest : List Ev) t c u, lv ≤ D → dueGo D (p.evs ++ rest) t c lv u = (p.vf (D - lv) [] c u).bind fun t' c' u' => dueGo D rest (t ++ t') c' lv u'
  | .nil, D, lv, rest, t, c, u, h => by simp [P.vf, P.evs, R.bind]
  | .cons l n cv sp k r, D, lv, rest, t, c, u, h => by
    rw [P.vf, P.evs, List.cons_append, dueGo]
    split
    · rfl
    · split
      · rfl
      · split
        · rw [Nat.sub_eq_zero_of_le (Nat.le_of_lt_succ ‹_›)]; rfl
        · rename_i h2
          obtain ⟨d, hd⟩ : ∃ d, D - lv = d + 1 := ⟨D - lv - 1, (Nat.sub_add_cancel (Nat.sub_pos_of_lt (Nat.not_lt.mp h2))).symm⟩
          rw [hd]; dsimp only
          rw [List.append_assoc, P.due sp D (lv + 1) _ _ _ _ (Nat.not_lt.mp h2), show D - (lv + 1) = d by rw [← Nat.sub_sub, hd]; rfl, P.vf_k sp d k, R.bind_bind, R.bind_bind]
          congr 1; funext t1 c1 u1
          rw [List.cons_append, dueGo, Nat.add_sub_cancel, P.due r D lv _ _ _ _ h, hd, R.bind, R.bind_bind]
          congr 1; funext t2 c2 u2
          simp only [R.bind, List.cons_append, List.append_assoc, List.nil_append]
theorem P.due0 (p : P) (D : Nat) (c u) : dueGo D p.evs [] c 0 u = p.vf D [] c u := by
  have := P.due p D 0 [] [] c u (Nat.zero_le _)
  rw [List.append_nil] at this
  rw [this]
  cases p.vf D [] c u <;> simp [R.bind, dueGo]
inductive O where
  | done (p : P)
  | opn (p : P) (l n c : List Nat) (o : O)
noncomputable def O.evs : O → List Ev
  | .done p => p.evs
  | .opn p l n c o => p.evs ++ Ev.op l n c :: o.evs
noncomputable def O.lev : O → Nat
  | .done _ => 0
  | .opn _ _ _ _ o => o.lev + 1
noncomputable def O.hgt : O → Nat
  | .done p => p.hgt
  | .opn p _ _ _ o => max p.hgt (o.hgt + 1)
noncomputable def O.push (l n c : List Nat) : O → O
  | .done p => .opn p l n c (.done .nil)
  | .opn p l' n' c' o => .opn p l' n' c' (o.push l n c)
noncomputable def O.close (k : List Nat) : O → O
  | .done p => .done p
  | .opn p l n c (.done q) => .done (p.app (.cons l n c q k .nil))
  | .opn p l n c (.opn p' l' n' c' o) => .opn p l n c ((O.opn p' l' n' c' o).close k)
theorem O.push_evs (l n c) : ∀ o : O, (o.push l n c).evs = o.evs ++ [Ev.op l n c]
  | .done p => rfl
  | .opn p l' n' c' o => by simp only [O.push, O.evs, O.push_evs l n c o, List.append_assoc, List.cons_append]
theorem O.push_lev (l n c) : ∀ o : O, (o.push l n c).lev = o.lev + 1
  | .done p => rfl
  | .opn p l' n' c' o => by simp only [O.push, O.lev, O.push_lev l n c o]
theorem O.push_hgt (l n c) : ∀ o : O, (o.push l n c).hgt ≤ max o.hgt (o.lev + 1)
  | .done p => Nat.le_refl _
  | .opn p l' n' c' o => by
    have h := O.push_hgt l n c o
    refine Nat.max_le.mpr ⟨Nat.le_trans (Nat.le_max_left _ _) (Nat.le_max_left _ _), ?_⟩
    rcases Nat.le_total o.hgt (o.lev + 1) with q | q
    · exact Nat.le_trans (Nat.succ_le_succ (Nat.le_trans h (Nat.max_le.mpr ⟨q, Nat.le_refl _⟩))) (Nat.le_max_right _ _)
    · exact Nat.le_trans (Nat.succ_le_succ (Nat.le_trans h (Nat.max_le.mpr ⟨Nat.le_refl _, q⟩))) (Nat.le_trans (Nat.le_max_right _ _) (Nat.le_max_left _ _))
theorem O.close_evs (k) : ∀ o : O, 0 < o.lev → (o.close k).evs = o.evs ++ [Ev.cl k]
  | .done p, h => absurd h (Nat.lt_irrefl _)
  | .opn p l n c (.done q), _ => by simp only [O.close, O.evs, P.evs_app, P.evs, List.append_assoc, List.cons_append]
  | .opn p l n c (.opn p' l' n' c' o), _ => by
    have := O.close_evs k (.opn p' l' n' c' o) (Nat.succ_pos _)
    rw [O.close, O.evs, this]; simp only [O.evs, List.append_assoc, List.cons_append]
theorem O.close_lev (k) : ∀ o : O, (o.close k).lev = o.lev - 1
  | .done p => rfl
  | .opn p l n c (.done q) => rfl
  | .opn p l n c (.opn p' l' n' c' o) => by
    have := O.close_lev k (.opn p' l' n' c' o)
    rw [O.close, O.lev, this]; rfl
theorem O.close_hgt (k) : ∀ o : O, (o.close k).hgt ≤ o.hgt
  | .done p => Nat.le_refl _
  | .opn p l n c (.done q) => by simp only [O.close, O.hgt, P.hgt_app, P.hgt]; rw [Nat.max_zero]; exact Nat.le_refl _
  | .opn p l n c (.opn p' l' n' c' o) => by
    have := O.close_hgt k (.opn p' l' n' c' o)
    rw [O.close, O.hgt]
    exact Nat.max_le.mpr ⟨Nat.le_max_left .., Nat.le_trans (Nat.succ_le_succ this) (Nat.le_max_right ..)⟩
noncomputable def O.closes (k : List Nat) : Nat → O → O
  | 0, o => o
  | i + 1, o => (o.close k).closes k i
theorem O.closes_is (k) : ∀ (i : Nat) (o : O), i ≤ o.lev → (o.closes k i).evs = o.evs ++ List.replicate i (Ev.cl k) ∧ (o.closes k i).lev = o.lev - i ∧ (o.closes k i).hgt ≤ o.hgt
  | 0, o, _ => by simp [O.closes]
  | i + 1, o, h => by
    have h1 := O.close_lev k o
    obtain ⟨a, b, c⟩ := O.closes_is k i (o.close k) (by omega)
    have h2 := O.close_hgt k o
    refine ⟨?_, by rw [O.closes, b, h1, Nat.sub_sub, Nat.add_comm], Nat.le_trans c h2⟩
    rw [O.closes, a, O.close_evs k o (by omega), List.append_assoc]; rfl
noncomputable def litOf (x : Int) : List Nat := [[], [97], [34], [98,32,99]].getD (x / 96 % 4).toNat []
noncomputable def convOf (x : Int) : List Nat := [[], [114], [115], [97]].getD (x / 8 % 4).toNat []
noncomputable def nameOf (names : List (List Nat)) (x : Int) : List Nat := names.getD (x % 8).toNat []
noncomputable def dotOf (x : Int) : List Nat := [[], [46]].getD (x / 384 % 2).toNat []
noncomputable def closedOf (x : Int) (level : Nat) : Nat := min level (max (x / 32 % 3).toNat (level - 2))
noncomputable def evStep (names : List (List Nat)) (st : List Ev × Nat) (x : Int) : List Ev × Nat :=
  (st.1 ++ List.replicate (closedOf x st.2) (.cl (dotOf x)) ++ [.op (litOf x) (nameOf names x) (convOf x)], st.2 - closedOf x st.2 + 1)
noncomputable def evAll (names : List (List Nat)) (xs : List Int) : List Ev :=
  let st := xs.foldl (evStep names) ([], 0)
  st.1 ++ List.replicate st.2 (.cl [34])
noncomputable def litS : List (List Nat) := [[], [97], [34], [98,32,99]]
noncomputable def convS : List (List Nat) := [[], [114], [115], [97]]
noncomputable def nameS : List (List Nat) := [[], [107], [110], [122], [48], [49]]
noncomputable def cloS : List (List Nat) := [[], [46], [34]]
noncomputable def EvOk : Ev → Prop
  | .op l n c => l ∈ litS ∧ n ∈ nameS ∧ c ∈ convS
  | .cl k => k ∈ cloS
theorem getD_mem {α} (l : List α) (i : Nat) (d : α) (h : i < l.length) : l.getD i d ∈ l := by
  rw [List.getD_eq_getElem?_getD, List.getElem?_eq_getElem h]; exact List.getElem_mem h
theorem em_lt (x : Int) (n : Nat) (h : 0 < n) : (x % (n : Int)).toNat < n := (Int.toNat_lt (Int.emod_nonneg _ (by omega))).mpr (Int.emod_lt_of_pos _ (by omega))
theorem min_lo (a b : Nat) : a ≤ min a (max b (a - 2)) + 2 := by omega
theorem step_ok (names : List (List Nat)) (h8 : names.length = 8) (hn : ∀ n ∈ names, n ∈ nameS) (o : O) (x : Int) (hl : o.lev ≤ 3) (hh : o.hgt ≤ 3) (hok : ∀ e ∈ o.evs, EvOk e) :
    ∃ o' : O, evStep names (o.evs, o.lev) x = (o'.evs, o'.lev) ∧ o'.lev ≤ 3 ∧ o'.hgt ≤ 3 ∧ (∀ e ∈ o'.evs, EvOk e) ∧ (o'.evs.filter isOp).length = (o.evs.filter isOp).length + 1 ∧ o'.evs.length ≤ o.evs.length + 4 := by
  have hc : closedOf x o.lev ≤ o.lev := Nat.min_le_left ..
  have hc2 : o.lev ≤ closedOf x o.lev + 2 := min_lo ..
  obtain ⟨a, b, c⟩ := O.closes_is (dotOf x) (closedOf x o.lev) o hc
  have e1 := O.push_evs (litOf x) (nameOf names x) (convOf x) (o.closes (dotOf x) (closedOf x o.lev))
  have e2 := O.push_lev (litOf x) (nameOf names x) (convOf x) (o.closes (dotOf x) (closedOf x o.lev))
  have e3 := O.push_hgt (litOf x) (nameOf names x) (convOf x) (o.closes (dotOf x) (closedOf x o.lev))
  have hl3 : (o.closes (dotOf x) (closedOf x o.lev)).lev + 1 ≤ 3 := by rw [b]; exact Nat.succ_le_succ (Nat.sub_le_iff_le_add'.mpr hc2)
  refine ⟨(o.closes (dotOf x) (closedOf x o.lev)).push (litOf x) (nameOf names x) (convOf x), ?_, by rw [e2]; exact hl3, Nat.le_trans e3 (Nat.max_le.mpr ⟨Nat.le_trans c hh, hl3⟩), ?_, ?_, ?_⟩
  · rw [e1, e2, a, b]; rfl
  · rw [e1, a]
    intro e he
    rcases List.mem_append.mp he with he | he
    · rcases List.mem_append.mp he with he | he
      · exact hok e he
      · rw [(List.mem_replicate.mp he).2]
        have : dotOf x ∈ ([[], [46]] : List (List Nat)) := getD_mem _ _ _ (em_lt _ 2 (by decide))
        rcases List.mem_cons.mp this with h | h
        · simp [EvOk, h, cloS]
        · rw [List.mem_singleton] at h; simp [EvOk, h, cloS]
    · rw [List.mem_singleton.mp he]
      exact ⟨getD_mem _ _ _ (em_lt _ 4 (by decide)), hn _ (getD_mem _ _ _ (by rw [h8]; exact em_lt _ 8 (by decide))), getD_mem _ _ _ (em_lt _ 4 (by decide))⟩
  · rw [e1, a]
    have : ∀ i, (List.replicate i (Ev.cl (dotOf x))).filter isOp = [] := fun i => by rw [List.filter_eq_nil_iff]; intro e he; rw [(List.mem_replicate.mp he).2]; simp [isOp]
    have h1 : ([Ev.op (litOf x) (nameOf names x) (convOf x)].filter isOp).length = 1 := rfl
    simp only [List.filter_append, List.length_append, this, List.length_nil, h1, Nat.add_zero]
  · rw [e1, a]
    simp only [List.length_append, List.length_replicate, List.length_cons, List.length_nil]; omega
theorem steps_ok (names : List (List Nat)) (h8 : names.length = 8) (hn : ∀ n ∈ names, n ∈ nameS) : ∀ (xs : List Int) (o : O), o.lev ≤ 3 → o.hgt ≤ 3 → (∀ e ∈ o.evs, EvOk e) →
    ∃ o' : O, xs.foldl (evStep names) (o.evs, o.lev) = (o'.evs, o'.lev) ∧ o'.lev ≤ 3 ∧ o'.hgt ≤ 3 ∧ (∀ e ∈ o'.evs, EvOk e) ∧ (o'.evs.filter isOp).length = (o.evs.filter isOp).length + xs.length ∧ o'.evs.length ≤ o.evs.length + 4 * xs.length
  | [], o, a, b, c => ⟨o, rfl, a, b, c, rfl, Nat.le_refl _⟩
  | x :: xs, o, a, b, c => by
    obtain ⟨o1, e1, a1, b1, c1, d1, f1⟩ := step_ok names h8 hn o x a b c
    obtain ⟨o2, e2, a2, b2, c2, d2, f2⟩ := steps_ok names h8 hn xs o1 a1 b1 c1
    refine ⟨o2, by rw [List.foldl_cons, e1, e2], a2, b2, c2, ?_, ?_⟩
    · simp only [List.length_cons]; omega
    · simp only [List.length_cons]; omega
theorem O.lev0 : ∀ o : O, o.lev = 0 → ∃ p : P, o = .done p
  | .done p, _ => ⟨p, rfl⟩
  | .opn .., h => by simp [O.lev] at h
theorem evAll_ok (names : List (List Nat)) (h8 : names.length = 8) (hn : ∀ n ∈ names, n ∈ nameS) (xs : List Int) :
    ∃ p : P, evAll names xs = p.evs ∧ p.hgt ≤ 3 ∧ (∀ e ∈ p.evs, EvOk e) ∧ p.nf = xs.length ∧ p.evs.length ≤ 4 * xs.length + 3 := by
  obtain ⟨o, e, a, b, c, d, f⟩ := steps_ok names h8 hn xs (.done .nil) (Nat.zero_le _) (Nat.zero_le _) (by simp [O.evs, P.evs])
  obtain ⟨a1, b1, c1⟩ := O.closes_is [34] o.lev o (Nat.le_refl _)
  obtain ⟨p, hp⟩ := O.lev0 (o.closes [34] o.lev) (by omega)
  rw [hp] at a1 b1 c1
  have he : evAll names xs = p.evs := by
    unfold evAll
    have e' : xs.foldl (evStep names) ([], 0) = (o.evs, o.lev) := e
    rw [e']; exact a1.symm
  have hr : ∀ i, (List.replicate i (Ev.cl [34])).filter isOp = [] := fun i => by rw [List.filter_eq_nil_iff]; intro e he; rw [(List.mem_replicate.mp he).2]; simp [isOp]
  refine ⟨p, he, Nat.le_trans c1 b, ?_, ?_, ?_⟩
  · have : p.evs = o.evs ++ List.replicate o.lev (Ev.cl [34]) := a1
    rw [this]
    intro e he
    rcases List.mem_append.mp he with he | he
    · exact c e he
    · rw [(List.mem_replicate.mp he).2]; simp [EvOk, cloS]
  · have : p.evs = o.evs ++ List.replicate o.lev (Ev.cl [34]) := a1
    rw [← P.nf_evs, this, List.filter_append, hr, List.append_nil, d]; simp [O.evs, P.evs]
  · have : p.evs = o.evs ++ List.replicate o.lev (Ev.cl [34]) := a1
    rw [this, List.length_append, List.length_replicate]
    simp only [O.evs, P.evs, List.length_nil] at f; omega
end Q1X
section Q2X
noncomputable def qbody (l : List Nat) : List Nat := l.flatMap fun c => if c = 34 then [34,34] else [c]
theorem quotedL_is (l : List Nat) : quotedL l = 34 :: (qbody l ++ [34]) := rfl
theorem qbody_len : ∀ l : List Nat, (qbody l).length = l.length + l.count 34
  | [] => rfl
  | c :: r => by
    have := qbody_len r
    simp only [qbody] at this
    simp only [qbody, List.flatMap_cons, List.length_append, List.length_cons, List.count_cons, this]
    by_cases h : c = 34
    · simp [h]; omega
    · simp [h]; omega
theorem quotedL_len' (l : List Nat) : (quotedL l).length = l.length + l.count 34 + 2 := by
  rw [quotedL_is]; simp only [List.length_cons, List.length_append, qbody_len, List.length_nil]
theorem unq_q (t : List Nat) (ht : t.head? ≠ some 34) : ∀ l : List Nat, unq (qbody l ++ 34 :: t) = l
  | [] => by simp only [qbody, List.flatMap_nil, List.nil_append]; exact unq_end ht
  | c :: r => by
    have ih := unq_q t ht r
    simp only [qbody] at ih
    simp only [qbody, List.flatMap_cons]
    by_cases h : c = 34
    · rw [if_pos h, h]
      rw [List.append_assoc, List.cons_append, List.cons_append, List.nil_append, unq_qq, ih]
    · rw [if_neg h]
      rw [List.append_assoc, List.cons_append, List.nil_append, unq_cons h, ih]
theorem taken_drop (l t : List Nat) : (quotedL l ++ t).drop (l.length + l.count 34 + 3) = t.drop 1 := by
  rw [show l.length + l.count 34 + 3 = (quotedL l).length + 1 by rw [quotedL_len'], ← List.drop_drop, List.drop_left]
noncomputable def tailL (r : P) (k : List Nat) : List Nat := if r.parts ++ clo k = [] then [] else 32 :: r.text k
theorem text_nil (k : List Nat) (h : k ≠ []) : P.text .nil k = quotedL k ++ [] := by
  simp [P.text, P.parts, clo, h, joinL]
theorem text_cons (l n c sp k r k') : P.text (.cons l n c sp k r) k' = quotedL l ++ 32 :: (headL n c ++ 32 :: (quotedL (sp.text k) ++ tailL r k')) := by
  simp only [P.text, P.parts, tailL, List.cons_append]
  cases h : r.parts ++ clo k' with
  | nil => simp [joinL, fldL]
  | cons a b => simp [joinL, fldL]
theorem tail_drop (r : P) (k) : (tailL r k).drop 1 = r.text k := by
  unfold tailL; split
  · rename_i h; simp [P.text, h, joinL]
  · rfl
theorem tail_head (r : P) (k) : (tailL r k).head? ≠ some 34 := by
  unfold tailL; split <;> simp
theorem joinL_len : ∀ ls : List (List Nat), (joinL ls).length ≤ (ls.map fun l => l.length + 1).sum
  | [] => Nat.zero_le _
  | [a] => by simp [joinL]
  | a :: b :: r => by
    have := joinL_len (b :: r)
    simp only [joinL, List.map_cons, List.sum_cons, List.length_append, List.length_cons] at this ⊢; omega
theorem evs_mem_cons {l n c sp k r} (h : ∀ e ∈ (P.cons l n c sp k r).evs, EvOk e) : EvOk (.op l n c) ∧ (∀ e ∈ sp.evs, EvOk e) ∧ EvOk (.cl k) ∧ ∀ e ∈ r.evs, EvOk e := by
  rw [P.evs] at h
  refine ⟨h _ (List.mem_cons_self ..), fun e he => h e ?_, h _ ?_, fun e he => h e ?_⟩
  · exact List.mem_cons_of_mem _ (List.mem_append.mpr (.inl he))
  · exact List.mem_cons_of_mem _ (List.mem_append.mpr (.inr (List.mem_cons_self ..)))
  · exact List.mem_cons_of_mem _ (List.mem_append.mpr (.inr (List.mem_cons_of_mem _ he)))
theorem quotedL_le (l : List Nat) : (quotedL l).length ≤ 2 * l.length + 2 := by
  rw [quotedL_len']
  have := List.count_le_length (a := 34) (l := l)
  omega
theorem clo_len {k : List Nat} (h : k ∈ cloS) : ((clo k).map fun l => l.length + 1).sum ≤ 5 := by
  simp only [cloS, List.mem_cons, List.not_mem_nil, or_false] at h
  rcases h with h | h | h <;> subst h <;> decide
theorem head_len {n c : List Nat} (hn : n ∈ nameS) (hc : c ∈ convS) : (headL n c).length ≤ 3 := by
  have : ∀ n ∈ nameS, ∀ c ∈ convS, (headL n c).length ≤ 3 := by decide
  exact this n hn c hc
theorem lit_len {l : List Nat} (hl : l ∈ litS) : (quotedL l).length ≤ 5 := by
  have : ∀ l ∈ litS, (quotedL l).length ≤ 5 := by decide
  exact this l hl
theorem parts_len : ∀ (p : P) (h : Nat), p.hgt ≤ h → (∀ e ∈ p.evs, EvOk e) → (p.parts.map fun l => l.length + 1).sum ≤ 30 * p.nf * 2 ^ h
  | .nil, h, _, _ => by simp [P.parts]
  | .cons l n c sp k r, h, hh, ok => by
    obtain ⟨⟨o1, o2, o3⟩, o4, o5, o6⟩ := evs_mem_cons ok
    have ih2 := parts_len r h (Nat.le_trans (Nat.le_max_right ..) hh) o6
    obtain ⟨h', rfl⟩ : ∃ h', h = h' + 1 := ⟨h - 1, (Nat.sub_add_cancel (Nat.le_trans (Nat.succ_le_succ (Nat.zero_le _)) (Nat.le_trans (Nat.le_max_left ..) hh))).symm⟩
    have ih1 := parts_len sp h' (Nat.le_of_succ_le_succ (Nat.le_trans (Nat.le_max_left ..) hh)) o4
    have h1 := joinL_len (sp.parts ++ clo k)
    have h2 := quotedL_le (joinL (sp.parts ++ clo k))
    have h3 := head_len o2 o3
    have h4 := lit_len o1
    have h5 := clo_len o5
    simp only [List.map_append, List.sum_append] at h1
    simp only [P.parts, List.map_cons, List.sum_cons, fldL, List.length_append, List.length_cons, P.nf]
    rw [Nat.mul_add, Nat.mul_add, Nat.add_mul, Nat.add_mul]
    have e : 30 * sp.nf * 2 ^ (h' + 1) = 2 * (30 * sp.nf * 2 ^ h') := by rw [Nat.pow_succ]; ac_rfl
    have e2 : 30 * 1 * 2 ^ (h' + 1) ≥ 30 := by have := Nat.one_le_two_pow (n := h' + 1); omega
    rw [e]; omega
theorem text_len (p : P) (hh : p.hgt ≤ 3) (hn : p.nf ≤ 10) (ok : ∀ e ∈ p.evs, EvOk e) (k) (hk : k ∈ cloS) : (p.text k).length ≤ 2405 := by
  have h1 := joinL_len (p.parts ++ clo k)
  have h2 := parts_len p 3 hh ok
  have h3 := clo_len hk
  simp only [List.map_append, List.sum_append] at h1
  have : 30 * p.nf * 2 ^ 3 = 240 * p.nf := by omega
  unfold P.text; omega
noncomputable def pageGo : List Ev → List (List (List Nat)) → List (List Nat × List Nat × List Nat) → List (List (List Nat))
  | [], st, _ => st
  | .op l n c :: r, st, hs => pageGo r ([] :: st) ((l, n, c) :: hs)
  | .cl k :: r, sp :: top :: st, (l, n, c) :: hs => pageGo r ((top ++ [fldL l n c (joinL (sp ++ clo k))]) :: st) hs
  | .cl _ :: _, st, _ => st
theorem pageGo_evs : ∀ (p : P) (rest : List Ev) top st hs, pageGo (p.evs ++ rest) (top :: st) hs = pageGo rest ((top ++ p.parts) :: st) hs
  | .nil, rest, top, st, hs => by simp [P.evs, P.parts]
  | .cons l n c sp k r, rest, top, st, hs => by
    rw [P.evs, List.cons_append, pageGo, List.append_assoc, pageGo_evs sp, List.nil_append, List.cons_append, pageGo, pageGo_evs r, P.parts, List.append_assoc, List.singleton_append]
theorem pageGo_all (p : P) : pageGo p.evs [[]] [] = [p.parts] := by
  have := pageGo_evs p [] [] [] []
  rw [List.append_nil, List.nil_append] at this
  rw [this, pageGo]
end Q2X
section Q3X
theorem slice_from {x : Str} {l : List Nat} (hx : x.cps.toList = l) {i : Int} {j : Nat} (h : i = (j : Int)) : Txt.slice x (some i) none = mk (l.drop j) := by
  subst hx h
  by_cases hj : j ≤ x.cps.toList.length
  · show StrLaws.sliceText x (some _) none = _
    rw [StrLaws.sliceText_from ⟨by omega, by omega⟩]
    rw [List.take_of_length_le (by simp)]; rfl
  · have e : Txt.slice x (some (j : Int)) none = Txt.slice x (some (x.cps.toList.length : Int)) none := by
      have h1 : Builtin.Str.strSliceIndices (some (j : Int)) none 1 x.length = Builtin.Str.strSliceIndices (some (x.cps.toList.length : Int)) none 1 x.length := by
        have hl : x.length = x.cps.toList.length := by simp [Str.length]
        have a1 : ¬ ((j : Int) < 0) := by omega
        have a2 : ¬ ((x.cps.toList.length : Int) < 0) := by omega
        have a3 : max (0 : Int) (min (j : Int) (x.length : Int)) = max (0 : Int) (min (x.cps.toList.length : Int) (x.length : Int)) := by rw [Int.min_eq_right (by omega), Int.min_eq_right (by rw [hl]; exact Int.le_refl _)]
        simp only [Builtin.Str.strSliceIndices, a1, a2, if_false, a3, show ((1 : Int) > 0) = True from by simp, if_true]
      show StrLaws.sliceText x (some _) none = StrLaws.sliceText x (some _) none
      unfold StrLaws.sliceText
      rw [h1]
    rw [e]
    show StrLaws.sliceText x (some _) none = _
    rw [StrLaws.sliceText_from ⟨by omega, by omega⟩, List.drop_of_length_le (by omega)]
    simp [mk]
    simp at hj; omega
theorem cnt_count (c : Nat) : ∀ l : List Nat, cnt c l = (l.count c : Nat)
  | [] => rfl
  | d :: r => by
    rw [cnt_cons, cnt_count c r, List.count_cons]
    by_cases h : d = c
    · simp [h]; omega
    · simp [h]
theorem count_mk (l : List Nat) (c : Nat) (s : Str) (hs : s = mk [c]) : Txt.count (mk l) s = (l.count c : Nat) := by
  subst hs
  have := count_cnt (mk l) c
  rw [mk_cps, cnt_count] at this
  exact this
theorem taken_slice (x tl : List Nat) (s : Str) (hs : s = mk [34]) : Txt.slice (mk (quotedL x ++ tl)) (some (((mk x).length : Int) + Txt.count (mk x) s + 3)) none = mk (tl.drop 1) := by
  rw [count_mk x 34 s hs, mk_len, slice_from (mk_cps _) (j := x.length + x.count 34 + 3) (by omega), taken_drop]
theorem part_at (a b : List Nat) (c : Nat) (s : Str) (hs : s = mk [c]) (hc : c ∉ a) : Txt.partition (mk (a ++ c :: b)) s = (mk a, mk [c], mk b) := by
  subst hs
  rcases partition_whole (mk (a ++ c :: b)) (mk [c]) with ⟨_, hn⟩ | ⟨i, hp, hAt, hno⟩
  · exact absurd ((StrLaws.subAt_one _ c a.length).mpr (by rw [mk_cps]; simp)) (hn a.length)
  · have h1 : (mk (a ++ c :: b)).cps.toList[i]? = some c := (StrLaws.subAt_one _ c i).mp hAt
    rw [mk_cps] at h1
    have h2 : i = a.length := by
      rcases Nat.lt_trichotomy i a.length with h | h | h
      · rw [List.getElem?_append_left h] at h1
        exact absurd (List.mem_of_getElem? h1) hc
      · exact h
      · exact absurd ((StrLaws.subAt_one _ c a.length).mpr (by rw [mk_cps]; simp)) (hno a.length h)
    subst h2
    rw [hp]
    have e1 : Builtin.Str.strSub (mk (a ++ c :: b)) 0 a.length = mk a := eq_mk (by rw [StrLaws.strSub_toList, mk_cps]; simp)
    have e2 : Builtin.Str.strSub (mk (a ++ c :: b)) (a.length + (mk [c]).length) (mk (a ++ c :: b)).length = mk b := eq_mk (by rw [StrLaws.strSub_toList, mk_cps, mk_len, mk_len]; simp; rw [List.take_of_length_le (by omega)])
    rw [e1, e2]
theorem part_none (a : List Nat) (c : Nat) (s : Str) (hs : s = mk [c]) (hc : c ∉ a) : Txt.partition (mk a) s = (mk a, mk [], mk []) := by
  subst hs
  rcases partition_whole (mk a) (mk [c]) with ⟨hp, hn⟩ | ⟨i, hp, hAt, hno⟩
  · rw [hp]; rfl
  · have h1 : (mk a).cps.toList[i]? = some c := (StrLaws.subAt_one _ c i).mp hAt
    rw [mk_cps] at h1
    exact absurd (List.mem_of_getElem? h1) hc
end Q3X
section Q4X
noncomputable def okGo : List Ev → Nat → Prop
  | [], n => n = 0
  | .op _ _ _ :: r, n => okGo r (n + 1)
  | .cl _ :: r, n => 0 < n ∧ okGo r (n - 1)
theorem okGo_evs : ∀ (p : P) rest n, okGo rest n → okGo (p.evs ++ rest) n
  | .nil, rest, n, h => h
  | .cons l m c sp k r, rest, n, h => by
    rw [P.evs, List.cons_append, List.append_assoc, okGo, List.cons_append]
    exact okGo_evs sp _ _ ⟨Nat.succ_pos _, okGo_evs r _ _ h⟩
theorem okGo_all (p : P) : okGo p.evs 0 := by
  have := okGo_evs p [] 0 rfl
  rwa [List.append_nil] at this
theorem nf_len : ∀ p : P, p.evs.length = 2 * p.nf
  | .nil => rfl
  | .cons l m c sp k r => by simp only [P.evs, P.nf, List.length_cons, List.length_append, nf_len sp, nf_len r]; omega
noncomputable def wl (ls : List (List Nat)) : Nat := (ls.map fun l => l.length + 1).sum
noncomputable def wt (st : List (List (List Nat))) : Nat := (st.map wl).sum
theorem wl_app (a b) : wl (a ++ b) = wl a + wl b := by simp [wl]
theorem fld_len {l n c k : List Nat} {sp : List (List Nat)} (hl : l ∈ litS) (hn : n ∈ nameS) (hc : c ∈ convS) (hk : k ∈ cloS) : (fldL l n c (joinL (sp ++ clo k))).length ≤ 2 * wl sp + 30 := by
  have h1 := joinL_len (sp ++ clo k)
  have h2 := quotedL_le (joinL (sp ++ clo k))
  have h3 := head_len hn hc
  have h4 := lit_len hl
  have h5 := clo_len hk
  simp only [List.map_append, List.sum_append] at h1
  simp only [fldL, List.length_append, List.length_cons]
  unfold wl; omega
theorem wt_close {l n c k : List Nat} {sp top : List (List Nat)} {st} (hl : l ∈ litS) (hn : n ∈ nameS) (hc : c ∈ convS) (hk : k ∈ cloS) :
    wt ((top ++ [fldL l n c (joinL (sp ++ clo k))]) :: st) + 64 ≤ 2 * (wt (sp :: top :: st) + 64) := by
  have := fld_len (sp := sp) hl hn hc hk
  have e : wl [fldL l n c (joinL (sp ++ clo k))] = (fldL l n c (joinL (sp ++ clo k))).length + 1 := by simp [wl]
  simp only [wt, List.map_cons, List.sum_cons, wl_app, e]
  omega
theorem wl_len (ls) : ls.length ≤ wl ls := by
  induction ls with
  | nil => exact Nat.le_refl _
  | cons a r ih => simp only [wl, List.map_cons, List.sum_cons, List.length_cons] at ih ⊢; omega
end Q4X
section Q5X
noncomputable def valS : List (List Nat × List Nat) := rowL ++ [([75], [39,75,39]), ([39], [34,39,34])]
theorem look_mem {k : Key} {x} (h : look k = .ok x) : x ∈ valS := by
  cases k with
  | int n =>
    simp only [look] at h
    cases hx : rowL[n]? with
    | none => rw [hx] at h; cases h
    | some y => rw [hx] at h; cases h; exact List.mem_append.mpr (.inl (List.mem_of_getElem? hx))
  | str l =>
    simp only [look] at h
    split at h
    · cases h; decide
    · split at h
      · cases h; decide
      · cases h
theorem val_len {x} (h : x ∈ valS) (c : List Nat) : (valL c x).length ≤ 6 := by
  have : ∀ x ∈ valS, x.1.length ≤ 6 ∧ x.2.length ≤ 6 := by decide
  unfold valL
  split
  · exact (this x h).2
  · exact (this x h).1
theorem lit_len3 {l : List Nat} (h : l ∈ litS) : l.length ≤ 3 := by
  have : ∀ l ∈ litS, l.length ≤ 3 := by decide
  exact this l h
theorem clo_len1 {l : List Nat} (h : l ∈ cloS) : l.length ≤ 1 := by
  have : ∀ l ∈ cloS, l.length ≤ 1 := by decide
  exact this l h
theorem vf_inv {l n cv k' : List Nat} {sp r : P} {d : Nat} {k : List Nat} {c : Option Nat} {u : List Key} {t : List Nat} {c' : Option Nat} {u' : List Key} (h : (P.cons l n cv sp k' r).vf d k c u = .ok t c' u') :
    ∃ key c1 x d' t1 c2 u1 t2, resolve n c = some (key, c1) ∧ look key = .ok x ∧ sp.vf d' k' c1 (u ++ [key]) = .ok t1 c2 u1 ∧ r.vf (d' + 1) k c2 u1 = .ok t2 c' u' ∧ t.length = l.length + (valL cv x).length + t1.length + t2.length + 3 := by
  rw [P.vf] at h
  split at h
  · cases h
  · rename_i key c1 hres
    split at h
    · cases h
    · rename_i x hx
      cases d with
      | zero => cases h
      | succ d =>
        dsimp only at h
        cases h1 : sp.vf d k' c1 (u ++ [key]) with
        | err e u2 => rw [h1] at h; cases h
        | ok t1 c2 u1 =>
          rw [h1, R.bind] at h
          cases h2 : r.vf (d + 1) k c2 u1 with
          | err e u2 => rw [h2] at h; cases h
          | ok t2 c3 u2 =>
            rw [h2, R.bind] at h
            cases h
            exact ⟨key, c1, x, d, t1, c2, u1, t2, hres, hx, h1, h2, by simp only [List.length_append, List.length_cons, List.length_nil]; omega⟩
theorem vf_len : ∀ (p : P) d k c u t c' u', (∀ e ∈ p.evs, EvOk e) → p.vf d k c u = .ok t c' u' → t.length ≤ 13 * p.nf + k.length
  | .nil, d, k, c, u, t, c', u', _, h => by rw [P.vf] at h; cases h; simp [P.nf]
  | .cons l n cv sp k' r, d, k, c, u, t, c', u', ok, h => by
    obtain ⟨⟨o1, o2, o3⟩, o4, o5, o6⟩ := evs_mem_cons ok
    obtain ⟨key, c1, x, d', t1, c2, u1, t2, hres, hx, h1, h2, hl⟩ := vf_inv h
    have a1 := vf_len sp _ _ _ _ _ _ _ o4 h1
    have a2 := vf_len r _ _ _ _ _ _ _ o6 h2
    have a3 := val_len (look_mem hx) cv
    have a4 := lit_len3 o1
    have a5 := clo_len1 o5
    rw [hl, P.nf]; omega
theorem res_cnt {n : List Nat} {c : Option Nat} {key : Key} {n1 : Nat} (hres : resolve n c = some (key, some n1)) : ∃ m, c = some m ∧ n1 ≤ m + 1 := by
  unfold resolve at hres
  split at hres
  · cases c with
    | none => cases hres
    | some m => cases hres; exact ⟨m, rfl, Nat.le_refl _⟩
  · split at hres
    · split at hres <;> cases hres
    · cases hres; exact ⟨n1, rfl, Nat.le_succ _⟩
theorem vf_cnt : ∀ (p : P) d k c u t c' u', p.vf d k c u = .ok t c' u' → ∀ n', c' = some n' → ∃ n, c = some n ∧ n' ≤ n + p.nf
  | .nil, d, k, c, u, t, c', u', h, n', hn => by rw [P.vf] at h; cases h; exact ⟨n', hn, Nat.le_add_right _ _⟩
  | .cons l n cv sp k' r, d, k, c, u, t, c', u', h, n', hn => by
    obtain ⟨key, c1, x, d', t1, c2, u1, t2, hres, hx, h1, h2, hl⟩ := vf_inv h
    obtain ⟨n2, e2, b2⟩ := vf_cnt r _ _ _ _ _ _ _ h2 n' hn
    obtain ⟨n1, e1, b1⟩ := vf_cnt sp _ _ _ _ _ _ _ h1 n2 e2
    rw [e1] at hres
    obtain ⟨m, e3, b3⟩ := res_cnt hres
    exact ⟨m, e3, by rw [P.nf]; omega⟩
theorem vf_used : ∀ (p : P) d k c u t c' u', p.vf d k c u = .ok t c' u' → u'.length ≤ u.length + p.nf
  | .nil, d, k, c, u, t, c', u', h => by rw [P.vf] at h; cases h; exact Nat.le_add_right _ _
  | .cons l n cv sp k' r, d, k, c, u, t, c', u', h => by
    obtain ⟨key, c1, x, d', t1, c2, u1, t2, hres, hx, h1, h2, hl⟩ := vf_inv h
    have a1 := vf_used sp _ _ _ _ _ _ _ h1
    have a2 := vf_used r _ _ _ _ _ _ _ h2
    rw [List.length_append, List.length_singleton] at a1
    rw [P.nf]; omega
noncomputable def vfD (p : P) (dd : Nat) (kk : List Nat) (c : Option Nat) (u : List Key) : R := match dd with
  | 0 => .err .V u
  | d + 1 => p.vf d kk c u
noncomputable def Rpre (acc : List Nat) (x : R) : R := x.bind fun t c u => .ok (acc ++ t) c u
theorem Rpre_ok (acc t c u) : Rpre acc (.ok t c u) = .ok (acc ++ t) c u := rfl
theorem Rpre_nil (x : R) : Rpre [] x = x := by cases x <;> rfl
theorem vf_step {l n cv : List Nat} {sp : P} {k' : List Nat} {r : P} {d : Nat} {kk : List Nat} {c : Option Nat} {u : List Key} {key : Key} {c1 : Option Nat} {x} (h1 : resolve n c = some (key, c1)) (h2 : look key = .ok x) (acc) :
    Rpre acc ((P.cons l n cv sp k' r).vf d kk c u) = (vfD sp d k' c1 (u ++ [key])).bind fun t c2 u2 => Rpre (acc ++ l ++ (40 :: (valL cv x ++ 58 :: (t ++ [41])))) (r.vf d kk c2 u2) := by
  rw [P.vf, h1]; dsimp only; rw [h2]; dsimp only
  cases d with
  | zero => rfl
  | succ d =>
    dsimp only [vfD, Rpre]
    rw [R.bind_bind]
    congr 1; funext t c2 u2
    rw [R.bind_bind]
    congr 1; funext t2 c3 u3
    simp [R.bind]
theorem vf_none {l n cv : List Nat} {sp : P} {k' : List Nat} {r : P} {d : Nat} {kk : List Nat} {c : Option Nat} {u : List Key} (h1 : resolve n c = none) (acc) : Rpre acc ((P.cons l n cv sp k' r).vf d kk c u) = .err .V u := by
  rw [P.vf, h1]; rfl
theorem vf_err {l n cv : List Nat} {sp : P} {k' : List Nat} {r : P} {d : Nat} {kk : List Nat} {c : Option Nat} {u : List Key} {key : Key} {c1 : Option Nat} {e} (h1 : resolve n c = some (key, c1)) (h2 : look key = .error e) (acc) :
    Rpre acc ((P.cons l n cv sp k' r).vf d kk c u) = .err e u := by
  rw [P.vf, h1]; dsimp only; rw [h2]; rfl
end Q5X
section Q6X
theorem vf_err_used : ∀ (p : P) d k c u e u', p.vf d k c u = .err e u' → u'.length ≤ u.length + p.nf
  | .nil, d, k, c, u, e, u', h => by rw [P.vf] at h; cases h
  | .cons l n cv sp k' r, d, k, c, u, e, u', h => by
    rw [P.vf] at h
    split at h
    · cases h; exact Nat.le_add_right _ _
    · rename_i key c1 hres
      split at h
      · cases h; exact Nat.le_add_right _ _
      · cases d with
        | zero => cases h; simp only [List.length_append, List.length_singleton, P.nf]; omega
        | succ d =>
          dsimp only at h
          cases h1 : sp.vf d k' c1 (u ++ [key]) with
          | err e u2 =>
            rw [h1, R.bind] at h
            cases h
            have b1 := vf_err_used sp _ _ _ _ _ _ h1
            rw [List.length_append, List.length_singleton] at b1
            simp only [P.nf]; omega
          | ok t1 c2 u1 =>
            rw [h1, R.bind] at h
            have b1 := vf_used sp _ _ _ _ _ _ _ h1
            rw [List.length_append, List.length_singleton] at b1
            cases h2 : r.vf (d + 1) k c2 u1 with
            | err e u2 =>
              rw [h2, R.bind] at h
              cases h
              have b2 := vf_err_used r _ _ _ _ _ _ h2
              simp only [P.nf]; omega
            | ok t2 c3 u2 => rw [h2, R.bind] at h; cases h
end Q6X
section FIX
section
variable {prog : Program} {w : World} {A : Around} {E : Value → Shared → Prop} {s : Shared} {h₀ : Heap} {L D : Addr} {m : Str → Option Value} {news : List (Addr × Obj)} {env : Env} {target : Expr} {body : List Stmt} {Q : Flow → Shared → Prop} {vs : List Value} {nn : Nat}
theorem for_listI (J : Addr → Nat → (Str → Option Value) → List (Addr × Obj) → Prop) (hh : A.handled = none)
    (F : Fr h₀ L s.heap m) (N : News h₀ L s.heap news) (hJ : ∀ I, (∀ p ∈ news, p.1 < I) → J I 0 m news) (hD : ∀ I i m news, J I i m news → (D, listOf vs.toArray nn) ∈ news)
    (hA : ∀ I i m news', J I i m news' → ∀ p ∈ news', p.1 ≠ I)
    (turn : ∀ i x m₁ news₁ I o h tk, vs[i]? = some x → J I i m₁ news₁ → (∀ p ∈ news, p.1 < I) → Fr h₀ L h m₁ → News h₀ L h ((I, o) :: news₁) →
      wpAny (model prog w) A (assign target env x) (fun _ s₂ => wpAny (model prog w) A (execs body env) (ForPost h₀ L s (J I (i + 1)) Q I o) E s₂) E { s with heap := h, toks := tk })
    (done : ∀ I m₁ news₁ h tk, J I vs.length m₁ news₁ → (∀ p ∈ news, p.1 < I) → Fr h₀ L h m₁ → News h₀ L h news₁ → Q .next { s with heap := h, toks := tk })
    (hE : PassesOwn (model prog w) A env E) (ht : ∀ I i v s (Q : Unit → Shared → Prop) (E : Value → Shared → Prop), v ∈ vs → s.heap.IsListIter I D i → Q () s → wpAny (model prog w) A (letOwnedTupleGo target (.ref I) v) Q E s) :
    wpAny (model prog w) A (pyIter (.ref D)) (fun it s₂ => codeAny (model prog w) A (.forLoop target it body [] env) (fun r s' => match r with | .ok f => Q f s' | .error e => cameBackBy (model prog w) A env E e s') s₂) E s := by
  have hl : s.heap.IsList D vs.toArray := News.isList N (hD s.heap.objs.size 0 m news (hJ _ fun p hp => Heap.lt_size (N p hp).1))
  refine wpAny_pyIter_list hl ?_
  have hlt : ∀ p ∈ news, p.1 < s.heap.objs.size := fun p hp => Heap.lt_size (N p hp).1
  have hL : s.heap.objs.size ≠ L := fun e => absurd F.ns.lt (e ▸ Nat.lt_irrefl _)
  have hnew : h₀.get? s.heap.objs.size = none := next_is_new F
  generalize hI : s.heap.objs.size = I at hlt hL hnew
  refine codeAny_forLoop_any (fun n s' => ∃ i h tk m₁ news₁ o, n + i = vs.length ∧ s' = { s with heap := h, toks := tk } ∧ Fr h₀ L h m₁ ∧ News h₀ L h ((I, o) :: news₁) ∧ IsIt o D i ∧ J I i m₁ news₁) ?_ vs.length ?_
  · rintro n s' ⟨i, h, tk, m₁, news₁, o, hn, rfl, F₁, N₁, ho, J₁⟩
    have ho1 : h.get? I = some o := (N₁ _ (List.mem_cons_self ..)).1
    have hit : h.IsListIter I D i := ⟨o, ho1, ho.1, ho.2⟩
    have hl₁ : h.IsList D vs.toArray := News.isList N₁ (List.mem_cons_of_mem _ (hD I i m₁ news₁ J₁))
    have hoff := hA I i m₁ news₁ J₁
    cases n with
    | zero =>
      have e : i = vs.length := by omega
      subst e
      refine wpAny_pyNext_list_end hh hit hl₁ (by simp) fun h' hx => ?_
      refine wpAny_execs_nil (done I m₁ news₁ h' tk J₁ hlt ?_ ?_)
      · obtain ⟨oL, a1, a2, hLg, a3⟩ := F₁.ns
        exact ⟨⟨oL, a1, a2, hx _ _ (Ne.symm hL) hLg, a3⟩, fun b ob e => hx b ob (fun eb => by rw [eb, hnew] at e; cases e) (F₁.keep b ob e), F₁.above⟩
      · intro p hp
        have := N₁ p (List.mem_cons_of_mem _ hp)
        exact ⟨hx _ _ (hoff p hp) this.1, this.2⟩
    | succ n =>
      have hi : i < vs.length := by omega
      have hx : vs[i]? = some vs[i] := List.getElem?_eq_getElem hi
      refine wpAny_pyNext_list_item hit hl₁ (x := vs[i]) (by simp [hi]) fun h' hit' hs => ?_
      have hit2 := hit'
      obtain ⟨o', ho', hc', hd'⟩ := hit'
      have F' : Fr h₀ L h' m₁ := by
        obtain ⟨oL, a1, a2, hLg, a3⟩ := F₁.ns
        exact ⟨⟨oL, a1, a2, (hs.2 _ (Ne.symm hL)).trans hLg, a3⟩, fun b ob e => (hs.2 b (fun eb => by rw [eb, hnew] at e; cases e)).trans (F₁.keep b ob e), F₁.above⟩
      have N' : News h₀ L h' ((I, o') :: news₁) := by
        intro p hp
        rcases List.mem_cons.mp hp with rfl | hp
        · exact ⟨ho', hL, hnew⟩
        · have := N₁ p (List.mem_cons_of_mem _ hp)
          exact ⟨(hs.2 _ (hoff p hp)).trans this.1, this.2⟩
      refine ht I _ _ _ _ _ (List.getElem_mem hi) hit2 ?_
      refine wpAny_mono (turn i vs[i] m₁ news₁ I o' h' tk hx J₁ hlt F' N') (fun _ s₂ h₂ => wpAny_mono h₂ (fun f s₃ h₃ => ?_) hE) hE
      have fin : (∃ h' tk' m' news', s₃ = { s with heap := h', toks := tk' } ∧ Fr h₀ L h' m' ∧ News h₀ L h' ((I, o') :: news') ∧ J I (i + 1) m' news') →
          ∃ mm, mm < n + 1 ∧ ∃ i h tk m₁ news₁ o, mm + i = vs.length ∧ s₃ = { s with heap := h, toks := tk } ∧ Fr h₀ L h m₁ ∧ News h₀ L h ((I, o) :: news₁) ∧ IsIt o D i ∧ J I i m₁ news₁ := by
        rintro ⟨h2, tk2, m2, news2, e, F2, N2, J2⟩
        exact ⟨n, Nat.lt_succ_self _, i + 1, h2, tk2, m2, news2, o', by omega, e, F2, N2, ⟨hc', hd'⟩, J2⟩
      cases f with
      | ret v => exact h₃
      | brk => exact h₃
      | next => exact fin h₃
      | cont => exact fin h₃
  · refine ⟨0, _, s.toks, m, news, { cls := .type "list_iterator", data := .fields #[.ref D, .int 0 0] }, by omega, rfl, F.push _, ?_, ⟨rfl, rfl⟩, hJ I hlt⟩
    have := N.push F { cls := .type "list_iterator", data := .fields #[.ref D, .int 0 0] }
    rw [hI] at this
    exact this
theorem go_name {x : Str} {p : Pos} {it v : Value} {Q : Unit → Shared → Prop} (h : Q () s) : wpAny (model prog w) A (letOwnedTupleGo (.Name x p) it v) Q E s := wpAny_pure h
theorem go_tup {elts : List Expr} {x1} {pos : Pos} {I l : Addr} {v : Value} {i : Nat} {Q : Unit → Shared → Prop} (hv : ∃ T, v = .ref T) (hit : s.heap.IsListIter I l i) (hQ : Q () s) :
    wpAny (model prog w) A (letOwnedTupleGo (.Tuple elts x1 pos) (.ref I) v) Q E s := by
  obtain ⟨T, rfl⟩ := hv
  exact wpAny_letOwnedTupleGo_listiter hit hQ
end
end FIX
section KMX
section
variable {prog : Program} {w : World} {A : Around} {E : Value → Shared → Prop} {s : Shared} {K : Frag} {x C dx L : Addr} {h₀ : Heap} {m : Str → Option Value} {ox od : Obj} {es : List DictEntry} {n : Nat} {name : Str} {v a g : Value}
theorem findObj_fn (hh : hasDictIn K C = true) (ha : findIn K (.ref C) name = some (some a)) (hg : specialIn K a "__get__" = some (some g)) (ht : takesIn K a = some false) (hl : lookIn name od = some (some v)) :
    findObj K C (some od) name = some (.value v) := by
  obtain ⟨cd, hc, hd⟩ := any_some hh
  unfold findObj
  rw [hc, Option.bind_some, ha, Option.bind_some]
  have ho : PySem.W.ownOf cd (some od) name = some (some v) := by unfold PySem.W.ownOf; rw [if_pos hd]; exact hl
  simp [hg, ht, ho]
theorem method_shadow {pl : Sem Bool} {Q : Value × List Value → Shared → Prop} {f : Addr} (F : Fr h₀ L s.heap m) (X₀ : K.In h₀) (I : InstAt s.heap x ox C (some (dictOf es n))) (hg : plainGet K C name = true)
    (hf : findIn K (.ref C) name = some (some (.ref f))) (ht : isFn K (.ref f) = true) (hh : hasDictIn K C = true) (hsp : specialIn K (.ref f) "__get__" = some (some g)) (htk : takesIn K (.ref f) = some false)
    (hl : getL name es = some (some v)) (hv : handedIn v = true) (h : Q (v, []) { s with toks := s.toks + 1 }) : wpAny (model prog w) A (getMethod (.ref x) name pl) Q E s := by
  have X := X₀.keeps F.keep
  have hcan := PySem.F.canon_object_ga
  have u : wpAny (model prog w) A (do return (← getAttr (.ref x) name, ([] : List Value))) Q E s :=
    wpAny_bind (get_value X I (plainGet_of hg).1 (findObj_fn hh hf hsp htk hl) hv (wpAny_pure h))
  unfold getMethod specialOf
  refine wpAny_bind (wpAny_bind (I.type.here ((looks_findIn X (plainGet_of hg).1).here ?_)))
  dsimp only
  rw [hcan, if_neg (by decide)]
  refine wpAny_bind (wpAny_bind (I.type.here ((looks_findIn X (plainGet_of hg).2).here ?_)))
  refine wpAny_bind (wpAny_bind (I.type.here ((looks_findIn X hf).here (wpAny_bind ((looks_typeIn X (beq_iff_eq.mp ht)).here ?_)))))
  rw [if_neg (by decide +kernel)]
  refine wpAny_bind (wpAny_loadPart I.at_ ?_)
  have hd := I.dict
  cases e : ox.dict with
  | none => rw [e] at hd; cases hd
  | some dx =>
    rw [e] at hd
    have hs : shadowIn (some (dictOf es n)) name = some true := by
      show (lookIn name (dictOf es n)).map _ = _; rw [lookIn_dict, hl]; rfl
    obtain ⟨r, a, b⟩ := Option.map_eq_some_iff.mp hs
    refine wpAny_bind (wpAny_bind (wpAny_loadPart hd ?_))
    rw [nsLook_of a]
    refine wpAny_pure ?_
    rw [b]
    exact u
end
end KMX
section SNX
theorem entry_set_ne : entryFor table "set.__ne__" = some Builtin.«frozenset.__ne__» :=
  entryFor_alias (id' := "frozenset.__ne__") (by kernel_rfl) rfl (by decide +kernel) (by kernel_rfl)
theorem sub_set_set : isSubtype (.type "set") (.type "set") = pure true := by rw [isSubtype_type]; kernel_rfl
theorem sub_set_frozen : isSubtype (.type "set") (.type "frozenset") = pure false := by rw [isSubtype_type]; kernel_rfl
section
variable {prog : Program} {w : World} {K : Type} [DecidableEq K] {knd : KeyKind prog w K} {A : Around} {E : Value → Shared → Prop} {s : Shared} {a b : Addr} {S : K → Bool} {n : Nat}
theorem set_ne {Q : Value → Shared → Prop} (ha : s.heap.SetOf knd a S n) (hb : s.heap.SetOf knd b S n) (hu : A.units < cLine) (h : Q (.bool false) s) : wpAny (model prog w) A (compareOp .NotEq (.ref a) (.ref b)) Q E s := by
  show wpAny _ _ (richCompare .NotEq (.ref a) (.ref b)) Q E s
  have hA := ha
  have hB := hb
  refine gx0 fun G kG => ?_
  obtain ⟨oa, es, ep, t, ho, hex, hd, hel, hmem, hbd, hf, hn⟩ := ha
  obtain ⟨ob, es', ep', t', ho', hex', hd', hel', hmem', hbd', hf', hn'⟩ := hb
  refine kG ?_
  clear kG
  refine wpAny_richCompare_same_room hA.typeIs hB.typeIs PySem.F.slot_set_ne (wpAny_call_entry PySem.F.slot_set_ne hA.typeIs entry_set_ne ?_ (PySem.F.args_set_ne_2 _ _)) hu
  refine wpAny_bind (wpAny_of_eq (a := (Value.ref a, Value.ref b)) (by rfl) ?_)
  dsimp only
  have hn2 : (es.size != es'.size) = false := by rw [hn, hn']; simp
  refine wpAny_bind (wpAny_bind (m := isInstance (Value.ref b) (Value.type "set")) (wpAny_isInstance hB.typeIs sub_set_set ?_))
  refine wpAny_pure ?_
  simp only [Bool.not_true, Bool.false_eq_true, if_false]
  refine wpAny_bind (wpAny_pure ?_)
  refine wpAny_bind (wpAny_pure ?_)
  refine wpAny_bind (wpAny_bind (wpAny_bind (wpAny_setState_of ho hd hf (wpAny_pure (wpAny_pure ?_)))))
  refine wpAny_bind (wpAny_bind (wpAny_bind (wpAny_setState_of ho' hd' hf' (wpAny_pure (wpAny_pure ?_)))))
  dsimp only
  rw [hn2]
  simp only [Bool.false_eq_true, if_false]
  refine wpAny_bind ?_
  refine wpAny_bind (wpAny_bind (m := isInstance (Value.ref a) (Value.type "frozenset")) (wpAny_isInstance hA.typeIs sub_set_frozen ?_))
  refine wpAny_pure ?_
  simp only [Bool.false_eq_true, if_false]
  unfold Builtin.Frozenset.subsetOf
  refine wpAny_bind (wpAny_bind (wpAny_bind (wpAny_setState_of ho hd hf (wpAny_pure (wpAny_pure ?_)))))
  refine wpAny_bind (wpAny_bind (wpAny_bind (wpAny_setState_of ho' hd' hf' (wpAny_pure (wpAny_pure ?_)))))
  dsimp only
  rw [if_neg (by rw [hn, hn']; exact Nat.lt_irrefl _)]
  refine wpAny_bind (wpAny_setEpoch_of ho hd hf ?_)
  refine wpAny_bind (wpAny_mono (Q := fun r s' => r = es.toList ∧ s' = s) ?_ ?_ (fun _ _ h => h))
  · unfold Builtin.Frozenset.walkUnseen
    refine wpAny_bind (wpAny_bind (wpAny_setState_of ho hd hf (wpAny_pure ?_)))
    refine wpAny_bind (wpAny_bind (wpAny_setState_of ho' hd' hf' (wpAny_pure ?_)))
    dsimp only
    refine wpAny_bind (wpAny_forIn_list _ (fun rest c s' => c.1 = none ∧ s' = s ∧ ∀ e ∈ rest, e.2.scannable = true) _ ?_ ?_ _ _ ⟨rfl, rfl, ?_⟩)
    · rintro ⟨hh, x⟩ rest c s' ⟨hc, rfl, hs⟩
      have hx := hs _ (List.mem_cons_self ..)
      dsimp only at hx
      refine wpAny_bind (wpAny_mono (Q := fun r s2 => r = true ∧ s2 = s') ?_ ?_ (fun _ _ h => h))
      · unfold Builtin.Frozenset.quietEq
        cases x <;> first | exact wpAny_pure ⟨rfl, rfl⟩ | exact absurd hx (by simp [Value.scannable])
      · rintro r s2 ⟨rfl, rfl⟩
        simp only [Bool.not_true, Bool.false_eq_true, if_false]
        exact wpAny_pure ⟨rfl, rfl, fun e he => hs e (List.mem_cons_of_mem _ he)⟩
    · rintro ⟨c1, c2⟩ s' ⟨hc, rfl, _⟩
      simp only at hc
      subst hc
      exact wpAny_pure ⟨rfl, rfl⟩
    · intro e he
      rcases List.mem_append.mp he with he | he
      · exact (hel e he).2
      · exact (hel' e he).2
  · rintro r s' ⟨rfl, rfl⟩
    refine wpAny_bind (wpAny_forIn_list _ (fun rest c s2 => c.1 = none ∧ s2 = s' ∧ ∀ e ∈ rest, e ∈ es.toList) _ ?_ ?_ _ _ ⟨rfl, rfl, fun _ h => h⟩)
    · rintro ⟨hh, x⟩ rest c s2 ⟨hc, rfl, hs⟩
      have he := hs _ (List.mem_cons_self ..)
      obtain ⟨⟨k, hk, hkh⟩, hsc⟩ := hel _ he
      dsimp only at hk hkh hsc
      subst hkh
      have hS : S k = true := (hmem k).mpr ⟨_, he, hk⟩
      refine wpAny_bind (wpAny_holding (wpAny_setFind_of hk hsc hB fun r hr => ?_))
      rw [hS] at hr
      have hrn : r.isNone = false := by cases r <;> simp at hr ⊢
      rw [hrn]
      simp only [Bool.false_eq_true, if_false]
      unfold Builtin.Frozenset.unchanged
      refine wpAny_bind (wpAny_bind (wpAny_setEpoch_of ho hd hf ?_))
      simp only [bne_self_eq_false, Bool.false_eq_true, if_false]
      exact wpAny_pure (wpAny_pure ⟨rfl, rfl, fun e he => hs e (List.mem_cons_of_mem _ he)⟩)
    · rintro ⟨c1, c2⟩ s2 ⟨hc, rfl, _⟩
      simp only at hc
      subst hc
      exact wpAny_pure (wpAny_pure ⟨_, rfl, by simp, h⟩)
end
end SNX
section TEX
section
variable {prog : Program} {w : World} {A₀ : Around} {E : Value → Shared → Prop} {s' : Shared} {base g g₀ G : Heap} {outer : List Env} {L a e : Addr} {m : Str → Option Value} {name : Str} {scope : Scope} {cd : Value}
  {b₀ : Stmt} {suite : List Stmt} {pos np : Pos} {hs rest : List ExceptHandler} {Q : Flow → Shared → Prop} {news : List (Addr × Obj)} {KF : Frag}
  {p : Program} {loose : List Str} {mean : ExcName → Option Value} {mg mb : Str → Option Value} {x : Str} {X T' : String}
theorem hb_skip {A : Around} {s : Shared} {h₀ : Heap} (F : Fr h₀ L s.heap m) (XX : KF.In h₀) (P : TopRead p loose mg mb h₀) (ht : s.TypeIs (.ref e) X)
    (ex : nsIn KF mainGlobals x = some none) (hv : bootBuiltins x = some (.type T')) (hn' : x ≠ "__name__")
    (hexc : isSubtype (.type T') (.type "BaseException") = pure true) (hnt : isSubtype (.type ((Manifest.find? T').elim "type" fun y => y.metatype)) (.type "tuple") = pure false) (hsub : isSubtype (.type X) (.type T') = pure false)
    (k : wpAny (model prog w) A (handleBy (.ref e) (envOf name scope L a cd) rest) Q E s)
    (hk : scope.kind = .function) (hx : (envOf name scope L a cd).kindOf x = some .globalImplicit) (hd : (x == ("__debug__" : Str)) = false) :
    wpAny (model prog w) A (handleBy (.ref e) (envOf name scope L a cd) (.ExceptHandler (some (.Name x np)) none (b₀ :: suite) pos :: rest)) Q E s :=
  wpAny_handleBy_builtin (X := X) (T := T') (b := false) hexc hnt hsub (name_B F XX P ex hv hn' ⟨rfl, ht, k⟩ hk hx hd)
theorem caught_pass (R : RaisedSN base G (envOf name scope L a cd :: outer) e (.type X) news s'.heap) (F : Fr g L G m) (K : Below A₀ base outer g) (hsm : G.UpToSlots s'.heap) (XB : KF.In base) (TB : Top p loose mean mg mb base)
    (D : KtsDicts (outer.filterMap (·.frame)) g) (T0 : KtsTurn (outer.filterMap (·.frame)) g₀ g)
    (pass : ∀ (s : Shared) (g₅ : Heap), Fr g₅ L s.heap m → KF.In g₅ → TopRead p loose mg mb g₅ → s.TypeIs (.ref e) X →
      wpAny (model prog w) (A₀.deeper (envOf name scope L a cd)) (handleBy (.ref e) (envOf name scope L a cd) (.ExceptHandler (some (.Name x np)) none (b₀ :: suite) pos :: rest)) Q E s →
      wpAny (model prog w) (A₀.deeper (envOf name scope L a cd)) (handleBy (.ref e) (envOf name scope L a cd) hs) Q E s)
    (ex : nsIn KF mainGlobals x = some none) (hv : bootBuiltins x = some (.type T')) (hn' : x ≠ "__name__")
    (hexc : isSubtype (.type T') (.type "BaseException") = pure true) (hnt : isSubtype (.type ((Manifest.find? T').elim "type" fun y => y.metatype)) (.type "tuple") = pure false) (hsub : isSubtype (.type X) (.type T') = pure true)
    (k : ∀ h' g', KtsTurn (outer.filterMap (·.frame)) g₀ g' → Fr g' L h' m → News g' L h' news → Below A₀ base outer g' → KF.In g' → Top p loose mean mg mb g' → KtsDicts (outer.filterMap (·.frame)) g' →
      wpAny (model prog w) ((A₀.deeper (envOf name scope L a cd)).mark (some (.ref e))) (execs (b₀ :: suite) (envOf name scope L a cd)) Q E { s' with heap := h' })
    (hk : scope.kind = .function) (hx : (envOf name scope L a cd).kindOf x = some .globalImplicit) (hd : (x == ("__debug__" : Str)) = false)
    (hE : PassesOwnAt (model prog w) ((A₀.deeper (envOf name scope L a cd)).mark (some (.ref e))) (A₀.deeper (envOf name scope L a cd)) (envOf name scope L a cd) E) :
    wpAny (model prog w) (A₀.deeper (envOf name scope L a cd)) (noteFrame (.ref e) (envOf name scope L a cd))
      (fun _ s₂ => wpAny (model prog w) (A₀.deeper (envOf name scope L a cd)) (setFlight (.ref e) none) (fun _ s₃ =>
        wpAny (model prog w) (A₀.deeper (envOf name scope L a cd)) (handleBy (.ref e) (envOf name scope L a cd) hs) Q E s₃) E s₂) E s' := by
  obtain ⟨B, a0, hB, hBG, hl, hfl⟩ := R
  have hL : B.get? L = none := by
    obtain ⟨-, ⟨L1, -, hf1, hn1, -⟩, -⟩ := hfl.2.2.1
    cases hf1
    exact hn1
  refine wpAny_looks_onW (Around.frames_deeper K.stack) rfl hfl fun h1 y1 y2 => wpAny_landsW y1 fun h2 z1 z2 => ?_
  obtain ⟨g2, T2, F2, K2⟩ := kts_ground K F hBG z1.1 (hsm.trans (y2.trans z2))
  obtain ⟨ob, hob, hoc⟩ := z1.there
  have P2 : TopRead p loose mg mb g2 := topRead_of (TB.keeps K2.stays)
  have X2 : KF.In g2 := XB.keeps K2.stays
  have ty : ({ s' with heap := h2 } : Shared).TypeIs (.ref e) X := ⟨ob, hob, hoc⟩
  refine pass _ g2 F2 X2 P2 ty (wpAny_handleBy_builtin (X := X) (T := T') (b := true) hexc hnt hsub (name_B F2 X2 P2 ex hv hn' ⟨rfl, ty, lands_againW z1 fun h3 w1 w2 => ?_⟩ hk hx hd))
  obtain ⟨g3, T3, F3, K3⟩ := kts_ground K F hBG w1.1 ((hsm.trans (y2.trans z2)).trans w2)
  refine wpAny_passesOwnAt hE (k h3 g3 (T0.trans T3) F3 (fun q hq => ⟨w1.1 _ _ (hl q hq).1, fun z => ?_, T3.none_ _ (kts_none F.keep (hl q hq).2.1)⟩) K3 (XB.keeps K3.stays) (TB.keeps K3.stays) (D.turn T3))
  have := (hl q hq).1
  rw [z, hL] at this
  cases this
end
section
variable {prog : Program} {w : World} {A₀ A : Around} {s : Shared} {base h₀ : Heap} {L : Addr} {m : Str → Option Value} {env : Env} {news : List (Addr × Obj)} {K : Frag} {p : Program} {loose : List Str} {mean : ExcName → Option Value} {mg mb : Str → Option Value}
    {R : Result → Shared → Prop} {name qual : Str} {params : Arguments} {body : List Stmt} {scope : Scope} {dV kV doc pm cdv ct oc : Value} {an od : Option Addr} {osl : Array (Option Value)} {f : Addr} {args : PySem.Args} {binds : List (Str × Value)}
theorem one_frame {b : Addr} (hf : env.frame = some L) (hb : b ∈ [env].filterMap (·.frame)) : b = L := by
  simp [hf] at hb; exact hb
theorem code_defSX (B : Below A₀ base [] h₀) (F : Fr h₀ L s.heap m) (X₀ : K.In h₀) (N : News h₀ L s.heap news) (T : Top p loose mean mg mb h₀) (hA : A.frames = some [env]) (hf : env.frame = some L) (hke : env.scope.kind = .function)
    (ho : K.lookup f = some ⟨oc, od, .func (fnOf name qual params body scope dV kV doc pm an cdv ct), osl⟩) (hcd : codeIn K cdv qual = true) (hroom : A.depth < recursionLimit)
    (hbind : BindsTo s (fnOf name qual params body scope dV kV doc pm an cdv ct) args binds) (hloc : ∀ y ∈ binds, scope.names.lookup y.1 = some .local)
    (h : ∀ g L' h₁, Fr h₀ L g m → Fr g L' h₁ (fun y => binds.reverse.lookup y) → News g L' h₁ news → Below A base [env] g → K.In g → Top p loose mean mg mb g → KtsDicts ([env].filterMap (·.frame)) g →
      wpAny (model prog w) (A.deeper (envOf qual scope L' f cdv)) (execs body (envOf qual scope L' f cdv))
        (fun fl s' => LeaveS0 ([env].filterMap (·.frame)) h₀ L m g R (match fl with | .ret v => v | _ => .none) s')
        (fun e s' => wpAny (model prog w) (A.deeper (envOf qual scope L' f cdv)) (leaving (envOf qual scope L' f cdv) e) (fun _ s'' => R (.error e) s'') (fun e' s'' => R (.error e') s'') s')
        { s with heap := h₁, toks := s.toks + binds.length })
    (hco : scope.isCoroutine = false) (hgen : scope.isGenerator = false) (hk : scope.kind = .function)
    (hcell : ∀ x ∈ scope.names, x.2 ≠ .cell) : codeAny (model prog w) A (.call (.ref f) args) R s := by
  have nm : ∀ b o, h₀.get? b = some o → b ∉ news.map (·.1) := fun b o q hm => by
    obtain ⟨y, hy, rfl⟩ := List.mem_map.mp hm
    have := (N y hy).2.2
    rw [q] at this
    cases this
  have nL : L ∉ news.map (·.1) := fun hm => by
    obtain ⟨y, hy, e⟩ := List.mem_map.mp hm
    exact (N y hy).2.1 e
  have st : h₀.StaysIn (hideAll s.heap (news.map (·.1))) := fun b o q => hideAll_get _ (F.keep b o q) (nm b o q)
  have n0 : h₀.get? L = none := kts_self F
  obtain ⟨oL, es, ep, hL, hLd, hLk, hLf⟩ := F.ns
  have hLg := hideAll_get (news.map (·.1)) hL nL
  have X := X₀.keeps F.keep
  have FG : Fr h₀ L (hideAll s.heap (news.map (·.1))) m := ⟨⟨oL, es, ep, hLg, hLd, hLk, hLf⟩, st, F.above⟩
  have hkm : env.scope.kind ≠ .module := by rw [hke]; decide
  have bn : base.get? L = none := by
    cases q : base.get? L with
    | none => rfl
    | some o => have := B.stays L o q; rw [n0] at this; cases this
  have BG : Below A base [env] (hideAll s.heap (news.map (·.1))) := ⟨hA, fun b o q => st b o (B.stays b o q), ⟨hkm, ⟨L, oL, hf, bn, hLg, fun vs q => by rw [hLd] at q; cases q⟩, trivial⟩⟩
  have DG : KtsDicts ([env].filterMap (·.frame)) (hideAll s.heap (news.map (·.1))) := fun b hb => by
    cases one_frame hf hb
    exact ⟨oL, es, ep, hLg, hLd⟩
  refine codeAny_call_def (fd := fnOf name qual params body scope dV kV doc pm an cdv ct) (body := body) (binds := binds) hroom (X _ _ ho) rfl (T.nolimit.keeps F.keep) (codeRec_of X hcd) rfl hbind hcell hloc (fun h₁ hns hk₁ => ?_) hco hgen hk
  refine wpAny_mono (h _ s.heap.objs.size h₁ FG ⟨hns, fun b o q => hk₁ b o (of_hideAll _ q), Nat.le_of_eq (hideAll_size _ _)⟩
    (fun y hy => ⟨hk₁ _ _ (N y hy).1, Nat.ne_of_lt (Heap.lt_size (N y hy).1), hideAll_none _ (List.mem_map_of_mem hy)⟩) BG (X₀.keeps st) (T.keeps st) DG) (fun fl s2 hl => ?_) fun _ _ y => y
  obtain ⟨g2, L2, m2, news2, T2, F2, N2, k⟩ := hl
  obtain ⟨sl, hsl⟩ := T2.up hLg
  refine k ⟨⟨_, es, ep, F2.keep _ _ hsl, hLd, hLk, hLf⟩, fun b o q => F2.keep b o (T2.other b o (st b o q) fun hb => ?_), F.above⟩ fun y hy => ⟨(N2 y hy).1, fun q => ?_, ?_⟩
  · cases one_frame hf hb
    rw [n0] at q
    cases q
  · have := (N2 y hy).2.2
    rw [q, hsl] at this
    cases this
  · cases q : h₀.get? y.1 with
    | none => rfl
    | some o =>
      obtain ⟨sl2, hs2⟩ := T2.up (st _ _ q)
      have := (N2 y hy).2.2
      rw [hs2] at this
      cases this
end
end TEX
section E4X
section
variable {prog : Program} {w : World} {A : Around} {E : Value → Shared → Prop} {s : Shared}
theorem tuple_contains_strs_int {t : Addr} {items : Array Value} {ys : List Str} {x : Int} {u : Tok} {P : PySem.Fin → Shared → Prop} (ht : IsTup s.heap t items) (hi : StrsAre items.toList ys)
    (h : P (.done (.ret (.bool false))) s) : wpAny (model prog w) A (Builtin.«tuple.__contains__» ⟨[.ref t, .int x u], []⟩) P E s := by
  show wpAny _ _ (Builtin.Tuple.tupleItemsOf (.ref t) >>= _) _ _ s
  refine wpAny_bind (tupleItemsOf_ ht ?_)
  refine wpAny_bind (forIn_array_ _ (fun rest b s' => b.1 = none ∧ s' = s ∧ ∃ ms, StrsAre rest ms) _ ?_ ?_ items _ ⟨rfl, rfl, ys, hi⟩)
  · rintro y rest b s' ⟨hb, rfl, ms, hm⟩
    cases hm with
    | cons n tk hm' =>
      refine wpAny_bind ?_
      first
        | refine PySem.SeqAt.EqAt.str_int (A := _) (s := _) n tk x u prog w _ _ ?_
        | refine PySem.SeqAt.EqAt.int_str (A := _) (s := _) x u n tk prog w _ _ ?_
      exact wpAny_pure ⟨rfl, rfl, _, hm'⟩
  · rintro ⟨b1, b2⟩ s' ⟨hb, rfl, ms, hm⟩
    cases hm
    simp only at hb
    subst hb
    exact wpAny_pure h
theorem in_tuple_strs_int {t : Addr} {items : Array Value} {ys : List Str} {x : Int} {u : Tok} {Q : Value → Shared → Prop} (ht : IsTup s.heap t items) (hi : StrsAre items.toList ys)
    (h : Q (.bool false) s) : wpAny (model prog w) A (compareOp .In (.int x u) (.ref t)) Q E s := by
  show wpAny _ _ (do return .bool (← contains (.ref t) (.int x u))) Q E s
  refine wpAny_bind ?_
  unfold contains
  refine wpAny_holding ?_
  refine wpAny_bind (wpAny_specialOf ht.typeIs slot_tuple_contains.lookup ?_)
  rw [if_neg (by decide)]
  exact wpAny_bind (wpAny_callSpecialUnlessNone?_slot (name := Str.ofString "__contains__") ht.typeIs slot_tuple_contains
    (wpAny_call_entry slot_tuple_contains ht.typeIs entry_tuple_contains (tuple_contains_strs_int ht hi ⟨_, rfl, wpAny_truthy_bool (wpAny_pure h)⟩) (args_tuple_contains _ _)))
end
theorem sa_knz (a b c) : StrsAre [.str (Str.ofString "k") a, .str (Str.ofString "n") b, .str (Str.ofString "z") c] [Str.ofString "k", Str.ofString "n", Str.ofString "z"] := .cons _ _ (.cons _ _ (.cons _ _ .nil))
theorem sa_ra (a b) : StrsAre [.str (Str.ofString "r") a, .str (Str.ofString "a") b] [Str.ofString "r", Str.ofString "a"] := .cons _ _ (.cons _ _ .nil)


section
variable {prog : Program} {w : World} {K : Type} [DecidableEq K] {knd : KeyKind prog w K} {A : Around} {E : Value → Shared → Prop} {s : Shared} {h₀ : Heap} {L d : Addr} {news : List (Addr × Obj)} {o : Obj} {kvs : List (K × Value)} {k : K} {key : Value}
theorem notin_dict {Q : Value → Shared → Prop} (N : News h₀ L s.heap news) (hp : (d, o) ∈ news) (hd : o.IsDictOf knd kvs) (lo : (d == sysModules) = false) (hkey : knd.is k key = true) (b : Bool) (hb : (valueAt kvs k).isSome = b) (h : Q (.bool (!b)) { s with toks := s.toks + 1 }) :
    wpAny (model prog w) A (compareOp .NotIn key (.ref d)) Q E s := wpAny_notIn_of hkey lo (kda_dict N hp hd).mapOf (by rw [hb]; exact h)
end


theorem len_six {prog : Program} {w : World} {A : Around} {E : Value → Shared → Prop} {s : Shared} {h₀ : Heap} {L l : Addr} {news : List (Addr × Obj)} {vs : List Value} {n : Nat} {Q : Value → Shared → Prop} (N : News h₀ L s.heap news) (hp : (l, PySem.W.listOf vs.toArray n) ∈ news) (h6 : vs.length = 6)
    (h : Q (.int 6 (s.toks + 1)) { s with toks := s.toks + 1 + 1 }) : wpAny (model prog w) A (call (.builtin "len") [.ref l]) Q E s := by
  refine len_list (News.isList N hp) (by simp [h6]) ?_
  have e : (vs.toArray.size : Int) = 6 := by simp [h6]
  rw [e]; exact h
end E4X
section K1X
noncomputable def keyIs : Key → Value → Bool
  | .int n, .int m _ => m == (n : Int)
  | .str l, .str x _ => x == mk l
  | _, _ => false
theorem keyIs_shape {k : Key} {v : Value} (h : keyIs k v = true) : (∃ n t, k = .int n ∧ v = .int n t) ∨ (∃ l t, k = .str l ∧ v = .str (mk l) t) := by
  cases k with
  | int n => cases v <;> simp [keyIs] at h ⊢; exact h
  | str l => cases v <;> simp [keyIs] at h ⊢; exact h
section
variable (prog : Program) (w : World)
noncomputable def keyHash : Key → Int
  | .int n => hashInt n
  | .str l => hashStr w (mk l)
noncomputable def keyKind : KeyKind prog w Key where
  is := keyIs
  hash := keyHash w
  inj := fun v a b ha hb => by
    rcases keyIs_shape ha with ⟨n, t, rfl, rfl⟩ | ⟨l, t, rfl, rfl⟩
    · rcases keyIs_shape hb with ⟨m, u, rfl, e⟩ | ⟨l, u, rfl, e⟩
      · injection e with e; rw [Int.ofNat.inj e]
      · cases e
    · rcases keyIs_shape hb with ⟨m, u, rfl, e⟩ | ⟨l', u, rfl, e⟩
      · cases e
      · injection e with e; rw [mk_inj.mp e]
  byValue := fun k v h => by
    rcases keyIs_shape h with ⟨n, t, rfl, rfl⟩ | ⟨l, t, rfl, rfl⟩ <;> rfl
  pyHash := fun hv h => by
    rcases keyIs_shape hv with ⟨n, t, rfl, rfl⟩ | ⟨l, t, rfl, rfl⟩
    · exact wpAny_pyHash_int h
    · exact wpAny_pyHash_str h
  eqBool := fun {A E s a b u v Q} hu hv h => by
    rcases keyIs_shape hu with ⟨n, t, rfl, rfl⟩ | ⟨l, t, rfl, rfl⟩
    · rcases keyIs_shape hv with ⟨m, u, rfl, rfl⟩ | ⟨l, u, rfl, rfl⟩
      · refine wpAny_eqBool_int ?_
        have e : ((n : Int) == (m : Int)) = decide (Key.int n = Key.int m) := by
          by_cases hh : n = m
          · subst hh; simp
          · have : (n : Int) ≠ m := by omega
            simp [hh, this]
        rw [e]; exact h
      · refine PySem.SeqAt.EqAt.int_str (A := A) (s := s) n t (mk l) u prog w E Q ?_
        have e : decide (Key.int n = Key.str l) = false := by simp
        rw [e] at h; exact h
    · rcases keyIs_shape hv with ⟨m, u, rfl, rfl⟩ | ⟨l', u, rfl, rfl⟩
      · refine PySem.SeqAt.EqAt.str_int (A := A) (s := s) (mk l) t m u prog w E Q ?_
        have e : decide (Key.str l = Key.int m) = false := by simp
        rw [e] at h; exact h
      · refine wpAny_eqBool_str ?_
        have e : decide (mk l = mk l') = decide (Key.str l = Key.str l') := by simp [mk_inj]
        rw [e]; exact h
  «strs» := fun k x t v h => by
    rcases keyIs_shape h with ⟨n, u, rfl, e⟩ | ⟨l, u, rfl, e⟩
    · cases e
    · injection e with e
      subst e
      cases v <;> rfl
end
theorem keyIs_int (prog w) (n : Nat) (t : Tok) : (keyKind prog w).is (.int n) (.int n t) = true := by simp [keyKind, keyIs]
theorem keyIs_str (prog w) (l : List Nat) (t : Tok) : (keyKind prog w).is (.str l) (.str (mk l) t) = true := by simp [keyKind, keyIs]
noncomputable def setR : List Key → Nat
  | [] => 0
  | k :: r => if k ∈ r then setR r else setR r + 1
noncomputable def setN (u : List Key) : Nat := setR u.reverse
theorem setR_le : ∀ l, setR l ≤ l.length
  | [] => Nat.le_refl _
  | k :: r => by have := setR_le r; simp only [setR, List.length_cons]; split <;> omega
theorem setN_le (u : List Key) : setN u ≤ u.length := by have := setR_le u.reverse; rwa [List.length_reverse] at this
theorem setN_snoc (u : List Key) (k : Key) : setN (u ++ [k]) = if k ∈ u then setN u else setN u + 1 := by
  unfold setN; rw [List.reverse_append]; simp [setR]
noncomputable def SetIs (prog : Program) (w : World) (o : Obj) (u : List Key) : Prop := o.SetObjOf (keyKind prog w) (fun k => decide (k ∈ u)) (setN u)
theorem setIs_new (prog w) (led : Bool) : SetIs prog w { cls := .type "set", dict := none, data := .set #[] 0 (.fresh 0 0 led) } [] := by
  have h := setObjOf_fresh (knd := keyKind prog w) led
  have e : (fun k : Key => decide (k ∈ ([] : List Key))) = fun _ => false := by funext k; simp
  unfold SetIs; rw [e]; exact h
section
variable {prog : Program} {w : World} {A : Around} {E : Value → Shared → Prop} {s : Shared} {h₀ : Heap} {L sa : Addr} {m : Str → Option Value} {news : List (Addr × Obj)} {g : Obj → List (Addr × Obj)} {so : Obj}
theorem set_add {u : List Key} {k : Key} {key : Value} {Q : Value → Shared → Prop} (F : Fr h₀ L s.heap m) (N : News h₀ L s.heap news) (U : UpdF sa so news g) (hso : SetIs prog w so u) (hb : u.length < 100) (hkey : (keyKind prog w).is k key = true)
    (h : ∀ h' so', Fr h₀ L h' m → News h₀ L h' (g so') → SetIs prog w so' (u ++ [k]) → Q .none { s with heap := h', toks := s.toks + 1 }) :
    wpAny (model prog w) A (call (.builtin "set.add") [.ref sa, key]) Q E s := by
  have hl := setN_le u
  have hs : scanBound = 4096 := rfl
  refine kse_add F N U hso (by omega) hkey (by rcases keyIs_shape hkey with ⟨n, t, rfl, rfl⟩ | ⟨l, t, rfl, rfl⟩ <;> rfl) fun h' so' F' N' x => h h' so' F' N' ?_
  have e1 : (fun k' : Key => decide (k' ∈ u) || decide (k' = k)) = fun k' => decide (k' ∈ u ++ [k]) := by funext k'; simp
  rw [e1] at x
  unfold SetIs
  rw [setN_snoc]
  have e2 : (if decide (k ∈ u) = true then setN u else setN u + 1) = if k ∈ u then setN u else setN u + 1 := by simp
  rw [e2] at x
  exact x
theorem set_method {u : List Key} {pl : Sem Bool} {Q : Value × List Value → Shared → Prop} (N : News h₀ L s.heap news) (U : UpdF sa so news g) (hso : SetIs prog w so u) (hb : u.length < 100) (h : Q (.builtin "set.add", [.ref sa]) s) :
    wpAny (model prog w) A (getMethod (.ref sa) "add" pl) Q E s := by
  have hl := setN_le u
  have hs : scanBound = 4096 := rfl
  exact kse_method N U hso (by omega) h
end
end K1X
section E1X
theorem strs_at : ∀ (vs : List Value) (ls : List (List Nat)) (k : Nat), StrsAre vs (ls.map mk) → k < ls.length → ∃ t, vs[k]? = some (.str (mk (ls.getD k [])) t)
  | _, [], k, _, h => absurd h (Nat.not_lt_zero _)
  | _, l :: ls, 0, .cons _ t r, _ => ⟨t, rfl⟩
  | _, l :: ls, k + 1, .cons _ t r, h => by
    obtain ⟨t', ht⟩ := strs_at _ ls k r (Nat.lt_of_succ_lt_succ h)
    exact ⟨t', by simpa using ht⟩
section
variable {prog : Program} {w : World} {A : Around} {E : Value → Shared → Prop} {s : Shared}
theorem item_strs {value slice : Expr} {a : Addr} {vs : List Value} {k : Int} {u : Tok} {Q : Value → Shared → Prop} (ls : List (List Nat)) (hl : s.heap.IsList a vs.toArray) (hs : StrsAre vs (ls.map mk))
    (h0 : 0 ≤ k) (h1 : k < ls.length) (hfit : k < 2 ^ 63) (h : ∀ t, Q (.str (mk (ls.getD k.toNat [])) t) s)
    (hs' : subscripted slice false (.ref a) (.int k u) = operate [.ref a, .int k u] (getItem (.ref a) (.int k u)) := by with_unfolding_all rfl) (hg : ∀ r, letTemporaryGo value (.ref a) r = pure () := by intro _; with_unfolding_all rfl) :
    wpAny (model prog w) A (subscriptTail value slice (.ref a) (.int k u)) Q E s := by
  obtain ⟨t, ht⟩ := strs_at vs ls k.toNat hs (by omega)
  exact item_listL hl h0 hfit ht (h t) hs' hg
end
theorem closed_is (k : Int) (l : Nat) : (if (if (l : Int) - 2 > (k.fdiv 32).fmod 3 then (l : Int) - 2 else (k.fdiv 32).fmod 3) < (l : Int) then (if (l : Int) - 2 > (k.fdiv 32).fmod 3 then (l : Int) - 2 else (k.fdiv 32).fmod 3) else (l : Int)) = (closedOf k l : Nat) := by
  rw [Int.fdiv_eq_ediv_of_nonneg _ (by decide), Int.fmod_eq_emod_of_nonneg _ (by decide)]
  unfold closedOf
  have h0 : 0 ≤ k / 32 % 3 := Int.emod_nonneg _ (by decide)
  generalize k / 32 % 3 = m at h0 ⊢
  obtain ⟨n, rfl⟩ := Int.eq_ofNat_of_zero_le h0
  rw [Int.toNat_natCast]
  split <;> split <;> omega
theorem lit_is (k : Int) : [[], [97], [34], [98, 32, 99]].getD ((k.fdiv 96).fmod 4).toNat [] = litOf k := by
  rw [Int.fdiv_eq_ediv_of_nonneg _ (by decide), Int.fmod_eq_emod_of_nonneg _ (by decide)]; rfl
theorem conv_is (k : Int) : [[], [114], [115], [97]].getD ((k.fdiv 8).fmod 4).toNat [] = convOf k := by
  rw [Int.fdiv_eq_ediv_of_nonneg _ (by decide), Int.fmod_eq_emod_of_nonneg _ (by decide)]; rfl
theorem dot_is (k : Int) : [[], [46]].getD ((k.fdiv 384).fmod 2).toNat [] = dotOf k := by
  rw [Int.fdiv_eq_ediv_of_nonneg _ (by decide), Int.fmod_eq_emod_of_nonneg _ (by decide)]; rfl
theorem name_is (names : List (List Nat)) (k : Int) : names.getD (k.fmod 8).toNat [] = nameOf names k := by
  rw [Int.fmod_eq_emod_of_nonneg _ (by decide)]; rfl
theorem fold_step {names : List (List Nat)} {xs : List Int} {i : Nat} {k : Int} {st} (h : (xs.take i).foldl (evStep names) ([], 0) = st) (hk : xs[i]? = some k) :
    (xs.take (i + 1)).foldl (evStep names) ([], 0) = evStep names st k := by
  rw [List.take_add_one, hk, List.foldl_append, h]; rfl
theorem ints_at : ∀ {vs : List Value} {xs : List Int} (_ : IntsAre vs xs) {i : Nat} {v : Value}, vs[i]? = some v → ∃ k t, v = .int k t ∧ xs[i]? = some k
  | _, _, .nil, i, v, h => by simp at h
  | _, _, .cons k t r, 0, v, h => by simp at h; exact ⟨k, t, h.symm, rfl⟩
  | _, _, .cons k t r, i + 1, v, h => by
    rw [List.getElem?_cons_succ] at h
    obtain ⟨k', t', a, b⟩ := ints_at r h
    exact ⟨k', t', a, by rw [List.getElem?_cons_succ]; exact b⟩
theorem ints_len : ∀ {vs : List Value} {xs : List Int} (_ : IntsAre vs xs), vs.length = xs.length
  | _, _, .nil => rfl
  | _, _, .cons k t r => by rw [List.length_cons, List.length_cons, ints_len r]
theorem led_turn {h₀ h : Heap} {L P2 D8 T I : Addr} {o2 o8 oT oI : Obj} {x1 x2 x3 x4 x5 x6 : Addr × Obj} {r : List (Addr × Obj)} (N : News h₀ L h ((P2, o2) :: x1 :: x2 :: (D8, o8) :: x3 :: x4 :: (T, oT) :: x5 :: (I, oI) :: x6 :: r)) :
    ∃ D o', D = P2 ∧ o' = o2 ∧ News h₀ L h ((I, oI) :: (D8, o8) :: (D, o') :: (T, oT) :: r) := by
  refine ⟨P2, o2, rfl, rfl, cb_drop N ?_⟩
  repeat (refine sub_cons (by k_mem) ?_)
  repeat (first | exact sub_refl _ | refine sub_tail _ ?_)
theorem led_done {h₀ h : Heap} {L D8 T E : Addr} {o8 oT oE : Obj} {x3 x4 : Addr × Obj} {r : List (Addr × Obj)} (N : News h₀ L h ((D8, o8) :: x3 :: x4 :: (T, oT) :: (E, oE) :: r)) :
    News h₀ L h ((D8, o8) :: (T, oT) :: r) := by
  refine cb_drop N ?_
  repeat (refine sub_cons (by k_mem) ?_)
  repeat (first | exact sub_refl _ | refine sub_tail _ ?_)
theorem datAll_len {nx : List (Addr × Obj)} : ∀ {vs : List Value} {ds : List Dat}, DatAll nx vs ds → vs.length = ds.length
  | _, _, .nil => rfl
  | _, _, .cons _ r => by rw [List.length_cons, List.length_cons, datAll_len r]
theorem datAll_rep {nx : List (Addr × Obj)} {v : Value} {d : Dat} (h : DatIn nx v d) : ∀ n, DatAll nx (List.replicate n v) (List.replicate n d)
  | 0 => .nil
  | n + 1 => by rw [List.replicate_succ, List.replicate_succ]; exact .cons h (datAll_rep h n)
theorem led3 {h₀ h : Heap} {L a b c : Addr} {o p q : Obj} {r : List (Addr × Obj)} (_ : News h₀ L h ((a, o) :: (b, p) :: (c, q) :: r)) : ∃ (D : Addr) (o' : Obj), D = c ∧ o' = q := ⟨c, q, rfl, rfl⟩
noncomputable def names1 : List (List Nat) := [[], [107], [], [110], [], [122], [48], [110]]
noncomputable def names2 : List (List Nat) := [[107], [49], [48], [110], [49], [122], [], [107]]
theorem sa_n1 (a b c d e f g h) : StrsAre [.str (Str.ofString "") a, .str (Str.ofString "k") b, .str (Str.ofString "") c, .str (Str.ofString "n") d, .str (Str.ofString "") e, .str (Str.ofString "z") f, .str (Str.ofString "0") g, .str (Str.ofString "n") h] (names1.map mk) := by
  with_unfolding_all exact .cons _ _ (.cons _ _ (.cons _ _ (.cons _ _ (.cons _ _ (.cons _ _ (.cons _ _ (.cons _ _ .nil)))))))
theorem sa_n2 (a b c d e f g h) : StrsAre [.str (Str.ofString "k") a, .str (Str.ofString "1") b, .str (Str.ofString "0") c, .str (Str.ofString "n") d, .str (Str.ofString "1") e, .str (Str.ofString "z") f, .str (Str.ofString "") g, .str (Str.ofString "k") h] (names2.map mk) := by
  with_unfolding_all exact .cons _ _ (.cons _ _ (.cons _ _ (.cons _ _ (.cons _ _ (.cons _ _ (.cons _ _ (.cons _ _ .nil)))))))
theorem sa_dot (t u) : StrsAre [.str (Str.ofString "") t, .str (Str.ofString ".") u] (List.map mk [[], [46]]) := by with_unfolding_all exact .cons _ _ (.cons _ _ .nil)
theorem sa_lit (t u v x) : StrsAre [.str (Str.ofString "") t, .str (Str.ofString "a") u, .str (Str.ofString "\"") v, .str (Str.ofString "b c") x] (List.map mk [[], [97], [34], [98, 32, 99]]) := by with_unfolding_all exact .cons _ _ (.cons _ _ (.cons _ _ (.cons _ _ .nil)))
theorem sa_conv (t u v x) : StrsAre [.str (Str.ofString "") t, .str (Str.ofString "r") u, .str (Str.ofString "s") v, .str (Str.ofString "a") x] (List.map mk [[], [114], [115], [97]]) := by with_unfolding_all exact .cons _ _ (.cons _ _ (.cons _ _ (.cons _ _ .nil)))
end E1X
section E2X
theorem join_sp (ls : List (List Nat)) : Txt.join (Str.ofString " ") (ls.map mk) = mk (joinL ls) := by
  show Builtin.Str.glued _ _ = _
  rw [StrLaws.glued_eq_join]
  induction ls with
  | nil => rfl
  | cons a r ih =>
    cases r with
    | nil => rfl
    | cons b r' =>
      show mk a ++ Str.ofString " " ++ Str.join (Str.ofString " ") ((b :: r').map mk) = _
      rw [ih, show Str.ofString " " = mk [32] from rfl, mk_append, mk_append]
      simp [joinL]
section
variable {prog : Program} {w : World} {A : Around} {E : Value → Shared → Prop} {s : Shared} {t : Tok} {Q : Value → Shared → Prop}
theorem sum_len_mk (ls : List (List Nat)) : ((ls.map mk).map (·.length)).sum + ls.length = wl ls := by
  induction ls with
  | nil => rfl
  | cons a r ih => simp only [wl, List.map_cons, List.sum_cons, List.length_cons, mk_len] at ih ⊢; omega
theorem join_strs {D : Addr} {ys : List Value} (ls : List (List Nat)) (hl : s.heap.IsList D ys.toArray) (hi : StrsAre ys (ls.map mk)) (hb : wl ls ≤ 1000000)
    (h : ∀ t' k, Q (.str (mk (joinL ls)) t') { s with toks := k }) : wpAny (model prog w) A (call (.builtin "str.join") [.str (Str.ofString " ") t, .ref D]) Q E s := by
  refine join_list hl hi ?_ ?_
  · have h1 := sum_len_mk ls
    have h2 : (Str.ofString " ").length = 1 := rfl
    rw [h2, List.length_map]; omega
  · intro t' k
    rw [join_sp]; exact h t' k
theorem item_last {value slice : Expr} {a : Addr} {vs : List Value} {x : Value} {u : Tok} (hl : s.heap.IsList a (vs ++ [x]).toArray) (h : Q x s)
    (hs' : subscripted slice false (.ref a) (.int (-1) u) = operate [.ref a, .int (-1) u] (getItem (.ref a) (.int (-1) u)) := by with_unfolding_all rfl) (hg : ∀ r, letTemporaryGo value (.ref a) r = pure () := by intro _; with_unfolding_all rfl) :
    wpAny (model prog w) A (subscriptTail value slice (.ref a) (.int (-1) u)) Q E s := by
  refine subscriptTail_builtin hl.typeIs PySem.F.slot_list_getitem.lookup (wpAny_getItem_list_neg hl (by decide) ?_ (by decide) ?_ h) hs' hg
  · simp; omega
  · rw [show (-1 + ((vs ++ [x]).toArray.size : Int)).toNat = vs.length by simp; omega]; simp
theorem pop_K {h₀ : Heap} {L D : Addr} {m : Str → Option Value} {news news' : List (Addr × Obj)} {n : Nat} {vs : List Value} {y : Value} (F : Fr h₀ L s.heap m) (N : News h₀ L s.heap news) (U : Upd D (PySem.W.listOf (vs ++ [y]).toArray n) (PySem.W.listOf vs.toArray (n + 1)) news news')
    (hz : vs.length + 1 ≤ sizeLine) (h : ∀ h', Fr h₀ L h' m → News h₀ L h' news' → Q y { s with heap := h' }) : wpAny (model prog w) A (call (.builtin "list.pop") [.ref D]) Q E s :=
  kl_pop F N (kpa_last _ _) U (by simpa using hz) h
end
theorem strs_snoc {vs : List Value} {ls : List (List Nat)} {l : List Nat} {t : Tok} (h : StrsAre vs (ls.map mk)) : StrsAre (vs ++ [.str (mk l) t]) ((ls ++ [l]).map mk) := by
  rw [List.map_append]
  generalize ls.map mk = ys at h
  induction h with
  | nil => exact .cons _ _ .nil
  | cons y t r ih => exact .cons _ _ ih
theorem led_cl {h₀ h : Heap} {L A1 A2 PA HA I : Addr} {o1 o2 oP oH oI : Obj} {x1 x2 : Addr × Obj} {r : List (Addr × Obj)} (N : News h₀ L h (x1 :: x2 :: (A1, o1) :: (A2, o2) :: (PA, oP) :: (HA, oH) :: (I, oI) :: r)) :
    News h₀ L h ((I, oI) :: (PA, oP) :: (HA, oH) :: (A2, o2) :: r) := by
  refine cb_drop N ?_
  repeat (refine sub_cons (by k_mem) ?_)
  repeat (first | exact sub_refl _ | refine sub_tail _ ?_)
theorem allLt_to {d : Addr} : ∀ {l : List (Addr × Obj)}, AllLt d l → ∀ q ∈ l, q.1 < d
  | [], _, q, h => nomatch h
  | p :: r, h, q, hq => by
    rcases List.mem_cons.mp hq with rfl | hq
    · exact h.1
    · exact allLt_to h.2 q hq
theorem led_pg {h₀ h : Heap} {L d HA PA A0 : Addr} {od oH oP o0 : Obj} {r : List (Addr × Obj)} (N : News h₀ L h ((d, od) :: (HA, oH) :: (PA, oP) :: (A0, o0) :: r)) :
    ∃ HA' PA' A0', HA' = HA ∧ PA' = PA ∧ A0' = A0 ∧ News h₀ L h ((PA', oP) :: (HA', oH) :: (A0', o0) :: r) := by
  refine ⟨HA, PA, A0, rfl, rfl, rfl, cb_drop N ?_⟩
  repeat (refine sub_cons (by k_mem) ?_)
  repeat (first | exact sub_refl _ | refine sub_tail _ ?_)
theorem led_op {h₀ h : Heap} {L D PA HA I : Addr} {o oP oH oI : Obj} {x1 : Addr × Obj} {r : List (Addr × Obj)} (N : News h₀ L h ((D, o) :: x1 :: (PA, oP) :: (HA, oH) :: (I, oI) :: r)) :
    ∃ D' o', D' = D ∧ o' = o ∧ News h₀ L h ((I, oI) :: (PA, oP) :: (HA, oH) :: (D', o') :: r) := by
  refine ⟨D, o, rfl, rfl, cb_drop N ?_⟩
  repeat (refine sub_cons (by k_mem) ?_)
  repeat (first | exact sub_refl _ | refine sub_tail _ ?_)
inductive StkAre : List (Addr × Obj) → List (List (List Nat)) → List Addr → Prop
  | nil : StkAre [] [] []
  | cons {a : Addr} {vs : List Value} {nn : Nat} {ls : List (List Nat)} {r st as} : StrsAre vs (ls.map mk) → StkAre r st as → (∀ x ∈ r, x.1 < a) → StkAre ((a, PySem.W.listOf vs.toArray nn) :: r) (ls :: st) (a :: as)
inductive HeadsAre (news : List (Addr × Obj)) : List Value → List (List Nat × List Nat × List Nat) → Prop
  | nil : HeadsAre news [] []
  | cons {T : Addr} {t1 t2 t3 : Tok} {n : Nat} {l m c : List Nat} {vs hs} : (T, ({ cls := .type "tuple", data := .seq #[.str (mk l) t1, .str (mk m) t2, .str (mk c) t3] n } : Obj)) ∈ news → l ∈ litS → m ∈ nameS → c ∈ convS → HeadsAre news vs hs → HeadsAre news (.ref T :: vs) ((l, m, c) :: hs)
noncomputable def evD : Ev → Dat
  | .op l n c => .tuple [.str (mk l), .str (mk n), .str (mk c)]
  | .cl k => .tuple [.str (mk k)]
noncomputable def EvRes (es : List Ev) (nx : List (Addr × Obj)) (v : Value) : Prop := ∃ D vs nn r, v = .ref D ∧ nx = (D, PySem.W.listOf vs.toArray nn) :: r ∧ DatAll r vs (es.map evD)
theorem ev_op {news : List (Addr × Obj)} {v : Value} {l n c : List Nat} (h : DatIn news v (evD (.op l n c))) :
    ∃ T t1 t2 t3 k, v = .ref T ∧ (T, ({ cls := .type "tuple", data := .seq #[.str (mk l) t1, .str (mk n) t2, .str (mk c) t3] k } : Obj)) ∈ news := by
  unfold evD at h
  refine gx1 v fun G kG => ?_
  obtain ⟨T, vs, k, rfl, hm, ha0⟩ := tup_inv h
  obtain ⟨v1, w1, rfl, h1, ha1⟩ := cons_inv ha0
  obtain ⟨v2, w2, rfl, h2, ha2⟩ := cons_inv ha1
  obtain ⟨v3, w3, rfl, h3, ha3⟩ := cons_inv ha2
  obtain ⟨t1, rfl⟩ := str_inv h1
  obtain ⟨t2, rfl⟩ := str_inv h2
  obtain ⟨t3, rfl⟩ := str_inv h3
  cases nil_inv ha3
  exact kG _ ⟨T, t1, t2, t3, k, rfl, hm⟩
theorem ev_cl {news : List (Addr × Obj)} {v : Value} {k : List Nat} (h : DatIn news v (evD (.cl k))) :
    ∃ T t1 c, v = .ref T ∧ (T, ({ cls := .type "tuple", data := .seq #[.str (mk k) t1] c } : Obj)) ∈ news := by
  unfold evD at h
  refine gx1 v fun G kG => ?_
  obtain ⟨T, vs, k, rfl, hm, ha0⟩ := tup_inv h
  obtain ⟨v1, w1, rfl, h1, ha1⟩ := cons_inv ha0
  obtain ⟨t1, rfl⟩ := str_inv h1
  cases nil_inv ha1
  exact kG _ ⟨T, t1, k, rfl, hm⟩
theorem datAll_at {news : List (Addr × Obj)} : ∀ {vs : List Value} {ds : List Dat}, DatAll news vs ds → ∀ {i : Nat} {v : Value}, vs[i]? = some v → ∃ d, ds[i]? = some d ∧ DatIn news v d
  | _, _, .nil, i, v, h => by simp at h
  | _, _, .cons (d := d) a r, 0, v, h => by simp at h; subst h; exact ⟨d, rfl, a⟩
  | _, _, .cons a r, i + 1, v, h => by
    rw [List.getElem?_cons_succ] at h
    obtain ⟨d, h1, h2⟩ := datAll_at r h
    exact ⟨d, by rw [List.getElem?_cons_succ]; exact h1, h2⟩
theorem evs_at {news : List (Addr × Obj)} {vs : List Value} {es : List Ev} (h : DatAll news vs (es.map evD)) {i : Nat} {v : Value} (hv : vs[i]? = some v) : ∃ e, es[i]? = some e ∧ DatIn news v (evD e) := by
  obtain ⟨d, h1, h2⟩ := datAll_at h hv
  rw [List.getElem?_map] at h1
  cases he : es[i]? with
  | none => rw [he] at h1; cases h1
  | some e => rw [he] at h1; cases h1; exact ⟨e, rfl, h2⟩
theorem drop_at {α} {es : List α} {i : Nat} {e : α} (h : es[i]? = some e) : es.drop i = e :: es.drop (i + 1) := by
  obtain ⟨hi, rfl⟩ := List.getElem?_eq_some_iff.mp h
  exact List.drop_eq_getElem_cons hi


theorem strs_snoc' {vs : List Value} {ls : List (List Nat)} {l : List Nat} {t : Tok} {x : Str} (h : StrsAre vs (ls.map mk)) (e : x = mk l) : StrsAre (vs ++ [.str x t]) ((ls ++ [l]).map mk) := by
  subst e; exact strs_snoc h
theorem heads_len {news : List (Addr × Obj)} : ∀ {vs hs}, HeadsAre news vs hs → vs.length = hs.length
  | _, _, .nil => rfl
  | _, _, .cons _ _ _ _ r => by rw [List.length_cons, List.length_cons, heads_len r]
theorem stk_len : ∀ {stk st as}, StkAre stk st as → as.length = st.length
  | _, _, _, .nil => rfl
  | _, _, _, .cons _ r _ => by rw [List.length_cons, List.length_cons, stk_len r]


theorem off0 {d : Addr} {r : List (Addr × Obj)} (h : AllLt d r) : ∀ x ∈ r, x.1 ≠ d := fun x hx => Nat.ne_of_lt (allLt_to h x hx)
theorem led_main {h₀ h : Heap} {L : Addr} {a : Addr × Obj} {r X : List (Addr × Obj)} (N : News h₀ L h (a :: (r ++ X))) (c t : Addr × Obj) (hc : c ∈ X) (ht : t ∈ X) : News h₀ L h (t :: a :: c :: r) := by
  refine cb_drop N fun p hp => ?_
  simp only [List.mem_cons, List.mem_append] at hp ⊢
  rcases hp with rfl | hp | rfl | hp
  · exact .inr (.inr ht)
  · exact .inl hp
  · exact .inr (.inr hc)
  · exact .inr (.inl hp)


theorem ltt2 {p0 p1 : Prop} {d : Addr} {r : List (Addr × Obj)} (h : p0 ∧ p1 ∧ AllLt d r) : ∀ x ∈ r, x.1 < d := allLt_to h.2.2
end E2X
section DCX
section
variable {prog : Program} {w : World} {A : Around} {E : Value → Shared → Prop} {s : Shared} {h₀ : Heap} {L d cA Ta Tb : Addr} {m : Str → Option Value} {news : List (Addr × Obj)} {env : Env} {otab oc : Obj} {k1 k2 : Str} {a1 a2 b1 b2 : Str} {ta ta' tb tb' : Tok} {na nb : Nat}
theorem stored_two {K : Type} [DecidableEq K] {FK : Value → K → Prop} {FV : Value → Value → Prop} {v1 v2 : Value} {kvs : List (K × Value)} (h : StoredAll FK FV [v1, v2] kvs) :
    ∃ x1 y1 x2 y2, kvs = stored (stored [] x1 y1) x2 y2 ∧ FK v1 x1 ∧ FV v1 y1 ∧ FK v2 x2 ∧ FV v2 y2 := by
  generalize hl : [v1, v2] = l at h
  cases h with
  | nil => cases hl
  | @snoc l' kvs' v k y h' hk hy =>
    have e : [v1] ++ [v2] = l' ++ [v] := hl
    obtain ⟨e1, e2⟩ := List.append_inj' e rfl
    cases e2
    generalize hl2 : [v1] = l2 at h' e1
    subst e1
    cases h' with
    | nil => cases hl2
    | @snoc l3 kvs3 v3 k3 y3 h3 hk3 hy3 =>
      have e : [] ++ [v1] = l3 ++ [v3] := hl2
      obtain ⟨e1, e2⟩ := List.append_inj' e rfl
      cases e2
      subst e1
      generalize hl4 : ([] : List Value) = l4 at h3
      cases h3 with
      | nil => exact ⟨k3, y3, k, y, rfl, hk3, hy3, hk, hy⟩
      | snoc _ _ _ => simp at hl4
theorem two_of {α : Type _} : ∀ {l : List α}, l.length = 2 → ∃ a b, l = [a, b]
  | [a, b], _ => ⟨a, b, rfl⟩
theorem newDict_at {M : Model} {A : Around} {Q : Value → Shared → Prop} {E : Value → Shared → Prop} {s : Shared}
    (h : wpAny M A newDict (fun acc s' => acc = .ref s.heap.objs.size → Q acc s') E s) : wpAny M A newDict Q E s := by
  intro Γ p hΓ
  have h1 := h Γ p hΓ
  simp [newDict, newObj, newObjAsIs, alloc] at h1 ⊢
  exact h1
theorem DictComp_tab {x y : Str} {px p1 p2 p3 p4 p5 p6 p7 : Pos} {kk : Nat} {scope : Scope} {cl : List (Str × Addr)} {pos : Pos} {Q : Value → Shared → Prop}
    (hh : A.handled = none) (hbig : sysModules < h₀.objs.size) (hclos : closureFor scope env = pure cl) (hcell : ∀ z ∈ scope.names, z.2 ≠ .cell) (hkind : scope.kind = .function)
    (hnames : ∀ z ∈ scope.names, z.2 = .local → scope.names.lookup z.1 = some .local) (hx : scope.names.lookup x = some .local)
    (h12 : k1 ≠ k2) (lo : (d == sysModules) = false) (hcl : cl.lookup y = some cA) (hky : ∀ C, (compEnvC scope cl C env).kindOf y = some .cell) (hkx : ∀ C, (compEnvC scope cl C env).kindOf x = some .local) (hdx : (x == ("__debug__" : Str)) = false) (hdy : (y == ("__debug__" : Str)) = false)
    (h : wpAny (model prog w) A (eval (.Name y p7) env) (fun xv s₁ => xv = .ref d ∧ Fr h₀ L s₁.heap m ∧ News h₀ L s₁.heap news ∧
      (d, otab) ∈ news ∧ otab.IsDictOf (PySem.strKind prog w) [(k1, .ref Ta), (k2, .ref Tb)] ∧ (Ta, ({ cls := .type "tuple", data := .seq #[.str a1 ta, .str a2 ta'] na } : Obj)) ∈ news ∧ (Tb, ({ cls := .type "tuple", data := .seq #[.str b1 tb, .str b2 tb'] nb } : Obj)) ∈ news ∧
      (cA, oc) ∈ news ∧ oc.data = .cell (some (.ref d)) ∧
      ∀ D oD h' tk, Fr h₀ L h' m → News h₀ L h' ((D, oD) :: news) → (∀ q ∈ news, q.1 < D) → (D == sysModules) = false → oD.IsDictOf (PySem.strKind prog w) [(k1, .str a1 ta), (k2, .str b1 tb)] → Q (.ref D) { s₁ with heap := h', toks := tk }) E s)
    (hs : ∀ z, foldedSetIterable (.Name y p7) env z = pure z) :
    wpAny (model prog w) A (eval (.DictComp (.Name x p1) (.Subscript (.Subscript (.Name y p2) (.Name x p3) p4) (.Constant (.int 0) kk p5) p6) [⟨.Name x px, .Name y p7, [], 0⟩] scope pos) env) Q E s := by
  rw [arm_eval_DictComp]
  refine wpAny_comprehension_free (use := none) rfl hs hclos hkind hnames (wpAny_mono h (fun xv s₁ h₁ => ?_) fun _ _ e => e)
  refine gx1 xv fun G kG => ?_
  obtain ⟨rfl, F, N, hd, hkd, hTa, hTb, hc, hcd, cont⟩ := h₁
  refine kG _ ?_
  clear kG
  have hD := kda_dict N hd hkd
  have hlt : d < s₁.heap.objs.size := Heap.lt_size (N _ hd).1
  obtain ⟨ep, hat⟩ := hD.dictAt
  have up : ∀ (s₃ : Shared) (ob : Obj), (∀ b o, b ∉ [s₁.heap.objs.size] → (s₁.heap.push ob).get? b = some o → s₃.heap.get? b = some o) → ∀ b o, s₁.heap.get? b = some o → s₃.heap.get? b = some o :=
    fun s₃ ob hk b o e => hk b o (fun hm => by rcases List.mem_cons.mp hm with rfl | hm; exact Nat.lt_irrefl _ (Heap.lt_size e); cases hm) (Heap.get?_push_of_some _ e)
  refine wpAny_pyIter_dict lo hat ?_
  refine newDict_at (wpAny_mono (comp_block_walkCD (knd := PySem.strKind prog w) (RR := fun acc C r s => acc = .ref (s₁.heap.objs.size + 1) → compPost (model prog w) A E none Q acc C r s) (Walks.dictKeys (knd := PySem.strKind prog w) hh _ _ (Nat.ne_of_lt hlt) _ ep) (by rw [PySem.sizeLine_eq]; simp) (fun _ => true) (fun v k => (PySem.strKind prog w).is k v = true) (fun v z => ((PySem.strKind prog w).is k1 v = true → z = .str a1 ta) ∧ ((PySem.strKind prog w).is k2 v = true → z = .str b1 tb))
    hcell hkind hx ⟨⟨_, Heap.get?_push_size _ rfl, rfl, rfl⟩, hat.push _⟩ ?_ ⟨?_, ?_, ?_⟩ ?_) (fun acc s' h e => wpAny_mono h (fun cenv s4 hc => codeAny_mono hc fun r s hr => hr (by rw [e]; exact congrArg Value.ref (Heap.size_push ..))) fun _ _ e => e) fun _ _ e => e)
  · intro b hb
    show b < (s₁.heap.push _).objs.size
    rw [Heap.size_push]
    rcases List.mem_cons.mp hb with rfl | hb
    · exact Nat.lt_succ_self _
    · rcases List.mem_cons.mp hb with rfl | hb
      · exact Nat.lt_succ_of_lt hlt
      · cases hb
  · intro C i v s₃ m₃ E' hP hn hm hk
    exact wpAny_pure ⟨rfl, s₃.heap, s₃.toks, rfl, fun _ _ e => e⟩
  · intro C i v s₃ m₃ E' hP hp hn hm hk
    obtain ⟨k, z, hkx2, hkv⟩ := hP
    exact wpAny_Name (wpAny_loadName_local hkind (hkx C) hn hm ⟨⟨k, hkv, hkv⟩, s₃.heap, s₃.toks, rfl, fun _ _ e => e⟩) hdx
  · intro C i v s₃ m₃ E' hP hp hn hm hk
    refine gx0 fun G kG => ?_
    obtain ⟨k, z, hkx2, hkv⟩ := hP
    have hold := up s₃ _ hk
    have N3 : News h₀ L s₃.heap news := N.grown hold
    have hk12 : k = k1 ∧ valueAt [(k1, Value.ref Ta), (k2, .ref Tb)] k = some (.ref Ta) ∨ k = k2 ∧ valueAt [(k1, Value.ref Ta), (k2, .ref Tb)] k = some (.ref Tb) := by
      match i, hkx2 with
      | 0, h0 => cases h0; exact .inl ⟨rfl, by simp [valueAt]⟩
      | 1, h0 => cases h0; exact .inr ⟨rfl, by simp [valueAt, h12]⟩
      | j + 2, h0 => simp at h0
    refine kG ?_
    clear kG
    refine Subscript_ (Subscript_ (wpAny_Name (wpAny_loadName_cell hkind (hky C) hcl ⟨oc, (N3 _ hc).1, hcd⟩ ?_) hdy))
    refine wpAny_Name (wpAny_loadName_local hkind (hkx C) hn hm ?_) hdx
    have fin : ∀ (T : Addr) (x1 x2 : Str) (u1 u2 : Tok) (nt : Nat) (hT : (T, ({ cls := .type "tuple", data := .seq #[.str x1 u1, .str x2 u2] nt } : Obj)) ∈ news), valueAt [(k1, Value.ref Ta), (k2, .ref Tb)] k = some (.ref T) →
        (((PySem.strKind prog w).is k1 v = true → Value.str x1 u1 = .str a1 ta) ∧ ((PySem.strKind prog w).is k2 v = true → Value.str x1 u1 = .str b1 tb)) →
        wpAny (model prog w) A (subscriptTail (.Name y p2) (.Name x p3) (.ref d) v) (fun o s₁ => wpAny (model prog w) A (eval (.Constant (.int 0) kk p5) (compEnvC scope cl C env)) (fun i s₂ => wpAny (model prog w) A (subscriptTail ((Expr.Name y p2).Subscript (.Name x p3) p4) (.Constant (.int 0) kk p5) o i)
          (fun y s₄ => (((PySem.strKind prog w).is k1 v = true → y = .str a1 ta) ∧ ((PySem.strKind prog w).is k2 v = true → y = .str b1 tb)) ∧ Keeps s₃ s₄) E' s₂) E' s₁) E' s₃ := by
      intro T x1 x2 u1 u2 nt hT hva hfv
      refine kda_item N3 hd hkd hkv hva ?_ (by with_unfolding_all rfl) (by intro _; with_unfolding_all rfl)
      refine wpAny_Constant_int ?_
      refine subscriptTail_builtinR (News.isTup N3 hT).typeIs slot_tuple_getitem.lookup (getItem_tuple (Q := fun r s' => r = .str x1 u1 ∧ ((((PySem.strKind prog w).is k1 v = true → r = .str a1 ta) ∧ ((PySem.strKind prog w).is k2 v = true → r = .str b1 tb)) ∧ Keeps s₃ s')) (j := 0) (News.isTup N3 hT) (by decide) (by decide) rfl rfl ?_) (by with_unfolding_all rfl)
      exact ⟨rfl, hfv, s₃.heap, _, rfl, fun _ _ e => e⟩
    refine gx0 fun G kG => ?_
    rcases hk12 with ⟨rfl, hva⟩ | ⟨rfl, hva⟩
    · exact kG <| fin _ _ _ _ _ _ hTa hva ⟨fun _ => rfl, fun h2 => absurd ((PySem.strKind prog w).inj v _ _ hkv h2) h12⟩
    · exact kG <| fin _ _ _ _ _ _ hTb hva ⟨fun h1 => absurd ((PySem.strKind prog w).inj v _ _ h1 hkv) h12, fun _ => rfl⟩
  · intro D C h' tk m' kvs vs hDn hCn hDC hn hlD hlen hP hF hk hDe
    have hDe : D = s₁.heap.objs.size + 1 := by cases hDe; rfl
    refine gx0 fun G kG => ?_
    obtain ⟨v1, v2, rfl⟩ : ∃ v1 v2, vs = [v1, v2] := two_of hlen
    obtain ⟨x1, z1, hz1, hv1⟩ := hP 0 v1 rfl
    obtain ⟨x2, z2, hz2, hv2⟩ := hP 1 v2 rfl
    cases hz1
    cases hz2
    have hfl : [v1, v2].filter (fun _ => true) = [v1, v2] := rfl
    rw [hfl] at hF
    obtain ⟨y1, w1, y2, w2, hkvs, e1, e2, e3, e4⟩ := stored_two hF
    have g1 := (PySem.strKind prog w).inj v1 _ _ e1 hv1
    have g2 := (PySem.strKind prog w).inj v2 _ _ e3 hv2
    subst g1 g2
    have g3 := e2.1 hv1
    have g4 := e4.2 hv2
    subst g3 g4
    have hkvs' : kvs = [(y1, .str a1 ta), (y2, .str b1 tb)] := by rw [hkvs]; simp [stored, h12]
    subst hkvs'
    refine kG ⟨m', hn, fun h'' hs'' => ?_⟩
    clear kG
    have keep : ∀ b o, s₁.heap.get? b = some o → h''.get? b = some o := fun b o e =>
      hs''.extBut b o (by rintro rfl; rw [Heap.get?_push_of_some _ e] at hCn; cases hCn) (up { s₁ with heap := h' } _ hk b o e)
    obtain ⟨oD, hoD, hkD⟩ := Heap.dictOf_iff.mp (hlD.extBut hs''.extBut hDC)
    have hDnew : s₁.heap.get? D = none := by
      cases e : s₁.heap.get? D with
      | none => rfl
      | some o' => rw [Heap.get?_push_of_some _ e] at hDn; cases hDn
    have hDsz : s₁.heap.objs.size ≤ D := hDe ▸ Nat.le_succ _
    refine cont D oD h'' tk (F.keeps keep) (fun q hq => ?_) (fun q hq => Nat.lt_of_lt_of_le (Heap.lt_size (N q hq).1) hDsz) ?_ hkD
    · rcases List.mem_cons.mp hq with rfl | hq
      · exact ⟨hoD, Nat.ne_of_gt (Nat.lt_of_lt_of_le F.ns.lt hDsz), Heap.get?_none_of_le (Nat.le_trans F.above (Nat.le_of_lt (Nat.lt_of_lt_of_le F.ns.lt hDsz)))⟩
      · exact (N.grown keep) q hq
    · exact beq_eq_false_iff_ne.mpr (Nat.ne_of_gt (Nat.lt_trans hbig (Nat.lt_of_le_of_lt F.above (Nat.lt_of_lt_of_le F.ns.lt hDsz))))
end
end DCX
section LDX
noncomputable def lawDef (k : Nat) : Option (List Stmt × Scope) := match PySem.Challenge.pw_ik0030_01.main.body.getLast? with
  | some (.FunctionDef _ _ b _ _ _ sc _ _ _) => some (b.drop k, sc)
  | _ => none
end LDX
section C1X

noncomputable abbrev Cl2 (w : World) (mean : ExcName → Option Value) (mg mb : Str → Option Value) (f : Addr) (pre : Prop) (vs : List Value) (R : Tok → Value) : Prop :=
  ∀ news, CbClaim PySem.Challenge.rw_ik0030_01.row.prog w (hd.heap_1 w.params) topProg (looseW hd.view_39 [] ++ List.map (fun x => x.name) (recsOf hd.view_39) ++ List.map (fun x => x.fst) (litsOf hd.view_39) ++ List.map (fun x => x.name) (clssOf hd.view_39 (looseW hd.view_39 []))) mean mg mb f news [] pre vs R
noncomputable abbrev ClN (k : Nat) (w : World) (mean : ExcName → Option Value) (mg mb : Str → Option Value) (f : Addr) (news : List (Addr × Obj)) (vs : List Value) (R : Tok → Value) : Prop :=
  ∀ (dp un : Nat) (gd : Option (List Code)) (cn : Str) (cs : Scope) (a : Addr) (ccd : Value) (cl : List (Str × Addr)) (outer : List Env) (A₀ : Around) (base h₀ : Heap) (L : Addr) (m : Str → Option Value) (s : Shared) (Q E : Value → Shared → Prop),
    Below A₀ base outer h₀ → Fr h₀ L s.heap m → (hd.heap_1 w.params).In h₀ → News h₀ L s.heap news → Top topProg (looseW hd.view_39 [] ++ List.map (fun x => x.name) (recsOf hd.view_39) ++ List.map (fun x => x.fst) (litsOf hd.view_39) ++ List.map (fun x => x.name) (clssOf hd.view_39 (looseW hd.view_39 []))) mean mg mb h₀ → cs.kind = .function →
    dp + k < recursionLimit → un + 8 * k < cLine → CbRet h₀ L m news s Q R →
      wpAny (model PySem.Challenge.rw_ik0030_01.row.prog w) (ktrTop dp un gd cn cs L a ccd cl outer) (call (.ref f) vs) Q E s

noncomputable abbrev GRet (h₀ : Heap) (L : Addr) (m : Str → Option Value) (news : List (Addr × Obj)) (s : Shared) (Q : Value → Shared → Prop) (Res : List (Addr × Obj) → Value → Prop) : Prop :=
  ∀ (v : Value) (nx : List (Addr × Obj)) (h' : Heap) (tk' : Nat), Fr h₀ L h' m → News h₀ L h' (nx ++ news) → (∀ p ∈ nx, ∀ q ∈ news, q.1 < p.1) → Res nx v → Q v { s with heap := h', toks := tk' }
noncomputable abbrev ClG (k : Nat) (w : World) (mean : ExcName → Option Value) (mg mb : Str → Option Value) (f : Addr) (news : List (Addr × Obj)) (vs : List Value) (Res : List (Addr × Obj) → Value → Prop) : Prop :=
  ∀ (dp un : Nat) (gd : Option (List Code)) (cn : Str) (cs : Scope) (a : Addr) (ccd : Value) (cl : List (Str × Addr)) (outer : List Env) (A₀ : Around) (base h₀ : Heap) (L : Addr) (m : Str → Option Value) (s : Shared) (Q E : Value → Shared → Prop),
    Below A₀ base outer h₀ → Fr h₀ L s.heap m → (hd.heap_1 w.params).In h₀ → News h₀ L s.heap news → Top topProg (looseW hd.view_39 [] ++ List.map (fun x => x.name) (recsOf hd.view_39) ++ List.map (fun x => x.fst) (litsOf hd.view_39) ++ List.map (fun x => x.name) (clssOf hd.view_39 (looseW hd.view_39 []))) mean mg mb h₀ → cs.kind = .function →
    dp + k < recursionLimit → un + 8 * k < cLine → GRet h₀ L m news s Q Res →
      wpAny (model PySem.Challenge.rw_ik0030_01.row.prog w) (ktrTop dp un gd cn cs L a ccd cl outer) (call (.ref f) vs) Q E s

theorem led_head {h₀ h : Heap} {L a : Addr} {o : Obj} {r : List (Addr × Obj)} (_ : News h₀ L h ((a, o) :: r)) : ∃ D : Addr, D = a := ⟨a, rfl⟩
theorem led_obj {h₀ h : Heap} {L a : Addr} {o : Obj} {r : List (Addr × Obj)} (_ : News h₀ L h ((a, o) :: r)) : ∃ (D : Addr) (o' : Obj), D = a ∧ o' = o := ⟨a, o, rfl, rfl⟩
end C1X
local macro_rules | `(tactic| walk_at "ite") => `(tactic| first | (refine ite_T (by walk_at "mine dec") ?_) | (refine ite_F (by walk_at "mine dec") ?_))
local macro_rules | `(tactic| walk_at "exec While Compare cons nil") => `(tactic| refine halt ?_)
local macro_rules | `(tactic| walk_at "call builtin:str.join") => `(tactic| refine halt ?_)
local macro_rules | `(tactic| walk_at "mine news") => `(tactic| first | assumption | (refine' cb_drop (by assumption) (by kcj_all)))
local macro_rules | `(tactic| walk_at "KswEnd") => `(tactic| refine halt ?_)
local macro_rules | `(tactic| walk_at "binaryOp Add str str") => `(tactic| ((with_reducible show wpAny _ _ (binaryOp Operator.Add (Value.str _ _) (Value.str _ _)) _ _ _); (refine add_str ?_ (hsz := by walk_at "mine fits")); intro _ _))
local macro_rules | `(tactic| walk_at "mine fits") => `(tactic| (rw [PySem.sizeLine_eq]; (try simp only [mk_len, sing_len, PySem.Str.length_append]); omega))
local macro_rules | `(tactic| walk_at "mine same") => `(tactic| (intro z h2 h3; (simp only [List.forall_mem_cons, List.not_mem_nil, false_implies, implies_true, and_true, ne_eq] at h2); (try (obtain ⟨h4, h5⟩ := h2)); (have h6 := h3); (simp only [List.contains_cons, List.contains_nil, Bool.or_false, Bool.or_eq_false_iff, beq_eq_false_iff_ne, ne_eq] at h6); (simp only [kstB, *, Bool.false_eq_true, if_false])))
local macro_rules | `(tactic| walk_at "mine step") => `(tactic| repeat' (first | (k_unfold; (try dsimp only)) | (k_end; wrow_close) | walk1 | (dsimp only; walk1) | (leave1; try dsimp only) | fail "no step"))
local macro_rules | `(tactic| k_ne) => `(tactic| (refine neN ?_; (try dsimp only); first | assumption | exact ne1 (by assumption) | exact ne2 (by assumption) | exact ne3 (by assumption) | omega))
local macro_rules | `(tactic| walk_at "mine dec") => `(tactic| first | (simp only [decide_eq_true_eq, beq_iff_eq, bne_iff_ne]; omega) | assumption | exact ne_true_of_eq_false (by assumption) | (simp only [*]; decide) | (simp only [*]; done))
local macro_rules | `(tactic| walk_at "mine cb") => `(tactic| ((case k1 | k2 | k3 | k4 | k5 => k_asm); (case kK => first | exact rfl | assumption); (case kd => ktr_room); (case ku => first | (simp only [units_in1, units_deeper, Around.mark_units, units_caller, cLine_is]; first | done | decide) | ktr_units)))
local macro_rules | `(tactic| walk_at "eval Constant str") => `(tactic| refine c_str ?_; intro _ _)
local macro_rules | `(tactic| walk_at "eval Constant int") => `(tactic| refine c_int ?_; intro _ _)
local macro_rules | `(tactic| walk_at "storeName") => `(tactic| (k_dflt (refine' st_loc (by k_asm) (by k_asm) ?_ (by exact @Eq.refl ScopeKind .function) (by exact @Eq.refl (Option NameKind) (some .local))); intro h' k' F' N'; (try k_sweep)))
local macro_rules | `(tactic| walk_at "eval Name") => `(tactic| k_dflt (refine' nameX_L (by k_asm) (by exact @Eq.refl (Option Value) (some _)) ?_ (by exact @Eq.refl ScopeKind .function) (by exact @Eq.refl (Option NameKind) (some .local))))
local macro_rules | `(tactic| walk_at "mine sub") => `(tactic| first | exact sub_refl _ | exact sub_nil | ((with_reducible refine sub_cons ?_ ?_); k_mem; walk_at "mine sub") | (refine sub_tail _ ?_; walk_at "mine sub"))
local macro_rules | `(tactic| walk_at "mine in") => `(tactic| (intro t9 h9 tk9 F9 N9; (try dsimp only); (try k_fold)))
local macro_rules | `(tactic| k_all) => `(tactic| assumption)
section S1pX
section
theorem parse_spec (w : World) (mean mg mb) (x : Str) (c : Nat) (l : List Nat) (t : Tok) (hx : x.cps.toList = 50::53::55::32::c::l) (hl : l.length ≤ 1000000) :
   Cl2 w mean mg mb 138 True [.str x t] (fun t => .str (mk (if c = 34 then unq l else [])) t) := by
  have h1 : Txt.slice x none (some 3) = Str.ofString "257" := by
    rw [slice_to hx (by simp; omega)]; rfl
  have h2 : Txt.slice x (some 3) (some 5) = mk [32, c] := by
    rw [slice_in hx (by simp; omega)]; rfl
  have hlen : x.length = l.length + 5 := by 
    have := congrArg List.length hx
    simpa [Str.length] using this
  by_cases hc : c = 34
  · subst hc
    dsimp only [Cl2, CbClaim, CbLists, CbRet]
    intro news dp un gd cn cs a ccd cl outer A₀ base h₀ L m s Q E B F X N T hk _ hd hu hret
    refine wpAny_call ?_
    k_dflt cell_enter
    rename Fr _ _ _ _ => lF
    replace lF := fr_as (fun y => List.lookup y [(Str.ofString "resp", Value.str x t)]) lF (by with_unfolding_all rfl)
    walk_at "mine step"
    dsimp only [Halt]
    rename Fr _ _ _ _ => lF
    rename News _ _ _ _ => lN
    with_unfolding_all refine' ksw_while (σ := List Nat × Int × Str × List Nat × Tok × Tok) (fun _ => _) (fun c => [(Str.ofString "i", .int c.2.1 c.2.2.2.2.1), (Str.ofString "dirname", .str c.2.2.1 c.2.2.2.2.2)]) (fun _ => True) [Str.ofString "c"] (fun c => (∃ p, l = p ++ c.1) ∧ c.2.1 = (x.length : Int) - c.1.length ∧ c.2.2.1 = mk c.2.2.2.1 ∧ c.2.2.2.1 ++ unq c.1 = unq l) (fun c => c.1.length) (l, 5, Str.ofString "", [], _, _) lF lN trivial ?k1 ?k2 ?k3
    case k1 => kst_all
    case k2 => exact ⟨⟨[], rfl⟩, by rw [hlen]; simp; omega, rfl, rfl⟩
    clear lF lN
    rintro ⟨r, i, d, dl, t1, t2⟩ u h tk9 - ⟨⟨p, hp⟩, hi, hd, hu⟩ F N
    dsimp only at hp hi hd hu F N ⊢
    have hdl : dl.length ≤ l.length := by
      have h1 := congrArg List.length hu
      have h2 := unq_le _ l (Nat.le_refl _)
      simp only [List.length_append] at h1
      omega
    have hdl2 : d.length ≤ 1000000 := by rw [hd, mk_len]; omega
    rcases r with _ | ⟨c, r⟩
    · simp only [List.length_nil] at hi
      walk_at "mine step"
      refine cb_retS (Q := Q) (s := s) hret ?_ (by assumption) (by assumption)
      rw [hd, if_pos rfl, ← hu]; simp [unq]
    · simp only [List.length_cons] at hi
      have hpl := congrArg List.length hp
      simp only [List.length_append, List.length_cons] at hpl
      have h0 : 0 ≤ i := by omega
      have h1 : i < x.length := by omega
      have hit : Txt.item x i = mk [c] := item_at hx (j := 5 + p.length) (by omega) c (by subst hp; simp [Nat.add_comm 5])
      have hil : (Txt.item x i).length = 1 := by rw [hit]; rfl
      by_cases hc : c = 34
      · subst hc
        have q1 : (Txt.item x i == Str.ofString "\"") = true := by rw [hit]; rfl
        rcases r with _ | ⟨c2, r⟩
        · simp only [List.length_nil] at hi
          walk_at "mine step"
          refine cb_retS (Q := Q) (s := s) hret ?_ (by assumption) (by assumption)
          rw [hd, if_pos rfl, ← hu, unq_end (by simp), List.append_nil]
        · simp only [List.length_cons] at hi hpl
          have hit2 : Txt.item x (i + 1) = mk [c2] := item_at hx (j := 5 + (p.length + 1)) (by omega) c2 (by subst hp; simp [Nat.add_comm 5])
          by_cases hc2 : c2 = 34
          · subst hc2
            have q2 : (Txt.item x (i + 1) != Str.ofString "\"") = false := by rw [hit2]; rfl
            walk_at "mine step"
            dsimp only [Halt]
            refine ksw_end (r, i + 1 + 1, _, dl ++ [34], _, _) (by assumption) (by assumption) (fun _ h => h) trivial (by kst_all) (by walk_at "mine same") ?_ ?_
            · exact ⟨⟨p ++ [34, 34], by rw [hp]; simp⟩, by dsimp only; omega, by dsimp only; rw [hd, hit, mk_append], by dsimp only; rw [← hu, unq_qq]; simp⟩
            · simp only [List.length_cons]; omega
          · have q2 : (Txt.item x (i + 1) != Str.ofString "\"") = true := by rw [hit2, bne, mk_beq_str c2 34 (Str.ofString "\"") rfl]; simp [hc2]
            walk_at "mine step"
            refine cb_retS (Q := Q) (s := s) hret ?_ (by assumption) (by assumption)
            rw [hd, if_pos rfl, ← hu, unq_end (by simp [hc2]), List.append_nil]
      · have q1 : (Txt.item x i == Str.ofString "\"") = false := by rw [hit, mk_beq_str c 34 (Str.ofString "\"") rfl]; simp [hc]
        walk_at "mine step"
        dsimp only [Halt]
        refine ksw_end (r, i + 1, _, dl ++ [c], _, _) (by assumption) (by assumption) (fun _ h => h) trivial (by kst_all) (by walk_at "mine same") ?_ ?_
        · exact ⟨⟨p ++ [c], by rw [hp]; simp⟩, by dsimp only; omega, by dsimp only; rw [hd, hit, mk_append], by dsimp only; rw [← hu, unq_cons hc]; simp⟩
        · simp only [List.length_cons]; omega
  · dsimp only [Cl2, CbClaim, CbLists, CbRet]
    intro news dp un gd cn cs a ccd cl outer A₀ base h₀ L m s Q E B F X N T hk _ hd hu hret
    refine wpAny_call ?_
    k_dflt cell_enter
    rename Fr _ _ _ _ => lF
    replace lF := fr_as (fun y => List.lookup y [(Str.ofString "resp", Value.str x t)]) lF (by with_unfolding_all rfl)
    have q1 : (mk [32, c] != Str.ofString " \"") = true := by
      have : (mk [32, c] == Str.ofString " \"") = false := by
        rw [show Str.ofString " \"" = mk [32, 34] from rfl, mk_beq]; simp [hc]
      rw [bne, this]; rfl
    walk_at "mine step"
    refine cb_retS (Q := Q) (s := s) hret ?_ (by assumption) (by assumption)
    rw [if_neg hc]; rfl
end
end S1pX
local macro_rules | `(tactic| walk_at "pad 0") => `(tactic| skip)
section S1qX
theorem quotedL_len (l : List Nat) : (quotedL l).length ≤ 2 * l.length + 2 := by
  have : ∀ l : List Nat, (l.flatMap fun c => if c = 34 then [34,34] else [c]).length ≤ 2 * l.length := by
    intro l; induction l with
    | nil => simp
    | cons c r ih => simp only [List.flatMap_cons, List.length_append, List.length_cons]; split <;> simp only [List.length_cons, List.length_nil] <;> omega
  have := this l
  simp only [quotedL, List.length_append, List.length_cons, List.length_nil]; omega
theorem quoted_spec (w : World) (mean mg mb) (x : Str) (l : List Nat) (t : Tok) (hx : x = mk l) (hl : l.length ≤ 100000) :
   Cl2 w mean mg mb 150 True [.str x t] (fun t => .str (mk (quotedL l)) t) := by
  have hxl : x.length ≤ 100000 := by rw [hx, mk_len]; exact hl
  have hql := quotedL_len l
  dsimp only [Cl2, CbClaim, CbLists, CbRet]
  intro news dp un gd cn cs a ccd cl outer A₀ base h₀ L m s Q E B F X N T hk _ hd hu hret
  refine wpAny_call ?_
  k_dflt cell_enter
  rename Fr _ _ _ _ => lF
  replace lF := fr_as (fun y => List.lookup y [(Str.ofString "text", Value.str x t)]) lF (by with_unfolding_all rfl)
  walk_at "mine step"
  dsimp only [Halt]
  rename CarriedAll _ _ => hc
  have hfl : (l.map fun c => if c = 34 then [34, 34] else [c]).flatten = (l.flatMap fun c => if c = 34 then [34,34] else [c]) := by rw [List.flatMap_def]
  have hb : (l.map fun c => if c = 34 then [34, 34] else [c]).flatten.length ≤ 1000000 := by
    rw [hfl]; simp only [quotedL, List.length_append, List.length_cons, List.length_nil] at hql; omega
  refine join_mk (l.map fun c => if c = 34 then [34, 34] else [c]) (by assumption) ?_ hb ?_
  · refine Eq.mp (congrArg _ ?_) hc
    rw [hx, signs_mk, filter_everyA, List.map_map, List.map_map]
    refine List.map_congr_left fun c _ => ?_
    show (if (mk [c] == Str.ofString "\"") = true then PyData.str (Str.ofString "\"\"") else PyData.str (mk [c])) = PyData.str (mk (if c = 34 then [34, 34] else [c]))
    rw [mk_beq_str c 34 (Str.ofString "\"") rfl]
    by_cases h : c = 34
    · rw [if_pos (by simp [h]), if_pos h]; rfl
    · rw [if_neg (by simp [h]), if_neg h]
  rw [hfl] at hb ⊢
  have hml := mk_len (l.flatMap fun c => if c = 34 then [34,34] else [c])
  have h1 : (Str.ofString "\"").length = 1 := rfl
  have h2 : ∀ z : Str, (Str.ofString "\"" ++ z).length = 1 + z.length := fun z => by simp [Str.length_append, h1]
  intro t' k
  walk_at "mine step"
  refine cb_retS (Q := Q) (s := s) hret ?_ (by assumption) (by first | assumption | (refine' cb_drop ?cbN ?cbS; (case cbN => assumption); (case cbS => kcj_all)))
  show mk [34] ++ mk _ ++ mk [34] = _
  rw [mk_append, mk_append]; rfl
end S1qX
section S1tX
open PyProof.Rows.LCg
local macro_rules | `(tactic| walk_at "call ref") => `(tactic| ((with_reducible show wpAny _ _ (call (Value.ref 138) [Value.str _ _]) _ _ _); refine halt ?_))
noncomputable def TakenRes (x t : List Nat) (nx : List (Addr × Obj)) (v : Value) : Prop := ∃ D t1 t2 c, v = .ref D ∧ nx = [(D, { cls := .type "tuple", data := .seq #[.str (mk x) t1, .str (mk t) t2] c })]
theorem taken_spec (w : World) (mean mg mb news) (x tl : List Nat) (t : Tok) (hx : (quotedL x ++ tl).length ≤ 100000) (ht : tl.head? ≠ some 34) :
   ClG 3 w mean mg mb 164 news [.str (mk (quotedL x ++ tl)) t] (TakenRes x (tl.drop 1)) := by
  have hcat : (Str.ofString "257 " ++ mk (quotedL x ++ tl)).cps.toList = 50 :: 53 :: 55 :: 32 :: 34 :: (qbody x ++ 34 :: tl) := by
    rw [show Str.ofString "257 " = mk [50, 53, 55, 32] from rfl, mk_append, mk_cps, quotedL_is]; simp
  have hlen := mk_len (quotedL x ++ tl)
  have hu := unq_q tl ht x
  have hql : (qbody x ++ 34 :: tl).length ≤ 1000000 := by
    rw [quotedL_is] at hx; simp only [List.length_append, List.length_cons, List.cons_append] at hx ⊢; omega
  have hps := fun u news => parse_spec w mean mg mb _ 34 _ u hcat hql news
  rw [if_pos rfl, hu] at hps
  have hxl : (mk x).length ≤ 100000 := by
    have := quotedL_len' x
    rw [mk_len]; simp only [List.length_append] at hx; omega
  intro dp un gd cn cs a ccd cl outer A₀ base h₀ L m s Q E B F X N T hk hd hu hret
  refine wpAny_call ?_
  k_dflt cell_enter
  rename Fr _ _ _ _ => lF
  replace lF := fr_as (fun y => List.lookup y [(Str.ofString "page", Value.str (mk (quotedL x ++ tl)) t)]) lF (by with_unfolding_all rfl)
  walk_at "mine step"
  dsimp only [Halt]
  refine' hps _ _ _ _ _ _ _ _ _ _ _ _ _ _ _ _ _ _ _ ?k1 ?k2 ?k3 ?k4 ?k5 ?kK trivial ?kd ?ku ?_
  walk_at "mine cb"
  walk_at "mine in"
  walk_at "mine step"
  rename (∀ p ∈ news, p.1 < _) => hlt
  exact hret _ [(_, _)] _ _ (by assumption) (by assumption) (by rintro p hp; rw [List.mem_singleton] at hp; subst hp; exact hlt) ⟨_, _, _, _, rfl, by rw [taken_slice x tl (Str.ofString "\"") rfl]⟩
end S1tX
local macro_rules | `(tactic| walk_at "call builtin:list.append") => `(tactic| (k_dflt (refine' append_K (by k_asm) (by k_asm) (by k_upd) ?_ (by (simp only [List.size_toArray]; rw [PySem.sizeLine_eq]; omega))); intro h' F' N'; (rw [List.push_toArray] at N')))
section S1lX
open PyProof.Rows.LCg
local macro_rules | `(tactic| walk_at "call ref") => `(tactic| ((with_reducible show wpAny _ _ (call (Value.ref 164) [Value.str _ _]) _ _ _); refine halt ?_))
local macro_rules | `(tactic| walk_at "call builtin:str.partition") => `(tactic| (k_dflt (refine KXpa.partition (by k_asm) (by k_asm) (by decide) (by assumption) (by assumption) (by assumption) (by (rw [mk_len, PySem.sizeLine_eq]; omega)) ?_); intro D' _ _ _ _ _ F' N' l1; (try k_lt l1)))
local macro_rules | `(tactic| walk_at "truthy str") => `(tactic| ((with_reducible show wpAny _ _ (PySem.truthy (Value.str _ _)) _ _ _); (refine KXt.truthy (by assumption) (by omega) ?_); intro _))
noncomputable abbrev PPc := List Nat × Option (List Nat × List Nat × List Nat)
noncomputable def pieceD (x : PPc) : Dat := .tuple (.str (mk x.1) :: match x.2 with
  | none => [.none, .none, .none]
  | some (n, sp, c) => [.str (mk n), .str (mk sp), if c = [] then .none else .str (mk c)])
structure PSt where
  q : P
  kk : List Nat
  d : List PPc
  vs : List Value
  nn : Nat
  nx : List (Addr × Obj)
  t : Tok
noncomputable def PPost (ps : List PPc) (nx : List (Addr × Obj)) (v : Value) : Prop := ∃ D vs nn r, v = .ref D ∧ nx = (D, listOf vs.toArray nn) :: r ∧ DatAll r vs (ps.map pieceD)
theorem parse_all (w : World) (mean mg mb news) (p : P) (k : List Nat) (t : Tok) (hh : p.hgt ≤ 3) (hn : p.nf ≤ 10) (ok : ∀ e ∈ p.evs, EvOk e) (hk : k ∈ cloS) :
   ClG 6 w mean mg mb 171 news [.str (mk (p.text k)) t] (PPost (p.pieces k)) := by
  have hk1 : k.length ≤ 1 := by
    have : ∀ k ∈ cloS, k.length ≤ 1 := by decide
    exact this k hk
  intro dp un gd cn cs a ccd cl outer A₀ base h₀ L m s Q E B F X N T hkk hd hu hret
  refine wpAny_call ?_
  k_dflt cell_enter
  rename Fr _ _ _ _ => lF
  replace lF := fr_as (fun y => List.lookup y [(Str.ofString "page", Value.str (mk (p.text k)) t)]) lF (by with_unfolding_all rfl)
  walk_at "mine step"
  dsimp only [Halt]
  rename Fr _ _ _ _ => lF
  rename News _ _ _ _ => lN
  rename (∀ p ∈ news, p.1 < _) => hlt
  obtain ⟨D, hDe⟩ := led_head lN
  subst hDe
  with_unfolding_all refine' ksw_while (σ := PSt) (fun c => (D, listOf c.vs.toArray c.nn) :: (c.nx ++ news)) (fun c => [(Str.ofString "page", .str (mk (c.q.text c.kk)) c.t)]) (fun _ => True) [Str.ofString "literal", Str.ofString "head", Str.ofString "blank", Str.ofString "name", Str.ofString "mark", Str.ofString "conversion", Str.ofString "spec"] (fun c => c.d ++ c.q.pieces c.kk = p.pieces k ∧ DatAll c.nx c.vs (c.d.map pieceD) ∧ (∀ x ∈ c.nx, D < x.1) ∧ c.q.hgt ≤ 3 ∧ c.q.nf ≤ 10 ∧ (∀ e ∈ c.q.evs, EvOk e) ∧ c.kk ∈ cloS ∧ c.vs.length + c.q.nf + c.kk.length ≤ 12) (fun c => 2 * c.q.nf + c.kk.length) ⟨p, k, [], [], 0, [], _⟩ lF lN trivial ?sw1 ?sw2 ?_
  case sw1 => kst_all
  case sw2 => exact ⟨rfl, .nil, fun _ h => (nomatch h), hh, hn, ok, hk, by simp only [List.length_nil]; omega⟩
  clear lF lN
  intro σ
  refine gx1 σ fun G kG => ?_
  obtain ⟨q, kk, d, vs, nn, nx, tt⟩ := σ
  refine kG _ ?_
  clear kG
  intro u h tk9 _ hC F N
  refine gx0 fun G kG => ?_
  obtain ⟨c1, c2, c3, c4, c5, c6, c7, c8⟩ := hC
  refine kG ?_
  clear kG
  dsimp only at c1 c2 c3 c4 c5 c6 c7 c8 F N ⊢
  have hoff : ∀ x ∈ nx ++ news, x.1 ≠ D := fun x hx => by
    rcases List.mem_append.mp hx with hx | hx
    · exact Nat.ne_of_gt (c3 x hx)
    · exact Nat.ne_of_lt (hlt x hx)
  cases q with
  | nil =>
    by_cases hkk : kk = []
    · subst hkk
      have q1 : (mk (P.text .nil []) != Str.ofString "") = false := rfl
      walk_at "mine step"
      refine hret _ ((D, listOf vs.toArray nn) :: nx) _ _ (by assumption) (by assumption) ?_ ⟨D, vs, nn, nx, rfl, rfl, ?_⟩
      · intro x hx q hq
        have h1 := hlt q hq
        rcases List.mem_cons.mp hx with rfl | hx
        · exact h1
        · exact Nat.lt_trans h1 (c3 x hx)
      · rw [← c1]
        show DatAll nx vs ((d ++ []).map pieceD)
        rw [List.append_nil]; exact c2
    · rw [text_nil kk hkk] at F
      have hk2 : kk.length ≤ 1 := by
        have : ∀ k ∈ cloS, k.length ≤ 1 := by decide
        exact this kk c7
      have hlen : (quotedL kk ++ []).length ≤ 100000 := by
        have := quotedL_le kk
        simp only [List.length_append, List.length_nil]; omega
      have q1 : (mk (quotedL kk ++ []) != Str.ofString "") = true := by
        rw [show Str.ofString "" = mk [] from rfl, bne, mk_beq]; simp [quotedL_is]
      have q2 : (mk [] == Str.ofString "") = true := rfl
      walk_at "mine step"
      dsimp only [Halt]
      refine' taken_spec _ _ _ _ _ _ _ _ ?kx ?ky _ _ _ _ _ _ _ _ _ _ _ _ _ _ _ _ _ ?k1 ?k2 ?k3 ?k4 ?k5 ?kK ?kd ?ku ?_
      case kx => exact hlen
      case ky => simp
      walk_at "mine cb"
      intro v9 nx9 h9 tk9 F9 N9 l9 hR
      revert N9 l9
      refine gx2 v9 nx9 fun G kG => ?_
      obtain ⟨D9, t9, u9, n9, rfl, rfl⟩ := hR
      refine kG _ _ ?_
      clear kG
      intro N9 l9
      simp only [List.drop_nil, List.cons_append, List.nil_append] at N9
      have lD9 := ltN (l9 _ (List.mem_singleton.mpr rfl) _ (List.mem_cons_self ..))
      dsimp only at lD9
      (try dsimp only)
      (try k_fold)
      walk_at "mine step"
      dsimp only [Halt]
      rename News _ _ _ _ => lN
      refine gx0 fun G kG => ?_
      obtain ⟨T, oT, hT, hoT⟩ := led_obj lN
      subst hT
      refine kG ?_
      clear kG
      refine ksw_end ⟨.nil, [], d ++ [(kk, none)], vs ++ [.ref T], nn + 1, (T, oT) :: nx, _⟩ (by assumption) lN ?_ trivial (by kst_all) (by walk_at "mine same") ?_ ?_
      · intro p hp
        rcases List.mem_cons.mp hp with rfl | hp
        · k_mem
        · rcases List.mem_cons.mp hp with rfl | hp
          · rw [hoT]; exact List.mem_cons_self ..
          · exact List.mem_cons_of_mem _ (List.mem_cons_of_mem _ (List.mem_cons_of_mem _ hp))
      · refine ⟨?_, ?_, ?_, Nat.zero_le _, Nat.zero_le _, (by intro e he; exact nomatch he), (by show [] ∈ cloS; decide), ?_⟩
        · rw [← c1]
          show (d ++ [(kk, none)]) ++ [] = d ++ (if kk = [] then [] else [(kk, none)])
          rw [if_neg hkk, List.append_nil]
        · rw [List.map_append]
          refine (c2.mono fun p h => List.mem_cons_of_mem _ h).append (DatAll.one ?_)
          rw [hoT]
          exact DatIn.tuple (vs := [_, _, _, _]) (List.mem_cons_self ..) (.cons (.str _ _) (.cons .none (.cons .none (.cons .none .nil))))
        · intro x hx
          rcases List.mem_cons.mp hx with rfl | hx
          · show @LT.lt Nat _ D T; omega
          · exact c3 x hx
        · show (vs ++ [_]).length + 0 + 0 ≤ 12
          have : 0 < kk.length := List.length_pos_iff.mpr hkk
          simp only [P.nf] at c8; simp only [List.length_append, List.length_singleton]; omega
      · show 2 * 0 + 0 < 2 * 0 + kk.length
        have : 0 < kk.length := List.length_pos_iff.mpr hkk
        omega
  | cons l n c sp k2 r =>
    obtain ⟨⟨o1, o2, o3⟩, o4, o5, o6⟩ := evs_mem_cons c6
    have hlen := text_len _ c4 c5 c6 kk c7
    rw [text_cons] at hlen
    rw [text_cons] at F
    have q1 : (mk (quotedL l ++ 32 :: (headL n c ++ 32 :: (quotedL (sp.text k2) ++ tailL r kk))) != Str.ofString "") = true := by
      rw [show Str.ofString "" = mk [] from rfl, bne, mk_beq]; simp [quotedL_is]
    simp only [List.length_append, List.length_cons] at hlen
    have b1 : (headL n c).length ≤ 100000 := by omega
    have b2 : (headL n c ++ 32 :: (quotedL (sp.text k2) ++ tailL r kk)).length ≤ 100000 := by simp only [List.length_append, List.length_cons]; omega
    have hb3 : (quotedL (sp.text k2) ++ tailL r kk).length ≤ 100000 := by simp only [List.length_append]; omega
    have hn33 : ∀ n ∈ nameS, 33 ∉ n := by decide
    have hh32 : ∀ n ∈ nameS, ∀ c ∈ convS, 32 ∉ headL n c := by decide
    have p1 := part_at (headL n c) (quotedL (sp.text k2) ++ tailL r kk) 32 (Str.ofString " ") rfl (hh32 n o2 c o3)
    have p2 : Txt.partition (mk (headL n c)) (Str.ofString "!") = (mk n, mk (if c = [] then [] else [33]), mk c) := by
      unfold headL
      by_cases hc : c = []
      · rw [if_pos hc, if_pos hc, hc]; exact part_none n 33 _ rfl (hn33 n o2)
      · rw [if_neg hc, if_neg hc]; exact part_at n c 33 _ rfl (hn33 n o2)
    have p1a := congrArg (·.1) p1
    have p1b := congrArg (·.2.1) p1
    have p1c := congrArg (·.2.2) p1
    have p2a := congrArg (·.1) p2
    have p2b := congrArg (·.2.1) p2
    have p2c := congrArg (·.2.2) p2
    dsimp only at p1a p1b p1c p2a p2b p2c
    have q2 : (mk (headL n c ++ 32 :: (quotedL (sp.text k2) ++ tailL r kk)) == Str.ofString "") = false := by
      rw [show Str.ofString "" = mk [] from rfl, mk_beq]; simp
    walk_at "mine step"
    dsimp only [Halt]
    refine' taken_spec _ _ _ _ _ _ _ _ ?kx ?ky _ _ _ _ _ _ _ _ _ _ _ _ _ _ _ _ _ ?k1 ?k2 ?k3 ?k4 ?k5 ?kK ?kd ?ku ?_
    case kx => simp only [List.length_append, List.length_cons]; omega
    case ky => simp
    walk_at "mine cb"
    intro v9 nx9 h9 tk9 F9 N9 l9 hR
    revert N9 l9
    refine gx2 v9 nx9 fun G kG => ?_
    obtain ⟨D9, t9, u9, n9, rfl, rfl⟩ := hR
    refine kG _ _ ?_
    clear kG
    intro N9 l9
    simp only [List.drop_one, List.tail_cons, List.cons_append, List.nil_append] at N9
    have lD9 := ltN (l9 _ (List.mem_singleton.mpr rfl) _ (List.mem_cons_self ..))
    dsimp only at lD9
    (try dsimp only)
    (try k_fold)
    walk_at "mine step"
    dsimp only [Halt]
    refine' taken_spec _ _ _ _ _ _ _ _ ?kx ?ky _ _ _ _ _ _ _ _ _ _ _ _ _ _ _ _ _ ?k1 ?k2 ?k3 ?k4 ?k5 ?kK ?kd ?ku ?_
    case kx => omega
    case ky => exact tail_head r kk
    walk_at "mine cb"
    intro v8 nx8 h8 tk8 F8 N8 l8 hR
    revert N8 l8
    refine gx2 v8 nx8 fun G kG => ?_
    obtain ⟨D8, t8, u8, n8, rfl, rfl⟩ := hR
    refine kG _ _ ?_
    clear kG
    intro N8 l8
    simp only [tail_drop, List.cons_append, List.nil_append] at N8
    have lD8 := ltN (l8 _ (List.mem_singleton.mpr rfl) _ (by k_mem : (D, listOf vs.toArray nn) ∈ _))
    dsimp only at lD8
    (try dsimp only)
    (try k_fold)
    have hcl : (mk c).length ≤ 100000 := by
      have : ∀ c ∈ convS, c.length ≤ 100000 := by decide
      rw [mk_len]; exact this c o3
    by_cases hc : c = []
    · have q3 : (((mk c).length : Int) != 0) = false := by rw [hc]; rfl
      walk_at "mine step"
      dsimp only [Halt]
      rename News _ _ _ _ => lN
      refine gx0 fun G kG => ?_
      obtain ⟨T, oT, hT, hoT⟩ := led_obj lN
      subst hT
      refine kG ?_
      clear kG
      refine ksw_end ⟨r, kk, d ++ [(l, some (n, sp.text k2, c))], vs ++ [.ref T], nn + 1, (T, oT) :: nx, _⟩ (by assumption) lN ?_ trivial (by kst_all) (by walk_at "mine same") ?_ ?_
      · intro p hp
        rcases List.mem_cons.mp hp with rfl | hp
        · k_mem
        · rcases List.mem_cons.mp hp with rfl | hp
          · rw [hoT]; exact List.mem_cons_self ..
          · exact List.mem_cons_of_mem _ (List.mem_cons_of_mem _ (List.mem_cons_of_mem _ (List.mem_cons_of_mem _ (List.mem_cons_of_mem _ (List.mem_cons_of_mem _ hp)))))
      · refine ⟨by rw [List.append_assoc]; exact c1, ?_, ?_, ?_, ?_, o6, c7, ?_⟩
        · rw [List.map_append]
          refine (c2.mono fun p h => List.mem_cons_of_mem _ h).append (DatAll.one ?_)
          rw [hoT]
          have e : pieceD (l, some (n, sp.text k2, c)) = .tuple [.str (mk l), .str (mk n), .str (mk (sp.text k2)), if c = [] then .none else .str (mk c)] := rfl
          rw [e, if_pos hc]
          exact DatIn.tuple (vs := [_, _, _, _]) (List.mem_cons_self ..) (.cons (.str _ _) (.cons (.str _ _) (.cons (.str _ _) (.cons .none .nil))))
        · intro x hx
          rcases List.mem_cons.mp hx with rfl | hx
          · show @LT.lt Nat _ D T; omega
          · exact c3 x hx
        · show r.hgt ≤ 3; simp only [P.hgt] at c4; omega
        · show r.nf ≤ 10; simp only [P.nf] at c5; omega
        · show (vs ++ [_]).length + r.nf + kk.length ≤ 12; simp only [P.nf] at c8; simp only [List.length_append, List.length_singleton]; omega
      · show 2 * r.nf + kk.length < 2 * (1 + sp.nf + r.nf) + kk.length; omega
    · have q3 : (((mk c).length : Int) != 0) = true := by
        rw [mk_len]; cases c with
        | nil => exact absurd rfl hc
        | cons a b => simp; omega
      walk_at "mine step"
      dsimp only [Halt]
      rename News _ _ _ _ => lN
      refine gx0 fun G kG => ?_
      obtain ⟨T, oT, hT, hoT⟩ := led_obj lN
      subst hT
      refine kG ?_
      clear kG
      refine ksw_end ⟨r, kk, d ++ [(l, some (n, sp.text k2, c))], vs ++ [.ref T], nn + 1, (T, oT) :: nx, _⟩ (by assumption) lN ?_ trivial (by kst_all) (by walk_at "mine same") ?_ ?_
      · intro p hp
        rcases List.mem_cons.mp hp with rfl | hp
        · k_mem
        · rcases List.mem_cons.mp hp with rfl | hp
          · rw [hoT]; exact List.mem_cons_self ..
          · exact List.mem_cons_of_mem _ (List.mem_cons_of_mem _ (List.mem_cons_of_mem _ (List.mem_cons_of_mem _ (List.mem_cons_of_mem _ (List.mem_cons_of_mem _ hp)))))
      · refine ⟨by rw [List.append_assoc]; exact c1, ?_, ?_, ?_, ?_, o6, c7, ?_⟩
        · rw [List.map_append]
          refine (c2.mono fun p h => List.mem_cons_of_mem _ h).append (DatAll.one ?_)
          rw [hoT]
          have e : pieceD (l, some (n, sp.text k2, c)) = .tuple [.str (mk l), .str (mk n), .str (mk (sp.text k2)), if c = [] then .none else .str (mk c)] := rfl
          rw [e, if_neg hc]
          exact DatIn.tuple (vs := [_, _, _, _]) (List.mem_cons_self ..) (.cons (.str _ _) (.cons (.str _ _) (.cons (.str _ _) (.cons (.str _ _) .nil))))
        · intro x hx
          rcases List.mem_cons.mp hx with rfl | hx
          · show @LT.lt Nat _ D T; omega
          · exact c3 x hx
        · show r.hgt ≤ 3; simp only [P.hgt] at c4; omega
        · show r.nf ≤ 10; simp only [P.nf] at c5; omega
        · show (vs ++ [_]).length + r.nf + kk.length ≤ 12; simp only [P.nf] at c8; simp only [List.length_append, List.length_singleton]; omega
      · show 2 * r.nf + kk.length < 2 * (1 + sp.nf + r.nf) + kk.length; omega
end S1lX
section E3X
theorem pc_none {news : List (Addr × Obj)} {v : Value} {l : List Nat} (h : DatIn news v (pieceD (l, none))) :
    ∃ T t1 n, v = .ref T ∧ (T, ({ cls := .type "tuple", data := .seq #[.str (mk l) t1, .none, .none, .none] n } : Obj)) ∈ news := by
  unfold pieceD at h
  refine gx1 v fun G kG => ?_
  obtain ⟨T, vs, k, rfl, hm, ha0⟩ := tup_inv h
  obtain ⟨v1, w1, rfl, h1, ha1⟩ := cons_inv ha0
  obtain ⟨v2, w2, rfl, h2, ha2⟩ := cons_inv ha1
  obtain ⟨v3, w3, rfl, h3, ha3⟩ := cons_inv ha2
  obtain ⟨v4, w4, rfl, h4, ha4⟩ := cons_inv ha3
  obtain ⟨t1, rfl⟩ := str_inv h1
  cases none_inv h2
  cases none_inv h3
  cases none_inv h4
  cases nil_inv ha4
  exact kG _ ⟨T, t1, k, rfl, hm⟩
theorem pc_some {news : List (Addr × Obj)} {v : Value} {l n sp c : List Nat} (h : DatIn news v (pieceD (l, some (n, sp, c)))) :
    ∃ T t1 t2 t3 t4 k, v = .ref T ∧ (T, ({ cls := .type "tuple", data := .seq #[.str (mk l) t1, .str (mk n) t2, .str (mk sp) t3, if c = [] then .none else .str (mk c) t4] k } : Obj)) ∈ news := by
  unfold pieceD at h
  dsimp only at h
  refine gx1 v fun G kG => ?_
  obtain ⟨T, vs, k, rfl, hm, ha0⟩ := tup_inv h
  obtain ⟨v1, w1, rfl, h1, ha1⟩ := cons_inv ha0
  obtain ⟨v2, w2, rfl, h2, ha2⟩ := cons_inv ha1
  obtain ⟨v3, w3, rfl, h3, ha3⟩ := cons_inv ha2
  obtain ⟨v4, w4, rfl, h4, ha4⟩ := cons_inv ha3
  obtain ⟨t1, rfl⟩ := str_inv h1
  obtain ⟨t2, rfl⟩ := str_inv h2
  obtain ⟨t3, rfl⟩ := str_inv h3
  cases nil_inv ha4
  have h5 : ∃ t4, v4 = if c = [] then .none else .str (mk c) t4 := by
    by_cases hc : c = []
    · rw [if_pos hc] at h4
      exact ⟨t1, by rw [if_pos hc]; exact none_inv h4⟩
    · rw [if_neg hc] at h4
      obtain ⟨t4, e⟩ := str_inv h4
      exact ⟨t4, by rw [if_neg hc]; exact e⟩
  obtain ⟨t4, rfl⟩ := h5
  exact kG _ ⟨T, t1, t2, t3, t4, k, rfl, hm⟩
theorem pc_at {news : List (Addr × Obj)} {vs : List Value} {ps : List PPc} (h : DatAll news vs (ps.map pieceD)) {i : Nat} {v : Value} (hv : vs[i]? = some v) : ∃ pc, ps[i]? = some pc ∧ DatIn news v (pieceD pc) := by
  obtain ⟨d, h1, h2⟩ := datAll_at h hv
  rw [List.getElem?_map] at h1
  cases he : ps[i]? with
  | none => rw [he] at h1; cases h1
  | some e => rw [he] at h1; cases h1; exact ⟨e, rfl, h2⟩
theorem pc_ref {news : List (Addr × Obj)} {v : Value} {pc : PPc} (h : DatIn news v (pieceD pc)) : ∃ T, v = .ref T := by
  unfold pieceD at h
  cases h; exact ⟨_, rfl⟩
theorem led_vf {h₀ h : Heap} {L D9 RL U F0 d f c' : Addr} {o9 oR so oF od o oc : Obj} {r9 rest : List (Addr × Obj)} (N : News h₀ L h ((D9, o9) :: (r9 ++ (RL, oR) :: (U, so) :: (F0, oF) :: (d, od) :: (f, o) :: (c', oc) :: rest))) :
    ∃ R', R' = RL ∧ News h₀ L h ((U, so) :: (R', oR) :: (D9, o9) :: (F0, oF) :: (d, od) :: (f, o) :: (c', oc) :: (r9 ++ rest)) := by
  refine ⟨RL, rfl, cb_drop N ?_⟩
  have m : ∀ y, y ∈ (RL, oR) :: (U, so) :: (F0, oF) :: (d, od) :: (f, o) :: (c', oc) :: rest → y ∈ (D9, o9) :: (r9 ++ (RL, oR) :: (U, so) :: (F0, oF) :: (d, od) :: (f, o) :: (c', oc) :: rest) := fun y hy => .tail _ (List.mem_append_right _ hy)
  exact sub_cons (m _ (by k_mem)) (sub_cons (m _ (by k_mem)) (sub_cons (.head _) (sub_cons (m _ (by k_mem)) (sub_cons (m _ (by k_mem)) (sub_cons (m _ (by k_mem)) (sub_cons (m _ (by k_mem)) (sub_app (fun y hy => .tail _ (List.mem_append_left _ hy)) fun y hy => m y (memt _ (memt _ (memt _ (memt _ (memt _ (memt _ hy)))))))))))))
noncomputable def CntV : Option Nat → Value → Prop
  | some n, v => ∃ t, v = .int (n : Int) t
  | none, v => v = .bool false
noncomputable abbrev pr1 : Program := PySem.Challenge.rw_ik0030_01.row.prog
noncomputable def VfJ (w : World) (p : P) (kk : List Nat) (d : Nat) (cnt : Option Nat) (u : List Key) (U RL : Addr) (fx : List (Addr × Obj)) (m₀ : Str → Option Value) (I : Addr) (i : Nat) (m : Str → Option Value) (nw : List (Addr × Obj)) : Prop :=
  ∃ (q : P) (kk' : List Nat) (c' : Option Nat) (u' : List Key) (acc : List Nat) (ts : List (List Nat)) (rvs : List Value) (nr : Nat) (so' : Obj) (cv' : Value),
    (p.pieces kk).drop i = q.pieces kk' ∧ p.vf d kk cnt u = Rpre acc (q.vf d kk' c' u') ∧ acc = ts.flatten ∧ StrsAre rvs (ts.map mk) ∧ CntV c' cv' ∧ SetIs pr1 w so' u' ∧
    q.hgt ≤ p.hgt ∧ q.nf ≤ p.nf ∧ (∀ e ∈ q.evs, EvOk e) ∧ kk' ∈ cloS ∧ (∀ n, c' = some n → n + q.nf ≤ 15) ∧ u'.length + q.nf ≤ 90 ∧ acc.length + 13 * q.nf + kk'.length ≤ 13 * p.nf + 1 ∧ rvs.length ≤ 2 * i ∧
    nw = (U, so') :: (RL, PySem.W.listOf rvs.toArray nr) :: fx ∧ (U < I ∧ RL < I ∧ ∀ x ∈ fx, x.1 < I) ∧
    (∀ p ∈ [(Str.ofString "result", Value.ref RL), (Str.ofString "auto_arg_index", cv')], m p.1 = some p.2) ∧
    (∀ z, (∀ p ∈ [(Str.ofString "result", Value.ref RL), (Str.ofString "auto_arg_index", cv')], z ≠ p.1) → [Str.ofString "literal_text", Str.ofString "field_name", Str.ofString "format_spec", Str.ofString "conversion", Str.ofString "obj", Str.ofString "arg_used"].contains z = false → m z = m₀ z)


theorem pieces_len : ∀ (p : P) (kk : List Nat), (p.pieces kk).length ≤ p.nf + 1
  | .nil, kk => by simp only [P.pieces]; split <;> simp
  | .cons l n c sp k r, kk => by
    have := pieces_len r kk
    simp only [P.pieces, List.length_cons, P.nf]; omega


theorem fr_name {h₀ h : Heap} {L : Addr} {m : Str → Option Value} (F : Fr h₀ L h m) : ∃ mc, mc = m ∧ Fr h₀ L h mc := ⟨m, rfl, F⟩
noncomputable def LitMid (g : Heap) (L : Addr) (mc : Str → Option Value) (s : Shared) (pre : Addr × Obj) (U RL : Addr) (so : Obj) (post : List (Addr × Obj)) (acc : List Nat) (n : Nat) (fl : Flow) (s₂ : Shared) : Prop :=
  fl = .next ∧ ∃ h' tk', ∃ ts' : List (List Nat), ∃ rvs' nr', s₂ = { s with heap := h', toks := tk' } ∧ Fr g L h' mc ∧ News g L h' (pre :: (U, so) :: (RL, PySem.W.listOf rvs'.toArray nr') :: post) ∧ StrsAre rvs' (ts'.map mk) ∧ acc = ts'.flatten ∧ rvs'.length ≤ n
noncomputable def NumMid (g : Heap) (L : Addr) (mc : Str → Option Value) (s : Shared) (led : List (Addr × Obj)) (name : Key → Str) (n : List Nat) (c : Option Nat) (fl : Flow) (s₂ : Shared) : Prop :=
  fl = .next ∧ ∃ key c1 h' tk' t' cvv m', resolve n c = some (key, c1) ∧ s₂ = { s with heap := h', toks := tk' } ∧ Fr g L h' m' ∧ News g L h' led ∧ CntV c1 cvv ∧
    (∀ p ∈ [(Str.ofString "field_name", Value.str (name key) t'), (Str.ofString "auto_arg_index", cvv)], m' p.1 = some p.2) ∧ (∀ z, (∀ p ∈ [(Str.ofString "field_name", Value.str (name key) t'), (Str.ofString "auto_arg_index", cvv)], z ≠ p.1) → m' z = mc z)


theorem NumMid.mk' {g : Heap} {L : Addr} {mc m' : Str → Option Value} {s : Shared} {led : List (Addr × Obj)} {name : Key → Str} {n : List Nat} {c c1 : Option Nat} {key : Key} {h' : Heap} {tk' : Nat} {t' : Tok} {cvv : Value}
    (hres : resolve n c = some (key, c1)) (F : Fr g L h' m') (N : News g L h' led) (e1 : m' (Str.ofString "field_name") = some (.str (name key) t')) (e2 : m' (Str.ofString "auto_arg_index") = some cvv) (hcv : CntV c1 cvv)
    (h3 : ∀ z, (z ≠ Str.ofString "field_name" ∧ z ≠ Str.ofString "auto_arg_index") → m' z = mc z) : NumMid g L mc s led name n c .next { s with heap := h', toks := tk' } := by
  refine ⟨rfl, key, c1, h', tk', t', cvv, m', hres, rfl, F, N, hcv, ?_, ?_⟩
  · intro p hp
    simp only [List.mem_cons, List.not_mem_nil, or_false] at hp
    rcases hp with rfl | rfl
    · exact e1
    · exact e2
  · intro z hz
    exact h3 z ⟨hz _ (List.mem_cons_self ..), hz _ (List.mem_cons_of_mem _ (List.mem_cons_self ..))⟩


theorem res_bound {n : List Nat} {c c1 : Option Nat} {key : Key} (h : resolve n c = some (key, c1)) {b : Nat} (hb : ∀ m, c = some m → m + (1 + b) ≤ 15) : ∀ m, c1 = some m → m + b ≤ 15 := by
  intro m hm
  subst hm
  unfold resolve at h
  split at h
  · cases c with
    | none => cases h
    | some k => cases h; have := hb k rfl; omega
  · split at h
    · split at h <;> cases h
    · cases h; have := hb m rfl; omega


theorem vfD_len {p : P} {dd : Nat} {k c u t c' u'} (ok : ∀ e ∈ p.evs, EvOk e) (h : vfD p dd k c u = .ok t c' u') : t.length ≤ 13 * p.nf + k.length := by
  cases dd with
  | zero => cases h
  | succ d => exact vf_len p d k c u t c' u' ok h
theorem vfD_cnt {p : P} {dd : Nat} {k c u t c' u'} (h : vfD p dd k c u = .ok t c' u') : ∀ n', c' = some n' → ∃ n, c = some n ∧ n' ≤ n + p.nf := by
  cases dd with
  | zero => cases h
  | succ d => exact vf_cnt p d k c u t c' u' h
theorem vfD_used {p : P} {dd : Nat} {k c u t c' u'} (h : vfD p dd k c u = .ok t c' u') : u'.length ≤ u.length + p.nf := by
  cases dd with
  | zero => cases h
  | succ d => exact vf_used p d k c u t c' u' h


section
variable {prog : Program} {w : World} {A : Around} {E : Value → Shared → Prop} {s : Shared} {t : Tok} {Q : Value → Shared → Prop}
theorem sum_len_mk0 (ls : List (List Nat)) : ((ls.map mk).map (·.length)).sum = ls.flatten.length := by
  induction ls with
  | nil => rfl
  | cons a r ih => simp only [List.map_cons, List.sum_cons, mk_len, List.flatten_cons, List.length_append, ih]
theorem join_e {D : Addr} {ys : List Value} (ls : List (List Nat)) (hl : s.heap.IsList D ys.toArray) (hi : StrsAre ys (ls.map mk)) (hb : ls.flatten.length ≤ 1000000)
    (h : ∀ t' k, Q (.str (mk ls.flatten) t') { s with toks := k }) : wpAny (model prog w) A (call (.builtin "str.join") [.str (Str.ofString "") t, .ref D]) Q E s := by
  refine join_list hl hi ?_ ?_
  · have h1 := sum_len_mk0 ls
    have h2 : (Str.ofString "").length = 0 := rfl
    rw [h2, h1]; omega
  · intro t' k
    rw [glued_empty]; exact h t' k
end
theorem pieces_nil {q : P} {kk : List Nat} (h : q.pieces kk = []) : q = .nil ∧ kk = [] := by
  cases q with
  | nil =>
    simp only [P.pieces] at h
    split at h
    · rename_i hk; exact ⟨rfl, hk⟩
    · cases h
  | cons l n c sp k r => simp [P.pieces] at h
end E3X
section TNX
section
variable {prog : Program} {w : World} {A : Around} {E : Value → Shared → Prop} {s : Shared}
theorem cnt_eq {A : Around} {s : Shared} {c : Option Nat} {v v' : Value} (h : CntV c v) (h' : CntV c v') : PySem.SeqAt.EqAt A s v v' true := by
  cases c with
  | none => cases h; cases h'; exact PySem.SeqAt.EqAt.bool_bool false false
  | some n =>
    obtain ⟨t, rfl⟩ := h
    obtain ⟨t', rfl⟩ := h'
    have := PySem.SeqAt.EqAt.int_int (A := A) (s := s) (n : Int) t (n : Int) t'
    rwa [beq_self_eq_true] at this
theorem tup_ne {a b : Addr} {x : Str} {t1 t2 : Tok} {c : Option Nat} {v v' : Value} {d : Bool} {Q : Value → Shared → Prop} (ha : s.heap.IsTuple a #[.str x t1, v, .bool d]) (hb : s.heap.IsTuple b #[.str x t2, v', .bool d]) (hc : CntV c v) (hc' : CntV c v') (hu : A.units < cLine)
    (h : Q (.bool false) s) : wpAny (model prog w) A (compareOp .NotEq (.ref a) (.ref b)) Q E s := by
  refine (PySem.SeqAt.RcNeAt.tuples (A := A) (s := s) (e := fun _ => true) ha hb hu ?_) prog w E Q ?_
  · intro j h1 h2
    match j, h1, h2 with
    | 0, _, _ =>
      have := PySem.SeqAt.EqAt.str_str (A := A.in1) (s := s) x t1 x t2
      rwa [beq_self_eq_true] at this
    | 1, _, _ => exact cnt_eq hc hc'
    | 2, _, _ =>
      have := PySem.SeqAt.EqAt.bool_bool (A := A.in1) (s := s) d d
      rwa [beq_self_eq_true] at this
    | n + 3, h1, _ => exact absurd h1 (by simp)
  · have e : (!((List.range (min (#[Value.str x t1, v, .bool d] : Array Value).size (#[Value.str x t2, v', .bool d] : Array Value).size)).all (fun _ => true) && (#[Value.str x t1, v, .bool d] : Array Value).size == (#[Value.str x t2, v', .bool d] : Array Value).size)) = false := by simp
    rw [e]; exact h
end
end TNX
section S1eX
open PyProof.Rows.LCg
local macro_rules | `(tactic| walk_at "mine item") => `(tactic| (k_dflt (refine' item_strs _ (News.isList ?kn1 ?kn2) ?kw2 ?kw3 ?kw4 ?kw5 ?_ ?kw6 ?kw7); (case kn1 => k_dflt assumption); (case kn2 => first | assumption | ((repeat (refine List.mem_cons_of_mem _ ?_)); assumption) | k_mem); (case kw2 => (walk_at "mine strs")); (case kw3 => (walk_at "mine lo")); (case kw4 => (walk_at "mine hi")); (case kw5 => (walk_at "mine hi2")); (case kw6 => with_unfolding_all rfl); (case kw7 => (intro _; with_unfolding_all rfl)); intro _))
local macro_rules | `(tactic| walk_at "mine strs") => `(tactic| first | assumption | exact sa_dot _ _ | exact sa_lit _ _ _ _ | exact sa_conv _ _ _ _)
local macro_rules | `(tactic| walk_at "mine lo") => `(tactic| exact fmod_lo _ (by decide))
local macro_rules | `(tactic| walk_at "mine hi") => `(tactic| first | exact fmod_hi _ (by decide) | (refine Int.lt_of_lt_of_le (fmod_hi _ (by decide)) ?_; omega))
local macro_rules | `(tactic| walk_at "mine hi2") => `(tactic| exact Int.lt_of_lt_of_le (fmod_hi _ (by decide)) (by decide))
local macro_rules | `(tactic| walk_at "subscriptTail Name BinOp ref int") => `(tactic| walk_at "mine item")
local macro_rules | `(tactic| walk_at "subscriptTail List BinOp ref int") => `(tactic| walk_at "mine item")
local macro_rules | `(tactic| walk_at "exec For Name Name cons nil") => `(tactic| refine wpAny_For ?_)
local macro_rules | `(tactic| walk_at "binaryOp Mult ref int") => `(tactic| refine halt ?_)
local macro_rules | `(tactic| walk_at "pyIter ref") => `(tactic| refine halt ?_)
noncomputable def EvJ (xs : List Int) (names : List (List Nat)) (news : List (Addr × Obj)) (m₀ : Str → Option Value) (I : Addr) (i : Nat) (m : Str → Option Value) (nw : List (Addr × Obj)) : Prop :=
  ∃ (ev : List Ev) (lv : Nat) (E : Addr) (vs : List Value) (nn : Nat) (tx : List (Addr × Obj)) (t : Tok),
    (xs.take i).foldl (evStep names) ([], 0) = (ev, lv) ∧ lv ≤ 3 ∧ ev.length ≤ 4 * i ∧
    nw = (E, PySem.W.listOf vs.toArray nn) :: (tx ++ news) ∧ DatAll tx vs (ev.map evD) ∧ (∀ x ∈ tx, x.1 ≠ E) ∧ E ≠ I ∧ (∀ x ∈ tx, x.1 ≠ I) ∧ (∀ q ∈ news, q.1 < I) ∧ (∀ q ∈ news, q.1 < E) ∧ (∀ x ∈ tx, ∀ q ∈ news, q.1 < x.1) ∧
    (∀ p ∈ [(Str.ofString "events", Value.ref E), (Str.ofString "level", .int lv t)], m p.1 = some p.2) ∧
    (∀ z, (∀ p ∈ [(Str.ofString "events", Value.ref E), (Str.ofString "level", .int lv t)], z ≠ p.1) → [Str.ofString "x", Str.ofString "closed", Str.ofString "literal"].contains z = false → m z = m₀ z)
theorem EvJ.elim {xs : List Int} {names : List (List Nat)} {news : List (Addr × Obj)} {m₀ : Str → Option Value} {I : Addr} {i : Nat} {m : Str → Option Value} {nw : List (Addr × Obj)} {Mo : List (Addr × Obj) → Prop} (h : EvJ xs names news m₀ I i m nw)
    (k : ∀ (ev : List Ev) (lv : Nat) (E : Addr) (vs : List Value) (nn : Nat) (tx : List (Addr × Obj)) (t : Tok), ((xs.take i).foldl (evStep names) ([], 0) = (ev, lv)) → (lv ≤ 3) → (ev.length ≤ 4 * i) → (DatAll tx vs (ev.map evD)) → ((∀ x ∈ tx, x.1 ≠ E)) → (E ≠ I) → ((∀ x ∈ tx, x.1 ≠ I)) → ((∀ q ∈ news, q.1 < I)) → ((∀ q ∈ news, q.1 < E)) → ((∀ x ∈ tx, ∀ q ∈ news, q.1 < x.1)) → ((∀ p ∈ [(Str.ofString "events", Value.ref E), (Str.ofString "level", .int lv t)], m p.1 = some p.2)) → ((∀ z, (∀ p ∈ [(Str.ofString "events", Value.ref E), (Str.ofString "level", .int lv t)], z ≠ p.1) → [Str.ofString "x", Str.ofString "closed", Str.ofString "literal"].contains z = false → m z = m₀ z)) → Mo ((E, PySem.W.listOf vs.toArray nn) :: (tx ++ news))) : Mo nw := by
  obtain ⟨ev, lv, E, vs, nn, tx, t, z1, z2, z3, rfl, z4, z5, z6, z7, z8, z9, z10, z11, z12⟩ := h
  exact k ev lv E vs nn tx t z1 z2 z3 z4 z5 z6 z7 z8 z9 z10 z11 z12
theorem EvJ.mk' {xs : List Int} {names : List (List Nat)} {news : List (Addr × Obj)} {m₀ : Str → Option Value} {I : Addr} {i : Nat} {m : Str → Option Value} (ev : List Ev) (lv : Nat) (E : Addr) (vs : List Value) (nn : Nat) (tx : List (Addr × Obj)) (t : Tok) (z1 : (xs.take i).foldl (evStep names) ([], 0) = (ev, lv)) (z2 : lv ≤ 3) (z3 : ev.length ≤ 4 * i) (z4 : DatAll tx vs (ev.map evD)) (z5 : (∀ x ∈ tx, x.1 ≠ E)) (z6 : E ≠ I) (z7 : (∀ x ∈ tx, x.1 ≠ I)) (z8 : (∀ q ∈ news, q.1 < I)) (z9 : (∀ q ∈ news, q.1 < E)) (z10 : (∀ x ∈ tx, ∀ q ∈ news, q.1 < x.1)) (z11 : (∀ p ∈ [(Str.ofString "events", Value.ref E), (Str.ofString "level", .int lv t)], m p.1 = some p.2)) (z12 : (∀ z, (∀ p ∈ [(Str.ofString "events", Value.ref E), (Str.ofString "level", .int lv t)], z ≠ p.1) → [Str.ofString "x", Str.ofString "closed", Str.ofString "literal"].contains z = false → m z = m₀ z)) :
    EvJ xs names news m₀ I i m ((E, PySem.W.listOf vs.toArray nn) :: (tx ++ news)) := ⟨ev, lv, E, vs, nn, tx, t, z1, z2, z3, rfl, z4, z5, z6, z7, z8, z9, z10, z11, z12⟩
theorem events_spec (w : World) (mean mg mb news) (D1 D2 : Addr) (ws : List Value) (xs : List Int) (nvs : List Value) (names : List (List Nat)) (n1 n2 : Nat)
   (h1 : (D1, PySem.W.listOf ws.toArray n1) ∈ news) (hi : IntsAre ws xs) (h2 : (D2, PySem.W.listOf nvs.toArray n2) ∈ news) (hs : StrsAre nvs (names.map mk)) (h8 : names.length = 8) (hx : xs.length ≤ 10) :
   ClG 3 w mean mg mb 145 news [.ref D1, .ref D2] (EvRes (evAll names xs)) := by
  intro dp un gd cn cs a ccd cl outer A₀ base h₀ L m s Q E B F X N T hkk hd hu hret
  refine wpAny_call ?_
  k_dflt cell_enter
  rename Fr _ _ _ _ => lF
  replace lF := fr_as (fun y => List.lookup y [(Str.ofString "names", .ref D2), (Str.ofString "numbers", .ref D1)]) lF (by with_unfolding_all rfl)
  walk_at "mine step"
  dsimp only [Halt]
  rename Fr _ _ _ _ => lF
  rename News _ _ _ _ => lN
  have lN2 := cb_drop (news := [_] ++ news) lN (fun p hp => by
    rcases List.mem_append.mp hp with hp | hp
    · rw [List.mem_singleton] at hp; subst hp; exact List.mem_cons_of_mem _ (List.mem_cons_self ..)
    · exact List.mem_cons_of_mem _ (List.mem_cons_of_mem _ hp))
  rw [List.singleton_append] at lN2
  obtain ⟨E0, hE0⟩ := led_head lN2
  subst hE0
  rename (∀ p ∈ news, p.1 < _) => hE0
  refine for_listI (vs := ws) (nn := n1) (EvJ xs names news (fun y => List.lookup y [(Str.ofString "names", .ref D2), (Str.ofString "numbers", .ref D1)])) rfl lF lN2 ?_ ?_ ?_ ?_ ?_ (by passes_own) (fun _ _ _ _ _ _ _ _ h => go_name h)
  · intro I hI
    exact EvJ.mk' [] 0 E0 [] 0 [] _ (by rw [List.take_zero]; rfl) (Nat.zero_le _) (Nat.zero_le _) .nil (fun _ h => nomatch h) (Nat.ne_of_lt (hI _ (List.mem_cons_self ..))) (fun _ h => nomatch h) (fun q hq => hI q (List.mem_cons_of_mem _ hq)) hE0 (fun _ h => nomatch h) (by kst_all) (by walk_at "mine same")
  · intro I i m nw hJ
    refine hJ.elim (Mo := fun nw => (D1, PySem.W.listOf ws.toArray n1) ∈ nw) ?_
    intros
    exact List.mem_cons_of_mem _ (List.mem_append.mpr (.inr h1))
  · intro I i m nw hJ
    refine hJ.elim (Mo := fun nw => ∀ p ∈ nw, p.1 ≠ I) ?_
    intro ev lv E vs nn tx t _ _ _ _ _ a1 a2 a3 _ _ _ _ p hp
    rcases List.mem_cons.mp hp with rfl | hp
    · exact a1
    · rcases List.mem_append.mp hp with hp | hp
      · exact a2 p hp
      · exact Nat.ne_of_lt (a3 p hp)
  · intro i x m₁ nw I oI h tk hx1 hJ _
    clear lF lN lN2
    refine gx2 nw x fun G kG => ?_
    refine hJ.elim (Mo := fun nw => G nw x) ?_
    clear hJ
    intro ev lv E vs nn tx t e1 e2 e3 e5 e6 e6a e6b e6c e7 e8 e9 e10
    obtain ⟨k, tk1, rfl, hxk⟩ : ∃ k tk1, x = .int k tk1 ∧ xs[i]? = some k := ints_at hi hx1
    refine kG _ _ ?_
    clear kG
    intro F1 N1
    have F2 := ksw_fr e9 e10 F1
    clear F1
    have hi10 : i < xs.length := (List.getElem?_eq_some_iff.mp hxk).1
    have hD2 : (D2, PySem.W.listOf nvs.toArray n2) ∈ tx ++ news := List.mem_append.mpr (.inr h2)
    walk_at "mine step"
    dsimp only [Halt]
    rename News _ _ _ _ => lN
    rename Fr _ _ _ _ => lF
    generalize hcI : (if (if (lv : Int) - 2 > (k.fdiv 32).fmod 3 then (lv : Int) - 2 else (k.fdiv 32).fmod 3) < (lv : Int) then (if (lv : Int) - 2 > (k.fdiv 32).fmod 3 then (lv : Int) - 2 else (k.fdiv 32).fmod 3) else (lv : Int)) = cI at lF ⊢
    have hcc : cI = (closedOf k lv : Nat) := by rw [← hcI]; exact closed_is k lv
    clear hcI
    subst hcc
    generalize hcd : closedOf k lv = cd at lF ⊢
    have hcl : cd ≤ lv := by rw [← hcd]; exact Nat.min_le_left ..
    k_dflt (refine' KMa.mul lF lN (News.isList lN ?kn2) ?ka1 ?ka2 ?ka3 rfl ?_)
    case kn2 => k_mem
    case ka1 => omega
    case ka2 => omega
    case ka3 => show 1 * _ ≤ 256; omega
    intro D9 h9 F9 N9 l9
    obtain ⟨T, oT, hT, hoT⟩ := led3 N9
    subst hT
    subst hoT
    have hvl : vs.length = ev.length := by rw [datAll_len e5, List.length_map]
    k_dflt (refine' kmk_add_lit (its := vs.toArray) (its2 := (List.replicate cd [Value.ref T]).flatten.toArray) (zs := vs ++ List.replicate cd (.ref T)) F9 N9 (News.isList N9 ?ka1) (News.isList N9 ?ka2) ?ka3 ?_ ?ka4)
    case ka1 => k_mem
    case ka2 => k_mem
    case ka3 => simp
    case ka4 => simp only [List.length_flatten, List.map_replicate, List.sum_replicate_nat]; rw [PySem.sizeLine_eq]; simp; omega
    intro D8 h8' F8 N8 l8
    have hoff8 : ∀ x ∈ tx ++ news, x.1 ≠ D8 := fun x hx => Nat.ne_of_lt (l8 x (by repeat (first | exact hx | refine List.mem_cons_of_mem _ ?_)))
    have hvl2 : (vs ++ List.replicate cd (Value.ref T)).length ≤ 60 := by simp; omega
    (try k_lt l9)
    (try k_lt l8)
    walk_at "mine step"
    rename News _ _ _ _ => lN'
    obtain ⟨P2, o2, hP2, ho2, N7⟩ := led_turn lN'
    subst hP2
    rename Fr _ _ _ _ => lF'
    refine ⟨_, _, _, _, rfl, lF', N7, ?_⟩
    refine EvJ.mk' (tx := (P2, o2) :: (T, _) :: tx) (ev ++ List.replicate cd (.cl (dotOf k)) ++ [.op (litOf k) (nameOf names k) (convOf k)]) (lv - cd + 1) D8 _ _ ?tt ?j1 ?j2 ?j3 ?j4 ?j5 ?j5a ?j5b e6c ?j6 ?j7 ?j8 ?j9
    case j8 =>
      have hlv : ((lv - cd + 1 : Nat) : Int) = (lv : Int) - cd + 1 := by omega
      rw [hlv]
      kst_all
    case j9 => walk_at "mine same"
    case j1 => rw [fold_step e1 hxk, evStep, hcd]
    case j2 =>
      have : lv ≤ cd + 2 := by rw [← hcd]; exact min_lo ..
      omega
    case j3 => simp only [List.length_append, List.length_replicate, List.length_singleton]; omega
    case j4 =>
      rw [List.map_append, List.map_append, List.map_replicate]
      refine ((e5.mono fun p h => List.mem_cons_of_mem _ (List.mem_cons_of_mem _ h)).append (datAll_rep ?_ _)).append (.one ?_)
      · rw [dot_is]
        exact DatIn.tuple (vs := [_]) (List.mem_cons_of_mem _ (List.mem_cons_self ..)) (.cons (.str _ _) .nil)
      · rw [ho2, lit_is, name_is, conv_is]
        exact DatIn.tuple (vs := [_, _, _]) (List.mem_cons_self ..) (.cons (.str _ _) (.cons (.str _ _) (.cons (.str _ _) .nil)))
    case j5 =>
      intro x hx
      rcases List.mem_cons.mp hx with rfl | hx
      · show @Ne Nat P2 D8; omega
      · rcases List.mem_cons.mp hx with rfl | hx
        · show @Ne Nat T D8; omega
        · exact hoff8 x (List.mem_append.mpr (.inl hx))
    case j5a => show @Ne Nat D8 I; omega
    case j5b =>
      intro x hx
      rcases List.mem_cons.mp hx with rfl | hx
      · show @Ne Nat P2 I; omega
      · rcases List.mem_cons.mp hx with rfl | hx
        · show @Ne Nat T I; omega
        · exact e6b x hx
    case j6 =>
      intro q hq
      have : @LT.lt Nat _ I D8 := by omega
      exact Nat.lt_trans (e6c q hq) this
    case j7 =>
      intro x hx q hq
      have hI := e6c q hq
      rcases List.mem_cons.mp hx with rfl | hx
      · have : @LT.lt Nat _ I P2 := by omega
        exact Nat.lt_trans hI this
      · rcases List.mem_cons.mp hx with rfl | hx
        · have : @LT.lt Nat _ I T := by omega
          exact Nat.lt_trans hI this
        · exact e8 x hx q hq
  · intro I m₁ nw h tk hJ _
    clear lF lN lN2
    refine gx1 nw fun G kG => ?_
    refine hJ.elim (Mo := fun nw => G nw) ?_
    clear hJ
    intro ev lv E vs nn tx t e1 e2 e3 e5 e6 e6a e6b e6c e7 e8 e9 e10
    refine kG _ ?_
    clear kG
    intro F1 N1
    have F2 := ksw_fr e9 e10 F1
    clear F1
    rw [ints_len hi] at e1 e3
    rw [List.take_length] at e1
    have hvl : vs.length = ev.length := by rw [datAll_len e5, List.length_map]
    walk_at "mine step"
    dsimp only [Halt]
    rename News _ _ _ _ => lN
    rename Fr _ _ _ _ => lF
    k_dflt (refine' KMa.mul lF lN (News.isList lN ?kn2) ?ka1 ?ka2 ?ka3 rfl ?_)
    case kn2 => k_mem
    case ka1 => omega
    case ka2 => omega
    case ka3 => show 1 * _ ≤ 256; omega
    intro D9 h9 F9 N9 l9
    obtain ⟨T, oT, hT, hoT⟩ := led3 N9
    subst hT
    subst hoT
    k_dflt (refine' kmk_add_lit (its := vs.toArray) (its2 := (List.replicate lv [Value.ref T]).flatten.toArray) (zs := vs ++ List.replicate lv (.ref T)) F9 N9 (News.isList N9 ?ka1) (News.isList N9 ?ka2) ?ka3 ?_ ?ka4)
    case ka1 => k_mem
    case ka2 => k_mem
    case ka3 => simp
    case ka4 => simp only [List.length_flatten, List.map_replicate, List.sum_replicate_nat]; rw [PySem.sizeLine_eq]; simp; omega
    intro D8 h8' F8 N8 l8
    (try k_lt l9)
    have l8k := l8
    (try k_lt l8)
    walk_at "mine step"
    rename News _ _ _ _ => lN'
    have N7 := led_done lN'
    refine hret _ ((D8, _) :: (T, _) :: tx) _ _ (by assumption) N7 ?_ ⟨D8, _, _, _, rfl, rfl, ?_⟩
    · intro x hx q hq
      have hq2 := l8k q (by repeat (first | exact hq | refine List.mem_cons_of_mem _ ?_ | refine List.mem_append.mpr (.inr ?_)))
      have hq3 := e6c q hq
      rcases List.mem_cons.mp hx with rfl | hx
      · exact hq2
      · rcases List.mem_cons.mp hx with rfl | hx
        · have : @LT.lt Nat _ E T := by omega
          exact Nat.lt_trans (e7 q hq) this
        · exact e8 x hx q hq
    · have : evAll names xs = ev ++ List.replicate lv (.cl [34]) := by unfold evAll; rw [e1]
      rw [this, List.map_append, List.map_replicate]
      refine (e5.mono fun p h => List.mem_cons_of_mem _ h).append (datAll_rep ?_ _)
      exact DatIn.tuple (vs := [_]) (List.mem_cons_self ..) (.cons (.str _ _) .nil)
end S1eX
local macro_rules | `(tactic| walk_at "call builtin:list.append") => `(tactic| (k_dflt (refine' append_K (by k_asm) (by k_asm) (by k_upd) ?_ (by (simp only [List.size_toArray, List.length_append, List.length_singleton]; rw [PySem.sizeLine_eq]; omega))); intro h' F' N'; (rw [List.push_toArray] at N')))
section S1gX
open PyProof.Rows.LCg
local macro_rules | `(tactic| walk_at "exec For Name Name cons nil") => `(tactic| refine wpAny_For ?_)
local macro_rules | `(tactic| walk_at "pyIter ref") => `(tactic| refine halt ?_)
local macro_rules | `(tactic| walk_at "call builtin:list.pop") => `(tactic| (k_dflt (refine' pop_K (by k_asm) (by k_asm) (by k_upd) (by ((try simp only [List.length_append, List.length_singleton]); rw [PySem.sizeLine_eq]; omega)) ?_); intro h' F' N'))
local macro_rules | `(tactic| walk_at "subscriptTail Name UnaryOp ref int") => `(tactic| (k_dflt (refine' item_last (News.isList ?kn1 ?kn2) ?_ ?kw6 ?kw7); (case kn1 => k_dflt assumption); (case kn2 => k_mem); (case kw6 => with_unfolding_all rfl); (case kw7 => (intro _; with_unfolding_all rfl))))
local macro_rules | `(tactic| walk_at "call builtin:str.join") => `(tactic| ((k_dflt (refine' join_strs _ (News.isList (by assumption) (by k_mem)) (by first | assumption | (refine' strs_snoc ?kz; (case kz => assumption))) (by omega) ?_)); intro _ _))
local macro_rules | `(tactic| walk_at "call ref") => `(tactic| ((with_reducible show wpAny _ _ (call (Value.ref 150) [Value.str (mk _) _]) _ _ _); k_dflt (refine' quoted_spec _ _ _ _ _ _ _ rfl (by omega) _ _ _ _ _ _ _ _ _ _ _ _ _ _ _ _ _ _ ?k1 ?k2 ?k3 ?k4 ?k5 ?kK trivial ?kd ?ku ?_; (walk_at "mine cb")); (walk_at "mine in")))
local macro_rules | `(tactic| walk_at "exec If") => `(tactic| (refine halt ?_))
local macro_rules | `(tactic| walk_at "eval IfExp") => `(tactic| (refine halt ?_))
theorem fr_gl' {g h : Heap} {L : Addr} {m : Str → Option Value} (_ : Fr g L h m) : ∃ g' L', g' = g ∧ L' = L := ⟨g, L, rfl, rfl⟩
noncomputable def PgMid (g : Heap) (L : Addr) (mc : Str → Option Value) (s : Shared) (led : Addr × Obj → List (Addr × Obj)) (A1 : Addr) (ls : List (List Nat)) (fl : Flow) (s₂ : Shared) : Prop :=
  ∃ v n h' tk', fl = .next ∧ s₂ = { s with heap := h', toks := tk' } ∧ Fr g L h' mc ∧ News g L h' (led (A1, PySem.W.listOf v.toArray n)) ∧ StrsAre v (ls.map mk)
theorem wp_spec {M : Model} {A : Around} {m : Sem Flow} {Q : Flow → Shared → Prop} {E : Value → Shared → Prop} {s : Shared} {g : Heap} {L : Addr} {mc : Str → Option Value} {h0 : Heap} (_ : Fr g L h0 mc) (led : Addr × Obj → List (Addr × Obj)) (A1 : Addr) (ls : List (List Nat)) (h1 : wpAny M A m (PgMid g L mc s led A1 ls) E s)
    (h2 : ∀ v n h' tk', Fr g L h' mc → News g L h' (led (A1, PySem.W.listOf v.toArray n)) → StrsAre v (ls.map mk) → Q .next { s with heap := h', toks := tk' }) : wpAny M A m Q E s :=
  wpAny_mono h1 (fun fl s₂ ⟨v, n, h', tk', e1, e2, F, N, S⟩ => by subst e1 e2; exact h2 v n h' tk' F N S) (fun _ _ h => h)
theorem PgMid.mk' {g : Heap} {L : Addr} {mc : Str → Option Value} {s : Shared} {led : Addr × Obj → List (Addr × Obj)} {A1 : Addr} {ls : List (List Nat)} {v : List Value} {n : Nat} {h' : Heap} {tk' : Nat} (F : Fr g L h' mc) (N : News g L h' (led (A1, PySem.W.listOf v.toArray n))) (S : StrsAre v (ls.map mk)) :
    PgMid g L mc s led A1 ls .next { s with heap := h', toks := tk' } := ⟨v, n, h', tk', rfl, rfl, F, N, S⟩
noncomputable def HdMid (s : Shared) (x : List Nat) (v : Value) (s₂ : Shared) : Prop := ∃ t tk, v = .str (mk x) t ∧ s₂ = { s with toks := tk }
theorem wp_head {M : Model} {A : Around} {m : Sem Value} {Q : Value → Shared → Prop} {E : Value → Shared → Prop} {s : Shared} (x : List Nat) (h1 : wpAny M A m (HdMid s x) E s) (h2 : ∀ t tk, Q (.str (mk x) t) { s with toks := tk }) : wpAny M A m Q E s :=
  wpAny_mono h1 (fun v s₂ ⟨t, tk, e1, e2⟩ => by subst e1 e2; exact h2 t tk) (fun _ _ h => h)
theorem HdMid.mk' {s : Shared} {x : List Nat} {y : Str} {t : Tok} {tk : Nat} (e : y = mk x) : HdMid s x (.str y t) { s with toks := tk } := ⟨t, tk, by rw [e], rfl⟩
noncomputable def PgJ (es : List Ev) (pp : List (List Nat)) (news : List (Addr × Obj)) (m₀ : Str → Option Value) (I : Addr) (i : Nat) (m : Str → Option Value) (nw : List (Addr × Obj)) : Prop :=
  ∃ (stk : List (Addr × Obj)) (st : List (List (List Nat))) (as : List Addr) (hs : List (List Nat × List Nat × List Nat)) (hv pv : List Value) (PA HA : Addr) (np nh c : Nat),
    StkAre stk st as ∧ HeadsAre news hv hs ∧ st.length = hs.length + 1 ∧ pageGo (es.drop i) st hs = [pp] ∧ okGo (es.drop i) hs.length ∧ 2 * c + hs.length = i ∧ wt st + 64 ≤ 64 * 2 ^ c ∧
    pv = (as.reverse).map Value.ref ∧ nw = (PA, PySem.W.listOf pv.toArray np) :: (HA, PySem.W.listOf hv.reverse.toArray nh) :: (stk ++ news) ∧
    PA ≠ HA ∧ PA ≠ I ∧ HA ≠ I ∧ (∀ x ∈ stk, x.1 ≠ I ∧ x.1 ≠ PA ∧ x.1 ≠ HA) ∧ (∀ q ∈ news, q.1 < I ∧ q.1 < PA ∧ q.1 < HA ∧ ∀ x ∈ stk, q.1 < x.1) ∧
    (∀ p ∈ [(Str.ofString "pages", Value.ref PA), (Str.ofString "heads", Value.ref HA)], m p.1 = some p.2) ∧
    (∀ z, (∀ p ∈ [(Str.ofString "pages", Value.ref PA), (Str.ofString "heads", Value.ref HA)], z ≠ p.1) → [Str.ofString "event", Str.ofString "spec", Str.ofString "literal", Str.ofString "name", Str.ofString "conversion", Str.ofString "head"].contains z = false → m z = m₀ z)
theorem PgJ.mk' {es : List Ev} {pp : List (List Nat)} {news : List (Addr × Obj)} {m₀ : Str → Option Value} {I : Addr} {i : Nat} {m : Str → Option Value} (stk : List (Addr × Obj)) (st : List (List (List Nat))) (as : List Addr) (hs : List (List Nat × List Nat × List Nat)) (hv pv : List Value) (PA HA : Addr) (np nh c : Nat)
    (j1 : StkAre stk st as) (j2 : HeadsAre news hv hs) (j3 : st.length = hs.length + 1) (j4 : pageGo (es.drop i) st hs = [pp]) (j5 : okGo (es.drop i) hs.length) (j6 : 2 * c + hs.length = i) (j7 : wt st + 64 ≤ 64 * 2 ^ c) (j8 : pv = (as.reverse).map Value.ref)
    (a0 : PA ≠ HA) (a1 : PA ≠ I) (a2 : HA ≠ I) (a3 : ∀ x ∈ stk, x.1 ≠ I ∧ x.1 ≠ PA ∧ x.1 ≠ HA) (a4 : ∀ q ∈ news, q.1 < I ∧ q.1 < PA ∧ q.1 < HA ∧ ∀ x ∈ stk, q.1 < x.1)
    (m1 : ∀ p ∈ [(Str.ofString "pages", Value.ref PA), (Str.ofString "heads", Value.ref HA)], m p.1 = some p.2)
    (m2 : ∀ z, (∀ p ∈ [(Str.ofString "pages", Value.ref PA), (Str.ofString "heads", Value.ref HA)], z ≠ p.1) → [Str.ofString "event", Str.ofString "spec", Str.ofString "literal", Str.ofString "name", Str.ofString "conversion", Str.ofString "head"].contains z = false → m z = m₀ z) :
    PgJ es pp news m₀ I i m ((PA, PySem.W.listOf pv.toArray np) :: (HA, PySem.W.listOf hv.reverse.toArray nh) :: (stk ++ news)) :=
  ⟨stk, st, as, hs, hv, pv, PA, HA, np, nh, c, j1, j2, j3, j4, j5, j6, j7, j8, rfl, a0, a1, a2, a3, a4, m1, m2⟩
theorem PgJ.elim {es : List Ev} {pp : List (List Nat)} {news : List (Addr × Obj)} {m₀ : Str → Option Value} {I : Addr} {i : Nat} {m : Str → Option Value} {nw : List (Addr × Obj)} {P : List (Addr × Obj) → Prop} (h : PgJ es pp news m₀ I i m nw)
    (k : ∀ (stk : List (Addr × Obj)) (st : List (List (List Nat))) (as : List Addr) (hs : List (List Nat × List Nat × List Nat)) (hv pv : List Value) (PA HA : Addr) (np nh c : Nat),
      StkAre stk st as → HeadsAre news hv hs → st.length = hs.length + 1 → pageGo (es.drop i) st hs = [pp] → okGo (es.drop i) hs.length → 2 * c + hs.length = i → wt st + 64 ≤ 64 * 2 ^ c → pv = (as.reverse).map Value.ref →
      PA ≠ HA → PA ≠ I → HA ≠ I → (∀ x ∈ stk, x.1 ≠ I ∧ x.1 ≠ PA ∧ x.1 ≠ HA) → (∀ q ∈ news, q.1 < I ∧ q.1 < PA ∧ q.1 < HA ∧ ∀ x ∈ stk, q.1 < x.1) →
      (∀ p ∈ [(Str.ofString "pages", Value.ref PA), (Str.ofString "heads", Value.ref HA)], m p.1 = some p.2) →
      (∀ z, (∀ p ∈ [(Str.ofString "pages", Value.ref PA), (Str.ofString "heads", Value.ref HA)], z ≠ p.1) → [Str.ofString "event", Str.ofString "spec", Str.ofString "literal", Str.ofString "name", Str.ofString "conversion", Str.ofString "head"].contains z = false → m z = m₀ z) →
      P ((PA, PySem.W.listOf pv.toArray np) :: (HA, PySem.W.listOf hv.reverse.toArray nh) :: (stk ++ news))) : P nw := by
  obtain ⟨stk, st, as, hs, hv, pv, PA, HA, np, nh, c, j1, j2, j3, j4, j5, j6, j7, j8, rfl, a0, a1, a2, a3, a4, m1, m2⟩ := h
  exact k stk st as hs hv pv PA HA np nh c j1 j2 j3 j4 j5 j6 j7 j8 a0 a1 a2 a3 a4 m1 m2
theorem page_spec (w : World) (mean mg mb news) (D : Addr) (vs : List Value) (nn : Nat) (p : P) (hD : (D, PySem.W.listOf vs.toArray nn) ∈ news) (hda : DatAll news vs (p.evs.map evD)) (ok : ∀ e ∈ p.evs, EvOk e) (hn : p.nf ≤ 10) :
   ClN 3 w mean mg mb 157 news [.ref D] (fun t => .str (mk (p.text [])) t) := by
  intro dp un gd cn cs a ccd cl outer A₀ base h₀ L m s Q E B F X N T hkk hd hu hret
  refine wpAny_call ?_
  k_dflt cell_enter
  rename Fr _ _ _ _ => lF
  replace lF := fr_as (fun y => List.lookup y [(Str.ofString "events", .ref D)]) lF (by with_unfolding_all rfl)
  walk_at "mine step"
  dsimp only [Halt]
  rename Fr _ _ _ _ => lF
  rename News _ _ _ _ => lN
  obtain ⟨HA0, PA0, A0, eH, eP, eA, lN2⟩ := led_pg lN
  subst eH eP eA
  obtain ⟨g', L', eg, eL⟩ := fr_gl' lF
  subst eg eL
  have hA0 : ∀ p ∈ news, p.1 < A0 := by assumption
  have hPA : A0 < PA0 ∧ AllLt PA0 news := by assumption
  have hHA : PA0 < HA0 ∧ A0 < HA0 ∧ AllLt HA0 news := by assumption
  refine for_listI (vs := vs) (nn := nn) (PgJ p.evs p.parts news (fun y => List.lookup y [(Str.ofString "events", .ref D)])) rfl lF lN2 ?_ ?_ ?_ ?_ ?_ (by passes_own) (fun _ _ _ _ _ _ _ _ h => go_name h)
  · intro I hI
    refine PgJ.mk' [(A0, _)] [[]] [A0] [] [] [.ref A0] PA0 HA0 0 0 0 (.cons .nil .nil (fun _ h => nomatch h)) .nil rfl (pageGo_all p) (okGo_all p) rfl (by decide) rfl ?_ ?_ ?_ ?_ ?_ (by kst_all) (by walk_at "mine same")
    · exact Nat.ne_of_lt hHA.1
    · exact Nat.ne_of_lt (hI _ (List.mem_cons_self ..))
    · exact Nat.ne_of_lt (hI _ (List.mem_cons_of_mem _ (List.mem_cons_self ..)))
    · intro x hx
      rw [List.mem_singleton] at hx; subst hx
      exact ⟨Nat.ne_of_lt (hI _ (List.mem_cons_of_mem _ (List.mem_cons_of_mem _ (List.mem_cons_self ..)))), Nat.ne_of_lt hPA.1, Nat.ne_of_lt hHA.2.1⟩
    · intro q hq
      refine ⟨hI q (List.mem_cons_of_mem _ (List.mem_cons_of_mem _ (List.mem_cons_of_mem _ hq))), allLt_to hPA.2 q hq, allLt_to hHA.2.2 q hq, fun x hx => ?_⟩
      rw [List.mem_singleton] at hx; subst hx
      exact hA0 q hq
  · intro I i m nw hJ
    refine hJ.elim (P := fun nw => (D, PySem.W.listOf vs.toArray nn) ∈ nw) ?_
    intros
    exact List.mem_cons_of_mem _ (List.mem_cons_of_mem _ (List.mem_append.mpr (.inr hD)))
  · intro I i m nw hJ
    refine hJ.elim (P := fun nw => ∀ p ∈ nw, p.1 ≠ I) ?_
    intro stk st as hs hv pv PA HA np nh c _ _ _ _ _ _ _ _ _ a1 a2 a3 a4 _ _ p hp
    rcases List.mem_cons.mp hp with rfl | hp
    · exact a1
    · rcases List.mem_cons.mp hp with rfl | hp
      · exact a2
      · rcases List.mem_append.mp hp with hp | hp
        · exact (a3 p hp).1
        · exact Nat.ne_of_lt (a4 p hp).1
  · intro i x m₁ nw I oI h tk hx1 hJ _
    clear lF lN lN2
    refine gx2 nw x fun G kG => ?_
    refine hJ.elim (P := fun nw => G nw x) ?_
    clear hJ
    intro stk st as hs hv pv PA HA np nh c j1 j2 j3 j4 j5 j6 j7 j8 a0 a1 a2 a3 a4 m1 m2
    have hi20 : i < p.evs.length := by
      have := datAll_len hda
      rw [List.length_map] at this
      rw [← this]
      exact (List.getElem?_eq_some_iff.mp hx1).1
    rw [nf_len] at hi20
    obtain ⟨e, he, hde⟩ := evs_at hda hx1
    have hok := ok e (List.mem_of_getElem? he)
    rw [drop_at he] at j4 j5
    have hvl := heads_len j2
    have hasl := stk_len j1
    have hpl : pv.length = as.length := by rw [j8]; simp
    have hqPA : @Ne Nat PA HA := a0
    cases e with
    | op l n c' =>
      obtain ⟨T, t1, t2, t3, k, rfl, hT⟩ := ev_op hde
      obtain ⟨b1, b2, b3, b4⟩ := a4 _ hT
      have b2' := ltN b2
      have b3' := ltN b3
      dsimp only at b2' b3'
      refine kG _ _ ?_
      clear kG
      intro F1 N1
      have F2 := ksw_fr m1 m2 F1
      clear F1
      have N2 : News _ _ _ ((T, _) :: (PA, PySem.W.listOf pv.toArray np) :: (HA, PySem.W.listOf hv.reverse.toArray nh) :: (I, oI) :: (stk ++ news)) := cb_drop N1 (sub_cons (memt _ (memt _ (memt _ (List.mem_append.mpr (.inr hT))))) (by walk_at "mine sub"))
      clear N1
      have hf1 : ∀ x ∈ (I, oI) :: (stk ++ news), x.1 ≠ PA := fun x hx => by
        rcases List.mem_cons.mp hx with rfl | hx
        · exact Ne.symm a1
        · rcases List.mem_append.mp hx with hx | hx
          · exact (a3 x hx).2.1
          · exact Nat.ne_of_lt (a4 x hx).2.1
      have hf2 : ∀ x ∈ (I, oI) :: (stk ++ news), x.1 ≠ HA := fun x hx => by
        rcases List.mem_cons.mp hx with rfl | hx
        · exact Ne.symm a2
        · rcases List.mem_append.mp hx with hx | hx
          · exact (a3 x hx).2.2
          · exact Nat.ne_of_lt (a4 x hx).2.2.1
      have hf3 : ∀ x ∈ (HA, PySem.W.listOf (hv.reverse ++ [Value.ref T]).toArray (nh + 1)) :: (I, oI) :: (stk ++ news), x.1 ≠ PA := fun x hx => by
        rcases List.mem_cons.mp hx with rfl | hx
        · exact Ne.symm a0
        · exact hf1 x hx
      have hrl : hv.reverse.length ≤ 20 := by rw [List.length_reverse]; omega
      walk_at "mine step"
      dsimp only [Halt]
      refine wpAny_If ?_
      walk_at "mine step"
      rename News _ _ _ _ => lN'
      rename Fr _ _ _ _ => lF'
      obtain ⟨D5, o5, e5, e5', N7⟩ := led_op lN'
      subst e5
      have q5 : T < D5 ∧ PA < D5 ∧ HA < D5 ∧ I < D5 ∧ AllLt D5 (stk ++ news) := by assumption
      refine ⟨_, _, _, (PA, PySem.W.listOf (pv ++ [Value.ref D5]).toArray (np + 1)) :: (HA, PySem.W.listOf (hv.reverse ++ [Value.ref T]).toArray (nh + 1)) :: (((D5, o5) :: stk) ++ news), rfl, lF', N7, ?_⟩
      rw [← List.reverse_cons]
      refine PgJ.mk' ((D5, o5) :: stk) ([] :: st) (D5 :: as) ((l, n, c') :: hs) (.ref T :: hv) (pv ++ [.ref D5]) PA HA (np + 1) (nh + 1) c ?_ (.cons hT hok.1 hok.2.1 hok.2.2 j2) ?_ j4 j5 ?_ ?_ ?_ a0 a1 a2 ?_ ?_ ?_ ?_
      · rw [e5']; exact .cons (vs := []) .nil j1 (fun x hx => allLt_to q5.2.2.2.2 x (List.mem_append.mpr (.inl hx)))
      · simp only [List.length_cons]; omega
      · simp only [List.length_cons]; omega
      · have : wt ([] :: st) = wt st := by simp [wt, wl]
        rw [this]; exact j7
      · rw [List.reverse_cons, List.map_append, j8]; rfl
      · intro x hx
        rcases List.mem_cons.mp hx with rfl | hx
        · exact ⟨Ne.symm (Nat.ne_of_lt q5.2.2.2.1), Ne.symm (Nat.ne_of_lt q5.2.1), Ne.symm (Nat.ne_of_lt q5.2.2.1)⟩
        · exact a3 x hx
      · intro q hq
        obtain ⟨c1, c2, c3, c4⟩ := a4 q hq
        refine ⟨c1, c2, c3, fun x hx => ?_⟩
        rcases List.mem_cons.mp hx with rfl | hx
        · exact Nat.lt_trans c1 q5.2.2.2.1
        · exact c4 x hx
      · kst_all
      · walk_at "mine same"
    | cl k =>
      obtain ⟨T, t1, kk, rfl, hT⟩ := ev_cl hde
      obtain ⟨hpos, j5'⟩ := j5
      cases j2 with
      | nil => exact absurd hpos (Nat.lt_irrefl _)
      | @cons T2 u1 u2 u3 n2 l n c' hv' hs' hT2 o1 o2 o3 j2' =>
      cases j1 with
      | nil => simp at j3
      | @cons A1 v1 n1 sp r1 st1 as1 s1 j1' d1 =>
      cases j1' with
      | nil => simp at j3
      | @cons A2 v2 n3 top r st2 as2 s2 j1'' d2 =>
      obtain ⟨pw, hpw⟩ : ∃ pw, pw = as2.reverse.map Value.ref := ⟨_, rfl⟩
      have j8' : pv = (pw ++ [Value.ref A2]) ++ [Value.ref A1] := by rw [j8, hpw]; simp
      subst j8'
      clear j8
      simp only [List.length_cons, List.length_append] at hpl hvl hasl j3 j6 hpos j5'
      have hs20 : hs'.length ≤ 20 := by omega
      have hpw2 : pw.length + 1 + 1 = as2.length + 1 + 1 := hpl
      have hpwl : pw.length ≤ 20 := by rw [Nat.succ.inj (Nat.succ.inj hpw2), Nat.succ.inj (Nat.succ.inj hasl), Nat.succ.inj (Nat.succ.inj j3)]; exact hs20
      have hhvl : hv'.reverse.length ≤ 20 := by rw [List.length_reverse, Nat.succ.inj hvl]; exact hs20
      obtain ⟨b1, b2, b3, b4⟩ := a4 _ hT
      have f1 : @LT.lt Nat _ T PA := ltN b2
      have f2 : @LT.lt Nat _ T HA := ltN b3
      have f3 : @LT.lt Nat _ T A1 := b4 _ (List.mem_cons_self ..)
      have f4 : @LT.lt Nat _ T A2 := b4 _ (List.mem_cons_of_mem _ (List.mem_cons_self ..))
      obtain ⟨b1', b2', b3', b4'⟩ := a4 _ hT2
      have g1 : @LT.lt Nat _ T2 PA := ltN b2'
      have g2 : @LT.lt Nat _ T2 HA := ltN b3'
      have g3 : @LT.lt Nat _ T2 A1 := b4' _ (List.mem_cons_self ..)
      have g4 : @LT.lt Nat _ T2 A2 := b4' _ (List.mem_cons_of_mem _ (List.mem_cons_self ..))
      have g5 : @LT.lt Nat _ A2 A1 := d1 _ (List.mem_cons_self ..)
      obtain ⟨p1, p2, p3⟩ := a3 _ (List.mem_cons_self ..)
      have p1' : @Ne Nat A1 I := p1
      have p2' : @Ne Nat A1 PA := p2
      have p3' : @Ne Nat A1 HA := p3
      obtain ⟨r1, r2, r3⟩ := a3 _ (List.mem_cons_of_mem _ (List.mem_cons_self ..))
      have r1' : @Ne Nat A2 I := r1
      have r2' : @Ne Nat A2 PA := r2
      have r3' : @Ne Nat A2 HA := r3
      have q1' : @Ne Nat PA I := a1
      have q2' : @Ne Nat HA I := a2
      clear b1 b2 b3 b1' b2' b3' p1 p2 p3 r1 r2 r3
      have a3' : ∀ x ∈ r, x.1 ≠ I ∧ x.1 ≠ PA ∧ x.1 ≠ HA := fun x hx => a3 x (List.mem_cons_of_mem _ (List.mem_cons_of_mem _ hx))
      have hf1 : ∀ x ∈ r ++ news, x.1 ≠ A1 := fun x hx => by
        rcases List.mem_append.mp hx with hx | hx
        · exact Nat.ne_of_lt (d1 x (List.mem_cons_of_mem _ hx))
        · exact Nat.ne_of_lt ((a4 x hx).2.2.2 _ (List.mem_cons_self ..))
      have hf2 : ∀ x ∈ r ++ news, x.1 ≠ A2 := fun x hx => by
        rcases List.mem_append.mp hx with hx | hx
        · exact Nat.ne_of_lt (d2 x hx)
        · exact Nat.ne_of_lt ((a4 x hx).2.2.2 _ (List.mem_cons_of_mem _ (List.mem_cons_self ..)))
      have hf3 : ∀ x ∈ r ++ news, x.1 ≠ PA := fun x hx => by
        rcases List.mem_append.mp hx with hx | hx
        · exact (a3' x hx).2.1
        · exact Nat.ne_of_lt (a4 x hx).2.1
      have hf4 : ∀ x ∈ r ++ news, x.1 ≠ HA := fun x hx => by
        rcases List.mem_append.mp hx with hx | hx
        · exact (a3' x hx).2.2
        · exact Nat.ne_of_lt (a4 x hx).2.2.1
      have hc10 : c < 10 := by omega
      have hc2 : 2 ^ c ≤ 512 := Nat.le_trans (Nat.pow_le_pow_right (by decide) (by omega : c ≤ 9)) (by decide)
      have hw1 : wl sp + wl top ≤ 32768 := by
        simp only [wt, List.map_cons, List.sum_cons] at j7; omega
      have hv1 : v1.length ≤ 32768 := by have := s1.len_eq; rw [List.length_map] at this; have := wl_len sp; omega
      have hv2 : v2.length ≤ 32768 := by have := s2.len_eq; rw [List.length_map] at this; have := wl_len top; omega
      have hk : k ∈ cloS := hok
      have hkl : k.length ≤ 1 := by
        have : ∀ k ∈ cloS, k.length ≤ 1 := by decide
        exact this k hk
      have hll : l.length ≤ 3 := by
        have : ∀ k ∈ litS, k.length ≤ 3 := by decide
        exact this l o1
      have hnl : n.length ≤ 1 := by
        have : ∀ k ∈ nameS, k.length ≤ 1 := by decide
        exact this n o2
      have hcl : c'.length ≤ 1 := by
        have : ∀ k ∈ convS, k.length ≤ 1 := by decide
        exact this c' o3
      have hqk : (quotedL k).length ≤ 4 := Nat.le_trans (quotedL_le k) (Nat.add_le_add_right (Nat.mul_le_mul_left 2 hkl) 2)
      have hql : (quotedL l).length ≤ 8 := Nat.le_trans (quotedL_le l) (Nat.add_le_add_right (Nat.mul_le_mul_left 2 hll) 2)
      have hwk : wl (sp ++ [quotedL k]) ≤ 40000 := by rw [wl_app]; simp only [wl, List.map_cons, List.map_nil, List.sum_cons, List.sum_nil] at hw1 ⊢; omega
      have hjl1 : (joinL sp).length ≤ 40000 := by have := joinL_len sp; unfold wl at hw1; omega
      have hjl2 : (joinL (sp ++ [quotedL k])).length ≤ 40000 := by have := joinL_len (sp ++ [quotedL k]); unfold wl at hwk; omega
      have hqj1 := quotedL_le (joinL sp)
      have hqj2 := quotedL_le (joinL (sp ++ [quotedL k]))
      have hsl1 : (Str.ofString " ").length = 1 := rfl
      have hsl2 : (Str.ofString "!").length = 1 := rfl
      have hwc : wl (sp ++ clo k) ≤ 40000 := by
        unfold clo; split
        · rw [List.append_nil]; omega
        · exact hwk
      have hjl3 : (joinL (sp ++ clo k)).length ≤ 40000 := by have := joinL_len (sp ++ clo k); unfold wl at hwc; omega
      have hqj3 := quotedL_le (joinL (sp ++ clo k))
      have hhl : (headL n c').length ≤ 3 := by unfold headL; split <;> (try simp only [List.length_append, List.length_cons]) <;> omega
      refine kG _ _ ?_
      clear kG
      rw [List.reverse_cons]
      intro F1 N1
      have F2 := ksw_fr m1 m2 F1
      clear F1
      have N2 : News _ _ _ ((fun x => (T, ({ cls := .type "tuple", data := .seq #[.str (mk k) t1] kk } : Obj)) :: (T2, ({ cls := .type "tuple", data := .seq #[.str (mk l) u1, .str (mk n) u2, .str (mk c') u3] n2 } : Obj)) :: x :: (A2, PySem.W.listOf v2.toArray n3) :: (PA, PySem.W.listOf ((pw ++ [Value.ref A2]) ++ [Value.ref A1]).toArray np) :: (HA, PySem.W.listOf (hv'.reverse ++ [Value.ref T2]).toArray nh) :: (I, oI) :: (r ++ news)) (A1, PySem.W.listOf v1.toArray n1)) := cb_drop N1 (sub_cons (memt _ (memt _ (memt _ (List.mem_append.mpr (.inr hT))))) (sub_cons (memt _ (memt _ (memt _ (List.mem_append.mpr (.inr hT2))))) (by walk_at "mine sub")))
      clear N1
      dsimp only at N2
      walk_at "mine step"
      dsimp only [Halt]
      refine wpAny_If ?_
      walk_at "mine step"
      dsimp only [Halt]
      rename Fr _ _ _ _ => lF6
      rename News _ _ _ _ => lN6
      refine wp_spec (g := g') (L := L') lF6 (fun x => (T, ({ cls := .type "tuple", data := .seq #[.str (mk k) t1] kk } : Obj)) :: (T2, ({ cls := .type "tuple", data := .seq #[.str (mk l) u1, .str (mk n) u2, .str (mk c') u3] n2 } : Obj)) :: x :: (A2, PySem.W.listOf v2.toArray n3) :: (PA, PySem.W.listOf ((pw ++ [Value.ref A2]) ++ [Value.ref A1]).toArray np) :: (HA, PySem.W.listOf (hv'.reverse ++ [Value.ref T2]).toArray nh) :: (I, oI) :: (r ++ news)) A1 (sp ++ clo k) ?_ ?_
      · by_cases hk0 : k = []
        · have qk : (mk k != Str.ofString "") = false := by rw [hk0]; rfl
          refine wpAny_If ?_
          walk_at "mine step"
          rename News _ _ _ _ => lN'
          rename Fr _ _ _ _ => lF'
          exact PgMid.mk' lF' lN' (by rw [show clo k = [] from by rw [hk0]; rfl, List.append_nil]; exact s1)
        · have qk : (mk k != Str.ofString "") = true := by rw [show Str.ofString "" = mk [] from rfl, bne, mk_beq]; simp [hk0]
          refine wpAny_If ?_
          walk_at "mine step"
          rename News _ _ _ _ => lN'
          rename Fr _ _ _ _ => lF'
          exact PgMid.mk' lF' lN' (by rw [show clo k = [quotedL k] from by unfold clo; rw [if_neg hk0]]; exact strs_snoc s1)
      · clear lF6 lN6 s1 hv1
        intro v1' n1' h9 tk9 F9 N9 s1'
        try dsimp only at N9
        have hv1' : v1'.length ≤ 40000 := by have := s1'.len_eq; rw [List.length_map] at this; have := wl_len (sp ++ clo k); omega
        walk_at "mine step"
        dsimp only [Halt]
        refine wp_head (headL n c') ?_ ?_
        · by_cases hc0 : c' = []
          · have qc : (mk c' != Str.ofString "") = false := by rw [hc0]; rfl
            with_reducible refine IfExp_ ?_
            walk_at "mine step"
            exact HdMid.mk' (by rw [headL, if_pos hc0])
          · have qc : (mk c' != Str.ofString "") = true := by rw [show Str.ofString "" = mk [] from rfl, bne, mk_beq]; simp [hc0]
            with_reducible refine IfExp_ ?_
            walk_at "mine step"
            exact HdMid.mk' (by rw [headL, if_neg hc0, show Str.ofString "!" = mk [33] from rfl, mk_append, mk_append]; simp)
        · intro t9 tk8
          walk_at "mine step"
          rename News _ _ _ _ => lN'
          rename Fr _ _ _ _ => lF'
          have N7 := led_cl lN'
          have hX : mk (quotedL l) ++ Str.ofString " " ++ mk (headL n c') ++ Str.ofString " " ++ mk (quotedL (joinL (sp ++ clo k))) = mk (fldL l n c' (joinL (sp ++ clo k))) := by
            rw [show Str.ofString " " = mk [32] from rfl]
            simp only [mk_append]
            simp [fldL]
          refine ⟨_, _, _, (PA, PySem.W.listOf (pw ++ [Value.ref A2]).toArray (np + 1)) :: (HA, PySem.W.listOf hv'.reverse.toArray (nh + 1)) :: (((A2, _) :: r) ++ news), rfl, lF', N7, ?_⟩
          refine PgJ.mk' ((A2, _) :: r) ((top ++ [fldL l n c' (joinL (sp ++ clo k))]) :: st2) (A2 :: as2) hs' hv' (pw ++ [.ref A2]) PA HA (np + 1) (nh + 1) (c + 1) (.cons (strs_snoc' s2 hX) j1'' d2) j2' ?_ j4 j5' ?_ ?_ ?_ a0 a1 a2 ?_ ?_ ?_ ?_
          · simp only [List.length_cons]; omega
          · omega
          · have := wt_close (sp := sp) (top := top) (st := st2) o1 o2 o3 hk
            rw [Nat.pow_succ]; omega
          · rw [List.reverse_cons, List.map_append, ← hpw]; rfl
          · intro x hx
            rcases List.mem_cons.mp hx with rfl | hx
            · exact ⟨r1', r2', r3'⟩
            · exact a3' x hx
          · intro q hq
            obtain ⟨c1, c2, c3, c4⟩ := a4 q hq
            have c5 := c4 _ (List.mem_cons_of_mem _ (List.mem_cons_self ..))
            refine ⟨c1, c2, c3, fun x hx => ?_⟩
            rcases List.mem_cons.mp hx with rfl | hx
            · exact c5
            · exact c4 x (List.mem_cons_of_mem _ (List.mem_cons_of_mem _ hx))
          · kst_all
          · walk_at "mine same"
  · intro I m₁ nw h tk hJ _
    clear lF lN lN2
    refine gx1 nw fun G kG => ?_
    refine hJ.elim (P := fun nw => G nw) ?_
    clear hJ
    intro stk st as hs hv pv PA HA np nh c j1 j2 j3 j4 j5 j6 j7 j8 a0 a1 a2 a3 a4 m1 m2
    have hvl : vs.length = p.evs.length := by rw [datAll_len hda, List.length_map]
    rw [hvl, List.drop_length] at j4 j5
    have j4' : st = [p.parts] := j4
    subst j4'
    cases j1 with
    | @cons A1 v1 n1 sp r1 st1 as1 s1 j1' d1 =>
    cases j1' with
    | nil =>
    have j8' : pv = [Value.ref A1] := j8
    subst j8'
    have hc10 : c ≤ 10 := by rw [hvl, nf_len] at j6; omega
    have hc2 : 2 ^ c ≤ 1024 := Nat.le_trans (Nat.pow_le_pow_right (by decide) hc10) (by decide)
    have hw : wl p.parts ≤ 70000 := by
      simp only [wt, List.map_cons, List.map_nil, List.sum_cons, List.sum_nil] at j7; omega
    have hsl1 : (Str.ofString " ").length = 1 := rfl
    refine kG _ ?_
    clear kG
    intro F1 N1
    have F2 := ksw_fr m1 m2 F1
    clear F1
    simp only [List.cons_append, List.nil_append] at N1
    walk_at "mine step"
    refine cb_retS (Q := Q) (s := s) hret ?_ (by assumption) (by first | assumption | (refine' cb_drop ?cbN ?cbS; (case cbN => assumption); (case cbS => kcj_all)))
    show mk (joinL p.parts) = mk (joinL (p.parts ++ clo []))
    rw [show clo [] = [] from rfl, List.append_nil]
end S1gX
section S1fX
open PyProof.Rows.LCg
noncomputable abbrev LamOk (w : World) (mean : ExcName → Option Value) (mg mb : Str → Option Value) (f c' : Addr) (o oc : Obj) : Prop :=
  (∃ cl od fd sl, o = (⟨cl, od, .func fd, sl⟩ : Obj)) ∧ ∀ (rest : List (Addr × Obj)) (v sp : List Nat) (t u : Tok), v.length + sp.length ≤ 1000000 → ClN 1 w mean mg mb f ((f, o) :: (c', oc) :: rest) [.str (mk v) t, .str (mk sp) u] (fun t => .str (mk (40 :: (v ++ 58 :: (sp ++ [41])))) t)
noncomputable def lamQ : Str := Str.ofString "_law_form.<locals>.<lambda>"
noncomputable def CodOk (oc : Obj) : Prop := ∃ vs t, oc.data = .fields vs ∧ vs[1]? = some (.str lamQ t)
noncomputable abbrev formD (w : World) (t1 t2 t3 : Tok) (f : Addr) : Obj :=
  dictOf [{ hash := PyData.keyHash w.params (Str.ofString "parse"), key := .str (Str.ofString "parse") t1, val := .ref 171 }, { hash := PyData.keyHash w.params (Str.ofString "get_field"), key := .str (Str.ofString "get_field") t2, val := .ref 178 },
    { hash := PyData.keyHash w.params (Str.ofString "format_field"), key := .str (Str.ofString "format_field") t3, val := .ref f }] 3
noncomputable def TabOk (ps : Array Value) (rest : List (Addr × Obj)) : Prop := ps = #[] ∨ ∃ c' oc, (c', oc) ∈ rest ∧ ps = #[rawInt 149, rawInt 24, Value.ref c'] ∧ CodOk oc
theorem allLt_to' {d : Addr} : ∀ {l : List (Addr × Obj)}, AllLt d l → ∀ q ∈ l, q.1 < d
  | [], _, q, h => nomatch h
  | p :: r, h, q, hq => by
    rcases List.mem_cons.mp hq with rfl | hq
    · exact h.1
    · exact allLt_to' h.2 q hq
theorem led_form {h₀ h : Heap} {L f c' x d : Addr} {o oc ox od ot : Obj} {r : List (Addr × Obj)} (N : News h₀ L h ((f, o) :: (c', oc) :: (x, ox) :: (d, od) :: (180, ot) :: r)) :
    ∃ f' o' c'' oc' x' d', f' = f ∧ o' = o ∧ c'' = c' ∧ oc' = oc ∧ x' = x ∧ d' = d ∧ News h₀ L h ((180, ot) :: (c'', oc') :: (f', o') :: (x', ox) :: (d', od) :: r) := by
  refine ⟨f, o, c', oc, x, d, rfl, rfl, rfl, rfl, rfl, rfl, cb_drop N ?_⟩
  repeat (refine sub_cons (by k_mem) ?_)
  repeat (first | exact sub_refl _ | refine sub_tail _ ?_)
theorem led_form2 {h₀ h : Heap} {L f c' x d : Addr} {o oc ox od ot : Obj} {r : List (Addr × Obj)} (N : News h₀ L h ((f, o) :: (x, ox) :: (d, od) :: (180, ot) :: (c', oc) :: r)) :
    ∃ f' o' x' d', f' = f ∧ o' = o ∧ x' = x ∧ d' = d ∧ News h₀ L h ((180, ot) :: (c', oc) :: (f', o') :: (x', ox) :: (d', od) :: r) := by
  refine ⟨f, o, x, d, rfl, rfl, rfl, rfl, cb_drop N ?_⟩
  repeat (refine sub_cons (by k_mem) ?_)
  repeat (first | exact sub_refl _ | refine sub_tail _ ?_)
theorem form_spec (w : World) (mean : ExcName → Option Value) (mg mb : Str → Option Value) (ps : Array Value) (rest : List (Addr × Obj))
    (dp un : Nat) (gd : Option (List Code)) (cn : Str) (cs : Scope) (a : Addr) (ccd : Value) (cl : List (Str × Addr)) (outer : List Env) (A₀ : Around) (base h₀ : Heap) (L : Addr) (m : Str → Option Value) (s : Shared) (Q E : Value → Shared → Prop)
    (B : Below A₀ base outer h₀) (F : Fr h₀ L s.heap m) (X : (hd.heap_1 w.params).In h₀) (C : CodeHd base 184 180) (hoff : ∀ x ∈ rest, x.1 ≠ 180) (htab : TabOk ps rest) (N : News h₀ L s.heap ((180, tabObj ps) :: rest)) (T : Top topProg (looseW hd.view_39 [] ++ List.map (fun x => x.name) (recsOf hd.view_39) ++ List.map (fun x => x.fst) (litsOf hd.view_39) ++ List.map (fun x => x.name) (clssOf hd.view_39 (looseW hd.view_39 []))) mean mg mb h₀) (hkk : cs.kind = .function)
    (hd : dp + 3 < recursionLimit) (hu : un + 8 * 3 < cLine)
    (hret : ∀ (f c' x d : Addr) (o oc : Obj) (t1 t2 t3 : Tok) h' tk', Fr h₀ L h' m → News h₀ L h' ((180, tabObj #[rawInt 149, rawInt 24, Value.ref c']) :: (c', oc) :: (f, o) :: (x, instObj 102 d) :: (d, formD w t1 t2 t3 f) :: rest) → LamOk w mean mg mb f c' o oc → CodOk oc →
      (∀ q ∈ (180, tabObj ps) :: rest, q.1 < f ∧ q.1 < x ∧ q.1 < d) → ((∀ q ∈ (180, tabObj ps) :: rest, q.1 < c') ∨ ((c', oc) ∈ rest ∧ ps = #[rawInt 149, rawInt 24, Value.ref c'])) → Q (.ref x) { s with heap := h', toks := tk' }) :
      wpAny (model PySem.Challenge.rw_ik0030_01.row.prog w) (ktrTop dp un gd cn cs L a ccd cl outer) (call (.ref 185) []) Q E s := by
  rcases htab with rfl | ⟨c', oc, hc, rfl, hcod⟩
  · refine wpAny_call ?_
    k_dflt cell_enter
    walk_at "mine step"
    rename News h₀ L _ _ => lN'
    obtain ⟨f, o, c', oc, x, d, ef, eo, ec, eoc, ex, ed, N7⟩ := led_form lN'
    subst ef ec eoc ex ed
    have hcod : CodOk oc := ⟨_, _, by assumption, by with_unfolding_all assumption⟩
    have lam : LamOk w mean mg mb f c' o oc := by
      subst eo
      obtain ⟨vs2, t2, d1, d2⟩ := hcod
      refine ⟨⟨_, _, _, _, rfl⟩, ?_⟩
      intro rest v sp t u hvs dp un gd cn cs a ccd cl outer A₀ base h₀ L m s Q E B F X N T hkk hd hu hret
      have hl1 : (Str.ofString "(").length = 1 := rfl
      have hl2 : (Str.ofString ":").length = 1 := rfl
      have hl3 : (Str.ofString ")").length = 1 := rfl
      refine wpAny_call ?_
      k_dflt (refine' kla_code ?k1 ?k2 ?k3 ?k4 ?k5 ?kA ?kF ?kK ?k6 ?k7 ?k8 ?k9 ?kB ?_ ?c2 ?c3 ?c4 ?c5; (case kA => exact rfl); (case kF => exact rfl); (case kK => exact hkk); (case k1 => k_asm); (case k2 => k_asm); (case k3 => k_asm); (case k4 => k_asm); (case k5 => k_asm); (case k6 => k_mem); (case k7 => exact codeRec_news (by k_asm) (by k_mem) d1 (by with_unfolding_all exact d2)); (case k8 => ktr_room); (case k9 => exact rfl); (case c5 => decide); (case kB => exact locs rfl); (case c2 => exact rfl); (case c3 => exact rfl); (case c4 => exact rfl); k_whole; intro g' L' h' FG' F' N' B' X' T')
      walk_at "mine step"
      refine cb_retS (Q := Q) (s := s) hret ?_ (by assumption) (by assumption)
      show mk [40] ++ mk v ++ mk [58] ++ mk sp ++ mk [41] = _
      simp only [mk_append]
      simp
    have a1 : @LT.lt Nat _ 180 d ∧ AllLt d rest := by assumption
    have a2 : @LT.lt Nat _ d x := by assumption
    have a3 : @LT.lt Nat _ x c' ∧ @LT.lt Nat _ d c' ∧ @LT.lt Nat _ 180 c' ∧ AllLt c' rest := by assumption
    have a4 : @LT.lt Nat _ c' f := by assumption
    refine hret f c' x d o oc _ _ _ _ _ (by assumption) N7 lam hcod ?_ (.inl ?_)
    · intro q hq
      rcases List.mem_cons.mp hq with rfl | hq
      · refine ⟨?_, ?_, ?_⟩
        · show @LT.lt Nat _ 180 f; omega
        · show @LT.lt Nat _ 180 x; omega
        · show @LT.lt Nat _ 180 d; omega
      · have b1 := ltN (allLt_to' a1.2 q hq)
        refine ⟨?_, ?_, ?_⟩
        · show @LT.lt Nat _ q.1 f; omega
        · show @LT.lt Nat _ q.1 x; omega
        · show @LT.lt Nat _ q.1 d; omega
    · intro q hq
      rcases List.mem_cons.mp hq with rfl | hq
      · exact a3.2.2.1
      · exact allLt_to' a3.2.2.2 q hq
  · have N2 : News h₀ L s.heap ((180, tabObj #[rawInt 149, rawInt 24, Value.ref c']) :: (c', oc) :: rest) := cb_drop N (fun p hp => by
      rcases List.mem_cons.mp hp with rfl | hp
      · exact List.mem_cons_self ..
      · rcases List.mem_cons.mp hp with rfl | hp
        · exact List.mem_cons_of_mem _ hc
        · exact List.mem_cons_of_mem _ hp)
    clear N
    refine wpAny_call ?_
    k_dflt cell_enter
    walk_at "mine step"
    rename News h₀ L _ _ => lN'
    obtain ⟨f, o, x, d, ef, eo, ex, ed, N7⟩ := led_form2 lN'
    subst ef ex ed
    have lam : LamOk w mean mg mb f c' o oc := by
      subst eo
      obtain ⟨vs2, t2, d1, d2⟩ := hcod
      refine ⟨⟨_, _, _, _, rfl⟩, ?_⟩
      intro rest v sp t u hvs dp un gd cn cs a ccd cl outer A₀ base h₀ L m s Q E B F X N T hkk hd hu hret
      have hl1 : (Str.ofString "(").length = 1 := rfl
      have hl2 : (Str.ofString ":").length = 1 := rfl
      have hl3 : (Str.ofString ")").length = 1 := rfl
      refine wpAny_call ?_
      k_dflt (refine' kla_code ?k1 ?k2 ?k3 ?k4 ?k5 ?kA ?kF ?kK ?k6 ?k7 ?k8 ?k9 ?kB ?_ ?c2 ?c3 ?c4 ?c5; (case kA => exact rfl); (case kF => exact rfl); (case kK => exact hkk); (case k1 => k_asm); (case k2 => k_asm); (case k3 => k_asm); (case k4 => k_asm); (case k5 => k_asm); (case k6 => k_mem); (case k7 => exact codeRec_news (by k_asm) (by k_mem) d1 (by with_unfolding_all exact d2)); (case k8 => ktr_room); (case k9 => exact rfl); (case c5 => decide); (case kB => exact locs rfl); (case c2 => exact rfl); (case c3 => exact rfl); (case c4 => exact rfl); k_whole; intro g' L' h' FG' F' N' B' X' T')
      walk_at "mine step"
      refine cb_retS (Q := Q) (s := s) hret ?_ (by assumption) (by assumption)
      show mk [40] ++ mk v ++ mk [58] ++ mk sp ++ mk [41] = _
      simp only [mk_append]
      simp
    have a1 : @LT.lt Nat _ 180 d ∧ @LT.lt Nat _ c' d ∧ AllLt d rest := by assumption
    have a2 : @LT.lt Nat _ d x := by assumption
    have a3 : @LT.lt Nat _ x f ∧ @LT.lt Nat _ d f ∧ @LT.lt Nat _ 180 f ∧ @LT.lt Nat _ c' f ∧ AllLt f rest := by assumption
    refine hret f c' x d o oc _ _ _ _ _ (by assumption) N7 lam hcod ?_ (.inr ⟨hc, rfl⟩)
    intro q hq
    rcases List.mem_cons.mp hq with rfl | hq
    · refine ⟨a3.2.2.1, ?_, a1.1⟩
      show @LT.lt Nat _ 180 x; omega
    · have b1 := ltN (allLt_to' a1.2.2 q hq)
      refine ⟨allLt_to' a3.2.2.2.2 q hq, ?_, b1⟩
      show @LT.lt Nat _ q.1 x; omega
end S1fX
section S1vX
open PyProof.Rows.LCg
local macro_rules | `(tactic| walk_at "leaving ref") => `(tactic| refine halt ?_)
local macro_rules | `(tactic| walk_at "subscriptTail Name Name ref int") => `(tactic| refine halt ?_)
local macro_rules | `(tactic| walk_at "subscriptTail Name Name ref str") => `(tactic| refine halt ?_)
noncomputable abbrev ERet (base h₀ : Heap) (L : Addr) (m : Str → Option Value) (envs : List Env) (s : Shared) (E : Value → Shared → Prop) (Exc : String → List (Addr × Obj) → Prop) : Prop :=
  ∀ (X : String) (Sur : List (Addr × Obj)) (e : Addr) (g₂ h' : Heap) (tk' : Nat), Exc X Sur → Fr h₀ L g₂ m → RaisedSN base g₂ envs e (.type X) Sur h' → g₂.UpToSlots h' → E (.ref e) { s with heap := h', toks := tk' }
noncomputable abbrev ClX (k : Nat) (w : World) (mean : ExcName → Option Value) (mg mb : Str → Option Value) (f : Addr) (news : List (Addr × Obj)) (vs : List Value) (Res : List (Addr × Obj) → List (Addr × Obj) → Value → Prop) (Exc : String → List (Addr × Obj) → Prop) : Prop :=
  ∀ (dp un : Nat) (gd : Option (List Code)) (cn : Str) (cs : Scope) (a : Addr) (ccd : Value) (cl : List (Str × Addr)) (outer : List Env) (A₀ : Around) (base h₀ : Heap) (L : Addr) (m : Str → Option Value) (s : Shared) (Q E : Value → Shared → Prop),
    Below A₀ base outer h₀ → Fr h₀ L s.heap m → (hd.heap_1 w.params).In h₀ → News h₀ L s.heap news → Top topProg (looseW hd.view_39 [] ++ List.map (fun x => x.name) (recsOf hd.view_39) ++ List.map (fun x => x.fst) (litsOf hd.view_39) ++ List.map (fun x => x.name) (clssOf hd.view_39 (looseW hd.view_39 []))) mean mg mb h₀ → cs.kind = .function →
    dp + k < recursionLimit → un + 8 * k < cLine →
    (∀ (v : Value) (nx news' : List (Addr × Obj)) (h' : Heap) (tk' : Nat), Fr h₀ L h' m → News h₀ L h' (nx ++ news') → (∀ p ∈ nx, ∀ q ∈ news', q.1 < p.1) → Res nx news' v → Q v { s with heap := h', toks := tk' }) →
    ERet base h₀ L m (envX cn cs L a ccd cl :: outer) s E Exc →
      wpAny (model PySem.Challenge.rw_ik0030_01.row.prog w) (ktrTop dp un gd cn cs L a ccd cl outer) (call (.ref f) vs) Q E s
theorem getv_int (w : World) (mean mg mb news) (F0 AA KW : Addr) (n : Nat) (t : Tok) (avs : List Value) (na : Nat) (hA : (AA, PySem.W.listOf avs.toArray na) ∈ news) (hs : StrsAre avs ((rowL.map Prod.fst).map mk)) (hn : n < 1000) :
   ClX 2 w mean mg mb 64 news [.ref F0, .int n t, .ref AA, .ref KW] (fun nx news' v => nx = [] ∧ news' = news ∧ ∃ x t, look (.int n) = .ok x ∧ v = .str (mk x.1) t) (fun X Sur => Sur = news ∧ look (.int n) = .error .I ∧ X = "IndexError") := by
  intro dp un gd cn cs a ccd cl outer A₀ base h₀ L m s Q E B F X N T hkk hd hu hret hexc
  refine wpAny_call ?_
  k_dflt cell_enter
  rename Fr _ _ _ _ => lF
  replace lF := fr_as (fun y => List.lookup y [(Str.ofString "kwargs", .ref KW), (Str.ofString "args", .ref AA), (Str.ofString "key", .int n t), (Str.ofString "self", .ref F0)]) lF (by with_unfolding_all rfl)
  walk_at "mine step"
  dsimp only [Halt]
  rename News _ _ _ _ => lN
  have hl := News.isList lN hA
  have hlen : avs.length = 6 := by have := hs.len_eq; simpa [rowL] using this
  by_cases h6 : n < 6
  · refine item_strs (rowL.map Prod.fst) hl hs (by omega) (by show (n : Int) < 6; omega) (by omega) ?_ (by with_unfolding_all rfl) (by intro _; with_unfolding_all rfl)
    intro t7
    walk_at "mine step"
    rename Fr h₀ L _ _ => kF
    rename News h₀ L _ _ => kN
    refine hret _ [] news _ _ kF kN (fun _ h => nomatch h) ⟨rfl, rfl, ?_⟩
    have hx : rowL[n]? = some (rowL[n]'h6) := List.getElem?_eq_getElem h6
    refine ⟨rowL[n]'h6, t7, by simp only [look, hx], ?_⟩
    congr 1
    rw [List.getD_eq_getElem?_getD, List.getElem?_map, Int.toNat_natCast, hx]; rfl
  · refine item_outK (by with_unfolding_all rfl) hl (.inr ?_) (by omega) (by omega) ?_ (by with_unfolding_all rfl)
    · simp; omega
    · intro h7 tk7 e7 hx7
      walk_at "mine step"
      dsimp only [Halt]
      rename Below _ _ _ _ => B'
      rename Fr h₀ L _ _ => FG'
      refine leave_newS B' hx7 lF lN (fun h8 R8 _ U8 => hexc _ _ _ _ _ _ ⟨rfl, ?_, rfl⟩ FG' R8 U8)
      have hx : rowL[n]? = none := List.getElem?_eq_none (by show 6 ≤ n; omega)
      simp only [look, hx]
noncomputable abbrev kwE (w : World) : KeyKind PySem.Challenge.rw_ik0030_01.row.prog w Str := PySem.strKind PySem.Challenge.rw_ik0030_01.row.prog w
theorem getv_str (w : World) (mean mg mb news) (F0 AA KW : Addr) (l : List Nat) (t : Tok) (okw : Obj) (u1 u2 : Tok) (hK : (KW, okw) ∈ news) (hkd : okw.IsDictOf (kwE w) [(mk [107], .str (mk [75]) u1), (mk [110], .str (mk [39]) u2)]) (lo : (KW == sysModules) = false) :
   ClX 2 w mean mg mb 64 news [.ref F0, .str (mk l) t, .ref AA, .ref KW] (fun nx news' v => nx = [] ∧ news' = news ∧ ∃ x t, look (.str l) = .ok x ∧ v = .str (mk x.1) t) (fun X Sur => Sur = news ∧ look (.str l) = .error .K ∧ X = "KeyError") := by
  intro dp un gd cn cs a ccd cl outer A₀ base h₀ L m s Q E B F X N T hkk hd hu hret hexc
  refine wpAny_call ?_
  k_dflt cell_enter
  rename Fr _ _ _ _ => lF
  replace lF := fr_as (fun y => List.lookup y [(Str.ofString "kwargs", .ref KW), (Str.ofString "args", .ref AA), (Str.ofString "key", .str (mk l) t), (Str.ofString "self", .ref F0)]) lF (by with_unfolding_all rfl)
  walk_at "mine step"
  dsimp only [Halt]
  rename News _ _ _ _ => lN
  cases hv : valueAt [(mk [107], Value.str (mk [75]) u1), (mk [110], Value.str (mk [39]) u2)] (mk l) with
  | some v =>
    refine kda_item lN hK hkd (strKind_is _ _ _ _) hv ?_ (by with_unfolding_all rfl) (by intro _; with_unfolding_all rfl)
    walk_at "mine step"
    rename Fr h₀ L _ _ => kF
    rename News h₀ L _ _ => kN
    refine hret _ [] news _ _ kF kN (fun _ h => nomatch h) ⟨rfl, rfl, ?_⟩
    simp only [valueAt, List.find?] at hv
    by_cases h1 : l = [107]
    · subst h1
      simp only [decide_true, Option.map_some] at hv
      cases hv
      exact ⟨_, u1, rfl, rfl⟩
    · have e1 : decide (mk [107] = mk l) = false := decide_eq_false fun e => h1 (mk_inj.mp e).symm
      rw [e1] at hv
      by_cases h2 : l = [110]
      · subst h2
        simp only [decide_true, Option.map_some] at hv
        cases hv
        exact ⟨_, u2, rfl, rfl⟩
      · have e2 : decide (mk [110] = mk l) = false := decide_eq_false fun e => h2 (mk_inj.mp e).symm
        rw [e2] at hv
        cases hv
  | none =>
    refine tail_any (kda_dict lN hK hkd).typeIs PySem.F.slot_dict_getitem.lookup (wpAny_getItem_missing_of (strKind_is _ _ _ _) lo (by with_unfolding_all rfl) (kda_dict lN hK hkd).mapOf hv ?_) (by with_unfolding_all rfl)
    intro h7 e7 hx7
    walk_at "mine step"
    dsimp only [Halt]
    rename Below _ _ _ _ => B'
    rename Fr h₀ L _ _ => FG'
    refine leave_newS B' hx7 lF lN (fun h8 R8 _ U8 => hexc _ _ _ _ _ _ ⟨rfl, ?_, rfl⟩ FG' R8 U8)
    simp only [look]
    rw [if_neg, if_neg]
    · rintro rfl; simp [valueAt] at hv
    · rintro rfl; simp [valueAt] at hv
end S1vX
local macro_rules | `(tactic| walk_at "call builtin:str.isdigit") => `(tactic| (refine KXw.isdigit (by assumption) ?_))
section S1iX
open PyProof.Rows.LCg
local macro_rules | `(tactic| walk_at "leaving ref") => `(tactic| refine halt ?_)
local macro_rules | `(tactic| walk_at "call ref") => `(tactic| ((with_reducible show wpAny _ _ (call (Value.ref 64) _) _ _ _); refine halt ?_))
local macro_rules | `(tactic| walk_at "call type:int") => `(tactic| ((with_reducible show wpAny _ _ (call (Value.type "int") [Value.str _ _]) _ _ _); (refine KIN.call_text (by assumption) (by assumption) ?_)))
noncomputable def numS (n : Nat) : Str := Str.ofString (toString (n : Int))
theorem num_digit : ∀ n, n < 20 → Txt.isdigit (numS n) = true := by decide +kernel
theorem num_int : ∀ n : Nat, n < 20 → PySem.intText? (numS n) = some (n : Int) := by decide +kernel
theorem num_len : ∀ n : Nat, n < 20 → (numS n).length ≤ 640 := by decide +kernel
theorem k_digit : ∀ l ∈ ([[107],[110],[122]] : List (List Nat)), Txt.isdigit (mk l) = false := by decide +kernel
noncomputable def Key.name : Key → Str
  | .int n => numS n
  | .str l => mk l
noncomputable def KeyOk : Key → Prop
  | .int n => n < 20
  | .str l => l ∈ ([[107],[110],[122]] : List (List Nat))
noncomputable def KeyVal : Key → Value → Prop
  | .int n, v => ∃ t, v = .int n t
  | .str l, v => ∃ t, v = .str (mk l) t
def errN : Err → String
  | .K => "KeyError"
  | .I => "IndexError"
  | .V => "ValueError"
theorem raisedSN_sub {base G : Heap} {l : List Env} {e : Addr} {cls : Value} {news news' : List (Addr × Obj)} {h : Heap} (R : RaisedSN base G l e cls news h) (hs : ∀ p ∈ news', p ∈ news) : RaisedSN base G l e cls news' h := by
  obtain ⟨B, a0, h1, h2, h3, h4⟩ := R
  exact ⟨B, a0, h1, h2, fun q hq => h3 q (hs q hq), h4⟩
structure Args (w : World) (news : List (Addr × Obj)) (AA KW : Addr) : Prop where
  a : ∃ avs na, (AA, PySem.W.listOf avs.toArray na) ∈ news ∧ StrsAre avs ((rowL.map Prod.fst).map mk)
  k : ∃ okw u1 u2, (KW, okw) ∈ news ∧ okw.IsDictOf (kwE w) [(mk [107], .str (mk [75]) u1), (mk [110], .str (mk [39]) u2)]
  lo : (KW == sysModules) = false
theorem Args.mono {w : World} {news news' : List (Addr × Obj)} {AA KW : Addr} (h : Args w news AA KW) (hs : ∀ p ∈ news, p ∈ news') : Args w news' AA KW := by
  obtain ⟨⟨avs, na, a1, a2⟩, ⟨okw, u1, u2, b1, b2⟩, lo⟩ := h
  exact ⟨⟨avs, na, hs _ a1, a2⟩, ⟨okw, u1, u2, hs _ b1, b2⟩, lo⟩
theorem getv (w : World) (mean mg mb news) (F0 AA KW : Addr) (k : Key) (hk : KeyOk k) (v : Value) (hv : KeyVal k v) (ha : Args w news AA KW) :
   ClX 2 w mean mg mb 64 news [.ref F0, v, .ref AA, .ref KW] (fun nx news' v => nx = [] ∧ news' = news ∧ ∃ x t, look k = .ok x ∧ v = .str (mk x.1) t) (fun X Sur => Sur = news ∧ ∃ e, look k = .error e ∧ X = errN e) := by
  obtain ⟨⟨avs, na, a1, a2⟩, ⟨okw, u1, u2, b1, b2⟩, lo⟩ := ha
  intro dp un gd cn cs a ccd cl outer A₀ base h₀ L m s Q E B F X N T hkk hd hu hret hexc
  cases k with
  | int n =>
    obtain ⟨t, rfl⟩ := hv
    exact getv_int w mean mg mb news F0 AA KW n t avs na a1 a2 (Nat.lt_trans hk (by decide)) dp un gd cn cs a ccd cl outer A₀ base h₀ L m s Q E B F X N T hkk hd hu hret
      (fun X Sur e g2 h' tk' hx => hexc X Sur e g2 h' tk' ⟨hx.1, .I, hx.2.1, hx.2.2⟩)
  | str l =>
    obtain ⟨t, rfl⟩ := hv
    exact getv_str w mean mg mb news F0 AA KW l t okw u1 u2 b1 b2 lo dp un gd cn cs a ccd cl outer A₀ base h₀ L m s Q E B F X N T hkk hd hu hret
      (fun X Sur e g2 h' tk' hx => hexc X Sur e g2 h' tk' ⟨hx.1, .K, hx.2.1, hx.2.2⟩)
theorem field_spec (w : World) (mean mg mb news) (AA KW : Addr) (k : Key) (hk : KeyOk k) (t : Tok) (ha : Args w news AA KW) :
   ClX 4 w mean mg mb 178 news [.str k.name t, .ref AA, .ref KW]
     (fun nx news' v => news' = news ∧ ∃ x T t1 kv c, look k = .ok x ∧ v = .ref T ∧ nx = [(T, { cls := .type "tuple", data := .seq #[.str (mk x.1) t1, kv] c })] ∧ KeyVal k kv) (fun X Sur => Sur = news ∧ ∃ e, look k = .error e ∧ X = errN e) := by
  intro dp un gd cn cs a ccd cl outer A₀ base h₀ L m s Q E B F X N T hkk hd hu hret hexc
  cases k with
  | int n =>
    have f1 := num_digit n hk
    have f2 := num_int n hk
    have f3 := num_len n hk
    refine wpAny_call ?_
    k_dflt cell_enter
    rename Fr _ _ _ _ => lF
    replace lF := fr_as (fun y => List.lookup y [(Str.ofString "kwargs", .ref KW), (Str.ofString "args", .ref AA), (Str.ofString "name", .str (numS n) t)]) lF (by with_unfolding_all rfl)
    walk_at "mine step"
    dsimp only [Halt]
    k_dflt (refine' getv w mean mg mb _ _ AA KW (.int n) hk _ ⟨_, rfl⟩ ?km _ _ _ _ _ _ _ _ _ _ _ _ _ _ _ _ _ ?k1 ?k2 ?k3 ?k4 ?k5 ?kK ?kd ?ku ?kr ?ke; (walk_at "mine cb"))
    case km => exact ha.mono (fun x hx => List.mem_cons_of_mem _ (List.mem_cons_of_mem _ hx))
    case kr =>
      rintro v9 nx9 news9 h9 tk9 F9 N9 l9 ⟨rfl, rfl, x, t7, hx, rfl⟩
      rw [List.nil_append] at N9
      (try dsimp only)
      (try k_fold)
      walk_at "mine step"
      rename Fr h₀ L _ _ => kF
      rename News h₀ L _ _ => kN
      obtain ⟨T, oT, hT, hoT⟩ := led_obj kN
      subst hT
      refine hret _ [(T, oT)] news _ _ kF (cb_drop kN fun p hp => ?_) ?_ ⟨rfl, x, T, _, _, _, hx, rfl, by rw [hoT], ⟨_, rfl⟩⟩
      · rcases List.mem_cons.mp hp with rfl | hp
        · rw [hoT]; exact List.mem_cons_self ..
        · exact List.mem_cons_of_mem _ (List.mem_cons_of_mem _ (List.mem_cons_of_mem _ hp))
      · intro p hp q hq
        rw [List.mem_singleton] at hp
        subst hp
        exact ltt2 (d := T) (r := news) (by assumption) q hq
    case ke =>
      rintro X Sur e g2 h' tk' ⟨rfl, er, he, rfl⟩ F2 R2 U2
      (try dsimp only)
      (try k_fold)
      walk_at "mine step"
      dsimp only [Halt]
      rename Below _ _ _ _ => B'
      rename Fr h₀ L _ _ => FG'
      exact leave_onSN B' F2 R2 U2 (fun h8 R8 _ U8 => hexc _ _ _ _ _ _ ⟨rfl, er, he, rfl⟩ FG' (raisedSN_sub R8 (fun x hx => List.mem_cons_of_mem _ (List.mem_cons_of_mem _ hx))) U8)
  | str l =>
    have f1 := k_digit l hk
    refine wpAny_call ?_
    k_dflt cell_enter
    rename Fr _ _ _ _ => lF
    replace lF := fr_as (fun y => List.lookup y [(Str.ofString "kwargs", .ref KW), (Str.ofString "args", .ref AA), (Str.ofString "name", .str (mk l) t)]) lF (by with_unfolding_all rfl)
    walk_at "mine step"
    dsimp only [Halt]
    k_dflt (refine' getv w mean mg mb _ _ AA KW (.str l) hk _ ⟨_, rfl⟩ ?km _ _ _ _ _ _ _ _ _ _ _ _ _ _ _ _ _ ?k1 ?k2 ?k3 ?k4 ?k5 ?kK ?kd ?ku ?kr ?ke; (walk_at "mine cb"))
    case km => exact ha.mono (fun x hx => List.mem_cons_of_mem _ (List.mem_cons_of_mem _ hx))
    case kr =>
      rintro v9 nx9 news9 h9 tk9 F9 N9 l9 ⟨rfl, rfl, x, t7, hx, rfl⟩
      rw [List.nil_append] at N9
      (try dsimp only)
      (try k_fold)
      walk_at "mine step"
      rename Fr h₀ L _ _ => kF
      rename News h₀ L _ _ => kN
      obtain ⟨T, oT, hT, hoT⟩ := led_obj kN
      subst hT
      refine hret _ [(T, oT)] news _ _ kF (cb_drop kN fun p hp => ?_) ?_ ⟨rfl, x, T, _, _, _, hx, rfl, by rw [hoT], ⟨_, rfl⟩⟩
      · rcases List.mem_cons.mp hp with rfl | hp
        · rw [hoT]; exact List.mem_cons_self ..
        · exact List.mem_cons_of_mem _ (List.mem_cons_of_mem _ (List.mem_cons_of_mem _ hp))
      · intro p hp q hq
        rw [List.mem_singleton] at hp
        subst hp
        exact ltt2 (d := T) (r := news) (by assumption) q hq
    case ke =>
      rintro X Sur e g2 h' tk' ⟨rfl, er, he, rfl⟩ F2 R2 U2
      (try dsimp only)
      (try k_fold)
      walk_at "mine step"
      dsimp only [Halt]
      rename Below _ _ _ _ => B'
      rename Fr h₀ L _ _ => FG'
      exact leave_onSN B' F2 R2 U2 (fun h8 R8 _ U8 => hexc _ _ _ _ _ _ ⟨rfl, er, he, rfl⟩ FG' (raisedSN_sub R8 (fun x hx => List.mem_cons_of_mem _ (List.mem_cons_of_mem _ hx))) U8)
end S1iX
local macro_rules | `(tactic| walk_at "pad 1") => `(tactic| skip)
local macro_rules | `(tactic| walk_at "pad 2") => `(tactic| skip)
local macro_rules | `(tactic| walk_at "pad 3") => `(tactic| skip)
section S1cX
open PyProof.Rows.LCg
theorem conv_none (w : World) (mean mg mb) (x : Str) (t : Tok) (slf : Value) :
   ∀ news, ClN 2 w mean mg mb 85 news [slf, .str x t, .none] (fun t => .str x t) := by
  intro news
  dsimp only [ClN, CbRet]
  intro dp un gd cn cs a ccd cl outer A₀ base h₀ L m s Q E B F X N T hk hd hu hret
  refine wpAny_call ?_
  k_dflt cell_enter
  rename Fr _ _ _ _ => lF
  replace lF := fr_as (fun y => List.lookup y [(Str.ofString "conversion", Value.none), (Str.ofString "value", Value.str x t), (Str.ofString "self", slf)]) lF (by with_unfolding_all rfl)
  walk_at "mine step"
  exact cb_retS (Q := Q) (s := s) hret rfl (by assumption) (by walk_at "mine news")
theorem conv_s (w : World) (mean mg mb) (x : Str) (t u : Tok) (slf : Value) (hx : x.length ≤ 1000000) :
   ∀ news, ClN 2 w mean mg mb 85 news [slf, .str x t, .str (Str.ofString "s") u] (fun t => .str x t) := by
  intro news
  dsimp only [ClN, CbRet]
  intro dp un gd cn cs a ccd cl outer A₀ base h₀ L m s Q E B F X N T hk hd hu hret
  refine wpAny_call ?_
  k_dflt cell_enter
  rename Fr _ _ _ _ => lF
  replace lF := fr_as (fun y => List.lookup y [(Str.ofString "conversion", Value.str (Str.ofString "s") u), (Str.ofString "value", Value.str x t), (Str.ofString "self", slf)]) lF (by with_unfolding_all rfl)
  walk_at "mine step"
  exact cb_retS (Q := Q) (s := s) hret rfl (by assumption) (by walk_at "mine news")
theorem conv_r (w : World) (mean mg mb) (x : Str) (t u : Tok) (slf : Value) (hx : x.length ≤ 100000) (hr : (reprText x).length ≤ 1000000) :
   ∀ news, ClN 2 w mean mg mb 85 news [slf, .str x t, .str (Str.ofString "r") u] (fun t => .str (reprText x) t) := by
  intro news
  dsimp only [ClN, CbRet]
  intro dp un gd cn cs a ccd cl outer A₀ base h₀ L m s Q E B F X N T hk hd hu hret
  refine wpAny_call ?_
  k_dflt cell_enter
  rename Fr _ _ _ _ => lF
  replace lF := fr_as (fun y => List.lookup y [(Str.ofString "conversion", Value.str (Str.ofString "r") u), (Str.ofString "value", Value.str x t), (Str.ofString "self", slf)]) lF (by with_unfolding_all rfl)
  walk_at "mine step"
  exact cb_retS (Q := Q) (s := s) hret rfl (by assumption) (by walk_at "mine news")
local macro_rules | `(tactic| walk_at "call builtin:ascii") => `(tactic| (refine ascii_of_str ?_ (by assumption) (by assumption); intro _ _))
theorem conv_a (w : World) (mean mg mb) (x : Str) (t u : Tok) (slf : Value) (hx : x.length ≤ 100000) (hr : (reprText x).length ≤ 1000000) (hr2 : (ascText (reprText x)).length ≤ sizeLine) :
   ∀ news, ClN 2 w mean mg mb 85 news [slf, .str x t, .str (Str.ofString "a") u] (fun t => .str (ascText (reprText x)) t) := by
  intro news
  dsimp only [ClN, CbRet]
  intro dp un gd cn cs a ccd cl outer A₀ base h₀ L m s Q E B F X N T hk hd hu hret
  refine wpAny_call ?_
  k_dflt cell_enter
  rename Fr _ _ _ _ => lF
  replace lF := fr_as (fun y => List.lookup y [(Str.ofString "conversion", Value.str (Str.ofString "a") u), (Str.ofString "value", Value.str x t), (Str.ofString "self", slf)]) lF (by with_unfolding_all rfl)
  walk_at "mine step"
  exact cb_retS (Q := Q) (s := s) hret rfl (by assumption) (by walk_at "mine news")

theorem val_rep : ∀ x ∈ valS, reprText (mk x.1) = mk x.2 ∧ ascText (mk x.2) = mk x.2 ∧ x.1.length ≤ 10 ∧ x.2.length ≤ 10 := by decide +kernel
theorem conv_spec (w : World) (mean mg mb news) (x : List Nat × List Nat) (hx : x ∈ valS) (c : List Nat) (hc : c ∈ convS) (t u : Tok) (slf : Value) :
   ClN 2 w mean mg mb 85 news [slf, .str (mk x.1) t, if c = [] then .none else .str (mk c) u] (fun t => .str (mk (valL c x)) t) := by
  obtain ⟨h1, h2, h3, h4⟩ := val_rep x hx
  have l1 : (mk x.1).length ≤ 10 := by rw [mk_len]; exact h3
  have l2 : (mk x.2).length ≤ 10 := by rw [mk_len]; exact h4
  simp only [convS, List.mem_cons, List.not_mem_nil, or_false] at hc
  rcases hc with rfl | rfl | rfl | rfl
  · exact conv_none w mean mg mb (mk x.1) t slf news
  · have := conv_r w mean mg mb (mk x.1) t u slf (Nat.le_trans l1 (by decide)) (by rw [h1]; exact Nat.le_trans l2 (by decide)) news
    rw [h1] at this
    exact this
  · exact conv_s w mean mg mb (mk x.1) t u slf (Nat.le_trans l1 (by decide)) news
  · have := conv_a w mean mg mb (mk x.1) t u slf (Nat.le_trans l1 (by decide)) (by rw [h1]; exact Nat.le_trans l2 (by decide)) (by rw [h1, h2, PySem.sizeLine_eq]; exact Nat.le_trans l2 (by decide)) news
    rw [h1, h2] at this
    exact this
end S1cX
local macro_rules | `(tactic| walk_at "getMethod ref") => `(tactic| ((with_reducible show wpAny _ _ (getMethod (Value.ref _) (Str.ofString "add") _) _ _ _); k_dflt (refine' set_method (by k_asm) (by k_updF) (by assumption) (by omega) ?_)))
section S1wX
open PyProof.Rows.LCg
local macro_rules | `(tactic| walk_at "mine same0") => `(tactic| (intro z h2; obtain ⟨h4, h5⟩ := h2; simp only [h4, h5, if_false]))
local macro_rules | `(tactic| walk_at "exec If") => `(tactic| (refine halt ?_))
local macro_rules | `(tactic| walk_at "truthy str") => `(tactic| ((with_reducible show wpAny _ _ (PySem.truthy (Value.str _ _)) _ _ _); (refine KXt.truthy (by assumption) (by omega) ?_); intro _))
local macro_rules | `(tactic| walk_at "getMethod ref") => `(tactic| (k_dflt (refine' method_shadow (by k_asm) (by k_asm) (by k_inst) (by k_is) (by k_is) (by k_is) (by k_is) (by k_is) (by k_is) (by k_get) (by k_handed) ?_; k_whole)))
local macro_rules | `(tactic| walk_at "exec For Tuple Call cons nil") => `(tactic| refine wpAny_For ?_)
local macro_rules | `(tactic| walk_at "pyIter ref") => `(tactic| refine halt ?_)
local macro_rules | `(tactic| walk_at "leaving ref") => `(tactic| refine halt ?_)
local macro_rules | `(tactic| walk_at "call ref") => `(tactic| ((with_reducible show wpAny _ _ (call (Value.ref _) [Value.str _ _, Value.str _ _]) _ _ _); refine halt ?_))
local macro_rules | `(tactic| walk_at "call ref") => `(tactic| ((with_reducible show wpAny _ _ (call (Value.ref 171) _) _ _ _); refine halt ?_))
local macro_rules | `(tactic| walk_at "call ref") => `(tactic| ((with_reducible show wpAny _ _ (call (Value.ref 178) _) _ _ _); refine halt ?_))
local macro_rules | `(tactic| walk_at "call ref") => `(tactic| ((with_reducible show wpAny _ _ (call (Value.ref 85) _) _ _ _); refine halt ?_))
local macro_rules | `(tactic| walk_at "call ref") => `(tactic| ((with_reducible show wpAny _ _ (call (Value.ref 57) _ _) _ _ _); refine halt ?_))
noncomputable def VRes (w : World) (r : R) (U : Addr) (rest nx news' : List (Addr × Obj)) (v : Value) : Prop :=
  ∃ t c u so' T t1 cv n, r = .ok t c u ∧ news' = (U, so') :: rest ∧ SetIs pr1 w so' u ∧ v = .ref T ∧ nx = [(T, ({ cls := .type "tuple", data := .seq #[.str (mk t) t1, cv] n } : Obj))] ∧ CntV c cv
noncomputable def VExc (w : World) (r : R) (U : Addr) (rest : List (Addr × Obj)) (X : String) (Sur : List (Addr × Obj)) : Prop := ∃ e u so', r = .err e u ∧ X = errN e ∧ Sur = (U, so') :: rest ∧ SetIs pr1 w so' u
noncomputable def FormEnv (w : World) (mean : ExcName → Option Value) (mg mb : Str → Option Value) (rest : List (Addr × Obj)) (F0 : Addr) : Prop :=
  ∃ d f c' o oc t1 t2 t3, (F0, instObj 102 d) ∈ rest ∧ (d, formD w t1 t2 t3 f) ∈ rest ∧ (f, o) ∈ rest ∧ (c', oc) ∈ rest ∧ LamOk w mean mg mb f c' o oc
noncomputable abbrev ClXk (k : Nat) (w : World) (mean : ExcName → Option Value) (mg mb : Str → Option Value) (f : Addr) (news : List (Addr × Obj)) (vs : List Value) (kws : List (Str × Value)) (Res : List (Addr × Obj) → List (Addr × Obj) → Value → Prop) (Exc : String → List (Addr × Obj) → Prop) : Prop :=
  ∀ (dp un : Nat) (gd : Option (List Code)) (cn : Str) (cs : Scope) (a : Addr) (ccd : Value) (cl : List (Str × Addr)) (outer : List Env) (A₀ : Around) (base h₀ : Heap) (L : Addr) (m : Str → Option Value) (s : Shared) (Q E : Value → Shared → Prop),
    Below A₀ base outer h₀ → Fr h₀ L s.heap m → (hd.heap_1 w.params).In h₀ → News h₀ L s.heap news → Top topProg (looseW hd.view_39 [] ++ List.map (fun x => x.name) (recsOf hd.view_39) ++ List.map (fun x => x.fst) (litsOf hd.view_39) ++ List.map (fun x => x.name) (clssOf hd.view_39 (looseW hd.view_39 []))) mean mg mb h₀ → cs.kind = .function →
    dp + k < recursionLimit → un + 8 * k < cLine →
    (∀ (v : Value) (nx news' : List (Addr × Obj)) (h' : Heap) (tk' : Nat), Fr h₀ L h' m → News h₀ L h' (nx ++ news') → (∀ p ∈ nx, ∀ q ∈ news', q.1 < p.1) → Res nx news' v → Q v { s with heap := h', toks := tk' }) →
    ERet base h₀ L m (envX cn cs L a ccd cl :: outer) s E Exc →
      wpAny (model PySem.Challenge.rw_ik0030_01.row.prog w) (ktrTop dp un gd cn cs L a ccd cl outer) (call (.ref f) vs kws) Q E s
noncomputable def VSpec (w : World) (mean : ExcName → Option Value) (mg mb : Str → Option Value) (p : P) : Prop :=
  ∀ (kk : List Nat) (dd : Nat) (cnt : Option Nat) (u : List Key) (rest : List (Addr × Obj)) (U F0 AA KW : Addr) (so : Obj) (t4 t5 : Tok) (dI : Int) (cv : Value),
    (∀ e ∈ p.evs, EvOk e) → kk ∈ cloS → p.hgt ≤ 3 → p.nf ≤ 10 → (∀ n, cnt = some n → n + p.nf ≤ 15) → u.length + p.nf ≤ 90 → dI = (dd : Int) - 1 → dd ≤ 10 → CntV cnt cv → SetIs pr1 w so u → (∀ x ∈ rest, x.1 ≠ U) → FormEnv w mean mg mb rest F0 → Args w rest AA KW →
    ∀ vs kws, (vs = [.ref F0, .str (mk (p.text kk)) t4, .ref AA, .ref KW, .ref U, .int dI t5, cv] ∧ kws = []) ∨ (vs = [.ref F0, .str (mk (p.text kk)) t4, .ref AA, .ref KW, .ref U, .int dI t5] ∧ kws = [(Str.ofString "auto_arg_index", cv)]) →
      ClXk (8 + p.hgt) w mean mg mb 57 ((U, so) :: rest) vs kws (VRes w (vfD p dd kk cnt u) U rest) (VExc w (vfD p dd kk cnt u) U rest)
theorem name_digit : ∀ n ∈ nameS, Txt.isdigit (mk n) = decide (n = [48] ∨ n = [49]) := by decide +kernel
theorem numS0 : mk [48] = numS 0 := by decide +kernel
theorem numS1 : mk [49] = numS 1 := by decide +kernel
theorem res_ok {n : List Nat} {c c1 : Option Nat} {key : Key} (h : resolve n c = some (key, c1)) (hn : n ∈ nameS) (hb : ∀ m, c = some m → m ≤ 15) : KeyOk key := by
  unfold resolve at h
  split at h
  · cases c with
    | none => cases h
    | some k => cases h; have := hb k rfl; show k < 20; omega
  · split at h
    · rename_i h1 h2
      split at h
      · cases h
      · cases h
        rcases h2 with rfl | rfl <;> (show _ < 20; decide)
    · rename_i h1 h2
      cases h
      have : ∀ n ∈ nameS, n = [] ∨ (n = [48] ∨ n = [49]) ∨ n ∈ ([[107],[110],[122]] : List (List Nat)) := by decide
      rcases this n hn with h3 | h3 | h3
      · exact absurd h3 h1
      · exact absurd h3 h2
      · exact h3
theorem keyVal_is {prog : Program} {w : World} {k : Key} {v : Value} (h : KeyVal k v) : (keyKind prog w).is k v = true := by
  cases k with
  | int n => obtain ⟨t, rfl⟩ := h; exact keyIs_int _ _ _ _
  | str l => obtain ⟨t, rfl⟩ := h; exact keyIs_str _ _ _ _
local macro_rules | `(tactic| walk_at "call builtin:set.add") => `(tactic| (k_dflt (refine' set_add (by k_asm) (by k_asm) (by k_updF) (by assumption) (by omega) (by exact keyVal_is (by assumption)) ?_); intro h' o' F' N' hs'; (try dsimp only at N')))
local macro_rules | `(tactic| walk_at "callWith ref") => `(tactic| (k_dflt (refine' callWith_F (by exact FnAt.of (by k_asm) (by k_mem)) ?_; k_whole)))
theorem VfJ.elim {w : World} {p : P} {kk : List Nat} {d : Nat} {cnt : Option Nat} {u : List Key} {U RL : Addr} {fx : List (Addr × Obj)} {m₀ : Str → Option Value} {I : Addr} {i : Nat} {m : Str → Option Value} {nw : List (Addr × Obj)} {Mo : List (Addr × Obj) → Prop} (h : VfJ w p kk d cnt u U RL fx m₀ I i m nw)
    (k : ∀ (q : P) (kk' : List Nat) (c' : Option Nat) (u' : List Key) (acc : List Nat) (ts : List (List Nat)) (rvs : List Value) (nr : Nat) (so' : Obj) (cv' : Value), ((p.pieces kk).drop i = q.pieces kk') → (p.vf d kk cnt u = Rpre acc (q.vf d kk' c' u')) → (acc = ts.flatten) → (StrsAre rvs (ts.map mk)) → (CntV c' cv') → (SetIs pr1 w so' u') → (q.hgt ≤ p.hgt) → (q.nf ≤ p.nf) → ((∀ e ∈ q.evs, EvOk e)) → (kk' ∈ cloS) → ((∀ n, c' = some n → n + q.nf ≤ 15)) → (u'.length + q.nf ≤ 90) → (acc.length + 13 * q.nf + kk'.length ≤ 13 * p.nf + 1) → (rvs.length ≤ 2 * i) → (U < I) → (RL < I) → (∀ x ∈ fx, x.1 < I) → ((∀ p ∈ [(Str.ofString "result", Value.ref RL), (Str.ofString "auto_arg_index", cv')], m p.1 = some p.2)) → ((∀ z, (∀ p ∈ [(Str.ofString "result", Value.ref RL), (Str.ofString "auto_arg_index", cv')], z ≠ p.1) → [Str.ofString "literal_text", Str.ofString "field_name", Str.ofString "format_spec", Str.ofString "conversion", Str.ofString "obj", Str.ofString "arg_used"].contains z = false → m z = m₀ z)) → Mo ((U, so') :: (RL, PySem.W.listOf rvs.toArray nr) :: fx)) : Mo nw := by
  obtain ⟨q, kk', c', u', acc, ts, rvs, nr, so', cv', z1, z2, z3, z4, z5, z6, z7, z8, z9, z10, z11, z12, z13, z14, rfl, ⟨z15, z16, z17⟩, z18, z19⟩ := h
  exact k q kk' c' u' acc ts rvs nr so' cv' z1 z2 z3 z4 z5 z6 z7 z8 z9 z10 z11 z12 z13 z14 z15 z16 z17 z18 z19
theorem VfJ.mk' {w : World} {p : P} {kk : List Nat} {d : Nat} {cnt : Option Nat} {u : List Key} {U RL : Addr} {fx : List (Addr × Obj)} {m₀ : Str → Option Value} {I : Addr} {i : Nat} {m : Str → Option Value} (q : P) (kk' : List Nat) (c' : Option Nat) (u' : List Key) (acc : List Nat) (ts : List (List Nat)) (rvs : List Value) (nr : Nat) (so' : Obj) (cv' : Value) (z1 : (p.pieces kk).drop i = q.pieces kk') (z2 : p.vf d kk cnt u = Rpre acc (q.vf d kk' c' u')) (z3 : acc = ts.flatten) (z4 : StrsAre rvs (ts.map mk)) (z5 : CntV c' cv') (z6 : SetIs pr1 w so' u') (z7 : q.hgt ≤ p.hgt) (z8 : q.nf ≤ p.nf) (z9 : (∀ e ∈ q.evs, EvOk e)) (z10 : kk' ∈ cloS) (z11 : (∀ n, c' = some n → n + q.nf ≤ 15)) (z12 : u'.length + q.nf ≤ 90) (z13 : acc.length + 13 * q.nf + kk'.length ≤ 13 * p.nf + 1) (z14 : rvs.length ≤ 2 * i) (z15 : U < I) (z16 : RL < I) (z17 : ∀ x ∈ fx, x.1 < I) (z18 : (∀ p ∈ [(Str.ofString "result", Value.ref RL), (Str.ofString "auto_arg_index", cv')], m p.1 = some p.2)) (z19 : (∀ z, (∀ p ∈ [(Str.ofString "result", Value.ref RL), (Str.ofString "auto_arg_index", cv')], z ≠ p.1) → [Str.ofString "literal_text", Str.ofString "field_name", Str.ofString "format_spec", Str.ofString "conversion", Str.ofString "obj", Str.ofString "arg_used"].contains z = false → m z = m₀ z)) :
    VfJ w p kk d cnt u U RL fx m₀ I i m ((U, so') :: (RL, PySem.W.listOf rvs.toArray nr) :: fx) := ⟨q, kk', c', u', acc, ts, rvs, nr, so', cv', z1, z2, z3, z4, z5, z6, z7, z8, z9, z10, z11, z12, z13, z14, rfl, ⟨z15, z16, z17⟩, z18, z19⟩
theorem for_next' {h₀ : Heap} {L : Addr} {s : Shared} {J : (Str → Option Value) → List (Addr × Obj) → Prop} {I : Addr} {o : Obj} {h' : Heap} {tk' : Nat} {m' : Str → Option Value} {nw : List (Addr × Obj)} (F : Fr h₀ L h' m') (N : News h₀ L h' ((I, o) :: nw)) (hJ : J m' nw) :
    ∃ h2 tk2 m2 nw2, ({ s with heap := h', toks := tk' } : Shared) = { s with heap := h2, toks := tk2 } ∧ Fr h₀ L h2 m2 ∧ News h₀ L h2 ((I, o) :: nw2) ∧ J m2 nw2 := ⟨_, _, _, _, rfl, F, N, hJ⟩
theorem vspec_all (w : World) (mean : ExcName → Option Value) (mg mb : Str → Option Value) : ∀ (N : Nat) (p : P), p.nf < N → VSpec w mean mg mb p := by
  intro N
  induction N with
  | zero => exact fun p h => absurd h (Nat.not_lt_zero _)
  | succ N ih =>
  intro p hpN kk dd cnt u rest U F0 AA KW so t4 t5 dI cv ok hkc hh hn hcnt hu90 hdI hdd hcv hso hoff hform hargs vs kws hvs
  intro dp un gd cn cs a ccd cl outer A₀ base h₀ L m s Q E B F X Nn T hkk hd hu hret hexc
  refine wpAny_call ?_
  refine' code_def (binds := [(Str.ofString "self", .ref F0), (Str.ofString "format_string", .str (mk (p.text kk)) t4), (Str.ofString "args", .ref AA), (Str.ofString "kwargs", .ref KW), (Str.ofString "used_args", .ref U), (Str.ofString "recursion_depth", .int dI t5), (Str.ofString "auto_arg_index", cv)]) ?k1 ?k2 ?k3 ?k4 ?k5 ?kA ?kF ?kK ?k6 ?k7 ?k8 ?k9 ?kB ?_ ?c2 ?c3 ?c4 ?c5
  case kA => exact rfl
  case kF => exact rfl
  case kK => exact hkk
  case k1 => k_asm
  case k2 => k_asm
  case k3 => k_asm
  case k4 => k_asm
  case k5 => k_asm
  case k6 => k_dflt k_is
  case k7 => k_dflt k_is
  case k8 => k_dflt ktr_room
  case k9 =>
    rcases hvs with ⟨rfl, rfl⟩ | ⟨rfl, rfl⟩
    · k_dflt exact binds_K (by k_in) rfl (by k_is) rfl rfl rfl
    · k_dflt exact binds_K (by k_in) rfl (by k_is) rfl rfl rfl
  case c5 => decide
  case kB => exact locs rfl
  case c2 => exact rfl
  case c3 => exact rfl
  case c4 => exact rfl
  intro g' L' h' FG' F' N' B' X' T'
  try dsimp only
  try k_lift B'
  try k_fold
  rename Fr _ _ _ _ => lF
  replace lF := fr_as (fun y => List.lookup y [(Str.ofString "auto_arg_index", cv), (Str.ofString "recursion_depth", .int dI t5), (Str.ofString "used_args", .ref U), (Str.ofString "kwargs", .ref KW), (Str.ofString "args", .ref AA), (Str.ofString "format_string", .str (mk (p.text kk)) t4), (Str.ofString "self", .ref F0)]) lF (by with_unfolding_all rfl)
  obtain ⟨d, f, c', o, oc, t1, t2, t3, f1, f2, f3, f4, hlam⟩ := hform
  obtain ⟨ocl, odl, fdl, sll, rfl⟩ := hlam.1
  have lN : News _ _ _ ((U, so) :: (F0, instObj 102 d) :: (d, formD w t1 t2 t3 f) :: (f, (⟨ocl, odl, .func fdl, sll⟩ : Obj)) :: (c', oc) :: rest) := cb_drop N' (fun p hp => by
    simp only [List.mem_cons] at hp ⊢
    rcases hp with rfl | rfl | rfl | rfl | rfl | hp
    · exact .inl rfl
    · exact .inr f1
    · exact .inr f2
    · exact .inr f3
    · exact .inr f4
    · exact .inr hp)
  clear N'
  cases dd with
  | zero =>
    have hdd : dI < 0 := by omega
    walk_at "mine step"
    dsimp only [Halt]
    refine wpAny_If ?_
    walk_at "mine step"
    dsimp only [Halt]
    rename Heap.MadeExc _ _ _ _ _ => hx7
    rename Below _ _ _ _ => B'
    refine leave_newS B' hx7.newExc lF lN (fun h8 R8 _ U8 => hexc _ _ _ _ _ _ ⟨.V, u, so, rfl, rfl, rfl, hso⟩ FG' (raisedSN_sub R8 (fun x hx => ?_)) U8)
    rcases List.mem_cons.mp hx with rfl | hx
    · exact List.mem_cons_self ..
    · exact List.mem_cons_of_mem _ (List.mem_cons_of_mem _ (List.mem_cons_of_mem _ (List.mem_cons_of_mem _ (List.mem_cons_of_mem _ hx))))
  | succ dd =>
    have hdI0 : ¬ dI < 0 := by omega
    walk_at "mine step"
    dsimp only [Halt]
    refine wpAny_If ?_
    walk_at "mine step"
    dsimp only [Halt]
    k_dflt (refine' parse_all w mean mg mb _ p kk t4 hh hn ok hkc _ _ _ _ _ _ _ _ _ _ _ _ _ _ _ _ _ ?k1 ?k2 ?k3 ?k4 ?k5 ?kK ?kd ?ku ?_; (walk_at "mine cb"))
    intro v9 nx9 h9 tk9 F9 N9 l9 hR
    revert N9 l9
    refine gx2 v9 nx9 fun G kG => ?_
    obtain ⟨D9, pvs, n9, r9, rfl, rfl, d9⟩ := hR
    refine kG _ _ ?_
    clear kG
    intro N9 l9
    simp only [List.cons_append] at N9
    (try dsimp only)
    (try k_fold)
    walk_at "mine step"
    dsimp only [Halt]
    obtain ⟨RL, eRL, N10⟩ := led_vf N9
    subst eRL
    (try clear lN); (try clear lF)
    have l1R : @LT.lt Nat _ U RL ∧ @LT.lt Nat _ F0 RL ∧ @LT.lt Nat _ d RL ∧ @LT.lt Nat _ f RL ∧ @LT.lt Nat _ c' RL ∧ AllLt RL rest := by assumption
    have lD9 : ∀ x ∈ (D9, PySem.W.listOf pvs.toArray n9) :: r9, @LT.lt Nat _ RL x.1 := fun x hx => l9 x hx (RL, _) (List.mem_cons_self ..)
    have lU : @LT.lt Nat _ U RL := l1R.1
    obtain ⟨fx, hfx⟩ : ∃ fx, fx = (D9, PySem.W.listOf pvs.toArray n9) :: (F0, instObj 102 d) :: (d, formD w t1 t2 t3 f) :: (f, (⟨ocl, odl, .func fdl, sll⟩ : Obj)) :: (c', oc) :: (r9 ++ rest) := ⟨_, rfl⟩
    have hfxU : ∀ x ∈ fx, x.1 ≠ U := fun x hx => by
      rw [hfx] at hx
      simp only [List.mem_cons, List.mem_append] at hx
      have hgt : ∀ x ∈ (D9, PySem.W.listOf pvs.toArray n9) :: r9, x.1 ≠ U := fun x hx => Nat.ne_of_gt (Nat.lt_trans lU (lD9 x hx))
      rcases hx with rfl | rfl | rfl | rfl | rfl | hx | hx
      · exact hgt _ (List.mem_cons_self ..)
      · exact hoff _ f1
      · exact hoff _ f2
      · exact hoff _ f3
      · exact hoff _ f4
      · exact hgt _ (List.mem_cons_of_mem _ hx)
      · exact hoff _ hx
    have hfxR : ∀ x ∈ fx, x.1 ≠ RL := fun x hx => by
      rw [hfx] at hx
      simp only [List.mem_cons, List.mem_append] at hx
      rcases hx with rfl | rfl | rfl | rfl | rfl | hx | hx
      · exact Nat.ne_of_gt (lD9 _ (List.mem_cons_self ..))
      · exact Nat.ne_of_lt l1R.2.1
      · exact Nat.ne_of_lt l1R.2.2.1
      · exact Nat.ne_of_lt l1R.2.2.2.1
      · exact Nat.ne_of_lt l1R.2.2.2.2.1
      · exact Nat.ne_of_gt (lD9 x (List.mem_cons_of_mem _ hx))
      · exact Nat.ne_of_lt (allLt_to l1R.2.2.2.2.2 x hx)
    rw [← hfx] at N10
    clear N9

    refine for_listI (vs := pvs) (nn := n9) (VfJ w p kk dd cnt u U RL fx (fun y => List.lookup y [(Str.ofString "auto_arg_index", cv), (Str.ofString "recursion_depth", .int dI t5), (Str.ofString "used_args", .ref U), (Str.ofString "kwargs", .ref KW), (Str.ofString "args", .ref AA), (Str.ofString "format_string", .str (mk (p.text kk)) t4), (Str.ofString "self", .ref F0)])) rfl F9 N10 ?_ ?_ ?_ ?_ ?_ (by passes_own) (fun I i v s Q E hv hit h => go_tup ?_ hit h)
    · intro I hI
      exact VfJ.mk' p kk cnt u [] [] [] 0 so cv (by rw [List.drop_zero]) ((Rpre_nil _).symm) rfl .nil hcv hso (Nat.le_refl _) (Nat.le_refl _) ok hkc hcnt hu90 (by have := clo_len1 hkc; simp only [List.length_nil]; omega) (Nat.zero_le _) (hI _ (List.mem_cons_self ..)) (hI _ (List.mem_cons_of_mem _ (List.mem_cons_self ..))) (fun x hx => hI x (List.mem_cons_of_mem _ (List.mem_cons_of_mem _ hx))) (by kst_all) (by walk_at "mine same")
    · intro I i m nw hJ
      refine hJ.elim (Mo := fun nw => (D9, PySem.W.listOf pvs.toArray n9) ∈ nw) ?_
      intros
      rw [hfx]
      exact List.mem_cons_of_mem _ (List.mem_cons_of_mem _ (List.mem_cons_self ..))
    · intro I i m nw hJ
      refine hJ.elim (Mo := fun nw => ∀ x ∈ nw, x.1 ≠ I) ?_
      intro q kk' c2 u' acc ts rvs nr so' cv' _ _ _ _ _ _ _ _ _ _ _ _ _ _ a1 a2 a3 _ _ x hx
      rcases List.mem_cons.mp hx with rfl | hx
      · exact Nat.ne_of_lt a1
      · rcases List.mem_cons.mp hx with rfl | hx
        · exact Nat.ne_of_lt a2
        · exact Nat.ne_of_lt (a3 x hx)
    · intro i x m₁ nw I oI h tk hx1 hJ _
      clear F9 N10
      refine gx2 nw x fun G kG => ?_
      refine hJ.elim (Mo := fun nw => G nw x) ?_
      clear hJ
      intro q kk' c2 u' acc ts rvs nr so' cv' j1 j2 j3 j4 j5 j6 j7 j8 j9 j10 j11 j12 j13 j14 a1 a2 a3 m1 m2
      have a1' := ltN a1
      have a2' := ltN a2
      obtain ⟨pc, hpc, hdc⟩ := pc_at d9 hx1
      have hi12 : i < 20 := by
        have h1 := (List.getElem?_eq_some_iff.mp hpc).1
        have h2 := pieces_len p kk
        omega
      have hr9 : ∀ y ∈ r9, y ∈ fx := fun y hy => by rw [hfx]; simp [hy]
      rw [drop_at hpc] at j1
      cases q with
      | nil =>
        by_cases hk0 : kk' = []
        · rw [hk0] at j1; cases j1
        · have j1' : pc :: (p.pieces kk).drop (i + 1) = [(kk', none)] := by rw [j1]; exact if_neg hk0
          injection j1' with e1 e2
          subst e1
          obtain ⟨T, t7, k7, rfl, hT⟩ := pc_none hdc
          have q1 : (((mk kk').length : Int) != 0) = true := by rw [mk_len]; cases kk' with
            | nil => exact absurd rfl hk0
            | cons a b => simp; omega
          have hkl := clo_len1 j10
          have hkl2 : (mk kk').length ≤ 1 := by rw [mk_len]; exact hkl
          have n1 : @Ne Nat T RL := hfxR _ (hr9 _ hT)
          have n2 : @Ne Nat T U := hfxU _ (hr9 _ hT)
          refine kG _ _ ?_
          clear kG
          intro F1 N1
          have F2 := ksw_fr m1 m2 F1
          clear F1
          have N2 : News _ _ _ ((T, _) :: (U, so') :: (RL, PySem.W.listOf rvs.toArray nr) :: (I, oI) :: fx) := cb_drop N1 (sub_cons (memt _ (memt _ (memt _ (hr9 _ hT)))) (by walk_at "mine sub"))
          clear N1
          walk_at "mine step"
          dsimp only [Halt]
          refine wpAny_If ?_
          walk_at "mine step"
          dsimp only [Halt]
          refine wpAny_If ?_
          walk_at "mine step"
          rename News _ _ _ _ => lN'
          refine for_next' (nw := (U, so') :: (RL, PySem.W.listOf (rvs ++ [Value.str (mk kk') t7]).toArray (nr + 1)) :: fx) (by assumption) (cb_drop lN' (by walk_at "mine sub")) ?_
          refine VfJ.mk' .nil [] c2 u' (acc ++ kk') (ts ++ [kk']) (rvs ++ [.str (mk kk') t7]) (nr + 1) so' cv' e2 ?_ (by rw [j3]; simp) (strs_snoc j4) j5 j6 (Nat.zero_le _) (Nat.zero_le _) (fun _ h => nomatch h) (by decide) (fun n hn => by have := j11 n hn; exact this) j12 ?_ ?_ a1 a2 a3 (by kst_all) (by walk_at "mine same")
          · rw [j2]; simp [P.vf, Rpre_ok]
          · simp only [List.length_append, List.length_nil, P.nf] at j13 ⊢; omega
          · simp only [List.length_append, List.length_singleton]; omega
      | cons l n c9 sp k2 r =>
        have j1' : pc :: (p.pieces kk).drop (i + 1) = (l, some (n, sp.text k2, c9)) :: r.pieces kk' := j1
        injection j1' with e1 e2
        subst e1
        obtain ⟨T, t7, t8, t9, t10, k7, rfl, hT⟩ := pc_some hdc
        obtain ⟨⟨o1, o2, o3⟩, o4, o5, o6⟩ := evs_mem_cons j9
        have hll := lit_len3 o1
        have hll2 : (mk l).length ≤ 3 := by rw [mk_len]; exact hll
        have n1 : @Ne Nat T RL := hfxR _ (hr9 _ hT)
        have n2 : @Ne Nat T U := hfxU _ (hr9 _ hT)
        have hF0 : (F0, instObj 102 d) ∈ fx := by rw [hfx]; simp
        have hd0 : (d, formD w t1 t2 t3 f) ∈ fx := by rw [hfx]; simp
        have n3 : @Ne Nat F0 RL := hfxR _ hF0
        have n4 : @Ne Nat F0 U := hfxU _ hF0
        have n5 : @Ne Nat d RL := hfxR _ hd0
        have n6 : @Ne Nat d U := hfxU _ hd0
        refine kG _ _ ?_
        clear kG
        intro F1 N1
        have F2 := ksw_fr m1 m2 F1
        clear F1
        have N2 : News _ _ _ ((T, _) :: (U, so') :: (RL, PySem.W.listOf rvs.toArray nr) :: (I, oI) :: (F0, instObj 102 d) :: (d, formD w t1 t2 t3 f) :: fx) := cb_drop N1 (sub_cons (memt _ (memt _ (memt _ (hr9 _ hT)))) (sub_cons (by k_mem) (sub_cons (by k_mem) (sub_cons (by k_mem) (sub_cons (memt _ (memt _ (memt _ hF0))) (sub_cons (memt _ (memt _ (memt _ hd0))) (by walk_at "mine sub")))))))
        clear N1
        walk_at "mine step"
        dsimp only [Halt]
        rename Fr _ _ _ _ => lF3
        obtain ⟨mc, hmc, lF4⟩ := fr_name lF3
        clear lF4
        refine wpAny_mono (Q := LitMid g' L' mc s (T, ({ cls := .type "tuple", data := .seq #[.str (mk l) t7, .str (mk n) t8, .str (mk (sp.text k2)) t9, if c9 = [] then .none else .str (mk c9) t10] k7 } : Obj)) U RL so' ((I, oI) :: (F0, instObj 102 d) :: (d, formD w t1 t2 t3 f) :: fx) (acc ++ l) (2 * i + 1)) ?_ ?_ (fun _ _ h => h)
        · by_cases hl0 : l = []
          · have q1 : (((mk l).length : Int) != 0) = false := by rw [hl0]; rfl
            refine wpAny_If ?_
            walk_at "mine step"
            rename Fr _ _ _ _ => lF5
            rename News _ _ _ _ => lN5
            exact ⟨rfl, _, _, ts, rvs, nr, rfl, hmc ▸ lF5, lN5, j4, by rw [hl0, List.append_nil]; exact j3, by omega⟩
          · have q1 : (((mk l).length : Int) != 0) = true := by rw [mk_len]; cases l with
              | nil => exact absurd rfl hl0
              | cons a b => simp; omega
            refine wpAny_If ?_
            walk_at "mine step"
            rename Fr _ _ _ _ => lF5
            rename News _ _ _ _ => lN5
            exact ⟨rfl, _, _, ts ++ [l], _, _, rfl, hmc ▸ lF5, lN5, strs_snoc j4, by rw [j3]; simp, by simp only [List.length_append, List.length_singleton]; omega⟩
        (try clear N2)
        intro fl s₂ hMid
        refine gx2 fl s₂ fun G kG => ?_
        obtain ⟨rfl, h5, tk5, ts5, rvs5, nr5, rfl, F5, N5, s5, c5, l5⟩ := hMid
        refine kG _ _ ?_
        clear kG
        rw [hmc] at F5
        clear lF3 hmc j3 j4 j14
        dsimp only
        walk_at "mine step"
        dsimp only [Halt]
        refine wpAny_If ?_
        walk_at "mine step"
        dsimp only [Halt]
        rename Fr _ _ _ _ => lF6
        obtain ⟨mc, hmc, lF4⟩ := fr_name lF6
        clear lF4
        have hdig := name_digit n o2
        refine wpAny_mono (Q := NumMid g' L' mc s ((T, ({ cls := .type "tuple", data := .seq #[.str (mk l) t7, .str (mk n) t8, .str (mk (sp.text k2)) t9, if c9 = [] then .none else .str (mk c9) t10] k7 } : Obj)) :: (U, so') :: (RL, PySem.W.listOf rvs5.toArray nr5) :: (I, oI) :: (F0, instObj 102 d) :: (d, formD w t1 t2 t3 f) :: fx) Key.name n c2) ?_ ?_ (fun _ _ h => h)
        · by_cases hn0 : n = []
          · have q2 : (mk n == Str.ofString "") = true := by rw [hn0]; rfl
            cases c2 with
            | none =>
              have hres : resolve n none = none := by rw [hn0]; rfl
              cases j5
              refine wpAny_If ?_
              walk_at "mine step"
              dsimp only [Halt]
              refine wpAny_If ?_
              walk_at "mine step"
              dsimp only [Halt]
              rename Heap.MadeExc _ _ _ _ _ => hx7
              rename Below _ _ _ _ => B'
              rename News _ _ _ _ => lN7
              rename Fr g' _ _ _ => lF7
              refine leave_newS B' hx7.newExc lF7 lN7 (fun h8 R8 _ U8 => hexc _ _ _ _ _ _ ⟨.V, u', so', ?_, rfl, rfl, j6⟩ FG' (raisedSN_sub R8 (fun x hx => ?_)) U8)
              · show p.vf dd kk cnt u = _
                rw [j2, vf_none hres]
              · rcases List.mem_cons.mp hx with rfl | hx
                · exact List.mem_cons_of_mem _ (List.mem_cons_self ..)
                · refine List.mem_cons_of_mem _ (List.mem_cons_of_mem _ (List.mem_cons_of_mem _ (List.mem_cons_of_mem _ (List.mem_cons_of_mem _ (List.mem_cons_of_mem _ ?_)))))
                  rw [hfx]; simp [hx]
            | some cn =>
              have hres : resolve n (some cn) = some (.int cn, some (cn + 1)) := by rw [hn0]; rfl
              obtain ⟨tc, rfl⟩ := j5
              have hcn := j11 cn rfl
              refine wpAny_If ?_
              walk_at "mine step"
              dsimp only [Halt]
              refine wpAny_If ?_
              walk_at "mine step"
              rename Fr g' _ _ _ => lF7
              rename News g' _ _ _ => lN7
              k_dflt (refine' NumMid.mk' hres lF7 lN7 ?e1 ?e2 ?_ ?_; (case e1 => exact rfl); (case e2 => exact rfl))
              · exact ⟨_, rfl⟩
              · rw [hmc]; walk_at "mine same0"
          · have q2 : (mk n == Str.ofString "") = false := by rw [show Str.ofString "" = mk [] from rfl, mk_beq]; simp [hn0]
            by_cases hn1 : n = [48] ∨ n = [49]
            · have q3 : Txt.isdigit (mk n) = true := by rw [hdig]; simp [hn1]
              have hnm : mk n = Key.name (.int (n.headD 48 - 48)) := by
                rcases hn1 with rfl | rfl
                · exact numS0
                · exact numS1
              cases c2 with
              | none =>
                have hres : resolve n none = some (.int (n.headD 48 - 48), none) := by simp [resolve, hn0, hn1]
                cases j5
                refine wpAny_If ?_
                walk_at "mine step"
                dsimp only [Halt]
                refine wpAny_If ?_
                walk_at "mine step"
                dsimp only [Halt]
                refine wpAny_If ?_
                walk_at "mine step"
                rename Fr g' _ _ _ => lF7
                rename News g' _ _ _ => lN7
                k_dflt (refine' NumMid.mk' (t' := t8) hres lF7 lN7 ?e1 ?e2 rfl ?_; (case e1 => rw [← hnm]; exact rfl); (case e2 => exact rfl))
                rw [hmc]; walk_at "mine same0"
              | some cn =>
                obtain ⟨tc, rfl⟩ := j5
                cases cn with
                | zero =>
                  have hres : resolve n (some 0) = some (.int (n.headD 48 - 48), none) := by simp [resolve, hn0, hn1]
                  refine wpAny_If ?_
                  walk_at "mine step"
                  dsimp only [Halt]
                  refine wpAny_If ?_
                  walk_at "mine step"
                  dsimp only [Halt]
                  refine wpAny_If ?_
                  walk_at "mine step"
                  rename Fr g' _ _ _ => lF7
                  rename News g' _ _ _ => lN7
                  k_dflt (refine' NumMid.mk' (t' := t8) hres lF7 lN7 ?e1 ?e2 rfl ?_; (case e1 => rw [← hnm]; exact rfl); (case e2 => exact rfl))
                  rw [hmc]; walk_at "mine same0"
                | succ cn =>
                  have hres : resolve n (some (cn + 1)) = none := by simp [resolve, hn0, hn1]
                  have hcp : (((cn + 1 : Nat) : Int) != 0) = true := by simp; omega
                  refine wpAny_If ?_
                  walk_at "mine step"
                  dsimp only [Halt]
                  refine wpAny_If ?_
                  walk_at "mine step"
                  dsimp only [Halt]
                  refine wpAny_If ?_
                  walk_at "mine step"
                  dsimp only [Halt]
                  rename Heap.MadeExc _ _ _ _ _ => hx7
                  rename Below _ _ _ _ => B'
                  rename News _ _ _ _ => lN7
                  rename Fr g' _ _ _ => lF7
                  refine leave_newS B' hx7.newExc lF7 lN7 (fun h8 R8 _ U8 => hexc _ _ _ _ _ _ ⟨.V, u', so', ?_, rfl, rfl, j6⟩ FG' (raisedSN_sub R8 (fun x hx => ?_)) U8)
                  · show p.vf dd kk cnt u = _
                    rw [j2, vf_none hres]
                  · rcases List.mem_cons.mp hx with rfl | hx
                    · exact List.mem_cons_of_mem _ (List.mem_cons_self ..)
                    · refine List.mem_cons_of_mem _ (List.mem_cons_of_mem _ (List.mem_cons_of_mem _ (List.mem_cons_of_mem _ (List.mem_cons_of_mem _ (List.mem_cons_of_mem _ ?_)))))
                      rw [hfx]; simp [hx]
            · have q3 : Txt.isdigit (mk n) = false := by rw [hdig]; simp [hn1]
              have hres : resolve n c2 = some (.str n, c2) := by simp [resolve, hn0, hn1]
              refine wpAny_If ?_
              walk_at "mine step"
              dsimp only [Halt]
              refine wpAny_If ?_
              walk_at "mine step"
              rename Fr g' _ _ _ => lF7
              rename News g' _ _ _ => lN7
              k_dflt (refine' NumMid.mk' (t' := t8) (cvv := cv') hres lF7 lN7 ?e1 ?e2 j5 ?_; (case e1 => exact rfl); (case e2 => exact rfl))
              intro z _; rw [hmc]
        intro fl s₂ hMid
        refine gx2 fl s₂ fun G kG => ?_
        obtain ⟨rfl, key, c1, h6, tk6, t6', cvv, m6, hres, rfl, F6, N6, hcvv, e1, e2⟩ := hMid
        refine kG _ _ ?_
        clear kG
        have F7 := ksw_fr (stored := []) e1 (fun z hz _ => e2 z hz) F6
        rw [hmc] at F7
        simp only [List.contains_nil, Bool.false_eq_true, if_false] at F7
        clear lF6 F6 hmc e1 e2 N5
        have hkey : KeyOk key := res_ok hres o2 (fun m hm => by have := j11 m hm; omega)
        have hrest : ∀ y ∈ rest, y ∈ fx := fun y hy => by rw [hfx]; simp [hy]
        dsimp only
        walk_at "mine step"
        dsimp only [Halt]
        k_dflt (refine' field_spec w mean mg mb _ AA KW key hkey t6' ?km _ _ _ _ _ _ _ _ _ _ _ _ _ _ _ _ _ ?k1 ?k2 ?k3 ?k4 ?k5 ?kK ?kd ?ku ?kr ?ke; (walk_at "mine cb"))
        case km => exact hargs.mono (fun y hy => by simp [hrest y hy])
        case ke =>
          rintro X Sur e g2 h' tk' ⟨rfl, er, he, rfl⟩ F2 R2 U2
          (try dsimp only)
          (try k_fold)
          walk_at "mine step"
          dsimp only [Halt]
          rename Below _ _ _ _ => B'
          refine leave_onSN B' F2 R2 U2 (fun h8 R8 _ U8 => hexc _ _ _ _ _ _ ⟨er, u', so', ?_, rfl, rfl, j6⟩ FG' (raisedSN_sub R8 (fun x hx => ?_)) U8)
          · show p.vf dd kk cnt u = _
            rw [j2, vf_err hres he]
          · rcases List.mem_cons.mp hx with rfl | hx
            · simp
            · simp [hrest x hx]
        case kr =>
          intro v9 nx9 news9 h9' tk9' F9 N9 l9 hR
          revert N9 l9
          refine gx3 v9 nx9 news9 fun G kG => ?_
          obtain ⟨rfl, xv, T9, t19, kv, c19, hlook, rfl, rfl, hkv⟩ := hR
          refine kG _ _ _ ?_
          clear kG
          intro N9 l9
          simp only [List.cons_append, List.nil_append] at N9
          have lT9 : ∀ q ∈ ((T, ({ cls := .type "tuple", data := .seq #[.str (mk l) t7, .str (mk n) t8, .str (mk (sp.text k2)) t9, if c9 = [] then .none else .str (mk c9) t10] k7 } : Obj)) :: (U, so') :: (RL, PySem.W.listOf rvs5.toArray nr5) :: (I, oI) :: (F0, instObj 102 d) :: (d, formD w t1 t2 t3 f) :: fx), @LT.lt Nat _ q.1 T9 := fun q hq => l9 _ (List.mem_singleton.mpr rfl) q hq
          have hu95 : u'.length < 95 := by simp only [P.nf] at j12; omega
          have lT9U : @LT.lt Nat _ U T9 := lT9 (U, so') (by simp)
          have lT9R : @LT.lt Nat _ RL T9 := lT9 (RL, _) (List.mem_cons_of_mem _ (List.mem_cons_of_mem _ (List.mem_cons_self ..)))
          (try dsimp only)
          (try k_fold)
          walk_at "mine step"
          dsimp only [Halt]
          k_dflt (refine' conv_spec w mean mg mb _ xv (look_mem hlook) c9 o3 _ t10 (.ref F0) _ _ _ _ _ _ _ _ _ _ _ _ _ _ _ _ _ ?k1 ?k2 ?k3 ?k4 ?k5 ?kK ?kd ?ku ?_; (walk_at "mine cb"))
          rintro t11 h11 tk11 F11 N11
          (try dsimp only)
          (try k_fold)
          walk_at "mine step"
          dsimp only [Halt]
          rename SetIs pr1 w _ (_ ++ _) => hso2
          rename Fr g' _ _ _ => F12
          rename News g' _ _ _ => N12
          rename Obj => so2
          obtain ⟨rs2, hrs2⟩ : ∃ rs2, rs2 = (RL, PySem.W.listOf rvs5.toArray nr5) :: (I, oI) :: fx := ⟨_, rfl⟩
          have N13 : News _ _ _ ((U, so2) :: rs2) := cb_drop N12 (by rw [hrs2]; walk_at "mine sub")
          have hrsU : ∀ y ∈ rs2, y.1 ≠ U := fun y hy => by
            rw [hrs2] at hy
            rcases List.mem_cons.mp hy with rfl | hy
            · exact Nat.ne_of_gt lU
            · rcases List.mem_cons.mp hy with rfl | hy
              · exact Nat.ne_of_gt a1
              · exact hfxU y hy
          have hfxrs : ∀ y ∈ fx, y ∈ rs2 := fun y hy => by rw [hrs2]; simp [hy]
          have hhgt : sp.hgt + 1 ≤ p.hgt := Nat.le_trans (Nat.le_max_left ..) j7
          simp only [P.nf] at j8 j12 j13
          have hform2 : FormEnv w mean mg mb rs2 F0 := ⟨d, f, c', _, oc, t1, t2, t3, hfxrs _ hF0, hfxrs _ hd0, hfxrs _ (by rw [hfx]; simp), hfxrs _ (by rw [hfx]; simp), hlam⟩
          have hcb := res_bound hres (b := sp.nf + r.nf) (fun m hm => by have := j11 m hm; simp only [P.nf] at this; omega)
          have hih := ih sp (by omega) k2 dd c1 (u' ++ [key]) rs2 U F0 AA KW so2 t9
          clear N12
          k_dflt (refine' hih _ (dI - 1) cvv o4 o5 ?v1 ?v2 ?v3 ?v4 ?v5 ?v6 hcvv hso2 hrsU hform2 (hargs.mono (fun y hy => hfxrs y (hrest y hy))) _ _ (.inr ⟨rfl, rfl⟩) _ _ _ _ _ _ _ _ _ _ _ _ _ _ _ _ _ ?k1 ?k2 ?k3 ?k4 ?k5 ?kK ?kd ?ku ?kr ?ke)
          case v1 => omega
          case v2 => omega
          case v3 => exact fun m hm => by have := hcb m hm; omega
          case v4 => simp only [List.length_append, List.length_singleton]; omega
          case v5 => omega
          case v6 => omega
          case k1 => k_dflt k_asm
          case k2 => k_dflt k_asm
          case k3 => k_dflt k_asm
          case k4 => k_dflt k_asm
          case k5 => k_dflt k_asm
          case kK => exact rfl
          case kd => show dp + 1 + (8 + sp.hgt) < _; omega
          case ku => show un + 3 + 8 * (8 + sp.hgt) < _; omega
          case ke =>
            rintro X Sur e g2 h' tk' ⟨er, u3, so3, hr, rfl, rfl, hset3⟩ F2 R2 U2
            (try dsimp only)
            (try k_fold)
            walk_at "mine step"
            dsimp only [Halt]
            rename Below _ _ _ _ => B'
            refine leave_onSN B' F2 R2 U2 (fun h8 R8 _ U8 => hexc _ _ _ _ _ _ ⟨er, u3, so3, ?_, rfl, rfl, hset3⟩ FG' (raisedSN_sub R8 (fun x hx => ?_)) U8)
            · show p.vf dd kk cnt u = _
              rw [j2, vf_step hres hlook, hr]; rfl
            · rcases List.mem_cons.mp hx with rfl | hx
              · exact List.mem_cons_self ..
              · exact List.mem_cons_of_mem _ (hfxrs x (hrest x hx))
          case kr =>
            intro v13 nx13 news13 h13 tk13 F13 N13 l13 hR
            revert N13 l13
            refine gx3 v13 nx13 news13 fun G kG => ?_
            obtain ⟨tt, c3, u3, so3, T8, t81, cv3, n8, hr, rfl, hset3, rfl, rfl, hcv3⟩ := hR
            refine kG _ _ _ ?_
            clear kG
            intro N13 l13
            have htt := vfD_len o4 hr
            have hk2 := clo_len1 o5
            have hval := val_len (look_mem hlook) c9
            have hf0 : (f, (⟨ocl, odl, .func fdl, sll⟩ : Obj)) ∈ fx := by rw [hfx]; simp
            have hc0 : (c', oc) ∈ fx := by rw [hfx]; simp
            have n7 : @Ne Nat f RL := hfxR _ hf0
            have n8' : @Ne Nat c' RL := hfxR _ hc0
            have n9 : @Ne Nat T8 RL := Ne.symm (Nat.ne_of_lt (l13 _ (List.mem_singleton.mpr rfl) (RL, PySem.W.listOf rvs5.toArray nr5) (by rw [hrs2]; simp)))
            have N14 : News _ _ _ ((f, (⟨ocl, odl, .func fdl, sll⟩ : Obj)) :: (c', oc) :: (T8, ({ cls := .type "tuple", data := .seq #[.str (mk tt) t81, cv3] n8 } : Obj)) :: (U, so3) :: (RL, PySem.W.listOf rvs5.toArray nr5) :: (I, oI) :: (F0, instObj 102 d) :: (d, formD w t1 t2 t3 f) :: fx) := cb_drop N13 (by
              rw [hrs2]
              exact sub_cons (memt _ (memt _ (memt _ (memt _ hf0)))) (sub_cons (memt _ (memt _ (memt _ (memt _ hc0)))) (sub_cons (by k_mem) (sub_cons (by k_mem) (sub_cons (by k_mem) (sub_cons (by k_mem) (sub_cons (memt _ (memt _ (memt _ (memt _ hF0)))) (sub_cons (memt _ (memt _ (memt _ (memt _ hd0)))) (by walk_at "mine sub")))))))))
            clear N13 l13
            (try dsimp only)
            (try k_fold)
            walk_at "mine step"
            dsimp only [Halt]
            k_dflt (refine' hlam.2 _ (valL c9 xv) tt _ _ ?kl _ _ _ _ _ _ _ _ _ _ _ _ _ _ _ _ _ ?k1 ?k2 ?k3 ?k4 ?k5 ?kK ?kd ?ku ?_; (walk_at "mine cb"))
            case kl => omega
            rintro t15 h15 tk15 F15 N15
            (try dsimp only)
            (try k_fold)
            walk_at "mine step"
            rename News g' _ _ _ => lN'
            rename Fr g' _ _ _ => lF'
            refine for_next' (nw := (U, so3) :: (RL, PySem.W.listOf (rvs5 ++ [Value.str (mk (40 :: (valL c9 xv ++ 58 :: (tt ++ [41])))) t15]).toArray (nr5 + 1)) :: fx) lF' (cb_drop lN' (by walk_at "mine sub")) ?_
            refine VfJ.mk' r kk' c3 u3 (acc ++ l ++ (40 :: (valL c9 xv ++ 58 :: (tt ++ [41])))) (ts5 ++ [40 :: (valL c9 xv ++ 58 :: (tt ++ [41]))]) (rvs5 ++ [.str (mk (40 :: (valL c9 xv ++ 58 :: (tt ++ [41])))) t15]) (nr5 + 1) so3 cv3 e2 ?_ ?_ (strs_snoc s5) hcv3 hset3 ?_ ?_ o6 j10 ?_ ?_ ?_ ?_ a1 a2 a3 ?_ ?_
            · rw [j2, vf_step hres hlook, hr]; rfl
            · rw [c5]; simp
            · exact Nat.le_trans (Nat.le_max_right ..) j7
            · omega
            · intro m hm
              obtain ⟨n', h1, h2⟩ := vfD_cnt hr m hm
              have := hcb n' h1
              omega
            · have := vfD_used hr
              rw [List.length_append, List.length_singleton] at this
              omega
            · simp only [List.length_append, List.length_cons, List.length_nil]; omega
            · simp only [List.length_append, List.length_singleton]; omega
            · kst_all
            · walk_at "mine same"
    · intro I m₁ nw h tk hJ _
      clear F9 N10
      refine gx1 nw fun G kG => ?_
      refine hJ.elim (Mo := fun nw => G nw) ?_
      clear hJ
      intro q kk' c2 u' acc ts rvs nr so' cv' j1 j2 j3 j4 j5 j6 j7 j8 j9 j10 j11 j12 j13 j14 a1 a2 a3 m1 m2
      have hvl : pvs.length = (p.pieces kk).length := by rw [datAll_len d9, List.length_map]
      rw [hvl, List.drop_length] at j1
      obtain ⟨rfl, rfl⟩ := pieces_nil j1.symm
      have hb : ts.flatten.length ≤ 1000000 := by rw [← j3]; simp only [P.nf, List.length_nil] at j13; omega
      have hml : (mk ts.flatten).length ≤ 1000000 := by rw [mk_len]; exact hb
      refine kG _ ?_
      clear kG
      intro F1 N1
      have F2 := ksw_fr m1 m2 F1
      clear F1
      walk_at "mine step"
      dsimp only [Halt]
      rename News g' _ _ _ => lN
      k_dflt (refine' join_e ts (News.isList lN ?kn2) j4 hb ?_)
      case kn2 => k_mem
      intro t15 k15
      walk_at "mine step"
      rename Fr h₀ L _ _ => kF
      rename News h₀ L _ _ => kN
      obtain ⟨T9, oT, hT, hoT⟩ := led_obj kN
      subst hT
      refine hret _ [(T9, oT)] ((U, so') :: rest) _ _ kF (cb_drop kN fun y hy => ?_) ?_ ⟨ts.flatten, c2, u', so', T9, _, _, _, ?_, rfl, j6, rfl, by rw [hoT], j5⟩
      · simp only [List.cons_append, List.nil_append, List.mem_cons] at hy ⊢
        rcases hy with rfl | rfl | hy
        · exact .inl (by rw [hoT])
        · exact .inr (.inl rfl)
        · exact .inr (.inr (.inr (by rw [hfx]; simp [hy])))
      · intro y hy z hz
        rw [List.mem_singleton] at hy
        subst hy
        have h1 : _ := (by assumption : @LT.lt Nat _ U T9 ∧ @LT.lt Nat _ RL T9 ∧ AllLt T9 fx)
        rcases List.mem_cons.mp hz with rfl | hz
        · exact h1.1
        · exact allLt_to h1.2.2 z (by rw [hfx]; simp [hz])
      · show p.vf dd kk cnt u = _
        rw [j2, P.vf, Rpre_ok, List.append_nil, j3]
    · obtain ⟨j, hj⟩ := List.mem_iff_getElem?.mp hv
      obtain ⟨pc, _, hpc⟩ := pc_at d9 hj
      exact pc_ref hpc
end S1wX
local macro_rules | `(tactic| walk_at "pad 4") => `(tactic| skip)
section S1dX
open PyProof.Rows.LCg
local macro_rules | `(tactic| walk_at "compareOp In str ref") => `(tactic| (k_dflt (refine' in_tuple_strs (News.isTup (by k_asm) (by k_mem)) (by first | exact sa_knz _ _ _ | exact sa_ra _ _) ?_)))
local macro_rules | `(tactic| walk_at "call builtin:len") => `(tactic| ((with_reducible show wpAny _ _ (call (Value.builtin "len") [Value.ref _]) _ _ _); k_dflt (refine' len_six (by k_asm) (by k_mem) (by assumption) ?_)))
local macro_rules | `(tactic| walk_at "compareOp In int ref") => `(tactic| (k_dflt (refine' in_tuple_strs_int (News.isTup (by k_asm) (by k_mem)) (by exact sa_knz _ _ _) ?_)))
local macro_rules | `(tactic| walk_at "subscriptTail Name Name ref int") => `(tactic| (k_dflt (refine' item_listL (News.isList (by k_asm) (by k_mem)) (by omega) (by omega) (by assumption) ?_ (by with_unfolding_all rfl) (by (intro _; with_unfolding_all rfl)))))
local macro_rules | `(tactic| walk_at "compareOp NotIn str ref") => `(tactic| (k_dflt (refine' notin_dict (by k_asm) (by k_mem) (by assumption) (by assumption) (strKind_is _ _ _ _) _ (by assumption) ?_); (try dsimp only [Bool.not_true, Bool.not_false])))
local macro_rules | `(tactic| walk_at "subscriptTail Name Name ref str") => `(tactic| (k_dflt (refine' kda_item (by k_asm) (by k_mem) (by assumption) (strKind_is _ _ _ _) (by assumption) ?_ (by with_unfolding_all rfl) (by (intro _; with_unfolding_all rfl)))))
local macro_rules | `(tactic| walk_at "mine dec") => `(tactic| first | (simp only [decide_eq_true_eq, beq_iff_eq, bne_iff_ne]; omega) | assumption | exact ne_true_of_eq_false (by assumption) | decide +kernel | (simp only [*]; decide) | (simp only [*]; done))
local macro_rules | `(tactic| walk_at "call builtin:str.index") => `(tactic| first | (refine SC.index (i := 0) (rest := []) (by decide +kernel) ?_) | (refine SC.index (i := 1) (rest := []) (by decide +kernel) ?_))
local macro_rules | `(tactic| walk_at "exec For Name Name cons nil") => `(tactic| refine wpAny_For ?_)
local macro_rules | `(tactic| walk_at "pyIter ref") => `(tactic| refine halt ?_)
local macro_rules | `(tactic| walk_at "call builtin:set.add") => `(tactic| (k_dflt (refine' set_add (by k_asm) (by k_asm) (by k_updF) (by assumption) (by omega) (by exact keyVal_is (by assumption)) ?_); intro h' o' F' N' hs'; (try dsimp only at N')))
local macro_rules | `(tactic| walk_at "exec If") => `(tactic| (refine halt ?_))
local macro_rules | `(tactic| walk_at "eval IfExp") => `(tactic| (refine halt ?_))
local macro_rules | `(tactic| walk_at "mine same0") => `(tactic| (intro z h2; obtain ⟨h4, h5⟩ := h2; simp only [h4, h5, if_false]))
noncomputable def rowD (x : List Nat × List Nat) : Dat := .tuple [.str (mk x.1), .str (mk x.2)]
structure DueEnv (w : World) (rest : List (Addr × Obj)) (EV ROW TAB : Addr) (es : List Ev) : Prop where
  e : ∃ vs nn, (EV, PySem.W.listOf vs.toArray nn) ∈ rest ∧ DatAll rest vs (es.map evD)
  r : ∃ rvs nr, (ROW, PySem.W.listOf rvs.toArray nr) ∈ rest ∧ DatAll rest rvs (rowL.map rowD)
  t : ∃ otab va vb, (TAB, otab) ∈ rest ∧ otab.IsDictOf (kwE w) [(mk [107], va), (mk [110], vb)] ∧ DatIn rest va (rowD ([75], [39,75,39])) ∧ DatIn rest vb (rowD ([39], [34,39,34]))
  lo : (TAB == sysModules) = false
noncomputable def DueRes (w : World) (r : R) (U : Addr) (rest nx news' : List (Addr × Obj)) (v : Value) : Prop :=
  (∃ t c u so' T t1 cv n, r = .ok t c u ∧ news' = (U, so') :: rest ∧ SetIs pr1 w so' u ∧ v = .ref T ∧ nx = [(T, ({ cls := .type "tuple", data := .seq #[.str (mk t) t1, cv, .bool c.isNone] n } : Obj))] ∧ CntV c cv) ∨
  (∃ e u so' t1, r = .err e u ∧ news' = (U, so') :: rest ∧ SetIs pr1 w so' u ∧ v = .str (Str.ofString (errN e)) t1 ∧ nx = [])
noncomputable def VMid (g : Heap) (L : Addr) (mc : Str → Option Value) (s : Shared) (led : List (Addr × Obj)) (x : List Nat) (v : Value) (s₂ : Shared) : Prop :=
  ∃ t h' tk', v = .str (mk x) t ∧ s₂ = { s with heap := h', toks := tk' } ∧ Fr g L h' mc ∧ News g L h' led
theorem wp_val {M : Model} {A : Around} {m : Sem Value} {Q : Value → Shared → Prop} {E : Value → Shared → Prop} {s : Shared} {g : Heap} {L : Addr} {mc : Str → Option Value} {h0 : Heap} (_ : Fr g L h0 mc) (led : List (Addr × Obj)) (x : List Nat) (h1 : wpAny M A m (VMid g L mc s led x) E s)
    (h2 : ∀ t h' tk', Fr g L h' mc → News g L h' led → Q (.str (mk x) t) { s with heap := h', toks := tk' }) : wpAny M A m Q E s :=
  wpAny_mono h1 (fun v s₂ ⟨t, h', tk', e1, e2, F, N⟩ => by subst e1 e2; exact h2 t h' tk' F N) (fun _ _ h => h)
theorem VMid.mk' {g : Heap} {L : Addr} {mc : Str → Option Value} {s : Shared} {led : List (Addr × Obj)} {x : List Nat} {y : Str} {t : Tok} {h' : Heap} {tk' : Nat} (F : Fr g L h' mc) (N : News g L h' led) (e : y = mk x) : VMid g L mc s led x (.str y t) { s with heap := h', toks := tk' } :=
  ⟨t, h', tk', by rw [e], rfl, F, N⟩
theorem for_next {h₀ : Heap} {L : Addr} {s : Shared} {J : (Str → Option Value) → List (Addr × Obj) → Prop} {I : Addr} {o : Obj} {h' : Heap} {tk' : Nat} {m' : Str → Option Value} {nw : List (Addr × Obj)} (F : Fr h₀ L h' m') (N : News h₀ L h' ((I, o) :: nw)) (hJ : J m' nw) :
    ∃ h2 tk2 m2 nw2, ({ s with heap := h', toks := tk' } : Shared) = { s with heap := h2, toks := tk2 } ∧ Fr h₀ L h2 m2 ∧ News h₀ L h2 ((I, o) :: nw2) ∧ J m2 nw2 := ⟨_, _, _, _, rfl, F, N, hJ⟩
noncomputable def DueJ (w : World) (D : Nat) (es : List Ev) (r : R) (U : Addr) (rest : List (Addr × Obj)) (m₀ : Str → Option Value) (I : Addr) (i : Nat) (m : Str → Option Value) (nw : List (Addr × Obj)) : Prop :=
  ∃ (t : List Nat) (c : Option Nat) (lv : Nat) (u : List Key) (so' : Obj) (cv : Value) (t1 t2 : Tok),
    r = dueGo D (es.drop i) t c lv u ∧ CntV c cv ∧ SetIs pr1 w so' u ∧ okGo (es.drop i) lv ∧ lv ≤ i ∧ t.length ≤ 20 * i ∧ u.length ≤ i ∧ (∀ n, c = some n → n + ((es.drop i).filter isOp).length ≤ 13) ∧
    nw = (U, so') :: rest ∧ (U < I ∧ ∀ x ∈ rest, x.1 < I) ∧
    (∀ p ∈ [(Str.ofString "text", Value.str (mk t) t1), (Str.ofString "count", cv), (Str.ofString "level", .int lv t2)], m p.1 = some p.2) ∧
    (∀ z, (∀ p ∈ [(Str.ofString "text", Value.str (mk t) t1), (Str.ofString "count", cv), (Str.ofString "level", .int lv t2)], z ≠ p.1) → [Str.ofString "event", Str.ofString "key", Str.ofString "plain", Str.ofString "written"].contains z = false → m z = m₀ z)
theorem DueJ.mk' {w : World} {D : Nat} {es : List Ev} {r : R} {U : Addr} {rest : List (Addr × Obj)} {m₀ : Str → Option Value} {I : Addr} {i : Nat} {m : Str → Option Value} (t : List Nat) (c : Option Nat) (lv : Nat) (u : List Key) (so' : Obj) (cv : Value) (t1 t2 : Tok)
    (j1 : r = dueGo D (es.drop i) t c lv u) (j2 : CntV c cv) (j3 : SetIs pr1 w so' u) (j4 : okGo (es.drop i) lv) (j5 : lv ≤ i) (j6 : t.length ≤ 20 * i) (j7 : u.length ≤ i) (j8 : ∀ n, c = some n → n + ((es.drop i).filter isOp).length ≤ 13)
    (a1 : U < I) (a2 : ∀ x ∈ rest, x.1 < I)
    (m1 : ∀ p ∈ [(Str.ofString "text", Value.str (mk t) t1), (Str.ofString "count", cv), (Str.ofString "level", .int lv t2)], m p.1 = some p.2)
    (m2 : ∀ z, (∀ p ∈ [(Str.ofString "text", Value.str (mk t) t1), (Str.ofString "count", cv), (Str.ofString "level", .int lv t2)], z ≠ p.1) → [Str.ofString "event", Str.ofString "key", Str.ofString "plain", Str.ofString "written"].contains z = false → m z = m₀ z) :
    DueJ w D es r U rest m₀ I i m ((U, so') :: rest) := ⟨t, c, lv, u, so', cv, t1, t2, j1, j2, j3, j4, j5, j6, j7, j8, rfl, ⟨a1, a2⟩, m1, m2⟩
theorem DueJ.elim {w : World} {D : Nat} {es : List Ev} {r : R} {U : Addr} {rest : List (Addr × Obj)} {m₀ : Str → Option Value} {I : Addr} {i : Nat} {m : Str → Option Value} {nw : List (Addr × Obj)} {P : List (Addr × Obj) → Prop} (h : DueJ w D es r U rest m₀ I i m nw)
    (k : ∀ (t : List Nat) (c : Option Nat) (lv : Nat) (u : List Key) (so' : Obj) (cv : Value) (t1 t2 : Tok), r = dueGo D (es.drop i) t c lv u → CntV c cv → SetIs pr1 w so' u → okGo (es.drop i) lv → lv ≤ i → t.length ≤ 20 * i → u.length ≤ i → (∀ n, c = some n → n + ((es.drop i).filter isOp).length ≤ 13) →
      U < I → (∀ x ∈ rest, x.1 < I) →
      (∀ p ∈ [(Str.ofString "text", Value.str (mk t) t1), (Str.ofString "count", cv), (Str.ofString "level", .int lv t2)], m p.1 = some p.2) →
      (∀ z, (∀ p ∈ [(Str.ofString "text", Value.str (mk t) t1), (Str.ofString "count", cv), (Str.ofString "level", .int lv t2)], z ≠ p.1) → [Str.ofString "event", Str.ofString "key", Str.ofString "plain", Str.ofString "written"].contains z = false → m z = m₀ z) → P ((U, so') :: rest)) : P nw := by
  obtain ⟨t, c, lv, u, so', cv, t1, t2, j1, j2, j3, j4, j5, j6, j7, j8, rfl, ⟨a1, a2⟩, m1, m2⟩ := h
  exact k t c lv u so' cv t1 t2 j1 j2 j3 j4 j5 j6 j7 j8 a1 a2 m1 m2
noncomputable def KeyMid (g : Heap) (L : Addr) (mc : Str → Option Value) (s : Shared) (led : List (Addr × Obj)) (n : List Nat) (c : Option Nat) (fl : Flow) (s₂ : Shared) : Prop :=
  (fl = .next ∧ ∃ key c1 h' tk' kv cvv m', resolve n c = some (key, c1) ∧ s₂ = { s with heap := h', toks := tk' } ∧ Fr g L h' m' ∧ News g L h' led ∧ KeyVal key kv ∧ CntV c1 cvv ∧ m' (Str.ofString "key") = some kv ∧ m' (Str.ofString "count") = some cvv ∧ ∀ z, z ≠ Str.ofString "key" ∧ z ≠ Str.ofString "count" → m' z = mc z) ∨
  (∃ t h' tk' m', fl = .ret (.str (Str.ofString "ValueError") t) ∧ resolve n c = none ∧ s₂ = { s with heap := h', toks := tk' } ∧ Fr g L h' m' ∧ News g L h' led)
theorem KeyMid.nx {g : Heap} {L : Addr} {mc m' : Str → Option Value} {s : Shared} {led : List (Addr × Obj)} {n : List Nat} {c c1 : Option Nat} {key : Key} {h' : Heap} {tk' : Nat} {kv cvv : Value}
    (hres : resolve n c = some (key, c1)) (F : Fr g L h' m') (N : News g L h' led) (e1 : m' (Str.ofString "key") = some kv) (e2 : m' (Str.ofString "count") = some cvv) (hk : KeyVal key kv) (hcv : CntV c1 cvv)
    (h3 : ∀ z, (z ≠ Str.ofString "key" ∧ z ≠ Str.ofString "count") → m' z = mc z) : KeyMid g L mc s led n c .next { s with heap := h', toks := tk' } :=
  .inl ⟨rfl, key, c1, h', tk', kv, cvv, m', hres, rfl, F, N, hk, hcv, e1, e2, h3⟩
theorem KeyMid.rt {g : Heap} {L : Addr} {mc m' : Str → Option Value} {s : Shared} {led : List (Addr × Obj)} {n : List Nat} {c : Option Nat} {h' : Heap} {tk' : Nat} {t : Tok}
    (hres : resolve n c = none) (F : Fr g L h' m') (N : News g L h' led) : KeyMid g L mc s led n c (.ret (.str (Str.ofString "ValueError") t)) { s with heap := h', toks := tk' } :=
  .inr ⟨t, h', tk', m', rfl, hres, rfl, F, N⟩
noncomputable def LookMid (g : Heap) (L : Addr) (mc : Str → Option Value) (s : Shared) (led : List (Addr × Obj)) (key : Key) (fl : Flow) (s₂ : Shared) : Prop :=
  (fl = .next ∧ ∃ x h' tk' p1 p2 m', look key = .ok x ∧ s₂ = { s with heap := h', toks := tk' } ∧ Fr g L h' m' ∧ News g L h' led ∧ m' (Str.ofString "plain") = some (.str (mk x.1) p1) ∧ m' (Str.ofString "written") = some (.str (mk x.2) p2) ∧ ∀ z, z ≠ Str.ofString "plain" ∧ z ≠ Str.ofString "written" → m' z = mc z) ∨
  (∃ e t h' tk' m', fl = .ret (.str (Str.ofString (errN e)) t) ∧ look key = .error e ∧ s₂ = { s with heap := h', toks := tk' } ∧ Fr g L h' m' ∧ News g L h' led)
theorem LookMid.nx {g : Heap} {L : Addr} {mc m' : Str → Option Value} {s : Shared} {led : List (Addr × Obj)} {key : Key} {h' : Heap} {tk' : Nat} {x : List Nat × List Nat} {p1 p2 : Tok}
    (hres : look key = .ok x) (F : Fr g L h' m') (N : News g L h' led) (e1 : m' (Str.ofString "plain") = some (.str (mk x.1) p1)) (e2 : m' (Str.ofString "written") = some (.str (mk x.2) p2))
    (h3 : ∀ z, (z ≠ Str.ofString "plain" ∧ z ≠ Str.ofString "written") → m' z = mc z) : LookMid g L mc s led key .next { s with heap := h', toks := tk' } :=
  .inl ⟨rfl, x, h', tk', p1, p2, m', hres, rfl, F, N, e1, e2, h3⟩
theorem LookMid.rt {g : Heap} {L : Addr} {mc m' : Str → Option Value} {s : Shared} {led : List (Addr × Obj)} {key : Key} {h' : Heap} {tk' : Nat} {t : Tok} {e : Err}
    (hres : look key = .error e) (F : Fr g L h' m') (N : News g L h' led) : LookMid g L mc s led key (.ret (.str (Str.ofString (errN e)) t)) { s with heap := h', toks := tk' } :=
  .inr ⟨e, t, h', tk', m', rfl, hres, rfl, F, N⟩
theorem row_tup {news : List (Addr × Obj)} {v : Value} {x : List Nat × List Nat} (h : DatIn news v (rowD x)) :
    ∃ T t1 t2 k, v = .ref T ∧ (T, ({ cls := .type "tuple", data := .seq #[.str (mk x.1) t1, .str (mk x.2) t2] k } : Obj)) ∈ news := by
  unfold rowD at h
  refine gx1 v fun G kG => ?_
  obtain ⟨T, vs, k, rfl, hm, ha0⟩ := tup_inv h
  obtain ⟨v1, w1, rfl, h1, ha1⟩ := cons_inv ha0
  obtain ⟨v2, w2, rfl, h2, ha2⟩ := cons_inv ha1
  obtain ⟨t1, rfl⟩ := str_inv h1
  obtain ⟨t2, rfl⟩ := str_inv h2
  cases nil_inv ha2
  exact kG _ ⟨T, t1, t2, k, rfl, hm⟩
theorem row_at {news : List (Addr × Obj)} {rvs : List Value} {xs : List (List Nat × List Nat)} (h : DatAll news rvs (xs.map rowD)) {i : Nat} {x} (hx : xs[i]? = some x) : ∃ v, rvs[i]? = some v ∧ DatIn news v (rowD x) := by
  have hl := datAll_len h
  rw [List.length_map] at hl
  have hi : i < rvs.length := by rw [hl]; exact (List.getElem?_eq_some_iff.mp hx).1
  have hv : rvs[i]? = some (rvs[i]'hi) := List.getElem?_eq_getElem hi
  obtain ⟨d, h1, h2⟩ := datAll_at h hv
  rw [List.getElem?_map, hx] at h1
  cases h1
  exact ⟨_, hv, h2⟩
theorem fr_gl {g h : Heap} {L : Addr} {m : Str → Option Value} (_ : Fr g L h m) : ∃ g' L', g' = g ∧ L' = L := ⟨g, L, rfl, rfl⟩
theorem led_key {h₀ h : Heap} {L : Addr} {x : Addr × Obj} {r : List (Addr × Obj)} (N : News h₀ L h (x :: r)) : News h₀ L h r := cb_drop N (fun y hy => List.mem_cons_of_mem _ hy)
theorem due_spec (w : World) (mean mg mb rest) (EV ROW TAB U : Addr) (so : Obj) (p : P) (D : Nat) (c : Option Nat) (cv : Value) (tD : Tok) (ok : ∀ e ∈ p.evs, EvOk e) (hn : p.nf ≤ 10) (hD : D ≤ 5) (hc : ∀ n, c = some n → n ≤ 3) (hcv : CntV c cv) (hso : SetIs pr1 w so []) (hoff : ∀ x ∈ rest, x.1 ≠ U) (henv : DueEnv w rest EV ROW TAB p.evs) :
   ClXk 3 w mean mg mb 199 ((U, so) :: rest) [.ref EV, .ref ROW, .ref TAB, .ref U, .int D tD, cv] [] (DueRes w (dueGo D p.evs [] c 0 []) U rest) (fun _ _ => False) := by
  intro dp un gd cn cs a ccd cl outer A₀ base h₀ L m s Q E B F X Nn T hkk hd hu hret hexc
  obtain ⟨vs, nn, hEV, hda⟩ := henv.e
  refine wpAny_call ?_
  k_dflt cell_enter
  rename Fr _ _ _ _ => lF
  replace lF := fr_as (fun y => List.lookup y [(Str.ofString "start", cv), (Str.ofString "depth", .int D tD), (Str.ofString "used", .ref U), (Str.ofString "table", .ref TAB), (Str.ofString "row", .ref ROW), (Str.ofString "events", .ref EV)]) lF (by with_unfolding_all rfl)
  walk_at "mine step"
  dsimp only [Halt]
  rename Fr _ _ _ _ => lF
  rename News _ _ _ _ => lN
  obtain ⟨g', L', eg, eL⟩ := fr_gl lF
  subst eg eL
  have lN2 : News _ _ _ ((U, so) :: rest) := cb_drop lN (fun y hy => List.mem_cons_of_mem _ hy)
  clear lN
  refine for_listI (vs := vs) (nn := nn) (DueJ w D p.evs (dueGo D p.evs [] c 0 []) U rest (fun y => List.lookup y [(Str.ofString "start", cv), (Str.ofString "depth", .int D tD), (Str.ofString "used", .ref U), (Str.ofString "table", .ref TAB), (Str.ofString "row", .ref ROW), (Str.ofString "events", .ref EV)])) rfl lF lN2 ?_ ?_ ?_ ?_ ?_ (by passes_own) (fun _ _ _ _ _ _ _ _ h => go_name h)
  · intro I hI
    exact DueJ.mk' [] c 0 [] so cv _ _ (by rw [List.drop_zero]) hcv hso (okGo_all p) (Nat.zero_le _) (Nat.zero_le _) (Nat.zero_le _) (fun n h => by have := hc n h; rw [List.drop_zero, P.nf_evs]; omega) (hI _ (List.mem_cons_self ..)) (fun x hx => hI x (List.mem_cons_of_mem _ hx)) (by kst_all) (by walk_at "mine same")
  · intro I i m nw hJ
    exact hJ.elim (P := fun nw => (EV, PySem.W.listOf vs.toArray nn) ∈ nw) fun _ _ _ _ _ _ _ _ _ _ _ _ _ _ _ _ _ _ _ _ => List.mem_cons_of_mem _ hEV
  · intro I i m nw hJ
    exact hJ.elim (P := fun nw => ∀ x ∈ nw, x.1 ≠ I) fun _ _ _ _ _ _ _ _ _ _ _ _ _ _ _ _ a1 a2 _ _ x hx => (List.mem_cons.mp hx).elim (fun e => e ▸ Nat.ne_of_lt a1) fun hx => Nat.ne_of_lt (a2 x hx)
  · intro i x m₁ nw I oI h tk hx1 hJ _
    clear lF lN2
    refine gx2 nw x fun G kG => ?_
    refine hJ.elim (P := fun nw => G nw x) ?_
    clear hJ
    intro t c lv u so' cv' t1 t2 j1 j2 j3 j4 j5 j6 j7 j8 a1 a2 m1 m2
    have a1' := ltN a1
    obtain ⟨e, he, hde⟩ := evs_at hda hx1
    have hok := ok e (List.mem_of_getElem? he)
    have hi20 : i < 20 := by
      have h1 := (List.getElem?_eq_some_iff.mp he).1
      rw [nf_len] at h1; omega
    rw [drop_at he] at j1 j4
    simp only [drop_at he, List.filter_cons] at j8
    have htl : (mk t).length ≤ 400 := by rw [mk_len]; omega
    have hs1 : (Str.ofString ")").length = 1 := rfl
    have hs2 : (Str.ofString "(").length = 1 := rfl
    have hs3 : (Str.ofString ":").length = 1 := rfl
    cases e with
    | cl k =>
      obtain ⟨T, t7, kk, rfl, hT⟩ := ev_cl hde
      have hkl : k.length ≤ 1 := clo_len1 hok
      have hkl2 : (mk k).length ≤ 1 := by rw [mk_len]; exact hkl
      obtain ⟨hpos, j4'⟩ := j4
      have n1 : @Ne Nat T U := hoff _ hT
      refine kG _ _ ?_
      intro F1 N1
      have F2 := ksw_fr m1 m2 F1
      clear F1 kG
      have N2 : News _ _ _ ((T, _) :: (U, so') :: (I, oI) :: rest) := cb_drop N1 (sub_cons (memt _ (memt _ hT)) (by walk_at "mine sub"))
      clear N1
      walk_at "mine step"
      dsimp only [Halt]
      refine wpAny_If ?_
      walk_at "mine step"
      dsimp only
      rename News _ _ _ _ => lN'
      rename Fr _ _ _ _ => lF'
      have hX : mk t ++ mk k ++ Str.ofString ")" = mk (t ++ k ++ [41]) := by rw [show Str.ofString ")" = mk [41] from rfl, mk_append, mk_append]
      have hlv : ((lv - 1 : Nat) : Int) = (lv : Int) - 1 := by omega
      refine for_next (nw := (U, so') :: rest) lF' (cb_drop lN' (by walk_at "mine sub")) ?_
      refine DueJ.mk' (t ++ k ++ [41]) c (lv - 1) u so' cv' ?tq1a ?tq1b j1 j2 j3 j4' (by omega) ?_ (by omega) (fun n h => by have := j8 n h; simpa [isOp] using this) a1 a2 ?ps ?sm
      case ps => rw [← hX, hlv]; kst_all
      case sm => walk_at "mine same"
      · simp only [List.length_append, List.length_singleton]; omega
    | op l n c9 =>
      obtain ⟨T, t7, t8, t9, k7, rfl, hT⟩ := ev_op hde
      obtain ⟨o1, o2, o3⟩ := hok
      have hll := lit_len3 o1
      have hll2 : (mk l).length ≤ 3 := by rw [mk_len]; exact hll
      have n1 : @Ne Nat T U := hoff _ hT
      obtain ⟨rvs, nr, hROW, hrd⟩ := henv.r
      obtain ⟨otab, va, vb, hTAB, hkd, hva, hvb⟩ := henv.t
      have hlo := henv.lo
      have hrl : rvs.length = 6 := by have := datAll_len hrd; simpa [rowL] using this
      obtain ⟨Ta, ta1, ta2, ka, rfl, hTa⟩ := row_tup hva
      obtain ⟨Tb, tb1, tb2, kb, rfl, hTb⟩ := row_tup hvb
      refine kG _ _ ?_
      intro F1 N1
      have F2 := ksw_fr m1 m2 F1
      clear F1 kG
      have N2 : News _ _ _ ((T, _) :: (U, so') :: (I, oI) :: rest) := cb_drop N1 (sub_cons (memt _ (memt _ hT)) (by walk_at "mine sub"))
      clear N1
      have j8' : ∀ n, c = some n → n + (((p.evs.drop (i + 1)).filter isOp).length + 1) ≤ 13 := fun n h => by have := j8 n h; simpa [isOp] using this
      clear j8
      walk_at "mine step"
      dsimp only [Halt]
      refine wpAny_If ?_
      walk_at "mine step"
      dsimp only [Halt]
      rename Fr _ _ _ _ => lF6
      rename News _ _ _ _ => lN6'
      have lN6 := led_key lN6'
      clear lN6'
      obtain ⟨mc, hmc, lF4⟩ := fr_name lF6
      clear lF4
      refine wpAny_mono (Q := KeyMid g' L' mc s ((T, ({ cls := .type "tuple", data := .seq #[.str (mk l) t7, .str (mk n) t8, .str (mk c9) t9] k7 } : Obj)) :: (U, so') :: (I, oI) :: rest) n c) ?_ ?_ (fun _ _ h => h)
      · simp only [nameS, List.mem_cons, List.not_mem_nil, or_false] at o2
        clear he hde hT ok henv hda hx1 hva hvb hrd hkd n1 hROW hTAB hTa hTb hlo
        revert lF6 lN6 hmc
        refine gx3 n c cv' fun G kG => ?_
        rcases o2 with rfl | rfl | rfl | rfl | rfl | rfl
        · cases c with
          | none =>
            cases j2
            have hres : resolve [] none = none := rfl
            refine kG _ _ _ ?_
            intro lF6 lN6 hmc
            clear kG
            refine wpAny_If ?_
            walk_at "mine step"
            dsimp only [Halt]
            refine wpAny_If ?_
            walk_at "mine step"
            rename Fr _ _ _ _ => lF7
            rename News _ _ _ _ => lN7
            first | exact KeyMid.rt hres lF7 lN7 | exact KeyMid.rt hres lF7 (led_key lN7)
          | some cn =>
            obtain ⟨tc, rfl⟩ := j2
            have hcn := j8' cn rfl
            have hres : resolve [] (some cn) = some (.int cn, some (cn + 1)) := rfl
            refine kG _ _ _ ?_
            intro lF6 lN6 hmc
            clear kG
            refine wpAny_If ?_
            walk_at "mine step"
            dsimp only [Halt]
            refine wpAny_If ?_
            walk_at "mine step"
            rename Fr _ _ _ _ => lF7
            rename News _ _ _ _ => lN7
            k_dflt (refine' KeyMid.nx hres lF7 ?e0 ?e1 ?e2 ?e3 ?e4 ?_; (case e0 => first | exact lN7 | exact led_key lN7); (case e1 => exact rfl); (case e2 => exact rfl); (case e3 => exact ⟨_, rfl⟩); (case e4 => exact ⟨_, rfl⟩))
            rw [hmc]; walk_at "mine same0"
        · have hres : resolve [107] c = some (.str [107], c) := by simp [resolve]
          refine kG _ _ _ ?_
          intro lF6 lN6 hmc
          clear kG
          refine wpAny_If ?_
          walk_at "mine step"
          dsimp only [Halt]
          refine wpAny_If ?_
          walk_at "mine step"
          rename Fr _ _ _ _ => lF7
          rename News _ _ _ _ => lN7
          k_dflt (refine' KeyMid.nx hres lF7 ?e0 ?e1 ?e2 ?e3 ?e4 ?_; (case e0 => first | exact lN7 | exact led_key lN7); (case e1 => exact rfl); (case e2 => exact rfl); (case e3 => exact ⟨_, rfl⟩); (case e4 => exact j2))
          rw [hmc]; walk_at "mine same0"
        · have hres : resolve [110] c = some (.str [110], c) := by simp [resolve]
          refine kG _ _ _ ?_
          intro lF6 lN6 hmc
          clear kG
          refine wpAny_If ?_
          walk_at "mine step"
          dsimp only [Halt]
          refine wpAny_If ?_
          walk_at "mine step"
          rename Fr _ _ _ _ => lF7
          rename News _ _ _ _ => lN7
          k_dflt (refine' KeyMid.nx hres lF7 ?e0 ?e1 ?e2 ?e3 ?e4 ?_; (case e0 => first | exact lN7 | exact led_key lN7); (case e1 => exact rfl); (case e2 => exact rfl); (case e3 => exact ⟨_, rfl⟩); (case e4 => exact j2))
          rw [hmc]; walk_at "mine same0"
        · have hres : resolve [122] c = some (.str [122], c) := by simp [resolve]
          refine kG _ _ _ ?_
          intro lF6 lN6 hmc
          clear kG
          refine wpAny_If ?_
          walk_at "mine step"
          dsimp only [Halt]
          refine wpAny_If ?_
          walk_at "mine step"
          rename Fr _ _ _ _ => lF7
          rename News _ _ _ _ => lN7
          k_dflt (refine' KeyMid.nx hres lF7 ?e0 ?e1 ?e2 ?e3 ?e4 ?_; (case e0 => first | exact lN7 | exact led_key lN7); (case e1 => exact rfl); (case e2 => exact rfl); (case e3 => exact ⟨_, rfl⟩); (case e4 => exact j2))
          rw [hmc]; walk_at "mine same0"
        · cases c with
          | none =>
            cases j2
            have hres : resolve [48] none = some (.int 0, none) := rfl
            refine kG _ _ _ ?_
            intro lF6 lN6 hmc
            clear kG
            refine wpAny_If ?_
            walk_at "mine step"
            dsimp only [Halt]
            refine wpAny_If ?_
            walk_at "mine step"
            dsimp only [Halt]
            refine wpAny_If ?_
            walk_at "mine step"
            rename Fr _ _ _ _ => lF7
            rename News _ _ _ _ => lN7
            k_dflt (refine' KeyMid.nx hres lF7 ?e0 ?e1 ?e2 ?e3 ?e4 ?_; (case e0 => first | exact lN7 | exact led_key lN7); (case e1 => exact rfl); (case e2 => exact rfl); (case e3 => exact ⟨_, rfl⟩); (case e4 => exact rfl))
            rw [hmc]; walk_at "mine same0"
          | some cn =>
            obtain ⟨tc, rfl⟩ := j2
            cases cn with
            | zero =>
              have hres : resolve [48] (some 0) = some (.int 0, none) := rfl
              refine kG _ _ _ ?_
              intro lF6 lN6 hmc
              clear kG
              refine wpAny_If ?_
              walk_at "mine step"
              dsimp only [Halt]
              refine wpAny_If ?_
              walk_at "mine step"
              dsimp only [Halt]
              refine wpAny_If ?_
              walk_at "mine step"
              rename Fr _ _ _ _ => lF7
              rename News _ _ _ _ => lN7
              k_dflt (refine' KeyMid.nx hres lF7 ?e0 ?e1 ?e2 ?e3 ?e4 ?_; (case e0 => first | exact lN7 | exact led_key lN7); (case e1 => exact rfl); (case e2 => exact rfl); (case e3 => exact ⟨_, rfl⟩); (case e4 => exact rfl))
              rw [hmc]; walk_at "mine same0"
            | succ cn =>
              have hres : resolve [48] (some (cn + 1)) = none := by simp [resolve]
              refine kG _ _ _ ?_
              intro lF6 lN6 hmc
              clear kG
              refine wpAny_If ?_
              walk_at "mine step"
              dsimp only [Halt]
              refine wpAny_If ?_
              walk_at "mine step"
              dsimp only [Halt]
              refine wpAny_If ?_
              walk_at "mine step"
              rename Fr _ _ _ _ => lF7
              rename News _ _ _ _ => lN7
              first | exact KeyMid.rt hres lF7 lN7 | exact KeyMid.rt hres lF7 (led_key lN7)
        · cases c with
          | none =>
            cases j2
            have hres : resolve [49] none = some (.int 1, none) := rfl
            refine kG _ _ _ ?_
            intro lF6 lN6 hmc
            clear kG
            refine wpAny_If ?_
            walk_at "mine step"
            dsimp only [Halt]
            refine wpAny_If ?_
            walk_at "mine step"
            dsimp only [Halt]
            refine wpAny_If ?_
            walk_at "mine step"
            rename Fr _ _ _ _ => lF7
            rename News _ _ _ _ => lN7
            k_dflt (refine' KeyMid.nx hres lF7 ?e0 ?e1 ?e2 ?e3 ?e4 ?_; (case e0 => first | exact lN7 | exact led_key lN7); (case e1 => exact rfl); (case e2 => exact rfl); (case e3 => exact ⟨_, rfl⟩); (case e4 => exact rfl))
            rw [hmc]; walk_at "mine same0"
          | some cn =>
            obtain ⟨tc, rfl⟩ := j2
            cases cn with
            | zero =>
              have hres : resolve [49] (some 0) = some (.int 1, none) := rfl
              refine kG _ _ _ ?_
              intro lF6 lN6 hmc
              clear kG
              refine wpAny_If ?_
              walk_at "mine step"
              dsimp only [Halt]
              refine wpAny_If ?_
              walk_at "mine step"
              dsimp only [Halt]
              refine wpAny_If ?_
              walk_at "mine step"
              rename Fr _ _ _ _ => lF7
              rename News _ _ _ _ => lN7
              k_dflt (refine' KeyMid.nx hres lF7 ?e0 ?e1 ?e2 ?e3 ?e4 ?_; (case e0 => first | exact lN7 | exact led_key lN7); (case e1 => exact rfl); (case e2 => exact rfl); (case e3 => exact ⟨_, rfl⟩); (case e4 => exact rfl))
              rw [hmc]; walk_at "mine same0"
            | succ cn =>
              have hres : resolve [49] (some (cn + 1)) = none := by simp [resolve]
              refine kG _ _ _ ?_
              intro lF6 lN6 hmc
              clear kG
              refine wpAny_If ?_
              walk_at "mine step"
              dsimp only [Halt]
              refine wpAny_If ?_
              walk_at "mine step"
              dsimp only [Halt]
              refine wpAny_If ?_
              walk_at "mine step"
              rename Fr _ _ _ _ => lF7
              rename News _ _ _ _ => lN7
              first | exact KeyMid.rt hres lF7 lN7 | exact KeyMid.rt hres lF7 (led_key lN7)
      clear lN6
      intro fl s₂ hMid
      refine gx2 fl s₂ fun G kG => ?_
      rcases hMid with ⟨rfl, key, c1, h6, tk6, kv, cvv, m6, hres, rfl, F6, N6, hkv, hcvv, e1, e2, e3⟩ | ⟨t0, h6, tk6, m6, rfl, hres, rfl, F6, N6⟩
      · refine kG _ _ ?_
        clear kG
        have F7 := ksw_fr (stored := []) (ps := [(Str.ofString "key", kv), (Str.ofString "count", cvv)]) (fun p hp => by
          simp only [List.mem_cons, List.not_mem_nil, or_false] at hp
          rcases hp with rfl | rfl
          · exact e1
          · exact e2) (fun z hz _ => e3 z ⟨hz _ (List.mem_cons_self ..), hz _ (List.mem_cons_of_mem _ (List.mem_cons_self ..))⟩) F6
        rw [hmc] at F7
        simp only [List.contains_nil, Bool.false_eq_true, if_false] at F7
        clear lF6 F6 hmc e1 e2 e3
        have hkey : KeyOk key := res_ok hres o2 (fun m hm => by have := j8' m hm; omega)
        dsimp only
        walk_at "mine step"
        dsimp only [Halt]
        rename Fr _ _ _ _ => lF8
        rename News _ _ _ _ => lN8
        obtain ⟨mc, hmc, lF4⟩ := fr_name lF8
        clear lF4
        refine wpAny_mono (Q := LookMid g' L' mc s ((T, ({ cls := .type "tuple", data := .seq #[.str (mk l) t7, .str (mk n) t8, .str (mk c9) t9] k7 } : Obj)) :: (U, so') :: (I, oI) :: rest) key) ?_ ?_ (fun _ _ h => h)
        · revert lF8 lN8 hmc
          refine gx2 key kv fun G kG => ?_
          cases key with
          | int kn =>
            obtain ⟨tkv, rfl⟩ := hkv
            have hkn : kn < 20 := hkey
            by_cases h6k : kn < 6
            · have hx : rowL[kn]? = some (rowL[kn]'h6k) := List.getElem?_eq_getElem h6k
              have hlk : look (.int kn) = .ok (rowL[kn]'h6k) := by simp only [look, hx]
              obtain ⟨v, hv, hvd⟩ := row_at hrd hx
              obtain ⟨Tr, tr1, tr2, kr, rfl, hTr⟩ := row_tup hvd
              refine kG _ _ ?_
              intro lN8 lF8 hmc
              clear kG
              have lN9 : News _ _ _ ((Tr, _) :: (ROW, PySem.W.listOf rvs.toArray nr) :: (T, ({ cls := .type "tuple", data := .seq #[.str (mk l) t7, .str (mk n) t8, .str (mk c9) t9] k7 } : Obj)) :: (U, so') :: (I, oI) :: rest) := cb_drop lN8 (sub_cons (memt _ (memt _ (memt _ hTr))) (sub_cons (memt _ (memt _ (memt _ hROW))) (by walk_at "mine sub")))
              clear lN8
              have hv' : rvs[((kn : Nat) : Int).toNat]? = some (.ref Tr) := by simpa using hv
              refine wpAny_If ?_
              walk_at "mine step"
              dsimp only [Halt]
              refine wpAny_If ?_
              walk_at "mine step"
              rename Fr _ _ _ _ => lF7
              rename News _ _ _ _ => lN7
              have lN10 : News g' L' _ ((T, ({ cls := .type "tuple", data := .seq #[.str (mk l) t7, .str (mk n) t8, .str (mk c9) t9] k7 } : Obj)) :: (U, so') :: (I, oI) :: rest) := cb_drop lN7 (by walk_at "mine sub")
              k_dflt (refine' LookMid.nx hlk lF7 lN10 ?f1 ?f2 ?_; (case f1 => exact rfl); (case f2 => exact rfl))
              rw [hmc]; walk_at "mine same0"
            · have hx : rowL[kn]? = none := List.getElem?_eq_none (by show 6 ≤ kn; omega)
              have hlk : look (.int kn) = .error .I := by simp only [look, hx]
              refine kG _ _ ?_
              intro lN8 lF8 hmc
              clear kG
              have lN9 : News _ _ _ ((ROW, PySem.W.listOf rvs.toArray nr) :: (T, ({ cls := .type "tuple", data := .seq #[.str (mk l) t7, .str (mk n) t8, .str (mk c9) t9] k7 } : Obj)) :: (U, so') :: (I, oI) :: rest) := cb_drop lN8 (sub_cons (memt _ (memt _ (memt _ hROW))) (by walk_at "mine sub"))
              clear lN8
              refine wpAny_If ?_
              walk_at "mine step"
              dsimp only [Halt]
              refine wpAny_If ?_
              walk_at "mine step"
              rename Fr _ _ _ _ => lF7
              rename News _ _ _ _ => lN7
              have lN10 : News g' L' _ ((T, ({ cls := .type "tuple", data := .seq #[.str (mk l) t7, .str (mk n) t8, .str (mk c9) t9] k7 } : Obj)) :: (U, so') :: (I, oI) :: rest) := cb_drop lN7 (by walk_at "mine sub")
              exact LookMid.rt (e := .I) hlk lF7 lN10
          | str kl =>
            obtain ⟨tkv, rfl⟩ := hkv
            have hkl : kl ∈ ([[107],[110],[122]] : List (List Nat)) := hkey
            refine kG _ _ ?_
            intro lN8 lF8 hmc
            clear kG
            have lN9 : News _ _ _ ((Ta, _) :: (Tb, _) :: (TAB, otab) :: (T, ({ cls := .type "tuple", data := .seq #[.str (mk l) t7, .str (mk n) t8, .str (mk c9) t9] k7 } : Obj)) :: (U, so') :: (I, oI) :: rest) := cb_drop lN8 (sub_cons (memt _ (memt _ (memt _ hTa))) (sub_cons (memt _ (memt _ (memt _ hTb))) (sub_cons (memt _ (memt _ (memt _ hTAB))) (by walk_at "mine sub"))))
            clear lN8
            simp only [List.mem_cons, List.not_mem_nil, or_false] at hkl
            clear hkey hres j8'
            revert lF8 lN9 hmc
            refine gx1 kl fun G kG => ?_
            rcases hkl with rfl | rfl | rfl
            · have hlk : look (.str [107]) = .ok ([75], [39,75,39]) := rfl
              have hb : (valueAt [(mk [107], Value.ref Ta), (mk [110], Value.ref Tb)] (mk [107])).isSome = true := rfl
              have hva2 : valueAt [(mk [107], Value.ref Ta), (mk [110], Value.ref Tb)] (mk [107]) = some (.ref Ta) := rfl
              refine kG _ ?_
              intro lF8 hmc lN9
              clear kG
              refine wpAny_If ?_
              walk_at "mine step"
              dsimp only [Halt]
              refine wpAny_If ?_
              walk_at "mine step"
              rename Fr _ _ _ _ => lF7
              rename News _ _ _ _ => lN7
              have lN10 : News g' L' _ ((T, ({ cls := .type "tuple", data := .seq #[.str (mk l) t7, .str (mk n) t8, .str (mk c9) t9] k7 } : Obj)) :: (U, so') :: (I, oI) :: rest) := cb_drop lN7 (by walk_at "mine sub")
              k_dflt (refine' LookMid.nx hlk lF7 lN10 ?f1 ?f2 ?_; (case f1 => exact rfl); (case f2 => exact rfl))
              rw [hmc]; walk_at "mine same0"
            · have hlk : look (.str [110]) = .ok ([39], [34,39,34]) := rfl
              have hb : (valueAt [(mk [107], Value.ref Ta), (mk [110], Value.ref Tb)] (mk [110])).isSome = true := rfl
              have hva2 : valueAt [(mk [107], Value.ref Ta), (mk [110], Value.ref Tb)] (mk [110]) = some (.ref Tb) := rfl
              refine kG _ ?_
              intro lF8 hmc lN9
              clear kG
              refine wpAny_If ?_
              walk_at "mine step"
              dsimp only [Halt]
              refine wpAny_If ?_
              walk_at "mine step"
              rename Fr _ _ _ _ => lF7
              rename News _ _ _ _ => lN7
              have lN10 : News g' L' _ ((T, ({ cls := .type "tuple", data := .seq #[.str (mk l) t7, .str (mk n) t8, .str (mk c9) t9] k7 } : Obj)) :: (U, so') :: (I, oI) :: rest) := cb_drop lN7 (by walk_at "mine sub")
              k_dflt (refine' LookMid.nx hlk lF7 lN10 ?f1 ?f2 ?_; (case f1 => exact rfl); (case f2 => exact rfl))
              rw [hmc]; walk_at "mine same0"
            · have hlk : look (.str [122]) = .error .K := rfl
              have hb : (valueAt [(mk [107], Value.ref Ta), (mk [110], Value.ref Tb)] (mk [122])).isSome = false := rfl
              refine kG _ ?_
              intro lF8 hmc lN9
              clear kG
              refine wpAny_If ?_
              walk_at "mine step"
              dsimp only [Halt]
              refine wpAny_If ?_
              walk_at "mine step"
              rename Fr _ _ _ _ => lF7
              rename News _ _ _ _ => lN7
              have lN10 : News g' L' _ ((T, ({ cls := .type "tuple", data := .seq #[.str (mk l) t7, .str (mk n) t8, .str (mk c9) t9] k7 } : Obj)) :: (U, so') :: (I, oI) :: rest) := cb_drop lN7 (by walk_at "mine sub")
              exact LookMid.rt (e := .K) hlk lF7 lN10
        clear lN8
        intro fl s₂ hMid
        refine gx2 fl s₂ fun G kG => ?_
        rcases hMid with ⟨rfl, x, h7, tk7, p1, p2, m7, hlk, rfl, F8, N8, e1, e2, e3⟩ | ⟨er, t0, h7, tk7, m7, rfl, hlk, rfl, F8, N8⟩
        · refine kG _ _ ?_
          clear kG
          have F9 := ksw_fr (stored := []) (ps := [(Str.ofString "plain", Value.str (mk x.1) p1), (Str.ofString "written", Value.str (mk x.2) p2)]) (fun p hp => by
            simp only [List.mem_cons, List.not_mem_nil, or_false] at hp
            rcases hp with rfl | rfl
            · exact e1
            · exact e2) (fun z hz _ => e3 z ⟨hz _ (List.mem_cons_self ..), hz _ (List.mem_cons_of_mem _ (List.mem_cons_self ..))⟩) F8
          rw [hmc] at F9
          simp only [List.contains_nil, Bool.false_eq_true, if_false] at F9
          clear lF8 F8 hmc e1 e2 e3
          have hxv := val_len (look_mem hlk) c9
          have hx1 : (mk x.1).length ≤ 6 := by rw [mk_len]; exact val_len (look_mem hlk) []
          have hx2 : (mk x.2).length ≤ 6 := by rw [mk_len]; exact val_len (look_mem hlk) [114]
          have hu50 : u.length < 50 := by omega
          dsimp only
          walk_at "mine step"
          dsimp only [Halt]
          rename SetIs pr1 w _ (_ ++ _) => hso2
          rename Obj => so2
          by_cases hlD : lv + 1 > D
          · have hlD' : (lv : Int) + 1 > (D : Int) := by omega
            refine wpAny_If ?_
            walk_at "mine step"
            dsimp only [ForPost]
            walk_at "mine step"
            rename Fr h₀ L _ _ => kF
            rename News h₀ L _ _ => kN
            refine hret _ [] ((U, so2) :: rest) _ _ kF (cb_drop (news := (U, so2) :: rest) kN (by walk_at "mine sub")) (fun _ h => nomatch h) (.inr ⟨.V, u ++ [key], so2, _, ?_, rfl, hso2, rfl, rfl⟩)
            · rw [j1]; simp only [dueGo, hres, hlk, if_pos hlD]
          · have hlD' : ¬ ((lv : Int) + 1 > (D : Int)) := by omega
            have hcf : ∀ n, c1 = some n → n + ((p.evs.drop (i + 1)).filter isOp).length ≤ 13 := fun m hm => by
              have := res_bound hres (b := ((p.evs.drop (i + 1)).filter isOp).length + 2) (fun k hk => by have := j8' k hk; omega) m hm
              omega
            have hX : mk t ++ mk l ++ Str.ofString "(" ++ mk (valL c9 x) ++ Str.ofString ":" = mk (t ++ l ++ 40 :: (valL c9 x ++ [58])) := by
              rw [show Str.ofString "(" = mk [40] from rfl, show Str.ofString ":" = mk [58] from rfl]
              simp only [mk_append]
              simp
            have hxl : (mk (valL c9 x)).length ≤ 6 := by rw [mk_len]; exact hxv
            refine wpAny_If ?_
            walk_at "mine step"
            dsimp only [Halt]
            rename Fr g' L' _ _ => lF11
            rename News g' L' _ _ => lN11
            refine wp_val lF11 ((T, ({ cls := .type "tuple", data := .seq #[.str (mk l) t7, .str (mk n) t8, .str (mk c9) t9] k7 } : Obj)) :: (U, so2) :: (I, oI) :: rest) (valL c9 x) ?_ ?_
            · simp only [convS, List.mem_cons, List.not_mem_nil, or_false] at o3
              clear hX hxl hxv hso2 hkey hres hlk j1 j2 j3 j4 j5 j6 j7 hcf he hde
              rcases o3 with rfl | rfl | rfl | rfl <;> (with_reducible refine IfExp_ ?_) <;> (walk_at "mine step") <;> (rename Fr g' L' _ _ => lF12; rename News g' L' _ _ => lN12; exact VMid.mk' lF12 (cb_drop lN12 (by walk_at "mine sub")) rfl)
            · clear lF11 lN11
              intro t19 h19 tk18 F19 N19
              walk_at "mine step"
              rename News _ _ _ _ => lN'
              rename Fr _ _ _ _ => lF'
              refine for_next (nw := (U, so2) :: rest) lF' (cb_drop lN' (by walk_at "mine sub")) ?_
              refine DueJ.mk' (t ++ l ++ 40 :: (valL c9 x ++ [58])) c1 (lv + 1) (u ++ [key]) so2 cvv ?tq2a ?tq2b ?_ hcvv hso2 j4 (by omega) ?_ ?_ hcf a1 a2 ?ps ?sm
              case ps => rw [← hX]; kst_all
              case sm => walk_at "mine same"
              · rw [j1]; simp only [dueGo, hres, hlk, if_neg hlD]
              · simp only [List.length_append, List.length_cons, List.length_nil]; omega
              · simp only [List.length_append, List.length_singleton]; omega
        · refine kG _ _ ?_
          clear kG
          dsimp only [ForPost]
          walk_at "mine step"
          rename Fr h₀ L _ _ => kF
          rename News h₀ L _ _ => kN
          refine hret _ [] ((U, so') :: rest) _ _ kF (cb_drop (news := (U, so') :: rest) kN (by walk_at "mine sub")) (fun _ h => nomatch h) (.inr ⟨er, u, so', t0, ?_, rfl, j3, rfl, rfl⟩)
          · rw [j1]; simp only [dueGo, hres, hlk]
      · refine kG _ _ ?_
        clear kG
        dsimp only [ForPost]
        walk_at "mine step"
        rename Fr h₀ L _ _ => kF
        rename News h₀ L _ _ => kN
        refine hret _ [] ((U, so') :: rest) _ _ kF (cb_drop (news := (U, so') :: rest) kN (by walk_at "mine sub")) (fun _ h => nomatch h) (.inr ⟨.V, u, so', t0, ?_, rfl, j3, rfl, rfl⟩)
        · rw [j1]; simp only [dueGo, hres]
  · rintro I m₁ nw h tk ⟨t, c, lv, u, so', cv', t1, t2, j1, j2, j3, j4, j5, j6, j7, j8, rfl, ⟨a1, a2⟩, m1, m2⟩ - F1 N1
    clear lF lN2
    have F2 := ksw_fr m1 m2 F1
    clear F1
    have hvl : vs.length = p.evs.length := by rw [datAll_len hda, List.length_map]
    rw [hvl, List.drop_length] at j1
    rw [dueGo] at j1
    cases c with
    | none =>
      cases j2
      walk_at "mine step"
      rename Fr h₀ L _ _ => kF
      rename News h₀ L _ _ => kN
      obtain ⟨T9, oT, hT, hoT⟩ := led_obj kN
      subst hT
      refine hret _ [(T9, oT)] ((U, so') :: rest) _ _ kF (by rw [hoT]; exact kN) ?_ (.inl ⟨t, _, u, so', T9, _, _, _, j1, rfl, j3, rfl, by rw [hoT]; rfl, rfl⟩)
      intro y hy z hz
      rw [List.mem_singleton] at hy
      subst hy
      have h1 : @LT.lt Nat _ U T9 ∧ AllLt T9 rest := by assumption
      rcases List.mem_cons.mp hz with rfl | hz
      · exact h1.1
      · exact allLt_to h1.2 z hz
    | some cn =>
      obtain ⟨tc, rfl⟩ := j2
      walk_at "mine step"
      rename Fr h₀ L _ _ => kF
      rename News h₀ L _ _ => kN
      obtain ⟨T9, oT, hT, hoT⟩ := led_obj kN
      subst hT
      refine hret _ [(T9, oT)] ((U, so') :: rest) _ _ kF (by rw [hoT]; exact kN) ?_ (.inl ⟨t, _, u, so', T9, _, _, _, j1, rfl, j3, rfl, by rw [hoT]; rfl, ⟨_, rfl⟩⟩)
      intro y hy z hz
      rw [List.mem_singleton] at hy
      subst hy
      have h1 : @LT.lt Nat _ U T9 ∧ AllLt T9 rest := by assumption
      rcases List.mem_cons.mp hz with rfl | hz
      · exact h1.1
      · exact allLt_to h1.2 z hz
end S1dX
local macro_rules | `(tactic| walk_at "mine subA") => `(tactic| first | exact sub_refl _ | exact sub_nil | ((with_reducible refine sub_cons ?_ ?_); walk_at "mine mem"; walk_at "mine subA") | ((with_reducible refine sub_app ?_ ?_) <;> walk_at "mine subA") | (refine sub_tail _ ?_; walk_at "mine subA") | (refine sub_appr _ ?_; walk_at "mine subA") | (refine sub_appl _ ?_; walk_at "mine subA"))
local macro_rules | `(tactic| walk_at "mine mem") => `(tactic| first | exact List.Mem.head _ | (refine List.Mem.tail _ ?_; walk_at "mine mem") | (refine List.mem_append_right _ ?_; walk_at "mine mem") | (refine List.mem_append_left _ ?_; walk_at "mine mem"))
section STX
open PyProof.Rows.LCg
local macro_rules | `(tactic| walk_at "call ref") => `(tactic| ((with_reducible show wpAny _ _ (call (Value.ref 185) _) _ _ _); refine halt ?_))
local macro_rules | `(tactic| walk_at "call ref") => `(tactic| ((with_reducible show wpAny _ _ (call (Value.ref 57) _) _ _ _); refine halt ?_))
local macro_rules | `(tactic| walk_at "noteFrame ref") => `(tactic| refine halt ?_)
local macro_rules | `(tactic| walk_at "LeaveS0") => `(tactic| refine halt ?_)
theorem not_set_fields {w : World} {so : Obj} {u : List Key} (h : CodOk so) : ¬ SetIs pr1 w so u := by
  obtain ⟨vs, t, h1, -⟩ := h
  intro h2
  unfold SetIs Obj.SetObjOf at h2
  obtain ⟨_, es, n, st, h3, _⟩ := h2
  rw [h1] at h3
  cases h3
theorem led_last {A B : Addr × Obj} {U : Addr} {so : Obj} {R9 : List (Addr × Obj)} : ∀ y ∈ A :: (U, so) :: R9, y ∈ A :: B :: (U, so) :: R9 := by walk_at "mine subA"
theorem told_spec (w : World) (mean : ExcName → Option Value) (mg mb : Str → Option Value) (ps : Array Value) (rest : List (Addr × Obj)) (rest0 : List (Addr × Obj)) (U AA KW : Addr) (so : Obj) (t4 tD : Tok) (p : P) (Dn : Nat) (c : Option Nat) (cv : Value)
    (ok : ∀ e ∈ p.evs, EvOk e) (hh : p.hgt ≤ 3) (hn : p.nf ≤ 10) (hD : Dn ≤ 5) (hc : ∀ n, c = some n → n ≤ 3) (hcv : CntV c cv) (hso : SetIs pr1 w so []) (hargs : Args w rest AA KW)
    (dp un : Nat) (gd : Option (List Code)) (cn : Str) (cs : Scope) (a : Addr) (ccd : Value) (cl : List (Str × Addr)) (A₀ : Around) (base h₀ : Heap) (L : Addr) (m : Str → Option Value) (s : Shared) (Q E : Value → Shared → Prop)
    (B : Below A₀ base [] h₀) (F : Fr h₀ L s.heap m) (X : (hd.heap_1 w.params).In h₀) (C : CodeHd base 184 180) (h180 : ∀ x ∈ (U, so) :: rest, x.1 ≠ 180) (hoff : ∀ x ∈ rest, x.1 ≠ U) (hr0 : ∀ x ∈ rest0, x ∈ rest) (htab : TabOk ps rest0) (N : News h₀ L s.heap ((180, tabObj ps) :: (U, so) :: rest))
    (T : Top topProg (looseW hd.view_39 [] ++ List.map (fun x => x.name) (recsOf hd.view_39) ++ List.map (fun x => x.fst) (litsOf hd.view_39) ++ List.map (fun x => x.name) (clssOf hd.view_39 (looseW hd.view_39 []))) mean mg mb h₀)
    (XT : (hd.heap_1 w.params).In base ∧ Top topProg (looseW hd.view_39 [] ++ List.map (fun x => x.name) (recsOf hd.view_39) ++ List.map (fun x => x.fst) (litsOf hd.view_39) ++ List.map (fun x => x.name) (clssOf hd.view_39 (looseW hd.view_39 []))) mean mg mb base)
    (hkk : cs.kind = .function) (hd : dp + 14 < recursionLimit) (hu : un + 8 * 14 < cLine)
    (hret : ∀ (v : Value) (nx r2 : List (Addr × Obj)) (so' : Obj) (ps' : Array Value) h' tk', Fr h₀ L h' m → News h₀ L h' (nx ++ (180, tabObj ps') :: (U, so') :: (r2 ++ rest)) → (∀ x ∈ nx ++ r2, ∀ q ∈ (180, tabObj ps) :: (U, so) :: rest, q.1 < x.1) → TabOk ps' (r2 ++ rest0) →
      DueRes w (vfD p (Dn + 1) [] c []) U rest nx ((U, so') :: rest) v → Q v { s with heap := h', toks := tk' }) :
    wpAny (model PySem.Challenge.rw_ik0030_01.row.prog w) (ktrTop dp un gd cn cs L a ccd cl []) (call (.ref 192) [.str (mk (p.text [])) t4, .ref AA, .ref KW, .ref U, .int Dn tD, cv]) Q E s := by
  refine wpAny_call ?_
  refine' code_defSX (binds := [(Str.ofString "page", .str (mk (p.text [])) t4), (Str.ofString "args", .ref AA), (Str.ofString "kwargs", .ref KW), (Str.ofString "used", .ref U), (Str.ofString "depth", .int Dn tD), (Str.ofString "start", cv)]) ?k1 ?k2 ?k3 ?k4 ?k5 ?kA ?kF ?kK ?k6 ?k7 ?k8 ?k9 ?kB ?_ ?c2 ?c3 ?c4 ?c5
  case kA => exact rfl
  case kF => exact rfl
  case kK => exact hkk
  case k1 => exact B
  case k2 => exact F
  case k3 => exact X
  case k4 => exact N
  case k5 => exact T
  case k6 => k_dflt k_is
  case k7 => k_dflt k_is
  case k8 => k_dflt ktr_room
  case k9 => exact BindsTo.of_eq rfl
  case c5 => decide
  case kB => exact locs rfl
  case c2 => exact rfl
  case c3 => exact rfl
  case c4 => exact rfl
  intro g' L' h' FG' F' N' B' X' T' D'
  try dsimp only
  try k_lift B'
  try k_fold
  rename Fr g' _ _ _ => lF
  replace lF := fr_as (fun y => List.lookup y [(Str.ofString "start", cv), (Str.ofString "depth", .int Dn tD), (Str.ofString "used", .ref U), (Str.ofString "kwargs", .ref KW), (Str.ofString "args", .ref AA), (Str.ofString "page", .str (mk (p.text [])) t4)]) lF (by with_unfolding_all rfl)
  clear X T B F FG'
  walk_at "mine step"
  dsimp only [Halt]
  have htab' : TabOk ps ((U, so) :: rest) := htab.imp id (fun ⟨c9, oc9, x1, x2, x3⟩ => ⟨c9, oc9, List.mem_cons_of_mem _ (hr0 _ x1), x2, x3⟩)
  k_dflt (refine' form_spec w mean mg mb ps ((U, so) :: rest) _ _ _ _ _ _ _ _ _ _ _ _ _ _ _ _ _ ?k1 ?k2 ?k3 C h180 htab' ?k4 ?k5 ?kK ?kd ?ku ?_; (walk_at "mine cb"))
  intro f c' x d o oc t1 t2 t3 h9 tk9 F9 N9 lam9 cod9 l9 lc9
  have N10 : News _ _ _ ((x, instObj 102 d) :: (d, formD w t1 t2 t3 f) :: (U, so) :: (180, tabObj #[rawInt 149, rawInt 24, Value.ref c']) :: (c', oc) :: (f, o) :: rest) := cb_drop N9 (by walk_at "mine subA")
  clear N9
  (try dsimp only)
  (try k_fold)
  walk_at "mine step"
  dsimp only [Halt]
  obtain ⟨R9, eR⟩ : ∃ R9, R9 = (180, tabObj #[rawInt 149, rawInt 24, Value.ref c']) :: (c', oc) :: (f, o) :: (x, instObj 102 d) :: (d, formD w t1 t2 t3 f) :: rest := ⟨_, rfl⟩
  have N11 : News g' L' h9 ((U, so) :: R9) := by
    rw [eR]
    exact cb_drop N10 (by walk_at "mine subA")
  clear N10
  have hsub : ∀ y ∈ rest, y ∈ R9 := fun y hy => by rw [eR]; simp [hy]
  have hcU : @Ne Nat c' U := by
    rcases lc9 with h1 | h1
    · exact Nat.ne_of_gt (ltN (h1 (U, so) (List.mem_cons_of_mem _ (List.mem_cons_self ..))))
    · rcases List.mem_cons.mp h1.1 with h1 | h1
      · cases h1
        exact absurd hso (not_set_fields cod9)
      · exact hoff _ h1
  have hfxd := l9 (U, so) (List.mem_cons_of_mem _ (List.mem_cons_self ..))
  have hR9 : ∀ y ∈ R9, y.1 ≠ U := fun y hy => by
    rw [eR] at hy
    simp only [List.mem_cons] at hy
    rcases hy with rfl | rfl | rfl | rfl | rfl | hy
    · exact fun e => h180 (U, so) (List.mem_cons_self ..) e.symm
    · exact hcU
    · exact Nat.ne_of_gt (ltN hfxd.1)
    · exact Nat.ne_of_gt (ltN hfxd.2.1)
    · exact Nat.ne_of_gt (ltN hfxd.2.2)
    · exact hoff y hy
  have hfe : FormEnv w mean mg mb R9 x := ⟨d, f, c', o, oc, t1, t2, t3, by rw [eR]; simp, by rw [eR]; simp, by rw [eR]; simp, by rw [eR]; simp, lam9⟩
  have hvs := vspec_all w mean mg mb (p.nf + 1) p (Nat.lt_succ_self _) [] (Dn + 1) c [] R9 U x AA KW so t4 tD Dn cv ok (by decide) hh hn (fun n hn' => by have := hc n hn'; omega) (by simp only [List.length_nil]; omega) (by omega) (by omega) hcv hso hR9 hfe (hargs.mono hsub) _ _ (.inl ⟨rfl, rfl⟩)
  have hd11 : dp + 1 + (8 + p.hgt) < recursionLimit := by omega
  have hu11 : un + 8 + 8 * (8 + p.hgt) < cLine := by omega
  have fresh9 : (∀ q ∈ (180, tabObj ps) :: (U, so) :: rest, q.1 < c') ∨ ∃ oc0, (c', oc0) ∈ rest0 ∧ CodOk oc0 := by
    rcases lc9 with h1 | ⟨-, h1⟩
    · exact .inl h1
    · rcases htab with rfl | ⟨c0, oc0, m0, rfl, k0⟩
      · cases h1
      · have hc0 : c0 = c' := by injection h1 with h2; simpa using h2
        subst hc0
        exact .inr ⟨oc0, m0, k0⟩
  have fin : ∀ (v : Value) (nx : List (Addr × Obj)) (so' : Obj) (h' : Heap) (tk' : Nat), Fr h₀ L h' m → News h₀ L h' (nx ++ (U, so') :: R9) → (∀ x ∈ nx, ∀ q ∈ (U, so') :: R9, q.1 < x.1) → DueRes w (vfD p (Dn + 1) [] c []) U rest nx ((U, so') :: rest) v → Q v { s with heap := h', toks := tk' } := by
    intro v nx so' h' tk' Fx Nx lx hx
    have hnx : ∀ y ∈ nx, ∀ q ∈ (180, tabObj ps) :: (U, so) :: rest, q.1 < y.1 := fun y hy q hq => by
      simp only [List.mem_cons] at hq
      rcases hq with rfl | rfl | hq
      · exact lx y hy (180, tabObj #[rawInt 149, rawInt 24, Value.ref c']) (by rw [eR]; simp)
      · exact lx y hy (U, so') (List.mem_cons_self ..)
      · exact lx y hy q (List.mem_cons_of_mem _ (hsub q hq))
    rcases fresh9 with h1 | ⟨oc0, h1, k0⟩
    · refine hret v nx [(c', oc)] so' _ h' tk' Fx (cb_drop Nx (by rw [eR]; walk_at "mine subA")) (fun y hy q hq => ?_) (.inr ⟨c', oc, List.mem_cons_self .., rfl, cod9⟩) hx
      · rcases List.mem_append.mp hy with hy | hy
        · exact hnx y hy q hq
        · simp only [List.mem_cons, List.not_mem_nil, or_false] at hy
          subst hy
          exact h1 q hq
    · refine hret v nx [] so' _ h' tk' Fx (cb_drop Nx (by rw [eR]; walk_at "mine subA")) (fun y hy q hq => ?_) (.inr ⟨c', oc0, h1, rfl, k0⟩) hx
      · rw [List.append_nil] at hy
        exact hnx y hy q hq
  k_dflt (refine' hvs _ _ _ _ _ _ _ _ _ _ _ _ _ _ _ _ _ ?k1 ?k2 ?k3 ?k4 ?k5 ?kK ?kd ?ku ?_ ?_; (walk_at "mine cb"))
  · rintro v nx news' h8 tk8 F8 N8 l8 ⟨t, c2, u2, so2, T8, t8, cv2, n8, hr, rfl, hs2, rfl, rfl, hcv2⟩
    simp only [List.cons_append, List.nil_append] at N8
    clear N11
    cases c2 with
    | none =>
      cases hcv2
      walk_at "mine step"
      dsimp only [Halt]
      rename News g' L' _ _ => lN8
      rename Fr g' L' _ _ => lF8
      obtain ⟨DD, oo, eD, eO⟩ := led_obj lN8
      clear eO
      subst eD
      have hfr : @LT.lt Nat _ T8 DD ∧ @LT.lt Nat _ U DD ∧ AllLt DD R9 := by assumption
      refine leaveS0_ lF8 (cb_drop lN8 (led_last (R9 := R9))) KtsTurn.refl ?_
      intro kF kN
      dsimp only
      refine fin _ [_] so2 _ _ kF kN (fun y hy q hq => ?_) (.inl ⟨t, none, u2, so2, _, t8, _, _, hr, rfl, hs2, rfl, rfl, rfl⟩)
      simp only [List.mem_cons, List.not_mem_nil, or_false] at hy
      subst hy
      rcases List.mem_cons.mp hq with rfl | hq
      · exact hfr.2.1
      · exact allLt_to hfr.2.2 q hq
    | some n2 =>
      obtain ⟨tc, rfl⟩ := hcv2
      walk_at "mine step"
      dsimp only [Halt]
      rename News g' L' _ _ => lN8
      rename Fr g' L' _ _ => lF8
      obtain ⟨DD, oo, eD, eO⟩ := led_obj lN8
      clear eO
      subst eD
      have hfr : @LT.lt Nat _ T8 DD ∧ @LT.lt Nat _ U DD ∧ AllLt DD R9 := by assumption
      refine leaveS0_ lF8 (cb_drop lN8 (led_last (R9 := R9))) KtsTurn.refl ?_
      intro kF kN
      dsimp only
      refine fin _ [_] so2 _ _ kF kN (fun y hy q hq => ?_) (.inl ⟨t, some n2, u2, so2, _, t8, _, _, hr, rfl, hs2, rfl, rfl, ⟨tc, rfl⟩⟩)
      simp only [List.mem_cons, List.not_mem_nil, or_false] at hy
      subst hy
      rcases List.mem_cons.mp hq with rfl | hq
      · exact hfr.2.1
      · exact allLt_to hfr.2.2 q hq
  · rintro X8 Sur8 e8 g8 h8 tk8 ⟨er, u8, so8, hr, rfl, rfl, hs8⟩ F8 R8 U8
    try dsimp only
    have hB7 : Below (ktrTop dp un gd cn cs L a ccd cl []) base [envX cn cs L a ccd cl] g' := by assumption
    cases er with
    | K =>
      k_dflt (refine' caught_pass (T' := "KeyError") R8 F8 hB7 U8 XT.1 XT.2 D' KtsTurn.refl (fun _ _ _ _ _ _ x => x) ?ex1 PyProof.Rows.Boot.«KeyError» ?hn1 kr_isExc_KeyError kr_notTuple_KeyError ?hs1 ?_ ?hk1 ?hx1 ?hd1 ?hE1; (case hs1 => kts_sub); (case ex1 => k_is); (case hn1 => decide); (case hk1 => rfl); (case hx1 => rfl); (case hd1 => decide); (case hE1 => passes_own))
      intro h7 g7 T7 F7 N7 B7 X7 P7 D7
      clear D' R8 F8 hB7 U8 X' T' B' N11
      (try k_lift B7)
      walk_at "mine step"
      dsimp only [Halt]
      refine leaveS0_ F7 N7 T7 ?_
      intro kF kN
      dsimp only
      exact fin _ [] so8 _ _ kF kN (fun y hy => nomatch hy) (.inr ⟨.K, u8, so8, _, hr, rfl, hs8, rfl, rfl⟩)
    | I =>
      k_dflt (refine' caught_pass (T' := "IndexError") R8 F8 hB7 U8 XT.1 XT.2 D' KtsTurn.refl (fun _ _ a1 a2 a3 a4 x => hb_skip a1 a2 a3 a4 (by k_is) PyProof.Rows.Boot.«KeyError» (by decide) kr_isExc_KeyError kr_notTuple_KeyError (by (rw [isSubtype_type]; kernel_rfl)) (x) rfl rfl (by decide)) ?ex1 PyProof.Rows.Boot.«IndexError» ?hn1 PySem.F.isExc_IndexError PySem.F.notTuple_IndexError ?hs1 ?_ ?hk1 ?hx1 ?hd1 ?hE1; (case hs1 => kts_sub); (case ex1 => k_is); (case hn1 => decide); (case hk1 => rfl); (case hx1 => rfl); (case hd1 => decide); (case hE1 => passes_own))
      intro h7 g7 T7 F7 N7 B7 X7 P7 D7
      clear D' R8 F8 hB7 U8 X' T' B' N11
      (try k_lift B7)
      walk_at "mine step"
      dsimp only [Halt]
      refine leaveS0_ F7 N7 T7 ?_
      intro kF kN
      dsimp only
      exact fin _ [] so8 _ _ kF kN (fun y hy => nomatch hy) (.inr ⟨.I, u8, so8, _, hr, rfl, hs8, rfl, rfl⟩)
    | V =>
      k_dflt (refine' caught_pass (T' := "ValueError") R8 F8 hB7 U8 XT.1 XT.2 D' KtsTurn.refl (fun _ _ a1 a2 a3 a4 x => hb_skip a1 a2 a3 a4 (by k_is) PyProof.Rows.Boot.«KeyError» (by decide) kr_isExc_KeyError kr_notTuple_KeyError (by (rw [isSubtype_type]; kernel_rfl)) (hb_skip a1 a2 a3 a4 (by k_is) PyProof.Rows.Boot.«IndexError» (by decide) PySem.F.isExc_IndexError PySem.F.notTuple_IndexError (by (rw [isSubtype_type]; kernel_rfl)) x rfl rfl (by decide)) rfl rfl (by decide)) ?ex1 PyProof.Rows.Boot.«ValueError» ?hn1 PySem.F.isExc_ValueError PySem.F.notTuple_ValueError ?hs1 ?_ ?hk1 ?hx1 ?hd1 ?hE1; (case hs1 => kts_sub); (case ex1 => k_is); (case hn1 => decide); (case hk1 => rfl); (case hx1 => rfl); (case hd1 => decide); (case hE1 => passes_own))
      intro h7 g7 T7 F7 N7 B7 X7 P7 D7
      clear D' R8 F8 hB7 U8 X' T' B' N11
      (try k_lift B7)
      walk_at "mine step"
      dsimp only [Halt]
      refine leaveS0_ F7 N7 T7 ?_
      intro kF kN
      dsimp only
      exact fin _ [] so8 _ _ kF kN (fun y hy => nomatch hy) (.inr ⟨.V, u8, so8, _, hr, rfl, hs8, rfl, rfl⟩)
end STX
section LEX
noncomputable abbrev tup2 (x y : Str) (t u : Tok) (n : Nat) : Obj := { cls := .type "tuple", data := .seq #[.str x t, .str y u] n }
theorem dat2 {news : List (Addr × Obj)} {T : Addr} {x y : List Nat} {t u : Tok} {n : Nat} (h : (T, tup2 (mk x) (mk y) t u n) ∈ news) : DatIn news (.ref T) (rowD (x, y)) :=
  .tuple h (.cons (.str _ _) (.cons (.str _ _) .nil))
theorem dictIs_data {K : Type} [DecidableEq K] {prog : Program} {w : World} {knd : KeyKind prog w K} {o : Obj} {kvs : List (K × Value)} (h : o.IsDictOf knd kvs) : ∃ es ep, o.data = .dict es ep := by
  obtain ⟨es, ep, h1, h2, h3⟩ := h
  exact ⟨es, ep, h2⟩
theorem led_no180 {h₀ h : Heap} {L : Addr} {x0 x1 x2 x3 x4 x5 x6 x7 x8 x9 x10 x11 x12 x13 : Addr × Obj} {r : List (Addr × Obj)} (N : News h₀ L h (x0 :: x1 :: x2 :: x3 :: x4 :: x5 :: x6 :: x7 :: x8 :: x9 :: x10 :: x11 :: x12 :: x13 :: r)) :
    ∃ G, G = x0 :: x1 :: x2 :: x3 :: x4 :: x5 :: x6 :: x7 :: x8 :: x9 :: x10 :: x12 :: x13 :: r ∧ News h₀ L h (x11 :: G) :=
  ⟨_, rfl, cb_drop N (by
    refine sub_cons (by k_mem) ?_
    iterate 13 refine sub_cons (by k_mem) ?_
    iterate 14 refine sub_tail _ ?_
    exact sub_refl _)⟩
noncomputable def isFld : Data → Bool
  | .fields _ => true
  | _ => false
theorem not180 {h₀ h : Heap} {L : Addr} {G : List (Addr × Obj)} (N : News h₀ L h ((180, tabObj #[]) :: G)) (hne : ∀ y ∈ G, isFld y.2.data = false ∨ @Ne Nat y.1 180) : ∀ y ∈ G, @Ne Nat y.1 180 := fun y hy => (hne y hy).elim (fun hf e => by
  have e1 := (N _ (List.mem_cons_of_mem _ hy)).1
  have e2 := (N _ (List.mem_cons_self ..)).1
  dsimp only at e1 e2
  rw [show y.1 = 180 from e, e2] at e1
  have e3 := Option.some.inj e1
  rw [← e3] at hf
  cases hf) id
theorem cell_is {o : Obj} {a : Addr} (h : o.data = .cell (some (.ref a))) : o.data = .cell (some (.ref a)) := h
theorem lo_is {a : Addr} (h : (a == sysModules) = false) : (a == sysModules) = false := h
theorem all_cons {α : Type _} {P : α → Prop} {a : α} {r : List α} (h1 : P a) (h2 : ∀ y ∈ r, P y) : ∀ y ∈ a :: r, P y := fun y hy => by
  cases hy with
  | head => exact h1
  | tail _ h => exact h2 y h
theorem led_env {w : World} {h₀ h : Heap} {L DA Tn Tk tb rw a1 a2 a3 a4 a5 a6 EV c : Addr} {otab oc : Obj} {evs : Array Value} {nE : Nat} {s1 s2 s3 s4 s5 s6 t1 u1 t2 u2 t3 u3 t4 u4 t5 u5 t6 u6 t7 u7 t8 u8 t9 u9 : Tok} {n1 n2 n3 n4 n5 n6 n7 n8 : Nat} {r9 : List (Addr × Obj)}
    (N : News h₀ L h ((DA, PySem.W.listOf #[.str (Str.ofString "x") s1, .str (Str.ofString "it's") s2, .str (Str.ofString "\"") s3, .str (Str.ofString "") s4, .str (Str.ofString "y z") s5, .str (Str.ofString "\\") s6] 6) ::
      (Tn, tup2 (Str.ofString "'") (Str.ofString "\"'\"") t7 u7 n7) :: (Tk, tup2 (Str.ofString "K") (Str.ofString "'K'") t8 u8 n8) :: (tb, otab) :: (rw, PySem.W.listOf #[.ref a1, .ref a2, .ref a3, .ref a4, .ref a5, .ref a6] 0) ::
      (a6, tup2 (Str.ofString "\\") (Str.ofString "'\\\\'") t6 u6 n6) :: (a5, tup2 (Str.ofString "y z") (Str.ofString "'y z'") t5 u5 n5) :: (a4, tup2 (Str.ofString "") (Str.ofString "''") t4 u4 n4) :: (a3, tup2 (Str.ofString "\"") (Str.ofString "'\"'") t3 u3 n3) ::
      (a2, tup2 (Str.ofString "it's") (Str.ofString "\"it's\"") t2 u2 n2) :: (a1, tup2 (Str.ofString "x") (Str.ofString "'x'") t1 u1 n1) :: (180, tabObj #[]) :: (EV, PySem.W.listOf evs nE) :: (c, oc) :: r9))
    (hd : otab.IsDictOf (kwE w) (strPairs [(Value.str (Str.ofString "k") t9, Value.ref Tk), (Value.str (Str.ofString "n") u9, Value.ref Tn)]))
    {xc : Option Value} (hoc : oc.data = .cell xc) (o13 : ∀ y ∈ r9, @Ne Nat y.1 180) (Mo : Addr → Addr → Addr → Addr → Addr → Obj → Obj → Prop)
    (k : ∀ (DA tb rw Tk Tn : Addr) (otab oc : Obj) (G : List (Addr × Obj)), News h₀ L h ((180, tabObj #[]) :: G) → (∀ y ∈ G, @Ne Nat y.1 180) → (∀ y ∈ r9, y ∈ G) → (EV, PySem.W.listOf evs nE) ∈ G → (c, oc) ∈ G →
      (tb, otab) ∈ G → otab.IsDictOf (kwE w) [(mk [107], .ref Tk), (mk [110], .ref Tn)] → (Tk, tup2 (mk [75]) (mk [39,75,39]) t8 u8 n8) ∈ G → (Tn, tup2 (mk [39]) (mk [34,39,34]) t7 u7 n7) ∈ G →
      (∃ rvs nr, (rw, PySem.W.listOf rvs.toArray nr) ∈ G ∧ DatAll G rvs (rowL.map rowD)) → (∃ avs na, (DA, PySem.W.listOf avs.toArray na) ∈ G ∧ StrsAre avs ((rowL.map Prod.fst).map mk)) → Mo DA tb rw Tk Tn otab oc) : Mo DA tb rw Tk Tn otab oc := by
  obtain ⟨G, eG, NG⟩ := led_no180 N
  obtain ⟨es, ep, hdd⟩ := dictIs_data hd
  have hne : ∀ y ∈ G, isFld y.2.data = false ∨ @Ne Nat y.1 180 := by
    rw [eG]
    refine all_cons (.inl rfl) (all_cons (.inl rfl) (all_cons (.inl rfl) (all_cons (.inl ?_) (all_cons (.inl rfl) (all_cons (.inl rfl) (all_cons (.inl rfl) (all_cons (.inl rfl) (all_cons (.inl rfl) (all_cons (.inl rfl) (all_cons (.inl rfl) (all_cons (.inl rfl) (all_cons (.inl ?_) fun y hy => .inr (o13 y hy)))))))))))))
    · show isFld otab.data = false
      rw [hdd]; rfl
    · show isFld oc.data = false
      rw [hoc]; rfl
  have hsub : ∀ y ∈ r9, y ∈ G := by
    rw [eG]
    iterate 13 refine sub_tail _ ?_
    exact sub_refl _
  refine k DA tb rw Tk Tn otab oc G NG (not180 NG hne) hsub (by rw [eG]; k_mem) (by rw [eG]; k_mem) (by rw [eG]; k_mem) hd ?_ ?_ ⟨[.ref a1, .ref a2, .ref a3, .ref a4, .ref a5, .ref a6], 0, by rw [eG]; k_mem, ?_⟩ ⟨[.str (Str.ofString "x") s1, .str (Str.ofString "it's") s2, .str (Str.ofString "\"") s3, .str (Str.ofString "") s4, .str (Str.ofString "y z") s5, .str (Str.ofString "\\") s6], 6, by rw [eG]; exact List.mem_cons_self .., .cons _ _ (.cons _ _ (.cons _ _ (.cons _ _ (.cons _ _ (.cons _ _ .nil)))))⟩
  · rw [eG]; show (Tk, tup2 (Str.ofString "K") (Str.ofString "'K'") t8 u8 n8) ∈ _; k_mem
  · rw [eG]; show (Tn, tup2 (Str.ofString "'") (Str.ofString "\"'\"") t7 u7 n7) ∈ _; k_mem
  · rw [eG]
    refine .cons (dat2 (t := t1) (u := u1) (n := n1) ?_) (.cons (dat2 (t := t2) (u := u2) (n := n2) ?_) (.cons (dat2 (t := t3) (u := u3) (n := n3) ?_) (.cons (dat2 (t := t4) (u := u4) (n := n4) ?_) (.cons (dat2 (t := t5) (u := u5) (n := n5) ?_) (.cons (dat2 (t := t6) (u := u6) (n := n6) ?_) .nil)))))
    · show (a1, tup2 (Str.ofString "x") (Str.ofString "'x'") t1 u1 n1) ∈ _; k_mem
    · show (a2, tup2 (Str.ofString "it's") (Str.ofString "\"it's\"") t2 u2 n2) ∈ _; k_mem
    · show (a3, tup2 (Str.ofString "\"") (Str.ofString "'\"'") t3 u3 n3) ∈ _; k_mem
    · show (a4, tup2 (Str.ofString "") (Str.ofString "''") t4 u4 n4) ∈ _; k_mem
    · show (a5, tup2 (Str.ofString "y z") (Str.ofString "'y z'") t5 u5 n5) ∈ _; k_mem
    · show (a6, tup2 (Str.ofString "\\") (Str.ofString "'\\\\'") t6 u6 n6) ∈ _; k_mem
end LEX
section SLX
open PyProof.Rows.LCg
local macro_rules | `(tactic| walk_at "call ref") => `(tactic| ((with_reducible show wpAny _ _ (call (Value.ref 192) _) _ _ _); refine halt ?_))
local macro_rules | `(tactic| walk_at "call ref") => `(tactic| ((with_reducible show wpAny _ _ (call (Value.ref 199) _) _ _ _); refine halt ?_))
local macro_rules | `(tactic| walk_at "exec For Tuple List cons nil") => `(tactic| refine halt ?_)
local macro_rules | `(tactic| walk_at "pyIter ref") => `(tactic| refine halt ?_)
theorem tup_ne2 {w : World} {A : Around} {E : Value → Shared → Prop} {s : Shared} {h₀ : Heap} {L a b : Addr} {news : List (Addr × Obj)} {x : Str} {t1 t2 : Tok} {c : Option Nat} {v v' : Value} {d : Bool} {n1 n2 : Nat} {Q : Value → Shared → Prop} (N : News h₀ L s.heap news)
    (h1 : (a, ({ cls := .type "tuple", data := .seq #[.str x t1, v, .bool d] n1 } : Obj)) ∈ news) (h2 : (b, ({ cls := .type "tuple", data := .seq #[.str x t2, v', .bool d] n2 } : Obj)) ∈ news) (hc : CntV c v) (hc' : CntV c v') (hu : A.units < cLine) (h : Q (.bool false) s) :
    wpAny (model pr1 w) A (compareOp .NotEq (.ref a) (.ref b)) Q E s := tup_ne (News.isTup N h1) (News.isTup N h2) hc hc' hu h
theorem set_ne2 {w : World} {A : Around} {E : Value → Shared → Prop} {s : Shared} {h₀ : Heap} {L a b : Addr} {news : List (Addr × Obj)} {oa ob : Obj} {u : List Key} {Q : Value → Shared → Prop} (N : News h₀ L s.heap news)
    (m1 : (a, oa) ∈ news) (m2 : (b, ob) ∈ news) (h1 : SetIs pr1 w oa u) (h2 : SetIs pr1 w ob u) (hl : u.length < 4000) (hu : A.units < cLine) (h : Q (.bool false) s) :
    wpAny (model pr1 w) A (compareOp .NotEq (.ref a) (.ref b)) Q E s :=
  have hb : setN u < PySem.scanBound := Nat.lt_of_le_of_lt (setN_le u) (Nat.lt_trans hl (by decide))
  set_ne (h1.setOf (N _ m1).1 hb) (h2.setOf (N _ m2).1 hb) hu h
theorem ne_same {w : World} {A : Around} {E : Value → Shared → Prop} {s : Shared} {x : Str} {t u : Tok} {Q : Value → Shared → Prop} (h : Q (.bool false) s) : wpAny (model pr1 w) A (compareOp .NotEq (.str x t) (.str x u)) Q E s :=
  PyProof.Rows.ne_str (by rw [bne_self_eq_false]; exact h)
local macro_rules | `(tactic| walk_at "compareOp NotEq str str") => `(tactic| refine ne_same ?_)
local macro_rules | `(tactic| walk_at "mine units") => `(tactic| first | ((simp only [units_in1, units_deeper, Around.mark_units, units_caller, cLine_is]); done) | ((simp only [units_in1, units_deeper, Around.mark_units, units_caller, cLine_is]); decide) | ktr_units)
local macro_rules | `(tactic| walk_at "compareOp NotEq ref ref") => `(tactic| first | (k_dflt (refine' tup_ne2 (by k_asm) (by k_mem) (by k_mem) (by assumption) (by assumption) (by walk_at "mine units") ?_)) | (k_dflt (refine' set_ne2 (by k_asm) (by k_mem) (by k_mem) (by assumption) (by assumption) (by assumption) (by walk_at "mine units") ?_)))
noncomputable def LawJ (ps0 : List (Str × Value)) (m₀ : Str → Option Value) (rest : List (Addr × Obj)) (I : Addr) (_ : Nat) (m : Str → Option Value) (nw : List (Addr × Obj)) : Prop :=
  ∃ (ps : Array Value) (r2 : List (Addr × Obj)), nw = (180, tabObj ps) :: (r2 ++ rest) ∧ TabOk ps (r2 ++ rest) ∧ @LT.lt Nat _ 180 I ∧ (∀ x ∈ rest, x.1 < I) ∧ (∀ x ∈ r2, I < x.1) ∧
    (∀ p ∈ ps0, m p.1 = some p.2) ∧ (∀ z, (∀ p ∈ ps0, z ≠ p.1) → [Str.ofString "start", Str.ofString "depth", Str.ofString "used", Str.ofString "due_used", Str.ofString "told", Str.ofString "due"].contains z = false → m z = m₀ z)
theorem DueEnv.mono {w : World} {rest rest' : List (Addr × Obj)} {EV ROW TAB : Addr} {es : List Ev} (h : DueEnv w rest EV ROW TAB es) (hs : ∀ p ∈ rest, p ∈ rest') : DueEnv w rest' EV ROW TAB es := by
  obtain ⟨⟨vs, nn, a1, a2⟩, ⟨rvs, nr, b1, b2⟩, ⟨otab, va, vb, c1, c2, c3, c4⟩, lo⟩ := h
  exact ⟨⟨vs, nn, hs _ a1, a2.mono hs⟩, ⟨rvs, nr, hs _ b1, b2.mono hs⟩, ⟨otab, va, vb, hs _ c1, c2, c3.mono hs, c4.mono hs⟩, lo⟩
theorem led_three {h₀ h : Heap} {L l D3 D2 D1 : Addr} {o o3 o2 o1 : Obj} {x : List (Addr × Obj)} (N : News h₀ L h ((l, o) :: (D3, o3) :: (D2, o2) :: (D1, o1) :: x)) :
    ∃ l' D3' D2' D1', l' = l ∧ D3' = D3 ∧ D2' = D2 ∧ D1' = D1 ∧ News h₀ L h ((l', o) :: (D3', o3) :: (D2', o2) :: (D1', o1) :: x) := ⟨l, D3, D2, D1, rfl, rfl, rfl, rfl, N⟩
theorem led_rest {h₀ h : Heap} {L : Addr} {A B C D E : Addr × Obj} {x : List (Addr × Obj)} (N : News h₀ L h (A :: B :: C :: D :: E :: x)) : ∃ r, r = A :: B :: C :: D :: x ∧ News h₀ L h (E :: r) :=
  ⟨_, rfl, cb_drop N (by walk_at "mine subA")⟩
noncomputable abbrev setO (led : Bool) : Obj := { cls := .type "set", data := .set #[] 0 (.fresh 0 0 led) }
theorem led_sets {h₀ h : Heap} {L Dd Du : Addr} {A B : Addr × Obj} {l1 l2 : Bool} {x : List (Addr × Obj)} (N : News h₀ L h (A :: (Dd, setO l1) :: (Du, setO l2) :: B :: x)) :
    ∃ Dd' Du' l1' l2', Dd' = Dd ∧ Du' = Du ∧ News h₀ L h ((Dd', setO l1') :: (Du', setO l2') :: x) := ⟨Dd, Du, l1, l2, rfl, rfl, cb_drop N (by walk_at "mine subA")⟩
noncomputable def TurnTup (led : List (Addr × Obj)) (v : Value) : Prop := ∃ (T : Addr) (c : Option Nat) (cv : Value) (Dn : Nat) (tD : Tok) (n : Nat), v = .ref T ∧ (T, ({ cls := .type "tuple", data := .seq #[cv, .int (Dn : Int) tD] n } : Obj)) ∈ led ∧ CntV c cv ∧ (∀ n, c = some n → n ≤ 3) ∧ Dn ≤ 5
theorem loop_spec (w : World) (mean : ExcName → Option Value) (mg mb : Str → Option Value) (b : List Stmt) (sc : Scope) (hb : lawDef 7 = some (b, sc)) (fa : Addr) (cd : Value) (h₀ : Heap) (L : Addr) (m : Str → Option Value) (s : Shared) (Q : Flow → Shared → Prop) (E : Value → Shared → Prop)
    (p : P) (rest : List (Addr × Obj)) (EV ROW TAB AA KW : Addr) (oc : Obj) (tp : Tok) (ok : ∀ e ∈ p.evs, EvOk e) (hh : p.hgt ≤ 3) (hn : p.nf ≤ 10) (henv : DueEnv w rest EV ROW TAB p.evs) (hargs : Mine.Args w rest AA KW) (hcell : (L + 1, oc) ∈ rest) (hcd : oc.data = .cell (some (.ref TAB)))
    (B : Below callerA h₀ [] h₀) (F : Fr h₀ L s.heap m) (X : (hd.heap_1 w.params).In h₀) (C : CodeHd h₀ 184 180) (h180 : ∀ x ∈ rest, @Ne Nat x.1 180) (N : News h₀ L s.heap ((180, tabObj #[]) :: rest))
    (T : Top topProg (looseW hd.view_39 [] ++ List.map (fun x => x.name) (recsOf hd.view_39) ++ List.map (fun x => x.fst) (litsOf hd.view_39) ++ List.map (fun x => x.name) (clssOf hd.view_39 (looseW hd.view_39 []))) mean mg mb h₀)
    (hps : ∀ q ∈ [(Str.ofString "page", Value.str (mk (p.text [])) tp), (Str.ofString "kwargs", .ref KW), (Str.ofString "args", .ref AA), (Str.ofString "row", .ref ROW), (Str.ofString "events", .ref EV)], m q.1 = some q.2)
    (hret : ∀ h' tk' m' ps' nw, Fr h₀ L h' m' → News h₀ L h' ((180, tabObj ps') :: nw) → Q (.ret (.bool true)) { s with heap := h', toks := tk' })
    (hE : PassesOwn (model PySem.Challenge.rw_ik0030_01.row.prog w) (callerA.deeper (envOfC (Str.ofString "law") sc L fa cd)) (envOfC (Str.ofString "law") sc L fa cd) E) :
    wpAny (model PySem.Challenge.rw_ik0030_01.row.prog w) (callerA.deeper (envOfC (Str.ofString "law") sc L fa cd)) (execs b (envOfC (Str.ofString "law") sc L fa cd)) Q E s := by
  cases hb
  dsimp only [List.drop]
  have F2 := ksw_fr (stored := []) hps (fun z _ _ => rfl) F
  clear F
  walk_at "mine step"
  dsimp only [Halt]
  refine wpAny_For ?_
  walk_at "mine step"
  dsimp only [Halt]
  rename Fr _ _ _ _ => lF
  rename News _ _ _ _ => lN
  refine gx0 fun G kG => ?_
  obtain ⟨DL, D3, D2, D1, e1, e2, e3, e4, lN2⟩ := led_three lN
  subst e1 e2 e3 e4
  clear lN
  obtain ⟨mF, hmF, lF4⟩ := fr_name lF
  obtain ⟨rest1, er1, lN3⟩ := led_rest lN2
  clear lN2
  have h180r : ∀ y ∈ rest1, @Ne Nat y.1 180 := fun y hy => by
    have q1 : @LT.lt Nat _ 180 D1 ∧ AllLt D1 rest := by assumption
    have q2 : @LT.lt Nat _ D1 D2 ∧ @LT.lt Nat _ 180 D2 ∧ AllLt D2 rest := by assumption
    have q3 : @LT.lt Nat _ D2 D3 ∧ @LT.lt Nat _ D1 D3 ∧ @LT.lt Nat _ 180 D3 ∧ AllLt D3 rest := by assumption
    have q4 : @LT.lt Nat _ D3 DL ∧ @LT.lt Nat _ D2 DL ∧ @LT.lt Nat _ D1 DL ∧ @LT.lt Nat _ 180 DL ∧ AllLt DL rest := by assumption
    rw [er1] at hy
    simp only [List.mem_cons] at hy
    rcases hy with rfl | rfl | rfl | rfl | hy
    · exact Nat.ne_of_gt q4.2.2.2.1
    · exact Nat.ne_of_gt q3.2.2.1
    · exact Nat.ne_of_gt q2.2.1
    · exact Nat.ne_of_gt q1.1
    · exact h180 y hy
  have hrs : ∀ y ∈ rest, y ∈ rest1 := fun y hy => by rw [er1]; simp [hy]
  refine kG ?_
  clear kG
  refine' for_listI (vs := [.ref D1, .ref D2, .ref D3]) (nn := 0) (LawJ [(Str.ofString "page", Value.str (mk (p.text [])) tp), (Str.ofString "kwargs", .ref KW), (Str.ofString "args", .ref AA), (Str.ofString "row", .ref ROW), (Str.ofString "events", .ref EV)] mF rest1) rfl ?zF ?zN ?_ ?_ ?_ ?_ ?_ ?zE ?zT
  case zF => exact lF4
  case zN => exact lN3
  case zE => exact hE
  case zT => exact fun I i v s Q E hv hit h => go_tup (by simp only [List.mem_cons, List.not_mem_nil, or_false] at hv; rcases hv with rfl | rfl | rfl <;> exact ⟨_, rfl⟩) hit h
  · intro I hI
    exact ⟨#[], [], rfl, .inl rfl, hI _ (List.mem_cons_self ..), fun x hx => hI x (List.mem_cons_of_mem _ hx), (fun _ h => nomatch h), by rw [hmF]; kst_all, fun z _ _ => rfl⟩
  · rintro I i m nw ⟨ps, r2, rfl, -⟩
    exact List.mem_cons_of_mem _ (List.mem_append_right _ (by rw [er1]; exact List.mem_cons_self ..))
  · rintro I i m nw ⟨ps, r2, rfl, -, a1, a2, a3, -⟩ x hx
    rcases List.mem_cons.mp hx with rfl | hx
    · exact Nat.ne_of_lt a1
    · rcases List.mem_append.mp hx with hx | hx
      · exact Nat.ne_of_gt (a3 x hx)
      · exact Nat.ne_of_lt (a2 x hx)
  · intro i x m₁ nw I oI h tk hx1 hJ _
    refine gx2 nw x fun G kG => ?_
    obtain ⟨ps, r2, rfl, htab, a1, a2, a3, m1, m2⟩ := hJ
    have tt : TurnTup rest1 x := by
      match i, hx1 with
      | 0, hx1 => cases hx1; exact ⟨D1, some 0, _, 2, _, _, rfl, by rw [er1]; exact List.mem_cons_of_mem _ (List.mem_cons_of_mem _ (List.mem_cons_of_mem _ (List.mem_cons_self ..))), ⟨_, rfl⟩, (by intro n h; cases h; decide), by decide⟩
      | 1, hx1 => cases hx1; exact ⟨D2, some 2, _, 3, _, _, rfl, by rw [er1]; exact List.mem_cons_of_mem _ (List.mem_cons_of_mem _ (List.mem_cons_self ..)), ⟨_, rfl⟩, (by intro n h; cases h; decide), by decide⟩
      | 2, hx1 => cases hx1; exact ⟨D3, none, _, 3, _, _, rfl, by rw [er1]; exact List.mem_cons_of_mem _ (List.mem_cons_self ..), rfl, (by intro n h; cases h), by decide⟩
      | n + 3, hx1 => cases hx1
    obtain ⟨TT, c, cv, Dn, tD, nT, rfl, hTT, hcv, hc3, hDn⟩ := tt
    obtain ⟨G1, eG1⟩ : ∃ G1, G1 = (180, tabObj ps) :: (I, oI) :: (r2 ++ rest1) := ⟨_, rfl⟩
    have hr1 : ∀ y ∈ rest1, y ∈ G1 := fun y hy => by rw [eG1]; simp [hy]
    refine kG _ _ ?_
    clear kG
    intro F1 N1
    have F2 := ksw_fr m1 m2 F1
    clear F1
    have N2 : News _ _ _ ((TT, ({ cls := .type "tuple", data := .seq #[cv, .int (Dn : Int) tD] nT } : Obj)) :: G1) := cb_drop N1 (by rw [eG1]; exact sub_cons (memt _ (memt _ (List.mem_append_right _ hTT))) (by walk_at "mine subA"))
    clear N1 lF4 lF lN3
    walk_at "mine step"
    dsimp only [Halt]
    rename News _ _ _ _ => lN
    refine gx0 fun G kG => ?_
    obtain ⟨Dd, Du, ld1, ld2, ed, eu, lN4⟩ := led_sets lN
    subst ed eu
    have hl1 : @LT.lt Nat _ TT Du ∧ AllLt Du G1 := by assumption
    have hl2 : @LT.lt Nat _ Du Dd ∧ @LT.lt Nat _ TT Dd ∧ AllLt Dd G1 := by assumption
    have hlu : ∀ y ∈ G1, y.1 < Du := allLt_to hl1.2
    have hld : ∀ y ∈ G1, y.1 < Dd := allLt_to hl2.2.2
    obtain ⟨restT, eRT⟩ : ∃ restT, restT = (Dd, setO ld1) :: (I, oI) :: (r2 ++ rest1) := ⟨_, rfl⟩
    have hGT : ∀ y ∈ restT, y = (Dd, setO ld1) ∨ y ∈ G1 := fun y hy => by
      rw [eRT] at hy
      rw [eG1]
      simp only [List.mem_cons, List.mem_append] at hy ⊢
      rcases hy with hy | hy | hy | hy <;> simp [hy]
    have h180G : ∀ y ∈ restT, @Ne Nat y.1 180 := fun y hy => by
      have hID : @LT.lt Nat _ I Dd := hld (I, oI) (by rw [eG1]; simp)
      rw [eRT] at hy
      simp only [List.mem_cons, List.mem_append] at hy
      rcases hy with rfl | rfl | hy | hy
      · exact Nat.ne_of_gt (Nat.lt_trans a1 hID)
      · exact Nat.ne_of_gt a1
      · exact Nat.ne_of_gt (Nat.lt_trans a1 (a3 y hy))
      · exact h180r y hy
    have h180u : @LT.lt Nat _ 180 Du := hlu (180, tabObj ps) (by rw [eG1]; simp)
    have lN5 : News _ _ _ ((180, tabObj ps) :: (Du, setO ld2) :: restT) := cb_drop lN4 (by rw [eRT, eG1]; walk_at "mine subA")
    clear lN lN4
    have hoffT : ∀ x ∈ restT, x.1 ≠ Du := fun y hy => by
      rcases hGT y hy with rfl | hy
      · exact Nat.ne_of_gt hl2.1
      · exact Nat.ne_of_lt (hlu y hy)
    have h180T : ∀ x ∈ (Du, setO ld2) :: restT, x.1 ≠ 180 := fun y hy => by
      rcases List.mem_cons.mp hy with rfl | hy
      · exact Nat.ne_of_gt h180u
      · exact h180G y hy
    have hrT : ∀ y ∈ rest, y ∈ restT := fun y hy => by rw [eRT]; simp [hrs y hy]
    refine kG ?_
    clear kG
    k_dflt (refine' told_spec w mean mg mb ps restT (r2 ++ rest1) Du AA KW _ tp tD p Dn c cv ok hh hn hDn hc3 hcv (setIs_new pr1 w ld2) (hargs.mono hrT) _ _ _ _ _ _ _ _ _ _ _ _ _ _ _ _ ?kB ?kF ?kX C h180T hoffT ?kR htab ?kN ?kT ?kXT ?kK ?kd ?ku ?_; (case kR => exact fun y hy => by rw [eRT]; exact List.mem_cons_of_mem _ (List.mem_cons_of_mem _ hy)); (case kB => exact B); (case kF => k_asm); (case kX => exact X); (case kN => k_asm); (case kT => exact T); (case kXT => exact ⟨X, T⟩); (case kK => exact rfl); (case kd => first | ktr_room | fail "kd"); (case ku => first | ((simp only [units_in1, units_deeper, Around.mark_units, units_caller, cLine_is]); done) | ((simp only [units_in1, units_deeper, Around.mark_units, units_caller, cLine_is]); decide) | ktr_units | fail "ku"))
    intro v1 nx1 r3 so1 ps1 h9 tk9 F9 N9 l9 htab9 hres1
    (try dsimp only)
    (try k_fold)
    refine gx0 fun G kG => ?_
    obtain ⟨G2, eG2⟩ : ∃ G2, G2 = nx1 ++ (180, tabObj ps1) :: (Du, so1) :: (r3 ++ restT) := ⟨_, rfl⟩
    have hTG : ∀ y ∈ restT, y ∈ G2 := fun y hy => by rw [eG2]; simp [hy]
    have N10 : News _ _ _ ((L + 1, oc) :: G2) := cb_drop N9 (fun y hy => by
      rcases List.mem_cons.mp hy with rfl | hy
      · rw [← eG2]; exact hTG _ (hrT _ hcell)
      · rw [← eG2]; exact hy)
    clear N9
    refine kG ?_
    clear kG
    walk_at "mine step"
    dsimp only [Halt]
    rename News _ _ _ _ => lN
    refine gx0 fun G kG => ?_
    obtain ⟨restD, eRD⟩ : ∃ restD, restD = nx1 ++ (180, tabObj ps1) :: (Du, so1) :: (r3 ++ (I, oI) :: (r2 ++ rest1)) := ⟨_, rfl⟩
    have lN6 : News _ _ _ ((Dd, setO ld1) :: restD) := cb_drop lN (by rw [eRD, eG2, eRT]; walk_at "mine subA")
    clear lN
    have hDdT : (Dd, setO ld1) ∈ (180, tabObj ps) :: (Du, setO ld2) :: restT := by rw [eRT]; simp
    have hIT : (I, oI) ∈ (180, tabObj ps) :: (Du, setO ld2) :: restT := by rw [eRT]; simp
    have hoffD : ∀ x ∈ restD, x.1 ≠ Dd := fun y hy => by
      rw [eRD] at hy
      simp only [List.mem_cons, List.mem_append] at hy
      rcases hy with hy | rfl | rfl | hy | rfl | hy | hy
      · exact Nat.ne_of_gt (l9 y (List.mem_append_left _ hy) _ hDdT)
      · exact Nat.ne_of_lt (hld (180, tabObj ps) (by rw [eG1]; simp))
      · exact Nat.ne_of_lt hl2.1
      · exact Nat.ne_of_gt (l9 y (List.mem_append_right _ hy) _ hDdT)
      · exact Nat.ne_of_lt (hld (I, oI) (by rw [eG1]; simp))
      · exact Nat.ne_of_lt (hld y (by rw [eG1]; simp [hy]))
      · exact Nat.ne_of_lt (hld y (by rw [eG1]; simp [hy]))
    have hrD : ∀ y ∈ rest, y ∈ restD := fun y hy => by rw [eRD]; simp [hrs y hy]
    refine kG ?_
    clear kG
    k_dflt (refine' due_spec w mean mg mb restD EV ROW TAB Dd _ p Dn c cv tD ok hn hDn hc3 hcv (setIs_new pr1 w ld1) hoffD (henv.mono hrD) _ _ _ _ _ _ _ _ _ _ _ _ _ _ _ _ _ ?k1 ?k2 ?k3 ?k4 ?k5 ?kK ?kd ?ku ?_ ?_; (walk_at "mine cb"))
    · intro v2 nx2 news2 h8 tk8 F8 N8 l8 hres2
      (try dsimp only)
      (try k_fold)
      have hdd : dueGo Dn p.evs [] c 0 [] = vfD p (Dn + 1) [] c [] := P.due0 p Dn c []
      rw [hdd] at hres2
      clear lN6
      revert F8 N8
      refine gx5 v1 nx1 v2 nx2 news2 fun G kG => ?_
      obtain ⟨G3, eG3⟩ : ∃ G3, G3 = (180, tabObj ps1) :: (r3 ++ (I, oI) :: (r2 ++ rest1)) := ⟨_, rfl⟩
      rcases hres1 with ⟨t, c2, u2, sx, T1, t1, cv1, n1, hr1, e1, hs1, rfl, rfl, hcv1⟩ | ⟨er, u2, sx, t1, hr1, e1, hs1, rfl, rfl⟩
      · rcases hres2 with ⟨t', c2', u2', so2, T2, t2, cv2, n2, hr2, rfl, hs2, rfl, rfl, hcv2⟩ | ⟨er', u2', so2, t2, hr2, rfl, hs2, rfl, rfl⟩
        · have hrr := hr1.symm.trans hr2
          cases hrr
          cases e1
          refine kG _ _ _ _ _ ?_
          clear kG
          intro F8 N8
          have hul : u2.length < 4000 := by have := vf_used p _ _ _ _ _ _ _ hr1; simp only [List.length_nil] at this; omega
          have N12 : News _ _ _ ((T2, ({ cls := .type "tuple", data := .seq #[.str (mk t) t2, cv2, .bool c2.isNone] n2 } : Obj)) :: (T1, ({ cls := .type "tuple", data := .seq #[.str (mk t) t1, cv1, .bool c2.isNone] n1 } : Obj)) :: (Dd, so2) :: (Du, so1) :: G3) := cb_drop N8 (by rw [eG3, eRD]; walk_at "mine subA")
          clear N8
          walk_at "mine step"
          rename Fr _ _ _ _ => lF7
          rename News _ _ _ _ => lN7
          refine ⟨_, _, _, (180, tabObj ps1) :: (r3 ++ (r2 ++ rest1)), rfl, lF7, cb_drop lN7 (by rw [eG3]; walk_at "mine subA"), ps1, r3 ++ r2, by rw [List.append_assoc], by rw [List.append_assoc]; exact htab9, a1, a2, ?_, by kst_all, by walk_at "mine same"⟩
          · intro y hy
            rcases List.mem_append.mp hy with hy | hy
            · exact l9 y (List.mem_append_right _ hy) _ hIT
            · exact a3 y hy
        · have hrr := hr1.symm.trans hr2
          cases hrr
      · rcases hres2 with ⟨t', c2', u2', so2, T2, t2, cv2, n2, hr2, rfl, hs2, rfl, rfl, hcv2⟩ | ⟨er', u2', so2, t2, hr2, rfl, hs2, rfl, rfl⟩
        · have hrr := hr1.symm.trans hr2
          cases hrr
        · have hrr := hr1.symm.trans hr2
          cases hrr
          cases e1
          refine kG _ _ _ _ _ ?_
          clear kG
          intro F8 N8
          have hul : u2.length < 4000 := by have := vf_err_used p _ _ _ _ _ _ hr1; simp only [List.length_nil] at this; omega
          have N12 : News _ _ _ ((Dd, so2) :: (Du, so1) :: G3) := cb_drop N8 (by rw [eG3, eRD]; walk_at "mine subA")
          clear N8
          walk_at "mine step"
          rename Fr _ _ _ _ => lF7
          rename News _ _ _ _ => lN7
          refine ⟨_, _, _, (180, tabObj ps1) :: (r3 ++ (r2 ++ rest1)), rfl, lF7, cb_drop lN7 (by rw [eG3]; walk_at "mine subA"), ps1, r3 ++ r2, by rw [List.append_assoc], by rw [List.append_assoc]; exact htab9, a1, a2, ?_, by kst_all, by walk_at "mine same"⟩
          · intro y hy
            rcases List.mem_append.mp hy with hy | hy
            · exact l9 y (List.mem_append_right _ hy) _ hIT
            · exact a3 y hy
    · rintro _ _ _ _ _ _ ⟨⟩
  · intro I m₁ nw h tk hJ _
    clear lF4 lF lN3
    refine gx1 nw fun G kG => ?_
    obtain ⟨ps, r2, rfl, -⟩ := hJ
    refine kG _ ?_
    clear kG
    intro F1 N1
    walk_at "mine step"
    exact hret _ _ _ _ _ (by assumption) (by assumption)
end SLX
local macro_rules | `(tactic| walk_at "newTuple") => `(tactic| (k_dflt (refine' kup_newTuple (by k_asm) (by k_asm) ?_ (by kmk_size)); intro D' h' F' N' l1; (try k_lt l1); (try k_sweep)))
local macro_rules | `(tactic| walk_at "eval Dict") => `(tactic| (k_dflt (refine' kdn_str (by rfl) (by k_asm) (by first | k_asm | exact News.nil) (by exact Top.nolimit (by k_asm)) (by rfl) (by rfl) (by exact List.cons_ne_nil _ _) (by exact Nat.le_of_ble_eq_true rfl) ?_); intro d' h' o' F' N' l1 lo' hd'; (try k_lt l1)))
section SAX
open PyProof.Rows.LCg
local macro_rules | `(tactic| walk_at "call ref") => `(tactic| ((with_reducible show wpAny _ _ (call (Value.ref 157) _) _ _ _); refine halt ?_))
local macro_rules | `(tactic| walk_at "CompEnd str") => `(tactic| (refine' LCg.CompEnd.intro (by assumption) (by assumption) _ (fun _ h => h) (by with_unfolding_all assumption) (by lcg_src) ?_))
local macro_rules | `(tactic| walk_at "eval DictComp") => `(tactic| refine halt ?_)
local macro_rules | `(tactic| walk_at "execs cons") => `(tactic| ((with_reducible show wpAny _ _ (execs (Stmt.For _ _ _ _ _ :: _) _) _ _ _); refine halt ?_))
local macro_rules | `(tactic| k_all) => `(tactic| first | assumption | exact off0 (by assumption))
theorem tail_spec (w : World) (mean : ExcName → Option Value) (mg mb : Str → Option Value) (b : List Stmt) (sc : Scope) (hb : lawDef 3 = some (b, sc)) (fa : Addr) (cd : Value) (h₀ : Heap) (L : Addr) (m : Str → Option Value) (s : Shared) (Q : Flow → Shared → Prop) (E : Value → Shared → Prop)
    (p : P) (EV : Addr) (vs : List Value) (nn : Nat) (r9 : List (Addr × Obj)) (wc : Obj) (xc : Option Value) (hwc : wc.data = .cell xc) (da : DatAll r9 vs (p.evs.map evD)) (ok : ∀ e ∈ p.evs, EvOk e) (hh : p.hgt ≤ 3) (hn : p.nf ≤ 10)
    (B : Below callerA h₀ [] h₀) (F : Fr h₀ L s.heap m) (X : (hd.heap_1 w.params).In h₀) (C : CodeHd h₀ 184 180) (h180 : ∀ x ∈ r9, @LT.lt Nat _ 180 x.1) (hE180 : @LT.lt Nat _ 180 EV) (hL180 : @LT.lt Nat _ 180 (L + 1)) (hcE : @LT.lt Nat _ (L + 1) EV) (hcr : ∀ x ∈ r9, x.1 ≠ L + 1)
    (N : News h₀ L s.heap ((180, tabObj #[]) :: (EV, PySem.W.listOf vs.toArray nn) :: (L + 1, wc) :: r9))
    (T : Top topProg (looseW hd.view_39 [] ++ List.map (fun x => x.name) (recsOf hd.view_39) ++ List.map (fun x => x.fst) (litsOf hd.view_39) ++ List.map (fun x => x.name) (clssOf hd.view_39 (looseW hd.view_39 []))) mean mg mb h₀)
    (hps : ∀ q ∈ [(Str.ofString "events", Value.ref EV)], m q.1 = some q.2)
    (hret : ∀ h' tk' m' ps' nw, Fr h₀ L h' m' → News h₀ L h' ((180, tabObj ps') :: nw) → Q (.ret (.bool true)) { s with heap := h', toks := tk' })
    (hE : PassesOwn (model PySem.Challenge.rw_ik0030_01.row.prog w) (callerA.deeper (envOfC (Str.ofString "law") sc L fa cd)) (envOfC (Str.ofString "law") sc L fa cd) E) :
    wpAny (model PySem.Challenge.rw_ik0030_01.row.prog w) (callerA.deeper (envOfC (Str.ofString "law") sc L fa cd)) (execs b (envOfC (Str.ofString "law") sc L fa cd)) Q E s := by
  cases hb
  dsimp only [List.drop]
  have F2 := ksw_fr (stored := []) hps (fun z _ _ => rfl) F
  clear F
  walk_at "mine step"
  dsimp only [Halt]
  rename News _ _ _ _ => lN
  rename Fr _ _ _ _ => lF
  have hoc := cell_is (by assumption)
  have hlo := lo_is (by assumption)
  have hbig : sysModules < h₀.objs.size := modules_low T.nolimit
  have key := fun Mo => led_env (w := w) lN (by assumption) hoc (fun y hy => Nat.ne_of_gt (h180 y hy)) Mo
  clear lN
  revert lF hoc hlo
  apply key
  clear key
  intro DA tb rw' Tk Tn otab oc G NG g180 gr9 gEV gc gtb hkd gTk gTn grow gargs lF hoc hlo
  k_dflt (refine' DictComp_tab (h₀ := h₀) (L := L) (news := (180, tabObj #[]) :: G) (d := tb) (cA := L + 1) (Ta := Tk) (Tb := Tn) (otab := otab) (oc := oc) (k1 := mk [107]) (k2 := mk [110]) ?z1 ?z2 ?z3 ?z4 ?z5 ?z6 ?z7 ?z8 ?z9 ?z10 ?z11 ?z12 ?z13 ?z14 ?z15 ?z16)
  case z1 => exact rfl
  case z2 => exact hbig
  case z3 => exact rfl
  case z4 => decide
  case z5 => exact rfl
  case z6 => decide
  case z7 => exact rfl
  case z8 => decide
  case z9 => exact hlo
  case z10 => exact rfl
  case z11 => exact fun C => rfl
  case z12 => exact fun C => rfl
  case z13 => decide
  case z14 => decide
  case z16 => exact fun _ => rfl
  case z15 =>
    refine wpAny_Name (wpAny_loadName_cell rfl rfl rfl ⟨oc, (NG _ (List.mem_cons_of_mem _ gc)).1, hoc⟩ ?_) (by decide)
    refine ⟨rfl, lF, NG, List.mem_cons_of_mem _ gtb, hkd, List.mem_cons_of_mem _ gTk, List.mem_cons_of_mem _ gTn, List.mem_cons_of_mem _ gc, hoc, ?_⟩
    intro DK oD h8 tk8 F8 N8 l8 lo8 hkd8
    clear lF NG
    (try dsimp only)
    (try k_fold)
    walk_at "mine step"
    dsimp only [Halt]
    rename News _ _ _ _ => lN2
    have lN3 : News _ _ _ ((180, tabObj #[]) :: (DK, oD) :: G) := cb_drop lN2 (by walk_at "mine sub")
    clear lN2
    have hG2 : ∀ y ∈ r9, y ∈ (180, tabObj #[]) :: (DK, oD) :: G := fun y hy => List.mem_cons_of_mem _ (List.mem_cons_of_mem _ (gr9 y hy))
    k_dflt (refine' page_spec w mean mg mb _ EV vs nn p (List.mem_cons_of_mem _ (List.mem_cons_of_mem _ gEV)) (da.mono hG2) ok hn _ _ _ _ _ _ _ _ _ _ _ _ _ _ _ _ _ ?k1 ?k2 ?k3 ?k4 ?k5 ?kK ?kd ?ku ?_; (walk_at "mine cb"))
    walk_at "mine in"
    clear lN3
    walk_at "mine step"
    dsimp only [Halt]
    have gE : ∀ y ∈ G, y ∈ (DK, oD) :: G := fun y hy => List.mem_cons_of_mem _ hy
    have g180' : ∀ y ∈ (DK, oD) :: G, @Ne Nat y.1 180 := fun y hy => by
      rcases List.mem_cons.mp hy with rfl | hy
      · exact Nat.ne_of_gt (l8 (180, tabObj #[]) (List.mem_cons_self ..))
      · exact g180 y hy
    obtain ⟨rvs, nr, hrw, hrd⟩ := grow
    obtain ⟨avs, na, hav, has⟩ := gargs
    have henv : DueEnv w ((DK, oD) :: G) EV rw' tb p.evs := ⟨⟨vs, nn, gE _ gEV, da.mono (fun y hy => gE _ (gr9 y hy))⟩, ⟨rvs, nr, gE _ hrw, hrd.mono gE⟩, ⟨otab, _, _, gE _ gtb, hkd, dat2 (gE _ gTk), dat2 (gE _ gTn)⟩, hlo⟩
    have hargs : Mine.Args w ((DK, oD) :: G) DA DK := ⟨⟨avs, na, gE _ hav, has⟩, ⟨oD, _, _, List.mem_cons_self .., hkd8⟩, lo8⟩
    k_dflt (refine' loop_spec w mean mg mb _ _ ?yb fa cd h₀ L _ _ Q E p ((DK, oD) :: G) EV rw' tb DA DK oc _ ok hh hn henv hargs (gE _ gc) hoc B ?yF X C g180' ?yN T ?yp hret hE; (case yF => k_asm); (case yN => k_asm); (case yp => kst_all))
    case yb => with_unfolding_all rfl
end SAX
section SMX
open PyProof.Rows.LCg
local macro_rules | `(tactic| walk_at "call ref") => `(tactic| ((with_reducible show wpAny _ _ (call (Value.ref 145) _) _ _ _); refine halt ?_))
local macro_rules | `(tactic| walk_at "execs cons") => `(tactic| ((with_reducible show wpAny _ _ (execs (Stmt.Assign [Expr.Name ("row" : Str) _] _ _ :: _) _) _ _ _); refine halt ?_))
local macro_rules | `(tactic| k_qdec) => `(tactic| decide +kernel)
local macro_rules | `(tactic| walk_at "exec If") => `(tactic| (refine halt ?_))
noncomputable def NmMid (g : Heap) (L : Addr) (mc : Str → Option Value) (s : Shared) (led : List (Addr × Obj)) (fl : Flow) (s₂ : Shared) : Prop :=
  ∃ (D : Addr) (nvs : List Value) (n : Nat) (names : List (List Nat)) (h' : Heap) (tk' : Nat), fl = .next ∧ s₂ = { s with heap := h', toks := tk' } ∧ (names = names1 ∨ names = names2) ∧
    Fr g L h' (fun y => if y = Str.ofString "names" then some (.ref D) else mc y) ∧ News g L h' ((D, PySem.W.listOf nvs.toArray n) :: led) ∧ StrsAre nvs (names.map mk) ∧ AllLt D led
theorem wp_names {M : Model} {A : Around} {m : Sem Flow} {Q : Flow → Shared → Prop} {E : Value → Shared → Prop} {s : Shared} {g : Heap} {L : Addr} {mc : Str → Option Value} {h0 : Heap} {x : Addr × Obj} {led : List (Addr × Obj)} (_ : Fr g L h0 mc) (_ : News g L h0 (x :: led))
    (h1 : wpAny M A m (NmMid g L mc s led) E s)
    (h2 : ∀ (D : Addr) (nvs : List Value) (n : Nat) (names : List (List Nat)) (h' : Heap) (tk' : Nat), (names = names1 ∨ names = names2) → Fr g L h' (fun y => if y = Str.ofString "names" then some (.ref D) else mc y) → News g L h' ((D, PySem.W.listOf nvs.toArray n) :: led) → StrsAre nvs (names.map mk) → AllLt D led →
      Q .next { s with heap := h', toks := tk' }) : wpAny M A m Q E s :=
  wpAny_mono h1 (fun fl s₂ ⟨D, nvs, n, names, h', tk', e1, e2, hn, F, N, S, l⟩ => by subst e1 e2; exact h2 D nvs n names h' tk' hn F N S l) (fun _ _ h => h)
theorem NmMid.mk' {g : Heap} {L : Addr} {mc m' : Str → Option Value} {s : Shared} {led : List (Addr × Obj)} {D : Addr} {nvs : List Value} {n : Nat} (names : List (List Nat)) {h' : Heap} {tk' : Nat} (hn : names = names1 ∨ names = names2) (F : Fr g L h' m')
    (hm : ∀ y, m' y = if y = Str.ofString "names" then some (.ref D) else mc y) (N : News g L h' ((D, PySem.W.listOf nvs.toArray n) :: led)) (S : StrsAre nvs (names.map mk)) (l : AllLt D led) : NmMid g L mc s led .next { s with heap := h', toks := tk' } :=
  ⟨D, nvs, n, names, h', tk', rfl, rfl, hn, (funext hm : m' = _) ▸ F, N, S, l⟩
theorem names_ok {names : List (List Nat)} (h : names = names1 ∨ names = names2) : names.length = 8 ∧ ∀ n ∈ names, n ∈ nameS := by
  rcases h with rfl | rfl
  · exact ⟨rfl, by decide⟩
  · exact ⟨rfl, by decide⟩
theorem main : PySem.Challenge.rw_ik0030_01.Holds := hd (by
  w_strict (
    k_go0
    all_goals try k_fold
    rename IntsAre _ _ => hNs
    rename List Int => ns
    walk_at "mine step"
    dsimp only [Halt]
    rename Fr _ _ _ _ => lF0
    rename News _ _ _ _ => lN0
    refine wp_names lF0 lN0 ?_ ?_
    · refine wpAny_If ?_
      walk_at "mine step"
      all_goals rename Fr _ _ _ _ => lF1
      all_goals rename News _ _ _ _ => lN1
      · exact NmMid.mk' names2 (.inr rfl) lF1 (fun _ => rfl) (cb_drop lN1 (by walk_at "mine sub")) (sa_n2 _ _ _ _ _ _ _ _) ⟨by omega, by omega, trivial⟩
      · exact NmMid.mk' names1 (.inl rfl) lF1 (fun y => by
          by_cases h : y = Str.ofString "names"
          · subst h; exact rfl
          · simp only [h, if_false]) (cb_drop lN1 (by walk_at "mine sub")) (sa_n1 _ _ _ _ _ _ _ _) ⟨by omega, by omega, trivial⟩
    · clear lF0 lN0
      intro D2 nvs n2 names h2 tk2 hnm F2 N2 hS l2
      have hno := names_ok hnm
      clear hnm
      (try dsimp only)
      simp only [AllLt, and_true] at l2
      walk_at "mine step"
      dsimp only [Halt]
      k_dflt (refine' events_spec _ _ _ _ _ _ _ _ _ _ names _ _ ?kv1 ?kv2 ?kv3 ?kv4 hno.1 ?kv5 _ _ _ _ _ _ _ _ _ _ _ _ _ _ _ _ _ ?k1 ?k2 ?k3 ?k4 ?k5 ?kK ?kd ?ku ?_)
      case k1 => with_unfolding_all k_asm
      case k2 => with_unfolding_all k_asm
      case k3 => with_unfolding_all k_asm
      case k4 => with_unfolding_all k_asm
      case k5 => with_unfolding_all k_asm
      case kK => first | exact rfl | assumption | fail "kK"
      case kd => first | ktr_room | fail "kd"
      case ku => first | ((simp only [units_in1, units_deeper, Around.mark_units, units_caller, cLine_is]); done) | ((simp only [units_in1, units_deeper, Around.mark_units, units_caller, cLine_is]); decide) | ktr_units | fail "ku"
      case kv1 => k_mem
      case kv2 => assumption
      case kv3 => k_mem
      case kv4 => exact hS
      case kv5 => simp only [List.length_append, List.length_cons, List.length_nil, List.length_take]; omega
      rintro v9 nx9 h9 tk9 F9 N9 l9 ⟨D9, vs9, n9, r9, rfl, rfl, d9⟩
      obtain ⟨p, hp1, hp2, hp3, hp4, hp5⟩ := evAll_ok names hno.1 hno.2 ([104, 193, 722] ++ ns.take 5 ++ [91, 204])
      rw [hp1] at d9
      rename Shared => s₁
      simp only [List.cons_append] at N9
      have N10 := led_main N9 (s₁.heap.objs.size + 1, _) (180, _) (by k_mem) (by k_mem)
      have hcell : ∀ x ∈ (D9, PySem.W.listOf vs9.toArray n9) :: r9, @LT.lt Nat _ (s₁.heap.objs.size + 1) x.1 := fun x hx => l9 x hx (s₁.heap.objs.size + 1, _) (by k_mem)
      have hcellD := hcell _ (List.mem_cons_self ..)
      have hcellr : ∀ x ∈ r9, x.1 ≠ s₁.heap.objs.size + 1 := fun x hx => Nat.ne_of_gt (hcell x (List.mem_cons_of_mem _ hx))
      dsimp only at hcellD
      have h180 : ∀ x ∈ r9, 180 < x.1 := fun x hx => l9 x (List.mem_cons_of_mem _ hx) (180, tabObj #[]) (by k_mem)
      have hD180 : @LT.lt Nat _ 180 D9 := ltN (l9 _ (List.mem_cons_self ..) (180, tabObj #[]) (by k_mem))
      clear N9 l9
      try dsimp only
      try k_fold
      have hL180 : @LT.lt Nat _ 180 (s₁.heap.objs.size + 1) := Nat.lt_succ_of_lt (by assumption)
      have hnf : p.nf ≤ 10 := by rw [hp4]; simp only [List.length_append, List.length_cons, List.length_nil, List.length_take]; omega
      walk_at "mine step"
      dsimp only [Halt]
      with_reducible (refine' tail_spec _ _ _ _ _ _ ?yb _ _ _ _ _ _ _ _ p D9 vs9 n9 r9 ?ywc ?yxc ?yw d9 hp3 hp2 hnf ?yB ?yF ?yX ?yC h180 hD180 ?yL ?ycD ?ycr ?yN ?yT ?yp ?yr ?yE)
      case yB => with_unfolding_all k_asm
      case yF => k_asm
      case yX => with_unfolding_all k_asm
      case yC => with_unfolding_all k_asm
      case yN => k_asm
      case yT => with_unfolding_all k_asm
      case yp => kst_all
      case yw => assumption
      case yL => exact hL180
      case ycD => exact hcellD
      case ycr => exact hcellr
      case yE => passes_own
      case yr =>
        intro h' tk' m' ps' nw F8 N8
        dsimp only
        refine ⟨?yg, ?yh⟩
        case yh => exact ⟨GrownAt.of (by k_asm) (List.mem_cons_self ..), trivial⟩
        case yg => walk_at "mine step"
      case yb => with_unfolding_all rfl))
end SMX
end Mine
theorem PySem.Challenge.cw_ik0030_01_holds : PySem.Challenge.rw_ik0030_01.Holds := by
  exact Mine.main
