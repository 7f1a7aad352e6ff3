import PyProof.Rows.All
import Wide.All
import OpenK.AllK
import Wide.FinOn
import PySem.Challenge.RW_wb0016_01
open PySem PySem.W PyProof.Rows PySem.Spec PySem.Calls
set_option Elab.async false
namespace Mine
set_option maxRecDepth 100000 in
set_option maxHeartbeats 8000000 in
open_top hd for PySem.Challenge.rw_wb0016_01
section
/-- the contract of a def at address f: called with vs over a ledger -/
def Ct (w : World) (f : Addr) (vs : List Value) (dep : Nat) (news : List (Addr × Obj)) (Post : Value → List (Addr × Obj) → Prop) : Prop :=
  ∀ (prog : Program) (loose : List PySem.Str) (mean : ExcName → Option Value) (mg mb : PySem.Str → Option Value)
    (dp un : Nat) (gd : Option (List Code)) (cn : PySem.Str) (cs : Scope) (a : Addr) (ccd : Value) (cl : List (PySem.Str × Addr)) (outer : List Env) (A₀ : Around) (base h₀ : Heap) (L : Addr) (m : PySem.Str → Option Value) (s : Shared)
    (Q E : Value → Shared → Prop),
    Below A₀ base outer h₀ → Fr h₀ L s.heap m → (hd.heap_39 w.params).In h₀ → News h₀ L s.heap news → Top hd.view_39 loose mean mg mb h₀ → cs.kind = .function → dp + dep < recursionLimit → un + 8 * dep < cLine →
    (∀ r news' h' tk', Fr h₀ L h' m → News h₀ L h' news' → Post r news' → Q r { s with heap := h', toks := tk' }) →
    wpAny (model prog w) (ktrTop dp un gd cn cs L a ccd cl outer) (call (.ref f) vs) Q E s

theorem Ct.use {w : World} {f : Addr} {vs : List Value} {dep : Nat} {news : List (Addr × Obj)} {Post : Value → List (Addr × Obj) → Prop} (C : Ct w f vs dep news Post)
    {prog : Program} {loose : List PySem.Str} {mean : ExcName → Option Value} {mg mb : PySem.Str → Option Value}
    {dp un : Nat} {gd : Option (List Code)} {cn : PySem.Str} {cs : Scope} {a : Addr} {ccd : Value} {cl : List (PySem.Str × Addr)} {outer : List Env} {A₀ : Around} {base h₀ : Heap} {L : Addr} {m : PySem.Str → Option Value} {s : Shared}
    {Q E : Value → Shared → Prop}
    (B : Below A₀ base outer h₀) (F : Fr h₀ L s.heap m) (X : (hd.heap_39 w.params).In h₀) (N : News h₀ L s.heap news) (T : Top hd.view_39 loose mean mg mb h₀) (hk : cs.kind = .function) (hd : dp + dep < recursionLimit) (hu : un + 8 * dep < cLine)
    (h : ∀ r news' h' tk', Fr h₀ L h' m → News h₀ L h' news' → Post r news' → Q r { s with heap := h', toks := tk' }) :
    wpAny (model prog w) (ktrTop dp un gd cn cs L a ccd cl outer) (call (.ref f) vs) Q E s :=
  C _ _ _ _ _ _ _ _ _ _ _ _ _ _ _ _ _ _ _ _ _ _ B F X N T hk hd hu h

def octs (n : Int) : List Int := if n ≤ 63 then [n] else [n / 64 % 64 + 64, n % 64]
/-- a fresh list of ints on top of the ledger -/
def NewInts (news : List (Addr × Obj)) (ns : List Int) (r : Value) (news' : List (Addr × Obj)) : Prop :=
  ∃ x vs k, r = .ref x ∧ news' = (x, listOf vs k) :: news ∧ IntsAre vs.toList ns ∧ ∀ q ∈ news, q.1 < x
theorem whl_cases {n : Int} {T F : Prop} (h1 : n ≠ 0 → T) (h2 : n = 0 → F) : WhlIf (n != 0) T F := by
  by_cases h : n = 0
  · exact .no (by rw [h]; rfl) (h2 h)
  · exact .yes (bne_iff_ne.mpr h) (h1 h)
theorem whl_no {n : Int} {T F : Prop} (h : n = 0) (h2 : F) : WhlIf (n != 0) T F := .no (by rw [h]; rfl) h2
theorem fd16 (n k : Int) (h : 0 ≤ n ∧ n < 16 * k) : 0 ≤ n.fdiv 16 ∧ n.fdiv 16 < k := by
  rw [Int.fdiv_eq_ediv_of_nonneg _ (by decide)]; omega
theorem fm16 (x : Int) : 0 ≤ x.fmod 16 ∧ x.fmod 16 < 16 := ⟨Int.fmod_nonneg_of_pos _ (by decide), Int.fmod_lt_of_pos _ (by decide)⟩
/-- the hexadecimal digits as letters from A on, the highest first -/
def hexl : Nat → Int → List Int
  | 0, _ => []
  | k + 1, n => if n = 0 then [] else hexl k (n.fdiv 16) ++ [65 + n.fmod 16]
theorem hexl_pos {k : Nat} {n : Int} (h : n ≠ 0) : hexl (k + 1) n = hexl k (n.fdiv 16) ++ [65 + n.fmod 16] := by rw [hexl, if_neg h]
theorem hexl_zero {k : Nat} {n : Int} (h : n = 0) : hexl k n = [] := by
  cases k
  · rfl
  · rw [hexl, if_pos h]
theorem hexl_none {n : Int} : hexl 0 n = [] := rfl
def apB (n : Int) : Array UInt8 := ((hexl 6 n).map fun n => n.toNat.toUInt8).toArray
theorem apB_eq {n : Int} {l : List Int} {t : Tok} (h : l = hexl 6 n) : ∃ t', Value.bytes (l.map fun n => n.toNat.toUInt8).toArray t = .bytes (apB n) t' := ⟨t, by rw [h]; rfl⟩
theorem apB_eq2 {n : Int} {l : List UInt8} {t : Tok} (h : l = (hexl 6 n).map fun n => n.toNat.toUInt8) : ∃ t', Value.bytes l.toArray t = .bytes (apB n) t' := ⟨t, by rw [h]; rfl⟩
theorem drop1 {h₀ h : Heap} {L : Addr} {q : Addr × Obj} {news : List (Addr × Obj)} (N : News h₀ L h (q :: news)) : News h₀ L h news := fun p hp => N p (.tail _ hp)
end
section
theorem off_Oct : True := by w_top off; exact trivial

local macro_rules | `(tactic| walk_at "WhlIf") => `(tactic| first | (refine WhlIf.yes (decide_eq_true (by omega)) ?_) | (refine WhlIf.no (decide_eq_false (by omega)) ?_))
set_option maxRecDepth 100000 in
set_option maxHeartbeats 8000000 in
theorem c_octets {w : World} {news : List (Addr × Obj)} (n : Int) (t : Tok) (n0 : 0 ≤ n) (n1 : n ≤ 260) :
   Ct w 57 [.int n t] 10 news (NewInts news (octs n)) := by
  unfold Ct
  intro prog loose mean mg mb dp un gd cn cs a ccd cl outer A₀ base h₀ L m s Q E B F X N T hk hd hu hret
  have f1 : n.fdiv 64 = n / 64 := Int.fdiv_eq_ediv_of_nonneg _ (by decide)
  have f2 : n.fmod 64 = n % 64 := Int.fmod_eq_emod_of_nonneg _ (by decide)
  have f3 : (n.fdiv 64).fmod 64 = n / 64 % 64 := by rw [f1]; exact Int.fmod_eq_emod_of_nonneg _ (by decide)
  rcases Int.lt_or_le 63 n with n2 | n2 <;> refine wpAny_call ?_
  all_goals k_dflt ktr_enter
  all_goals k_steps
  · refine hret _ _ _ _ (by assumption) (by assumption) ⟨_, _, _, rfl, rfl, ?_, by assumption⟩
    rw [show octs n = [(n.fdiv 64).fmod 64 + 64, n.fmod 64] from by rw [octs, if_neg (by omega), f2, f3]]
    exact .cons _ _ (.cons _ _ .nil)
  · refine hret _ _ _ _ (by assumption) (by assumption) ⟨_, _, _, rfl, rfl, ?_, by assumption⟩
    rw [show octs n = [n.fmod 64] from by rw [octs, if_pos (by omega), f2]; congr 1; omega]
    exact .cons _ _ .nil
end
section
theorem off_Let : True := by w_top off; exact trivial
local macro_rules | `(tactic| walk_at "my hexin") => `(tactic| (intro x hx; (repeat (first | (rcases List.mem_cons.mp hx with rfl | hx; omega) | (exact absurd hx (List.not_mem_nil))))))
local macro_rules | `(tactic| walk_at "WhlIf") => `(tactic| first | (refine whl_no (by first | assumption | omega) ?_) | (refine whl_cases (fun wc => ?_) (fun wc => ?_)))
local macro_rules | `(tactic| walk_at "call type:bytes") => `(tactic| (k_here; (with_reducible show wpAny _ _ (call (Value.type _) [Value.ref _]) _ _ _); k_dflt (refine' bytes_K ?F ?N ?l ?i ?r ?z ?h ?_; (case F => k_asm); (case N => k_asm); (case l => is_list); (case i => first | l_ints | l_intsW); (case r => walk_at "my hexin"); (case z => first | size_fits | (simp only [sizeLine_eq, List.length_cons, List.length_nil]; decide)); (case h => with_unfolding_all rfl); k_whole); intro h' t' k' F' N' hB'; clear hB'))
set_option maxRecDepth 100000 in
set_option maxHeartbeats 8000000 in
theorem c_letters {w : World} {news : List (Addr × Obj)} (n : Int) (t : Tok) (n0 : 0 ≤ n) (n1 : n ≤ 1065220) :
   Ct w 85 [.int n t] 10 news (fun r news' => (∃ t', r = .bytes (apB n) t') ∧ news' = news) := by
  unfold Ct
  intro prog loose mean mg mb dp un gd cn cs a ccd cl outer A₀ base h₀ L m s Q E B F X N T hk hd hu hret
  have e1 := fd16 _ 1048576 ⟨n0, by omega⟩
  have e2 := fd16 _ 65536 e1
  have e3 := fd16 _ 4096 e2
  have e4 := fd16 _ 256 e3
  have e5 := fd16 _ 16 e4
  have e6 := fd16 _ 1 e5
  have g0 := fm16 n
  have g1 := fm16 (n.fdiv 16)
  have g2 := fm16 ((n.fdiv 16).fdiv 16)
  have g3 := fm16 (((n.fdiv 16).fdiv 16).fdiv 16)
  have g4 := fm16 ((((n.fdiv 16).fdiv 16).fdiv 16).fdiv 16)
  have g5 := fm16 (((((n.fdiv 16).fdiv 16).fdiv 16).fdiv 16).fdiv 16)
  refine wpAny_call ?_
  all_goals k_dflt ktr_enter
  all_goals k_steps
  all_goals (
    refine hret _ news _ _ (by assumption) (drop1 (by assumption)) ⟨apB_eq ?_, rfl⟩
    simp (disch := assumption) only [hexl_pos, hexl_zero, hexl_none, List.nil_append, List.cons_append])
end
section
theorem off_AP : True := by w_top off; exact trivial
local macro_rules | `(tactic| walk_at "WhlIf") => `(tactic| first | (refine whl_no (by first | assumption | omega) ?_) | (refine whl_cases (fun wc => ?_) (fun wc => ?_)))
def apLit : Array UInt8 := #[65, 66, 67, 68, 69, 70, 71, 72, 73, 74, 75, 76, 77, 78, 79, 80]
theorem ap_picked : ∀ i : Fin 16, KBy.picked apLit (some (i.val : Int)) (some ((i.val : Int) + 1)) = #[(65 + (i.val : Int)).toNat.toUInt8] := by decide +kernel
theorem ap_slice {prog : Program} {w : World} {A : Around} {E : Value → Shared → Prop} {s : Shared} {value slice : PySem.Expr} {t ti tj : Tok} {h₀ : Heap} {L : Addr} {m : PySem.Str → Option Value} {news : List (Addr × Obj)} {Q : Value → Shared → Prop} {i : Int}
    (hF : Fr h₀ L s.heap m) (hN : News h₀ L s.heap news) (h0 : 0 ≤ i ∧ i < 16)
    (h : ∀ h' t' k, Fr h₀ L h' m → News h₀ L h' news → Q (.bytes [(65 + i).toNat.toUInt8].toArray t') { s with heap := h', toks := k })
    (hs : subscripted slice false (.bytes apLit t) (.ref s.heap.objs.size) = operate [.ref s.heap.objs.size, .bytes apLit t] (getItem (.bytes apLit t) (.ref s.heap.objs.size)) := by with_unfolding_all rfl)
    (ht : ∀ r, letTemporaryGo value (.bytes apLit t) r = pure () := by intro _; with_unfolding_all rfl) :
    wpAny (model prog w) A (subscriptTail value slice (.bytes apLit t) (.ref s.heap.objs.size)) Q E { s with heap := s.heap.push { cls := .type "slice", data := .fields #[.int i ti, .int (i + 1) tj, .none] } } := by
  refine KBc.slice_K (s := s) hF hN rfl (.int _ _) (.int _ _) (by decide) (fun h' t' k F' N' _ => ?_) hs ht
  have e := ap_picked ⟨i.toNat, by omega⟩
  have e2 : ((i.toNat : Nat) : Int) = i := by omega
  simp only [e2] at e
  rw [e]
  exact h h' t' k F' N'
local macro_rules | `(tactic| walk_at "subscriptTail") => `(tactic| (k_here; (with_reducible show wpAny _ _ (subscriptTail _ (Expr.Slice _ _ none _) (Value.bytes _ _) (Value.ref _)) _ _ _); (with_reducible rename Fr _ _ _ _ => F'); (with_reducible rename News _ _ _ _ => N'); (with_unfolding_all refine' ap_slice (s := ⟨_, _, _, _, _⟩) F' N' ?z ?_ ?a ?b); (case a => with_unfolding_all rfl); (case b => (intro _; with_unfolding_all rfl)); (case z => assumption); intro h' t' k' F' N'))
theorem abs_nn {prog : Program} {w : World} {A : Around} {E : Value → Shared → Prop} {s : Shared} {Q : Value → Shared → Prop} {a : Int} {t : Tok} (h0 : 0 ≤ a) (h : ∀ u tk, Q (.int a u) { s with toks := tk }) :
    wpAny (model prog w) A (call (.builtin "abs") [.int a t]) Q E s := call_abs_int fun u tk => by rw [if_neg (by omega)]; exact h u tk
local macro_rules | `(tactic| walk_at "call builtin:abs") => `(tactic| ((with_reducible refine abs_nn (by omega) ?_); intro _ _))
local macro_rules | `(tactic| walk_at "exec While") => `(tactic| (k_here; k_dflt (refine whl_start 100 ?_)))
set_option maxRecDepth 100000 in
set_option maxHeartbeats 8000000 in
theorem c_ap {w : World} {news : List (Addr × Obj)} (n : Int) (t : Tok) (n0 : 0 ≤ n) (n1 : n ≤ 1065220) :
   Ct w 50 [.int n t] 10 news (fun r news' => (∃ t', r = .bytes (apB n) t') ∧ news' = news) := by
  unfold Ct
  intro prog loose mean mg mb dp un gd cn cs a ccd cl outer A₀ base h₀ L m s Q E B F X N T hk hd hu hret
  have e1 := fd16 _ 1048576 ⟨n0, by omega⟩
  have e2 := fd16 _ 65536 e1
  have e3 := fd16 _ 4096 e2
  have e4 := fd16 _ 256 e3
  have e5 := fd16 _ 16 e4
  have e6 := fd16 _ 1 e5
  have g0 := fm16 n
  have g1 := fm16 (n.fdiv 16)
  have g2 := fm16 ((n.fdiv 16).fdiv 16)
  have g3 := fm16 (((n.fdiv 16).fdiv 16).fdiv 16)
  have g4 := fm16 ((((n.fdiv 16).fdiv 16).fdiv 16).fdiv 16)
  have g5 := fm16 (((((n.fdiv 16).fdiv 16).fdiv 16).fdiv 16).fdiv 16)
  refine wpAny_call ?_
  all_goals k_dflt ktr_enter
  all_goals k_steps
  all_goals (
    (with_reducible rename News _ _ _ _ => N9)
    refine hret _ news _ _ (by assumption) (cb_drop N9 ?_) ⟨apB_eq2 ?_, rfl⟩
    · intro p hp; (repeat (first | exact hp | apply List.Mem.tail))
    · simp (disch := assumption) only [hexl_pos, hexl_zero, hexl_none, List.nil_append, List.cons_append, List.map_cons, List.map_nil])
end
section
theorem off_Par : True := by w_top off; exact trivial
abbrev iterO (l : Addr) (i : Nat) : Obj := { cls := .type "list_iterator", data := .fields #[.ref l, .int i 0] }

section
variable {prog : Program} {w : World} {A : Around} {E : Value → Shared → Prop} {s : Shared} {h₀ : Heap} {L : Addr} {m : PySem.Str → Option Value} {rest : List (Addr × Obj)} {it l : Addr} {i k : Nat} {vs : Array Value} {v : Value}
theorem next_item {Q : Value → Shared → Prop} (F : Fr h₀ L s.heap m) (N : News h₀ L s.heap ((it, iterO l i) :: rest)) (ne : ∀ p ∈ rest, p.1 ≠ it) (hl : (l, listOf vs k) ∈ rest) (hx : vs[i]? = some v)
    (h : ∀ h', Fr h₀ L h' m → News h₀ L h' ((it, iterO l (i + 1)) :: rest) → Q v { s with heap := h' }) :
    wpAny (model prog w) A (call (.builtin "next") [.ref it]) Q E s := by
  have ho : s.heap.get? it = some (iterO l i) := (N _ (.head _)).1
  have hol : s.heap.get? l = some (listOf vs k) := (N _ (.tail _ hl)).1
  have hT : s.TypeIs (.ref it) "list_iterator" := ⟨_, ho, rfl⟩
  refine call_function_entry (by decide +kernel) (by decide +kernel) kdk_entry_next (kdk_args_next _) ?_
  unfold Builtin.«next»
  refine wpAny_bind (m := someArgs "next" 1 2 _) (wpAny_of_eq (a := [Value.ref it]) (by first | rfl | kernel_rfl!) ?_)
  dsimp only
  refine wpAny_bind (wpAny_specialOf (name := Str.ofString "__next__") hT slot_listiter_next.lookup ?_)
  refine wpAny_ite_split (fun hab => absurd hab (by decide)) (fun _ => ?_)
  refine wpAny_bind (wpAny_callSpecial?_slot (name := Str.ofString "__next__") hT slot_listiter_next
    (wpAny_call_entry slot_listiter_next hT entry_listiter_next ?_ (args_listiter_next _)))
  show wpAny _ _ (field (.ref it) 0 >>= _) _ _ s
  refine wpAny_bind (wpAny_field ho rfl (x := .ref l) rfl ?_)
  show wpAny _ _ (if (Value.ref l == Value.none) = true then _ else _) _ _ s
  rw [if_neg (show ¬ ((Value.ref l == Value.none) = true) from Bool.false_ne_true)]
  show wpAny _ _ (field (.ref it) 1 >>= _) _ _ s
  refine wpAny_bind (wpAny_field ho rfl (x := .int i 0) rfl ?_)
  show wpAny _ _ (seqItems? (.ref l) >>= _) _ _ s
  refine wpAny_bind (wpAny_seqItems hol rfl ?_)
  simp only [Int.toNat_natCast, hx]
  refine wpAny_bind (wpAny_setField ho rfl (by simp) (wpAny_pure ⟨v, rfl, wpAny_pure ⟨_, rfl, ?_⟩⟩))
  have sb : Heap.SameBut it s.heap (s.heap.update it (Obj.mapFields (·.setIfInBounds 1 (rawInt ((i : Int) + 1))))) := Heap.SameBut.update ..
  have hu : (s.heap.update it (Obj.mapFields (·.setIfInBounds 1 (rawInt ((i : Int) + 1))))).get? it = some (iterO l (i + 1)) := by
    rw [Heap.get?_update_self _ ho rfl]; rfl
  refine h _ (F.change sb (N _ (.head _)).2.1 (N _ (.head _)).2.2) ?_
  exact News.setIn (own := []) N (fun _ hq => absurd hq List.not_mem_nil) ne sb hu

theorem next_end {Q : Value → Shared → Prop} (hh : A.handled = none) (F : Fr h₀ L s.heap m) (N : News h₀ L s.heap ((it, iterO l i) :: rest)) (ne : ∀ p ∈ rest, p.1 ≠ it) (hl : (l, listOf vs k) ∈ rest) (hx : vs[i]? = none)
    (h : ∀ h₁ h' e, Fr h₀ L h₁ m → News h₀ L h₁ rest → Heap.NewExc h₁ h' e "StopIteration" → E (.ref e) { s with heap := h' }) :
    wpAny (model prog w) A (call (.builtin "next") [.ref it]) Q E s := by
  have ho : s.heap.get? it = some (iterO l i) := (N _ (.head _)).1
  have hol : s.heap.get? l = some (listOf vs k) := (N _ (.tail _ hl)).1
  have hT : s.TypeIs (.ref it) "list_iterator" := ⟨_, ho, rfl⟩
  refine call_function_entry (by decide +kernel) (by decide +kernel) kdk_entry_next (kdk_args_next _) ?_
  unfold Builtin.«next»
  refine wpAny_bind (m := someArgs "next" 1 2 _) (wpAny_of_eq (a := [Value.ref it]) (by first | rfl | kernel_rfl!) ?_)
  dsimp only
  refine wpAny_bind (wpAny_specialOf (name := Str.ofString "__next__") hT slot_listiter_next.lookup ?_)
  refine wpAny_ite_split (fun hab => absurd hab (by decide)) (fun _ => ?_)
  refine wpAny_bind (wpAny_callSpecial?_slot (name := Str.ofString "__next__") hT slot_listiter_next
    (wpAny_call_entry slot_listiter_next hT entry_listiter_next ?_ (args_listiter_next _)))
  show wpAny _ _ (field (.ref it) 0 >>= _) _ _ s
  refine wpAny_bind (wpAny_field ho rfl (x := .ref l) rfl ?_)
  show wpAny _ _ (if (Value.ref l == Value.none) = true then _ else _) _ _ s
  rw [if_neg (show ¬ ((Value.ref l == Value.none) = true) from Bool.false_ne_true)]
  show wpAny _ _ (field (.ref it) 1 >>= _) _ _ s
  refine wpAny_bind (wpAny_field ho rfl (x := .int i 0) rfl ?_)
  show wpAny _ _ (seqItems? (.ref l) >>= _) _ _ s
  refine wpAny_bind (wpAny_seqItems hol rfl ?_)
  simp only [Int.toNat_natCast, hx]
  refine wpAny_bind (wpAny_rule (wpAny_bind (wpAny_setField ho rfl (by simp) ?_)))
  show wpAny _ _ (newExc (.type "StopIteration") [] >>= _) _ _ _
  refine wpAny_bind ?_
  simp only [newExc, newTuple]
  refine wpAny_bind (wpAny_newObj_type ?_ (by size_fits))
  refine wpAny_bind (m := firstArgMember _ _) (wpAny_of_eq (a := Value.none) (by first | rfl | (simp only [firstArgMember]; rfl)) ?_)
  refine wpAny_newObj_type ?_ (by size_fits)
  simp only [raiseNew]
  refine wpAny_bind (wpAny_handled ?_)
  rw [show A.in1.handled = none from hh]
  refine wpAny_bind (wpAny_pure (wpAny_throw ?_))
  have sb : Heap.SameBut it s.heap (s.heap.update it (Obj.mapFields (·.setIfInBounds 0 .none))) := Heap.SameBut.update ..
  have hu : (s.heap.update it (Obj.mapFields (·.setIfInBounds 0 .none))).get? it = some { cls := .type "list_iterator", data := .fields #[.none, .int i 0] } := by
    rw [Heap.get?_update_self _ ho rfl]; rfl
  refine h (s.heap.update it (Obj.mapFields (·.setIfInBounds 0 .none))) _ _ (F.change sb (N _ (.head _)).2.1 (N _ (.head _)).2.2) (drop1 (News.setIn (own := []) N (fun _ hq => absurd hq List.not_mem_nil) ne sb hu)) ?_
  refine ⟨fun b o e => Heap.get?_push_of_some _ (Heap.get?_push_of_some _ e), ?_, ?_⟩
  · exact Heap.get?_none_of_le (by simp [Heap.size_push])
  · exact ⟨_, _, Heap.get?_push_size _ rfl, rfl, rfl⟩
end
end
section
theorem off_Par2 : True := by w_top off; exact trivial
theorem b63F : ∀ x : Fin 128, Builtin.bitAnd (x.val : Int) 63 = (x.val : Int) % 64 := by decide +kernel
theorem b64F : ∀ x : Fin 128, Builtin.bitAnd (x.val : Int) 64 = (x.val : Int) / 64 * 64 := by decide +kernel
theorem borF : ∀ x : Fin 8, ∀ y : Fin 64, Builtin.bitOr ((x.val : Int) * 64) (y.val : Int) = (x.val : Int) * 64 + (y.val : Int) := by decide +kernel
theorem b63 {x : Int} (h : 0 ≤ x ∧ x < 128) : Builtin.bitAnd x 63 = x % 64 := by
  have e := b63F ⟨x.toNat, by omega⟩
  have e2 : ((x.toNat : Nat) : Int) = x := by omega
  simpa only [e2] using e
theorem b64 {x : Int} (h : 0 ≤ x ∧ x < 128) : Builtin.bitAnd x 64 = x / 64 * 64 := by
  have e := b64F ⟨x.toNat, by omega⟩
  have e2 : ((x.toNat : Nat) : Int) = x := by omega
  simpa only [e2] using e
theorem bor {x y : Int} (h : 0 ≤ x ∧ x < 8) (h2 : 0 ≤ y ∧ y < 64) : Builtin.bitOr (x * 64) y = x * 64 + y := by
  have e := borF ⟨x.toNat, by omega⟩ ⟨y.toNat, by omega⟩
  have e2 : ((x.toNat : Nat) : Int) = x := by omega
  have e3 : ((y.toNat : Nat) : Int) = y := by omega
  simpa only [e2, e3] using e
section
variable {prog : Program} {w : World} {A : Around} {E : Value → Shared → Prop} {s : Shared} {Q : Value → Shared → Prop} {x y : Int} {t u : Tok}
theorem and63_K (h : 0 ≤ x ∧ x < 128) (k : Q (.int (x % 64) s.toks) { s with toks := s.toks + 1 }) : wpAny (model prog w) A (binaryOp .BitAnd (.int x t) (.int 63 u)) Q E s := and_int (by rw [b63 h]; exact k)
theorem and64_K (h : 0 ≤ x ∧ x < 128) (k : Q (.int (x / 64 * 64) s.toks) { s with toks := s.toks + 1 }) : wpAny (model prog w) A (binaryOp .BitAnd (.int x t) (.int 64 u)) Q E s := and_int (by rw [b64 h]; exact k)
theorem shl6_K (h : 0 ≤ x ∧ x < 128) (k : Q (.int (x * 64) s.toks) { s with toks := s.toks + 1 }) : wpAny (model prog w) A (inplaceOp .LShift (.int x t) (.int 6 u)) Q E s := ilshift_int_small (by decide) (by decide) (by omega) k
theorem or6_K (h : 0 ≤ x ∧ x < 8) (h2 : 0 ≤ y ∧ y < 64) (k : Q (.int (x * 64 + y) s.toks) { s with toks := s.toks + 1 }) : wpAny (model prog w) A (inplaceOp .BitOr (.int (x * 64) t) (.int y u)) Q E s := ior_int (by rw [bor h h2]; exact k)
end
theorem whl_yes {n : Int} {T F : Prop} (h : n ≠ 0) (h2 : T) : WhlIf (n != 0) T F := .yes (bne_iff_ne.mpr h) h2
section
local macro_rules | `(tactic| walk_at "binaryOp BitAnd int int") => `(tactic| (k_here; with_reducible first | refine and63_K (by omega) ?_ | refine and64_K (by omega) ?_))
local macro_rules | `(tactic| walk_at "inplaceOp LShift int int") => `(tactic| (k_here; with_reducible refine shl6_K (by omega) ?_))
local macro_rules | `(tactic| walk_at "inplaceOp BitOr int int") => `(tactic| (k_here; with_reducible refine or6_K (by omega) (by omega) ?_))
local macro_rules | `(tactic| walk_at "WhlIf") => `(tactic| first | (refine whl_no (by omega) ?_) | (refine whl_yes (by omega) ?_))
local macro_rules | `(tactic| walk_at "exec While") => `(tactic| (k_here; k_dflt (refine whl_start 100 ?_)))
local macro_rules | `(tactic| walk_at "call builtin:next") => `(tactic| (k_here; k_dflt (refine' next_item ?F ?N ?ne ?hl ?hx ?_; (case F => k_asm); (case N => k_asm); (case ne => assumption); (case hl => assumption); (case hx => assumption); k_whole); intro h' F' N'))
set_option maxRecDepth 100000 in
set_option maxHeartbeats 8000000 in
theorem c_parse {w : World} {rest : List (Addr × Obj)} {it l : Addr} {i k : Nat} {vs : Array Value} (ne : ∀ p ∈ rest, p.1 ≠ it) (hl : (l, listOf vs k) ∈ rest) (n : Int) (n0 : 0 ≤ n) (n1 : n ≤ 260)
   (hx : ∀ j v, (octs n)[j]? = some v → ∃ t, vs[i + j]? = some (.int v t)) :
   Ct w 43 [.ref it] 10 ((it, iterO l i) :: rest) (fun r news' => (∃ t', r = .int n t') ∧ news' = (it, iterO l (i + (octs n).length)) :: rest) := by
  unfold Ct
  intro prog loose mean mg mb dp un gd cn cs a ccd cl outer A₀ base h₀ L m s Q E B F X N T hk hd hu hret
  rcases Int.lt_or_le 63 n with n2 | n2
  · have e : octs n = [n / 64 % 64 + 64, n % 64] := by rw [octs, if_neg (by omega)]
    rw [e] at hx hret
    obtain ⟨t1, x1⟩ := hx 0 _ rfl
    obtain ⟨t2, x2⟩ := hx 1 _ rfl
    rw [Nat.add_zero] at x1
    have e2 : (n / 64 % 64 + 64) % 64 * 64 + n % 64 % 64 = n := by omega
    refine wpAny_call ?_
    k_dflt ktr_enter
    k_steps
    refine hret _ _ _ _ (by assumption) (by assumption) ⟨⟨_, congrArg (fun x => Value.int x _) e2⟩, rfl⟩
  · have e : octs n = [n] := by rw [octs, if_pos n2]
    rw [e] at hx hret
    obtain ⟨t1, x1⟩ := hx 0 _ rfl
    rw [Nat.add_zero] at x1
    have e2 : n % 64 = n := by omega
    refine wpAny_call ?_
    k_dflt ktr_enter
    k_steps
    refine hret _ _ _ _ (by assumption) (by assumption) ⟨⟨_, congrArg (fun x => Value.int x _) e2⟩, rfl⟩
end
end
section
theorem off_Num : True := by w_top off; exact trivial
structure Stop (P : Prop) : Prop where
  out : P
theorem Stop.go {P : Prop} (h : Stop P) : P := h.out

section
variable {prog : Program} {w : World} {A₀ A : Around} {s : Shared} {h₀ : Heap} {L a : Addr} {m : PySem.Str → Option Value} {env : Env} {news : List (Addr × Obj)} {K : Frag} {p : Program} {loose : List PySem.Str} {mean : ExcName → Option Value} {mg mb : PySem.Str → Option Value}
    {R : Result → Shared → Prop} {name qual : PySem.Str} {params : Arguments} {body : List Stmt} {scope : Scope} {dV kV doc pm cdv ct oc : Value} {an od : Option Addr} {osl : Array (Option Value)} {f : Addr} {args : Args} {binds : List (PySem.Str × Value)}
/-- entering a def that catches, from a frame (with cells too) that stands alone above the ground -/
theorem enterS (B : Below A₀ h₀ [] h₀) (F : Fr h₀ L s.heap m) (X₀ : K.In h₀) (N : News h₀ L s.heap news) (T : Top p loose mean mg mb h₀) (hA : A.frames = some [env]) (hf : env.frame = some L) (hke : env.scope.kind = .function)
    (ho : K.lookup f = some ⟨oc, od, .func (fnOf name qual params body scope dV kV doc pm an cdv ct), osl⟩) (hcd : codeIn K cdv qual = true) (hroom : A.depth < recursionLimit)
    (hbind : BindsTo s (fnOf name qual params body scope dV kV doc pm an cdv ct) args binds) (hloc : ∀ y ∈ binds, scope.names.lookup y.1 = some .local)
    (h : ∀ g L' h₁, Fr h₀ L g m → Fr g L' h₁ (fun y => binds.reverse.lookup y) → News g L' h₁ news → Below A h₀ [env] g → K.In g → Top p loose mean mg mb g → KtsDicts ([env].filterMap (·.frame)) g →
      wpAny (model prog w) (A.deeper (envOf qual scope L' f cdv)) (execs body (envOf qual scope L' f cdv))
        (fun fl s' => LeaveS0 ([env].filterMap (·.frame)) h₀ L m g R (match fl with | .ret v => v | _ => .none) s')
        (fun e s' => wpAny (model prog w) (A.deeper (envOf qual scope L' f cdv)) (leaving (envOf qual scope L' f cdv) e) (fun _ s'' => R (.error e) s'') (fun e' s'' => R (.error e') s'') s')
        { s with heap := h₁, toks := s.toks + binds.length })
    (hco : scope.isCoroutine = false) (hgen : scope.isGenerator = false) (hk : scope.kind = .function)
    (hcell : ∀ x ∈ scope.names, x.2 ≠ .cell) : codeAny (model prog w) A (.call (.ref f) args) R s := by
  have X := X₀.keeps F.keep
  obtain ⟨FG, BG, st, -⟩ := groundX (R := R) B F N hA hf hke
  have fm : [env].filterMap (·.frame) = [L] := by simp [hf]
  rw [fm] at h
  refine codeAny_call_def (fd := fnOf name qual params body scope dV kV doc pm an cdv ct) (body := body) (binds := binds) hroom (X _ _ ho) rfl (T.nolimit.keeps F.keep) (codeRec_of X hcd) rfl hbind hcell hloc (fun h₁ hns hk₁ => ?_) hco hgen hk
  obtain ⟨oL, es, ep, hLg, hLd, hLk, hLf⟩ := FG.ns
  refine wpAny_mono (h _ s.heap.objs.size h₁ FG ⟨hns, fun b o e => hk₁ b o (of_hideAll _ e), Nat.le_of_eq (hideAll_size _ _)⟩
    (fun p hp => ⟨hk₁ _ _ (N p hp).1, Nat.ne_of_lt (Heap.lt_size (N p hp).1), hideAll_none _ (List.mem_map_of_mem hp)⟩) BG (X₀.keeps st) (T.keeps st) (fun b hb => by
      rw [List.mem_singleton.mp hb]; exact ⟨oL, es, ep, hLg, hLd⟩)) (fun fl s' hl => ?_) fun _ _ y => y
  obtain ⟨g', L', m', news', T', F', N', k⟩ := hl
  have nL₀ : h₀.get? L = none := kts_self F
  obtain ⟨sl, hs⟩ := T'.up hLg
  refine k ⟨⟨_, es, ep, F'.keep _ _ hs, hLd, hLk, hLf⟩, fun b o e => F'.keep b o (T'.other b o (st b o e) (fun q => by
    rw [List.mem_singleton.mp q, nL₀] at e; cases e)), F.above⟩ fun p hp => ⟨(N' p hp).1, fun q => ?_, ?_⟩
  · have := (N' p hp).2.2; rw [q, hs] at this; cases this
  · cases q : h₀.get? p.1 with
    | none => rfl
    | some o =>
      obtain ⟨sl', hs'⟩ := T'.up (st _ _ q)
      have := (N' p hp).2.2
      rw [hs'] at this
      cases this
end

/-- iter(l) of a list in the ledger -/
theorem iter_list_K {prog : Program} {w : World} {A : Around} {E : Value → Shared → Prop} {s : Shared} {h₀ : Heap} {L l : Addr} {m : PySem.Str → Option Value} {news : List (Addr × Obj)} {vs : Array Value} {k : Nat} {Q : Value → Shared → Prop}
    (F : Fr h₀ L s.heap m) (N : News h₀ L s.heap news) (hl : (l, listOf vs k) ∈ news)
    (h : ∀ I h', Fr h₀ L h' m → News h₀ L h' ((I, iterO l 0) :: news) → (∀ q ∈ news, q.1 < I) → Q (.ref I) { s with heap := h' }) :
    wpAny (model prog w) A (call (.builtin "iter") [.ref l]) Q E s := by
  refine call_function_entry (by decide +kernel) (by decide +kernel) kdk_entry_iter (kdk_args_iter _) ?_
  unfold Builtin.«iter»
  refine wpAny_bind (m := someArgs "iter" 1 2 _) (wpAny_of_eq (a := [Value.ref l]) (by first | rfl | kernel_rfl!) ?_)
  show wpAny _ _ (pyIter (.ref l) >>= _) _ _ _
  refine wpAny_bind (wpAny_pyIter_list ⟨_, (N _ hl).1, rfl, k, rfl⟩ ?_)
  exact wpAny_pure ⟨_, rfl, h _ _ (F.push _) (News.push F N _ rfl) (fun q hq => Heap.lt_size (N q hq).1)⟩

theorem len_K {prog : Program} {w : World} {A : Around} {E : Value → Shared → Prop} {s : Shared} {h₀ : Heap} {L l : Addr} {news : List (Addr × Obj)} {vs : Array Value} {k : Nat} {Q : Value → Shared → Prop}
    (N : News h₀ L s.heap news) (hl : (l, listOf vs k) ∈ news) (hb : vs.size ≤ 1000) (h : Q (.int vs.size (s.toks + 1)) { s with toks := s.toks + 1 + 1 }) :
    wpAny (model prog w) A (call (.builtin "len") [.ref l]) Q E s := PyProof.Rows.len_list ⟨_, (N _ hl).1, rfl, k, rfl⟩ (by omega) h
theorem perm2 {h₀ h : Heap} {L : Addr} {p q : Addr × Obj} {r : List (Addr × Obj)} (N : News h₀ L h (p :: q :: r)) : News h₀ L h (q :: p :: r) := fun x hx => N x (by
  rcases List.mem_cons.mp hx with rfl | hx
  · exact .tail _ (.head _)
  rcases List.mem_cons.mp hx with rfl | hx
  · exact .head _
  · exact .tail _ (.tail _ hx))
theorem ints_snoc {vs : List Value} {ns : List Int} (h : IntsAre vs ns) (n : Int) (t : Tok) : IntsAre (vs ++ [.int n t]) (ns ++ [n]) := by
  induction h with
  | nil => exact .cons _ _ .nil
  | cons m u _ ih => exact .cons m u ih
theorem inv_end {h₀ h' : Heap} {L : Addr} {J : (PySem.Str → Option Value) → List (Addr × Obj) → Prop} {own : List (Addr × Obj)} {adr : List Addr} {s : Shared} {tk : Nat} {m' : PySem.Str → Option Value} {news' : List (Addr × Obj)}
    (F : Fr h₀ L h' m') (N : News h₀ L h' news') (nx : List (Addr × Obj)) (h1 : ∀ p ∈ nx, p ∈ news') (h2 : ∀ p ∈ own, p ∈ news') (h3 : nx.map (·.1) = adr) (h4 : J m' nx) : InvEndN h₀ L J own adr s { s with heap := h', toks := tk } :=
  ⟨h', tk, m', news', nx, rfl, F, N, h1, h2, h3, h4⟩
theorem flat_split {nums : List Int} {c : Nat} {n : Int} (h : nums[c]? = some n) : nums.flatMap octs = (nums.take c).flatMap octs ++ (octs n ++ (nums.drop (c + 1)).flatMap octs) := by
  obtain ⟨hc, rfl⟩ := List.getElem?_eq_some_iff.mp h
  conv => lhs; rw [← List.take_append_drop c nums, List.flatMap_append, List.drop_eq_getElem_cons hc, List.flatMap_cons]
theorem flat_at {nums : List Int} {c j : Nat} {n v : Int} (h : nums[c]? = some n) (hj : (octs n)[j]? = some v) : (nums.flatMap octs)[((nums.take c).flatMap octs).length + j]? = some v := by
  rw [flat_split h, List.getElem?_append_right (by omega), Nat.add_sub_cancel_left]
  rw [List.getElem?_append_left (List.getElem?_eq_some_iff.mp hj).1]
  exact hj
theorem flat_next {nums : List Int} {c : Nat} {n : Int} (h : nums[c]? = some n) : ((nums.take c).flatMap octs).length + (octs n).length = ((nums.take (c + 1)).flatMap octs).length := by
  rw [List.take_add_one, h]; simp
section
variable {prog : Program} {w : World} {A : Around} {E : Value → Shared → Prop} {s : Shared} {env : Env} {h₀ : Heap} {x : PySem.Str} {body : List Stmt} {Q : Flow → Shared → Prop}
theorem iter_rangeJ {r : Addr} {a₀ b₀ : Int} {t₀ u₀ v₀ : Tok} {n : Nat} {m₀ : PySem.Str → Option Value} {news : List (Addr × Obj)} (J : Nat → List (Addr × Obj) → Prop)
    (hh : A.handled = none) (hr : IsRange s.heap r a₀ b₀ 1 t₀ u₀ v₀) (hsmall : Builtin.Range.small a₀ b₀ 1 = true) (hn : Builtin.Range.rangeSize a₀ b₀ 1 = (n : Int)) (F : Fr h₀ env.locals s.heap m₀) (N : News h₀ env.locals s.heap news) (hR : J 0 news)
    (turn : ∀ k t c nx h tk own, OwnOff own (news.map (·.1)) → J c nx → Fr h₀ env.locals h (fun y => if y = x then some (.int k t) else m₀ y) → News h₀ env.locals h (nx ++ own) →
      wpAny (model prog w) A (execs body env) (InvPostN h₀ env.locals (fun m nx => (∀ y, y ≠ x → m y = m₀ y) ∧ J (c + 1) nx) own (news.map (·.1)) { s with heap := h, toks := tk } Q) E { s with heap := h, toks := tk })
    (done : ∀ m₁ nx h tk, J n nx → Fr h₀ env.locals h m₁ → News h₀ env.locals h nx → Q .next { s with heap := h, toks := tk }) :
    wpAny (model prog w) A (pyIter (.ref r)) (fun it s₂ => LoopAtV prog w A h₀ env x body Q E it s₂) E s := by
  have hf : ∀ (l : List Int) (c : Nat), l.foldl (fun c _ => c + 1) c = c + l.length := by
    intro l
    induction l with
    | nil => intro c; rfl
    | cons a r ih => intro c; rw [List.foldl_cons, ih, List.length_cons]; omega
  refine iter_rangeS (σ := Nat) (fun c m nx => (∀ y, y ≠ x → m y = m₀ y) ∧ J c nx) (fun c _ => c + 1) 0 hh hr hsmall hn F N ⟨fun _ _ => rfl, hR⟩ ?_ ?_
  · rintro k t c m₁ nx h tk own - hoff ⟨hm, hj⟩ F' N'
    rw [map_none hm] at F'
    exact turn k t c nx h tk own hoff hj F' N'
  · rintro m₁ nx h tk ⟨-, hj⟩ F' N'
    rw [hf, rangeKs_length, Nat.zero_add] at hj
    exact done m₁ nx h tk hj F' N'
end
theorem stop_isExc : isSubtype (.type "StopIteration") (.type "BaseException") = pure true := by rw [isSubtype_type]; kernel_rfl
theorem stop_notTuple : isSubtype (.type ((Manifest.find? "StopIteration").elim "type" fun x => x.metatype)) (.type "tuple") = pure false := by
  rw [isSubtype_type]; kernel_rfl
theorem octs_pos (n : Int) : 1 ≤ (octs n).length := by unfold octs; split <;> simp
theorem octs_ge : ∀ nums : List Int, nums.length ≤ (nums.flatMap octs).length
  | [] => Nat.zero_le _
  | n :: r => by
    have := octs_ge r
    have := octs_pos n
    simp only [List.length_cons, List.flatMap_cons, List.length_append]; omega
section
local macro_rules | `(tactic| walk_at "call builtin:len") => `(tactic| (k_here; k_dflt (refine' len_K ?N ?hl ?hb ?_; (case N => k_asm); (case hl => (repeat (first | assumption | apply List.Mem.tail))); (case hb => assumption); k_whole)))
local macro_rules | `(tactic| walk_at "call builtin:iter") => `(tactic| (k_here; k_dflt (refine' iter_list_K ?F ?N ?hl ?_; (case F => k_asm); (case N => k_asm); (case hl => k_asm); k_whole); intro I' h' F' N' l1))
local macro_rules | `(tactic| walk_at "call builtin:next") => `(tactic| (k_here; k_dflt (refine' next_end ?hh ?F ?N ?ne ?hl ?hx ?_; (case hh => exact rfl); (case F => k_asm); (case N => k_asm); (case ne => assumption); (case hl => assumption); (case hx => assumption); k_whole); intro h1' h' e' F' N' X'))
local macro_rules | `(tactic| kts_caughtN) => `(tactic| ((with_reducible show wpAny _ _ (noteFrame _ _) (fun _ s₂ => wpAny _ _ (setFlight _ none) (fun _ s₃ => wpAny _ _ (handleBy _ _ (ExceptHandler.ExceptHandler (some (Expr.Name ("StopIteration" : PySem.Str) _)) none _ _ :: _)) _ _ s₃) _ s₂) _ _); k_dflt (refine' caught_SN0 (T' := "StopIteration") ?R ?F ?K ?U ?XB ?TB ?D ?T0 ?ex PyProof.Rows.Boot.«StopIteration» ?hn stop_isExc stop_notTuple ?hs ?_; (case R => assumption); (case F => assumption); (case K => assumption); (case U => assumption); (case XB => assumption); (case TB => assumption); (case D => assumption); (case T0 => first | assumption | exact KtsTurn.refl); (case hs => kts_sub); (case ex => k_is); (case hn => decide); k_whole); intro h' g' T' F' N' K' X' P' D'))
local macro_rules | `(tactic| walk_at "my enter") => `(tactic| k_dflt (refine' code_def ?k1 ?k2 ?k3 ?k4 ?k5 ?kA ?kF ?kK ?k6 ?k7 ?k8 ?k9 ?kB ?_ ?c2 ?c3 ?c4 ?c5; (case kA => exact rfl); (case kF => exact rfl); (case kK => first | exact rfl | assumption); (case k1 => k_asm); (case k2 => k_asm); (case k3 => k_asm); (case k4 => k_asm); (case k5 => k_asm); (case k6 => k_is); (case k7 => k_is); (case k8 => ktr_room); (case k9 => exact BindsTo.of_eq rfl); (case kB => exact locs rfl); (case c2 => exact rfl); (case c3 => exact rfl); (case c4 => exact rfl); (case c5 => decide); k_whole; intro g' L' h' FG' F' N' B' X' T'; (try dsimp only); (try k_fold)))
local macro_rules | `(tactic| walk_at "InvEndN") => `(tactic| (refine Stop.go ?_))
local macro_rules | `(tactic| walk_at "call builtin:list.append") => `(tactic| (k_here; k_dflt (refine' append_K ?k1 ?k2 ?k3 ?_ ?z; (case k1 => k_asm); (case k2 => k_asm); (case k3 => exact Upd.head (by assumption)); (case z => size_fits); k_whole); intro h' F' N'))
local macro_rules | `(tactic| walk_at "pyIter ref") => `(tactic| (refine Stop.go ?_))
local macro_rules | `(tactic| walk_at "call ref") => `(tactic| (refine Stop.go ?_))
set_option maxRecDepth 100000 in
set_option maxHeartbeats 8000000 in
theorem c_numbers {prog : Program} {w : World} {loose : List PySem.Str} {mean : ExcName → Option Value} {mg mb : PySem.Str → Option Value}
    {dp un : Nat} {gd : Option (List Code)} {cn : PySem.Str} {cs : Scope} {a : Addr} {ccd : Value} {cl : List (PySem.Str × Addr)} {A₀ : Around} {h₀ : Heap} {L : Addr} {m : PySem.Str → Option Value} {s : Shared}
    {Q E : Value → Shared → Prop} {news : List (Addr × Obj)} {l : Addr} {vs : Array Value} {k : Nat} {nums : List Int}
    (B : Below A₀ h₀ [] h₀) (F : Fr h₀ L s.heap m) (X : (hd.heap_39 w.params).In h₀) (N : News h₀ L s.heap news) (T : Top hd.view_39 loose mean mg mb h₀) (hk : cs.kind = .function) (hd : dp + 20 < recursionLimit) (hu : un + 8 * 20 < cLine)
    (hl : (l, listOf vs k) ∈ news) (hi : IntsAre vs.toList (nums.flatMap octs)) (hn : ∀ n ∈ nums, 0 ≤ n ∧ n ≤ 260) (hlen : vs.size ≤ 1000)
    (hret : ∀ r news' h' tk', Fr h₀ L h' m → News h₀ L h' news' → NewInts news nums r news' → Q r { s with heap := h', toks := tk' }) :
    wpAny (model prog w) (ktrTop dp un gd cn cs L a ccd cl []) (call (.ref 64) [.ref l]) Q E s := by
  refine wpAny_call ?_
  refine' enterS ?k1 ?k2 ?k3 ?k4 ?k5 ?kA ?kF ?kK ?k6 ?k7 ?k8 ?k9 ?kB ?_ ?c2 ?c3 ?c4 ?c5
  (case kA => exact rfl)
  (case kF => exact rfl)
  (case kK => assumption)
  (case k1 => assumption)
  (case k2 => assumption)
  (case k3 => assumption)
  (case k4 => assumption)
  (case k5 => assumption)
  (case k6 => k_is)
  (case k7 => k_is)
  (case k8 => ktr_room)
  (case k9 => exact BindsTo.of_eq rfl)
  (case kB => exact locs rfl)
  (case c2 => exact rfl)
  (case c3 => exact rfl)
  (case c4 => exact rfl)
  (case c5 => decide)
  k_whole
  intro g' L' h' FG' F' N' B' X' T' D'
  try dsimp only
  try k_fold
  k_steps
  rename_i I9 _ l1a _ _ l9 _ l1b _ _ _ h9 tk9 _ _ _ hR F9 N9 _
  refine Stop.mk ?_
  have hsz : vs.size = (nums.flatMap octs).length := by rw [← hi.length, Array.length_toList]
  have hge : nums.length ≤ vs.size := by rw [hsz]; exact octs_ge nums
  refine iter_rangeJ (n := vs.size + 1) (fun c nx => c ≤ nums.length ∧ ∃ ws j, IntsAre ws.toList (nums.take c) ∧ nx = (l9, listOf ws j) :: (I9, iterO l ((nums.take c).flatMap octs).length) :: news) rfl hR ?_ ?_ F9 N9 ⟨Nat.zero_le _, #[], _, .nil, rfl⟩ ?_ ?_
  · exact small_one (by decide) (by decide) (by omega) (by omega)
  · simp only [Builtin.Range.rangeSize]
    rw [if_pos (by decide), if_pos (by omega)]
    omega
  · rintro k9 t9 c nx h8 tk8 own hoff ⟨hc, ws, j, hws, rfl⟩ F8 N8
    change Fr g' L' h8 _ at F8
    change News g' L' h8 ((l9, listOf ws j) :: (I9, iterO l ((nums.take c).flatMap octs).length) :: (news ++ own)) at N8
    have ne : ∀ p ∈ ((l9, listOf ws j) :: (news ++ own)), p.1 ≠ I9 := by
      intro p hp
      rcases List.mem_cons.mp hp with rfl | hp
      · exact Nat.ne_of_gt l1b.1
      rcases List.mem_append.mp hp with hp | hp
      · exact Nat.ne_of_lt (l1a p hp)
      · exact hoff p hp _ (.tail _ (.head _))
    rcases Nat.lt_or_ge c nums.length with hc2 | hc2
    · have hget : nums[c]? = some nums[c] := by simp [hc2]
      have hnc := hn nums[c] (List.getElem_mem hc2)
      k_steps
      refine Stop.mk ?_
      refine (c_parse ne (.tail _ (List.mem_append.mpr (.inl hl))) nums[c] hnc.1 hnc.2 (fun j v hj => by
        obtain ⟨t, ht⟩ := hi.get _ v (flat_at hget hj)
        exact ⟨t, by simpa using ht⟩)).use B' F8 X' (perm2 N8) T' rfl (by ktr_room) (by ktr_units) ?_
      rintro r2 news2 h2 tk2 F2 N2 ⟨⟨t2, rfl⟩, rfl⟩
      replace N2 := perm2 N2
      rw [flat_next hget] at N2
      have neL : ∀ p ∈ ((I9, iterO l ((nums.take (c + 1)).flatMap octs).length) :: (news ++ own)), p.1 ≠ l9 := by
        intro p hp
        rcases List.mem_cons.mp hp with rfl | hp
        · exact Nat.ne_of_lt l1b.1
        rcases List.mem_append.mp hp with hp | hp
        · exact Nat.ne_of_lt (ktn_ltOf l1b.2 p hp)
        · exact hoff p hp _ (.head _)
      k_steps
      (with_reducible rename Fr _ _ _ _ => F4)
      (with_reducible rename News _ _ _ _ => N4)
      refine Stop.mk (inv_end F4 N4 ((l9, listOf (ws.push (.int nums[c] t2)) (j + 1)) :: (I9, iterO l ((nums.take (c + 1)).flatMap octs).length) :: news) ?_ ?_ ?_ ⟨fun _ hy => if_neg hy, Nat.succ_le_of_lt hc2, _, _, ?_, rfl⟩)
      · intro p hp
        rcases List.mem_cons.mp hp with rfl | hp
        · exact .head _
        rcases List.mem_cons.mp hp with rfl | hp
        · exact .tail _ (.head _)
        · exact .tail _ (.tail _ (List.mem_append.mpr (.inl hp)))
      · exact fun p hp => .tail _ (.tail _ (List.mem_append.mpr (.inr hp)))
      · rfl
      · rw [Array.toList_push, List.take_add_one, hget]
        exact ints_snoc hws _ _
    · have hx : vs[((nums.take c).flatMap octs).length]? = none := by
        rw [List.take_of_length_le hc2, ← hsz]; simp
      have hl2 : (l, listOf vs k) ∈ ((l9, listOf ws j) :: (news ++ own)) := .tail _ (List.mem_append.mpr (.inl hl))
      replace N8 := perm2 N8
      k_steps
      refine Stop.mk ?_
      refine wpAny_call ?_
      walk_at "my enter"
      k_steps
      (with_reducible rename News _ _ _ _ => N4)
      rw [List.take_of_length_le hc2] at hws
      refine hret _ ((l9, listOf ws j) :: news) _ _ (by assumption) (cb_drop N4 ?_) ⟨l9, ws, j, rfl, rfl, hws, fun q hq => ktn_ltOf l1b.2 q hq⟩
      intro p hp
      rcases List.mem_cons.mp hp with rfl | hp
      · exact .head _
      · exact .tail _ (List.mem_append.mpr (.inl hp))
  · rintro m₁ nx h8 tk8 ⟨hc, ws, j, hws, rfl⟩ F8 N8
    exfalso
    omega
end
end
section
/-- the marking's state -/
structure St where
  left : List Int
  right : List Int
  ahead : Int
  back : Int
  marks : Nat → Bool
  turned : Nat → Bool
  told : List Int
def upd (f : Nat → Bool) (c : Nat) : Nat → Bool := fun k => k == c || f k
def St.next (s : St) : List Int := s.told ++ [4096 * s.ahead + s.back]
def St.visit (s : St) : St := ⟨s.left.set (s.ahead - 256).toNat s.back, s.right, s.left.getD (s.ahead - 256).toNat 0, s.ahead, upd s.marks (s.ahead - 256).toNat, s.turned, s.next⟩
def St.turn (s : St) : St := ⟨s.left.set (s.back - 256).toNat s.ahead, s.right.set (s.back - 256).toNat (s.left.getD (s.back - 256).toNat 0), s.right.getD (s.back - 256).toNat 0, s.back, s.marks, upd s.turned (s.back - 256).toNat, s.next⟩
def St.ret (s : St) : St := ⟨s.left, s.right.set (s.back - 256).toNat s.ahead, s.back, s.right.getD (s.back - 256).toNat 0, s.marks, s.turned, s.next⟩
def St.done (s : St) : St := { s with told := s.next }
inductive Step : St → St → Prop where
  | visit (s : St) (h : 256 ≤ s.ahead) (h2 : s.marks (s.ahead - 256).toNat = false) : Step s s.visit
  | turn (s : St) (h : ¬ (256 ≤ s.ahead ∧ s.marks (s.ahead - 256).toNat = false)) (h2 : s.back ≠ 0) (h3 : s.turned (s.back - 256).toNat = false) : Step s s.turn
  | ret (s : St) (h : ¬ (256 ≤ s.ahead ∧ s.marks (s.ahead - 256).toNat = false)) (h2 : s.back ≠ 0) (h3 : s.turned (s.back - 256).toNat = true) : Step s s.ret
def Ended (s : St) : Prop := ¬ (256 ≤ s.ahead ∧ s.marks (s.ahead - 256).toNat = false) ∧ s.back = 0
inductive Reach : Nat → St → St → Prop where
  | zero (s : St) : Reach 0 s s
  | succ {c : Nat} {s t u : St} : Reach c s t → Step t u → Reach (c + 1) s u
structure Good (s : St) : Prop where
  ll : s.left.length = 5
  rl : s.right.length = 5
  lb : ∀ v ∈ s.left, 0 ≤ v ∧ v ≤ 260
  rb : ∀ v ∈ s.right, 0 ≤ v ∧ v ≤ 260
  ab : 0 ≤ s.ahead ∧ s.ahead ≤ 260
  bb : s.back = 0 ∨ (256 ≤ s.back ∧ s.back ≤ 260)
def maskOf (f : Nat → Bool) : Int := (if f 0 then 1 else 0) + (if f 1 then 2 else 0) + (if f 2 then 4 else 0) + (if f 3 then 8 else 0) + (if f 4 then 16 else 0)
def sel (b0 b1 b2 b3 b4 : Bool) : Nat → Bool
  | 0 => b0
  | 1 => b1
  | 2 => b2
  | 3 => b3
  | 4 => b4
  | _ => false
theorem selF : ∀ b0 b1 b2 b3 b4 : Bool, ∀ c : Fin 5, Builtin.bitAnd ((maskOf (sel b0 b1 b2 b3 b4)).fdiv (2 ^ c.val)) 1 = if sel b0 b1 b2 b3 b4 c.val then 1 else 0 := by decide +kernel
theorem selO : ∀ b0 b1 b2 b3 b4 : Bool, ∀ c : Fin 5, Builtin.bitOr (maskOf (sel b0 b1 b2 b3 b4)) (1 * 2 ^ c.val) = maskOf (upd (sel b0 b1 b2 b3 b4) c.val) := by decide +kernel
theorem sel_at (f : Nat → Bool) : ∀ c, c < 5 → sel (f 0) (f 1) (f 2) (f 3) (f 4) c = f c
  | 0, _ => rfl
  | 1, _ => rfl
  | 2, _ => rfl
  | 3, _ => rfl
  | 4, _ => rfl
  | n + 5, h => absurd h (by omega)
theorem sel_mask (f : Nat → Bool) : maskOf (sel (f 0) (f 1) (f 2) (f 3) (f 4)) = maskOf f := rfl
theorem bit_at (f : Nat → Bool) {c : Nat} (h : c < 5) : Builtin.bitAnd ((maskOf f).fdiv (2 ^ c)) 1 = if f c then 1 else 0 := by
  have := selF (f 0) (f 1) (f 2) (f 3) (f 4) ⟨c, h⟩
  rw [sel_mask] at this
  simpa only [sel_at f c h] using this
theorem mask_upd_congr {f g : Nat → Bool} (h : ∀ c, c < 5 → f c = g c) : maskOf f = maskOf g := by
  unfold maskOf
  rw [h 0 (by decide), h 1 (by decide), h 2 (by decide), h 3 (by decide), h 4 (by decide)]
theorem bit_or (f : Nat → Bool) {c : Nat} (h : c < 5) : Builtin.bitOr (maskOf f) (1 * 2 ^ c) = maskOf (upd f c) := by
  have := selO (f 0) (f 1) (f 2) (f 3) (f 4) ⟨c, h⟩
  rw [sel_mask] at this
  refine this.trans (mask_upd_congr fun k hk => ?_)
  simp only [upd, sel_at f k hk]
theorem getD_in {l : List Int} (h : ∀ v ∈ l, 0 ≤ v ∧ v ≤ 260) (i : Nat) : 0 ≤ l.getD i 0 ∧ l.getD i 0 ≤ 260 := by
  rw [List.getD_eq_getElem?_getD]
  cases e : l[i]? with
  | none => exact ⟨by decide, by decide⟩
  | some v => exact h v (List.mem_of_getElem? e)
theorem set_in {l : List Int} (h : ∀ v ∈ l, 0 ≤ v ∧ v ≤ 260) {x : Int} (hx : 0 ≤ x ∧ x ≤ 260) (i : Nat) : ∀ v ∈ l.set i x, 0 ≤ v ∧ v ≤ 260 := fun v hv => by
  rcases List.mem_or_eq_of_mem_set hv with h1 | rfl
  · exact h v h1
  · exact hx
end
section
theorem off_Nt : True := by w_top off; exact trivial
set_option maxRecDepth 100000 in
set_option maxHeartbeats 8000000 in
theorem c_isnt {w : World} {news : List (Addr × Obj)} (x : Int) (t : Tok) : Ct w 21 [.int x t] 5 news (fun r news' => r = .bool (decide (256 ≤ x)) ∧ news' = news) := by
  unfold Ct
  intro prog loose mean mg mb dp un gd cn cs a ccd cl outer A₀ base h₀ L m s Q E B F X N T hk hd hu hret
  refine wpAny_call ?_
  k_dflt ktr_enter
  k_steps
  exact hret _ _ _ _ (by assumption) (by assumption) ⟨rfl, rfl⟩
set_option maxRecDepth 100000 in
set_option maxHeartbeats 8000000 in
theorem c_iseof {w : World} {news : List (Addr × Obj)} (x : Int) (t : Tok) : Ct w 28 [.int x t] 5 news (fun r news' => r = .bool (decide (x = 0)) ∧ news' = news) := by
  unfold Ct
  intro prog loose mean mg mb dp un gd cn cs a ccd cl outer A₀ base h₀ L m s Q E B F X N T hk hd hu hret
  refine wpAny_call ?_
  k_dflt ktr_enter
  k_steps
  exact hret _ _ _ _ (by assumption) (by assumption) ⟨rfl, rfl⟩
theorem Ct.mono {w : World} {f : Addr} {vs : List Value} {dep : Nat} {news : List (Addr × Obj)} {P P' : Value → List (Addr × Obj) → Prop} (C : Ct w f vs dep news P) (h : ∀ r n, P r n → P' r n) : Ct w f vs dep news P' :=
  fun prog loose mean mg mb dp un gd cn cs a ccd cl outer A₀ base h₀ L m s Q E B F X N T hk hd hu hret =>
    C prog loose mean mg mb dp un gd cn cs a ccd cl outer A₀ base h₀ L m s Q E B F X N T hk hd hu fun r n h' tk' F' N' p => hret r n h' tk' F' N' (h r n p)
section
variable {w : World} {news : List (Addr × Obj)} {x : Int} {t : Tok}
theorem c_isnt_T (h : 256 ≤ x) : Ct w 21 [.int x t] 5 news (fun r news' => r = .bool true ∧ news' = news) := (c_isnt x t).mono fun r n ⟨e, e2⟩ => ⟨by rw [e, decide_eq_true h], e2⟩
theorem c_isnt_F (h : ¬ 256 ≤ x) : Ct w 21 [.int x t] 5 news (fun r news' => r = .bool false ∧ news' = news) := (c_isnt x t).mono fun r n ⟨e, e2⟩ => ⟨by rw [e, decide_eq_false h], e2⟩
theorem c_iseof_T (h : x = 0) : Ct w 28 [.int x t] 5 news (fun r news' => r = .bool true ∧ news' = news) := (c_iseof x t).mono fun r n ⟨e, e2⟩ => ⟨by rw [e, decide_eq_true h], e2⟩
theorem c_iseof_F (h : ¬ x = 0) : Ct w 28 [.int x t] 5 news (fun r news' => r = .bool false ∧ news' = news) := (c_iseof x t).mono fun r n ⟨e, e2⟩ => ⟨by rw [e, decide_eq_false h], e2⟩
end
end
section
theorem off_Mark : True := by w_top off; exact trivial
inductive BysAre : List Value → List Int → Prop where
  | nil : BysAre [] []
  | cons (n : Int) (t : Tok) {vs ns} : BysAre vs ns → BysAre (.bytes (apB n) t :: vs) (n :: ns)
theorem bys_snoc {vs : List Value} {ns : List Int} (h : BysAre vs ns) (n : Int) (t : Tok) : BysAre (vs ++ [.bytes (apB n) t]) (ns ++ [n]) := by
  induction h with
  | nil => exact .cons _ _ .nil
  | cons m u _ ih => exact .cons m u ih

theorem BysAre.length {vs : List Value} {ns : List Int} (h : BysAre vs ns) : vs.length = ns.length := by
  induction h with
  | nil => rfl
  | cons _ _ _ ih => simp [ih]
theorem step_told {s t : St} (h : Step s t) : t.told = s.next := by cases h <;> rfl
theorem reach_told {c : Nat} {s t : St} (h : Reach c s t) (h0 : s.told = []) : t.told.length = c := by
  induction h with
  | zero => rw [h0]; rfl
  | succ _ hs ih => rw [step_told hs, St.next, List.length_append, ih h0]; rfl
def MarkPost (news0 : List (Addr × Obj)) (l r : Addr) (s0 : St) (v : Value) (news' : List (Addr × Obj)) : Prop :=
  ∃ c t x T tv tk vl kl vr kr xk m1, Reach c s0 t ∧ Ended t ∧ v = .ref x ∧ BysAre tv t.next ∧ IntsAre vl t.left ∧ IntsAre vr t.right ∧
    news' = (x, ({ cls := .type "tuple", data := .seq #[.int (maskOf t.marks) m1, .ref T] xk } : Obj)) :: (T, listOf tv.toArray tk) :: (l, listOf vl.toArray kl) :: (r, listOf vr.toArray kr) :: news0 ∧
    T < x ∧ (∀ q ∈ news0, q.1 < T) ∧ l < T ∧ r < T

structure FrM (m₀ m : PySem.Str → Option Value) (st : St) : Prop where
  off : ∀ y, y ≠ PySem.Str.ofString "step" → y ≠ PySem.Str.ofString "marks" → y ≠ PySem.Str.ofString "turned" → y ≠ PySem.Str.ofString "ahead" → y ≠ PySem.Str.ofString "back" → y ≠ PySem.Str.ofString "cell" → m y = m₀ y
  marks : ∃ t, m (PySem.Str.ofString "marks") = some (.int (maskOf st.marks) t)
  turned : ∃ t, m (PySem.Str.ofString "turned") = some (.int (maskOf st.turned) t)
  ahead : ∃ t, m (PySem.Str.ofString "ahead") = some (.int st.ahead t)
  back : ∃ t, m (PySem.Str.ofString "back") = some (.int st.back t)
abbrev mapM (m₀ : PySem.Str → Option Value) (st : St) (v : Option Value) (tm tt ta tb : Tok) (u : Option Value) : PySem.Str → Option Value := fun y =>
  if y = PySem.Str.ofString "step" then v else if y = PySem.Str.ofString "marks" then some (.int (maskOf st.marks) tm) else if y = PySem.Str.ofString "turned" then some (.int (maskOf st.turned) tt)
  else if y = PySem.Str.ofString "ahead" then some (.int st.ahead ta) else if y = PySem.Str.ofString "back" then some (.int st.back tb) else if y = PySem.Str.ofString "cell" then u else m₀ y
theorem FrM.map {m₀ m : PySem.Str → Option Value} {st : St} (f : FrM m₀ m st) (v : Option Value) : ∃ tm tt ta tb u, (fun y => if y = PySem.Str.ofString "step" then v else m y) = mapM m₀ st v tm tt ta tb u := by
  obtain ⟨tm, hm⟩ := f.marks
  obtain ⟨tt, ht⟩ := f.turned
  obtain ⟨ta, ha⟩ := f.ahead
  obtain ⟨tb, hb⟩ := f.back
  refine ⟨tm, tt, ta, tb, m (PySem.Str.ofString "cell"), ?_⟩
  funext y
  unfold mapM
  by_cases h1 : y = PySem.Str.ofString "step"
  · rw [if_pos h1, if_pos h1]
  rw [if_neg h1, if_neg h1]
  by_cases h2 : y = PySem.Str.ofString "marks"
  · rw [if_pos h2, h2, hm]
  rw [if_neg h2]
  by_cases h3 : y = PySem.Str.ofString "turned"
  · rw [if_pos h3, h3, ht]
  rw [if_neg h3]
  by_cases h4 : y = PySem.Str.ofString "ahead"
  · rw [if_pos h4, h4, ha]
  rw [if_neg h4]
  by_cases h5 : y = PySem.Str.ofString "back"
  · rw [if_pos h5, h5, hb]
  rw [if_neg h5]
  by_cases h6 : y = PySem.Str.ofString "cell"
  · rw [if_pos h6, h6]
  rw [if_neg h6]
  exact f.off y h1 h2 h3 h4 h5 h6
section
variable {prog : Program} {w : World} {A : Around} {E : Value → Shared → Prop} {s : Shared} {env : Env} {h₀ : Heap} {body : List Stmt} {Q : Flow → Shared → Prop}
theorem iter_mark {r : Addr} {a₀ b₀ : Int} {t₀ u₀ v₀ : Tok} {n : Nat} {m₀ : PySem.Str → Option Value} {news : List (Addr × Obj)} (st0 : St) (J : Nat → St → List (Addr × Obj) → Prop)
    (hh : A.handled = none) (hr : IsRange s.heap r a₀ b₀ 1 t₀ u₀ v₀) (hsmall : Builtin.Range.small a₀ b₀ 1 = true) (hn : Builtin.Range.rangeSize a₀ b₀ 1 = (n : Int)) (F : Fr h₀ env.locals s.heap m₀) (N : News h₀ env.locals s.heap news) (hM : FrM m₀ m₀ st0) (hR : J 0 st0 news)
    (turn : ∀ v c st nx h tk own tm tt ta tb u, OwnOff own (news.map (·.1)) → J c st nx → Fr h₀ env.locals h (mapM m₀ st v tm tt ta tb u) → News h₀ env.locals h (nx ++ own) →
      wpAny (model prog w) A (execs body env) (InvPostN h₀ env.locals (fun m nx => ∃ st, FrM m₀ m st ∧ J (c + 1) st nx) own (news.map (·.1)) { s with heap := h, toks := tk } Q) E { s with heap := h, toks := tk })
    (done : ∀ m₁ st nx h tk, J n st nx → Fr h₀ env.locals h m₁ → News h₀ env.locals h nx → Q .next { s with heap := h, toks := tk }) :
    wpAny (model prog w) A (pyIter (.ref r)) (fun it s₂ => LoopAtV prog w A h₀ env (PySem.Str.ofString "step") body Q E it s₂) E s := by
  have hf : ∀ (l : List Int) (c : Nat), l.foldl (fun c _ => c + 1) c = c + l.length := by
    intro l
    induction l with
    | nil => intro c; rfl
    | cons a r ih => intro c; rw [List.foldl_cons, ih, List.length_cons]; omega
  refine iter_rangeS (σ := Nat) (fun c m nx => ∃ st, FrM m₀ m st ∧ J c st nx) (fun c _ => c + 1) 0 hh hr hsmall hn F N ⟨st0, hM, hR⟩ ?_ ?_
  · rintro k t c m₁ nx h tk own - hoff ⟨st, hm, hj⟩ F' N'
    obtain ⟨tm, tt, ta, tb, u, e⟩ := hm.map (some (.int k t))
    rw [e] at F'
    exact turn _ c st nx h tk own tm tt ta tb u hoff hj F' N'
  · rintro m₁ nx h tk ⟨st, -, hj⟩ F' N'
    rw [hf, rangeKs_length, Nat.zero_add] at hj
    exact done m₁ st nx h tk hj F' N'
end

theorem inv_close {h₀ h' : Heap} {L : Addr} {J : (PySem.Str → Option Value) → List (Addr × Obj) → Prop} {own news : List (Addr × Obj)} {adr : List Addr} {s : Shared} {tk : Nat} {m' : PySem.Str → Option Value} {q a b c : Addr × Obj}
    (F : Fr h₀ L h' m') (N : News h₀ L h' (q :: a :: b :: c :: (news ++ own))) (h3 : (a :: b :: c :: news).map (·.1) = adr) (h4 : J m' (a :: b :: c :: news)) : InvEndN h₀ L J own adr s { s with heap := h', toks := tk } :=
  inv_end F N (a :: b :: c :: news) (fun p hp => by
    rcases List.mem_cons.mp hp with rfl | hp
    · exact .tail _ (.head _)
    rcases List.mem_cons.mp hp with rfl | hp
    · exact .tail _ (.tail _ (.head _))
    rcases List.mem_cons.mp hp with rfl | hp
    · exact .tail _ (.tail _ (.tail _ (.head _)))
    · exact .tail _ (.tail _ (.tail _ (.tail _ (List.mem_append.mpr (.inl hp)))))) (fun p hp => .tail _ (.tail _ (.tail _ (.tail _ (List.mem_append.mpr (.inr hp)))))) h3 h4
theorem drop_own {h₀ h' : Heap} {L : Addr} {own news : List (Addr × Obj)} {q a b c : Addr × Obj} (N : News h₀ L h' (q :: a :: b :: c :: (news ++ own))) : News h₀ L h' (q :: a :: b :: c :: news) := fun p hp => N p (by
    rcases List.mem_cons.mp hp with rfl | hp
    · exact .head _
    rcases List.mem_cons.mp hp with rfl | hp
    · exact .tail _ (.head _)
    rcases List.mem_cons.mp hp with rfl | hp
    · exact .tail _ (.tail _ (.head _))
    rcases List.mem_cons.mp hp with rfl | hp
    · exact .tail _ (.tail _ (.tail _ (.head _)))
    · exact .tail _ (.tail _ (.tail _ (.tail _ (List.mem_append.mpr (.inl hp))))))
theorem ne_app {a b : List (Addr × Obj)} {x : Addr} (h : ∀ p ∈ a, p.1 ≠ x) (h2 : ∀ p ∈ b, p.1 ≠ x) : ∀ p ∈ a ++ b, p.1 ≠ x := fun p hp => (List.mem_append.mp hp).elim (h p) (h2 p)
section
variable {prog : Program} {w : World} {A : Around} {E : Value → Shared → Prop} {s : Shared} {Q : Value → Shared → Prop} {f : Nat → Bool} {e : Int} {t u : Tok}
theorem rsh_K (h : 0 ≤ e) (k : Q (.int ((maskOf f).fdiv (2 ^ e.toNat)) s.toks) { s with toks := s.toks + 1 }) : wpAny (model prog w) A (binaryOp .RShift (.int (maskOf f) t) (.int e u)) Q E s := rshift_int h k
theorem bitF_K (h : 0 ≤ e ∧ e < 5) (hf : f e.toNat = false) (k : Q (.int 0 s.toks) { s with toks := s.toks + 1 }) : wpAny (model prog w) A (binaryOp .BitAnd (.int ((maskOf f).fdiv (2 ^ e.toNat)) t) (.int 1 u)) Q E s := and_int (by rw [bit_at f (by omega), hf]; exact k)
theorem bitT_K (h : 0 ≤ e ∧ e < 5) (hf : f e.toNat = true) (k : Q (.int 1 s.toks) { s with toks := s.toks + 1 }) : wpAny (model prog w) A (binaryOp .BitAnd (.int ((maskOf f).fdiv (2 ^ e.toNat)) t) (.int 1 u)) Q E s := and_int (by rw [bit_at f (by omega), hf]; exact k)
theorem one_K (h : 0 ≤ e ∧ e < 5) (k : Q (.int (1 * 2 ^ e.toNat) s.toks) { s with toks := s.toks + 1 }) : wpAny (model prog w) A (binaryOp .LShift (.int 1 t) (.int e u)) Q E s := lshift_int_small h.1 (by omega) (by decide) k
theorem ior_K (h : 0 ≤ e ∧ e < 5) (k : Q (.int (maskOf (upd f e.toNat)) s.toks) { s with toks := s.toks + 1 }) : wpAny (model prog w) A (inplaceOp .BitOr (.int (maskOf f) t) (.int (1 * 2 ^ e.toNat) u)) Q E s := ior_int (by rw [bit_or f (by omega)]; exact k)
end
section
local macro_rules | `(tactic| walk_at "binaryOp RShift int int") => `(tactic| (k_here; with_reducible refine rsh_K (by omega) ?_))
local macro_rules | `(tactic| walk_at "binaryOp BitAnd int int") => `(tactic| (k_here; with_reducible first | refine bitF_K (by omega) (by assumption) ?_ | refine bitT_K (by omega) (by assumption) ?_))
local macro_rules | `(tactic| walk_at "binaryOp LShift int int") => `(tactic| (k_here; with_reducible refine one_K (by omega) ?_))
local macro_rules | `(tactic| walk_at "inplaceOp BitOr int int") => `(tactic| (k_here; with_reducible refine ior_K (by omega) ?_))
local macro_rules | `(tactic| k_all) => `(tactic| assumption)
local macro_rules | `(tactic| walk_at "call ref") => `(tactic| (k_here; (with_reducible show wpAny _ _ (call (Value.ref 50) _) _ _ _); k_dflt (refine' (c_ap _ _ ?z1 ?z2).use ?B ?F ?X ?N ?T ?hk ?hd ?hu ?_; (case B => k_asm); (case F => k_asm); (case X => k_asm); (case N => k_asm); (case T => k_asm); (case hk => first | exact rfl | assumption); (case hd => ktr_room); (case hu => ktr_units); (case z1 => omega); (case z2 => omega)); intro r' n' h' tk' F' N' P'; (obtain ⟨⟨t', e1⟩, e2⟩ := P'); subst e1; subst e2))
local macro_rules | `(tactic| walk_at "call ref") => `(tactic| (k_here; (with_reducible show wpAny _ _ (call (Value.ref 21) _) _ _ _); k_dflt ((first | refine' (c_isnt_T (by omega)).use ?B ?F ?X ?N ?T ?hk ?hd ?hu ?_ | refine' (c_isnt_F (by omega)).use ?B ?F ?X ?N ?T ?hk ?hd ?hu ?_); (case B => k_asm); (case F => k_asm); (case X => k_asm); (case N => k_asm); (case T => k_asm); (case hk => first | exact rfl | assumption); (case hd => ktr_room); (case hu => ktr_units)); intro r' n' h' tk' F' N' P'; (obtain ⟨e1, e2⟩ := P'); subst e1; subst e2))
local macro_rules | `(tactic| walk_at "call ref") => `(tactic| (k_here; (with_reducible show wpAny _ _ (call (Value.ref 28) _) _ _ _); k_dflt ((first | refine' (c_iseof_T (by omega)).use ?B ?F ?X ?N ?T ?hk ?hd ?hu ?_ | refine' (c_iseof_F (by omega)).use ?B ?F ?X ?N ?T ?hk ?hd ?hu ?_); (case B => k_asm); (case F => k_asm); (case X => k_asm); (case N => k_asm); (case T => k_asm); (case hk => first | exact rfl | assumption); (case hd => ktr_room); (case hu => ktr_units)); intro r' n' h' tk' F' N' P'; (obtain ⟨e1, e2⟩ := P'); subst e1; subst e2))
local macro_rules | `(tactic| walk_at "call builtin:list.append") => `(tactic| (k_here; k_dflt (refine' append_K ?k1 ?k2 ?k3 ?_ ?z; (case k1 => k_asm); (case k2 => k_asm); (case k3 => k_upd); (case z => assumption); k_whole); intro h' F' N'))
local macro_rules | `(tactic| walk_at "pyIter ref") => `(tactic| (refine Stop.go ?_))
local macro_rules | `(tactic| walk_at "InvEndN") => `(tactic| (refine Stop.go ?_))
set_option maxRecDepth 100000 in
set_option maxHeartbeats 8000000 in
theorem c_marked {w : World} {news : List (Addr × Obj)} {l r : Addr} {kl kr : Nat} {vl vr : List Value} (s0 : St) (t0 : Tok)
   (hgood : ∀ c t, Reach c s0 t → c ≤ 16 ∧ Good t) (hb : s0.back = 0) (hm : s0.marks = fun _ => false) (ht : s0.turned = fun _ => false) (htd : s0.told = [])
   (hil : IntsAre vl s0.left) (hir : IntsAre vr s0.right) (nlr : l ≠ r) (nl : ∀ p ∈ news, p.1 ≠ l) (nr : ∀ p ∈ news, p.1 ≠ r) :
   Ct w 71 [.ref l, .ref r, .int s0.ahead t0] 20 ((l, listOf vl.toArray kl) :: (r, listOf vr.toArray kr) :: news) (MarkPost news l r s0) := by
  unfold Ct
  intro prog loose mean mg mb dp un gd cn cs a ccd cl outer A₀ base h₀ L m s Q E B F X N T hk hd hu hret
  refine wpAny_call ?_
  k_dflt ktr_enter
  k_steps
  rename_i g9 L9 _ _ _ _ _ _ _ _ _ T9 _ lT _ _ _ h9 tk9 _ _ _ hR F9 N9 _
  refine Stop.mk ?_
  refine iter_mark (n := 17) s0 (fun c st nx => Reach c s0 st ∧ ∃ tv tk vl kl vr kr, BysAre tv st.told ∧ IntsAre vl st.left ∧ IntsAre vr st.right ∧ nx = (T9, listOf tv.toArray tk) :: (l, listOf vl.toArray kl) :: (r, listOf vr.toArray kr) :: news) rfl hR (small_one (by decide) (by decide) (by decide) (by decide)) (by decide) F9 N9 ?_ ⟨.zero _, [], _, vl, kl, vr, kr, by rw [htd]; exact .nil, hil, hir, rfl⟩ ?_ ?_
  · refine ⟨fun _ _ _ _ _ _ _ => rfl, ?_, ?_, ?_, ?_⟩
    · rw [hm]; exact ⟨_, rfl⟩
    · rw [ht]; exact ⟨_, rfl⟩
    · exact ⟨_, rfl⟩
    · rw [hb]; exact ⟨_, rfl⟩
  · rintro v9 c st nx h8 tk8 own tm tt ta tb u hoff ⟨hre, tv, tk, vl, kl, vr, kr, hbt, hil, hir, rfl⟩ F8 N8
    change Fr g9 L9 h8 _ at F8
    change News g9 L9 h8 ((T9, listOf tv.toArray tk) :: (l, listOf vl.toArray kl) :: (r, listOf vr.toArray kr) :: (news ++ own)) at N8
    dsimp only [mapM] at F8
    obtain ⟨hc16, hG⟩ := hgood _ _ hre
    have ab := hG.ab
    have bb := hG.bb
    have ll := hG.ll
    have rl := hG.rl
    have hts : tv.toArray.size ≤ sizeLine := by
      rw [List.size_toArray, hbt.length, reach_told hre htd, sizeLine_eq]; omega
    obtain ⟨lT1, lT2, lT3⟩ := lT
    have neT : ∀ p ∈ news ++ own, p.1 ≠ T9 := ne_app (fun p hp => Nat.ne_of_lt (ktn_ltOf lT3 p hp)) (fun p hp => hoff p hp _ (.head _))
    have neL : ∀ p ∈ news ++ own, p.1 ≠ l := ne_app nl (fun p hp => hoff p hp _ (.tail _ (.head _)))
    have neR : ∀ p ∈ news ++ own, p.1 ≠ r := ne_app nr (fun p hp => hoff p hp _ (.tail _ (.tail _ (.head _))))
    have nlr2 : @LT.lt Nat _ l r ∨ @LT.lt Nat _ r l := Nat.lt_or_gt_of_ne nlr
    by_cases hv : 256 ≤ st.ahead ∧ st.marks (st.ahead - 256).toNat = false
    · obtain ⟨hv1, hv2⟩ := hv
      k_steps
      (with_reducible rename Fr _ _ _ _ => F4)
      (with_reducible rename News _ _ _ _ => N4)
      simp only [List.push_toArray] at N4
      refine Stop.mk (inv_close F4 N4 rfl ⟨st.visit, ⟨fun y h1 h2 h3 h4 h5 h6 => ?_, ⟨_, rfl⟩, ⟨_, rfl⟩, ⟨_, rfl⟩, ⟨_, rfl⟩⟩, .succ hre (.visit st hv1 hv2), _, _, _, _, _, _, bys_snoc hbt _ _, ?_, ?_, rfl⟩)
      · simp only [if_neg h1, if_neg h2, if_neg h3, if_neg h4, if_neg h5, if_neg h6]
      · assumption
      · assumption
    · have hv3 : ¬ 256 ≤ st.ahead ∨ (256 ≤ st.ahead ∧ st.marks (st.ahead - 256).toNat = true) := by
        by_cases h : 256 ≤ st.ahead
        · refine .inr ⟨h, ?_⟩
          cases e : st.marks (st.ahead - 256).toNat
          · exact absurd ⟨h, e⟩ hv
          · rfl
        · exact .inl h
      by_cases hb0 : st.back = 0
      · rcases hv3 with hv3 | ⟨hv3, hv4⟩
        · k_steps
          (with_reducible rename News _ _ _ _ => N4)
          simp only [List.push_toArray] at N4
          refine hret _ _ _ _ (by assumption) (drop_own N4) ⟨c, st, _, T9, _, _, vl, kl, vr, kr, _, _, hre, ⟨hv, hb0⟩, rfl, bys_snoc hbt _ _, hil, hir, rfl, ltN (by omega), fun q hq => ktn_ltOf lT3 q hq, lT1, lT2⟩
        · k_steps
          (with_reducible rename News _ _ _ _ => N4)
          simp only [List.push_toArray] at N4
          refine hret _ _ _ _ (by assumption) (drop_own N4) ⟨c, st, _, T9, _, _, vl, kl, vr, kr, _, _, hre, ⟨hv, hb0⟩, rfl, bys_snoc hbt _ _, hil, hir, rfl, ltN (by omega), fun q hq => ktn_ltOf lT3 q hq, lT1, lT2⟩
      · cases htu : st.turned (st.back - 256).toNat
        · rcases hv3 with hv3 | ⟨hv3, hv4⟩
          · k_steps
            (with_reducible rename Fr _ _ _ _ => F4)
            (with_reducible rename News _ _ _ _ => N4)
            simp only [List.push_toArray] at N4
            refine Stop.mk (inv_close F4 N4 rfl ⟨st.turn, ⟨fun y h1 h2 h3 h4 h5 h6 => ?_, ⟨_, rfl⟩, ⟨_, rfl⟩, ⟨_, rfl⟩, ⟨_, rfl⟩⟩, .succ hre (.turn st hv hb0 htu), _, _, _, _, _, _, bys_snoc hbt _ _, ?_, ?_, rfl⟩)
            · simp only [if_neg h1, if_neg h2, if_neg h3, if_neg h4, if_neg h5, if_neg h6]
            · assumption
            · assumption
          · k_steps
            (with_reducible rename Fr _ _ _ _ => F4)
            (with_reducible rename News _ _ _ _ => N4)
            simp only [List.push_toArray] at N4
            refine Stop.mk (inv_close F4 N4 rfl ⟨st.turn, ⟨fun y h1 h2 h3 h4 h5 h6 => ?_, ⟨_, rfl⟩, ⟨_, rfl⟩, ⟨_, rfl⟩, ⟨_, rfl⟩⟩, .succ hre (.turn st hv hb0 htu), _, _, _, _, _, _, bys_snoc hbt _ _, ?_, ?_, rfl⟩)
            · simp only [if_neg h1, if_neg h2, if_neg h3, if_neg h4, if_neg h5, if_neg h6]
            · assumption
            · assumption
        · rcases hv3 with hv3 | ⟨hv3, hv4⟩
          · k_steps
            (with_reducible rename Fr _ _ _ _ => F4)
            (with_reducible rename News _ _ _ _ => N4)
            simp only [List.push_toArray] at N4
            refine Stop.mk (inv_close F4 N4 rfl ⟨st.ret, ⟨fun y h1 h2 h3 h4 h5 h6 => ?_, ⟨_, rfl⟩, ⟨_, rfl⟩, ⟨_, rfl⟩, ⟨_, rfl⟩⟩, .succ hre (.ret st hv hb0 htu), _, _, _, _, _, _, bys_snoc hbt _ _, ?_, ?_, rfl⟩)
            · simp only [if_neg h1, if_neg h2, if_neg h3, if_neg h4, if_neg h5, if_neg h6]
            · assumption
            · assumption
          · k_steps
            (with_reducible rename Fr _ _ _ _ => F4)
            (with_reducible rename News _ _ _ _ => N4)
            simp only [List.push_toArray] at N4
            refine Stop.mk (inv_close F4 N4 rfl ⟨st.ret, ⟨fun y h1 h2 h3 h4 h5 h6 => ?_, ⟨_, rfl⟩, ⟨_, rfl⟩, ⟨_, rfl⟩, ⟨_, rfl⟩⟩, .succ hre (.ret st hv hb0 htu), _, _, _, _, _, _, bys_snoc hbt _ _, ?_, ?_, rfl⟩)
            · simp only [if_neg h1, if_neg h2, if_neg h3, if_neg h4, if_neg h5, if_neg h6]
            · assumption
            · assumption
  · rintro m₁ st nx h8 tk8 ⟨hre, -⟩ F8 N8
    exact absurd (hgood _ _ hre).1 (by decide)
end
end
section
theorem off_Called : True := by w_top off; exact trivial
/-- what the plain calls tell -/
def called (L R : List Int) : Nat → Int → Int → List Int → List (Int × Int) × List Int
  | 0, _, _, met => ([], met)
  | k + 1, a, b, met => if a < 256 ∨ a ∈ met then ([], met) else
    let n := called L R k (L.getD (a - 256).toNat 0) a (met ++ [a])
    let f := called L R k (R.getD (a - 256).toNat 0) a n.2
    ([(a, b)] ++ n.1 ++ [(L.getD (a - 256).toNat 0, a)] ++ f.1 ++ [(R.getD (a - 256).toNat 0, a)], f.2)
def un (met : List Int) : Nat := (if (256 : Int) ∈ met then 0 else 1) + (if (257 : Int) ∈ met then 0 else 1) + (if (258 : Int) ∈ met then 0 else 1) + (if (259 : Int) ∈ met then 0 else 1) + (if (260 : Int) ∈ met then 0 else 1)
theorem un_snoc {met : List Int} {a : Int} (h : a ∉ met) (h1 : 256 ≤ a) (h2 : a ≤ 260) : un (met ++ [a]) + 1 = un met := by
  have hc : a = 256 ∨ a = 257 ∨ a = 258 ∨ a = 259 ∨ a = 260 := by omega
  unfold un
  rcases hc with rfl | rfl | rfl | rfl | rfl <;> simp [h] <;> omega
theorem called_un {L R : List Int} (hL : ∀ i, 0 ≤ L.getD i 0 ∧ L.getD i 0 ≤ 260) (hR : ∀ i, 0 ≤ R.getD i 0 ∧ R.getD i 0 ≤ 260) : ∀ (k : Nat) (a b : Int) (met : List Int), a ≤ 260 →
    (called L R k a b met).2.length + un (called L R k a b met).2 = met.length + un met ∧ un (called L R k a b met).2 ≤ un met ∧ (called L R k a b met).1.length + 3 * un (called L R k a b met).2 = 3 * un met
  | 0, _, _, _, _ => ⟨rfl, Nat.le_refl _, Nat.zero_add _⟩
  | k + 1, a, b, met, ha => by
    unfold called
    by_cases h : a < 256 ∨ a ∈ met
    · rw [if_pos h]; exact ⟨rfl, Nat.le_refl _, Nat.zero_add _⟩
    · rw [if_neg h]
      obtain ⟨h1, h2⟩ := not_or.mp h
      have e := un_snoc h2 (by omega) ha
      have n := called_un hL hR k (L.getD (a - 256).toNat 0) a (met ++ [a]) (hL _).2
      have f := called_un hL hR k (R.getD (a - 256).toNat 0) a (called L R k (L.getD (a - 256).toNat 0) a (met ++ [a])).2 (hR _).2
      simp only [List.length_append, List.length_singleton] at n
      dsimp only
      simp only [List.length_append, List.length_singleton]
      omega
inductive PairsIn (led : List (Addr × Obj)) : List Value → List (Int × Int) → Prop where
  | nil : PairsIn led [] []
  | cons {p : Addr} {a b : Int} {t u : Tok} {k : Nat} {vs ps} : (p, ({ cls := .type "tuple", data := .seq #[.int a t, .int b u] k } : Obj)) ∈ led → PairsIn led vs ps → PairsIn led (.ref p :: vs) ((a, b) :: ps)
def CalledPost (M l r : Addr) (lo ro : Obj) (news : List (Addr × Obj)) (res : List (Int × Int) × List Int) (v : Value) (news' : List (Addr × Obj)) : Prop :=
  ∃ x vals kx tl vm km, v = .ref x ∧ news' = (M, listOf (List.toArray vm) km) :: (l, lo) :: (r, ro) :: (x, listOf (List.toArray vals) kx) :: (tl ++ news) ∧ IntsAre vm res.2 ∧ PairsIn tl vals res.1 ∧ (∀ p ∈ tl, p.1 ≠ M) ∧ x ≠ M

theorem PairsIn.length {led : List (Addr × Obj)} {vs : List Value} {ps : List (Int × Int)} (h : PairsIn led vs ps) : vs.length = ps.length := by
  induction h with
  | nil => rfl
  | cons _ _ ih => simp [ih]
theorem PairsIn.mono {led led' : List (Addr × Obj)} {vs : List Value} {ps : List (Int × Int)} (h : PairsIn led vs ps) (hs : ∀ p ∈ led, p ∈ led') : PairsIn led' vs ps := by
  induction h with
  | nil => exact .nil
  | cons hm _ ih => exact .cons (hs _ hm) ih
theorem PairsIn.append {led : List (Addr × Obj)} {vs ws : List Value} {ps qs : List (Int × Int)} (h : PairsIn led vs ps) (h2 : PairsIn led ws qs) : PairsIn led (vs ++ ws) (ps ++ qs) := by
  induction h with
  | nil => exact h2
  | cons hm _ ih => exact .cons hm ih
section
variable {prog : Program} {w : World} {A : Around} {E : Value → Shared → Prop} {s : Shared} {h₀ : Heap} {L : Addr} {m : PySem.Str → Option Value} {news : List (Addr × Obj)} {Q : Value → Shared → Prop}
theorem cat_K {a b : Addr} {vs ws : List Value} {n k : Nat} (F : Fr h₀ L s.heap m) (N : News h₀ L s.heap news) (ha : (a, listOf vs.toArray n) ∈ news) (hb : (b, listOf ws.toArray k) ∈ news) (hz : vs.length + ws.length ≤ 1000)
    (h : ∀ D h', Fr h₀ L h' m → News h₀ L h' ((D, listOf (vs ++ ws).toArray 0) :: news) → (∀ p ∈ news, p.1 < D) → Q (.ref D) { s with heap := h' }) : wpAny (model prog w) A (binaryOp .Add (.ref a) (.ref b)) Q E s :=
  add_lists (vs := vs) (ws := ws) (hsz := by rw [sizeLine_eq]; omega) F N ⟨_, (N _ ha).1, rfl, n, rfl⟩ ⟨_, (N _ hb).1, rfl, k, rfl⟩ fun h' F' N' => h _ h' F' N' fun p hp => Heap.lt_size (N p hp).1
end
theorem ne_of_lt2 {a b : Addr} (h : @LT.lt Nat _ b a) : a ≠ b := Nat.ne_of_gt h
theorem called_two {h₀ h : Heap} {L : Addr} {x y a b c : Addr × Obj} {n1 n2 : List (Addr × Obj)} (N : News h₀ L h (a :: b :: c :: x :: (n2 ++ (y :: n1)))) : News h₀ L h (a :: b :: c :: x :: y :: (n2 ++ n1)) := fun p hp => N p (by
  simp only [List.mem_cons, List.mem_append] at hp ⊢
  rcases hp with h | h | h | h | h | h | h <;> simp only [h, true_or, or_true])
theorem called_end {h₀ h : Heap} {L : Addr} {d e1 t1 e2 e3 e4 t4 e5 e6 t6 M l r x2 x1 : Addr × Obj} {tl2 tl1 news : List (Addr × Obj)} (N : News h₀ L h (d :: e1 :: t1 :: e2 :: e3 :: e4 :: t4 :: e5 :: e6 :: t6 :: M :: l :: r :: x2 :: x1 :: (tl2 ++ (tl1 ++ news)))) :
    News h₀ L h (M :: l :: r :: d :: ((t6 :: t4 :: t1 :: (tl2 ++ tl1)) ++ news)) := fun p hp => N p (by
  simp only [List.mem_cons, List.mem_append] at hp ⊢
  rcases hp with h | h | h | h | ((h | h | h | (h | h)) | h) <;> simp only [h, true_or, or_true])
theorem called_none {h₀ h : Heap} {L : Addr} {x a b c : Addr × Obj} {news : List (Addr × Obj)} (N : News h₀ L h (x :: a :: b :: c :: news)) : News h₀ L h (a :: b :: c :: x :: ([] ++ news)) := fun p hp => N p (by
  rcases List.mem_cons.mp hp with rfl | hp
  · exact .tail _ (.head _)
  rcases List.mem_cons.mp hp with rfl | hp
  · exact .tail _ (.tail _ (.head _))
  rcases List.mem_cons.mp hp with rfl | hp
  · exact .tail _ (.tail _ (.tail _ (.head _)))
  rcases List.mem_cons.mp hp with rfl | hp
  · exact .head _
  · exact .tail _ (.tail _ (.tail _ (.tail _ hp))))
section
local macro_rules | `(tactic| walk_at "call builtin:list.append") => `(tactic| (k_here; k_dflt (refine' append_K ?k1 ?k2 ?k3 ?_ ?z; (case k1 => k_asm); (case k2 => k_asm); (case k3 => k_upd); (case z => assumption); k_whole); intro h' F' N'))
local macro_rules | `(tactic| k_all) => `(tactic| assumption)
local macro_rules | `(tactic| walk_at "binaryOp Add ref ref") => `(tactic| (k_here; (with_reducible show wpAny _ _ (binaryOp _ (Value.ref _) (Value.ref _)) _ _ _); k_dflt (refine' cat_K ?F ?N ?a ?b ?z ?_; (case F => k_asm); (case N => k_asm); (case a => (repeat (first | exact List.Mem.head _ | apply List.Mem.tail))); (case b => (repeat (first | exact List.Mem.head _ | apply List.Mem.tail))); (case z => (simp only [List.length_append, List.length_cons, List.length_nil]; omega))); intro D' h' F' N' l1; (try k_lt l1)))
local macro_rules | `(tactic| walk_at "call ref") => `(tactic| (refine Stop.go ?_))
set_option maxRecDepth 100000 in
set_option maxHeartbeats 8000000 in
theorem c_called {w : World} {l r : Addr} {kl kr : Nat} {vl vr : List Value} {L R : List Int} (hil : IntsAre vl L) (hir : IntsAre vr R) (hll : L.length = 5) (hrl : R.length = 5) (hlb : ∀ i, 0 ≤ L.getD i 0 ∧ L.getD i 0 ≤ 260) (hrb : ∀ i, 0 ≤ R.getD i 0 ∧ R.getD i 0 ≤ 260) :
   ∀ (k : Nat) (a b : Int) (ta tb : Tok) (met : List Int) (news : List (Addr × Obj)) (M : Addr) (vm : List Value) (km : Nat), 0 ≤ a ∧ a ≤ 260 → un met < k → met.length + un met ≤ 5 → IntsAre vm met →
   M ≠ l → M ≠ r → (∀ p ∈ news, p.1 ≠ M) →
   Ct w 78 [.ref l, .ref r, .int a ta, .int b tb, .ref M] (k + 5) ((M, listOf vm.toArray km) :: (l, listOf vl.toArray kl) :: (r, listOf vr.toArray kr) :: news) (CalledPost M l r (listOf vl.toArray kl) (listOf vr.toArray kr) news (called L R k a b met)) := by
  intro k
  induction k with
  | zero => intro a b ta tb met news M vm km _ h; exact absurd h (Nat.not_lt_zero _)
  | succ k ih =>
    intro a b ta tb met news M vm km hab hk1 hk6 him hMl hMr hMn
    unfold Ct
    intro prog loose mean mg mb dp un₂ gd cn cs a₂ ccd cl outer A₀ base h₀ L₂ m s Q E B F X N T hk hd hu hret
    have hMl2 : @LT.lt Nat _ M l ∨ @LT.lt Nat _ l M := Nat.lt_or_gt_of_ne hMl
    have hMr2 : @LT.lt Nat _ M r ∨ @LT.lt Nat _ r M := Nat.lt_or_gt_of_ne hMr
    have hms : vm.toArray.size ≤ sizeLine := by
      rw [List.size_toArray, him.length, sizeLine_eq]; omega
    by_cases ha : a < 256
    · refine wpAny_call ?_
      k_dflt ktr_enter
      k_steps
      rw [called, if_pos (.inl ha)] at hret
      (with_reducible rename News _ _ _ _ => N4)
      exact hret _ _ _ _ (by assumption) (called_none N4) ⟨_, [], _, [], vm, km, rfl, rfl, him, .nil, fun _ h => absurd h List.not_mem_nil, ne_of_lt2 (by omega)⟩
    refine wpAny_call ?_
    k_dflt ktr_enter
    k_steps
    · (rename (List.any _ _) = true => hany)
      have hm : a ∈ met := by simpa using hany
      rw [called, if_pos (.inr hm)] at hret
      (with_reducible rename News _ _ _ _ => N4)
      exact hret _ _ _ _ (by assumption) (called_none N4) ⟨_, [], _, [], vm, km, rfl, rfl, him, .nil, fun _ h => absurd h List.not_mem_nil, ne_of_lt2 (by omega)⟩
    · (rename (List.any _ _) = false => hany)
      have hm : a ∉ met := by
        intro h
        have : (met.any fun x => x == a) = true := by simpa using h
        rw [this] at hany; cases hany
      rw [called, if_neg (not_or.mpr ⟨ha, hm⟩)] at hret
      (with_reducible rename News _ _ _ _ => N4)
      (with_reducible rename Fr _ _ _ _ => F4)
      simp only [List.push_toArray] at N4
      have e1 := un_snoc hm (by omega) hab.2
      have i1 := called_un hlb hrb k (L.getD (a - 256).toNat 0) a (met ++ [a]) (hlb _).2
      simp only [List.length_append, List.length_singleton] at i1
      refine Stop.mk ((ih _ _ _ _ (met ++ [a]) news M (vm ++ [.int a ta]) (km + 1) (hlb _) (by omega) (by simp only [List.length_append, List.length_singleton]; omega) (ints_snoc him a ta) hMl hMr hMn).use (by k_asm) F4 (by k_asm) N4 (by k_asm) rfl (by ktr_room) (by ktr_units) ?_)
      rintro r1 news1 h1 tk1 F1 N1 ⟨x1, vals1, kx1, tl1, vm1, km1, rfl, rfl, him1, hp1, htl1, hx1⟩
      have hMn2 : ∀ p ∈ (x1, listOf vals1.toArray kx1) :: (tl1 ++ news), p.1 ≠ M := fun p hp => by
        rcases List.mem_cons.mp hp with rfl | hp
        · exact hx1
        · exact ne_app htl1 hMn p hp
      k_steps
      (with_reducible rename News _ _ _ _ => N5)
      (with_reducible rename Fr _ _ _ _ => F5)
      refine Stop.mk ((ih _ _ _ _ _ ((x1, listOf vals1.toArray kx1) :: (tl1 ++ news)) M vm1 km1 (hrb _) (by omega) (by omega) him1 hMl hMr hMn2).use (by k_asm) F5 (by k_asm) N5 (by k_asm) rfl (by ktr_room) (by ktr_units) ?_)
      rintro r2 news2 h2 tk2 F2 N2 ⟨x2, vals2, kx2, tl2, vm2, km2, rfl, rfl, him2, hp2, htl2, hx2⟩
      have i2 := called_un hlb hrb k (R.getD (a - 256).toNat 0) a (called L R k (L.getD (a - 256).toNat 0) a (met ++ [a])).2 (hrb _).2
      have lv1 := hp1.length
      have lv2 := hp2.length
      replace N2 := called_two N2
      k_steps
      (with_reducible rename News _ _ _ _ => N6)
      refine hret _ _ _ _ (by assumption) (called_end N6) ⟨_, _, _, _, vm2, km2, rfl, rfl, him2, ?_, ?_, ne_of_lt2 (by omega)⟩
      · refine PairsIn.append (PairsIn.append (PairsIn.append (PairsIn.append (.cons (.head _) .nil) (hp1.mono ?_)) (.cons (.tail _ (.head _)) .nil)) (hp2.mono ?_)) (.cons (.tail _ (.tail _ (.head _))) .nil)
        · exact fun p hp => .tail _ (.tail _ (.tail _ (List.mem_append.mpr (.inr hp))))
        · exact fun p hp => .tail _ (.tail _ (.tail _ (List.mem_append.mpr (.inl hp))))
      · intro p hp
        rcases List.mem_cons.mp hp with rfl | hp
        · exact ne_of_lt2 (by omega)
        rcases List.mem_cons.mp hp with rfl | hp
        · exact ne_of_lt2 (by omega)
        rcases List.mem_cons.mp hp with rfl | hp
        · exact ne_of_lt2 (by omega)
        · exact ne_app htl2 htl1 p hp
end
end
section
section
variable {prog : Program} {w : World} {A : Around} {E : Value → Shared → Prop} {s : Shared} {env : Env} {h₀ : Heap} {x : PySem.Str} {px : Pos} {body orelse : List Stmt} {Q : Flow → Shared → Prop}
/-- for .. in range: .. else: .., by what holds at each turn -/
theorem iter_rangeElse {r : Addr} {a₀ b₀ : Int} {t₀ u₀ v₀ : Tok} {n : Nat} {m₀ : PySem.Str → Option Value} {news : List (Addr × Obj)} (J : Nat → (PySem.Str → Option Value) → List (Addr × Obj) → Prop)
    (hh : A.handled = none) (hr : IsRange s.heap r a₀ b₀ 1 t₀ u₀ v₀) (hsmall : Builtin.Range.small a₀ b₀ 1 = true) (hn : Builtin.Range.rangeSize a₀ b₀ 1 = (n : Int)) (F : Fr h₀ env.locals s.heap m₀) (N : News h₀ env.locals s.heap news) (hj : J 0 m₀ news)
    (hx : env.kindOf x = some .local) (hp : (env.scope.kind == .class || (env.scope.kind == .module && env.locals != env.globals)) = false)
    (turn : ∀ c t m₁ nx h tk I, c < n → (∀ p ∈ nx, p.1 ≠ I) → (∀ p ∈ news, p.1 < I) → J c m₁ nx → Fr h₀ env.locals h (fun y => if y = x then some (.int (a₀ + (c : Int)) t) else m₁ y) → News h₀ env.locals h ((I, itR (a₀ + ((c + 1 : Nat) : Int)) ((n : Int) - ((c + 1 : Nat) : Int))) :: nx) →
      wpAny (model prog w) A (execs body env) (UnrPost h₀ env.locals { s with heap := h, toks := tk } I (itR (a₀ + ((c + 1 : Nat) : Int)) ((n : Int) - ((c + 1 : Nat) : Int))) (J (c + 1)) Q) E { s with heap := h, toks := tk })
    (done : ∀ m₁ nx h tk, J n m₁ nx → Fr h₀ env.locals h m₁ → News h₀ env.locals h nx → wpAny (model prog w) A (execs orelse env) Q E { s with heap := h, toks := tk })
    (hE : PassesOwn (model prog w) A env E) :
    wpAny (model prog w) A (pyIter (.ref r)) (fun it s₂ => codeAny (model prog w) A (.forLoop (.Name x px) it body orelse env) (fun r s' => match r with | .ok f => Q f s' | .error e => cameBackBy (model prog w) A env E e s') s₂) E s := by
  refine wpAny_pyIter_range hr hsmall ?_
  have W : Walks prog w A s.heap.objs.size [s.heap.objs.size] [s.heap.objs.size] n (fun i v => ∃ t, v = .int (a₀ + i * 1) t)
      (fun i h => IsRangeIter h s.heap.objs.size (a₀ + (i : Nat) * 1) ((n : Int) - (i : Nat)) 1) := Walks.range hh _ a₀ 1 n
  have hI : h₀.get? s.heap.objs.size = none := next_is_new F
  have hL : env.locals ≠ s.heap.objs.size := Nat.ne_of_lt F.ns.lt
  refine codeAny_forLoop
    (fun k s' => ∃ h' tk m' nx i, s' = { s with heap := h', toks := tk } ∧ IsRangeIter h' s.heap.objs.size (a₀ + ((i : Nat) : Int) * 1) ((n : Int) - ((i : Nat) : Int)) 1 ∧ Fr h₀ env.locals h' m' ∧ News h₀ env.locals h' nx ∧ (∀ p ∈ nx, p.1 ≠ s.heap.objs.size) ∧ J i m' nx ∧ i ≤ n ∧ k = n + 1 - i) ?_ (n + 1)
    ⟨_, s.toks, m₀, news, 0, rfl, ?_, F.push _, fun p hp => ⟨Heap.get?_push_of_some _ (N p hp).1, (N p hp).2⟩, fun p hp => Nat.ne_of_lt (Heap.lt_size (N p hp).1), hj, Nat.zero_le _, rfl⟩
  · rintro k s' ⟨h', tk, m', nx, i, rfl, hst', F', N', hnw', hJ, hi, rfl⟩
    have next : ∀ h₁ : Heap, (∀ b o, b ∉ [s.heap.objs.size] → h'.get? b = some o → h₁.get? b = some o) → Fr h₀ env.locals h₁ m' ∧ News h₀ env.locals h₁ nx := fun h₁ hk₁ =>
      ⟨⟨F'.ns.at' fun o e => hk₁ _ o (fun q => hL (List.mem_singleton.mp q)) e, fun b o e => hk₁ b o (fun q => by rw [List.mem_singleton.mp q, hI] at e; cases e) (F'.keep b o e), F'.above⟩,
        fun p hp => ⟨hk₁ _ _ (fun q => hnw' p hp (List.mem_singleton.mp q)) (N' p hp).1, (N' p hp).2⟩⟩
    by_cases hlt : i < n
    · refine W.item i _ _ _ hlt hst' fun v h₁ tk₁ hP hst₁ hk₁ => ?_
      obtain ⟨F₁, N₁⟩ := next h₁ hk₁
      obtain ⟨t, rfl⟩ := hP
      refine wpAny_assign_Name (wpAny_storeName_local hx F₁.ns (fun h₂ hn₂ hs₂ => ?_) hp)
      have F₂ := F₁.set hn₂ hs₂
      have hit : h₂.get? s.heap.objs.size = some (itR (a₀ + ((i + 1 : Nat) : Int)) ((n : Int) - ((i + 1 : Nat) : Int))) := by
        have e : h₁.get? s.heap.objs.size = some (itR (a₀ + ((i + 1 : Nat) : Int) * 1) ((n : Int) - ((i + 1 : Nat) : Int))) := hst₁
        rw [Int.mul_one] at e
        exact (hs₂.2 _ (Ne.symm hL)).trans e
      have N₂ : News h₀ env.locals h₂ ((s.heap.objs.size, itR (a₀ + ((i + 1 : Nat) : Int)) ((n : Int) - ((i + 1 : Nat) : Int))) :: nx) := fun p hp => by
        rcases List.mem_cons.mp hp with rfl | hp
        · exact ⟨hit, Ne.symm hL, hI⟩
        · exact (N₁.set hs₂) p hp
      rw [Int.mul_one] at F₂
      refine wpAny_mono (wpAny_passesOwn hE (turn i t m' nx h₂ _ _ hlt hnw' (fun p hp => Heap.lt_size (N p hp).1) hJ F₂ N₂)) (fun f s₃ h₃ => ?_) fun _ _ e => e
      have fin : UnrEnd h₀ env.locals { s with heap := h₂, toks := tk₁ + 1 } s.heap.objs.size (itR (a₀ + ((i + 1 : Nat) : Int)) ((n : Int) - ((i + 1 : Nat) : Int))) (J (i + 1)) s₃ →
          ∃ m, m < n + 1 - i ∧ ∃ h' tk m' nx i, s₃ = { s with heap := h', toks := tk } ∧ IsRangeIter h' s.heap.objs.size (a₀ + ((i : Nat) : Int) * 1) ((n : Int) - ((i : Nat) : Int)) 1 ∧ Fr h₀ env.locals h' m' ∧ News h₀ env.locals h' nx ∧ (∀ p ∈ nx, p.1 ≠ s.heap.objs.size) ∧ J i m' nx ∧ i ≤ n ∧ m = n + 1 - i := by
        rintro ⟨h₃', tk₃, m₃, nx₃, rfl, F₃, N₃, ha₃, hJ₃⟩
        refine ⟨n + 1 - (i + 1), by omega, h₃', tk₃, m₃, nx₃, i + 1, rfl, ?_, F₃, fun p hp => N₃ p (.tail _ hp), ha₃, hJ₃, hlt, rfl⟩
        have e := (N₃ _ (.head _)).1
        show h₃'.get? _ = some (itR (a₀ + ((i + 1 : Nat) : Int) * 1) ((n : Int) - ((i + 1 : Nat) : Int)))
        rw [Int.mul_one]; exact e
      cases f with
      | ret v => exact h₃
      | brk => exact h₃
      | cont => exact fin h₃
      | next => exact fin h₃
    · have hin : i = n := Nat.le_antisymm hi (Nat.le_of_not_lt hlt)
      subst hin
      refine W.done _ _ _ hst' fun h₁ tk₁ hk₁ => ?_
      obtain ⟨F₁, N₁⟩ := next h₁ hk₁
      exact wpAny_passesOwn hE (wpAny_mono (done m' nx h₁ tk₁ hJ F₁ N₁) (fun _ _ x => x) fun _ _ x => x)
  · show (s.heap.push _).get? _ = some _
    rw [hn]
    simpa using Heap.get?_push_size _ rfl
theorem For_else {pos : Pos} {iter : PySem.Expr}
    (h : wpAny (model prog w) A (eval iter env) (fun xv s₁ => wpAny (model prog w) A (pyIter xv) (fun it s₂ => codeAny (model prog w) A (.forLoop (.Name x px) it body orelse env) (fun r s' => match r with | .ok f => Q f s' | .error e => cameBackBy (model prog w) A env E e s') s₂) E s₁) E s)
    (hs : ∀ x, foldedSetIterable iter env x = pure x := by intro _; rfl) : wpAny (model prog w) A (exec (.For (.Name x px) iter body orelse pos) env) Q E s := wpAny_For h hs
end
end
section
theorem off_Pf : True := by w_top off; exact trivial
/-- the bits from c on -/
def ge (c : Nat) (f : Nat → Bool) : Nat → Bool := fun k => decide (c ≤ k) && f k
def nm : Nat → PySem.Str
  | 0 => PySem.Str.ofString "OPTIMIZED"
  | 1 => PySem.Str.ofString "NEWLOCALS"
  | 2 => PySem.Str.ofString "VARARGS"
  | 3 => PySem.Str.ofString "VARKEYWORDS"
  | _ => PySem.Str.ofString "NESTED"
def nmsTo (f : Nat → Bool) : Nat → List PySem.Str
  | 0 => []
  | c + 1 => nmsTo f c ++ (if c < 5 ∧ f c = true then [nm c] else [])
theorem strs_snoc {vs : List Value} {ns : List PySem.Str} (h : StrsAre vs ns) (n : PySem.Str) (t : Tok) : StrsAre (vs ++ [.str n t]) (ns ++ [n]) := by
  induction h with
  | nil => exact .cons _ _ .nil
  | cons m u _ ih => exact .cons m u ih
theorem strs_len {vs : List Value} {ns : List PySem.Str} (h : StrsAre vs ns) : vs.length = ns.length := by
  induction h with
  | nil => rfl
  | cons _ _ _ ih => simp [ih]
theorem nm_len (c : Nat) : (nm c).length ≤ 11 := by
  unfold nm; split <;> decide
theorem nmsTo_sum (f : Nat → Bool) : ∀ c, ((nmsTo f c).map (·.length)).sum ≤ 11 * c
  | 0 => Nat.le_refl _
  | c + 1 => by
    have := nmsTo_sum f c
    rw [nmsTo, List.map_append, List.sum_append]
    have := nm_len c
    split <;> simp <;> omega
theorem nmsTo_le (f : Nat → Bool) : ∀ c, (nmsTo f c).length ≤ c
  | 0 => Nat.le_refl _
  | c + 1 => by
    have := nmsTo_le f c
    rw [nmsTo, List.length_append]
    split <;> simp <;> omega
theorem nms_weight {f : Nat → Bool} {c : Nat} {y : PySem.Str} (hc : c ≤ 32) (hy : y.length ≤ 100) : ((nmsTo f c ++ [y]).map (·.length)).sum + (nmsTo f c ++ [y]).length ≤ 1048576 := by
  have := nmsTo_sum f c
  have := nmsTo_le f c
  simp only [List.map_append, List.sum_append, List.length_append, List.map_cons, List.map_nil, List.sum_cons, List.sum_nil, List.length_cons, List.length_nil]
  omega
theorem appendL_K {prog : Program} {w : World} {A : Around} {E : Value → Shared → Prop} {s : Shared} {h₀ : Heap} {L D : Addr} {m : PySem.Str → Option Value} {news news' : List (Addr × Obj)} {vs : List Value} {n : Nat} {x : Value} {Q : Value → Shared → Prop}
    (F : Fr h₀ L s.heap m) (N : News h₀ L s.heap news) (U : Upd D (listOf vs.toArray n) (listOf (vs ++ [x]).toArray (n + 1)) news news')
    (h : ∀ h', Fr h₀ L h' m → News h₀ L h' news' → Q .none { s with heap := h' }) (hsz : vs.toArray.size ≤ sizeLine) : wpAny (model prog w) A (call (.builtin "list.append") [.ref D, x]) Q E s :=
  append_K F N (by rw [List.push_toArray]; exact U) h hsz
/-- what pretty_flags tells of a mask -/
def pfl (f : Nat → Bool) : PySem.Str := if maskOf f = 0 then PySem.Str.ofString "0x0" else Txt.join (PySem.Str.ofString ", ") (nmsTo f 5)
theorem mask_zero {g : Nat → Bool} (hg : maskOf g = 0) {k : Nat} (hk : k < 5) : g k = false := by
  unfold maskOf at hg
  have : k = 0 ∨ k = 1 ∨ k = 2 ∨ k = 3 ∨ k = 4 := by omega
  cases e0 : g 0 <;> cases e1 : g 1 <;> cases e2 : g 2 <;> cases e3 : g 3 <;> cases e4 : g 4 <;> simp only [e0, e1, e2, e3, e4] at hg <;> first | (exfalso; revert hg; decide) | (rcases this with rfl | rfl | rfl | rfl | rfl <;> assumption)
theorem nms_none {f : Nat → Bool} (h : maskOf f = 0) : ∀ c, nmsTo f c = []
  | 0 => rfl
  | c + 1 => by rw [nmsTo, nms_none h c, if_neg (fun q => by rw [mask_zero h q.1] at q; cases q.2)]; rfl
theorem pfl_zero {f : Nat → Bool} (h : maskOf f = 0) (c : Nat) : Txt.join (PySem.Str.ofString ", ") (nmsTo f c ++ [PySem.Str.ofString "0x0"]) = pfl f := by
  rw [nms_none h, pfl, if_pos h]; decide
theorem nms_end {f : Nat → Bool} {c : Nat} (h5 : c < 5) (hf : f c = true) (hz : maskOf (ge (c + 1) f) = 0) : nmsTo f c ++ [nm c] = nmsTo f 5 := by
  have e : nmsTo f (c + 1) = nmsTo f c ++ [nm c] := by rw [nmsTo, if_pos ⟨h5, hf⟩]
  rw [← e]
  have key : ∀ k, c + 1 ≤ k → k < 5 → f k = false := by
    intro k h1 h2
    have hg : ge (c + 1) f k = f k := by simp only [ge, decide_eq_true h1, Bool.true_and]
    rw [← hg]; exact mask_zero hz h2
  have step : ∀ k, c + 1 ≤ k → k < 5 → nmsTo f (k + 1) = nmsTo f k := fun k h1 h2 => by
    rw [nmsTo, if_neg (fun q => by rw [key k h1 h2] at q; cases q.2), List.append_nil]
  have hc4 : c = 0 ∨ c = 1 ∨ c = 2 ∨ c = 3 ∨ c = 4 := by omega
  rcases hc4 with rfl | rfl | rfl | rfl | rfl
  · rw [step 4 (by decide) (by decide), step 3 (by decide) (by decide), step 2 (by decide) (by decide), step 1 (by decide) (by decide)]
  · rw [step 4 (by decide) (by decide), step 3 (by decide) (by decide), step 2 (by decide) (by decide)]
  · rw [step 4 (by decide) (by decide), step 3 (by decide) (by decide)]
  · rw [step 4 (by decide) (by decide)]
  · rfl
theorem mask_pos {f : Nat → Bool} {c : Nat} (h5 : c < 5) (hf : f c = true) : maskOf f ≠ 0 := by
  intro hg
  unfold maskOf at hg
  have : c = 0 ∨ c = 1 ∨ c = 2 ∨ c = 3 ∨ c = 4 := by omega
  rcases this with rfl | rfl | rfl | rfl | rfl <;> rw [hf] at hg <;> revert hg <;> (try cases f 0) <;> (try cases f 1) <;> (try cases f 2) <;> (try cases f 3) <;> (try cases f 4) <;> decide
theorem join_K {prog : Program} {w : World} {A : Around} {E : Value → Shared → Prop} {s : Shared} {h₀ : Heap} {L T : Addr} {news : List (Addr × Obj)} {x : PySem.Str} {t : Tok} {vs : List Value} {ys : List PySem.Str} {k : Nat} {Q : Value → Shared → Prop}
    (N : News h₀ L s.heap news) (hl : (T, listOf vs.toArray k) ∈ news) (hi : StrsAre vs ys) (hsep : x.length ≤ 16) (hw : (ys.map (·.length)).sum + ys.length ≤ 1048576)
    (h : ∀ t' k, Q (.str (Txt.join x ys) t') { s with toks := k }) : wpAny (model prog w) A (call (.builtin "str.join") [.str x t, .ref T]) Q E s :=
  join_listW ⟨_, (N _ hl).1, rfl, k, rfl⟩ hi hsep hw h
theorem xorF : ∀ b0 b1 b2 b3 b4 : Bool, ∀ c : Fin 5, sel b0 b1 b2 b3 b4 c.val = true → Builtin.bitXor (maskOf (ge c.val (sel b0 b1 b2 b3 b4))) (2 ^ c.val) = maskOf (ge (c.val + 1) (sel b0 b1 b2 b3 b4)) := by decide +kernel
theorem andF : ∀ b0 b1 b2 b3 b4 : Bool, ∀ c : Fin 5, Builtin.bitAnd (maskOf (ge c.val (sel b0 b1 b2 b3 b4))) (2 ^ c.val) = if sel b0 b1 b2 b3 b4 c.val then 2 ^ c.val else 0 := by decide +kernel
theorem and0F : ∀ c : Fin 32, Builtin.bitAnd 0 (1 * 2 ^ c.val) = 0 := by decide +kernel
theorem ge_congr (c : Nat) (f : Nat → Bool) : maskOf (ge c (sel (f 0) (f 1) (f 2) (f 3) (f 4))) = maskOf (ge c f) := mask_upd_congr fun k hk => by simp only [ge, sel_at f k hk]
theorem ge_high {c : Nat} (f : Nat → Bool) (h : 5 ≤ c) : maskOf (ge c f) = 0 := by
  have e : ∀ k, k < 5 → ge c f k = false := fun k hk => by simp only [ge, Bool.and_eq_false_iff, decide_eq_false_iff_not]; left; omega
  unfold maskOf
  rw [e 0 (by decide), e 1 (by decide), e 2 (by decide), e 3 (by decide), e 4 (by decide)]; rfl
theorem and_bit {c : Nat} (f : Nat → Bool) (h : c < 5) : Builtin.bitAnd (maskOf (ge c f)) (2 ^ c) = if f c then 2 ^ c else 0 := by
  have := andF (f 0) (f 1) (f 2) (f 3) (f 4) ⟨c, h⟩
  rw [ge_congr] at this
  simpa only [sel_at f c h] using this
theorem xor_bit {c : Nat} (f : Nat → Bool) (h : c < 5) (hf : f c = true) : Builtin.bitXor (maskOf (ge c f)) (2 ^ c) = maskOf (ge (c + 1) f) := by
  have := xorF (f 0) (f 1) (f 2) (f 3) (f 4) ⟨c, h⟩ (by rw [sel_at f c h]; exact hf)
  rwa [ge_congr, ge_congr] at this
theorem and_none {c : Nat} (f : Nat → Bool) (h : c < 32) (hf : c < 5 → f c = false) : Builtin.bitAnd (maskOf (ge c f)) (1 * 2 ^ c) = 0 := by
  by_cases h5 : c < 5
  · rw [Int.one_mul, and_bit f h5, hf h5]; rfl
  · rw [ge_high f (by omega)]; exact and0F ⟨c, h⟩
theorem ge_skip {c : Nat} (f : Nat → Bool) (hf : c < 5 → f c = false) : maskOf (ge (c + 1) f) = maskOf (ge c f) := mask_upd_congr fun k hk => by
  simp only [ge]
  by_cases e : k = c
  · subst e; rw [hf hk, Bool.and_false, Bool.and_false]
  · congr 1; simp only [decide_eq_decide]; omega
structure FrF (m₀ m : PySem.Str → Option Value) (v : Int) : Prop where
  off : ∀ y, y ≠ PySem.Str.ofString "i" → y ≠ PySem.Str.ofString "flag" → y ≠ PySem.Str.ofString "flags" → m y = m₀ y
  flags : ∃ t, m (PySem.Str.ofString "flags") = some (.int v t)
abbrev mapF (m₀ : PySem.Str → Option Value) (v : Int) (a : Option Value) (t : Tok) (u : Option Value) : PySem.Str → Option Value := fun y =>
  if y = PySem.Str.ofString "i" then a else if y = PySem.Str.ofString "flags" then some (.int v t) else if y = PySem.Str.ofString "flag" then u else m₀ y
theorem FrF.map {m₀ m : PySem.Str → Option Value} {v : Int} (f : FrF m₀ m v) (a : Option Value) : ∃ t u, (fun y => if y = PySem.Str.ofString "i" then a else m y) = mapF m₀ v a t u := by
  obtain ⟨t, ht⟩ := f.flags
  refine ⟨t, m (PySem.Str.ofString "flag"), ?_⟩
  funext y
  unfold mapF
  by_cases h1 : y = PySem.Str.ofString "i"
  · rw [if_pos h1, if_pos h1]
  rw [if_neg h1, if_neg h1]
  by_cases h2 : y = PySem.Str.ofString "flags"
  · rw [if_pos h2, h2, ht]
  rw [if_neg h2]
  by_cases h3 : y = PySem.Str.ofString "flag"
  · rw [if_pos h3, h3]
  rw [if_neg h3]
  exact f.off y h1 h3 h2
section
variable {prog : Program} {w : World} {A : Around} {E : Value → Shared → Prop} {s : Shared} {Q : Value → Shared → Prop} {f : Nat → Bool} {c : Nat} {p : Int} {t u : Tok}
theorem shlc_K (h : c < 32) (k : Q (.int (1 * 2 ^ c) s.toks) { s with toks := s.toks + 1 }) : wpAny (model prog w) A (binaryOp .LShift (.int 1 t) (.int (0 + (c : Int)) u)) Q E s :=
  lshift_int_small (by omega) (by omega) (by decide) (by rw [show (0 + (c : Int)).toNat = c from by omega]; exact k)
theorem shlp_K (e : (1 : Int) * 2 ^ c = p) (h : c < 32) (k : Q (.int p s.toks) { s with toks := s.toks + 1 }) : wpAny (model prog w) A (binaryOp .LShift (.int 1 t) (.int (0 + (c : Int)) u)) Q E s := shlc_K h (by rw [e]; exact k)
theorem andn_K (h : c < 32) (hf : c < 5 → f c = false) (k : Q (.int 0 s.toks) { s with toks := s.toks + 1 }) : wpAny (model prog w) A (binaryOp .BitAnd (.int (maskOf (ge c f)) t) (.int (1 * 2 ^ c) u)) Q E s := and_int (by rw [and_none f h hf]; exact k)
theorem andp_K (h : c < 5) (hf : f c = true) (hp : p = 2 ^ c) (k : Q (.int p s.toks) { s with toks := s.toks + 1 }) : wpAny (model prog w) A (binaryOp .BitAnd (.int (maskOf (ge c f)) t) (.int p u)) Q E s := and_int (by rw [hp, and_bit f h, hf]; rw [hp] at k; exact k)
theorem xorp_K (h : c < 5) (hf : f c = true) (hp : p = 2 ^ c) (k : Q (.int (maskOf (ge (c + 1) f)) s.toks) { s with toks := s.toks + 1 }) : wpAny (model prog w) A (inplaceOp .BitXor (.int (maskOf (ge c f)) t) (.int p u)) Q E s := ixor_int (by rw [hp, xor_bit f h hf]; exact k)
end
section
variable {prog : Program} {w : World} {A : Around} {E : Value → Shared → Prop} {s : Shared} {env : Env} {h₀ : Heap} {px : Pos} {body orelse : List Stmt} {Q : Flow → Shared → Prop}
theorem iter_flags {r : Addr} {a₀ b₀ : Int} {t₀ u₀ v₀ : Tok} {n : Nat} {m₀ : PySem.Str → Option Value} {news : List (Addr × Obj)} (V : Nat → Int) (J : Nat → List (Addr × Obj) → Prop)
    (hh : A.handled = none) (hr : IsRange s.heap r a₀ b₀ 1 t₀ u₀ v₀) (hsmall : Builtin.Range.small a₀ b₀ 1 = true) (hn : Builtin.Range.rangeSize a₀ b₀ 1 = (n : Int)) (F : Fr h₀ env.locals s.heap m₀) (N : News h₀ env.locals s.heap news) (hM : FrF m₀ m₀ (V 0)) (hj : J 0 news)
    (hx : env.kindOf (PySem.Str.ofString "i") = some .local) (hp : (env.scope.kind == .class || (env.scope.kind == .module && env.locals != env.globals)) = false)
    (turn : ∀ c t tf u nx h tk I, c < n → (∀ p ∈ nx, p.1 ≠ I) → (∀ p ∈ news, p.1 < I) → J c nx → Fr h₀ env.locals h (mapF m₀ (V c) (some (.int (a₀ + (c : Int)) t)) tf u) → News h₀ env.locals h ((I, itR (a₀ + ((c + 1 : Nat) : Int)) ((n : Int) - ((c + 1 : Nat) : Int))) :: nx) →
      wpAny (model prog w) A (execs body env) (UnrPost h₀ env.locals { s with heap := h, toks := tk } I (itR (a₀ + ((c + 1 : Nat) : Int)) ((n : Int) - ((c + 1 : Nat) : Int))) (fun m nx => FrF m₀ m (V (c + 1)) ∧ J (c + 1) nx) Q) E { s with heap := h, toks := tk })
    (done : ∀ tf u v nx h tk, J n nx → Fr h₀ env.locals h (mapF m₀ (V n) v tf u) → News h₀ env.locals h nx → wpAny (model prog w) A (execs orelse env) Q E { s with heap := h, toks := tk })
    (hE : PassesOwn (model prog w) A env E) :
    wpAny (model prog w) A (pyIter (.ref r)) (fun it s₂ => codeAny (model prog w) A (.forLoop (.Name (PySem.Str.ofString "i") px) it body orelse env) (fun r s' => match r with | .ok f => Q f s' | .error e => cameBackBy (model prog w) A env E e s') s₂) E s := by
  refine iter_rangeElse (fun c m nx => FrF m₀ m (V c) ∧ J c nx) hh hr hsmall hn F N ⟨hM, hj⟩ hx hp ?_ ?_ hE
  · rintro c t m₁ nx h tk I hc h1 h2 ⟨hf, hj⟩ F' N'
    obtain ⟨tf, u, e⟩ := hf.map (some (.int (a₀ + (c : Int)) t))
    rw [e] at F'
    exact turn c t tf u nx h tk I hc h1 h2 hj F' N'
  · rintro m₁ nx h tk ⟨hf, hj⟩ F' N'
    obtain ⟨tf, u, e⟩ := hf.map (m₁ (PySem.Str.ofString "i"))
    have e2 : (fun y => if y = PySem.Str.ofString "i" then m₁ (PySem.Str.ofString "i") else m₁ y) = m₁ := by
      funext y
      by_cases hy : y = PySem.Str.ofString "i"
      · rw [if_pos hy, hy]
      · rw [if_neg hy]
    rw [e2] at e
    rw [e] at F'
    exact done tf u _ nx h tk hj F' N'
end
section
local macro_rules | `(tactic| walk_at "exec For") => `(tactic| (k_here; (with_unfolding_all refine For_else ?_ (by intro _; rfl))))
local macro_rules | `(tactic| k_all) => `(tactic| assumption)
local macro_rules | `(tactic| walk_at "call builtin:list.append") => `(tactic| (k_here; k_dflt (refine' appendL_K ?k1 ?k2 ?k3 ?_ ?z; (case k1 => k_asm); (case k2 => k_asm); (case k3 => k_upd); (case z => assumption); k_whole); intro h' F' N'))
local macro_rules | `(tactic| walk_at "call builtin:str.join") => `(tactic| (k_here; k_dflt (refine' join_K ?N ?hl ?hi ?hs ?hw ?_; (case N => k_asm); (case hl => (repeat (first | exact List.Mem.head _ | apply List.Mem.tail))); (case hi => first | assumption | exact strs_snoc (by assumption) _ _); (case hs => decide); (case hw => exact nms_weight (by decide) (by decide))); intro t' k'))
local macro_rules | `(tactic| walk_at "pyIter ref") => `(tactic| (refine Stop.go ?_))
local macro_rules | `(tactic| walk_at "binaryOp LShift int int") => `(tactic| (k_here; with_reducible first | refine shlp_K (by assumption) (by omega) ?_ | refine shlc_K (by omega) ?_))
local macro_rules | `(tactic| walk_at "binaryOp BitAnd int int") => `(tactic| (k_here; with_reducible first | refine andn_K (by omega) (by assumption) ?_ | refine andp_K (by omega) (by assumption) (by decide) ?_))
local macro_rules | `(tactic| walk_at "inplaceOp BitXor int int") => `(tactic| (k_here; with_reducible refine xorp_K (by omega) (by assumption) (by decide) ?_))
local macro_rules | `(tactic| walk_at "UnrEnd") => `(tactic| (refine Stop.go ?_))
set_option maxRecDepth 100000 in
set_option maxHeartbeats 8000000 in
theorem c_flags {w : World} {news : List (Addr × Obj)} (f : Nat → Bool) (t0 : Tok) :
   Ct w 36 [.int (maskOf f) t0] 20 news (fun r news' => ∃ t, r = .str (pfl f) t ∧ news' = news) := by
  unfold Ct
  intro prog loose mean mg mb dp un gd cn cs a ccd cl outer A₀ base h₀ L m s Q E B F X N T hk hd hu hret
  refine wpAny_call ?_
  k_dflt ktr_enter
  k_steps
  rename_i g9 L9 _ _ _ _ _ _ T9 _ lT _ _ _ h9 tk9 _ _ _ hR F9 N9 _
  refine Stop.mk ?_
  refine iter_flags (n := 32) (fun c => maskOf (ge c f)) (fun c nx => (maskOf (ge c f) = 0 → maskOf f = 0) ∧ ∃ tv tk, StrsAre tv (nmsTo f c) ∧ nx = (T9, listOf tv.toArray tk) :: news) rfl hR (small_one (by decide) (by decide) (by decide) (by decide)) (by decide) F9 N9 ⟨fun _ _ _ _ => rfl, ⟨_, rfl⟩⟩ ⟨fun e => e, [], _, .nil, rfl⟩ rfl rfl ?_ ?_ (by passes_own)
  · rintro c t tf u nx h tk I hc h1 h2 ⟨hnb, tv, kk, hst, rfl⟩ F8 N8
    change Fr g9 L9 h _ at F8
    change News g9 L9 h _ at N8
    dsimp only [mapF] at F8
    have hTI : @LT.lt Nat _ T9 I := h2 _ (.head _)
    have h1' : ∀ o, ∀ p ∈ (T9, o) :: news, p.1 ≠ I := fun o p hp => by
      rcases List.mem_cons.mp hp with rfl | hp
      · exact h1 (T9, listOf tv.toArray kk) (.head _)
      · exact h1 _ (.tail _ hp)
    have neT : ∀ p ∈ news, p.1 ≠ T9 := fun p hp => Nat.ne_of_lt (lT p hp)
    have hts : tv.toArray.size ≤ sizeLine := by
      rw [List.size_toArray, strs_len hst, sizeLine_eq]
      have := nmsTo_le f c
      omega
    by_cases hb : c < 5 → f c = false
    · k_steps
      (with_reducible rename Fr _ _ _ _ => F4)
      (with_reducible rename News _ _ _ _ => N4)
      refine Stop.mk ⟨_, _, _, _, rfl, F4, N4, h1, ⟨fun y q1 q2 q3 => ?_, ?_⟩, fun e => hnb (by rw [← ge_skip f hb]; exact e), tv, kk, ?_, rfl⟩
      · simp only [if_neg q1, if_neg q2, if_neg q3, mapF]
      · rw [ge_skip f hb]; exact ⟨_, rfl⟩
      · rw [nmsTo, if_neg (fun q => by rw [hb q.1] at q; cases q.2), List.append_nil]; exact hst
    · have hc5 : c < 5 := Nat.lt_of_not_le fun q => hb fun q2 => absurd q2 (Nat.not_lt.mpr q)
      have hfc : f c = true := by
        cases e : f c
        · exact absurd (fun _ => e) hb
        · rfl
      have hc4 : c = 0 ∨ c = 1 ∨ c = 2 ∨ c = 3 ∨ c = 4 := by omega
      rcases hc4 with rfl | rfl | rfl | rfl | rfl
      · have hP : (1 : Int) * 2 ^ 0 = 1 := rfl
        k_steps
        · (with_reducible rename Fr _ _ _ _ => F4)
          (with_reducible rename News _ _ _ _ => N4)
          refine Stop.mk ⟨_, _, _, _, rfl, F4, N4, h1' _, ⟨fun y q1 q2 q3 => ?_, ⟨_, rfl⟩⟩, fun e => absurd e (by assumption), _, _, ?_, rfl⟩
          · simp only [if_neg q1, if_neg q2, if_neg q3, mapF]; rfl
          · rw [nmsTo, if_pos ⟨hc5, hfc⟩]; exact strs_snoc hst (nm 0) _
        · (with_reducible rename News _ _ _ _ => N4)
          refine hret _ news _ _ (by assumption) (cb_drop N4 fun p hp => List.Mem.tail _ (List.Mem.tail _ hp)) ⟨_, congrArg (fun x => Value.str x _) ?_, rfl⟩
          exact (congrArg (Txt.join _) (nms_end hc5 hfc (by assumption))).trans (if_neg (mask_pos hc5 hfc)).symm
      · have hP : (1 : Int) * 2 ^ 1 = 2 := rfl
        k_steps
        · (with_reducible rename Fr _ _ _ _ => F4)
          (with_reducible rename News _ _ _ _ => N4)
          refine Stop.mk ⟨_, _, _, _, rfl, F4, N4, h1' _, ⟨fun y q1 q2 q3 => ?_, ⟨_, rfl⟩⟩, fun e => absurd e (by assumption), _, _, ?_, rfl⟩
          · simp only [if_neg q1, if_neg q2, if_neg q3, mapF]; rfl
          · rw [nmsTo, if_pos ⟨hc5, hfc⟩]; exact strs_snoc hst (nm 1) _
        · (with_reducible rename News _ _ _ _ => N4)
          refine hret _ news _ _ (by assumption) (cb_drop N4 fun p hp => List.Mem.tail _ (List.Mem.tail _ hp)) ⟨_, congrArg (fun x => Value.str x _) ?_, rfl⟩
          exact (congrArg (Txt.join _) (nms_end hc5 hfc (by assumption))).trans (if_neg (mask_pos hc5 hfc)).symm
      · have hP : (1 : Int) * 2 ^ 2 = 4 := rfl
        k_steps
        · (with_reducible rename Fr _ _ _ _ => F4)
          (with_reducible rename News _ _ _ _ => N4)
          refine Stop.mk ⟨_, _, _, _, rfl, F4, N4, h1' _, ⟨fun y q1 q2 q3 => ?_, ⟨_, rfl⟩⟩, fun e => absurd e (by assumption), _, _, ?_, rfl⟩
          · simp only [if_neg q1, if_neg q2, if_neg q3, mapF]; rfl
          · rw [nmsTo, if_pos ⟨hc5, hfc⟩]; exact strs_snoc hst (nm 2) _
        · (with_reducible rename News _ _ _ _ => N4)
          refine hret _ news _ _ (by assumption) (cb_drop N4 fun p hp => List.Mem.tail _ (List.Mem.tail _ hp)) ⟨_, congrArg (fun x => Value.str x _) ?_, rfl⟩
          exact (congrArg (Txt.join _) (nms_end hc5 hfc (by assumption))).trans (if_neg (mask_pos hc5 hfc)).symm
      · have hP : (1 : Int) * 2 ^ 3 = 8 := rfl
        k_steps
        · (with_reducible rename Fr _ _ _ _ => F4)
          (with_reducible rename News _ _ _ _ => N4)
          refine Stop.mk ⟨_, _, _, _, rfl, F4, N4, h1' _, ⟨fun y q1 q2 q3 => ?_, ⟨_, rfl⟩⟩, fun e => absurd e (by assumption), _, _, ?_, rfl⟩
          · simp only [if_neg q1, if_neg q2, if_neg q3, mapF]; rfl
          · rw [nmsTo, if_pos ⟨hc5, hfc⟩]; exact strs_snoc hst (nm 3) _
        · (with_reducible rename News _ _ _ _ => N4)
          refine hret _ news _ _ (by assumption) (cb_drop N4 fun p hp => List.Mem.tail _ (List.Mem.tail _ hp)) ⟨_, congrArg (fun x => Value.str x _) ?_, rfl⟩
          exact (congrArg (Txt.join _) (nms_end hc5 hfc (by assumption))).trans (if_neg (mask_pos hc5 hfc)).symm
      · have hP : (1 : Int) * 2 ^ 4 = 16 := rfl
        k_steps
        · (with_reducible rename Fr _ _ _ _ => F4)
          (with_reducible rename News _ _ _ _ => N4)
          refine Stop.mk ⟨_, _, _, _, rfl, F4, N4, h1' _, ⟨fun y q1 q2 q3 => ?_, ⟨_, rfl⟩⟩, fun e => absurd e (by assumption), _, _, ?_, rfl⟩
          · simp only [if_neg q1, if_neg q2, if_neg q3, mapF]; rfl
          · rw [nmsTo, if_pos ⟨hc5, hfc⟩]; exact strs_snoc hst (nm 4) _
        · (with_reducible rename News _ _ _ _ => N4)
          refine hret _ news _ _ (by assumption) (cb_drop N4 fun p hp => List.Mem.tail _ (List.Mem.tail _ hp)) ⟨_, congrArg (fun x => Value.str x _) ?_, rfl⟩
          exact (congrArg (Txt.join _) (nms_end hc5 hfc (by assumption))).trans (if_neg (mask_pos hc5 hfc)).symm
  · rintro tf u v nx h tk ⟨hnb, tv, kk, hst, rfl⟩ F8 N8
    change Fr g9 L9 h _ at F8
    change News g9 L9 h _ at N8
    dsimp only [mapF] at F8
    have hts : tv.toArray.size ≤ sizeLine := by
      rw [List.size_toArray, strs_len hst, sizeLine_eq]
      have := nmsTo_le f 32
      omega
    have neT : ∀ p ∈ news, p.1 ≠ T9 := fun p hp => Nat.ne_of_lt (lT p hp)
    rw [show maskOf (ge 32 f) = 0 from ge_high f (by decide)] at F8
    k_steps
    (with_reducible rename News _ _ _ _ => N4)
    refine hret _ news _ _ (by assumption) (drop1 N4) ⟨_, congrArg (fun x => Value.str x _) ?_, rfl⟩
    exact pfl_zero (hnb (ge_high f (by decide))) 32
end
end
section
theorem off_Ptr : True := by w_top off; exact trivial
def ptr (v : Int) : Int := [256, 257, 258, 259, 260, 0, 255, 1 + (v.fdiv 8).fmod 254].getD (v.fmod 8).toNat 0
theorem ptr_in (v : Int) : 0 ≤ ptr v ∧ ptr v ≤ 260 := by
  have h1 : 0 ≤ (v.fdiv 8).fmod 254 := Int.fmod_nonneg_of_pos _ (by decide)
  have h2 : (v.fdiv 8).fmod 254 < 254 := Int.fmod_lt_of_pos _ (by decide)
  have h3 : 0 ≤ v.fmod 8 := Int.fmod_nonneg_of_pos _ (by decide)
  have h4 : v.fmod 8 < 8 := Int.fmod_lt_of_pos _ (by decide)
  have h5 : (v.fmod 8).toNat = 0 ∨ (v.fmod 8).toNat = 1 ∨ (v.fmod 8).toNat = 2 ∨ (v.fmod 8).toNat = 3 ∨ (v.fmod 8).toNat = 4 ∨ (v.fmod 8).toNat = 5 ∨ (v.fmod 8).toNat = 6 ∨ (v.fmod 8).toNat = 7 := by omega
  unfold ptr
  rcases h5 with h | h | h | h | h | h | h | h <;> rw [h] <;> simp <;> omega
set_option maxRecDepth 100000 in
set_option maxHeartbeats 8000000 in
theorem c_ptr {w : World} {news : List (Addr × Obj)} (v : Int) (t0 : Tok) :
   Ct w 92 [.int v t0] 10 news (fun r news' => (∃ t, r = .int (ptr v) t) ∧ news' = news) := by
  unfold Ct
  intro prog loose mean mg mb dp un gd cn cs a ccd cl outer A₀ base h₀ L m s Q E B F X N T hk hd hu hret
  refine wpAny_call ?_
  k_dflt ktr_enter
  k_steps
  (with_reducible rename News _ _ _ _ => N4)
  exact hret _ news _ _ (by assumption) (drop1 N4) ⟨⟨_, rfl⟩, rfl⟩
end
section
section
variable {prog : Program} {w : World} {A : Around} {E : Value → Shared → Prop} {s : Shared} {env : Env} {h₀ : Heap} {x : PySem.Str} {body : List Stmt} {Q : Flow → Shared → Prop}
theorem iter_listJ {l : Addr} {vs : List Value} {ns : List Int} {nn : Nat} {m₀ : PySem.Str → Option Value} {news : List (Addr × Obj)} (J : Nat → List (Addr × Obj) → Prop)
    (hh : A.handled = none) (hl : (l, listOf vs.toArray nn) ∈ news) (hi : IntsAre vs ns) (F : Fr h₀ env.locals s.heap m₀) (N : News h₀ env.locals s.heap news) (hj : J 0 news)
    (turn : ∀ i n t nx h tk own, ns[i]? = some n → OwnOff own (news.map (·.1)) → J i nx → Fr h₀ env.locals h (fun y => if y = x then some (.int n t) else m₀ y) → News h₀ env.locals h (nx ++ own) →
      wpAny (model prog w) A (execs body env) (InvPostN h₀ env.locals (fun m nx => (l, listOf vs.toArray nn) ∈ nx ∧ (∀ y, y ≠ x → m y = m₀ y) ∧ J (i + 1) nx) own (news.map (·.1)) { s with heap := h, toks := tk } Q) E { s with heap := h, toks := tk })
    (done : ∀ u nx h tk, J ns.length nx → Fr h₀ env.locals h (fun y => if y = x then u else m₀ y) → News h₀ env.locals h nx → Q .next { s with heap := h, toks := tk }) :
    wpAny (model prog w) A (pyIter (.ref l)) (fun it s₂ => LoopAtV prog w A h₀ env x body Q E it s₂) E s := by
  refine iter_invNL (fun i m nx => (∀ y, y ≠ x → m y = m₀ y) ∧ J i nx) hh hl hi F N ⟨fun _ _ => rfl, hj⟩ ?_ ?_
  · rintro i n t m₁ nx h tk own hn - hoff - ⟨hm, hj⟩ F' N'
    rw [map_none hm] at F'
    exact turn i n t nx h tk own hn hoff hj F' N'
  · rintro m₁ nx h tk - ⟨hm, hj⟩ F' N'
    have e : m₁ = fun y => if y = x then m₁ x else m₀ y := by
      funext y
      by_cases hy : y = x
      · rw [if_pos hy, hy]
      · rw [if_neg hy]; exact hm y hy
    rw [e] at F'
    exact done _ nx h tk hj F' N'
end
theorem extL_K {prog : Program} {w : World} {A : Around} {E : Value → Shared → Prop} {s : Shared} {h₀ : Heap} {L D b : Addr} {m : PySem.Str → Option Value} {news news' : List (Addr × Obj)} {vs : List Value} {ws : Array Value} {n n2 : Nat} {Q : Value → Shared → Prop}
    (F : Fr h₀ L s.heap m) (N : News h₀ L s.heap news) (hb : (b, listOf ws n2) ∈ news) (hne : ws.toList.length ≠ 0) (U : Upd D (listOf vs.toArray n) (listOf (vs ++ ws.toList).toArray (n + 1)) news news') (hz : vs.length + ws.size ≤ 1000)
    (h : ∀ h', Fr h₀ L h' m → News h₀ L h' news' → Q .none { s with heap := h' }) : wpAny (model prog w) A (call (.builtin "list.extend") [.ref D, .ref b]) Q E s :=
  kl_extend F N hb rfl hne U (by
    simp only [Builtin.List.listTooLong, List.size_toArray, sizeLine_eq]
    simp; omega) (by rw [sizeLine_eq]; simp; omega) (by rw [sizeLine_eq]; simp; omega) h
theorem octs_in {n : Int} (h : 0 ≤ n ∧ n ≤ 260) : ∀ v ∈ octs n, 0 ≤ v ∧ v < 128 := by
  intro v hv
  unfold octs at hv
  split at hv
  · rw [List.mem_singleton.mp hv]; omega
  · rcases List.mem_cons.mp hv with rfl | hv
    · omega
    · rw [List.mem_singleton.mp hv]; omega
theorem octs_two (n : Int) : (octs n).length ≤ 2 := by unfold octs; split <;> simp
theorem octs_le : ∀ nums : List Int, (nums.flatMap octs).length ≤ 2 * nums.length
  | [] => Nat.zero_le _
  | n :: r => by
    have := octs_le r
    have := octs_two n
    simp only [List.length_cons, List.flatMap_cons, List.length_append]; omega
theorem numbers_len (ptr' : Int → Int) (ns : List Int) : (List.map ptr' (ns.take 11 ++ ([1, 8, 0, 3, 15, 2, 6, 4, 5, 1, 0] : List Int).drop ns.length)).length = 11 := by
  rw [List.length_map, List.length_append, List.length_take, List.length_drop]
  simp only [List.length_cons, List.length_nil]; omega
theorem ptrs_in {f : Int → Int} (h : ∀ v, 0 ≤ f v ∧ f v ≤ 260) {l : List Int} : ∀ n ∈ List.map f l, 0 ≤ n ∧ n ≤ 260 := fun n hn => by
  obtain ⟨v, _, rfl⟩ := List.mem_map.mp hn
  exact h v
theorem pick4 {h₀ h : Heap} {L : Addr} {a b x1 x2 x3 x4 c d : Addr × Obj} (N : News h₀ L h [a, b, x1, x2, x3, x4, c, d]) : News h₀ L h [a, b, c, d] := fun p hp => N p (by
  simp only [List.mem_cons, List.not_mem_nil, or_false] at hp ⊢
  rcases hp with h | h | h | h <;> simp only [h, true_or, or_true])
theorem flat_snoc {nums : List Int} {c : Nat} {n : Int} (h : nums[c]? = some n) : (nums.take (c + 1)).flatMap octs = (nums.take c).flatMap octs ++ octs n := by
  rw [List.take_add_one, h]; simp
theorem ne_lt2 {a b : Addr} (h : @LT.lt Nat _ a b) : a ≠ b := Nat.ne_of_lt h
theorem ne5 {d : Addr} {a b c e f : Addr × Obj} (h : @LT.lt Nat _ a.1 d ∧ @LT.lt Nat _ b.1 d ∧ @LT.lt Nat _ c.1 d ∧ @LT.lt Nat _ e.1 d ∧ @LT.lt Nat _ f.1 d) : ∀ p ∈ [a, b, c, e, f], p.1 ≠ d := by
  intro p hp
  simp only [List.mem_cons, List.not_mem_nil, or_false] at hp
  rcases hp with rfl | rfl | rfl | rfl | rfl
  · exact Nat.ne_of_lt h.1
  · exact Nat.ne_of_lt h.2.1
  · exact Nat.ne_of_lt h.2.2.1
  · exact Nat.ne_of_lt h.2.2.2.1
  · exact Nat.ne_of_lt h.2.2.2.2
theorem lr_ms {ms : List Int} : List.take 5 ms ++ List.take 5 (List.drop 5 ms) = List.take 10 ms := by
  rw [← List.take_add]
theorem perm3 {h₀ h : Heap} {L : Addr} {p q r : Addr × Obj} {t : List (Addr × Obj)} (N : News h₀ L h (p :: q :: r :: t)) : News h₀ L h (r :: q :: p :: t) := fun x hx => N x (by
  simp only [List.mem_cons] at hx ⊢
  rcases hx with h | h | h | h <;> simp only [h, true_or, or_true])
theorem pickC {h₀ h : Heap} {L : Addr} {a b c d e1 e2 e3 T e5 e6 e7 e8 D c1 c2 : Addr × Obj} {tl : List (Addr × Obj)} (N : News h₀ L h (a :: b :: c :: d :: (tl ++ [e1, e2, e3, T, e5, e6, e7, e8, D, c1, c2]))) : News h₀ L h (a :: d :: D :: T :: c1 :: c2 :: tl) := fun x hx => N x (by
  simp only [List.mem_cons, List.mem_append, List.not_mem_nil, or_false] at hx ⊢
  rcases hx with h | h | h | h | h | h | h <;> simp only [h, true_or, or_true])
theorem pickD {h₀ h : Heap} {L : Addr} {a x1 x2 x3 x4 M x6 D T c1 c2 : Addr × Obj} {tl : List (Addr × Obj)} (N : News h₀ L h (a :: x1 :: x2 :: x3 :: x4 :: M :: x6 :: D :: T :: c1 :: c2 :: tl)) : News h₀ L h [a, M, c1, c2] := fun x hx => N x (by
  simp only [List.mem_cons, List.not_mem_nil, or_false] at hx ⊢
  rcases hx with h | h | h | h <;> simp only [h, true_or, or_true])
end
section
def code (p : Int × Int) : Int := 4096 * p.1 + p.2
def Quiet (s : St) : Prop := ¬ (256 ≤ s.ahead ∧ s.marks (s.ahead - 256).toNat = false)
structure InvS (L R : List Int) (met : List Int) (s : St) : Prop where
  good : Good s
  mks : ∀ c, c < 5 → (s.marks c = true ↔ (256 + (c : Int)) ∈ met)
  un : ∀ c, c < 5 → s.marks c = false → s.left.getD c 0 = L.getD c 0 ∧ s.right.getD c 0 = R.getD c 0 ∧ s.turned c = false
inductive GRun : Nat → St → St → Prop where
  | nil (s : St) : GRun 0 s s
  | cons {n : Nat} {s t u : St} : Good s → Step s t → GRun n t u → GRun (n + 1) s u
theorem GRun.append {n m : Nat} {s t u : St} (a : GRun n s t) (b : GRun m t u) : GRun (n + m) s u := by
  induction a with
  | nil => rw [Nat.zero_add]; exact b
  | cons g h _ ih => rw [Nat.add_right_comm]; exact .cons g h (ih b)
theorem getD_set_ne {l : List Int} {i j : Nat} (x : Int) (h : j ≠ i) : (l.set i x).getD j 0 = l.getD j 0 := by
  rw [List.getD_eq_getElem?_getD, List.getD_eq_getElem?_getD, List.getElem?_set_ne (Ne.symm h)]
theorem getD_set_eq {l : List Int} {i : Nat} (x : Int) (h : i < l.length) : (l.set i x).getD i 0 = x := by
  rw [List.getD_eq_getElem?_getD, List.getElem?_set_self h]; rfl
theorem set_getD {l : List Int} {i : Nat} (h : i < l.length) : l.set i (l.getD i 0) = l := by
  rw [List.getD_eq_getElem?_getD, List.getElem?_eq_getElem h]
  exact List.set_getElem_self h
theorem called_sub {L R : List Int} : ∀ (k : Nat) (a b : Int) (met : List Int), ∀ v ∈ met, v ∈ (called L R k a b met).2
  | 0, _, _, _, _, h => h
  | k + 1, a, b, met, v, h => by
    unfold called
    split
    · exact h
    · exact called_sub k _ _ _ v (called_sub k _ _ _ v (List.mem_append.mpr (.inl h)))
theorem upd_self (f : Nat → Bool) (c : Nat) : upd f c c = true := by simp [upd]
theorem upd_ne (f : Nat → Bool) {c k : Nat} (h : k ≠ c) : upd f c k = f k := by simp [upd, h]

theorem sim {L R : List Int} (hL : ∀ i, 0 ≤ L.getD i 0 ∧ L.getD i 0 ≤ 260) (hR : ∀ i, 0 ≤ R.getD i 0 ∧ R.getD i 0 ≤ 260) :
    ∀ (k : Nat) (s : St) (met : List Int), InvS L R met s → un met < k →
      ∃ n t, GRun n s t ∧ t.left = s.left ∧ t.right = s.right ∧ t.ahead = s.ahead ∧ t.back = s.back ∧ t.told = s.told ++ (called L R k s.ahead s.back met).1.map code ∧
        n + 3 * un (called L R k s.ahead s.back met).2 = 3 * un met ∧ InvS L R (called L R k s.ahead s.back met).2 t ∧ (∀ c, c < 5 → s.marks c = true → t.turned c = s.turned c) ∧ Quiet t := by
  intro k
  induction k with
  | zero => intro s met _ h; exact absurd h (Nat.not_lt_zero _)
  | succ k ih =>
    intro s met I hk
    have G := I.good
    have ab := G.ab
    by_cases hv : s.ahead < 256 ∨ s.ahead ∈ met
    · rw [called, if_pos hv]
      refine ⟨0, s, .nil s, rfl, rfl, rfl, rfl, by simp, Nat.zero_add _, I, fun _ _ _ => rfl, ?_⟩
      rintro ⟨h1, h2⟩
      rcases hv with hv | hv
      · omega
      · have e : 256 + (((s.ahead - 256).toNat : Nat) : Int) = s.ahead := by omega
        have := (I.mks (s.ahead - 256).toNat (by omega)).mpr (by rw [e]; exact hv)
        rw [this] at h2; cases h2
    · obtain ⟨h1, h2⟩ := not_or.mp hv
      have hu := un_snoc h2 (by omega) ab.2
      obtain ⟨c, hc⟩ : ∃ c, c = (s.ahead - 256).toNat := ⟨_, rfl⟩
      have hc5 : c < 5 := by omega
      have ea : 256 + (c : Int) = s.ahead := by omega
      have hm : s.marks c = false := by
        cases e : s.marks c
        · rfl
        · exact absurd ((I.mks c hc5).mp e) (by rw [ea]; exact h2)
      obtain ⟨uL, uR, uT⟩ := I.un c hc5 hm
      have hbk : 0 ≤ s.back ∧ s.back ≤ 260 := by rcases G.bb with h | h <;> omega
      rw [called, if_neg hv]
      rw [← hc]
      dsimp only
      have st1 : Step s s.visit := .visit s (by omega) (by rw [← hc]; exact hm)
      have I1 : InvS L R (met ++ [s.ahead]) s.visit := by
        refine ⟨⟨?_, G.rl, ?_, G.rb, ?_, .inr ?_⟩, ?_, ?_⟩
        · simp only [St.visit, List.length_set]; exact G.ll
        · exact set_in G.lb hbk _
        · simp only [St.visit]; exact getD_in G.lb _
        · simp only [St.visit]; omega
        · intro k hk5
          simp only [St.visit, ← hc, List.mem_append, List.mem_singleton]
          by_cases e : k = c
          · subst e; rw [upd_self]; exact ⟨fun _ => .inr ea, fun _ => rfl⟩
          · rw [upd_ne _ e, I.mks k hk5]
            exact ⟨fun h => .inl h, fun h => h.elim id fun h => absurd h (by omega)⟩
        · intro k hk5 hkm
          simp only [St.visit, ← hc] at hkm ⊢
          by_cases e : k = c
          · subst e; rw [upd_self] at hkm; cases hkm
          · rw [upd_ne _ e] at hkm
            rw [getD_set_ne _ e]
            exact I.un k hk5 hkm
      obtain ⟨n1, t1, r1, l1, rr1, a1, b1, td1, c1, J1, tu1, q1⟩ := ih s.visit (met ++ [s.ahead]) I1 (by omega)
      have av : s.visit.ahead = L.getD c 0 := by simp only [St.visit, ← hc]; exact uL
      have bv : s.visit.back = s.ahead := rfl
      rw [av, bv] at td1 c1 J1
      obtain ⟨m1, hm1⟩ : ∃ m1, m1 = (called L R k (L.getD c 0) s.ahead (met ++ [s.ahead])).2 := ⟨_, rfl⟩
      have sub1 := called_sub (L := L) (R := R) k (L.getD c 0) s.ahead (met ++ [s.ahead])
      rw [← hm1] at c1 J1 sub1 ⊢
      have mem1 : s.ahead ∈ m1 := sub1 _ (List.mem_append.mpr (.inr (List.mem_singleton.mpr rfl)))
      have tc1 : t1.turned c = false := (tu1 c hc5 (by simp only [St.visit, ← hc]; exact upd_self _ _)).trans uT
      have mc1 : t1.marks c = true := (J1.mks c hc5).mpr (by rw [ea]; exact mem1)
      have bt1 : t1.back = s.ahead := b1
      have hcb : (t1.back - 256).toNat = c := by rw [bt1]; exact hc.symm
      have st2 : Step t1 t1.turn := .turn t1 q1 (by rw [bt1]; omega) (by rw [hcb]; exact tc1)
      have G1 := J1.good
      have I2 : InvS L R m1 t1.turn := by
        refine ⟨⟨?_, ?_, ?_, ?_, ?_, G1.bb⟩, J1.mks, ?_⟩
        · simp only [St.turn, List.length_set]; exact G1.ll
        · simp only [St.turn, List.length_set]; exact G1.rl
        · exact set_in G1.lb G1.ab _
        · exact set_in G1.rb (getD_in G1.lb _) _
        · simp only [St.turn]; exact getD_in G1.rb _
        · intro k hk5 hkm
          have hkm' : t1.marks k = false := hkm
          have e : k ≠ c := fun q => by rw [q, mc1] at hkm'; cases hkm'
          simp only [St.turn, hcb]
          rw [getD_set_ne _ e, getD_set_ne _ e, upd_ne _ e]
          exact J1.un k hk5 hkm'
      obtain ⟨n2, t2, r2, l2, rr2, a2, b2, td2, c2, J2, tu2, q2⟩ := ih t1.turn m1 I2 (by omega)
      have av2 : t1.turn.ahead = R.getD c 0 := by simp only [St.turn, hcb]; rw [rr1]; exact uR
      have bv2 : t1.turn.back = s.ahead := bt1
      rw [av2, bv2] at td2 c2 J2
      obtain ⟨m2, hm2⟩ : ∃ m2, m2 = (called L R k (R.getD c 0) s.ahead m1).2 := ⟨_, rfl⟩
      have sub2 := called_sub (L := L) (R := R) k (R.getD c 0) s.ahead m1
      rw [← hm2] at c2 J2 sub2
      have bt2 : t2.back = s.ahead := b2.trans bt1
      have hcb2 : (t2.back - 256).toNat = c := by rw [bt2]; exact hc.symm
      have mc2 : t2.marks c = true := (J2.mks c hc5).mpr (by rw [ea]; exact sub2 _ mem1)
      have tc2 : t2.turned c = true := (tu2 c hc5 mc1).trans (by simp only [St.turn, hcb]; exact upd_self _ _)
      have st3 : Step t2 t2.ret := .ret t2 q2 (by rw [bt2]; omega) (by rw [hcb2]; exact tc2)
      have G2 := J2.good
      have lc : c < s.left.length := by rw [G.ll]; exact hc5
      have rc : c < s.right.length := by rw [G.rl]; exact hc5
      have lt1 : t1.left = s.left.set c s.back := by rw [l1]; simp only [St.visit, ← hc]
      have rt1 : t1.right = s.right := rr1
      have ls2 : t1.turn.left = s.left := by
        simp only [St.turn, hcb]
        rw [lt1, List.set_set, a1, av, ← uL, set_getD lc]
      have rs2 : t1.turn.right = s.right.set c s.back := by
        simp only [St.turn, hcb]
        rw [lt1, rt1, getD_set_eq _ lc]
      have lt2 : t2.left = s.left := l2.trans ls2
      have rt2 : t2.right = s.right.set c s.back := rr2.trans rs2
      have rs3 : t2.ret.right = s.right := by
        simp only [St.ret, hcb2]
        rw [rt2, List.set_set, a2, av2, ← uR, set_getD rc]
      have bs3 : t2.ret.back = s.back := by
        simp only [St.ret, hcb2]
        rw [rt2, getD_set_eq _ rc]
      have as3 : t2.ret.ahead = s.ahead := bt2
      have I3 : InvS L R m2 t2.ret := by
        refine ⟨⟨G2.ll, ?_, G2.lb, ?_, ?_, ?_⟩, J2.mks, ?_⟩
        · rw [rs3]; exact G.rl
        · rw [rs3]; exact G.rb
        · rw [as3]; exact ab
        · rw [bs3]; exact G.bb
        · intro k hk5 hkm
          have hkm' : t2.marks k = false := hkm
          have e : k ≠ c := fun q => by rw [q, mc2] at hkm'; cases hkm'
          have := J2.un k hk5 hkm'
          simp only [St.ret, hcb2]
          rw [getD_set_ne _ e]
          exact this
      refine ⟨(n1 + (n2 + (0 + 1) + 1)) + 1, t2.ret, .cons G st1 (r1.append (.cons G1 st2 (r2.append (.cons G2 st3 (.nil _))))), lt2, rs3, as3, bs3, ?_, ?_, ?_, ?_, ?_⟩
      · show t2.next = _
        rw [St.next, td2, a2, av2, bt2]
        show (t1.next ++ _) ++ _ = _
        rw [St.next, td1, a1, av, bt1]
        show ((s.next ++ _) ++ _ ++ _) ++ _ = _
        rw [St.next]
        simp only [List.map_append, List.map_cons, List.map_nil, code, List.append_assoc]
      · rw [← hm2]; omega
      · rw [← hm2]; exact I3
      · intro k hk5 hkm
        have e : k ≠ c := fun q => by rw [q, hm] at hkm; cases hkm
        have k1 : s.visit.marks k = true := by simp only [St.visit, ← hc]; rw [upd_ne _ e]; exact hkm
        have k2 : t1.turn.marks k = true := (I2.mks k hk5).mpr (sub1 _ ((I1.mks k hk5).mp k1))
        show t2.turned k = _
        rw [tu2 k hk5 k2]
        simp only [St.turn, hcb]
        rw [upd_ne _ e]
        exact tu1 k hk5 k1
      · rintro ⟨-, q⟩
        rw [as3, ← hc] at q
        have q' : t2.marks c = false := q
        rw [mc2] at q'; cases q'
theorem step_det {s a b : St} (h : Step s a) (g : Step s b) : a = b := by
  cases h with
  | visit h1 h2 =>
    cases g with
    | visit => rfl
    | turn g1 => exact absurd ⟨h1, h2⟩ g1
    | ret g1 => exact absurd ⟨h1, h2⟩ g1
  | turn h1 h2 h3 =>
    cases g with
    | visit g1 g2 => exact absurd ⟨g1, g2⟩ h1
    | turn => rfl
    | ret _ _ g3 => rw [h3] at g3; cases g3
  | ret h1 h2 h3 =>
    cases g with
    | visit g1 g2 => exact absurd ⟨g1, g2⟩ h1
    | turn _ _ g3 => rw [h3] at g3; cases g3
    | ret => rfl
theorem ended_no {s a : St} (h : Ended s) : ¬ Step s a := by
  intro g
  cases g with
  | visit g1 g2 => exact h.1 ⟨g1, g2⟩
  | turn _ g2 => exact g2 h.2
  | ret _ g2 => exact g2 h.2
theorem reach_head {c : Nat} {s u : St} (h : Reach c s u) : (c = 0 ∧ u = s) ∨ ∃ c' a, c = c' + 1 ∧ Step s a ∧ Reach c' a u := by
  induction h with
  | zero => exact .inl ⟨rfl, rfl⟩
  | succ _ hs ih =>
    rcases ih with ⟨rfl, rfl⟩ | ⟨c', a, rfl, ha, hr⟩
    · exact .inr ⟨0, _, rfl, hs, .zero _⟩
    · exact .inr ⟨_, a, rfl, ha, .succ hr hs⟩
theorem run_all {n : Nat} {s t : St} (r : GRun n s t) (gt : Good t) (et : Ended t) : ∀ c u, Reach c s u → c ≤ n ∧ Good u ∧ (Ended u → u = t) := by
  induction r with
  | nil s =>
    intro c u h
    rcases reach_head h with ⟨rfl, rfl⟩ | ⟨_, a, _, ha, _⟩
    · exact ⟨Nat.le_refl _, gt, fun _ => rfl⟩
    · exact absurd ha (ended_no et)
  | cons g hs _ ih =>
    intro c u h
    rcases reach_head h with ⟨rfl, rfl⟩ | ⟨c', a, rfl, ha, hr⟩
    · exact ⟨Nat.zero_le _, g, fun e => absurd hs (ended_no e)⟩
    · rw [← step_det hs ha] at hr
      obtain ⟨h1, h2, h3⟩ := ih gt et c' u hr
      exact ⟨Nat.succ_le_succ h1, h2, h3⟩
def startS (L R : List Int) (root : Int) : St := ⟨L, R, root, 0, fun _ => false, fun _ => false, []⟩
theorem plain {L R : List Int} {root : Int} (ll : L.length = 5) (rl : R.length = 5) (lb : ∀ v ∈ L, 0 ≤ v ∧ v ≤ 260) (rb : ∀ v ∈ R, 0 ≤ v ∧ v ≤ 260) (hr : 0 ≤ root ∧ root ≤ 260) :
    ∀ c u, Reach c (startS L R root) u → c ≤ 16 ∧ Good u ∧ (Ended u → u.left = L ∧ u.right = R ∧ u.next = ((called L R 6 root 0 []).1 ++ [(root, 0)]).map code ∧ ∀ c, c < 5 → (u.marks c = true ↔ (256 + (c : Int)) ∈ (called L R 6 root 0 []).2)) := by
  have I : InvS L R [] (startS L R root) := ⟨⟨ll, rl, lb, rb, hr, .inl rfl⟩, fun c _ => by simp [startS], fun c _ _ => ⟨rfl, rfl, rfl⟩⟩
  obtain ⟨n, t, r, l1, r1, a1, b1, td, cn, J, -, q⟩ := sim (fun i => getD_in lb i) (fun i => getD_in rb i) 6 (startS L R root) [] I (by decide)
  have n15 : n ≤ 15 := by
    have : un [] = 5 := rfl
    omega
  have et : Ended t := ⟨q, b1⟩
  intro c u h
  obtain ⟨h1, h2, h3⟩ := run_all r J.good et c u h
  refine ⟨Nat.le_trans h1 (Nat.le_trans n15 (by decide)), h2, fun e => ?_⟩
  have eu := h3 e
  subst eu
  refine ⟨l1, r1, ?_, J.mks⟩
  have a1' : u.ahead = root := a1
  have b1' : u.back = 0 := b1
  rw [St.next, td, a1', b1', List.map_append]
  rfl
end
section
theorem PairsIn.get {led : List (Addr × Obj)} {vs : List Value} {ps : List (Int × Int)} (h : PairsIn led vs ps) : ∀ (i : Nat) (v : Value), vs[i]? = some v → ∃ p a b t u k, v = .ref p ∧ (p, ({ cls := .type "tuple", data := .seq #[.int a t, .int b u] k } : Obj)) ∈ led ∧ ps[i]? = some (a, b) := by
  induction h with
  | nil => intro i v h; simp at h
  | @cons p a b t u k vs ps hm _ ih =>
    intro i v h
    cases i with
    | zero =>
      simp only [List.getElem?_cons_zero, Option.some.injEq] at h
      exact ⟨p, a, b, t, u, k, h.symm, hm, rfl⟩
    | succ i =>
      simp only [List.getElem?_cons_succ] at h ⊢
      exact ih i v h
theorem called_in {L R : List Int} (hL : ∀ i, 0 ≤ L.getD i 0 ∧ L.getD i 0 ≤ 260) (hR : ∀ i, 0 ≤ R.getD i 0 ∧ R.getD i 0 ≤ 260) : ∀ (k : Nat) (a b : Int) (met : List Int), (0 ≤ a ∧ a ≤ 260) → (0 ≤ b ∧ b ≤ 260) →
    ∀ p ∈ (called L R k a b met).1, (0 ≤ p.1 ∧ p.1 ≤ 260) ∧ (0 ≤ p.2 ∧ p.2 ≤ 260)
  | 0, _, _, _, _, _, p, hp => absurd hp (by simp [called])
  | k + 1, a, b, met, ha, hb, p, hp => by
    unfold called at hp
    split at hp
    · exact absurd hp List.not_mem_nil
    · simp only [List.mem_append, List.mem_singleton] at hp
      rcases hp with (((h | h) | h) | h) | h
      · rw [h]; exact ⟨ha, hb⟩
      · exact called_in hL hR k _ _ _ (hL _) ha p h
      · rw [h]; exact ⟨hL _, ha⟩
      · exact called_in hL hR k _ _ _ (hR _) ha p h
      · rw [h]; exact ⟨hR _, ha⟩
theorem bys_append {vs ws : List Value} {ns ms : List Int} (h : BysAre vs ns) (h2 : BysAre ws ms) : BysAre (vs ++ ws) (ns ++ ms) := by
  induction h with
  | nil => exact h2
  | cons m u _ ih => exact .cons m u ih
section
variable {prog : Program} {w : World} {A : Around} {s : Shared} {h₀ : Heap} {L : Addr} {m : PySem.Str → Option Value} {env : Env}
theorem pair_rest {elt : PySem.Expr} {x x₂ : PySem.Str} {scope : Scope} {cl : List (PySem.Str × Addr)} {S : List (Addr × Obj) → Prop} {Fin : List Value → List (Addr × Obj) → Prop} {its : Array Value} {news led : List (Addr × Obj)} {ps : List (Int × Int)}
    (hp : PairsIn led its.toList ps) (hsub : ∀ p ∈ led, p ∈ news)
    (turn : ∀ a b t u I oI C oC D m₂ ys h tk (E' : Value → Shared → Prop), (a, b) ∈ ps → LCg.NsObj oC m₂ → m₂ x = some (.int a t) → m₂ x₂ = some (.int b u) → Fr h₀ L h m → News h₀ L h ((I, oI) :: (C, oC) :: (D, LCg.lst ys) :: news) → LCg.Off3 I C D news → ((@Ne Nat I C) ∧ (@Ne Nat I D) ∧ (@Ne Nat C D)) →
      wpAny (model prog w) A (eval elt (compEnvC scope cl C env)) (LCg.CompEnd h₀ L m { s with heap := h, toks := tk } I oI C oC D (LCg.lst ys) S (fun y news' => news' = news ∧ ∃ t', y = .bytes (apB (code (a, b))) t')) E' { s with heap := h, toks := tk })
    (fin : ∀ ys, BysAre ys (ps.map code) → Fin ys news) : LCp.CompRestP prog w A h₀ L m env elt x x₂ scope cl s S (fun i v => its[i]? = some v) Fin its.size 0 [] news := by
  have hlen : its.size = ps.length := by rw [← hp.length, Array.length_toList]
  have key : ∀ (j i : Nat) (ys : List Value), i + j = its.size → BysAre ys ((ps.take i).map code) → LCp.CompRestP prog w A h₀ L m env elt x x₂ scope cl s S (fun i v => its[i]? = some v) Fin j i ys news := by
    intro j
    induction j with
    | zero =>
      intro i ys hi hy
      have e : i = ps.length := by omega
      subst e
      rw [List.take_length] at hy
      exact LCp.CompRestP.zero (fin ys hy)
    | succ j ih =>
      intro i ys hi hy
      refine LCp.CompRestP.succ ?_
      intro v hv
      obtain ⟨p, a, b, t, u, k, rfl, hm, hk⟩ := hp.get i v (by simpa using hv)
      refine ⟨p, _, .int a t, .int b u, k, rfl, hsub _ hm, rfl, rfl, ?_⟩
      intro I oI C oC D m₂ h tk E' hC hx hx2 F N off ne
      refine wpAny_mono (turn a b t u I oI C oC D m₂ ys h tk E' (List.mem_of_getElem? hk) hC hx hx2 F N off ne) (fun y s₂ hq => ?_) fun _ _ e => e
      obtain ⟨h', tk', nw, e, F', N', off', hS, hn, t', hy'⟩ := hq
      rw [hn] at N' off' hS
      refine ⟨h', tk', news, e, F', N', off', hS, ?_⟩
      rw [hy']
      refine ih (i + 1) _ (by omega) ?_
      rw [List.take_add_one, hk]
      simpa using bys_append hy (.cons (code (a, b)) t' .nil)
  exact key its.size 0 [] (by omega) (by simp only [List.take_zero, List.map_nil]; exact .nil)
end
end
section
theorem BysAre.get {vs : List Value} {ns : List Int} (h : BysAre vs ns) : ∀ (i : Nat) (v : Value), vs[i]? = some v → ∃ n t, v = .bytes (apB n) t ∧ ns[i]? = some n := by
  induction h with
  | nil => intro i v h; simp at h
  | @cons n t vs ns _ ih =>
    intro i v h
    cases i with
    | zero => simp only [List.getElem?_cons_zero, Option.some.injEq] at h; exact ⟨n, t, h.symm, rfl⟩
    | succ i => simp only [List.getElem?_cons_succ] at h ⊢; exact ih i v h
section
variable {prog : Program} {w : World} {A : Around} {E : Value → Shared → Prop} {s : Shared} {Q : Value → Shared → Prop}
theorem ne_bys {l b : Addr} {vs us : List Value} {ns : List Int} (hl : s.heap.IsList l vs.toArray) (hb : s.heap.IsList b us.toArray) (hv : BysAre vs ns) (hw : BysAre us ns) (hu : A.units < cLine) (h : Q (.bool false) s) :
    wpAny (model prog w) A (compareOp .NotEq (.ref l) (.ref b)) Q E s := by
  refine PySem.SeqAt.RcNeAt.lists (e := fun _ => true) hl hb (by rw [List.size_toArray, List.size_toArray, hv.length, hw.length]) hu ?_ prog w E Q ?_
  · intro j h1 h2 prog w E Q hq
    obtain ⟨n, t, e1, g1⟩ := hv.get j vs.toArray[j] (by simp)
    obtain ⟨n', t', e2, g2⟩ := hw.get j us.toArray[j] (by simp)
    rw [g1] at g2
    injection g2 with g2
    subst g2
    rw [e1, e2]
    exact eqBool_bytes (by rw [decide_eq_true rfl]; exact hq)
  · rw [show (List.range vs.toArray.size).all (fun _ => true) = true from List.all_eq_true.mpr fun _ _ => rfl]; exact h
end
end
section
theorem join_lenF : ∀ b0 b1 b2 b3 b4 : Bool, maskOf (sel b0 b1 b2 b3 b4) ≠ 0 → (Txt.join (PySem.Str.ofString ", ") (nmsTo (sel b0 b1 b2 b3 b4) 5)).length ≠ 0 ∧ (Txt.join (PySem.Str.ofString ", ") (nmsTo (sel b0 b1 b2 b3 b4) 5)).length ≤ 100 := by decide +kernel
theorem nms_sel (f : Nat → Bool) : ∀ c, c ≤ 5 → nmsTo (sel (f 0) (f 1) (f 2) (f 3) (f 4)) c = nmsTo f c
  | 0, _ => rfl
  | c + 1, h => by rw [nmsTo, nmsTo, nms_sel f c (by omega), sel_at f c (by omega)]
theorem join_len {f : Nat → Bool} (h : maskOf f ≠ 0) : (Txt.join (PySem.Str.ofString ", ") (nmsTo f 5)).length ≠ 0 ∧ (Txt.join (PySem.Str.ofString ", ") (nmsTo f 5)).length ≤ 100 := by
  have := join_lenF (f 0) (f 1) (f 2) (f 3) (f 4) (by rw [sel_mask]; exact h)
  rwa [nms_sel f 5 (Nat.le_refl _)] at this
theorem truthy_T {prog : Program} {w : World} {A : Around} {E : Value → Shared → Prop} {s : Shared} {Q : Bool → Shared → Prop} {x : PySem.Str} {t : Tok} (h0 : x.length ≠ 0) (h1 : x.length ≤ 100) (h : Q true { s with toks := s.toks + 1 + 1 }) :
    wpAny (model prog w) A (truthy (.str x t)) Q E s := PySem.P.truthy_str (by omega) (by rw [show ((x.length : Int) != 0) = true from bne_iff_ne.mpr (by omega)]; exact h)
theorem any_T {l : List Int} {v u : Int} (h : (l.any fun x => x == v) = true) (e : u = v) : u ∈ l := by
  obtain ⟨x, h1, h2⟩ := List.any_eq_true.mp h
  rw [e, ← eq_of_beq h2]; exact h1
theorem any_F {l : List Int} {v u : Int} (h : (l.any fun x => x == v) = false) (e : u = v) : u ∉ l := fun q => by
  have : (l.any fun x => x == v) = true := List.any_eq_true.mpr ⟨u, q, by rw [e]; exact beq_self_eq_true v⟩
  rw [this] at h; cases h
theorem mk_F {b : Bool} {p : Prop} (h : b = true ↔ p) (hp : ¬ p) : b = false := by
  cases b
  · rfl
  · exact absurd (h.mp rfl) hp
section
variable {prog : Program} {w : World} {A : Around} {s : Shared} {h₀ : Heap} {L : Addr} {m : PySem.Str → Option Value} {env : Env}
/-- [names[k] for k in range(5) if ..], by what one turn does -/
theorem test_rest {ct elt : PySem.Expr} {x : PySem.Str} {scope : Scope} {cl : List (PySem.Str × Addr)} {S : List (Addr × Obj) → Prop} {Fin : List Value → List (Addr × Obj) → Prop} {news : List (Addr × Obj)} (f : Nat → Bool)
    (turn : ∀ (i : Nat) t I oI C oC D m₂ ys h tk (E' : Value → Shared → Prop), i < 5 → LCg.NsObj oC m₂ → m₂ x = some (.int (0 + (i : Int)) t) → Fr h₀ L h m → News h₀ L h ((I, oI) :: (C, oC) :: (D, LCg.lst ys) :: news) → LCg.Off3 I C D news → ((@Ne Nat I C) ∧ (@Ne Nat I D) ∧ (@Ne Nat C D)) →
      wpAny (model prog w) A (isTrue ct (compEnvC scope cl C env) (eval ct (compEnvC scope cl C env))) (fun ok s' => if ok = true then
        wpAny (model prog w) A (eval elt (compEnvC scope cl C env)) (LCg.CompEnd h₀ L m { s with heap := h, toks := tk } I oI C oC D (LCg.lst ys) S (fun y news' => f i = true ∧ news' = news ∧ ∃ t', y = .str (nm i) t')) E' s'
        else LCg.CompEnd h₀ L m { s with heap := h, toks := tk } I oI C oC D (LCg.lst ys) S (fun _ news' => f i = false ∧ news' = news) Value.none s') E' { s with heap := h, toks := tk })
    (fin : ∀ ys, StrsAre ys (nmsTo f 5) → Fin ys news) : LCt.CompRestT prog w A h₀ L m env ct elt x scope cl s S (fun i v => ∃ t, v = .int (0 + (i : Int)) t) Fin 5 0 [] news := by
  have key : ∀ (j i : Nat) (ys : List Value), i + j = 5 → StrsAre ys (nmsTo f i) → LCt.CompRestT prog w A h₀ L m env ct elt x scope cl s S (fun i v => ∃ t, v = .int (0 + (i : Int)) t) Fin j i ys news := by
    intro j
    induction j with
    | zero =>
      intro i ys hi hy
      have e : i = 5 := by omega
      subst e
      exact LCt.CompRestT.zero (fin ys hy)
    | succ j ih =>
      intro i ys hi hy
      refine LCt.CompRestT.succ ?_
      rintro v I oI C oC D m₂ h tk E' ⟨t, rfl⟩ hC hx F N off ne
      refine wpAny_mono (turn i t I oI C oC D m₂ ys h tk E' (by omega) hC hx F N off ne) (fun ok s' hq => ?_) fun _ _ e => e
      cases ok with
      | true =>
        rw [if_pos rfl] at hq ⊢
        refine wpAny_mono hq (fun y s₂ hq => ?_) fun _ _ e => e
        obtain ⟨h', tk', nw, e, F', N', off', hS, hf, hn, t', hy'⟩ := hq
        rw [hn] at N' off' hS
        refine ⟨h', tk', news, e, F', N', off', hS, ?_⟩
        rw [hy']
        refine ih (i + 1) _ (by omega) ?_
        rw [nmsTo, if_pos ⟨by omega, hf⟩]
        exact strs_snoc hy _ _
      | false =>
        rw [if_neg Bool.false_ne_true] at hq ⊢
        obtain ⟨h', tk', nw, e, F', N', off', hS, hf, hn⟩ := hq
        rw [hn] at N' off' hS
        refine ⟨h', tk', news, e, F', N', off', hS, ?_⟩
        refine ih (i + 1) _ (by omega) ?_
        rw [nmsTo, if_neg (fun q => by rw [hf] at q; cases q.2), List.append_nil]
        exact hy
  exact key 5 0 [] rfl .nil
end
end
section
section
local macro_rules | `(tactic| walk_at "subscriptTail Name Slice ref ref") => `(tactic| (k_here; (with_reducible show wpAny _ _ (subscriptTail _ (PySem.Expr.Slice _ _ none _) (Value.ref _) (Value.ref _)) _ _ _); k_dflt (refine' kmk_slice_ints ?F ?N ?l ?p ?q ?i ?m ?c ?_ ?s ?t ?z; (case F => k_asm); (case N => k_asm); (case l => kmk_list); (case p => kmk_part); (case q => kmk_part); (case i => first | l_ints | (repeat (first | exact IntsAre.nil | refine IntsAre.cons _ _ ?_))); (case m => first | exact kmk_upto (by l_ints) (by decide) | exact kmk_from (by (repeat (first | exact IntsAre.nil | refine IntsAre.cons _ _ ?_))) (Int.natCast_nonneg _)); (case c => kmk_len); (case s => with_unfolding_all rfl); (case t => kmk_pure); (case z => kmk_size)); intro D' ws' h' F' N' l1 hI' hC' hL'; (try simp only [Int.reduceNeg, Int.neg_neg, Int.reduceToNat] at hI' hC' hL'); (try k_lt l1)))
local macro_rules | `(tactic| walk_at "subscriptTail Name Slice ref ref") => `(tactic| (k_here; (with_reducible show wpAny _ _ (subscriptTail _ (PySem.Expr.Slice (some _) none none _) (Value.ref _) (Value.ref _)) _ _ _); (with_reducible rename News _ _ _ _ => N9); k_dflt (refine' kmk_slice_ints ?F N9 ?l ?p ?q ?i ?m ?c ?_ ?s ?t ?z; (case F => k_asm); (case l => exact ⟨_, (N9 _ (.head _)).1, rfl, _, rfl⟩); (case p => exact .int _ _); (case q => exact .none); (case i => exact (.cons _ _ (.cons _ _ (.cons _ _ (.cons _ _ (.cons _ _ (.cons _ _ (.cons _ _ (.cons _ _ (.cons _ _ (.cons _ _ (.cons _ _ .nil)))))))))))); (case m => exact kmk_from (.cons _ _ (.cons _ _ (.cons _ _ (.cons _ _ (.cons _ _ (.cons _ _ (.cons _ _ (.cons _ _ (.cons _ _ (.cons _ _ (.cons _ _ .nil))))))))))) (Int.natCast_nonneg _)); (case c => exact List.length_drop ..); (case s => with_unfolding_all rfl); (case t => kmk_pure); (case z => (rw [sizeLine_eq]; exact Nat.le_of_ble_eq_true rfl))); intro D' ws' h' F' N' l1 hI' hC' hL'; (try k_lt l1)))
local macro_rules | `(tactic| walk_at "subscriptTail") => `(tactic| (k_here; (with_reducible show wpAny _ _ (subscriptTail (PySem.Expr.List _ _) _ _ _) _ _ _); k_dflt (refine kba_turn (value' := PySem.Expr.Name (PySem.Str.ofString "_") ⟨0, 0, 0, 0⟩) (fun _ => rfl) ?_)))
local macro_rules | `(tactic| walk_at "call ref") => `(tactic| (k_here; (with_reducible show wpAny _ _ (call (Value.ref 92) _) _ _ _); k_dflt ((first | refine' (c_ptr _ _).use ?B ?F ?X ?N ?T ?hk ?hd ?hu ?_); (case B => k_asm); (case F => k_asm); (case X => k_asm); (case N => k_asm); (case T => k_asm); (case hk => first | exact rfl | assumption); (case hd => first | decide | ktr_room); (case hu => first | decide | ktr_units)); intro r' n' h' tk' F' N' P'; (obtain ⟨⟨t', e1⟩, e2⟩ := P'); subst e1; subst e2; (try k_sweep)))
local macro_rules | `(tactic| walk_at "exec Assign cons ListComp") => `(tactic| (k_here; k_dflt (refine LCg.Assign_ListComp_U (F₀ := by k_asm) (by rfl) (by with_unfolding_all rfl) (by with_unfolding_all rfl) (by decide) (by rfl) (by decide) (by rfl) (by rfl) (by rfl) ?_)))
local macro_rules | `(tactic| walk_at "CompSrcT") => `(tactic| (refine Stop.go ?_))
local macro_rules | `(tactic| walk_at "SrcLP") => `(tactic| (refine Stop.go ?_))
local macro_rules | `(tactic| walk_at "CompEnd") => `(tactic| ((with_reducible show LCg.CompEnd _ _ _ _ _ _ _ _ _ _ _ (fun y news' => _ ∧ ∃ t', y = Value.bytes _ t') _ _); refine Stop.go ?_))
local macro_rules | `(tactic| walk_at "CompSrc") => `(tactic| (refine Stop.go ?_))
local macro_rules | `(tactic| walk_at "pyIter ref") => `(tactic| (refine Stop.go ?_))
local macro_rules | `(tactic| k_all) => `(tactic| with_reducible assumption)
local macro_rules | `(tactic| walk_at "call ref") => `(tactic| ((fail_if_success (with_reducible show wpAny _ _ (call (Value.ref 92) _) _ _ _)); refine Stop.go ?_))
local macro_rules | `(tactic| walk_at "call builtin:list.extend") => `(tactic| (k_here; k_dflt (refine' extL_K ?F ?N ?b ?ne ?U ?z ?_; (case F => k_asm); (case N => k_asm); (case b => (repeat (first | exact List.Mem.head _ | apply List.Mem.tail))); (case ne => (rw [Array.length_toList]; omega)); (case U => k_upd); (case z => omega)); intro h' F' N'))
local macro_rules | `(tactic| walk_at "compareOp NotEq ref ref") => `(tactic| (refine Stop.go ?_))
local macro_rules | `(tactic| walk_at "CompSrc") => `(tactic| (refine Stop.go ?_))
local macro_rules | `(tactic| walk_at "eval ListComp") => `(tactic| (refine Stop.go ?_))
local macro_rules | `(tactic| walk_at "binaryOp Add ref ref") => `(tactic| (k_here; (with_reducible show wpAny _ _ (binaryOp _ (Value.ref _) (Value.ref _)) _ _ _); first
  | (k_dflt (refine' kmk_add_ints ?F ?N ?a ?b ?i ?j ?_ ?z; (case F => k_asm); (case N => k_asm); (case a => kmk_list); (case b => kmk_list); (case i => with_reducible assumption); (case j => with_reducible assumption); (case z => kmk_sum)); intro D' ws' h' F' N' l1 hI'; (try k_lt l1); (try k_sweep))
  | (k_dflt (refine' cat_K ?F ?N ?a ?b ?z ?_; (case F => k_asm); (case N => k_asm); (case a => (repeat (first | exact List.Mem.head _ | apply List.Mem.tail))); (case b => (repeat (first | exact List.Mem.head _ | apply List.Mem.tail))); (case z => (simp only [List.length_append, List.length_cons, List.length_nil]; omega))); intro D' h' F' N' l1; (try k_lt l1))))
local macro_rules | `(tactic| walk_at "InvEndN") => `(tactic| (refine Stop.go ?_))
set_option maxRecDepth 100000 in
set_option maxHeartbeats 8000000 in
theorem law_holds : PySem.Challenge.rw_wb0016_01.Holds := Mine.hd (by
  k_go0
  (all_goals try k_fold)
  k_steps
  refine Stop.mk ?_
  refine LCg.CompSrc.ledger (by rfl) (by k_asm) (by k_asm) (by k_mem) (by kcf_size) ?_
  intro g9
  refine kcf_list ptr (by assumption) (fun k' t' I' oI' C' oC' D' m' ys' h' tk' E' hk' hC' hx' F' N' off' ne' hMark' => ?_) ?_
  · (try simp only [LCg.Off3, and_true] at off')
    k_steps
  · (try k_fold)
    k_steps
    (with_reducible rename IntsAre ys _ => hI8)
    obtain ⟨ms, hI9, hm11, hmb⟩ : ∃ ms : List Int, IntsAre ys ms ∧ ms.length = 11 ∧ (∀ n ∈ ms, 0 ≤ n ∧ n ≤ 260) := ⟨_, hI8, numbers_len ptr _, ptrs_in ptr_in⟩
    clear hI8
    (with_reducible rename Fr _ _ _ _ => F9)
    (with_reducible rename News _ _ _ _ => N9)
    rename_i D9 _ _ oD O9 _ lO h9
    replace N9 := pick4 N9
    refine Stop.mk ?_
    refine iter_listJ (nn := _) (fun i nx => ∃ ov ok, IntsAre ov ((ms.take i).flatMap octs) ∧ nx = [(O9, listOf ov.toArray ok), _, _, _]) rfl (.tail _ (.head _)) hI9 F9 N9 ⟨[], _, .nil, rfl⟩ ?_ ?_
    · rintro i n t nx h8 tk8 own hin hoff ⟨ov, ok, hov, rfl⟩ F8 N8
      replace F8 : Fr _ _ h8 _ := F8
      replace N8 : News _ _ h8 (_ :: _ :: _ :: _ :: own) := N8
      have hnb := hmb n (List.mem_of_getElem? hin)
      have hol : ov.length ≤ 22 := by
        rw [hov.length]
        have := octs_le (ms.take i)
        rw [List.length_take] at this
        omega
      k_steps
      refine Stop.mk ?_
      refine (c_octets n _ hnb.1 hnb.2).use (by k_asm) F8 (by k_asm) N8 (by k_asm) rfl (by decide) (by decide) ?_
      rintro r2 n2 h2 tk2 F2 N2 ⟨x2, v2, k2, rfl, rfl, hv2, lt2⟩
      have lx2 := lt2
      k_lt lx2
      have hl2 := hv2.length
      rw [Array.length_toList] at hl2
      have hp2 := octs_pos n
      have ht2 := octs_two n
      have neO : ∀ p ∈ own, p.1 ≠ O9 := fun p hp => hoff p hp _ (.head _)
      k_steps
      (with_reducible rename Fr _ _ _ _ => F4)
      (with_reducible rename News _ _ _ _ => N4)
      refine Stop.mk (inv_end F4 N4 [(O9, listOf (ov ++ v2.toList).toArray (ok + 1)), _, _, _] ?_ ?_ rfl ⟨.tail _ (.head _), fun y hy => if_neg hy, _, _, ?_, rfl⟩)
      · exact fun p hp => .tail _ (List.mem_append.mpr (.inl hp))
      · exact fun p hp => .tail _ (.tail _ (.tail _ (.tail _ (.tail _ hp))))
      · rw [flat_snoc hin]; exact hov.append hv2
    · rintro u9 nx h8 tk8 ⟨ov, ok, hov, rfl⟩ F8 N8
      replace F8 : Fr _ _ h8 _ := F8
      replace N8 : News _ _ h8 _ := N8
      rw [List.take_of_length_le (Nat.le_refl _)] at hov
      k_steps
      refine Stop.mk ?_
      refine c_numbers (nums := ms) (by k_asm) F8 (by k_asm) N8 (by k_asm) rfl (by decide) (by decide) (.head _) hov hmb (by rw [List.size_toArray, hov.length]; have := octs_le ms; omega) ?_
      rintro r2 n2 h2 tk2 F2 N2 ⟨x2, v2, k2, rfl, rfl, hv2, lt2⟩
      obtain ⟨rv, rfl⟩ : ∃ rv : List Value, v2 = rv.toArray := ⟨v2.toList, by simp⟩
      replace hv2 : IntsAre rv ms := hv2
      k_lt lt2
      clear N8 F8 hov
      k_steps
      (with_reducible rename Fr _ _ _ _ => F3)
      (with_reducible rename News _ _ _ _ => N3)
      rename_i Dl wl _ iL cL _ lL _ Dr wr _ iR cR _ lR h3 t3
      rw [hm11] at iR
      change IntsAre wr (List.take 5 (List.drop 5 ms)) at iR
      have PL := plain (L := ms.take 5) (R := (ms.drop 5).take 5) (root := ms.getD 10 0) (by rw [List.length_take, hm11]; rfl) (by rw [List.length_take, List.length_drop, hm11]; rfl) (fun v hv => hmb v (List.mem_of_mem_take hv)) (fun v hv => hmb v (List.mem_of_mem_drop (List.mem_of_mem_take hv))) (getD_in hmb 10)
      refine Stop.mk ((c_marked (startS (ms.take 5) ((ms.drop 5).take 5) (ms.getD 10 0)) t3 (fun c t h => ⟨(PL c t h).1, (PL c t h).2.1⟩) rfl rfl rfl rfl iL iR (ne_lt2 (by omega)) ?_ ?_).use (by k_asm) F3 (by k_asm) (perm2 N3) (by k_asm) rfl (by decide) (by decide) ?_)
      · exact ne5 lL
      · exact ne5 lR.2
      rintro r4 n4 h4 tk4 F4 N4 ⟨c4, t4, x4, T4, tv, tkv, vl, kl, vr, kr, xk, m4, hre, hen, rfl, hbt, hil2, hir2, rfl, lx4, lT4, lT4l, lT4r⟩
      obtain ⟨el, er, etd, emk⟩ := (PL c4 t4 hre).2.2 hen
      rw [el] at hil2
      rw [er] at hir2
      rw [etd] at hbt
      k_lt lT4
      replace lx4 : @LT.lt Nat _ T4 x4 := lx4
      replace lT4l : @LT.lt Nat _ Dl T4 := lT4l
      replace lT4r : @LT.lt Nat _ Dr T4 := lT4r
      k_steps
      (with_reducible rename News _ _ _ _ => N5)
      refine Stop.mk (ne_intsK (ns := ms.take 5 ++ List.take 5 (List.drop 5 ms)) (ms := ms.take 10) ⟨_, (N5 _ (.tail _ (.head _))).1, rfl, _, rfl⟩ (by assumption) ⟨_, (N5 _ (.head _)).1, rfl, _, rfl⟩ (by assumption) (by units_room) ?_)
      simp only [lr_ms]
      k_steps
      (with_reducible rename Fr _ _ _ _ => F6)
      (with_reducible rename News _ _ _ _ => N6)
      rename_i M _ lM _ oM dM Dl2 wl2 _ iL2 _ _ lL2 Dr2 wr2 h5 iR2 _ _ lR2 t5
      rw [hm11] at iR2
      change IntsAre wr2 (List.take 5 (List.drop 5 ms)) at iR2
      have hLb : ∀ i, 0 ≤ (ms.take 5).getD i 0 ∧ (ms.take 5).getD i 0 ≤ 260 := fun i => getD_in (fun v hv => hmb v (List.mem_of_mem_take hv)) i
      have hRb : ∀ i, 0 ≤ ((ms.drop 5).take 5).getD i 0 ∧ ((ms.drop 5).take 5).getD i 0 ≤ 260 := fun i => getD_in (fun v hv => hmb v (List.mem_of_mem_drop (List.mem_of_mem_take hv))) i
      have hcu := called_un hLb hRb 6 (ms.getD 10 0) 0 [] (getD_in hmb 10).2
      refine Stop.mk ((c_called (vl := wl2) (vr := wr2) iL2 iR2 (by rw [List.length_take, hm11]; rfl) (by rw [List.length_take, List.length_drop, hm11]; rfl) hLb hRb 6 (ms.getD 10 0) 0 _ _ [] _ M [] _ (getD_in hmb 10) (by decide) (by decide) .nil (ne_lt2 lL2.1) (ne_lt2 lR2.2.1) ?_).use (by k_asm) F6 (by k_asm) (perm3 N6) (by k_asm) rfl (by decide) (by decide) ?_)
      · exact fun p hp => Nat.ne_of_lt (ktn_ltOf (by simp only [AllLt, and_true]; exact lM) p hp)
      rintro r6 n6 h6 tk6 F7 N7 ⟨x6, vals6, kx6, tl6, vm6, km6, rfl, rfl, him6, hp6, htl6, hx6⟩
      have lv6 := hp6.length
      have hv6 : vals6.length ≤ 15 := by
        have : un [] = 5 := rfl
        omega
      replace N7 := pickC N7
      k_steps
      refine Stop.mk (LCp.ListComp_P (F₀ := by k_asm) (by with_unfolding_all rfl) (by decide) (by rfl) (by decide) (by rfl) (by rfl) (by decide) ?_)
      k_steps
      (with_reducible rename Fr _ _ _ _ => F8)
      (with_reducible rename News _ _ _ _ => N8)
      have hst := called_in hLb hRb 6 (ms.getD 10 0) 0 [] (getD_in hmb 10) (by decide)
      refine Stop.mk (LCp.SrcLP.ledger (by rfl) F8 N8 (.head _) (by rw [List.size_toArray, List.length_append, sizeLine_eq]; simp; omega) ?_)
      intro g8
      refine pair_rest (ps := (called (ms.take 5) ((ms.drop 5).take 5) 6 (ms.getD 10 0) 0 []).1 ++ [(ms.getD 10 0, 0)]) (PairsIn.append (hp6.mono ?_) (.cons (.tail _ (.tail _ (.head _))) .nil)) (fun _ h => h) ?_ ?_
      · exact fun p hp => .tail _ (.tail _ (.tail _ (.tail _ (.tail _ (.tail _ (.tail _ (.tail _ (.tail _ hp))))))))
      · intro a b t u I oI C oC D m₂ yy h tk E' hab hC hx hx2 F9 N9 off ne
        have hb9 : (0 ≤ a ∧ a ≤ 260) ∧ (0 ≤ b ∧ b ≤ 260) := by
          rcases List.mem_append.mp hab with hab | hab
          · exact hst _ hab
          · have := List.mem_singleton.mp hab
            injection this with e1 e2
            rw [e1, e2]; exact ⟨getD_in hmb 10, by decide⟩
        k_steps
        refine Stop.mk ((c_letters (4096 * a + b) _ (by omega) (by omega)).use (by k_asm) F9 (by k_asm) N9 (by k_asm) rfl (by decide) (by decide) ?_)
        rintro r9 n9 h9' tk9 F10 N10 ⟨⟨t9, rfl⟩, rfl⟩
        exact ⟨h9', tk9, _, rfl, F10, N10, off, .inr ⟨_, .head _, rfl, _, rfl⟩, rfl, t9, rfl⟩
      · intro yy hyy
        k_steps
        (with_reducible rename News _ _ _ _ => N10)
        refine Stop.mk (ne_bys (vs := tv) (us := yy) ⟨listOf tv.toArray tkv, (N10 (T4, listOf tv.toArray tkv) (.tail _ (.tail _ (.tail _ (.tail _ (.tail _ (.tail _ (.tail _ (.head _))))))))).1, rfl, tkv, rfl⟩ ⟨LCg.lst yy, (N10 _ (.head _)).1, rfl, _, rfl⟩ hbt hyy (Nat.lt_of_le_of_lt (Nat.le_add_right _ 64) (by units_room)) ?_)
        k_steps
        (with_reducible rename News _ _ _ _ => N11)
        replace N11 := pickD N11

        k_steps
        (with_reducible rename News _ _ _ _ => N12)
        (with_reducible rename Fr _ _ _ _ => F12)
        refine Stop.mk ((c_flags t4.marks _).use (by k_asm) F12 (by k_asm) N12 (by k_asm) rfl (by decide) (by decide) ?_)
        rintro r11 n11 h11 tk11 F13 N13 ⟨t11, rfl, rfl⟩
        k_steps
        refine Stop.mk (LCt.ListComp_T (F₀ := by k_asm) (by with_unfolding_all rfl) (by decide) (by rfl) (by decide) (by rfl) ?_)
        k_steps
        refine Stop.mk (LCt.CompSrcT.range (n := 5) (by rfl) (by k_asm) (by k_asm) (by assumption) (by decide) (by decide) (by rw [sizeLine_eq]; decide) ?_)
        intro g13
        refine test_rest t4.marks ?_ ?_
        · rintro i t I oI C oC D m₂ yy2 h tk E' hi hC hx F14 N14 off ne
          have hi5 : i = 0 ∨ i = 1 ∨ i = 2 ∨ i = 3 ∨ i = 4 := by omega
          rcases hi5 with rfl | rfl | rfl | rfl | rfl
          · k_steps
            · (rename (List.any _ _) = true => hany)
              exact ⟨_, _, _, rfl, F14, N14, off, trivial, (emk 0 (by decide)).mpr (any_T hany (by omega)), rfl, _, rfl⟩
            · (rename (List.any _ _) = false => hany)
              exact ⟨_, _, _, rfl, F14, N14, off, trivial, mk_F (emk 0 (by decide)) (any_F hany (by omega)), rfl⟩
          · k_steps
            · (rename (List.any _ _) = true => hany)
              exact ⟨_, _, _, rfl, F14, N14, off, trivial, (emk 1 (by decide)).mpr (any_T hany (by omega)), rfl, _, rfl⟩
            · (rename (List.any _ _) = false => hany)
              exact ⟨_, _, _, rfl, F14, N14, off, trivial, mk_F (emk 1 (by decide)) (any_F hany (by omega)), rfl⟩
          · k_steps
            · (rename (List.any _ _) = true => hany)
              exact ⟨_, _, _, rfl, F14, N14, off, trivial, (emk 2 (by decide)).mpr (any_T hany (by omega)), rfl, _, rfl⟩
            · (rename (List.any _ _) = false => hany)
              exact ⟨_, _, _, rfl, F14, N14, off, trivial, mk_F (emk 2 (by decide)) (any_F hany (by omega)), rfl⟩
          · k_steps
            · (rename (List.any _ _) = true => hany)
              exact ⟨_, _, _, rfl, F14, N14, off, trivial, (emk 3 (by decide)).mpr (any_T hany (by omega)), rfl, _, rfl⟩
            · (rename (List.any _ _) = false => hany)
              exact ⟨_, _, _, rfl, F14, N14, off, trivial, mk_F (emk 3 (by decide)) (any_F hany (by omega)), rfl⟩
          · k_steps
            · (rename (List.any _ _) = true => hany)
              exact ⟨_, _, _, rfl, F14, N14, off, trivial, (emk 4 (by decide)).mpr (any_T hany (by omega)), rfl, _, rfl⟩
            · (rename (List.any _ _) = false => hany)
              exact ⟨_, _, _, rfl, F14, N14, off, trivial, mk_F (emk 4 (by decide)) (any_F hany (by omega)), rfl⟩
        · intro yy2 hyy2
          k_steps
          (with_reducible rename News _ _ _ _ => N15)
          refine join_K N15 (.head _) hyy2 (by decide) (by have := nmsTo_sum t4.marks 5; have := nmsTo_le t4.marks 5; omega) ?_
          intro t15 k15
          by_cases hz : maskOf t4.marks = 0
          · rw [nms_none hz 5, pfl, if_pos hz, show Txt.join (PySem.Str.ofString ", ") [] = PySem.Str.ofString "" from by decide]
            k_steps
          · rw [pfl, if_neg hz]
            have hjl := join_len hz
            refine truthy_T hjl.1 hjl.2 ?_
            k_steps)
end
end
end Mine

theorem PySem.Challenge.cw_wb0016_01_holds : PySem.Challenge.rw_wb0016_01.Holds :=
  Mine.law_holds
