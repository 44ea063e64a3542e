import PyProof.Rows.All
import Wide.All
import OpenK.AllK
import Wide.FinOn
import KE.BitLaws
import PyProof.ExcStrAll.Exception
import PyProof.CallStr
import PySem.Challenge.RW_yh0016_01
set_option Elab.async false

section
open PySem PySem.W PyProof.Rows
set_option maxRecDepth 100000
set_option maxHeartbeats 8000000
namespace Mine
open_top hd for PySem.Challenge.rw_yh0016_01
end Mine
end

section
open PySem PySem.W PySem.Calls PyProof.Rows
set_option maxRecDepth 100000
set_option maxHeartbeats 8000000
namespace Mine
abbrev Led := List (Addr × Obj)
/-- a list iterator at the place i of the list l -/
abbrev liObj (l : Addr) (i : Nat) : Obj := { cls := .type "list_iterator", data := .fields #[.ref l, .int i 0] }
abbrev liEnd (i : Nat) : Obj := { cls := .type "list_iterator", data := .fields #[.none, .int i 0] }

section
variable {w : World} {prog : Program} {A : Around} {E : Value → Shared → Prop} {s : Shared} {h₀ : Heap} {L l it : Addr} {m : Str → Option Value} {news : Led} {vs : List Value} {nn i : Nat} {x : Value}

theorem li_iter {Q : Value → Shared → Prop} (F : Fr h₀ L s.heap m) (N : News h₀ L s.heap news) (hl : s.heap.IsList l vs.toArray)
    (h : ∀ (I : Addr) h', Fr h₀ L h' m → News h₀ L h' ((I, liObj l 0) :: news) → (∀ p ∈ news, p.1 < I) → Q (.ref I) { s with heap := h' }) :
    wpAny (model prog w) A (call (.builtin "iter") [.ref l]) Q E s := by
  refine call_function_entry (by decide +kernel) (by decide +kernel) kdk_entry_iter (kdk_args_iter _) ?_
  unfold Builtin.«iter»
  refine wpAny_bind (m := someArgs "iter" 1 2 _) (wpAny_of_eq (a := [Value.ref l]) (by first | rfl | kernel_rfl!) ?_)
  show wpAny _ _ (pyIter (.ref l) >>= _) _ _ _
  refine wpAny_bind (wpAny_pyIter_list hl ?_)
  exact wpAny_pure ⟨_, rfl, h _ _ (F.push _) (News.push F N _ rfl) (fun q hq => Heap.lt_size (N q hq).1)⟩

theorem li_next {Q : Value → Shared → Prop} (F : Fr h₀ L s.heap m) (N : News h₀ L s.heap ((it, liObj l i) :: news)) (ha : ∀ p ∈ news, p.1 ≠ it) (hl : s.heap.IsList l vs.toArray) (hx : vs[i]? = some x)
    (h : ∀ h', Fr h₀ L h' m → News h₀ L h' ((it, liObj l (i + 1)) :: news) → Q x { s with heap := h' }) :
    wpAny (model prog w) A (call (.builtin "next") [.ref it]) Q E s := by
  have hm := N (it, liObj l i) (.head _)
  have ho := hm.1
  have hd : (liObj l i).data = .fields #[.ref l, .int i 0] := rfl
  have hit : Shared.TypeIs s (.ref it) "list_iterator" := ⟨_, ho, rfl⟩
  obtain ⟨ol, hol, _, nl, hdl⟩ := hl
  refine call_function_entry (by decide +kernel) (by decide +kernel) kdk_entry_next (kdk_args_next _) ?_
  unfold Builtin.«next»
  refine wpAny_bind (m := someArgs "next" 1 2 _) (wpAny_of_eq (a := [Value.ref it]) (by first | rfl | kernel_rfl!) ?_)
  dsimp only
  refine wpAny_bind (wpAny_specialOf (name := Str.ofString "__next__") hit slot_listiter_next.lookup ?_)
  refine wpAny_ite_split (fun hab => absurd hab (by decide)) (fun _ => ?_)
  refine wpAny_bind (wpAny_callSpecial?_slot (name := Str.ofString "__next__") hit slot_listiter_next
    (wpAny_call_entry slot_listiter_next hit entry_listiter_next ?_ (args_listiter_next _)))
  show wpAny _ _ (field (.ref it) 0 >>= _) _ _ s
  refine wpAny_bind (wpAny_field ho hd (x := .ref l) rfl ?_)
  show wpAny _ _ (if (Value.ref l == Value.none) = true then _ else _) _ _ s
  rw [if_neg (show ¬ ((Value.ref l == Value.none) = true) from Bool.false_ne_true)]
  show wpAny _ _ (field (.ref it) 1 >>= _) _ _ s
  refine wpAny_bind (wpAny_field ho hd (x := .int i 0) rfl ?_)
  show wpAny _ _ (seqItems? (.ref l) >>= _) _ _ s
  refine wpAny_bind (wpAny_seqItems hol hdl ?_)
  have hx' : vs.toArray[i]? = some x := by simpa using hx
  simp only [Int.toNat_natCast, hx']
  have hu : (s.heap.update it (Obj.mapFields (·.setIfInBounds 1 (rawInt ((i : Int) + 1))))).get? it = some (liObj l (i + 1)) := by
    have := Heap.get?_update_self (Obj.mapFields (·.setIfInBounds 1 (rawInt ((i : Int) + 1)))) ho rfl
    simpa [Obj.mapFields, rawInt, liObj, liEnd] using this
  have hs : Heap.SameBut it s.heap (s.heap.update it (Obj.mapFields (·.setIfInBounds 1 (rawInt ((i : Int) + 1))))) := Heap.SameBut.update ..
  refine wpAny_bind (wpAny_setField ho hd (by simp) (wpAny_pure ⟨x, rfl, ?_⟩))
  exact wpAny_pure ⟨_, rfl, h _ (F.change hs hm.2.1 hm.2.2) ((show News h₀ L s.heap ([] ++ (it, liObj l i) :: news) from N).setIn (fun _ hp => nomatch hp) ha hs hu)⟩

theorem li_stop {Q : Value → Shared → Prop} (hh : A.handled = none) (F : Fr h₀ L s.heap m) (N : News h₀ L s.heap ((it, liObj l i) :: news)) (ha : ∀ p ∈ news, p.1 ≠ it) (hl : s.heap.IsList l vs.toArray) (hx : vs[i]? = none)
    (h : ∀ h₂ h' e, Fr h₀ L h₂ m → News h₀ L h₂ ((it, liEnd i) :: news) → Heap.MadeExc h₂ h' e "StopIteration" [] → E (.ref e) { s with heap := h' }) :
    wpAny (model prog w) A (call (.builtin "next") [.ref it]) Q E s := by
  have hm := N (it, liObj l i) (.head _)
  have ho := hm.1
  have hd : (liObj l i).data = .fields #[.ref l, .int i 0] := rfl
  have hit : Shared.TypeIs s (.ref it) "list_iterator" := ⟨_, ho, rfl⟩
  obtain ⟨ol, hol, _, nl, hdl⟩ := hl
  refine call_function_entry (by decide +kernel) (by decide +kernel) kdk_entry_next (kdk_args_next _) ?_
  unfold Builtin.«next»
  refine wpAny_bind (m := someArgs "next" 1 2 _) (wpAny_of_eq (a := [Value.ref it]) (by first | rfl | kernel_rfl!) ?_)
  dsimp only
  refine wpAny_bind (wpAny_specialOf (name := Str.ofString "__next__") hit slot_listiter_next.lookup ?_)
  refine wpAny_ite_split (fun hab => absurd hab (by decide)) (fun _ => ?_)
  refine wpAny_bind (wpAny_callSpecial?_slot (name := Str.ofString "__next__") hit slot_listiter_next
    (wpAny_call_entry slot_listiter_next hit entry_listiter_next ?_ (args_listiter_next _)))
  show wpAny _ _ (field (.ref it) 0 >>= _) _ _ s
  refine wpAny_bind (wpAny_field ho hd (x := .ref l) rfl ?_)
  show wpAny _ _ (if (Value.ref l == Value.none) = true then _ else _) _ _ s
  rw [if_neg (show ¬ ((Value.ref l == Value.none) = true) from Bool.false_ne_true)]
  show wpAny _ _ (field (.ref it) 1 >>= _) _ _ s
  refine wpAny_bind (wpAny_field ho hd (x := .int i 0) rfl ?_)
  show wpAny _ _ (seqItems? (.ref l) >>= _) _ _ s
  refine wpAny_bind (wpAny_seqItems hol hdl ?_)
  have hx' : vs.toArray[i]? = none := by simpa using hx
  simp only [Int.toNat_natCast, hx']
  have hu : (s.heap.update it (Obj.mapFields (·.setIfInBounds 0 Value.none))).get? it = some (liEnd i) := by
    have := Heap.get?_update_self (Obj.mapFields (·.setIfInBounds 0 Value.none)) ho rfl
    simpa [Obj.mapFields, rawInt, liObj, liEnd] using this
  have hs : Heap.SameBut it s.heap (s.heap.update it (Obj.mapFields (·.setIfInBounds 0 Value.none))) := Heap.SameBut.update ..
  have F2 := F.change hs hm.2.1 hm.2.2
  have N2 := (show News h₀ L s.heap ([] ++ (it, liObj l i) :: news) from N).setIn (fun _ hp => nomatch hp) ha hs hu
  refine wpAny_bind (wpAny_rule (wpAny_bind (wpAny_setField ho hd (by simp) ?_)))
  show wpAny _ _ (newExc (.type "StopIteration") [] >>= _) _ _ _
  refine wpAny_bind ?_
  simp only [newExc, newTuple]
  refine wpAny_bind (wpAny_newObj_type ?_ (by size_fits))
  refine wpAny_bind (m := firstArgMember _ _) (wpAny_of_eq (a := Value.none) (by first | rfl | (simp only [firstArgMember]; rfl)) ?_)
  refine wpAny_newObj_type ?_ (by size_fits)
  simp only [raiseNew]
  refine wpAny_bind (wpAny_handled ?_)
  simp only [hh]
  refine wpAny_bind (wpAny_pure (wpAny_throw ?_))
  refine h _ _ _ F2 N2 ⟨fun b o hb => Heap.get?_push_of_some _ (Heap.get?_push_of_some _ hb), Heap.get?_none_of_le (by simp), _, Heap.get?_push_size _ rfl, ?_, ?_⟩
  · exact Heap.get?_none_of_le (Nat.le_refl _)
  · exact Heap.get?_push_of_some _ (Heap.get?_push_size _ rfl)
end
end Mine
end

section
open PySem
set_option maxRecDepth 100000
namespace Mine
/-- the number that _parse_varint reads: p is what stands so far, times 64 -/
def vnum (p : Int) : List Nat → Int
  | [] => p
  | c :: cs => if c < 64 then p + c else vnum ((p + (c - 64)) * 64) cs
/-- how many codes it takes -/
def vlen : List Nat → Nat
  | [] => 0
  | c :: cs => if c < 64 then 1 else vlen cs + 1
/-- the row of a text's codes -/
def rowF (p : Int) : List Nat → List Int
  | [] => [p]
  | c :: cs => if c < 64 then (p + c) :: rowF 0 cs else rowF ((p + (c - 64)) * 64) cs

theorem and64 {c : Nat} (h : c < 128) : (Builtin.bitAnd (c : Int) 64 != 0) = decide (64 ≤ c) := by
  revert c; decide +kernel
theorem and64n {c : Nat} (h : c < 128) : Builtin.bitAnd (c : Int) 64 ≠ 0 ↔ 64 ≤ c := by
  revert c; decide +kernel
theorem and63 (c : Nat) : Builtin.bitAnd (c : Int) 63 = ((c % 64 : Nat) : Int) := by
  rw [PyProof.Rows.bitAnd_m6]; lia
theorem or64 {v : Int} {r : Nat} (hv : 0 ≤ v) (hr : r < 64) : Builtin.bitOr (v * 64) (r : Int) = v * 64 + r := by
  obtain ⟨n, rfl⟩ := Int.eq_ofNat_of_zero_le hv
  have h1 : Builtin.bitOr ((n : Int) * 64) (r : Int) = ((n * 64 ||| r : Nat) : Int) := by
    have a : ∀ k : Nat, decide ((0 : Int) ≤ Builtin.bitNot (k : Int)) = false := fun k => by simp only [Builtin.bitNot]; exact decide_eq_false (by lia)
    have b : ∀ k : Nat, (Builtin.bitNot (Builtin.bitNot (k : Int))) = k := fun k => by simp only [Builtin.bitNot]; lia
    have e : ((n : Int) * 64) = ((n * 64 : Nat) : Int) := by push_cast; rfl
    rw [e]
    unfold Builtin.bitOr Builtin.bitAnd
    rw [a, a]
    simp only [b, Int.toNat_natCast]
  rw [h1]
  have h2 : n * 64 ||| r = n * 64 + r := by
    have := Nat.shiftLeft_add_eq_or_of_lt (b := r) (i := 6) (by lia : r < 2 ^ 6) n
    rw [Nat.shiftLeft_eq] at this
    exact this.symm
  rw [h2]; push_cast; rfl
theorem vnum_hi {p : Int} {b : Nat} {cs : List Nat} (h : 64 ≤ b) (h2 : b < 128) : vnum p (b :: cs) = vnum ((p + (b % 64 : Nat)) * 64) cs := by
  have e : ((b % 64 : Nat) : Int) = (b : Int) - 64 := by lia
  rw [vnum, if_neg (by lia), e]
theorem vlen_hi {b : Nat} {cs : List Nat} (h : 64 ≤ b) : vlen (b :: cs) = vlen cs + 1 := by rw [vlen, if_neg (by lia)]
theorem vnum_lo {p : Int} {b : Nat} {cs : List Nat} (h : b < 64) : vnum p (b :: cs) = p + (b % 64 : Nat) := by
  have e : b % 64 = b := by lia
  rw [vnum, if_pos h, e]
theorem vlen_lo {b : Nat} {cs : List Nat} (h : b < 64) : vlen (b :: cs) = 1 := by rw [vlen, if_pos h]
theorem pw1 : ∀ i : Nat, (1 : Int) ≤ 64 ^ i
  | 0 => by simp
  | i + 1 => by rw [Int.pow_succ]; have := pw1 i; lia
theorem pwS (i : Nat) : (64 : Int) ^ (i + 1) = 64 ^ i * 64 := Int.pow_succ ..
theorem pwN (i : Nat) : ((64 : Int) ^ i) = ((2 ^ (6 * i) : Nat) : Int) := by
  rw [Nat.pow_mul]; push_cast; rfl
theorem rowF_step : ∀ (cs : List Nat) (p : Int), rowF p cs = vnum p (cs ++ [0]) :: (if vlen (cs ++ [0]) ≤ cs.length then rowF 0 (cs.drop (vlen (cs ++ [0]))) else [])
  | [], p => by simp [rowF, vnum, vlen]
  | c :: cs, p => by
    by_cases h : c < 64
    · simp [rowF, vnum, vlen, h]
    · have ih := rowF_step cs ((p + (c - 64)) * 64)
      have e1 : rowF p (c :: cs) = rowF ((p + (c - 64)) * 64) cs := by rw [rowF, if_neg h]
      have e2 : vnum p (c :: cs ++ [0]) = vnum ((p + (c - 64)) * 64) (cs ++ [0]) := by show vnum p (c :: (cs ++ [0])) = _; rw [vnum, if_neg h]
      have e3 : vlen (c :: cs ++ [0]) = vlen (cs ++ [0]) + 1 := by show vlen (c :: (cs ++ [0])) = _; rw [vlen, if_neg h]
      rw [e1, ih, e2, e3]
      simp
theorem vlen_pos : ∀ (cs : List Nat), 0 < vlen (cs ++ [0])
  | [] => by simp [vlen]
  | c :: cs => by show 0 < vlen (c :: (cs ++ [0])); rw [vlen]; split <;> lia
theorem vlen_le : ∀ (cs : List Nat), vlen (cs ++ [0]) ≤ cs.length + 1
  | [] => by simp [vlen]
  | c :: cs => by
    show vlen (c :: (cs ++ [0])) ≤ _
    have := vlen_le cs
    rw [vlen, List.length_cons]; split <;> lia
end Mine
end

section
open PySem PySem.W PySem.Calls PyProof.Rows
set_option maxRecDepth 100000
set_option maxHeartbeats 8000000
namespace Mine
/-- what a call of the def at f, with these values, is known to give back -/
def Spec (n : Nat) (f : Addr) (vs : List Value) (news : Led) (Pre : Prop) (Ret : Value → Led → Prop) : Prop :=
  ∀ (w : World) (mean : ExcName → Option Value) (mg mb : Str → Option Value) (dp un : Nat) (gd : Option (List Code)) (cn : Str) (cs : Scope) (a : Addr) (ccd : Value) (cl : List (Str × Addr)) (outer : List Env)
    (A₀ : Around) (base h₀ : Heap) (L : Addr) (m : Str → Option Value) (s : Shared) (Q E : Value → Shared → Prop),
    Below A₀ base outer h₀ → Fr h₀ L s.heap m → (hd.heap_39 w.params).In h₀ → News h₀ L s.heap news → Top hd.view_39 (looseW hd.view_39 [Str.ofString "UNKNOWN"]) mean mg mb h₀ → cs.kind = .function →
    dp + n < recursionLimit → un + 8 * n + 100 < cLine → Pre →
    (∀ r nw h' tk', Fr h₀ L h' m → News h₀ L h' nw → Ret r nw → Q r { s with heap := h', toks := tk' }) →
    wpAny (model PySem.Challenge.rw_yh0016_01.row.prog w) (ktrTop dp un gd cn cs L a ccd cl outer) (call (.ref f) vs) Q E s
/-- the same for a call out of the outermost def, law itself: what is called may catch -/
def Spec0 (n : Nat) (f : Addr) (vs : List Value) (news : Led) (Pre : Prop) (Ret : Value → Led → Prop) : Prop :=
  ∀ (w : World) (mean : ExcName → Option Value) (mg mb : Str → Option Value) (dp un : Nat) (gd : Option (List Code)) (cn : Str) (cs : Scope) (a : Addr) (ccd : Value)
    (A₀ : Around) (h₀ : Heap) (L : Addr) (m : Str → Option Value) (s : Shared) (Q E : Value → Shared → Prop),
    Below A₀ h₀ [] h₀ → Fr h₀ L s.heap m → (hd.heap_39 w.params).In h₀ → News h₀ L s.heap news → Top hd.view_39 (looseW hd.view_39 [Str.ofString "UNKNOWN"]) mean mg mb h₀ → cs.kind = .function →
    dp + n < recursionLimit → un + 8 * n + 100 < cLine → Pre →
    (∀ r nw h' tk', Fr h₀ L h' m → News h₀ L h' nw → Ret r nw → Q r { s with heap := h', toks := tk' }) →
    wpAny (model PySem.Challenge.rw_yh0016_01.row.prog w) (ktrTop dp un gd cn cs L a ccd [] []) (call (.ref f) vs) Q E s
def Stop (P : Prop) : Prop := P
theorem stop_here {P : Prop} (h : Stop P) : P := h
theorem Fr.as {h₀ h : Heap} {L : Addr} {m m' : Str → Option Value} (F : Fr h₀ L h m) (e : m = m') : Fr h₀ L h m' := e ▸ F
theorem News.sub {h₀ h : Heap} {L : Addr} {l l' : Led} (N : News h₀ L h l) (hs : ∀ p ∈ l', p ∈ l) : News h₀ L h l' := fun p hp => N p (hs p hp)
theorem norm_state {α : Type} {M : Model} {A : Around} {t : Sem α} {Q : α → Shared → Prop} {E : Value → Shared → Prop} {s : Shared} {hp : Heap} {T : Nat} (h : ∀ tk, wpAny M A t Q E { s with heap := hp, toks := tk }) : wpAny M A t Q E { s with heap := hp, toks := T } := h T
/-- marks the state that the others are told by -/
def SMark (_s : Shared) : Prop := True
theorem norm_of {α : Type} {M : Model} {A : Around} {t : Sem α} {Q : α → Shared → Prop} {E : Value → Shared → Prop} {s : Shared} {hp : Heap} {T : Nat} (_ : SMark s) (h : ∀ tk, wpAny M A t Q E { s with heap := hp, toks := tk }) : wpAny M A t Q E { s with heap := hp, toks := T } := h T
theorem News.swap {h₀ h : Heap} {L : Addr} {a b : Addr × Obj} {l : Led} (N : News h₀ L h (a :: b :: l)) : News h₀ L h (b :: a :: l) := fun p hp => by
  rcases List.mem_cons.mp hp with rfl | hp
  · exact N _ (.tail _ (.head _))
  rcases List.mem_cons.mp hp with rfl | hp
  · exact N _ (.head _)
  · exact N _ (.tail _ (.tail _ hp))
theorem News.rot3 {h₀ h : Heap} {L : Addr} {a b c : Addr × Obj} {l : Led} (N : News h₀ L h (a :: b :: c :: l)) : News h₀ L h (b :: c :: a :: l) := fun p hp => by
  rcases List.mem_cons.mp hp with rfl | hp
  · exact N _ (.tail _ (.head _))
  rcases List.mem_cons.mp hp with rfl | hp
  · exact N _ (.tail _ (.tail _ (.head _)))
  rcases List.mem_cons.mp hp with rfl | hp
  · exact N _ (.head _)
  · exact N _ (.tail _ (.tail _ (.tail _ hp)))
theorem News.drop23 {h₀ h : Heap} {L : Addr} {a b c : Addr × Obj} {l : Led} (N : News h₀ L h (a :: b :: c :: l)) : News h₀ L h (a :: l) := fun p hp => by
  rcases List.mem_cons.mp hp with rfl | hp
  · exact N _ (.head _)
  · exact N _ (.tail _ (.tail _ (.tail _ hp)))
theorem News.drop2 {h₀ h : Heap} {L : Addr} {a b : Addr × Obj} {l : Led} (N : News h₀ L h (a :: b :: l)) : News h₀ L h (a :: l) := fun p hp => by
  rcases List.mem_cons.mp hp with rfl | hp
  · exact N _ (.head _)
  · exact N _ (.tail _ (.tail _ hp))
theorem News.tl {h₀ h : Heap} {L : Addr} {a : Addr × Obj} {l : Led} (N : News h₀ L h (a :: l)) : News h₀ L h l := fun p hp => N p (.tail _ hp)
/-- a list of a ledger within another -/
theorem sub_refl {α : Type} {l : List α} : ∀ p ∈ l, p ∈ l := fun _ h => h
theorem sub_nil {α : Type} {l : List α} : ∀ p ∈ ([] : List α), p ∈ l := fun _ h => nomatch h
theorem sub_cons {α : Type} {a : α} {r l : List α} (h : a ∈ l) (t : ∀ p ∈ r, p ∈ l) : ∀ p ∈ a :: r, p ∈ l := fun p hp => by
  rcases List.mem_cons.mp hp with rfl | hp
  · exact h
  · exact t _ hp
theorem sub_tail {α : Type} {a : α} {r l : List α} (t : ∀ p ∈ r, p ∈ l) : ∀ p ∈ r, p ∈ a :: l := fun p hp => .tail _ (t p hp)
/-! small facts of whole numbers: they stand for lia where the context is wide -/
theorem om_d {a c n : Nat} (h : a + c < n) : a < n := Nat.lt_of_le_of_lt (Nat.le_add_right a c) h
theorem om_d1 {a b d n : Nat} (h : a + d < n) (e : b ≤ d) : a + b < n := by lia
theorem om_d2 {a b c d n : Nat} (h : a + d < n) (e : b + c ≤ d) : a + b + c < n := by lia
theorem om_d3 {a b c d f n : Nat} (h : a + d < n) (e : b + c + f ≤ d) : a + b + c + f < n := by lia
theorem om_d4 {a b c d f g n : Nat} (h : a + d < n) (e : b + c + f + g ≤ d) : a + b + c + f + g < n := by lia
theorem om_u2 {a b c d f n : Nat} (h : a + d + f < n) (e : b + c ≤ d + f) : a + b + c < n := by lia
theorem om_u3 {a b c d f g n : Nat} (h : a + d + f < n) (e : b + c + g ≤ d + f) : a + b + c + g < n := by lia
theorem om_u4 {a b c d f g i n : Nat} (h : a + d + f < n) (e : b + c + g + i ≤ d + f) : a + b + c + g + i < n := by lia
theorem om_u5 {a b c d f g i j n : Nat} (h : a + d + f < n) (e : b + c + g + i + j ≤ d + f) : a + b + c + g + i + j < n := by lia
theorem om_nn {a b : Nat} : (0 : Int) ≤ (a : Int) + (b : Int) := by lia
theorem om_addlt {a b n : Nat} (h : a + b < n) : (a : Int) + (b : Int) < (n : Int) := by lia
theorem om_lt63 {a n : Nat} (h : (a : Int) < (n : Int)) (e : n ≤ 1000) : (a : Int) < 2 ^ 63 := by lia
theorem om_add63 {a b n : Nat} (h : a + b < n) (e : n ≤ 1000) : (a : Int) + (b : Int) < 2 ^ 63 := by lia
theorem om_sub {a n : Nat} (h : a < n) : n - (a + 1) < n - a := by lia
theorem om_suc1 {a : Nat} : 1 ≤ a + 1 := by lia
theorem om_pos {a : Nat} (h : 1 ≤ a) : (0 : Int) < (a : Int) := by lia
theorem om_half (j : Nat) : ((j : Int).fdiv 2 - 1).toNat = j / 2 - 1 := by rw [Int.fdiv_eq_ediv_of_nonneg _ (by decide)]; lia
theorem om_mod (j : Nat) : (j : Int).fmod 2 = ((j % 2 : Nat) : Int) := by rw [Int.fmod_eq_emod_of_nonneg _ (by decide)]; lia
theorem om_halflo (j : Nat) : -2 ^ 63 ≤ (j : Int).fdiv 2 - 1 := by rw [Int.fdiv_eq_ediv_of_nonneg _ (by decide)]; lia
theorem om_halfhi {j p n : Nat} (h : p + j < n) (e : n ≤ 1000) : (j : Int).fdiv 2 - 1 < 2 ^ 63 := by rw [Int.fdiv_eq_ediv_of_nonneg _ (by decide)]; lia
theorem om_halfhi2 {j p n : Nat} (h : p + j < n) (e : n ≤ 1000) : (j : Int).fdiv 2 - 1 ≤ ((1048576 : Nat) : Int) := by rw [Int.fdiv_eq_ediv_of_nonneg _ (by decide)]; lia
theorem om_halflo' (j : Nat) : -2 ^ 63 ≤ (j : Int) / 2 - 1 := by lia
theorem om_halfhi' {j p n : Nat} (h : p + j < n) (e : n ≤ 1000) : (j : Int) / 2 - 1 < 2 ^ 63 := by lia
theorem om_halfhi2' {j p n : Nat} (h : p + j < n) (e : n ≤ 1000) : (j : Int) / 2 - 1 ≤ ((1048576 : Nat) : Int) := by lia
theorem om_dl {d p n : Nat} (h : d ≤ p) (h2 : (p : Int) < (n : Int)) (e : n ≤ 1000) : d + (0 + 1) ≤ 16777216 := by lia
theorem om_dl2 {d p j n : Nat} (h : d ≤ p) (h2 : p + j < n) (e : n ≤ 1000) : d + (0 + 1) ≤ 16777216 := by lia
theorem om_dl3 {d p j n : Nat} (h : d ≤ p) (h2 : p + j < n) (e : n ≤ 1000) : d + (0 + 1 + (j / 2 - 1)) + (0 + 1) ≤ 16777216 := by lia
end Mine
end

section
open PySem PySem.W PySem.Calls PyProof.Rows
set_option compiler.extract_closed false
set_option maxRecDepth 100000
set_option maxHeartbeats 8000000
namespace Mine
local macro_rules | `(tactic| walk_at "exec While BinOp cons nil") => `(tactic| ((with_reducible show wpAny _ _ (exec (Stmt.While _ _ _ _) _) _ _ _); refine stop_here ?_))
local macro_rules | `(tactic| walk_at "call builtin:next") => `(tactic| (refine stop_here ?_))

theorem varint_c (codes : List Nat) (vs : List Value) (nn i : Nat) (l it : Addr) (rest : Led) (hlt : ∀ c ∈ codes, c < 128) (hlast : codes.getLast? = some 0) (hi : i < codes.length) (hlen : codes.length ≤ 1000)
    (hvs : IntsAre vs (codes.map Int.ofNat)) :
    Spec 2 51 [.ref it] ((it, liObj l i) :: (l, listOf vs.toArray nn) :: rest) ((∀ p ∈ rest, p.1 ≠ it) ∧ l ≠ it)
      (fun r nw => nw = (it, liObj l (i + vlen (codes.drop i))) :: (l, listOf vs.toArray nn) :: rest ∧ ∃ t, r = .int (vnum 0 (codes.drop i)) t) := by
  intro w mean mg mb dp un gd cn cs a ccd cl outer A₀ base h₀ L m s Q E B F X N T hk hdp hun hpre hret
  revert X; k_fill; w_top off; intro X
  refine wpAny_call ?_
  k_dflt cell_enter
  rename Fr _ _ _ _ => F1
  replace F1 := Fr.as F1 (m' := fun y => List.lookup y [(Str.ofString "iterator", Value.ref it)]) (by with_unfolding_all rfl)
  rename News _ _ _ _ => N1
  k_steps
  have hap : ∀ p ∈ (l, listOf vs.toArray nn) :: rest, p.1 ≠ it := fun p hp => by
    rcases List.mem_cons.mp hp with rfl | hp
    · exact hpre.2
    · exact hpre.1 p hp
  obtain ⟨t0, hx0⟩ := hvs.get i (codes[i] : Nat) (by simp [hi])
  refine li_next F1 N1 hap (News.isList N1 (.tail _ (.head _))) hx0 ?_
  intro h2 F2 N2
  k_steps
  refine While_inv2 (fun n m' nx => ∃ (j b : Nat) (p : Int) (tv tb : Tok), n = codes.length - j ∧ 1 ≤ j ∧ j ≤ codes.length ∧ codes[j - 1]? = some b ∧ 0 ≤ p ∧ p + 64 ≤ 64 ^ j ∧
      vnum p (b :: codes.drop j) = vnum 0 (codes.drop i) ∧ j - 1 + vlen (b :: codes.drop j) = i + vlen (codes.drop i) ∧
      (m' = fun y => if y = Str.ofString "val" then some (Value.int (p + (b % 64 : Nat)) tv) else if y = Str.ofString "b" then some (Value.int b tb) else List.lookup y [(Str.ofString "iterator", Value.ref it)]) ∧
      nx = (it, liObj l j) :: (l, listOf vs.toArray nn) :: rest)
    (by with_reducible assumption) (by with_reducible assumption) (n₀ := codes.length - (i + 1)) ?h0 ?ht
  case h0 =>
    refine' ⟨i + 1, codes[i], 0, _, _, rfl, by lia, by lia, by simp [hi], by lia, ?hp, ?hv, ?hw, ?hm, rfl⟩
    case hm => funext y; simp only [and63, Int.zero_add]; rfl
    case hp => have := pwS i; have := pw1 i; lia
    case hv => rw [← List.drop_eq_getElem_cons hi]
    case hw => rw [← List.drop_eq_getElem_cons hi]; lia
  case ht =>
    rintro n m₁ news₁ h₁ tk₁ F₃ N₃ ⟨j, b, p, tv, tb, rfl, hj1, hj2, hb, hp0, hp1, hT, hV, rfl, rfl⟩
    have hbm : b ∈ codes := List.mem_of_getElem? hb
    have hb8 := hlt b hbm
    k_steps
    · rename Builtin.bitAnd _ 64 ≠ 0 => hc
      rw [and64n hb8] at hc
      have hjlt : j < codes.length := by
        rcases Nat.lt_or_ge j codes.length with h | h
        · exact h
        · exfalso
          have : j = codes.length := by lia
          subst this
          rw [List.getLast?_eq_getElem?, hb] at hlast
          cases hlast; lia
      refine ilshift_int (by decide) ?hb ?_
      case hb =>
        have h1 : Builtin.Int.intBits (p + (b % 64 : Nat)) ≤ 6 * j := by
          refine intBits_le ?_
          have h2 := pwN j
          have h3 : ((p + (b % 64 : Nat)).natAbs : Int) = p + (b % 64 : Nat) := by lia
          have h4 : ((p + (b % 64 : Nat)).natAbs : Int) < ((2 ^ (6 * j) : Nat) : Int) := by rw [h3, ← h2]; lia
          exact Int.ofNat_lt.mp h4
        lia
      k_steps
      obtain ⟨t1, hx1⟩ := hvs.get j (codes[j] : Nat) (by simp [hjlt])
      refine li_next (by with_reducible assumption) (by with_reducible assumption) hap (News.isList (by with_reducible assumption) (.tail _ (.head _))) hx1 ?_
      intro h5 F5 N5
      k_steps
      refine' ⟨_, _, _, _, _, rfl, by with_reducible assumption, by with_reducible assumption, ?_, j + 1, codes[j], (p + (b % 64 : Nat)) * 64, _, _, rfl, by lia, by lia, by simp [hjlt], by lia, ?hp, ?hv, ?hw, ?hm, rfl⟩
      case hm =>
        funext y
        have e6 : (2 : Int) ^ (6 : Int).toNat = 64 := by decide
        rw [and63, e6, or64 (by lia) (by lia)]
        by_cases h1 : y = Str.ofString "val"
        · simp only [if_pos h1]; rfl
        · simp only [if_neg h1]
          by_cases h2 : y = Str.ofString "b"
          · simp only [if_pos h2]; rfl
          · simp only [if_neg h2]
      case hp => have := pwS j; lia
      case hv => rw [← hT, vnum_hi hc hb8, ← List.drop_eq_getElem_cons hjlt]
      case hw => rw [vlen_hi hc] at hV; rw [← hV, ← List.drop_eq_getElem_cons hjlt]; lia
      lia
    · rename Builtin.bitAnd _ 64 = 0 => hc
      have hc : b < 64 := by
        rcases Nat.lt_or_ge b 64 with h | h
        · exact h
        · exact absurd hc ((and64n hb8).mpr h)
      rw [vnum_lo hc] at hT
      rw [vlen_lo hc] at hV
      refine hret _ _ _ _ (by with_reducible assumption) (by with_reducible assumption) ⟨?_, tv, by rw [hT]⟩
      rw [← hV, show j - 1 + 1 = j from by lia]
end Mine
end

section
open PySem PySem.W PySem.Calls PyProof.Rows
set_option maxRecDepth 100000
set_option maxHeartbeats 8000000
namespace Mine
section
variable {prog : Program} {w : World} {A : Around} {E : Value → Shared → Prop} {s : Shared} {h₀ : Heap} {L : Addr} {m : Str → Option Value} {env : Env}

theorem ints_snoc {y : Int} {t : Tok} : ∀ {vs : List Value} {ys : List Int}, IntsAre vs ys → IntsAre (vs ++ [.int y t]) (ys ++ [y])
  | _, _, .nil => .cons y t .nil
  | _, _, .cons z u r => .cons z u (ints_snoc r)

theorem compS_rest {elt : Expr} {v : Str} {scope : Scope} {cl : List (Str × Addr)} {Fin : List Value → Led → Prop} {news : Led} (x : Str)
    (turn : ∀ (c : Nat) (u : Tok) (i : Nat) I oI C oC D m₂ ys h tk (E' : Value → Shared → Prop), x.cps[i]? = some c → LCg.NsObj oC m₂ → m₂ v = some (.str ⟨#[c]⟩ u) → Fr h₀ L h m → News h₀ L h ((I, oI) :: (C, oC) :: (D, LCg.lst ys) :: news) → LCg.Off3 I C D news → ((@Ne Nat I C) ∧ (@Ne Nat I D) ∧ (@Ne Nat C D)) →
      wpAny (model prog w) A (eval elt (compEnvC scope cl C env)) (LCg.CompEnd h₀ L m { s with heap := h, toks := tk } I oI C oC D (LCg.lst ys) (fun _ => True) (fun y news' => news' = news ∧ ∃ t : Tok, y = .int (c : Nat) t)) E' { s with heap := h, toks := tk })
    (fin : ∀ ys, IntsAre ys (x.cps.toList.map Int.ofNat) → Fin ys news) :
    LCg.CompRest prog w A h₀ L m env elt v scope cl s (fun _ => True) (SignAt x) Fin x.cps.size 0 [] news := by
  have key : ∀ (j i : Nat) (ys : List Value), i + j = x.cps.size → IntsAre ys ((x.cps.toList.take i).map Int.ofNat) → LCg.CompRest prog w A h₀ L m env elt v scope cl s (fun _ => True) (SignAt x) Fin j i ys news := by
    intro j
    induction j with
    | zero =>
      intro i ys hi hy
      have e : i = x.cps.toList.length := by simpa using hi
      subst e
      rw [List.take_length] at hy
      exact LCg.CompRest.zero (fin ys hy)
    | succ j ih =>
      intro i ys hi hy
      refine LCg.CompRest.succ ?_
      intro y I oI C oC D m₂ h tk E' hv hC hx F N off ne
      obtain ⟨c, u, hc, rfl⟩ := hv
      refine wpAny_mono (turn c u i I oI C oC D m₂ ys h tk E' hc hC hx F N off ne) (fun y s₂ hq => ?_) fun _ _ e => e
      obtain ⟨h', tk', nw, e, F', N', off', hS, hn, t', hy'⟩ := hq
      rw [hn] at N' off'
      refine ⟨h', tk', news, e, F', N', off', trivial, ?_⟩
      rw [hy']
      refine ih (i + 1) _ (by lia) ?_
      have hk : x.cps.toList[i]? = some c := by simpa using hc
      rw [List.take_add_one, hk]
      simpa using ints_snoc hy
  exact key x.cps.size 0 [] (by lia) (by simp only [List.take_zero, List.map_nil]; exact .nil)

def SrcS (prog : Program) (w : World) (A : Around) (h₀ : Heap) (L : Addr) (m : Str → Option Value) (env : Env) (elt : Expr) (v : Str) (scope : Scope) (cl : List (Str × Addr)) (Fin : Shared → List Value → Led → Prop) (xv : Value) (s₁ : Shared) : Prop :=
  ∃ x t news, xv = .str x t ∧ A.handled = none ∧ Fr h₀ L s₁.heap m ∧ News h₀ L s₁.heap news ∧ x.cps.all (· < 128) = true ∧ x.cps.size ≤ sizeLine ∧
    ∀ s₂ : Shared, (∃ h, s₂ = { s₁ with heap := h }) → LCg.CompRest prog w A h₀ L m env elt v scope cl s₂ (fun _ => True) (SignAt x) (Fin s₂) x.cps.size 0 [] news

theorem ListComp_S {elt iter : Expr} {x : Str} {px : Pos} {scope : Scope} {cl : List (Str × Addr)} {pos : Pos} {Q : Value → Shared → Prop} (F₀ : Fr h₀ L s.heap m)
    (hclos : closureFor scope env = pure cl) (hcell : ∀ y ∈ scope.names, y.2 ≠ .cell) (hkind : scope.kind = .function)
    (hnames : ∀ y ∈ scope.names, y.2 = .local → scope.names.lookup y.1 = some .local) (hx : scope.names.lookup x = some .local)
    (h : wpAny (model prog w) A (eval iter env) (SrcS prog w A h₀ L m env elt x scope cl (fun s₂ => LCg.FinE h₀ L m s₂ Q)) E s)
    (hs : ∀ x, foldedSetIterable iter env x = pure x := by intro _; rfl) :
    wpAny (model prog w) A (eval (.ListComp elt [⟨.Name x px, iter, [], 0⟩] scope pos) env) Q E s := by
  rw [eval_ListComp]
  refine wpAny_comprehension_free (use := none) rfl hs hclos hkind hnames (wpAny_mono h (fun xv s₁ h₁ => ?_) fun _ _ e => e)
  obtain ⟨tx, t, news, rfl, hh, F, N, hall, hsz, R⟩ := h₁
  refine wpAny_pyIter_ascii hall ?_
  have W := Walks.strAscii (prog := prog) (w := w) hh s₁.heap.objs.size tx t
  have up : ∀ b o, s₁.heap.get? b = some o → (s₁.heap.push { cls := .type "str_ascii_iterator", data := .fields #[.str tx t, .int 0 0] }).get? b = some o := fun b o e => Heap.get?_push_of_some _ e
  refine LCg.block_U W hsz (fun i h st => by obtain ⟨o, e, _⟩ := st; exact ⟨o, e⟩)
    (fun i h h' o nw st e e' _ _ _ => W.frame _ _ _ st fun b hb o' eb => by
      obtain rfl := List.mem_singleton.mp hb
      rw [e] at eb; cases eb; exact e') hcell hkind hx ⟨_, Heap.get?_push_size _ rfl, rfl, rfl⟩ (fun b hb => ?_)
    (F.keeps up) (N.grown up) (Nat.ne_of_lt F.ns.lt) (next_is_new F) (fun p hp => Nat.ne_of_lt (Heap.lt_size (N p hp).1)) trivial (R _ ⟨_, rfl⟩) ?_
  · rw [List.mem_singleton.mp hb]
    show s₁.heap.objs.size < (s₁.heap.push _).objs.size
    rw [Heap.size_push]; exact Nat.lt_succ_self _
  · intro D C h tk m' ys news' F' N' o1 hn hC₀ hD₀ hCL hDL hCD offC fin
    refine ⟨m', hn, fun h'' hs'' => fin D h'' tk (F'.change hs'' hCL hC₀) (fun p hp => ?_) o1⟩
    refine ⟨hs''.extBut _ _ ?_ (N' p hp).1, (N' p hp).2⟩
    rcases List.mem_cons.mp hp with rfl | hp
    · exact Ne.symm hCD
    · exact offC p hp
end
end Mine
end

section
open PySem PySem.W PySem.Calls PyProof.Rows
set_option compiler.extract_closed false
set_option maxRecDepth 100000
set_option maxHeartbeats 8000000
namespace Mine
local macro_rules | `(tactic| walk_at $k) => if ["call builtin:next", "binaryOp Add ref ref", "SrcS", "call builtin:iter"].contains k.getString then `(tactic| (refine stop_here ?_)) else Lean.Macro.throwUnsupported
local macro_rules | `(tactic| walk_at "eval ListComp") => `(tactic| ((with_reducible show wpAny _ _ (eval (Expr.ListComp _ _ _ _) _) _ _ _); refine stop_here ?_))
local macro_rules | `(tactic| walk_at "call ref") => `(tactic| ((with_reducible show wpAny _ _ (call (Value.ref 51) _) _ _ _); refine stop_here ?_))
local macro_rules | `(tactic| walk_at "exec While Constant cons nil") => `(tactic| ((with_reducible show wpAny _ _ (exec (Stmt.While _ _ _ _) _) _ _ _); refine stop_here ?_))

theorem numbers_c (x : Str) (t : Tok) (rest : Led) (hlt : ∀ c ∈ x.cps.toList, c < 128) (hlen : x.cps.size ≤ 500) :
    Spec0 4 137 [.str x t] rest True
      (fun r nw => ∃ (d : Addr) (vs : List Value) (nn : Nat), r = .ref d ∧ nw = (d, listOf vs.toArray nn) :: rest ∧ (∀ p ∈ rest, p.1 < d) ∧ IntsAre vs (rowF 0 x.cps.toList)) := by
  intro w mean mg mb dp un gd cn cs a ccd A₀ h₀ L m s Q E B F X N T hk hdp hun hpre hret
  revert X; k_fill; w_top off; intro X
  refine wpAny_call ?_
  k_dflt (refine' code_defS0 ?k1 ?k2 ?k3 ?k4 ?k5 ?kA ?k6 ?k7 ?k8 ?k9 ?kB ?_ ?cK ?c2 ?c3 ?c4 ?c5; (case kA => exact rfl); (case k2 => k_asm); (case k1 => k_asm); (case k3 => k_asm); (case k4 => k_asm); (case k5 => k_asm); (case k6 => k_is); (case k7 => k_is); (case k8 => ktr_room); (case k9 => first | exact BindsTo.of_eq rfl | exact binds_K (by k_in) rfl (by k_is) rfl rfl rfl); (case kB => exact locs rfl); (case cK => first | exact rfl | assumption); (case c2 => exact rfl); (case c3 => exact rfl); (case c4 => exact rfl); (case c5 => decide); k_whole; intro g' L' h' FG' F' N' B' X' T' D'; (try dsimp only); (try k_lift B'); (try k_fold))
  rename Fr _ _ _ _ => F1
  replace F1 := Fr.as F1 (m' := fun y => List.lookup y [(Str.ofString "text", Value.str x t)]) (by with_unfolding_all rfl)
  rename News _ _ _ _ => N1
  k_steps
  refine ListComp_S (cl := []) F1 ?hclos ?hcell rfl ?hnames rfl ?_
  case hclos => exact closureFor_none (by decide)
  case hcell => decide
  case hnames => decide
  k_steps
  refine ⟨x, t, rest, rfl, rfl, by with_reducible assumption, N1, ?hall, ?hsz, ?_⟩
  case hall => rw [← Array.all_toList]; exact List.all_eq_true.mpr fun c hc => decide_eq_true (hlt c hc)
  case hsz => rw [sizeLine_eq]; lia
  rintro s₂ ⟨hh, rfl⟩
  refine compS_rest x ?turn ?fin
  case turn =>
    intro c u i I oI C oC D m₂ ys h tk E' hc hC hx F N off ne
    k_steps
    exact LCg.CompEnd.intro (by with_reducible assumption) (by with_reducible assumption) rest (fun p hp => hp) off trivial ⟨rfl, _, rfl⟩
  case fin =>
    intro ys hys D h tk F3 N3 off
    k_steps
    rename News _ _ _ _ => N4
    refine kmk_add_ints (by with_reducible assumption) N4 (News.isList N4 (.tail _ (.head _))) (News.isList N4 (.head _)) hys (.cons 0 _ .nil) ?_ (by rw [sizeLine_eq]; simp; lia)
    intro D2 us h5 F5 N5 lt5 hus
    rw [show List.map Int.ofNat x.cps.toList ++ [0] = (x.cps.toList ++ [0]).map Int.ofNat from by simp] at hus
    k_steps
    refine li_iter F5 N5 (News.isList N5 (.head _)) ?_
    intro I h6 F6 N6 lt6
    k_steps
    rename_i d hA lA hB FB NB
    have N8 : News _ _ _ ((d, listOf ([] : List Value).toArray 0) :: (I, liObj D2 0) :: (D2, listOf us.toArray 0) :: rest) :=
      News.sub NB (by (try dsimp only [List.nil_append, List.cons_append, List.append_assoc]); repeat' first | exact sub_refl | exact sub_nil | refine sub_cons ?_ ?_ | refine sub_tail ?_ | exact List.Mem.head _ | refine List.Mem.tail _ ?_)
    have ltR : ∀ p ∈ rest, p.1 < D2 := fun p hp => lt5 p (by simp [hp])
    have ltI : D2 < I := lt6 _ (.head _)
    have ltD : I < d := lA.1
    clear NB lt5 lt6
    refine While_inv2 (fun n m' nx => ∃ (j : Nat) (vs : List Value) (nn : Nat) (done : List Int), n = x.cps.size + 1 - j ∧ IntsAre vs done ∧ done.length ≤ j ∧
        ((j ≤ x.cps.size ∧ done ++ rowF 0 (x.cps.toList.drop j) = rowF 0 x.cps.toList) ∨ (j = x.cps.size + 1 ∧ done = rowF 0 x.cps.toList)) ∧
        (m' = fun y => if y = Str.ofString "told" then some (Value.ref d) else if y = Str.ofString "codes" then some (Value.ref I) else List.lookup y [(Str.ofString "text", Value.str x t)]) ∧
        nx = (d, listOf vs.toArray nn) :: (I, liObj D2 j) :: (D2, listOf us.toArray 0) :: rest)
      FB N8 (n₀ := x.cps.size + 1) ⟨0, [], 0, [], rfl, .nil, Nat.le_refl _, .inl ⟨Nat.zero_le _, rfl⟩, rfl, rfl⟩ ?_
    rintro n m₁ news₁ h₁ tk₁ F₃ N₃ ⟨j, vs, nn, done, rfl, hvs, hdl, hcase, rfl, rfl⟩
    k_steps
    rcases hcase with ⟨hj, hrow⟩ | ⟨hj, hrow⟩
    · have hv := varint_c (x.cps.toList ++ [0]) us 0 j D2 I ((d, listOf vs.toArray nn) :: rest)
        (fun c hc => by rcases List.mem_append.mp hc with h | h; exact hlt c h; rw [List.mem_singleton.mp h]; decide)
        (by simp) (by simp; lia) (by simp; lia) hus
      refine hv w mean mg mb _ _ _ _ _ _ _ _ _ _ _ _ _ _ _ _ _ ‹Below _ _ _ _› F₃ ‹Frag.In _ _› (News.sub N₃ ?hN) ‹Top _ _ _ _ _ _› rfl ?hd ?hu ?hp ?_
      case hN => (try dsimp only [List.nil_append, List.cons_append, List.append_assoc]); repeat' first | exact sub_refl | exact sub_nil | refine sub_cons ?_ ?_ | refine sub_tail ?_ | exact List.Mem.head _ | refine List.Mem.tail _ ?_
      case hd => first | exact om_d1 hdp (by decide) | exact om_d2 hdp (by decide) | exact om_d3 hdp (by decide) | exact om_d4 hdp (by decide) | ktr_room
      case hu => first | exact om_u2 hun (by decide) | exact om_u3 hun (by decide) | exact om_u4 hun (by decide) | exact om_u5 hun (by decide) | ktr_units
      case hp =>
        refine ⟨fun p hp => ?_, Nat.ne_of_lt ltI⟩
        rcases List.mem_cons.mp hp with rfl | hp
        · exact Nat.ne_of_gt ltD
        · exact Nat.ne_of_lt (Nat.lt_trans (ltR p hp) ltI)
      rintro r nw h9 tk9 F9 N9 ⟨rfl, tr, rfl⟩
      k_steps
      rename News _ _ _ _ => NE
      have hdj : (x.cps.toList ++ [0]).drop j = x.cps.toList.drop j ++ [0] := List.drop_append_of_le_length (by simpa using hj)
      rw [hdj] at NE
      simp only [List.push_toArray] at NE
      have hvl := vlen_le (x.cps.toList.drop j)
      have hvp := vlen_pos (x.cps.toList.drop j)
      have hdl' : (x.cps.toList.drop j).length = x.cps.size - j := by simp
      rw [rowF_step (x.cps.toList.drop j), List.drop_drop] at hrow
      rw [hdl'] at hrow hvl
      refine' ⟨_, _, _, _, _, rfl, by with_reducible assumption, News.sub NE ?hN, ?hm, j + vlen (x.cps.toList.drop j ++ [0]), vs ++ [.int (vnum 0 (x.cps.toList.drop j ++ [0])) tr], nn + 1, done ++ [vnum 0 (x.cps.toList.drop j ++ [0])], rfl, ints_snoc (t := tr) hvs, ?hl, ?hc, rfl, rfl⟩
      case hN => (try dsimp only [List.nil_append, List.cons_append, List.append_assoc]); repeat' first | exact sub_refl | exact sub_nil | refine sub_cons ?_ ?_ | refine sub_tail ?_ | exact List.Mem.head _ | refine List.Mem.tail _ ?_
      case hm => lia
      case hl => simp only [List.length_append, List.length_cons, List.length_nil]; lia
      case hc =>
        by_cases hle : vlen (x.cps.toList.drop j ++ [0]) ≤ x.cps.size - j
        · rw [if_pos hle] at hrow
          exact .inl ⟨by lia, by simpa using hrow⟩
        · rw [if_neg hle] at hrow
          exact .inr ⟨by lia, hrow⟩
    · refine wpAny_call ?_
      k_dflt (refine' code_def ?k1 ?k2 ?k3 ?k4 ?k5 ?kA ?kF ?kK ?k6 ?k7 ?k8 ?k9 ?kB ?_ ?c2 ?c3 ?c4 ?c5; (case kA => exact rfl); (case kF => exact rfl); (case kK => first | exact rfl | assumption); (case k1 => k_asm); (case k2 => k_asm); (case k3 => k_asm); (case k4 => k_asm); (case k5 => k_asm); (case k6 => k_is); (case k7 => k_is); (case k8 => ktr_room); (case k9 => exact BindsTo.of_eq rfl); (case c5 => decide); (case kB => exact locs rfl); (case c2 => exact rfl); (case c3 => exact rfl); (case c4 => exact rfl); k_whole; intro g' L' h' FG' F' N' B' X' T'; (try dsimp only); (try k_lift B'); (try k_fold))
      k_steps
      rename Fr _ _ _ _ => FQ
      rename News _ _ _ _ => NQ
      refine li_stop rfl FQ (l := D2) (i := j) (news := (d, listOf vs.toArray nn) :: (D2, listOf us.toArray 0) :: rest) (News.sub NQ ?hN) ?ha (vs := us) ?hl ?hx ?_
      case hN => (try dsimp only [List.nil_append, List.cons_append, List.append_assoc]); repeat' first | exact sub_refl | exact sub_nil | refine sub_cons ?_ ?_ | refine sub_tail ?_ | exact List.Mem.head _ | refine List.Mem.tail _ ?_
      case ha =>
        intro p hp
        rcases List.mem_cons.mp hp with rfl | hp
        · exact Nat.ne_of_gt ltD
        rcases List.mem_cons.mp hp with rfl | hp
        · exact Nat.ne_of_lt ltI
        · exact Nat.ne_of_lt (Nat.lt_trans (ltR p hp) ltI)
      case hl => exact News.isList NQ (.tail _ (.tail _ (.head _)))
      case hx => have := hus.length; simp at this; simp; lia
      intro h₂ h' e FX NX MX
      k_steps
      dsimp only [WhileStep2]
      k_steps
      rename News _ _ _ _ => NK
      refine hret _ ((d, listOf vs.toArray nn) :: rest) _ _ (by with_reducible assumption) (News.sub NK ?_) ⟨d, vs, nn, rfl, rfl, fun p hp => ?_, hrow ▸ hvs⟩
      · (try dsimp only [List.nil_append, List.cons_append, List.append_assoc]); repeat' first | exact sub_refl | exact sub_nil | refine sub_cons ?_ ?_ | refine sub_tail ?_ | exact List.Mem.head _ | refine List.Mem.tail _ ?_
      · exact Nat.lt_trans (Nat.lt_trans (ltR p hp) ltI) ltD
end Mine
end

section
open PySem PySem.W PySem.Calls PyProof.Rows
set_option maxRecDepth 100000
set_option maxHeartbeats 8000000
namespace Mine
theorem keep1 {m : Str → Option Value} {k : Str} {v : Value} (h : m k = some v) : m = fun y => if y = k then some v else m y := by
  funext y
  by_cases e : y = k
  · rw [if_pos e, e, h]
  · rw [if_neg e]
theorem keep2 {m : Str → Option Value} {k k2 : Str} {v v2 : Value} (h : m k = some v) (h2 : m k2 = some v2) : m = fun y => if y = k then some v else if y = k2 then some v2 else m y := by
  funext y
  by_cases e : y = k
  · rw [if_pos e, e, h]
  · rw [if_neg e]; exact congrFun (keep1 h2) y
theorem keep3 {m : Str → Option Value} {k k2 k3 : Str} {v v2 v3 : Value} (h : m k = some v) (h2 : m k2 = some v2) (h3 : m k3 = some v3) : m = fun y => if y = k then some v else if y = k2 then some v2 else if y = k3 then some v3 else m y := by
  funext y
  by_cases e : y = k
  · rw [if_pos e, e, h]
  · rw [if_neg e]; exact congrFun (keep2 h2 h3) y
theorem keep4 {m : Str → Option Value} {k k2 k3 k4 : Str} {v v2 v3 v4 : Value} (h : m k = some v) (h2 : m k2 = some v2) (h3 : m k3 = some v3) (h4 : m k4 = some v4) : m = fun y => if y = k then some v else if y = k2 then some v2 else if y = k3 then some v3 else if y = k4 then some v4 else m y := by
  funext y
  by_cases e : y = k
  · rw [if_pos e, e, h]
  · rw [if_neg e]; exact congrFun (keep3 h2 h3 h4) y
theorem keep5 {m : Str → Option Value} {k k2 k3 k4 k5 : Str} {v v2 v3 v4 v5 : Value} (h : m k = some v) (h2 : m k2 = some v2) (h3 : m k3 = some v3) (h4 : m k4 = some v4) (h5 : m k5 = some v5) : m = fun y => if y = k then some v else if y = k2 then some v2 else if y = k3 then some v3 else if y = k4 then some v4 else if y = k5 then some v5 else m y := by
  funext y
  by_cases e : y = k
  · rw [if_pos e, e, h]
  · rw [if_neg e]; exact congrFun (keep4 h2 h3 h4 h5) y
/-- a turn's end: It is the iterator -/
def ForPost (h₀ : Heap) (L : Addr) (It : Addr) (oI : Obj) (J : (Str → Option Value) → Led → Prop) (fix : Led) (s₁ : Shared) (Q : Flow → Shared → Prop) (f : Flow) (s₂ : Shared) : Prop :=
  match f with
  | .ret v => Q (.ret v) s₂
  | .brk => Q .next s₂
  | _ => ∃ h' tk m' nx, s₂ = { s₁ with heap := h', toks := tk } ∧ Fr h₀ L h' m' ∧ News h₀ L h' ((It, oI) :: (fix ++ nx)) ∧ (∀ p ∈ nx, p.1 ≠ It) ∧ J m' nx
section
variable {prog : Program} {w : World} {A : Around} {E : Value → Shared → Prop} {s : Shared} {env : Env} {h₀ : Heap} {v : Str} {body : List Stmt} {Q : Flow → Shared → Prop} {m₀ : Str → Option Value} {news : Led}

theorem for_walk {I : Addr} {fp : List Addr} {n : Nat} {P : Nat → Value → Prop} {St : Nat → Heap → Prop} (fix : Led) (J : Nat → (Str → Option Value) → Led → Prop)
    (W : Walks prog w A I fp [I] n P St) (hLf : env.locals ∉ fp) (hI₀ : h₀.get? I = none) (live : ∀ i h, St i h → ∃ o, h.get? I = some o)
    (hfix : ∀ b ∈ fp, b = I ∨ ∃ o, (b, o) ∈ fix) (hfixI : ∀ p ∈ fix, p.1 ≠ I) (hst : St 0 s.heap) (F : Fr h₀ env.locals s.heap m₀) (N : News h₀ env.locals s.heap (fix ++ news)) (hnI : ∀ p ∈ news, p.1 ≠ I) (hj : J 0 m₀ news)
    (turn : ∀ (i : Nat) (y : Value) m₁ nx oI h tk, i < n → P i y → J i m₁ nx → (∀ p ∈ nx, p.1 ≠ I) → Fr h₀ env.locals h (fun z => if z = v then some y else m₁ z) → News h₀ env.locals h ((I, oI) :: (fix ++ nx)) →
      wpAny (model prog w) A (execs body env) (ForPost h₀ env.locals I oI (J (i + 1)) fix { s with heap := h, toks := tk } Q) E { s with heap := h, toks := tk })
    (done : ∀ m₁ nx h tk, J n m₁ nx → Fr h₀ env.locals h m₁ → News h₀ env.locals h (fix ++ nx) → Q .next { s with heap := h, toks := tk }) :
    LoopAtV prog w A h₀ env v body Q E (.ref I) s := by
  refine ⟨I, fp, [I], n, P, St, m₀, fix ++ news, (fun i m nw => ∃ nx, nw = fix ++ nx ∧ J i m nx), rfl, W, hLf, ?_, ?_, hst, F, N, ⟨news, rfl, hj⟩, ?_, ?_⟩
  · intro b hb
    rw [List.mem_singleton.mp hb]
    exact hI₀
  · intro p hp hI
    rw [List.mem_singleton] at hI
    rcases List.mem_append.mp hp with h | h
    · exact hfixI p h hI
    · exact hnI p h hI
  · rintro i y m₁ nw s₁ own ⟨h, tk, rfl⟩ hi hP ⟨nx, rfl, hJ⟩ hoff hown hget hall hst₁ F₁ N₁
    obtain ⟨oI, hoI⟩ := live _ _ hst₁
    have hIown : (I, oI) ∈ own := hall I (W.sub I (.head _)) hI₀ oI hoI
    have hnx : ∀ p ∈ nx, p.1 ≠ I := fun p hp e => hoff p (List.mem_append_right _ hp) (by rw [e]; exact .head _)
    have N₂ : News h₀ env.locals h ((I, oI) :: (fix ++ nx)) := fun p hp => by
      rcases List.mem_cons.mp hp with rfl | hp
      · exact N₁ _ (List.mem_append_left _ hIown)
      · exact N₁ p (List.mem_append_right _ hp)
    have hown2 : ∀ q ∈ own, q = (I, oI) ∨ q ∈ fix := fun q hq => by
      have hg := hget q hq
      rcases hfix q.1 (hown q hq) with e | ⟨o, ho⟩
      · left
        obtain ⟨qa, qo⟩ := q
        simp only at e hg
        rw [e, hoI] at hg
        cases hg; rw [e]
      · right
        have := (N₁ (q.1, o) (List.mem_append_right _ (List.mem_append_left _ ho))).1
        simp only at this
        rw [hg] at this
        cases this
        exact ho
    refine wpAny_mono (turn i y m₁ nx oI h tk hi hP hJ hnx F₁ N₂) (fun f s₂ p => ?_) fun _ _ e => e
    have fin : (∃ h' tk' m' nx', s₂ = { ({ s with heap := h, toks := tk } : Shared) with heap := h', toks := tk' } ∧ Fr h₀ env.locals h' m' ∧ News h₀ env.locals h' ((I, oI) :: (fix ++ nx')) ∧ (∀ p ∈ nx', p.1 ≠ I) ∧ J (i + 1) m' nx') →
        LoopStepU h₀ env.locals [I] own (fun m nw => ∃ nx, nw = fix ++ nx ∧ J (i + 1) m nx) { s with heap := h, toks := tk } .next s₂ := by
      rintro ⟨h', tk', m', nx', e, F', N', ho, hJ'⟩
      refine ⟨rfl, h', tk', m', fix ++ nx', e, F', fun p hp => ?_, fun p hp hq => ?_, nx', rfl, hJ'⟩
      · rcases List.mem_append.mp hp with hp | hp
        · rcases hown2 p hp with rfl | hp
          · exact N' _ (.head _)
          · exact N' p (.tail _ (List.mem_append_left _ hp))
        · exact N' p (.tail _ hp)
      · rw [List.mem_singleton] at hq
        rcases List.mem_append.mp hp with hp | hp
        · exact hfixI p hp hq
        · exact ho p hp hq
    cases f with
    | ret v => exact .ret p
    | brk => exact .brk p
    | next => exact .next (fin p)
    | cont => exact .cont (fin p)
  · rintro h' tk m' nw F' N' _ ⟨nx, rfl, hJ⟩
    exact done m' nx h' tk hJ F' N'

theorem for_str {xt : Str} {tx : Tok} (J : Nat → (Str → Option Value) → Led → Prop) (hh : A.handled = none) (hasc : xt.cps.all (· < 128) = true) (F : Fr h₀ env.locals s.heap m₀) (N : News h₀ env.locals s.heap news) (hj : J 0 m₀ news)
    (turn : ∀ (i c : Nat) (u : Tok) m₁ nx I oI h tk, xt.cps[i]? = some c → J i m₁ nx → (∀ p ∈ nx, p.1 ≠ I) → Fr h₀ env.locals h (fun z => if z = v then some (.str ⟨#[c]⟩ u) else m₁ z) → News h₀ env.locals h ((I, oI) :: nx) →
      wpAny (model prog w) A (execs body env) (ForPost h₀ env.locals I oI (J (i + 1)) [] { s with heap := h, toks := tk } Q) E { s with heap := h, toks := tk })
    (done : ∀ m₁ nx h tk, J xt.cps.size m₁ nx → Fr h₀ env.locals h m₁ → News h₀ env.locals h nx → Q .next { s with heap := h, toks := tk }) :
    wpAny (model prog w) A (pyIter (.str xt tx)) (fun it s₂ => LoopAtV prog w A h₀ env v body Q E it s₂) E s := by
  refine wpAny_pyIter_ascii hasc ?_
  refine for_walk (s := { s with heap := s.heap.push _ }) [] J (Walks.strAscii hh s.heap.objs.size xt tx) ?_ (next_is_new F) (fun i h st => by obtain ⟨o, e, _⟩ := st; exact ⟨o, e⟩)
    (fun b hb => .inl (List.mem_singleton.mp hb)) (fun _ hp => nomatch hp) ⟨_, Heap.get?_push_size _ rfl, rfl, rfl⟩ (F.push _) (fun p hp => ⟨Heap.get?_push_of_some _ (N p hp).1, (N p hp).2⟩)
    (fun p hp e => absurd (Heap.lt_size (N p hp).1) (e ▸ Nat.lt_irrefl _)) hj ?_ ?_
  · intro hm
    exact absurd F.ns.lt ((List.mem_singleton.mp hm) ▸ Nat.lt_irrefl _)
  · rintro i y m₁ nx oI h tk hi ⟨c, u, hc, rfl⟩ hJ hnx F₁ N₁
    exact turn i c u m₁ nx _ oI h tk hc hJ hnx F₁ N₁
  · intro m₁ nx h tk hJ F₁ N₁
    exact done m₁ nx h tk hJ F₁ N₁

theorem for_list {l : Addr} {vs : List Value} {ns : List Int} {nn : Nat} (J : Nat → (Str → Option Value) → Led → Prop) (hh : A.handled = none) (hi : IntsAre vs ns) (F : Fr h₀ env.locals s.heap m₀) (N : News h₀ env.locals s.heap ((l, listOf vs.toArray nn) :: news)) (hj : J 0 m₀ news)
    (turn : ∀ (i : Nat) (k : Int) (u : Tok) m₁ nx I oI h tk, ns[i]? = some k → J i m₁ nx → (∀ p ∈ nx, p.1 ≠ I) → l ≠ I → Fr h₀ env.locals h (fun z => if z = v then some (.int k u) else m₁ z) → News h₀ env.locals h ((I, oI) :: (l, listOf vs.toArray nn) :: nx) →
      wpAny (model prog w) A (execs body env) (ForPost h₀ env.locals I oI (J (i + 1)) [(l, listOf vs.toArray nn)] { s with heap := h, toks := tk } Q) E { s with heap := h, toks := tk })
    (done : ∀ m₁ nx h tk, J ns.length m₁ nx → Fr h₀ env.locals h m₁ → News h₀ env.locals h ((l, listOf vs.toArray nn) :: nx) → Q .next { s with heap := h, toks := tk }) :
    wpAny (model prog w) A (pyIter (.ref l)) (fun it s₂ => LoopAtV prog w A h₀ env v body Q E it s₂) E s := by
  have hm := N _ (.head _)
  have hl := News.isList N (.head _)
  have hlt := Heap.lt_size hm.1
  have hne : l ≠ s.heap.objs.size := Nat.ne_of_lt hlt
  have hlen : vs.toArray.size = ns.length := by simp [hi.length]
  refine wpAny_pyIter_list hl ?_
  have W := Walks.list (prog := prog) (w := w) hh s.heap.objs.size l hne vs.toArray
  rw [hlen] at W
  refine for_walk (s := { s with heap := s.heap.push _ }) [(l, listOf vs.toArray nn)] J W ?_ (next_is_new F) (fun i h st => by obtain ⟨⟨o, e, _⟩, _⟩ := st; exact ⟨o, e⟩)
    (fun b hb => ?_) (fun p hp => ?_) ⟨⟨_, Heap.get?_push_size _ rfl, rfl, rfl⟩, hl.push _⟩ (F.push _) (fun p hp => ⟨Heap.get?_push_of_some _ (N p hp).1, (N p hp).2⟩)
    (fun p hp e => absurd (Heap.lt_size (N p (.tail _ hp)).1) (e ▸ Nat.lt_irrefl _)) hj ?_ ?_
  · intro hm'
    rcases List.mem_cons.mp hm' with e | hm'
    · exact absurd F.ns.lt (e ▸ Nat.lt_irrefl _)
    · exact hm.2.1 (List.mem_singleton.mp hm').symm
  · rcases List.mem_cons.mp hb with e | hb
    · exact .inl e
    · exact .inr ⟨_, by rw [List.mem_singleton.mp hb]; exact .head _⟩
  · rw [List.mem_singleton.mp hp]; exact hne
  · rintro i y m₁ nx oI h tk hlt' hy hJ hnx F₁ N₁
    obtain ⟨t, hx⟩ := hi.get i ns[i] (by simp [hlt'])
    have hv : y = .int ns[i] t := by
      have hP' : vs[i]? = some y := by simpa using hy
      rw [hx] at hP'; exact (Option.some.inj hP').symm
    subst hv
    exact turn i ns[i] t m₁ nx _ oI h tk (by simp [hlt']) hJ hnx hne F₁ N₁
  · intro m₁ nx h tk hJ F₁ N₁
    exact done m₁ nx h tk hJ F₁ N₁
end
end Mine
end

section
open PySem PySem.W PySem.Calls PyProof.Rows
set_option maxRecDepth 100000
set_option maxHeartbeats 8000000
namespace Mine
theorem ints_last {p : Int} : ∀ {pre : List Int} {us : List Value}, IntsAre us (pre ++ [p]) → ∃ up tp, us = up ++ [.int p tp] ∧ IntsAre up pre
  | [], _, .cons _ t .nil => ⟨[], t, rfl, .nil⟩
  | _ :: pre, _, .cons z t r => by
    obtain ⟨up, tp, e, h⟩ := ints_last r
    exact ⟨.int z t :: up, tp, by rw [e]; rfl, .cons z t h⟩
section
variable {prog : Program} {w : World} {A : Around} {E : Value → Shared → Prop} {s : Shared} {h₀ : Heap} {L d : Addr} {m : Str → Option Value} {rest : Led} {up : List Value} {v v' : Value} {nn : Nat}
theorem last_get {t : Tok} {Q : Value → Shared → Prop} (hl : s.heap.IsList d (up ++ [v]).toArray) (h : Q v s) : wpAny (model prog w) A (getItem (.ref d) (.int (-1) t)) Q E s :=
  wpAny_getItem_list_neg hl (by lia) (by simp; lia) (by lia) (by
    have e : ((-1 : Int) + (up ++ [v]).toArray.size).toNat = up.length := by simp; lia
    rw [e]; simp) h
theorem last_sub {value slice : PySem.Expr} {t : Tok} {Q : Value → Shared → Prop} (hl : s.heap.IsList d (up ++ [v]).toArray)
    (hs : subscripted slice false (.ref d) (.int (-1) t) = operate [.ref d, .int (-1) t] (getItem (.ref d) (.int (-1) t))) (hg : ∀ r, letTemporaryGo value (.ref d) r = pure ()) (h : Q v s) :
    wpAny (model prog w) A (subscriptTail value slice (.ref d) (.int (-1) t)) Q E s :=
  subscriptTail_builtin hl.typeIs slot_list_getitem.lookup (last_get hl h) hs hg
theorem setItem_neg {l : Addr} {items : Array Value} {o : Obj} {ne : Nat} {k : Int} {t : Tok} {Q : Unit → Shared → Prop} (ho : s.heap.get? l = some o) (hc : o.cls = .type "list") (hd : o.data = .seq items ne)
    (h0 : k < 0) (h1 : -(items.size : Int) ≤ k) (hfit : -(2 ^ 63) ≤ k)
    (hQ : Q () { s with heap := s.heap.update l (Obj.mapSeq (·.setIfInBounds (k + items.size).toNat v)) }) :
    wpAny (model prog w) A (setItem (.ref l) (.int k t) v) Q E s := by
  have hl : s.heap.IsList l items := ⟨o, ho, hc, ne, hd⟩
  unfold setItem
  try with_reducible refine wpAny_holding ?_
  first | refine wpAny_bind (wpAny_pure ?_) | skip
  refine wpAny_bind (wpAny_sequenceKey hl.typeIs (by decide) ?_)
  refine wpAny_bind (wpAny_callSpecial?_slot (name := Str.ofString "__setitem__") hl.typeIs slot_list_setitem
    (wpAny_call_entry slot_list_setitem hl.typeIs entry_list_setitem ?_ (args_list_setitem _ _ _)))
  show wpAny _ _ (Builtin.List.listSubscript? (.int k t) >>= _) _ _ s
  refine wpAny_bind (wpAny_listSubscript_int (fitsIndex_neg h0 hfit) ?_)
  clear hfit
  have hidx := seqIndex_neg h0 h1
  have hlt : (k + items.size).toNat < items.size := by lia
  have hx : items[(k + items.size).toNat]? = some items[(k + items.size).toNat] := Array.getElem?_eq_getElem hlt
  obtain ⟨j, rfl⟩ : ∃ j : Nat, k = Int.negSucc j := by
    cases k with
    | ofNat n => exact absurd h0 (Int.not_lt.mpr (Int.natCast_nonneg n))
    | negSucc n => exact ⟨n, rfl⟩
  show wpAny _ _ ((Builtin.List.listItems (.ref l) >>= fun xs => pure ((seqIndex? (Int.negSucc j) xs.size).bind fun i => xs[i]?.map (i, ·))) >>= _) _ _ s
  refine wpAny_bind (wpAny_bind ?_)
  show wpAny _ _ (seqItems? (.ref l) >>= _) _ _ s
  refine wpAny_bind (wpAny_seqItems ho hd (wpAny_pure (wpAny_pure ?_)))
  rw [hidx]
  simp only [Option.bind_some, hx, Option.map_some]
  show wpAny _ _ (setSeqItemAt l _ v >>= _) _ _ s
  refine wpAny_bind (wpAny_setSeqItemAt ho hd ?_)
  first
    | exact wpAny_bind (wpAny_pure (wpAny_pure ⟨.none, rfl, wpAny_pure hQ⟩))
    | exact wpAny_pure ⟨.none, rfl, wpAny_pure hQ⟩
theorem last_set {t : Tok} {Q : Unit → Shared → Prop} (F : Fr h₀ L s.heap m) (N : News h₀ L s.heap ((d, listOf (up ++ [v]).toArray nn) :: rest)) (ha : ∀ p ∈ rest, p.1 ≠ d)
    (h : ∀ h', Fr h₀ L h' m → News h₀ L h' ((d, listOf (up ++ [v']).toArray nn) :: rest) → Q () { s with heap := h' }) : wpAny (model prog w) A (setItem (.ref d) (.int (-1) t) v') Q E s := by
  have z := N _ (.head _)
  refine setItem_neg z.1 rfl rfl (by lia) (by simp; lia) (by lia) ?_
  have hs : Heap.SameBut d s.heap (s.heap.update d (Obj.mapSeq (·.setIfInBounds ((-1 : Int) + (up ++ [v]).toArray.size).toNat v'))) := Heap.SameBut.update ..
  refine h _ (F.change hs z.2.1 z.2.2) ((show News h₀ L s.heap ([] ++ (d, listOf (up ++ [v]).toArray nn) :: rest) from N).setIn (fun _ hp => nomatch hp) ha hs ?_)
  refine (Heap.get?_update_self _ z.1 rfl).trans ?_
  have e : ((-1 : Int) + (up ++ [v]).toArray.size).toNat = up.length := by simp; lia
  rw [e]
  have e2 : (up ++ [v]).toArray.setIfInBounds up.length v' = (up ++ [v']).toArray := by
    apply Array.toList_inj.mp
    simp
  show some (listOf ((up ++ [v]).toArray.setIfInBounds up.length v') _) = _
  rw [e2, if_pos (by simp)]
theorem slice_any {value slice : PySem.Expr} {l : Addr} {its : Array Value} {vl vu : Value} {lo hi : Option Int} {news : Led} {Q : Value → Shared → Prop} (F : Fr h₀ L s.heap m) (N : News h₀ L s.heap news) (hl : s.heap.IsList l its) (pl : IsPart vl lo) (pu : IsPart vu hi)
    (hs : subscripted slice false (.ref l) (.ref s.heap.objs.size) = operate [.ref s.heap.objs.size, .ref l] (getItem (.ref l) (.ref s.heap.objs.size))) (hsz : its.size ≤ sizeLine)
    (h : ∀ D h', Fr h₀ L h' m → News h₀ L h' ((D, listOf (slicePick its lo hi none) 0) :: news) → (∀ p ∈ news, p.1 < D) → Q (.ref D) { s with heap := h' }) :
    wpAny (model prog w) A (subscriptTail value slice (.ref l) (.ref s.heap.objs.size)) Q E { s with heap := s.heap.push { cls := .type "slice", data := .fields #[vl, vu, .none] } } := by
  refine tail_any (Heap.IsList.typeIs (s := { s with heap := s.heap.push { cls := .type "slice", data := .fields #[vl, vu, .none] } }) (hl.push _)) list_getitem_lookup
    (wpAny_getItem_list_slice (hl.push _) (Heap.IsSliceOf.new ..) pl pu .none (by simp) ?_ hsz) hs
  have N1 := News.push (F.push { cls := .type "slice", data := .fields #[vl, vu, .none] }) (N.grown fun _ _ e => Heap.get?_push_of_some _ e) { cls := .type "list", data := .seq (slicePick its lo hi none) }
  rw [Heap.size_push] at N1
  show Q (.ref (s.heap.push _).objs.size) _
  rw [Heap.size_push]
  exact h _ _ ((F.push _).push _) N1 fun p hp => Nat.lt_succ_of_lt (Heap.lt_size (N p hp).1)
theorem pick_init {vs : List Value} (hne : vs ≠ []) : slicePick vs.toArray none (some (-1)) none = vs.dropLast.toArray := by
  have hpos : 0 < vs.length := List.length_pos_iff.mpr hne
  have e : sliceBounds none (some (-1)) none vs.toArray.size = (((0 : Nat) : Int), ((vs.length - 1 : Nat) : Int), 1) := by
    simp only [sliceBounds, Option.getD_none, show (1 : Int) > 0 by decide, if_true, show (-1 : Int) < 0 by decide, List.size_toArray]
    congr 1
    congr 1
    lia
  rw [kmk_pick_nat _ e]
  simp [List.dropLast_eq_take]
end
theorem ints_dropLast {vs : List Value} {ns : List Int} (h : IntsAre vs ns) : IntsAre vs.dropLast ns.dropLast := by
  rw [List.dropLast_eq_take, List.dropLast_eq_take, h.length]; exact h.take _
end Mine
end

section
open PySem PySem.W PySem.Calls PyProof.Rows
set_option compiler.extract_closed false
set_option maxRecDepth 100000
set_option maxHeartbeats 8000000
namespace Mine
def laidF (row : List Int) (ws : List Nat) : List Int := row.dropLast ++ rowF (row.getLastD 0) ws
theorem rowF_ne : ∀ (ws : List Nat) (p : Int), rowF p ws ≠ []
  | [], p => by simp [rowF]
  | c :: cs, p => by
    rw [rowF]
    split
    · simp
    · exact rowF_ne cs _
theorem rowF_snoc (c : Nat) : ∀ (ws : List Nat) (p : Int), ∃ (pre : List Int) (q : Int), rowF p ws = pre ++ [q] ∧ rowF p (ws ++ [c]) = pre ++ (if c < 64 then [q + c, 0] else [(q + c - 64) * 64])
  | [], p => by
    refine ⟨[], p, rfl, ?_⟩
    by_cases h : c < 64
    · simp [rowF, h]
    · have e : p + ((c : Int) - 64) = p + c - 64 := by lia
      simp [rowF, h, e]
  | b :: ws, p => by
    by_cases h : b < 64
    · obtain ⟨pre, q, h1, h2⟩ := rowF_snoc c ws 0
      refine ⟨(p + b) :: pre, q, ?_, ?_⟩
      · rw [rowF, if_pos h, h1]; rfl
      · show rowF p (b :: (ws ++ [c])) = _
        rw [rowF, if_pos h, h2]; rfl
    · obtain ⟨pre, q, h1, h2⟩ := rowF_snoc c ws ((p + (b - 64)) * 64)
      refine ⟨pre, q, ?_, ?_⟩
      · rw [rowF, if_neg h, h1]
      · show rowF p (b :: (ws ++ [c])) = _
        rw [rowF, if_neg h, h2]
theorem laid_snoc (row : List Int) (ws : List Nat) (c : Nat) : ∃ (pre : List Int) (q : Int), laidF row ws = pre ++ [q] ∧ laidF row (ws ++ [c]) = pre ++ (if c < 64 then [q + c, 0] else [(q + c - 64) * 64]) := by
  obtain ⟨pre, q, h1, h2⟩ := rowF_snoc c ws (row.getLastD 0)
  exact ⟨row.dropLast ++ pre, q, by unfold laidF; rw [h1, List.append_assoc], by unfold laidF; rw [h2, List.append_assoc]⟩
theorem laid_nil {row : List Int} (h : row ≠ []) : laidF row [] = row := by
  unfold laidF
  show row.dropLast ++ [row.getLastD 0] = row
  have : row.getLastD 0 = row.getLast h := by rw [List.getLastD_eq_getLast?, List.getLast?_eq_some_getLast h]; rfl
  rw [this, List.dropLast_concat_getLast h]
theorem rowF_len : ∀ (ws : List Nat) (p : Int), (rowF p ws).length ≤ ws.length + 1
  | [], p => by simp [rowF]
  | c :: cs, p => by
    rw [rowF]
    split
    · have := rowF_len cs 0; simp only [List.length_cons]; lia
    · have := rowF_len cs ((p + (c - 64)) * 64); simp only [List.length_cons]; lia
theorem laid_len (row : List Int) (ws : List Nat) : (laidF row ws).length ≤ row.length + ws.length + 1 := by
  unfold laidF
  have := rowF_len ws (row.getLastD 0)
  simp only [List.length_append, List.length_dropLast]; lia
local macro_rules | `(tactic| walk_at $k) => if ["call builtin:list.append", "getItem ref int", "setItem ref int", "subscriptTail", "pyIter str", "ForPost"].contains k.getString then `(tactic| (refine stop_here ?_)) else Lean.Macro.throwUnsupported

local macro_rules | `(tactic| walk_at "exec For") => `(tactic| ((rename Fr _ _ _ _ => lF'); (with_unfolding_all refine' For_invVF lF' ?k1 ?k2 ?_; (case k1 => exact rfl); (case k2 => exact rfl); k_whole)))

theorem laid_c (row : List Int) (vs : List Value) (rn : Nat) (r : Addr) (x : Str) (t : Tok) (rest : Led) (hasc : x.cps.all (· < 128) = true) (hne : row ≠ []) (hlen : row.length + x.cps.size ≤ 10000) (hvs : IntsAre vs row) :
    Spec 2 158 [.ref r, .str x t] ((r, listOf vs.toArray rn) :: rest) True
      (fun v nw => ∃ (d : Addr) (us : List Value) (nn : Nat), v = .ref d ∧ nw = (d, listOf us.toArray nn) :: (r, listOf vs.toArray rn) :: rest ∧ (∀ p ∈ (r, listOf vs.toArray rn) :: rest, p.1 < d) ∧ IntsAre us (laidF row x.cps.toList)) := by
  intro w mean mg mb dp un gd cn cs a ccd cl outer A₀ base h₀ L m s Q E B F X N T hk hdp hun hpre hret
  revert X; k_fill; w_top off; intro X
  refine wpAny_call ?_
  k_dflt cell_enter
  rename Fr _ _ _ _ => F1
  replace F1 := Fr.as F1 (m' := fun y => List.lookup y [(Str.ofString "words", Value.str x t), (Str.ofString "row", Value.ref r)]) (by with_unfolding_all rfl)
  rename News _ _ _ _ => N1
  k_steps
  rename_i d c0 hA lA hB FB NB
  refine for_str (fun i m' nx => ∃ (us : List Value) (nn : Nat) (u : Str → Option Value), IntsAre us (laidF row (x.cps.toList.take i)) ∧ (m' = fun y => if y = Str.ofString "due" then some (Value.ref d) else u y) ∧ nx = (d, listOf us.toArray nn) :: (r, listOf vs.toArray rn) :: rest)
    rfl hasc FB NB ⟨vs, c0, _, ?h0, keep1 rfl, rfl⟩ ?turn ?done
  case h0 => rw [List.take_zero, laid_nil hne]; assumption
  case turn =>
    rintro i c u m₁ nx I oI h tk hc ⟨us, nn, uu, hus, rfl, rfl⟩ hnI F₁ N₁
    obtain ⟨pre, q, hl1, hl2⟩ := laid_snoc row (x.cps.toList.take i) c
    have htk : x.cps.toList.take i ++ [c] = x.cps.toList.take (i + 1) := by rw [List.take_add_one, show x.cps.toList[i]? = some c by simpa using hc]; rfl
    rw [htk] at hl2
    rw [hl1] at hus
    obtain ⟨up, tp, rfl, hup⟩ := ints_last hus
    have hdI : d ≠ I := hnI _ (.head _)
    have had : ∀ p ∈ (I, oI) :: (r, listOf vs.toArray rn) :: rest, p.1 ≠ d := fun p hp => by
      rcases List.mem_cons.mp hp with rfl | hp
      · exact hdI.symm
      rcases List.mem_cons.mp hp with rfl | hp
      · exact Nat.ne_of_lt lA.1
      · exact Nat.ne_of_lt (kst_ltOf lA.2 p hp)
    have hnI' : ∀ o, ∀ p ∈ (d, o) :: (r, listOf vs.toArray rn) :: rest, p.1 ≠ I := fun o p hp => by
      rcases List.mem_cons.mp hp with rfl | hp
      · exact hdI
      · exact hnI p (.tail _ hp)
    k_steps
    · rename Fr _ _ _ _ => FA
      rename News _ _ _ _ => NA
      refine last_get (News.isList NA (.tail _ (.head _))) ?_
      k_steps
      refine last_set (up := up) (v := .int q tp) (nn := nn) (rest := (I, oI) :: (r, listOf vs.toArray rn) :: rest) FA (News.sub NA (by (try dsimp only [List.nil_append, List.cons_append, List.append_assoc]); repeat' first | exact sub_refl | exact sub_nil | refine sub_cons ?_ ?_ | refine sub_tail ?_ | exact List.Mem.head _ | refine List.Mem.tail _ ?_)) had ?_
      intro h9 F9 N9
      k_steps
      refine append_K F9 N9 (Upd.head had) ?_ ?hsz
      case hsz =>
        have h1 := (ints_snoc (y := 0) (t := 0) hup).length
        have h2 := laid_len row (x.cps.toList.take i)
        rw [hl1] at h2
        simp only [List.length_append, List.length_cons, List.length_nil, List.length_take, List.size_toArray, Array.length_toList] at h1 h2 ⊢
        rw [sizeLine_eq]; lia
      intro hb Fb Nb
      k_steps
      rename (c : Int) < 64 => hc6
      have hc7 : c < 64 := by lia
      rw [if_pos hc7] at hl2
      simp only [List.push_toArray] at Nb
      refine' ⟨_, _, _, _, rfl, Fb, News.swap Nb, ?ho, _, nn + 1, _, ?hi, keep1 rfl, rfl⟩
      case hi => rw [hl2, show pre ++ [q + (c : Int), 0] = pre ++ [q + (c : Int)] ++ [0] from by simp]; exact ints_snoc (ints_snoc hup)
      case ho => exact hnI' _
    · rename Fr _ _ _ _ => FA
      rename News _ _ _ _ => NA
      refine last_set (up := up) (v := .int q tp) (nn := nn) (rest := (I, oI) :: (r, listOf vs.toArray rn) :: rest) FA (News.swap NA) had ?_
      intro h9 F9 N9
      k_steps
      rename ¬ (c : Int) < 64 => hc6
      have hc7 : ¬ c < 64 := by lia
      rw [if_neg hc7] at hl2
      refine' ⟨_, _, _, _, rfl, F9, News.swap N9, ?ho, _, nn, _, ?hi, keep1 rfl, rfl⟩
      case hi => rw [hl2]; exact ints_snoc hup
      case ho => exact hnI' _
  case done =>
    rintro m₁ nx h tk ⟨us, nn, uu, hus, rfl, rfl⟩ F₁ N₁
    k_steps
    rw [show x.cps.toList.take x.cps.size = x.cps.toList from List.take_of_length_le (by simp)] at hus
    refine hret _ _ _ _ (by with_reducible assumption) (by with_reducible assumption) ⟨d, us, nn, rfl, rfl, fun p hp => ?_, hus⟩
    rcases List.mem_cons.mp hp with rfl | hp
    · exact lA.1
    · exact kst_ltOf lA.2 p hp
end Mine
end

section
open PySem PySem.W PySem.Calls PyProof.Rows
set_option maxRecDepth 100000
set_option maxHeartbeats 8000000
namespace Mine
theorem menu_item (k : Int) (h0 : 0 ≤ k) (h8 : k < 8) : ∃ c, Txt.item (Str.ofString "&<>\"\x0d\n\t ") k = ⟨#[c]⟩ ∧ c < 128 ∧ c ≠ 64 := by
  have e : k = 0 ∨ k = 1 ∨ k = 2 ∨ k = 3 ∨ k = 4 ∨ k = 5 ∨ k = 6 ∨ k = 7 := by lia
  rcases e with rfl | rfl | rfl | rfl | rfl | rfl | rfl | rfl
  · exact ⟨38, by decide +kernel, by decide, by decide⟩
  · exact ⟨60, by decide +kernel, by decide, by decide⟩
  · exact ⟨62, by decide +kernel, by decide, by decide⟩
  · exact ⟨34, by decide +kernel, by decide, by decide⟩
  · exact ⟨13, by decide +kernel, by decide, by decide⟩
  · exact ⟨10, by decide +kernel, by decide, by decide⟩
  · exact ⟨9, by decide +kernel, by decide, by decide⟩
  · exact ⟨32, by decide +kernel, by decide, by decide⟩
theorem sign_c (x : Int) (t : Tok) (news : Led) : Spec 2 132 [.int x t] news (0 ≤ x ∧ x < 20320) (fun r nw => nw = news ∧ ∃ c u, r = .str ⟨#[c]⟩ u ∧ c < 128 ∧ c ≠ 64) := by
  intro w mean mg mb dp un gd cn cs a ccd cl outer A₀ base h₀ L m s Q E B F X N T hk hdp hun hpre hret
  obtain ⟨hx0, hx1⟩ := hpre
  revert X; k_fill; w_top off; intro X
  refine wpAny_call ?_
  k_dflt cell_enter
  rename Fr _ _ _ _ => F1
  replace F1 := Fr.as F1 (m' := fun y => List.lookup y [(Str.ofString "x", Value.int x t)]) (by with_unfolding_all rfl)
  k_steps
  · obtain ⟨c, hc, h1, h2⟩ := menu_item ((x.fdiv 20).fmod 8) (fmod_lo _ (by decide)) (fmod_hi _ (by decide))
    exact hret _ _ _ _ (by with_reducible assumption) (by with_reducible assumption) ⟨rfl, c, _, by rw [hc], h1, h2⟩
  · have h1 := fmod_lo (x.fdiv 20) (n := 127) (by decide)
    exact hret _ _ _ _ (by with_reducible assumption) (by with_reducible assumption) ⟨rfl, _, _, rfl, by lia, by lia⟩
  · have h1 := fmod_lo (x.fdiv 20) (n := 127) (by decide)
    have h2 := fmod_hi (x.fdiv 20) (n := 127) (by decide)
    exact hret _ _ _ _ (by with_reducible assumption) (by with_reducible assumption) ⟨rfl, _, _, rfl, by lia, by lia⟩
end Mine
end

section
open PySem PySem.W PySem.Calls PyProof.Rows
set_option compiler.extract_closed false
set_option maxRecDepth 100000
set_option maxHeartbeats 8000000
namespace Mine
def quoteF (row : List Int) : List Int := row.flatMap fun n => if n.fmod 64 = 34 then [n, 34] else [n]
theorem quoteF_snoc (row : List Int) (k : Int) : quoteF (row ++ [k]) = quoteF row ++ (if k.fmod 64 = 34 then [k, 34] else [k]) := by
  unfold quoteF; rw [List.flatMap_append]; simp
theorem quoteF_len (row : List Int) : (quoteF row).length ≤ 2 * row.length := by
  induction row with
  | nil => simp [quoteF]
  | cons k r ih =>
    have : quoteF (k :: r) = (if k.fmod 64 = 34 then [k, 34] else [k]) ++ quoteF r := by unfold quoteF; rw [List.flatMap_cons]
    rw [this, List.length_append]
    split <;> simp only [List.length_cons, List.length_nil] <;> lia

local macro_rules | `(tactic| walk_at $k) => if ["pyIter ref", "binaryOp Add str str", "ForPost", "call builtin:list.append"].contains k.getString then `(tactic| (refine stop_here ?_)) else Lean.Macro.throwUnsupported
local macro_rules | `(tactic| walk_at "exec For Name Name cons nil") => `(tactic| ((rename Fr _ _ _ _ => lF'); (with_unfolding_all refine' For_invVF lF' ?k1 ?k2 ?_; (case k1 => exact rfl); (case k2 => exact rfl); k_whole)))
local macro_rules | `(tactic| walk_at "call ref") => `(tactic| ((with_reducible show wpAny _ _ (call (Value.ref 158) _) _ _ _); refine stop_here ?_))

theorem quoted_c (row : List Int) (vs : List Value) (rn : Nat) (r : Addr) (x : Str) (t : Tok) (rest : Led) (hasc : x.cps.all (· < 128) = true) (hlen : row.length ≤ 1000) (hxl : x.cps.size ≤ 1000) (hvs : IntsAre vs row) :
    Spec 5 172 [.ref r, .str x t] ((r, listOf vs.toArray rn) :: rest) True
      (fun v nw => ∃ (d : Addr) (us : List Value) (nn : Nat), v = .ref d ∧ nw = (d, listOf us.toArray nn) :: (r, listOf vs.toArray rn) :: rest ∧ (∀ p ∈ (r, listOf vs.toArray rn) :: rest, p.1 < d) ∧ IntsAre us (laidF ([50, 53, 55, 32, 34] ++ quoteF row) (34 :: x.cps.toList))) := by
  intro w mean mg mb dp un gd cn cs a ccd cl outer A₀ base h₀ L m s Q E B F X N T hk hdp hun hpre hret
  revert X; k_fill; w_top off; intro X
  refine wpAny_call ?_
  k_dflt cell_enter
  rename Fr _ _ _ _ => F1
  replace F1 := Fr.as F1 (m' := fun y => List.lookup y [(Str.ofString "words", Value.str x t), (Str.ofString "row", Value.ref r)]) (by with_unfolding_all rfl)
  rename News _ _ _ _ => N1
  k_steps
  rename_i d hA lA hB FB NB
  refine for_list (fun i m' nx => ∃ (us : List Value) (nn : Nat) (u : Str → Option Value), IntsAre us ([50, 53, 55, 32, 34] ++ quoteF (row.take i)) ∧ (m' = fun y => if y = Str.ofString "due" then some (Value.ref d) else if y = Str.ofString "words" then some (Value.str x t) else u y) ∧ nx = (d, listOf us.toArray nn) :: rest)
    rfl hvs FB (News.swap NB) ⟨_, 0, _, ?h0, keep2 rfl rfl, rfl⟩ ?turn ?done
  case h0 => exact .cons _ _ (.cons _ _ (.cons _ _ (.cons _ _ (.cons _ _ .nil))))
  case turn =>
    rintro i k u m₁ nx I oI h tk hk ⟨us, nn, uu, hus, rfl, rfl⟩ hnI hrI F₁ N₁
    have hdI : d ≠ I := hnI _ (.head _)
    have had : ∀ p ∈ (I, oI) :: (r, listOf vs.toArray rn) :: rest, p.1 ≠ d := fun p hp => by
      rcases List.mem_cons.mp hp with rfl | hp
      · exact hdI.symm
      rcases List.mem_cons.mp hp with rfl | hp
      · exact Nat.ne_of_lt lA.1
      · exact Nat.ne_of_lt (kst_ltOf lA.2 p hp)
    have hnI' : ∀ o, ∀ p ∈ (d, o) :: rest, p.1 ≠ I := fun o p hp => by
      rcases List.mem_cons.mp hp with rfl | hp
      · exact hdI
      · exact hnI p (.tail _ hp)
    have hsn := quoteF_snoc (row.take i) k
    have htk : row.take i ++ [k] = row.take (i + 1) := by rw [List.take_add_one, hk]; rfl
    rw [htk] at hsn
    have hql := quoteF_len (row.take i)
    have hul := hus.length
    simp only [List.length_append, List.length_cons, List.length_nil, List.length_take] at hql hul
    have N₂ : News _ _ _ ((d, listOf us.toArray nn) :: (I, oI) :: (r, listOf vs.toArray rn) :: rest) := News.sub N₁ (by (try dsimp only [List.nil_append, List.cons_append, List.append_assoc]); repeat' first | exact sub_refl | exact sub_nil | refine sub_cons ?_ ?_ | refine sub_tail ?_ | exact List.Mem.head _ | refine List.Mem.tail _ ?_)
    k_steps
    refine append_K F₁ N₂ (Upd.head had) ?_ ?hsz
    case hsz => simp only [List.size_toArray]; rw [sizeLine_eq]; lia
    intro ha Fa Na
    simp only [List.push_toArray] at Na
    k_steps
    · rename k.fmod 64 = 34 => hq
      rw [if_pos hq] at hsn
      refine append_K Fa Na (Upd.head had) ?_ ?hsz
      case hsz => simp only [List.size_toArray, List.length_append, List.length_cons, List.length_nil]; rw [sizeLine_eq]; lia
      intro hb Fb Nb
      simp only [List.push_toArray] at Nb
      k_steps
      refine' ⟨_, _, _, _, rfl, Fb, News.rot3 Nb, hnI' _, _, nn + 1 + 1, _, ?hi, keep2 rfl rfl, rfl⟩
      case hi => show IntsAre _ ([50, 53, 55, 32, 34] ++ quoteF _); rw [hsn, show quoteF (row.take i) ++ [k, 34] = quoteF (row.take i) ++ [k] ++ [34] from by simp, ← List.append_assoc, ← List.append_assoc]; exact ints_snoc (ints_snoc hus)
    · rename ¬ k.fmod 64 = 34 => hq
      rw [if_neg hq] at hsn
      refine' ⟨_, _, _, _, rfl, Fa, News.rot3 Na, hnI' _, _, nn + 1, _, ?hi, keep2 rfl rfl, rfl⟩
      case hi => show IntsAre _ ([50, 53, 55, 32, 34] ++ quoteF _); rw [hsn, ← List.append_assoc]; exact ints_snoc hus
  case done =>
    rintro m₁ nx h tk ⟨us, nn, uu, hus, rfl, rfl⟩ F₁ N₁
    rw [List.take_length] at hus
    have hql := quoteF_len row
    have hcp : (Str.ofString "\"" ++ x).cps = #[34] ++ x.cps := rfl
    k_steps
    refine add_str (fun t' tk' => ?_) ?hsz
    case hsz => rw [sizeLine_eq]; show 1 + x.cps.size ≤ _; lia
    k_steps
    have hc := laid_c ([50, 53, 55, 32, 34] ++ quoteF row) us nn d (Str.ofString "\"" ++ x) t' ((r, listOf vs.toArray rn) :: rest) ?ha ?hb ?hc hus
    case ha => rw [hcp, Array.all_append, hasc]; decide +kernel
    case hb => simp
    case hc => rw [hcp]; simp only [Array.size_append, List.length_append, List.length_cons, List.length_nil]; have : (#[34] : Array Nat).size = 1 := rfl; lia
    refine hc w mean mg mb _ _ _ _ _ _ _ _ _ _ _ _ _ _ _ _ _ ‹Below _ _ _ _› F₁ ‹Frag.In _ _› (News.swap N₁) ‹Top _ _ _ _ _ _› rfl ?hd ?hu trivial ?_
    case hd => first | exact om_d1 hdp (by decide) | exact om_d2 hdp (by decide) | exact om_d3 hdp (by decide) | exact om_d4 hdp (by decide) | ktr_room
    case hu => first | exact om_u2 hun (by decide) | exact om_u3 hun (by decide) | exact om_u4 hun (by decide) | exact om_u5 hun (by decide) | ktr_units
    rintro v nw h9 tk9 F9 N9 ⟨d9, us9, nn9, rfl, rfl, hlt9, hus9⟩
    k_steps
    refine hret _ ((d9, listOf us9.toArray nn9) :: (r, listOf vs.toArray rn) :: rest) _ _ (by with_reducible assumption) ?_ ⟨d9, us9, nn9, rfl, rfl, fun p hp => hlt9 p (.tail _ hp), ?_⟩
    · rename News _ _ _ _ => NK
      exact News.tl (News.swap NK)
    · rw [hcp] at hus9; simpa using hus9
end Mine
end

section
open PySem PySem.W PySem.Calls PyProof.Rows
set_option compiler.extract_closed false
set_option maxRecDepth 100000
set_option maxHeartbeats 8000000
namespace Mine
/-- what the reference of each kind is turned into -/
def wdF (k : Nat) : List (Int × Str) := match k with
  | 0 => [(38, Str.ofString "&amp;"), (60, Str.ofString "&lt;"), (62, Str.ofString "&gt;")]
  | 1 => [(38, Str.ofString "&amp;"), (60, Str.ofString "&lt;"), (62, Str.ofString "&gt;"), (34, Str.ofString "&quot;"), (13, Str.ofString "&#13;"), (10, Str.ofString "&#10;"), (9, Str.ofString "&#09;")]
  | 2 => [(38, Str.ofString "&amp;"), (62, Str.ofString "&gt;"), (34, Str.ofString "&quot;")]
  | 3 => [(38, Str.ofString "&amp;"), (60, Str.ofString "&lt;"), (62, Str.ofString "&gt;"), (13, Str.ofString "&#xD;")]
  | _ => [(38, Str.ofString "&amp;"), (60, Str.ofString "&lt;"), (34, Str.ofString "&quot;"), (9, Str.ofString "&#x9;"), (10, Str.ofString "&#xA;"), (13, Str.ofString "&#xD;")]
def menuD (l : List (Int × Str)) : List (PyData × PyData) := l.map fun p => (PyData.int p.1, PyData.str p.2)
def writtenF (wd : List (Int × Str)) (row : List Int) : List Int := row.flatMap fun n => match wd.lookup (n.fmod 64) with
  | some w => (laidF [n - n.fmod 64] w.cps.toList).dropLast
  | none => [n]
theorem menuD_lookup (i : Int) : ∀ l : List (Int × Str), Spec.lookup (.int i) (menuD l) = (l.lookup i).map PyData.str
  | [] => rfl
  | (a, b) :: r => by
    show (if Spec.same (.int a) (.int i) then some (PyData.str b) else Spec.lookup (.int i) (menuD r)) = _
    have e : Spec.same (.int a) (.int i) = decide (a = i) := PyProof.V.same_int a i
    rw [e, List.lookup_cons]
    by_cases h : a = i
    · subst h; simp
    · have h2 : (i == a) = false := by simpa using Ne.symm h
      rw [h2, if_neg (by simpa using h)]
      exact menuD_lookup i r
theorem wdF_ok {k : Nat} {i : Int} {w : Str} (h : (wdF k).lookup i = some w) : w.cps.all (· < 128) = true ∧ w.cps.size ≤ 10 := by
  have all : ∀ p ∈ wdF k, p.2.cps.all (· < 128) = true ∧ p.2.cps.size ≤ 10 := by
    have e : k = 0 ∨ k = 1 ∨ k = 2 ∨ k = 3 ∨ 4 ≤ k := by lia
    rcases e with rfl | rfl | rfl | rfl | h4
    · decide +kernel
    · decide +kernel
    · decide +kernel
    · decide +kernel
    · obtain ⟨j, rfl⟩ : ∃ j, k = j + 4 := ⟨k - 4, by lia⟩
      show ∀ p ∈ wdF 4, _
      decide +kernel
  have mem : ∀ l : List (Int × Str), l.lookup i = some w → ∃ j, (j, w) ∈ l := by
    intro l
    induction l with
    | nil => intro h; cases h
    | cons p r ih =>
      intro h
      rw [List.lookup_cons] at h
      split at h
      · cases h; exact ⟨p.1, .head _⟩
      · obtain ⟨j, hj⟩ := ih h; exact ⟨j, .tail _ hj⟩
  obtain ⟨j, hj⟩ := mem _ h
  exact all _ hj
theorem writtenF_snoc (wd : List (Int × Str)) (row : List Int) (k : Int) : writtenF wd (row ++ [k]) = writtenF wd row ++ (match wd.lookup (k.fmod 64) with | some w => (laidF [k - k.fmod 64] w.cps.toList).dropLast | none => [k]) := by
  unfold writtenF; rw [List.flatMap_append]; simp

theorem writtenF_len (k : Nat) (row : List Int) : (writtenF (wdF k) row).length ≤ 12 * row.length := by
  induction row with
  | nil => simp [writtenF]
  | cons n r ih =>
    have e : writtenF (wdF k) (n :: r) = (match (wdF k).lookup (n.fmod 64) with | some w => (laidF [n - n.fmod 64] w.cps.toList).dropLast | none => [n]) ++ writtenF (wdF k) r := by unfold writtenF; rw [List.flatMap_cons]
    rw [e, List.length_append, List.length_cons]
    cases hw : (wdF k).lookup (n.fmod 64) with
    | none => simp only [List.length_cons, List.length_nil]; lia
    | some w =>
      have h1 := laid_len [n - n.fmod 64] w.cps.toList
      have h2 := (wdF_ok hw).2
      simp only [List.length_dropLast, List.length_cons, List.length_nil, Array.length_toList] at h1 ⊢
      lia
local macro_rules | `(tactic| walk_at $k) => if ["call builtin:list.extend", "pyIter ref", "ForPost", "call builtin:list.append", "subscriptTail", "compareOp In int ref"].contains k.getString then `(tactic| (refine stop_here ?_)) else Lean.Macro.throwUnsupported
local macro_rules | `(tactic| walk_at "exec For Name Name cons nil") => `(tactic| ((rename Fr _ _ _ _ => lF'); (with_unfolding_all refine' For_invVF lF' ?k1 ?k2 ?_; (case k1 => exact rfl); (case k2 => exact rfl); k_whole)))
local macro_rules | `(tactic| walk_at "call ref") => `(tactic| ((with_reducible show wpAny _ _ (call (Value.ref 158) _) _ _ _); refine stop_here ?_))

local macro_rules | `(tactic| walk_at "spliced") => `(tactic| (k_gentoks; (with_reducible rename SMark _ => hSm); refine norm_of hSm fun tk => ?_))
theorem written_c (k : Nat) (hk5 : k < 5) (row : List Int) (vs : List Value) (rn : Nat) (r : Addr) (t : Tok) (rest : Led) (hlen : row.length ≤ 1000) (hvs : IntsAre vs row) :
    Spec 5 165 [.ref r, .int (k : Int) t] ((r, listOf vs.toArray rn) :: rest) True
      (fun v nw => ∃ (d : Addr) (us : List Value) (nn : Nat), v = .ref d ∧ nw = (d, listOf us.toArray nn) :: (r, listOf vs.toArray rn) :: rest ∧ (∀ p ∈ (r, listOf vs.toArray rn) :: rest, p.1 < d) ∧ IntsAre us (writtenF (wdF k) row)) := by
  intro w mean mg mb dp un gd cn cs a ccd cl outer A₀ base h₀ L m s Q E B F X N T hk hdp hun hpre hret
  revert X; k_fill; w_top off; intro X
  refine wpAny_call ?_
  k_dflt cell_enter
  rename_i g1 L1 hE FG1 F1 N1 B1 X1 T1
  replace F1 := Fr.as F1 (m' := fun y => List.lookup y [(Str.ofString "kind", Value.int (k : Int) t), (Str.ofString "row", Value.ref r)]) (by with_unfolding_all rfl)
  have hSm : SMark s := trivial
  k_steps
  rename_i h1 o1 lo1 hd1 hf1 ap1 l1 h2 o2 lo2 hd2 hf2 ap2 l2 h3 o3 lo3 hd3 hf3 ap3 l3 h4 o4 lo4 hd4 hf4 ap4 l4 h5 o5 lo5 hd5 hf5 ap5 l5 lm hm FB NB lB
  obtain ⟨dw, ow, kvs, hx, hmem, hlo, hdo, hfo, hrw, hltw⟩ : ∃ (dw : Addr) (ow : Obj) (kvs : List (Int × Value)),
      [Value.ref hE.objs.size, Value.ref h1.objs.size, Value.ref h2.objs.size, Value.ref h3.objs.size, Value.ref h4.objs.size][(k : Int).toNat]? = some (Value.ref dw) ∧
      (dw, ow) ∈ [(h4.objs.size, o5), (h3.objs.size, o4), (h2.objs.size, o3), (h1.objs.size, o2), (hE.objs.size, o1)] ∧ (dw == sysModules) = false ∧
      ow.IsDictOf (intKind PySem.Challenge.rw_yh0016_01.row.prog w) kvs ∧ PyProof.V.FlatPairs PyData.int kvs (menuD (wdF k)) ∧ r < dw ∧ AllLt dw rest := by
    have e : k = 0 ∨ k = 1 ∨ k = 2 ∨ k = 3 ∨ k = 4 := by lia
    rcases e with rfl | rfl | rfl | rfl | rfl
    · exact ⟨_, o1, _, rfl, by simp, lo1, hd1, hf1, l1.1, l1.2⟩
    · exact ⟨_, o2, _, rfl, by simp, lo2, hd2, hf2, l2.2.1, l2.2.2⟩
    · exact ⟨_, o3, _, rfl, by simp, lo3, hd3, hf3, l3.2.2.1, l3.2.2.2⟩
    · exact ⟨_, o4, _, rfl, by simp, lo4, hd4, hf4, l4.2.2.2.1, l4.2.2.2.2⟩
    · exact ⟨_, o5, _, rfl, by simp, lo5, hd5, hf5, l5.2.2.2.2.1, l5.2.2.2.2.2⟩
  have ND : News g1 L1 hm ((dw, ow) :: (r, listOf vs.toArray rn) :: rest) := News.sub NB (by
    intro p hp
    simp only [List.mem_cons, List.not_mem_nil, or_false] at hp hmem ⊢
    rcases hp with rfl | h | h
    · rcases hmem with h | h | h | h | h <;> simp [h]
    · simp [h]
    · simp [h])
  refine norm_state (s := s) fun tkN => ?_
  refine item_litK (News.isList NB (.head _)) (by lia) (by lia) hx ?_ ?hs
  case hs => with_unfolding_all rfl
  clear NB lB ap1 ap2 ap3 ap4 ap5 l1 l2 l3 l4 l5 lo1 lo2 lo3 lo4 lo5 hf1 hf2 hf3 hf4 hf5 hd1 hd2 hd3 hd4 hd5 hmem
  k_steps
  rename_i d hA lA hB FC NC
  have T₀ : ∀ {h : Heap} {led : Led}, News g1 L1 h led → (dw, ow) ∈ led → IntTab PySem.Challenge.rw_yh0016_01.row.prog w h dw (menuD (wdF k)) := fun N hm => TabAt.ofNews N hm hlo hdo hfo
  refine for_list (fun i m' nx => ∃ (us : List Value) (nn : Nat) (u : Str → Option Value), IntsAre us (writtenF (wdF k) (row.take i)) ∧ (m' = fun y => if y = Str.ofString "due" then some (Value.ref d) else if y = Str.ofString "words" then some (Value.ref dw) else u y) ∧ nx = (d, listOf us.toArray nn) :: (dw, ow) :: rest)
    rfl ‹IntsAre vs row› FC (News.sub (l' := (r, listOf vs.toArray rn) :: (d, listOf ([] : List Value).toArray 0) :: (dw, ow) :: rest) NC ?hN0) ⟨_, 0, _, .nil, keep2 rfl rfl, rfl⟩ ?turn ?done
  case hN0 => (try dsimp only [List.nil_append, List.cons_append, List.append_assoc]); repeat' first | exact sub_refl | exact sub_nil | refine sub_cons ?_ ?_ | refine sub_tail ?_ | exact List.Mem.head _ | refine List.Mem.tail _ ?_
  case turn =>
    rintro i k' u m₁ nx I oI h tk hk' ⟨us, nn, uu, hus, rfl, rfl⟩ hnI hrI F₁ N₁
    have hdI : d ≠ I := hnI _ (.head _)
    have hwI : dw ≠ I := hnI _ (.tail _ (.head _))
    have had : ∀ p ∈ (I, oI) :: (r, listOf vs.toArray rn) :: (dw, ow) :: rest, p.1 ≠ d := fun p hp => by
      rcases List.mem_cons.mp hp with rfl | hp
      · exact hdI.symm
      rcases List.mem_cons.mp hp with rfl | hp
      · exact Nat.ne_of_lt lA.2.1
      rcases List.mem_cons.mp hp with rfl | hp
      · exact Nat.ne_of_lt lA.1
      · exact Nat.ne_of_lt (kst_ltOf lA.2.2 p hp)
    have hnI' : ∀ o, ∀ p ∈ (d, o) :: (dw, ow) :: rest, p.1 ≠ I := fun o p hp => by
      rcases List.mem_cons.mp hp with rfl | hp
      · exact hdI
      · exact hnI p (.tail _ hp)
    have hsn := writtenF_snoc (wdF k) (row.take i) k'
    have htk : row.take i ++ [k'] = row.take (i + 1) := by rw [List.take_add_one, hk']; rfl
    rw [htk] at hsn
    k_steps
    rename Fr _ _ _ _ => FA
    rename News _ _ _ _ => NA
    refine in_intTab (T₀ NA (.tail _ (.tail _ (.tail _ (.head _))))) ?_
    rw [menuD_lookup]
    have hun := hus.length
    cases hw : (wdF k).lookup (k'.fmod 64) with
    | none =>
      rw [hw] at hsn
      simp only [Option.map_none, Option.isSome_none]
      k_steps
      refine append_K (by with_reducible assumption) (News.sub (l' := (d, listOf us.toArray nn) :: (I, oI) :: (r, listOf vs.toArray rn) :: (dw, ow) :: rest) (by with_reducible assumption) ?hN) (Upd.head had) ?_ ?hsz
      case hN => (try dsimp only [List.nil_append, List.cons_append, List.append_assoc]); repeat' first | exact sub_refl | exact sub_nil | refine sub_cons ?_ ?_ | refine sub_tail ?_ | exact List.Mem.head _ | refine List.Mem.tail _ ?_
      case hsz =>
        have := writtenF_len k (row.take i)
        simp only [List.length_take] at this
        simp only [List.size_toArray]; rw [sizeLine_eq]; lia
      intro hb Fb Nb
      simp only [List.push_toArray] at Nb
      k_steps
      refine' ⟨_, _, _, _, rfl, Fb, News.rot3 Nb, hnI' _, _, nn + 1, _, ?hi, keep2 rfl rfl, rfl⟩
      case hi => rw [hsn]; exact ints_snoc hus
    | some wd =>
      rw [hw] at hsn
      simp only [Option.map_some, Option.isSome_some]
      obtain ⟨hwa, hws⟩ := wdF_ok hw
      k_steps
      rename Fr _ _ _ _ => FD
      rename News _ _ _ _ => NDD
      rename_i l6 h6 l6l
      refine norm_state (s := s) fun tk7 => ?_
      refine item_intTab (T₀ NDD (.tail _ (.tail _ (.tail _ (.tail _ (.head _)))))) ((menuD_lookup _ _).trans (by rw [hw]; rfl)) ?_ ?hs ?hg
      case hs => with_unfolding_all rfl
      case hg => intro _; with_unfolding_all rfl
      intro v7 hf7
      obtain ⟨t7, rfl⟩ : ∃ t7, v7 = .str wd t7 := by cases hf7 h6; exact ⟨_, rfl⟩
      k_steps
      refine laid_c [k' - k'.fmod 64] _ 0 l6 wd t7 ((I, oI) :: (r, listOf vs.toArray rn) :: (d, listOf us.toArray nn) :: (dw, ow) :: rest) hwa (by simp) (by simp; lia) (.cons _ _ .nil) w mean mg mb _ _ _ _ _ _ _ _ _ _ _ _ _ _ _ _ _ ‹Below _ _ _ _› FD ‹Frag.In _ _› NDD ‹Top _ _ _ _ _ _› rfl ?hd ?hu trivial ?_
      case hd => first | exact om_d1 hdp (by decide) | exact om_d2 hdp (by decide) | exact om_d3 hdp (by decide) | exact om_d4 hdp (by decide) | ktr_room
      case hu => first | exact om_u2 hun (by decide) | exact om_u3 hun (by decide) | exact om_u4 hun (by decide) | exact om_u5 hun (by decide) | ktr_units
      rintro v nw h9 tk9 F9 N9 ⟨d9, us9, nn9, rfl, rfl, hlt9, hus9⟩
      have hl9 := hus9.length
      have hll := laid_len [k' - k'.fmod 64] wd.cps.toList
      simp only [List.length_cons, List.length_nil, Array.length_toList] at hll
      obtain ⟨p9, q9, he9, -⟩ := laid_snoc [k' - k'.fmod 64] wd.cps.toList 0
      have hne9 : us9 ≠ [] := fun e => by rw [he9, e] at hl9; simp at hl9
      k_steps
      rename Fr _ _ _ _ => FZ
      rename News _ _ _ _ => NZ
      refine slice_any (s := { s with heap := _, toks := _ }) FZ NZ (News.isList NZ (.head _)) .none (.int _ _) ?hs ?hsz ?_
      case hs => with_unfolding_all rfl
      case hsz => simp only [List.size_toArray]; rw [sizeLine_eq]; lia
      intro DZ hZ FY NY ltY
      rw [pick_init hne9] at NY
      k_steps
      refine norm_state (s := s) fun tk8 => ?_
      have hwl := writtenF_len k (row.take i)
      simp only [List.length_take] at hwl
      refine extend_in_ints (own := []) (D := d) (b := DZ) (ys := us) (n := nn) (its2 := us9.dropLast.toArray) (n2 := 0) (ms := (laidF [k' - k'.fmod 64] wd.cps.toList).dropLast) (rest := (I, oI) :: (r, listOf vs.toArray rn) :: (dw, ow) :: rest)
        FY (News.sub NY ?hN) (fun _ hp => nomatch hp) had (NY _ (.head _)).1 hus ?hj ?_ ?hz
      case hN => (try dsimp only [List.nil_append, List.cons_append, List.append_assoc]); repeat' first | exact sub_refl | exact sub_nil | refine sub_cons ?_ ?_ | refine sub_tail ?_ | exact List.Mem.head _ | refine List.Mem.tail _ ?_
      case hj => exact ints_dropLast hus9
      case hz => simp only [List.size_toArray, List.length_dropLast]; rw [sizeLine_eq]; lia
      intro hQ n9 FQ NQ hiQ
      k_steps
      refine' ⟨_, _, _, _, rfl, FQ, News.rot3 NQ, hnI' _, _, n9, _, ?hi, keep2 rfl rfl, rfl⟩
      case hi => rw [hsn]; exact hiQ
  case done =>
    rintro m₁ nx h tk ⟨us, nn, uu, hus, rfl, rfl⟩ F₁ N₁
    rw [List.take_length] at hus
    k_steps
    rename News _ _ _ _ => NK
    refine hret _ ((d, listOf us.toArray nn) :: (r, listOf vs.toArray rn) :: rest) _ _ (by with_reducible assumption) (News.sub NK ?_) ⟨d, us, nn, rfl, rfl, fun p hp => ?_, hus⟩
    · (try dsimp only [List.nil_append, List.cons_append, List.append_assoc]); repeat' first | exact sub_refl | exact sub_nil | refine sub_cons ?_ ?_ | refine sub_tail ?_ | exact List.Mem.head _ | refine List.Mem.tail _ ?_
    · rcases List.mem_cons.mp hp with rfl | hp
      · exact lA.2.1
      · exact kst_ltOf lA.2.2 p hp
end Mine
end

section
open PySem PySem.W PySem.Calls PyProof.Rows
set_option compiler.extract_closed false
set_option maxRecDepth 100000
set_option maxHeartbeats 8000000
namespace Mine
/-- how many 34s a list begins with -/
def runF : List Int → Nat
  | [] => 0
  | x :: r => if x = 34 then runF r + 1 else 0
def namedGo : List Int → List Int
  | [] => []
  | first :: r =>
    if first.fmod 64 = 34 then
      (if runF r = 0 then [first - 34]
      else (first :: List.replicate ((runF r + 1) / 2 - 1) 34) ++ (if (runF r + 1) % 2 = 1 then [0] else namedGo (r.drop (runF r))))
    else first :: namedGo r
  termination_by l => l.length
  decreasing_by all_goals (simp only [List.length_drop, List.length_cons]; lia)
def namedF (row : List Int) : List Int := if (row.drop 3).take 2 = [32, 34] then namedGo (row.drop 5) else [0]

theorem runF_cons34 (r : List Int) : runF (34 :: r) = runF r + 1 := by rw [runF, if_pos rfl]
theorem runF_cons_ne {x : Int} (h : x ≠ 34) (r : List Int) : runF (x :: r) = 0 := by rw [runF, if_neg h]
theorem runF_le : ∀ r : List Int, runF r ≤ r.length
  | [] => Nat.le_refl _
  | x :: r => by
    by_cases h : x = 34
    · subst h; rw [runF_cons34]; have := runF_le r; simp only [List.length_cons]; lia
    · rw [runF_cons_ne h]; lia
theorem getD_drop {row : List Int} {i : Nat} (h : i < row.length) : row.drop i = row.getD i 0 :: row.drop (i + 1) := by
  rw [List.drop_eq_getElem_cons h, List.getD_eq_getElem?_getD, List.getElem?_eq_getElem h]; rfl
theorem last_getD {row : List Int} (hne : row ≠ []) : row.getLast hne = row.getD (row.length - 1) 0 := by
  have hp := List.length_pos_iff.mpr hne
  rw [List.getLast_eq_getElem, List.getD_eq_getElem?_getD, List.getElem?_eq_getElem (by lia)]; rfl
theorem ar_pred {p L : Nat} (h : L ≤ p + 1) (h2 : p < L) : L - 1 = p := by lia
theorem ar_toNat (p j : Nat) : ((p : Int) + (j : Int)).toNat = p + j := by lia
theorem ar_subj {L p j : Nat} (h : p + j < L) (hj : 1 ≤ j) : L - (p + j) < L - p := by lia
theorem ar_one {j : Nat} (h : ((j : Int)) = 1) : j = 1 := by lia
theorem ar_mod1 {j : Nat} (h : ((j % 2 : Nat) : Int) = 1) : j % 2 = 1 := by lia
theorem ar_mod0 {j : Nat} (h : ¬ ((j % 2 : Nat) : Int) = 1) : ¬ j % 2 = 1 := by lia
theorem ar_run {j a b : Nat} (h : j + (a + 1) = 1 + b) : j + 1 + a = 1 + b := by lia
theorem ar_run0 {j b : Nat} (h : j + 0 = 1 + b) : b = j - 1 := by lia
theorem ar_runne {j b : Nat} (h : j + 0 = 1 + b) (h2 : ¬ (j : Int) = 1) : ¬ b = 0 := by lia
theorem ar_end {p L : Nat} (h : ¬ (p : Int) < (L : Int)) (h2 : p ≤ L) : p = L := by lia
theorem ar_pm {j : Nat} (h : 1 ≤ j) : j - 1 + 1 = j := by lia
theorem ar_pm2 {p j : Nat} (h : 1 ≤ j) : p + 1 + (j - 1) = p + j := by lia
theorem ar_sz1 {p j L : Nat} (h : p + j < L) (e : L ≤ 1000) : 1 + (j / 2 - 1) ≤ 16777216 := by lia
theorem ar_sz2 {d p j L : Nat} (h0 : d ≤ p) (h : p + j < L) (e : L ≤ 1000) : d + (0 + 1 + (j / 2 - 1)) ≤ 16777216 := by lia
theorem ar_sz3 {d p L : Nat} (h0 : d ≤ p) (h : p < L) (e : L ≤ 1000) : d + 1 ≤ 16777216 := by lia
theorem ar_l {d p j : Nat} (h0 : d ≤ p) (h : 1 ≤ j) : d + (0 + 1 + (j / 2 - 1)) ≤ p + j := by lia
theorem ar_l1 {d p : Nat} (h0 : d ≤ p) : d + (0 + 1) ≤ p + 1 := by lia
theorem take_mid (row : List Int) : List.take (min 5 row.length - 3) (List.drop 3 row) = (row.drop 3).take 2 := by
  rcases Nat.lt_or_ge row.length 5 with h | h
  · rw [Nat.min_eq_right (by lia), List.take_of_length_le (by simp), List.take_of_length_le (by simp; lia)]
  · rw [Nat.min_eq_left (by lia)]
theorem mid_len {row : List Int} (h : (row.drop 3).take 2 = [32, 34]) : 5 ≤ row.length := by
  have := congrArg List.length h
  simp only [List.length_take, List.length_drop, List.length_cons, List.length_nil] at this
  lia
theorem rep_flat (n : Nat) : (List.replicate n [(34 : Int)]).flatten = List.replicate n 34 := by
  induction n with
  | zero => rfl
  | succ n ih => rw [List.replicate_succ, List.flatten_cons, ih, List.replicate_succ]; rfl
theorem nm_one {f : Int} {r : List Int} (h : f.fmod 64 = 34) (h0 : runF r = 0) : namedGo (f :: r) = [f - 34] := by rw [namedGo, if_pos h, if_pos h0]
theorem nm_no {f : Int} {r : List Int} (h : ¬ f.fmod 64 = 34) : namedGo (f :: r) = f :: namedGo r := by rw [namedGo, if_neg h]
theorem nm_run {f : Int} {row : List Int} {place j : Nat} (h : f.fmod 64 = 34) (hj1 : 1 ≤ j) (h0 : ¬ runF (row.drop (place + 1)) = 0) (h1 : runF (row.drop (place + 1)) = j - 1) :
    namedGo (f :: row.drop (place + 1)) = (f :: List.replicate (j / 2 - 1) 34) ++ (if j % 2 = 1 then [0] else namedGo (row.drop (place + j))) := by
  rw [namedGo, if_pos h, if_neg h0, h1, List.drop_drop, ar_pm hj1, ar_pm2 hj1]
local macro_rules | `(tactic| walk_at "exec While Compare cons nil") => `(tactic| ((with_reducible show wpAny _ _ (exec (Stmt.While _ _ _ _) _) _ _ _); refine stop_here ?_))
local macro_rules | `(tactic| walk_at $k) => if ["compareOp NotEq ref ref", "call builtin:list.append", "call builtin:list.extend"].contains k.getString then `(tactic| (refine stop_here ?_)) else Lean.Macro.throwUnsupported

theorem named_c (row : List Int) (vs : List Value) (rn : Nat) (r : Addr) (rest : Led) (hne : row ≠ []) (hlast : (row.getLast hne).fmod 64 = 0) (hlen : row.length ≤ 1000) (hvs : IntsAre vs row) :
    Spec 3 179 [.ref r] ((r, listOf vs.toArray rn) :: rest) True
      (fun v nw => ∃ (d : Addr) (us : List Value) (nn : Nat), v = .ref d ∧ nw = (d, listOf us.toArray nn) :: (r, listOf vs.toArray rn) :: rest ∧ (∀ p ∈ (r, listOf vs.toArray rn) :: rest, p.1 < d) ∧ IntsAre us (namedF row)) := by
  intro w mean mg mb dp un gd cn cs a ccd cl outer A₀ base h₀ L m s Q E B F X N T hk hdp hun hpre hret
  revert X; k_fill; w_top off; intro X
  refine wpAny_call ?_
  k_dflt cell_enter
  rename_i g1 L1 hE FG1 F1 N1 B1 X1 T1
  replace F1 := Fr.as F1 (m' := fun y => List.lookup y [(Str.ofString "row", Value.ref r)]) (by with_unfolding_all rfl)
  k_steps
  rename_i D1 ws1 hS hI1 hC1 hL1 lS D2 hT FT NT lT
  rw [take_mid] at hI1
  refine ne_intsK (News.isList NT (.tail _ (.head _))) hI1 (News.isList NT (.head _)) (.cons _ _ (.cons _ _ .nil)) ?hu ?_
  case hu => ktr_units
  k_steps
  · rename_i hcond tk0 d hA lA hB hC FW NW
    have hnF : namedF row = namedGo (row.drop 5) := by unfold namedF; rw [if_pos hcond]
    have h5 : 5 ≤ row.length := mid_len hcond
    have had : ∀ p ∈ (r, listOf vs.toArray rn) :: rest, p.1 < d := fun p hp => by
      rcases List.mem_cons.mp hp with rfl | hp
      · exact lA.2.2.1
      · exact kst_ltOf lA.2.2.2 p hp
    have NW2 : News g1 L1 hC ((d, listOf ([] : List Value).toArray 0) :: (r, listOf vs.toArray rn) :: rest) := News.sub NW (by (try dsimp only [List.nil_append, List.cons_append, List.append_assoc]); repeat' first | exact sub_refl | exact sub_nil | refine sub_cons ?_ ?_ | refine sub_tail ?_ | exact List.Mem.head _ | refine List.Mem.tail _ ?_)
    refine While_inv2 (fun n m' nx => ∃ (place nn : Nat) (us : List Value) (done : List Int) (tp : Tok) (u : Str → Option Value), n = row.length - place ∧ 5 ≤ place ∧ place ≤ row.length ∧ IntsAre us done ∧ done.length ≤ place ∧
        done ++ namedGo (row.drop place) = namedF row ∧
        (m' = fun y => if y = Str.ofString "due" then some (Value.ref d) else if y = Str.ofString "place" then some (Value.int (place : Int) tp) else if y = Str.ofString "row" then some (Value.ref r) else u y) ∧
        nx = (d, listOf us.toArray nn) :: (r, listOf vs.toArray rn) :: rest)
      FW NW2 (n₀ := row.length - 5) ?h0 ?turn
    case h0 => exact ⟨5, 0, [], [], _, _, rfl, Nat.le_refl _, h5, .nil, by simp, hnF.symm, keep3 rfl rfl rfl, rfl⟩
    case turn =>
      rintro n m₁ news₁ h₁ tk₁ F₃ N₃ ⟨place, nn, us, done, tp, u, rfl, hp5, hpl, hus, hdl, hgo, rfl, rfl⟩
      have hnd : ∀ p ∈ (r, listOf vs.toArray rn) :: rest, p.1 ≠ d := fun p hp => Nat.ne_of_lt (had p hp)
      k_steps
      · rename_i hpl2 tk2 tf hA2 hB2 hf34 hC2 F5 N5
        rw [Int.toNat_natCast] at hf34
        have hpl3 : place < row.length := Int.ofNat_lt.mp hpl2
        have hfst := getD_drop hpl3
        have hlst := last_getD hne
        have hp1 : place + 1 < row.length := by
          rcases Nat.lt_or_ge (place + 1) row.length with h | h
          · exact h
          · exfalso
            rw [ar_pred h hpl3] at hlst
            rw [← hlst, hlast] at hf34
            exact absurd hf34 (by decide)
        refine While_inv2 (fun n m' nx => ∃ (j : Nat) (tr : Tok) (u' : Str → Option Value), n = row.length - (place + j) ∧ 1 ≤ j ∧ place + j < row.length ∧ j + runF (row.drop (place + j)) = 1 + runF (row.drop (place + 1)) ∧
            (m' = fun y => if y = Str.ofString "run" then some (Value.int (j : Int) tr) else if y = Str.ofString "first" then some (Value.int (row.getD place 0) tf) else if y = Str.ofString "due" then some (Value.ref d) else if y = Str.ofString "place" then some (Value.int (place : Int) tp) else if y = Str.ofString "row" then some (Value.ref r) else u' y) ∧
            nx = (d, listOf us.toArray nn) :: (r, listOf vs.toArray rn) :: rest)
          F5 N5 (n₀ := row.length - (place + 1)) ?i0 ?iturn
        case i0 => exact ⟨1, _, _, rfl, Nat.le_refl _, hp1, rfl, keep5 rfl rfl rfl rfl rfl, rfl⟩
        case iturn =>
          rintro n m₁ news₁ h₁ tk₁ F₃ N₃ ⟨j, tr, u', rfl, hj1, hjl, hjr, rfl, rfl⟩
          have hjd := getD_drop hjl
          have etn := ar_toNat place j
          k_steps
          · rename_i tq h34 hx FX NX
            rw [etn] at h34
            refine' ⟨_, _, _, _, _, rfl, FX, NX, ?hm, j + 1, _, _, rfl, om_suc1, ?hlt, ?hrr, keep5 rfl rfl rfl rfl rfl, rfl⟩
            case hlt =>
              rcases Nat.lt_or_ge (place + (j + 1)) row.length with h | h
              · exact h
              · exfalso
                rw [ar_pred (p := place + j) h hjl, h34] at hlst
                rw [hlst] at hlast
                exact absurd hlast (by decide)
            case hrr => rw [hjd, h34, runF_cons34, Nat.add_assoc place j 1] at hjr; exact ar_run hjr
            case hm => exact om_sub (a := place + j) hjl
          · rename_i tq h34 hj1' l7 hA7 lt7 D7 ws7 h7 F7 N7 hI7 lt7'
            rw [etn] at h34
            have hj : j = 1 := ar_one hj1'
            subst hj
            have hr0 : runF (row.drop (place + 1)) = 0 := by rw [hjd, runF_cons_ne h34]
            dsimp only [WhileStep2]
            k_steps
            rename_i kF kN kT kX
            refine hret _ _ _ _ kF (News.drop23 kN) ⟨D7, ws7, 0, rfl, rfl, fun p hp => ?_, ?_⟩
            · rcases List.mem_cons.mp hp with rfl | hp
              · exact lt7'.2.2.1
              · exact kst_ltOf lt7'.2.2.2 p hp
            · rw [← hgo, hfst, nm_one hf34 hr0]; exact hI7
          · rename_i tq h34 hj1' l7 hA7 lt7 l8 hA8 F8 N8 lt8 D8 hB8 F9 N9 i9 n9 s9 e9 e9' e9'' lt9
            rw [etn] at h34
            rw [hjd, runF_cons_ne h34] at hjr
            rw [om_half j] at N9 i9
            refine norm_state (s := s) fun tk9 => ?_
            refine kmk_add_ints F9 N9 (News.isList N9 (.tail _ (.tail _ (.head _)))) (News.isList N9 (.head _)) (.cons _ _ .nil) i9 ?_ ?hz
            case hz => simp; rw [sizeLine_eq]; exact ar_sz1 hjl hlen
            intro D3 us3 h3 F3 N3 lt3 hi3
            rw [rep_flat] at hi3
            have hr1 : runF (row.drop (place + 1)) = j - 1 := ar_run0 hjr
            have hul := hus.length
            have h3l := hi3.length
            simp only [List.length_append, List.length_cons, List.length_nil, List.length_replicate] at h3l
            have hgo2 := nm_run (f := row.getD place 0) hf34 hj1 (ar_runne hjr hj1') hr1
            rw [← hfst] at hgo2
            k_steps
            refine extend_in_ints (own := []) (D := d) (b := D3) (ys := us) (n := nn) (its2 := us3.toArray) (n2 := 0) (ns := done) (ms := [row.getD place 0] ++ List.replicate (j / 2 - 1) 34) (rest := (r, listOf vs.toArray rn) :: rest)
              F3 (News.sub N3 ?hN) (fun _ hp => nomatch hp) hnd (N3 _ (.head _)).1 hus hi3 ?_ ?hz2
            case hN => (try dsimp only [List.nil_append, List.cons_append, List.append_assoc]); repeat' first | exact sub_refl | exact sub_nil | refine sub_cons ?_ ?_ | refine sub_tail ?_ | exact List.Mem.head _ | refine List.Mem.tail _ ?_
            case hz2 => simp only [List.size_toArray]; rw [sizeLine_eq, hul, h3l]; exact ar_sz2 hdl hjl hlen
            intro hQ n9' FQ NQ hiQ
            simp only [List.nil_append] at NQ hiQ
            k_steps
            · rename_i hjo la hA5 lt5 Db wsb hB5 Fb Nb hIb ltb
              rw [om_mod j] at hjo
              have hjo' : j % 2 = 1 := ar_mod1 hjo
              dsimp only [WhileStep2]
              k_steps
              rename_i kF kN kT kX
              refine hret _ _ _ _ kF (News.drop23 kN) ⟨Db, wsb, 0, rfl, rfl, fun p hp => ?_, ?_⟩
              · rcases List.mem_cons.mp hp with rfl | hp
                · exact ltb.2.2.1
                · exact kst_ltOf ltb.2.2.2 p hp
              · rw [← hgo, hgo2, if_pos hjo', ← List.append_assoc]; exact hIb
            · rename_i hjo hxx FX NX
              rw [om_mod j] at hjo
              have hjo' : ¬ j % 2 = 1 := ar_mod0 hjo
              rw [hgo2, if_neg hjo', ← List.append_assoc] at hgo
              refine' ⟨_, _, _, _, _, rfl, FX, NX, ?hm, place + j, n9', _, _, _, _, rfl, Nat.le_trans hp5 (Nat.le_add_right _ _), Nat.le_of_lt hjl, hiQ, ?hl, hgo, keep3 rfl rfl rfl, rfl⟩
              case hm => exact ar_subj hjl hj1
              case hl => simp only [List.length_append, List.length_cons, List.length_nil, List.length_replicate]; exact ar_l hdl hj1
      · rename_i hpl2 tk2 tf hA2 hB2 hf34 tk3 l7 hA7 lt7 l8 hA8 lt8 D7 h7 i7 n7 s7 e7 e7' e7'' lt7' D8 h8 F8 N8 lt8'
        rw [Int.toNat_natCast] at hf34 N8
        have hpl3 : place < row.length := Int.ofNat_lt.mp hpl2
        have hfst := getD_drop hpl3
        have hul := hus.length
        refine extend_in_ints (own := []) (D := d) (b := D8) (ys := us) (n := nn) (its2 := #[Value.int (row.getD place 0) tf]) (n2 := 0) (ns := done) (ms := [row.getD place 0]) (rest := (r, listOf vs.toArray rn) :: rest)
          F8 (News.sub N8 ?hN) (fun _ hp => nomatch hp) hnd (N8 _ (.head _)).1 hus (.cons _ _ .nil) ?_ ?hz2
        case hN => (try dsimp only [List.nil_append, List.cons_append, List.append_assoc]); repeat' first | exact sub_refl | exact sub_nil | refine sub_cons ?_ ?_ | refine sub_tail ?_ | exact List.Mem.head _ | refine List.Mem.tail _ ?_
        case hz2 => simp only [List.size_toArray]; rw [sizeLine_eq]; show us.length + 1 ≤ _; rw [hul]; exact ar_sz3 hdl hpl3 hlen
        intro hQ n9' FQ NQ hiQ
        simp only [List.nil_append] at NQ hiQ
        k_steps
        rename_i hxx FX NX
        rw [hfst, nm_no hf34] at hgo
        refine' ⟨_, _, _, _, _, rfl, FX, NX, ?hm, place + 1, n9', _, done ++ [row.getD place 0], _, _, rfl, Nat.le_succ_of_le hp5, hpl3, hiQ, ?hl, ?hg, keep3 rfl rfl rfl, rfl⟩
        case hm => exact om_sub hpl3
        case hl => simp only [List.length_append, List.length_cons, List.length_nil]; exact ar_l1 hdl
        case hg => rw [← hgo]; simp
      · rename_i hpl2 kF kN kT kX
        have hpe : place = row.length := ar_end hpl2 hpl
        rw [hpe, List.drop_length, namedGo, List.append_nil] at hgo
        exact hret _ _ _ _ kF kN ⟨d, us, nn, rfl, rfl, had, hgo ▸ hus⟩
  · rename_i hcond d hA FW NW lA kF kN kT kX
    refine hret _ _ _ _ kF (News.drop23 kN) ⟨d, _, 0, rfl, rfl, fun p hp => ?_, ?_⟩
    · rcases List.mem_cons.mp hp with rfl | hp
      · exact lA.2.2.1
      · exact kst_ltOf lA.2.2.2 p hp
    · unfold namedF; rw [if_neg hcond]; exact .cons 0 _ .nil
end Mine
end

section
open PySem PyProof.Rows
set_option maxRecDepth 100000
namespace Mine
/-- each code c is turned into z -/
def subC (c : Nat) (z : List Nat) (l : List Nat) : List Nat := l.flatMap fun k => if k = c then z else [k]
theorem subC_append (c : Nat) (z a b : List Nat) : subC c z (a ++ b) = subC c z a ++ subC c z b := List.flatMap_append
theorem subC_free (c : Nat) (z : List Nat) : ∀ l : List Nat, c ∉ l → subC c z l = l
  | [], _ => rfl
  | k :: r, h => by
    have h1 : ¬ k = c := fun e => h (e ▸ List.mem_cons_self ..)
    have h2 : c ∉ r := fun m => h (List.mem_cons_of_mem _ m)
    have ih := subC_free c z r h2
    unfold subC at ih ⊢
    rw [List.flatMap_cons, if_neg h1, ih]; rfl
theorem subC_one (c : Nat) (z : List Nat) : subC c z [c] = z := by simp [subC]
theorem subC_join (c : Nat) (z : Str) : ∀ parts : List Str, (∀ p ∈ parts, c ∉ p.cps.toList) → subC c z.cps.toList (Str.join ⟨#[c]⟩ parts).cps.toList = (Str.join z parts).cps.toList
  | [], _ => rfl
  | [p], h => subC_free c _ _ (h p (List.mem_singleton.mpr rfl))
  | p :: q :: r, h => by
    have ih := subC_join c z (q :: r) fun a ha => h a (List.mem_cons_of_mem _ ha)
    show subC c z.cps.toList (p ++ ⟨#[c]⟩ ++ Str.join ⟨#[c]⟩ (q :: r)).cps.toList = (p ++ z ++ Str.join z (q :: r)).cps.toList
    simp only [Str.cps_append, Array.toList_append]
    rw [subC_append, subC_append, ih, subC_free c _ _ (h p (List.mem_cons_self ..))]
    show p.cps.toList ++ subC c z.cps.toList [c] ++ _ = _
    rw [subC_one]
theorem replace_sub (x z : Str) (c : Nat) : (Txt.replace x ⟨#[c]⟩ z).cps.toList = subC c z.cps.toList x.cps.toList := by
  rw [StrLaws.replace_one, ← subC_join c z _ (StrLaws.split_free x c), StrLaws.join_split]
theorem not_in {x : Str} {c : Nat} (h : (Builtin.Str.occurrences x ⟨#[c]⟩ 0 x.length 1).isEmpty = true) (z : List Nat) : subC c z x.cps.toList = x.cps.toList := by
  have := StrLaws.found_one x c
  rw [h] at this
  exact subC_free c z _ (by simpa using this)
theorem subC_len (c : Nat) (z : List Nat) (hz : z.length ≤ 6) : ∀ l : List Nat, (subC c z l).length ≤ 6 * l.length
  | [] => Nat.le_refl _
  | k :: r => by
    have ih := subC_len c z hz r
    have e : subC c z (k :: r) = (if k = c then z else [k]) ++ subC c z r := by unfold subC; rw [List.flatMap_cons]
    rw [e, List.length_append, List.length_cons]
    split
    · lia
    · simp only [List.length_cons, List.length_nil]; lia
theorem size_len (x : Str) : x.length = x.cps.toList.length := by rw [Array.length_toList]; rfl
theorem sidx_clip (a b n : Nat) : Builtin.Str.strSliceIndices (some (a : Int)) (some (b : Int)) 1 n = Builtin.Str.strSliceIndices (some ((min a n : Nat) : Int)) (some ((min b n : Nat) : Int)) 1 n := by
  have e1 : max (0 : Int) (min (a : Int) (n : Int)) = max (0 : Int) (min ((min a n : Nat) : Int) (n : Int)) := by lia
  have e2 : max (0 : Int) (min (b : Int) (n : Int)) = max (0 : Int) (min ((min b n : Nat) : Int) (n : Int)) := by lia
  have a1 : ¬ ((a : Int) < 0) := by lia
  have b1 : ¬ ((b : Int) < 0) := by lia
  have a2 : ¬ (((min a n : Nat) : Int) < 0) := by lia
  have b2 : ¬ (((min b n : Nat) : Int) < 0) := by lia
  simp only [Builtin.Str.strSliceIndices, if_neg a1, if_neg b1, if_neg a2, if_neg b2, show (1 : Int) > 0 from by decide, if_true]
  rw [e1, e2]
theorem slice_mid (x : Str) (a b : Nat) (hab : a ≤ b) : (Txt.slice x (some (a : Int)) (some (b : Int))).cps.toList = (x.cps.toList.drop a).take (b - a) := by
  have e : Txt.slice x (some (a : Int)) (some (b : Int)) = StrLaws.sliceText x (some ((min a x.length : Nat) : Int)) (some ((min b x.length : Nat) : Int)) := by
    unfold Txt.slice StrLaws.sliceText
    rw [sidx_clip]
  rw [e, StrLaws.sliceText_nat x (by lia) (by lia)]
  have hl := size_len x
  show (x.cps.toList.drop (min a x.length)).take (min b x.length - min a x.length) = _
  rcases Nat.lt_or_ge x.length b with h | h
  · rw [Nat.min_eq_right (Nat.le_of_lt h)]
    rcases Nat.lt_or_ge x.length a with h2 | h2
    · rw [Nat.min_eq_right (Nat.le_of_lt h2), List.drop_of_length_le (by lia), List.drop_of_length_le (by lia)]; simp
    · rw [Nat.min_eq_left h2, List.take_of_length_le (by rw [List.length_drop]; lia), List.take_of_length_le (by rw [List.length_drop]; lia)]
  · rw [Nat.min_eq_left h, Nat.min_eq_left (by lia)]
theorem slice_to (x : Str) (b : Nat) : (Txt.slice x none (some (b : Int))).cps.toList = x.cps.toList.take b := by
  have e : Txt.slice x none (some (b : Int)) = Txt.slice x (some ((0 : Nat) : Int)) (some (b : Int)) := by
    unfold Txt.slice
    rw [StrLaws.sliceIdx_none_lo]; rfl
  rw [e, slice_mid x 0 b (Nat.zero_le _)]; simp
theorem eq_of_list {x y : Str} (h : x.cps.toList = y.cps.toList) : x = y := by
  obtain ⟨⟨l⟩⟩ := x; obtain ⟨⟨l'⟩⟩ := y
  have : l = l' := h
  rw [this]
theorem bne_str (x y : Str) : (x != y) = true ↔ x.cps.toList ≠ y.cps.toList := by
  rw [bne_iff_ne]; exact ⟨fun h e => h (eq_of_list e), fun h e => h (by rw [e])⟩
end Mine
end

section
open PySem PySem.W PySem.Calls PyProof.Rows
set_option compiler.extract_closed false
set_option maxRecDepth 100000
set_option maxHeartbeats 8000000
namespace Mine
local macro_rules | `(tactic| walk_at "MINE none0") => `(tactic| skip)
/-- after one of the ifs -/
def EscMid (h₀ : Heap) (L : Addr) (news : Led) (s : Shared) (l : List Nat) (f : Flow) (s₂ : Shared) : Prop :=
  f = .next ∧ ∃ (h' : Heap) (tk : Tok) (x' : Str) (u : Tok) (m' : Str → Option Value), s₂ = { s with heap := h', toks := tk } ∧ Fr h₀ L h' (fun y => if y = Str.ofString "text" then some (Value.str x' u) else m' y) ∧ News h₀ L h' news ∧ x'.cps.toList = l
theorem le_of_len {x : Str} {n k : Nat} (h : x.cps.toList.length ≤ n) (hk : n ≤ k) : x.length ≤ k := by rw [size_len]; exact Nat.le_trans h hk
abbrev escScope : Scope := { kind := .function, names := [(Str.ofString "text", .local), (Str.ofString "TypeError", .globalImplicit), (Str.ofString "AttributeError", .globalImplicit), (Str.ofString "_raise_serialization_error", .globalImplicit)], isGenerator := false, isCoroutine := false }
local macro_rules | `(tactic| walk_at $k) => if ["call builtin:str.replace", "EscMid", "eval Call Attribute"].contains k.getString then `(tactic| (refine stop_here ?_)) else Lean.Macro.throwUnsupported
local macro_rules | `(tactic| walk_at "execs cons") => `(tactic| ((with_reducible refine wpAny_execs_cons ?_); try dsimp only))
theorem esc_if {w : World} {mean : ExcName → Option Value} {mg mb : Str → Option Value} {A₀ : Around} {dp un : Nat} {gd : Option (List Code)} {cn : Str} {csc : Scope} {L a : Addr} {ccd : Value} {cl : List (Str × Addr)} {E : Value → Shared → Prop} {base g1 hE : Heap} {outer outer2 : List Env} {L1 : Addr} {news : Led} {s : Shared} {tk : Tok} {m : Str → Option Value} {x : Str} {u : Tok} (nm : Str) (f : Addr) (cd : Value)
    (c : Nat) (cs zs : Str) (hcs : cs = ⟨#[c]⟩) (hne : (cs == zs) = false) (hz : zs.length ≤ 14) (hx : x.length ≤ 1048576) {p1 p2 p3 p4 p5 p6 p7 p8 p9 p10 p11 : Pos}
    {pl : Sem Bool} (he : eval (.Call (.Attribute (.Name (Str.ofString "text") p5) (Str.ofString "replace") p6) [.Constant (.str cs) 0 p7, .Constant (.str zs) 0 p8] [] p9) (envOf nm escScope L1 f cd) = (do
      let ov ← eval (.Name (Str.ofString "text") p5) (envOf nm escScope L1 f cd)
      standAt p6.atName
      let (fn, first) ← holding [ov] (getMethod ov (Str.ofString "replace") pl)
      callWith p9 fn first (backTo p9 (starEach [.Constant (.str cs) 0 p7, .Constant (.str zs) 0 p8] (envOf nm escScope L1 f cd))) []))
    (F1 : Fr g1 L1 hE (fun y => if y = Str.ofString "text" then some (Value.str x u) else m y)) (N1 : News g1 L1 hE news) (B1 : Below A₀ base outer2 g1) (X1 : (hd.heap_39 w.params).In g1) (hdp : dp + 3 < recursionLimit) (hun : un + 8 * 3 + 100 < cLine) (T1 : Top hd.view_39 (looseW hd.view_39 [Str.ofString "UNKNOWN"]) mean mg mb g1) :
    wpAny (model PySem.Challenge.rw_yh0016_01.row.prog w) ((ktrTop dp un gd cn csc L a ccd cl outer).deeper (envOf nm escScope L1 f cd)) (exec (.If (.Compare (.Constant (.str cs) 0 p1) [.In] [.Name (Str.ofString "text") p2] p3) [.Assign [.Name (Str.ofString "text") p4] (.Call (.Attribute (.Name (Str.ofString "text") p5) (Str.ofString "replace") p6) [.Constant (.str cs) 0 p7, .Constant (.str zs) 0 p8] [] p9) p10] [] p11) (envOf nm escScope L1 f cd))
      (EscMid g1 L1 news s (subC c zs.cps.toList x.cps.toList)) E { s with heap := hE, toks := tk } := by
  revert X1; k_fill; intro X1
  k_steps
  · rename (Builtin.Str.occurrences _ _ _ _ _).isEmpty = true => ho
    exact ⟨rfl, _, _, x, _, _, rfl, F1, N1, (not_in (c := c) (by rw [← hcs]; exact ho) _).symm⟩
  · refine MethodCall_ ?_ he
    k_steps
    refine SC.replaceW (by first | omega | (show @Ne Nat _ _; omega)) (by first | omega | (show @Ne Nat _ _; omega)) (by first | omega | (show @Ne Nat _ _; omega)) hne hx hz ?_
    intro t9 k9
    k_steps
    rename Fr _ _ _ _ => FZ
    rename News _ _ _ _ => NZ
    exact ⟨rfl, _, _, _, _, _, rfl, Fr.as FZ (keep1 (k := Str.ofString "text") rfl), NZ, by rw [hcs]; exact replace_sub x _ c⟩
end Mine
end

section
open PySem PySem.W PySem.Calls PyProof.Rows
set_option compiler.extract_closed false
set_option maxRecDepth 100000
set_option maxHeartbeats 8000000
namespace Mine
local macro_rules | `(tactic| walk_at "MINE none0") => `(tactic| skip)
local macro_rules | `(tactic| walk_at "exec If") => `(tactic| (refine stop_here ?_))
/-- the code's own order of replacing -/
def escF (k : Nat) (l : List Nat) : List Nat := (wdF k).foldl (fun l p => subC p.1.toNat p.2.cps.toList l) l

theorem esc0_c (x : Str) (t : Tok) (news : Led) (hlen : x.cps.size ≤ 20) : Spec 3 97 [.str x t] news True (fun r nw => nw = news ∧ ∃ y u, r = .str y u ∧ y.cps.toList = escF 0 x.cps.toList) := by
  intro w mean mg mb dp un gd cn cs a ccd cl outer A₀ base h₀ L m s Q E B F X N T hk hdp hun hpre hret
  revert X; k_fill; w_top off; intro X
  refine wpAny_call ?_
  k_dflt cell_enter
  rename_i g1 L1 hE FG1 F1 N1 B1 X1 T1
  replace F1 := Fr.as F1 (m' := fun y => List.lookup y [(Str.ofString "text", Value.str x t)]) (by with_unfolding_all rfl)
  replace F1 := Fr.as F1 (keep1 (k := Str.ofString "text") rfl)
  have hl : x.cps.toList.length ≤ 20 := by rw [Array.length_toList]; exact hlen
  k_steps
  refine wpAny_mono (esc_if (s := s) _ _ _ 38 _ _ (by rfl) (by decide +kernel) (by decide +kernel) (le_of_len hl (by decide)) (by rfl) F1 N1 B1 X1 hdp hun T1) (fun f s₂ hm => ?_) (fun _ _ h => h)
  obtain ⟨rfl, h0, tk0, x0, u0, m0, rfl, G0, M0, e0⟩ := hm
  have l0 : x0.cps.toList.length ≤ 120 := by rw [e0]; exact Nat.le_trans (subC_len 38 _ (by decide +kernel) _) (Nat.mul_le_mul_left 6 hl)
  k_steps
  refine wpAny_mono (esc_if (s := s) _ _ _ 60 _ _ (by rfl) (by decide +kernel) (by decide +kernel) (le_of_len l0 (by decide)) (by rfl) G0 M0 B1 X1 hdp hun T1) (fun f s₂ hm => ?_) (fun _ _ h => h)
  obtain ⟨rfl, h1, tk1, x1, u1, m1, rfl, G1, M1, e1⟩ := hm
  have l1 : x1.cps.toList.length ≤ 720 := by rw [e1]; exact Nat.le_trans (subC_len 60 _ (by decide +kernel) _) (Nat.mul_le_mul_left 6 l0)
  k_steps
  refine wpAny_mono (esc_if (s := s) _ _ _ 62 _ _ (by rfl) (by decide +kernel) (by decide +kernel) (le_of_len l1 (by decide)) (by rfl) G1 M1 B1 X1 hdp hun T1) (fun f s₂ hm => ?_) (fun _ _ h => h)
  obtain ⟨rfl, h2, tk2, x2, u2, m2, rfl, G2, M2, e2⟩ := hm
  have l2 : x2.cps.toList.length ≤ 4320 := by rw [e2]; exact Nat.le_trans (subC_len 62 _ (by decide +kernel) _) (Nat.mul_le_mul_left 6 l1)
  k_steps
  exact hret _ _ _ _ (by with_reducible assumption) (by with_reducible assumption) ⟨rfl, _, _, rfl, by rw [e2, e1, e0]; rfl⟩

theorem esc1_c (x : Str) (t : Tok) (news : Led) (hlen : x.cps.size ≤ 20) : Spec 3 104 [.str x t] news True (fun r nw => nw = news ∧ ∃ y u, r = .str y u ∧ y.cps.toList = escF 1 x.cps.toList) := by
  intro w mean mg mb dp un gd cn cs a ccd cl outer A₀ base h₀ L m s Q E B F X N T hk hdp hun hpre hret
  revert X; k_fill; w_top off; intro X
  refine wpAny_call ?_
  k_dflt cell_enter
  rename_i g1 L1 hE FG1 F1 N1 B1 X1 T1
  replace F1 := Fr.as F1 (m' := fun y => List.lookup y [(Str.ofString "text", Value.str x t)]) (by with_unfolding_all rfl)
  replace F1 := Fr.as F1 (keep1 (k := Str.ofString "text") rfl)
  have hl : x.cps.toList.length ≤ 20 := by rw [Array.length_toList]; exact hlen
  k_steps
  refine wpAny_mono (esc_if (s := s) _ _ _ 38 _ _ (by rfl) (by decide +kernel) (by decide +kernel) (le_of_len hl (by decide)) (by rfl) F1 N1 B1 X1 hdp hun T1) (fun f s₂ hm => ?_) (fun _ _ h => h)
  obtain ⟨rfl, h0, tk0, x0, u0, m0, rfl, G0, M0, e0⟩ := hm
  have l0 : x0.cps.toList.length ≤ 120 := by rw [e0]; exact Nat.le_trans (subC_len 38 _ (by decide +kernel) _) (Nat.mul_le_mul_left 6 hl)
  k_steps
  refine wpAny_mono (esc_if (s := s) _ _ _ 60 _ _ (by rfl) (by decide +kernel) (by decide +kernel) (le_of_len l0 (by decide)) (by rfl) G0 M0 B1 X1 hdp hun T1) (fun f s₂ hm => ?_) (fun _ _ h => h)
  obtain ⟨rfl, h1, tk1, x1, u1, m1, rfl, G1, M1, e1⟩ := hm
  have l1 : x1.cps.toList.length ≤ 720 := by rw [e1]; exact Nat.le_trans (subC_len 60 _ (by decide +kernel) _) (Nat.mul_le_mul_left 6 l0)
  k_steps
  refine wpAny_mono (esc_if (s := s) _ _ _ 62 _ _ (by rfl) (by decide +kernel) (by decide +kernel) (le_of_len l1 (by decide)) (by rfl) G1 M1 B1 X1 hdp hun T1) (fun f s₂ hm => ?_) (fun _ _ h => h)
  obtain ⟨rfl, h2, tk2, x2, u2, m2, rfl, G2, M2, e2⟩ := hm
  have l2 : x2.cps.toList.length ≤ 4320 := by rw [e2]; exact Nat.le_trans (subC_len 62 _ (by decide +kernel) _) (Nat.mul_le_mul_left 6 l1)
  k_steps
  refine wpAny_mono (esc_if (s := s) _ _ _ 34 _ _ (by rfl) (by decide +kernel) (by decide +kernel) (le_of_len l2 (by decide)) (by rfl) G2 M2 B1 X1 hdp hun T1) (fun f s₂ hm => ?_) (fun _ _ h => h)
  obtain ⟨rfl, h3, tk3, x3, u3, m3, rfl, G3, M3, e3⟩ := hm
  have l3 : x3.cps.toList.length ≤ 25920 := by rw [e3]; exact Nat.le_trans (subC_len 34 _ (by decide +kernel) _) (Nat.mul_le_mul_left 6 l2)
  k_steps
  refine wpAny_mono (esc_if (s := s) _ _ _ 13 _ _ (by rfl) (by decide +kernel) (by decide +kernel) (le_of_len l3 (by decide)) (by rfl) G3 M3 B1 X1 hdp hun T1) (fun f s₂ hm => ?_) (fun _ _ h => h)
  obtain ⟨rfl, h4, tk4, x4, u4, m4, rfl, G4, M4, e4⟩ := hm
  have l4 : x4.cps.toList.length ≤ 155520 := by rw [e4]; exact Nat.le_trans (subC_len 13 _ (by decide +kernel) _) (Nat.mul_le_mul_left 6 l3)
  k_steps
  refine wpAny_mono (esc_if (s := s) _ _ _ 10 _ _ (by rfl) (by decide +kernel) (by decide +kernel) (le_of_len l4 (by decide)) (by rfl) G4 M4 B1 X1 hdp hun T1) (fun f s₂ hm => ?_) (fun _ _ h => h)
  obtain ⟨rfl, h5, tk5, x5, u5, m5, rfl, G5, M5, e5⟩ := hm
  have l5 : x5.cps.toList.length ≤ 933120 := by rw [e5]; exact Nat.le_trans (subC_len 10 _ (by decide +kernel) _) (Nat.mul_le_mul_left 6 l4)
  k_steps
  refine wpAny_mono (esc_if (s := s) _ _ _ 9 _ _ (by rfl) (by decide +kernel) (by decide +kernel) (le_of_len l5 (by decide)) (by rfl) G5 M5 B1 X1 hdp hun T1) (fun f s₂ hm => ?_) (fun _ _ h => h)
  obtain ⟨rfl, h6, tk6, x6, u6, m6, rfl, G6, M6, e6⟩ := hm
  have l6 : x6.cps.toList.length ≤ 5598720 := by rw [e6]; exact Nat.le_trans (subC_len 9 _ (by decide +kernel) _) (Nat.mul_le_mul_left 6 l5)
  k_steps
  exact hret _ _ _ _ (by with_reducible assumption) (by with_reducible assumption) ⟨rfl, _, _, rfl, by rw [e6, e5, e4, e3, e2, e1, e0]; rfl⟩

theorem esc2_c (x : Str) (t : Tok) (news : Led) (hlen : x.cps.size ≤ 20) : Spec 3 111 [.str x t] news True (fun r nw => nw = news ∧ ∃ y u, r = .str y u ∧ y.cps.toList = escF 2 x.cps.toList) := by
  intro w mean mg mb dp un gd cn cs a ccd cl outer A₀ base h₀ L m s Q E B F X N T hk hdp hun hpre hret
  revert X; k_fill; w_top off; intro X
  refine wpAny_call ?_
  k_dflt cell_enter
  rename_i g1 L1 hE FG1 F1 N1 B1 X1 T1
  replace F1 := Fr.as F1 (m' := fun y => List.lookup y [(Str.ofString "text", Value.str x t)]) (by with_unfolding_all rfl)
  replace F1 := Fr.as F1 (keep1 (k := Str.ofString "text") rfl)
  have hl : x.cps.toList.length ≤ 20 := by rw [Array.length_toList]; exact hlen
  k_steps
  refine wpAny_mono (esc_if (s := s) _ _ _ 38 _ _ (by rfl) (by decide +kernel) (by decide +kernel) (le_of_len hl (by decide)) (by rfl) F1 N1 B1 X1 hdp hun T1) (fun f s₂ hm => ?_) (fun _ _ h => h)
  obtain ⟨rfl, h0, tk0, x0, u0, m0, rfl, G0, M0, e0⟩ := hm
  have l0 : x0.cps.toList.length ≤ 120 := by rw [e0]; exact Nat.le_trans (subC_len 38 _ (by decide +kernel) _) (Nat.mul_le_mul_left 6 hl)
  k_steps
  refine wpAny_mono (esc_if (s := s) _ _ _ 62 _ _ (by rfl) (by decide +kernel) (by decide +kernel) (le_of_len l0 (by decide)) (by rfl) G0 M0 B1 X1 hdp hun T1) (fun f s₂ hm => ?_) (fun _ _ h => h)
  obtain ⟨rfl, h1, tk1, x1, u1, m1, rfl, G1, M1, e1⟩ := hm
  have l1 : x1.cps.toList.length ≤ 720 := by rw [e1]; exact Nat.le_trans (subC_len 62 _ (by decide +kernel) _) (Nat.mul_le_mul_left 6 l0)
  k_steps
  refine wpAny_mono (esc_if (s := s) _ _ _ 34 _ _ (by rfl) (by decide +kernel) (by decide +kernel) (le_of_len l1 (by decide)) (by rfl) G1 M1 B1 X1 hdp hun T1) (fun f s₂ hm => ?_) (fun _ _ h => h)
  obtain ⟨rfl, h2, tk2, x2, u2, m2, rfl, G2, M2, e2⟩ := hm
  have l2 : x2.cps.toList.length ≤ 4320 := by rw [e2]; exact Nat.le_trans (subC_len 34 _ (by decide +kernel) _) (Nat.mul_le_mul_left 6 l1)
  k_steps
  exact hret _ _ _ _ (by with_reducible assumption) (by with_reducible assumption) ⟨rfl, _, _, rfl, by rw [e2, e1, e0]; rfl⟩

theorem esc3_c (x : Str) (t : Tok) (news : Led) (hlen : x.cps.size ≤ 20) : Spec 3 118 [.str x t] news True (fun r nw => nw = news ∧ ∃ y u, r = .str y u ∧ y.cps.toList = escF 3 x.cps.toList) := by
  intro w mean mg mb dp un gd cn cs a ccd cl outer A₀ base h₀ L m s Q E B F X N T hk hdp hun hpre hret
  revert X; k_fill; w_top off; intro X
  refine wpAny_call ?_
  k_dflt cell_enter
  rename_i g1 L1 hE FG1 F1 N1 B1 X1 T1
  replace F1 := Fr.as F1 (m' := fun y => List.lookup y [(Str.ofString "text", Value.str x t)]) (by with_unfolding_all rfl)
  replace F1 := Fr.as F1 (keep1 (k := Str.ofString "text") rfl)
  have hl : x.cps.toList.length ≤ 20 := by rw [Array.length_toList]; exact hlen
  k_steps
  refine wpAny_mono (esc_if (s := s) _ _ _ 38 _ _ (by rfl) (by decide +kernel) (by decide +kernel) (le_of_len hl (by decide)) (by rfl) F1 N1 B1 X1 hdp hun T1) (fun f s₂ hm => ?_) (fun _ _ h => h)
  obtain ⟨rfl, h0, tk0, x0, u0, m0, rfl, G0, M0, e0⟩ := hm
  have l0 : x0.cps.toList.length ≤ 120 := by rw [e0]; exact Nat.le_trans (subC_len 38 _ (by decide +kernel) _) (Nat.mul_le_mul_left 6 hl)
  k_steps
  refine wpAny_mono (esc_if (s := s) _ _ _ 60 _ _ (by rfl) (by decide +kernel) (by decide +kernel) (le_of_len l0 (by decide)) (by rfl) G0 M0 B1 X1 hdp hun T1) (fun f s₂ hm => ?_) (fun _ _ h => h)
  obtain ⟨rfl, h1, tk1, x1, u1, m1, rfl, G1, M1, e1⟩ := hm
  have l1 : x1.cps.toList.length ≤ 720 := by rw [e1]; exact Nat.le_trans (subC_len 60 _ (by decide +kernel) _) (Nat.mul_le_mul_left 6 l0)
  k_steps
  refine wpAny_mono (esc_if (s := s) _ _ _ 62 _ _ (by rfl) (by decide +kernel) (by decide +kernel) (le_of_len l1 (by decide)) (by rfl) G1 M1 B1 X1 hdp hun T1) (fun f s₂ hm => ?_) (fun _ _ h => h)
  obtain ⟨rfl, h2, tk2, x2, u2, m2, rfl, G2, M2, e2⟩ := hm
  have l2 : x2.cps.toList.length ≤ 4320 := by rw [e2]; exact Nat.le_trans (subC_len 62 _ (by decide +kernel) _) (Nat.mul_le_mul_left 6 l1)
  k_steps
  refine wpAny_mono (esc_if (s := s) _ _ _ 13 _ _ (by rfl) (by decide +kernel) (by decide +kernel) (le_of_len l2 (by decide)) (by rfl) G2 M2 B1 X1 hdp hun T1) (fun f s₂ hm => ?_) (fun _ _ h => h)
  obtain ⟨rfl, h3, tk3, x3, u3, m3, rfl, G3, M3, e3⟩ := hm
  have l3 : x3.cps.toList.length ≤ 25920 := by rw [e3]; exact Nat.le_trans (subC_len 13 _ (by decide +kernel) _) (Nat.mul_le_mul_left 6 l2)
  k_steps
  exact hret _ _ _ _ (by with_reducible assumption) (by with_reducible assumption) ⟨rfl, _, _, rfl, by rw [e3, e2, e1, e0]; rfl⟩

theorem esc4_c (x : Str) (t : Tok) (news : Led) (hlen : x.cps.size ≤ 20) : Spec 3 125 [.str x t] news True (fun r nw => nw = news ∧ ∃ y u, r = .str y u ∧ y.cps.toList = escF 4 x.cps.toList) := by
  intro w mean mg mb dp un gd cn cs a ccd cl outer A₀ base h₀ L m s Q E B F X N T hk hdp hun hpre hret
  revert X; k_fill; w_top off; intro X
  refine wpAny_call ?_
  k_dflt cell_enter
  rename_i g1 L1 hE FG1 F1 N1 B1 X1 T1
  replace F1 := Fr.as F1 (m' := fun y => List.lookup y [(Str.ofString "text", Value.str x t)]) (by with_unfolding_all rfl)
  replace F1 := Fr.as F1 (keep1 (k := Str.ofString "text") rfl)
  have hl : x.cps.toList.length ≤ 20 := by rw [Array.length_toList]; exact hlen
  k_steps
  refine wpAny_mono (esc_if (s := s) _ _ _ 38 _ _ (by rfl) (by decide +kernel) (by decide +kernel) (le_of_len hl (by decide)) (by rfl) F1 N1 B1 X1 hdp hun T1) (fun f s₂ hm => ?_) (fun _ _ h => h)
  obtain ⟨rfl, h0, tk0, x0, u0, m0, rfl, G0, M0, e0⟩ := hm
  have l0 : x0.cps.toList.length ≤ 120 := by rw [e0]; exact Nat.le_trans (subC_len 38 _ (by decide +kernel) _) (Nat.mul_le_mul_left 6 hl)
  k_steps
  refine wpAny_mono (esc_if (s := s) _ _ _ 60 _ _ (by rfl) (by decide +kernel) (by decide +kernel) (le_of_len l0 (by decide)) (by rfl) G0 M0 B1 X1 hdp hun T1) (fun f s₂ hm => ?_) (fun _ _ h => h)
  obtain ⟨rfl, h1, tk1, x1, u1, m1, rfl, G1, M1, e1⟩ := hm
  have l1 : x1.cps.toList.length ≤ 720 := by rw [e1]; exact Nat.le_trans (subC_len 60 _ (by decide +kernel) _) (Nat.mul_le_mul_left 6 l0)
  k_steps
  refine wpAny_mono (esc_if (s := s) _ _ _ 34 _ _ (by rfl) (by decide +kernel) (by decide +kernel) (le_of_len l1 (by decide)) (by rfl) G1 M1 B1 X1 hdp hun T1) (fun f s₂ hm => ?_) (fun _ _ h => h)
  obtain ⟨rfl, h2, tk2, x2, u2, m2, rfl, G2, M2, e2⟩ := hm
  have l2 : x2.cps.toList.length ≤ 4320 := by rw [e2]; exact Nat.le_trans (subC_len 34 _ (by decide +kernel) _) (Nat.mul_le_mul_left 6 l1)
  k_steps
  refine wpAny_mono (esc_if (s := s) _ _ _ 9 _ _ (by rfl) (by decide +kernel) (by decide +kernel) (le_of_len l2 (by decide)) (by rfl) G2 M2 B1 X1 hdp hun T1) (fun f s₂ hm => ?_) (fun _ _ h => h)
  obtain ⟨rfl, h3, tk3, x3, u3, m3, rfl, G3, M3, e3⟩ := hm
  have l3 : x3.cps.toList.length ≤ 25920 := by rw [e3]; exact Nat.le_trans (subC_len 9 _ (by decide +kernel) _) (Nat.mul_le_mul_left 6 l2)
  k_steps
  refine wpAny_mono (esc_if (s := s) _ _ _ 10 _ _ (by rfl) (by decide +kernel) (by decide +kernel) (le_of_len l3 (by decide)) (by rfl) G3 M3 B1 X1 hdp hun T1) (fun f s₂ hm => ?_) (fun _ _ h => h)
  obtain ⟨rfl, h4, tk4, x4, u4, m4, rfl, G4, M4, e4⟩ := hm
  have l4 : x4.cps.toList.length ≤ 155520 := by rw [e4]; exact Nat.le_trans (subC_len 10 _ (by decide +kernel) _) (Nat.mul_le_mul_left 6 l3)
  k_steps
  refine wpAny_mono (esc_if (s := s) _ _ _ 13 _ _ (by rfl) (by decide +kernel) (by decide +kernel) (le_of_len l4 (by decide)) (by rfl) G4 M4 B1 X1 hdp hun T1) (fun f s₂ hm => ?_) (fun _ _ h => h)
  obtain ⟨rfl, h5, tk5, x5, u5, m5, rfl, G5, M5, e5⟩ := hm
  have l5 : x5.cps.toList.length ≤ 933120 := by rw [e5]; exact Nat.le_trans (subC_len 13 _ (by decide +kernel) _) (Nat.mul_le_mul_left 6 l4)
  k_steps
  exact hret _ _ _ _ (by with_reducible assumption) (by with_reducible assumption) ⟨rfl, _, _, rfl, by rw [e5, e4, e3, e2, e1, e0]; rfl⟩

end Mine
end

section
open PySem PySem.W PySem.Calls PyProof.Rows
set_option compiler.extract_closed false
set_option maxRecDepth 100000
set_option maxHeartbeats 8000000
namespace Mine
def parseGo : List Nat → List Nat
  | [] => []
  | c :: r => if c = 34 then (if r.head? = some 34 then 34 :: parseGo r.tail else []) else c :: parseGo r
  termination_by l => l.length
  decreasing_by all_goals (simp only [List.length_tail, List.length_cons]; lia)
def parseF (l : List Nat) : List Nat := if (l.drop 3).take 2 = [32, 34] then parseGo (l.drop 5) else []

theorem parseGo_ne {c : Nat} (h : c ≠ 34) (r : List Nat) : parseGo (c :: r) = c :: parseGo r := by rw [parseGo, if_neg h]
theorem parseGo_end : parseGo [34] = [] := by simp [parseGo]
theorem parseGo_one {b : Nat} (h : b ≠ 34) (r : List Nat) : parseGo (34 :: b :: r) = [] := by
  rw [parseGo, if_pos rfl, if_neg (by simpa using h)]
theorem parseGo_two (r : List Nat) : parseGo (34 :: 34 :: r) = 34 :: parseGo r := by rw [parseGo, if_pos rfl, if_pos (show (34 :: r).head? = some 34 from rfl)]; rfl
theorem cps_drop {x : Str} {i : Nat} (h : i < x.cps.size) : x.cps.toList.drop i = x.cps.getD i 0 :: x.cps.toList.drop (i + 1) := by
  have hl : i < x.cps.toList.length := by rw [Array.length_toList]; exact h
  rw [List.drop_eq_getElem_cons hl]
  simp [Array.getD, h]
theorem item_nat {x : Str} {i : Nat} (h : i < x.cps.size) : Txt.item x (i : Int) = ⟨#[x.cps.getD i 0]⟩ := item_at (Int.natCast_nonneg i) (by show (i : Int) < (x.cps.size : Int); lia) (by simp)
theorem item_q {x : Str} {i : Nat} (h : i < x.cps.size) : (Txt.item x (i : Int) == Str.ofString "\"") = true ↔ x.cps.getD i 0 = 34 := by
  rw [item_nat h]
  show ((⟨#[x.cps.getD i 0]⟩ : Str) == ⟨#[34]⟩) = true ↔ _
  rw [beq_iff_eq]
  constructor
  · intro e; injection e with e1; simpa using e1
  · intro e; rw [e]
local macro_rules | `(tactic| walk_at "exec While Compare cons nil") => `(tactic| ((with_reducible show wpAny _ _ (exec (Stmt.While _ _ _ _) _) _ _ _); refine stop_here ?_))

theorem parse_c (x : Str) (t : Tok) (news : Led) (hlen : x.cps.size ≤ 500) (hpre3 : x.cps.toList.take 3 = [50, 53, 55]) :
    Spec 3 83 [.str x t] news True (fun r nw => nw = news ∧ ∃ y u, r = .str y u ∧ y.cps.toList = parseF x.cps.toList) := by
  intro w mean mg mb dp un gd cn cs a ccd cl outer A₀ base h₀ L m s Q E B F X N T hk hdp hun hpre hret
  revert X; k_fill; w_top off; intro X
  refine wpAny_call ?_
  k_dflt cell_enter
  rename_i g1 L1 hE FG1 F1 N1 B1 X1 T1
  replace F1 := Fr.as F1 (m' := fun y => List.lookup y [(Str.ofString "resp", Value.str x t)]) (by with_unfolding_all rfl)
  have hxl : x.length ≤ 500 := hlen
  k_steps
  · rename (Txt.slice x none (some 3) != Str.ofString "257") = true => h3
    have h3' := (bne_str _ _).mp h3
    rw [show Txt.slice x none (some 3) = Txt.slice x none (some ((3 : Nat) : Int)) from rfl, slice_to x 3] at h3'
    exact absurd hpre3 h3'
  · rename (Txt.slice x (some 3) (some 5) != Str.ofString " \"") = true => h5
    have h5' := (bne_str _ _).mp h5
    rw [show Txt.slice x (some 3) (some 5) = Txt.slice x (some ((3 : Nat) : Int)) (some ((5 : Nat) : Int)) from rfl, slice_mid x 3 5 (by decide)] at h5'
    refine hret _ _ _ _ (by with_reducible assumption) (by with_reducible assumption) ⟨rfl, _, _, rfl, ?_⟩
    unfold parseF
    exact (if_neg (c := List.take 2 (List.drop 3 x.cps.toList) = [32, 34]) h5').symm
  · rename (Txt.slice x (some 3) (some 5) != Str.ofString " \"") = false => h5
    have h5' : (Txt.slice x (some 3) (some 5)).cps.toList = [32, 34] := by
      have : Txt.slice x (some 3) (some 5) = Str.ofString " \"" := by simpa using h5
      rw [this]; rfl
    rw [show Txt.slice x (some 3) (some 5) = Txt.slice x (some ((3 : Nat) : Int)) (some ((5 : Nat) : Int)) from rfl, slice_mid x 3 5 (by decide)] at h5'
    have hgo : parseF x.cps.toList = parseGo (x.cps.toList.drop 5) := by unfold parseF; rw [if_pos h5']
    have h5l : 5 ≤ x.cps.size := by
      have := congrArg List.length h5'
      simp only [List.length_take, List.length_drop, List.length_cons, List.length_nil, Array.length_toList] at this
      lia
    rename Fr _ _ _ _ => F2
    rename News _ _ _ _ => N2
    refine While_inv2 (fun n m' nx => ∃ (i : Nat) (d : Str) (ti td tn : Tok) (u : Str → Option Value), n = x.cps.size - i ∧ i ≤ x.cps.size ∧ d.length ≤ i ∧ d.cps.toList ++ parseGo (x.cps.toList.drop i) = parseF x.cps.toList ∧
        (m' = fun y => if y = Str.ofString "n" then some (Value.int (x.length : Int) tn) else if y = Str.ofString "i" then some (Value.int (i : Int) ti) else if y = Str.ofString "dirname" then some (Value.str d td) else if y = Str.ofString "resp" then some (Value.str x t) else u y) ∧
        nx = news)
      F2 N2 (n₀ := x.cps.size - 5) ?h0 ?turn
    case h0 => exact ⟨5, Str.ofString "", _, _, _, _, rfl, h5l, Nat.zero_le _, hgo.symm, keep4 rfl rfl rfl rfl, rfl⟩
    case turn =>
      rintro n m₁ news₁ h₁ tk₁ F₃ N₃ ⟨i, d, ti, td, tn, u, rfl, hi, hd, hgo2, rfl, rfl⟩
      have hsz : x.length = x.cps.size := rfl
      k_steps
      · rename (Txt.item x (i : Int) == Str.ofString "\"") = true => hq
        have hq' := (item_q (by lia)).mp hq
        have hdr := cps_drop (x := x) (i := i) (by lia)
        have hz : x.cps.toList.drop (i + 1) = [] := List.drop_of_length_le (by rw [Array.length_toList]; lia)
        rw [hq', hz] at hdr
        rw [hdr, parseGo_end, List.append_nil] at hgo2
        dsimp only
        dsimp only [WhileStep2]
        k_steps
        exact hret _ _ _ _ (by with_reducible assumption) (by with_reducible assumption) ⟨rfl, _, _, rfl, hgo2⟩
      · rename (Txt.item x (i : Int) == Str.ofString "\"") = true => hq
        rename (Txt.item x ((i : Int) + 1) != Str.ofString "\"") = true => hq2
        have hq' := (item_q (by lia)).mp hq
        have hq2' : x.cps.getD (i + 1) 0 ≠ 34 := fun e => by
          have := (item_q (x := x) (i := i + 1) (by lia)).mpr e
          rw [show (((i + 1 : Nat)) : Int) = (i : Int) + 1 from rfl] at this
          rw [bne, this] at hq2
          exact absurd hq2 (by decide)
        rw [cps_drop (x := x) (i := i) (by lia), hq', cps_drop (x := x) (i := i + 1) (by lia), parseGo_one hq2', List.append_nil] at hgo2
        dsimp only
        dsimp only [WhileStep2]
        k_steps
        exact hret _ _ _ _ (by with_reducible assumption) (by with_reducible assumption) ⟨rfl, _, _, rfl, hgo2⟩
      · rename (Txt.item x (i : Int) == Str.ofString "\"") = true => hq
        rename (Txt.item x ((i : Int) + 1) != Str.ofString "\"") = false => hq2
        have hq' := (item_q (by lia)).mp hq
        have hq2' : x.cps.getD (i + 1) 0 = 34 := by
          refine (item_q (x := x) (i := i + 1) (by lia)).mp ?_
          rw [show (((i + 1 : Nat)) : Int) = (i : Int) + 1 from rfl]
          simpa using hq2
        rw [cps_drop (x := x) (i := i) (by lia), hq', cps_drop (x := x) (i := i + 1) (by lia), hq2', parseGo_two] at hgo2
        rename Fr _ _ _ _ => FZ
        rename News _ _ _ _ => NZ
        refine' ⟨_, _, _, _, _, rfl, FZ, NZ, ?hm, i + 2, d ++ Txt.item x (i : Int), _, _, tn, _, rfl, by lia, ?hl, ?hg, keep4 rfl rfl rfl rfl, rfl⟩
        case hm => lia
        case hl => show (d.cps ++ _).size ≤ _; rw [Array.size_append]; show d.length + 1 ≤ _; lia
        case hg => rw [item_nat (by lia), hq', ← hgo2]; show (d.cps ++ #[34]).toList ++ _ = _; simp
      · rename (Txt.item x (i : Int) == Str.ofString "\"") = false => hq
        have hq' : x.cps.getD i 0 ≠ 34 := fun e => by
          have := (item_q (x := x) (i := i) (by lia)).mpr e
          rw [this] at hq; exact absurd hq (by decide)
        rw [cps_drop (x := x) (i := i) (by lia), parseGo_ne hq'] at hgo2
        rename Fr _ _ _ _ => FZ
        rename News _ _ _ _ => NZ
        refine' ⟨_, _, _, _, _, rfl, FZ, NZ, ?hm, i + 1, d ++ Txt.item x (i : Int), _, _, tn, _, rfl, by lia, ?hl, ?hg, keep4 rfl rfl rfl rfl, rfl⟩
        case hm => lia
        case hl => show (d.cps ++ _).size ≤ _; rw [Array.size_append]; show d.length + 1 ≤ _; lia
        case hg => rw [item_nat (by lia), ← hgo2]; show (d.cps ++ #[_]).toList ++ _ = _; simp
      · rw [List.drop_of_length_le (by rw [Array.length_toList]; lia), parseGo, List.append_nil] at hgo2
        exact hret _ _ _ _ (by with_reducible assumption) (by with_reducible assumption) ⟨rfl, _, _, rfl, hgo2⟩
end Mine
end

section
open PySem PySem.W PySem.Calls PyProof.Rows
set_option maxRecDepth 100000
set_option maxHeartbeats 8000000
namespace Mine
theorem dict_sub : isSubtype (.type "dict") (.type "dict") = pure true := by rw [isSubtype_type]; kernel_rfl
section
variable {prog : Program} {w : World} {A : Around} {E : Value → Shared → Prop} {s : Shared} {h₀ : Heap} {L : Addr} {m : Str → Option Value} {news : Led} {a d : Addr}
theorem merge0 {Q : Unit → Shared → Prop} {n : Nat} (N : News h₀ L s.heap ((d, dictOf [] 0) :: news)) (ha : (a, dictOf [] n) ∈ news) (lo : (a == sysModules) = false) (h : Q () s) : wpAny (model prog w) A (mergeMapping d (.ref a) true) Q E s := by
  have Da := (N _ (.tail _ ha)).1
  have Dd := (N _ (.head _)).1
  have hT : s.TypeIs (.ref a) "dict" := ⟨_, Da, rfl⟩
  unfold mergeMapping
  refine wpAny_bind (wpAny_isInstance hT dict_sub ?_)
  dsimp only
  rw [if_pos rfl]
  refine wpAny_bind (wpAny_specialOf hT PySem.F.slot_dict_iter.lookup ?_)
  refine wpAny_bind (wpAny_pure ?_)
  rw [show (some (Value.builtin "dict.__iter__") == some (Value.builtin "dict.__iter__")) = true from beq_self_eq_true _]
  dsimp only
  rw [lo, if_neg Bool.false_ne_true]
  refine wpAny_bind (wpAny_dictEntries Dd rfl ?_)
  rw [if_pos (show (List.toArray ([] : List DictEntry)).isEmpty = true from rfl)]
  refine wpAny_bind (wpAny_dictEntries Da rfl ?_)
  refine wpAny_bind (wpAny_pure ?_)
  refine wpAny_bind (wpAny_dictEntries Da rfl ?_)
  refine wpAny_bind (wpAny_dictEpoch Da rfl ?_)
  exact wpAny_bind (wpAny_pure (wpAny_pure h))
theorem merge1 {Q : Unit → Shared → Prop} {n : Nat} {hh : Int} {k : Str} {t : Tok} {v : Value} (F : Fr h₀ L s.heap m) (N : News h₀ L s.heap ((d, dictOf [] 0) :: news)) (ha : (a, dictOf [⟨hh, .str k t, v⟩] n) ∈ news) (hd : ∀ p ∈ news, p.1 ≠ d) (lo : (a == sysModules) = false)
    (h : ∀ h' n', Fr h₀ L h' m → News h₀ L h' ((d, dictOf [⟨hh, .str k t, v⟩] n') :: news) → Q () { s with heap := h' }) : wpAny (model prog w) A (mergeMapping d (.ref a) true) Q E s := by
  have Da := (N _ (.tail _ ha)).1
  have Dd := (N _ (.head _)).1
  have hT : s.TypeIs (.ref a) "dict" := ⟨_, Da, rfl⟩
  unfold mergeMapping
  refine wpAny_bind (wpAny_isInstance hT dict_sub ?_)
  dsimp only
  rw [if_pos rfl]
  refine wpAny_bind (wpAny_specialOf hT PySem.F.slot_dict_iter.lookup ?_)
  refine wpAny_bind (wpAny_pure ?_)
  rw [show (some (Value.builtin "dict.__iter__") == some (Value.builtin "dict.__iter__")) = true from beq_self_eq_true _]
  dsimp only
  rw [lo, if_neg Bool.false_ne_true]
  refine wpAny_bind (wpAny_dictEntries Dd rfl ?_)
  rw [if_pos (show (List.toArray ([] : List DictEntry)).isEmpty = true from rfl)]
  refine wpAny_bind (wpAny_dictEntries Da rfl ?_)
  rw [← Array.forIn_toList]
  rw [show (List.toArray [(⟨hh, .str k t, v⟩ : DictEntry)]).toList = [⟨hh, .str k t, v⟩] from rfl, List.forIn_cons]
  dsimp only
  refine wpAny_bind (wpAny_bind (wpAny_pure ?_))
  dsimp only
  rw [List.forIn_nil]
  refine wpAny_pure ?_
  refine wpAny_bind (wpAny_dictEntries Da rfl ?_)
  refine wpAny_bind (wpAny_dictEpoch Da rfl ?_)
  rw [show (List.toArray [(⟨hh, .str k t, v⟩ : DictEntry)]).size = 1 from rfl, show List.range 1 = [0] from rfl, List.forIn_cons]
  refine wpAny_bind (wpAny_bind ?_)
  refine wpAny_bind (wpAny_dictEntries Da rfl ?_)
  rw [show (List.toArray [(⟨hh, .str k t, v⟩ : DictEntry)])[0]? = some ⟨hh, .str k t, v⟩ from rfl]
  dsimp only
  have hU := news_upd (pre := []) (o' := dictOf [⟨hh, .str k t, v⟩] 1) (f := Obj.mapDictKeys (·.push ⟨hh, .str k t, v⟩)) F N (fun _ hp => nomatch hp) hd rfl rfl
  refine wpAny_bind (wpAny_holding ?_)
  rw [if_pos rfl]
  refine wpAny_bind (KTD.kt_dictFind_strs Dd rfl (by simp) ?_)
  rw [if_neg (by simp)]
  unfold dictPut
  refine wpAny_bind (KTD.kt_dictFind_strs Dd rfl (by simp) ?_)
  rw [show Array.findIdx? (fun e => e.key.isStr k) (List.toArray ([] : List DictEntry)) = none from by simp]
  dsimp only
  refine wpAny_updateDictKeys Dd rfl ?_ (by rw [sizeLine_eq]; simp) (by simp)
  refine wpAny_bind (wpAny_dictEpoch (hU.2 _ (.tail _ ha)).1 rfl ?_)
  rw [if_neg (by simp)]
  refine wpAny_pure ?_
  dsimp only
  rw [List.forIn_nil]
  exact wpAny_pure (wpAny_pure (h _ 1 hU.1 hU.2))
/-- what a name's reading gives -/
def Reads0 (M : Model) (A : Around) (E : Value → Shared → Prop) (h₀ : Heap) (L : Addr) (m : Str → Option Value) (x : Sem Value) (v : Value) : Prop :=
  ∀ (s' : Shared) (Q' : Value → Shared → Prop), Fr h₀ L s'.heap m → Q' v s' → wpAny M A x Q' E s'
/-- f(x, **y): what evaluating the arguments gives -/
theorem args_star0 {f v : Value} {x y : Sem Value} {n : Nat} {Q : Args → Shared → Prop} (F : Fr h₀ L s.heap m) (N : News h₀ L s.heap news)
    (hx : Reads0 (model prog w) A E h₀ L m x v) (hy : Reads0 (model prog w) A E h₀ L m y (.ref a)) (ha : (a, dictOf [] n) ∈ news) (lo : (a == sysModules) = false)
    (h : ∀ h', Fr h₀ L h' m → News h₀ L h' news → Q ⟨[v], []⟩ { s with heap := h' }) :
    wpAny (model prog w) A (evalArgs f true [(false, x)] [(none, y)]) Q E s := by
  unfold evalArgs
  dsimp only
  have F1 := F.push (dictOf [] 0)
  have N1 := News.push F N (dictOf [] 0) rfl
  refine wpAny_bind ?_
  unfold spliced
  refine wpAny_bind (hx _ _ F ?_)
  refine wpAny_bind (wpAny_pure ?_)
  refine wpAny_bind (wpAny_holding ?_)
  unfold spliced
  refine wpAny_pure (wpAny_pure ?_)
  refine wpAny_bind (wpAny_pure ?_)
  dsimp only
  refine wpAny_holding ?_
  rw [if_neg (by simp)]
  refine wpAny_bind ?_
  unfold mergedKeywords
  refine wpAny_bind (wpAny_alloc ?_)
  refine wpAny_bind (wpAny_holding ?_)
  dsimp only
  rw [List.forIn_cons]
  refine wpAny_bind (wpAny_bind ?_)
  dsimp only
  refine wpAny_bind ?_
  rw [if_pos (show ([] : List (Str × Sem Value)).isEmpty = true from rfl)]
  refine wpAny_pure ?_
  refine wpAny_bind (hy _ _ F1 ?_)
  refine wpAny_bind (wpAny_onRaise (wpAny_holding (wpAny_tryCatch (wpAny_onRaise ?_))))
  refine merge0 (s := { s with heap := s.heap.push _ }) N1 ha lo ?_
  refine wpAny_pure ?_
  dsimp only
  rw [List.forIn_nil]
  refine wpAny_pure ?_
  rw [if_pos (show ([] : List (Str × Sem Value)).isEmpty = true from rfl)]
  refine wpAny_pure (wpAny_pure ?_)
  refine wpAny_bind (wpAny_pure ?_)
  refine wpAny_bind (wpAny_holding ?_)
  unfold keywordsIn
  refine wpAny_bind (wpAny_dictEntries (N1 _ (.head _)).1 rfl ?_)
  rw [← Array.forIn_toList, show (List.toArray ([] : List DictEntry)).toList = [] from rfl, List.forIn_nil]
  exact wpAny_bind (wpAny_pure (wpAny_pure (wpAny_pure (h _ F1 (News.tl N1)))))
theorem args_star1 {f v : Value} {x y : Sem Value} {n : Nat} {hh : Int} {k : Str} {t : Tok} {z : Value} {Q : Args → Shared → Prop} (F : Fr h₀ L s.heap m) (N : News h₀ L s.heap news)
    (hx : Reads0 (model prog w) A E h₀ L m x v) (hy : Reads0 (model prog w) A E h₀ L m y (.ref a)) (ha : (a, dictOf [⟨hh, .str k t, z⟩] n) ∈ news) (lo : (a == sysModules) = false)
    (h : ∀ h', Fr h₀ L h' m → News h₀ L h' news → Q ⟨[v], [(k, z)]⟩ { s with heap := h' }) :
    wpAny (model prog w) A (evalArgs f true [(false, x)] [(none, y)]) Q E s := by
  unfold evalArgs
  dsimp only
  have F1 := F.push (dictOf [] 0)
  have N1 := News.push F N (dictOf [] 0) rfl
  refine wpAny_bind ?_
  unfold spliced
  refine wpAny_bind (hx _ _ F ?_)
  refine wpAny_bind (wpAny_pure ?_)
  refine wpAny_bind (wpAny_holding ?_)
  unfold spliced
  refine wpAny_pure (wpAny_pure ?_)
  refine wpAny_bind (wpAny_pure ?_)
  dsimp only
  refine wpAny_holding ?_
  rw [if_neg (by simp)]
  refine wpAny_bind ?_
  unfold mergedKeywords
  refine wpAny_bind (wpAny_alloc ?_)
  refine wpAny_bind (wpAny_holding ?_)
  dsimp only
  rw [List.forIn_cons]
  refine wpAny_bind (wpAny_bind ?_)
  dsimp only
  refine wpAny_bind ?_
  rw [if_pos (show ([] : List (Str × Sem Value)).isEmpty = true from rfl)]
  refine wpAny_pure ?_
  refine wpAny_bind (hy _ _ F1 ?_)
  refine wpAny_bind (wpAny_onRaise (wpAny_holding (wpAny_tryCatch (wpAny_onRaise ?_))))
  refine merge1 (s := { s with heap := s.heap.push _ }) F1 N1 ha (fun p hp => Nat.ne_of_lt (Heap.lt_size (N p hp).1)) lo fun h2 n2 F2 N2 => ?_
  refine wpAny_pure ?_
  dsimp only
  rw [List.forIn_nil]
  refine wpAny_pure ?_
  rw [if_pos (show ([] : List (Str × Sem Value)).isEmpty = true from rfl)]
  refine wpAny_pure (wpAny_pure ?_)
  refine wpAny_bind (wpAny_pure ?_)
  refine wpAny_bind (wpAny_holding ?_)
  unfold keywordsIn
  refine wpAny_bind (wpAny_dictEntries (N2 _ (.head _)).1 rfl ?_)
  rw [← Array.forIn_toList, show (List.toArray [(⟨hh, .str k t, z⟩ : DictEntry)]).toList = [⟨hh, .str k t, z⟩] from rfl, List.forIn_cons]
  dsimp only
  refine wpAny_bind (wpAny_bind (wpAny_pure ?_))
  dsimp only
  rw [List.forIn_nil]
  exact wpAny_pure (wpAny_pure (wpAny_pure (h _ F2 (News.tl N2))))
/-- the call itself -/
theorem call_star {K : Frag} {f : Value} {x y : Sem Value} {pos : Pos} {Q : Value → Shared → Prop} (hk : keepIn K f = true)
    (h : wpAny (model prog w) A (evalArgs f true [(false, x)] [(none, y)]) (fun a s₁ => K.In s₁.heap ∧ wpAny (model prog w) A (call f a.pos a.kw) Q E s₁) E s) :
    wpAny (model prog w) A (callWith pos f [] [(false, x)] [(none, y)]) Q E s := by
  unfold callWith
  refine wpAny_bind (wpAny_holding (wpAny_mono h (fun a s₁ h₁ => wpAny_bind (wpAny_standAt ?_)) fun _ _ x => x))
  obtain ⟨k, hk', Lk⟩ := keeps_K (M := model prog w) hk _ h₁.1
  dsimp only
  refine wpAny_bind (Lk.here ?_)
  have tail : ∀ {t : Sem Value}, wpAny (model prog w) A t Q E s₁ → wpAny (model prog w) A (t >>= fun r => holding [r] point >>= fun _ => pure r) Q E s₁ :=
    fun ht => wpAny_bind (wpAny_mono ht (fun r s₂ hr => wpAny_bind (wpAny_holding (wpAny_point (wpAny_pure hr)))) fun _ _ x => x)
  have marked (mk : Value) : wpAny (model prog w) A (callMarked mk f ([] ++ a.pos) a.kw) Q E s₁ := by unfold callMarked; exact Calls.wpAny_keep h₁.2
  rcases hk' with rfl | rfl | rfl
  · exact tail (marked _)
  · exact tail (wpAny_operating h₁.2)
  · exact tail (wpAny_operating h₁.2)
end
section
variable {prog : Program} {w : World} {A A₀ : Around} {s : Shared} {K : Frag} {L : Addr} {h₀ base : Heap} {m mg mb : Str → Option Value} {news : Led} {p : Program} {loose : List Str} {mean : ExcName → Option Value}
/-- a call of a def with **more: the further words lie in a new dict -/
theorem more_enter {env : Env} {outer : List Env} {R : Result → Shared → Prop} {name qual : Str} {params : Arguments} {body : List Stmt} {scope : Scope} {dV kV doc pm cdv ct oc : Value} {an od : Option Addr} {osl : Array (Option Value)} {f : Addr} {args : Args} {nm : Str} {ex front : List (Str × Value)} {g₁ : Addr → Sem (List (Str × Value))}
    (B : Below A₀ base outer h₀) (F : Fr h₀ L s.heap m) (X₀ : K.In h₀) (N : News h₀ L s.heap news) (T : Top p loose mean mg mb h₀) (hA : A.frames = some (env :: outer)) (hf : env.frame = some L) (hke : env.scope.kind = .function)
    (ho : K.lookup f = some ⟨oc, od, .func (fnOf name qual params body scope dV kV doc pm an cdv ct), osl⟩) (hcd : codeIn K cdv qual = true) (hroom : A.depth < recursionLimit)
    (hn : kwDistinct ex = true)
    (hp : peekA K ⟨prog, w.params⟩ (bindArgs (fnOf name qual params body scope dV kV doc pm an cdv ct) args) = some (dictOf [] 0, g₁))
    (hk : ∀ D, g₁ D = (forIn ex PUnit.unit (fun x _ => (nsSet D x.1 x.2 >>= fun _ => pure (ForInStep.yield PUnit.unit))) >>= fun _ => pure (front ++ [(nm, Value.ref D)])))
    (hloc : ∀ D, ∀ y ∈ front ++ [(nm, Value.ref D)], scope.names.lookup y.1 = some .local)
    (h : ∀ D g L' h₁ tk, (∀ p ∈ news, p.1 < D) → (D == sysModules) = false → Fr h₀ L g m → Fr g L' h₁ (fun y => (front ++ [(nm, Value.ref D)]).reverse.lookup y) → News g L' h₁ ((D, dictOf ([] ++ kwEs w.params s.toks ex) (0 + ex.length)) :: news) → Below A base (env :: outer) g → K.In g → Top p loose mean mg mb g →
      wpAny (model prog w) (A.deeper (envOf qual scope L' f cdv)) (execs body (envOf qual scope L' f cdv))
        (fun fl s' => LeaveK h₀ L m g R (match fl with | .ret v => v | _ => .none) s')
        (fun e s' => wpAny (model prog w) (A.deeper (envOf qual scope L' f cdv)) (leaving (envOf qual scope L' f cdv) e) (fun _ s'' => R (.error e) s'') (fun e' s'' => R (.error e') s'') s')
        { s with heap := h₁, toks := tk })
    (hco : scope.isCoroutine = false) (hgen : scope.isGenerator = false) (hfn : scope.kind = .function)
    (hcell : ∀ x ∈ scope.names, x.2 ≠ .cell) : codeAny (model prog w) A (.call (.ref f) args) R s := by
  refine codeAny_call_function (fd := fnOf name qual params body scope dV kV doc pm an cdv ct) (body := body) hroom ((X₀.keeps F.keep) _ _ ho) rfl hco hgen rfl (codeRec_of (X₀.keeps F.keep) hcd) ?_
  refine wp_of_peekA (o := dictOf [] 0) F N (X₀.keeps F.keep) rfl _ g₁ hp fun h' F' N' l => ?_
  rw [hk]
  refine wpAny_bind (kp_fill ex { s with heap := h' } [] 0 F' N' (fun p hp => Nat.ne_of_lt (l p hp)) (fun _ he => nomatch he) (fun _ he => nomatch he) (kwDistinct_nodup hn) fun h'' F'' N'' => wpAny_pure ?_)
  exact kp_frame (cl := []) (s := { s with heap := h'', toks := s.toks + ex.length }) B F'' N'' T.nolimit hA hf hke (hloc _)
    (fun g L' h₁ FG FL NG BG st => h _ g L' h₁ _ l (F.notModules (modules_low T.nolimit)) FG FL NG BG (X₀.keeps st) (T.keeps st)) hcell hfn
end
end Mine
end

section
open PySem PySem.W PySem.Calls PyProof.Rows
set_option maxRecDepth 100000
set_option maxHeartbeats 8000000
namespace Mine
def tupO (vs : List Value) : Obj := { cls := .type "tuple", data := .seq vs.toArray }
theorem info_c (f : Addr) (n : Nat) (x : Str) (t : Tok) (news : Led) (P : Str → Prop) (hkp : ∀ w : World, keepIn (hd.heap_39 w.params) (.ref f) = true) (H : ∀ nw, Spec n f [.str x t] nw True (fun r nw' => nw' = nw ∧ ∃ y u, r = .str y u ∧ P y)) :
    Spec (n + 3) 44 [.str x t, .ref f] news True (fun r nw => ∃ (d : Addr) (y : Str) (u : Tok), r = .ref d ∧ nw = (d, tupO [.str y u, .str y u]) :: news ∧ (∀ p ∈ news, p.1 < d) ∧ P y) := by
  intro w mean mg mb dp un gd cn cs a ccd cl outer A₀ base h₀ L m s Q E B F X N T hk hdp hun hpre hret
  revert X; k_fill; w_top off; intro X
  refine wpAny_call ?_
  k_dflt ((refine' more_enter ?k1 ?k2 ?k3 ?k4 ?k5 ?kA ?kF ?kK ?k6 ?k7 ?k8 ?kN ?kP ?kT ?kB ?_ ?c2 ?c3 ?c4 ?c5); (case kA => exact rfl); (case kF => exact rfl); (case kK => first | exact rfl | assumption); (case k1 => k_asm); (case k2 => k_asm); (case k3 => k_asm); (case k4 => k_asm); (case k5 => k_asm); (case k6 => k_is); (case k7 => k_is); (case k8 => ktr_room); (case kP => exact rfl); (case kT => exact fun _ => rfl); (case kN => exact rfl); (case kB => exact fun _ => locs rfl); (case c5 => decide); (case c2 => exact rfl); (case c3 => exact rfl); (case c4 => exact rfl); k_whole; intro D1 g1 L1 hE tk1 l1 lo1 FG1 F1 N1 B1 X1 T1; (try dsimp only); (try k_lift B1); (try k_fold))
  replace F1 := Fr.as F1 (m' := fun y => List.lookup y [(Str.ofString "extrainfo", Value.ref D1), (Str.ofString "get_name", Value.ref f), (Str.ofString "name_index", Value.str x t)]) (by with_unfolding_all rfl)
  replace N1 : News g1 L1 hE ((D1, dictOf [] 0) :: news) := N1
  k_steps
  with_unfolding_all refine call_star (K := hd.heap_39 w.params) (hkp w) ?_
  refine args_star0 (v := .str x t) F1 N1 ?hx ?hy (.head _) lo1 ?_
  case hx =>
    intro s' Q' F' hq
    rw [if_neg Bool.false_ne_true]
    k_steps
    exact hq
  case hy =>
    intro s' Q' F' hq
    refine wpAny_bind ?_
    k_steps
    exact wpAny_bind (wpAny_standAt (wpAny_pure hq))
  intro h2 F2 N2
  refine ⟨?hK, ?_⟩
  case hK => exact X1.keeps F2.keep
  refine H _ w mean mg mb _ _ _ _ _ _ _ _ _ _ _ _ _ _ _ _ _ ‹Below _ _ _ _› F2 ‹Frag.In _ _› N2 ‹Top _ _ _ _ _ _› rfl ?hd ?hu trivial ?_
  case hd => ktr_room
  case hu => ktr_units
  rintro v nw h3 tk3 F3 N3 ⟨rfl, y, u, rfl, hP⟩
  k_steps
  rename_i hm D2 hn F4 N4 lt4 kF kN kT kX
  exact hret _ ((D2, tupO [.str y u, .str y u]) :: news) _ _ kF (News.drop2 kN) ⟨D2, y, u, rfl, rfl, kst_ltOf lt4.2, hP⟩
theorem none_c (x : Str) (t : Tok) (news : Led) :
    Spec 2 44 [.str x t, .none] news True (fun r nw => ∃ (d : Addr) (u : Tok), r = .ref d ∧ nw = (d, tupO [.ref 37, .str (Str.ofString "") u]) :: news ∧ (∀ p ∈ news, p.1 < d)) := by
  intro w mean mg mb dp un gd cn cs a ccd cl outer A₀ base h₀ L m s Q E B F X N T hk hdp hun hpre hret
  revert X; k_fill; w_top off; intro X
  refine wpAny_call ?_
  k_dflt ((refine' more_enter ?k1 ?k2 ?k3 ?k4 ?k5 ?kA ?kF ?kK ?k6 ?k7 ?k8 ?kN ?kP ?kT ?kB ?_ ?c2 ?c3 ?c4 ?c5); (case kA => exact rfl); (case kF => exact rfl); (case kK => first | exact rfl | assumption); (case k1 => k_asm); (case k2 => k_asm); (case k3 => k_asm); (case k4 => k_asm); (case k5 => k_asm); (case k6 => k_is); (case k7 => k_is); (case k8 => ktr_room); (case kP => exact rfl); (case kT => exact fun _ => rfl); (case kN => exact rfl); (case kB => exact fun _ => locs rfl); (case c5 => decide); (case c2 => exact rfl); (case c3 => exact rfl); (case c4 => exact rfl); k_whole; intro D1 g1 L1 hE tk1 l1 lo1 FG1 F1 N1 B1 X1 T1; (try dsimp only); (try k_lift B1); (try k_fold))
  replace F1 := Fr.as F1 (m' := fun y => List.lookup y [(Str.ofString "extrainfo", Value.ref D1), (Str.ofString "get_name", Value.none), (Str.ofString "name_index", Value.str x t)]) (by with_unfolding_all rfl)
  replace N1 : News g1 L1 hE ((D1, dictOf [] 0) :: news) := N1
  k_steps
  rename_i D2 hn F4 N4 lt4 kF kN kT kX
  exact hret _ ((D2, tupO [.ref 37, .str (Str.ofString "") _]) :: news) _ _ kF (News.drop2 kN) ⟨D2, _, rfl, rfl, kst_ltOf lt4.2⟩
/-- for the five escapes -/
theorem esc_c (k : Nat) (f : Addr) (hkf : (k = 0 ∧ f = 97) ∨ (k = 1 ∧ f = 104) ∨ (k = 2 ∧ f = 111) ∨ (k = 3 ∧ f = 118) ∨ (k = 4 ∧ f = 125)) (x : Str) (t : Tok) (news : Led) (hlen : x.cps.size ≤ 20) :
    Spec 6 44 [.str x t, .ref f] news True (fun r nw => ∃ (d : Addr) (y : Str) (u : Tok), r = .ref d ∧ nw = (d, tupO [.str y u, .str y u]) :: news ∧ (∀ p ∈ news, p.1 < d) ∧ y.cps.toList = escF k x.cps.toList) := by
  rcases hkf with ⟨rfl, rfl⟩ | ⟨rfl, rfl⟩ | ⟨rfl, rfl⟩ | ⟨rfl, rfl⟩ | ⟨rfl, rfl⟩
  · exact info_c 97 3 x t news (fun y => y.cps.toList = escF 0 x.cps.toList) (fun _ => by k_is) (fun nw => esc0_c x t nw hlen)
  · exact info_c 104 3 x t news (fun y => y.cps.toList = escF 1 x.cps.toList) (fun _ => by k_is) (fun nw => esc1_c x t nw hlen)
  · exact info_c 111 3 x t news (fun y => y.cps.toList = escF 2 x.cps.toList) (fun _ => by k_is) (fun nw => esc2_c x t nw hlen)
  · exact info_c 118 3 x t news (fun y => y.cps.toList = escF 3 x.cps.toList) (fun _ => by k_is) (fun nw => esc3_c x t nw hlen)
  · exact info_c 125 3 x t news (fun y => y.cps.toList = escF 4 x.cps.toList) (fun _ => by k_is) (fun nw => esc4_c x t nw hlen)
end Mine
end

section
open PySem PySem.W PySem.Calls PyProof.Rows
set_option maxRecDepth 100000
set_option maxHeartbeats 8000000
namespace Mine
open Builtin Builtin.Str Builtin.BaseException Builtin.Exceptions
theorem bexc_kind : builtinKind "BaseException.__str__" = some .slot := by decide +kernel
theorem bexc_split : splitId "BaseException.__str__" = some ("BaseException", "__str__") := by decide +kernel
section
variable {prog : Program} {w : World} {A : Around} {E : Value → Shared → Prop} {s : Shared} {K : Frag} {e t0 C : Addr} {m : Str} {tk : Tok}
/-- an exception of an own class, with one text -/
def OwnExc (h : Heap) (e C t0 : Addr) (m : Str) (tk : Tok) : Prop := (∃ o vs, h.get? e = some o ∧ o.cls = .ref C ∧ o.data = .fields vs ∧ vs[0]? = some (.ref t0)) ∧ h.TupAt t0 [.str m tk]
theorem own_type {Q : Value → Shared → Prop} (x : OwnExc s.heap e C t0 m tk) (hq : Q (.ref C) s) : wpAny (model prog w) A (typeOf (.ref e)) Q E s := by
  obtain ⟨⟨o, vs, ho, hc, -, -⟩, -⟩ := x
  simp only [typeOf]
  exact wpAny_bind (wpAny_load ho (wpAny_pure (hc ▸ hq)))
theorem own_args {M : Model} {Q : Value × List Value → Shared → Prop} (x : OwnExc s.heap e C t0 m tk) (hq : Q (.ref t0, [.str m tk]) s) : wpAny M A (bexcArgs (.ref e)) Q E s := by
  obtain ⟨⟨o, vs, ho, -, hd, h0⟩, ⟨ot, k, hto, -, htd⟩⟩ := x
  unfold bexcArgs
  exact wpAny_bind (wpAny_field ho hd h0 (wpAny_bind (wpAny_seqItems hto htd (wpAny_pure hq))))
theorem own_entry {Q : Fin → Shared → Prop} (x : OwnExc s.heap e C t0 m tk) (hq : Q (.done (.ret (.str m tk))) s) : wpAny (model prog w) A (Builtin.«BaseException.__str__» ⟨[.ref e], []⟩) Q E s := by
  unfold Builtin.«BaseException.__str__»
  repeat (first | with_reducible refine own_args x ?_ | wp_step)
  exact hq
theorem own_call {Q : Value → Shared → Prop} (X : K.In s.heap) (hsub : subIn K (.ref C) (.type "BaseException") = some true) (x : OwnExc s.heap e C t0 m tk) (hq : Q (.str m tk) s) :
    wpAny (model prog w) A (call (.builtin "BaseException.__str__") [.ref e]) Q E s := by
  refine wpAny_call (codeAny_call_builtin PySem.F.excStr_Exception.str.plain PySem.F.entry_bexc_str ?_)
  simp only [checkBuiltinCall, bexc_kind, bexc_split]
  refine wpAny_bind ?_
  unfold isInstance
  refine wpAny_bind (own_type x ((looks_subIn X hsub).here ?_))
  rw [if_neg (show ¬ (!true) = true by decide)]
  have ha := PySem.F.args_bexc_str (.ref e)
  have fin := own_entry (Q := fun fin s' => match fin with
      | .done f => (match (Except.ok f : Result) with | .ok (.ret v) => Q v s' | .ok _ => False | .error e => E e s')
      | .again c' => c'.quiet = true ∧ codeAny (model prog w) A c' (fun r s' => match r with | .ok (.ret v) => Q v s' | .ok _ => False | .error e => E e s') s') (E := E) (prog := prog) (w := w) (A := A.in1) x hq
  cases hsig : Manifest.signature? "BaseException.__str__" with
  | none => exact wpAny_pure fin
  | some sig =>
    simp only [argsOk, hsig] at ha
    have h2 : Bind.checkArgs "BaseException.__str__" sig ⟨[.ref e], []⟩ = pure () := ha
    dsimp only
    rw [h2]
    exact wpAny_pure fin
theorem own_strOf {Q : Value → Shared → Prop} (hu : A.units < cLine) (X : K.In s.heap) (hs : findIn K (.ref C) "__str__" = some (some (.builtin "BaseException.__str__"))) (hsub : subIn K (.ref C) (.type "BaseException") = some true) (x : OwnExc s.heap e C t0 m tk) (hq : Q (.str m tk) s) :
    wpAny (model prog w) A (Builtin.Str.strOf (.ref e)) Q E s := by
  unfold Builtin.Str.strOf
  rw [show isExactStr (.ref e) = false from rfl]
  refine wpAny_bind (m := cRoomFor _ _) (wpAny_cRoomFor hu ?_)
  refine wpAny_bind (m := callSpecial? (.ref e) (Str.ofString "__str__")) ?_
  simp only [callSpecial?]
  refine wpAny_bind ?_
  simp only [specialOf]
  refine wpAny_bind (own_type x ((looks_findIn X hs).here ?_))
  simp only [PySem.F.excStr_Exception.str.bind]
  refine wpAny_holding (wpAny_bind (wpAny_pure (wpAny_bind (own_call X hsub x (wpAny_pure ?_)))))
  exact wpAny_pure hq
/-- str(e) -/
theorem own_str {Q : Value → Shared → Prop} (hu : A.units + 2 < cLine) (X : K.In s.heap) (hs : findIn K (.ref C) "__str__" = some (some (.builtin "BaseException.__str__"))) (hsub : subIn K (.ref C) (.type "BaseException") = some true) (x : OwnExc s.heap e C t0 m tk) (hq : Q (.str m tk) s) :
    wpAny (model prog w) A (call (.type "str") [.ref e]) Q E s :=
  callType_new PySem.F.called_str (by decide) (PySem.F.typeCall_str_1 _) (PySem.F.newCall_str_1 _) (fun obj => PySem.F.args_object_init_2 obj _) PySem.F.entry_str_new
    (meets_str_new (S := fun A' R s' => A'.units + 1 < cLine ∧ K.In s'.heap ∧ OwnExc s'.heap e C t0 m tk ∧ R (.ok (.ret (.str m tk))) s')
      fun _ _ A' _ _ hq => own_strOf (A := A'.in1) hq.1 hq.2.1 hs hsub hq.2.2.1 hq.2.2.2)
    ⟨(show A.units + 1 + 1 < cLine from hu), X, x, typeIs_str _ _ _, hq⟩
theorem own_str_got {Q : Value → Shared → Prop} {h₀ : Heap} {L : Addr} {news : Led} (N : News h₀ L s.heap news) (G : Got news e t0 (.ref C) [.str m tk]) (X : K.In s.heap) (hs : findIn K (.ref C) "__str__" = some (some (.builtin "BaseException.__str__"))) (hsub : subIn K (.ref C) (.type "BaseException") = some true)
    (hu : A.units + 2 < cLine) (hq : Q (.str m tk) s) : wpAny (model prog w) A (call (.type "str") [.ref e]) Q E s := by
  obtain ⟨oe, ot, ws, nt, h1, h2, hc, hd, h0, htc, htd⟩ := G
  exact own_str hu X hs hsub ⟨⟨oe, ws, N.get h1, hc, hd, h0⟩, ⟨ot, nt, N.get h2, htc, htd⟩⟩ hq
end
end Mine
end

section
open PySem PySem.W PySem.Calls PyProof.Rows
set_option compiler.extract_closed false
set_option maxRecDepth 100000
set_option maxHeartbeats 8000000
namespace Mine
theorem no_prefix {x : Str} (h : ¬ x.cps.toList.take 3 = [50, 53, 55]) (h2 : (Txt.slice x none (some 3) != Str.ofString "257") = false) : False := by
  have h3 : Txt.slice x none (some ((3 : Nat) : Int)) = Str.ofString "257" := by simpa using h2
  exact h (by rw [← slice_to x 3, h3]; rfl)
local macro_rules | `(tactic| walk_at "execs cons") => `(tactic| (exact (no_prefix (by with_reducible assumption) (by with_reducible assumption)).elim))
local macro_rules | `(tactic| walk_at "call type:str") => `(tactic| ((refine' own_str_got ?N ?G ?X ?hs ?hb ?hu ?_); (case G => assumption); (case N => assumption); (case X => k_in); (case hs => k_is); (case hb => k_is); (case hu => first | ktr_units | units_room | k_room); k_whole))
local macro_rules | `(tactic| walk_at "call ref") => `(tactic| ((with_reducible show wpAny _ _ (call (Value.ref 83) _) _ _ _); refine stop_here ?_))
theorem reading_c (x : Str) (t u : Tok) (k : Int) (news : Led) (hk78 : k = 7 ∨ k = 8) (hlen : x.cps.size ≤ 500) :
    Spec0 8 151 [.str x t, .int k u] news True (fun r nw => ∃ d, r = .ref d ∧ (∀ p ∈ news, p.1 < d) ∧
      ((x.cps.toList.take 3 = [50, 53, 55] ∧ ∃ y u, nw = (d, tupO [.str y u, .str y u]) :: news ∧ y.cps.toList = parseF x.cps.toList) ∨ (x.cps.toList.take 3 ≠ [50, 53, 55] ∧ ∃ u, nw = (d, tupO [.str x u]) :: news))) := by
  intro w mean mg mb dp un gd cn cs a ccd A₀ h₀ L m s Q E B F X N T hk hdp hun hpre hret
  revert X; k_fill; w_top off; intro X
  refine wpAny_call ?_
  k_dflt (refine' code_defS0 ?k1 ?k2 ?k3 ?k4 ?k5 ?kA ?k6 ?k7 ?k8 ?k9 ?kB ?_ ?cK ?c2 ?c3 ?c4 ?c5; (case kA => exact rfl); (case k2 => k_asm); (case k1 => k_asm); (case k3 => k_asm); (case k4 => k_asm); (case k5 => k_asm); (case k6 => k_is); (case k7 => k_is); (case k8 => ktr_room); (case k9 => first | exact BindsTo.of_eq rfl | exact binds_K (by k_in) rfl (by k_is) rfl rfl rfl); (case kB => exact locs rfl); (case cK => first | exact rfl | assumption); (case c2 => exact rfl); (case c3 => exact rfl); (case c4 => exact rfl); (case c5 => decide); k_whole; intro g' L' h' FG' F' N' B' X' T' D'; (try dsimp only); (try k_lift B'); (try k_fold))
  rename Fr _ _ _ _ => F1
  replace F1 := Fr.as F1 (m' := fun y => List.lookup y [(Str.ofString "deed", Value.int k u), (Str.ofString "text", Value.str x t)]) (by with_unfolding_all rfl)
  rename News _ _ _ _ => N1
  k_steps
  · refine wpAny_call ?_
    k_dflt ((refine' more_enter ?k1 ?k2 ?k3 ?k4 ?k5 ?kA ?kF ?kK ?k6 ?k7 ?k8 ?kN ?kP ?kT ?kB ?_ ?c2 ?c3 ?c4 ?c5); (case kA => exact rfl); (case kF => exact rfl); (case kK => first | exact rfl | assumption); (case k1 => k_asm); (case k2 => k_asm); (case k3 => k_asm); (case k4 => k_asm); (case k5 => k_asm); (case k6 => k_is); (case k7 => k_is); (case k8 => ktr_room); (case kP => exact rfl); (case kT => exact fun _ => rfl); (case kN => exact rfl); (case kB => exact fun _ => locs rfl); (case c5 => decide); (case c2 => exact rfl); (case c3 => exact rfl); (case c4 => exact rfl); k_whole; intro D1 g1 L1 hE tk1 l1 lo1 FG1 F1 N1 B1 X1 T1; (try dsimp only); (try k_lift B1); (try k_fold))
    replace F1 := Fr.as F1 (m' := fun y => List.lookup y [(Str.ofString "extrainfo", Value.ref D1), (Str.ofString "get_name", Value.ref 83), (Str.ofString "name_index", Value.str x t)]) (by with_unfolding_all rfl)
    replace N1 : News g1 L1 hE ((D1, dictOf [] 0) :: news) := N1
    k_steps
    with_unfolding_all refine call_star (K := hd.heap_39 w.params) (by k_is) ?_
    refine args_star0 (v := .str x t) F1 N1 ?hx ?hy (.head _) lo1 ?_
    case hx =>
      intro s' Q' F' hq
      rw [if_neg Bool.false_ne_true]
      k_steps
      exact hq
    case hy =>
      intro s' Q' F' hq
      refine wpAny_bind ?_
      k_steps
      exact wpAny_bind (wpAny_standAt (wpAny_pure hq))
    intro h2 F2 N2
    refine ⟨?hK, ?_⟩
    case hK => exact X1.keeps F2.keep
    by_cases hp3 : x.cps.toList.take 3 = [50, 53, 55]
    · refine parse_c x t _ hlen hp3 w mean mg mb _ _ _ _ _ _ _ _ _ _ _ _ _ _ _ _ _ ‹Below _ _ _ _› F2 ‹Frag.In _ _› N2 ‹Top _ _ _ _ _ _› rfl ?hd ?hu trivial ?_
      case hd => first | exact om_d1 hdp (by decide) | exact om_d2 hdp (by decide) | exact om_d3 hdp (by decide) | exact om_d4 hdp (by decide) | ktr_room
      case hu => first | exact om_u2 hun (by decide) | exact om_u3 hun (by decide) | exact om_u4 hun (by decide) | exact om_u5 hun (by decide) | ktr_units
      rintro v nw h3 tk3 F3 N3 ⟨rfl, y, u, rfl, hP⟩
      k_steps
      rename_i hm D2 hn F4 N4 lt4 kF1 kN1 kT1 kX1 kF kN kT kX
      exact hret _ ((D2, tupO [.str y u, .str y u]) :: news) _ _ kF (News.drop2 kN) ⟨D2, rfl, kst_ltOf lt4.2, .inl ⟨hp3, y, u, rfl, hP⟩⟩
    · refine wpAny_call ?_
      k_dflt (refine' code_def ?k1 ?k2 ?k3 ?k4 ?k5 ?kA ?kF ?kK ?k6 ?k7 ?k8 ?k9 ?kB ?_ ?c2 ?c3 ?c4 ?c5; (case kA => exact rfl); (case kF => exact rfl); (case kK => first | exact rfl | assumption); (case k1 => k_asm); (case k2 => k_asm); (case k3 => k_asm); (case k4 => k_asm); (case k5 => k_asm); (case k6 => k_is); (case k7 => k_is); (case k8 => ktr_room); (case k9 => exact BindsTo.of_eq rfl); (case c5 => decide); (case kB => exact locs rfl); (case c2 => exact rfl); (case c3 => exact rfl); (case c4 => exact rfl); k_whole; intro g' L' h' FG' F' N' B' X' T'; (try dsimp only); (try k_lift B'); (try k_fold))
      k_steps
      rename Fr _ _ _ _ => kF
      rename News _ _ _ _ => kN
      rename (_ < _ ∧ AllLt _ _) => lt9
      exact hret _ ((_, tupO [.str x t]) :: news) _ _ kF (News.drop2 kN) ⟨_, rfl, kst_ltOf lt9.2, .inr ⟨hp3, t, rfl⟩⟩
  · refine wpAny_call ?_
    k_dflt ((refine' more_enter ?k1 ?k2 ?k3 ?k4 ?k5 ?kA ?kF ?kK ?k6 ?k7 ?k8 ?kN ?kP ?kT ?kB ?_ ?c2 ?c3 ?c4 ?c5); (case kA => exact rfl); (case kF => exact rfl); (case kK => first | exact rfl | assumption); (case k1 => k_asm); (case k2 => k_asm); (case k3 => k_asm); (case k4 => k_asm); (case k5 => k_asm); (case k6 => k_is); (case k7 => k_is); (case k8 => ktr_room); (case kP => exact rfl); (case kT => exact fun _ => rfl); (case kN => exact rfl); (case kB => exact fun _ => locs rfl); (case c5 => decide); (case c2 => exact rfl); (case c3 => exact rfl); (case c4 => exact rfl); k_whole; intro D1 g1 L1 hE tk1 l1 lo1 FG1 F1 N1 B1 X1 T1; (try dsimp only); (try k_lift B1); (try k_fold))
    replace F1 := Fr.as F1 (m' := fun y => List.lookup y [(Str.ofString "extrainfo", Value.ref D1), (Str.ofString "get_name", Value.ref 144), (Str.ofString "name_index", Value.str x t)]) (by with_unfolding_all rfl)
    replace N1 : News g1 L1 hE ((D1, dictOf [⟨PyData.keyHash w.params (Str.ofString "reader"), .str (Str.ofString "reader") _, .ref 83⟩] 1) :: news) := N1
    k_steps
    with_unfolding_all refine call_star (K := hd.heap_39 w.params) (by k_is) ?_
    refine args_star1 (v := .str x t) F1 N1 ?hx ?hy (.head _) lo1 ?_
    case hx =>
      intro s' Q' F' hq
      rw [if_neg Bool.false_ne_true]
      k_steps
      exact hq
    case hy =>
      intro s' Q' F' hq
      refine wpAny_bind ?_
      k_steps
      exact wpAny_bind (wpAny_standAt (wpAny_pure hq))
    intro h2 F2 N2
    refine ⟨?hK, ?_⟩
    case hK => exact X1.keeps F2.keep
    refine wpAny_call ?_
    k_dflt (refine' code_def ?k1 ?k2 ?k3 ?k4 ?k5 ?kA ?kF ?kK ?k6 ?k7 ?k8 ?k9 ?kB ?_ ?c2 ?c3 ?c4 ?c5; (case kA => exact rfl); (case kF => exact rfl); (case kK => first | exact rfl | assumption); (case k1 => k_asm); (case k2 => k_asm); (case k3 => k_asm); (case k4 => k_asm); (case k5 => k_asm); (case k6 => k_is); (case k7 => k_is); (case k8 => ktr_room); (case k9 => exact BindsTo.of_eq rfl); (case c5 => decide); (case kB => exact locs rfl); (case c2 => exact rfl); (case c3 => exact rfl); (case c4 => exact rfl); k_whole; intro g3 L3 hE3 FG3 F3 N3 B3 X3 T3; (try dsimp only); (try k_lift B3); (try k_fold))
    replace F3 := Fr.as F3 (m' := fun y => List.lookup y [(Str.ofString "reader", Value.ref 83), (Str.ofString "reply", Value.str x t)]) (by with_unfolding_all rfl)
    k_steps
    by_cases hp3 : x.cps.toList.take 3 = [50, 53, 55]
    · refine parse_c x t _ hlen hp3 w mean mg mb _ _ _ _ _ _ _ _ _ _ _ _ _ _ _ _ _ ‹Below _ _ _ _› F3 ‹Frag.In _ _› N3 ‹Top _ _ _ _ _ _› rfl ?hd ?hu trivial ?_
      case hd => first | exact om_d1 hdp (by decide) | exact om_d2 hdp (by decide) | exact om_d3 hdp (by decide) | exact om_d4 hdp (by decide) | ktr_room
      case hu => first | exact om_u2 hun (by decide) | exact om_u3 hun (by decide) | exact om_u4 hun (by decide) | exact om_u5 hun (by decide) | ktr_units
      rintro v nw h4 tk4 F4 N4 ⟨rfl, y, u, rfl, hP⟩
      k_steps
      rename Fr _ _ _ _ => kF
      rename News _ _ _ _ => kN
      rename (_ < _ ∧ AllLt _ _) => lt9
      exact hret _ ((_, tupO [.str y u, .str y u]) :: news) _ _ kF (News.drop2 kN) ⟨_, rfl, kst_ltOf lt9.2, .inl ⟨hp3, y, u, rfl, hP⟩⟩
    · refine wpAny_call ?_
      k_dflt (refine' code_def ?k1 ?k2 ?k3 ?k4 ?k5 ?kA ?kF ?kK ?k6 ?k7 ?k8 ?k9 ?kB ?_ ?c2 ?c3 ?c4 ?c5; (case kA => exact rfl); (case kF => exact rfl); (case kK => first | exact rfl | assumption); (case k1 => k_asm); (case k2 => k_asm); (case k3 => k_asm); (case k4 => k_asm); (case k5 => k_asm); (case k6 => k_is); (case k7 => k_is); (case k8 => ktr_room); (case k9 => exact BindsTo.of_eq rfl); (case c5 => decide); (case kB => exact locs rfl); (case c2 => exact rfl); (case c3 => exact rfl); (case c4 => exact rfl); k_whole; intro g' L' h' FG' F' N' B' X' T'; (try dsimp only); (try k_lift B'); (try k_fold))
      k_steps
      rename Fr _ _ _ _ => kF
      rename News _ _ _ _ => kN
      rename (_ < _ ∧ AllLt _ _) => lt9
      exact hret _ ((_, tupO [.str x t]) :: news) _ _ kF (News.drop2 kN) ⟨_, rfl, kst_ltOf lt9.2, .inr ⟨hp3, t, rfl⟩⟩
end Mine
end

section
open PySem PyProof.Rows
set_option maxRecDepth 100000
namespace Mine
theorem fm64 (n : Int) : n.fmod 64 = n % 64 := Int.fmod_eq_emod_of_nonneg _ (by decide)
theorem rowF_lo {p : Int} {c : Nat} (h : c < 64) (cs : List Nat) : rowF p (c :: cs) = (p + c) :: rowF 0 cs := by rw [rowF, if_pos h]
theorem rowF_hi {p : Int} {c : Nat} (h : ¬ c < 64) (cs : List Nat) : rowF p (c :: cs) = rowF ((p + (c - 64)) * 64) cs := by rw [rowF, if_neg h]
/-- the last number of a row -/
def lastF (p : Int) (l : List Nat) : Int := (rowF p l).getLastD 0
theorem lastF_lo {p : Int} {c : Nat} (h : c < 64) (cs : List Nat) : lastF p (c :: cs) = lastF 0 cs := by
  unfold lastF
  rw [rowF_lo h]
  cases hr : rowF 0 cs with
  | nil => exact absurd hr (rowF_ne cs 0)
  | cons a r => rfl
theorem lastF_hi {p : Int} {c : Nat} (h : ¬ c < 64) (cs : List Nat) : lastF p (c :: cs) = lastF ((p + (c - 64)) * 64) cs := by unfold lastF; rw [rowF_hi h]
theorem lastF_mod : ∀ (l : List Nat) (p : Int), p % 64 = 0 → lastF p l % 64 = 0
  | [], p, hp => hp
  | c :: cs, p, hp => by
    by_cases h : c < 64
    · rw [lastF_lo h]; exact lastF_mod cs 0 rfl
    · rw [lastF_hi h]; exact lastF_mod cs _ (by lia)
theorem rowF_app : ∀ (l w : List Nat) (p : Int), rowF p (l ++ w) = (rowF p l).dropLast ++ rowF (lastF p l) w
  | [], w, p => rfl
  | c :: cs, w, p => by
    rw [List.cons_append]
    by_cases h : c < 64
    · rw [rowF_lo h, rowF_lo h, lastF_lo h, rowF_app cs w 0, List.dropLast_cons_of_ne_nil (rowF_ne cs 0)]; rfl
    · rw [rowF_hi h, rowF_hi h, lastF_hi h, rowF_app cs w]
theorem laid_row (l w : List Nat) : laidF (rowF 0 l) w = rowF 0 (l ++ w) := by rw [rowF_app]; rfl
theorem getLast_row (l : List Nat) (p : Int) : (rowF p l).getLast (rowF_ne l p) = lastF p l := by
  unfold lastF
  rw [List.getLastD_eq_getLast?, List.getLast?_eq_some_getLast (rowF_ne l p)]; rfl
theorem getLast_mod (l : List Nat) : ((rowF 0 l).getLast (rowF_ne l 0)).fmod 64 = 0 := by rw [getLast_row, fm64]; exact lastF_mod l 0 rfl

/-- one sign's spelling -/
def spellF (wd : List (Int × Str)) (c : Nat) : List Nat := match wd.lookup (c : Int) with | some w => w.cps.toList | none => [c]
/-- the words are short, of good signs and end below 64; the keys are signs from 1 to 63 -/
def GoodW (wd : List (Int × Str)) : Prop := ∀ p ∈ wd, 1 ≤ p.1 ∧ p.1 < 64 ∧ p.2.cps.toList.length ≤ 6 ∧ (∀ c ∈ p.2.cps.toList, c < 128 ∧ c ≠ 64) ∧ ∃ w c, p.2.cps.toList = w ++ [c] ∧ c < 64
theorem lookup_mem {α β : Type} [BEq α] [LawfulBEq α] {i : α} {w : β} : ∀ {l : List (α × β)}, l.lookup i = some w → (i, w) ∈ l
  | [], h => by cases h
  | (a, b) :: r, h => by
    rw [List.lookup_cons] at h
    split at h
    · rename_i e; have := eq_of_beq e; subst this; cases h; exact .head _
    · exact .tail _ (lookup_mem h)
theorem lastF_end (w : List Nat) (c : Nat) (h : c < 64) (p : Int) : lastF p (w ++ [c]) = 0 := by
  unfold lastF
  rw [rowF_app, rowF_lo h]
  show (_ ++ [_, (0 : Int)]).getLastD 0 = 0
  simp
theorem written_row {wd : List (Int × Str)} (hw : GoodW wd) : ∀ (l : List Nat) (p : Int), p % 64 = 0 → writtenF wd (rowF p l) = rowF p (l.flatMap (spellF wd))
  | [], p, hp => by
    have hn : wd.lookup (p.fmod 64) = none := by
      rw [fm64, hp]
      cases h : wd.lookup 0 with
      | none => rfl
      | some w => have := (hw _ (lookup_mem h)).1; simp at this
    show writtenF wd [p] = [p]
    unfold writtenF
    rw [List.flatMap_cons, hn]; rfl
  | c :: cs, p, hp => by
    rw [List.flatMap_cons]
    by_cases h : c < 64
    · rw [rowF_lo h]
      have hm : (p + c).fmod 64 = (c : Int) := by rw [fm64]; lia
      have hcons : writtenF wd ((p + c) :: rowF 0 cs) = (match wd.lookup ((p + c).fmod 64) with | some w => (laidF [p + c - (p + c).fmod 64] w.cps.toList).dropLast | none => [p + c]) ++ writtenF wd (rowF 0 cs) := by unfold writtenF; rw [List.flatMap_cons] <;> rfl
      rw [hcons, hm, written_row hw cs 0 rfl]
      cases hl : wd.lookup (c : Int) with
      | none =>
        have : spellF wd c = [c] := by unfold spellF; rw [hl]
        rw [this]
        show [p + c] ++ _ = _
        rw [List.cons_append, List.nil_append, List.cons_append, List.nil_append, rowF_lo h]
      | some w =>
        have hs : spellF wd c = w.cps.toList := by unfold spellF; rw [hl]
        obtain ⟨-, -, -, -, w', c', he, hc'⟩ := hw _ (lookup_mem hl)
        have e1 : p + (c : Int) - c = p := by lia
        have he' : w.cps.toList = w' ++ [c'] := he
        rw [hs, rowF_app, he', lastF_end w' c' hc']
        dsimp only
        rw [he', e1]; rfl
    · have hl : wd.lookup (c : Int) = none := by
        cases h2 : wd.lookup (c : Int) with
        | none => rfl
        | some w => have := (hw _ (lookup_mem h2)).2.1; simp only at this; lia
      have hs : spellF wd c = [c] := by unfold spellF; rw [hl]
      rw [rowF_hi h, hs, List.cons_append, List.nil_append, rowF_hi h]
      exact written_row hw cs _ (by lia)
theorem goodW (k : Nat) : GoodW (wdF k) := by
  have e : k = 0 ∨ k = 1 ∨ k = 2 ∨ k = 3 ∨ 4 ≤ k := by lia
  have dec : ∀ j, j < 5 → ∀ p ∈ wdF j, 1 ≤ p.1 ∧ p.1 < 64 ∧ p.2.cps.toList.length ≤ 6 ∧ (∀ c ∈ p.2.cps.toList, c < 128 ∧ c ≠ 64) ∧ p.2.cps.toList = p.2.cps.toList.dropLast ++ [59] := by decide +kernel
  have key : ∀ j, j < 5 → GoodW (wdF j) := fun j hj p hp => by
    obtain ⟨h1, h2, h3, h4, h5⟩ := dec j hj p hp
    exact ⟨h1, h2, h3, h4, _, 59, h5, by decide⟩
  rcases Nat.lt_or_ge k 5 with h | h
  · exact key k h
  · obtain ⟨j, rfl⟩ : ∃ j, k = j + 4 := ⟨k - 4, by lia⟩
    exact key 4 (by decide)
/-- no word holds a sign that is replaced after it -/
def Seq : List (Int × Str) → Prop
  | [] => True
  | p :: r => 0 ≤ p.1 ∧ (∀ c ∈ p.2.cps.toList, r.lookup (c : Int) = none) ∧ Seq r
theorem spell_none {wd : List (Int × Str)} {l : List Nat} (h : ∀ c ∈ l, wd.lookup (c : Int) = none) : l.flatMap (spellF wd) = l := by
  induction l with
  | nil => rfl
  | cons c r ih =>
    have e : spellF wd c = [c] := by unfold spellF; rw [h c (List.mem_cons_self ..)]
    rw [List.flatMap_cons, e, ih fun x hx => h x (List.mem_cons_of_mem _ hx)]; rfl
theorem fold_spell : ∀ (wd : List (Int × Str)) (l : List Nat), Seq wd → wd.foldl (fun l p => subC p.1.toNat p.2.cps.toList l) l = l.flatMap (spellF wd)
  | [], l, _ => by
    have : l.flatMap (spellF []) = l := spell_none fun c _ => rfl
    rw [this]; rfl
  | p :: r, l, ⟨h0, hw, hr⟩ => by
    rw [List.foldl_cons, fold_spell r _ hr]
    unfold subC
    rw [List.flatMap_assoc]
    congr 1
    funext c
    by_cases h : c = p.1.toNat
    · have hb : ((c : Int) == p.1) = true := by rw [beq_iff_eq]; lia
      have e : spellF (p :: r) c = p.2.cps.toList := by
        obtain ⟨a, b⟩ := p
        unfold spellF; rw [List.lookup_cons, hb]
      rw [if_pos h, e, spell_none hw]
    · have hb : ((c : Int) == p.1) = false := by rw [beq_eq_false_iff_ne]; lia
      have e : spellF (p :: r) c = spellF r c := by
        obtain ⟨a, b⟩ := p
        unfold spellF; rw [List.lookup_cons, hb]
      rw [if_neg h, e, List.flatMap_cons]; simp
def seqB : List (Int × Str) → Bool
  | [] => true
  | p :: r => decide (0 ≤ p.1) && p.2.cps.toList.all (fun c => (r.lookup (c : Int)).isNone) && seqB r
theorem seq_of : ∀ {wd : List (Int × Str)}, seqB wd = true → Seq wd
  | [], _ => trivial
  | p :: r, h => by
    unfold seqB at h
    rw [Bool.and_eq_true, Bool.and_eq_true] at h
    obtain ⟨⟨h1, h2⟩, h3⟩ := h
    exact ⟨of_decide_eq_true h1, fun c hc => Option.isNone_iff_eq_none.mp (List.all_eq_true.mp h2 c hc), seq_of h3⟩
theorem escF_spell {k : Nat} (hk : k < 5) (l : List Nat) : escF k l = l.flatMap (spellF (wdF k)) := by
  have d : ∀ j, j < 5 → seqB (wdF j) = true := by decide +kernel
  exact fold_spell _ _ (seq_of (d k hk))
/-- signs of the law's texts -/
def GoodL (l : List Nat) : Prop := ∀ c ∈ l, c < 128 ∧ c ≠ 64
theorem spell_good {wd : List (Int × Str)} (hw : GoodW wd) {c : Nat} (hc : c < 128 ∧ c ≠ 64) : GoodL (spellF wd c) ∧ (spellF wd c).length ≤ 6 := by
  unfold spellF
  cases h : wd.lookup (c : Int) with
  | none => exact ⟨fun x hx => by rw [List.mem_singleton.mp hx]; exact hc, by simp⟩
  | some w => obtain ⟨-, -, h3, h4, -⟩ := hw _ (lookup_mem h); exact ⟨h4, h3⟩
theorem escF_good {k : Nat} (hk : k < 5) {l : List Nat} (hl : GoodL l) : GoodL (escF k l) ∧ (escF k l).length ≤ 6 * l.length := by
  rw [escF_spell hk]
  induction l with
  | nil => exact ⟨(fun _ h => nomatch h), Nat.le_refl _⟩
  | cons c r ih =>
    obtain ⟨g1, g2⟩ := spell_good (goodW k) (hl c (List.mem_cons_self ..))
    obtain ⟨i1, i2⟩ := ih fun x hx => hl x (List.mem_cons_of_mem _ hx)
    rw [List.flatMap_cons]
    refine ⟨fun x hx => (List.mem_append.mp hx).elim (g1 x) (i1 x), ?_⟩
    rw [List.length_append, List.length_cons]; lia
theorem written_esc {k : Nat} (hk : k < 5) (l : List Nat) : writtenF (wdF k) (rowF 0 l) = rowF 0 (escF k l) := by rw [written_row (goodW k) l 0 rfl, escF_spell hk]

/-- a reply's row -/
theorem quote_row : ∀ (l : List Nat) (p : Int), p % 64 = 0 → quoteF (rowF p l) = rowF p (subC 34 [34, 34] l)
  | [], p, hp => by
    show quoteF [p] = [p]
    unfold quoteF
    rw [List.flatMap_cons, fm64, if_neg (by lia)]; rfl
  | c :: cs, p, hp => by
    have hsub : subC 34 [34, 34] (c :: cs) = (if c = 34 then [34, 34] else [c]) ++ subC 34 [34, 34] cs := by unfold subC; rw [List.flatMap_cons]
    rw [hsub]
    by_cases h : c < 64
    · rw [rowF_lo h]
      have hq : quoteF ((p + c) :: rowF 0 cs) = (if (p + (c : Int)).fmod 64 = 34 then [p + c, 34] else [p + c]) ++ quoteF (rowF 0 cs) := by unfold quoteF; rw [List.flatMap_cons]
      rw [hq, quote_row cs 0 rfl, fm64]
      by_cases h34 : c = 34
      · subst h34
        rw [if_pos (by lia), if_pos rfl]
        show _ = rowF p (34 :: 34 :: subC 34 [34, 34] cs)
        rw [rowF_lo (by decide), rowF_lo (by decide)]; simp
      · rw [if_neg (by lia), if_neg h34]
        show _ = rowF p (c :: subC 34 [34, 34] cs)
        rw [rowF_lo h]; rfl
    · rw [rowF_hi h, if_neg (by lia)]
      show _ = rowF p (c :: subC 34 [34, 34] cs)
      rw [rowF_hi h]
      exact quote_row cs _ (by lia)
theorem quoted_row (l ws : List Nat) : laidF ([50, 53, 55, 32, 34] ++ quoteF (rowF 0 l)) (34 :: ws) = rowF 0 ([50, 53, 55, 32, 34] ++ subC 34 [34, 34] l ++ [34] ++ ws) := by
  have e : [50, 53, 55, 32, 34] ++ quoteF (rowF 0 l) = rowF 0 ([50, 53, 55, 32, 34] ++ subC 34 [34, 34] l) := by
    rw [quote_row l 0 rfl]
    show _ = rowF 0 (50 :: 53 :: 55 :: 32 :: 34 :: subC 34 [34, 34] l)
    rw [rowF_lo (by decide), rowF_lo (by decide), rowF_lo (by decide), rowF_lo (by decide), rowF_lo (by decide)]; rfl
  rw [e, laid_row]; simp
/-- the first numbers of a row -/
theorem head_hi : ∀ (l : List Nat) (p : Int), 64 ≤ p → ∃ a r, rowF p l = a :: r ∧ 64 ≤ a
  | [], p, h => ⟨p, [], rfl, h⟩
  | c :: cs, p, h => by
    by_cases hc : c < 64
    · exact ⟨_, _, rowF_lo hc cs, by lia⟩
    · rw [rowF_hi hc]; exact head_hi cs _ (by lia)
theorem take_row : ∀ (w l : List Nat), GoodL l → (∀ c ∈ w, 0 < c ∧ c < 64) → ((rowF 0 l).take w.length = w.map (fun (c : Nat) => (c : Int)) ↔ l.take w.length = w)
  | [], l, _, _ => by simp
  | a :: w, [], _, hw => by
    have h := (hw a (List.mem_cons_self ..)).1
    constructor
    · intro e
      have e : ([(0 : Int)]).take (w.length + 1) = (a : Int) :: w.map (fun (c : Nat) => (c : Int)) := e
      rw [List.take_succ_cons] at e
      injection e with e1 _
      lia
    · intro e; exact absurd e (by simp)
  | a :: w, c :: cs, hl, hw => by
    have ha := hw a (List.mem_cons_self ..)
    have hc := hl c (List.mem_cons_self ..)
    have ih := take_row w cs (fun x hx => hl x (List.mem_cons_of_mem _ hx)) (fun x hx => hw x (List.mem_cons_of_mem _ hx))
    rw [List.length_cons, List.map_cons, List.take_succ_cons]
    by_cases h : c < 64
    · rw [rowF_lo h, List.take_succ_cons, List.cons_eq_cons, List.cons_eq_cons, ih]
      constructor
      · rintro ⟨h1, h2⟩; exact ⟨by lia, h2⟩
      · rintro ⟨h1, h2⟩; exact ⟨by lia, h2⟩
    · rw [rowF_hi h]
      obtain ⟨b, r, e, hb⟩ := head_hi cs ((0 + ((c : Int) - 64)) * 64) (by lia)
      rw [e, List.take_succ_cons, List.cons_eq_cons, List.cons_eq_cons]
      constructor
      · rintro ⟨h1, -⟩; lia
      · rintro ⟨h1, -⟩; lia
theorem run_row {b : Nat} (hb : b ≠ 34) (r : List Nat) (hg : b < 128 ∧ b ≠ 64) : runF (rowF 0 (b :: r)) = 0 := by
  by_cases h : b < 64
  · rw [rowF_lo h]; exact runF_cons_ne (by lia) _
  · rw [rowF_hi h]
    obtain ⟨a, q, e, ha⟩ := head_hi r ((0 + ((b : Int) - 64)) * 64) (by lia)
    rw [e]; exact runF_cons_ne (by lia) _
theorem named_ne {a : Int} (h : a.fmod 64 ≠ 34) (r : List Int) : namedGo (a :: r) = a :: namedGo r := by rw [namedGo, if_neg h]
theorem named_one {a : Int} (h : a.fmod 64 = 34) {r : List Int} (h0 : runF r = 0) : namedGo (a :: r) = [a - 34] := by rw [namedGo, if_pos h, if_pos h0]
theorem named_pair {a : Int} (h : a.fmod 64 = 34) (r : List Int) : namedGo (a :: 34 :: r) = a :: namedGo r := by
  rw [namedGo, if_pos h, runF_cons34, if_neg (by lia)]
  have h34 : (34 : Int).fmod 64 = 34 := by decide
  cases hk : runF r with
  | zero => simp
  | succ n =>
    cases r with
    | nil => simp [runF] at hk
    | cons b q =>
      by_cases hb : b = 34
      · subst hb
        rw [runF_cons34] at hk
        have hn : runF q = n := by lia
        rw [namedGo, if_pos h34, hn]
        by_cases h0 : n = 0
        · subst h0; simp
        · rw [if_neg h0]
          have e1 : (n + 1 + 1 + 1) / 2 - 1 = ((n + 1) / 2 - 1) + 1 := by lia
          have e2 : (n + 1 + 1 + 1) % 2 = (n + 1) % 2 := by lia
          rw [e1, e2, List.replicate_succ]; simp
      · rw [runF_cons_ne hb] at hk; lia
theorem namedGo_row : ∀ (n : Nat) (l : List Nat) (p : Int), l.length ≤ n → GoodL l → p % 64 = 0 → namedGo (rowF p l) = rowF p (parseGo l)
  | _, [], p, _, _, hp => by
    show namedGo [p] = _
    rw [named_ne (by rw [fm64]; lia), namedGo, parseGo]; rfl
  | 0, c :: cs, p, hn, _, _ => by simp at hn
  | n + 1, c :: cs, p, hn, hl, hp => by
    have hn' : cs.length ≤ n := by simpa using hn
    have hc := hl c (List.mem_cons_self ..)
    have hcs : GoodL cs := fun x hx => hl x (List.mem_cons_of_mem _ hx)
    by_cases h34 : c = 34
    · subst h34
      rw [rowF_lo (by decide)]
      have hm : (p + ((34 : Nat) : Int)).fmod 64 = 34 := by rw [fm64]; lia
      cases cs with
      | nil =>
        rw [parseGo_end, named_one hm (by show runF [0] = 0; exact runF_cons_ne (by decide) _)]
        show [p + 34 - 34] = [p]
        rw [show p + 34 - 34 = p from by lia]
      | cons b r =>
        by_cases hb : b = 34
        · subst hb
          have hr : GoodL r := fun x hx => hcs x (List.mem_cons_of_mem _ hx)
          rw [parseGo_two, rowF_lo (by decide), rowF_lo (by decide)]
          have e : (0 : Int) + ((34 : Nat) : Int) = 34 := rfl
          rw [e, named_pair hm, namedGo_row n r 0 (by simp at hn'; lia) hr rfl]
        · rw [parseGo_one hb, named_one hm (run_row hb r (hcs b (List.mem_cons_self ..)))]
          show [p + 34 - 34] = [p]
          rw [show p + 34 - 34 = p from by lia]
    · rw [parseGo_ne h34]
      by_cases h : c < 64
      · rw [rowF_lo h, rowF_lo h, named_ne (by rw [fm64]; lia), namedGo_row n cs 0 hn' hcs rfl]
      · rw [rowF_hi h, rowF_hi h]
        exact namedGo_row n cs _ hn' hcs (by lia)
theorem named_row {l : List Nat} (hl : GoodL l) (h3 : l.take 3 = [50, 53, 55]) : namedF (rowF 0 l) = rowF 0 (parseF l) := by
  obtain ⟨q, rfl⟩ : ∃ q, l = 50 :: 53 :: 55 :: q := by
    match l, h3 with
    | a :: b :: c :: q, h3 =>
      simp only [List.take_succ_cons, List.take_zero] at h3
      injection h3 with h1 h3; injection h3 with h2 h3; injection h3 with h3 _
      exact ⟨q, by rw [h1, h2, h3]⟩
  have hq : GoodL q := fun x hx => hl x (by simp [hx])
  have hr : rowF 0 (50 :: 53 :: 55 :: q) = 50 :: 53 :: 55 :: rowF 0 q := by rw [rowF_lo (by decide), rowF_lo (by decide), rowF_lo (by decide)]; rfl
  have ht : (rowF 0 q).take 2 = [32, 34] ↔ q.take 2 = [32, 34] := take_row [32, 34] q hq (by decide)
  unfold namedF parseF
  rw [hr]
  show (if (rowF 0 q).take 2 = [32, 34] then namedGo ((rowF 0 q).drop 2) else [0]) = rowF 0 (if q.take 2 = [32, 34] then parseGo (q.drop 2) else [])
  by_cases h : q.take 2 = [32, 34]
  · rw [if_pos h, if_pos (ht.mpr h)]
    obtain ⟨r, rfl⟩ : ∃ r, q = 32 :: 34 :: r := by
      match q, h with
      | a :: b :: r, h =>
        simp only [List.take_succ_cons, List.take_zero] at h
        injection h with h1 h; injection h with h2 _
        exact ⟨r, by rw [h1, h2]⟩
    have hr2 : rowF 0 (32 :: 34 :: r) = 32 :: 34 :: rowF 0 r := by rw [rowF_lo (by decide), rowF_lo (by decide)]; rfl
    rw [hr2]
    exact namedGo_row _ r 0 (Nat.le_refl _) (fun x hx => hq x (by simp [hx])) rfl
  · rw [if_neg h, if_neg fun e => h (ht.mp e)]; rfl
theorem take3_row {l : List Nat} (hl : GoodL l) : (rowF 0 l).take 3 = [50, 53, 55] ↔ l.take 3 = [50, 53, 55] := take_row [50, 53, 55] l hl (by decide)
theorem parseGo_good : ∀ (n : Nat) (l : List Nat), l.length ≤ n → GoodL l → GoodL (parseGo l) ∧ (parseGo l).length ≤ l.length
  | _, [], _, _ => by rw [parseGo]; exact ⟨(fun _ h => nomatch h), Nat.le_refl _⟩
  | 0, c :: cs, hn, _ => by simp at hn
  | n + 1, c :: cs, hn, hl => by
    have hn' : cs.length ≤ n := by simpa using hn
    have hc := hl c (List.mem_cons_self ..)
    have hcs : GoodL cs := fun x hx => hl x (List.mem_cons_of_mem _ hx)
    by_cases h34 : c = 34
    · subst h34
      cases cs with
      | nil => rw [parseGo_end]; exact ⟨(fun _ h => nomatch h), Nat.zero_le _⟩
      | cons b r =>
        by_cases hb : b = 34
        · subst hb
          rw [parseGo_two]
          obtain ⟨i1, i2⟩ := parseGo_good n r (by simp at hn'; lia) fun x hx => hcs x (List.mem_cons_of_mem _ hx)
          refine ⟨fun x hx => ?_, by simp only [List.length_cons]; lia⟩
          rcases List.mem_cons.mp hx with rfl | hx
          · decide
          · exact i1 x hx
        · rw [parseGo_one hb]; exact ⟨(fun _ h => nomatch h), Nat.zero_le _⟩
    · rw [parseGo_ne h34]
      obtain ⟨i1, i2⟩ := parseGo_good n cs hn' hcs
      refine ⟨fun x hx => ?_, by simp only [List.length_cons]; lia⟩
      rcases List.mem_cons.mp hx with rfl | hx
      · exact hc
      · exact i1 x hx
theorem parseF_good {l : List Nat} (hl : GoodL l) : GoodL (parseF l) ∧ (parseF l).length ≤ l.length := by
  unfold parseF
  split
  · obtain ⟨h1, h2⟩ := parseGo_good _ (l.drop 5) (Nat.le_refl _) fun x hx => hl x (List.mem_of_mem_drop hx)
    exact ⟨h1, by rw [List.length_drop] at h2; lia⟩
  · exact ⟨(fun _ h => nomatch h), Nat.zero_le _⟩
theorem sub34_good : ∀ {l : List Nat}, GoodL l → GoodL (subC 34 [34, 34] l) ∧ (subC 34 [34, 34] l).length ≤ 2 * l.length
  | [], _ => ⟨(fun _ h => nomatch h), Nat.le_refl _⟩
  | c :: cs, hl => by
    have hc := hl c (List.mem_cons_self ..)
    obtain ⟨i1, i2⟩ := sub34_good (l := cs) fun x hx => hl x (List.mem_cons_of_mem _ hx)
    have hsub : subC 34 [34, 34] (c :: cs) = (if c = 34 then [34, 34] else [c]) ++ subC 34 [34, 34] cs := by unfold subC; rw [List.flatMap_cons]
    rw [hsub]
    refine ⟨fun x hx => ?_, ?_⟩
    · rcases List.mem_append.mp hx with hx | hx
      · split at hx
        · simp at hx; subst hx; decide
        · rw [List.mem_singleton.mp hx]; exact hc
      · exact i1 x hx
    · rw [List.length_append, List.length_cons]
      split <;> simp only [List.length_cons, List.length_nil] <;> lia
end Mine
end

section
open PySem PySem.W PySem.Calls PyProof.Rows PyProof.V
set_option maxRecDepth 100000
set_option maxHeartbeats 8000000
namespace Mine
section
variable {prog : Program} {w : World} {A : Around} {E : Value → Shared → Prop} {s : Shared} {h₀ : Heap} {L : Addr} {news : Led} {a b : Addr} {y : Str} {u1 u2 u3 u4 : Tok}
theorem ne_tup2 {Q : Value → Shared → Prop} (hok : PyData.strOk y = true) (N : News h₀ L s.heap news) (ha : (a, tupO [.str y u1, .str y u2]) ∈ news) (hb : (b, tupO [.str y u3, .str y u4]) ∈ news) (hu : A.units + 64 < cLine) (h : Q (.bool false) s) :
    wpAny (model prog w) A (compareOp .NotEq (.ref a) (.ref b)) Q E s := by
  refine ne_dataH_same (da := .tuple [.str y, .str y]) (db := .tuple [.str y, .str y]) (Reads.tuple (N _ ha).1 rfl rfl (.cons (.str y u1) (.cons (.str y u2) .nil))) (Reads.tuple (N _ hb).1 rfl rfl (.cons (.str y u3) (.cons (.str y u4) .nil))) ?h1 ?h1 hu ?h2 ?h3
  case h1 => simp [PySem.SeqAt.shaped, PyData.canLay0, PyData.canLayAll0, PyData.depth, PyData.depthAll, hok]
  case h2 => simp [PySem.SeqAt.noMix, PySem.SeqAt.noMixAll]
  case h3 => rw [show Spec.same (.tuple [.str y, .str y]) (.tuple [.str y, .str y]) = true from by simp [Spec.same, Spec.sameAll]]; exact h
theorem ne_tup1 {Q : Value → Shared → Prop} (hok : PyData.strOk y = true) (N : News h₀ L s.heap news) (ha : (a, tupO [.str y u1]) ∈ news) (hb : (b, tupO [.str y u3]) ∈ news) (hu : A.units + 64 < cLine) (h : Q (.bool false) s) :
    wpAny (model prog w) A (compareOp .NotEq (.ref a) (.ref b)) Q E s := by
  refine ne_dataH_same (da := .tuple [.str y]) (db := .tuple [.str y]) (Reads.tuple (N _ ha).1 rfl rfl (.cons (.str y u1) .nil)) (Reads.tuple (N _ hb).1 rfl rfl (.cons (.str y u3) .nil)) ?h1 ?h1 hu ?h2 ?h3
  case h1 => simp [PySem.SeqAt.shaped, PyData.canLay0, PyData.canLayAll0, PyData.depth, PyData.depthAll, hok]
  case h2 => simp [PySem.SeqAt.noMix, PySem.SeqAt.noMixAll]
  case h3 => rw [show Spec.same (.tuple [.str y]) (.tuple [.str y]) = true from by simp [Spec.same, Spec.sameAll]]; exact h
end
theorem strOk_good {x : Str} (h : GoodL x.cps.toList) : PyData.strOk x = true := by
  unfold PyData.strOk
  rw [← Array.all_toList]
  exact List.all_eq_true.mpr fun c hc => decide_eq_true (Nat.lt_trans (h c hc).1 (by decide))
theorem all_good {x : Str} (h : GoodL x.cps.toList) : x.cps.all (· < 128) = true := by
  rw [← Array.all_toList]
  exact List.all_eq_true.mpr fun c hc => decide_eq_true (h c hc).1
theorem written_k (k : Nat) (hk5 : k < 5) (kk : Int) (hkk : kk = (k : Int)) (row : List Int) (vs : List Value) (rn : Nat) (r : Addr) (t : Tok) (rest : Led) (hlen : row.length ≤ 1000) (hvs : IntsAre vs row) :
    Spec 5 165 [.ref r, .int kk t] ((r, listOf vs.toArray rn) :: rest) True
      (fun v nw => ∃ (d : Addr) (us : List Value) (nn : Nat), v = .ref d ∧ nw = (d, listOf us.toArray nn) :: (r, listOf vs.toArray rn) :: rest ∧ (∀ p ∈ (r, listOf vs.toArray rn) :: rest, p.1 < d) ∧ IntsAre us (writtenF (wdF k) row)) := by
  subst hkk
  exact written_c k hk5 row vs rn r t rest hlen hvs
/-- an index of the five escapes -/
theorem writer_at (k : Int) (h0 : 0 ≤ k) (h5 : k < 5) : ∃ (j : Nat) (f : Addr), j < 5 ∧ ((j = 0 ∧ f = 97) ∨ (j = 1 ∧ f = 104) ∨ (j = 2 ∧ f = 111) ∨ (j = 3 ∧ f = 118) ∨ (j = 4 ∧ f = 125)) ∧ k = (j : Int) ∧
    ([Value.ref 97, Value.ref 104, Value.ref 111, Value.ref 118, Value.ref 125] : List Value)[k.toNat]? = some (.ref f) := by
  have e : k = 0 ∨ k = 1 ∨ k = 2 ∨ k = 3 ∨ k = 4 := by lia
  rcases e with rfl | rfl | rfl | rfl | rfl
  · exact ⟨0, 97, by decide, by simp, rfl, rfl⟩
  · exact ⟨1, 104, by decide, by simp, rfl, rfl⟩
  · exact ⟨2, 111, by decide, by simp, rfl, rfl⟩
  · exact ⟨3, 118, by decide, by simp, rfl, rfl⟩
  · exact ⟨4, 125, by decide, by simp, rfl, rfl⟩
end Mine
end

section
open PySem PySem.W PySem.Calls PyProof.Rows
set_option compiler.extract_closed false
set_option maxRecDepth 100000
set_option maxHeartbeats 8000000
namespace Mine
theorem News.pick145 {h₀ h : Heap} {L : Addr} {a b c d e : Addr × Obj} (N : News h₀ L h [a, b, c, d, e]) : News h₀ L h [a, d, e] := fun p hp => by
  rcases List.mem_cons.mp hp with rfl | hp
  · exact N _ (.head _)
  · exact N _ (.tail _ (.tail _ (.tail _ hp)))
/-- the names' frame in the main loop -/
abbrev frameJ (lw d : Addr) (x : Str) (tx : Tok) (u : Str → Option Value) : Str → Option Value := fun y => if y = Str.ofString "row" then some (Value.ref d) else if y = Str.ofString "text" then some (Value.str x tx) else if y = Str.ofString "writers" then some (Value.ref lw) else u y
/-- the five escapes -/
abbrev writersO : Obj := listOf ([Value.ref 97, Value.ref 104, Value.ref 111, Value.ref 118, Value.ref 125] : List Value).toArray 0
local macro_rules | `(tactic| walk_at $k) => if ["pyIter ref", "ForPost", "binaryOp Add str str", "call builtin:str.replace", "call ref", "inplaceOp Add str str", "WordMid", "TurnMid"].contains k.getString then `(tactic| (refine stop_here ?_)) else Lean.Macro.throwUnsupported
local macro_rules | `(tactic| walk_at "exec For Name BinOp cons nil") => `(tactic| ((rename Fr _ _ _ _ => lF'); (with_unfolding_all refine' For_invVF lF' ?k1 ?k2 ?_; (case k1 => exact rfl); (case k2 => exact rfl); k_whole)))
def MidMark : Prop := True
def EqMark : Prop := True
def IdxMark : Prop := True
local macro_rules | `(tactic| walk_at "subscriptTail") => `(tactic| ((with_reducible rename IdxMark => hIdxM); refine stop_here ?_))
local macro_rules | `(tactic| walk_at "eval IfExp") => `(tactic| ((with_reducible rename IdxMark => hIdxM); refine stop_here ?_))
/-- the further word of a reply -/
def WordMid (s : Shared) (v : Value) (s₂ : Shared) : Prop := ∃ (wd : Str) (tw tk : Tok), v = .str wd tw ∧ s₂ = { s with toks := tk } ∧ GoodL wd.cps.toList ∧ wd.cps.toList.length ≤ 3
local macro_rules | `(tactic| walk_at "compareOp NotEq ref ref") => `(tactic| ((with_reducible rename EqMark => hEqM); refine stop_here ?_))
local macro_rules | `(tactic| walk_at "exec If") => `(tactic| ((fail_if_success (with_reducible rename MidMark => hMid)); refine stop_here ?_))
/-- behind the deed -/
def TurnMid (h₀ : Heap) (L : Addr) (s : Shared) (rest : Led) (lw : Addr) (B : Nat) (f : Flow) (s₂ : Shared) : Prop :=
  f = .next ∧ ∃ (h' : Heap) (tk : Tok) (x : Str) (tx : Tok) (d : Addr) (us : List Value) (nn : Nat) (u : Str → Option Value), s₂ = { s with heap := h', toks := tk } ∧ Fr h₀ L h' (frameJ lw d x tx u) ∧ News h₀ L h' ((d, listOf us.toArray nn) :: rest) ∧ (∀ p ∈ rest, p.1 < d) ∧ GoodL x.cps.toList ∧ x.cps.toList.length ≤ B ∧ IntsAre us (rowF 0 x.cps.toList)
theorem word_mid {M : Model} {A : Around} {t : Sem Value} {Q' : Value → Shared → Prop} {E : Value → Shared → Prop} {s : Shared} (h : wpAny M A t (WordMid s) E s) (k : ∀ v s₂, WordMid s v s₂ → Q' v s₂) : wpAny M A t Q' E s := wpAny_mono h k fun _ _ x => x
theorem mid_intro {M : Model} {A : Around} {t : Sem Flow} {Q' : Flow → Shared → Prop} {E : Value → Shared → Prop} {s : Shared} {h₀ hh : Heap} {L : Addr} {m : Str → Option Value} {rest : Led} {lw : Addr} {B : Nat} (_F : Fr h₀ L hh m)
    (h : wpAny M A t (TurnMid h₀ L s rest lw B) E s) (k : ∀ f s₂, TurnMid h₀ L s rest lw B f s₂ → Q' f s₂) : wpAny M A t Q' E s := wpAny_mono h k fun _ _ x => x
theorem lawT : PySem.Challenge.rw_yh0016_01.Holds := hd (by
  k_go0
  all_goals try k_fold
  k_steps
  rename_i lw _ _ _ _ _ lr _ _ _ D5 ws5 _ hI5 hC5 hL5 lt5 l9 _ lt9 dl wsl hL FL NL hIL ltL
  obtain ⟨t0, NL0⟩ : ∃ t0, News _ _ _ [(dl, listOf wsl.toArray 0), (lr, listOf [Value.int 0 t0].toArray 0), (lw, writersO)] := ⟨_, News.pick145 NL⟩
  refine for_list (fun i m' nx => ∃ (x : Str) (tx : Tok) (d : Addr) (us : List Value) (nn : Nat) (u : Str → Option Value), GoodL x.cps.toList ∧ x.cps.toList.length ≤ 120 + i ∧ IntsAre us (rowF 0 x.cps.toList) ∧ m' = frameJ lw d x tx u ∧ nx = [(d, listOf us.toArray nn), (lw, writersO)])
    rfl hIL FL NL0 ⟨Str.ofString "", _, lr, [.int 0 t0], 0, _, (fun _ h => nomatch h), Nat.zero_le _, .cons 0 _ .nil, keep3 rfl rfl rfl, rfl⟩ ?turn ?done
  case done =>
    rintro m₁ nx h tk ⟨x, tx, d, us, nn, u, hG, hlen, hus, rfl, rfl⟩ F₁ N₁
    k_steps
  case turn =>
    rintro i k ut m₁ nx I oI h tk hk ⟨x, tx, d, us, nn, u, hG, hlen, hus, rfl, rfl⟩ hnI hlI F₁ N₁
    have hi14 : i < 14 := by
      have h1 := (List.getElem?_eq_some_iff.mp hk).1
      simp only [List.length_append, List.length_take, List.length_cons, List.length_nil] at h1
      lia
    k_steps
    rename Fr _ _ _ _ => F2
    rename News _ _ _ _ => N2
    refine sign_c (k.fmod 20320) _ _ _ _ _ _ _ _ _ _ _ _ _ [] [] _ _ _ _ _ _ _ _ ‹Below _ _ _ _› F2 ‹Frag.In _ _› N2 ‹Top _ _ _ _ _ _› rfl ?hd ?hu ⟨fmod_lo _ (by decide), fmod_hi _ (by decide)⟩ ?_
    case hd => first | exact of_decide_eq_true rfl | ktr_room
    case hu => first | exact of_decide_eq_true rfl | (rw [cLine_is]; exact of_decide_eq_true rfl) | ktr_units
    rintro v nw h3 tk3 F3 N3 ⟨rfl, c, u2, rfl, hc1, hc2⟩
    k_steps
    have hxl : x.length = x.cps.toList.length := size_len x
    refine PyProof.Rows.SBL.iadd (fun t4 k4 hh4 => ?_) ?hsz
    case hsz => rw [sizeLine_eq]; show x.length + 1 ≤ _; lia
    have hx' : (x ++ ⟨#[c]⟩ : Str).cps.toList = x.cps.toList ++ [c] := by show (x.cps ++ #[c]).toList = _; simp
    generalize hX : (x ++ ⟨#[c]⟩ : Str) = x' at hx'
    have hG' : GoodL x'.cps.toList := by
      rw [hx']; intro a ha
      rcases List.mem_append.mp ha with ha | ha
      · exact hG a ha
      · rw [List.mem_singleton.mp ha]; exact ⟨hc1, hc2⟩
    have hl' : x'.cps.toList.length ≤ 121 + i := by rw [hx', List.length_append]; simp only [List.length_cons, List.length_nil]; lia
    k_steps
    rename Fr _ _ _ _ => F4
    rename News _ _ _ _ => N4
    have hc := laid_c (rowF 0 x.cps.toList) us nn d ⟨#[c]⟩ u2 [(I, oI), (dl, listOf wsl.toArray 0), (lw, writersO)] (by simpa using hc1) (rowF_ne _ _) (by have := rowF_len x.cps.toList 0; show _ + 1 ≤ _; lia) hus
    refine hc _ _ _ _ _ _ _ _ _ _ _ [] [] _ _ _ _ _ _ _ _ ‹Below _ _ _ _› F4 ‹Frag.In _ _› (News.sub N4 ?hN) ‹Top _ _ _ _ _ _› rfl ?hd ?hu trivial ?_
    case hN => (try dsimp only [List.nil_append, List.cons_append, List.append_assoc]); repeat' first | exact sub_refl | exact sub_nil | refine sub_cons ?_ ?_ | refine sub_tail ?_ | exact List.Mem.head _ | refine List.Mem.tail _ ?_
    case hd => first | exact of_decide_eq_true rfl | ktr_room
    case hu => first | exact of_decide_eq_true rfl | (rw [cLine_is]; exact of_decide_eq_true rfl) | ktr_units
    rintro v nw h5 tk5 F5 N5 ⟨d1, us1, nn1, rfl, rfl, hlt1, hus1⟩
    rw [show (⟨#[c]⟩ : Str).cps.toList = [c] from rfl, laid_row, ← hx'] at hus1
    replace N5 := News.drop2 N5
    k_steps
    have mk : MidMark := trivial
    have hx'l : x'.length ≤ 134 := by rw [size_len]; lia
    rename Fr _ _ _ _ => F6
    rename News _ _ _ _ => N6
    refine mid_intro F6 (rest := [(I, oI), (dl, listOf wsl.toArray 0), (lw, writersO)]) (lw := lw) (B := 121 + i) ?midW ?midK
    case midK =>
      rintro f s₂ ⟨rfl, h7, tk7, y, ty, d2, us2, nn2, u7, rfl, F7, N7, hlt7, hGy, hly, hus2⟩
      have em : EqMark := trivial
      k_steps
      rename Fr _ _ _ _ => F8
      rename News _ _ _ _ => N8
      refine numbers_c y ty _ (fun a ha => (hGy a ha).1) (by rw [← Array.length_toList]; lia) _ _ _ _ _ _ _ _ _ _ _ _ _ _ _ _ _ _ ‹Below _ _ _ _› F8 ‹Frag.In _ _› N8 ‹Top _ _ _ _ _ _› rfl ?hd ?hu trivial ?_
      case hd => first | exact of_decide_eq_true rfl | ktr_room
      case hu => first | exact of_decide_eq_true rfl | (rw [cLine_is]; exact of_decide_eq_true rfl) | ktr_units
      rintro v nw h9 tk9 F9 N9 ⟨d3, us3, nn3, rfl, rfl, hlt3, hus3⟩
      k_steps
      rename News _ _ _ _ => N10
      refine ne_intsK (News.isList N10 (.head _)) hus3 (News.isList N10 (.tail _ (.head _))) hus2 ?hu ?_
      case hu => first | exact of_decide_eq_true rfl | (rw [cLine_is]; exact of_decide_eq_true rfl) | ktr_units
      rw [show (!decide (rowF 0 y.cps.toList = rowF 0 y.cps.toList)) = false from by simp]
      k_steps
      rename Fr _ _ _ _ => FZ
      rename News _ _ _ _ => NZ
      refine' ⟨_, _, _, _, rfl, FZ, ?hNZ, ?hoff, y, ty, d2, us2, nn2, _, hGy, ?hlen, hus2, keep3 rfl rfl rfl, rfl⟩
      case hlen => lia
      case hNZ => exact News.sub NZ (by (try dsimp only [List.nil_append, List.cons_append, List.append_assoc]); repeat' first | exact sub_refl | exact sub_nil | refine sub_cons ?_ ?_ | refine sub_tail ?_ | exact List.Mem.head _ | refine List.Mem.tail _ ?_)
      case hoff =>
        intro p hp
        rcases List.mem_cons.mp hp with rfl | hp
        · exact Nat.ne_of_gt (hlt7 _ (.head _))
        · exact hnI p (.tail _ hp)
    case midW =>
      have hlt1' : ∀ p ∈ [(I, oI), (dl, listOf wsl.toArray 0), (lw, writersO)], p.1 < d1 := fun p hp => hlt1 p (.tail _ hp)
      have hrl := rowF_len x'.cps.toList 0
      have hsl : x'.length = x'.cps.toList.length := size_len x'
      have em : EqMark := trivial
      have im : IdxMark := trivial
      k_steps
      · rename Fr _ _ _ _ => FA
        rename News _ _ _ _ => NA
        have hx20 : x'.length ≤ 20 := by lia
        obtain ⟨j, f, hj5, hjf, hdj, hit⟩ := writer_at (k.fmod 10) (fmod_lo _ (by decide)) (by assumption)
        refine item_litK (News.isList NA (.tail _ (.tail _ (.tail _ (.head _))))) (fmod_lo _ (by decide)) (by lia) hit ?_ ?hs
        case hs => with_unfolding_all rfl
        rename IdxMark => im
        clear im
        k_steps
        rename Fr _ _ _ _ => FA
        rename News _ _ _ _ => NA
        refine esc_c j f hjf x' t4 _ hx20 _ _ _ _ _ _ _ _ _ _ _ [] [] _ _ _ _ _ _ _ _ ‹Below _ _ _ _› FA ‹Frag.In _ _› NA ‹Top _ _ _ _ _ _› rfl ?hd ?hu trivial ?_
        case hd => first | exact of_decide_eq_true rfl | ktr_room
        case hu => first | exact of_decide_eq_true rfl | (rw [cLine_is]; exact of_decide_eq_true rfl) | ktr_units
        rintro v nw h9 tk9 F9 N9 ⟨d9, y, u9, rfl, rfl, hlt9, hy⟩
        obtain ⟨hgy, hly⟩ := escF_good hj5 hG'
        rw [← hy] at hgy hly
        k_steps
        rename News _ _ _ _ => NB
        refine ne_tup2 (strOk_good hgy) NB (.tail _ (.head _)) (.head _) ?hu ?_
        case hu => first | exact of_decide_eq_true rfl | (rw [cLine_is]; exact of_decide_eq_true rfl) | ktr_units
        k_steps
        rename Fr _ _ _ _ => FC
        rename News _ _ _ _ => NC
        refine written_k j hj5 (k.fmod 10) hdj (rowF 0 x'.cps.toList) us1 nn1 d1 _ [(I, oI), (dl, listOf wsl.toArray 0), (lw, writersO)] ?hlen hus1 _ _ _ _ _ _ _ _ _ _ _ [] [] _ _ _ _ _ _ _ _ ‹Below _ _ _ _› FC ‹Frag.In _ _› (News.sub NC ?hN) ‹Top _ _ _ _ _ _› rfl ?hd ?hu trivial ?_
        case hlen => lia
        case hN => exact (by (try dsimp only [List.nil_append, List.cons_append, List.append_assoc]); repeat' first | exact sub_refl | exact sub_nil | refine sub_cons ?_ ?_ | refine sub_tail ?_ | exact List.Mem.head _ | refine List.Mem.tail _ ?_)
        case hd => first | exact of_decide_eq_true rfl | ktr_room
        case hu => first | exact of_decide_eq_true rfl | (rw [cLine_is]; exact of_decide_eq_true rfl) | ktr_units
        rintro v nw h10 tk10 F10 N10 ⟨d3, us3, nn3, rfl, rfl, hlt3, hus3⟩
        rw [written_esc hj5, ← hy] at hus3
        k_steps
        rename Fr _ _ _ _ => FZ
        rename News _ _ _ _ => NZ
        exact ⟨rfl, _, _, y, u9, d3, us3, nn3, _, rfl, Fr.as FZ (keep3 rfl rfl rfl), News.drop2 NZ, fun p hp => hlt3 p (.tail _ hp), hgy, by lia, hus3⟩
      · rename Fr _ _ _ _ => FZ
        rename News _ _ _ _ => NZ
        exact ⟨rfl, _, _, x', t4, d1, us1, nn1, _, rfl, Fr.as FZ (keep3 rfl rfl rfl), NZ, hlt1', hG', hl', hus1⟩
      · have hx20 : x'.length ≤ 20 := by lia
        refine word_mid ?wm ?_
        case wm =>
          rename IdxMark => im
          clear im
          k_steps
          · exact ⟨_, _, _, rfl, rfl, (fun _ h => nomatch h), Nat.zero_le _⟩
          · exact ⟨_, _, _, rfl, rfl, (by unfold GoodL; decide +kernel), (by decide +kernel)⟩
        rintro v s₂ ⟨wd, tw, tkw, rfl, rfl, hwg, hwl⟩
        rename IdxMark => im
        clear im
        k_steps
        refine SC.replaceW (by first | lia | (show @Ne Nat _ _; lia)) (by first | lia | (show @Ne Nat _ _; lia)) (by first | lia | (show @Ne Nat _ _; lia)) (by decide +kernel) (by lia) (by decide +kernel) ?_
        intro t9 k9
        have hx2 : (Txt.replace x' (Str.ofString "\"") (Str.ofString "\"\"")).cps.toList = subC 34 [34, 34] x'.cps.toList := replace_sub x' _ 34
        generalize Txt.replace x' (Str.ofString "\"") (Str.ofString "\"\"") = x2 at hx2
        obtain ⟨hg2, hl2⟩ := sub34_good hG'
        rw [← hx2] at hg2 hl2
        have hsl2 : x2.length = x2.cps.toList.length := size_len x2
        k_steps
        refine add_str (fun t10 k10 => ?_) ?hsz
        case hsz => rw [sizeLine_eq]; show 5 + x2.length ≤ _; lia
        k_steps
        refine add_str (fun t11 k11 => ?_) ?hsz
        case hsz => rw [sizeLine_eq]; show (Str.ofString "257 \"" ++ x2).length + 1 ≤ _; rw [Str.length_append]; show 5 + x2.length + 1 ≤ _; lia
        k_steps
        refine add_str (fun t12 k12 => ?_) ?hsz
        case hsz => rw [sizeLine_eq, Str.length_append, Str.length_append]; show 5 + x2.length + 1 + wd.cps.size ≤ _; have : wd.cps.size = wd.cps.toList.length := by simp
                    lia
        have hz : (Str.ofString "257 \"" ++ x2 ++ Str.ofString "\"" ++ wd).cps.toList = [50, 53, 55, 32, 34] ++ subC 34 [34, 34] x'.cps.toList ++ [34] ++ wd.cps.toList := by
          rw [← hx2]; simp only [Str.cps_append, Array.toList_append]; rfl
        generalize (Str.ofString "257 \"" ++ x2 ++ Str.ofString "\"" ++ wd : Str) = z at hz
        k_steps
        rename Fr _ _ _ _ => FC
        rename News _ _ _ _ => NC
        refine quoted_c (rowF 0 x'.cps.toList) us1 nn1 d1 wd _ [(I, oI), (dl, listOf wsl.toArray 0), (lw, writersO)] (all_good hwg) ?hlen ?hlen2 hus1 _ _ _ _ _ _ _ _ _ _ _ [] [] _ _ _ _ _ _ _ _ ‹Below _ _ _ _› FC ‹Frag.In _ _› NC ‹Top _ _ _ _ _ _› rfl ?hd ?hu trivial ?_
        case hlen => lia
        case hlen2 => rw [← Array.length_toList]; lia
        case hd => first | exact of_decide_eq_true rfl | ktr_room
        case hu => first | exact of_decide_eq_true rfl | (rw [cLine_is]; exact of_decide_eq_true rfl) | ktr_units
        rintro v nw h10 tk10 F10 N10 ⟨d3, us3, nn3, rfl, rfl, hlt3, hus3⟩
        rw [quoted_row, ← hz] at hus3
        k_steps
        rename Fr _ _ _ _ => FZ
        rename News _ _ _ _ => NZ
        refine ⟨rfl, _, _, z, t12, d3, us3, nn3, _, rfl, Fr.as FZ (keep3 rfl rfl rfl), News.drop2 NZ, fun p hp => hlt3 p (.tail _ hp), ?hgz, ?hlz, hus3⟩
        case hgz =>
          rw [hz, ← hx2]
          intro c hc
          rcases List.mem_append.mp hc with hc | hc
          · rcases List.mem_append.mp hc with hc | hc
            · rcases List.mem_append.mp hc with hc | hc
              · exact (show ∀ c ∈ [50, 53, 55, 32, 34], c < 128 ∧ c ≠ 64 by decide) c hc
              · exact hg2 c hc
            · rw [List.mem_singleton.mp hc]; decide
          · exact hwg c hc
        case hlz =>
          rw [hz, ← hx2]
          simp only [List.length_append, List.length_cons, List.length_nil]
          lia
      · rename Fr _ _ _ _ => FZ
        rename News _ _ _ _ => NZ
        exact ⟨rfl, _, _, x', t4, d1, us1, nn1, _, rfl, Fr.as FZ (keep3 rfl rfl rfl), NZ, hlt1', hG', hl', hus1⟩
      · rename IdxMark => im
        clear im
        rename Fr _ _ _ _ => FA
        rename News _ _ _ _ => NA
        refine reading_c x' t4 _ (k.fmod 10) _ (by lia) (by show x'.length ≤ _; lia) _ _ _ _ _ _ _ _ _ _ _ _ _ _ _ _ _ _ ‹Below _ _ _ _› FA ‹Frag.In _ _› NA ‹Top _ _ _ _ _ _› rfl ?hd ?hu trivial ?_
        case hd => first | exact of_decide_eq_true rfl | ktr_room
        case hu => first | exact of_decide_eq_true rfl | (rw [cLine_is]; exact of_decide_eq_true rfl) | ktr_units
        rintro v nw h9 tk9 F9 N9 ⟨d9, rfl, hlt9, hcase⟩
        have ht3 := take3_row hG'
        rcases hcase with ⟨hp3, y, u9, rfl, hy⟩ | ⟨hp3, u9, rfl⟩
        · obtain ⟨hgy, hly⟩ := parseF_good hG'
          rw [← hy] at hgy hly
          k_steps
          · rename News _ _ _ _ => NB
            refine ne_tup2 (strOk_good hgy) NB (.tail _ (.tail _ (.tail _ (.head _)))) (.head _) ?hu ?_
            case hu => first | exact of_decide_eq_true rfl | (rw [cLine_is]; exact of_decide_eq_true rfl) | ktr_units
            k_steps
            rename Fr _ _ _ _ => FC
            rename News _ _ _ _ => NC
            refine named_c (rowF 0 x'.cps.toList) us1 nn1 d1 [(I, oI), (dl, listOf wsl.toArray 0), (lw, writersO)] (rowF_ne _ _) (getLast_mod _) ?hlen hus1 _ _ _ _ _ _ _ _ _ _ _ [] [] _ _ _ _ _ _ _ _ ‹Below _ _ _ _› FC ‹Frag.In _ _› (News.sub NC ?hN) ‹Top _ _ _ _ _ _› rfl ?hd ?hu trivial ?_
            case hlen => lia
            case hN => exact (by (try dsimp only [List.nil_append, List.cons_append, List.append_assoc]); repeat' first | exact sub_refl | exact sub_nil | refine sub_cons ?_ ?_ | refine sub_tail ?_ | exact List.Mem.head _ | refine List.Mem.tail _ ?_)
            case hd => first | exact of_decide_eq_true rfl | ktr_room
            case hu => first | exact of_decide_eq_true rfl | (rw [cLine_is]; exact of_decide_eq_true rfl) | ktr_units
            rintro v nw h10 tk10 F10 N10 ⟨d3, us3, nn3, rfl, rfl, hlt3, hus3⟩
            rw [named_row hG' hp3, ← hy] at hus3
            k_steps
            rename Fr _ _ _ _ => FZ
            rename News _ _ _ _ => NZ
            exact ⟨rfl, _, _, y, u9, d3, us3, nn3, _, rfl, Fr.as FZ (keep3 rfl rfl rfl), News.drop2 NZ, fun p hp => hlt3 p (.tail _ hp), hgy, by lia, hus3⟩
          · exact absurd (ht3.mpr hp3) (by assumption)
        · k_steps
          · exact absurd (ht3.mp (by assumption)) hp3
          · rename News _ _ _ _ => NB
            refine ne_tup1 (strOk_good hG') NB (.tail _ (.tail _ (.tail _ (.head _)))) (.head _) ?hu ?_
            case hu => first | exact of_decide_eq_true rfl | (rw [cLine_is]; exact of_decide_eq_true rfl) | ktr_units
            k_steps
            rename Fr _ _ _ _ => FZ
            rename News _ _ _ _ => NZ
            exact ⟨rfl, _, _, x', t4, d1, us1, nn1, _, rfl, Fr.as FZ (keep3 rfl rfl rfl), News.sub NZ (by (try dsimp only [List.nil_append, List.cons_append, List.append_assoc]); repeat' first | exact sub_refl | exact sub_nil | refine sub_cons ?_ ?_ | refine sub_tail ?_ | exact List.Mem.head _ | refine List.Mem.tail _ ?_), hlt1', hG', hl', hus1⟩
      · rename IdxMark => im
        clear im
        rename Fr _ _ _ _ => FA
        rename News _ _ _ _ => NA
        refine none_c x' t4 _ _ _ _ _ _ _ _ _ _ _ _ [] [] _ _ _ _ _ _ _ _ ‹Below _ _ _ _› FA ‹Frag.In _ _› NA ‹Top _ _ _ _ _ _› rfl ?hd ?hu trivial ?_
        case hd => first | exact of_decide_eq_true rfl | ktr_room
        case hu => first | exact of_decide_eq_true rfl | (rw [cLine_is]; exact of_decide_eq_true rfl) | ktr_units
        rintro v nw h9 tk9 F9 N9 ⟨d9, u9, rfl, rfl, hlt9⟩
        k_steps
        rename Fr _ _ _ _ => FZ
        rename News _ _ _ _ => NZ
        exact ⟨rfl, _, _, x', t4, d1, us1, nn1, _, rfl, Fr.as FZ (keep3 rfl rfl rfl), News.tl NZ, hlt1', hG', hl', hus1⟩)
end Mine
end

theorem PySem.Challenge.cw_yh0016_01_holds : PySem.Challenge.rw_yh0016_01.Holds := by
  exact Mine.lawT
