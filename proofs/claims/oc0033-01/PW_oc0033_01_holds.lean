import PyProof.Rows.All
import Wide.All
import OpenK.AllK
import Wide.FinOn
import PySem.Challenge.RW_oc0033_01
open PySem PySem.W PyProof.Rows PySem.Calls
set_option Elab.async false
set_option rowWalk.seconds 0
section
namespace Mine
set_option maxRecDepth 100000 in
set_option maxHeartbeats 8000000 in
open_top hd for PySem.Challenge.rw_oc0033_01
end Mine
end
namespace Mine
theorem walker_off : True := by
  w_top off
  trivial
end Mine
section
namespace Mine

/-- what a called def asks of its caller, and its end -/
abbrev Says (w : World) (f : Addr) (args : List Value) (news : List (Addr × Obj)) (dn un₀ : Nat) (Ret : Value → List (Addr × Obj) → Prop) : Prop :=
  ∀ (mean : ExcName → Option Value) (mg mb : Str → Option Value) (dp un : Nat) (gd : Option (List Code)) (cn : Str) (cs : Scope) (a : Addr) (ccd : Value) (cl : List (Str × Addr)) (outer : List Env) (A₀ : Around) (base h₀ : Heap) (L : Addr) (m : Str → Option Value) (s : Shared) (Q E : Value → Shared → Prop),
    Below A₀ base outer h₀ → Fr h₀ L s.heap m → (Mine.hd.heap_39 w.params).In h₀ → News h₀ L s.heap news →
    Top Mine.hd.view_39 (looseW Mine.hd.view_39 [Str.ofString "_filemode_table"]) mean mg mb h₀ → cs.kind = .function → dp + dn < recursionLimit → un + un₀ < cLine →
    (∀ (r : Value) (news' : List (Addr × Obj)) (h' : Heap) (tk' : Nat), Ret r news' → Fr h₀ L h' m → News h₀ L h' news' → Q r { s with heap := h', toks := tk' }) →
    wpAny (model Challenge.rw_oc0033_01.prog w) (ktrTop dp un gd cn cs L a ccd cl outer) (call (.ref f) args) Q E s

set_option maxRecDepth 100000 in
set_option maxHeartbeats 8000000 in
theorem imode (w : World) (mode : Int) (t : Tok) (news : List (Addr × Obj)) : Says w 28 [.int mode t] news 1 8 (fun r n => n = news ∧ ∃ t, r = .int (Builtin.bitAnd mode 4095) t) := by
  unfold Says
  k_fill
  intro mean mg mb dp un gd cn cs a ccd cl outer A₀ base h₀ L m s Q E B F X N T hk hd hu hret
  refine wpAny_call ?_
  k_dflt cell_enter
  k_steps
  exact hret _ _ _ _ ⟨rfl, _, rfl⟩ (by assumption) (by assumption)
set_option maxRecDepth 100000 in
set_option maxHeartbeats 8000000 in
theorem ifmt (w : World) (mode : Int) (t : Tok) (news : List (Addr × Obj)) : Says w 35 [.int mode t] news 1 8 (fun r n => n = news ∧ ∃ t, r = .int (Builtin.bitAnd mode 61440) t) := by
  unfold Says
  k_fill
  intro mean mg mb dp un gd cn cs a ccd cl outer A₀ base h₀ L m s Q E B F X N T hk hd hu hret
  refine wpAny_call ?_
  k_dflt cell_enter
  k_steps
  exact hret _ _ _ _ ⟨rfl, _, rfl⟩ (by assumption) (by assumption)
def runS (can above : Bool) (small great : Str) : Str := if above then (if can then small else great) else (if can then Str.ofString "x" else Str.ofString "-")
set_option maxRecDepth 100000 in
set_option maxHeartbeats 8000000 in
theorem lawrun (w : World) (can above : Bool) (small great : Str) (t t' : Tok) (news : List (Addr × Obj)) : Says w 82 [.bool can, .bool above, .str small t, .str great t'] news 1 8 (fun r n => n = news ∧ ∃ t, r = .str (runS can above small great) t) := by
  unfold Says
  k_fill
  intro mean mg mb dp un gd cn cs a ccd cl outer A₀ base h₀ L m s Q E B F X N T hk hd hu hret
  refine wpAny_call ?_
  k_dflt cell_enter
  k_steps
  all_goals exact hret _ _ _ _ ⟨rfl, _, by simp_all [runS] <;> rfl⟩ (by assumption) (by assumption)
end Mine
end
section
namespace Mine
set_option maxRecDepth 100000
/-! An iterator over a row of items holds the row and the next item's place. Of its kind are the list's and the tuple's: one text serves both. -/
abbrev itObj (c : String) (l : Addr) (i : Nat) : Obj := { cls := .type c, data := .fields #[.ref l, .int i 0] }
abbrev itEnd (c : String) (i : Nat) : Obj := { cls := .type c, data := .fields #[.none, .int i 0] }
abbrev liObj (l : Addr) (i : Nat) : Obj := itObj "list_iterator" l i
abbrev liEnd (i : Nat) : Obj := itEnd "list_iterator" i
def Up (c : String) : Prop := c = "list_iterator" ∨ c = "tuple_iterator"
section
variable {prog : Program} {w : World} {A : Around} {E : Value → Shared → Prop} {s : Shared} {h₀ : Heap} {L l it : Addr} {m : Str → Option Value} {news : List (Addr × Obj)} {items : Array Value} {n i : Nat} {x : Value} {c : String}
theorem first_none : firstArgMember (.type "StopIteration") [] = pure .none := by unfold firstArgMember; kernel_rfl
/-- a StopIteration with nothing in it -/
theorem stop_raises {α : Type} {Q : α → Shared → Prop} (hh : A.handled = none) (h : ∀ h' e, Heap.NewExc s.heap h' e "StopIteration" → E (.ref e) { s with heap := h' }) :
    wpAny (model prog w) A (Builtin.SmallTypes.stopIteration : Sem α) Q E s := by
  have made : wpAny (model prog w) A (newExc (.type "StopIteration") []) (fun e s' => wpAny (model prog w) A (raiseNew e : Sem α) Q E s') E s :=
    wpAny_bind (m := newTuple []) (wpAny_newTuple (wpAny_bind (wpAny_of_eq first_none (wpAny_newObj_type (wpAny_raiseNew_none hh (h _ _ {
      keeps := fun b o e => Heap.get?_push_of_some _ (Heap.get?_push_of_some _ e)
      new := Heap.get?_none_of_le (by rw [Heap.size_push]; exact Nat.le_succ _)
      there := ⟨_, _, Heap.get?_push_size _ rfl, rfl, rfl⟩ }))))))
  exact wpAny_bind made
/-- the step where an item is left -/
theorem up_item {Q : Option Value → Shared → Prop} (hc : Up c) (ho : s.heap.get? it = some (itObj c l i)) {ol : Obj} (hol : s.heap.get? l = some ol) (hdl : ol.data = .seq items n) (hx : items[i]? = some x)
    (hQ : ∀ h', h'.get? it = some (itObj c l (i + 1)) → Heap.SameBut it s.heap h' → Q (some x) { s with heap := h' }) :
    wpAny (model prog w) A (callSpecial? (.ref it) (Str.ofString "__next__")) Q E s := by
  have hT : s.TypeIs (.ref it) c := ⟨_, ho, rfl⟩
  have at_i : items[((i : Nat) : Int).toNat]? = some x := by rw [Int.toNat_natCast]; exact hx
  rcases hc with rfl | rfl
  all_goals
    first
    | refine wpAny_callSpecial?_slot hT slot_listiter_next (wpAny_call_entry slot_listiter_next hT entry_listiter_next ?_ (args_listiter_next _))
    | refine wpAny_callSpecial?_slot hT PySem.F.slot_tuple_iterator_next (wpAny_call_entry PySem.F.slot_tuple_iterator_next hT PySem.F.entry_tuple_iterator_next ?_ (PySem.F.args_tuple_iterator_next_1 _))
    refine wpAny_bind (m := field (.ref it) 0) (wpAny_field ho rfl rfl (wpAny_ite_false rfl ?_))
    refine wpAny_bind (m := field (.ref it) 1) (wpAny_field ho rfl rfl ?_)
    refine wpAny_bind (m := seqItems? (.ref l)) (wpAny_seqItems hol hdl ?_)
    dsimp only
    rw [at_i]
    exact wpAny_bind (wpAny_setField_rec ho (Nat.lt_succ_self 1) fun h' e hs => wpAny_pure ⟨_, rfl, hQ h' e hs⟩)
/-- the step behind the last item -/
theorem up_end {Q : Option Value → Shared → Prop} (hh : A.handled = none) (hc : Up c) (ho : s.heap.get? it = some (itObj c l i)) {ol : Obj} (hol : s.heap.get? l = some ol) (hdl : ol.data = .seq items n) (hx : items[i]? = none)
    (hE : ∀ h₁ h' e, h₁.get? it = some (itEnd c i) → Heap.SameBut it s.heap h₁ → Heap.NewExc h₁ h' e "StopIteration" → E (.ref e) { s with heap := h' }) :
    wpAny (model prog w) A (callSpecial? (.ref it) (Str.ofString "__next__")) Q E s := by
  have hT : s.TypeIs (.ref it) c := ⟨_, ho, rfl⟩
  have at_i : items[((i : Nat) : Int).toNat]? = none := by rw [Int.toNat_natCast]; exact hx
  rcases hc with rfl | rfl
  all_goals
    first
    | refine wpAny_callSpecial?_slot hT slot_listiter_next (wpAny_call_entry slot_listiter_next hT entry_listiter_next ?_ (args_listiter_next _))
    | refine wpAny_callSpecial?_slot hT PySem.F.slot_tuple_iterator_next (wpAny_call_entry PySem.F.slot_tuple_iterator_next hT PySem.F.entry_tuple_iterator_next ?_ (PySem.F.args_tuple_iterator_next_1 _))
    refine wpAny_bind (m := field (.ref it) 0) (wpAny_field ho rfl rfl (wpAny_ite_false rfl ?_))
    refine wpAny_bind (m := field (.ref it) 1) (wpAny_field ho rfl rfl ?_)
    refine wpAny_bind (m := seqItems? (.ref l)) (wpAny_seqItems hol hdl ?_)
    dsimp only
    rw [at_i]
    refine wpAny_bind (wpAny_rule (wpAny_bind (wpAny_setField_rec ho (Nat.zero_lt_succ 1) fun h₁ e hs => ?_)))
    exact stop_raises (show A.in1.handled = none from hh) fun h' ex hn => hE h₁ h' ex e hs hn
/-- next() asks the iterator's own step -/
theorem next_asks {Q : Value → Shared → Prop} (hc : Up c) (ho : s.heap.get? it = some (itObj c l i)) (h : wpAny (model prog w) A.in1 (callSpecial? (.ref it) (Str.ofString "__next__")) (fun v s' => ∃ x, v = some x ∧ Q x s') E s) :
    wpAny (model prog w) A (call (.builtin "next") [.ref it]) Q E s := by
  have hT : s.TypeIs (.ref it) c := ⟨_, ho, rfl⟩
  have found : ∃ f, typeLookup (.type c) "__next__" = pure (some f) := by
    rcases hc with rfl | rfl
    · exact ⟨_, slot_listiter_next.lookup⟩
    · exact ⟨_, PySem.F.slot_tuple_iterator_next.lookup⟩
  obtain ⟨f, hf⟩ := found
  have pos : someArgs "next" 1 2 ⟨[Value.ref it], []⟩ = pure [Value.ref it] := by kernel_rfl
  refine call_function_entry (by decide +kernel) (by decide +kernel) kdk_entry_next (kdk_args_next _) (wpAny_bind (wpAny_of_eq pos ?_))
  show wpAny (model prog w) A.in1 (specialOf (Value.ref it) (Str.ofString "__next__") >>= _) _ E s
  refine wpAny_bind (wpAny_specialOf hT hf (wpAny_ite_false rfl (wpAny_bind (m := callSpecial? (Value.ref it) (Str.ofString "__next__")) (wpAny_mono h (fun v s' hv => ?_) fun _ _ e => e))))
  obtain ⟨x, rfl, hq⟩ := hv
  exact wpAny_pure ⟨_, rfl, hq⟩
/-- what the ledger keeps where its first object was written -/
theorem head_set {h h' : Heap} {o o' : Obj} (F : Fr h₀ L h m) (N : News h₀ L h ((it, o) :: news)) (hne : ∀ p ∈ news, p.1 ≠ it) (hs : Heap.SameBut it h h') (e : h'.get? it = some o') : Fr h₀ L h' m ∧ News h₀ L h' ((it, o') :: news) :=
  have own := (N _ (.head _)).2
  ⟨F.change hs own.1 own.2, News.setIn (own := []) N (fun _ h => nomatch h) hne hs e⟩
theorem li_next {Q : Value → Shared → Prop} (F : Fr h₀ L s.heap m) (N : News h₀ L s.heap ((it, liObj l i) :: news)) (hne : ∀ p ∈ news, p.1 ≠ it) (hl : (l, listOf items n) ∈ news) (hx : items[i]? = some x)
    (h : ∀ h', Fr h₀ L h' m → News h₀ L h' ((it, liObj l (i + 1)) :: news) → Q x { s with heap := h' }) :
    wpAny (model prog w) A (call (.builtin "next") [.ref it]) Q E s :=
  next_asks (.inl rfl) (N _ (.head _)).1 (up_item (.inl rfl) (N _ (.head _)).1 (N _ (.tail _ hl)).1 rfl hx fun h' e hs => have k := head_set F N hne hs e; ⟨x, rfl, h h' k.1 k.2⟩)
theorem li_stop {Q : Value → Shared → Prop} (hh : A.handled = none) (F : Fr h₀ L s.heap m) (N : News h₀ L s.heap ((it, liObj l i) :: news)) (hne : ∀ p ∈ news, p.1 ≠ it) (hl : (l, listOf items n) ∈ news) (hx : items[i]? = none)
    (h : ∀ h₁ h' e, Fr h₀ L h₁ m → News h₀ L h₁ ((it, liEnd i) :: news) → Heap.NewExc h₁ h' e "StopIteration" → E (.ref e) { s with heap := h' }) :
    wpAny (model prog w) A (call (.builtin "next") [.ref it]) Q E s :=
  next_asks (.inl rfl) (N _ (.head _)).1 (up_end hh (.inl rfl) (N _ (.head _)).1 (N _ (.tail _ hl)).1 rfl hx fun h₁ h' ex e hs hn => have k := head_set F N hne hs e; h h₁ h' ex k.1 k.2 hn)
end
end Mine
end
section
namespace Mine
set_option maxRecDepth 100000
local macro_rules | `(tactic| walk_at "mine enter") => `(tactic| (refine wpAny_call ?_; k_dflt (refine' code_def ?k1 ?k2 ?k3 ?k4 ?k5 ?kA ?kF ?kK ?k6 ?k7 ?k8 ?k9 ?kB ?_ ?c2 ?c3 ?c4 ?c5; (case kA => exact rfl); (case kF => exact rfl); (case kK => assumption); (case k1 => k_asm); (case k2 => k_asm); (case k3 => k_asm); (case k4 => k_asm); (case k5 => k_asm); (case k6 => k_is); (case k7 => k_is); (case k8 => ktr_room); (case k9 => exact BindsTo.of_eq rfl); (case c5 => decide); (case kB => exact locs rfl); (case c2 => exact rfl); (case c3 => exact rfl); (case c4 => exact rfl); k_whole)))
/-- what stands at the head of a row of octets, as a number, and how many octets it takes -/
noncomputable def rd (acc : Int) : List Int → Option (Int × Nat)
  | [] => none
  | b :: r => if b / 64 % 2 = 1 then (rd (acc * 64 + b % 64) r).map (fun p => (p.1, p.2 + 1)) else some (acc * 64 + b % 64, 1)

local macro_rules | `(tactic| walk_at "eval Name") => `(tactic| (k_here; k_dflt (refine' ld ?k1 ?k2 ?_; (case k1 => k_asm); (case k2 => first | exact rfl | assumption); k_whole)))
local macro_rules | `(tactic| walk_at "loadName") => `(tactic| (k_here; k_dflt (refine' ldn ?k1 ?k2 ?_; (case k1 => k_asm); (case k2 => first | exact rfl | assumption); k_whole)))
theorem int_item {vs : List Value} {ns : List Int} (h : IntsAre vs ns) {i : Nat} {b : Int} (hb : ns[i]? = some b) : ∃ t, vs[i]? = some (.int b t) := by
  induction h generalizing i with
  | nil => cases hb
  | cons n t h ih =>
    cases i with
    | zero => cases hb; exact ⟨_, rfl⟩
    | succ i => exact ih hb
theorem bit64 {b : Int} (h : 0 ≤ b ∧ b < 256) : (Builtin.bitAnd b 64 != 0) = decide (b / 64 % 2 = 1) := by
  have all : ∀ n : Fin 256, (Builtin.bitAnd ((n.val : Nat) : Int) 64 != 0) = decide (((n.val : Nat) : Int) / 64 % 2 = 1) := by decide +kernel
  have := all ⟨b.toNat, by omega⟩
  simpa [Int.toNat_of_nonneg h.1] using this
theorem and_low (x d : Nat) (hd : d < 64) : (x * 64) &&& d = 0 := by
  have h1 : d = 63 &&& d := by rw [Nat.and_comm, Nat.and_two_pow_sub_one_eq_mod d 6]; omega
  rw [h1, ← Nat.and_assoc, Nat.and_two_pow_sub_one_eq_mod (x * 64) 6]
  simp
theorem or_low {v b : Int} (hv : 0 ≤ v) : Builtin.bitOr (v * 2 ^ (6 : Int).toNat) (Builtin.bitAnd b 63) = v * 64 + b % 64 := by
  rw [bitOr_and, bitAnd_m6]
  have e : v * 2 ^ (6 : Int).toNat = v * 64 := rfl
  rw [e, bitAnd_pp (by omega) (by omega)]
  have : (v * 64).toNat &&& (b % 64).toNat = 0 := by
    have e2 : (v * 64).toNat = v.toNat * 64 := by omega
    rw [e2]
    exact and_low _ _ (by omega)
  rw [this]
  simp
theorem bits_of {v : Int} {i : Nat} (h : v.natAbs < 2 ^ (6 * i)) (hi : i ≤ 64) : (Builtin.Int.intBits v : Int) + 6 ≤ 2 ^ 27 := by
  have := intBits_le_iff.mpr h
  omega
theorem WhileStep2.go {h₀ h' : Heap} {L : Addr} {s : Shared} {J : Nat → (Str → Option Value) → List (Addr × Obj) → Prop} {Q : Flow → Shared → Prop} {n n' tk : Nat} {m₂ : Str → Option Value} {news₂ : List (Addr × Obj)}
    (F : Fr h₀ L h' m₂) (N : News h₀ L h' news₂) (hn : n' < n) (hJ : J n' m₂ news₂) : WhileStep2 h₀ L s J Q n .next { s with heap := h', toks := tk } :=
  ⟨h', tk, m₂, news₂, n', rfl, F, N, hn, hJ⟩
def parseJ (ns : List Int) (l it : Addr) (i₀ : Nat) (news : List (Addr × Obj)) (n : Nat) (m : Str → Option Value) (nx : List (Addr × Obj)) : Prop :=
  ∃ (i : Nat) (b val : Int) (tb tv : Tok), m (Str.ofString "iterator") = some (.ref it) ∧ m (Str.ofString "b") = some (.int b tb) ∧ m (Str.ofString "val") = some (.int val tv) ∧ nx = (it, liObj l i) :: news ∧ n = ns.length - i ∧ i ≤ ns.length ∧
    (0 ≤ b ∧ b < 256) ∧ (0 ≤ val ∧ val.natAbs < 2 ^ (6 * i)) ∧ i₀ ≤ i ∧ rd 0 (ns.drop i₀) = (if b / 64 % 2 = 1 then (rd val (ns.drop i)).map (fun p => (p.1, p.2 + (i - i₀))) else some (val, i - i₀))
set_option maxHeartbeats 8000000 in
theorem parse (w : World) (ns : List Int) (vs : List Value) (c : Nat) (l it : Addr) (i₀ : Nat) (news : List (Addr × Obj)) (hI : IntsAre vs ns) (hlen : ns.length ≤ 64) (hb : ∀ b ∈ ns, 0 ≤ b ∧ b < 256)
  (hne : ∀ p ∈ news, p.1 ≠ it) (hl : (l, listOf vs.toArray c) ∈ news)
  (mean : ExcName → Option Value) (mg mb : Str → Option Value) (dp un : Nat) (gd : Option (List Code)) (cn : Str) (cs : Scope) (a : Addr) (ccd : Value) (cl : List (Str × Addr)) (outer : List Env) (A₀ : Around) (base h₀ : Heap) (L : Addr) (m : Str → Option Value) (s : Shared) (Q E : Value → Shared → Prop)
  (B : Below A₀ base outer h₀) (F : Fr h₀ L s.heap m) (X : (Mine.hd.heap_39 w.params).In h₀) (N : News h₀ L s.heap ((it, liObj l i₀) :: news))
  (T : Top Mine.hd.view_39 (looseW Mine.hd.view_39 [Str.ofString "_filemode_table"]) mean mg mb h₀) (hk : cs.kind = .function) (hd : dp + 1 < recursionLimit) (hu : un + 16 < cLine)
  (hok : ∀ v k t h' tk', rd 0 (ns.drop i₀) = some (v, k) → Fr h₀ L h' m → News h₀ L h' ((it, liObj l (i₀ + k)) :: news) → Q (.int v t) { s with heap := h', toks := tk' })
  (hex : ∀ e g h' tk' i, rd 0 (ns.drop i₀) = none → Fr h₀ L g m → RaisedN base (envX cn cs L a ccd cl :: outer) e (.type "StopIteration") ((it, liEnd i) :: news) h' → g.UpToSlots h' → E (.ref e) { s with heap := h', toks := tk' }) :
  wpAny (model Challenge.rw_oc0033_01.prog w) (ktrTop dp un gd cn cs L a ccd cl outer) (call (.ref 21) [.ref it]) Q E s := by
  revert X
  k_fill
  intro X
  walk_at "mine enter"
  intro g L' h₁ FG F' N' B' X' T'
  dsimp only
  obtain ⟨m1, F1, hm1⟩ : ∃ m1, Fr g L' h₁ m1 ∧ m1 (Str.ofString "iterator") = some (.ref it) := ⟨_, F', rfl⟩
  clear F'
  iterate 9 walk1
  by_cases hi : i₀ < ns.length
  · obtain ⟨b, hbn⟩ : ∃ b, ns[i₀]? = some b := ⟨_, List.getElem?_eq_getElem hi⟩
    obtain ⟨t, hv⟩ := int_item hI hbn
    refine li_next F1 N' hne hl (by simpa using hv) fun h₂ F2 N2 => ?_
    clear N' F1
    iterate 9 walk1
    walk1
    refine While_inv2 (parseJ ns l it i₀ news) (by assumption) (by assumption) (n₀ := ns.length - (i₀ + 1)) ?_ ?_
    · have hd0 : ns.drop i₀ = b :: ns.drop (i₀ + 1) := by rw [List.getElem?_eq_some_iff] at hbn; obtain ⟨h1, h2⟩ := hbn; rw [← h2]; exact List.drop_eq_getElem_cons h1
      have hb0 := hb b (List.mem_of_getElem? hbn)
      refine ⟨i₀ + 1, b, Builtin.bitAnd b 63, _, _, hm1, rfl, rfl, rfl, rfl, hi, hb0, ?_, by omega, ?_⟩
      · rw [bitAnd_m6]
        have : 2 ^ 6 ≤ 2 ^ (6 * (i₀ + 1)) := Nat.pow_le_pow_right (by decide) (by omega)
        omega
      · rw [bitAnd_m6, hd0, rd, Nat.add_sub_cancel_left]
        simp
    · rintro n m2 nx h₃ tk₃ F3 N3 ⟨i, b, val, tb, tv, e1, e2, e3, e4, e5, e6, e7, e8, e9, e10⟩
      subst e4
      iterate 6 walk1
      rw [bit64 e7]
      by_cases hc : b / 64 % 2 = 1
      · rw [if_pos (by simpa using hc)]
        rw [if_pos hc] at e10
        iterate 5 walk1
        refine ilshift_int (by decide) (bits_of e8.2 (by omega)) ?_
        iterate 9 walk1
        by_cases hi2 : i < ns.length
        · obtain ⟨b2, hbn2⟩ : ∃ b, ns[i]? = some b := ⟨_, List.getElem?_eq_getElem hi2⟩
          obtain ⟨t2, hv2⟩ := int_item hI hbn2
          refine li_next (by assumption) (by assumption) hne hl (by simpa using hv2) fun h₂ F2 N2 => ?_
          have hb2 := hb b2 (List.mem_of_getElem? hbn2)
          have hd2 : ns.drop i = b2 :: ns.drop (i + 1) := by rw [List.getElem?_eq_some_iff] at hbn2; obtain ⟨h1, h2⟩ := hbn2; rw [← h2]; exact List.drop_eq_getElem_cons h1
          iterate 11 walk1
          refine wpAny_execs_nil (WhileStep2.go (by assumption) (by assumption) (n' := ns.length - (i + 1)) (by omega) ?_)
          refine ⟨i + 1, b2, _, _, _, e1, rfl, rfl, rfl, rfl, hi2, hb2, ?_, by omega, ?_⟩
          · rw [or_low e8.1]
            have : 2 ^ (6 * (i + 1)) = 2 ^ (6 * i) * 64 := by rw [Nat.mul_add, Nat.pow_add]
            omega
          · rw [or_low e8.1, e10, hd2, rd]
            by_cases hc2 : b2 / 64 % 2 = 1
            · rw [if_pos hc2, if_pos hc2, Option.map_map]
              congr 1
              funext p
              show (p.1, p.2 + 1 + (i - i₀)) = (p.1, p.2 + (i + 1 - i₀))
              rw [show p.2 + 1 + (i - i₀) = p.2 + (i + 1 - i₀) by omega]
            · rw [if_neg hc2, if_neg hc2]
              show some (_, 1 + (i - i₀)) = some (_, i + 1 - i₀)
              rw [show 1 + (i - i₀) = i + 1 - i₀ by omega]
        · have hvn : vs.toArray[i]? = none := by have := hI.length; simp only [List.getElem?_toArray]; exact List.getElem?_eq_none (by omega)
          have hd2 : ns.drop i = [] := List.drop_eq_nil_of_le (by omega)
          refine li_stop rfl (by assumption) (by assumption) hne hl hvn fun h₂ h₃ e F2 N2 hx => ?_
          refine leave_newK B' hx F2 N2 fun h₄ R U => ?_
          exact hex _ _ _ _ _ (by rw [e10, hd2]; rfl) FG R U
      · rw [if_neg (by simpa using hc)]
        rw [if_neg hc] at e10
        dsimp only
        iterate 4 walk1
        refine leaveK_ (by assumption) (by assumption) fun kF kN => ?_
        dsimp only
        have e11 : i₀ + (i - i₀) = i := by omega
        exact hok _ _ _ _ _ e10 kF (by rw [e11]; exact kN)
  · have hn : ns[i₀]? = none := List.getElem?_eq_none (by omega)
    have hvn : vs.toArray[i₀]? = none := by have := hI.length; simp only [List.getElem?_toArray]; exact List.getElem?_eq_none (by omega)
    have hd0 : ns.drop i₀ = [] := List.drop_eq_nil_of_le (by omega)
    refine li_stop rfl F1 N' hne hl hvn fun h₂ h₃ e F2 N2 hx => ?_
    refine leave_newK B' hx F2 N2 fun h₄ R U => ?_
    exact hex _ _ _ _ _ (by rw [hd0]; rfl) FG R U
end Mine
end
section
namespace Mine
set_option maxRecDepth 100000
def FStep (h₀ : Heap) (L : Addr) (s : Shared) (St : List (Addr × Obj)) (own : List Addr) (J : (Str → Option Value) → List (Addr × Obj) → Prop) (Q : Flow → Shared → Prop) (f : Flow) (s₃ : Shared) : Prop :=
  match f with
  | .next | .cont => ∃ h' tk m' news', s₃ = { s with heap := h', toks := tk } ∧ Fr h₀ L h' m' ∧ News h₀ L h' (St ++ news') ∧ (∀ p ∈ news', p.1 ∉ own) ∧ J m' news'
  | .brk => Q .next s₃
  | .ret v => Q (.ret v) s₃
theorem FStep.go {h₀ h' : Heap} {L : Addr} {s : Shared} {St news' all : List (Addr × Obj)} {own : List Addr} {J : (Str → Option Value) → List (Addr × Obj) → Prop} {Q : Flow → Shared → Prop} {tk : Nat} {m' : Str → Option Value}
    (F : Fr h₀ L h' m') (N : News h₀ L h' all) (hs : ∀ p ∈ St ++ news', p ∈ all) (ho : ∀ p ∈ news', p.1 ∉ own) (hJ : J m' news') : FStep h₀ L s St own J Q .next { s with heap := h', toks := tk } :=
  ⟨h', tk, m', news', rfl, F, fun p hp => N p (hs p hp), ho, hJ⟩
section
variable {prog : Program} {w : World} {A : Around} {E : Value → Shared → Prop} {s : Shared} {env : Env} {h₀ : Heap} {target : Expr} {body orelse : List Stmt} {Q : Flow → Shared → Prop} {m : Str → Option Value} {news : List (Addr × Obj)}

structure Feed (prog : Program) (w : World) (A : Around) (h₀ : Heap) (L : Addr) (target : Expr) (it : Value) (n : Nat) (St : Nat → List (Addr × Obj)) (own : List Addr) (val : Nat → Value → List (Addr × Obj) → Prop) : Prop where
  next : ∀ i (s : Shared) (Q : Value → Shared → Prop) (E : Value → Shared → Prop) m news, i < n → Fr h₀ L s.heap m → News h₀ L s.heap (St i ++ news) → (∀ p ∈ news, p.1 ∉ own) →
    (∀ v h' tk extra, val i v extra → Fr h₀ L h' m → News h₀ L h' (extra ++ St (i + 1) ++ news) → Q v { s with heap := h', toks := tk }) →
    wpAny (model prog w) A (pyNext it) (fun r s₁ => ∃ v, r = some v ∧ wpAny (model prog w) A (letOwnedTupleGo target it v) (fun _ s₂ => Q v s₂) E s₁) E s
  last : ∀ (s : Shared) (Q : Option Value → Shared → Prop) (E : Value → Shared → Prop) m news, Fr h₀ L s.heap m → News h₀ L s.heap (St n ++ news) → (∀ p ∈ news, p.1 ∉ own) →
    (∀ h' tk, Fr h₀ L h' m → News h₀ L h' news → Q none { s with heap := h', toks := tk }) → wpAny (model prog w) A (pyNext it) Q E s

theorem for_gen {it : Value} {n : Nat} {St : Nat → List (Addr × Obj)} {own : List Addr} {val : Nat → Value → List (Addr × Obj) → Prop} (W : Feed prog w A h₀ env.locals target it n St own val)
    (J : Nat → (Str → Option Value) → List (Addr × Obj) → Prop) (F : Fr h₀ env.locals s.heap m) (N : News h₀ env.locals s.heap (St 0 ++ news)) (hoff : ∀ p ∈ news, p.1 ∉ own) (h0 : J 0 m news)
    (step : ∀ i v extra m₁ news₁ h₁ tk₁, i < n → val i v extra → J i m₁ news₁ → (∀ p ∈ news₁, p.1 ∉ own) → Fr h₀ env.locals h₁ m₁ → News h₀ env.locals h₁ (extra ++ St (i + 1) ++ news₁) →
      wpAny (model prog w) A (assign target env v) (fun _ s₂ => wpAny (model prog w) A (execs body env) (FStep h₀ env.locals s (St (i + 1)) own (J (i + 1)) Q) E s₂) E { s with heap := h₁, toks := tk₁ })
    (fin : ∀ m₁ news₁ h₁ tk₁, J n m₁ news₁ → (∀ p ∈ news₁, p.1 ∉ own) → Fr h₀ env.locals h₁ m₁ → News h₀ env.locals h₁ news₁ → wpAny (model prog w) A (execs orelse env) Q E { s with heap := h₁, toks := tk₁ })
    (hE : PassesOwn (model prog w) A env E) :
    codeAny (model prog w) A (.forLoop target it body orelse env) (fun r s' => match r with | .ok f => Q f s' | .error e => cameBackBy (model prog w) A env E e s') s := by
  refine codeAny_forLoop_any (fun k s' => ∃ h' tk m' news' i, s' = { s with heap := h', toks := tk } ∧ Fr h₀ env.locals h' m' ∧ News h₀ env.locals h' (St i ++ news') ∧ (∀ p ∈ news', p.1 ∉ own) ∧ J i m' news' ∧ i ≤ n ∧ k = n + 1 - i) ?_ (n + 1)
    ⟨s.heap, s.toks, m, news, 0, rfl, F, N, hoff, h0, Nat.zero_le _, rfl⟩
  rintro k s' ⟨h', tk, m', news', i, rfl, F', N', hoff', hJ, hi, rfl⟩
  by_cases hlt : i < n
  · refine wpAny_mono (W.next i { s with heap := h', toks := tk } (fun v s₂ => wpAny (model prog w) A (assign target env v) (fun _ s₃ => wpAny (model prog w) A (execs body env) (fun f s₄ => match f with
        | .next | .cont => ∃ m, m < n + 1 - i ∧ ∃ h' tk m' news' i, s₄ = { s with heap := h', toks := tk } ∧ Fr h₀ env.locals h' m' ∧ News h₀ env.locals h' (St i ++ news') ∧ (∀ p ∈ news', p.1 ∉ own) ∧ J i m' news' ∧ i ≤ n ∧ m = n + 1 - i
        | .brk => Q .next s₄
        | .ret v => Q (.ret v) s₄) (notedBy (model prog w) A env (cameBackBy (model prog w) A env E)) s₃) (notedBy (model prog w) A env (cameBackBy (model prog w) A env E)) s₂)
        (notedBy (model prog w) A env (cameBackBy (model prog w) A env E)) m' news' hlt F' N' hoff' ?_) ?_ fun _ _ e => e
    · intro v h₁ tk₁ extra hv F₁ N₁
      refine wpAny_mono (step i v extra m' news' h₁ tk₁ hlt hv hJ hoff' F₁ N₁) (fun _ s₃ h₃ => wpAny_mono h₃ (fun f s₄ h₄ => ?_) hE) hE
      cases f with
      | ret v => exact h₄
      | brk => exact h₄
      | next =>
        obtain ⟨h₅, tk₅, m₅, news₅, e, F₅, N₅, o₅, J₅⟩ := h₄
        exact ⟨n + 1 - (i + 1), by omega, h₅, tk₅, m₅, news₅, i + 1, e, F₅, N₅, o₅, J₅, hlt, rfl⟩
      | cont =>
        obtain ⟨h₅, tk₅, m₅, news₅, e, F₅, N₅, o₅, J₅⟩ := h₄
        exact ⟨n + 1 - (i + 1), by omega, h₅, tk₅, m₅, news₅, i + 1, e, F₅, N₅, o₅, J₅, hlt, rfl⟩
    · rintro r s₁ ⟨v, rfl, h₁⟩
      exact h₁
  · have hin : i = n := by omega
    subst hin
    refine W.last _ _ _ _ _ F' N' hoff' fun h₁ tk₁ F₁ N₁ => ?_
    exact wpAny_mono (fin m' news' h₁ tk₁ hJ hoff' F₁ N₁) (fun _ _ x => x) hE

theorem For_gen {iter : Expr} {pos : Pos} 
    (h : wpAny (model prog w) A (eval iter env) (fun x s₁ => wpAny (model prog w) A (pyIter x) (fun it s₂ =>
      codeAny (model prog w) A (.forLoop target it body orelse env) (fun r s' => match r with | .ok f => Q f s' | .error e => cameBackBy (model prog w) A env E e s') s₂) E s₁) E s)
    (hs : ∀ x, foldedSetIterable iter env x = pure x := by intro _; rfl) :
    wpAny (model prog w) A (exec (.For target iter body orelse pos) env) Q E s := wpAny_For h hs
end

/-! the iterators -/
abbrev tiObj (l : Addr) (i : Nat) : Obj := itObj "tuple_iterator" l i
abbrev tupOf (its : Array Value) : Obj := { cls := .type "tuple", data := .seq its }
abbrev enObj (it : Addr) (i : Nat) (old : Value) : Obj := { cls := .type "enumerate", data := .fields #[.none, .bool false, .ref it, rawInt i, .none, old] }
section
variable {prog : Program} {w : World} {A : Around} {h₀ : Heap} {L : Addr} {target : Expr} {m : Str → Option Value} {news : List (Addr × Obj)}
theorem go_other {E : Value → Shared → Prop} {s : Shared} {Q : Unit → Shared → Prop} {I l : Addr} {i : Nat} {c : String} {v : Value} (ho : s.heap.get? I = some { cls := .type c, data := .fields #[.ref l, .int i 0] }) (hc : c = "list_iterator" ∨ c = "tuple_iterator") (h : Q () s) :
    wpAny (model prog w) A (letOwnedTupleGo target (.ref I) v) Q E s := by
  have hn : (["enumerate", "zip", "dict_itemiterator", "dict_reverseitemiterator", "odict_iterator", "itertools.zip_longest", "itertools.pairwise"].contains c) = false := by
    rcases hc with rfl | rfl <;> decide
  unfold letOwnedTupleGo
  split
  · cases v with
    | ref T =>
      refine wpAny_bind (wpAny_load ho ?_)
      dsimp only
      rw [if_neg (by rw [hn, Bool.false_and]; exact Bool.false_ne_true)]
      exact wpAny_pure h
    | _ => exact wpAny_pure h
  · cases v with
    | ref T =>
      refine wpAny_bind (wpAny_load ho ?_)
      dsimp only
      rw [if_neg (by rw [hn, Bool.false_and]; exact Bool.false_ne_true)]
      exact wpAny_pure h
    | _ => exact wpAny_pure h
  · exact wpAny_pure h
section
variable {E : Value → Shared → Prop} {s : Shared} {l it : Addr} {items : Array Value} {i : Nat} {x : Value}
theorem up_pyNext {c : String} {ol : Obj} {n : Nat} {Q : Option Value → Shared → Prop} (hc : Up c) (N : News h₀ L s.heap ((it, itObj c l i) :: news)) (F : Fr h₀ L s.heap m) (hne : ∀ p ∈ news, p.1 ≠ it) (hol : s.heap.get? l = some ol) (hdl : ol.data = .seq items n) (hx : items[i]? = some x)
    (hQ : ∀ h', Fr h₀ L h' m → News h₀ L h' ((it, itObj c l (i + 1)) :: news) → Q (some x) { s with heap := h' }) : wpAny (model prog w) A (pyNext (.ref it)) Q E s :=
  wpAny_bind (wpAny_attempt (up_item hc (N _ (.head _)).1 hol hdl hx fun h' e hs => have k := head_set F N hne hs e; wpAny_pure (hQ h' k.1 k.2)))
theorem li_pyNext {Q : Option Value → Shared → Prop} (N : News h₀ L s.heap ((it, liObj l i) :: news)) (F : Fr h₀ L s.heap m) (hne : ∀ p ∈ news, p.1 ≠ it) (hl : s.heap.IsList l items) (hx : items[i]? = some x)
    (hQ : ∀ h', Fr h₀ L h' m → News h₀ L h' ((it, liObj l (i + 1)) :: news) → Q (some x) { s with heap := h' }) : wpAny (model prog w) A (pyNext (.ref it)) Q E s :=
  let ⟨_, hol, _, _, hdl⟩ := hl
  up_pyNext (.inl rfl) N F hne hol hdl hx hQ
theorem ti_pyNext {Q : Option Value → Shared → Prop} (N : News h₀ L s.heap ((it, tiObj l i) :: news)) (F : Fr h₀ L s.heap m) (hne : ∀ p ∈ news, p.1 ≠ it) (hl : s.heap.IsTuple l items) (hx : items[i]? = some x)
    (hQ : ∀ h', Fr h₀ L h' m → News h₀ L h' ((it, tiObj l (i + 1)) :: news) → Q (some x) { s with heap := h' }) : wpAny (model prog w) A (pyNext (.ref it)) Q E s :=
  let ⟨_, hol, _, _, hdl⟩ := hl
  up_pyNext (.inr rfl) N F hne hol hdl hx hQ
end
/-- what is kept behind an iterator's end -/
theorem end_keep {h h' : Heap} {it : Addr} {o : Obj} (F : Fr h₀ L h m) (N : News h₀ L h ((it, o) :: news)) (hne : ∀ p ∈ news, p.1 ≠ it) (hx : Heap.ExtBut it h h') : Fr h₀ L h' m ∧ News h₀ L h' news := by
  have hm := N (it, o) (.head _)
  refine ⟨⟨?_, fun b o' e => ?_, F.above⟩, fun p hp => ⟨hx _ _ (hne p hp) (N p (.tail _ hp)).1, (N p (.tail _ hp)).2⟩⟩
  · exact F.ns.extBut hx (Ne.symm hm.2.1)
  · refine hx b o' (fun q => ?_) (F.keep b o' e)
    subst q
    rw [hm.2.2] at e
    cases e
theorem feed_tup (hh : A.handled = none) (I t : Addr) (items : Array Value) (ht : ∀ h m, Fr h₀ L h m → h.IsTuple t items) :
    Feed prog w A h₀ L target (.ref I) items.size (fun i => [(I, tiObj t i)]) [I] (fun i v ex => items[i]? = some v ∧ ex = []) where
  next := fun i s Q E m news hi F N hoff hQ => by
    have hne : ∀ p ∈ news, p.1 ≠ I := fun p hp e => hoff p hp (by simp [e])
    refine ti_pyNext N F hne (ht _ _ F) (Array.getElem?_eq_getElem hi) fun h' F' N' => ⟨_, rfl, ?_⟩
    exact go_other (N' _ (.head _)).1 (.inr rfl) (hQ _ h' s.toks [] ⟨Array.getElem?_eq_getElem hi, rfl⟩ F' N')
  last := fun s Q E m news F N hoff hQ => by
    have hne : ∀ p ∈ news, p.1 ≠ I := fun p hp e => hoff p hp (by simp [e])
    have ho := (N _ (.head _)).1
    refine wpAny_pyNext_tuple_end hh ⟨_, ho, rfl, rfl⟩ (ht _ _ F) (Array.getElem?_eq_none (Nat.le_refl _)) fun h' hx => ?_
    obtain ⟨F', N'⟩ := end_keep F N hne hx
    exact hQ h' s.toks F' N'
theorem feed_list (hh : A.handled = none) (I t : Addr) (items : Array Value) (ht : ∀ h m, Fr h₀ L h m → h.IsList t items) :
    Feed prog w A h₀ L target (.ref I) items.size (fun i => [(I, liObj t i)]) [I] (fun i v ex => items[i]? = some v ∧ ex = []) where
  next := fun i s Q E m news hi F N hoff hQ => by
    have hne : ∀ p ∈ news, p.1 ≠ I := fun p hp e => hoff p hp (by simp [e])
    refine li_pyNext N F hne (ht _ _ F) (Array.getElem?_eq_getElem hi) fun h' F' N' => ⟨_, rfl, ?_⟩
    exact go_other (N' _ (.head _)).1 (.inl rfl) (hQ _ h' s.toks [] ⟨Array.getElem?_eq_getElem hi, rfl⟩ F' N')
  last := fun s Q E m news F N hoff hQ => by
    have hne : ∀ p ∈ news, p.1 ≠ I := fun p hp e => hoff p hp (by simp [e])
    have ho := (N _ (.head _)).1
    refine wpAny_pyNext_list_end hh ⟨_, ho, rfl, rfl⟩ (ht _ _ F) (Array.getElem?_eq_none (Nat.le_refl _)) fun h' hx => ?_
    obtain ⟨F', N'⟩ := end_keep F N hne hx
    exact hQ h' s.toks F' N'
/-- a list of the ledger's own -/
theorem feed_own (hh : A.handled = none) (I t : Addr) (items : Array Value) (c : Nat) (hIt : t ≠ I) :
    Feed prog w A h₀ L target (.ref I) items.size (fun i => [(I, liObj t i), (t, listOf items c)]) [I, t] (fun i v ex => items[i]? = some v ∧ ex = []) where
  next := fun i s Q E m news hi F N hoff hQ => by
    have hne : ∀ p ∈ (t, listOf items c) :: news, p.1 ≠ I := fun p hp e => by
      rcases List.mem_cons.mp hp with rfl | hp
      · exact hIt e
      · exact hoff p hp (by simp [e])
    refine li_pyNext N F hne ⟨_, (N _ (.tail _ (.head _))).1, rfl, _, rfl⟩ (Array.getElem?_eq_getElem hi) fun h' F' N' => ⟨_, rfl, ?_⟩
    exact go_other (N' _ (.head _)).1 (.inl rfl) (hQ _ h' s.toks [] ⟨Array.getElem?_eq_getElem hi, rfl⟩ F' N')
  last := fun s Q E m news F N hoff hQ => by
    have hne : ∀ p ∈ (t, listOf items c) :: news, p.1 ≠ I := fun p hp e => by
      rcases List.mem_cons.mp hp with rfl | hp
      · exact hIt e
      · exact hoff p hp (by simp [e])
    have ho := (N _ (.head _)).1
    refine wpAny_pyNext_list_end hh ⟨_, ho, rfl, rfl⟩ ⟨_, (N _ (.tail _ (.head _))).1, rfl, _, rfl⟩ (Array.getElem?_eq_none (Nat.le_refl _)) fun h' hx => ?_
    obtain ⟨F', N'⟩ := end_keep F N hne hx
    exact hQ h' s.toks F' fun p hp => N' p (.tail _ hp)
end
end Mine
end
section
open AutoSeq1 (wpAny_loadPart')
namespace Mine
set_option maxRecDepth 100000
section
variable {prog : Program} {w : World} {A : Around} {E : Value → Shared → Prop} {s : Shared} {h₀ : Heap} {L : Addr} {m : Str → Option Value} {news : List (Addr × Obj)}
set_option maxHeartbeats 1000000 in
theorem meets_enum_tup (l : Addr) (items : Array Value) (n : Nat) (dct : Option Addr) (sl : Array (Option Value)) :
    Meets (Builtin.«enumerate.__new__» ⟨[.type "enumerate", .ref l], []⟩) (fun _ R s => s.heap.get? l = some { cls := .type "tuple", dict := dct, data := .seq items n, slots := sl } ∧
      R (.ok (.ret (.ref (s.heap.push (tiObj l 0)).objs.size)))
        { s with heap := (s.heap.push (tiObj l 0)).push (enObj s.heap.objs.size 0 .none) }) :=
  .of_wp fun prog w A R s h => by
    rcases s with ⟨hp, g, d, tk, os⟩
    have tup : Heap.IsTuple (Shared.heap ⟨hp, g, d, tk, os⟩) l items := ⟨_, h.1, rfl, n, rfl⟩
    have self := sub_enumerate
    wp_walk using wpAny_loadPart' h.1
    refine wpAny_stack_any fun _ => wpAny_pure ?_
    split
    all_goals try (rename_i k _ _ _ _ _; cases k == Value.type "enumerate")
    all_goals
      wp_walk using wpAny_loadPart' h.1, wpAny_pyIter_tuple tup
      exact ⟨_, rfl, h.2⟩
theorem call_enum_tup {l : Addr} {items : Array Value} {Q : Value → Shared → Prop} (F : Fr h₀ L s.heap m) (N : News h₀ L s.heap news) (hL : s.heap.IsTuple l items)
    (h : ∀ h' I, Fr h₀ L h' m → News h₀ L h' ((I + 1, enObj I 0 .none) :: (I, tiObj l 0) :: news) → (∀ p ∈ news, p.1 < I) → Q (.ref (I + 1)) { s with heap := h' }) :
    wpAny (model prog w) A (call (.type "enumerate") [.ref l]) Q E s := by
  obtain ⟨⟨c, dct, dt, sl⟩, hl, hc, n, hd⟩ := hL
  replace hc : c = .type "tuple" := hc
  replace hd : dt = .seq items n := hd
  subst hc hd
  refine callType_new PySem.F.called_enumerate (by decide) (PySem.F.typeCall_enumerate_1 _) (PySem.F.newCall_enumerate_1 _) (fun obj => PySem.F.args_object_init_2 obj _) PySem.F.entry_enumerate_new
    (meets_enum_tup l items n dct sl) ⟨hl, ?_⟩
  have hz : (s.heap.push (tiObj l 0)).objs.size = s.heap.objs.size + 1 := Heap.size_push ..
  have F1 := F.push (tiObj l 0)
  have N1 := N.push F (tiObj l 0)
  have F2 := F1.push (enObj s.heap.objs.size 0 .none)
  have N2 := N1.push F1 (enObj s.heap.objs.size 0 .none)
  rw [hz] at N2
  show _ ∧ _
  rw [hz]
  exact ⟨⟨_, (N2 _ (.head _)).1, rfl⟩, h _ _ F2 N2 fun p hp => Heap.lt_size (N p hp).1⟩
/-- the tuple's iterator as a source that an enumerate may draw from -/
theorem draws_tup (hh : A.handled = none) (it l : Addr) (hne : l ≠ it) (items : Array Value) :
    Draws prog w A it [it, l] items.size (fun i v => items[i]? = some v) (fun i h => h.get? it = some (tiObj l i) ∧ h.IsTuple l items) where
  live := fun _ _ st => ⟨_, st.1⟩
  frame := fun _ _ _ st keep => ⟨keep it (.head _) _ st.1, let ⟨o, ho, r⟩ := st.2; ⟨o, keep l (.tail _ (.head _)) o ho, r⟩⟩
  item := fun i s Q E hi st hQ => by
    obtain ⟨o, ho, r, n, hd⟩ := st.2
    have hx := Array.getElem?_eq_getElem hi
    exact wpAny_bind (up_item (.inr rfl) st.1 ho hd hx fun h' e hs => wpAny_pure (hQ _ h' s.toks hx ⟨e, o, (hs.2 l hne).trans ho, r, n, hd⟩ hs))
  done := fun s Q E st hE => by
    obtain ⟨o, ho, r, n, hd⟩ := st.2
    refine wpAny_bind (up_end hh (.inr rfl) st.1 ho hd (Array.getElem?_eq_none (Nat.le_refl _)) fun h₁ h' ex _ hs hn => hE h' ex (fun b o hb e => hn.keeps b o ((hs.2 b hb).trans e)) ?_)
    obtain ⟨ob, _, e, k, _⟩ := hn.there
    exact ⟨ob, e, k⟩
/-- a tuple is no iterator -/
theorem tup_off {h : Heap} {I t : Addr} {items : Array Value} {c : String} {dt : Data} (hI : h.get? I = some { cls := .type c, data := dt }) (ht : h.IsTuple t items) (hc : c ≠ "tuple") : t ≠ I := by
  rintro rfl
  obtain ⟨o, ho, r, _⟩ := ht
  rw [hI] at ho
  cases ho
  exact hc (Value.type.inj r)
def oldOf (items : Array Value) : Nat → Value
  | 0 => .none
  | i + 1 => items[i]?.getD .none
theorem feed_enum (hh : A.handled = none) (I t : Addr) (items : Array Value) (ht : ∀ h m, Fr h₀ L h m → h.IsTuple t items) {elts : List Expr} {k : Nat} {pos : Pos} :
    Feed prog w A h₀ L (.Tuple elts k pos) (.ref (I + 1)) items.size (fun i => [(I + 1, enObj I i (oldOf items i)), (I, tiObj t i)]) [I + 1, I]
      (fun i v ex => ∃ T tk x, items[i]? = some x ∧ v = .ref T ∧ ex = [(T, tupOf #[.int i tk, x])]) where
  next := fun i s Q E m news hi F N hoff hQ => by
    have hne : ∀ p ∈ news, p.1 ≠ I + 1 ∧ p.1 ≠ I := fun p hp => ⟨fun e => hoff p hp (by simp [e]), fun e => hoff p hp (by simp [e])⟩
    have he := N _ (.head _)
    have hi' := N _ (.tail _ (.head _))
    have htI : t ≠ I := tup_off hi'.1 (ht _ _ F) (by decide)
    have htE : t ≠ I + 1 := tup_off he.1 (ht _ _ F) (by decide)
    refine wpAny_pyNext_enum_itemD (draws_tup (A := A.in1) hh I t htI items) he.1 ⟨hi'.1, ht _ _ F⟩ hi (Nat.succ_ne_self I) (fun hm => ?_) fun x h' tk hx ho hit' hT' hsz hk => ⟨_, rfl, ?_⟩
    · rcases List.mem_cons.mp hm with e | hm
      · exact Nat.succ_ne_self I e
      · exact htE (List.mem_singleton.mp hm).symm
    refine wpAny_letOwnedTupleGo_enum ho fun h₂ he₂ hs₂ => ?_
    have hs₂' : Heap.SameBut (I + 1) h' h₂ := hs₂
    have helt : I + 1 < s.heap.objs.size := Heap.lt_size he.1
    have keep : ∀ b o, b ≠ I + 1 → b ≠ I → s.heap.get? b = some o → h₂.get? b = some o := fun b o hb1 hb2 e => hs₂'.extBut b o hb1 (hk b o hb1 hb2 e)
    have F₂ : Fr h₀ L h₂ m := by
      refine ⟨?_, fun b o e => keep b o (fun q => ?_) (fun q => ?_) (F.keep b o e), F.above⟩
      · obtain ⟨oL, a1, a2, hoL, a3⟩ := F.ns
        exact ⟨oL, a1, a2, keep L oL (Ne.symm he.2.1) (Ne.symm hi'.2.1) hoL, a3⟩
      · subst q; have := he.2.2; rw [e] at this; cases this
      · subst q; have := hi'.2.2; rw [e] at this; cases this
    refine hQ _ h₂ (tk + 1) [(s.heap.objs.size, tupOf #[.int i tk, x])] ⟨_, _, _, hx, rfl, rfl⟩ F₂ ?_
    intro p hp
    simp only [List.cons_append, List.nil_append, List.mem_cons] at hp
    rcases hp with rfl | rfl | rfl | hp
    · refine ⟨(hs₂'.2 _ (Nat.ne_of_gt helt)).trans hT', Nat.ne_of_gt (F.ns.lt), ktu_new F (Nat.le_refl _)⟩
    · refine ⟨?_, he.2⟩
      show h₂.get? (I + 1) = some (enObj I (i + 1) (oldOf items (i + 1)))
      have : oldOf items (i + 1) = x := by show items[i]?.getD .none = _; rw [hx]; rfl
      rw [this]
      exact he₂
    · exact ⟨(hs₂'.2 _ (Nat.ne_of_lt (Nat.lt_succ_self I))).trans hit'.1, hi'.2⟩
    · have hp' := N p (.tail _ (.tail _ hp))
      exact ⟨keep _ _ (hne p hp).1 (hne p hp).2 hp'.1, hp'.2⟩
  last := fun s Q E m news F N hoff hQ => by
    have hne : ∀ p ∈ news, p.1 ≠ I + 1 ∧ p.1 ≠ I := fun p hp => ⟨fun e => hoff p hp (by simp [e]), fun e => hoff p hp (by simp [e])⟩
    have he := N _ (.head _)
    have hi' := N _ (.tail _ (.head _))
    refine wpAny_pyNext_enum_endD (draws_tup (A := A.in1) hh I t (tup_off hi'.1 (ht _ _ F) (by decide)) items) he.1 ⟨hi'.1, ht _ _ F⟩ fun h' he' => ?_
    obtain ⟨F', N'⟩ := end_keep (it := I) F (fun p hp => N p (.tail _ hp)) (fun p hp => (hne p hp).2) he'
    exact hQ h' s.toks F' N'
end
end Mine
end
section
namespace Mine
set_option maxRecDepth 100000
local macro_rules | `(tactic| walk_at "mine enter") => `(tactic| (refine wpAny_call ?_; k_dflt (refine' code_def ?k1 ?k2 ?k3 ?k4 ?k5 ?kA ?kF ?kK ?k6 ?k7 ?k8 ?k9 ?kB ?_ ?c2 ?c3 ?c4 ?c5; (case kA => exact rfl); (case kF => exact rfl); (case kK => assumption); (case k1 => k_asm); (case k2 => k_asm); (case k3 => k_asm); (case k4 => k_asm); (case k5 => k_asm); (case k6 => k_is); (case k7 => k_is); (case k8 => ktr_room); (case k9 => exact BindsTo.of_eq rfl); (case c5 => decide); (case kB => exact locs rfl); (case c2 => exact rfl); (case c3 => exact rfl); (case c4 => exact rfl); k_whole)))
local macro_rules | `(tactic| walk_at "eval Name") => `(tactic| (k_here; k_dflt (refine' ld ?k1 ?k2 ?_; (case k1 => k_asm); (case k2 => first | exact rfl | assumption); k_whole)))
theorem Says.use {w : World} {f : Addr} {args : List Value} {news : List (Addr × Obj)} {dn un₀ : Nat} {Ret : Value → List (Addr × Obj) → Prop} (h : Says w f args news dn un₀ Ret)
  {mean : ExcName → Option Value} {mg mb : Str → Option Value} {dp un : Nat} {gd : Option (List Code)} {cn : Str} {cs : Scope} {a : Addr} {ccd : Value} {cl : List (Str × Addr)} {outer : List Env} {A₀ : Around} {base h₀ : Heap} {L : Addr} {m : Str → Option Value} {s : Shared} {Q E : Value → Shared → Prop}
  (B : Below A₀ base outer h₀) (F : Fr h₀ L s.heap m) (X : (Mine.hd.heap_39 w.params).In h₀) (N : News h₀ L s.heap news)
  (T : Top Mine.hd.view_39 (looseW Mine.hd.view_39 [Str.ofString "_filemode_table"]) mean mg mb h₀) (hk : cs.kind = .function) (hd : dp + dn < recursionLimit) (hu : un + un₀ < cLine)
  (hret : ∀ (r : Value) (news' : List (Addr × Obj)) (h' : Heap) (tk' : Nat), Ret r news' → Fr h₀ L h' m → News h₀ L h' news' → Q r { s with heap := h', toks := tk' }) :
  wpAny (model Challenge.rw_oc0033_01.prog w) (ktrTop dp un gd cn cs L a ccd cl outer) (call (.ref f) args) Q E s :=
  h mean mg mb dp un gd cn cs a ccd cl outer A₀ base h₀ L m s Q E B F X N T hk hd hu hret

inductive PrA (g : Heap) : List Value → List (Int × Str) → Prop
  | nil : PrA g [] []
  | cons {a : Addr} {b : Int} {c : Str} {t t' : Tok} {vs : List Value} {ps : List (Int × Str)} : g.IsTuple a #[.int b t, .str c t'] → PrA g vs ps → PrA g (.ref a :: vs) ((b, c) :: ps)
theorem PrA.length {g : Heap} {vs : List Value} {ps : List (Int × Str)} (h : PrA g vs ps) : vs.length = ps.length := by
  induction h with
  | nil => rfl
  | cons _ _ ih => simp [ih]
theorem PrA.get {g : Heap} {vs : List Value} {ps : List (Int × Str)} (h : PrA g vs ps) {j : Nat} {v : Value} (hv : vs[j]? = some v) : ∃ a b c t t', v = .ref a ∧ ps.drop j = (b, c) :: ps.drop (j + 1) ∧ g.IsTuple a #[.int b t, .str c t'] := by
  induction h generalizing j with
  | nil => cases hv
  | cons ht _ ih =>
    cases j with
    | zero => cases hv; exact ⟨_, _, _, _, _, rfl, rfl, ht⟩
    | succ j => exact ih hv
inductive TbA (g : Heap) : List Value → List (List (Int × Str)) → Prop
  | nil : TbA g [] []
  | cons {a : Addr} {items : List Value} {prs : List (Int × Str)} {vs : List Value} {ps : List (List (Int × Str))} : g.IsTuple a items.toArray → PrA g items prs → TbA g vs ps → TbA g (.ref a :: vs) (prs :: ps)
theorem TbA.get {g : Heap} {vs : List Value} {ps : List (List (Int × Str))} (h : TbA g vs ps) {j : Nat} {v : Value} (hv : vs[j]? = some v) : ∃ a items prs, v = .ref a ∧ ps[j]? = some prs ∧ g.IsTuple a items.toArray ∧ PrA g items prs := by
  induction h generalizing j with
  | nil => cases hv
  | cons ht hp _ ih =>
    cases j with
    | zero => cases hv; exact ⟨_, _, _, rfl, rfl, ht, hp⟩
    | succ j => exact ih hv
/-- the table of filemode, as plain data -/
def tabs : List (List (Int × Str)) := [
  [(40960, Str.ofString "l"), (49152, Str.ofString "s"), (32768, Str.ofString "-"), (24576, Str.ofString "b"), (16384, Str.ofString "d"), (8192, Str.ofString "c"), (4096, Str.ofString "p")],
  [(256, Str.ofString "r")], [(128, Str.ofString "w")], [(2112, Str.ofString "s"), (2048, Str.ofString "S"), (64, Str.ofString "x")],
  [(32, Str.ofString "r")], [(16, Str.ofString "w")], [(1032, Str.ofString "s"), (1024, Str.ofString "S"), (8, Str.ofString "x")],
  [(4, Str.ofString "r")], [(2, Str.ofString "w")], [(513, Str.ofString "t"), (512, Str.ofString "T"), (1, Str.ofString "x")]]
abbrev topItems : Array Value := #[.ref 43, .ref 45, .ref 47, .ref 51, .ref 53, .ref 55, .ref 59, .ref 61, .ref 63, .ref 67]
set_option maxHeartbeats 4000000 in
theorem tab_facts (w : World) (g : Heap) (X : (Mine.hd.heap_39 w.params).In g) (hh : Challenge.rw_oc0033_01.prog = Challenge.rw_oc0033_01.prog) : g.IsTuple 68 topItems ∧ TbA g topItems.toList tabs := by
  revert X hh
  k_fill
  intro X hh
  refine ⟨⟨_, X 68 _ (by k_is), rfl, 0, rfl⟩, ?_⟩
  unfold tabs
  refine .cons ⟨_, X 43 _ (by k_is), rfl, 0, rfl⟩ (.cons ⟨_, X 36 _ (by k_is), rfl, 0, rfl⟩ (.cons ⟨_, X 37 _ (by k_is), rfl, 0, rfl⟩ (.cons ⟨_, X 38 _ (by k_is), rfl, 0, rfl⟩ (.cons ⟨_, X 39 _ (by k_is), rfl, 0, rfl⟩ (.cons ⟨_, X 40 _ (by k_is), rfl, 0, rfl⟩ (.cons ⟨_, X 41 _ (by k_is), rfl, 0, rfl⟩ (.cons ⟨_, X 42 _ (by k_is), rfl, 0, rfl⟩ .nil))))))) ?_
  refine .cons ⟨_, X 45 _ (by k_is), rfl, 0, rfl⟩ (.cons ⟨_, X 44 _ (by k_is), rfl, 0, rfl⟩ .nil) ?_
  refine .cons ⟨_, X 47 _ (by k_is), rfl, 0, rfl⟩ (.cons ⟨_, X 46 _ (by k_is), rfl, 0, rfl⟩ .nil) ?_
  refine .cons ⟨_, X 51 _ (by k_is), rfl, 0, rfl⟩ (.cons ⟨_, X 48 _ (by k_is), rfl, 0, rfl⟩ (.cons ⟨_, X 49 _ (by k_is), rfl, 0, rfl⟩ (.cons ⟨_, X 50 _ (by k_is), rfl, 0, rfl⟩ .nil))) ?_
  refine .cons ⟨_, X 53 _ (by k_is), rfl, 0, rfl⟩ (.cons ⟨_, X 52 _ (by k_is), rfl, 0, rfl⟩ .nil) ?_
  refine .cons ⟨_, X 55 _ (by k_is), rfl, 0, rfl⟩ (.cons ⟨_, X 54 _ (by k_is), rfl, 0, rfl⟩ .nil) ?_
  refine .cons ⟨_, X 59 _ (by k_is), rfl, 0, rfl⟩ (.cons ⟨_, X 56 _ (by k_is), rfl, 0, rfl⟩ (.cons ⟨_, X 57 _ (by k_is), rfl, 0, rfl⟩ (.cons ⟨_, X 58 _ (by k_is), rfl, 0, rfl⟩ .nil))) ?_
  refine .cons ⟨_, X 61 _ (by k_is), rfl, 0, rfl⟩ (.cons ⟨_, X 60 _ (by k_is), rfl, 0, rfl⟩ .nil) ?_
  refine .cons ⟨_, X 63 _ (by k_is), rfl, 0, rfl⟩ (.cons ⟨_, X 62 _ (by k_is), rfl, 0, rfl⟩ .nil) ?_
  refine .cons ⟨_, X 67 _ (by k_is), rfl, 0, rfl⟩ (.cons ⟨_, X 64 _ (by k_is), rfl, 0, rfl⟩ (.cons ⟨_, X 65 _ (by k_is), rfl, 0, rfl⟩ (.cons ⟨_, X 66 _ (by k_is), rfl, 0, rfl⟩ .nil))) .nil
end Mine
end
section
namespace Mine
set_option maxRecDepth 100000
local macro_rules | `(tactic| walk_at "mine enter") => `(tactic| (refine wpAny_call ?_; k_dflt (refine' code_def ?k1 ?k2 ?k3 ?k4 ?k5 ?kA ?kF ?kK ?k6 ?k7 ?k8 ?k9 ?kB ?_ ?c2 ?c3 ?c4 ?c5; (case kA => exact rfl); (case kF => exact rfl); (case kK => assumption); (case k1 => k_asm); (case k2 => k_asm); (case k3 => k_asm); (case k4 => k_asm); (case k5 => k_asm); (case k6 => k_is); (case k7 => k_is); (case k8 => ktr_room); (case k9 => exact BindsTo.of_eq rfl); (case c5 => decide); (case kB => exact locs rfl); (case c2 => exact rfl); (case c3 => exact rfl); (case c4 => exact rfl); k_whole)))
local macro_rules | `(tactic| walk_at "eval Name") => `(tactic| (k_here; k_dflt (refine' ld ?k1 ?k2 ?_; (case k1 => k_asm); (case k2 => first | exact rfl | assumption); k_whole)))
noncomputable def pick (i : Nat) (mode : Int) : List (Int × Str) → Str
  | [] => if i = 0 then Str.ofString "?" else Str.ofString "-"
  | (b, c) :: r => if (if i = 0 then Builtin.bitAnd mode 61440 == b else Builtin.bitAnd mode b == b) then c else pick i mode r
noncomputable def fmL (mode : Int) : List Str := (List.range 10).map fun i => pick i mode (tabs.getD i [])
noncomputable def fmS (mode : Int) : Str := Txt.join (Str.ofString "") (fmL mode)
def fmJ (mode : Int) (t : Tok) (p : Addr) (news : List (Addr × Obj)) (i : Nat) (m : Str → Option Value) (nx : List (Addr × Obj)) : Prop :=
  ∃ ys c, StrsAre ys ((fmL mode).take i) ∧ nx = (p, listOf ys.toArray c) :: news ∧ m (Str.ofString "mode") = some (.int mode t) ∧ m (Str.ofString "perm") = some (.ref p)
theorem ext_fresh {h₀ h h' : Heap} {L : Addr} {m : Str → Option Value} {news : List (Addr × Obj)} (F : Fr h₀ L h m) (N : News h₀ L h news) (hx : Heap.ExtBut h.objs.size h h') : Fr h₀ L h' m ∧ News h₀ L h' news := by
  have keep : ∀ b o, h.get? b = some o → h'.get? b = some o := fun b o e => hx b o (Nat.ne_of_lt (Heap.lt_size e)) e
  refine ⟨⟨?_, fun b o e => keep b o (F.keep b o e), F.above⟩, fun p hp => ⟨keep _ _ (N p hp).1, (N p hp).2⟩⟩
  obtain ⟨oL, a1, a2, hoL, a3⟩ := F.ns
  exact ⟨oL, a1, a2, keep _ _ hoL, a3⟩
def inJ (i : Nat) (mode : Int) (t tk : Tok) (p : Addr) (prs : List (Int × Str)) (led : List (Addr × Obj)) (j : Nat) (m : Str → Option Value) (nx : List (Addr × Obj)) : Prop :=
  pick i mode prs = pick i mode (prs.drop j) ∧ nx = led ∧ m (Str.ofString "mode") = some (.int mode t) ∧ m (Str.ofString "perm") = some (.ref p) ∧ m (Str.ofString "index") = some (.int i tk)
theorem off1 {I : Addr} {news : List (Addr × Obj)} (h : ∀ q ∈ news, q.1 < I) : ∀ q ∈ news, q.1 ∉ [I] := fun q hq hI => by
  have h1 := h q hq
  rw [List.mem_singleton.mp hI] at h1
  exact Nat.lt_irrefl _ h1
theorem off2 {I : Addr} {news : List (Addr × Obj)} (h : ∀ q ∈ news, q.1 < I) : ∀ q ∈ news, q.1 ∉ [I + 1, I] := fun q hq hI => by
  have h1 := h q hq
  rcases List.mem_cons.mp hI with e | e
  · rw [e] at h1
    exact Nat.lt_irrefl _ (Nat.lt_of_succ_lt h1)
  · rw [List.mem_singleton.mp e] at h1
    exact Nat.lt_irrefl _ h1
theorem tup_keep {h₀ h : Heap} {L a : Addr} {m : Str → Option Value} {items : Array Value} (x : h₀.IsTuple a items) (F : Fr h₀ L h m) : h.IsTuple a items := let ⟨o, ho, r⟩ := x; ⟨o, F.keep _ _ ho, r⟩
theorem fmL_take {mode : Int} {i : Nat} {prs : List (Int × Str)} (h : tabs[i]? = some prs) : (fmL mode).take (i + 1) = (fmL mode).take i ++ [pick i mode prs] := by
  have hi : i < 10 := by
    have := (List.getElem?_eq_some_iff.mp h).1
    simpa [tabs] using this
  have hl : i < (fmL mode).length := by simpa [fmL] using hi
  rw [List.take_succ_eq_append_getElem hl]
  congr 2
  simp only [fmL, List.getElem_map, List.getElem_range, List.getD_eq_getElem?_getD, h, Option.getD_some]
theorem sub_end {a : Addr × Obj} {b c d : Addr × Obj} {r : List (Addr × Obj)} : ∀ q ∈ b :: c :: d :: r, q ∈ a :: d :: b :: c :: r := by
  intro q hq
  simp only [List.mem_cons] at hq ⊢
  rcases hq with h | h | h | h <;> simp [h]
theorem sub_end2 {b c d : Addr × Obj} {r : List (Addr × Obj)} : ∀ q ∈ b :: c :: d :: r, q ∈ d :: b :: c :: r := by
  intro q hq
  simp only [List.mem_cons] at hq ⊢
  rcases hq with h | h | h | h <;> simp [h]
theorem pick_len (i : Nat) (mode : Int) : (pick i mode (tabs.getD i [])).length ≤ 1 := by
  have one : ∀ (l : List (Int × Str)), (∀ q ∈ l, q.2.length = 1) → (pick i mode l).length ≤ 1 := by
    intro l
    induction l with
    | nil =>
      intro _
      unfold pick
      split <;> decide
    | cons q r ih =>
      intro h
      obtain ⟨b, c⟩ := q
      unfold pick
      have ha : c.length ≤ 1 := Nat.le_of_eq (h (b, c) (.head _))
      have hb := ih fun q hq => h q (.tail _ hq)
      repeat' split
      all_goals assumption
  have all : ∀ l ∈ tabs, ∀ q ∈ l, q.2.length = 1 := by decide +kernel
  refine one _ fun q hq => ?_
  rw [List.getD_eq_getElem?_getD] at hq
  cases h : tabs[i]? with
  | none => rw [h] at hq; cases hq
  | some l => rw [h] at hq; exact all l (List.mem_of_getElem? h) q hq
theorem fm_weight (mode : Int) : ((fmL mode).map (·.length)).sum + (fmL mode).length ≤ 1048576 := by
  have h1 : (fmL mode).length = 10 := by simp [fmL]
  have h2 : ∀ l : List Nat, (∀ x ∈ l, x ≤ 1) → l.sum ≤ l.length := by
    intro l
    induction l with
    | nil => intro _; exact Nat.le_refl _
    | cons a r ih =>
      intro h
      have := ih fun x hx => h x (.tail _ hx)
      have := h a (.head _)
      simp only [List.sum_cons, List.length_cons]
      omega
  have h3 := h2 ((fmL mode).map (·.length)) (by
    intro x hx
    simp only [fmL, List.map_map, List.mem_map] at hx
    obtain ⟨i, _, rfl⟩ := hx
    exact pick_len i mode)
  rw [List.length_map, h1] at h3
  omega
theorem strs_len {vs : List Value} {ys : List Str} (h : StrsAre vs ys) : vs.length = ys.length := by
  induction h with
  | nil => rfl
  | cons _ _ _ ih => simp [ih]
theorem strs_snoc {vs : List Value} {ys : List Str} (h : StrsAre vs ys) (c : Str) (t : Tok) : StrsAre (vs ++ [.str c t]) (ys ++ [c]) := by
  induction h with
  | nil => exact .cons _ _ .nil
  | cons y t' _ ih => exact .cons _ _ ih
theorem fm_end {g h : Heap} {L I p : Addr} {m : Str → Option Value} {s : Shared} {all news : List (Addr × Obj)} {mode : Int} {t tc : Tok} {i c tk : Nat} {ys : List Value} {prs : List (Int × Str)} {ch : Str} {Q : Flow → Shared → Prop} {v : Value}
    (F : Fr g L h m) (N : News g L h all) (hys : StrsAre ys ((fmL mode).take i)) (hprs : tabs[i]? = some prs) (hch : pick i mode prs = ch) (hv : v = .str ch tc)
    (hoff : ∀ q ∈ (p, listOf ys.toArray c) :: news, q.1 ∉ [I + 1, I]) (hmm : m (Str.ofString "mode") = some (.int mode t)) (hmp : m (Str.ofString "perm") = some (.ref p))
    (hsub : ∀ q ∈ (I + 1, enObj I (i + 1) (oldOf topItems (i + 1))) :: (I, tiObj 68 (i + 1)) :: (p, listOf (ys.toArray.push v) (c + 1)) :: news, q ∈ all) :
    FStep g L s [(I + 1, enObj I (i + 1) (oldOf topItems (i + 1))), (I, tiObj 68 (i + 1))] [I + 1, I] (fmJ mode t p news (i + 1)) Q .next { s with heap := h, toks := tk } := by
  subst hv
  refine FStep.go F N (news' := (p, listOf (ys.toArray.push (.str ch tc)) (c + 1)) :: news) (fun q hq => hsub q (by simpa using hq)) (fun q hq => ?_) ⟨ys ++ [.str ch tc], c + 1, ?_, ?_, hmm, hmp⟩
  · rcases List.mem_cons.mp hq with rfl | hq
    · exact hoff (p, listOf ys.toArray c) (.head _)
    · exact hoff q (.tail _ hq)
  · rw [fmL_take hprs, hch]
    exact strs_snoc hys ch tc
  · simp
set_option maxHeartbeats 8000000 in
theorem fmode (w : World) (mode : Int) (t : Tok) (news : List (Addr × Obj)) : Says w 75 [.int mode t] news 2 16 (fun r n => n = news ∧ ∃ t, r = .str (fmS mode) t) := by
  unfold Says
  k_fill
  intro mean mg mb dp un gd cn cs a ccd cl outer A₀ base h₀ L m s Q E B F X N T hk hd hu hret
  walk_at "mine enter"
  intro g L' h₁ FG F' N' B' X' T'
  dsimp only
  obtain ⟨m1, F1, hm1⟩ : ∃ m1, Fr g L' h₁ m1 ∧ m1 (Str.ofString "mode") = some (.int mode t) := ⟨_, F', rfl⟩
  clear F'
  obtain ⟨htop, htb⟩ := tab_facts w g X' rfl
  iterate 5 walk1
  refine newList_K F1 N' fun p h₂ F2 N2 hlt => ?_
  clear F1 N'
  iterate 3 walk1
  refine For_gen ?_
  iterate 6 walk1
  refine call_enum_tup (by assumption) (by assumption) (tup_keep htop (by assumption)) fun h₃ I F3 N3 hltI => ?_
  refine wpAny_pyIter_enum (N3 _ (.head _)).1 ?_
  refine for_gen (feed_enum rfl I 68 topItems fun h m F => tup_keep htop F) (fmJ mode t p news) F3 N3 ?hoff ⟨[], 0, .nil, rfl, hm1, rfl⟩ ?step ?fin PassesOwn.leaving
  case hoff => exact off2 hltI
  case step =>
    rintro i v extra m₁ news₁ h₁ tk₁ hi ⟨Tn, ti, x, hx, rfl, rfl⟩ ⟨ys, c, hys, rfl, hmm, hmp⟩ hoff F4 N4
    obtain ⟨ta, items, prs, rfl, hprs, hta, hpr⟩ := htb.get (by simpa using hx)
    simp only [List.cons_append, List.nil_append] at N4
    replace F4 : Fr g L' h₁ m₁ := F4
    replace N4 : News g L' h₁ _ := N4
    have hpI : ∀ q ∈ (I + 1, enObj I (i + 1) (oldOf topItems (i + 1))) :: (I, tiObj 68 (i + 1)) :: news, q.1 ≠ p := by
      intro q hq
      have h1 := hoff (p, listOf ys.toArray c) (.head _)
      simp only [List.mem_cons, List.not_mem_nil, or_false, not_or] at h1
      simp only [List.mem_cons] at hq
      rcases hq with rfl | rfl | hq
      · exact Ne.symm h1.1
      · exact Ne.symm h1.2
      · exact Nat.ne_of_lt (hlt q hq)
    have hsz : ys.toArray.size ≤ sizeLine := by
      have h1 := strs_len hys
      have h2 : ys.length ≤ 10 := by rw [h1, List.length_take]; simp [fmL]; omega
      rw [sizeLine_eq, List.size_toArray]
      omega
    iterate 10 walk1
    rename Fr g _ _ _ => F5
    rename News g _ _ _ => N5
    replace N5 := cb_drop (news := (p, listOf ys.toArray c) :: (I + 1, enObj I (i + 1) (oldOf topItems (i + 1))) :: (I, tiObj 68 (i + 1)) :: news) N5 (by
      intro q hq
      simp only [List.mem_cons] at hq ⊢
      rcases hq with h | h | h | h
      · exact .inr (.inr (.inr (.inl h)))
      · exact .inr (.inl h)
      · exact .inr (.inr (.inl h))
      · exact .inr (.inr (.inr (.inr h))))
    refine For_gen ?_
    iterate 1 walk1
    refine wpAny_pyIter_tuple (tup_keep hta F5) ?_
    refine for_gen (feed_tup rfl _ ta items.toArray fun h m F => tup_keep hta F) (inJ i mode t ti p prs ((p, listOf ys.toArray c) :: (I + 1, enObj I (i + 1) (oldOf topItems (i + 1))) :: (I, tiObj 68 (i + 1)) :: news)) (F5.push _) (N5.push F5 _)
      (off1 fun q hq => Heap.lt_size (N5 q hq).1) ⟨rfl, rfl, hmm, hmp, rfl⟩ ?step2 ?fin2 PassesOwn.leaving
    case step2 =>
      rintro j v extra m₂ news₂ h₂ tk₂ hj ⟨hv, rfl⟩ ⟨hpick, rfl, hm2, hp2, hi2⟩ hoff2 F6 N6
      obtain ⟨pa, b, ch, tb, tc, rfl, hdrop, hpa⟩ := hpr.get (by simpa using hv)
      simp only [List.cons_append, List.nil_append] at N6
      replace F6 : Fr g L' h₂ m₂ := F6
      replace N6 : News g L' h₂ _ := N6
      refine wpAny_assign_Tuple rfl (tup_keep hpa F6) rfl rfl fun h₇ hx7 => ?_
      obtain ⟨F7, N7⟩ := ext_fresh F6 N6 hx7
      clear F6 N6
      dsimp only
      iterate 15 walk1
      have hpJ : ∀ q ∈ (I + 1, enObj I (i + 1) (oldOf topItems (i + 1))) :: (I, tiObj 68 (i + 1)) :: news, q.1 ≠ p := hpI
      by_cases h0 : i = 0
      · rw [if_pos (by simp [h0])]
        iterate 9 walk1
        iterate 2 walk1
        refine Says.use (ifmt w _ _ _) (by assumption) (by assumption) (by assumption) (by assumption) (by assumption) rfl (by ktr_room) (by ktr_units) ?_
        rintro r nw h₈ tk₈ ⟨rfl, t₈, rfl⟩ F8 N8
        iterate 3 walk1
        by_cases hb : (Builtin.bitAnd mode 61440 == b) = true
        · rw [if_pos hb]
          repeat walk1
          refine append_K F8 N8 (.tail (fun e => hoff2 (p, listOf ys.toArray c) (.head _) (List.mem_singleton.mpr e.symm)) (.head hpJ)) (fun h₉ F9 N9 => ?_) hsz
          iterate 3 walk1
          dsimp only
          refine wpAny_execs_nil (fm_end F9 N9 hys hprs (ch := ch) (tc := tc) (v := .str ch tc) ?_ rfl hoff hm2 hp2 ?_)
          · rw [hpick, hdrop, pick, if_pos h0, if_pos hb]
          · exact sub_end
        · rw [if_neg hb]
          repeat walk1
          dsimp only
          refine FStep.go F8 N8 (news' := (p, listOf ys.toArray c) :: (I + 1, enObj I (i + 1) (oldOf topItems (i + 1))) :: (I, tiObj 68 (i + 1)) :: news) ?_ hoff2 ?_
          · exact fun q hq => hq
          refine ⟨?_, rfl, hm2, hp2, hi2⟩
          rw [hpick, hdrop, pick, if_pos h0, if_neg hb]
      · rw [if_neg (by simpa using h0)]
        iterate 11 walk1
        rename Fr g _ _ _ => F8
        rename News g _ _ _ => N8
        by_cases hb : (Builtin.bitAnd mode b == b) = true
        · rw [if_pos hb]
          repeat walk1
          refine append_K F8 N8 (.tail (fun e => hoff2 (p, listOf ys.toArray c) (.head _) (List.mem_singleton.mpr e.symm)) (.head hpJ)) (fun h₉ F9 N9 => ?_) hsz
          iterate 3 walk1
          dsimp only
          refine wpAny_execs_nil (fm_end F9 N9 hys hprs (ch := ch) (tc := tc) (v := .str ch tc) ?_ rfl hoff hm2 hp2 ?_)
          · rw [hpick, hdrop, pick, if_neg h0, if_pos hb]
          · exact sub_end
        · rw [if_neg hb]
          repeat walk1
          dsimp only
          refine FStep.go F8 N8 (news' := (p, listOf ys.toArray c) :: (I + 1, enObj I (i + 1) (oldOf topItems (i + 1))) :: (I, tiObj 68 (i + 1)) :: news) ?_ hoff2 ?_
          · exact fun q hq => hq
          refine ⟨?_, rfl, hm2, hp2, hi2⟩
          rw [hpick, hdrop, pick, if_neg h0, if_neg hb]
    case fin2 =>
      rintro m₂ news₂ h₂ tk₂ ⟨hpick, rfl, hm2, hp2, hi2⟩ hoff2 F6 N6
      replace F6 : Fr g L' h₂ m₂ := F6
      replace N6 : News g L' h₂ _ := N6
      have hl := hpr.length
      have hpk : pick i mode prs = if i = 0 then Str.ofString "?" else Str.ofString "-" := by
        rw [hpick, List.drop_eq_nil_of_le (by simp; omega)]
        rfl
      iterate 7 walk1
      by_cases h0 : i = 0
      · rw [if_pos (by simp [h0])]
        iterate 10 walk1
        refine append_K F6 N6 (.head hpI) (fun h₉ F9 N9 => ?_) hsz
        iterate 2 walk1
        refine wpAny_execs_nil ?_
        dsimp only
        refine' wpAny_execs_nil (fm_end F9 N9 hys hprs (ch := Str.ofString "?") ?ka ?kb hoff hm2 hp2 ?kc)
        (case kc => exact sub_end2)
        (case ka => rw [hpk, if_pos h0])
        (case kb => rfl)
      · rw [if_neg (by simpa using h0)]
        iterate 10 walk1
        refine append_K F6 N6 (.head hpI) (fun h₉ F9 N9 => ?_) hsz
        iterate 2 walk1
        refine wpAny_execs_nil ?_
        dsimp only
        refine' wpAny_execs_nil (fm_end F9 N9 hys hprs (ch := Str.ofString "-") ?ka ?kb hoff hm2 hp2 ?kc)
        (case kc => exact sub_end2)
        (case ka => rw [hpk, if_neg h0])
        (case kb => rfl)
  case fin =>
    rintro m₁ news₁ h₁ tk₁ ⟨ys, c, hys, rfl, hmm, hmp⟩ hoff F4 N4
    replace F4 : Fr g L' h₁ m₁ := F4
    replace N4 : News g L' h₁ _ := N4
    have hys' : StrsAre ys (fmL mode) := by rw [List.take_of_length_le (by simp [fmL])] at hys; exact hys
    iterate 10 walk1
    refine join_listW (ys := fmL mode) ⟨_, (N4 _ (.head _)).1, rfl, _, rfl⟩ hys' (by decide) (fm_weight mode) fun t₉ k₉ => ?_
    dsimp only
    refine leaveK_ F4 N4 fun kF kN => ?_
    exact hret _ _ _ _ ⟨rfl, _, rfl⟩ kF fun q hq => kN q (.tail _ hq)
end Mine
end
section
namespace Mine
set_option maxRecDepth 100000
local macro_rules | `(tactic| walk_at "mine enter") => `(tactic| (refine wpAny_call ?_; k_dflt (refine' code_def ?k1 ?k2 ?k3 ?k4 ?k5 ?kA ?kF ?kK ?k6 ?k7 ?k8 ?k9 ?kB ?_ ?c2 ?c3 ?c4 ?c5; (case kA => exact rfl); (case kF => exact rfl); (case kK => assumption); (case k1 => k_asm); (case k2 => k_asm); (case k3 => k_asm); (case k4 => k_asm); (case k5 => k_asm); (case k6 => k_is); (case k7 => k_is); (case k8 => ktr_room); (case k9 => exact BindsTo.of_eq rfl); (case c5 => decide); (case kB => exact locs rfl); (case c2 => exact rfl); (case c3 => exact rfl); (case c4 => exact rfl); k_whole)))
local macro_rules | `(tactic| walk_at "eval Name") => `(tactic| (k_here; k_dflt (refine' ld ?k1 ?k2 ?_; (case k1 => k_asm); (case k2 => first | exact rfl | assumption); k_whole)))
abbrev row10 (c0 c1 c2 c3 c4 c5 c6 c7 c8 c9 : Nat) : Str := ⟨#[c0, c1, c2, c3, c4, c5, c6, c7, c8, c9]⟩
theorem feed_tupO {prog : Program} {w : World} {A : Around} {h₀ : Heap} {L : Addr} {target : Expr} (hh : A.handled = none) (I t : Addr) (items : Array Value) (c : Nat) (hIt : t ≠ I) :
    Feed prog w A h₀ L target (.ref I) items.size (fun i => [(I, tiObj t i), (t, ({ cls := .type "tuple", data := .seq items c } : Obj))]) [I, t] (fun i v ex => items[i]? = some v ∧ ex = []) where
  next := fun i s Q E m news hi F N hoff hQ => by
    have hne : ∀ p ∈ (t, ({ cls := .type "tuple", data := .seq items c } : Obj)) :: news, p.1 ≠ I := fun p hp e => by
      rcases List.mem_cons.mp hp with rfl | hp
      · exact hIt e
      · exact hoff p hp (by simp [e])
    refine ti_pyNext N F hne ⟨_, (N _ (.tail _ (.head _))).1, rfl, _, rfl⟩ (Array.getElem?_eq_getElem hi) fun h' F' N' => ⟨_, rfl, ?_⟩
    exact go_other (N' _ (.head _)).1 (.inr rfl) (hQ _ h' s.toks [] ⟨Array.getElem?_eq_getElem hi, rfl⟩ F' N')
  last := fun s Q E m news F N hoff hQ => by
    have hne : ∀ p ∈ (t, ({ cls := .type "tuple", data := .seq items c } : Obj)) :: news, p.1 ≠ I := fun p hp e => by
      rcases List.mem_cons.mp hp with rfl | hp
      · exact hIt e
      · exact hoff p hp (by simp [e])
    have ho := (N _ (.head _)).1
    refine wpAny_pyNext_tuple_end hh ⟨_, ho, rfl, rfl⟩ ⟨_, (N _ (.tail _ (.head _))).1, rfl, _, rfl⟩ (Array.getElem?_eq_none (Nat.le_refl _)) fun h' hx => ?_
    obtain ⟨F', N'⟩ := end_keep F N hne hx
    exact hQ h' s.toks F' fun p hp => N' p (.tail _ hp)
def isC (x : Str) (k : Int) (c : String) : Bool := Txt.item x k == Str.ofString c
def inC (x : Str) (k : Int) (c : String) : Bool := !(Builtin.Str.occurrences (Str.ofString c) (Txt.item x k) 0 (Str.ofString c).length 1).isEmpty
def bitsV (bs : List Bool) : Int := bs.foldl (fun d b => 2 * d + (if b then 1 else 0)) 0
theorem bitsV_snoc (bs : List Bool) (b : Bool) : bitsV (bs ++ [b]) = 2 * bitsV bs + (if b then 1 else 0) := by simp [bitsV]
def ldBits (x : Str) : List Bool := [isC x 4 "r", isC x 5 "w", inC x 6 "xs", isC x 7 "r", isC x 8 "w", inC x 9 "xt"]
def bitJ (nm : String) (bs : List Bool) (news : List (Addr × Obj)) (i : Nat) (m : Str → Option Value) (nx : List (Addr × Obj)) : Prop :=
  nx = news ∧ ∃ t, m (Str.ofString nm) = some (.int (bitsV (bs.take i)) t)
theorem bool_item {bs : List Bool} {i : Nat} {v : Value} (h : (bs.map Value.bool)[i]? = some v) : ∃ b, v = .bool b ∧ bs.take (i + 1) = bs.take i ++ [b] := by
  rw [List.getElem?_map] at h
  cases hb : bs[i]? with
  | none => rw [hb] at h; cases h
  | some b =>
    rw [hb] at h
    cases h
    refine ⟨b, rfl, ?_⟩
    obtain ⟨h1, h2⟩ := List.getElem?_eq_some_iff.mp hb
    rw [List.take_succ_eq_append_getElem h1, h2]
theorem off_new {I t : Addr} {news : List (Addr × Obj)} (hI : t < I) (h : ∀ q ∈ news, q.1 < t) : ∀ q ∈ news, q.1 ∉ [I, t] := fun q hq hm => by
  have h1 := h q hq
  rcases List.mem_cons.mp hm with e | e
  · rw [e] at h1
    exact Nat.lt_irrefl _ (Nat.lt_trans h1 hI)
  · rw [List.mem_singleton.mp e] at h1
    exact Nat.lt_irrefl _ h1
set_option maxHeartbeats 8000000 in
theorem lastdig (w : World) (c0 c1 c2 c3 c4 c5 c6 c7 c8 c9 : Nat) (t : Tok) (news : List (Addr × Obj)) : Says w 94 [.str (row10 c0 c1 c2 c3 c4 c5 c6 c7 c8 c9) t] news 2 16 (fun r n => n = news ∧ ∃ t, r = .int (bitsV (ldBits (row10 c0 c1 c2 c3 c4 c5 c6 c7 c8 c9))) t) := by
  unfold Says
  k_fill
  intro mean mg mb dp un gd cn cs a ccd cl outer A₀ base h₀ L m s Q E B F X N T hk hd hu hret
  walk_at "mine enter"
  intro g L' h₁ FG F' N' B' X' T'
  dsimp only
  obtain ⟨m1, F1, hm1⟩ : ∃ m1, Fr g L' h₁ m1 ∧ m1 (Str.ofString "row") = some (.str (row10 c0 c1 c2 c3 c4 c5 c6 c7 c8 c9) t) := ⟨_, F', rfl⟩
  clear F'
  iterate 6 walk1
  refine For_gen ?_
  iterate 50 walk1
  rename Fr g _ _ _ => F2
  rename News g _ _ _ => N2
  refine newTuple_N F2 N2 (fun h₃ F3 N3 => ?_) (by rw [sizeLine_eq]; exact Nat.le_of_ble_eq_true rfl)
  refine wpAny_pyIter_tuple ⟨_, (N3 _ (.head _)).1, rfl, _, rfl⟩ ?_
  refine for_gen (feed_tupO rfl _ _ _ 0 (Nat.ne_of_lt (Heap.lt_size (N3 _ (.head _)).1))) (bitJ "digit" (ldBits (row10 c0 c1 c2 c3 c4 c5 c6 c7 c8 c9)) news) (F3.push _) ((N3.push F3 _)) ?hoff ⟨rfl, _, rfl⟩ ?step ?fin PassesOwn.leaving
  case hoff => exact off_new (Heap.lt_size (N3 _ (.head _)).1) fun q hq => Heap.lt_size (N2 q hq).1
  case step =>
    rintro i v extra m₁ news₁ h₁ tk₁ hi ⟨hv, rfl⟩ ⟨rfl, td, hdg⟩ hoff F4 N4
    simp only [List.cons_append, List.nil_append] at N4
    replace F4 : Fr g L' h₁ m₁ := F4
    replace N4 : News g L' h₁ _ := N4
    obtain ⟨b, rfl, hb⟩ := bool_item (bs := ldBits (row10 c0 c1 c2 c3 c4 c5 c6 c7 c8 c9)) (by simpa [ldBits, isC, inC] using hv)
    iterate 7 walk1
    cases b <;> (
      repeat walk1
      rename Fr g _ _ _ => F5
      rename News g _ _ _ => N5
      refine FStep.go F5 N5 (news' := news₁) ?_ hoff ?_
      · exact fun q hq => hq
      · refine ⟨rfl, ?_⟩
        rw [hb, bitsV_snoc]
        exact ⟨_, rfl⟩)
  case fin =>
    rintro m₁ news₁ h₁ tk₁ ⟨rfl, td, hdg⟩ hoff F4 N4
    replace F4 : Fr g L' h₁ m₁ := F4
    replace N4 : News g L' h₁ _ := N4
    iterate 4 walk1
    refine leaveK_ F4 N4 fun kF kN => ?_
    exact hret _ _ _ _ ⟨rfl, _, rfl⟩ kF kN
end Mine
end
section
namespace Mine
set_option maxRecDepth 100000
/-- a made list pairs off with what it was made of -/
theorem paired_map {f : Value → Value} : ∀ {l r : List Value}, Paired (fun v y => y = f v) l r → r = l.map f
  | _, _, .nil => rfl
  | _, _, .cons e t => by rw [e, paired_map t]; rfl
/-- frame and ledger behind a comprehension that was bound to a name: the iterator `I` and the list `D` are new -/
theorem comp_after {h₀ h h₂ h' : Heap} {L I D : Addr} {m m' : Str → Option Value} {news : List (Addr × Obj)} {ys : Array Value} (F : Fr h₀ L h m) (N : News h₀ L h news) (hI : h.get? I = none) (up : ∀ b o, h.get? b = some o → h₂.get? b = some o)
    (hD : h₂.get? D = none) (made : h'.PlainList D ys) (ns : h'.Ns L m') (keep : ∀ b o, b ≠ L → b ∉ [I] → h₂.get? b = some o → h'.get? b = some o) : ∃ n, Fr h₀ L h' m' ∧ News h₀ L h' ((D, W.listOf ys n) :: news) := by
  obtain ⟨n, hn⟩ := made
  have gone : h.get? D = none := by
    cases e : h.get? D with
    | none => rfl
    | some o => exact absurd (up D o e) (by rw [hD]; exact nofun)
  have old : ∀ b o, b ≠ L → h.get? b = some o → h'.get? b = some o := fun b o hb e => keep b o hb (fun hm => by rw [List.mem_singleton.mp hm, hI] at e; cases e) (up b o e)
  have low : ∀ b o, h₀.get? b = some o → b ≠ L := fun b o e => Nat.ne_of_lt (Nat.lt_of_lt_of_le (Heap.lt_size e) F.above)
  refine ⟨n, ⟨ns, fun b o e => old b o (low b o e) (F.keep b o e), F.above⟩, fun p hp => ?_⟩
  rcases List.mem_cons.mp hp with rfl | hp
  · refine ⟨hn, ?_, ?_⟩
    · rintro rfl
      obtain ⟨o, _, _, e, _⟩ := F.ns
      rw [gone] at e
      cases e
    · cases e : h₀.get? D with
      | none => rfl
      | some o => have := F.keep D o e; rw [gone] at this; cases this
  · exact ⟨old _ _ (N p hp).2.1 (N p hp).1, (N p hp).2⟩
end Mine
end
section
namespace Mine
set_option maxRecDepth 100000
local macro_rules | `(tactic| walk_at "mine enter") => `(tactic| (refine wpAny_call ?_; k_dflt (refine' code_def ?k1 ?k2 ?k3 ?k4 ?k5 ?kA ?kF ?kK ?k6 ?k7 ?k8 ?k9 ?kB ?_ ?c2 ?c3 ?c4 ?c5; (case kA => exact rfl); (case kF => exact rfl); (case kK => assumption); (case k1 => k_asm); (case k2 => k_asm); (case k3 => k_asm); (case k4 => k_asm); (case k5 => k_asm); (case k6 => k_is); (case k7 => k_is); (case k8 => ktr_room); (case k9 => exact BindsTo.of_eq rfl); (case c5 => decide); (case kB => exact locs rfl); (case c2 => exact rfl); (case c3 => exact rfl); (case c4 => exact rfl); k_whole)))
local macro_rules | `(tactic| walk_at "eval Name") => `(tactic| (k_here; k_dflt (refine' nameX_L ?F ?v ?_ ?a ?b; (case F => k_asm); (case a => rfl); (case b => rfl); (case v => first | exact rfl | assumption); k_whole)))
local macro_rules | `(tactic| walk_at "mine enterC") => `(tactic| (refine wpAny_call ?_; k_dflt (refine' code_defC ?k1 ?k2 ?k3 ?k4 ?k5 ?kA ?kF ?kK ?k6 ?k7 ?k8 ?k9 ?kB ?kD ?_ ?c2 ?c3 ?c4; (case kA => exact rfl); (case kF => exact rfl); (case kK => assumption); (case k1 => k_asm); (case k2 => k_asm); (case k3 => k_asm); (case k4 => k_asm); (case k5 => k_asm); (case k6 => k_is); (case k7 => k_is); (case k8 => ktr_room); (case k9 => exact BindsTo.of_eq rfl); (case kB => exact rfl); (case kD => decide +kernel); (case c2 => exact rfl); (case c3 => exact rfl); (case c4 => exact rfl); k_whole)))
def canB (d : Int) (i : Nat) : Bool := (d.fdiv ([32, 16, 8, 4, 2, 1].getD i 1)).fmod 2 == 1
/-- the comprehension's element, of the worth that it is made of -/
def canV (d : Int) : Value → Value
  | .int k _ => .bool ((d.fdiv k).fmod 2 == 1)
  | _ => .none
def knBits (x : Str) : List Bool := [inC x 9 "tT", isC x 1 "r", isC x 2 "w", inC x 3 "xs"]
def mvJ (x : Str) (t : Tok) (D : Addr) (bs : List Bool) (news : List (Addr × Obj)) (i : Nat) (m : Str → Option Value) (nx : List (Addr × Obj)) : Prop :=
  nx = news ∧ m (Str.ofString "row") = some (.str x t) ∧ m (Str.ofString "can") = some (.ref D) ∧ ∃ t, m (Str.ofString "kind") = some (.int (bitsV (bs.take i)) t)
theorem ifexp_join {M : Model} {A : Around} {E : Value → Shared → Prop} {s : Shared} {env : Env} {test : Expr} {x y : Str} {k1 k2 : Nat} {p1 p2 pos : Pos} {Q : Value → Shared → Prop} (c : Bool)
    (ht : wpAny M A (isTrue test env (eval test env)) (fun r s' => r = c ∧ ∃ tk, s' = { s with toks := tk }) E s)
    (h : ∀ t tk, Q (.str (if c then x else y) t) { s with toks := tk }) : wpAny M A (eval (.IfExp test (.Constant (.str x) k1 p1) (.Constant (.str y) k2 p2) pos) env) Q E s := by
  refine IfExp_ (wpAny_mono ht (fun r s' hr => ?_) fun _ _ e => e)
  obtain ⟨rfl, tk, rfl⟩ := hr
  cases r
  · exact Calls.Constant_str (h _ _)
  · exact Calls.Constant_str (h _ _)
theorem item_len (x : Str) (k : Int) : (Txt.item x k).length = 1 := rfl
theorem run_s (a b : Bool) : (runS a b (Str.ofString "s") (Str.ofString "S")).length = 1 := by cases a <;> cases b <;> decide
theorem run_t (a b : Bool) : (runS a b (Str.ofString "t") (Str.ofString "T")).length = 1 := by cases a <;> cases b <;> decide
theorem if_r (a : Bool) : (if a = true then Str.ofString "r" else Str.ofString "-").length = 1 := by cases a <;> decide
theorem if_w (a : Bool) : (if a = true then Str.ofString "w" else Str.ofString "-").length = 1 := by cases a <;> decide
local macro_rules | `(tactic| walk_at "binaryOp Add str str") => `(tactic| (refine add_str ?_ ?hsz; (case hsz => (rw [sizeLine_eq]; simp only [Str.length_append, item_len, run_s, run_t, if_r, if_w]; omega)); intro _ _))
theorem bitsV_range4 (a b c d : Bool) : 0 ≤ bitsV [a, b, c, d] ∧ bitsV [a, b, c, d] < 16 := by cases a <;> cases b <;> cases c <;> cases d <;> decide
theorem knBits_range (x : Str) : 0 ≤ bitsV (knBits x) ∧ bitsV (knBits x) < ((Str.ofString "?pc?d?b?-?l?s???").length : Int) := bitsV_range4 _ _ _ _
/-- what the law's machine makes of a row and an octet -/
def mvS (x : Str) (d : Int) : Str :=
  Txt.item (Str.ofString "?pc?d?b?-?l?s???") (bitsV (knBits x)) ++ (Txt.item x 7 ++ Txt.item x 8 ++ runS (inC x 9 "xt") (isC x 4 "r") (Str.ofString "s") (Str.ofString "S")) ++
    ((if canB d 0 then Str.ofString "r" else Str.ofString "-") ++ (if canB d 1 then Str.ofString "w" else Str.ofString "-") ++ runS (canB d 2) (isC x 5 "w") (Str.ofString "s") (Str.ofString "S")) ++
    ((if canB d 3 then Str.ofString "r" else Str.ofString "-") ++ (if canB d 4 then Str.ofString "w" else Str.ofString "-") ++ runS (canB d 5) (inC x 6 "xs") (Str.ofString "t") (Str.ofString "T"))
set_option maxHeartbeats 8000000 in
theorem moved (w : World) (c0 c1 c2 c3 c4 c5 c6 c7 c8 c9 : Nat) (d : Int) (t td : Tok) (news : List (Addr × Obj)) (hd0 : 0 ≤ d) (hd1 : d < 64) : Says w 87 [.str (row10 c0 c1 c2 c3 c4 c5 c6 c7 c8 c9) t, .int d td] news 2 16 (fun r n => n = news ∧ ∃ t, r = .str (mvS (row10 c0 c1 c2 c3 c4 c5 c6 c7 c8 c9) d) t) := by
  unfold Says
  k_fill
  intro mean mg mb dp un gd cn cs a ccd cl outer A₀ base h₀ L m s Q E B F X N T hk hd hu hret
  walk_at "mine enterC"
  intro g L' h₁ tk₁ cells FG F' N' Y B' X' T' l1
  dsimp only
  obtain ⟨o, hE, d1⟩ := CellsAre.one Y
  subst hE
  clear Y
  simp only [List.cons_append, List.nil_append] at N'
  obtain ⟨m1, F1, hm1⟩ : ∃ m1, Fr g L' h₁ m1 ∧ m1 (Str.ofString "row") = some (.str (row10 c0 c1 c2 c3 c4 c5 c6 c7 c8 c9) t) := ⟨_, F', rfl⟩
  clear F'
  replace d1 : o.data = .cell (some (.int d td)) := d1
  iterate 1 walk1
  refine wpAny_Assign_ListComp_free (fun _ => true) (fun v y => y = canV d v) (by with_unfolding_all rfl) (by with_unfolding_all rfl) (by decide) rfl (by decide) rfl rfl rfl ?_ (by intro _; rfl)
  iterate 14 walk1
  refine newTuple_N F1 N' (fun h₃ F3 N3 => ?_) (by rw [sizeLine_eq]; exact Nat.le_of_ble_eq_true rfl)
  have tup := N3 _ (.head _)
  have cel := N3 _ (.tail _ (.head _))
  have fresh : h₃.get? h₃.objs.size = none := Heap.get?_none_of_le (Nat.le_refl _)
  refine wpAny_pyIter_tuple ⟨_, tup.1, rfl, _, rfl⟩ ?_
  refine ⟨_, _, _, _, _, _, m1, rfl, Walks.tuple rfl h₃.objs.size _ (Nat.ne_of_lt (Heap.lt_size tup.1)) _, by rw [sizeLine_eq]; exact Nat.le_of_ble_eq_true rfl, ⟨⟨_, Heap.get?_push_size _ rfl, rfl, rfl⟩, _, Heap.get?_push_of_some _ tup.1, rfl, _, rfl⟩, ?below, fun hm => absurd F3.ns.lt (by rw [show L' = h₃.objs.size from List.mem_singleton.mp hm]; exact Nat.lt_irrefl _), (F3.push _).ns, ⟨fun C i v s₃ m₃ E' _ _ _ _ _ _ => wpAny_tests_nil ⟨rfl, _, _, rfl, fun _ _ e => e⟩, ?elt⟩, ?fin⟩
  case below =>
    intro b hb
    rw [show (h₃.push _).objs.size = h₃.objs.size + 1 from Heap.size_push ..]
    rcases List.mem_cons.mp hb with rfl | hb
    · exact Nat.lt_succ_self _
    · rw [List.mem_singleton.mp hb]
      exact Nat.lt_succ_of_lt (Heap.lt_size tup.1)
  case elt =>
    intro C i v s₃ m₃ E' _ hP _ hn hm keep _
    have cell : s₃.heap.IsCell _ (some (.int d td)) := ⟨o, keep _ o (fun hm => by have := cel.1; rw [List.mem_singleton.mp hm, fresh] at this; cases this) (Heap.get?_push_of_some _ cel.1), d1⟩
    have hi6 : i < 6 := (Array.getElem?_eq_some_iff.mp hP).1
    have six : i = 0 ∨ i = 1 ∨ i = 2 ∨ i = 3 ∨ i = 4 ∨ i = 5 := by omega
    have lit : (∃ tv, v = .int 32 tv) ∨ (∃ tv, v = .int 16 tv) ∨ (∃ tv, v = .int 8 tv) ∨ (∃ tv, v = .int 4 tv) ∨ (∃ tv, v = .int 2 tv) ∨ ∃ tv, v = .int 1 tv := by
      have e := hP.symm
      rcases six with rfl | rfl | rfl | rfl | rfl | rfl
      · exact .inl ⟨_, Option.some.inj e⟩
      · exact .inr (.inl ⟨_, Option.some.inj e⟩)
      · exact .inr (.inr (.inl ⟨_, Option.some.inj e⟩))
      · exact .inr (.inr (.inr (.inl ⟨_, Option.some.inj e⟩)))
      · exact .inr (.inr (.inr (.inr (.inl ⟨_, Option.some.inj e⟩))))
      · exact .inr (.inr (.inr (.inr (.inr ⟨_, Option.some.inj e⟩))))
    rcases lit with ⟨tv, rfl⟩ | ⟨tv, rfl⟩ | ⟨tv, rfl⟩ | ⟨tv, rfl⟩ | ⟨tv, rfl⟩ | ⟨tv, rfl⟩
    all_goals
      iterate 3 walk1
      refine ldCellK rfl cell ?_
      refine ldVarK hn hm ?_
      iterate 5 walk1
      exact ⟨rfl, _, _, rfl, fun _ _ e => e⟩
  case fin =>
    intro D h tk ys vs hD _ made hlen hP pair ns keep
    obtain rfl := walked_is hlen hP
    have hys := paired_map (by simpa using pair)
    obtain ⟨n, F5, N5⟩ := comp_after F3 N3 fresh (fun b o e => Heap.get?_push_of_some _ e) hD made ns keep
    rw [← Array.toArray_toList (xs := ys), hys] at N5
    obtain ⟨m2, F6, hr2, hc2⟩ : ∃ m2, Fr g L' h m2 ∧ m2 (Str.ofString "row") = some (.str (row10 c0 c1 c2 c3 c4 c5 c6 c7 c8 c9) t) ∧ m2 (Str.ofString "can") = some (.ref D) := ⟨_, F5, hm1, rfl⟩
    have N6 := cb_drop (news := (D, W.listOf #[.bool (canB d 0), .bool (canB d 1), .bool (canB d 2), .bool (canB d 3), .bool (canB d 4), .bool (canB d 5)] n) :: news) (show News g L' h _ from N5) (by
      intro q hq
      rcases List.mem_cons.mp hq with rfl | hq
      · exact .head _
      · exact .tail _ (.tail _ (.tail _ hq)))
    clear F5 N5 hys pair made keep hD
    dsimp only
    iterate 5 walk1
    refine For_gen ?_
    iterate 34 walk1
    rename Fr g _ _ _ => F7
    rename News g _ _ _ => N7
    refine newTuple_N F7 N7 (fun h₈ F8 N8 => ?_) (by rw [sizeLine_eq]; exact Nat.le_of_ble_eq_true rfl)
    refine wpAny_pyIter_tuple ⟨_, (N8 _ (.head _)).1, rfl, _, rfl⟩ ?_
    refine for_gen (feed_tupO rfl _ _ _ 0 (Nat.ne_of_lt (Heap.lt_size (N8 _ (.head _)).1))) (mvJ (row10 c0 c1 c2 c3 c4 c5 c6 c7 c8 c9) t D (knBits (row10 c0 c1 c2 c3 c4 c5 c6 c7 c8 c9)) _) (F8.push _) ((N8.push F8 _)) ?hoff ⟨rfl, hr2, hc2, _, rfl⟩ ?step ?fin PassesOwn.leaving
    case hoff => exact off_new (Heap.lt_size (N8 _ (.head _)).1) fun q hq => Heap.lt_size (N7 q hq).1
    case step =>
      rintro i v extra m₁ news₁ h₁ tk₁ hi ⟨hv, rfl⟩ ⟨rfl, hr3, hc3, tn, hdg⟩ hoff F4 N4
      simp only [List.cons_append, List.nil_append] at N4
      replace F4 : Fr g L' h₁ m₁ := F4
      replace N4 : News g L' h₁ _ := N4
      obtain ⟨b, rfl, hb⟩ := bool_item (bs := knBits (row10 c0 c1 c2 c3 c4 c5 c6 c7 c8 c9)) (by simpa [knBits, isC, inC] using hv)
      iterate 7 walk1
      cases b <;> (
        iterate 3 walk1
        refine IfExp_ ?_
        repeat walk1
        rename Fr g _ _ _ => F5
        rename News g _ _ _ => N5
        refine FStep.go F5 N5 ?_ hoff ?_
        · exact fun q hq => hq
        · refine ⟨rfl, hr3, hc3, ?_⟩
          rw [hb, bitsV_snoc]
          exact ⟨_, rfl⟩)
    case fin =>
      rintro m₁ news₁ h₁ tk₁ ⟨rfl, hr3, hc3, tn, hdg⟩ hoff F4 N4
      replace hdg : m₁ (Str.ofString "kind") = some (.int (bitsV (knBits (row10 c0 c1 c2 c3 c4 c5 c6 c7 c8 c9))) tn) := hdg
      have hkn := knBits_range (row10 c0 c1 c2 c3 c4 c5 c6 c7 c8 c9)
      replace F4 : Fr g L' h₁ m₁ := F4
      replace N4 : News g L' h₁ _ := N4
      repeat walk1
      refine Says.use (lawrun w _ _ _ _ _ _ _) (by assumption) (by assumption) (by assumption) (by assumption) (by assumption) rfl (by ktr_room) (by ktr_units) ?_
      rintro r nw h₈ tk₈ ⟨rfl, t₈, rfl⟩ F8 N8
      iterate 6 walk1
      refine ifexp_join (canB d 0) ?_ fun ta tka => ?_
      · repeat walk1
      refine ifexp_join (canB d 1) ?_ fun tb tkb => ?_
      · repeat walk1
      repeat walk1
      refine Says.use (lawrun w _ _ _ _ _ _ _) (by assumption) (by assumption) (by assumption) (by assumption) (by assumption) rfl (by ktr_room) (by ktr_units) ?_
      rintro r nw h₉ tk₉ ⟨rfl, t₉, rfl⟩ F9 N9
      iterate 6 walk1
      refine ifexp_join (canB d 3) ?_ fun tc tkc => ?_
      · repeat walk1
      refine ifexp_join (canB d 4) ?_ fun te tke => ?_
      · repeat walk1
      repeat walk1
      refine Says.use (lawrun w _ _ _ _ _ _ _) (by assumption) (by assumption) (by assumption) (by assumption) (by assumption) rfl (by ktr_room) (by ktr_units) ?_
      rintro r nw h₁₀ tk₁₀ ⟨rfl, t₁₀, rfl⟩ F10 N10
      repeat walk1
      have hl16 : ((Str.ofString "?pc?d?b?-?l?s???").length : Int) = 16 := by decide
      refine tail_of_ItemOn (SBL.item ?_ ?_ ?_ fun _ => ?_) (by with_unfolding_all rfl) (by intro _; with_unfolding_all rfl)
      · rw [hl16]
        omega
      · exact hkn.2
      · rw [hl16]
        decide
      dsimp only
      repeat walk1
      rename Fr h₀ L _ _ => kF
      rename News h₀ L _ _ => kN
      refine hret _ _ _ _ ⟨rfl, _, rfl⟩ kF ?_
      exact fun q hq => kN q (.tail _ hq)
end Mine
end
section
namespace Mine
def val (ds : List Int) : Int := ds.foldl (fun a d => a * 64 + d) 0
theorem val_snoc (l : List Int) (d : Int) : val (l ++ [d]) = val l * 64 + d := by simp [val]
theorem val_foldl (r : List Int) : ∀ a : Int, r.foldl (fun a d => a * 64 + d) a = a * 64 ^ r.length + val r := by
  induction r with
  | nil => intro a; simp [val]
  | cons d r ih =>
    intro a
    show r.foldl (fun a d => a * 64 + d) (a * 64 + d) = _
    have e : val (d :: r) = r.foldl (fun a d => a * 64 + d) (0 * 64 + d) := rfl
    rw [e, ih, ih, List.length_cons, Int.pow_succ]
    rw [Int.add_mul, Int.zero_mul, Int.zero_add, Int.mul_assoc, Int.mul_comm 64, Int.add_assoc]
theorem val_append (l r : List Int) : val (l ++ r) = val l * 64 ^ r.length + val r := by
  have : val (l ++ r) = r.foldl (fun a d => a * 64 + d) (val l) := by simp [val]
  rw [this, val_foldl]
theorem pow64_pos (n : Nat) : 0 < (64 : Int) ^ n := pow_pos_of (by decide) n
theorem val_bound : ∀ (ds : List Int), (∀ d ∈ ds, 0 ≤ d ∧ d < 64) → 0 ≤ val ds ∧ val ds < 64 ^ ds.length := by
  intro ds
  induction ds with
  | nil => intro _; decide
  | cons d r ih =>
    intro h
    have hr := ih fun x hx => h x (.tail _ hx)
    have hd := h d (.head _)
    have e := val_append [d] r
    have e1 : val [d] = d := by simp [val]
    rw [e1] at e
    rw [show d :: r = [d] ++ r from rfl, e, List.length_append, List.length_singleton, Nat.add_comm, Int.pow_succ]
    have hp := pow64_pos r.length
    have h1 : 0 ≤ d * 64 ^ r.length := Int.mul_nonneg hd.1 (Int.le_of_lt hp)
    have h2 : (d + 1) * 64 ^ r.length ≤ 64 * 64 ^ r.length := Int.mul_le_mul_of_nonneg_right (by omega) (Int.le_of_lt hp)
    rw [Int.add_mul, Int.one_mul] at h2
    rw [Int.mul_comm (64 ^ r.length) 64]
    omega
theorem val_div {ds : List Int} (h : ∀ d ∈ ds, 0 ≤ d ∧ d < 64) (k : Nat) : val ds / 64 ^ (ds.drop k).length = val (ds.take k) := by
  have e := val_append (ds.take k) (ds.drop k)
  rw [List.take_append_drop] at e
  have hb := val_bound (ds.drop k) fun x hx => h x (List.mem_of_mem_drop hx)
  rw [e, Int.add_comm, Int.add_mul_ediv_right _ _ (Int.ne_of_gt (pow64_pos _)), Int.ediv_eq_zero_of_lt hb.1 hb.2, Int.zero_add]
theorem val_fdiv {ds : List Int} (h : ∀ d ∈ ds, 0 ≤ d ∧ d < 64) (k j : Nat) (hj : j + k = ds.length) : (val ds).fdiv (64 ^ j) = val (ds.take k) := by
  rw [Int.fdiv_eq_ediv_of_nonneg _ (Int.le_of_lt (pow64_pos j))]
  have : (ds.drop k).length = j := by rw [List.length_drop]; omega
  rw [← this]
  exact val_div h k
end Mine
end
section
namespace Mine
def bit (x : Int) (k : Nat) : Bool := decide (x / 2 ^ k % 2 = 1)
def rc (b : Bool) : Nat := if b then 114 else 45
def wc (b : Bool) : Nat := if b then 119 else 45
def xsc (x s : Bool) : Nat := if s then (if x then 115 else 83) else if x then 120 else 45
def xtc (x s : Bool) : Nat := if s then (if x then 116 else 84) else if x then 120 else 45
def kcs : List Nat := [63, 112, 99, 63, 100, 63, 98, 63, 45, 63, 108, 63, 115, 63, 63, 63]
def kc (k : Nat) : Nat := kcs.getD k 63
theorem kc_item : ∀ k : Fin 16, Txt.item (Str.ofString "?pc?d?b?-?l?s???") ((k.val : Nat) : Int) = ⟨#[kc k.val]⟩ := by decide +kernel
theorem nbit (n k : Nat) : n.testBit k = bit (n : Int) k := by
  rw [Nat.testBit_eq_decide_div_mod_eq]
  unfold bit
  have e : ((n : Int) / 2 ^ k % 2) = ((n / 2 ^ k % 2 : Nat) : Int) := by
    rw [Int.natCast_emod, Int.natCast_ediv, Int.natCast_pow]
    rfl
  rw [e]
  have h : (n / 2 ^ k % 2 = 1) ↔ (((n / 2 ^ k % 2 : Nat) : Int) = 1) := by omega
  exact decide_eq_decide.mpr h
theorem and_all (n m N : Nat) (hm : m < 2 ^ N) : (n &&& m == m) = (List.range N).all fun i => !m.testBit i || n.testBit i := by
  rw [Bool.eq_iff_iff, beq_iff_eq, List.all_eq_true]
  constructor
  · intro h i _
    have h1 : (n &&& m).testBit i = m.testBit i := by rw [h]
    rw [Nat.testBit_and] at h1
    revert h1
    cases n.testBit i <;> cases m.testBit i <;> simp
  · intro h
    refine Nat.eq_of_testBit_eq fun i => ?_
    rw [Nat.testBit_and]
    by_cases hi : i < N
    · have := h i (List.mem_range.mpr hi)
      revert this
      cases n.testBit i <;> cases m.testBit i <;> simp
    · have : m.testBit i = false := Nat.testBit_lt_two_pow (Nat.lt_of_lt_of_le hm (Nat.pow_le_pow_right (by decide) (by omega)))
      rw [this, Bool.and_false]
theorem bA (n m N : Nat) (hm : m < 2 ^ N) : (Builtin.bitAnd (n : Int) (m : Int) == (m : Int)) = (List.range N).all fun i => !m.testBit i || n.testBit i := by
  rw [← and_all n m N hm, bitAnd_pp (by omega) (by omega), Int.toNat_natCast, Int.toNat_natCast, Bool.eq_iff_iff, beq_iff_eq, beq_iff_eq]
  omega
theorem b1 (n k : Nat) (m : Nat) (hm : m = 2 ^ k) : (Builtin.bitAnd (n : Int) (m : Int) == (m : Int)) = bit n k := by
  rw [← nbit, Bool.eq_iff_iff, beq_iff_eq, bitAnd_pp (by omega) (by omega), Int.toNat_natCast, Int.toNat_natCast]
  have e : (((n &&& m : Nat) : Int) = (m : Int)) ↔ n &&& m = m := by omega
  rw [e]
  subst hm
  constructor
  · intro h
    have h1 : (n &&& 2 ^ k).testBit k = (2 ^ k).testBit k := by rw [h]
    rw [Nat.testBit_and, Nat.testBit_two_pow] at h1
    simpa using h1
  · intro h
    refine Nat.eq_of_testBit_eq fun i => ?_
    rw [Nat.testBit_and, Nat.testBit_two_pow]
    by_cases hi : k = i
    · subst hi
      simp [h]
    · simp [hi]
theorem b2112 (n : Nat) : (Builtin.bitAnd (n : Int) 2112 == 2112) = (bit n 6 && bit n 11) := by
  rw [← nbit, ← nbit, ← Bool.and_true (n.testBit 11)]
  exact bA n 2112 12 (by decide)
theorem b1032 (n : Nat) : (Builtin.bitAnd (n : Int) 1032 == 1032) = (bit n 3 && bit n 10) := by
  rw [← nbit, ← nbit, ← Bool.and_true (n.testBit 10)]
  exact bA n 1032 11 (by decide)
theorem b513 (n : Nat) : (Builtin.bitAnd (n : Int) 513 == 513) = (bit n 0 && bit n 9) := by
  rw [← nbit, ← nbit, ← Bool.and_true (n.testBit 9)]
  exact bA n 513 10 (by decide)
theorem b61440 (n : Nat) : Builtin.bitAnd (n : Int) 61440 = ((4096 * (n / 4096 % 16) : Nat) : Int) := by
  rw [bitAnd_pp (by omega) (by decide), Int.toNat_natCast]
  congr 1
  refine Nat.eq_of_testBit_eq fun i => ?_
  show (n &&& 2 ^ 12 * (2 ^ 4 - 1)).testBit i = (2 ^ 12 * (n / 2 ^ 12 % 2 ^ 4)).testBit i
  rw [Nat.testBit_and, Nat.testBit_two_pow_mul, Nat.testBit_two_pow_mul, Nat.testBit_two_pow_sub_one, Nat.testBit_mod_two_pow, Nat.testBit_div_two_pow]
  by_cases h : 12 ≤ i
  · have e : i - 12 + 12 = i := by omega
    rw [e]
    cases n.testBit i <;> simp [h]
  · simp [h]
theorem b4095 (n : Nat) : Builtin.bitAnd (n : Int) 4095 = ((n % 4096 : Nat) : Int) := by
  rw [bitAnd_pp (by omega) (by decide), Int.toNat_natCast]
  congr 1
  exact Nat.and_two_pow_sub_one_eq_mod n 12
theorem k0 (n : Nat) : pick 0 n (tabs.getD 0 []) = ⟨#[kc (n / 4096 % 16)]⟩ := by
  have hk : n / 4096 % 16 < 16 := Nat.mod_lt _ (by decide)
  have all : ∀ k : Fin 16, (if (((4096 * k.val : Nat) : Int) == 40960) then Str.ofString "l" else if (((4096 * k.val : Nat) : Int) == 49152) then Str.ofString "s" else if (((4096 * k.val : Nat) : Int) == 32768) then Str.ofString "-" else if (((4096 * k.val : Nat) : Int) == 24576) then Str.ofString "b" else if (((4096 * k.val : Nat) : Int) == 16384) then Str.ofString "d" else if (((4096 * k.val : Nat) : Int) == 8192) then Str.ofString "c" else if (((4096 * k.val : Nat) : Int) == 4096) then Str.ofString "p" else Str.ofString "?") = (⟨#[kc k.val]⟩ : Str) := by decide +kernel
  rw [← all ⟨_, hk⟩]
  simp only [tabs, List.getD_cons_zero, pick, b61440, if_true]
theorem pR (i n k m : Nat) (hi : i ≠ 0) (hm : m = 2 ^ k) : pick i n [((m : Int), Str.ofString "r")] = ⟨#[rc (bit n k)]⟩ := by
  simp only [pick, hi, if_false, b1 n k m hm]
  cases bit n k <;> rfl
theorem pW (i n k m : Nat) (hi : i ≠ 0) (hm : m = 2 ^ k) : pick i n [((m : Int), Str.ofString "w")] = ⟨#[wc (bit n k)]⟩ := by
  simp only [pick, hi, if_false, b1 n k m hm]
  cases bit n k <;> rfl
theorem p3 (n : Nat) : pick 3 n (tabs.getD 3 []) = ⟨#[xsc (bit n 6) (bit n 11)]⟩ := by
  have e1 := b2112 n
  have e2 : (Builtin.bitAnd (n : Int) 2048 == 2048) = bit n 11 := b1 n 11 2048 rfl
  have e3 : (Builtin.bitAnd (n : Int) 64 == 64) = bit n 6 := b1 n 6 64 rfl
  simp only [tabs, List.getD_cons_succ, List.getD_cons_zero, pick, e1, e2, e3]
  cases bit n 6 <;> cases bit n 11 <;> rfl
theorem p6 (n : Nat) : pick 6 n (tabs.getD 6 []) = ⟨#[xsc (bit n 3) (bit n 10)]⟩ := by
  have e1 := b1032 n
  have e2 : (Builtin.bitAnd (n : Int) 1024 == 1024) = bit n 10 := b1 n 10 1024 rfl
  have e3 : (Builtin.bitAnd (n : Int) 8 == 8) = bit n 3 := b1 n 3 8 rfl
  simp only [tabs, List.getD_cons_succ, List.getD_cons_zero, pick, e1, e2, e3]
  cases bit n 3 <;> cases bit n 10 <;> rfl
theorem p9 (n : Nat) : pick 9 n (tabs.getD 9 []) = ⟨#[xtc (bit n 0) (bit n 9)]⟩ := by
  have e1 := b513 n
  have e2 : (Builtin.bitAnd (n : Int) 512 == 512) = bit n 9 := b1 n 9 512 rfl
  have e3 : (Builtin.bitAnd (n : Int) 1 == 1) = bit n 0 := b1 n 0 1 rfl
  simp only [tabs, List.getD_cons_succ, List.getD_cons_zero, pick, e1, e2, e3]
  cases bit n 0 <;> cases bit n 9 <;> rfl
theorem join10 (c0 c1 c2 c3 c4 c5 c6 c7 c8 c9 : Nat) : Txt.join (Str.ofString "") [⟨#[c0]⟩, ⟨#[c1]⟩, ⟨#[c2]⟩, ⟨#[c3]⟩, ⟨#[c4]⟩, ⟨#[c5]⟩, ⟨#[c6]⟩, ⟨#[c7]⟩, ⟨#[c8]⟩, ⟨#[c9]⟩] = row10 c0 c1 c2 c3 c4 c5 c6 c7 c8 c9 := rfl
def rowN (n : Nat) : Str := row10 (kc (n / 4096 % 16)) (rc (bit n 8)) (wc (bit n 7)) (xsc (bit n 6) (bit n 11)) (rc (bit n 5)) (wc (bit n 4)) (xsc (bit n 3) (bit n 10)) (rc (bit n 2)) (wc (bit n 1)) (xtc (bit n 0) (bit n 9))
theorem fmL_ten (x : Int) : fmL x = [pick 0 x (tabs.getD 0 []), pick 1 x (tabs.getD 1 []), pick 2 x (tabs.getD 2 []), pick 3 x (tabs.getD 3 []), pick 4 x (tabs.getD 4 []), pick 5 x (tabs.getD 5 []), pick 6 x (tabs.getD 6 []), pick 7 x (tabs.getD 7 []), pick 8 x (tabs.getD 8 []), pick 9 x (tabs.getD 9 [])] := rfl
theorem fmS_n (n : Nat) : fmS n = rowN n := by
  unfold fmS
  rw [fmL_ten, k0, p3, p6, p9]
  have h1 : pick 1 n (tabs.getD 1 []) = _ := pR 1 n 8 256 (by decide) rfl
  have h2 : pick 2 n (tabs.getD 2 []) = _ := pW 2 n 7 128 (by decide) rfl
  have h4 : pick 4 n (tabs.getD 4 []) = _ := pR 4 n 5 32 (by decide) rfl
  have h5 : pick 5 n (tabs.getD 5 []) = _ := pW 5 n 4 16 (by decide) rfl
  have h7 : pick 7 n (tabs.getD 7 []) = _ := pR 7 n 2 4 (by decide) rfl
  have h8 : pick 8 n (tabs.getD 8 []) = _ := pW 8 n 1 2 (by decide) rfl
  rw [h1, h2, h4, h5, h7, h8]
  exact join10 _ _ _ _ _ _ _ _ _ _
theorem one_pick (i : Nat) (x : Int) : ∀ l : List (Int × Str), (∀ q ∈ l, ∃ c, q.2 = ⟨#[c]⟩) → ∃ c, pick i x l = ⟨#[c]⟩ := by
  intro l
  induction l with
  | nil =>
    intro _
    unfold pick
    split
    · exact ⟨63, rfl⟩
    · exact ⟨45, rfl⟩
  | cons q r ih =>
    intro h
    obtain ⟨b, c⟩ := q
    have ha := h (b, c) (.head _)
    have hb := ih fun q hq => h q (.tail _ hq)
    unfold pick
    by_cases hc : (if i = 0 then Builtin.bitAnd x 61440 == b else Builtin.bitAnd x b == b) = true
    · rw [if_pos hc]
      exact ha
    · rw [if_neg hc]
      exact hb
theorem tabs_one : ∀ l ∈ tabs, ∀ q ∈ l, q.2 = ⟨#[q.2.cps.getD 0 0]⟩ := by decide +kernel
theorem pick_one (i : Nat) (x : Int) : ∃ c, pick i x (tabs.getD i []) = ⟨#[c]⟩ := by
  refine one_pick i x _ fun q hq => ?_
  rw [List.getD_eq_getElem?_getD] at hq
  cases h : tabs[i]? with
  | none => rw [h] at hq; cases hq
  | some l => rw [h] at hq; exact ⟨_, tabs_one l (List.mem_of_getElem? h) q hq⟩
theorem fmS_row (x : Int) : ∃ c0 c1 c2 c3 c4 c5 c6 c7 c8 c9, fmS x = row10 c0 c1 c2 c3 c4 c5 c6 c7 c8 c9 := by
  obtain ⟨c0, h0⟩ := pick_one 0 x
  obtain ⟨c1, h1⟩ := pick_one 1 x
  obtain ⟨c2, h2⟩ := pick_one 2 x
  obtain ⟨c3, h3⟩ := pick_one 3 x
  obtain ⟨c4, h4⟩ := pick_one 4 x
  obtain ⟨c5, h5⟩ := pick_one 5 x
  obtain ⟨c6, h6⟩ := pick_one 6 x
  obtain ⟨c7, h7⟩ := pick_one 7 x
  obtain ⟨c8, h8⟩ := pick_one 8 x
  obtain ⟨c9, h9⟩ := pick_one 9 x
  refine ⟨c0, c1, c2, c3, c4, c5, c6, c7, c8, c9, ?_⟩
  unfold fmS
  rw [fmL_ten, h0, h1, h2, h3, h4, h5, h6, h7, h8, h9]
  exact join10 _ _ _ _ _ _ _ _ _ _
/-! the tests on a row -/
section
variable (c0 c1 c2 c3 c4 c5 c6 c7 c8 c9 : Nat)
theorem it1 : Txt.item (row10 c0 c1 c2 c3 c4 c5 c6 c7 c8 c9) 1 = ⟨#[c1]⟩ := rfl
theorem it2 : Txt.item (row10 c0 c1 c2 c3 c4 c5 c6 c7 c8 c9) 2 = ⟨#[c2]⟩ := rfl
theorem it3 : Txt.item (row10 c0 c1 c2 c3 c4 c5 c6 c7 c8 c9) 3 = ⟨#[c3]⟩ := rfl
theorem it4 : Txt.item (row10 c0 c1 c2 c3 c4 c5 c6 c7 c8 c9) 4 = ⟨#[c4]⟩ := rfl
theorem it5 : Txt.item (row10 c0 c1 c2 c3 c4 c5 c6 c7 c8 c9) 5 = ⟨#[c5]⟩ := rfl
theorem it6 : Txt.item (row10 c0 c1 c2 c3 c4 c5 c6 c7 c8 c9) 6 = ⟨#[c6]⟩ := rfl
theorem it7 : Txt.item (row10 c0 c1 c2 c3 c4 c5 c6 c7 c8 c9) 7 = ⟨#[c7]⟩ := rfl
theorem it8 : Txt.item (row10 c0 c1 c2 c3 c4 c5 c6 c7 c8 c9) 8 = ⟨#[c8]⟩ := rfl
theorem it9 : Txt.item (row10 c0 c1 c2 c3 c4 c5 c6 c7 c8 c9) 9 = ⟨#[c9]⟩ := rfl
end
def chIs (c : Nat) (t : String) : Bool := (⟨#[c]⟩ : Str) == Str.ofString t
def chIn (c : Nat) (t : String) : Bool := !(Builtin.Str.occurrences (Str.ofString t) (⟨#[c]⟩ : Str) 0 (Str.ofString t).length 1).isEmpty
theorem is_r : ∀ b, chIs (rc b) "r" = b := by decide +kernel
theorem is_w : ∀ b, chIs (wc b) "w" = b := by decide +kernel
theorem in_xs : ∀ x s, chIn (xsc x s) "xs" = x := by decide +kernel
theorem in_xt : ∀ x s, chIn (xtc x s) "xt" = x := by decide +kernel
theorem in_tT : ∀ x s, chIn (xtc x s) "tT" = s := by decide +kernel
theorem run_xs : ∀ x s, runS x s (Str.ofString "s") (Str.ofString "S") = ⟨#[xsc x s]⟩ := by decide +kernel
theorem run_xt : ∀ x s, runS x s (Str.ofString "t") (Str.ofString "T") = ⟨#[xtc x s]⟩ := by decide +kernel
theorem if_rc (b : Bool) : (if b then Str.ofString "r" else Str.ofString "-") = ⟨#[rc b]⟩ := by cases b <;> rfl
theorem if_wc (b : Bool) : (if b then Str.ofString "w" else Str.ofString "-") = ⟨#[wc b]⟩ := by cases b <;> rfl
theorem ld_row (n : Nat) : ldBits (rowN n) = [bit n 5, bit n 4, bit n 3, bit n 2, bit n 1, bit n 0] := by
  unfold ldBits
  have h4 : isC (rowN n) 4 "r" = bit n 5 := is_r _
  have h5 : isC (rowN n) 5 "w" = bit n 4 := is_w _
  have h6 : inC (rowN n) 6 "xs" = bit n 3 := in_xs _ _
  have h7 : isC (rowN n) 7 "r" = bit n 2 := is_r _
  have h8 : isC (rowN n) 8 "w" = bit n 1 := is_w _
  have h9 : inC (rowN n) 9 "xt" = bit n 0 := in_xt _ _
  rw [h4, h5, h6, h7, h8, h9]
theorem kn_row (n : Nat) : knBits (rowN n) = [bit n 9, bit n 8, bit n 7, bit n 6] := by
  unfold knBits
  have h1 : isC (rowN n) 1 "r" = bit n 8 := is_r _
  have h2 : isC (rowN n) 2 "w" = bit n 7 := is_w _
  have h3 : inC (rowN n) 3 "xs" = bit n 6 := in_xs _ _
  have h9 : inC (rowN n) 9 "tT" = bit n 9 := in_tT _ _
  rw [h1, h2, h3, h9]
theorem bitI (x : Int) (k : Nat) : (if bit x k = true then (1 : Int) else 0) = x / 2 ^ k % 2 := by
  unfold bit
  by_cases h : x / 2 ^ k % 2 = 1
  · rw [if_pos (decide_eq_true h), h]
  · rw [if_neg (by simpa using h)]
    omega
theorem bits6 (x : Int) : bitsV [bit x 5, bit x 4, bit x 3, bit x 2, bit x 1, bit x 0] = x % 64 := by
  have h5 : (if bit x 5 = true then (1 : Int) else 0) = x / 32 % 2 := bitI x 5
  have h4 : (if bit x 4 = true then (1 : Int) else 0) = x / 16 % 2 := bitI x 4
  have h3 : (if bit x 3 = true then (1 : Int) else 0) = x / 8 % 2 := bitI x 3
  have h2 : (if bit x 2 = true then (1 : Int) else 0) = x / 4 % 2 := bitI x 2
  have h1 : (if bit x 1 = true then (1 : Int) else 0) = x / 2 % 2 := bitI x 1
  have h0 : (if bit x 0 = true then (1 : Int) else 0) = x / 1 % 2 := bitI x 0
  have e0 : x % 64 = 32 * (x / 32 % 2) + x % 32 := by omega
  have e1 : x % 32 = 16 * (x / 16 % 2) + x % 16 := by omega
  have e2 : x % 16 = 8 * (x / 8 % 2) + x % 8 := by omega
  have e3 : x % 8 = 4 * (x / 4 % 2) + x % 4 := by omega
  have e4 : x % 4 = 2 * (x / 2 % 2) + x / 1 % 2 := by omega
  simp only [bitsV, List.foldl_cons, List.foldl_nil, h5, h4, h3, h2, h1, h0]
  rw [e0, e1, e2, e3, e4]
  generalize x / 32 % 2 = a5
  generalize x / 16 % 2 = a4
  generalize x / 8 % 2 = a3
  generalize x / 4 % 2 = a2
  generalize x / 2 % 2 = a1
  generalize x / 1 % 2 = a0
  omega
theorem bits4 (x : Int) : bitsV [bit x 9, bit x 8, bit x 7, bit x 6] = x / 64 % 16 := by
  have h9 : (if bit x 9 = true then (1 : Int) else 0) = x / 512 % 2 := bitI x 9
  have h8 : (if bit x 8 = true then (1 : Int) else 0) = x / 256 % 2 := bitI x 8
  have h7 : (if bit x 7 = true then (1 : Int) else 0) = x / 128 % 2 := bitI x 7
  have h6 : (if bit x 6 = true then (1 : Int) else 0) = x / 64 % 2 := bitI x 6
  have e0 : x / 64 % 16 = 8 * (x / 512 % 2) + x / 64 % 8 := by omega
  have e1 : x / 64 % 8 = 4 * (x / 256 % 2) + x / 64 % 4 := by omega
  have e2 : x / 64 % 4 = 2 * (x / 128 % 2) + x / 64 % 2 := by omega
  simp only [bitsV, List.foldl_cons, List.foldl_nil, h9, h8, h7, h6]
  rw [e0, e1, e2]
  generalize x / 512 % 2 = a9
  generalize x / 256 % 2 = a8
  generalize x / 128 % 2 = a7
  generalize x / 64 % 2 = a6
  omega
theorem ld_fm {x : Int} (hx : 0 ≤ x) : bitsV (ldBits (fmS x)) = x % 64 := by
  obtain ⟨n, rfl⟩ := Int.eq_ofNat_of_zero_le hx
  rw [fmS_n, ld_row, bits6]
theorem fmod5 (x : Int) : x.fmod (64 ^ 5) = x % 1073741824 := Int.fmod_eq_emod_of_nonneg _ (by decide)
theorem imode_mod {x : Int} (_ : 0 ≤ x) : Builtin.bitAnd (x.fmod (64 ^ 5)) 4095 = x % 4096 := by
  rw [fmod5]
  obtain ⟨n, hn⟩ := Int.eq_ofNat_of_zero_le (a := x % 1073741824) (by omega)
  rw [hn, b4095]
  omega
theorem ifmt_mod {x : Int} (_ : 0 ≤ x) : Builtin.bitAnd (x.fmod (64 ^ 5)) 61440 = 4096 * (x / 4096 % 16) := by
  rw [fmod5]
  obtain ⟨n, hn⟩ := Int.eq_ofNat_of_zero_le (a := x % 1073741824) (by omega)
  rw [hn, b61440]
  omega
theorem bit_congr {x y : Int} {j k : Nat} (h : x / 2 ^ j % 2 = y / 2 ^ k % 2) : bit x j = bit y k := by
  unfold bit
  rw [h]
theorem fmS_mod {x : Int} (hx : 0 ≤ x) : fmS (x.fmod (64 ^ 5)) = fmS x := by
  rw [fmod5]
  obtain ⟨m, rfl⟩ := Int.eq_ofNat_of_zero_le hx
  obtain ⟨n, hn⟩ := Int.eq_ofNat_of_zero_le (a := (m : Int) % 1073741824) (by omega)
  rw [hn, fmS_n, fmS_n]
  unfold rowN
  have e : n / 4096 % 16 = m / 4096 % 16 := by omega
  rw [e]
  have h0 : bit n 0 = bit m 0 := bit_congr (by omega)
  have h1 : bit n 1 = bit m 1 := bit_congr (by omega)
  have h2 : bit n 2 = bit m 2 := bit_congr (by omega)
  have h3 : bit n 3 = bit m 3 := bit_congr (by omega)
  have h4 : bit n 4 = bit m 4 := bit_congr (by omega)
  have h5 : bit n 5 = bit m 5 := bit_congr (by omega)
  have h6 : bit n 6 = bit m 6 := bit_congr (by omega)
  have h7 : bit n 7 = bit m 7 := bit_congr (by omega)
  have h8 : bit n 8 = bit m 8 := bit_congr (by omega)
  have h9 : bit n 9 = bit m 9 := bit_congr (by omega)
  have h10 : bit n 10 = bit m 10 := bit_congr (by omega)
  have h11 : bit n 11 = bit m 11 := bit_congr (by omega)
  rw [h0, h1, h2, h3, h4, h5, h6, h7, h8, h9, h10, h11]
theorem can_bit (d : Int) (i k : Nat) (h : ([32, 16, 8, 4, 2, 1] : List Int).getD i 1 = 2 ^ k) : canB d i = bit d k := by
  unfold canB bit
  rw [h, Int.fmod_eq_emod_of_nonneg _ (by decide), Int.fdiv_eq_ediv_of_nonneg _ (Int.le_of_lt (Int.pow_pos (by decide)))]
  rfl
theorem mvS_fm {x d : Int} (hx : 0 ≤ x) (hd : 0 ≤ d ∧ d < 64) : mvS (fmS x) d = fmS (x * 64 + d) := by
  obtain ⟨n, rfl⟩ := Int.eq_ofNat_of_zero_le hx
  obtain ⟨m, hm⟩ := Int.eq_ofNat_of_zero_le (a := (n : Int) * 64 + d) (by omega)
  have k0 : canB d 0 = bit m 5 := (can_bit d 0 5 rfl).trans (bit_congr (by omega))
  have k1 : canB d 1 = bit m 4 := (can_bit d 1 4 rfl).trans (bit_congr (by omega))
  have k2 : canB d 2 = bit m 3 := (can_bit d 2 3 rfl).trans (bit_congr (by omega))
  have k3 : canB d 3 = bit m 2 := (can_bit d 3 2 rfl).trans (bit_congr (by omega))
  have k4 : canB d 4 = bit m 1 := (can_bit d 4 1 rfl).trans (bit_congr (by omega))
  have k5 : canB d 5 = bit m 0 := (can_bit d 5 0 rfl).trans (bit_congr (by omega))
  have h4 : isC (rowN n) 4 "r" = bit m 11 := (is_r _).trans (bit_congr (by omega))
  have h5 : isC (rowN n) 5 "w" = bit m 10 := (is_w _).trans (bit_congr (by omega))
  have h6 : inC (rowN n) 6 "xs" = bit m 9 := (in_xs _ _).trans (bit_congr (by omega))
  have h9 : inC (rowN n) 9 "xt" = bit m 6 := (in_xt _ _).trans (bit_congr (by omega))
  have i7 : Txt.item (rowN n) 7 = ⟨#[rc (bit m 8)]⟩ := by
    rw [← (bit_congr (by omega) : bit n 2 = bit m 8)]
    rfl
  have i8 : Txt.item (rowN n) 8 = ⟨#[wc (bit m 7)]⟩ := by
    rw [← (bit_congr (by omega) : bit n 1 = bit m 7)]
    rfl
  have hk : m / 4096 % 16 < 16 := Nat.mod_lt _ (by decide)
  have hK : bitsV (knBits (rowN n)) = ((m / 4096 % 16 : Nat) : Int) := by
    rw [kn_row, bits4]
    omega
  have hI : Txt.item (Str.ofString "?pc?d?b?-?l?s???") ((m / 4096 % 16 : Nat) : Int) = ⟨#[kc (m / 4096 % 16)]⟩ := kc_item ⟨_, hk⟩
  rw [hm, fmS_n, fmS_n]
  unfold mvS
  rw [k0, k1, k2, k3, k4, k5, h4, h5, h6, h9, i7, i8, hK, hI, if_rc, if_rc, if_wc, if_wc, run_xs, run_xs, run_xt]
  rfl
end Mine
end
section
namespace Mine
set_option maxRecDepth 100000
local macro_rules | `(tactic| walk_at "mine enter") => `(tactic| (refine wpAny_call ?_; k_dflt (refine' code_def ?k1 ?k2 ?k3 ?k4 ?k5 ?kA ?kF ?kK ?k6 ?k7 ?k8 ?k9 ?kB ?_ ?c2 ?c3 ?c4 ?c5; (case kA => exact rfl); (case kF => exact rfl); (case kK => assumption); (case k1 => k_asm); (case k2 => k_asm); (case k3 => k_asm); (case k4 => k_asm); (case k5 => k_asm); (case k6 => k_is); (case k7 => k_is); (case k8 => ktr_room); (case k9 => exact BindsTo.of_eq rfl); (case c5 => decide); (case kB => exact locs rfl); (case c2 => exact rfl); (case c3 => exact rfl); (case c4 => exact rfl); k_whole)))
local macro_rules | `(tactic| walk_at "eval Name") => `(tactic| (k_here; k_dflt (refine' ld ?k1 ?k2 ?_; (case k1 => k_asm); (case k2 => first | exact rfl | assumption); k_whole)))
theorem val_60 {ds : List Int} (hb : ∀ d ∈ ds, 0 ≤ d ∧ d < 64) (h10 : ds.length ≤ 10) : 0 ≤ val ds ∧ val ds < 2 ^ 60 := by
  have h := val_bound ds hb
  have h2 : (64 : Int) ^ ds.length ≤ 64 ^ 10 := by
    have := Nat.pow_le_pow_right (n := 64) (by decide) h10
    exact_mod_cast this
  have e : (64 : Int) ^ 10 = 2 ^ 60 := by decide
  rw [e] at h2
  exact ⟨h.1, Int.lt_of_lt_of_le h.2 h2⟩
theorem noPylong {a : Int} {j : Nat} (h : j ≤ 10) : Builtin.divisionGoesByPylong a (64 ^ j) = false := by
  have all : ∀ j : Fin 11, ((64 : Int) ^ j.val).natAbs.log2 < 9000 := by decide +kernel
  exact PyProof.noPylong_of_log2 (all ⟨j, by omega⟩)
abbrev riObj (i n : Nat) : Obj := { cls := .type "range_iterator", data := .fields #[rawInt (i : Int), rawInt ((n : Int) - (i : Int)), rawInt 1] }
theorem feed_range {prog : Program} {w : World} {A : Around} {h₀ : Heap} {L : Addr} {x : Str} {px : Pos} (hh : A.handled = none) (I : Addr) (n : Nat) :
    Feed prog w A h₀ L (.Name x px) (.ref I) n (fun i => [(I, riObj i n)]) [I] (fun i v ex => (∃ t, v = .int (i : Int) t) ∧ ex = []) where
  next := fun i s Q E m news hi F N hoff hQ => by
    have hne : ∀ p ∈ news, p.1 ≠ I := fun p hp e => hoff p hp (by simp [e])
    have hm := N _ (.head _)
    refine wpAny_pyNext_range_item hm.1 (by omega) fun h' hit hs => ⟨_, rfl, wpAny_pure ?_⟩
    refine hQ _ h' _ [] ⟨⟨_, rfl⟩, rfl⟩ (F.change hs hm.2.1 hm.2.2) (News.setIn (own := []) N (fun _ h => nomatch h) hne hs ?_)
    have e1 : ((i : Int) + 1) = ((i + 1 : Nat) : Int) := by omega
    have e2 : ((n : Int) - (i : Int) - 1) = (n : Int) - ((i + 1 : Nat) : Int) := by omega
    show h'.get? I = some { cls := .type "range_iterator", data := .fields #[rawInt ((i + 1 : Nat) : Int), rawInt ((n : Int) - ((i + 1 : Nat) : Int)), rawInt 1] }
    rw [← e2, ← e1]
    exact hit
  last := fun s Q E m news F N hoff hQ => by
    have hne : ∀ p ∈ news, p.1 ≠ I := fun p hp e => hoff p hp (by simp [e])
    refine wpAny_pyNext_range_end hh (N _ (.head _)).1 (by omega) fun h' hx => ?_
    obtain ⟨F', N'⟩ := end_keep F N hne hx
    exact hQ h' s.toks F' N'
/-- the octets that the law makes anew of the rows -/
def backOf (ds : List Int) (i : Nat) : List Int := (List.range i).map fun j => ds.getD j 0 + (if j + 1 < ds.length then 64 else 0)
def toldJ (ds : List Int) (t : Tok) (dl b : Addr) (news : List (Addr × Obj)) (i : Nat) (m : Str → Option Value) (nx : List (Addr × Obj)) : Prop :=
  ∃ ys c tr, IntsAre ys (backOf ds i) ∧ nx = (b, listOf ys.toArray c) :: news ∧ m (Str.ofString "number") = some (.int (val ds) t) ∧ m (Str.ofString "digits") = some (.ref dl) ∧ m (Str.ofString "back") = some (.ref b) ∧ m (Str.ofString "row") = some (.str (fmS (val (ds.take i))) tr)
theorem row0 : (some (.str (Str.ofString "?---------") t) : Option Value) = some (.str (fmS (val (List.take 0 ds))) t) := by
  have : fmS 0 = Str.ofString "?---------" := by decide +kernel
  rw [List.take_zero, show val [] = 0 from rfl, this]
theorem range_small {n : Nat} (h : n ≤ 10) : Builtin.Range.small 0 (n : Int) 1 = true ∧ Builtin.Range.rangeSize 0 (n : Int) 1 = (n : Int) := by
  have all : ∀ n : Fin 11, Builtin.Range.small 0 ((n.val : Nat) : Int) 1 = true ∧ Builtin.Range.rangeSize 0 ((n.val : Nat) : Int) 1 = ((n.val : Nat) : Int) := by decide +kernel
  exact all ⟨n, by omega⟩
/-- range(n), and its iterator -/
theorem call_range_iter {prog : Program} {w : World} {A : Around} {E : Value → Shared → Prop} {s : Shared} {h₀ : Heap} {L : Addr} {m : Str → Option Value} {news : List (Addr × Obj)} {n : Nat} {t : Tok} {Q : Value → Shared → Prop} (hn : n ≤ 10) (F : Fr h₀ L s.heap m) (N : News h₀ L s.heap news)
    (h : ∀ I h' tk, Fr h₀ L h' m → News h₀ L h' ((I, riObj 0 n) :: news) → (∀ q ∈ news, q.1 < I) → Q (.ref I) { s with heap := h', toks := tk }) :
    wpAny (model prog w) A (call (.type "range") [.int (n : Int) t]) (fun x s₁ => wpAny (model prog w) A (pyIter x) Q E s₁) E s := by
  obtain ⟨hs, hz⟩ := range_small hn
  refine call_range_1 ?_
  have F1 := F.push { cls := .type "range", data := .fields #[.int 0 s.toks, .int (n : Int) t, .int 1 (s.toks + 1)] }
  have N1 := N.push F { cls := .type "range", data := .fields #[.int 0 s.toks, .int (n : Int) t, .int 1 (s.toks + 1)] }
  refine wpAny_pyIter_range (N1 _ (.head _)).1 hs ?_
  rw [hz]
  have N2 := N1.push F1 (riObj 0 n)
  have e : riObj 0 n = { cls := .type "range_iterator", data := .fields #[rawInt 0, rawInt (n : Int), rawInt 1] } := by
    show ({ cls := .type "range_iterator", data := .fields #[rawInt ((0 : Nat) : Int), rawInt ((n : Int) - ((0 : Nat) : Int)), rawInt 1] } : Obj) = _
    rw [show ((n : Int) - ((0 : Nat) : Int)) = (n : Int) by omega]
    rfl
  rw [← e]
  refine h _ _ _ (F1.push _) (cb_drop N2 fun q hq => ?_) fun q hq => Heap.lt_size (N1 q (.tail _ hq)).1
  rcases List.mem_cons.mp hq with rfl | hq
  · exact .head _
  · exact .tail _ (.tail _ hq)
section
variable {prog : Program} {w : World} {A : Around} {E : Value → Shared → Prop} {s : Shared} {h₀ : Heap} {L : Addr} {m : Str → Option Value} {news : List (Addr × Obj)}
theorem slice_w {value slice : Expr} {l : Addr} {vs : List Value} {ns : List Int} {c k : Nat} {t : Tok} {Q : Value → Shared → Prop} (F : Fr h₀ L s.heap m) (N : News h₀ L s.heap news) (hl : (l, listOf vs.toArray c) ∈ news) (hI : IntsAre vs ns) (hk : k ≤ ns.length) (hz : ns.length ≤ 1000)
    (h : ∀ B ws h', Fr h₀ L h' m → News h₀ L h' ((B, listOf ws.toArray 0) :: news) → IntsAre ws (ns.take k) → Q (.ref B) { s with heap := h' })
    (hs : subscripted slice false (.ref l) (.ref s.heap.objs.size) = operate [.ref s.heap.objs.size, .ref l] (getItem (.ref l) (.ref s.heap.objs.size)) := by with_unfolding_all rfl)
    (ht : ∀ r, letTemporaryGo value (.ref l) r = pure () := by intro _; with_unfolding_all rfl) :
    wpAny (model prog w) A (subscriptTail value slice (.ref l) (.ref s.heap.objs.size)) Q E { s with heap := s.heap.push { cls := .type "slice", data := .fields #[.none, .int (k : Int) t, .none] } } := by
  have hlen := hI.length
  refine slice_list F N ⟨_, (N _ hl).1, rfl, _, rfl⟩ .none (.int _ _) (fun h' F' N' => ?_) hs ht (by rw [sizeLine_eq, List.size_toArray]; omega)
  exact h _ (slicePick vs.toArray none (some (k : Int)) none).toList h' F' N' (slice_ints_upto hI (by omega) (by omega))
theorem add_w {l b : Addr} {vs ws : List Value} {c c' : Nat} {ns ms : List Int} {Q : Value → Shared → Prop} (F : Fr h₀ L s.heap m) (N : News h₀ L s.heap news) (hl : (l, listOf vs.toArray c) ∈ news) (hb : (b, listOf ws.toArray c') ∈ news) (hi : IntsAre vs ns) (hj : IntsAre ws ms)
    (hz : ns.length + ms.length ≤ 1000) (h : ∀ B us h', Fr h₀ L h' m → News h₀ L h' ((B, listOf us.toArray 0) :: news) → IntsAre us (ns ++ ms) → Q (.ref B) { s with heap := h' }) :
    wpAny (model prog w) A (binaryOp .Add (.ref l) (.ref b)) Q E s :=
  add_lists_ints F N ⟨_, (N _ hl).1, rfl, _, rfl⟩ ⟨_, (N _ hb).1, rfl, _, rfl⟩ hi hj (fun h' F' N' hI => h _ _ h' F' N' hI) (by rw [sizeLine_eq]; omega)
end
theorem ifexp_joinI {M : Model} {A : Around} {E : Value → Shared → Prop} {s : Shared} {env : Env} {test : Expr} {x y : Int} {k1 k2 : Nat} {p1 p2 pos : Pos} {Q : Value → Shared → Prop} (c : Bool)
    (ht : wpAny M A (isTrue test env (eval test env)) (fun r s' => r = c ∧ ∃ tk, s' = { s with toks := tk }) E s)
    (h : ∀ t tk, Q (.int (if c then x else y) t) { s with toks := tk }) : wpAny M A (eval (.IfExp test (.Constant (.int x) k1 p1) (.Constant (.int y) k2 p2) pos) env) Q E s := by
  refine IfExp_ (wpAny_mono ht (fun r s' hr => ?_) fun _ _ e => e)
  obtain ⟨rfl, tk, rfl⟩ := hr
  cases r
  · exact wpAny_Constant_int (h _ _)
  · exact wpAny_Constant_int (h _ _)
theorem backOf_succ {ds : List Int} {i : Nat} {d : Int} (h : ds[i]? = some d) : backOf ds (i + 1) = backOf ds i ++ [d + if i + 1 < ds.length then 64 else 0] := by
  unfold backOf
  rw [List.range_succ, List.map_append]
  simp [List.getD_eq_getElem?_getD, h]
theorem backOf_range {ds : List Int} (hb : ∀ d ∈ ds, 0 ≤ d ∧ d < 64) : ∀ x ∈ backOf ds ds.length, 0 ≤ x ∧ x < 256 := by
  intro x hx
  simp only [backOf, List.mem_map, List.mem_range] at hx
  obtain ⟨j, hj, rfl⟩ := hx
  have h1 := hb ds[j] (List.getElem_mem hj)
  have e : ds.getD j 0 = ds[j] := by simp [List.getD_eq_getElem?_getD, hj]
  rw [e]
  split <;> omega
theorem rd_more : ∀ (l : List Int) (acc : Int) (d : Int), (∀ x ∈ l, 0 ≤ x ∧ x < 64) → 0 ≤ d ∧ d < 64 → rd acc (l.map (· + 64) ++ [d]) = some ((l ++ [d]).foldl (fun a d => a * 64 + d) acc, l.length + 1) := by
  intro l
  induction l with
  | nil =>
    intro acc d _ hd
    show rd acc [d] = _
    rw [rd, if_neg (by omega)]
    have : d % 64 = d := by omega
    rw [this]
    rfl
  | cons x r ih =>
    intro acc d h hd
    have hx := h x (.head _)
    show rd acc ((x + 64) :: (r.map (· + 64) ++ [d])) = _
    rw [rd, if_pos (by omega), ih _ _ (fun y hy => h y (.tail _ hy)) hd]
    have : (x + 64) % 64 = x := by omega
    rw [this]
    rfl
theorem rd_back {ds : List Int} (hb : ∀ d ∈ ds, 0 ≤ d ∧ d < 64) (h1 : 1 ≤ ds.length) : rd 0 (backOf ds ds.length) = some (val ds, ds.length) := by
  obtain ⟨l, d, rfl⟩ : ∃ l d, ds = l ++ [d] := ⟨ds.dropLast, ds.getLast (by intro e; rw [e] at h1; simp at h1), (List.dropLast_concat_getLast _).symm⟩
  have e : backOf (l ++ [d]) (l ++ [d]).length = l.map (· + 64) ++ [d] := by
    unfold backOf
    apply List.ext_getElem
    · simp
    · intro j h2 h3
      simp only [List.getElem_map, List.getElem_range, List.getD_eq_getElem?_getD]
      simp at h2
      by_cases hj : j < l.length
      · rw [if_pos (by simp; omega)]
        simp [List.getElem_append, hj, List.getElem?_append_left hj]
      · have : j = l.length := by omega
        subst this
        simp [List.getElem_append]
  rw [e, rd_more l 0 d (fun x hx => hb x (List.mem_append_left _ hx)) (hb d (List.mem_append_right _ (.head _)))]
  simp [val]
section
variable {prog : Program} {w : World} {A : Around} {E : Value → Shared → Prop} {s : Shared} {h₀ : Heap} {L : Addr} {m : Str → Option Value} {news : List (Addr × Obj)}
theorem li_iter {l : Addr} {items : Array Value} {c : Nat} {Q : Value → Shared → Prop} (F : Fr h₀ L s.heap m) (N : News h₀ L s.heap news) (hl : (l, listOf items c) ∈ news)
    (h : ∀ I h', Fr h₀ L h' m → News h₀ L h' ((I, liObj l 0) :: news) → (∀ q ∈ news, q.1 < I) → Q (.ref I) { s with heap := h' }) : wpAny (model prog w) A (call (.builtin "iter") [.ref l]) Q E s := by
  have pos : someArgs "iter" 1 2 ⟨[Value.ref l], []⟩ = pure [Value.ref l] := by kernel_rfl
  have gives : wpAny (model prog w) A.in1 (pyIter (.ref l)) (fun v s' => wpAny (model prog w) A.in1 (ret v) (fun fin s₁ => ∃ r, fin = .done (.ret r) ∧ Q r s₁) E s') E s :=
    wpAny_pyIter_list ⟨_, (N _ hl).1, rfl, _, rfl⟩ (wpAny_pure ⟨_, rfl, h _ _ (F.push _) (N.push F _) fun q hq => Heap.lt_size (N q hq).1⟩)
  exact call_function_entry (by decide +kernel) (by decide +kernel) kdk_entry_iter (kdk_args_iter _) (wpAny_bind (wpAny_of_eq pos (wpAny_bind gives)))
end
theorem ahead1 {ds : List Int} {i : Nat} {k : Int} (hb : ∀ d ∈ ds, 0 ≤ d ∧ d < 64) (hi : i ≤ ds.length) (hk : k = i + 1) : ([0, 0] ++ ds.take i : List Int).getD k.toNat 0 = val (ds.take i) % 64 := by
  subst hk
  cases i with
  | zero => rfl
  | succ j =>
    have h1 : j < ds.length := by omega
    have e : (([0, 0] ++ ds.take (j + 1) : List Int)).getD (((j + 1 : Nat) : Int) + 1).toNat 0 = ds[j] := by
      rw [show (((j + 1 : Nat) : Int) + 1).toNat = j + 2 by omega]
      simp [List.getD_eq_getElem?_getD, List.getElem?_take, h1]
    rw [e, List.take_succ_eq_append_getElem h1, val_snoc]
    have := hb ds[j] (List.getElem_mem h1)
    omega
theorem ahead2 {ds : List Int} {i : Nat} {k : Int} (hb : ∀ d ∈ ds, 0 ≤ d ∧ d < 64) (hi : i ≤ ds.length) (hk : k = i) : ([0, 0] ++ ds.take i : List Int).getD k.toNat 0 = val (ds.take i) / 64 % 64 := by
  subst hk
  cases i with
  | zero => rfl
  | succ i =>
    cases i with
    | zero =>
      have h1 : 0 < ds.length := by omega
      rw [List.take_succ_eq_append_getElem h1, val_snoc]
      have := hb ds[0] (List.getElem_mem h1)
      show (0 : Int) = _
      rw [List.take_zero, show val [] = 0 from rfl]
      omega
    | succ j =>
      have h1 : j < ds.length := by omega
      have h2 : j + 1 < ds.length := by omega
      have e : (([0, 0] ++ ds.take (j + 1 + 1) : List Int)).getD (((j + 1 + 1 : Nat) : Int)).toNat 0 = ds[j] := by
        rw [show (((j + 1 + 1 : Nat) : Int)).toNat = j + 2 by omega]
        simp [List.getD_eq_getElem?_getD, List.getElem?_take, h1, show j < j + 1 + 1 by omega]
      rw [e, List.take_succ_eq_append_getElem h2, List.take_succ_eq_append_getElem h1, val_snoc, val_snoc]
      have := hb ds[j] (List.getElem_mem h1)
      have := hb ds[j + 1] (List.getElem_mem h2)
      omega
set_option maxHeartbeats 8000000 in
theorem told (w : World) (ds : List Int) (vs : List Value) (c : Nat) (dl : Addr) (t : Tok) (news : List (Addr × Obj)) (hI : IntsAre vs ds) (h1 : 1 ≤ ds.length) (h10 : ds.length ≤ 10) (hb : ∀ d ∈ ds, 0 ≤ d ∧ d < 64)
  (hl : (dl, listOf vs.toArray c) ∈ news) : Says w 101 [.int (val ds) t, .ref dl] news 4 32 (fun r n => n = news ∧ r = .bool true) := by
  unfold Says
  k_fill
  intro mean mg mb dp un gd cn cs a ccd cl outer A₀ base h₀ L m s Q E B F X N T hk hd hu hret
  walk_at "mine enter"
  intro g L' h₁ FG F' N' B' X' T'
  dsimp only
  obtain ⟨m1, F1, hm1, hm2⟩ : ∃ m1, Fr g L' h₁ m1 ∧ m1 (Str.ofString "number") = some (.int (val ds) t) ∧ m1 (Str.ofString "digits") = some (.ref dl) := ⟨_, F', rfl, rfl⟩
  clear F'
  have hlen := hI.length
  have hL0 : h₁.IsList dl vs.toArray := ⟨_, (N' _ hl).1, rfl, _, rfl⟩
  have hvb := val_bound ds hb
  have hv60 := val_60 hb h10
  repeat walk1
  refine floordiv_int (Int.ne_of_gt (pow64_pos _)) ?_ (.inl (noPylong (by omega)))
  rw [Int.toNat_natCast, val_fdiv hb 0 ds.length (by omega), List.take_zero]
  iterate 3 walk1
  rw [if_neg (by decide)]
  iterate 10 walk1
  rename Fr g _ _ _ => F2
  rename News g _ _ _ => N2
  refine newList_K F2 N2 fun b h₃ F3 N3 hlt => ?_
  iterate 3 walk1
  rename Fr g _ _ _ => F4
  rename News g _ _ _ => N4
  have hL4 : Heap.IsList _ dl vs.toArray := ⟨_, (N4 _ (.tail _ hl)).1, rfl, _, rfl⟩
  refine For_gen ?_
  iterate 12 walk1
  refine call_range_iter h10 F4 N4 fun I h₅ tk₅ F5 N5 hltI => ?_
  refine for_gen (feed_range rfl I ds.length) (toldJ ds t dl b news) F5 N5 (off1 hltI) ⟨[], 0, _, .nil, rfl, hm1, hm2, rfl, row0⟩ ?step ?fin PassesOwn.leaving
  case step =>
    rintro i v extra m₁ news₁ h₁ tk₁ hi ⟨⟨ti, rfl⟩, rfl⟩ ⟨ys, cb, tr, hys, rfl, hn6, hd6, hb6, hr6⟩ hoff F6 N6
    simp only [List.cons_append, List.nil_append] at N6
    replace F6 : Fr g L' h₁ m₁ := F6
    replace N6 : News g L' h₁ _ := N6
    have hvl : (vs.toArray.size : Int) = ds.length := by simp [hlen]
    obtain ⟨c0, c1, c2, c3, c4, c5, c6, c7, c8, c9, hrow⟩ := fmS_row (val (ds.take i))
    rw [hrow] at hr6
    obtain ⟨d, hdi⟩ : ∃ d, ds[i]? = some d := ⟨_, List.getElem?_eq_getElem hi⟩
    obtain ⟨td, hvi⟩ := int_item hI hdi
    have hd64 := hb d (List.mem_of_getElem? hdi)
    have hx0 : 0 ≤ val (ds.take i) := (val_bound (ds.take i) fun x hx => hb x (List.mem_of_mem_take hx)).1
    have hxs : val (ds.take (i + 1)) = val (ds.take i) * 64 + d := by
      obtain ⟨h1, h2⟩ := List.getElem?_eq_some_iff.mp hdi
      rw [List.take_succ_eq_append_getElem h1, h2, val_snoc]
    have hmv : mvS (row10 c0 c1 c2 c3 c4 c5 c6 c7 c8 c9) d = fmS (val (ds.take (i + 1))) := by rw [← hrow, hxs]; exact mvS_fm hx0 hd64
    have hmem : (dl, listOf vs.toArray c) ∈ (I, riObj (i + 1) ds.length) :: (b, listOf ys.toArray cb) :: news := .tail _ (.tail _ hl)
    repeat walk1
    rename Fr g _ _ _ => F7
    rename News g _ _ _ => N7
    refine len_list ⟨_, (N7 _ hmem).1, rfl, _, rfl⟩ (by omega) ?_
    rw [hvl]
    iterate 4 walk1
    have hpw : ((ds.length : Int) - 1 - (i : Int)).toNat = ds.length - 1 - i := by omega
    refine pow_int_small (by omega) (by omega) (by decide) ?_
    rw [hpw]
    refine floordiv_int (Int.ne_of_gt (pow64_pos _)) ?_ (.inl (noPylong (by omega)))
    rw [val_fdiv hb (i + 1) (ds.length - 1 - i) (by omega)]
    iterate 4 walk1
    refine mod_int' (by decide) ?_
    rw [show (64 : Int) ^ Int.toNat 5 = 64 ^ 5 from rfl]
    dsimp only
    iterate 11 walk1
    rename Fr g _ _ _ => F8
    rename News g _ _ _ => N8
    refine newList_K F8 N8 fun la h₉ F9 N9 hlt9 => ?_
    iterate 7 walk1
    refine slice_w F9 N9 (.tail _ hmem) hI (k := i) (by omega) (by omega) fun lb ws h₁₀ F10 N10 hws => ?_
    refine add_w F10 N10 (.tail _ (.head _)) (.head _) (.cons 0 _ (.cons 0 _ .nil)) hws (by rw [List.length_take]; simp only [List.length_cons, List.length_nil]; omega) fun ah us h₁₁ F11 N11 hus => ?_
    replace N11 := cb_drop (news := (ah, listOf us.toArray 0) :: (I, riObj (i + 1) ds.length) :: (b, listOf ys.toArray cb) :: news) N11 (by
      intro q hq
      rcases List.mem_cons.mp hq with rfl | hq
      · exact .head _
      · exact .tail _ (.tail _ (.tail _ hq)))
    dsimp only
    repeat walk1
    have hmem2 : (dl, listOf vs.toArray c) ∈ (ah, listOf us.toArray 0) :: (I, riObj (i + 1) ds.length) :: (b, listOf ys.toArray cb) :: news := .tail _ hmem
    rename Fr g _ _ _ => F12
    rename News g _ _ _ => N12
    refine item_list (x := .int d td) ⟨_, (N12 _ hmem2).1, rfl, _, rfl⟩ (by omega) (by omega) (by simpa using hvi) ?_
    repeat walk1
    refine Says.use (moved w c0 c1 c2 c3 c4 c5 c6 c7 c8 c9 d _ _ _ hd64.1 hd64.2) (by assumption) (by assumption) (by assumption) (by assumption) (by assumption) rfl (by ktr_room) (by ktr_units) ?_
    rintro r nw h₁₃ tk₁₃ ⟨rfl, t₁₃, rfl⟩ F13 N13
    rw [hmv]
    have hx1 : 0 ≤ val (ds.take (i + 1)) := by rw [hxs]; omega
    repeat walk1
    refine Says.use (fmode w _ _ _) (by assumption) (by assumption) (by assumption) (by assumption) (by assumption) rfl (by ktr_room) (by ktr_units) ?_
    rintro r nw h₁₄ tk₁₄ ⟨rfl, t₁₄, rfl⟩ F14 N14
    rw [fmS_mod hx1]
    iterate 3 walk1
    rw [if_neg (by simp)]
    repeat walk1
    refine Says.use (imode w _ _ _) (by assumption) (by assumption) (by assumption) (by assumption) (by assumption) rfl (by ktr_room) (by ktr_units) ?_
    rintro r nw h₁₅ tk₁₅ ⟨rfl, t₁₅, rfl⟩ F15 N15
    rw [imode_mod hx1]
    have huL := hus.length
    have hul : (([0, 0] ++ ds.take i : List Int).length : Int) = i + 2 := by
      rw [List.length_append, List.length_take]
      simp only [List.length_cons, List.length_nil]
      omega
    have hsu : h₁₅.IsList ah us.toArray := ⟨_, (N15 _ (.head _)).1, rfl, _, rfl⟩
    iterate 8 walk1
    refine item_list_ints_neg hsu hus (by omega) (by omega) (by omega) fun t₁₆ => ?_
    rw [ahead1 hb (by omega) (by omega)]
    iterate 4 walk1
    refine item_list (x := .int d td) ⟨_, (N15 _ hmem2).1, rfl, _, rfl⟩ (by omega) (by omega) (by simpa using hvi) ?_
    iterate 3 walk1
    rw [if_neg (by
      have e : val (ds.take (i + 1)) % 4096 = 64 * (val (ds.take i) % 64) + d := by rw [hxs]; omega
      simp [e])]
    clear hsu
    repeat walk1
    refine Says.use (ifmt w _ _ _) (by assumption) (by assumption) (by assumption) (by assumption) (by assumption) rfl (by ktr_room) (by ktr_units) ?_
    rintro r nw h₁₇ tk₁₇ ⟨rfl, t₁₇, rfl⟩ F17 N17
    rw [ifmt_mod hx1]
    have hsu7 : h₁₇.IsList ah us.toArray := ⟨_, (N17 _ (.head _)).1, rfl, _, rfl⟩
    iterate 8 walk1
    refine item_list_ints_neg hsu7 hus (by omega) (by omega) (by omega) fun t₁₈ => ?_
    rw [ahead2 hb (by omega) (by omega)]
    iterate 5 walk1
    rw [if_neg (by
      have e : val (ds.take (i + 1)) / 4096 % 16 = (val (ds.take i) / 64 % 64).fmod 16 := by
        rw [Int.fmod_eq_emod_of_nonneg _ (by decide), hxs]
        omega
      simp [e])]
    clear hsu7
    replace N17 := cb_drop (news := (I, riObj (i + 1) ds.length) :: (b, listOf ys.toArray cb) :: news) N17 fun q hq => .tail _ hq
    obtain ⟨e0, e1, e2, e3, e4, e5, e6, e7, e8, e9, hrow1⟩ := fmS_row (val (ds.take (i + 1)))
    repeat walk1
    rw [hrow1]
    refine Says.use (lastdig w e0 e1 e2 e3 e4 e5 e6 e7 e8 e9 _ _) (by assumption) (by assumption) (by assumption) (by assumption) (by assumption) rfl (by ktr_room) (by ktr_units) ?_
    rintro r nw h₁₉ tk₁₉ ⟨rfl, t₁₉, rfl⟩ F19 N19
    rw [← hrow1, ld_fm hx1, show val (ds.take (i + 1)) % 64 = d by rw [hxs]; omega]
    refine ifexp_joinI (decide ((i : Int) + 1 < ds.length)) ?_ fun ta tka => ?_
    · repeat walk1
      refine len_list ⟨_, (N19 _ hmem).1, rfl, _, rfl⟩ (by omega) ?_
      rw [hvl]
      repeat walk1
    iterate 2 walk1
    have hIb : I ≠ b := fun e => hoff (b, listOf ys.toArray cb) (.head _) (List.mem_singleton.mpr e.symm)
    refine append_K F19 N19 (.tail hIb (.head fun q hq => Nat.ne_of_lt (hlt q hq))) (fun h₂₀ F20 N20 => ?_) (by
      have h1 := hys.length
      rw [sizeLine_eq, List.size_toArray, h1]
      simp only [backOf, List.length_map, List.length_range]
      omega)
    refine wpAny_execs_nil ?_
    refine FStep.go F20 N20 (news' := (b, listOf (ys.toArray.push (.int (d + if decide ((i : Int) + 1 < ds.length) = true then 64 else 0) tka)) (cb + 1)) :: news) ?_ ?_ ?_
    · exact fun q hq => hq
    · intro q hq
      rcases List.mem_cons.mp hq with rfl | hq
      · exact hoff (b, listOf ys.toArray cb) (.head _)
      · exact hoff q (.tail _ hq)
    · refine ⟨ys ++ [.int (d + if decide ((i : Int) + 1 < ds.length) = true then 64 else 0) tka], cb + 1, _, ?_, by simp, hn6, hd6, hb6, rfl⟩
      rw [backOf_succ hdi]
      have e : (if decide ((i : Int) + 1 < ds.length) = true then (64 : Int) else 0) = if i + 1 < ds.length then 64 else 0 := by
        by_cases h : i + 1 < ds.length
        · rw [if_pos h, if_pos (by simp; omega)]
        · rw [if_neg h, if_neg (by simp; omega)]
      rw [e]
      exact hys.append (.cons _ _ .nil)
  case fin =>
    rintro m₁ news₁ h₁ tk₁ ⟨ys, cb, tr, hys, rfl, hn6, hd6, hb6, hr6⟩ hoff F6 N6
    replace F6 : Fr g L' h₁ m₁ := F6
    replace N6 : News g L' h₁ _ := N6
    repeat walk1
    refine li_iter F6 N6 (.head _) fun it h₂₁ F21 N21 hlt21 => ?_
    repeat walk1
    refine parse w (backOf ds ds.length) ys cb b it 0 ((b, listOf ys.toArray cb) :: news) hys (by simp [backOf]; omega) (backOf_range hb) (fun q hq => Nat.ne_of_lt (hlt21 q hq)) (.head _) _ _ _ _ _ _ _ _ _ _ _ _ _ _ _ _ _ _ _ _
      (by assumption) F21 (by assumption) N21 (by assumption) rfl (by ktr_room) (by ktr_units) ?_ ?_
    · intro v k t₂₂ h₂₂ tk₂₂ hrd F22 N22
      rw [List.drop_zero, rd_back hb h1] at hrd
      cases hrd
      repeat walk1
      rename Fr h₀ L _ _ => kF
      rename News h₀ L _ _ => kN
      exact hret _ _ _ _ ⟨rfl, by simp⟩ kF fun q hq => kN q (.tail _ (.tail _ hq))
    · intro e g₂ h₂₂ tk₂₂ i₂ hrd
      rw [List.drop_zero, rd_back hb h1] at hrd
      cases hrd
end Mine
end
namespace Mine
def octs (ns : List Int) : List Int := [111, 37] ++ (ns.take 8).map fun a => (a * 89).fmod 256
theorem octs_range (ns : List Int) : ∀ b ∈ octs ns, 0 ≤ b ∧ b < 256 := by
  intro b hb
  rcases List.mem_append.mp hb with h | h
  · simp only [List.mem_cons, List.not_mem_nil, or_false] at h
    omega
  · obtain ⟨a, _, rfl⟩ := List.mem_map.mp h
    rw [Int.fmod_eq_emod_of_nonneg _ (by decide)]
    omega
theorem octs_len (ns : List Int) : (octs ns).length ≤ 10 := by
  simp only [octs, List.length_append, List.length_map, List.length_take, List.length_cons, List.length_nil]
  omega
theorem carried_octs {ys : List Value} {ns : List Int} (h : CarriedAll ys (List.map (fun a => PyData.int ((a * 89).fmod 256)) (List.filter (fun _ => true) (List.take 8 ns)))) : IntsAre ys ((ns.take 8).map fun a => (a * 89).fmod 256) := by
  refine IntsAre.ofCarried ?_
  rw [List.map_map]
  rw [List.filter_eq_self.mpr (by intro _ _; rfl)] at h
  exact h
theorem add_w2 {prog : Program} {w : World} {A : Around} {E : Value → Shared → Prop} {s : Shared} {h₀ : Heap} {L : Addr} {m : Str → Option Value} {news : List (Addr × Obj)} {l b : Addr} {vs ws : List Value} {ns ms : List Int} {Q : Value → Shared → Prop} (F : Fr h₀ L s.heap m) (N : News h₀ L s.heap news) (hl : s.heap.IsList l vs.toArray) (hb : s.heap.IsList b ws.toArray) (hi : IntsAre vs ns) (hj : IntsAre ws ms)
    (hz : ns.length + ms.length ≤ 1000) (h : ∀ B us h', Fr h₀ L h' m → News h₀ L h' ((B, listOf us.toArray 0) :: news) → IntsAre us (ns ++ ms) → Q (.ref B) { s with heap := h' }) :
    wpAny (model prog w) A (binaryOp .Add (.ref l) (.ref b)) Q E s :=
  add_lists_ints F N hl hb hi hj (fun h' F' N' hI => h _ _ h' F' N' hI) (by rw [sizeLine_eq]; omega)
/-- between the turns of the law's loop -/
def lawJ (os : List Int) (us : List Value) (ol it : Addr) (i : Nat) (m : Str → Option Value) (nx : List (Addr × Obj)) : Prop :=
  ∃ p dl vd cd, nx = [(it, liObj ol p), (dl, listOf vd.toArray cd), (ol, listOf us.toArray 0)] ∧ (it ≠ dl ∧ it ≠ ol ∧ dl ≠ ol) ∧ p ≤ i ∧ m (Str.ofString "left") = some (.ref it) ∧ m (Str.ofString "digits") = some (.ref dl) ∧
    IntsAre vd (((os.take i).drop p).map (· % 64)) ∧ ∀ b ∈ (os.take i).drop p, b / 64 % 2 = 1
theorem drop_succ {os : List Int} {i p : Nat} {o : Int} (h : os[i]? = some o) (hp : p ≤ i) : (os.take (i + 1)).drop p = (os.take i).drop p ++ [o] := by
  obtain ⟨h1, h2⟩ := List.getElem?_eq_some_iff.mp h
  rw [List.take_succ_eq_append_getElem h1, h2, List.drop_append_of_le_length (by rw [List.length_take]; omega)]
theorem iter_w {prog : Program} {w : World} {A : Around} {E : Value → Shared → Prop} {s : Shared} {h₀ : Heap} {L : Addr} {m : Str → Option Value} {news : List (Addr × Obj)} {l : Addr} {items : Array Value} {c : Nat} {Q : Value → Shared → Prop} (F : Fr h₀ L s.heap m) (N : News h₀ L s.heap news) (hl : (l, W.listOf items c) ∈ news)
    (h : ∀ I h', Fr h₀ L h' m → News h₀ L h' ((I, liObj l 0) :: news) → (∀ q ∈ news, q.1 < I) → Q (.ref I) { s with heap := h' }) : wpAny (model prog w) A (pyIter (.ref l)) Q E s :=
  wpAny_pyIter_list ⟨_, (N _ hl).1, rfl, _, rfl⟩ (h _ _ (F.push _) (N.push F _) fun q hq => Heap.lt_size (N q hq).1)
theorem rd_oct : ∀ (l : List Int) (acc b : Int) (r : List Int), (∀ x ∈ l, x / 64 % 2 = 1) → b / 64 % 2 = 0 → rd acc (l ++ b :: r) = some (((l ++ [b]).map (· % 64)).foldl (fun a d => a * 64 + d) acc, l.length + 1) := by
  intro l
  induction l with
  | nil =>
    intro acc b r _ hb
    show rd acc (b :: r) = _
    rw [rd, if_neg (by omega)]
    rfl
  | cons x t ih =>
    intro acc b r h hb
    show rd acc (x :: (t ++ b :: r)) = _
    rw [rd, if_pos (h x (.head _)), ih _ _ _ (fun y hy => h y (.tail _ hy)) hb]
    rfl
theorem rd_none : ∀ (l : List Int) (acc : Int), (∀ x ∈ l, x / 64 % 2 = 1) → rd acc l = none := by
  intro l
  induction l with
  | nil => intro _ _; rfl
  | cons x t ih =>
    intro acc h
    rw [rd, if_pos (h x (.head _)), ih _ fun y hy => h y (.tail _ hy)]
    rfl
theorem rd_os {os : List Int} {i p : Nat} {o : Int} (h : os[i]? = some o) (hp : p ≤ i) (hbs : ∀ b ∈ (os.take i).drop p, b / 64 % 2 = 1) (hz : o / 64 % 2 = 0) : rd 0 (os.drop p) = some (val (((os.take (i + 1)).drop p).map (· % 64)), i + 1 - p) := by
  obtain ⟨h1, h2⟩ := List.getElem?_eq_some_iff.mp h
  have e : os.drop p = (os.take i).drop p ++ o :: os.drop (i + 1) := by
    have e1 : os = os.take i ++ o :: os.drop (i + 1) := by rw [← h2, ← List.drop_eq_getElem_cons h1, List.take_append_drop]
    have e2 : os.drop p = (os.take i ++ o :: os.drop (i + 1)).drop p := by rw [← e1]
    rw [e2, List.drop_append_of_le_length (by rw [List.length_take]; omega)]
  rw [e, rd_oct _ _ _ _ hbs hz, drop_succ h hp]
  have e3 : ((os.take i).drop p).length + 1 = i + 1 - p := by
    rw [List.length_drop, List.length_take]
    omega
  rw [e3]
  rfl
theorem mod64_range (l : List Int) : ∀ d ∈ l.map (· % 64), 0 ≤ d ∧ d < 64 := by
  intro d hd
  obtain ⟨x, _, rfl⟩ := List.mem_map.mp hd
  omega
theorem Fr.here {h₀ h : Heap} {L : Addr} {m : Str → Option Value} (F : Fr h₀ L h m) : Fr h₀ L h m := F
theorem feed_own2 {prog : Program} {w : World} {A : Around} {h₀ : Heap} {L : Addr} {target : Expr} (hh : A.handled = none) (I t : Addr) (items : Array Value) (c : Nat) (hIt : t ≠ I) :
    Feed prog w A h₀ L target (.ref I) items.size (fun i => [(I, liObj t i), (t, listOf items c)]) [I] (fun i v ex => items[i]? = some v ∧ ex = []) where
  next := fun i s Q E m news hi F N hoff hQ => by
    have hne : ∀ p ∈ (t, listOf items c) :: news, p.1 ≠ I := fun p hp e => by
      rcases List.mem_cons.mp hp with rfl | hp
      · exact hIt e
      · exact hoff p hp (by simp [e])
    refine li_pyNext N F hne ⟨_, (N _ (.tail _ (.head _))).1, rfl, _, rfl⟩ (Array.getElem?_eq_getElem hi) fun h' F' N' => ⟨_, rfl, ?_⟩
    exact go_other (N' _ (.head _)).1 (.inl rfl) (hQ _ h' s.toks [] ⟨Array.getElem?_eq_getElem hi, rfl⟩ F' N')
  last := fun s Q E m news F N hoff hQ => by
    have hne : ∀ p ∈ (t, listOf items c) :: news, p.1 ≠ I := fun p hp e => by
      rcases List.mem_cons.mp hp with rfl | hp
      · exact hIt e
      · exact hoff p hp (by simp [e])
    have ho := (N _ (.head _)).1
    refine wpAny_pyNext_list_end hh ⟨_, ho, rfl, rfl⟩ ⟨_, (N _ (.tail _ (.head _))).1, rfl, _, rfl⟩ (Array.getElem?_eq_none (Nat.le_refl _)) fun h' hx => ?_
    obtain ⟨F', N'⟩ := end_keep F N hne hx
    exact hQ h' s.toks F' fun p hp => N' p (.tail _ hp)
end Mine
local macro_rules | `(tactic| walk_at "eval Name") => `(tactic| (k_here; k_dflt (refine' ld ?k1 ?k2 ?_; (case k1 => k_asm); (case k2 => first | exact rfl | assumption); k_whole)))
set_option maxRecDepth 100000 in
set_option maxHeartbeats 8000000 in
theorem PySem.Challenge.cw_oc0033_01_holds : PySem.Challenge.rw_oc0033_01.Holds := by
  refine Mine.hd ?_
  k_go0
  rename Fr _ _ _ _ => F0
  rename Frag.In _ _ => KX
  rename Top _ _ _ _ _ _ => T0
  rename Below _ _ _ _ => B0
  repeat walk1
  rename CarriedAll _ _ => hC
  rename Heap.IsList _ _ _ => hLD
  rename Fr _ _ _ _ => F1
  rename News _ _ _ _ => N1
  refine Mine.add_w2 F1 N1 ⟨_, (N1 _ (.tail _ (.head _))).1, rfl, _, rfl⟩ hLD (.cons 111 _ (.cons 37 _ .nil)) (Mine.carried_octs hC) (by rw [List.length_map, List.length_take]; simp only [List.length_cons, List.length_nil]; omega) (fun ol us h₂ F2 N2 hus => ?_)
  replace N2 := cb_drop (news := [(ol, W.listOf us.toArray 0)]) N2 (fun q hq => by rw [List.mem_singleton.mp hq]; exact .head _)
  obtain ⟨os, hO, hor, hol⟩ : ∃ os, IntsAre us os ∧ (∀ b ∈ os, 0 ≤ b ∧ b < 256) ∧ os.length ≤ 10 := ⟨Mine.octs _, hus, Mine.octs_range _, Mine.octs_len _⟩
  clear hus
  obtain ⟨m1, F3⟩ : ∃ m1, Fr _ _ h₂ m1 := ⟨_, F2⟩
  clear F1 N1 F2 hC hLD
  dsimp only
  repeat walk1
  rename Fr _ _ _ _ => F4
  rename News _ _ _ _ => N4
  refine Mine.li_iter F4 N4 (.head _) fun it h₅ F5 N5 hlt5 => ?_
  iterate 5 walk1
  rename Fr _ _ _ _ => F6
  rename News _ _ _ _ => N6
  refine newList_K F6 N6 fun dl h₇ F7 N7 hlt7 => ?_
  iterate 3 walk1
  rename Fr _ _ _ _ => F8
  rename News _ _ _ _ => N8
  refine Mine.For_gen ?_
  iterate 1 walk1
  refine Mine.iter_w F8 N8 (.tail _ (.tail _ (.head _))) fun I h₉ F9 N9 hltI => ?_
  have hlI := hltI _ (.tail _ (.tail _ (.head _)))
  have htI := hltI _ (.tail _ (.head _))
  have hdI := hltI _ (.head _)
  have hlt1 := hlt5 _ (.head _)
  have hlt2 := hlt7 _ (.head _)
  have hlt3 := hlt7 _ (.tail _ (.head _))
  refine Mine.for_gen (Mine.feed_own2 rfl I ol us.toArray 0 (Nat.ne_of_lt hlI)) (Mine.lawJ os us ol it) F9 (cb_drop N9 ?sub) ?hoff ⟨0, dl, [], 0, rfl, ⟨Nat.ne_of_lt hlt2, Nat.ne_of_gt hlt1, Nat.ne_of_gt hlt3⟩, Nat.le_refl _, rfl, rfl, .nil, ?b0⟩ ?step ?fin PassesOwn.leaving
  case sub =>
    intro q hq
    simp only [List.cons_append, List.nil_append, List.mem_cons, List.not_mem_nil, or_false] at hq ⊢
    rcases hq with h | h | h | h | h <;> simp [h]
  case hoff =>
    intro q hq hI
    simp only [List.mem_cons, List.not_mem_nil, or_false] at hq hI
    rcases hq with rfl | rfl | rfl
    · exact Nat.ne_of_lt htI hI
    · exact Nat.ne_of_lt hdI hI
    · exact Nat.ne_of_lt hlI hI
  case b0 =>
    intro b hb
    simp at hb
  case step =>
    rintro i v extra m₁ news₁ h₁ tk₁ hi ⟨hv, rfl⟩ ⟨p, dl, vd, cd, rfl, ⟨hid, hito, hdlo⟩, hp, hml, hmd, hvd, hbs⟩ hoff F10 N10
    simp only [List.cons_append, List.nil_append] at N10
    replace F10 := Mine.Fr.here F10
    have huL := hO.length
    have hin : i < os.length := by rw [← huL]; simpa using hi
    obtain ⟨o, hoi⟩ : ∃ o, os[i]? = some o := ⟨_, List.getElem?_eq_getElem hin⟩
    obtain ⟨to, hui⟩ := Mine.int_item hO hoi
    have hvo : v = .int o to := by
      have h1 : us[i]? = some v := by simpa using hv
      rw [h1] at hui
      exact Option.some.inj hui
    subst hvo
    repeat walk1
    rename Fr _ _ _ _ => F11
    rename News _ _ _ _ => N11
    have hdl := hoff (dl, W.listOf vd.toArray cd) (.tail _ (.head _))
    have hitl := hoff (it, Mine.liObj ol p) (.head _)
    have holI := hoff (ol, W.listOf us.toArray 0) (.tail _ (.tail _ (.head _)))
    simp only [List.mem_cons, List.not_mem_nil, or_false] at hdl hitl holI
    replace hdl := And.intro hdl hdlo
    replace hitl := And.intro hitl hito
    have hb0 := hor o (List.mem_of_getElem? hoi)
    have hdr := Mine.drop_succ hoi hp
    refine append_K F11 N11 (.tail (Ne.symm hdl.1) (.tail (Ne.symm hdl.2) (.tail hid (.head fun q h => by rw [List.mem_singleton.mp h]; exact Ne.symm hdlo)))) (fun h₁₂ F12 N12 => ?_) (by
      have h1 := hvd.length
      simp only [List.length_map, List.length_drop, List.length_take] at h1
      rw [sizeLine_eq, List.size_toArray]
      omega)
    have hvd2 : ∀ tt, IntsAre (vd ++ [.int (o.fmod 64) tt]) (((os.take (i + 1)).drop p).map (· % 64)) := by
      intro tt
      rw [hdr, List.map_append, Int.fmod_eq_emod_of_nonneg _ (by decide)]
      exact hvd.append (.cons _ _ .nil)
    obtain ⟨vd2, N12', hvd3⟩ : ∃ vd2 : List Value, News _ _ h₁₂ [(I, Mine.liObj ol (i + 1)), (ol, W.listOf us.toArray 0), (it, Mine.liObj ol p), (dl, W.listOf vd2.toArray (cd + 1)), (ol, W.listOf us.toArray 0)] ∧ IntsAre vd2 (((os.take (i + 1)).drop p).map (· % 64)) := by
      rw [List.push_toArray] at N12
      exact ⟨_, N12, hvd2 _⟩
    replace N12' := cb_drop (news := [(I, Mine.liObj ol (i + 1)), (ol, W.listOf us.toArray 0), (it, Mine.liObj ol p), (dl, W.listOf vd2.toArray (cd + 1))]) N12' (by
      intro q hq
      simp only [List.mem_cons, List.not_mem_nil, or_false] at hq ⊢
      rcases hq with h | h | h | h <;> simp [h])
    clear N12 hvd2 hvd
    iterate 13 walk1
    have hbit : ((o.fdiv 64).fmod 2 == 0) = decide (o / 64 % 2 = 0) := by
      rw [Int.fmod_eq_emod_of_nonneg _ (by decide), Int.fdiv_eq_ediv_of_nonneg _ (by decide)]
      rfl
    rw [hbit]
    by_cases hz : o / 64 % 2 = 0
    · rw [if_pos (by simpa using hz)]
      iterate 16 walk1
      have N13 := cb_drop (news := (it, Mine.liObj ol p) :: [(I, Mine.liObj ol (i + 1)), (ol, W.listOf us.toArray 0), (dl, W.listOf vd2.toArray (cd + 1))]) N12' (by
        intro q hq
        simp only [List.mem_cons, List.not_mem_nil, or_false] at hq ⊢
        rcases hq with h | h | h | h <;> simp [h])
      refine Mine.parse _ os us 0 ol it p _ hO (by omega) hor ?_ (.tail _ (.head _)) _ _ _ _ _ _ _ _ _ _ _ _ _ _ _ _ _ _ _ _ (by assumption) F12 (by assumption) N13 (by assumption) rfl (by ktr_room) (by ktr_units) ?_ ?_
      · intro q hq
        simp only [List.mem_cons, List.not_mem_nil, or_false] at hq
        rcases hq with rfl | rfl | rfl
        · exact Ne.symm hitl.1
        · exact Ne.symm hitl.2
        · exact Ne.symm hid
      · intro n k tn h₁₄ tk₁₄ hrd F14 N14
        rw [Mine.rd_os hoi hp hbs hz] at hrd
        cases hrd
        have hdlen : (((os.take (i + 1)).drop p).map (· % 64)).length = i + 1 - p := by
          rw [List.length_map, List.length_drop, List.length_take]
          omega
        iterate 4 walk1
        refine Mine.Says.use (Mine.told _ _ _ (cd + 1) dl _ _ hvd3 (by omega) (by omega) (Mine.mod64_range _) (.tail _ (.tail _ (.tail _ (.head _))))) (by assumption) F14 (by assumption) N14 (by assumption) rfl (by ktr_room) (by ktr_units) ?_
        rintro r nw h₁₅ tk₁₅ ⟨rfl, rfl⟩ F15 N15
        iterate 7 walk1
        refine newList_K F15 N15 fun dl2 h₁₆ F16 N16 hlt16 => ?_
        repeat walk1
        rename Fr _ _ _ _ => F17
        rename News _ _ _ _ => N17
        have e1 : p + (i + 1 - p) = i + 1 := by omega
        rw [e1] at N17 hlt16
        have g1 := hlt16 _ (.head _)
        have g2 := hlt16 _ (.tail _ (.head _))
        have g3 := hlt16 _ (.tail _ (.tail _ (.head _)))
        refine Mine.FStep.go F17 N17 (news' := [(it, Mine.liObj ol (i + 1)), (dl2, W.listOf #[] 0), (ol, W.listOf us.toArray 0)]) ?_ ?_ ⟨i + 1, dl2, [], 0, rfl, ⟨Nat.ne_of_lt g1, hito, Nat.ne_of_gt g3⟩, Nat.le_refl _, hml, rfl, ?_, ?_⟩
        · intro q hq
          simp only [List.cons_append, List.nil_append, List.mem_cons, List.not_mem_nil, or_false] at hq ⊢
          rcases hq with h | h | h | h | h <;> simp [h]
        · intro q hq
          simp only [List.mem_cons, List.not_mem_nil, or_false] at hq ⊢
          rcases hq with rfl | rfl | rfl
          · exact hitl.1
          · exact Nat.ne_of_gt g2
          · exact holI
        · rw [List.drop_eq_nil_of_le (by rw [List.length_take]; omega)]
          exact .nil
        · rw [List.drop_eq_nil_of_le (by rw [List.length_take]; omega)]
          exact fun _ h => nomatch h
      · intro e g₂ h₁₄ tk₁₄ i₂ hrd
        rw [Mine.rd_os hoi hp hbs hz] at hrd
        cases hrd
    · rw [if_neg (by simpa using hz)]
      repeat walk1
      refine Mine.FStep.go F12 N12' (news' := [(it, Mine.liObj ol p), (dl, W.listOf vd2.toArray (cd + 1)), (ol, W.listOf us.toArray 0)]) ?_ ?_ ⟨p, dl, vd2, cd + 1, rfl, ⟨hid, hito, hdlo⟩, by omega, hml, hmd, hvd3, ?_⟩
      · intro q hq
        simp only [List.cons_append, List.nil_append, List.mem_cons, List.not_mem_nil, or_false] at hq ⊢
        rcases hq with h | h | h | h | h <;> simp [h]
      · intro q hq
        simp only [List.mem_cons, List.not_mem_nil, or_false] at hq ⊢
        rcases hq with rfl | rfl | rfl
        · exact hitl.1
        · exact hdl.1
        · exact holI
      · intro b hb
        rw [hdr] at hb
        rcases List.mem_append.mp hb with h | h
        · exact hbs b h
        · rw [List.mem_singleton.mp h]
          omega
  case fin =>
    rintro m₁ news₁ h₁ tk₁ ⟨p, dl, vd, cd, rfl, ⟨hid, hito, hdlo⟩, hp, hml, hmd, hvd, hbs⟩ hoff F10 N10
    have huL := hO.length
    rw [List.size_toArray, huL, List.take_length] at hbs
    iterate 12 walk1
    have N13 := cb_drop (news := (it, Mine.liObj ol p) :: [(ol, W.listOf us.toArray 0)]) N10 (by
      intro q hq
      simp only [List.mem_cons, List.not_mem_nil, or_false] at hq ⊢
      rcases hq with h | h <;> simp [h])
    refine Mine.parse _ os us 0 ol it p _ hO (by omega) hor ?_ (.head _) _ _ _ _ _ _ _ _ _ _ _ _ _ _ _ _ _ _ _ _ (by assumption) F10 (by assumption) N13 (by assumption) rfl ?hd ?hu ?_ ?_
    case hd => ktr_room
    case hu => ktr_units
    · intro q hq
      rw [List.mem_singleton.mp hq]
      exact Ne.symm hito
    · intro n k tn h₁₄ tk₁₄ hrd F14 N14
      rw [Mine.rd_none _ _ hbs] at hrd
      cases hrd
    · intro e g₂ h₁₄ tk₁₄ i₂ hrd F14 R14 U14
      refine caught_N0 (T' := "StopIteration") (by assumption) F14 U14 R14 (by k_asm) PyProof.Rows.Boot.«StopIteration» (by rw [isSubtype_type]; kernel_rfl) (by rw [isSubtype_type]; kernel_rfl) (by rw [isSubtype_type]; kernel_rfl) ?_
      intro h₁₅ F15 N15
      repeat walk1
      dsimp only
      wrow_close
